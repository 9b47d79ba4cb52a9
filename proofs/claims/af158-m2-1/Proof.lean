import JvmDerived
import JvmDerived.Pilot.@@N@@Statement
import JvmDerived.Pilot.@@N@@Code
set_option linter.unusedVariables false
set_option linter.unusedSimpArgs false
/-! the layer of this seat's own: a walk that ends well (Goes), contracts (MET), calls by them -/
namespace Jvm.RoadKit
open Sem ClassFile Op Lib Jvm.Stand Jvm.Free Jvm.LawKit
section OwnLayer
variable {p : Program} {l : Launch} {e : Env} {R : Room} {s : State} {m : MethodId} {args : Array Value} {below : List Frame} {meth : Method} {c : Code} {T : State} {locs : List Loc} {cells slots : Nat} {Z : State} {a0 : Array Value} {h : Heap} {kc ks n0 : Nat} {Q : Option Value → Heap → Prop} {A B : State}
/-- from S the run comes to the end of this invocation, and Q holds there -/
def Goes (p : Program) (e : Env) (below : List Frame) (s : State) (kc ks n0 : Nat) (Q : Option Value → Heap → Prop) (S : State) : Prop :=
  ∃ s₂ o, Steps p.tables e below S s₂ ∧ s₂.status = .running ∧ Ended s₂ below o ∧ ∃ v L, o = .returned v ∧ (Q v s₂.heap ∧ Fr n0 L) ∧ FrameEnd s o s₂ L kc ks
theorem Goes.via (h : ∀ t, Steps p.tables e below B t → Steps p.tables e below A t) (g : Goes p e below s kc ks n0 Q B) : Goes p e below s kc ks n0 Q A := by
  obtain ⟨s₂, o, h1, h2⟩ := g
  exact ⟨s₂, o, h _ h1, h2⟩
theorem Goes.fin (X : Stand p l e R s m args below meth c T locs cells slots) {v : Option Value} {g : JFrame} (hv : meth.sig.returnType = none → v = none) (hlk : meth.locks = false) (N : Fr n0 locs) (hc : cells ≤ kc) (hs : slots ≤ ks) (hq : Q v T.heap)
    (hr : ∀ fs, (∀ (f : JFrame) (acts : List Action), f.method = m → f.locked = none → f.entered = [] → (doReturn e (T.setTop f) acts v).1 = T.setFrames fs) → Steps p.tables e below (T.setTop g) (T.setFrames fs)) : Goes p e below s kc ks n0 Q (T.setTop g) := by
  obtain ⟨fs, hr', hrun, hended, hW, hsame⟩ := X.leave hv hlk
  exact ⟨_, _, hr fs hr', hrun, hended, _, _, rfl, ⟨hq, N⟩, ⟨_, rfl⟩, hW, hsame.mono hc hs⟩
theorem goRetN (X : Stand p l e R s m args below meth c T locs cells slots) (hx : p.tables.exec = Jvm.exec) {t : FieldType} (hrt : meth.sig.returnType = some t) (ht : t = .boolean ∨ t = .byte ∨ t = .char ∨ t = .short) (hlk : meth.locks = false) (N : Fr n0 locs) (hc : cells ≤ kc) (hs : slots ≤ ks)
    {pc : Nat} {Ls : Array Slot} {z : Int32} {rest : List Value} (hd : decode c.code pc = .ok (.ireturn, 1)) (hq : Q (some (.int (nar t z))) T.heap) : Goes p e below s kc ks n0 Q (T.setTop (mkF m pc Ls (.int z :: rest))) :=
  Goes.fin X (fun q => by rw [hrt] at q; cases q) hlk N hc hs hq fun fs hr => retN X hx (t := t) hrt ht hd hr
theorem goRetO (X : Stand p l e R s m args below meth c T locs cells slots) (hx : p.tables.exec = Jvm.exec) {t : FieldType} (hrt : meth.sig.returnType = some t) (hlk : meth.locks = false) (N : Fr n0 locs) (hc : cells ≤ kc) (hs : slots ≤ ks)
    {pc : Nat} {Ls : Array Slot} {w : Value} {i : Instr} {rest : List Value} (hn : narrow t w = w)
    (hi : (i = .ireturn ∧ (t = .int ∨ t = .boolean ∨ t = .byte ∨ t = .char ∨ t = .short) ∧ ∃ z, w = .int z) ∨ (i = .lreturn ∧ t = .long ∧ ∃ z, w = .long z) ∨ (i = .dreturn ∧ t = .double ∧ ∃ z, w = .double z) ∨ (i = .freturn ∧ t = .float ∧ ∃ z, w = .float z) ∨ (i = .areturn ∧ t.isReference = true ∧ w.isRef = true))
    (hd : decode c.code pc = .ok (i, 1)) (hq : Q (some w) T.heap) : Goes p e below s kc ks n0 Q (T.setTop (mkF m pc Ls (w :: rest))) :=
  Goes.fin X (fun q => by rw [hrt] at q; cases q) hlk N hc hs hq fun fs hr => retOut X hx hrt hn hi hd hr
theorem goRetI (X : Stand p l e R s m args below meth c T locs cells slots) (hx : p.tables.exec = Jvm.exec) (hrt : meth.sig.returnType = some .int) (hlk : meth.locks = false) (N : Fr n0 locs) (hc : cells ≤ kc) (hs : slots ≤ ks)
    {pc : Nat} {Ls : Array Slot} {z : Int32} {rest : List Value} (hd : decode c.code pc = .ok (.ireturn, 1)) (hq : Q (some (.int z)) T.heap) : Goes p e below s kc ks n0 Q (T.setTop (mkF m pc Ls (.int z :: rest))) :=
  goRetO X hx hrt hlk N hc hs rfl (Or.inl ⟨rfl, Or.inl rfl, _, rfl⟩) hd hq
theorem goRetJ (X : Stand p l e R s m args below meth c T locs cells slots) (hx : p.tables.exec = Jvm.exec) (hrt : meth.sig.returnType = some .long) (hlk : meth.locks = false) (N : Fr n0 locs) (hc : cells ≤ kc) (hs : slots ≤ ks)
    {pc : Nat} {Ls : Array Slot} {z : Int64} {rest : List Value} (hd : decode c.code pc = .ok (.lreturn, 1)) (hq : Q (some (.long z)) T.heap) : Goes p e below s kc ks n0 Q (T.setTop (mkF m pc Ls (.long z :: rest))) :=
  goRetO X hx hrt hlk N hc hs rfl (Or.inr (Or.inl ⟨rfl, rfl, _, rfl⟩)) hd hq
theorem goRetA (X : Stand p l e R s m args below meth c T locs cells slots) (hx : p.tables.exec = Jvm.exec) {t : FieldType} (hrt : meth.sig.returnType = some t) (ht : t.isReference = true) (hlk : meth.locks = false) (N : Fr n0 locs) (hc : cells ≤ kc) (hs : slots ≤ ks)
    {pc : Nat} {Ls : Array Slot} {w : Value} {rest : List Value} (hw : w.isRef = true) (hd : decode c.code pc = .ok (.areturn, 1)) (hq : Q (some w) T.heap) : Goes p e below s kc ks n0 Q (T.setTop (mkF m pc Ls (w :: rest))) :=
  goRetO X hx hrt hlk N hc hs (by cases t <;> cases w <;> first | rfl | (cases ht; done) | (cases hw; done)) (Or.inr (Or.inr (Or.inr (Or.inr ⟨rfl, ht, hw⟩)))) hd hq
theorem goRetV (X : Stand p l e R s m args below meth c T locs cells slots) (hx : p.tables.exec = Jvm.exec) (hrt : meth.sig.returnType = none) (hlk : meth.locks = false) (N : Fr n0 locs) (hc : cells ≤ kc) (hs : slots ≤ ks)
    {pc : Nat} {Ls : Array Slot} (hd : decode c.code pc = .ok (.return_, 1)) (hq : Q none T.heap) : Goes p e below s kc ks n0 Q (T.setTop (mkF m pc Ls [])) :=
  Goes.fin X (fun _ => rfl) hlk N hc hs hq fun fs hr => X.returnOut hx hrt hd hr
/-- a contract: from a heap h0, with these arguments, the invocation returns and Q holds of what it returned and of the heap -/
abbrev MET (l : Launch) (Z : State) (y : MethodName) (bytes : ByteArray) (maxL : Nat) (ret : Option FieldType) (rm : Room) (as' : Array Value) (h0 : Heap) (n0 : Nat) (Q : Option Value → Heap → Prop) : Prop :=
  ∀ ws : List Jvm.Cond, MetFree l y (head1 (Jvm.Cond.code y bytes maxL ret :: ws) rm) (fun a U => a = as' ∧ Z.Warmed39 U.vm ∧ U.heap = h0) (fun _ _ _ _ _ => True) (fun _ U o U' => ∃ v L, o = .returned v ∧ (Q v U'.heap ∧ Fr n0 L) ∧ FrameEnd U o U' L rm.cells rm.slots)
theorem metOf {y : MethodName} {bytes : ByteArray} {maxL : Nat} {ret : Option FieldType} {rm : Room} {as' : Array Value} {h0 : Heap} (hpf : plainFor y = true)
    (body : ∀ (p : Program) (e : Env) (s : State) (m : MethodId) (below : List Frame) (meth : Method) (c : Code) (T : State), p.tables.exec = Jvm.exec → c.code = bytes → c.maxLocals = maxL → meth.sig.returnType = ret → meth.locks = false → meth.name = y.name → Z.Warmed39 s.vm → s.vm.findClass y.cls = some m.cls →
      Stand p l e rm s m as' below meth c T [] 0 0 → T.heap = h0 → Goes p e below s rm.cells rm.slots n0 Q (T.setTop (entryFrame m as' maxL))) : MET l Z y bytes maxL ret rm as' h0 n0 Q := by
  intro ws
  refine MetFree.of_bodySF hpf hisR ?_
  intro p e s m args below meth c s₁ Bd hml0 hP hK
  obtain ⟨rfl, hZ, hh⟩ := hP
  exact body p e s m below meth c s₁ Bd.exec Bd.bytes hml0 Bd.returns Bd.notSynchronized (name_of_methodNamed Bd.named Bd.method).1 hZ (findClass_of_methodNamed Bd.named) (Stand.of_body Bd) (by rw [← hh, Bd.state]; rfl)
theorem goCast {g g' : JFrame} (q : g = g') (k : Goes p e below s kc ks n0 Q (T.setTop g')) : Goes p e below s kc ks n0 Q (T.setTop g) := q ▸ k
theorem iincZ {tb : Tables} [Ours tb] {target : State} {g : JFrame} (h : At T m c below) (hx : tb.exec = Jvm.exec) (hg : g.method = m) {k : Nat} {cst : Int} {x : Int32} {l' : Array Slot} (z : Int32) (hd : decode c.code g.pc = .ok (.iinc k cst, 3)) (hz : x + Int32.ofInt cst = z) (hl : g.locals[k]? = some (.val (.int x))) (hl' : storeLocals g.locals k (.int z) = some l')
    (hr : Steps tb e below (T.setTop { g with pc := g.pc + 3, locals := l' }) target) : Steps tb e below (T.setTop g) target := XS.iinc h hx hg hd hl (hz ▸ hl') hr
theorem all_getD {P : Value → Prop} {d : Value} (hd : P d) : ∀ (vs : List Value) (i : Nat), (∀ v ∈ vs, P v) → P (vs.getD i d)
  | [], i, _ => by simpa using hd
  | v :: vs, 0, q => by simpa using q v (List.mem_cons_self ..)
  | v :: vs, i + 1, q => by simpa using all_getD hd vs i fun w hw => q w (List.mem_cons_of_mem _ hw)
/-! calls by a contract -/
section Calls
variable {own C : String} {index : Nat} {y z : MethodName} {bytes : ByteArray} {maxL : Nat} {ret : Option FieldType} {rm : Room} {as' : Array Value} {Qc : Option Value → Heap → Prop} {W : Nat} {g : JFrame} {argsL rest : List Value} {a : Addr}
theorem callSt (X : Stand p l e R s m args below meth c T locs cells slots) (hx : p.tables.exec = Jvm.exec) (hZ : Z.Warmed39 s.vm) (hown : s.vm.findClass own = some m.cls) (hM : MET l Z y bytes maxL ret rm as' h n0 Qc) (w1 : (Jvm.Cond.methodLink own index y).before a0 Z = true) (w2 : (Jvm.Cond.static y).before a0 Z = true) (w3 : (Jvm.Cond.initialized y.cls).before a0 Z = true) (w4 : (Jvm.Cond.code y bytes maxL ret).before a0 Z = true)
    (hy : y.cls ≠ "java/lang/invoke/MethodHandle" ∧ y.cls ≠ "java/lang/invoke/VarHandle") (eT : T.heap = h) (hf : rm.frames + 1 ≤ R.frames) (hl : W + (maxL + 11) + rm.locals ≤ R.locals) (hc : cells + rm.cells ≤ R.cells) (hsl : slots + rm.slots ≤ R.slots)
    (hg : g.method = m) (hsize : g.locals.size = c.maxLocals) (ha : argsL.toArray = as') (hlen : ∀ sig, parseMethodDescriptor y.desc = some sig → argsL.length = sig.parameters.length) (hs : g.stack = argsL.reverse ++ rest) (hW : 2 * g.monitorRoom + (rest.map fun v => v.category).sum ≤ W) (hd : decode c.code g.pc = .ok (.invokestatic index, 3)) :
    ∃ (v : Option Value) (T' : State) (L : List Loc), Stand p l e R s m args below meth c T' (locs ++ L) (cells + rm.cells) (slots + rm.slots) ∧ Qc v T'.heap ∧ Fr n0 L ∧ ∀ t, Steps p.tables e below (T'.setTop { g with pc := g.pc + 3, stack := v.toList ++ rest }) t → Steps p.tables e below (T.setTop g) t := by
  obtain ⟨v, _, ⟨T', L', k', n'⟩, -, X', ⟨Lc, ⟨hq, hn⟩, e1, e2, e3⟩, st⟩ := Jvm.LawKit.callS X hx (y := y) hown (mvT hZ w1) (mvT hZ w2) (mvT hZ w3) (mvT hZ w4) hy (backOf (W := W) (Q := fun v h L => Qc v h ∧ Fr n0 L) (hM []) hZ w4 w3 hf hl) hg hsize hlen hs hW hd (fun _ _ => ⟨ha, eT, hc, hsl⟩)
  dsimp only [Pt.U, Pt.locs, Pt.cells, Pt.slots] at X' e1 e2 e3 st hq
  subst e1 e2 e3
  exact ⟨v, T', Lc, X', hq, hn, st⟩
theorem callSp (X : Stand p l e R s m args below meth c T locs cells slots) (hx : p.tables.exec = Jvm.exec) (hZ : Z.Warmed39 s.vm) (hown : s.vm.findClass own = some m.cls) (hM : MET l Z y bytes maxL none rm as' h n0 Qc) (hin : y.name = "<init>") (w1 : (Jvm.Cond.methodLink own index y).before a0 Z = true) (w2 : (Jvm.Cond.instanceMethod y).before a0 Z = true) (w3 : (Jvm.Cond.initialized y.cls).before a0 Z = true) (w4 : (Jvm.Cond.code y bytes maxL none).before a0 Z = true)
    (hy : y.cls ≠ "java/lang/invoke/MethodHandle" ∧ y.cls ≠ "java/lang/invoke/VarHandle") (eT : T.heap = h) (hf : rm.frames + 1 ≤ R.frames) (hl : W + (maxL + 11) + rm.locals ≤ R.locals) (hc : cells + rm.cells ≤ R.cells) (hsl : slots + rm.slots ≤ R.slots)
    (hg : g.method = m) (hsize : g.locals.size = c.maxLocals) (ha : (Value.ref a :: argsL).toArray = as') (hlen : ∀ sig, parseMethodDescriptor y.desc = some sig → argsL.length = sig.parameters.length) (hs : g.stack = argsL.reverse ++ .ref a :: rest) (hW : 2 * g.monitorRoom + (rest.map fun v => v.category).sum ≤ W) (hd : decode c.code g.pc = .ok (.invokespecial index, 3)) :
    ∃ (v : Option Value) (T' : State) (L : List Loc), Stand p l e R s m args below meth c T' (locs ++ L) (cells + rm.cells) (slots + rm.slots) ∧ Qc v T'.heap ∧ Fr n0 L ∧ ∀ t, Steps p.tables e below (T'.setTop { g with pc := g.pc + 3, stack := v.toList ++ rest }) t → Steps p.tables e below (T.setTop g) t := by
  obtain ⟨v, _, ⟨T', L', k', n'⟩, -, X', ⟨Lc, ⟨hq, hn⟩, e1, e2, e3⟩, st⟩ := X.specialBack hx (y := y) hin hown (mvT hZ w1) (mvT hZ w2) (mvT hZ w4) hy (backOf (W := W) (Q := fun v h L => Qc v h ∧ Fr n0 L) (hM []) hZ w4 w3 hf hl) hg hsize (Steps.refl _) (a := a) (argsL := argsL) (rest := rest) hlen hs hW hd (fun _ _ => ⟨ha, eT, hc, hsl⟩)
  dsimp only [Pt.U, Pt.locs, Pt.cells, Pt.slots] at X' e1 e2 e3 st hq
  subst e1 e2 e3
  exact ⟨v, T', Lc, X', hq, hn, fun t k => st.trans k⟩
theorem callVi (X : Stand p l e R s m args below meth c T locs cells slots) (hx : p.tables.exec = Jvm.exec) (hZ : Z.Warmed39 s.vm) (hown : s.vm.findClass own = some m.cls) (hM : MET l Z z bytes maxL ret rm as' h n0 Qc) (w1 : (Jvm.Cond.methodLink own index y).before a0 Z = true) (w2 : (Jvm.Cond.declares y).before a0 Z = true) (nf : NotFace s y) (w5 : (Jvm.Cond.selects C y z).before a0 Z = true) (w6 : (Jvm.Cond.instanceMethod z).before a0 Z = true) (w3 : (Jvm.Cond.initialized z.cls).before a0 Z = true) (w4 : (Jvm.Cond.code z bytes maxL ret).before a0 Z = true)
    (hy : y.cls ≠ "java/lang/invoke/MethodHandle" ∧ y.cls ≠ "java/lang/invoke/VarHandle") (eT : T.heap = h) (E : Exa Z h a C) (hf : rm.frames + 1 ≤ R.frames) (hl : W + (maxL + 11) + rm.locals ≤ R.locals) (hc : cells + rm.cells ≤ R.cells) (hsl : slots + rm.slots ≤ R.slots)
    (hg : g.method = m) (hsize : g.locals.size = c.maxLocals) (ha : (Value.ref a :: argsL).toArray = as') (hlen : ∀ sig, parseMethodDescriptor y.desc = some sig → argsL.length = sig.parameters.length) (hs : g.stack = argsL.reverse ++ .ref a :: rest) (hW : 2 * g.monitorRoom + (rest.map fun v => v.category).sum ≤ W) (hd : decode c.code g.pc = .ok (.invokevirtual index, 3)) :
    ∃ (v : Option Value) (T' : State) (L : List Loc), Stand p l e R s m args below meth c T' (locs ++ L) (cells + rm.cells) (slots + rm.slots) ∧ Qc v T'.heap ∧ Fr n0 L ∧ ∀ t, Steps p.tables e below (T'.setTop { g with pc := g.pc + 3, stack := v.toList ++ rest }) t → Steps p.tables e below (T.setTop g) t := by
  obtain ⟨cq, kq, qa, qb, qc⟩ := isOf hZ eT E
  obtain ⟨v, _, ⟨T', L', k', n'⟩, -, X', ⟨Lc, ⟨hq, hn⟩, e1, e2, e3⟩, st⟩ := X.virtualBack hx (y := y) (z := z) hown (mvT hZ w1) (mvT hZ w2) nf (mvT hZ w5) (mvT hZ w6) hy (backOf (W := W) (Q := fun v h L => Qc v h ∧ Fr n0 L) (hM []) hZ w4 w3 hf hl) qa qc hg hsize (Steps.refl _) (argsL := argsL) (rest := rest) hlen hs hW hd (fun _ _ => ⟨ha, eT, hc, hsl⟩)
  dsimp only [Pt.U, Pt.locs, Pt.cells, Pt.slots] at X' e1 e2 e3 st hq
  subst e1 e2 e3
  exact ⟨v, T', Lc, X', hq, hn, fun t k => st.trans k⟩
theorem callUp {owner : String} (X : Stand p l e R s m args below meth c T locs cells slots) (hx : p.tables.exec = Jvm.exec) (hZ : Z.Warmed39 s.vm) (hown : s.vm.findClass own = some m.cls) (hM : MET l Z z bytes maxL ret rm as' h n0 Qc) (w1 : (Jvm.Cond.methodLink own index y).before a0 Z = true) (w7 : (Jvm.Cond.sameMethod y.cls owner y.name y.desc).before a0 Z = true) (w2 : (Jvm.Cond.declares ⟨owner, y.name, y.desc⟩).before a0 Z = true) (w5 : (Jvm.Cond.selects C y z).before a0 Z = true) (w6 : (Jvm.Cond.instanceMethod z).before a0 Z = true) (w3 : (Jvm.Cond.initialized z.cls).before a0 Z = true) (w4 : (Jvm.Cond.code z bytes maxL ret).before a0 Z = true)
    (hy : owner ≠ "java/lang/invoke/MethodHandle" ∧ owner ≠ "java/lang/invoke/VarHandle") (eT : T.heap = h) (E : Exa Z h a C) (hf : rm.frames + 1 ≤ R.frames) (hl : W + (maxL + 11) + rm.locals ≤ R.locals) (hc : cells + rm.cells ≤ R.cells) (hsl : slots + rm.slots ≤ R.slots)
    (hg : g.method = m) (hsize : g.locals.size = c.maxLocals) (ha : (Value.ref a :: argsL).toArray = as') (hlen : ∀ sig, parseMethodDescriptor y.desc = some sig → argsL.length = sig.parameters.length) (hs : g.stack = argsL.reverse ++ .ref a :: rest) (hW : 2 * g.monitorRoom + (rest.map fun v => v.category).sum ≤ W) (hd : decode c.code g.pc = .ok (.invokevirtual index, 3)) :
    ∃ (v : Option Value) (T' : State) (L : List Loc), Stand p l e R s m args below meth c T' (locs ++ L) (cells + rm.cells) (slots + rm.slots) ∧ Qc v T'.heap ∧ Fr n0 L ∧ ∀ t, Steps p.tables e below (T'.setTop { g with pc := g.pc + 3, stack := v.toList ++ rest }) t → Steps p.tables e below (T.setTop g) t := by
  obtain ⟨cq, kq, qa, qb, qc⟩ := isOf hZ eT E
  obtain ⟨v, _, ⟨T', L', k', n'⟩, -, X', ⟨Lc, ⟨hq, hn⟩, e1, e2, e3⟩, st⟩ := X.virtualBackUp hx (x := y) (y := z) hown (mvT hZ w1) (mvT hZ w7) (mvT hZ w2) hy (mvT hZ w5) (mvT hZ w6) (backOf (W := W) (Q := fun v h L => Qc v h ∧ Fr n0 L) (hM []) hZ w4 w3 hf hl) qa qc hg hsize (Steps.refl _) (argsL := argsL) (rest := rest) hlen hs hW hd (fun _ _ => ⟨ha, eT, hc, hsl⟩)
  dsimp only [Pt.U, Pt.locs, Pt.cells, Pt.slots] at X' e1 e2 e3 st hq
  subst e1 e2 e3
  exact ⟨v, T', Lc, X', hq, hn, fun t k => st.trans k⟩
theorem callIf {count : Nat} (X : Stand p l e R s m args below meth c T locs cells slots) (hx : p.tables.exec = Jvm.exec) (hZ : Z.Warmed39 s.vm) (hown : s.vm.findClass own = some m.cls) (hM : MET l Z z bytes maxL ret rm as' h n0 Qc) (w1 : (Jvm.Cond.methodLink own index y).before a0 Z = true) (w2 : (Jvm.Cond.declares y).before a0 Z = true) (w7 : ∀ s' : State, Z.Warmed39 s'.vm → (Jvm.Cond.interfaceMethod y.cls y.cls y.name y.desc).before args s' = true) (w5 : (Jvm.Cond.selects C y z).before a0 Z = true) (w6 : (Jvm.Cond.instanceMethod z).before a0 Z = true) (w8 : (Jvm.Cond.publicMethod z).before a0 Z = true) (w9 : (Jvm.Cond.unhidden C y.name y.desc).before a0 Z = true) (w10 : (Jvm.Cond.castable C y.cls).before a0 Z = true) (w3 : (Jvm.Cond.initialized z.cls).before a0 Z = true) (w4 : (Jvm.Cond.code z bytes maxL ret).before a0 Z = true)
    (hy : y.cls ≠ "java/lang/invoke/MethodHandle" ∧ y.cls ≠ "java/lang/invoke/VarHandle") (eT : T.heap = h) (E : Exa Z h a C) (hf : rm.frames + 1 ≤ R.frames) (hl : W + (maxL + 11) + rm.locals ≤ R.locals) (hc : cells + rm.cells ≤ R.cells) (hsl : slots + rm.slots ≤ R.slots)
    (hg : g.method = m) (hsize : g.locals.size = c.maxLocals) (ha : (Value.ref a :: argsL).toArray = as') (hlen : ∀ sig, parseMethodDescriptor y.desc = some sig → argsL.length = sig.parameters.length) (hs : g.stack = argsL.reverse ++ .ref a :: rest) (hW : 2 * g.monitorRoom + (rest.map fun v => v.category).sum ≤ W) (hd : decode c.code g.pc = .ok (.invokeinterface index count, 5)) :
    ∃ (v : Option Value) (T' : State) (L : List Loc), Stand p l e R s m args below meth c T' (locs ++ L) (cells + rm.cells) (slots + rm.slots) ∧ Qc v T'.heap ∧ Fr n0 L ∧ ∀ t, Steps p.tables e below (T'.setTop { g with pc := g.pc + 5, stack := v.toList ++ rest }) t → Steps p.tables e below (T.setTop g) t := by
  obtain ⟨cq, kq, qa, qb, qc⟩ := isOf hZ eT E
  obtain ⟨v, _, ⟨T', L', k', n'⟩, -, X', ⟨Lc, ⟨hq, hn⟩, e1, e2, e3⟩, st⟩ := X.interfaceBack hx (xi := y) (y := z) hown (mvT hZ w1) (mvT hZ w2) (w7 s hZ) (mvT hZ w5) (mvT hZ w6) (mvT hZ w8) (mvT hZ w9) (mvT hZ w10) hy (backOf (W := W) (Q := fun v h L => Qc v h ∧ Fr n0 L) (hM []) hZ w4 w3 hf hl) qa qb qc hg hsize (Steps.refl _) (argsL := argsL) (rest := rest) hlen hs hW hd (fun _ _ => ⟨ha, eT, hc, hsl⟩)
  dsimp only [Pt.U, Pt.locs, Pt.cells, Pt.slots] at X' e1 e2 e3 st hq
  subst e1 e2 e3
  exact ⟨v, T', Lc, X', hq, hn, fun t k => st.trans k⟩
end Calls
end OwnLayer
end Jvm.RoadKit

/-! facts of the start, out of the sheet's words -/
namespace Jvm.RoadKit
open Sem ClassFile Op Lib Jvm.Stand Jvm.Free Jvm.LawKit
section OwnStart
variable {Z : State} {args : Array Value} {t : Term} {a : Addr} {c : Cell} {ty : FieldType} {n : Int32} {dv : Value} {n0 : Nat} {h h' : Heap} {ws : List Addr}
theorem Old.le (X : Old Z n0 h) : n0 ≤ h.size := X.1 ▸ X.2.1
theorem len_start (ev : t.eval args Z none [] Z = some (.ref a)) (A : Arr Z Z.heap a c ty) (hl : (Jvm.Cond.eq (.length t) (.int n)).value args Z none Z [] = some true) : c.slots.size < 2 ^ 31 ∧ c.slots.size.toInt32 = n := by
  have ha : Z.arrayAt? a = some c := A.fin (Vm.Alike.refl _)
  by_cases q : c.slots.size < 2 ^ 31
  · exact ⟨q, gotT (Cond.eq_ints (len_f ev ha q) (Term.int_eval n)) hl⟩
  · simp [Cond.value, Term.eval, ev, ha, q] at hl
theorem arv_start (hf : Fit Z) (ev : t.eval args Z none [] Z = some (.ref a)) (A : Arr Z Z.heap a c ty) (hl : (Jvm.Cond.eq (.length t) (.int n)).value args Z none Z [] = some true) : Arv Z Z.heap a c.cls ty n c.slots.toList dv := by
  obtain ⟨q1, q2⟩ := len_start ev A hl
  have hz : ¬ n < 0 := by
    rw [← q2, Int32.lt_iff_toInt_lt, len_toInt q1]
    have : (0 : Int32).toInt = 0 := by decide
    omega
  have hs : c.slots.size = n.toNatClampNeg := by
    have := len_toInt q1
    rw [q2] at this
    rw [Int32.toNatClampNeg, this]; rfl
  have g : ∀ i, i < c.slots.size → c.slots[i]? = some (c.slots.toList.getD i dv) := fun i hi => by
    simp [hi]
  refine ⟨c, A, rfl, hs, hz, g, fun i hi => ?_⟩
  have hj : ¬ ((Int32.ofNat i) < 0 ∨ c.slots.size ≤ (Int32.ofNat i).toNatClampNeg) := idx_in hi q1
  obtain ⟨v, e1, e2⟩ := elem_fit hf A hj
  have e3 : (Int32.ofNat i).toNatClampNeg = i := by
    have := len_toInt (n := i) (by omega)
    rw [Int32.toNatClampNeg, show (Int32.ofNat i).toInt = (i : Int) from this]; rfl
  rw [e3, g i hi] at e1
  cases e1
  exact e2
theorem eq_int {u : Term} {o : Option Outcome} {first : State} {idx : List Nat} (hl : (Jvm.Cond.eq u (.int n)).value args first o Z idx = some true) : u.eval args first o idx Z = some (.int n) := by
  obtain ⟨x, y, e1, e2, k1, k2⟩ := cmp_v (Or.inl hl)
  have e3 : Term.eval args first o idx Z (.int n) = some (.int n) := rfl
  cases (e3.symm.trans e2)
  obtain ⟨z, rfl⟩ := k2
  have q := gotT (Cond.eq_ints e1 e2) hl
  rw [e1, q]
theorem eq_long {n : Int64} {u : Term} {o : Option Outcome} {first : State} {idx : List Nat} (hl : (Jvm.Cond.eq u (.long n)).value args first o Z idx = some true) : u.eval args first o idx Z = some (.long n) := by
  obtain ⟨x, y, e1, e2, k1, k2⟩ := cmp_v (Or.inl hl)
  have e3 : Term.eval args first o idx Z (.long n) = some (.long n) := rfl
  cases (e3.symm.trans e2)
  obtain ⟨z, rfl⟩ := k2
  have q := gotT (eq_L e1 e2) hl
  rw [e1, q]
theorem eq_ref {x : Addr} {u w : Term} {o : Option Outcome} {first : State} {idx : List Nat} (hl : (Jvm.Cond.eq u w).value args first o Z idx = some true) (hw : w.eval args first o idx Z = some (.ref x)) : u.eval args first o idx Z = some (.ref x) := by
  obtain ⟨v, y, e1, e2, k1, k2⟩ := cmp_v (Or.inl hl)
  cases (hw.symm.trans e2)
  have q := gotT (eq_R e1 e2 k2.2 rfl) hl
  rw [e1, q]
theorem ins_keep {C : String} (F : Ins Z h a C true) (K : Keep h h' ws) : Ins Z h' a C true := by
  obtain ⟨cell, cT, h1, h2, h3⟩ := F
  obtain ⟨c', e1, e2, e3, -⟩ := K.2.2 a cell h1
  exact ⟨c', cT, e1, h2, by rw [e2, e3]; exact h3⟩
theorem arr_keep (F : Arr Z h a c ty) (K : Keep h h' ws) (q : a ∉ ws) : Arr Z h' a c ty := ⟨K.2.1 a c F.1 q, F.2⟩
end OwnStart
end Jvm.RoadKit

namespace Jvm.Pilot.@@N@@
open Jvm Jvm.ClassFile Sem Op Lib Jvm.Free Jvm.Stand Jvm.LawKit Jvm.RoadKit Bundle Jvm.Pilot.@@N@@.Jvm.D
theorem W_0 {Z : State} {aw : Array Value} (hw : ∀ d ∈ tables_1, d.before aw Z = true) : (Jvm.Cond.constant "com/example/proper_parcel/properparcel/validate/document/MetadataSectionIsAdministrativePinLaw" (7 : Nat) (2147483647 : Int32)).before aw Z = true := hw _ (List.mem_of_getElem? (i := 0) rfl)
theorem W_1 {Z : State} {aw : Array Value} (hw : ∀ d ∈ tables_1, d.before aw Z = true) : (Jvm.Cond.fieldLink "com/example/proper_parcel/properparcel/validate/document/MetadataSectionIsAdministrativePinLaw" (8 : Nat) "com/example/proper_parcel/properparcel/validate/document/MetadataSection" "DESCRIPTIVE" "Lcom/example/proper_parcel/properparcel/validate/document/MetadataSection;").before aw Z = true := hw _ (List.mem_of_getElem? (i := 1) rfl)
theorem W_2 {Z : State} {aw : Array Value} (hw : ∀ d ∈ tables_1, d.before aw Z = true) : (Jvm.Cond.initialized "com/example/proper_parcel/properparcel/validate/document/MetadataSection").before aw Z = true := hw _ (List.mem_of_getElem? (i := 2) rfl)
theorem W_3 {Z : State} {aw : Array Value} (hw : ∀ d ∈ tables_1, d.before aw Z = true) : (Jvm.Cond.laysStatic "com/example/proper_parcel/properparcel/validate/document/MetadataSection" "DESCRIPTIVE" "Lcom/example/proper_parcel/properparcel/validate/document/MetadataSection;").before aw Z = true := hw _ (List.mem_of_getElem? (i := 3) rfl)
theorem W_4 {Z : State} {aw : Array Value} (hw : ∀ d ∈ tables_1, d.before aw Z = true) : (Jvm.Cond.methodLink "com/example/proper_parcel/properparcel/validate/document/MetadataSectionIsAdministrativePinLaw" (26 : Nat) ({ cls := "com/example/proper_parcel/properparcel/validate/document/MetadataSection", name := "isAdministrative", desc := "()Z" } : Jvm.MethodName)).before aw Z = true := hw _ (List.mem_of_getElem? (i := 4) rfl)
theorem W_5 {Z : State} {aw : Array Value} (hw : ∀ d ∈ tables_1, d.before aw Z = true) : (Jvm.Cond.declares ({ cls := "com/example/proper_parcel/properparcel/validate/document/MetadataSection", name := "isAdministrative", desc := "()Z" } : Jvm.MethodName)).before aw Z = true := hw _ (List.mem_of_getElem? (i := 5) rfl)
theorem W_6 {Z : State} {aw : Array Value} (hw : ∀ d ∈ tables_1, d.before aw Z = true) : (Jvm.Cond.instanceMethod ({ cls := "com/example/proper_parcel/properparcel/validate/document/MetadataSection", name := "isAdministrative", desc := "()Z" } : Jvm.MethodName)).before aw Z = true := hw _ (List.mem_of_getElem? (i := 6) rfl)
theorem W_7 {Z : State} {aw : Array Value} (hw : ∀ d ∈ tables_1, d.before aw Z = true) : (Jvm.Cond.selects "com/example/proper_parcel/properparcel/validate/document/MetadataSection" ({ cls := "com/example/proper_parcel/properparcel/validate/document/MetadataSection", name := "isAdministrative", desc := "()Z" } : Jvm.MethodName) ({ cls := "com/example/proper_parcel/properparcel/validate/document/MetadataSection", name := "isAdministrative", desc := "()Z" } : Jvm.MethodName)).before aw Z = true := hw _ (List.mem_of_getElem? (i := 7) rfl)
theorem W_8 {Z : State} {aw : Array Value} (hw : ∀ d ∈ tables_1, d.before aw Z = true) : (Jvm.Cond.code ({ cls := "com/example/proper_parcel/properparcel/validate/document/MetadataSection", name := "isAdministrative", desc := "()Z" } : Jvm.MethodName) prog_50_method_5_code (1 : Nat) (Option.some Jvm.ClassFile.FieldType.boolean)).before aw Z = true := hw _ (List.mem_of_getElem? (i := 8) rfl)
theorem W_9 {Z : State} {aw : Array Value} (hw : ∀ d ∈ tables_1, d.before aw Z = true) : (Jvm.Cond.fieldLink "com/example/proper_parcel/properparcel/validate/document/MetadataSection" (38 : Nat) "com/example/proper_parcel/properparcel/validate/document/MetadataSection" "path" "[Ljava/lang/String;").before aw Z = true := hw _ (List.mem_of_getElem? (i := 9) rfl)
theorem W_11 {Z : State} {aw : Array Value} (hw : ∀ d ∈ tables_1, d.before aw Z = true) : (Jvm.Cond.fieldLink "com/example/proper_parcel/properparcel/validate/document/MetadataSectionIsAdministrativePinLaw" (20 : Nat) "com/example/proper_parcel/properparcel/validate/document/MetadataSection" "SOURCE" "Lcom/example/proper_parcel/properparcel/validate/document/MetadataSection;").before aw Z = true := hw _ (List.mem_of_getElem? (i := 11) rfl)
theorem W_12 {Z : State} {aw : Array Value} (hw : ∀ d ∈ tables_1, d.before aw Z = true) : (Jvm.Cond.laysStatic "com/example/proper_parcel/properparcel/validate/document/MetadataSection" "SOURCE" "Lcom/example/proper_parcel/properparcel/validate/document/MetadataSection;").before aw Z = true := hw _ (List.mem_of_getElem? (i := 12) rfl)
theorem W_13 {Z : State} {aw : Array Value} (hw : ∀ d ∈ tables_1, d.before aw Z = true) : (Jvm.Cond.fieldLink "com/example/proper_parcel/properparcel/validate/document/MetadataSectionIsAdministrativePinLaw" (14 : Nat) "com/example/proper_parcel/properparcel/validate/document/MetadataSection" "TECHNICAL" "Lcom/example/proper_parcel/properparcel/validate/document/MetadataSection;").before aw Z = true := hw _ (List.mem_of_getElem? (i := 13) rfl)
theorem W_14 {Z : State} {aw : Array Value} (hw : ∀ d ∈ tables_1, d.before aw Z = true) : (Jvm.Cond.laysStatic "com/example/proper_parcel/properparcel/validate/document/MetadataSection" "TECHNICAL" "Lcom/example/proper_parcel/properparcel/validate/document/MetadataSection;").before aw Z = true := hw _ (List.mem_of_getElem? (i := 14) rfl)
theorem W_15 {Z : State} {aw : Array Value} (hw : ∀ d ∈ tables_1, d.before aw Z = true) : (Jvm.Cond.fieldLink "com/example/proper_parcel/properparcel/validate/document/MetadataSectionIsAdministrativePinLaw" (23 : Nat) "com/example/proper_parcel/properparcel/validate/document/MetadataSection" "DIGITAL_PROVENANCE" "Lcom/example/proper_parcel/properparcel/validate/document/MetadataSection;").before aw Z = true := hw _ (List.mem_of_getElem? (i := 15) rfl)
theorem W_16 {Z : State} {aw : Array Value} (hw : ∀ d ∈ tables_1, d.before aw Z = true) : (Jvm.Cond.laysStatic "com/example/proper_parcel/properparcel/validate/document/MetadataSection" "DIGITAL_PROVENANCE" "Lcom/example/proper_parcel/properparcel/validate/document/MetadataSection;").before aw Z = true := hw _ (List.mem_of_getElem? (i := 16) rfl)
theorem W_17 {Z : State} {aw : Array Value} (hw : ∀ d ∈ tables_1, d.before aw Z = true) : (Jvm.Cond.fieldLink "com/example/proper_parcel/properparcel/validate/document/MetadataSectionIsAdministrativePinLaw" (17 : Nat) "com/example/proper_parcel/properparcel/validate/document/MetadataSection" "RIGHTS" "Lcom/example/proper_parcel/properparcel/validate/document/MetadataSection;").before aw Z = true := hw _ (List.mem_of_getElem? (i := 17) rfl)
theorem W_18 {Z : State} {aw : Array Value} (hw : ∀ d ∈ tables_1, d.before aw Z = true) : (Jvm.Cond.laysStatic "com/example/proper_parcel/properparcel/validate/document/MetadataSection" "RIGHTS" "Lcom/example/proper_parcel/properparcel/validate/document/MetadataSection;").before aw Z = true := hw _ (List.mem_of_getElem? (i := 18) rfl)
theorem d_prog_50_method_5_code_0 : decode prog_50_method_5_code 0 = .ok (.aload_n 0, 1) := by decide +kernel
theorem d_prog_50_method_5_code_1 : decode prog_50_method_5_code 1 = .ok (.getfield 38, 3) := by decide +kernel
theorem d_prog_50_method_5_code_4 : decode prog_50_method_5_code 4 = .ok (.arraylength, 1) := by decide +kernel
theorem d_prog_50_method_5_code_5 : decode prog_50_method_5_code 5 = .ok (.iconst 1, 1) := by decide +kernel
theorem d_prog_50_method_5_code_6 : decode prog_50_method_5_code 6 = .ok (.if_icmp .le 7, 3) := by decide +kernel
theorem d_prog_50_method_5_code_9 : decode prog_50_method_5_code 9 = .ok (.iconst 1, 1) := by decide +kernel
theorem d_prog_50_method_5_code_10 : decode prog_50_method_5_code 10 = .ok (.goto 4, 3) := by decide +kernel
theorem d_prog_50_method_5_code_14 : decode prog_50_method_5_code 14 = .ok (.ireturn, 1) := by decide +kernel
theorem d_prog_50_method_5_code_13 : decode prog_50_method_5_code 13 = .ok (.iconst 0, 1) := by decide +kernel
theorem pn_0 : plainName "com/example/proper_parcel/properparcel/validate/document/MetadataSection" = true := by first | (simp [plainName, overriddenIn]; done) | decide +kernel
theorem pn_1 : plainName "com/example/proper_parcel/properparcel/validate/document/MetadataSectionIsAdministrativePinLaw" = true := by first | (simp [plainName, overriddenIn]; done) | decide +kernel
theorem pd_2 : parseMethodDescriptor "()Z" = some ⟨[], some .boolean⟩ := by decide +kernel
theorem ef_adm (m : MethodId) (a : Addr) : entryFrame m #[(.ref a)] 1 = mkF m 0 #[.val (.ref a)] [] := by first | (simp [entryFrame, mkF, argsToLocals, Value.category]; done) | rfl
set_option maxRecDepth 65536 in
set_option maxHeartbeats 40000000 in
theorem adm (l : Launch) (Z : State) (aw : Array Value) (hw : ∀ d ∈ tables_1, d.before aw Z = true) (a : Addr) (w : Addr) (k : ClassId) (z : Int32) (vs : List Value) {h0 : Heap} {n0 : Nat} (O : Old Z n0 h0) (F : Fld Z Z.heap a "com/example/proper_parcel/properparcel/validate/document/MetadataSection" "path" "[Ljava/lang/String;" (.ref w)) (V : Arv Z Z.heap w k (.object "java/lang/String") z vs .null) :
    MET l Z (⟨"com/example/proper_parcel/properparcel/validate/document/MetadataSection", "isAdministrative", "()Z"⟩ : MethodName) prog_50_method_5_code 1 (some .boolean) ({ frames := 0, cells := 0, slots := 0, locals := 0 } : Room) #[(.ref a)] h0 n0 (fun v h => v = some (.int (if (1 : Int32) < z then (1 : Int32) else (0 : Int32))) ∧ h = h0) := by
  refine metOf (plainFor_of_name pn_0) ?_
  intro p e s m below meth c T hx hby hml hrt hlk hnm hZ hown X e0
  replace hml : c.maxLocals = 1 := hml
  replace hnm : meth.name = "isAdministrative" := hnm
  replace hown : s.vm.findClass "com/example/proper_parcel/properparcel/validate/document/MetadataSection" = some m.cls := hown
  have N := Fr.nil n0
  have zO := O.le
  refine goCast (ef_adm m a) ?_
  show Goes _ _ _ _ _ _ _ _ (T.setTop (mkF m 0 #[.val (.ref a)] []))
  refine Goes.via (fun _ k => XS.aloadN X.here hx rfl (hb hby d_prog_50_method_5_code_0) rfl rfl k) ?_
  show Goes _ _ _ _ _ _ _ _ (T.setTop (mkF m 1 #[.val (.ref a)] [(.ref a)]))
  have f2 : Fld Z h0 a "com/example/proper_parcel/properparcel/validate/document/MetadataSection" "path" "[Ljava/lang/String;" (.ref w) := (F.ext O.2)
  obtain ⟨T1, X1, e1, st1⟩ := getF X hx hZ hown (host := "") (Or.inl (W_9 hw)) Via.refl e0 f2 (g := (mkF m 1 #[.val (.ref a)] [(.ref a)])) rfl rfl (hb hby d_prog_50_method_5_code_1)
  refine Goes.via st1 ?_
  show Goes _ _ _ _ _ _ _ _ (T1.setTop (mkF m 4 #[.val (.ref a)] [(.ref w)]))
  have f3 : Arv Z h0 w k (.object "java/lang/String") z vs .null := (V.ext O.2)
  obtain ⟨cl4, Ar4, -, S4, Nn4, -, -⟩ := f3
  refine Goes.via (X1.arraylength hx (by rw [e1]; exact Ar4.1) (State.isArrayOf_alike hZ.alike Ar4.2.1) (g := (mkF m 4 #[.val (.ref a)] [(.ref w)])) rfl rfl (hb hby d_prog_50_method_5_code_4)) ?_
  rw [len_of S4 Nn4]
  show Goes _ _ _ _ _ _ _ _ (T1.setTop (mkF m 5 #[.val (.ref a)] [(.int z)]))
  refine Goes.via (fun _ k => XT.iconstV X1.here hx rfl (1 : Int32) (hb hby d_prog_50_method_5_code_5) (by decide) k) ?_
  show Goes _ _ _ _ _ _ _ _ (T1.setTop (mkF m 6 #[.val (.ref a)] [(.int (1 : Int32)), (.int z)]))
  by_cases c5 : (1 : Int32) < z
  · skip
    refine Goes.via (fun _ k => XS.icmpNo X1.here hx rfl (hb hby d_prog_50_method_5_code_6) rfl (XT.ii_le_f c5) k) ?_
    show Goes _ _ _ _ _ _ _ _ (T1.setTop (mkF m 9 #[.val (.ref a)] []))
    refine Goes.via (fun _ k => XT.iconstV X1.here hx rfl (1 : Int32) (hb hby d_prog_50_method_5_code_9) (by decide) k) ?_
    show Goes _ _ _ _ _ _ _ _ (T1.setTop (mkF m 10 #[.val (.ref a)] [(.int (1 : Int32))]))
    refine Goes.via (fun _ k => XS.goto X1.here hx rfl (pc0 := 10) (pc' := 14) rfl (hb hby d_prog_50_method_5_code_10) (by decide) (by decide) k) ?_
    show Goes _ _ _ _ _ _ _ _ (T1.setTop (mkF m 14 #[.val (.ref a)] [(.int (1 : Int32))]))
    refine goRetN X1 hx hrt (by simp) hlk N (by decide) (by decide) (hb hby d_prog_50_method_5_code_14) ?_
    try rw [e1]
    exact ⟨by rw [if_pos c5]; rfl, rfl⟩
  · skip
    refine Goes.via (fun _ k => XS.icmpYes X1.here hx rfl (pc0 := 6) (pc' := 13) rfl (hb hby d_prog_50_method_5_code_6) rfl (XT.ii_le_t c5) (by decide) (by decide) k) ?_
    show Goes _ _ _ _ _ _ _ _ (T1.setTop (mkF m 13 #[.val (.ref a)] []))
    refine Goes.via (fun _ k => XT.iconstV X1.here hx rfl (0 : Int32) (hb hby d_prog_50_method_5_code_13) (by decide) k) ?_
    show Goes _ _ _ _ _ _ _ _ (T1.setTop (mkF m 14 #[.val (.ref a)] [(.int (0 : Int32))]))
    refine goRetN X1 hx hrt (by simp) hlk N (by decide) (by decide) (hb hby d_prog_50_method_5_code_14) ?_
    try rw [e1]
    exact ⟨by rw [if_neg c5]; rfl, rfl⟩
theorem ef_law (m : MethodId) (sel : Int32) : entryFrame m #[(.int sel)] maxLocals = mkF m 0 #[.val (.int sel), .unset, .unset, .unset] [] := by first | (simp [entryFrame, mkF, argsToLocals, Value.category, maxLocals]; done) | rfl
set_option maxRecDepth 65536 in
set_option maxHeartbeats 40000000 in
theorem law (l : Launch) (Z : State) (aw : Array Value) (hw : ∀ d ∈ tables_1, d.before aw Z = true) (sel : Int32) (a0 : Addr) (w0 : Addr) (k0 : ClassId) (vs0 : List Value) (a1 : Addr) (w1 : Addr) (k1 : ClassId) (vs1 : List Value) (a2 : Addr) (w2 : Addr) (k2 : ClassId) (vs2 : List Value) (a3 : Addr) (w3 : Addr) (k3 : ClassId) (vs3 : List Value) (a4 : Addr) (w4 : Addr) (k4 : ClassId) (vs4 : List Value) {h0 : Heap} {n0 : Nat} (O : Old Z n0 h0) (S0 : Sta Z Z.heap "com/example/proper_parcel/properparcel/validate/document/MetadataSection" "DESCRIPTIVE" "Lcom/example/proper_parcel/properparcel/validate/document/MetadataSection;" (.ref a0)) (E0 : Exa Z Z.heap a0 "com/example/proper_parcel/properparcel/validate/document/MetadataSection") (F0 : Fld Z Z.heap a0 "com/example/proper_parcel/properparcel/validate/document/MetadataSection" "path" "[Ljava/lang/String;" (.ref w0)) (V0 : Arv Z Z.heap w0 k0 (.object "java/lang/String") (1 : Int32) vs0 .null) (S1 : Sta Z Z.heap "com/example/proper_parcel/properparcel/validate/document/MetadataSection" "TECHNICAL" "Lcom/example/proper_parcel/properparcel/validate/document/MetadataSection;" (.ref a1)) (E1 : Exa Z Z.heap a1 "com/example/proper_parcel/properparcel/validate/document/MetadataSection") (F1 : Fld Z Z.heap a1 "com/example/proper_parcel/properparcel/validate/document/MetadataSection" "path" "[Ljava/lang/String;" (.ref w1)) (V1 : Arv Z Z.heap w1 k1 (.object "java/lang/String") (2 : Int32) vs1 .null) (S2 : Sta Z Z.heap "com/example/proper_parcel/properparcel/validate/document/MetadataSection" "RIGHTS" "Lcom/example/proper_parcel/properparcel/validate/document/MetadataSection;" (.ref a2)) (E2 : Exa Z Z.heap a2 "com/example/proper_parcel/properparcel/validate/document/MetadataSection") (F2 : Fld Z Z.heap a2 "com/example/proper_parcel/properparcel/validate/document/MetadataSection" "path" "[Ljava/lang/String;" (.ref w2)) (V2 : Arv Z Z.heap w2 k2 (.object "java/lang/String") (2 : Int32) vs2 .null) (S3 : Sta Z Z.heap "com/example/proper_parcel/properparcel/validate/document/MetadataSection" "SOURCE" "Lcom/example/proper_parcel/properparcel/validate/document/MetadataSection;" (.ref a3)) (E3 : Exa Z Z.heap a3 "com/example/proper_parcel/properparcel/validate/document/MetadataSection") (F3 : Fld Z Z.heap a3 "com/example/proper_parcel/properparcel/validate/document/MetadataSection" "path" "[Ljava/lang/String;" (.ref w3)) (V3 : Arv Z Z.heap w3 k3 (.object "java/lang/String") (2 : Int32) vs3 .null) (S4 : Sta Z Z.heap "com/example/proper_parcel/properparcel/validate/document/MetadataSection" "DIGITAL_PROVENANCE" "Lcom/example/proper_parcel/properparcel/validate/document/MetadataSection;" (.ref a4)) (E4 : Exa Z Z.heap a4 "com/example/proper_parcel/properparcel/validate/document/MetadataSection") (F4 : Fld Z Z.heap a4 "com/example/proper_parcel/properparcel/validate/document/MetadataSection" "path" "[Ljava/lang/String;" (.ref w4)) (V4 : Arv Z Z.heap w4 k4 (.object "java/lang/String") (2 : Int32) vs4 .null) :
    MET l Z x code maxLocals ret room_1 #[(.int sel)] h0 n0 (fun v h => v = some (.int (1 : Int32))) := by
  refine metOf (plainFor_of_name pn_1) ?_
  intro p e s m below meth c T hx hby hml hrt hlk hnm hZ hown X e0
  replace hml : c.maxLocals = 4 := hml
  replace hnm : meth.name = "law" := hnm
  replace hown : s.vm.findClass "com/example/proper_parcel/properparcel/validate/document/MetadataSectionIsAdministrativePinLaw" = some m.cls := hown
  have N := Fr.nil n0
  have zO := O.le
  refine goCast (ef_law m sel) ?_
  show Goes _ _ _ _ _ _ _ _ (T.setTop (mkF m 0 #[.val (.int sel), .unset, .unset, .unset] []))
  refine Goes.via (fun _ k => XS.iloadN X.here hx rfl (hb hby at_0) rfl k) ?_
  show Goes _ _ _ _ _ _ _ _ (T.setTop (mkF m 1 #[.val (.int sel), .unset, .unset, .unset] [(.int sel)]))
  refine Goes.via (fun _ k => X.ldcI hx hown (mvT hZ (W_0 hw)) (g := (mkF m 1 #[.val (.int sel), .unset, .unset, .unset] [(.int sel)])) rfl (hb hby at_1) k) ?_
  show Goes _ _ _ _ _ _ _ _ (T.setTop (mkF m 3 #[.val (.int sel), .unset, .unset, .unset] [(.int (2147483647 : Int32)), (.int sel)]))
  refine Goes.via (fun _ k => XS.iand X.here hx rfl (hb hby at_3) rfl k) ?_
  show Goes _ _ _ _ _ _ _ _ (T.setTop (mkF m 4 #[.val (.int sel), .unset, .unset, .unset] [(.int (sel &&& (2147483647 : Int32)))]))
  refine Goes.via (fun _ k => XT.iconstV X.here hx rfl (5 : Int32) (hb hby at_4) (by decide) k) ?_
  show Goes _ _ _ _ _ _ _ _ (T.setTop (mkF m 5 #[.val (.int sel), .unset, .unset, .unset] [(.int (5 : Int32)), (.int (sel &&& (2147483647 : Int32)))]))
  refine Goes.via (fun _ k => iremM X hx rfl (hb hby at_5) rfl (by decide) k) ?_
  show Goes _ _ _ _ _ _ _ _ (T.setTop (mkF m 6 #[.val (.int sel), .unset, .unset, .unset] [(.int ((sel &&& (2147483647 : Int32)) % (5 : Int32)))]))
  refine Goes.via (fun _ k => XS.istoreN X.here hx rfl (hb hby at_6) rfl (l' := #[.val (.int sel), .val (.int ((sel &&& (2147483647 : Int32)) % (5 : Int32))), .unset, .unset]) rfl k) ?_
  show Goes _ _ _ _ _ _ _ _ (T.setTop (mkF m 7 #[.val (.int sel), .val (.int ((sel &&& (2147483647 : Int32)) % (5 : Int32))), .unset, .unset] []))
  refine Goes.via (fun _ k => XS.iloadN X.here hx rfl (hb hby at_7) rfl k) ?_
  show Goes _ _ _ _ _ _ _ _ (T.setTop (mkF m 8 #[.val (.int sel), .val (.int ((sel &&& (2147483647 : Int32)) % (5 : Int32))), .unset, .unset] [(.int ((sel &&& (2147483647 : Int32)) % (5 : Int32)))]))
  by_cases c1 : ((sel &&& (2147483647 : Int32)) % (5 : Int32)) = (0 : Int32)
  · skip
    refine Goes.via (fun _ k => XS.ifNo X.here hx rfl (hb hby at_8) rfl (XT.i0_ne_f c1) k) ?_
    show Goes _ _ _ _ _ _ _ _ (T.setTop (mkF m 11 #[.val (.int sel), .val (.int ((sel &&& (2147483647 : Int32)) % (5 : Int32))), .unset, .unset] []))
    have f3 : Sta Z h0 "com/example/proper_parcel/properparcel/validate/document/MetadataSection" "DESCRIPTIVE" "Lcom/example/proper_parcel/properparcel/validate/document/MetadataSection;" (.ref a0) := (S0.ext O.2)
    obtain ⟨T2, X2, e2, st2⟩ := getS2 X hx hZ hown (host := "") (Or.inl (W_1 hw)) Via.refl e0 f3 (g := (mkF m 11 #[.val (.int sel), .val (.int ((sel &&& (2147483647 : Int32)) % (5 : Int32))), .unset, .unset] [])) rfl (hb hby at_11)
    refine Goes.via st2 ?_
    show Goes _ _ _ _ _ _ _ _ (T2.setTop (mkF m 14 #[.val (.int sel), .val (.int ((sel &&& (2147483647 : Int32)) % (5 : Int32))), .unset, .unset] [(.ref a0)]))
    refine Goes.via (fun _ k => XS.astoreN X2.here hx rfl (hb hby at_14) rfl rfl (l' := #[.val (.int sel), .val (.int ((sel &&& (2147483647 : Int32)) % (5 : Int32))), .val (.ref a0), .unset]) rfl k) ?_
    show Goes _ _ _ _ _ _ _ _ (T2.setTop (mkF m 15 #[.val (.int sel), .val (.int ((sel &&& (2147483647 : Int32)) % (5 : Int32))), .val (.ref a0), .unset] []))
    refine Goes.via (fun _ k => XT.iconstV X2.here hx rfl (0 : Int32) (hb hby at_15) (by decide) k) ?_
    show Goes _ _ _ _ _ _ _ _ (T2.setTop (mkF m 16 #[.val (.int sel), .val (.int ((sel &&& (2147483647 : Int32)) % (5 : Int32))), .val (.ref a0), .unset] [(.int (0 : Int32))]))
    refine Goes.via (fun _ k => XS.istoreN X2.here hx rfl (hb hby at_16) rfl (l' := #[.val (.int sel), .val (.int ((sel &&& (2147483647 : Int32)) % (5 : Int32))), .val (.ref a0), .val (.int (0 : Int32))]) rfl k) ?_
    show Goes _ _ _ _ _ _ _ _ (T2.setTop (mkF m 17 #[.val (.int sel), .val (.int ((sel &&& (2147483647 : Int32)) % (5 : Int32))), .val (.ref a0), .val (.int (0 : Int32))] []))
    refine Goes.via (fun _ k => XS.goto X2.here hx rfl (pc0 := 17) (pc' := 68) rfl (hb hby at_17) (by decide) (by decide) k) ?_
    show Goes _ _ _ _ _ _ _ _ (T2.setTop (mkF m 68 #[.val (.int sel), .val (.int ((sel &&& (2147483647 : Int32)) % (5 : Int32))), .val (.ref a0), .val (.int (0 : Int32))] []))
    refine Goes.via (fun _ k => XS.aloadN X2.here hx rfl (hb hby at_68) rfl rfl k) ?_
    show Goes _ _ _ _ _ _ _ _ (T2.setTop (mkF m 69 #[.val (.int sel), .val (.int ((sel &&& (2147483647 : Int32)) % (5 : Int32))), .val (.ref a0), .val (.int (0 : Int32))] [(.ref a0)]))
    have f5 : Exa Z h0 a0 "com/example/proper_parcel/properparcel/validate/document/MetadataSection" := (E0.ext O.2)
    obtain ⟨v4, T4, L4, X4, q4, n4, st4⟩ := callVi X2 hx hZ hown (adm l Z aw hw a0 w0 k0 (1 : Int32) vs0 O F0 V0) (W_4 hw) (W_5 hw) (notFace_of_selects (args := #[]) (mvT hZ (W_7 hw))) (W_7 hw) (W_6 hw) (W_2 hw) (W_8 hw) (by decide) e2 f5 (by decide) (W := 0) (by decide) (by decide) (by decide) (g := (mkF m 69 #[.val (.int sel), .val (.int ((sel &&& (2147483647 : Int32)) % (5 : Int32))), .val (.ref a0), .val (.int (0 : Int32))] [(.ref a0)])) rfl (by rw [hml]; rfl) (a := a0) (argsL := []) (rest := []) rfl (lenOf pd_2 rfl) rfl (by show 2 * 0 + _ ≤ _; exact Nat.le_of_eq rfl) (hb hby at_69)
    obtain ⟨rfl, p4_0⟩ := q4
    have N4 := Fr.app N n4
    refine Goes.via st4 ?_
    show Goes _ _ _ _ _ _ _ _ (T4.setTop (mkF m 72 #[.val (.int sel), .val (.int ((sel &&& (2147483647 : Int32)) % (5 : Int32))), .val (.ref a0), .val (.int (0 : Int32))] [(.int (if (1 : Int32) < (1 : Int32) then (1 : Int32) else (0 : Int32)))]))
    refine Goes.via (fun _ k => XS.iloadN X4.here hx rfl (hb hby at_72) rfl k) ?_
    show Goes _ _ _ _ _ _ _ _ (T4.setTop (mkF m 73 #[.val (.int sel), .val (.int ((sel &&& (2147483647 : Int32)) % (5 : Int32))), .val (.ref a0), .val (.int (0 : Int32))] [(.int (0 : Int32)), (.int (if (1 : Int32) < (1 : Int32) then (1 : Int32) else (0 : Int32)))]))
    refine Goes.via (fun _ k => XS.icmpNo X4.here hx rfl (hb hby at_73) rfl (XT.ii_ne_f (by decide)) k) ?_
    show Goes _ _ _ _ _ _ _ _ (T4.setTop (mkF m 76 #[.val (.int sel), .val (.int ((sel &&& (2147483647 : Int32)) % (5 : Int32))), .val (.ref a0), .val (.int (0 : Int32))] []))
    refine Goes.via (fun _ k => XT.iconstV X4.here hx rfl (1 : Int32) (hb hby at_76) (by decide) k) ?_
    show Goes _ _ _ _ _ _ _ _ (T4.setTop (mkF m 77 #[.val (.int sel), .val (.int ((sel &&& (2147483647 : Int32)) % (5 : Int32))), .val (.ref a0), .val (.int (0 : Int32))] [(.int (1 : Int32))]))
    refine Goes.via (fun _ k => XS.goto X4.here hx rfl (pc0 := 77) (pc' := 81) rfl (hb hby at_77) (by decide) (by decide) k) ?_
    show Goes _ _ _ _ _ _ _ _ (T4.setTop (mkF m 81 #[.val (.int sel), .val (.int ((sel &&& (2147483647 : Int32)) % (5 : Int32))), .val (.ref a0), .val (.int (0 : Int32))] [(.int (1 : Int32))]))
    refine goRetN X4 hx hrt (by simp) hlk N4 (by decide) (by decide) (hb hby at_81) ?_
    try rw [p4_0]
    exact rfl
  · skip
    refine Goes.via (fun _ k => XS.ifYes X.here hx rfl (pc0 := 8) (pc' := 20) rfl (hb hby at_8) rfl (XT.i0_ne_t c1) (by decide) (by decide) k) ?_
    show Goes _ _ _ _ _ _ _ _ (T.setTop (mkF m 20 #[.val (.int sel), .val (.int ((sel &&& (2147483647 : Int32)) % (5 : Int32))), .unset, .unset] []))
    refine Goes.via (fun _ k => XS.iloadN X.here hx rfl (hb hby at_20) rfl k) ?_
    show Goes _ _ _ _ _ _ _ _ (T.setTop (mkF m 21 #[.val (.int sel), .val (.int ((sel &&& (2147483647 : Int32)) % (5 : Int32))), .unset, .unset] [(.int ((sel &&& (2147483647 : Int32)) % (5 : Int32)))]))
    refine Goes.via (fun _ k => XT.iconstV X.here hx rfl (1 : Int32) (hb hby at_21) (by decide) k) ?_
    show Goes _ _ _ _ _ _ _ _ (T.setTop (mkF m 22 #[.val (.int sel), .val (.int ((sel &&& (2147483647 : Int32)) % (5 : Int32))), .unset, .unset] [(.int (1 : Int32)), (.int ((sel &&& (2147483647 : Int32)) % (5 : Int32)))]))
    by_cases c6 : ((sel &&& (2147483647 : Int32)) % (5 : Int32)) = (1 : Int32)
    · skip
      refine Goes.via (fun _ k => XS.icmpNo X.here hx rfl (hb hby at_22) rfl (XT.ii_ne_f c6) k) ?_
      show Goes _ _ _ _ _ _ _ _ (T.setTop (mkF m 25 #[.val (.int sel), .val (.int ((sel &&& (2147483647 : Int32)) % (5 : Int32))), .unset, .unset] []))
      have f8 : Sta Z h0 "com/example/proper_parcel/properparcel/validate/document/MetadataSection" "TECHNICAL" "Lcom/example/proper_parcel/properparcel/validate/document/MetadataSection;" (.ref a1) := (S1.ext O.2)
      obtain ⟨T7, X7, e7, st7⟩ := getS2 X hx hZ hown (host := "") (Or.inl (W_13 hw)) Via.refl e0 f8 (g := (mkF m 25 #[.val (.int sel), .val (.int ((sel &&& (2147483647 : Int32)) % (5 : Int32))), .unset, .unset] [])) rfl (hb hby at_25)
      refine Goes.via st7 ?_
      show Goes _ _ _ _ _ _ _ _ (T7.setTop (mkF m 28 #[.val (.int sel), .val (.int ((sel &&& (2147483647 : Int32)) % (5 : Int32))), .unset, .unset] [(.ref a1)]))
      refine Goes.via (fun _ k => XS.astoreN X7.here hx rfl (hb hby at_28) rfl rfl (l' := #[.val (.int sel), .val (.int ((sel &&& (2147483647 : Int32)) % (5 : Int32))), .val (.ref a1), .unset]) rfl k) ?_
      show Goes _ _ _ _ _ _ _ _ (T7.setTop (mkF m 29 #[.val (.int sel), .val (.int ((sel &&& (2147483647 : Int32)) % (5 : Int32))), .val (.ref a1), .unset] []))
      refine Goes.via (fun _ k => XT.iconstV X7.here hx rfl (1 : Int32) (hb hby at_29) (by decide) k) ?_
      show Goes _ _ _ _ _ _ _ _ (T7.setTop (mkF m 30 #[.val (.int sel), .val (.int ((sel &&& (2147483647 : Int32)) % (5 : Int32))), .val (.ref a1), .unset] [(.int (1 : Int32))]))
      refine Goes.via (fun _ k => XS.istoreN X7.here hx rfl (hb hby at_30) rfl (l' := #[.val (.int sel), .val (.int ((sel &&& (2147483647 : Int32)) % (5 : Int32))), .val (.ref a1), .val (.int (1 : Int32))]) rfl k) ?_
      show Goes _ _ _ _ _ _ _ _ (T7.setTop (mkF m 31 #[.val (.int sel), .val (.int ((sel &&& (2147483647 : Int32)) % (5 : Int32))), .val (.ref a1), .val (.int (1 : Int32))] []))
      refine Goes.via (fun _ k => XS.goto X7.here hx rfl (pc0 := 31) (pc' := 68) rfl (hb hby at_31) (by decide) (by decide) k) ?_
      show Goes _ _ _ _ _ _ _ _ (T7.setTop (mkF m 68 #[.val (.int sel), .val (.int ((sel &&& (2147483647 : Int32)) % (5 : Int32))), .val (.ref a1), .val (.int (1 : Int32))] []))
      refine Goes.via (fun _ k => XS.aloadN X7.here hx rfl (hb hby at_68) rfl rfl k) ?_
      show Goes _ _ _ _ _ _ _ _ (T7.setTop (mkF m 69 #[.val (.int sel), .val (.int ((sel &&& (2147483647 : Int32)) % (5 : Int32))), .val (.ref a1), .val (.int (1 : Int32))] [(.ref a1)]))
      have f10 : Exa Z h0 a1 "com/example/proper_parcel/properparcel/validate/document/MetadataSection" := (E1.ext O.2)
      obtain ⟨v9, T9, L9, X9, q9, n9, st9⟩ := callVi X7 hx hZ hown (adm l Z aw hw a1 w1 k1 (2 : Int32) vs1 O F1 V1) (W_4 hw) (W_5 hw) (notFace_of_selects (args := #[]) (mvT hZ (W_7 hw))) (W_7 hw) (W_6 hw) (W_2 hw) (W_8 hw) (by decide) e7 f10 (by decide) (W := 0) (by decide) (by decide) (by decide) (g := (mkF m 69 #[.val (.int sel), .val (.int ((sel &&& (2147483647 : Int32)) % (5 : Int32))), .val (.ref a1), .val (.int (1 : Int32))] [(.ref a1)])) rfl (by rw [hml]; rfl) (a := a1) (argsL := []) (rest := []) rfl (lenOf pd_2 rfl) rfl (by show 2 * 0 + _ ≤ _; exact Nat.le_of_eq rfl) (hb hby at_69)
      obtain ⟨rfl, p9_0⟩ := q9
      have N9 := Fr.app N n9
      refine Goes.via st9 ?_
      show Goes _ _ _ _ _ _ _ _ (T9.setTop (mkF m 72 #[.val (.int sel), .val (.int ((sel &&& (2147483647 : Int32)) % (5 : Int32))), .val (.ref a1), .val (.int (1 : Int32))] [(.int (if (1 : Int32) < (2 : Int32) then (1 : Int32) else (0 : Int32)))]))
      refine Goes.via (fun _ k => XS.iloadN X9.here hx rfl (hb hby at_72) rfl k) ?_
      show Goes _ _ _ _ _ _ _ _ (T9.setTop (mkF m 73 #[.val (.int sel), .val (.int ((sel &&& (2147483647 : Int32)) % (5 : Int32))), .val (.ref a1), .val (.int (1 : Int32))] [(.int (1 : Int32)), (.int (if (1 : Int32) < (2 : Int32) then (1 : Int32) else (0 : Int32)))]))
      refine Goes.via (fun _ k => XS.icmpNo X9.here hx rfl (hb hby at_73) rfl (XT.ii_ne_f (by decide)) k) ?_
      show Goes _ _ _ _ _ _ _ _ (T9.setTop (mkF m 76 #[.val (.int sel), .val (.int ((sel &&& (2147483647 : Int32)) % (5 : Int32))), .val (.ref a1), .val (.int (1 : Int32))] []))
      refine Goes.via (fun _ k => XT.iconstV X9.here hx rfl (1 : Int32) (hb hby at_76) (by decide) k) ?_
      show Goes _ _ _ _ _ _ _ _ (T9.setTop (mkF m 77 #[.val (.int sel), .val (.int ((sel &&& (2147483647 : Int32)) % (5 : Int32))), .val (.ref a1), .val (.int (1 : Int32))] [(.int (1 : Int32))]))
      refine Goes.via (fun _ k => XS.goto X9.here hx rfl (pc0 := 77) (pc' := 81) rfl (hb hby at_77) (by decide) (by decide) k) ?_
      show Goes _ _ _ _ _ _ _ _ (T9.setTop (mkF m 81 #[.val (.int sel), .val (.int ((sel &&& (2147483647 : Int32)) % (5 : Int32))), .val (.ref a1), .val (.int (1 : Int32))] [(.int (1 : Int32))]))
      refine goRetN X9 hx hrt (by simp) hlk N9 (by decide) (by decide) (hb hby at_81) ?_
      try rw [p9_0]
      exact rfl
    · skip
      refine Goes.via (fun _ k => XS.icmpYes X.here hx rfl (pc0 := 22) (pc' := 34) rfl (hb hby at_22) rfl (XT.ii_ne_t c6) (by decide) (by decide) k) ?_
      show Goes _ _ _ _ _ _ _ _ (T.setTop (mkF m 34 #[.val (.int sel), .val (.int ((sel &&& (2147483647 : Int32)) % (5 : Int32))), .unset, .unset] []))
      refine Goes.via (fun _ k => XS.iloadN X.here hx rfl (hb hby at_34) rfl k) ?_
      show Goes _ _ _ _ _ _ _ _ (T.setTop (mkF m 35 #[.val (.int sel), .val (.int ((sel &&& (2147483647 : Int32)) % (5 : Int32))), .unset, .unset] [(.int ((sel &&& (2147483647 : Int32)) % (5 : Int32)))]))
      refine Goes.via (fun _ k => XT.iconstV X.here hx rfl (2 : Int32) (hb hby at_35) (by decide) k) ?_
      show Goes _ _ _ _ _ _ _ _ (T.setTop (mkF m 36 #[.val (.int sel), .val (.int ((sel &&& (2147483647 : Int32)) % (5 : Int32))), .unset, .unset] [(.int (2 : Int32)), (.int ((sel &&& (2147483647 : Int32)) % (5 : Int32)))]))
      by_cases c11 : ((sel &&& (2147483647 : Int32)) % (5 : Int32)) = (2 : Int32)
      · skip
        refine Goes.via (fun _ k => XS.icmpNo X.here hx rfl (hb hby at_36) rfl (XT.ii_ne_f c11) k) ?_
        show Goes _ _ _ _ _ _ _ _ (T.setTop (mkF m 39 #[.val (.int sel), .val (.int ((sel &&& (2147483647 : Int32)) % (5 : Int32))), .unset, .unset] []))
        have f13 : Sta Z h0 "com/example/proper_parcel/properparcel/validate/document/MetadataSection" "RIGHTS" "Lcom/example/proper_parcel/properparcel/validate/document/MetadataSection;" (.ref a2) := (S2.ext O.2)
        obtain ⟨T12, X12, e12, st12⟩ := getS2 X hx hZ hown (host := "") (Or.inl (W_17 hw)) Via.refl e0 f13 (g := (mkF m 39 #[.val (.int sel), .val (.int ((sel &&& (2147483647 : Int32)) % (5 : Int32))), .unset, .unset] [])) rfl (hb hby at_39)
        refine Goes.via st12 ?_
        show Goes _ _ _ _ _ _ _ _ (T12.setTop (mkF m 42 #[.val (.int sel), .val (.int ((sel &&& (2147483647 : Int32)) % (5 : Int32))), .unset, .unset] [(.ref a2)]))
        refine Goes.via (fun _ k => XS.astoreN X12.here hx rfl (hb hby at_42) rfl rfl (l' := #[.val (.int sel), .val (.int ((sel &&& (2147483647 : Int32)) % (5 : Int32))), .val (.ref a2), .unset]) rfl k) ?_
        show Goes _ _ _ _ _ _ _ _ (T12.setTop (mkF m 43 #[.val (.int sel), .val (.int ((sel &&& (2147483647 : Int32)) % (5 : Int32))), .val (.ref a2), .unset] []))
        refine Goes.via (fun _ k => XT.iconstV X12.here hx rfl (1 : Int32) (hb hby at_43) (by decide) k) ?_
        show Goes _ _ _ _ _ _ _ _ (T12.setTop (mkF m 44 #[.val (.int sel), .val (.int ((sel &&& (2147483647 : Int32)) % (5 : Int32))), .val (.ref a2), .unset] [(.int (1 : Int32))]))
        refine Goes.via (fun _ k => XS.istoreN X12.here hx rfl (hb hby at_44) rfl (l' := #[.val (.int sel), .val (.int ((sel &&& (2147483647 : Int32)) % (5 : Int32))), .val (.ref a2), .val (.int (1 : Int32))]) rfl k) ?_
        show Goes _ _ _ _ _ _ _ _ (T12.setTop (mkF m 45 #[.val (.int sel), .val (.int ((sel &&& (2147483647 : Int32)) % (5 : Int32))), .val (.ref a2), .val (.int (1 : Int32))] []))
        refine Goes.via (fun _ k => XS.goto X12.here hx rfl (pc0 := 45) (pc' := 68) rfl (hb hby at_45) (by decide) (by decide) k) ?_
        show Goes _ _ _ _ _ _ _ _ (T12.setTop (mkF m 68 #[.val (.int sel), .val (.int ((sel &&& (2147483647 : Int32)) % (5 : Int32))), .val (.ref a2), .val (.int (1 : Int32))] []))
        refine Goes.via (fun _ k => XS.aloadN X12.here hx rfl (hb hby at_68) rfl rfl k) ?_
        show Goes _ _ _ _ _ _ _ _ (T12.setTop (mkF m 69 #[.val (.int sel), .val (.int ((sel &&& (2147483647 : Int32)) % (5 : Int32))), .val (.ref a2), .val (.int (1 : Int32))] [(.ref a2)]))
        have f15 : Exa Z h0 a2 "com/example/proper_parcel/properparcel/validate/document/MetadataSection" := (E2.ext O.2)
        obtain ⟨v14, T14, L14, X14, q14, n14, st14⟩ := callVi X12 hx hZ hown (adm l Z aw hw a2 w2 k2 (2 : Int32) vs2 O F2 V2) (W_4 hw) (W_5 hw) (notFace_of_selects (args := #[]) (mvT hZ (W_7 hw))) (W_7 hw) (W_6 hw) (W_2 hw) (W_8 hw) (by decide) e12 f15 (by decide) (W := 0) (by decide) (by decide) (by decide) (g := (mkF m 69 #[.val (.int sel), .val (.int ((sel &&& (2147483647 : Int32)) % (5 : Int32))), .val (.ref a2), .val (.int (1 : Int32))] [(.ref a2)])) rfl (by rw [hml]; rfl) (a := a2) (argsL := []) (rest := []) rfl (lenOf pd_2 rfl) rfl (by show 2 * 0 + _ ≤ _; exact Nat.le_of_eq rfl) (hb hby at_69)
        obtain ⟨rfl, p14_0⟩ := q14
        have N14 := Fr.app N n14
        refine Goes.via st14 ?_
        show Goes _ _ _ _ _ _ _ _ (T14.setTop (mkF m 72 #[.val (.int sel), .val (.int ((sel &&& (2147483647 : Int32)) % (5 : Int32))), .val (.ref a2), .val (.int (1 : Int32))] [(.int (if (1 : Int32) < (2 : Int32) then (1 : Int32) else (0 : Int32)))]))
        refine Goes.via (fun _ k => XS.iloadN X14.here hx rfl (hb hby at_72) rfl k) ?_
        show Goes _ _ _ _ _ _ _ _ (T14.setTop (mkF m 73 #[.val (.int sel), .val (.int ((sel &&& (2147483647 : Int32)) % (5 : Int32))), .val (.ref a2), .val (.int (1 : Int32))] [(.int (1 : Int32)), (.int (if (1 : Int32) < (2 : Int32) then (1 : Int32) else (0 : Int32)))]))
        refine Goes.via (fun _ k => XS.icmpNo X14.here hx rfl (hb hby at_73) rfl (XT.ii_ne_f (by decide)) k) ?_
        show Goes _ _ _ _ _ _ _ _ (T14.setTop (mkF m 76 #[.val (.int sel), .val (.int ((sel &&& (2147483647 : Int32)) % (5 : Int32))), .val (.ref a2), .val (.int (1 : Int32))] []))
        refine Goes.via (fun _ k => XT.iconstV X14.here hx rfl (1 : Int32) (hb hby at_76) (by decide) k) ?_
        show Goes _ _ _ _ _ _ _ _ (T14.setTop (mkF m 77 #[.val (.int sel), .val (.int ((sel &&& (2147483647 : Int32)) % (5 : Int32))), .val (.ref a2), .val (.int (1 : Int32))] [(.int (1 : Int32))]))
        refine Goes.via (fun _ k => XS.goto X14.here hx rfl (pc0 := 77) (pc' := 81) rfl (hb hby at_77) (by decide) (by decide) k) ?_
        show Goes _ _ _ _ _ _ _ _ (T14.setTop (mkF m 81 #[.val (.int sel), .val (.int ((sel &&& (2147483647 : Int32)) % (5 : Int32))), .val (.ref a2), .val (.int (1 : Int32))] [(.int (1 : Int32))]))
        refine goRetN X14 hx hrt (by simp) hlk N14 (by decide) (by decide) (hb hby at_81) ?_
        try rw [p14_0]
        exact rfl
      · skip
        refine Goes.via (fun _ k => XS.icmpYes X.here hx rfl (pc0 := 36) (pc' := 48) rfl (hb hby at_36) rfl (XT.ii_ne_t c11) (by decide) (by decide) k) ?_
        show Goes _ _ _ _ _ _ _ _ (T.setTop (mkF m 48 #[.val (.int sel), .val (.int ((sel &&& (2147483647 : Int32)) % (5 : Int32))), .unset, .unset] []))
        refine Goes.via (fun _ k => XS.iloadN X.here hx rfl (hb hby at_48) rfl k) ?_
        show Goes _ _ _ _ _ _ _ _ (T.setTop (mkF m 49 #[.val (.int sel), .val (.int ((sel &&& (2147483647 : Int32)) % (5 : Int32))), .unset, .unset] [(.int ((sel &&& (2147483647 : Int32)) % (5 : Int32)))]))
        refine Goes.via (fun _ k => XT.iconstV X.here hx rfl (3 : Int32) (hb hby at_49) (by decide) k) ?_
        show Goes _ _ _ _ _ _ _ _ (T.setTop (mkF m 50 #[.val (.int sel), .val (.int ((sel &&& (2147483647 : Int32)) % (5 : Int32))), .unset, .unset] [(.int (3 : Int32)), (.int ((sel &&& (2147483647 : Int32)) % (5 : Int32)))]))
        by_cases c16 : ((sel &&& (2147483647 : Int32)) % (5 : Int32)) = (3 : Int32)
        · skip
          refine Goes.via (fun _ k => XS.icmpNo X.here hx rfl (hb hby at_50) rfl (XT.ii_ne_f c16) k) ?_
          show Goes _ _ _ _ _ _ _ _ (T.setTop (mkF m 53 #[.val (.int sel), .val (.int ((sel &&& (2147483647 : Int32)) % (5 : Int32))), .unset, .unset] []))
          have f18 : Sta Z h0 "com/example/proper_parcel/properparcel/validate/document/MetadataSection" "SOURCE" "Lcom/example/proper_parcel/properparcel/validate/document/MetadataSection;" (.ref a3) := (S3.ext O.2)
          obtain ⟨T17, X17, e17, st17⟩ := getS2 X hx hZ hown (host := "") (Or.inl (W_11 hw)) Via.refl e0 f18 (g := (mkF m 53 #[.val (.int sel), .val (.int ((sel &&& (2147483647 : Int32)) % (5 : Int32))), .unset, .unset] [])) rfl (hb hby at_53)
          refine Goes.via st17 ?_
          show Goes _ _ _ _ _ _ _ _ (T17.setTop (mkF m 56 #[.val (.int sel), .val (.int ((sel &&& (2147483647 : Int32)) % (5 : Int32))), .unset, .unset] [(.ref a3)]))
          refine Goes.via (fun _ k => XS.astoreN X17.here hx rfl (hb hby at_56) rfl rfl (l' := #[.val (.int sel), .val (.int ((sel &&& (2147483647 : Int32)) % (5 : Int32))), .val (.ref a3), .unset]) rfl k) ?_
          show Goes _ _ _ _ _ _ _ _ (T17.setTop (mkF m 57 #[.val (.int sel), .val (.int ((sel &&& (2147483647 : Int32)) % (5 : Int32))), .val (.ref a3), .unset] []))
          refine Goes.via (fun _ k => XT.iconstV X17.here hx rfl (1 : Int32) (hb hby at_57) (by decide) k) ?_
          show Goes _ _ _ _ _ _ _ _ (T17.setTop (mkF m 58 #[.val (.int sel), .val (.int ((sel &&& (2147483647 : Int32)) % (5 : Int32))), .val (.ref a3), .unset] [(.int (1 : Int32))]))
          refine Goes.via (fun _ k => XS.istoreN X17.here hx rfl (hb hby at_58) rfl (l' := #[.val (.int sel), .val (.int ((sel &&& (2147483647 : Int32)) % (5 : Int32))), .val (.ref a3), .val (.int (1 : Int32))]) rfl k) ?_
          show Goes _ _ _ _ _ _ _ _ (T17.setTop (mkF m 59 #[.val (.int sel), .val (.int ((sel &&& (2147483647 : Int32)) % (5 : Int32))), .val (.ref a3), .val (.int (1 : Int32))] []))
          refine Goes.via (fun _ k => XS.goto X17.here hx rfl (pc0 := 59) (pc' := 68) rfl (hb hby at_59) (by decide) (by decide) k) ?_
          show Goes _ _ _ _ _ _ _ _ (T17.setTop (mkF m 68 #[.val (.int sel), .val (.int ((sel &&& (2147483647 : Int32)) % (5 : Int32))), .val (.ref a3), .val (.int (1 : Int32))] []))
          refine Goes.via (fun _ k => XS.aloadN X17.here hx rfl (hb hby at_68) rfl rfl k) ?_
          show Goes _ _ _ _ _ _ _ _ (T17.setTop (mkF m 69 #[.val (.int sel), .val (.int ((sel &&& (2147483647 : Int32)) % (5 : Int32))), .val (.ref a3), .val (.int (1 : Int32))] [(.ref a3)]))
          have f20 : Exa Z h0 a3 "com/example/proper_parcel/properparcel/validate/document/MetadataSection" := (E3.ext O.2)
          obtain ⟨v19, T19, L19, X19, q19, n19, st19⟩ := callVi X17 hx hZ hown (adm l Z aw hw a3 w3 k3 (2 : Int32) vs3 O F3 V3) (W_4 hw) (W_5 hw) (notFace_of_selects (args := #[]) (mvT hZ (W_7 hw))) (W_7 hw) (W_6 hw) (W_2 hw) (W_8 hw) (by decide) e17 f20 (by decide) (W := 0) (by decide) (by decide) (by decide) (g := (mkF m 69 #[.val (.int sel), .val (.int ((sel &&& (2147483647 : Int32)) % (5 : Int32))), .val (.ref a3), .val (.int (1 : Int32))] [(.ref a3)])) rfl (by rw [hml]; rfl) (a := a3) (argsL := []) (rest := []) rfl (lenOf pd_2 rfl) rfl (by show 2 * 0 + _ ≤ _; exact Nat.le_of_eq rfl) (hb hby at_69)
          obtain ⟨rfl, p19_0⟩ := q19
          have N19 := Fr.app N n19
          refine Goes.via st19 ?_
          show Goes _ _ _ _ _ _ _ _ (T19.setTop (mkF m 72 #[.val (.int sel), .val (.int ((sel &&& (2147483647 : Int32)) % (5 : Int32))), .val (.ref a3), .val (.int (1 : Int32))] [(.int (if (1 : Int32) < (2 : Int32) then (1 : Int32) else (0 : Int32)))]))
          refine Goes.via (fun _ k => XS.iloadN X19.here hx rfl (hb hby at_72) rfl k) ?_
          show Goes _ _ _ _ _ _ _ _ (T19.setTop (mkF m 73 #[.val (.int sel), .val (.int ((sel &&& (2147483647 : Int32)) % (5 : Int32))), .val (.ref a3), .val (.int (1 : Int32))] [(.int (1 : Int32)), (.int (if (1 : Int32) < (2 : Int32) then (1 : Int32) else (0 : Int32)))]))
          refine Goes.via (fun _ k => XS.icmpNo X19.here hx rfl (hb hby at_73) rfl (XT.ii_ne_f (by decide)) k) ?_
          show Goes _ _ _ _ _ _ _ _ (T19.setTop (mkF m 76 #[.val (.int sel), .val (.int ((sel &&& (2147483647 : Int32)) % (5 : Int32))), .val (.ref a3), .val (.int (1 : Int32))] []))
          refine Goes.via (fun _ k => XT.iconstV X19.here hx rfl (1 : Int32) (hb hby at_76) (by decide) k) ?_
          show Goes _ _ _ _ _ _ _ _ (T19.setTop (mkF m 77 #[.val (.int sel), .val (.int ((sel &&& (2147483647 : Int32)) % (5 : Int32))), .val (.ref a3), .val (.int (1 : Int32))] [(.int (1 : Int32))]))
          refine Goes.via (fun _ k => XS.goto X19.here hx rfl (pc0 := 77) (pc' := 81) rfl (hb hby at_77) (by decide) (by decide) k) ?_
          show Goes _ _ _ _ _ _ _ _ (T19.setTop (mkF m 81 #[.val (.int sel), .val (.int ((sel &&& (2147483647 : Int32)) % (5 : Int32))), .val (.ref a3), .val (.int (1 : Int32))] [(.int (1 : Int32))]))
          refine goRetN X19 hx hrt (by simp) hlk N19 (by decide) (by decide) (hb hby at_81) ?_
          try rw [p19_0]
          exact rfl
        · skip
          refine Goes.via (fun _ k => XS.icmpYes X.here hx rfl (pc0 := 50) (pc' := 62) rfl (hb hby at_50) rfl (XT.ii_ne_t c16) (by decide) (by decide) k) ?_
          show Goes _ _ _ _ _ _ _ _ (T.setTop (mkF m 62 #[.val (.int sel), .val (.int ((sel &&& (2147483647 : Int32)) % (5 : Int32))), .unset, .unset] []))
          have f22 : Sta Z h0 "com/example/proper_parcel/properparcel/validate/document/MetadataSection" "DIGITAL_PROVENANCE" "Lcom/example/proper_parcel/properparcel/validate/document/MetadataSection;" (.ref a4) := (S4.ext O.2)
          obtain ⟨T21, X21, e21, st21⟩ := getS2 X hx hZ hown (host := "") (Or.inl (W_15 hw)) Via.refl e0 f22 (g := (mkF m 62 #[.val (.int sel), .val (.int ((sel &&& (2147483647 : Int32)) % (5 : Int32))), .unset, .unset] [])) rfl (hb hby at_62)
          refine Goes.via st21 ?_
          show Goes _ _ _ _ _ _ _ _ (T21.setTop (mkF m 65 #[.val (.int sel), .val (.int ((sel &&& (2147483647 : Int32)) % (5 : Int32))), .unset, .unset] [(.ref a4)]))
          refine Goes.via (fun _ k => XS.astoreN X21.here hx rfl (hb hby at_65) rfl rfl (l' := #[.val (.int sel), .val (.int ((sel &&& (2147483647 : Int32)) % (5 : Int32))), .val (.ref a4), .unset]) rfl k) ?_
          show Goes _ _ _ _ _ _ _ _ (T21.setTop (mkF m 66 #[.val (.int sel), .val (.int ((sel &&& (2147483647 : Int32)) % (5 : Int32))), .val (.ref a4), .unset] []))
          refine Goes.via (fun _ k => XT.iconstV X21.here hx rfl (1 : Int32) (hb hby at_66) (by decide) k) ?_
          show Goes _ _ _ _ _ _ _ _ (T21.setTop (mkF m 67 #[.val (.int sel), .val (.int ((sel &&& (2147483647 : Int32)) % (5 : Int32))), .val (.ref a4), .unset] [(.int (1 : Int32))]))
          refine Goes.via (fun _ k => XS.istoreN X21.here hx rfl (hb hby at_67) rfl (l' := #[.val (.int sel), .val (.int ((sel &&& (2147483647 : Int32)) % (5 : Int32))), .val (.ref a4), .val (.int (1 : Int32))]) rfl k) ?_
          show Goes _ _ _ _ _ _ _ _ (T21.setTop (mkF m 68 #[.val (.int sel), .val (.int ((sel &&& (2147483647 : Int32)) % (5 : Int32))), .val (.ref a4), .val (.int (1 : Int32))] []))
          refine Goes.via (fun _ k => XS.aloadN X21.here hx rfl (hb hby at_68) rfl rfl k) ?_
          show Goes _ _ _ _ _ _ _ _ (T21.setTop (mkF m 69 #[.val (.int sel), .val (.int ((sel &&& (2147483647 : Int32)) % (5 : Int32))), .val (.ref a4), .val (.int (1 : Int32))] [(.ref a4)]))
          have f24 : Exa Z h0 a4 "com/example/proper_parcel/properparcel/validate/document/MetadataSection" := (E4.ext O.2)
          obtain ⟨v23, T23, L23, X23, q23, n23, st23⟩ := callVi X21 hx hZ hown (adm l Z aw hw a4 w4 k4 (2 : Int32) vs4 O F4 V4) (W_4 hw) (W_5 hw) (notFace_of_selects (args := #[]) (mvT hZ (W_7 hw))) (W_7 hw) (W_6 hw) (W_2 hw) (W_8 hw) (by decide) e21 f24 (by decide) (W := 0) (by decide) (by decide) (by decide) (g := (mkF m 69 #[.val (.int sel), .val (.int ((sel &&& (2147483647 : Int32)) % (5 : Int32))), .val (.ref a4), .val (.int (1 : Int32))] [(.ref a4)])) rfl (by rw [hml]; rfl) (a := a4) (argsL := []) (rest := []) rfl (lenOf pd_2 rfl) rfl (by show 2 * 0 + _ ≤ _; exact Nat.le_of_eq rfl) (hb hby at_69)
          obtain ⟨rfl, p23_0⟩ := q23
          have N23 := Fr.app N n23
          refine Goes.via st23 ?_
          show Goes _ _ _ _ _ _ _ _ (T23.setTop (mkF m 72 #[.val (.int sel), .val (.int ((sel &&& (2147483647 : Int32)) % (5 : Int32))), .val (.ref a4), .val (.int (1 : Int32))] [(.int (if (1 : Int32) < (2 : Int32) then (1 : Int32) else (0 : Int32)))]))
          refine Goes.via (fun _ k => XS.iloadN X23.here hx rfl (hb hby at_72) rfl k) ?_
          show Goes _ _ _ _ _ _ _ _ (T23.setTop (mkF m 73 #[.val (.int sel), .val (.int ((sel &&& (2147483647 : Int32)) % (5 : Int32))), .val (.ref a4), .val (.int (1 : Int32))] [(.int (1 : Int32)), (.int (if (1 : Int32) < (2 : Int32) then (1 : Int32) else (0 : Int32)))]))
          refine Goes.via (fun _ k => XS.icmpNo X23.here hx rfl (hb hby at_73) rfl (XT.ii_ne_f (by decide)) k) ?_
          show Goes _ _ _ _ _ _ _ _ (T23.setTop (mkF m 76 #[.val (.int sel), .val (.int ((sel &&& (2147483647 : Int32)) % (5 : Int32))), .val (.ref a4), .val (.int (1 : Int32))] []))
          refine Goes.via (fun _ k => XT.iconstV X23.here hx rfl (1 : Int32) (hb hby at_76) (by decide) k) ?_
          show Goes _ _ _ _ _ _ _ _ (T23.setTop (mkF m 77 #[.val (.int sel), .val (.int ((sel &&& (2147483647 : Int32)) % (5 : Int32))), .val (.ref a4), .val (.int (1 : Int32))] [(.int (1 : Int32))]))
          refine Goes.via (fun _ k => XS.goto X23.here hx rfl (pc0 := 77) (pc' := 81) rfl (hb hby at_77) (by decide) (by decide) k) ?_
          show Goes _ _ _ _ _ _ _ _ (T23.setTop (mkF m 81 #[.val (.int sel), .val (.int ((sel &&& (2147483647 : Int32)) % (5 : Int32))), .val (.ref a4), .val (.int (1 : Int32))] [(.int (1 : Int32))]))
          refine goRetN X23 hx hrt (by simp) hlk N23 (by decide) (by decide) (hb hby at_81) ?_
          try rw [p23_0]
          exact rfl
set_option maxRecDepth 65536 in
set_option maxHeartbeats 40000000 in
theorem comes_1 {Post : Tables → Env → Array Value → State → Outcome → State → Prop} (hpost : ∀ tb e args s v u, (limb_1_1.after args s (.returned v) u = true ∧ limb_1_2.after args s (.returned v) u = true ∧ True) → FrameEnd s (.returned v) u (Jvm.fieldLocs frame_1_writes args s ++ Jvm.arrayLocs frame_1_arrays args s ++ Jvm.staticLocs frame_1_statics s) 0 0 → Post tb e args s (.returned v) u) :
    ArmFor flags0 classFile x code maxLocals ret World_1 tables_1 room_1 Calls_1 rest_1 Pre_1 Post := by
  intro l hfl _ _ p e ha hc hk s m args below hf hA hF happ hP
  obtain ⟨hcalls, hrest, hpre⟩ := hP
  obtain ⟨-, -, -, hnamed, -, -, -, hat⟩ := (Spec.applies_iff hf).mp happ
  obtain ⟨hg, hn⟩ := and_e (Cond.before_iff.mp (show (Jvm.Cond.and given_1 narrow_1).before args s = true from hpre))
  obtain ⟨hcnt, ha0⟩ := and_e hg
  have hk0 := ha0
  obtain ⟨w0, rfl⟩ : ∃ w0 : Value, args = #[w0] := by
    have hs : args.size = 1 := by simpa [Cond.value, given_1] using hcnt
    obtain ⟨L⟩ := args
    match L, hs with
    | [w0], _ => exact ⟨w0, rfl⟩
  have hw := fun d (hd : d ∈ tables_1) => atoms_spec (ws := Jvm.Cond.code x code maxLocals ret :: tables_1) hat d (List.mem_cons_of_mem _ hd)
  have hfit : Fit s := fun {y c} hc i hi => by
    obtain ⟨ha, rfl⟩ := Array.getElem?_eq_some_iff.mp hc
    have q := List.all_eq_true.mp ((Array.all_eq_true_iff_forall_mem.mp hF) _ (Array.getElem_mem ha)) i (List.mem_range.mpr hi)
    simpa [Array.getElem?_eq_getElem hi] using q
  obtain ⟨i0, ei0⟩ := is_v hk0
  obtain rfl : w0 = (.int i0) := Option.some.inj ei0
  obtain ⟨nr0, hn0⟩ := and_e hn
  obtain ⟨nr1, hn1⟩ := and_e hn0
  obtain ⟨nr2, hn2⟩ := and_e hn1
  obtain ⟨nr3, hn3⟩ := and_e hn2
  obtain ⟨nr4, hn4⟩ := and_e hn3
  obtain ⟨nr5, hn5⟩ := and_e hn4
  obtain ⟨nr6, hn6⟩ := and_e hn5
  obtain ⟨nr7, hn7⟩ := and_e hn6
  obtain ⟨nr8, hn8⟩ := and_e hn7
  obtain ⟨nr9, hn9⟩ := and_e hn8
  obtain ⟨nr10, hn10⟩ := and_e hn9
  obtain ⟨nr11, hn11⟩ := and_e hn10
  obtain ⟨nr12, hn12⟩ := and_e hn11
  obtain ⟨nr13, hn13⟩ := and_e hn12
  have nr14 := hn13
  obtain ⟨a0, ea0⟩ := exa_v nr0
  have E0 := Exa.start ea0 nr0
  have S0 := Sta.start ea0 (Or.inr ⟨(W_2 hw), (W_3 hw)⟩)
  obtain ⟨w0, ew0⟩ := arr_v nr1
  have F0 := Fld.start ((fld_at ea0).symm.trans ew0)
  obtain ⟨c0, A0⟩ := Arr.start ew0 nr1
  have V0 := arv_start (dv := .null) hfit ew0 A0 nr2
  obtain ⟨a3, ea3⟩ := exa_v nr3
  have E3 := Exa.start ea3 nr3
  have S3 := Sta.start ea3 (Or.inr ⟨(W_2 hw), (W_12 hw)⟩)
  obtain ⟨w3, ew3⟩ := arr_v nr4
  have F3 := Fld.start ((fld_at ea3).symm.trans ew3)
  obtain ⟨c3, A3⟩ := Arr.start ew3 nr4
  have V3 := arv_start (dv := .null) hfit ew3 A3 nr5
  obtain ⟨a1, ea1⟩ := exa_v nr6
  have E1 := Exa.start ea1 nr6
  have S1 := Sta.start ea1 (Or.inr ⟨(W_2 hw), (W_14 hw)⟩)
  obtain ⟨w1, ew1⟩ := arr_v nr7
  have F1 := Fld.start ((fld_at ea1).symm.trans ew1)
  obtain ⟨c1, A1⟩ := Arr.start ew1 nr7
  have V1 := arv_start (dv := .null) hfit ew1 A1 nr8
  obtain ⟨a4, ea4⟩ := exa_v nr9
  have E4 := Exa.start ea4 nr9
  have S4 := Sta.start ea4 (Or.inr ⟨(W_2 hw), (W_16 hw)⟩)
  obtain ⟨w4, ew4⟩ := arr_v nr10
  have F4 := Fld.start ((fld_at ea4).symm.trans ew4)
  obtain ⟨c4, A4⟩ := Arr.start ew4 nr10
  have V4 := arv_start (dv := .null) hfit ew4 A4 nr11
  obtain ⟨a2, ea2⟩ := exa_v nr12
  have E2 := Exa.start ea2 nr12
  have S2 := Sta.start ea2 (Or.inr ⟨(W_2 hw), (W_18 hw)⟩)
  obtain ⟨w2, ew2⟩ := arr_v nr13
  have F2 := Fld.start ((fld_at ea2).symm.trans ew2)
  obtain ⟨c2, A2⟩ := Arr.start ew2 nr13
  have V2 := arv_start (dv := .null) hfit ew2 A2 nr14
  obtain ⟨n, o, h1, h2, h3, _, L, rfl, ⟨rfl, N⟩, hq⟩ := law l s _ hw i0 a0 w0 c0.cls c0.slots.toList a1 w1 c1.cls c1.slots.toList a2 w2 c2.cls c2.slots.toList a3 w3 c3.cls c3.slots.toList a4 w4 c4.cls c4.slots.toList (Old.start s) S0 E0 F0 V0 S1 E1 F1 V1 S2 E2 F2 V2 S3 E3 F3 V3 S4 E4 F4 V4 tables_1 p e ha hc hk s m _ below hf ((Spec.applies_iff_loose hf).mp happ).1 ⟨rfl, State.Warmed39.refl s, rfl⟩ trivial
  refine ⟨n, _, h1, h2, h3, hpost _ _ _ _ _ _ ⟨Cond.after_iff.mpr rfl, Cond.after_iff.mpr (eq_i res_at (Term.int_eval (1)) rfl), trivial⟩ ⟨hq.1, hq.2.1, (hq.2.2.sift fun y hy => Or.inr (N y hy)).mono (by decide) (by decide)⟩⟩
theorem main_1_1 : Claimed_1_1 := comes_1 fun _ _ _ _ _ _ h hF => ⟨h.1, hF⟩
theorem main_1_2 : Claimed_1_2 := comes_1 fun _ _ _ _ _ _ h hF => ⟨h.2.1, hF⟩

end Jvm.Pilot.@@N@@
namespace Jvm.Pilot.@@N@@
open Jvm Jvm.ClassFile Sem Op Lib Jvm.Free Jvm.Stand Jvm.Pilot.@@N@@.Jvm.D
/-! MADE BY PROGRAM (witnessworld.py) out of the Statement's table words and the real class files: 16 classes; the members and pool entries that the words name. The judged class is class 1, her method 1. -/
namespace start1
open Jvm.ClassFile
def u (s : String) : CpInfo := .utf8 (stringToUtf16 s)
/-- a pool by its gaps: so many unusable entries, then the entry; so many at the end -/
def gap : Nat → List CpInfo → List CpInfo
  | 0, r => r
  | n + 1, r => .unusable :: gap n r
def poolList (es : List (Nat × CpInfo)) (last : Nat) : List CpInfo := es.foldr (fun e r => gap e.1 (e.2 :: r)) (gap last [])
def pool (es : List (Nat × CpInfo)) (last : Nat) : Array CpInfo := ⟨poolList es last⟩
def fileOf (pool : Array CpInfo) (this : Nat) (attrs : Array Attribute := #[]) (ms : Array MethodInfo := #[]) (fl : Nat := 33) (sup : Nat := 0) (ifs : Array Nat := #[]) (fds : Array FieldInfo := #[]) : ClassFile where
  minorVersion := 0
  majorVersion := 65
  constantPool := pool
  accessFlags := fl
  thisClass := this
  superClass := sup
  interfaces := ifs
  fields := fds
  methods := ms
  attributes := attrs
def plain (name : String) (sup : Option ClassId) : Class where
  name := name
  kind := .ordinary
  loader := none
  accessFlags := 33
  super := sup
  interfaces := #[]
  cf := none
  fields := #[]
  methods := #[]
  instanceTypes := #[]
  staticTypes := #[]
  resolved := #[]
  callSites := []
  init := .initialized
  statics := none
  mirror := none

def pool0 : Array CpInfo := pool [(5, u "<init>"), (0, u "()V"), (1, .class_ 10), (1, u "java/lang/Object")] 113

def k0m0 : Method := { name := "<init>", desc := "()V", sig := { parameters := [], returnType := none }, accessFlags := 1, code := none }
/-- java/lang/Object -/
def k0 : Class := { plain "java/lang/Object" none with
  accessFlags := 33
  interfaces := #[]
  cf := some (fileOf pool0 8 #[] #[{ accessFlags := 1, nameIndex := 5, descriptorIndex := 6, attributes := #[] }] 33 0 #[] #[])
  fields := #[]
  methods := #[k0m0]
  instanceTypes := #[]
  staticTypes := #[]
  resolved := Array.replicate 124 none
  statics := none }

def pool1 : Array CpInfo := pool [(2, .class_ 4), (1, u "java/lang/Object"), (0, u "<init>"), (0, u "()V"), (0, .integer 2147483647), (0, .fieldref 9 10), (0, .class_ 11), (0, .nameAndType 12 13), (0, u "com/example/proper_parcel/properparcel/validate/document/MetadataSection"), (0, u "DESCRIPTIVE"), (0, u "Lcom/example/proper_parcel/properparcel/validate/document/MetadataSection;"), (0, .fieldref 9 15), (0, .nameAndType 16 13), (0, u "TECHNICAL"), (0, .fieldref 9 18), (0, .nameAndType 19 13), (0, u "RIGHTS"), (0, .fieldref 9 21), (0, .nameAndType 22 13), (0, u "SOURCE"), (0, .fieldref 9 24), (0, .nameAndType 25 13), (0, u "DIGITAL_PROVENANCE"), (0, .methodref 9 27), (0, .nameAndType 28 29), (0, u "isAdministrative"), (0, u "()Z"), (0, .class_ 31), (0, u "com/example/proper_parcel/properparcel/validate/document/MetadataSectionIsAdministrativePinLaw"), (2, u "law"), (0, u "(I)Z")] 3

def k1m0 : Method := { name := "<init>", desc := "()V", sig := { parameters := [], returnType := none }, accessFlags := 1, code := none }
def k1c1 : Code := { maxStack := 2, maxLocals := 4, code := code, exceptionTable := #[], attributes := #[] }
def k1m1 : Method := { name := "law", desc := "(I)Z", sig := { parameters := [.int], returnType := some .boolean }, accessFlags := 9, code := some k1c1 }
/-- com/example/proper_parcel/properparcel/validate/document/MetadataSectionIsAdministrativePinLaw -/
def k1 : Class := { plain "com/example/proper_parcel/properparcel/validate/document/MetadataSectionIsAdministrativePinLaw" (some 0) with
  accessFlags := 49
  interfaces := #[]
  cf := some (fileOf pool1 30 #[] #[{ accessFlags := 1, nameIndex := 5, descriptorIndex := 6, attributes := #[] }, { accessFlags := 9, nameIndex := 34, descriptorIndex := 35, attributes := #[] }] 49 2 #[] #[])
  fields := #[]
  methods := #[k1m0, k1m1]
  instanceTypes := #[]
  staticTypes := #[]
  resolved := Array.replicate 39 none
  statics := none }

def pool2 : Array CpInfo := pool [(1, .class_ 2), (0, u "java/lang/constant/Constable"), (0, .class_ 4), (0, u "java/lang/Object")] 6

/-- java/lang/constant/Constable -/
def k2 : Class := { plain "java/lang/constant/Constable" (some 0) with
  accessFlags := 1537
  interfaces := #[]
  cf := some (fileOf pool2 1 #[] #[] 1537 3 #[] #[])
  fields := #[]
  methods := #[]
  instanceTypes := #[]
  staticTypes := #[]
  resolved := Array.replicate 11 none
  statics := none }

def pool3 : Array CpInfo := pool [(1, .class_ 2), (0, u "java/lang/Comparable"), (0, .class_ 4), (0, u "java/lang/Object")] 7

/-- java/lang/Comparable -/
def k3 : Class := { plain "java/lang/Comparable" (some 0) with
  accessFlags := 1537
  interfaces := #[]
  cf := some (fileOf pool3 1 #[] #[] 1537 3 #[] #[])
  fields := #[]
  methods := #[]
  instanceTypes := #[]
  staticTypes := #[]
  resolved := Array.replicate 12 none
  statics := none }

def pool4 : Array CpInfo := pool [(1, .class_ 2), (0, u "java/io/Serializable"), (0, .class_ 4), (0, u "java/lang/Object")] 2

/-- java/io/Serializable -/
def k4 : Class := { plain "java/io/Serializable" (some 0) with
  accessFlags := 1537
  interfaces := #[]
  cf := some (fileOf pool4 1 #[] #[] 1537 3 #[] #[])
  fields := #[]
  methods := #[]
  instanceTypes := #[]
  staticTypes := #[]
  resolved := Array.replicate 7 none
  statics := none }

def pool5 : Array CpInfo := pool [(2, .class_ 4), (1, u "java/lang/Enum"), (0, u "name"), (0, u "Ljava/lang/String;"), (2, u "ordinal"), (0, u "I"), (1, .class_ 14), (1, u "java/lang/Object"), (4, u "hash"), (86, .class_ 108), (1, u "java/lang/Enum$EnumDesc"), (2, .class_ 112), (0, u "java/lang/constant/Constable"), (0, .class_ 114), (0, u "java/lang/Comparable"), (0, .class_ 116), (0, u "java/io/Serializable")] 87

/-- java/lang/Enum -/
def k5 : Class := { plain "java/lang/Enum" (some 0) with
  accessFlags := 1057
  interfaces := #[2, 3, 4]
  cf := some (fileOf pool5 2 #[.nestMembers #[106]] #[] 1057 12 #[111, 113, 115] #[{ accessFlags := 18, nameIndex := 5, descriptorIndex := 6, attributes := #[] }, { accessFlags := 18, nameIndex := 9, descriptorIndex := 10, attributes := #[] }, { accessFlags := 2, nameIndex := 19, descriptorIndex := 10, attributes := #[] }])
  fields := #[{ name := "name", type := (.object "java/lang/String"), accessFlags := 18, slot := 0, constantValue := 0 }, { name := "ordinal", type := .int, accessFlags := 18, slot := 1, constantValue := 0 }, { name := "hash", type := .int, accessFlags := 2, slot := 2, constantValue := 0 }]
  methods := #[]
  instanceTypes := #[(.object "java/lang/String"), .int, .int]
  staticTypes := #[]
  resolved := Array.replicate 204 none
  statics := none }

def pool6 : Array CpInfo := pool [(1, .class_ 2), (0, u "com/example/proper_parcel/properparcel/validate/document/MetadataSection"), (2, u "DESCRIPTIVE"), (0, u "Lcom/example/proper_parcel/properparcel/validate/document/MetadataSection;"), (2, u "TECHNICAL"), (2, u "RIGHTS"), (2, u "SOURCE"), (2, u "DIGITAL_PROVENANCE"), (2, u "$VALUES"), (0, u "[Lcom/example/proper_parcel/properparcel/validate/document/MetadataSection;"), (6, .class_ 31), (1, u "java/lang/Enum"), (6, .fieldref 1 39), (0, .nameAndType 40 41), (0, u "path"), (0, u "[Ljava/lang/String;"), (6, u "isAdministrative"), (0, u "()Z")] 51

def k6c0 : Code := { maxStack := 2, maxLocals := 1, code := prog_50_method_5_code, exceptionTable := #[], attributes := #[] }
def k6m0 : Method := { name := "isAdministrative", desc := "()Z", sig := { parameters := [], returnType := some .boolean }, accessFlags := 1, code := some k6c0 }
/-- com/example/proper_parcel/properparcel/validate/document/MetadataSection -/
def k6 : Class := { plain "com/example/proper_parcel/properparcel/validate/document/MetadataSection" (some 5) with
  accessFlags := 16433
  interfaces := #[]
  cf := some (fileOf pool6 1 #[] #[{ accessFlags := 1, nameIndex := 48, descriptorIndex := 49, attributes := #[] }] 16433 29 #[] #[{ accessFlags := 16409, nameIndex := 5, descriptorIndex := 6, attributes := #[] }, { accessFlags := 16409, nameIndex := 9, descriptorIndex := 6, attributes := #[] }, { accessFlags := 16409, nameIndex := 12, descriptorIndex := 6, attributes := #[] }, { accessFlags := 16409, nameIndex := 15, descriptorIndex := 6, attributes := #[] }, { accessFlags := 16409, nameIndex := 18, descriptorIndex := 6, attributes := #[] }, { accessFlags := 18, nameIndex := 40, descriptorIndex := 41, attributes := #[] }, { accessFlags := 4122, nameIndex := 21, descriptorIndex := 22, attributes := #[] }])
  fields := #[{ name := "DESCRIPTIVE", type := (.object "com/example/proper_parcel/properparcel/validate/document/MetadataSection"), accessFlags := 16409, slot := 0, constantValue := 0 }, { name := "TECHNICAL", type := (.object "com/example/proper_parcel/properparcel/validate/document/MetadataSection"), accessFlags := 16409, slot := 1, constantValue := 0 }, { name := "RIGHTS", type := (.object "com/example/proper_parcel/properparcel/validate/document/MetadataSection"), accessFlags := 16409, slot := 2, constantValue := 0 }, { name := "SOURCE", type := (.object "com/example/proper_parcel/properparcel/validate/document/MetadataSection"), accessFlags := 16409, slot := 3, constantValue := 0 }, { name := "DIGITAL_PROVENANCE", type := (.object "com/example/proper_parcel/properparcel/validate/document/MetadataSection"), accessFlags := 16409, slot := 4, constantValue := 0 }, { name := "path", type := (.array (.object "java/lang/String")), accessFlags := 18, slot := 3, constantValue := 0 }, { name := "$VALUES", type := (.array (.object "com/example/proper_parcel/properparcel/validate/document/MetadataSection")), accessFlags := 4122, slot := 5, constantValue := 0 }]
  methods := #[k6m0]
  instanceTypes := #[(.object "java/lang/String"), .int, .int, (.array (.object "java/lang/String"))]
  staticTypes := #[(.object "com/example/proper_parcel/properparcel/validate/document/MetadataSection"), (.object "com/example/proper_parcel/properparcel/validate/document/MetadataSection"), (.object "com/example/proper_parcel/properparcel/validate/document/MetadataSection"), (.object "com/example/proper_parcel/properparcel/validate/document/MetadataSection"), (.object "com/example/proper_parcel/properparcel/validate/document/MetadataSection"), (.array (.object "com/example/proper_parcel/properparcel/validate/document/MetadataSection"))]
  resolved := Array.replicate 101 none
  statics := some 0 }

def pool7 : Array CpInfo := pool [(2, .class_ 4), (1, u "java/lang/CharSequence"), (42, .class_ 48), (0, u "java/lang/CharSequence$1CodePointIterator"), (10, .class_ 60), (0, u "java/lang/CharSequence$1CharIterator"), (5, .class_ 67), (0, u "java/lang/Object")] 63

/-- java/lang/CharSequence -/
def k7 : Class := { plain "java/lang/CharSequence" (some 0) with
  accessFlags := 1537
  interfaces := #[]
  cf := some (fileOf pool7 2 #[.nestMembers #[47, 59]] #[] 1537 66 #[] #[])
  fields := #[]
  methods := #[]
  instanceTypes := #[]
  staticTypes := #[]
  resolved := Array.replicate 131 none
  statics := none }

def pool8 : Array CpInfo := pool [(1, .class_ 2), (0, u "java/lang/constant/ConstantDesc"), (0, .class_ 4), (0, u "java/lang/Object")] 32

/-- java/lang/constant/ConstantDesc -/
def k8 : Class := { plain "java/lang/constant/ConstantDesc" (some 0) with
  accessFlags := 1537
  interfaces := #[]
  cf := some (fileOf pool8 1 #[] #[] 1537 3 #[] #[])
  fields := #[]
  methods := #[]
  instanceTypes := #[]
  staticTypes := #[]
  resolved := Array.replicate 37 none
  statics := none }

def pool9 : Array CpInfo := pool [(2, .class_ 4), (1, u "java/lang/Object"), (0, u "<init>"), (0, u "()V"), (3, .class_ 12), (1, u "java/lang/String"), (0, u "value"), (0, u "[B"), (2, u "coder"), (0, u "B"), (2, u "hash"), (0, u "I"), (2, u "hashIsZero"), (0, u "Z"), (13, u "COMPACT_STRINGS"), (534, .class_ 576), (0, u "java/lang/CharSequence"), (22, u "CASE_INSENSITIVE_ORDER"), (0, u "Ljava/util/Comparator;"), (500, u "serialPersistentFields"), (0, u "[Ljava/io/ObjectStreamField;"), (0, .class_ 1104), (0, u "java/lang/String$CaseInsensitiveComparator"), (1, .class_ 1107), (0, u "java/io/Serializable"), (0, .class_ 1109), (0, u "java/lang/Comparable"), (0, .class_ 1111), (0, u "java/lang/constant/Constable"), (0, .class_ 1113), (0, u "java/lang/constant/ConstantDesc"), (2, u "serialVersionUID"), (0, u "J"), (3, u "REPL"), (0, u "C"), (2, u "LATIN1"), (1, u "UTF16")] 323

def k9m0 : Method := { name := "<init>", desc := "()V", sig := { parameters := [], returnType := none }, accessFlags := 1, code := none }
/-- java/lang/String -/
def k9 : Class := { plain "java/lang/String" (some 0) with
  accessFlags := 49
  interfaces := #[4, 3, 7, 2, 8]
  cf := some (fileOf pool9 10 #[.nestMembers #[1103]] #[{ accessFlags := 1, nameIndex := 5, descriptorIndex := 6, attributes := #[] }] 49 2 #[1106, 1108, 575, 1110, 1112] #[{ accessFlags := 18, nameIndex := 13, descriptorIndex := 14, attributes := #[] }, { accessFlags := 18, nameIndex := 17, descriptorIndex := 18, attributes := #[] }, { accessFlags := 2, nameIndex := 21, descriptorIndex := 22, attributes := #[] }, { accessFlags := 2, nameIndex := 25, descriptorIndex := 26, attributes := #[] }, { accessFlags := 26, nameIndex := 1116, descriptorIndex := 1117, attributes := #[] }, { accessFlags := 24, nameIndex := 40, descriptorIndex := 26, attributes := #[] }, { accessFlags := 26, nameIndex := 1101, descriptorIndex := 1102, attributes := #[] }, { accessFlags := 26, nameIndex := 1121, descriptorIndex := 1122, attributes := #[] }, { accessFlags := 25, nameIndex := 599, descriptorIndex := 600, attributes := #[] }, { accessFlags := 24, nameIndex := 1125, descriptorIndex := 18, attributes := #[] }, { accessFlags := 24, nameIndex := 1127, descriptorIndex := 18, attributes := #[] }])
  fields := #[{ name := "value", type := (.array .byte), accessFlags := 18, slot := 0, constantValue := 0 }, { name := "coder", type := .byte, accessFlags := 18, slot := 1, constantValue := 0 }, { name := "hash", type := .int, accessFlags := 2, slot := 2, constantValue := 0 }, { name := "hashIsZero", type := .boolean, accessFlags := 2, slot := 3, constantValue := 0 }, { name := "serialVersionUID", type := .long, accessFlags := 26, slot := 0, constantValue := 0 }, { name := "COMPACT_STRINGS", type := .boolean, accessFlags := 24, slot := 1, constantValue := 0 }, { name := "serialPersistentFields", type := (.array (.object "java/io/ObjectStreamField")), accessFlags := 26, slot := 2, constantValue := 0 }, { name := "REPL", type := .char, accessFlags := 26, slot := 3, constantValue := 0 }, { name := "CASE_INSENSITIVE_ORDER", type := (.object "java/util/Comparator"), accessFlags := 25, slot := 4, constantValue := 0 }, { name := "LATIN1", type := .byte, accessFlags := 24, slot := 5, constantValue := 0 }, { name := "UTF16", type := .byte, accessFlags := 24, slot := 6, constantValue := 0 }]
  methods := #[k9m0]
  instanceTypes := #[(.array .byte), .byte, .int, .boolean]
  staticTypes := #[.long, .boolean, (.array (.object "java/io/ObjectStreamField")), .char, (.object "java/util/Comparator"), .byte, .byte]
  resolved := Array.replicate 1451 none
  statics := none }

def pool10 : Array CpInfo := pool [(1, u "java/lang/Cloneable"), (0, .class_ 1), (0, u "java/lang/Object"), (0, .class_ 3)] 3

/-- java/lang/Cloneable -/
def k10 : Class := { plain "java/lang/Cloneable" (some 0) with
  accessFlags := 1537
  interfaces := #[]
  cf := some (fileOf pool10 2 #[] #[] 1537 4 #[] #[])
  fields := #[]
  methods := #[]
  instanceTypes := #[]
  staticTypes := #[]
  resolved := Array.replicate 8 none
  statics := none }

/-- the primitive byte -/
def k11 : Class := { plain "byte" none with kind := .primitive 'B', accessFlags := 0x411 }
/-- [B -/
def k12 : Class := { plain "[B" (some 0) with kind := .array 11 .byte, interfaces := #[10, 4], accessFlags := 1041 }

/-- the primitive int -/
def k13 : Class := { plain "int" none with kind := .primitive 'I', accessFlags := 0x411 }
/-- [I -/
def k14 : Class := { plain "[I" (some 0) with kind := .array 13 .int, interfaces := #[10, 4], accessFlags := 1041 }

/-- [Ljava/lang/String; -/
def k15 : Class := { plain "[Ljava/lang/String;" (some 0) with kind := .array 9 (.object "java/lang/String"), interfaces := #[10, 4], accessFlags := 1041 }

def heap : Heap := #[{ cls := 6, slots := #[.ref 3, .ref 4, .ref 5, .ref 6, .ref 7, .null], vm := .statics 6 },
  { cls := 15, slots := #[.null], vm := .none },
  { cls := 15, slots := #[.null, .null], vm := .none },
  { cls := 6, slots := #[.null, .int 0, .int 0, .ref 1], vm := .none },
  { cls := 6, slots := #[.null, .int 1, .int 0, .ref 2], vm := .none },
  { cls := 6, slots := #[.null, .int 2, .int 0, .ref 2], vm := .none },
  { cls := 6, slots := #[.null, .int 3, .int 0, .ref 2], vm := .none },
  { cls := 6, slots := #[.null, .int 4, .int 0, .ref 2], vm := .none }]
def classes : Array Class := #[k0, k1, k2, k3, k4, k5, k6, k7, k8, k9, k10, k11, k12, k13, k14, k15]
def interned : List (Array UInt16 × Addr) := []
def slotsUsed : Nat := 29
def theMethod : MethodId := ⟨1, 1⟩
def args0 : Array Value := #[.int 5]
def aboutOver (below : List Frame) : State where
  vm := { classes := classes, interned := interned.toArray }
  heap := heap
  slotsUsed := slotsUsed
  threads := #[{ frames := .invoking theMethod args0 :: below }]
def below0 : List Frame := [.native { method := ⟨0, 0⟩, args := #[] }]
def about1 : State := aboutOver below0
def p0 : Program := .bare "" "" ""
def e0 : Env := launch0.env 0 0 0
theorem w_frames : about1.frames = Frame.invoking theMethod args0 :: below0 := rfl
set_option maxRecDepth 65536 in
theorem w_args : argsFit about1.vm theMethod args0 = true := by decide +kernel
set_option maxRecDepth 65536 in
theorem w_heap : heapFits about1 = true := by decide +kernel
set_option maxRecDepth 65536 in
theorem w_runnable : about1.curStatus? = some .runnable := by decide +kernel
set_option maxRecDepth 65536 in
theorem w_alone : about1.alone = true := by decide +kernel
set_option maxRecDepth 65536 in
theorem w_named : about1.methodNamed? x = some theMethod := by decide +kernel
set_option maxRecDepth 65536 in
theorem w_hears : about1.hears theMethod below0 = true := by decide +kernel
set_option maxRecDepth 65536 in
theorem w_ripe : about1.ripe theMethod args0 below0 = true := by decide +kernel
theorem w_running : about1.status = .running := rfl
set_option maxRecDepth 65536 in
theorem w_room : about1.hasRoom e0.platform room_1 = true :=
  launch0.hasRoom_least _ room_1 (by decide +kernel) (by decide +kernel) (by decide +kernel) (by decide +kernel) (by decide +kernel) (by decide +kernel)
theorem allAtoms_all (ts : List Jvm.Cond) (a : Array Jvm.Value) (st : Jvm.State) : (allAtoms ts).before a st = ts.all (fun c => c.before a st) := by
  induction ts with
  | nil => rfl
  | cons c t ih =>
    show (Jvm.Cond.and c (allAtoms t)).before a st = _
    rw [Jvm.Cond.before_and, ih, List.all_cons]
def words1 : List Jvm.Cond := Jvm.Cond.code x code maxLocals ret :: tables_1
/-- a 'code' word, met by the world's own term for the bytes: nothing is compared byte by byte -/
theorem code_word {y : MethodName} {bytes : ByteArray} {mx : Nat} {rt : Option FieldType} {a : Array Value} {s : State} {m : MethodId} {meth : Method} {c : Code} (h1 : s.methodNamed? y = some m) (h2 : s.vm.method? m = some meth) (h3 : meth.code = some c) (h4 : c.code = bytes)
    (h5 : (c.maxLocals == mx && c.exceptionTable.isEmpty && decide (c.maxStack ≤ mostOperands) && decide (meth.sig.returnType = rt) && !meth.locks && decide (parseMethodDescriptor y.desc = some meth.sig)) = true) : (Jvm.Cond.code y bytes mx rt).before a s = true := by
  simp only [Bool.and_eq_true, beq_iff_eq, Bool.not_eq_true', decide_eq_true_eq] at h5
  obtain ⟨⟨⟨⟨⟨g1, g2⟩, g3⟩, g4⟩, g5⟩, g6⟩ := h5
  simp [Cond.before, Cond.holds, Cond.value, h1, h2, h3, h4, g1, g2, g3, g4, g5, g6]
def isCode : Jvm.Cond → Bool
  | .code _ _ _ _ => true
  | _ => false
theorem all_split {L : List Jvm.Cond} {P : Jvm.Cond → Bool} (h1 : L.all (fun c => isCode c || P c) = true) (h2 : ∀ c ∈ L.filter isCode, P c = true) : L.all P = true := by
  refine List.all_eq_true.mpr fun c hc => ?_
  have h := List.all_eq_true.mp h1 c hc
  rcases Bool.eq_false_or_eq_true (isCode c) with hi | hi
  · exact h2 c (List.mem_filter.mpr ⟨hc, hi⟩)
  · simpa [hi] using h
set_option maxRecDepth 65536 in
theorem w_c0 : (Jvm.Cond.code x code maxLocals ret).before args0 about1 = true := code_word (m := ⟨1, 1⟩) (meth := k1m1) (c := k1c1) (by decide +kernel) rfl rfl rfl (by decide +kernel)
set_option maxRecDepth 65536 in
theorem w_c1 : (Jvm.Cond.code ({ cls := "com/example/proper_parcel/properparcel/validate/document/MetadataSection", name := "isAdministrative", desc := "()Z" } : Jvm.MethodName) prog_50_method_5_code (1 : Nat) (Option.some Jvm.ClassFile.FieldType.boolean)).before args0 about1 = true := code_word (m := ⟨6, 0⟩) (meth := k6m0) (c := k6c0) (by decide +kernel) rfl rfl rfl (by decide +kernel)
def codes1 : List Jvm.Cond := [Jvm.Cond.code x code maxLocals ret, Jvm.Cond.code ({ cls := "com/example/proper_parcel/properparcel/validate/document/MetadataSection", name := "isAdministrative", desc := "()Z" } : Jvm.MethodName) prog_50_method_5_code (1 : Nat) (Option.some Jvm.ClassFile.FieldType.boolean)]
set_option maxRecDepth 65536 in
theorem codes_eq : words1.filter isCode = codes1 := rfl
theorem w_codes : ∀ c ∈ words1.filter isCode, c.before args0 about1 = true := by
  rw [codes_eq]
  intro c hc
  simp only [codes1, List.mem_cons, List.not_mem_nil, or_false] at hc
  rcases hc with rfl | rfl
  · exact w_c0
  · exact w_c1
set_option maxRecDepth 65536 in
theorem w_t1 : words1.all (fun c => isCode c || c.before args0 about1) = true := by decide +kernel
theorem w_tables : (allAtoms (Jvm.Cond.code x code maxLocals ret :: tables_1)).before args0 about1 = true := by
  rw [allAtoms_all]
  show words1.all (fun c => c.before args0 about1) = true
  refine all_split ?_ w_codes
  rw [w_t1]
set_option maxRecDepth 65536 in
theorem w_case : (Jvm.Cond.and given_1 narrow_1).before args0 about1 = true := by decide +kernel
theorem w_applies : (headSpec (Jvm.Cond.code x code maxLocals ret :: tables_1) room_1).applies x e0.platform about1 = true :=
  (Spec.applies_iff w_frames).mpr ⟨w_running, w_runnable, w_alone, w_named, w_hears, w_ripe, w_room, w_tables⟩
theorem atStart : AtStart classFile x code maxLocals ret World_1 tables_1 room_1 Calls_1 rest_1 Pre_1 launch0 p0 e0 about1 theMethod args0 below0 :=
  ⟨lists_1, trivial, launch0.admits_env _ _ _, launch0.least_env, fairChoices_fair.cas, fairChoices_fair.clock, w_frames, w_args, w_heap, w_applies, trivial, trivial, w_case⟩
end start1
theorem witness_1 : WitnessClaimed_1 := ⟨start1.p0, start1.e0, start1.about1, start1.theMethod, start1.args0, start1.below0, start1.atStart⟩
end Jvm.Pilot.@@N@@
