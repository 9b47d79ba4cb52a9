import JvmDerived
import JvmDerived.Pilot.@@N@@Statement
import JvmDerived.Pilot.@@N@@Code
set_option linter.unusedVariables false
set_option linter.unusedSimpArgs false
/-! the layer of this seat's own: a walk that ends well (Goes), contracts (MET), calls by them -/
namespace Jvm.RoadKit
open Sem ClassFile Op Lib Jvm.Stand Jvm.Free Jvm.LawKit
section OwnLayer
variable {p : Program} {l : Launch} {e : Env} {R : Room} {s : State} {m : MethodId} {args : Array Value} {below : List Frame} {meth : Method} {c : Code} {T : State} {locs : List Loc} {cells slots : Nat} {Z : State} {a0 : Array Value} {h : Heap} {kc ks n0 : Nat} {Q : Option Value → Heap → Prop} {A B : State}
/-- from S the run comes to the end of this invocation, and Q holds there -/
def Goes (p : Program) (e : Env) (below : List Frame) (s : State) (kc ks n0 : Nat) (Q : Option Value → Heap → Prop) (S : State) : Prop :=
  ∃ s₂ o, Steps p.tables e below S s₂ ∧ s₂.status = .running ∧ Ended s₂ below o ∧ ∃ v L, o = .returned v ∧ (Q v s₂.heap ∧ Fr n0 L) ∧ FrameEnd s o s₂ L kc ks
theorem Goes.via (h : ∀ t, Steps p.tables e below B t → Steps p.tables e below A t) (g : Goes p e below s kc ks n0 Q B) : Goes p e below s kc ks n0 Q A := by
  obtain ⟨s₂, o, h1, h2⟩ := g
  exact ⟨s₂, o, h _ h1, h2⟩
theorem Goes.fin (X : Stand p l e R s m args below meth c T locs cells slots) {v : Option Value} {g : JFrame} (hv : meth.sig.returnType = none → v = none) (hlk : meth.locks = false) (N : Fr n0 locs) (hc : cells ≤ kc) (hs : slots ≤ ks) (hq : Q v T.heap)
    (hr : ∀ fs, (∀ (f : JFrame) (acts : List Action), f.method = m → f.locked = none → f.entered = [] → (doReturn e (T.setTop f) acts v).1 = T.setFrames fs) → Steps p.tables e below (T.setTop g) (T.setFrames fs)) : Goes p e below s kc ks n0 Q (T.setTop g) := by
  obtain ⟨fs, hr', hrun, hended, hW, hsame⟩ := X.leave hv hlk
  exact ⟨_, _, hr fs hr', hrun, hended, _, _, rfl, ⟨hq, N⟩, ⟨_, rfl⟩, hW, hsame.mono hc hs⟩
theorem goRetN (X : Stand p l e R s m args below meth c T locs cells slots) (hx : p.tables.exec = Jvm.exec) {t : FieldType} (hrt : meth.sig.returnType = some t) (ht : t = .boolean ∨ t = .byte ∨ t = .char ∨ t = .short) (hlk : meth.locks = false) (N : Fr n0 locs) (hc : cells ≤ kc) (hs : slots ≤ ks)
    {pc : Nat} {Ls : Array Slot} {z : Int32} {rest : List Value} (hd : decode c.code pc = .ok (.ireturn, 1)) (hq : Q (some (.int (nar t z))) T.heap) : Goes p e below s kc ks n0 Q (T.setTop (mkF m pc Ls (.int z :: rest))) :=
  Goes.fin X (fun q => by rw [hrt] at q; cases q) hlk N hc hs hq fun fs hr => retN X hx (t := t) hrt ht hd hr
theorem goRetO (X : Stand p l e R s m args below meth c T locs cells slots) (hx : p.tables.exec = Jvm.exec) {t : FieldType} (hrt : meth.sig.returnType = some t) (hlk : meth.locks = false) (N : Fr n0 locs) (hc : cells ≤ kc) (hs : slots ≤ ks)
    {pc : Nat} {Ls : Array Slot} {w : Value} {i : Instr} {rest : List Value} (hn : narrow t w = w)
    (hi : (i = .ireturn ∧ (t = .int ∨ t = .boolean ∨ t = .byte ∨ t = .char ∨ t = .short) ∧ ∃ z, w = .int z) ∨ (i = .lreturn ∧ t = .long ∧ ∃ z, w = .long z) ∨ (i = .dreturn ∧ t = .double ∧ ∃ z, w = .double z) ∨ (i = .freturn ∧ t = .float ∧ ∃ z, w = .float z) ∨ (i = .areturn ∧ t.isReference = true ∧ w.isRef = true))
    (hd : decode c.code pc = .ok (i, 1)) (hq : Q (some w) T.heap) : Goes p e below s kc ks n0 Q (T.setTop (mkF m pc Ls (w :: rest))) :=
  Goes.fin X (fun q => by rw [hrt] at q; cases q) hlk N hc hs hq fun fs hr => retOut X hx hrt hn hi hd hr
theorem goRetI (X : Stand p l e R s m args below meth c T locs cells slots) (hx : p.tables.exec = Jvm.exec) (hrt : meth.sig.returnType = some .int) (hlk : meth.locks = false) (N : Fr n0 locs) (hc : cells ≤ kc) (hs : slots ≤ ks)
    {pc : Nat} {Ls : Array Slot} {z : Int32} {rest : List Value} (hd : decode c.code pc = .ok (.ireturn, 1)) (hq : Q (some (.int z)) T.heap) : Goes p e below s kc ks n0 Q (T.setTop (mkF m pc Ls (.int z :: rest))) :=
  goRetO X hx hrt hlk N hc hs rfl (Or.inl ⟨rfl, Or.inl rfl, _, rfl⟩) hd hq
theorem goRetJ (X : Stand p l e R s m args below meth c T locs cells slots) (hx : p.tables.exec = Jvm.exec) (hrt : meth.sig.returnType = some .long) (hlk : meth.locks = false) (N : Fr n0 locs) (hc : cells ≤ kc) (hs : slots ≤ ks)
    {pc : Nat} {Ls : Array Slot} {z : Int64} {rest : List Value} (hd : decode c.code pc = .ok (.lreturn, 1)) (hq : Q (some (.long z)) T.heap) : Goes p e below s kc ks n0 Q (T.setTop (mkF m pc Ls (.long z :: rest))) :=
  goRetO X hx hrt hlk N hc hs rfl (Or.inr (Or.inl ⟨rfl, rfl, _, rfl⟩)) hd hq
theorem goRetA (X : Stand p l e R s m args below meth c T locs cells slots) (hx : p.tables.exec = Jvm.exec) {t : FieldType} (hrt : meth.sig.returnType = some t) (ht : t.isReference = true) (hlk : meth.locks = false) (N : Fr n0 locs) (hc : cells ≤ kc) (hs : slots ≤ ks)
    {pc : Nat} {Ls : Array Slot} {w : Value} {rest : List Value} (hw : w.isRef = true) (hd : decode c.code pc = .ok (.areturn, 1)) (hq : Q (some w) T.heap) : Goes p e below s kc ks n0 Q (T.setTop (mkF m pc Ls (w :: rest))) :=
  goRetO X hx hrt hlk N hc hs (by cases t <;> cases w <;> first | rfl | (cases ht; done) | (cases hw; done)) (Or.inr (Or.inr (Or.inr (Or.inr ⟨rfl, ht, hw⟩)))) hd hq
theorem goRetV (X : Stand p l e R s m args below meth c T locs cells slots) (hx : p.tables.exec = Jvm.exec) (hrt : meth.sig.returnType = none) (hlk : meth.locks = false) (N : Fr n0 locs) (hc : cells ≤ kc) (hs : slots ≤ ks)
    {pc : Nat} {Ls : Array Slot} (hd : decode c.code pc = .ok (.return_, 1)) (hq : Q none T.heap) : Goes p e below s kc ks n0 Q (T.setTop (mkF m pc Ls [])) :=
  Goes.fin X (fun _ => rfl) hlk N hc hs hq fun fs hr => X.returnOut hx hrt hd hr
/-- a contract: from a heap h0, with these arguments, the invocation returns and Q holds of what it returned and of the heap -/
abbrev MET (l : Launch) (Z : State) (y : MethodName) (bytes : ByteArray) (maxL : Nat) (ret : Option FieldType) (rm : Room) (as' : Array Value) (h0 : Heap) (n0 : Nat) (Q : Option Value → Heap → Prop) : Prop :=
  ∀ ws : List Jvm.Cond, MetFree l y (head1 (Jvm.Cond.code y bytes maxL ret :: ws) rm) (fun a U => a = as' ∧ Z.Warmed39 U.vm ∧ U.heap = h0) (fun _ _ _ _ _ => True) (fun _ U o U' => ∃ v L, o = .returned v ∧ (Q v U'.heap ∧ Fr n0 L) ∧ FrameEnd U o U' L rm.cells rm.slots)
theorem metOf {y : MethodName} {bytes : ByteArray} {maxL : Nat} {ret : Option FieldType} {rm : Room} {as' : Array Value} {h0 : Heap} (hpf : plainFor y = true)
    (body : ∀ (p : Program) (e : Env) (s : State) (m : MethodId) (below : List Frame) (meth : Method) (c : Code) (T : State), p.tables.exec = Jvm.exec → c.code = bytes → c.maxLocals = maxL → meth.sig.returnType = ret → meth.locks = false → meth.name = y.name → Z.Warmed39 s.vm → s.vm.findClass y.cls = some m.cls →
      Stand p l e rm s m as' below meth c T [] 0 0 → T.heap = h0 → Goes p e below s rm.cells rm.slots n0 Q (T.setTop (entryFrame m as' maxL))) : MET l Z y bytes maxL ret rm as' h0 n0 Q := by
  intro ws
  refine MetFree.of_bodySF hpf hisR ?_
  intro p e s m args below meth c s₁ Bd hml0 hP hK
  obtain ⟨rfl, hZ, hh⟩ := hP
  exact body p e s m below meth c s₁ Bd.exec Bd.bytes hml0 Bd.returns Bd.notSynchronized (name_of_methodNamed Bd.named Bd.method).1 hZ (findClass_of_methodNamed Bd.named) (Stand.of_body Bd) (by rw [← hh, Bd.state]; rfl)
theorem goCast {g g' : JFrame} (q : g = g') (k : Goes p e below s kc ks n0 Q (T.setTop g')) : Goes p e below s kc ks n0 Q (T.setTop g) := q ▸ k
theorem iincZ {tb : Tables} [Ours tb] {target : State} {g : JFrame} (h : At T m c below) (hx : tb.exec = Jvm.exec) (hg : g.method = m) {k : Nat} {cst : Int} {x : Int32} {l' : Array Slot} (z : Int32) (hd : decode c.code g.pc = .ok (.iinc k cst, 3)) (hz : x + Int32.ofInt cst = z) (hl : g.locals[k]? = some (.val (.int x))) (hl' : storeLocals g.locals k (.int z) = some l')
    (hr : Steps tb e below (T.setTop { g with pc := g.pc + 3, locals := l' }) target) : Steps tb e below (T.setTop g) target := XS.iinc h hx hg hd hl (hz ▸ hl') hr
theorem all_getD {P : Value → Prop} {d : Value} (hd : P d) : ∀ (vs : List Value) (i : Nat), (∀ v ∈ vs, P v) → P (vs.getD i d)
  | [], i, _ => by simpa using hd
  | v :: vs, 0, q => by simpa using q v (List.mem_cons_self ..)
  | v :: vs, i + 1, q => by simpa using all_getD hd vs i fun w hw => q w (List.mem_cons_of_mem _ hw)
/-! calls by a contract -/
section Calls
variable {own C : String} {index : Nat} {y z : MethodName} {bytes : ByteArray} {maxL : Nat} {ret : Option FieldType} {rm : Room} {as' : Array Value} {Qc : Option Value → Heap → Prop} {W : Nat} {g : JFrame} {argsL rest : List Value} {a : Addr}
theorem callSt (X : Stand p l e R s m args below meth c T locs cells slots) (hx : p.tables.exec = Jvm.exec) (hZ : Z.Warmed39 s.vm) (hown : s.vm.findClass own = some m.cls) (hM : MET l Z y bytes maxL ret rm as' h n0 Qc) (w1 : (Jvm.Cond.methodLink own index y).before a0 Z = true) (w2 : (Jvm.Cond.static y).before a0 Z = true) (w3 : (Jvm.Cond.initialized y.cls).before a0 Z = true) (w4 : (Jvm.Cond.code y bytes maxL ret).before a0 Z = true)
    (hy : y.cls ≠ "java/lang/invoke/MethodHandle" ∧ y.cls ≠ "java/lang/invoke/VarHandle") (eT : T.heap = h) (hf : rm.frames + 1 ≤ R.frames) (hl : W + (maxL + 11) + rm.locals ≤ R.locals) (hc : cells + rm.cells ≤ R.cells) (hsl : slots + rm.slots ≤ R.slots)
    (hg : g.method = m) (hsize : g.locals.size = c.maxLocals) (ha : argsL.toArray = as') (hlen : ∀ sig, parseMethodDescriptor y.desc = some sig → argsL.length = sig.parameters.length) (hs : g.stack = argsL.reverse ++ rest) (hW : 2 * g.monitorRoom + (rest.map fun v => v.category).sum ≤ W) (hd : decode c.code g.pc = .ok (.invokestatic index, 3)) :
    ∃ (v : Option Value) (T' : State) (L : List Loc), Stand p l e R s m args below meth c T' (locs ++ L) (cells + rm.cells) (slots + rm.slots) ∧ Qc v T'.heap ∧ Fr n0 L ∧ ∀ t, Steps p.tables e below (T'.setTop { g with pc := g.pc + 3, stack := v.toList ++ rest }) t → Steps p.tables e below (T.setTop g) t := by
  obtain ⟨v, _, ⟨T', L', k', n'⟩, -, X', ⟨Lc, ⟨hq, hn⟩, e1, e2, e3⟩, st⟩ := Jvm.LawKit.callS X hx (y := y) hown (mvT hZ w1) (mvT hZ w2) (mvT hZ w3) (mvT hZ w4) hy (backOf (W := W) (Q := fun v h L => Qc v h ∧ Fr n0 L) (hM []) hZ w4 w3 hf hl) hg hsize hlen hs hW hd (fun _ _ => ⟨ha, eT, hc, hsl⟩)
  dsimp only [Pt.U, Pt.locs, Pt.cells, Pt.slots] at X' e1 e2 e3 st hq
  subst e1 e2 e3
  exact ⟨v, T', Lc, X', hq, hn, st⟩
theorem callSp (X : Stand p l e R s m args below meth c T locs cells slots) (hx : p.tables.exec = Jvm.exec) (hZ : Z.Warmed39 s.vm) (hown : s.vm.findClass own = some m.cls) (hM : MET l Z y bytes maxL none rm as' h n0 Qc) (hin : y.name = "<init>") (w1 : (Jvm.Cond.methodLink own index y).before a0 Z = true) (w2 : (Jvm.Cond.instanceMethod y).before a0 Z = true) (w3 : (Jvm.Cond.initialized y.cls).before a0 Z = true) (w4 : (Jvm.Cond.code y bytes maxL none).before a0 Z = true)
    (hy : y.cls ≠ "java/lang/invoke/MethodHandle" ∧ y.cls ≠ "java/lang/invoke/VarHandle") (eT : T.heap = h) (hf : rm.frames + 1 ≤ R.frames) (hl : W + (maxL + 11) + rm.locals ≤ R.locals) (hc : cells + rm.cells ≤ R.cells) (hsl : slots + rm.slots ≤ R.slots)
    (hg : g.method = m) (hsize : g.locals.size = c.maxLocals) (ha : (Value.ref a :: argsL).toArray = as') (hlen : ∀ sig, parseMethodDescriptor y.desc = some sig → argsL.length = sig.parameters.length) (hs : g.stack = argsL.reverse ++ .ref a :: rest) (hW : 2 * g.monitorRoom + (rest.map fun v => v.category).sum ≤ W) (hd : decode c.code g.pc = .ok (.invokespecial index, 3)) :
    ∃ (v : Option Value) (T' : State) (L : List Loc), Stand p l e R s m args below meth c T' (locs ++ L) (cells + rm.cells) (slots + rm.slots) ∧ Qc v T'.heap ∧ Fr n0 L ∧ ∀ t, Steps p.tables e below (T'.setTop { g with pc := g.pc + 3, stack := v.toList ++ rest }) t → Steps p.tables e below (T.setTop g) t := by
  obtain ⟨v, _, ⟨T', L', k', n'⟩, -, X', ⟨Lc, ⟨hq, hn⟩, e1, e2, e3⟩, st⟩ := X.specialBack hx (y := y) hin hown (mvT hZ w1) (mvT hZ w2) (mvT hZ w4) hy (backOf (W := W) (Q := fun v h L => Qc v h ∧ Fr n0 L) (hM []) hZ w4 w3 hf hl) hg hsize (Steps.refl _) (a := a) (argsL := argsL) (rest := rest) hlen hs hW hd (fun _ _ => ⟨ha, eT, hc, hsl⟩)
  dsimp only [Pt.U, Pt.locs, Pt.cells, Pt.slots] at X' e1 e2 e3 st hq
  subst e1 e2 e3
  exact ⟨v, T', Lc, X', hq, hn, fun t k => st.trans k⟩
theorem callVi (X : Stand p l e R s m args below meth c T locs cells slots) (hx : p.tables.exec = Jvm.exec) (hZ : Z.Warmed39 s.vm) (hown : s.vm.findClass own = some m.cls) (hM : MET l Z z bytes maxL ret rm as' h n0 Qc) (w1 : (Jvm.Cond.methodLink own index y).before a0 Z = true) (w2 : (Jvm.Cond.declares y).before a0 Z = true) (nf : NotFace s y) (w5 : (Jvm.Cond.selects C y z).before a0 Z = true) (w6 : (Jvm.Cond.instanceMethod z).before a0 Z = true) (w3 : (Jvm.Cond.initialized z.cls).before a0 Z = true) (w4 : (Jvm.Cond.code z bytes maxL ret).before a0 Z = true)
    (hy : y.cls ≠ "java/lang/invoke/MethodHandle" ∧ y.cls ≠ "java/lang/invoke/VarHandle") (eT : T.heap = h) (E : Exa Z h a C) (hf : rm.frames + 1 ≤ R.frames) (hl : W + (maxL + 11) + rm.locals ≤ R.locals) (hc : cells + rm.cells ≤ R.cells) (hsl : slots + rm.slots ≤ R.slots)
    (hg : g.method = m) (hsize : g.locals.size = c.maxLocals) (ha : (Value.ref a :: argsL).toArray = as') (hlen : ∀ sig, parseMethodDescriptor y.desc = some sig → argsL.length = sig.parameters.length) (hs : g.stack = argsL.reverse ++ .ref a :: rest) (hW : 2 * g.monitorRoom + (rest.map fun v => v.category).sum ≤ W) (hd : decode c.code g.pc = .ok (.invokevirtual index, 3)) :
    ∃ (v : Option Value) (T' : State) (L : List Loc), Stand p l e R s m args below meth c T' (locs ++ L) (cells + rm.cells) (slots + rm.slots) ∧ Qc v T'.heap ∧ Fr n0 L ∧ ∀ t, Steps p.tables e below (T'.setTop { g with pc := g.pc + 3, stack := v.toList ++ rest }) t → Steps p.tables e below (T.setTop g) t := by
  obtain ⟨cq, kq, qa, qb, qc⟩ := isOf hZ eT E
  obtain ⟨v, _, ⟨T', L', k', n'⟩, -, X', ⟨Lc, ⟨hq, hn⟩, e1, e2, e3⟩, st⟩ := X.virtualBack hx (y := y) (z := z) hown (mvT hZ w1) (mvT hZ w2) nf (mvT hZ w5) (mvT hZ w6) hy (backOf (W := W) (Q := fun v h L => Qc v h ∧ Fr n0 L) (hM []) hZ w4 w3 hf hl) qa qc hg hsize (Steps.refl _) (argsL := argsL) (rest := rest) hlen hs hW hd (fun _ _ => ⟨ha, eT, hc, hsl⟩)
  dsimp only [Pt.U, Pt.locs, Pt.cells, Pt.slots] at X' e1 e2 e3 st hq
  subst e1 e2 e3
  exact ⟨v, T', Lc, X', hq, hn, fun t k => st.trans k⟩
theorem callUp {owner : String} (X : Stand p l e R s m args below meth c T locs cells slots) (hx : p.tables.exec = Jvm.exec) (hZ : Z.Warmed39 s.vm) (hown : s.vm.findClass own = some m.cls) (hM : MET l Z z bytes maxL ret rm as' h n0 Qc) (w1 : (Jvm.Cond.methodLink own index y).before a0 Z = true) (w7 : (Jvm.Cond.sameMethod y.cls owner y.name y.desc).before a0 Z = true) (w2 : (Jvm.Cond.declares ⟨owner, y.name, y.desc⟩).before a0 Z = true) (w5 : (Jvm.Cond.selects C y z).before a0 Z = true) (w6 : (Jvm.Cond.instanceMethod z).before a0 Z = true) (w3 : (Jvm.Cond.initialized z.cls).before a0 Z = true) (w4 : (Jvm.Cond.code z bytes maxL ret).before a0 Z = true)
    (hy : owner ≠ "java/lang/invoke/MethodHandle" ∧ owner ≠ "java/lang/invoke/VarHandle") (eT : T.heap = h) (E : Exa Z h a C) (hf : rm.frames + 1 ≤ R.frames) (hl : W + (maxL + 11) + rm.locals ≤ R.locals) (hc : cells + rm.cells ≤ R.cells) (hsl : slots + rm.slots ≤ R.slots)
    (hg : g.method = m) (hsize : g.locals.size = c.maxLocals) (ha : (Value.ref a :: argsL).toArray = as') (hlen : ∀ sig, parseMethodDescriptor y.desc = some sig → argsL.length = sig.parameters.length) (hs : g.stack = argsL.reverse ++ .ref a :: rest) (hW : 2 * g.monitorRoom + (rest.map fun v => v.category).sum ≤ W) (hd : decode c.code g.pc = .ok (.invokevirtual index, 3)) :
    ∃ (v : Option Value) (T' : State) (L : List Loc), Stand p l e R s m args below meth c T' (locs ++ L) (cells + rm.cells) (slots + rm.slots) ∧ Qc v T'.heap ∧ Fr n0 L ∧ ∀ t, Steps p.tables e below (T'.setTop { g with pc := g.pc + 3, stack := v.toList ++ rest }) t → Steps p.tables e below (T.setTop g) t := by
  obtain ⟨cq, kq, qa, qb, qc⟩ := isOf hZ eT E
  obtain ⟨v, _, ⟨T', L', k', n'⟩, -, X', ⟨Lc, ⟨hq, hn⟩, e1, e2, e3⟩, st⟩ := X.virtualBackUp hx (x := y) (y := z) hown (mvT hZ w1) (mvT hZ w7) (mvT hZ w2) hy (mvT hZ w5) (mvT hZ w6) (backOf (W := W) (Q := fun v h L => Qc v h ∧ Fr n0 L) (hM []) hZ w4 w3 hf hl) qa qc hg hsize (Steps.refl _) (argsL := argsL) (rest := rest) hlen hs hW hd (fun _ _ => ⟨ha, eT, hc, hsl⟩)
  dsimp only [Pt.U, Pt.locs, Pt.cells, Pt.slots] at X' e1 e2 e3 st hq
  subst e1 e2 e3
  exact ⟨v, T', Lc, X', hq, hn, fun t k => st.trans k⟩
theorem callIf {count : Nat} (X : Stand p l e R s m args below meth c T locs cells slots) (hx : p.tables.exec = Jvm.exec) (hZ : Z.Warmed39 s.vm) (hown : s.vm.findClass own = some m.cls) (hM : MET l Z z bytes maxL ret rm as' h n0 Qc) (w1 : (Jvm.Cond.methodLink own index y).before a0 Z = true) (w2 : (Jvm.Cond.declares y).before a0 Z = true) (w7 : ∀ s' : State, Z.Warmed39 s'.vm → (Jvm.Cond.interfaceMethod y.cls y.cls y.name y.desc).before args s' = true) (w5 : (Jvm.Cond.selects C y z).before a0 Z = true) (w6 : (Jvm.Cond.instanceMethod z).before a0 Z = true) (w8 : (Jvm.Cond.publicMethod z).before a0 Z = true) (w9 : (Jvm.Cond.unhidden C y.name y.desc).before a0 Z = true) (w10 : (Jvm.Cond.castable C y.cls).before a0 Z = true) (w3 : (Jvm.Cond.initialized z.cls).before a0 Z = true) (w4 : (Jvm.Cond.code z bytes maxL ret).before a0 Z = true)
    (hy : y.cls ≠ "java/lang/invoke/MethodHandle" ∧ y.cls ≠ "java/lang/invoke/VarHandle") (eT : T.heap = h) (E : Exa Z h a C) (hf : rm.frames + 1 ≤ R.frames) (hl : W + (maxL + 11) + rm.locals ≤ R.locals) (hc : cells + rm.cells ≤ R.cells) (hsl : slots + rm.slots ≤ R.slots)
    (hg : g.method = m) (hsize : g.locals.size = c.maxLocals) (ha : (Value.ref a :: argsL).toArray = as') (hlen : ∀ sig, parseMethodDescriptor y.desc = some sig → argsL.length = sig.parameters.length) (hs : g.stack = argsL.reverse ++ .ref a :: rest) (hW : 2 * g.monitorRoom + (rest.map fun v => v.category).sum ≤ W) (hd : decode c.code g.pc = .ok (.invokeinterface index count, 5)) :
    ∃ (v : Option Value) (T' : State) (L : List Loc), Stand p l e R s m args below meth c T' (locs ++ L) (cells + rm.cells) (slots + rm.slots) ∧ Qc v T'.heap ∧ Fr n0 L ∧ ∀ t, Steps p.tables e below (T'.setTop { g with pc := g.pc + 5, stack := v.toList ++ rest }) t → Steps p.tables e below (T.setTop g) t := by
  obtain ⟨cq, kq, qa, qb, qc⟩ := isOf hZ eT E
  obtain ⟨v, _, ⟨T', L', k', n'⟩, -, X', ⟨Lc, ⟨hq, hn⟩, e1, e2, e3⟩, st⟩ := X.interfaceBack hx (xi := y) (y := z) hown (mvT hZ w1) (mvT hZ w2) (w7 s hZ) (mvT hZ w5) (mvT hZ w6) (mvT hZ w8) (mvT hZ w9) (mvT hZ w10) hy (backOf (W := W) (Q := fun v h L => Qc v h ∧ Fr n0 L) (hM []) hZ w4 w3 hf hl) qa qb qc hg hsize (Steps.refl _) (argsL := argsL) (rest := rest) hlen hs hW hd (fun _ _ => ⟨ha, eT, hc, hsl⟩)
  dsimp only [Pt.U, Pt.locs, Pt.cells, Pt.slots] at X' e1 e2 e3 st hq
  subst e1 e2 e3
  exact ⟨v, T', Lc, X', hq, hn, fun t k => st.trans k⟩
end Calls
end OwnLayer
end Jvm.RoadKit

/-! facts of the start, out of the sheet's words -/
namespace Jvm.RoadKit
open Sem ClassFile Op Lib Jvm.Stand Jvm.Free Jvm.LawKit
section OwnStart
variable {Z : State} {args : Array Value} {t : Term} {a : Addr} {c : Cell} {ty : FieldType} {n : Int32} {dv : Value} {n0 : Nat} {h h' : Heap} {ws : List Addr}
theorem Old.le (X : Old Z n0 h) : n0 ≤ h.size := X.1 ▸ X.2.1
theorem len_start (ev : t.eval args Z none [] Z = some (.ref a)) (A : Arr Z Z.heap a c ty) (hl : (Jvm.Cond.eq (.length t) (.int n)).value args Z none Z [] = some true) : c.slots.size < 2 ^ 31 ∧ c.slots.size.toInt32 = n := by
  have ha : Z.arrayAt? a = some c := A.fin (Vm.Alike.refl _)
  by_cases q : c.slots.size < 2 ^ 31
  · exact ⟨q, gotT (Cond.eq_ints (len_f ev ha q) (Term.int_eval n)) hl⟩
  · simp [Cond.value, Term.eval, ev, ha, q] at hl
theorem arv_start (hf : Fit Z) (ev : t.eval args Z none [] Z = some (.ref a)) (A : Arr Z Z.heap a c ty) (hl : (Jvm.Cond.eq (.length t) (.int n)).value args Z none Z [] = some true) : Arv Z Z.heap a c.cls ty n c.slots.toList dv := by
  obtain ⟨q1, q2⟩ := len_start ev A hl
  have hz : ¬ n < 0 := by
    rw [← q2, Int32.lt_iff_toInt_lt, len_toInt q1]
    have : (0 : Int32).toInt = 0 := by decide
    omega
  have hs : c.slots.size = n.toNatClampNeg := by
    have := len_toInt q1
    rw [q2] at this
    rw [Int32.toNatClampNeg, this]; rfl
  have g : ∀ i, i < c.slots.size → c.slots[i]? = some (c.slots.toList.getD i dv) := fun i hi => by
    simp [hi]
  refine ⟨c, A, rfl, hs, hz, g, fun i hi => ?_⟩
  have hj : ¬ ((Int32.ofNat i) < 0 ∨ c.slots.size ≤ (Int32.ofNat i).toNatClampNeg) := idx_in hi q1
  obtain ⟨v, e1, e2⟩ := elem_fit hf A hj
  have e3 : (Int32.ofNat i).toNatClampNeg = i := by
    have := len_toInt (n := i) (by omega)
    rw [Int32.toNatClampNeg, show (Int32.ofNat i).toInt = (i : Int) from this]; rfl
  rw [e3, g i hi] at e1
  cases e1
  exact e2
theorem eq_int {u : Term} {o : Option Outcome} {first : State} {idx : List Nat} (hl : (Jvm.Cond.eq u (.int n)).value args first o Z idx = some true) : u.eval args first o idx Z = some (.int n) := by
  obtain ⟨x, y, e1, e2, k1, k2⟩ := cmp_v (Or.inl hl)
  have e3 : Term.eval args first o idx Z (.int n) = some (.int n) := rfl
  cases (e3.symm.trans e2)
  obtain ⟨z, rfl⟩ := k2
  have q := gotT (Cond.eq_ints e1 e2) hl
  rw [e1, q]
theorem eq_long {n : Int64} {u : Term} {o : Option Outcome} {first : State} {idx : List Nat} (hl : (Jvm.Cond.eq u (.long n)).value args first o Z idx = some true) : u.eval args first o idx Z = some (.long n) := by
  obtain ⟨x, y, e1, e2, k1, k2⟩ := cmp_v (Or.inl hl)
  have e3 : Term.eval args first o idx Z (.long n) = some (.long n) := rfl
  cases (e3.symm.trans e2)
  obtain ⟨z, rfl⟩ := k2
  have q := gotT (eq_L e1 e2) hl
  rw [e1, q]
theorem eq_ref {x : Addr} {u w : Term} {o : Option Outcome} {first : State} {idx : List Nat} (hl : (Jvm.Cond.eq u w).value args first o Z idx = some true) (hw : w.eval args first o idx Z = some (.ref x)) : u.eval args first o idx Z = some (.ref x) := by
  obtain ⟨v, y, e1, e2, k1, k2⟩ := cmp_v (Or.inl hl)
  cases (hw.symm.trans e2)
  have q := gotT (eq_R e1 e2 k2.2 rfl) hl
  rw [e1, q]
theorem ins_keep {C : String} (F : Ins Z h a C true) (K : Keep h h' ws) : Ins Z h' a C true := by
  obtain ⟨cell, cT, h1, h2, h3⟩ := F
  obtain ⟨c', e1, e2, e3, -⟩ := K.2.2 a cell h1
  exact ⟨c', cT, e1, h2, by rw [e2, e3]; exact h3⟩
theorem arr_keep (F : Arr Z h a c ty) (K : Keep h h' ws) (q : a ∉ ws) : Arr Z h' a c ty := ⟨K.2.1 a c F.1 q, F.2⟩
end OwnStart
end Jvm.RoadKit

namespace Jvm.Pilot.@@N@@
open Jvm Jvm.ClassFile Sem Op Lib Jvm.Free Jvm.Stand Jvm.LawKit Jvm.RoadKit Bundle Jvm.Pilot.@@N@@.Jvm.D
theorem W_0 {Z : State} {aw : Array Value} (hw : ∀ d ∈ tables_1, d.before aw Z = true) : (Jvm.Cond.fieldLink "com/example/zonetally/zonetally/HourBlockContainsPinLaw" (7 : Nat) "com/example/zonetally/zonetally/HourBlock" "PEAK" "Lcom/example/zonetally/zonetally/HourBlock;").before aw Z = true := hw _ (List.mem_of_getElem? (i := 0) rfl)
theorem W_1 {Z : State} {aw : Array Value} (hw : ∀ d ∈ tables_1, d.before aw Z = true) : (Jvm.Cond.initialized "com/example/zonetally/zonetally/HourBlock").before aw Z = true := hw _ (List.mem_of_getElem? (i := 1) rfl)
theorem W_2 {Z : State} {aw : Array Value} (hw : ∀ d ∈ tables_1, d.before aw Z = true) : (Jvm.Cond.laysStatic "com/example/zonetally/zonetally/HourBlock" "PEAK" "Lcom/example/zonetally/zonetally/HourBlock;").before aw Z = true := hw _ (List.mem_of_getElem? (i := 2) rfl)
theorem W_3 {Z : State} {aw : Array Value} (hw : ∀ d ∈ tables_1, d.before aw Z = true) : (Jvm.Cond.methodLink "com/example/zonetally/zonetally/HourBlockContainsPinLaw" (13 : Nat) ({ cls := "com/example/zonetally/zonetally/HourBlock", name := "contains", desc := "(ZI)Z" } : Jvm.MethodName)).before aw Z = true := hw _ (List.mem_of_getElem? (i := 3) rfl)
theorem W_4 {Z : State} {aw : Array Value} (hw : ∀ d ∈ tables_1, d.before aw Z = true) : (Jvm.Cond.declares ({ cls := "com/example/zonetally/zonetally/HourBlock", name := "contains", desc := "(ZI)Z" } : Jvm.MethodName)).before aw Z = true := hw _ (List.mem_of_getElem? (i := 4) rfl)
theorem W_5 {Z : State} {aw : Array Value} (hw : ∀ d ∈ tables_1, d.before aw Z = true) : (Jvm.Cond.instanceMethod ({ cls := "com/example/zonetally/zonetally/HourBlock", name := "contains", desc := "(ZI)Z" } : Jvm.MethodName)).before aw Z = true := hw _ (List.mem_of_getElem? (i := 5) rfl)
theorem W_6 {Z : State} {aw : Array Value} (hw : ∀ d ∈ tables_1, d.before aw Z = true) : (Jvm.Cond.selects "com/example/zonetally/zonetally/HourBlock" ({ cls := "com/example/zonetally/zonetally/HourBlock", name := "contains", desc := "(ZI)Z" } : Jvm.MethodName) ({ cls := "com/example/zonetally/zonetally/HourBlock", name := "contains", desc := "(ZI)Z" } : Jvm.MethodName)).before aw Z = true := hw _ (List.mem_of_getElem? (i := 6) rfl)
theorem W_7 {Z : State} {aw : Array Value} (hw : ∀ d ∈ tables_1, d.before aw Z = true) : (Jvm.Cond.code ({ cls := "com/example/zonetally/zonetally/HourBlock", name := "contains", desc := "(ZI)Z" } : Jvm.MethodName) prog_20_method_5_code (4 : Nat) (Option.some Jvm.ClassFile.FieldType.boolean)).before aw Z = true := hw _ (List.mem_of_getElem? (i := 7) rfl)
theorem W_8 {Z : State} {aw : Array Value} (hw : ∀ d ∈ tables_1, d.before aw Z = true) : (Jvm.Cond.methodLink "com/example/zonetally/zonetally/HourBlock" (47 : Nat) ({ cls := "com/example/zonetally/zonetally/HourBlock", name := "ordinal", desc := "()I" } : Jvm.MethodName)).before aw Z = true := hw _ (List.mem_of_getElem? (i := 8) rfl)
theorem W_9 {Z : State} {aw : Array Value} (hw : ∀ d ∈ tables_1, d.before aw Z = true) : (Jvm.Cond.sameMethod "com/example/zonetally/zonetally/HourBlock" "java/lang/Enum" "ordinal" "()I").before aw Z = true := hw _ (List.mem_of_getElem? (i := 9) rfl)
theorem W_10 {Z : State} {aw : Array Value} (hw : ∀ d ∈ tables_1, d.before aw Z = true) : (Jvm.Cond.declares ({ cls := "java/lang/Enum", name := "ordinal", desc := "()I" } : Jvm.MethodName)).before aw Z = true := hw _ (List.mem_of_getElem? (i := 10) rfl)
theorem W_11 {Z : State} {aw : Array Value} (hw : ∀ d ∈ tables_1, d.before aw Z = true) : (Jvm.Cond.instanceMethod ({ cls := "java/lang/Enum", name := "ordinal", desc := "()I" } : Jvm.MethodName)).before aw Z = true := hw _ (List.mem_of_getElem? (i := 11) rfl)
theorem W_12 {Z : State} {aw : Array Value} (hw : ∀ d ∈ tables_1, d.before aw Z = true) : (Jvm.Cond.selects "com/example/zonetally/zonetally/HourBlock" ({ cls := "com/example/zonetally/zonetally/HourBlock", name := "ordinal", desc := "()I" } : Jvm.MethodName) ({ cls := "java/lang/Enum", name := "ordinal", desc := "()I" } : Jvm.MethodName)).before aw Z = true := hw _ (List.mem_of_getElem? (i := 12) rfl)
theorem W_13 {Z : State} {aw : Array Value} (hw : ∀ d ∈ tables_1, d.before aw Z = true) : (Jvm.Cond.initialized "java/lang/Enum").before aw Z = true := hw _ (List.mem_of_getElem? (i := 13) rfl)
theorem W_14 {Z : State} {aw : Array Value} (hw : ∀ d ∈ tables_1, d.before aw Z = true) : (Jvm.Cond.code ({ cls := "java/lang/Enum", name := "ordinal", desc := "()I" } : Jvm.MethodName) jdk_37_method_2_code (1 : Nat) (Option.some Jvm.ClassFile.FieldType.int)).before aw Z = true := hw _ (List.mem_of_getElem? (i := 14) rfl)
theorem W_15 {Z : State} {aw : Array Value} (hw : ∀ d ∈ tables_1, d.before aw Z = true) : (Jvm.Cond.fieldLink "java/lang/Enum" (7 : Nat) "java/lang/Enum" "ordinal" "I").before aw Z = true := hw _ (List.mem_of_getElem? (i := 15) rfl)
theorem W_17 {Z : State} {aw : Array Value} (hw : ∀ d ∈ tables_1, d.before aw Z = true) : (Jvm.Cond.fieldLink "com/example/zonetally/zonetally/HourBlockContainsPinLaw" (17 : Nat) "com/example/zonetally/zonetally/HourBlock" "OFF_PEAK" "Lcom/example/zonetally/zonetally/HourBlock;").before aw Z = true := hw _ (List.mem_of_getElem? (i := 17) rfl)
theorem W_18 {Z : State} {aw : Array Value} (hw : ∀ d ∈ tables_1, d.before aw Z = true) : (Jvm.Cond.laysStatic "com/example/zonetally/zonetally/HourBlock" "OFF_PEAK" "Lcom/example/zonetally/zonetally/HourBlock;").before aw Z = true := hw _ (List.mem_of_getElem? (i := 18) rfl)
theorem W_19 {Z : State} {aw : Array Value} (hw : ∀ d ∈ tables_1, d.before aw Z = true) : (Jvm.Cond.constantLong "com/example/zonetally/zonetally/HourBlockContainsPinLaw" (20 : Nat) (8 : Int64)).before aw Z = true := hw _ (List.mem_of_getElem? (i := 19) rfl)
theorem W_20 {Z : State} {aw : Array Value} (hw : ∀ d ∈ tables_1, d.before aw Z = true) : (Jvm.Cond.constantLong "com/example/zonetally/zonetally/HourBlockContainsPinLaw" (22 : Nat) (16 : Int64)).before aw Z = true := hw _ (List.mem_of_getElem? (i := 20) rfl)
theorem d_jdk_37_method_2_code_0 : decode jdk_37_method_2_code 0 = .ok (.aload_n 0, 1) := by decide +kernel
theorem d_jdk_37_method_2_code_1 : decode jdk_37_method_2_code 1 = .ok (.getfield 7, 3) := by decide +kernel
theorem d_jdk_37_method_2_code_4 : decode jdk_37_method_2_code 4 = .ok (.ireturn, 1) := by decide +kernel
theorem d_prog_20_method_5_code_0 : decode prog_20_method_5_code 0 = .ok (.iload_n 1, 1) := by decide +kernel
theorem d_prog_20_method_5_code_1 : decode prog_20_method_5_code 1 = .ok (.ifCond .eq 19, 3) := by decide +kernel
theorem d_prog_20_method_5_code_20 : decode prog_20_method_5_code 20 = .ok (.iconst 0, 1) := by decide +kernel
theorem d_prog_20_method_5_code_21 : decode prog_20_method_5_code 21 = .ok (.istore_n 3, 1) := by decide +kernel
theorem d_prog_20_method_5_code_22 : decode prog_20_method_5_code 22 = .ok (.aload_n 0, 1) := by decide +kernel
theorem d_prog_20_method_5_code_23 : decode prog_20_method_5_code 23 = .ok (.invokevirtual 47, 3) := by decide +kernel
theorem d_prog_20_method_5_code_26 : decode prog_20_method_5_code 26 = .ok (.lookupswitch 26 #[(0, 36), (1, 40)], 26) := by decide +kernel
theorem d_prog_20_method_5_code_62 : decode prog_20_method_5_code 62 = .ok (.iload_n 3, 1) := by decide +kernel
theorem d_prog_20_method_5_code_63 : decode prog_20_method_5_code 63 = .ok (.goto 12, 3) := by decide +kernel
theorem d_prog_20_method_5_code_75 : decode prog_20_method_5_code 75 = .ok (.ireturn, 1) := by decide +kernel
theorem d_prog_20_method_5_code_4 : decode prog_20_method_5_code 4 = .ok (.iload_n 2, 1) := by decide +kernel
theorem d_prog_20_method_5_code_5 : decode prog_20_method_5_code 5 = .ok (.bipush 8, 2) := by decide +kernel
theorem d_prog_20_method_5_code_7 : decode prog_20_method_5_code 7 = .ok (.if_icmp .lt 13, 3) := by decide +kernel
theorem d_prog_20_method_5_code_10 : decode prog_20_method_5_code 10 = .ok (.iload_n 2, 1) := by decide +kernel
theorem d_prog_20_method_5_code_11 : decode prog_20_method_5_code 11 = .ok (.bipush 23, 2) := by decide +kernel
theorem d_prog_20_method_5_code_13 : decode prog_20_method_5_code 13 = .ok (.if_icmp .gt 7, 3) := by decide +kernel
theorem d_prog_20_method_5_code_16 : decode prog_20_method_5_code 16 = .ok (.iconst 1, 1) := by decide +kernel
theorem d_prog_20_method_5_code_17 : decode prog_20_method_5_code 17 = .ok (.goto 4, 3) := by decide +kernel
theorem d_prog_20_method_5_code_66 : decode prog_20_method_5_code 66 = .ok (.iload_n 3, 1) := by decide +kernel
theorem d_prog_20_method_5_code_67 : decode prog_20_method_5_code 67 = .ok (.ifCond .ne 7, 3) := by decide +kernel
theorem d_prog_20_method_5_code_70 : decode prog_20_method_5_code 70 = .ok (.iconst 1, 1) := by decide +kernel
theorem d_prog_20_method_5_code_71 : decode prog_20_method_5_code 71 = .ok (.goto 4, 3) := by decide +kernel
theorem d_prog_20_method_5_code_74 : decode prog_20_method_5_code 74 = .ok (.iconst 0, 1) := by decide +kernel
theorem pn_0 : plainName "java/lang/Enum" = true := by first | (simp [plainName, overriddenIn]; done) | decide +kernel
theorem pn_1 : plainName "com/example/zonetally/zonetally/HourBlock" = true := by first | (simp [plainName, overriddenIn]; done) | decide +kernel
theorem pd_2 : parseMethodDescriptor "()I" = some ⟨[], some .int⟩ := by decide +kernel
theorem pn_3 : plainName "com/example/zonetally/zonetally/HourBlockContainsPinLaw" = true := by first | (simp [plainName, overriddenIn]; done) | decide +kernel
theorem pd_4 : parseMethodDescriptor "(ZI)Z" = some ⟨[.boolean, .int], some .boolean⟩ := by decide +kernel
theorem ef_ordn (m : MethodId) (a : Addr) : entryFrame m #[(.ref a)] 1 = mkF m 0 #[.val (.ref a)] [] := by first | (simp [entryFrame, mkF, argsToLocals, Value.category]; done) | rfl
set_option maxRecDepth 65536 in
set_option maxHeartbeats 40000000 in
theorem ordn (l : Launch) (Z : State) (aw : Array Value) (hw : ∀ d ∈ tables_1, d.before aw Z = true) (a : Addr) (v0 : Int32) {h0 : Heap} {n0 : Nat} (O : Old Z n0 h0) (F : Fld Z Z.heap a "java/lang/Enum" "ordinal" "I" (.int v0)) :
    MET l Z (⟨"java/lang/Enum", "ordinal", "()I"⟩ : MethodName) jdk_37_method_2_code 1 (some .int) ({ frames := 0, cells := 0, slots := 0, locals := 0 } : Room) #[(.ref a)] h0 n0 (fun vv hh => vv = some (.int v0) ∧ hh = h0) := by
  refine metOf (plainFor_of_name pn_0) ?_
  intro p e s m below meth c T hx hby hml hrt hlk hnm hZ hown X e0
  replace hml : c.maxLocals = 1 := hml
  replace hnm : meth.name = "ordinal" := hnm
  replace hown : s.vm.findClass "java/lang/Enum" = some m.cls := hown
  have N := Fr.nil n0
  have zO := O.le
  refine goCast (ef_ordn m a) ?_
  show Goes _ _ _ _ _ _ _ _ (T.setTop (mkF m 0 #[.val (.ref a)] []))
  refine Goes.via (fun _ k => XS.aloadN X.here hx rfl (hb hby d_jdk_37_method_2_code_0) rfl rfl k) ?_
  show Goes _ _ _ _ _ _ _ _ (T.setTop (mkF m 1 #[.val (.ref a)] [(.ref a)]))
  have fq2 : Fld Z h0 a "java/lang/Enum" "ordinal" "I" (.int v0) := (F.ext O.2)
  obtain ⟨Tq1, Xq1, eq1, stq1⟩ := getF X hx hZ hown (host := "") (Or.inl (W_15 hw)) Via.refl e0 fq2 (g := (mkF m 1 #[.val (.ref a)] [(.ref a)])) rfl rfl (hb hby d_jdk_37_method_2_code_1)
  refine Goes.via stq1 ?_
  show Goes _ _ _ _ _ _ _ _ (Tq1.setTop (mkF m 4 #[.val (.ref a)] [(.int v0)]))
  refine goRetI Xq1 hx hrt hlk N (by decide) (by decide) (hb hby d_jdk_37_method_2_code_4) ?_
  try rw [eq1]
  exact ⟨rfl, rfl⟩
def inPk (p h : Int32) : Int32 := if p = 0 ∨ h < 8 ∨ 23 < h then 0 else 1
def offPk (p h : Int32) : Int32 := if inPk p h = 0 then 1 else 0
theorem ef_peak (m : MethodId) (a : Addr) (p0 : Int32) (h1 : Int32) : entryFrame m #[(.ref a), (.int p0), (.int h1)] 4 = mkF m 0 #[.val (.ref a), .val (.int p0), .val (.int h1), .unset] [] := by first | (simp [entryFrame, mkF, argsToLocals, Value.category]; done) | rfl
set_option maxRecDepth 65536 in
set_option maxHeartbeats 40000000 in
theorem peak (l : Launch) (Z : State) (aw : Array Value) (hw : ∀ d ∈ tables_1, d.before aw Z = true) (a : Addr) (p0 : Int32) (h1 : Int32) {h0 : Heap} {n0 : Nat} (O : Old Z n0 h0) (E : Exa Z Z.heap a "com/example/zonetally/zonetally/HourBlock") (F : Fld Z Z.heap a "java/lang/Enum" "ordinal" "I" (.int (0 : Int32))) :
    MET l Z (⟨"com/example/zonetally/zonetally/HourBlock", "contains", "(ZI)Z"⟩ : MethodName) prog_20_method_5_code 4 (some .boolean) ({ frames := 1, cells := 0, slots := 0, locals := 12 } : Room) #[(.ref a), (.int p0), (.int h1)] h0 n0 (fun vv hh => vv = some (.int (inPk p0 h1)) ∧ hh = h0) := by
  refine metOf (plainFor_of_name pn_1) ?_
  intro p e s m below meth c T hx hby hml hrt hlk hnm hZ hown X e0
  replace hml : c.maxLocals = 4 := hml
  replace hnm : meth.name = "contains" := hnm
  replace hown : s.vm.findClass "com/example/zonetally/zonetally/HourBlock" = some m.cls := hown
  have N := Fr.nil n0
  have zO := O.le
  refine goCast (ef_peak m a p0 h1) ?_
  show Goes _ _ _ _ _ _ _ _ (T.setTop (mkF m 0 #[.val (.ref a), .val (.int p0), .val (.int h1), .unset] []))
  refine Goes.via (fun _ k => XS.iloadN X.here hx rfl (hb hby d_prog_20_method_5_code_0) rfl k) ?_
  show Goes _ _ _ _ _ _ _ _ (T.setTop (mkF m 1 #[.val (.ref a), .val (.int p0), .val (.int h1), .unset] [(.int p0)]))
  by_cases cq1 : p0 = (0 : Int32)
  · skip
    refine Goes.via (fun _ k => XS.ifYes X.here hx rfl (pc0 := 1) (pc' := 20) rfl (hb hby d_prog_20_method_5_code_1) rfl (XT.i0_eq_t cq1) (by decide) (by decide) k) ?_
    show Goes _ _ _ _ _ _ _ _ (T.setTop (mkF m 20 #[.val (.ref a), .val (.int p0), .val (.int h1), .unset] []))
    refine Goes.via (fun _ k => XT.iconstV X.here hx rfl (0 : Int32) (hb hby d_prog_20_method_5_code_20) (by decide) k) ?_
    show Goes _ _ _ _ _ _ _ _ (T.setTop (mkF m 21 #[.val (.ref a), .val (.int p0), .val (.int h1), .unset] [(.int (0 : Int32))]))
    refine Goes.via (fun _ k => XS.istoreN X.here hx rfl (hb hby d_prog_20_method_5_code_21) rfl (l' := #[.val (.ref a), .val (.int p0), .val (.int h1), .val (.int (0 : Int32))]) rfl k) ?_
    show Goes _ _ _ _ _ _ _ _ (T.setTop (mkF m 22 #[.val (.ref a), .val (.int p0), .val (.int h1), .val (.int (0 : Int32))] []))
    refine Goes.via (fun _ k => XS.aloadN X.here hx rfl (hb hby d_prog_20_method_5_code_22) rfl rfl k) ?_
    show Goes _ _ _ _ _ _ _ _ (T.setTop (mkF m 23 #[.val (.ref a), .val (.int p0), .val (.int h1), .val (.int (0 : Int32))] [(.ref a)]))
    have fq3 : Exa Z h0 a "com/example/zonetally/zonetally/HourBlock" := (E.ext O.2)
    obtain ⟨vq2, Tq2, Lq2, Xq2, qq2, nq2, stq2⟩ := callUp (owner := "java/lang/Enum") (y := (⟨"com/example/zonetally/zonetally/HourBlock", "ordinal", "()I"⟩ : MethodName)) (z := (⟨"java/lang/Enum", "ordinal", "()I"⟩ : MethodName)) X hx hZ hown (ordn l Z aw hw a (0 : Int32) O F) (W_8 hw) (W_9 hw) (W_10 hw) (W_12 hw) (W_11 hw) (W_13 hw) (W_14 hw) (by decide) e0 fq3 (by decide) (W := 0) (by decide) (by decide) (by decide) (g := (mkF m 23 #[.val (.ref a), .val (.int p0), .val (.int h1), .val (.int (0 : Int32))] [(.ref a)])) rfl (by rw [hml]; rfl) (a := a) (argsL := []) (rest := []) rfl (lenOf pd_2 rfl) rfl (by show 2 * 0 + _ ≤ _; exact Nat.le_of_eq rfl) (hb hby d_prog_20_method_5_code_23)
    obtain ⟨rfl, pq2_0⟩ := qq2
    have Nq2 := Fr.app N nq2
    refine Goes.via stq2 ?_
    show Goes _ _ _ _ _ _ _ _ (Tq2.setTop (mkF m 26 #[.val (.ref a), .val (.int p0), .val (.int h1), .val (.int (0 : Int32))] [(.int (0 : Int32))]))
    refine Goes.via (Xq2.lookupswitchHit hx (g := (mkF m 26 #[.val (.ref a), .val (.int p0), .val (.int h1), .val (.int (0 : Int32))] [(.int (0 : Int32))])) rfl rfl (hb hby d_prog_20_method_5_code_26) (by decide) (a := 0) (off := 36) (by decide) (by show (0 : Int) ≤ ((26 : Nat) : Int) + 36; decide)) ?_
    show Goes _ _ _ _ _ _ _ _ (Tq2.setTop (mkF m 62 #[.val (.ref a), .val (.int p0), .val (.int h1), .val (.int (0 : Int32))] []))
    refine Goes.via (fun _ k => XS.iloadN Xq2.here hx rfl (hb hby d_prog_20_method_5_code_62) rfl k) ?_
    show Goes _ _ _ _ _ _ _ _ (Tq2.setTop (mkF m 63 #[.val (.ref a), .val (.int p0), .val (.int h1), .val (.int (0 : Int32))] [(.int (0 : Int32))]))
    refine Goes.via (fun _ k => XS.goto Xq2.here hx rfl (pc0 := 63) (pc' := 75) rfl (hb hby d_prog_20_method_5_code_63) (by decide) (by decide) k) ?_
    show Goes _ _ _ _ _ _ _ _ (Tq2.setTop (mkF m 75 #[.val (.ref a), .val (.int p0), .val (.int h1), .val (.int (0 : Int32))] [(.int (0 : Int32))]))
    refine goRetN Xq2 hx hrt (by simp) hlk Nq2 (by decide) (by decide) (hb hby d_prog_20_method_5_code_75) ?_
    try rw [pq2_0]
    exact ⟨by show some (Value.int (0 : Int32)) = _; simp [inPk, offPk, cq1], rfl⟩
  · skip
    refine Goes.via (fun _ k => XS.ifNo X.here hx rfl (hb hby d_prog_20_method_5_code_1) rfl (XT.i0_eq_f cq1) k) ?_
    show Goes _ _ _ _ _ _ _ _ (T.setTop (mkF m 4 #[.val (.ref a), .val (.int p0), .val (.int h1), .unset] []))
    refine Goes.via (fun _ k => XS.iloadN X.here hx rfl (hb hby d_prog_20_method_5_code_4) rfl k) ?_
    show Goes _ _ _ _ _ _ _ _ (T.setTop (mkF m 5 #[.val (.ref a), .val (.int p0), .val (.int h1), .unset] [(.int h1)]))
    refine Goes.via (fun _ k => XT.bipushV X.here hx rfl (8 : Int32) (hb hby d_prog_20_method_5_code_5) (by decide) k) ?_
    show Goes _ _ _ _ _ _ _ _ (T.setTop (mkF m 7 #[.val (.ref a), .val (.int p0), .val (.int h1), .unset] [(.int (8 : Int32)), (.int h1)]))
    by_cases cq4 : h1 < (8 : Int32)
    · skip
      refine Goes.via (fun _ k => XS.icmpYes X.here hx rfl (pc0 := 7) (pc' := 20) rfl (hb hby d_prog_20_method_5_code_7) rfl (XT.ii_lt_t cq4) (by decide) (by decide) k) ?_
      show Goes _ _ _ _ _ _ _ _ (T.setTop (mkF m 20 #[.val (.ref a), .val (.int p0), .val (.int h1), .unset] []))
      refine Goes.via (fun _ k => XT.iconstV X.here hx rfl (0 : Int32) (hb hby d_prog_20_method_5_code_20) (by decide) k) ?_
      show Goes _ _ _ _ _ _ _ _ (T.setTop (mkF m 21 #[.val (.ref a), .val (.int p0), .val (.int h1), .unset] [(.int (0 : Int32))]))
      refine Goes.via (fun _ k => XS.istoreN X.here hx rfl (hb hby d_prog_20_method_5_code_21) rfl (l' := #[.val (.ref a), .val (.int p0), .val (.int h1), .val (.int (0 : Int32))]) rfl k) ?_
      show Goes _ _ _ _ _ _ _ _ (T.setTop (mkF m 22 #[.val (.ref a), .val (.int p0), .val (.int h1), .val (.int (0 : Int32))] []))
      refine Goes.via (fun _ k => XS.aloadN X.here hx rfl (hb hby d_prog_20_method_5_code_22) rfl rfl k) ?_
      show Goes _ _ _ _ _ _ _ _ (T.setTop (mkF m 23 #[.val (.ref a), .val (.int p0), .val (.int h1), .val (.int (0 : Int32))] [(.ref a)]))
      have fq6 : Exa Z h0 a "com/example/zonetally/zonetally/HourBlock" := (E.ext O.2)
      obtain ⟨vq5, Tq5, Lq5, Xq5, qq5, nq5, stq5⟩ := callUp (owner := "java/lang/Enum") (y := (⟨"com/example/zonetally/zonetally/HourBlock", "ordinal", "()I"⟩ : MethodName)) (z := (⟨"java/lang/Enum", "ordinal", "()I"⟩ : MethodName)) X hx hZ hown (ordn l Z aw hw a (0 : Int32) O F) (W_8 hw) (W_9 hw) (W_10 hw) (W_12 hw) (W_11 hw) (W_13 hw) (W_14 hw) (by decide) e0 fq6 (by decide) (W := 0) (by decide) (by decide) (by decide) (g := (mkF m 23 #[.val (.ref a), .val (.int p0), .val (.int h1), .val (.int (0 : Int32))] [(.ref a)])) rfl (by rw [hml]; rfl) (a := a) (argsL := []) (rest := []) rfl (lenOf pd_2 rfl) rfl (by show 2 * 0 + _ ≤ _; exact Nat.le_of_eq rfl) (hb hby d_prog_20_method_5_code_23)
      obtain ⟨rfl, pq5_0⟩ := qq5
      have Nq5 := Fr.app N nq5
      refine Goes.via stq5 ?_
      show Goes _ _ _ _ _ _ _ _ (Tq5.setTop (mkF m 26 #[.val (.ref a), .val (.int p0), .val (.int h1), .val (.int (0 : Int32))] [(.int (0 : Int32))]))
      refine Goes.via (Xq5.lookupswitchHit hx (g := (mkF m 26 #[.val (.ref a), .val (.int p0), .val (.int h1), .val (.int (0 : Int32))] [(.int (0 : Int32))])) rfl rfl (hb hby d_prog_20_method_5_code_26) (by decide) (a := 0) (off := 36) (by decide) (by show (0 : Int) ≤ ((26 : Nat) : Int) + 36; decide)) ?_
      show Goes _ _ _ _ _ _ _ _ (Tq5.setTop (mkF m 62 #[.val (.ref a), .val (.int p0), .val (.int h1), .val (.int (0 : Int32))] []))
      refine Goes.via (fun _ k => XS.iloadN Xq5.here hx rfl (hb hby d_prog_20_method_5_code_62) rfl k) ?_
      show Goes _ _ _ _ _ _ _ _ (Tq5.setTop (mkF m 63 #[.val (.ref a), .val (.int p0), .val (.int h1), .val (.int (0 : Int32))] [(.int (0 : Int32))]))
      refine Goes.via (fun _ k => XS.goto Xq5.here hx rfl (pc0 := 63) (pc' := 75) rfl (hb hby d_prog_20_method_5_code_63) (by decide) (by decide) k) ?_
      show Goes _ _ _ _ _ _ _ _ (Tq5.setTop (mkF m 75 #[.val (.ref a), .val (.int p0), .val (.int h1), .val (.int (0 : Int32))] [(.int (0 : Int32))]))
      refine goRetN Xq5 hx hrt (by simp) hlk Nq5 (by decide) (by decide) (hb hby d_prog_20_method_5_code_75) ?_
      try rw [pq5_0]
      exact ⟨by show some (Value.int (0 : Int32)) = _; simp [inPk, offPk, cq1, cq4], rfl⟩
    · skip
      refine Goes.via (fun _ k => XS.icmpNo X.here hx rfl (hb hby d_prog_20_method_5_code_7) rfl (XT.ii_lt_f cq4) k) ?_
      show Goes _ _ _ _ _ _ _ _ (T.setTop (mkF m 10 #[.val (.ref a), .val (.int p0), .val (.int h1), .unset] []))
      refine Goes.via (fun _ k => XS.iloadN X.here hx rfl (hb hby d_prog_20_method_5_code_10) rfl k) ?_
      show Goes _ _ _ _ _ _ _ _ (T.setTop (mkF m 11 #[.val (.ref a), .val (.int p0), .val (.int h1), .unset] [(.int h1)]))
      refine Goes.via (fun _ k => XT.bipushV X.here hx rfl (23 : Int32) (hb hby d_prog_20_method_5_code_11) (by decide) k) ?_
      show Goes _ _ _ _ _ _ _ _ (T.setTop (mkF m 13 #[.val (.ref a), .val (.int p0), .val (.int h1), .unset] [(.int (23 : Int32)), (.int h1)]))
      by_cases cq7 : (23 : Int32) < h1
      · skip
        refine Goes.via (fun _ k => XS.icmpYes X.here hx rfl (pc0 := 13) (pc' := 20) rfl (hb hby d_prog_20_method_5_code_13) rfl (XT.ii_gt_t cq7) (by decide) (by decide) k) ?_
        show Goes _ _ _ _ _ _ _ _ (T.setTop (mkF m 20 #[.val (.ref a), .val (.int p0), .val (.int h1), .unset] []))
        refine Goes.via (fun _ k => XT.iconstV X.here hx rfl (0 : Int32) (hb hby d_prog_20_method_5_code_20) (by decide) k) ?_
        show Goes _ _ _ _ _ _ _ _ (T.setTop (mkF m 21 #[.val (.ref a), .val (.int p0), .val (.int h1), .unset] [(.int (0 : Int32))]))
        refine Goes.via (fun _ k => XS.istoreN X.here hx rfl (hb hby d_prog_20_method_5_code_21) rfl (l' := #[.val (.ref a), .val (.int p0), .val (.int h1), .val (.int (0 : Int32))]) rfl k) ?_
        show Goes _ _ _ _ _ _ _ _ (T.setTop (mkF m 22 #[.val (.ref a), .val (.int p0), .val (.int h1), .val (.int (0 : Int32))] []))
        refine Goes.via (fun _ k => XS.aloadN X.here hx rfl (hb hby d_prog_20_method_5_code_22) rfl rfl k) ?_
        show Goes _ _ _ _ _ _ _ _ (T.setTop (mkF m 23 #[.val (.ref a), .val (.int p0), .val (.int h1), .val (.int (0 : Int32))] [(.ref a)]))
        have fq9 : Exa Z h0 a "com/example/zonetally/zonetally/HourBlock" := (E.ext O.2)
        obtain ⟨vq8, Tq8, Lq8, Xq8, qq8, nq8, stq8⟩ := callUp (owner := "java/lang/Enum") (y := (⟨"com/example/zonetally/zonetally/HourBlock", "ordinal", "()I"⟩ : MethodName)) (z := (⟨"java/lang/Enum", "ordinal", "()I"⟩ : MethodName)) X hx hZ hown (ordn l Z aw hw a (0 : Int32) O F) (W_8 hw) (W_9 hw) (W_10 hw) (W_12 hw) (W_11 hw) (W_13 hw) (W_14 hw) (by decide) e0 fq9 (by decide) (W := 0) (by decide) (by decide) (by decide) (g := (mkF m 23 #[.val (.ref a), .val (.int p0), .val (.int h1), .val (.int (0 : Int32))] [(.ref a)])) rfl (by rw [hml]; rfl) (a := a) (argsL := []) (rest := []) rfl (lenOf pd_2 rfl) rfl (by show 2 * 0 + _ ≤ _; exact Nat.le_of_eq rfl) (hb hby d_prog_20_method_5_code_23)
        obtain ⟨rfl, pq8_0⟩ := qq8
        have Nq8 := Fr.app N nq8
        refine Goes.via stq8 ?_
        show Goes _ _ _ _ _ _ _ _ (Tq8.setTop (mkF m 26 #[.val (.ref a), .val (.int p0), .val (.int h1), .val (.int (0 : Int32))] [(.int (0 : Int32))]))
        refine Goes.via (Xq8.lookupswitchHit hx (g := (mkF m 26 #[.val (.ref a), .val (.int p0), .val (.int h1), .val (.int (0 : Int32))] [(.int (0 : Int32))])) rfl rfl (hb hby d_prog_20_method_5_code_26) (by decide) (a := 0) (off := 36) (by decide) (by show (0 : Int) ≤ ((26 : Nat) : Int) + 36; decide)) ?_
        show Goes _ _ _ _ _ _ _ _ (Tq8.setTop (mkF m 62 #[.val (.ref a), .val (.int p0), .val (.int h1), .val (.int (0 : Int32))] []))
        refine Goes.via (fun _ k => XS.iloadN Xq8.here hx rfl (hb hby d_prog_20_method_5_code_62) rfl k) ?_
        show Goes _ _ _ _ _ _ _ _ (Tq8.setTop (mkF m 63 #[.val (.ref a), .val (.int p0), .val (.int h1), .val (.int (0 : Int32))] [(.int (0 : Int32))]))
        refine Goes.via (fun _ k => XS.goto Xq8.here hx rfl (pc0 := 63) (pc' := 75) rfl (hb hby d_prog_20_method_5_code_63) (by decide) (by decide) k) ?_
        show Goes _ _ _ _ _ _ _ _ (Tq8.setTop (mkF m 75 #[.val (.ref a), .val (.int p0), .val (.int h1), .val (.int (0 : Int32))] [(.int (0 : Int32))]))
        refine goRetN Xq8 hx hrt (by simp) hlk Nq8 (by decide) (by decide) (hb hby d_prog_20_method_5_code_75) ?_
        try rw [pq8_0]
        exact ⟨by show some (Value.int (0 : Int32)) = _; simp [inPk, offPk, cq1, cq4, cq7], rfl⟩
      · skip
        refine Goes.via (fun _ k => XS.icmpNo X.here hx rfl (hb hby d_prog_20_method_5_code_13) rfl (XT.ii_gt_f cq7) k) ?_
        show Goes _ _ _ _ _ _ _ _ (T.setTop (mkF m 16 #[.val (.ref a), .val (.int p0), .val (.int h1), .unset] []))
        refine Goes.via (fun _ k => XT.iconstV X.here hx rfl (1 : Int32) (hb hby d_prog_20_method_5_code_16) (by decide) k) ?_
        show Goes _ _ _ _ _ _ _ _ (T.setTop (mkF m 17 #[.val (.ref a), .val (.int p0), .val (.int h1), .unset] [(.int (1 : Int32))]))
        refine Goes.via (fun _ k => XS.goto X.here hx rfl (pc0 := 17) (pc' := 21) rfl (hb hby d_prog_20_method_5_code_17) (by decide) (by decide) k) ?_
        show Goes _ _ _ _ _ _ _ _ (T.setTop (mkF m 21 #[.val (.ref a), .val (.int p0), .val (.int h1), .unset] [(.int (1 : Int32))]))
        refine Goes.via (fun _ k => XS.istoreN X.here hx rfl (hb hby d_prog_20_method_5_code_21) rfl (l' := #[.val (.ref a), .val (.int p0), .val (.int h1), .val (.int (1 : Int32))]) rfl k) ?_
        show Goes _ _ _ _ _ _ _ _ (T.setTop (mkF m 22 #[.val (.ref a), .val (.int p0), .val (.int h1), .val (.int (1 : Int32))] []))
        refine Goes.via (fun _ k => XS.aloadN X.here hx rfl (hb hby d_prog_20_method_5_code_22) rfl rfl k) ?_
        show Goes _ _ _ _ _ _ _ _ (T.setTop (mkF m 23 #[.val (.ref a), .val (.int p0), .val (.int h1), .val (.int (1 : Int32))] [(.ref a)]))
        have fq11 : Exa Z h0 a "com/example/zonetally/zonetally/HourBlock" := (E.ext O.2)
        obtain ⟨vq10, Tq10, Lq10, Xq10, qq10, nq10, stq10⟩ := callUp (owner := "java/lang/Enum") (y := (⟨"com/example/zonetally/zonetally/HourBlock", "ordinal", "()I"⟩ : MethodName)) (z := (⟨"java/lang/Enum", "ordinal", "()I"⟩ : MethodName)) X hx hZ hown (ordn l Z aw hw a (0 : Int32) O F) (W_8 hw) (W_9 hw) (W_10 hw) (W_12 hw) (W_11 hw) (W_13 hw) (W_14 hw) (by decide) e0 fq11 (by decide) (W := 0) (by decide) (by decide) (by decide) (g := (mkF m 23 #[.val (.ref a), .val (.int p0), .val (.int h1), .val (.int (1 : Int32))] [(.ref a)])) rfl (by rw [hml]; rfl) (a := a) (argsL := []) (rest := []) rfl (lenOf pd_2 rfl) rfl (by show 2 * 0 + _ ≤ _; exact Nat.le_of_eq rfl) (hb hby d_prog_20_method_5_code_23)
        obtain ⟨rfl, pq10_0⟩ := qq10
        have Nq10 := Fr.app N nq10
        refine Goes.via stq10 ?_
        show Goes _ _ _ _ _ _ _ _ (Tq10.setTop (mkF m 26 #[.val (.ref a), .val (.int p0), .val (.int h1), .val (.int (1 : Int32))] [(.int (0 : Int32))]))
        refine Goes.via (Xq10.lookupswitchHit hx (g := (mkF m 26 #[.val (.ref a), .val (.int p0), .val (.int h1), .val (.int (1 : Int32))] [(.int (0 : Int32))])) rfl rfl (hb hby d_prog_20_method_5_code_26) (by decide) (a := 0) (off := 36) (by decide) (by show (0 : Int) ≤ ((26 : Nat) : Int) + 36; decide)) ?_
        show Goes _ _ _ _ _ _ _ _ (Tq10.setTop (mkF m 62 #[.val (.ref a), .val (.int p0), .val (.int h1), .val (.int (1 : Int32))] []))
        refine Goes.via (fun _ k => XS.iloadN Xq10.here hx rfl (hb hby d_prog_20_method_5_code_62) rfl k) ?_
        show Goes _ _ _ _ _ _ _ _ (Tq10.setTop (mkF m 63 #[.val (.ref a), .val (.int p0), .val (.int h1), .val (.int (1 : Int32))] [(.int (1 : Int32))]))
        refine Goes.via (fun _ k => XS.goto Xq10.here hx rfl (pc0 := 63) (pc' := 75) rfl (hb hby d_prog_20_method_5_code_63) (by decide) (by decide) k) ?_
        show Goes _ _ _ _ _ _ _ _ (Tq10.setTop (mkF m 75 #[.val (.ref a), .val (.int p0), .val (.int h1), .val (.int (1 : Int32))] [(.int (1 : Int32))]))
        refine goRetN Xq10 hx hrt (by simp) hlk Nq10 (by decide) (by decide) (hb hby d_prog_20_method_5_code_75) ?_
        try rw [pq10_0]
        exact ⟨by show some (Value.int (1 : Int32)) = _; simp [inPk, offPk, cq1, cq4, cq7], rfl⟩
theorem ef_offp (m : MethodId) (a : Addr) (p0 : Int32) (h1 : Int32) : entryFrame m #[(.ref a), (.int p0), (.int h1)] 4 = mkF m 0 #[.val (.ref a), .val (.int p0), .val (.int h1), .unset] [] := by first | (simp [entryFrame, mkF, argsToLocals, Value.category]; done) | rfl
set_option maxRecDepth 65536 in
set_option maxHeartbeats 40000000 in
theorem offp (l : Launch) (Z : State) (aw : Array Value) (hw : ∀ d ∈ tables_1, d.before aw Z = true) (a : Addr) (p0 : Int32) (h1 : Int32) {h0 : Heap} {n0 : Nat} (O : Old Z n0 h0) (E : Exa Z Z.heap a "com/example/zonetally/zonetally/HourBlock") (F : Fld Z Z.heap a "java/lang/Enum" "ordinal" "I" (.int (1 : Int32))) :
    MET l Z (⟨"com/example/zonetally/zonetally/HourBlock", "contains", "(ZI)Z"⟩ : MethodName) prog_20_method_5_code 4 (some .boolean) ({ frames := 1, cells := 0, slots := 0, locals := 12 } : Room) #[(.ref a), (.int p0), (.int h1)] h0 n0 (fun vv hh => vv = some (.int (offPk p0 h1)) ∧ hh = h0) := by
  refine metOf (plainFor_of_name pn_1) ?_
  intro p e s m below meth c T hx hby hml hrt hlk hnm hZ hown X e0
  replace hml : c.maxLocals = 4 := hml
  replace hnm : meth.name = "contains" := hnm
  replace hown : s.vm.findClass "com/example/zonetally/zonetally/HourBlock" = some m.cls := hown
  have N := Fr.nil n0
  have zO := O.le
  refine goCast (ef_offp m a p0 h1) ?_
  show Goes _ _ _ _ _ _ _ _ (T.setTop (mkF m 0 #[.val (.ref a), .val (.int p0), .val (.int h1), .unset] []))
  refine Goes.via (fun _ k => XS.iloadN X.here hx rfl (hb hby d_prog_20_method_5_code_0) rfl k) ?_
  show Goes _ _ _ _ _ _ _ _ (T.setTop (mkF m 1 #[.val (.ref a), .val (.int p0), .val (.int h1), .unset] [(.int p0)]))
  by_cases cq1 : p0 = (0 : Int32)
  · skip
    refine Goes.via (fun _ k => XS.ifYes X.here hx rfl (pc0 := 1) (pc' := 20) rfl (hb hby d_prog_20_method_5_code_1) rfl (XT.i0_eq_t cq1) (by decide) (by decide) k) ?_
    show Goes _ _ _ _ _ _ _ _ (T.setTop (mkF m 20 #[.val (.ref a), .val (.int p0), .val (.int h1), .unset] []))
    refine Goes.via (fun _ k => XT.iconstV X.here hx rfl (0 : Int32) (hb hby d_prog_20_method_5_code_20) (by decide) k) ?_
    show Goes _ _ _ _ _ _ _ _ (T.setTop (mkF m 21 #[.val (.ref a), .val (.int p0), .val (.int h1), .unset] [(.int (0 : Int32))]))
    refine Goes.via (fun _ k => XS.istoreN X.here hx rfl (hb hby d_prog_20_method_5_code_21) rfl (l' := #[.val (.ref a), .val (.int p0), .val (.int h1), .val (.int (0 : Int32))]) rfl k) ?_
    show Goes _ _ _ _ _ _ _ _ (T.setTop (mkF m 22 #[.val (.ref a), .val (.int p0), .val (.int h1), .val (.int (0 : Int32))] []))
    refine Goes.via (fun _ k => XS.aloadN X.here hx rfl (hb hby d_prog_20_method_5_code_22) rfl rfl k) ?_
    show Goes _ _ _ _ _ _ _ _ (T.setTop (mkF m 23 #[.val (.ref a), .val (.int p0), .val (.int h1), .val (.int (0 : Int32))] [(.ref a)]))
    have fq3 : Exa Z h0 a "com/example/zonetally/zonetally/HourBlock" := (E.ext O.2)
    obtain ⟨vq2, Tq2, Lq2, Xq2, qq2, nq2, stq2⟩ := callUp (owner := "java/lang/Enum") (y := (⟨"com/example/zonetally/zonetally/HourBlock", "ordinal", "()I"⟩ : MethodName)) (z := (⟨"java/lang/Enum", "ordinal", "()I"⟩ : MethodName)) X hx hZ hown (ordn l Z aw hw a (1 : Int32) O F) (W_8 hw) (W_9 hw) (W_10 hw) (W_12 hw) (W_11 hw) (W_13 hw) (W_14 hw) (by decide) e0 fq3 (by decide) (W := 0) (by decide) (by decide) (by decide) (g := (mkF m 23 #[.val (.ref a), .val (.int p0), .val (.int h1), .val (.int (0 : Int32))] [(.ref a)])) rfl (by rw [hml]; rfl) (a := a) (argsL := []) (rest := []) rfl (lenOf pd_2 rfl) rfl (by show 2 * 0 + _ ≤ _; exact Nat.le_of_eq rfl) (hb hby d_prog_20_method_5_code_23)
    obtain ⟨rfl, pq2_0⟩ := qq2
    have Nq2 := Fr.app N nq2
    refine Goes.via stq2 ?_
    show Goes _ _ _ _ _ _ _ _ (Tq2.setTop (mkF m 26 #[.val (.ref a), .val (.int p0), .val (.int h1), .val (.int (0 : Int32))] [(.int (1 : Int32))]))
    refine Goes.via (Xq2.lookupswitchHit hx (g := (mkF m 26 #[.val (.ref a), .val (.int p0), .val (.int h1), .val (.int (0 : Int32))] [(.int (1 : Int32))])) rfl rfl (hb hby d_prog_20_method_5_code_26) (by decide) (a := 1) (off := 40) (by decide) (by show (0 : Int) ≤ ((26 : Nat) : Int) + 40; decide)) ?_
    show Goes _ _ _ _ _ _ _ _ (Tq2.setTop (mkF m 66 #[.val (.ref a), .val (.int p0), .val (.int h1), .val (.int (0 : Int32))] []))
    refine Goes.via (fun _ k => XS.iloadN Xq2.here hx rfl (hb hby d_prog_20_method_5_code_66) rfl k) ?_
    show Goes _ _ _ _ _ _ _ _ (Tq2.setTop (mkF m 67 #[.val (.ref a), .val (.int p0), .val (.int h1), .val (.int (0 : Int32))] [(.int (0 : Int32))]))
    refine Goes.via (fun _ k => XS.ifNo Xq2.here hx rfl (hb hby d_prog_20_method_5_code_67) rfl (XT.i0_ne_f (by decide)) k) ?_
    show Goes _ _ _ _ _ _ _ _ (Tq2.setTop (mkF m 70 #[.val (.ref a), .val (.int p0), .val (.int h1), .val (.int (0 : Int32))] []))
    refine Goes.via (fun _ k => XT.iconstV Xq2.here hx rfl (1 : Int32) (hb hby d_prog_20_method_5_code_70) (by decide) k) ?_
    show Goes _ _ _ _ _ _ _ _ (Tq2.setTop (mkF m 71 #[.val (.ref a), .val (.int p0), .val (.int h1), .val (.int (0 : Int32))] [(.int (1 : Int32))]))
    refine Goes.via (fun _ k => XS.goto Xq2.here hx rfl (pc0 := 71) (pc' := 75) rfl (hb hby d_prog_20_method_5_code_71) (by decide) (by decide) k) ?_
    show Goes _ _ _ _ _ _ _ _ (Tq2.setTop (mkF m 75 #[.val (.ref a), .val (.int p0), .val (.int h1), .val (.int (0 : Int32))] [(.int (1 : Int32))]))
    refine goRetN Xq2 hx hrt (by simp) hlk Nq2 (by decide) (by decide) (hb hby d_prog_20_method_5_code_75) ?_
    try rw [pq2_0]
    exact ⟨by show some (Value.int (1 : Int32)) = _; simp [inPk, offPk, cq1], rfl⟩
  · skip
    refine Goes.via (fun _ k => XS.ifNo X.here hx rfl (hb hby d_prog_20_method_5_code_1) rfl (XT.i0_eq_f cq1) k) ?_
    show Goes _ _ _ _ _ _ _ _ (T.setTop (mkF m 4 #[.val (.ref a), .val (.int p0), .val (.int h1), .unset] []))
    refine Goes.via (fun _ k => XS.iloadN X.here hx rfl (hb hby d_prog_20_method_5_code_4) rfl k) ?_
    show Goes _ _ _ _ _ _ _ _ (T.setTop (mkF m 5 #[.val (.ref a), .val (.int p0), .val (.int h1), .unset] [(.int h1)]))
    refine Goes.via (fun _ k => XT.bipushV X.here hx rfl (8 : Int32) (hb hby d_prog_20_method_5_code_5) (by decide) k) ?_
    show Goes _ _ _ _ _ _ _ _ (T.setTop (mkF m 7 #[.val (.ref a), .val (.int p0), .val (.int h1), .unset] [(.int (8 : Int32)), (.int h1)]))
    by_cases cq4 : h1 < (8 : Int32)
    · skip
      refine Goes.via (fun _ k => XS.icmpYes X.here hx rfl (pc0 := 7) (pc' := 20) rfl (hb hby d_prog_20_method_5_code_7) rfl (XT.ii_lt_t cq4) (by decide) (by decide) k) ?_
      show Goes _ _ _ _ _ _ _ _ (T.setTop (mkF m 20 #[.val (.ref a), .val (.int p0), .val (.int h1), .unset] []))
      refine Goes.via (fun _ k => XT.iconstV X.here hx rfl (0 : Int32) (hb hby d_prog_20_method_5_code_20) (by decide) k) ?_
      show Goes _ _ _ _ _ _ _ _ (T.setTop (mkF m 21 #[.val (.ref a), .val (.int p0), .val (.int h1), .unset] [(.int (0 : Int32))]))
      refine Goes.via (fun _ k => XS.istoreN X.here hx rfl (hb hby d_prog_20_method_5_code_21) rfl (l' := #[.val (.ref a), .val (.int p0), .val (.int h1), .val (.int (0 : Int32))]) rfl k) ?_
      show Goes _ _ _ _ _ _ _ _ (T.setTop (mkF m 22 #[.val (.ref a), .val (.int p0), .val (.int h1), .val (.int (0 : Int32))] []))
      refine Goes.via (fun _ k => XS.aloadN X.here hx rfl (hb hby d_prog_20_method_5_code_22) rfl rfl k) ?_
      show Goes _ _ _ _ _ _ _ _ (T.setTop (mkF m 23 #[.val (.ref a), .val (.int p0), .val (.int h1), .val (.int (0 : Int32))] [(.ref a)]))
      have fq6 : Exa Z h0 a "com/example/zonetally/zonetally/HourBlock" := (E.ext O.2)
      obtain ⟨vq5, Tq5, Lq5, Xq5, qq5, nq5, stq5⟩ := callUp (owner := "java/lang/Enum") (y := (⟨"com/example/zonetally/zonetally/HourBlock", "ordinal", "()I"⟩ : MethodName)) (z := (⟨"java/lang/Enum", "ordinal", "()I"⟩ : MethodName)) X hx hZ hown (ordn l Z aw hw a (1 : Int32) O F) (W_8 hw) (W_9 hw) (W_10 hw) (W_12 hw) (W_11 hw) (W_13 hw) (W_14 hw) (by decide) e0 fq6 (by decide) (W := 0) (by decide) (by decide) (by decide) (g := (mkF m 23 #[.val (.ref a), .val (.int p0), .val (.int h1), .val (.int (0 : Int32))] [(.ref a)])) rfl (by rw [hml]; rfl) (a := a) (argsL := []) (rest := []) rfl (lenOf pd_2 rfl) rfl (by show 2 * 0 + _ ≤ _; exact Nat.le_of_eq rfl) (hb hby d_prog_20_method_5_code_23)
      obtain ⟨rfl, pq5_0⟩ := qq5
      have Nq5 := Fr.app N nq5
      refine Goes.via stq5 ?_
      show Goes _ _ _ _ _ _ _ _ (Tq5.setTop (mkF m 26 #[.val (.ref a), .val (.int p0), .val (.int h1), .val (.int (0 : Int32))] [(.int (1 : Int32))]))
      refine Goes.via (Xq5.lookupswitchHit hx (g := (mkF m 26 #[.val (.ref a), .val (.int p0), .val (.int h1), .val (.int (0 : Int32))] [(.int (1 : Int32))])) rfl rfl (hb hby d_prog_20_method_5_code_26) (by decide) (a := 1) (off := 40) (by decide) (by show (0 : Int) ≤ ((26 : Nat) : Int) + 40; decide)) ?_
      show Goes _ _ _ _ _ _ _ _ (Tq5.setTop (mkF m 66 #[.val (.ref a), .val (.int p0), .val (.int h1), .val (.int (0 : Int32))] []))
      refine Goes.via (fun _ k => XS.iloadN Xq5.here hx rfl (hb hby d_prog_20_method_5_code_66) rfl k) ?_
      show Goes _ _ _ _ _ _ _ _ (Tq5.setTop (mkF m 67 #[.val (.ref a), .val (.int p0), .val (.int h1), .val (.int (0 : Int32))] [(.int (0 : Int32))]))
      refine Goes.via (fun _ k => XS.ifNo Xq5.here hx rfl (hb hby d_prog_20_method_5_code_67) rfl (XT.i0_ne_f (by decide)) k) ?_
      show Goes _ _ _ _ _ _ _ _ (Tq5.setTop (mkF m 70 #[.val (.ref a), .val (.int p0), .val (.int h1), .val (.int (0 : Int32))] []))
      refine Goes.via (fun _ k => XT.iconstV Xq5.here hx rfl (1 : Int32) (hb hby d_prog_20_method_5_code_70) (by decide) k) ?_
      show Goes _ _ _ _ _ _ _ _ (Tq5.setTop (mkF m 71 #[.val (.ref a), .val (.int p0), .val (.int h1), .val (.int (0 : Int32))] [(.int (1 : Int32))]))
      refine Goes.via (fun _ k => XS.goto Xq5.here hx rfl (pc0 := 71) (pc' := 75) rfl (hb hby d_prog_20_method_5_code_71) (by decide) (by decide) k) ?_
      show Goes _ _ _ _ _ _ _ _ (Tq5.setTop (mkF m 75 #[.val (.ref a), .val (.int p0), .val (.int h1), .val (.int (0 : Int32))] [(.int (1 : Int32))]))
      refine goRetN Xq5 hx hrt (by simp) hlk Nq5 (by decide) (by decide) (hb hby d_prog_20_method_5_code_75) ?_
      try rw [pq5_0]
      exact ⟨by show some (Value.int (1 : Int32)) = _; simp [inPk, offPk, cq1, cq4], rfl⟩
    · skip
      refine Goes.via (fun _ k => XS.icmpNo X.here hx rfl (hb hby d_prog_20_method_5_code_7) rfl (XT.ii_lt_f cq4) k) ?_
      show Goes _ _ _ _ _ _ _ _ (T.setTop (mkF m 10 #[.val (.ref a), .val (.int p0), .val (.int h1), .unset] []))
      refine Goes.via (fun _ k => XS.iloadN X.here hx rfl (hb hby d_prog_20_method_5_code_10) rfl k) ?_
      show Goes _ _ _ _ _ _ _ _ (T.setTop (mkF m 11 #[.val (.ref a), .val (.int p0), .val (.int h1), .unset] [(.int h1)]))
      refine Goes.via (fun _ k => XT.bipushV X.here hx rfl (23 : Int32) (hb hby d_prog_20_method_5_code_11) (by decide) k) ?_
      show Goes _ _ _ _ _ _ _ _ (T.setTop (mkF m 13 #[.val (.ref a), .val (.int p0), .val (.int h1), .unset] [(.int (23 : Int32)), (.int h1)]))
      by_cases cq7 : (23 : Int32) < h1
      · skip
        refine Goes.via (fun _ k => XS.icmpYes X.here hx rfl (pc0 := 13) (pc' := 20) rfl (hb hby d_prog_20_method_5_code_13) rfl (XT.ii_gt_t cq7) (by decide) (by decide) k) ?_
        show Goes _ _ _ _ _ _ _ _ (T.setTop (mkF m 20 #[.val (.ref a), .val (.int p0), .val (.int h1), .unset] []))
        refine Goes.via (fun _ k => XT.iconstV X.here hx rfl (0 : Int32) (hb hby d_prog_20_method_5_code_20) (by decide) k) ?_
        show Goes _ _ _ _ _ _ _ _ (T.setTop (mkF m 21 #[.val (.ref a), .val (.int p0), .val (.int h1), .unset] [(.int (0 : Int32))]))
        refine Goes.via (fun _ k => XS.istoreN X.here hx rfl (hb hby d_prog_20_method_5_code_21) rfl (l' := #[.val (.ref a), .val (.int p0), .val (.int h1), .val (.int (0 : Int32))]) rfl k) ?_
        show Goes _ _ _ _ _ _ _ _ (T.setTop (mkF m 22 #[.val (.ref a), .val (.int p0), .val (.int h1), .val (.int (0 : Int32))] []))
        refine Goes.via (fun _ k => XS.aloadN X.here hx rfl (hb hby d_prog_20_method_5_code_22) rfl rfl k) ?_
        show Goes _ _ _ _ _ _ _ _ (T.setTop (mkF m 23 #[.val (.ref a), .val (.int p0), .val (.int h1), .val (.int (0 : Int32))] [(.ref a)]))
        have fq9 : Exa Z h0 a "com/example/zonetally/zonetally/HourBlock" := (E.ext O.2)
        obtain ⟨vq8, Tq8, Lq8, Xq8, qq8, nq8, stq8⟩ := callUp (owner := "java/lang/Enum") (y := (⟨"com/example/zonetally/zonetally/HourBlock", "ordinal", "()I"⟩ : MethodName)) (z := (⟨"java/lang/Enum", "ordinal", "()I"⟩ : MethodName)) X hx hZ hown (ordn l Z aw hw a (1 : Int32) O F) (W_8 hw) (W_9 hw) (W_10 hw) (W_12 hw) (W_11 hw) (W_13 hw) (W_14 hw) (by decide) e0 fq9 (by decide) (W := 0) (by decide) (by decide) (by decide) (g := (mkF m 23 #[.val (.ref a), .val (.int p0), .val (.int h1), .val (.int (0 : Int32))] [(.ref a)])) rfl (by rw [hml]; rfl) (a := a) (argsL := []) (rest := []) rfl (lenOf pd_2 rfl) rfl (by show 2 * 0 + _ ≤ _; exact Nat.le_of_eq rfl) (hb hby d_prog_20_method_5_code_23)
        obtain ⟨rfl, pq8_0⟩ := qq8
        have Nq8 := Fr.app N nq8
        refine Goes.via stq8 ?_
        show Goes _ _ _ _ _ _ _ _ (Tq8.setTop (mkF m 26 #[.val (.ref a), .val (.int p0), .val (.int h1), .val (.int (0 : Int32))] [(.int (1 : Int32))]))
        refine Goes.via (Xq8.lookupswitchHit hx (g := (mkF m 26 #[.val (.ref a), .val (.int p0), .val (.int h1), .val (.int (0 : Int32))] [(.int (1 : Int32))])) rfl rfl (hb hby d_prog_20_method_5_code_26) (by decide) (a := 1) (off := 40) (by decide) (by show (0 : Int) ≤ ((26 : Nat) : Int) + 40; decide)) ?_
        show Goes _ _ _ _ _ _ _ _ (Tq8.setTop (mkF m 66 #[.val (.ref a), .val (.int p0), .val (.int h1), .val (.int (0 : Int32))] []))
        refine Goes.via (fun _ k => XS.iloadN Xq8.here hx rfl (hb hby d_prog_20_method_5_code_66) rfl k) ?_
        show Goes _ _ _ _ _ _ _ _ (Tq8.setTop (mkF m 67 #[.val (.ref a), .val (.int p0), .val (.int h1), .val (.int (0 : Int32))] [(.int (0 : Int32))]))
        refine Goes.via (fun _ k => XS.ifNo Xq8.here hx rfl (hb hby d_prog_20_method_5_code_67) rfl (XT.i0_ne_f (by decide)) k) ?_
        show Goes _ _ _ _ _ _ _ _ (Tq8.setTop (mkF m 70 #[.val (.ref a), .val (.int p0), .val (.int h1), .val (.int (0 : Int32))] []))
        refine Goes.via (fun _ k => XT.iconstV Xq8.here hx rfl (1 : Int32) (hb hby d_prog_20_method_5_code_70) (by decide) k) ?_
        show Goes _ _ _ _ _ _ _ _ (Tq8.setTop (mkF m 71 #[.val (.ref a), .val (.int p0), .val (.int h1), .val (.int (0 : Int32))] [(.int (1 : Int32))]))
        refine Goes.via (fun _ k => XS.goto Xq8.here hx rfl (pc0 := 71) (pc' := 75) rfl (hb hby d_prog_20_method_5_code_71) (by decide) (by decide) k) ?_
        show Goes _ _ _ _ _ _ _ _ (Tq8.setTop (mkF m 75 #[.val (.ref a), .val (.int p0), .val (.int h1), .val (.int (0 : Int32))] [(.int (1 : Int32))]))
        refine goRetN Xq8 hx hrt (by simp) hlk Nq8 (by decide) (by decide) (hb hby d_prog_20_method_5_code_75) ?_
        try rw [pq8_0]
        exact ⟨by show some (Value.int (1 : Int32)) = _; simp [inPk, offPk, cq1, cq4, cq7], rfl⟩
      · skip
        refine Goes.via (fun _ k => XS.icmpNo X.here hx rfl (hb hby d_prog_20_method_5_code_13) rfl (XT.ii_gt_f cq7) k) ?_
        show Goes _ _ _ _ _ _ _ _ (T.setTop (mkF m 16 #[.val (.ref a), .val (.int p0), .val (.int h1), .unset] []))
        refine Goes.via (fun _ k => XT.iconstV X.here hx rfl (1 : Int32) (hb hby d_prog_20_method_5_code_16) (by decide) k) ?_
        show Goes _ _ _ _ _ _ _ _ (T.setTop (mkF m 17 #[.val (.ref a), .val (.int p0), .val (.int h1), .unset] [(.int (1 : Int32))]))
        refine Goes.via (fun _ k => XS.goto X.here hx rfl (pc0 := 17) (pc' := 21) rfl (hb hby d_prog_20_method_5_code_17) (by decide) (by decide) k) ?_
        show Goes _ _ _ _ _ _ _ _ (T.setTop (mkF m 21 #[.val (.ref a), .val (.int p0), .val (.int h1), .unset] [(.int (1 : Int32))]))
        refine Goes.via (fun _ k => XS.istoreN X.here hx rfl (hb hby d_prog_20_method_5_code_21) rfl (l' := #[.val (.ref a), .val (.int p0), .val (.int h1), .val (.int (1 : Int32))]) rfl k) ?_
        show Goes _ _ _ _ _ _ _ _ (T.setTop (mkF m 22 #[.val (.ref a), .val (.int p0), .val (.int h1), .val (.int (1 : Int32))] []))
        refine Goes.via (fun _ k => XS.aloadN X.here hx rfl (hb hby d_prog_20_method_5_code_22) rfl rfl k) ?_
        show Goes _ _ _ _ _ _ _ _ (T.setTop (mkF m 23 #[.val (.ref a), .val (.int p0), .val (.int h1), .val (.int (1 : Int32))] [(.ref a)]))
        have fq11 : Exa Z h0 a "com/example/zonetally/zonetally/HourBlock" := (E.ext O.2)
        obtain ⟨vq10, Tq10, Lq10, Xq10, qq10, nq10, stq10⟩ := callUp (owner := "java/lang/Enum") (y := (⟨"com/example/zonetally/zonetally/HourBlock", "ordinal", "()I"⟩ : MethodName)) (z := (⟨"java/lang/Enum", "ordinal", "()I"⟩ : MethodName)) X hx hZ hown (ordn l Z aw hw a (1 : Int32) O F) (W_8 hw) (W_9 hw) (W_10 hw) (W_12 hw) (W_11 hw) (W_13 hw) (W_14 hw) (by decide) e0 fq11 (by decide) (W := 0) (by decide) (by decide) (by decide) (g := (mkF m 23 #[.val (.ref a), .val (.int p0), .val (.int h1), .val (.int (1 : Int32))] [(.ref a)])) rfl (by rw [hml]; rfl) (a := a) (argsL := []) (rest := []) rfl (lenOf pd_2 rfl) rfl (by show 2 * 0 + _ ≤ _; exact Nat.le_of_eq rfl) (hb hby d_prog_20_method_5_code_23)
        obtain ⟨rfl, pq10_0⟩ := qq10
        have Nq10 := Fr.app N nq10
        refine Goes.via stq10 ?_
        show Goes _ _ _ _ _ _ _ _ (Tq10.setTop (mkF m 26 #[.val (.ref a), .val (.int p0), .val (.int h1), .val (.int (1 : Int32))] [(.int (1 : Int32))]))
        refine Goes.via (Xq10.lookupswitchHit hx (g := (mkF m 26 #[.val (.ref a), .val (.int p0), .val (.int h1), .val (.int (1 : Int32))] [(.int (1 : Int32))])) rfl rfl (hb hby d_prog_20_method_5_code_26) (by decide) (a := 1) (off := 40) (by decide) (by show (0 : Int) ≤ ((26 : Nat) : Int) + 40; decide)) ?_
        show Goes _ _ _ _ _ _ _ _ (Tq10.setTop (mkF m 66 #[.val (.ref a), .val (.int p0), .val (.int h1), .val (.int (1 : Int32))] []))
        refine Goes.via (fun _ k => XS.iloadN Xq10.here hx rfl (hb hby d_prog_20_method_5_code_66) rfl k) ?_
        show Goes _ _ _ _ _ _ _ _ (Tq10.setTop (mkF m 67 #[.val (.ref a), .val (.int p0), .val (.int h1), .val (.int (1 : Int32))] [(.int (1 : Int32))]))
        refine Goes.via (fun _ k => XS.ifYes Xq10.here hx rfl (pc0 := 67) (pc' := 74) rfl (hb hby d_prog_20_method_5_code_67) rfl (XT.i0_ne_t (by decide)) (by decide) (by decide) k) ?_
        show Goes _ _ _ _ _ _ _ _ (Tq10.setTop (mkF m 74 #[.val (.ref a), .val (.int p0), .val (.int h1), .val (.int (1 : Int32))] []))
        refine Goes.via (fun _ k => XT.iconstV Xq10.here hx rfl (0 : Int32) (hb hby d_prog_20_method_5_code_74) (by decide) k) ?_
        show Goes _ _ _ _ _ _ _ _ (Tq10.setTop (mkF m 75 #[.val (.ref a), .val (.int p0), .val (.int h1), .val (.int (1 : Int32))] [(.int (0 : Int32))]))
        refine goRetN Xq10 hx hrt (by simp) hlk Nq10 (by decide) (by decide) (hb hby d_prog_20_method_5_code_75) ?_
        try rw [pq10_0]
        exact ⟨by show some (Value.int (0 : Int32)) = _; simp [inPk, offPk, cq1, cq4, cq7], rfl⟩
theorem h8 (h : Int32) : (h.toInt64 - (8 : Int64)).toInt = h.toInt - 8 := by
  have h1 := h.toInt_lt; have h2 := h.le_toInt
  rw [XT.sub64 ⟨by rw [Int32.toInt_toInt64]; have : (8 : Int64).toInt = 8 := by decide
                   omega, by rw [Int32.toInt_toInt64]; have : (8 : Int64).toInt = 8 := by decide
                             omega⟩, Int32.toInt_toInt64]; rfl
theorem pk_lo {h : Int32} (q : h.toInt64 - (8 : Int64) < (0 : Int64)) : inPk 1 h = 0 := by
  rw [Int64.lt_iff_toInt_lt, h8] at q
  have e0 : (0 : Int64).toInt = 0 := by decide
  have e1 : (8 : Int32).toInt = 8 := by decide
  exact if_pos (Or.inr (Or.inl (by rw [Int32.lt_iff_toInt_lt]; omega)))
theorem pk_hi {h : Int32} (q : ¬ h.toInt64 - (8 : Int64) < (16 : Int64)) : inPk 1 h = 0 := by
  rw [Int64.lt_iff_toInt_lt, h8] at q
  have e0 : (16 : Int64).toInt = 16 := by decide
  have e1 : (23 : Int32).toInt = 23 := by decide
  exact if_pos (Or.inr (Or.inr (by rw [Int32.lt_iff_toInt_lt]; omega)))
theorem pk_in {h : Int32} (q : ¬ h.toInt64 - (8 : Int64) < (0 : Int64)) (r : h.toInt64 - (8 : Int64) < (16 : Int64)) : inPk 1 h = 1 := by
  rw [Int64.lt_iff_toInt_lt, h8] at q r
  have e0 : (0 : Int64).toInt = 0 := by decide
  have e1 : (16 : Int64).toInt = 16 := by decide
  have e2 : (8 : Int32).toInt = 8 := by decide
  have e3 : (23 : Int32).toInt = 23 := by decide
  refine if_neg ?_
  simp only [Int32.lt_iff_toInt_lt, not_or]
  exact ⟨by decide, by omega, by omega⟩
theorem pk_no {h : Int32} : inPk 0 h = 0 := if_pos (Or.inl rfl)
theorem ef_law (m : MethodId) (flag : Int32) (hr : Int32) : entryFrame m #[(.int flag), (.int hr)] maxLocals = mkF m 0 #[.val (.int flag), .val (.int hr), .unset, .unset, .unset, .unset, .unset, .unset, .unset] [] := by first | (simp [entryFrame, mkF, argsToLocals, Value.category, maxLocals]; done) | rfl
set_option maxRecDepth 65536 in
set_option maxHeartbeats 40000000 in
theorem law (l : Launch) (Z : State) (aw : Array Value) (hw : ∀ d ∈ tables_1, d.before aw Z = true) (flag : Int32) (hr : Int32) (a0p : Addr) (a1p : Addr) {h0 : Heap} {n0 : Nat} (O : Old Z n0 h0) (S0 : Sta Z Z.heap "com/example/zonetally/zonetally/HourBlock" "PEAK" "Lcom/example/zonetally/zonetally/HourBlock;" (.ref a0p)) (E0 : Exa Z Z.heap a0p "com/example/zonetally/zonetally/HourBlock") (F0 : Fld Z Z.heap a0p "java/lang/Enum" "ordinal" "I" (.int (0 : Int32))) (S1 : Sta Z Z.heap "com/example/zonetally/zonetally/HourBlock" "OFF_PEAK" "Lcom/example/zonetally/zonetally/HourBlock;" (.ref a1p)) (E1 : Exa Z Z.heap a1p "com/example/zonetally/zonetally/HourBlock") (F1 : Fld Z Z.heap a1p "java/lang/Enum" "ordinal" "I" (.int (1 : Int32))) :
    MET l Z x code maxLocals ret room_1 #[(.int flag), (.int hr)] h0 n0 (fun vv hh => vv = some (.int (1 : Int32))) := by
  refine metOf (plainFor_of_name pn_3) ?_
  intro p e s m below meth c T hx hby hml hrt hlk hnm hZ hown X e0
  replace hml : c.maxLocals = 9 := hml
  replace hnm : meth.name = "law" := hnm
  replace hown : s.vm.findClass "com/example/zonetally/zonetally/HourBlockContainsPinLaw" = some m.cls := hown
  have N := Fr.nil n0
  have zO := O.le
  refine goCast (ef_law m flag hr) ?_
  show Goes _ _ _ _ _ _ _ _ (T.setTop (mkF m 0 #[.val (.int flag), .val (.int hr), .unset, .unset, .unset, .unset, .unset, .unset, .unset] []))
  refine Goes.via (fun _ k => XS.iloadN X.here hx rfl (hb hby at_0) rfl k) ?_
  show Goes _ _ _ _ _ _ _ _ (T.setTop (mkF m 1 #[.val (.int flag), .val (.int hr), .unset, .unset, .unset, .unset, .unset, .unset, .unset] [(.int flag)]))
  refine Goes.via (fun _ k => XT.iconstV X.here hx rfl (1 : Int32) (hb hby at_1) (by decide) k) ?_
  show Goes _ _ _ _ _ _ _ _ (T.setTop (mkF m 2 #[.val (.int flag), .val (.int hr), .unset, .unset, .unset, .unset, .unset, .unset, .unset] [(.int (1 : Int32)), (.int flag)]))
  refine Goes.via (fun _ k => XS.iand X.here hx rfl (hb hby at_2) rfl k) ?_
  show Goes _ _ _ _ _ _ _ _ (T.setTop (mkF m 3 #[.val (.int flag), .val (.int hr), .unset, .unset, .unset, .unset, .unset, .unset, .unset] [(.int (flag &&& (1 : Int32)))]))
  by_cases cq1 : (flag &&& (1 : Int32)) = (0 : Int32)
  · skip
    refine Goes.via (fun _ k => XS.ifYes X.here hx rfl (pc0 := 3) (pc' := 10) rfl (hb hby at_3) rfl (XT.i0_eq_t cq1) (by decide) (by decide) k) ?_
    show Goes _ _ _ _ _ _ _ _ (T.setTop (mkF m 10 #[.val (.int flag), .val (.int hr), .unset, .unset, .unset, .unset, .unset, .unset, .unset] []))
    refine Goes.via (fun _ k => XT.iconstV X.here hx rfl (0 : Int32) (hb hby at_10) (by decide) k) ?_
    show Goes _ _ _ _ _ _ _ _ (T.setTop (mkF m 11 #[.val (.int flag), .val (.int hr), .unset, .unset, .unset, .unset, .unset, .unset, .unset] [(.int (0 : Int32))]))
    refine Goes.via (fun _ k => XS.istoreN X.here hx rfl (hb hby at_11) rfl (l' := #[.val (.int flag), .val (.int hr), .val (.int (0 : Int32)), .unset, .unset, .unset, .unset, .unset, .unset]) rfl k) ?_
    show Goes _ _ _ _ _ _ _ _ (T.setTop (mkF m 12 #[.val (.int flag), .val (.int hr), .val (.int (0 : Int32)), .unset, .unset, .unset, .unset, .unset, .unset] []))
    refine Goes.via (fun _ k => XS.iloadN X.here hx rfl (hb hby at_12) rfl k) ?_
    show Goes _ _ _ _ _ _ _ _ (T.setTop (mkF m 13 #[.val (.int flag), .val (.int hr), .val (.int (0 : Int32)), .unset, .unset, .unset, .unset, .unset, .unset] [(.int flag)]))
    refine Goes.via (fun _ k => XT.iconstV X.here hx rfl (2 : Int32) (hb hby at_13) (by decide) k) ?_
    show Goes _ _ _ _ _ _ _ _ (T.setTop (mkF m 14 #[.val (.int flag), .val (.int hr), .val (.int (0 : Int32)), .unset, .unset, .unset, .unset, .unset, .unset] [(.int (2 : Int32)), (.int flag)]))
    refine Goes.via (fun _ k => XS.iand X.here hx rfl (hb hby at_14) rfl k) ?_
    show Goes _ _ _ _ _ _ _ _ (T.setTop (mkF m 15 #[.val (.int flag), .val (.int hr), .val (.int (0 : Int32)), .unset, .unset, .unset, .unset, .unset, .unset] [(.int (flag &&& (2 : Int32)))]))
    by_cases cq2 : (flag &&& (2 : Int32)) = (0 : Int32)
    · skip
      refine Goes.via (fun _ k => XS.ifYes X.here hx rfl (pc0 := 15) (pc' := 25) rfl (hb hby at_15) rfl (XT.i0_eq_t cq2) (by decide) (by decide) k) ?_
      show Goes _ _ _ _ _ _ _ _ (T.setTop (mkF m 25 #[.val (.int flag), .val (.int hr), .val (.int (0 : Int32)), .unset, .unset, .unset, .unset, .unset, .unset] []))
      refine Goes.via (fun _ k => XS.iloadN X.here hx rfl (hb hby at_25) rfl k) ?_
      show Goes _ _ _ _ _ _ _ _ (T.setTop (mkF m 26 #[.val (.int flag), .val (.int hr), .val (.int (0 : Int32)), .unset, .unset, .unset, .unset, .unset, .unset] [(.int hr)]))
      refine Goes.via (fun _ k => XS.istoreN X.here hx rfl (hb hby at_26) rfl (l' := #[.val (.int flag), .val (.int hr), .val (.int (0 : Int32)), .val (.int hr), .unset, .unset, .unset, .unset, .unset]) rfl k) ?_
      show Goes _ _ _ _ _ _ _ _ (T.setTop (mkF m 27 #[.val (.int flag), .val (.int hr), .val (.int (0 : Int32)), .val (.int hr), .unset, .unset, .unset, .unset, .unset] []))
      have fq4 : Sta Z h0 "com/example/zonetally/zonetally/HourBlock" "PEAK" "Lcom/example/zonetally/zonetally/HourBlock;" (.ref a0p) := (S0.ext O.2)
      obtain ⟨Tq3, Xq3, eq3, stq3⟩ := getS2 X hx hZ hown (host := "") (Or.inl (W_0 hw)) Via.refl e0 fq4 (g := (mkF m 27 #[.val (.int flag), .val (.int hr), .val (.int (0 : Int32)), .val (.int hr), .unset, .unset, .unset, .unset, .unset] [])) rfl (hb hby at_27)
      refine Goes.via stq3 ?_
      show Goes _ _ _ _ _ _ _ _ (Tq3.setTop (mkF m 30 #[.val (.int flag), .val (.int hr), .val (.int (0 : Int32)), .val (.int hr), .unset, .unset, .unset, .unset, .unset] [(.ref a0p)]))
      refine Goes.via (fun _ k => XS.iloadN Xq3.here hx rfl (hb hby at_30) rfl k) ?_
      show Goes _ _ _ _ _ _ _ _ (Tq3.setTop (mkF m 31 #[.val (.int flag), .val (.int hr), .val (.int (0 : Int32)), .val (.int hr), .unset, .unset, .unset, .unset, .unset] [(.int (0 : Int32)), (.ref a0p)]))
      refine Goes.via (fun _ k => XS.iloadN Xq3.here hx rfl (hb hby at_31) rfl k) ?_
      show Goes _ _ _ _ _ _ _ _ (Tq3.setTop (mkF m 32 #[.val (.int flag), .val (.int hr), .val (.int (0 : Int32)), .val (.int hr), .unset, .unset, .unset, .unset, .unset] [(.int hr), (.int (0 : Int32)), (.ref a0p)]))
      have fq6 : Exa Z h0 a0p "com/example/zonetally/zonetally/HourBlock" := (E0.ext O.2)
      obtain ⟨vq5, Tq5, Lq5, Xq5, qq5, nq5, stq5⟩ := callVi Xq3 hx hZ hown (peak l Z aw hw a0p (0 : Int32) hr O E0 F0) (W_3 hw) (W_4 hw) (notFace_of_selects (args := #[]) (mvT hZ (W_6 hw))) (W_6 hw) (W_5 hw) (W_1 hw) (W_7 hw) (by decide) eq3 fq6 (by decide) (W := 0) (by decide) (by decide) (by decide) (g := (mkF m 32 #[.val (.int flag), .val (.int hr), .val (.int (0 : Int32)), .val (.int hr), .unset, .unset, .unset, .unset, .unset] [(.int hr), (.int (0 : Int32)), (.ref a0p)])) rfl (by rw [hml]; rfl) (a := a0p) (argsL := [(.int (0 : Int32)), (.int hr)]) (rest := []) rfl (lenOf pd_4 rfl) rfl (by show 2 * 0 + _ ≤ _; exact Nat.le_of_eq rfl) (hb hby at_32)
      obtain ⟨rfl, pq5_0⟩ := qq5
      have Nq5 := Fr.app N nq5
      refine Goes.via stq5 ?_
      show Goes _ _ _ _ _ _ _ _ (Tq5.setTop (mkF m 35 #[.val (.int flag), .val (.int hr), .val (.int (0 : Int32)), .val (.int hr), .unset, .unset, .unset, .unset, .unset] [(.int (inPk (0 : Int32) hr))]))
      refine Goes.via (fun _ k => XS.istore Xq5.here hx rfl (hb hby at_35) rfl (l' := #[.val (.int flag), .val (.int hr), .val (.int (0 : Int32)), .val (.int hr), .val (.int (inPk (0 : Int32) hr)), .unset, .unset, .unset, .unset]) rfl k) ?_
      show Goes _ _ _ _ _ _ _ _ (Tq5.setTop (mkF m 37 #[.val (.int flag), .val (.int hr), .val (.int (0 : Int32)), .val (.int hr), .val (.int (inPk (0 : Int32) hr)), .unset, .unset, .unset, .unset] []))
      have fq8 : Sta Z h0 "com/example/zonetally/zonetally/HourBlock" "OFF_PEAK" "Lcom/example/zonetally/zonetally/HourBlock;" (.ref a1p) := (S1.ext O.2)
      obtain ⟨Tq7, Xq7, eq7, stq7⟩ := getS2 Xq5 hx hZ hown (host := "") (Or.inl (W_17 hw)) Via.refl pq5_0 fq8 (g := (mkF m 37 #[.val (.int flag), .val (.int hr), .val (.int (0 : Int32)), .val (.int hr), .val (.int (inPk (0 : Int32) hr)), .unset, .unset, .unset, .unset] [])) rfl (hb hby at_37)
      refine Goes.via stq7 ?_
      show Goes _ _ _ _ _ _ _ _ (Tq7.setTop (mkF m 40 #[.val (.int flag), .val (.int hr), .val (.int (0 : Int32)), .val (.int hr), .val (.int (inPk (0 : Int32) hr)), .unset, .unset, .unset, .unset] [(.ref a1p)]))
      refine Goes.via (fun _ k => XS.iloadN Xq7.here hx rfl (hb hby at_40) rfl k) ?_
      show Goes _ _ _ _ _ _ _ _ (Tq7.setTop (mkF m 41 #[.val (.int flag), .val (.int hr), .val (.int (0 : Int32)), .val (.int hr), .val (.int (inPk (0 : Int32) hr)), .unset, .unset, .unset, .unset] [(.int (0 : Int32)), (.ref a1p)]))
      refine Goes.via (fun _ k => XS.iloadN Xq7.here hx rfl (hb hby at_41) rfl k) ?_
      show Goes _ _ _ _ _ _ _ _ (Tq7.setTop (mkF m 42 #[.val (.int flag), .val (.int hr), .val (.int (0 : Int32)), .val (.int hr), .val (.int (inPk (0 : Int32) hr)), .unset, .unset, .unset, .unset] [(.int hr), (.int (0 : Int32)), (.ref a1p)]))
      have fq10 : Exa Z h0 a1p "com/example/zonetally/zonetally/HourBlock" := (E1.ext O.2)
      obtain ⟨vq9, Tq9, Lq9, Xq9, qq9, nq9, stq9⟩ := callVi Xq7 hx hZ hown (offp l Z aw hw a1p (0 : Int32) hr O E1 F1) (W_3 hw) (W_4 hw) (notFace_of_selects (args := #[]) (mvT hZ (W_6 hw))) (W_6 hw) (W_5 hw) (W_1 hw) (W_7 hw) (by decide) eq7 fq10 (by decide) (W := 0) (by decide) (by decide) (by decide) (g := (mkF m 42 #[.val (.int flag), .val (.int hr), .val (.int (0 : Int32)), .val (.int hr), .val (.int (inPk (0 : Int32) hr)), .unset, .unset, .unset, .unset] [(.int hr), (.int (0 : Int32)), (.ref a1p)])) rfl (by rw [hml]; rfl) (a := a1p) (argsL := [(.int (0 : Int32)), (.int hr)]) (rest := []) rfl (lenOf pd_4 rfl) rfl (by show 2 * 0 + _ ≤ _; exact Nat.le_of_eq rfl) (hb hby at_42)
      obtain ⟨rfl, pq9_0⟩ := qq9
      have Nq9 := Fr.app Nq5 nq9
      refine Goes.via stq9 ?_
      show Goes _ _ _ _ _ _ _ _ (Tq9.setTop (mkF m 45 #[.val (.int flag), .val (.int hr), .val (.int (0 : Int32)), .val (.int hr), .val (.int (inPk (0 : Int32) hr)), .unset, .unset, .unset, .unset] [(.int (offPk (0 : Int32) hr))]))
      refine Goes.via (fun _ k => XS.istore Xq9.here hx rfl (hb hby at_45) rfl (l' := #[.val (.int flag), .val (.int hr), .val (.int (0 : Int32)), .val (.int hr), .val (.int (inPk (0 : Int32) hr)), .val (.int (offPk (0 : Int32) hr)), .unset, .unset, .unset]) rfl k) ?_
      show Goes _ _ _ _ _ _ _ _ (Tq9.setTop (mkF m 47 #[.val (.int flag), .val (.int hr), .val (.int (0 : Int32)), .val (.int hr), .val (.int (inPk (0 : Int32) hr)), .val (.int (offPk (0 : Int32) hr)), .unset, .unset, .unset] []))
      refine Goes.via (fun _ k => XS.iloadN Xq9.here hx rfl (hb hby at_47) rfl k) ?_
      show Goes _ _ _ _ _ _ _ _ (Tq9.setTop (mkF m 48 #[.val (.int flag), .val (.int hr), .val (.int (0 : Int32)), .val (.int hr), .val (.int (inPk (0 : Int32) hr)), .val (.int (offPk (0 : Int32) hr)), .unset, .unset, .unset] [(.int hr)]))
      refine Goes.via (fun _ k => XT.i2l Xq9.here hx rfl (hb hby at_48) rfl k) ?_
      show Goes _ _ _ _ _ _ _ _ (Tq9.setTop (mkF m 49 #[.val (.int flag), .val (.int hr), .val (.int (0 : Int32)), .val (.int hr), .val (.int (inPk (0 : Int32) hr)), .val (.int (offPk (0 : Int32) hr)), .unset, .unset, .unset] [(.long hr.toInt64)]))
      refine Goes.via (fun _ k => Xq9.ldc2J hx hown (mvT hZ (W_19 hw)) (g := (mkF m 49 #[.val (.int flag), .val (.int hr), .val (.int (0 : Int32)), .val (.int hr), .val (.int (inPk (0 : Int32) hr)), .val (.int (offPk (0 : Int32) hr)), .unset, .unset, .unset] [(.long hr.toInt64)])) rfl (hb hby at_49) k) ?_
      show Goes _ _ _ _ _ _ _ _ (Tq9.setTop (mkF m 52 #[.val (.int flag), .val (.int hr), .val (.int (0 : Int32)), .val (.int hr), .val (.int (inPk (0 : Int32) hr)), .val (.int (offPk (0 : Int32) hr)), .unset, .unset, .unset] [(.long (8 : Int64)), (.long hr.toInt64)]))
      refine Goes.via (fun _ k => XT.lsub Xq9.here hx rfl (hb hby at_52) rfl k) ?_
      show Goes _ _ _ _ _ _ _ _ (Tq9.setTop (mkF m 53 #[.val (.int flag), .val (.int hr), .val (.int (0 : Int32)), .val (.int hr), .val (.int (inPk (0 : Int32) hr)), .val (.int (offPk (0 : Int32) hr)), .unset, .unset, .unset] [(.long (hr.toInt64 - (8 : Int64)))]))
      refine Goes.via (fun _ k => XT.lstore Xq9.here hx rfl (hb hby at_53) rfl (l' := #[.val (.int flag), .val (.int hr), .val (.int (0 : Int32)), .val (.int hr), .val (.int (inPk (0 : Int32) hr)), .val (.int (offPk (0 : Int32) hr)), .val (.long (hr.toInt64 - (8 : Int64))), .second, .unset]) rfl k) ?_
      show Goes _ _ _ _ _ _ _ _ (Tq9.setTop (mkF m 55 #[.val (.int flag), .val (.int hr), .val (.int (0 : Int32)), .val (.int hr), .val (.int (inPk (0 : Int32) hr)), .val (.int (offPk (0 : Int32) hr)), .val (.long (hr.toInt64 - (8 : Int64))), .second, .unset] []))
      refine Goes.via (fun _ k => XS.iloadN Xq9.here hx rfl (hb hby at_55) rfl k) ?_
      show Goes _ _ _ _ _ _ _ _ (Tq9.setTop (mkF m 56 #[.val (.int flag), .val (.int hr), .val (.int (0 : Int32)), .val (.int hr), .val (.int (inPk (0 : Int32) hr)), .val (.int (offPk (0 : Int32) hr)), .val (.long (hr.toInt64 - (8 : Int64))), .second, .unset] [(.int (0 : Int32))]))
      refine Goes.via (fun _ k => XS.ifYes Xq9.here hx rfl (pc0 := 56) (pc' := 79) rfl (hb hby at_56) rfl (XT.i0_eq_t (by decide)) (by decide) (by decide) k) ?_
      show Goes _ _ _ _ _ _ _ _ (Tq9.setTop (mkF m 79 #[.val (.int flag), .val (.int hr), .val (.int (0 : Int32)), .val (.int hr), .val (.int (inPk (0 : Int32) hr)), .val (.int (offPk (0 : Int32) hr)), .val (.long (hr.toInt64 - (8 : Int64))), .second, .unset] []))
      refine Goes.via (fun _ k => XT.iconstV Xq9.here hx rfl (0 : Int32) (hb hby at_79) (by decide) k) ?_
      show Goes _ _ _ _ _ _ _ _ (Tq9.setTop (mkF m 80 #[.val (.int flag), .val (.int hr), .val (.int (0 : Int32)), .val (.int hr), .val (.int (inPk (0 : Int32) hr)), .val (.int (offPk (0 : Int32) hr)), .val (.long (hr.toInt64 - (8 : Int64))), .second, .unset] [(.int (0 : Int32))]))
      refine Goes.via (fun _ k => XS.istore Xq9.here hx rfl (hb hby at_80) rfl (l' := #[.val (.int flag), .val (.int hr), .val (.int (0 : Int32)), .val (.int hr), .val (.int (inPk (0 : Int32) hr)), .val (.int (offPk (0 : Int32) hr)), .val (.long (hr.toInt64 - (8 : Int64))), .second, .val (.int (0 : Int32))]) rfl k) ?_
      show Goes _ _ _ _ _ _ _ _ (Tq9.setTop (mkF m 82 #[.val (.int flag), .val (.int hr), .val (.int (0 : Int32)), .val (.int hr), .val (.int (inPk (0 : Int32) hr)), .val (.int (offPk (0 : Int32) hr)), .val (.long (hr.toInt64 - (8 : Int64))), .second, .val (.int (0 : Int32))] []))
      refine Goes.via (fun _ k => XS.iload Xq9.here hx rfl (hb hby at_82) rfl k) ?_
      show Goes _ _ _ _ _ _ _ _ (Tq9.setTop (mkF m 84 #[.val (.int flag), .val (.int hr), .val (.int (0 : Int32)), .val (.int hr), .val (.int (inPk (0 : Int32) hr)), .val (.int (offPk (0 : Int32) hr)), .val (.long (hr.toInt64 - (8 : Int64))), .second, .val (.int (0 : Int32))] [(.int (inPk (0 : Int32) hr))]))
      refine Goes.via (fun _ k => XS.iload Xq9.here hx rfl (hb hby at_84) rfl k) ?_
      show Goes _ _ _ _ _ _ _ _ (Tq9.setTop (mkF m 86 #[.val (.int flag), .val (.int hr), .val (.int (0 : Int32)), .val (.int hr), .val (.int (inPk (0 : Int32) hr)), .val (.int (offPk (0 : Int32) hr)), .val (.long (hr.toInt64 - (8 : Int64))), .second, .val (.int (0 : Int32))] [(.int (0 : Int32)), (.int (inPk (0 : Int32) hr))]))
      refine Goes.via (fun _ k => XS.icmpNo Xq9.here hx rfl (hb hby at_86) rfl (XT.ii_ne_f pk_no) k) ?_
      show Goes _ _ _ _ _ _ _ _ (Tq9.setTop (mkF m 89 #[.val (.int flag), .val (.int hr), .val (.int (0 : Int32)), .val (.int hr), .val (.int (inPk (0 : Int32) hr)), .val (.int (offPk (0 : Int32) hr)), .val (.long (hr.toInt64 - (8 : Int64))), .second, .val (.int (0 : Int32))] []))
      refine Goes.via (fun _ k => XS.iload Xq9.here hx rfl (hb hby at_89) rfl k) ?_
      show Goes _ _ _ _ _ _ _ _ (Tq9.setTop (mkF m 91 #[.val (.int flag), .val (.int hr), .val (.int (0 : Int32)), .val (.int hr), .val (.int (inPk (0 : Int32) hr)), .val (.int (offPk (0 : Int32) hr)), .val (.long (hr.toInt64 - (8 : Int64))), .second, .val (.int (0 : Int32))] [(.int (offPk (0 : Int32) hr))]))
      refine Goes.via (fun _ k => XS.iload Xq9.here hx rfl (hb hby at_91) rfl k) ?_
      show Goes _ _ _ _ _ _ _ _ (Tq9.setTop (mkF m 93 #[.val (.int flag), .val (.int hr), .val (.int (0 : Int32)), .val (.int hr), .val (.int (inPk (0 : Int32) hr)), .val (.int (offPk (0 : Int32) hr)), .val (.long (hr.toInt64 - (8 : Int64))), .second, .val (.int (0 : Int32))] [(.int (inPk (0 : Int32) hr)), (.int (offPk (0 : Int32) hr))]))
      refine Goes.via (fun _ k => XS.icmpNo Xq9.here hx rfl (hb hby at_93) rfl (XT.ii_eq_f (by unfold offPk; rw [pk_no]; decide)) k) ?_
      show Goes _ _ _ _ _ _ _ _ (Tq9.setTop (mkF m 96 #[.val (.int flag), .val (.int hr), .val (.int (0 : Int32)), .val (.int hr), .val (.int (inPk (0 : Int32) hr)), .val (.int (offPk (0 : Int32) hr)), .val (.long (hr.toInt64 - (8 : Int64))), .second, .val (.int (0 : Int32))] []))
      refine Goes.via (fun _ k => XT.iconstV Xq9.here hx rfl (1 : Int32) (hb hby at_96) (by decide) k) ?_
      show Goes _ _ _ _ _ _ _ _ (Tq9.setTop (mkF m 97 #[.val (.int flag), .val (.int hr), .val (.int (0 : Int32)), .val (.int hr), .val (.int (inPk (0 : Int32) hr)), .val (.int (offPk (0 : Int32) hr)), .val (.long (hr.toInt64 - (8 : Int64))), .second, .val (.int (0 : Int32))] [(.int (1 : Int32))]))
      refine Goes.via (fun _ k => XS.goto Xq9.here hx rfl (pc0 := 97) (pc' := 101) rfl (hb hby at_97) (by decide) (by decide) k) ?_
      show Goes _ _ _ _ _ _ _ _ (Tq9.setTop (mkF m 101 #[.val (.int flag), .val (.int hr), .val (.int (0 : Int32)), .val (.int hr), .val (.int (inPk (0 : Int32) hr)), .val (.int (offPk (0 : Int32) hr)), .val (.long (hr.toInt64 - (8 : Int64))), .second, .val (.int (0 : Int32))] [(.int (1 : Int32))]))
      refine goRetN Xq9 hx hrt (by simp) hlk Nq9 (by decide) (by decide) (hb hby at_101) ?_
      try rw [pq9_0]
      exact rfl
    · skip
      refine Goes.via (fun _ k => XS.ifNo X.here hx rfl (hb hby at_15) rfl (XT.i0_eq_f cq2) k) ?_
      show Goes _ _ _ _ _ _ _ _ (T.setTop (mkF m 18 #[.val (.int flag), .val (.int hr), .val (.int (0 : Int32)), .unset, .unset, .unset, .unset, .unset, .unset] []))
      refine Goes.via (fun _ k => XS.iloadN X.here hx rfl (hb hby at_18) rfl k) ?_
      show Goes _ _ _ _ _ _ _ _ (T.setTop (mkF m 19 #[.val (.int flag), .val (.int hr), .val (.int (0 : Int32)), .unset, .unset, .unset, .unset, .unset, .unset] [(.int hr)]))
      refine Goes.via (fun _ k => XT.bipushV X.here hx rfl (31 : Int32) (hb hby at_19) (by decide) k) ?_
      show Goes _ _ _ _ _ _ _ _ (T.setTop (mkF m 21 #[.val (.int flag), .val (.int hr), .val (.int (0 : Int32)), .unset, .unset, .unset, .unset, .unset, .unset] [(.int (31 : Int32)), (.int hr)]))
      refine Goes.via (fun _ k => XS.iand X.here hx rfl (hb hby at_21) rfl k) ?_
      show Goes _ _ _ _ _ _ _ _ (T.setTop (mkF m 22 #[.val (.int flag), .val (.int hr), .val (.int (0 : Int32)), .unset, .unset, .unset, .unset, .unset, .unset] [(.int (hr &&& (31 : Int32)))]))
      refine Goes.via (fun _ k => XS.goto X.here hx rfl (pc0 := 22) (pc' := 26) rfl (hb hby at_22) (by decide) (by decide) k) ?_
      show Goes _ _ _ _ _ _ _ _ (T.setTop (mkF m 26 #[.val (.int flag), .val (.int hr), .val (.int (0 : Int32)), .unset, .unset, .unset, .unset, .unset, .unset] [(.int (hr &&& (31 : Int32)))]))
      refine Goes.via (fun _ k => XS.istoreN X.here hx rfl (hb hby at_26) rfl (l' := #[.val (.int flag), .val (.int hr), .val (.int (0 : Int32)), .val (.int (hr &&& (31 : Int32))), .unset, .unset, .unset, .unset, .unset]) rfl k) ?_
      show Goes _ _ _ _ _ _ _ _ (T.setTop (mkF m 27 #[.val (.int flag), .val (.int hr), .val (.int (0 : Int32)), .val (.int (hr &&& (31 : Int32))), .unset, .unset, .unset, .unset, .unset] []))
      have fq12 : Sta Z h0 "com/example/zonetally/zonetally/HourBlock" "PEAK" "Lcom/example/zonetally/zonetally/HourBlock;" (.ref a0p) := (S0.ext O.2)
      obtain ⟨Tq11, Xq11, eq11, stq11⟩ := getS2 X hx hZ hown (host := "") (Or.inl (W_0 hw)) Via.refl e0 fq12 (g := (mkF m 27 #[.val (.int flag), .val (.int hr), .val (.int (0 : Int32)), .val (.int (hr &&& (31 : Int32))), .unset, .unset, .unset, .unset, .unset] [])) rfl (hb hby at_27)
      refine Goes.via stq11 ?_
      show Goes _ _ _ _ _ _ _ _ (Tq11.setTop (mkF m 30 #[.val (.int flag), .val (.int hr), .val (.int (0 : Int32)), .val (.int (hr &&& (31 : Int32))), .unset, .unset, .unset, .unset, .unset] [(.ref a0p)]))
      refine Goes.via (fun _ k => XS.iloadN Xq11.here hx rfl (hb hby at_30) rfl k) ?_
      show Goes _ _ _ _ _ _ _ _ (Tq11.setTop (mkF m 31 #[.val (.int flag), .val (.int hr), .val (.int (0 : Int32)), .val (.int (hr &&& (31 : Int32))), .unset, .unset, .unset, .unset, .unset] [(.int (0 : Int32)), (.ref a0p)]))
      refine Goes.via (fun _ k => XS.iloadN Xq11.here hx rfl (hb hby at_31) rfl k) ?_
      show Goes _ _ _ _ _ _ _ _ (Tq11.setTop (mkF m 32 #[.val (.int flag), .val (.int hr), .val (.int (0 : Int32)), .val (.int (hr &&& (31 : Int32))), .unset, .unset, .unset, .unset, .unset] [(.int (hr &&& (31 : Int32))), (.int (0 : Int32)), (.ref a0p)]))
      have fq14 : Exa Z h0 a0p "com/example/zonetally/zonetally/HourBlock" := (E0.ext O.2)
      obtain ⟨vq13, Tq13, Lq13, Xq13, qq13, nq13, stq13⟩ := callVi Xq11 hx hZ hown (peak l Z aw hw a0p (0 : Int32) (hr &&& (31 : Int32)) O E0 F0) (W_3 hw) (W_4 hw) (notFace_of_selects (args := #[]) (mvT hZ (W_6 hw))) (W_6 hw) (W_5 hw) (W_1 hw) (W_7 hw) (by decide) eq11 fq14 (by decide) (W := 0) (by decide) (by decide) (by decide) (g := (mkF m 32 #[.val (.int flag), .val (.int hr), .val (.int (0 : Int32)), .val (.int (hr &&& (31 : Int32))), .unset, .unset, .unset, .unset, .unset] [(.int (hr &&& (31 : Int32))), (.int (0 : Int32)), (.ref a0p)])) rfl (by rw [hml]; rfl) (a := a0p) (argsL := [(.int (0 : Int32)), (.int (hr &&& (31 : Int32)))]) (rest := []) rfl (lenOf pd_4 rfl) rfl (by show 2 * 0 + _ ≤ _; exact Nat.le_of_eq rfl) (hb hby at_32)
      obtain ⟨rfl, pq13_0⟩ := qq13
      have Nq13 := Fr.app N nq13
      refine Goes.via stq13 ?_
      show Goes _ _ _ _ _ _ _ _ (Tq13.setTop (mkF m 35 #[.val (.int flag), .val (.int hr), .val (.int (0 : Int32)), .val (.int (hr &&& (31 : Int32))), .unset, .unset, .unset, .unset, .unset] [(.int (inPk (0 : Int32) (hr &&& (31 : Int32))))]))
      refine Goes.via (fun _ k => XS.istore Xq13.here hx rfl (hb hby at_35) rfl (l' := #[.val (.int flag), .val (.int hr), .val (.int (0 : Int32)), .val (.int (hr &&& (31 : Int32))), .val (.int (inPk (0 : Int32) (hr &&& (31 : Int32)))), .unset, .unset, .unset, .unset]) rfl k) ?_
      show Goes _ _ _ _ _ _ _ _ (Tq13.setTop (mkF m 37 #[.val (.int flag), .val (.int hr), .val (.int (0 : Int32)), .val (.int (hr &&& (31 : Int32))), .val (.int (inPk (0 : Int32) (hr &&& (31 : Int32)))), .unset, .unset, .unset, .unset] []))
      have fq16 : Sta Z h0 "com/example/zonetally/zonetally/HourBlock" "OFF_PEAK" "Lcom/example/zonetally/zonetally/HourBlock;" (.ref a1p) := (S1.ext O.2)
      obtain ⟨Tq15, Xq15, eq15, stq15⟩ := getS2 Xq13 hx hZ hown (host := "") (Or.inl (W_17 hw)) Via.refl pq13_0 fq16 (g := (mkF m 37 #[.val (.int flag), .val (.int hr), .val (.int (0 : Int32)), .val (.int (hr &&& (31 : Int32))), .val (.int (inPk (0 : Int32) (hr &&& (31 : Int32)))), .unset, .unset, .unset, .unset] [])) rfl (hb hby at_37)
      refine Goes.via stq15 ?_
      show Goes _ _ _ _ _ _ _ _ (Tq15.setTop (mkF m 40 #[.val (.int flag), .val (.int hr), .val (.int (0 : Int32)), .val (.int (hr &&& (31 : Int32))), .val (.int (inPk (0 : Int32) (hr &&& (31 : Int32)))), .unset, .unset, .unset, .unset] [(.ref a1p)]))
      refine Goes.via (fun _ k => XS.iloadN Xq15.here hx rfl (hb hby at_40) rfl k) ?_
      show Goes _ _ _ _ _ _ _ _ (Tq15.setTop (mkF m 41 #[.val (.int flag), .val (.int hr), .val (.int (0 : Int32)), .val (.int (hr &&& (31 : Int32))), .val (.int (inPk (0 : Int32) (hr &&& (31 : Int32)))), .unset, .unset, .unset, .unset] [(.int (0 : Int32)), (.ref a1p)]))
      refine Goes.via (fun _ k => XS.iloadN Xq15.here hx rfl (hb hby at_41) rfl k) ?_
      show Goes _ _ _ _ _ _ _ _ (Tq15.setTop (mkF m 42 #[.val (.int flag), .val (.int hr), .val (.int (0 : Int32)), .val (.int (hr &&& (31 : Int32))), .val (.int (inPk (0 : Int32) (hr &&& (31 : Int32)))), .unset, .unset, .unset, .unset] [(.int (hr &&& (31 : Int32))), (.int (0 : Int32)), (.ref a1p)]))
      have fq18 : Exa Z h0 a1p "com/example/zonetally/zonetally/HourBlock" := (E1.ext O.2)
      obtain ⟨vq17, Tq17, Lq17, Xq17, qq17, nq17, stq17⟩ := callVi Xq15 hx hZ hown (offp l Z aw hw a1p (0 : Int32) (hr &&& (31 : Int32)) O E1 F1) (W_3 hw) (W_4 hw) (notFace_of_selects (args := #[]) (mvT hZ (W_6 hw))) (W_6 hw) (W_5 hw) (W_1 hw) (W_7 hw) (by decide) eq15 fq18 (by decide) (W := 0) (by decide) (by decide) (by decide) (g := (mkF m 42 #[.val (.int flag), .val (.int hr), .val (.int (0 : Int32)), .val (.int (hr &&& (31 : Int32))), .val (.int (inPk (0 : Int32) (hr &&& (31 : Int32)))), .unset, .unset, .unset, .unset] [(.int (hr &&& (31 : Int32))), (.int (0 : Int32)), (.ref a1p)])) rfl (by rw [hml]; rfl) (a := a1p) (argsL := [(.int (0 : Int32)), (.int (hr &&& (31 : Int32)))]) (rest := []) rfl (lenOf pd_4 rfl) rfl (by show 2 * 0 + _ ≤ _; exact Nat.le_of_eq rfl) (hb hby at_42)
      obtain ⟨rfl, pq17_0⟩ := qq17
      have Nq17 := Fr.app Nq13 nq17
      refine Goes.via stq17 ?_
      show Goes _ _ _ _ _ _ _ _ (Tq17.setTop (mkF m 45 #[.val (.int flag), .val (.int hr), .val (.int (0 : Int32)), .val (.int (hr &&& (31 : Int32))), .val (.int (inPk (0 : Int32) (hr &&& (31 : Int32)))), .unset, .unset, .unset, .unset] [(.int (offPk (0 : Int32) (hr &&& (31 : Int32))))]))
      refine Goes.via (fun _ k => XS.istore Xq17.here hx rfl (hb hby at_45) rfl (l' := #[.val (.int flag), .val (.int hr), .val (.int (0 : Int32)), .val (.int (hr &&& (31 : Int32))), .val (.int (inPk (0 : Int32) (hr &&& (31 : Int32)))), .val (.int (offPk (0 : Int32) (hr &&& (31 : Int32)))), .unset, .unset, .unset]) rfl k) ?_
      show Goes _ _ _ _ _ _ _ _ (Tq17.setTop (mkF m 47 #[.val (.int flag), .val (.int hr), .val (.int (0 : Int32)), .val (.int (hr &&& (31 : Int32))), .val (.int (inPk (0 : Int32) (hr &&& (31 : Int32)))), .val (.int (offPk (0 : Int32) (hr &&& (31 : Int32)))), .unset, .unset, .unset] []))
      refine Goes.via (fun _ k => XS.iloadN Xq17.here hx rfl (hb hby at_47) rfl k) ?_
      show Goes _ _ _ _ _ _ _ _ (Tq17.setTop (mkF m 48 #[.val (.int flag), .val (.int hr), .val (.int (0 : Int32)), .val (.int (hr &&& (31 : Int32))), .val (.int (inPk (0 : Int32) (hr &&& (31 : Int32)))), .val (.int (offPk (0 : Int32) (hr &&& (31 : Int32)))), .unset, .unset, .unset] [(.int (hr &&& (31 : Int32)))]))
      refine Goes.via (fun _ k => XT.i2l Xq17.here hx rfl (hb hby at_48) rfl k) ?_
      show Goes _ _ _ _ _ _ _ _ (Tq17.setTop (mkF m 49 #[.val (.int flag), .val (.int hr), .val (.int (0 : Int32)), .val (.int (hr &&& (31 : Int32))), .val (.int (inPk (0 : Int32) (hr &&& (31 : Int32)))), .val (.int (offPk (0 : Int32) (hr &&& (31 : Int32)))), .unset, .unset, .unset] [(.long (hr &&& (31 : Int32)).toInt64)]))
      refine Goes.via (fun _ k => Xq17.ldc2J hx hown (mvT hZ (W_19 hw)) (g := (mkF m 49 #[.val (.int flag), .val (.int hr), .val (.int (0 : Int32)), .val (.int (hr &&& (31 : Int32))), .val (.int (inPk (0 : Int32) (hr &&& (31 : Int32)))), .val (.int (offPk (0 : Int32) (hr &&& (31 : Int32)))), .unset, .unset, .unset] [(.long (hr &&& (31 : Int32)).toInt64)])) rfl (hb hby at_49) k) ?_
      show Goes _ _ _ _ _ _ _ _ (Tq17.setTop (mkF m 52 #[.val (.int flag), .val (.int hr), .val (.int (0 : Int32)), .val (.int (hr &&& (31 : Int32))), .val (.int (inPk (0 : Int32) (hr &&& (31 : Int32)))), .val (.int (offPk (0 : Int32) (hr &&& (31 : Int32)))), .unset, .unset, .unset] [(.long (8 : Int64)), (.long (hr &&& (31 : Int32)).toInt64)]))
      refine Goes.via (fun _ k => XT.lsub Xq17.here hx rfl (hb hby at_52) rfl k) ?_
      show Goes _ _ _ _ _ _ _ _ (Tq17.setTop (mkF m 53 #[.val (.int flag), .val (.int hr), .val (.int (0 : Int32)), .val (.int (hr &&& (31 : Int32))), .val (.int (inPk (0 : Int32) (hr &&& (31 : Int32)))), .val (.int (offPk (0 : Int32) (hr &&& (31 : Int32)))), .unset, .unset, .unset] [(.long ((hr &&& (31 : Int32)).toInt64 - (8 : Int64)))]))
      refine Goes.via (fun _ k => XT.lstore Xq17.here hx rfl (hb hby at_53) rfl (l' := #[.val (.int flag), .val (.int hr), .val (.int (0 : Int32)), .val (.int (hr &&& (31 : Int32))), .val (.int (inPk (0 : Int32) (hr &&& (31 : Int32)))), .val (.int (offPk (0 : Int32) (hr &&& (31 : Int32)))), .val (.long ((hr &&& (31 : Int32)).toInt64 - (8 : Int64))), .second, .unset]) rfl k) ?_
      show Goes _ _ _ _ _ _ _ _ (Tq17.setTop (mkF m 55 #[.val (.int flag), .val (.int hr), .val (.int (0 : Int32)), .val (.int (hr &&& (31 : Int32))), .val (.int (inPk (0 : Int32) (hr &&& (31 : Int32)))), .val (.int (offPk (0 : Int32) (hr &&& (31 : Int32)))), .val (.long ((hr &&& (31 : Int32)).toInt64 - (8 : Int64))), .second, .unset] []))
      refine Goes.via (fun _ k => XS.iloadN Xq17.here hx rfl (hb hby at_55) rfl k) ?_
      show Goes _ _ _ _ _ _ _ _ (Tq17.setTop (mkF m 56 #[.val (.int flag), .val (.int hr), .val (.int (0 : Int32)), .val (.int (hr &&& (31 : Int32))), .val (.int (inPk (0 : Int32) (hr &&& (31 : Int32)))), .val (.int (offPk (0 : Int32) (hr &&& (31 : Int32)))), .val (.long ((hr &&& (31 : Int32)).toInt64 - (8 : Int64))), .second, .unset] [(.int (0 : Int32))]))
      refine Goes.via (fun _ k => XS.ifYes Xq17.here hx rfl (pc0 := 56) (pc' := 79) rfl (hb hby at_56) rfl (XT.i0_eq_t (by decide)) (by decide) (by decide) k) ?_
      show Goes _ _ _ _ _ _ _ _ (Tq17.setTop (mkF m 79 #[.val (.int flag), .val (.int hr), .val (.int (0 : Int32)), .val (.int (hr &&& (31 : Int32))), .val (.int (inPk (0 : Int32) (hr &&& (31 : Int32)))), .val (.int (offPk (0 : Int32) (hr &&& (31 : Int32)))), .val (.long ((hr &&& (31 : Int32)).toInt64 - (8 : Int64))), .second, .unset] []))
      refine Goes.via (fun _ k => XT.iconstV Xq17.here hx rfl (0 : Int32) (hb hby at_79) (by decide) k) ?_
      show Goes _ _ _ _ _ _ _ _ (Tq17.setTop (mkF m 80 #[.val (.int flag), .val (.int hr), .val (.int (0 : Int32)), .val (.int (hr &&& (31 : Int32))), .val (.int (inPk (0 : Int32) (hr &&& (31 : Int32)))), .val (.int (offPk (0 : Int32) (hr &&& (31 : Int32)))), .val (.long ((hr &&& (31 : Int32)).toInt64 - (8 : Int64))), .second, .unset] [(.int (0 : Int32))]))
      refine Goes.via (fun _ k => XS.istore Xq17.here hx rfl (hb hby at_80) rfl (l' := #[.val (.int flag), .val (.int hr), .val (.int (0 : Int32)), .val (.int (hr &&& (31 : Int32))), .val (.int (inPk (0 : Int32) (hr &&& (31 : Int32)))), .val (.int (offPk (0 : Int32) (hr &&& (31 : Int32)))), .val (.long ((hr &&& (31 : Int32)).toInt64 - (8 : Int64))), .second, .val (.int (0 : Int32))]) rfl k) ?_
      show Goes _ _ _ _ _ _ _ _ (Tq17.setTop (mkF m 82 #[.val (.int flag), .val (.int hr), .val (.int (0 : Int32)), .val (.int (hr &&& (31 : Int32))), .val (.int (inPk (0 : Int32) (hr &&& (31 : Int32)))), .val (.int (offPk (0 : Int32) (hr &&& (31 : Int32)))), .val (.long ((hr &&& (31 : Int32)).toInt64 - (8 : Int64))), .second, .val (.int (0 : Int32))] []))
      refine Goes.via (fun _ k => XS.iload Xq17.here hx rfl (hb hby at_82) rfl k) ?_
      show Goes _ _ _ _ _ _ _ _ (Tq17.setTop (mkF m 84 #[.val (.int flag), .val (.int hr), .val (.int (0 : Int32)), .val (.int (hr &&& (31 : Int32))), .val (.int (inPk (0 : Int32) (hr &&& (31 : Int32)))), .val (.int (offPk (0 : Int32) (hr &&& (31 : Int32)))), .val (.long ((hr &&& (31 : Int32)).toInt64 - (8 : Int64))), .second, .val (.int (0 : Int32))] [(.int (inPk (0 : Int32) (hr &&& (31 : Int32))))]))
      refine Goes.via (fun _ k => XS.iload Xq17.here hx rfl (hb hby at_84) rfl k) ?_
      show Goes _ _ _ _ _ _ _ _ (Tq17.setTop (mkF m 86 #[.val (.int flag), .val (.int hr), .val (.int (0 : Int32)), .val (.int (hr &&& (31 : Int32))), .val (.int (inPk (0 : Int32) (hr &&& (31 : Int32)))), .val (.int (offPk (0 : Int32) (hr &&& (31 : Int32)))), .val (.long ((hr &&& (31 : Int32)).toInt64 - (8 : Int64))), .second, .val (.int (0 : Int32))] [(.int (0 : Int32)), (.int (inPk (0 : Int32) (hr &&& (31 : Int32))))]))
      refine Goes.via (fun _ k => XS.icmpNo Xq17.here hx rfl (hb hby at_86) rfl (XT.ii_ne_f pk_no) k) ?_
      show Goes _ _ _ _ _ _ _ _ (Tq17.setTop (mkF m 89 #[.val (.int flag), .val (.int hr), .val (.int (0 : Int32)), .val (.int (hr &&& (31 : Int32))), .val (.int (inPk (0 : Int32) (hr &&& (31 : Int32)))), .val (.int (offPk (0 : Int32) (hr &&& (31 : Int32)))), .val (.long ((hr &&& (31 : Int32)).toInt64 - (8 : Int64))), .second, .val (.int (0 : Int32))] []))
      refine Goes.via (fun _ k => XS.iload Xq17.here hx rfl (hb hby at_89) rfl k) ?_
      show Goes _ _ _ _ _ _ _ _ (Tq17.setTop (mkF m 91 #[.val (.int flag), .val (.int hr), .val (.int (0 : Int32)), .val (.int (hr &&& (31 : Int32))), .val (.int (inPk (0 : Int32) (hr &&& (31 : Int32)))), .val (.int (offPk (0 : Int32) (hr &&& (31 : Int32)))), .val (.long ((hr &&& (31 : Int32)).toInt64 - (8 : Int64))), .second, .val (.int (0 : Int32))] [(.int (offPk (0 : Int32) (hr &&& (31 : Int32))))]))
      refine Goes.via (fun _ k => XS.iload Xq17.here hx rfl (hb hby at_91) rfl k) ?_
      show Goes _ _ _ _ _ _ _ _ (Tq17.setTop (mkF m 93 #[.val (.int flag), .val (.int hr), .val (.int (0 : Int32)), .val (.int (hr &&& (31 : Int32))), .val (.int (inPk (0 : Int32) (hr &&& (31 : Int32)))), .val (.int (offPk (0 : Int32) (hr &&& (31 : Int32)))), .val (.long ((hr &&& (31 : Int32)).toInt64 - (8 : Int64))), .second, .val (.int (0 : Int32))] [(.int (inPk (0 : Int32) (hr &&& (31 : Int32)))), (.int (offPk (0 : Int32) (hr &&& (31 : Int32))))]))
      refine Goes.via (fun _ k => XS.icmpNo Xq17.here hx rfl (hb hby at_93) rfl (XT.ii_eq_f (by unfold offPk; rw [pk_no]; decide)) k) ?_
      show Goes _ _ _ _ _ _ _ _ (Tq17.setTop (mkF m 96 #[.val (.int flag), .val (.int hr), .val (.int (0 : Int32)), .val (.int (hr &&& (31 : Int32))), .val (.int (inPk (0 : Int32) (hr &&& (31 : Int32)))), .val (.int (offPk (0 : Int32) (hr &&& (31 : Int32)))), .val (.long ((hr &&& (31 : Int32)).toInt64 - (8 : Int64))), .second, .val (.int (0 : Int32))] []))
      refine Goes.via (fun _ k => XT.iconstV Xq17.here hx rfl (1 : Int32) (hb hby at_96) (by decide) k) ?_
      show Goes _ _ _ _ _ _ _ _ (Tq17.setTop (mkF m 97 #[.val (.int flag), .val (.int hr), .val (.int (0 : Int32)), .val (.int (hr &&& (31 : Int32))), .val (.int (inPk (0 : Int32) (hr &&& (31 : Int32)))), .val (.int (offPk (0 : Int32) (hr &&& (31 : Int32)))), .val (.long ((hr &&& (31 : Int32)).toInt64 - (8 : Int64))), .second, .val (.int (0 : Int32))] [(.int (1 : Int32))]))
      refine Goes.via (fun _ k => XS.goto Xq17.here hx rfl (pc0 := 97) (pc' := 101) rfl (hb hby at_97) (by decide) (by decide) k) ?_
      show Goes _ _ _ _ _ _ _ _ (Tq17.setTop (mkF m 101 #[.val (.int flag), .val (.int hr), .val (.int (0 : Int32)), .val (.int (hr &&& (31 : Int32))), .val (.int (inPk (0 : Int32) (hr &&& (31 : Int32)))), .val (.int (offPk (0 : Int32) (hr &&& (31 : Int32)))), .val (.long ((hr &&& (31 : Int32)).toInt64 - (8 : Int64))), .second, .val (.int (0 : Int32))] [(.int (1 : Int32))]))
      refine goRetN Xq17 hx hrt (by simp) hlk Nq17 (by decide) (by decide) (hb hby at_101) ?_
      try rw [pq17_0]
      exact rfl
  · skip
    refine Goes.via (fun _ k => XS.ifNo X.here hx rfl (hb hby at_3) rfl (XT.i0_eq_f cq1) k) ?_
    show Goes _ _ _ _ _ _ _ _ (T.setTop (mkF m 6 #[.val (.int flag), .val (.int hr), .unset, .unset, .unset, .unset, .unset, .unset, .unset] []))
    refine Goes.via (fun _ k => XT.iconstV X.here hx rfl (1 : Int32) (hb hby at_6) (by decide) k) ?_
    show Goes _ _ _ _ _ _ _ _ (T.setTop (mkF m 7 #[.val (.int flag), .val (.int hr), .unset, .unset, .unset, .unset, .unset, .unset, .unset] [(.int (1 : Int32))]))
    refine Goes.via (fun _ k => XS.goto X.here hx rfl (pc0 := 7) (pc' := 11) rfl (hb hby at_7) (by decide) (by decide) k) ?_
    show Goes _ _ _ _ _ _ _ _ (T.setTop (mkF m 11 #[.val (.int flag), .val (.int hr), .unset, .unset, .unset, .unset, .unset, .unset, .unset] [(.int (1 : Int32))]))
    refine Goes.via (fun _ k => XS.istoreN X.here hx rfl (hb hby at_11) rfl (l' := #[.val (.int flag), .val (.int hr), .val (.int (1 : Int32)), .unset, .unset, .unset, .unset, .unset, .unset]) rfl k) ?_
    show Goes _ _ _ _ _ _ _ _ (T.setTop (mkF m 12 #[.val (.int flag), .val (.int hr), .val (.int (1 : Int32)), .unset, .unset, .unset, .unset, .unset, .unset] []))
    refine Goes.via (fun _ k => XS.iloadN X.here hx rfl (hb hby at_12) rfl k) ?_
    show Goes _ _ _ _ _ _ _ _ (T.setTop (mkF m 13 #[.val (.int flag), .val (.int hr), .val (.int (1 : Int32)), .unset, .unset, .unset, .unset, .unset, .unset] [(.int flag)]))
    refine Goes.via (fun _ k => XT.iconstV X.here hx rfl (2 : Int32) (hb hby at_13) (by decide) k) ?_
    show Goes _ _ _ _ _ _ _ _ (T.setTop (mkF m 14 #[.val (.int flag), .val (.int hr), .val (.int (1 : Int32)), .unset, .unset, .unset, .unset, .unset, .unset] [(.int (2 : Int32)), (.int flag)]))
    refine Goes.via (fun _ k => XS.iand X.here hx rfl (hb hby at_14) rfl k) ?_
    show Goes _ _ _ _ _ _ _ _ (T.setTop (mkF m 15 #[.val (.int flag), .val (.int hr), .val (.int (1 : Int32)), .unset, .unset, .unset, .unset, .unset, .unset] [(.int (flag &&& (2 : Int32)))]))
    by_cases cq19 : (flag &&& (2 : Int32)) = (0 : Int32)
    · skip
      refine Goes.via (fun _ k => XS.ifYes X.here hx rfl (pc0 := 15) (pc' := 25) rfl (hb hby at_15) rfl (XT.i0_eq_t cq19) (by decide) (by decide) k) ?_
      show Goes _ _ _ _ _ _ _ _ (T.setTop (mkF m 25 #[.val (.int flag), .val (.int hr), .val (.int (1 : Int32)), .unset, .unset, .unset, .unset, .unset, .unset] []))
      refine Goes.via (fun _ k => XS.iloadN X.here hx rfl (hb hby at_25) rfl k) ?_
      show Goes _ _ _ _ _ _ _ _ (T.setTop (mkF m 26 #[.val (.int flag), .val (.int hr), .val (.int (1 : Int32)), .unset, .unset, .unset, .unset, .unset, .unset] [(.int hr)]))
      refine Goes.via (fun _ k => XS.istoreN X.here hx rfl (hb hby at_26) rfl (l' := #[.val (.int flag), .val (.int hr), .val (.int (1 : Int32)), .val (.int hr), .unset, .unset, .unset, .unset, .unset]) rfl k) ?_
      show Goes _ _ _ _ _ _ _ _ (T.setTop (mkF m 27 #[.val (.int flag), .val (.int hr), .val (.int (1 : Int32)), .val (.int hr), .unset, .unset, .unset, .unset, .unset] []))
      have fq21 : Sta Z h0 "com/example/zonetally/zonetally/HourBlock" "PEAK" "Lcom/example/zonetally/zonetally/HourBlock;" (.ref a0p) := (S0.ext O.2)
      obtain ⟨Tq20, Xq20, eq20, stq20⟩ := getS2 X hx hZ hown (host := "") (Or.inl (W_0 hw)) Via.refl e0 fq21 (g := (mkF m 27 #[.val (.int flag), .val (.int hr), .val (.int (1 : Int32)), .val (.int hr), .unset, .unset, .unset, .unset, .unset] [])) rfl (hb hby at_27)
      refine Goes.via stq20 ?_
      show Goes _ _ _ _ _ _ _ _ (Tq20.setTop (mkF m 30 #[.val (.int flag), .val (.int hr), .val (.int (1 : Int32)), .val (.int hr), .unset, .unset, .unset, .unset, .unset] [(.ref a0p)]))
      refine Goes.via (fun _ k => XS.iloadN Xq20.here hx rfl (hb hby at_30) rfl k) ?_
      show Goes _ _ _ _ _ _ _ _ (Tq20.setTop (mkF m 31 #[.val (.int flag), .val (.int hr), .val (.int (1 : Int32)), .val (.int hr), .unset, .unset, .unset, .unset, .unset] [(.int (1 : Int32)), (.ref a0p)]))
      refine Goes.via (fun _ k => XS.iloadN Xq20.here hx rfl (hb hby at_31) rfl k) ?_
      show Goes _ _ _ _ _ _ _ _ (Tq20.setTop (mkF m 32 #[.val (.int flag), .val (.int hr), .val (.int (1 : Int32)), .val (.int hr), .unset, .unset, .unset, .unset, .unset] [(.int hr), (.int (1 : Int32)), (.ref a0p)]))
      have fq23 : Exa Z h0 a0p "com/example/zonetally/zonetally/HourBlock" := (E0.ext O.2)
      obtain ⟨vq22, Tq22, Lq22, Xq22, qq22, nq22, stq22⟩ := callVi Xq20 hx hZ hown (peak l Z aw hw a0p (1 : Int32) hr O E0 F0) (W_3 hw) (W_4 hw) (notFace_of_selects (args := #[]) (mvT hZ (W_6 hw))) (W_6 hw) (W_5 hw) (W_1 hw) (W_7 hw) (by decide) eq20 fq23 (by decide) (W := 0) (by decide) (by decide) (by decide) (g := (mkF m 32 #[.val (.int flag), .val (.int hr), .val (.int (1 : Int32)), .val (.int hr), .unset, .unset, .unset, .unset, .unset] [(.int hr), (.int (1 : Int32)), (.ref a0p)])) rfl (by rw [hml]; rfl) (a := a0p) (argsL := [(.int (1 : Int32)), (.int hr)]) (rest := []) rfl (lenOf pd_4 rfl) rfl (by show 2 * 0 + _ ≤ _; exact Nat.le_of_eq rfl) (hb hby at_32)
      obtain ⟨rfl, pq22_0⟩ := qq22
      have Nq22 := Fr.app N nq22
      refine Goes.via stq22 ?_
      show Goes _ _ _ _ _ _ _ _ (Tq22.setTop (mkF m 35 #[.val (.int flag), .val (.int hr), .val (.int (1 : Int32)), .val (.int hr), .unset, .unset, .unset, .unset, .unset] [(.int (inPk (1 : Int32) hr))]))
      refine Goes.via (fun _ k => XS.istore Xq22.here hx rfl (hb hby at_35) rfl (l' := #[.val (.int flag), .val (.int hr), .val (.int (1 : Int32)), .val (.int hr), .val (.int (inPk (1 : Int32) hr)), .unset, .unset, .unset, .unset]) rfl k) ?_
      show Goes _ _ _ _ _ _ _ _ (Tq22.setTop (mkF m 37 #[.val (.int flag), .val (.int hr), .val (.int (1 : Int32)), .val (.int hr), .val (.int (inPk (1 : Int32) hr)), .unset, .unset, .unset, .unset] []))
      have fq25 : Sta Z h0 "com/example/zonetally/zonetally/HourBlock" "OFF_PEAK" "Lcom/example/zonetally/zonetally/HourBlock;" (.ref a1p) := (S1.ext O.2)
      obtain ⟨Tq24, Xq24, eq24, stq24⟩ := getS2 Xq22 hx hZ hown (host := "") (Or.inl (W_17 hw)) Via.refl pq22_0 fq25 (g := (mkF m 37 #[.val (.int flag), .val (.int hr), .val (.int (1 : Int32)), .val (.int hr), .val (.int (inPk (1 : Int32) hr)), .unset, .unset, .unset, .unset] [])) rfl (hb hby at_37)
      refine Goes.via stq24 ?_
      show Goes _ _ _ _ _ _ _ _ (Tq24.setTop (mkF m 40 #[.val (.int flag), .val (.int hr), .val (.int (1 : Int32)), .val (.int hr), .val (.int (inPk (1 : Int32) hr)), .unset, .unset, .unset, .unset] [(.ref a1p)]))
      refine Goes.via (fun _ k => XS.iloadN Xq24.here hx rfl (hb hby at_40) rfl k) ?_
      show Goes _ _ _ _ _ _ _ _ (Tq24.setTop (mkF m 41 #[.val (.int flag), .val (.int hr), .val (.int (1 : Int32)), .val (.int hr), .val (.int (inPk (1 : Int32) hr)), .unset, .unset, .unset, .unset] [(.int (1 : Int32)), (.ref a1p)]))
      refine Goes.via (fun _ k => XS.iloadN Xq24.here hx rfl (hb hby at_41) rfl k) ?_
      show Goes _ _ _ _ _ _ _ _ (Tq24.setTop (mkF m 42 #[.val (.int flag), .val (.int hr), .val (.int (1 : Int32)), .val (.int hr), .val (.int (inPk (1 : Int32) hr)), .unset, .unset, .unset, .unset] [(.int hr), (.int (1 : Int32)), (.ref a1p)]))
      have fq27 : Exa Z h0 a1p "com/example/zonetally/zonetally/HourBlock" := (E1.ext O.2)
      obtain ⟨vq26, Tq26, Lq26, Xq26, qq26, nq26, stq26⟩ := callVi Xq24 hx hZ hown (offp l Z aw hw a1p (1 : Int32) hr O E1 F1) (W_3 hw) (W_4 hw) (notFace_of_selects (args := #[]) (mvT hZ (W_6 hw))) (W_6 hw) (W_5 hw) (W_1 hw) (W_7 hw) (by decide) eq24 fq27 (by decide) (W := 0) (by decide) (by decide) (by decide) (g := (mkF m 42 #[.val (.int flag), .val (.int hr), .val (.int (1 : Int32)), .val (.int hr), .val (.int (inPk (1 : Int32) hr)), .unset, .unset, .unset, .unset] [(.int hr), (.int (1 : Int32)), (.ref a1p)])) rfl (by rw [hml]; rfl) (a := a1p) (argsL := [(.int (1 : Int32)), (.int hr)]) (rest := []) rfl (lenOf pd_4 rfl) rfl (by show 2 * 0 + _ ≤ _; exact Nat.le_of_eq rfl) (hb hby at_42)
      obtain ⟨rfl, pq26_0⟩ := qq26
      have Nq26 := Fr.app Nq22 nq26
      refine Goes.via stq26 ?_
      show Goes _ _ _ _ _ _ _ _ (Tq26.setTop (mkF m 45 #[.val (.int flag), .val (.int hr), .val (.int (1 : Int32)), .val (.int hr), .val (.int (inPk (1 : Int32) hr)), .unset, .unset, .unset, .unset] [(.int (offPk (1 : Int32) hr))]))
      refine Goes.via (fun _ k => XS.istore Xq26.here hx rfl (hb hby at_45) rfl (l' := #[.val (.int flag), .val (.int hr), .val (.int (1 : Int32)), .val (.int hr), .val (.int (inPk (1 : Int32) hr)), .val (.int (offPk (1 : Int32) hr)), .unset, .unset, .unset]) rfl k) ?_
      show Goes _ _ _ _ _ _ _ _ (Tq26.setTop (mkF m 47 #[.val (.int flag), .val (.int hr), .val (.int (1 : Int32)), .val (.int hr), .val (.int (inPk (1 : Int32) hr)), .val (.int (offPk (1 : Int32) hr)), .unset, .unset, .unset] []))
      refine Goes.via (fun _ k => XS.iloadN Xq26.here hx rfl (hb hby at_47) rfl k) ?_
      show Goes _ _ _ _ _ _ _ _ (Tq26.setTop (mkF m 48 #[.val (.int flag), .val (.int hr), .val (.int (1 : Int32)), .val (.int hr), .val (.int (inPk (1 : Int32) hr)), .val (.int (offPk (1 : Int32) hr)), .unset, .unset, .unset] [(.int hr)]))
      refine Goes.via (fun _ k => XT.i2l Xq26.here hx rfl (hb hby at_48) rfl k) ?_
      show Goes _ _ _ _ _ _ _ _ (Tq26.setTop (mkF m 49 #[.val (.int flag), .val (.int hr), .val (.int (1 : Int32)), .val (.int hr), .val (.int (inPk (1 : Int32) hr)), .val (.int (offPk (1 : Int32) hr)), .unset, .unset, .unset] [(.long hr.toInt64)]))
      refine Goes.via (fun _ k => Xq26.ldc2J hx hown (mvT hZ (W_19 hw)) (g := (mkF m 49 #[.val (.int flag), .val (.int hr), .val (.int (1 : Int32)), .val (.int hr), .val (.int (inPk (1 : Int32) hr)), .val (.int (offPk (1 : Int32) hr)), .unset, .unset, .unset] [(.long hr.toInt64)])) rfl (hb hby at_49) k) ?_
      show Goes _ _ _ _ _ _ _ _ (Tq26.setTop (mkF m 52 #[.val (.int flag), .val (.int hr), .val (.int (1 : Int32)), .val (.int hr), .val (.int (inPk (1 : Int32) hr)), .val (.int (offPk (1 : Int32) hr)), .unset, .unset, .unset] [(.long (8 : Int64)), (.long hr.toInt64)]))
      refine Goes.via (fun _ k => XT.lsub Xq26.here hx rfl (hb hby at_52) rfl k) ?_
      show Goes _ _ _ _ _ _ _ _ (Tq26.setTop (mkF m 53 #[.val (.int flag), .val (.int hr), .val (.int (1 : Int32)), .val (.int hr), .val (.int (inPk (1 : Int32) hr)), .val (.int (offPk (1 : Int32) hr)), .unset, .unset, .unset] [(.long (hr.toInt64 - (8 : Int64)))]))
      refine Goes.via (fun _ k => XT.lstore Xq26.here hx rfl (hb hby at_53) rfl (l' := #[.val (.int flag), .val (.int hr), .val (.int (1 : Int32)), .val (.int hr), .val (.int (inPk (1 : Int32) hr)), .val (.int (offPk (1 : Int32) hr)), .val (.long (hr.toInt64 - (8 : Int64))), .second, .unset]) rfl k) ?_
      show Goes _ _ _ _ _ _ _ _ (Tq26.setTop (mkF m 55 #[.val (.int flag), .val (.int hr), .val (.int (1 : Int32)), .val (.int hr), .val (.int (inPk (1 : Int32) hr)), .val (.int (offPk (1 : Int32) hr)), .val (.long (hr.toInt64 - (8 : Int64))), .second, .unset] []))
      refine Goes.via (fun _ k => XS.iloadN Xq26.here hx rfl (hb hby at_55) rfl k) ?_
      show Goes _ _ _ _ _ _ _ _ (Tq26.setTop (mkF m 56 #[.val (.int flag), .val (.int hr), .val (.int (1 : Int32)), .val (.int hr), .val (.int (inPk (1 : Int32) hr)), .val (.int (offPk (1 : Int32) hr)), .val (.long (hr.toInt64 - (8 : Int64))), .second, .unset] [(.int (1 : Int32))]))
      refine Goes.via (fun _ k => XS.ifNo Xq26.here hx rfl (hb hby at_56) rfl (XT.i0_eq_f (by decide)) k) ?_
      show Goes _ _ _ _ _ _ _ _ (Tq26.setTop (mkF m 59 #[.val (.int flag), .val (.int hr), .val (.int (1 : Int32)), .val (.int hr), .val (.int (inPk (1 : Int32) hr)), .val (.int (offPk (1 : Int32) hr)), .val (.long (hr.toInt64 - (8 : Int64))), .second, .unset] []))
      refine Goes.via (fun _ k => XT.lload Xq26.here hx rfl (hb hby at_59) rfl k) ?_
      show Goes _ _ _ _ _ _ _ _ (Tq26.setTop (mkF m 61 #[.val (.int flag), .val (.int hr), .val (.int (1 : Int32)), .val (.int hr), .val (.int (inPk (1 : Int32) hr)), .val (.int (offPk (1 : Int32) hr)), .val (.long (hr.toInt64 - (8 : Int64))), .second, .unset] [(.long (hr.toInt64 - (8 : Int64)))]))
      refine Goes.via (fun _ k => XT.lconstV Xq26.here hx rfl (0 : Int64) (hb hby at_61) (by decide) k) ?_
      show Goes _ _ _ _ _ _ _ _ (Tq26.setTop (mkF m 62 #[.val (.int flag), .val (.int hr), .val (.int (1 : Int32)), .val (.int hr), .val (.int (inPk (1 : Int32) hr)), .val (.int (offPk (1 : Int32) hr)), .val (.long (hr.toInt64 - (8 : Int64))), .second, .unset] [(.long (0 : Int64)), (.long (hr.toInt64 - (8 : Int64)))]))
      refine Goes.via (fun _ k => XT.lcmp Xq26.here hx rfl (hb hby at_62) rfl k) ?_
      show Goes _ _ _ _ _ _ _ _ (Tq26.setTop (mkF m 63 #[.val (.int flag), .val (.int hr), .val (.int (1 : Int32)), .val (.int hr), .val (.int (inPk (1 : Int32) hr)), .val (.int (offPk (1 : Int32) hr)), .val (.long (hr.toInt64 - (8 : Int64))), .second, .unset] [(.int (XT.cmpL (hr.toInt64 - (8 : Int64)) (0 : Int64)))]))
      by_cases cq28 : (hr.toInt64 - (8 : Int64)) < (0 : Int64)
      · skip
        refine Goes.via (fun _ k => XS.ifYes Xq26.here hx rfl (pc0 := 63) (pc' := 79) rfl (hb hby at_63) rfl (XT.ll_lt_t cq28) (by decide) (by decide) k) ?_
        show Goes _ _ _ _ _ _ _ _ (Tq26.setTop (mkF m 79 #[.val (.int flag), .val (.int hr), .val (.int (1 : Int32)), .val (.int hr), .val (.int (inPk (1 : Int32) hr)), .val (.int (offPk (1 : Int32) hr)), .val (.long (hr.toInt64 - (8 : Int64))), .second, .unset] []))
        refine Goes.via (fun _ k => XT.iconstV Xq26.here hx rfl (0 : Int32) (hb hby at_79) (by decide) k) ?_
        show Goes _ _ _ _ _ _ _ _ (Tq26.setTop (mkF m 80 #[.val (.int flag), .val (.int hr), .val (.int (1 : Int32)), .val (.int hr), .val (.int (inPk (1 : Int32) hr)), .val (.int (offPk (1 : Int32) hr)), .val (.long (hr.toInt64 - (8 : Int64))), .second, .unset] [(.int (0 : Int32))]))
        refine Goes.via (fun _ k => XS.istore Xq26.here hx rfl (hb hby at_80) rfl (l' := #[.val (.int flag), .val (.int hr), .val (.int (1 : Int32)), .val (.int hr), .val (.int (inPk (1 : Int32) hr)), .val (.int (offPk (1 : Int32) hr)), .val (.long (hr.toInt64 - (8 : Int64))), .second, .val (.int (0 : Int32))]) rfl k) ?_
        show Goes _ _ _ _ _ _ _ _ (Tq26.setTop (mkF m 82 #[.val (.int flag), .val (.int hr), .val (.int (1 : Int32)), .val (.int hr), .val (.int (inPk (1 : Int32) hr)), .val (.int (offPk (1 : Int32) hr)), .val (.long (hr.toInt64 - (8 : Int64))), .second, .val (.int (0 : Int32))] []))
        refine Goes.via (fun _ k => XS.iload Xq26.here hx rfl (hb hby at_82) rfl k) ?_
        show Goes _ _ _ _ _ _ _ _ (Tq26.setTop (mkF m 84 #[.val (.int flag), .val (.int hr), .val (.int (1 : Int32)), .val (.int hr), .val (.int (inPk (1 : Int32) hr)), .val (.int (offPk (1 : Int32) hr)), .val (.long (hr.toInt64 - (8 : Int64))), .second, .val (.int (0 : Int32))] [(.int (inPk (1 : Int32) hr))]))
        refine Goes.via (fun _ k => XS.iload Xq26.here hx rfl (hb hby at_84) rfl k) ?_
        show Goes _ _ _ _ _ _ _ _ (Tq26.setTop (mkF m 86 #[.val (.int flag), .val (.int hr), .val (.int (1 : Int32)), .val (.int hr), .val (.int (inPk (1 : Int32) hr)), .val (.int (offPk (1 : Int32) hr)), .val (.long (hr.toInt64 - (8 : Int64))), .second, .val (.int (0 : Int32))] [(.int (0 : Int32)), (.int (inPk (1 : Int32) hr))]))
        refine Goes.via (fun _ k => XS.icmpNo Xq26.here hx rfl (hb hby at_86) rfl (XT.ii_ne_f (pk_lo cq28)) k) ?_
        show Goes _ _ _ _ _ _ _ _ (Tq26.setTop (mkF m 89 #[.val (.int flag), .val (.int hr), .val (.int (1 : Int32)), .val (.int hr), .val (.int (inPk (1 : Int32) hr)), .val (.int (offPk (1 : Int32) hr)), .val (.long (hr.toInt64 - (8 : Int64))), .second, .val (.int (0 : Int32))] []))
        refine Goes.via (fun _ k => XS.iload Xq26.here hx rfl (hb hby at_89) rfl k) ?_
        show Goes _ _ _ _ _ _ _ _ (Tq26.setTop (mkF m 91 #[.val (.int flag), .val (.int hr), .val (.int (1 : Int32)), .val (.int hr), .val (.int (inPk (1 : Int32) hr)), .val (.int (offPk (1 : Int32) hr)), .val (.long (hr.toInt64 - (8 : Int64))), .second, .val (.int (0 : Int32))] [(.int (offPk (1 : Int32) hr))]))
        refine Goes.via (fun _ k => XS.iload Xq26.here hx rfl (hb hby at_91) rfl k) ?_
        show Goes _ _ _ _ _ _ _ _ (Tq26.setTop (mkF m 93 #[.val (.int flag), .val (.int hr), .val (.int (1 : Int32)), .val (.int hr), .val (.int (inPk (1 : Int32) hr)), .val (.int (offPk (1 : Int32) hr)), .val (.long (hr.toInt64 - (8 : Int64))), .second, .val (.int (0 : Int32))] [(.int (inPk (1 : Int32) hr)), (.int (offPk (1 : Int32) hr))]))
        refine Goes.via (fun _ k => XS.icmpNo Xq26.here hx rfl (hb hby at_93) rfl (XT.ii_eq_f (by unfold offPk; rw [(pk_lo cq28)]; decide)) k) ?_
        show Goes _ _ _ _ _ _ _ _ (Tq26.setTop (mkF m 96 #[.val (.int flag), .val (.int hr), .val (.int (1 : Int32)), .val (.int hr), .val (.int (inPk (1 : Int32) hr)), .val (.int (offPk (1 : Int32) hr)), .val (.long (hr.toInt64 - (8 : Int64))), .second, .val (.int (0 : Int32))] []))
        refine Goes.via (fun _ k => XT.iconstV Xq26.here hx rfl (1 : Int32) (hb hby at_96) (by decide) k) ?_
        show Goes _ _ _ _ _ _ _ _ (Tq26.setTop (mkF m 97 #[.val (.int flag), .val (.int hr), .val (.int (1 : Int32)), .val (.int hr), .val (.int (inPk (1 : Int32) hr)), .val (.int (offPk (1 : Int32) hr)), .val (.long (hr.toInt64 - (8 : Int64))), .second, .val (.int (0 : Int32))] [(.int (1 : Int32))]))
        refine Goes.via (fun _ k => XS.goto Xq26.here hx rfl (pc0 := 97) (pc' := 101) rfl (hb hby at_97) (by decide) (by decide) k) ?_
        show Goes _ _ _ _ _ _ _ _ (Tq26.setTop (mkF m 101 #[.val (.int flag), .val (.int hr), .val (.int (1 : Int32)), .val (.int hr), .val (.int (inPk (1 : Int32) hr)), .val (.int (offPk (1 : Int32) hr)), .val (.long (hr.toInt64 - (8 : Int64))), .second, .val (.int (0 : Int32))] [(.int (1 : Int32))]))
        refine goRetN Xq26 hx hrt (by simp) hlk Nq26 (by decide) (by decide) (hb hby at_101) ?_
        try rw [pq26_0]
        exact rfl
      · skip
        refine Goes.via (fun _ k => XS.ifNo Xq26.here hx rfl (hb hby at_63) rfl (XT.ll_lt_f cq28) k) ?_
        show Goes _ _ _ _ _ _ _ _ (Tq26.setTop (mkF m 66 #[.val (.int flag), .val (.int hr), .val (.int (1 : Int32)), .val (.int hr), .val (.int (inPk (1 : Int32) hr)), .val (.int (offPk (1 : Int32) hr)), .val (.long (hr.toInt64 - (8 : Int64))), .second, .unset] []))
        refine Goes.via (fun _ k => XT.lload Xq26.here hx rfl (hb hby at_66) rfl k) ?_
        show Goes _ _ _ _ _ _ _ _ (Tq26.setTop (mkF m 68 #[.val (.int flag), .val (.int hr), .val (.int (1 : Int32)), .val (.int hr), .val (.int (inPk (1 : Int32) hr)), .val (.int (offPk (1 : Int32) hr)), .val (.long (hr.toInt64 - (8 : Int64))), .second, .unset] [(.long (hr.toInt64 - (8 : Int64)))]))
        refine Goes.via (fun _ k => Xq26.ldc2J hx hown (mvT hZ (W_20 hw)) (g := (mkF m 68 #[.val (.int flag), .val (.int hr), .val (.int (1 : Int32)), .val (.int hr), .val (.int (inPk (1 : Int32) hr)), .val (.int (offPk (1 : Int32) hr)), .val (.long (hr.toInt64 - (8 : Int64))), .second, .unset] [(.long (hr.toInt64 - (8 : Int64)))])) rfl (hb hby at_68) k) ?_
        show Goes _ _ _ _ _ _ _ _ (Tq26.setTop (mkF m 71 #[.val (.int flag), .val (.int hr), .val (.int (1 : Int32)), .val (.int hr), .val (.int (inPk (1 : Int32) hr)), .val (.int (offPk (1 : Int32) hr)), .val (.long (hr.toInt64 - (8 : Int64))), .second, .unset] [(.long (16 : Int64)), (.long (hr.toInt64 - (8 : Int64)))]))
        refine Goes.via (fun _ k => XT.lcmp Xq26.here hx rfl (hb hby at_71) rfl k) ?_
        show Goes _ _ _ _ _ _ _ _ (Tq26.setTop (mkF m 72 #[.val (.int flag), .val (.int hr), .val (.int (1 : Int32)), .val (.int hr), .val (.int (inPk (1 : Int32) hr)), .val (.int (offPk (1 : Int32) hr)), .val (.long (hr.toInt64 - (8 : Int64))), .second, .unset] [(.int (XT.cmpL (hr.toInt64 - (8 : Int64)) (16 : Int64)))]))
        by_cases cq29 : (hr.toInt64 - (8 : Int64)) < (16 : Int64)
        · skip
          refine Goes.via (fun _ k => XS.ifNo Xq26.here hx rfl (hb hby at_72) rfl (XT.ll_ge_f cq29) k) ?_
          show Goes _ _ _ _ _ _ _ _ (Tq26.setTop (mkF m 75 #[.val (.int flag), .val (.int hr), .val (.int (1 : Int32)), .val (.int hr), .val (.int (inPk (1 : Int32) hr)), .val (.int (offPk (1 : Int32) hr)), .val (.long (hr.toInt64 - (8 : Int64))), .second, .unset] []))
          refine Goes.via (fun _ k => XT.iconstV Xq26.here hx rfl (1 : Int32) (hb hby at_75) (by decide) k) ?_
          show Goes _ _ _ _ _ _ _ _ (Tq26.setTop (mkF m 76 #[.val (.int flag), .val (.int hr), .val (.int (1 : Int32)), .val (.int hr), .val (.int (inPk (1 : Int32) hr)), .val (.int (offPk (1 : Int32) hr)), .val (.long (hr.toInt64 - (8 : Int64))), .second, .unset] [(.int (1 : Int32))]))
          refine Goes.via (fun _ k => XS.goto Xq26.here hx rfl (pc0 := 76) (pc' := 80) rfl (hb hby at_76) (by decide) (by decide) k) ?_
          show Goes _ _ _ _ _ _ _ _ (Tq26.setTop (mkF m 80 #[.val (.int flag), .val (.int hr), .val (.int (1 : Int32)), .val (.int hr), .val (.int (inPk (1 : Int32) hr)), .val (.int (offPk (1 : Int32) hr)), .val (.long (hr.toInt64 - (8 : Int64))), .second, .unset] [(.int (1 : Int32))]))
          refine Goes.via (fun _ k => XS.istore Xq26.here hx rfl (hb hby at_80) rfl (l' := #[.val (.int flag), .val (.int hr), .val (.int (1 : Int32)), .val (.int hr), .val (.int (inPk (1 : Int32) hr)), .val (.int (offPk (1 : Int32) hr)), .val (.long (hr.toInt64 - (8 : Int64))), .second, .val (.int (1 : Int32))]) rfl k) ?_
          show Goes _ _ _ _ _ _ _ _ (Tq26.setTop (mkF m 82 #[.val (.int flag), .val (.int hr), .val (.int (1 : Int32)), .val (.int hr), .val (.int (inPk (1 : Int32) hr)), .val (.int (offPk (1 : Int32) hr)), .val (.long (hr.toInt64 - (8 : Int64))), .second, .val (.int (1 : Int32))] []))
          refine Goes.via (fun _ k => XS.iload Xq26.here hx rfl (hb hby at_82) rfl k) ?_
          show Goes _ _ _ _ _ _ _ _ (Tq26.setTop (mkF m 84 #[.val (.int flag), .val (.int hr), .val (.int (1 : Int32)), .val (.int hr), .val (.int (inPk (1 : Int32) hr)), .val (.int (offPk (1 : Int32) hr)), .val (.long (hr.toInt64 - (8 : Int64))), .second, .val (.int (1 : Int32))] [(.int (inPk (1 : Int32) hr))]))
          refine Goes.via (fun _ k => XS.iload Xq26.here hx rfl (hb hby at_84) rfl k) ?_
          show Goes _ _ _ _ _ _ _ _ (Tq26.setTop (mkF m 86 #[.val (.int flag), .val (.int hr), .val (.int (1 : Int32)), .val (.int hr), .val (.int (inPk (1 : Int32) hr)), .val (.int (offPk (1 : Int32) hr)), .val (.long (hr.toInt64 - (8 : Int64))), .second, .val (.int (1 : Int32))] [(.int (1 : Int32)), (.int (inPk (1 : Int32) hr))]))
          refine Goes.via (fun _ k => XS.icmpNo Xq26.here hx rfl (hb hby at_86) rfl (XT.ii_ne_f (pk_in cq28 cq29)) k) ?_
          show Goes _ _ _ _ _ _ _ _ (Tq26.setTop (mkF m 89 #[.val (.int flag), .val (.int hr), .val (.int (1 : Int32)), .val (.int hr), .val (.int (inPk (1 : Int32) hr)), .val (.int (offPk (1 : Int32) hr)), .val (.long (hr.toInt64 - (8 : Int64))), .second, .val (.int (1 : Int32))] []))
          refine Goes.via (fun _ k => XS.iload Xq26.here hx rfl (hb hby at_89) rfl k) ?_
          show Goes _ _ _ _ _ _ _ _ (Tq26.setTop (mkF m 91 #[.val (.int flag), .val (.int hr), .val (.int (1 : Int32)), .val (.int hr), .val (.int (inPk (1 : Int32) hr)), .val (.int (offPk (1 : Int32) hr)), .val (.long (hr.toInt64 - (8 : Int64))), .second, .val (.int (1 : Int32))] [(.int (offPk (1 : Int32) hr))]))
          refine Goes.via (fun _ k => XS.iload Xq26.here hx rfl (hb hby at_91) rfl k) ?_
          show Goes _ _ _ _ _ _ _ _ (Tq26.setTop (mkF m 93 #[.val (.int flag), .val (.int hr), .val (.int (1 : Int32)), .val (.int hr), .val (.int (inPk (1 : Int32) hr)), .val (.int (offPk (1 : Int32) hr)), .val (.long (hr.toInt64 - (8 : Int64))), .second, .val (.int (1 : Int32))] [(.int (inPk (1 : Int32) hr)), (.int (offPk (1 : Int32) hr))]))
          refine Goes.via (fun _ k => XS.icmpNo Xq26.here hx rfl (hb hby at_93) rfl (XT.ii_eq_f (by unfold offPk; rw [(pk_in cq28 cq29)]; decide)) k) ?_
          show Goes _ _ _ _ _ _ _ _ (Tq26.setTop (mkF m 96 #[.val (.int flag), .val (.int hr), .val (.int (1 : Int32)), .val (.int hr), .val (.int (inPk (1 : Int32) hr)), .val (.int (offPk (1 : Int32) hr)), .val (.long (hr.toInt64 - (8 : Int64))), .second, .val (.int (1 : Int32))] []))
          refine Goes.via (fun _ k => XT.iconstV Xq26.here hx rfl (1 : Int32) (hb hby at_96) (by decide) k) ?_
          show Goes _ _ _ _ _ _ _ _ (Tq26.setTop (mkF m 97 #[.val (.int flag), .val (.int hr), .val (.int (1 : Int32)), .val (.int hr), .val (.int (inPk (1 : Int32) hr)), .val (.int (offPk (1 : Int32) hr)), .val (.long (hr.toInt64 - (8 : Int64))), .second, .val (.int (1 : Int32))] [(.int (1 : Int32))]))
          refine Goes.via (fun _ k => XS.goto Xq26.here hx rfl (pc0 := 97) (pc' := 101) rfl (hb hby at_97) (by decide) (by decide) k) ?_
          show Goes _ _ _ _ _ _ _ _ (Tq26.setTop (mkF m 101 #[.val (.int flag), .val (.int hr), .val (.int (1 : Int32)), .val (.int hr), .val (.int (inPk (1 : Int32) hr)), .val (.int (offPk (1 : Int32) hr)), .val (.long (hr.toInt64 - (8 : Int64))), .second, .val (.int (1 : Int32))] [(.int (1 : Int32))]))
          refine goRetN Xq26 hx hrt (by simp) hlk Nq26 (by decide) (by decide) (hb hby at_101) ?_
          try rw [pq26_0]
          exact rfl
        · skip
          refine Goes.via (fun _ k => XS.ifYes Xq26.here hx rfl (pc0 := 72) (pc' := 79) rfl (hb hby at_72) rfl (XT.ll_ge_t cq29) (by decide) (by decide) k) ?_
          show Goes _ _ _ _ _ _ _ _ (Tq26.setTop (mkF m 79 #[.val (.int flag), .val (.int hr), .val (.int (1 : Int32)), .val (.int hr), .val (.int (inPk (1 : Int32) hr)), .val (.int (offPk (1 : Int32) hr)), .val (.long (hr.toInt64 - (8 : Int64))), .second, .unset] []))
          refine Goes.via (fun _ k => XT.iconstV Xq26.here hx rfl (0 : Int32) (hb hby at_79) (by decide) k) ?_
          show Goes _ _ _ _ _ _ _ _ (Tq26.setTop (mkF m 80 #[.val (.int flag), .val (.int hr), .val (.int (1 : Int32)), .val (.int hr), .val (.int (inPk (1 : Int32) hr)), .val (.int (offPk (1 : Int32) hr)), .val (.long (hr.toInt64 - (8 : Int64))), .second, .unset] [(.int (0 : Int32))]))
          refine Goes.via (fun _ k => XS.istore Xq26.here hx rfl (hb hby at_80) rfl (l' := #[.val (.int flag), .val (.int hr), .val (.int (1 : Int32)), .val (.int hr), .val (.int (inPk (1 : Int32) hr)), .val (.int (offPk (1 : Int32) hr)), .val (.long (hr.toInt64 - (8 : Int64))), .second, .val (.int (0 : Int32))]) rfl k) ?_
          show Goes _ _ _ _ _ _ _ _ (Tq26.setTop (mkF m 82 #[.val (.int flag), .val (.int hr), .val (.int (1 : Int32)), .val (.int hr), .val (.int (inPk (1 : Int32) hr)), .val (.int (offPk (1 : Int32) hr)), .val (.long (hr.toInt64 - (8 : Int64))), .second, .val (.int (0 : Int32))] []))
          refine Goes.via (fun _ k => XS.iload Xq26.here hx rfl (hb hby at_82) rfl k) ?_
          show Goes _ _ _ _ _ _ _ _ (Tq26.setTop (mkF m 84 #[.val (.int flag), .val (.int hr), .val (.int (1 : Int32)), .val (.int hr), .val (.int (inPk (1 : Int32) hr)), .val (.int (offPk (1 : Int32) hr)), .val (.long (hr.toInt64 - (8 : Int64))), .second, .val (.int (0 : Int32))] [(.int (inPk (1 : Int32) hr))]))
          refine Goes.via (fun _ k => XS.iload Xq26.here hx rfl (hb hby at_84) rfl k) ?_
          show Goes _ _ _ _ _ _ _ _ (Tq26.setTop (mkF m 86 #[.val (.int flag), .val (.int hr), .val (.int (1 : Int32)), .val (.int hr), .val (.int (inPk (1 : Int32) hr)), .val (.int (offPk (1 : Int32) hr)), .val (.long (hr.toInt64 - (8 : Int64))), .second, .val (.int (0 : Int32))] [(.int (0 : Int32)), (.int (inPk (1 : Int32) hr))]))
          refine Goes.via (fun _ k => XS.icmpNo Xq26.here hx rfl (hb hby at_86) rfl (XT.ii_ne_f (pk_hi cq29)) k) ?_
          show Goes _ _ _ _ _ _ _ _ (Tq26.setTop (mkF m 89 #[.val (.int flag), .val (.int hr), .val (.int (1 : Int32)), .val (.int hr), .val (.int (inPk (1 : Int32) hr)), .val (.int (offPk (1 : Int32) hr)), .val (.long (hr.toInt64 - (8 : Int64))), .second, .val (.int (0 : Int32))] []))
          refine Goes.via (fun _ k => XS.iload Xq26.here hx rfl (hb hby at_89) rfl k) ?_
          show Goes _ _ _ _ _ _ _ _ (Tq26.setTop (mkF m 91 #[.val (.int flag), .val (.int hr), .val (.int (1 : Int32)), .val (.int hr), .val (.int (inPk (1 : Int32) hr)), .val (.int (offPk (1 : Int32) hr)), .val (.long (hr.toInt64 - (8 : Int64))), .second, .val (.int (0 : Int32))] [(.int (offPk (1 : Int32) hr))]))
          refine Goes.via (fun _ k => XS.iload Xq26.here hx rfl (hb hby at_91) rfl k) ?_
          show Goes _ _ _ _ _ _ _ _ (Tq26.setTop (mkF m 93 #[.val (.int flag), .val (.int hr), .val (.int (1 : Int32)), .val (.int hr), .val (.int (inPk (1 : Int32) hr)), .val (.int (offPk (1 : Int32) hr)), .val (.long (hr.toInt64 - (8 : Int64))), .second, .val (.int (0 : Int32))] [(.int (inPk (1 : Int32) hr)), (.int (offPk (1 : Int32) hr))]))
          refine Goes.via (fun _ k => XS.icmpNo Xq26.here hx rfl (hb hby at_93) rfl (XT.ii_eq_f (by unfold offPk; rw [(pk_hi cq29)]; decide)) k) ?_
          show Goes _ _ _ _ _ _ _ _ (Tq26.setTop (mkF m 96 #[.val (.int flag), .val (.int hr), .val (.int (1 : Int32)), .val (.int hr), .val (.int (inPk (1 : Int32) hr)), .val (.int (offPk (1 : Int32) hr)), .val (.long (hr.toInt64 - (8 : Int64))), .second, .val (.int (0 : Int32))] []))
          refine Goes.via (fun _ k => XT.iconstV Xq26.here hx rfl (1 : Int32) (hb hby at_96) (by decide) k) ?_
          show Goes _ _ _ _ _ _ _ _ (Tq26.setTop (mkF m 97 #[.val (.int flag), .val (.int hr), .val (.int (1 : Int32)), .val (.int hr), .val (.int (inPk (1 : Int32) hr)), .val (.int (offPk (1 : Int32) hr)), .val (.long (hr.toInt64 - (8 : Int64))), .second, .val (.int (0 : Int32))] [(.int (1 : Int32))]))
          refine Goes.via (fun _ k => XS.goto Xq26.here hx rfl (pc0 := 97) (pc' := 101) rfl (hb hby at_97) (by decide) (by decide) k) ?_
          show Goes _ _ _ _ _ _ _ _ (Tq26.setTop (mkF m 101 #[.val (.int flag), .val (.int hr), .val (.int (1 : Int32)), .val (.int hr), .val (.int (inPk (1 : Int32) hr)), .val (.int (offPk (1 : Int32) hr)), .val (.long (hr.toInt64 - (8 : Int64))), .second, .val (.int (0 : Int32))] [(.int (1 : Int32))]))
          refine goRetN Xq26 hx hrt (by simp) hlk Nq26 (by decide) (by decide) (hb hby at_101) ?_
          try rw [pq26_0]
          exact rfl
    · skip
      refine Goes.via (fun _ k => XS.ifNo X.here hx rfl (hb hby at_15) rfl (XT.i0_eq_f cq19) k) ?_
      show Goes _ _ _ _ _ _ _ _ (T.setTop (mkF m 18 #[.val (.int flag), .val (.int hr), .val (.int (1 : Int32)), .unset, .unset, .unset, .unset, .unset, .unset] []))
      refine Goes.via (fun _ k => XS.iloadN X.here hx rfl (hb hby at_18) rfl k) ?_
      show Goes _ _ _ _ _ _ _ _ (T.setTop (mkF m 19 #[.val (.int flag), .val (.int hr), .val (.int (1 : Int32)), .unset, .unset, .unset, .unset, .unset, .unset] [(.int hr)]))
      refine Goes.via (fun _ k => XT.bipushV X.here hx rfl (31 : Int32) (hb hby at_19) (by decide) k) ?_
      show Goes _ _ _ _ _ _ _ _ (T.setTop (mkF m 21 #[.val (.int flag), .val (.int hr), .val (.int (1 : Int32)), .unset, .unset, .unset, .unset, .unset, .unset] [(.int (31 : Int32)), (.int hr)]))
      refine Goes.via (fun _ k => XS.iand X.here hx rfl (hb hby at_21) rfl k) ?_
      show Goes _ _ _ _ _ _ _ _ (T.setTop (mkF m 22 #[.val (.int flag), .val (.int hr), .val (.int (1 : Int32)), .unset, .unset, .unset, .unset, .unset, .unset] [(.int (hr &&& (31 : Int32)))]))
      refine Goes.via (fun _ k => XS.goto X.here hx rfl (pc0 := 22) (pc' := 26) rfl (hb hby at_22) (by decide) (by decide) k) ?_
      show Goes _ _ _ _ _ _ _ _ (T.setTop (mkF m 26 #[.val (.int flag), .val (.int hr), .val (.int (1 : Int32)), .unset, .unset, .unset, .unset, .unset, .unset] [(.int (hr &&& (31 : Int32)))]))
      refine Goes.via (fun _ k => XS.istoreN X.here hx rfl (hb hby at_26) rfl (l' := #[.val (.int flag), .val (.int hr), .val (.int (1 : Int32)), .val (.int (hr &&& (31 : Int32))), .unset, .unset, .unset, .unset, .unset]) rfl k) ?_
      show Goes _ _ _ _ _ _ _ _ (T.setTop (mkF m 27 #[.val (.int flag), .val (.int hr), .val (.int (1 : Int32)), .val (.int (hr &&& (31 : Int32))), .unset, .unset, .unset, .unset, .unset] []))
      have fq31 : Sta Z h0 "com/example/zonetally/zonetally/HourBlock" "PEAK" "Lcom/example/zonetally/zonetally/HourBlock;" (.ref a0p) := (S0.ext O.2)
      obtain ⟨Tq30, Xq30, eq30, stq30⟩ := getS2 X hx hZ hown (host := "") (Or.inl (W_0 hw)) Via.refl e0 fq31 (g := (mkF m 27 #[.val (.int flag), .val (.int hr), .val (.int (1 : Int32)), .val (.int (hr &&& (31 : Int32))), .unset, .unset, .unset, .unset, .unset] [])) rfl (hb hby at_27)
      refine Goes.via stq30 ?_
      show Goes _ _ _ _ _ _ _ _ (Tq30.setTop (mkF m 30 #[.val (.int flag), .val (.int hr), .val (.int (1 : Int32)), .val (.int (hr &&& (31 : Int32))), .unset, .unset, .unset, .unset, .unset] [(.ref a0p)]))
      refine Goes.via (fun _ k => XS.iloadN Xq30.here hx rfl (hb hby at_30) rfl k) ?_
      show Goes _ _ _ _ _ _ _ _ (Tq30.setTop (mkF m 31 #[.val (.int flag), .val (.int hr), .val (.int (1 : Int32)), .val (.int (hr &&& (31 : Int32))), .unset, .unset, .unset, .unset, .unset] [(.int (1 : Int32)), (.ref a0p)]))
      refine Goes.via (fun _ k => XS.iloadN Xq30.here hx rfl (hb hby at_31) rfl k) ?_
      show Goes _ _ _ _ _ _ _ _ (Tq30.setTop (mkF m 32 #[.val (.int flag), .val (.int hr), .val (.int (1 : Int32)), .val (.int (hr &&& (31 : Int32))), .unset, .unset, .unset, .unset, .unset] [(.int (hr &&& (31 : Int32))), (.int (1 : Int32)), (.ref a0p)]))
      have fq33 : Exa Z h0 a0p "com/example/zonetally/zonetally/HourBlock" := (E0.ext O.2)
      obtain ⟨vq32, Tq32, Lq32, Xq32, qq32, nq32, stq32⟩ := callVi Xq30 hx hZ hown (peak l Z aw hw a0p (1 : Int32) (hr &&& (31 : Int32)) O E0 F0) (W_3 hw) (W_4 hw) (notFace_of_selects (args := #[]) (mvT hZ (W_6 hw))) (W_6 hw) (W_5 hw) (W_1 hw) (W_7 hw) (by decide) eq30 fq33 (by decide) (W := 0) (by decide) (by decide) (by decide) (g := (mkF m 32 #[.val (.int flag), .val (.int hr), .val (.int (1 : Int32)), .val (.int (hr &&& (31 : Int32))), .unset, .unset, .unset, .unset, .unset] [(.int (hr &&& (31 : Int32))), (.int (1 : Int32)), (.ref a0p)])) rfl (by rw [hml]; rfl) (a := a0p) (argsL := [(.int (1 : Int32)), (.int (hr &&& (31 : Int32)))]) (rest := []) rfl (lenOf pd_4 rfl) rfl (by show 2 * 0 + _ ≤ _; exact Nat.le_of_eq rfl) (hb hby at_32)
      obtain ⟨rfl, pq32_0⟩ := qq32
      have Nq32 := Fr.app N nq32
      refine Goes.via stq32 ?_
      show Goes _ _ _ _ _ _ _ _ (Tq32.setTop (mkF m 35 #[.val (.int flag), .val (.int hr), .val (.int (1 : Int32)), .val (.int (hr &&& (31 : Int32))), .unset, .unset, .unset, .unset, .unset] [(.int (inPk (1 : Int32) (hr &&& (31 : Int32))))]))
      refine Goes.via (fun _ k => XS.istore Xq32.here hx rfl (hb hby at_35) rfl (l' := #[.val (.int flag), .val (.int hr), .val (.int (1 : Int32)), .val (.int (hr &&& (31 : Int32))), .val (.int (inPk (1 : Int32) (hr &&& (31 : Int32)))), .unset, .unset, .unset, .unset]) rfl k) ?_
      show Goes _ _ _ _ _ _ _ _ (Tq32.setTop (mkF m 37 #[.val (.int flag), .val (.int hr), .val (.int (1 : Int32)), .val (.int (hr &&& (31 : Int32))), .val (.int (inPk (1 : Int32) (hr &&& (31 : Int32)))), .unset, .unset, .unset, .unset] []))
      have fq35 : Sta Z h0 "com/example/zonetally/zonetally/HourBlock" "OFF_PEAK" "Lcom/example/zonetally/zonetally/HourBlock;" (.ref a1p) := (S1.ext O.2)
      obtain ⟨Tq34, Xq34, eq34, stq34⟩ := getS2 Xq32 hx hZ hown (host := "") (Or.inl (W_17 hw)) Via.refl pq32_0 fq35 (g := (mkF m 37 #[.val (.int flag), .val (.int hr), .val (.int (1 : Int32)), .val (.int (hr &&& (31 : Int32))), .val (.int (inPk (1 : Int32) (hr &&& (31 : Int32)))), .unset, .unset, .unset, .unset] [])) rfl (hb hby at_37)
      refine Goes.via stq34 ?_
      show Goes _ _ _ _ _ _ _ _ (Tq34.setTop (mkF m 40 #[.val (.int flag), .val (.int hr), .val (.int (1 : Int32)), .val (.int (hr &&& (31 : Int32))), .val (.int (inPk (1 : Int32) (hr &&& (31 : Int32)))), .unset, .unset, .unset, .unset] [(.ref a1p)]))
      refine Goes.via (fun _ k => XS.iloadN Xq34.here hx rfl (hb hby at_40) rfl k) ?_
      show Goes _ _ _ _ _ _ _ _ (Tq34.setTop (mkF m 41 #[.val (.int flag), .val (.int hr), .val (.int (1 : Int32)), .val (.int (hr &&& (31 : Int32))), .val (.int (inPk (1 : Int32) (hr &&& (31 : Int32)))), .unset, .unset, .unset, .unset] [(.int (1 : Int32)), (.ref a1p)]))
      refine Goes.via (fun _ k => XS.iloadN Xq34.here hx rfl (hb hby at_41) rfl k) ?_
      show Goes _ _ _ _ _ _ _ _ (Tq34.setTop (mkF m 42 #[.val (.int flag), .val (.int hr), .val (.int (1 : Int32)), .val (.int (hr &&& (31 : Int32))), .val (.int (inPk (1 : Int32) (hr &&& (31 : Int32)))), .unset, .unset, .unset, .unset] [(.int (hr &&& (31 : Int32))), (.int (1 : Int32)), (.ref a1p)]))
      have fq37 : Exa Z h0 a1p "com/example/zonetally/zonetally/HourBlock" := (E1.ext O.2)
      obtain ⟨vq36, Tq36, Lq36, Xq36, qq36, nq36, stq36⟩ := callVi Xq34 hx hZ hown (offp l Z aw hw a1p (1 : Int32) (hr &&& (31 : Int32)) O E1 F1) (W_3 hw) (W_4 hw) (notFace_of_selects (args := #[]) (mvT hZ (W_6 hw))) (W_6 hw) (W_5 hw) (W_1 hw) (W_7 hw) (by decide) eq34 fq37 (by decide) (W := 0) (by decide) (by decide) (by decide) (g := (mkF m 42 #[.val (.int flag), .val (.int hr), .val (.int (1 : Int32)), .val (.int (hr &&& (31 : Int32))), .val (.int (inPk (1 : Int32) (hr &&& (31 : Int32)))), .unset, .unset, .unset, .unset] [(.int (hr &&& (31 : Int32))), (.int (1 : Int32)), (.ref a1p)])) rfl (by rw [hml]; rfl) (a := a1p) (argsL := [(.int (1 : Int32)), (.int (hr &&& (31 : Int32)))]) (rest := []) rfl (lenOf pd_4 rfl) rfl (by show 2 * 0 + _ ≤ _; exact Nat.le_of_eq rfl) (hb hby at_42)
      obtain ⟨rfl, pq36_0⟩ := qq36
      have Nq36 := Fr.app Nq32 nq36
      refine Goes.via stq36 ?_
      show Goes _ _ _ _ _ _ _ _ (Tq36.setTop (mkF m 45 #[.val (.int flag), .val (.int hr), .val (.int (1 : Int32)), .val (.int (hr &&& (31 : Int32))), .val (.int (inPk (1 : Int32) (hr &&& (31 : Int32)))), .unset, .unset, .unset, .unset] [(.int (offPk (1 : Int32) (hr &&& (31 : Int32))))]))
      refine Goes.via (fun _ k => XS.istore Xq36.here hx rfl (hb hby at_45) rfl (l' := #[.val (.int flag), .val (.int hr), .val (.int (1 : Int32)), .val (.int (hr &&& (31 : Int32))), .val (.int (inPk (1 : Int32) (hr &&& (31 : Int32)))), .val (.int (offPk (1 : Int32) (hr &&& (31 : Int32)))), .unset, .unset, .unset]) rfl k) ?_
      show Goes _ _ _ _ _ _ _ _ (Tq36.setTop (mkF m 47 #[.val (.int flag), .val (.int hr), .val (.int (1 : Int32)), .val (.int (hr &&& (31 : Int32))), .val (.int (inPk (1 : Int32) (hr &&& (31 : Int32)))), .val (.int (offPk (1 : Int32) (hr &&& (31 : Int32)))), .unset, .unset, .unset] []))
      refine Goes.via (fun _ k => XS.iloadN Xq36.here hx rfl (hb hby at_47) rfl k) ?_
      show Goes _ _ _ _ _ _ _ _ (Tq36.setTop (mkF m 48 #[.val (.int flag), .val (.int hr), .val (.int (1 : Int32)), .val (.int (hr &&& (31 : Int32))), .val (.int (inPk (1 : Int32) (hr &&& (31 : Int32)))), .val (.int (offPk (1 : Int32) (hr &&& (31 : Int32)))), .unset, .unset, .unset] [(.int (hr &&& (31 : Int32)))]))
      refine Goes.via (fun _ k => XT.i2l Xq36.here hx rfl (hb hby at_48) rfl k) ?_
      show Goes _ _ _ _ _ _ _ _ (Tq36.setTop (mkF m 49 #[.val (.int flag), .val (.int hr), .val (.int (1 : Int32)), .val (.int (hr &&& (31 : Int32))), .val (.int (inPk (1 : Int32) (hr &&& (31 : Int32)))), .val (.int (offPk (1 : Int32) (hr &&& (31 : Int32)))), .unset, .unset, .unset] [(.long (hr &&& (31 : Int32)).toInt64)]))
      refine Goes.via (fun _ k => Xq36.ldc2J hx hown (mvT hZ (W_19 hw)) (g := (mkF m 49 #[.val (.int flag), .val (.int hr), .val (.int (1 : Int32)), .val (.int (hr &&& (31 : Int32))), .val (.int (inPk (1 : Int32) (hr &&& (31 : Int32)))), .val (.int (offPk (1 : Int32) (hr &&& (31 : Int32)))), .unset, .unset, .unset] [(.long (hr &&& (31 : Int32)).toInt64)])) rfl (hb hby at_49) k) ?_
      show Goes _ _ _ _ _ _ _ _ (Tq36.setTop (mkF m 52 #[.val (.int flag), .val (.int hr), .val (.int (1 : Int32)), .val (.int (hr &&& (31 : Int32))), .val (.int (inPk (1 : Int32) (hr &&& (31 : Int32)))), .val (.int (offPk (1 : Int32) (hr &&& (31 : Int32)))), .unset, .unset, .unset] [(.long (8 : Int64)), (.long (hr &&& (31 : Int32)).toInt64)]))
      refine Goes.via (fun _ k => XT.lsub Xq36.here hx rfl (hb hby at_52) rfl k) ?_
      show Goes _ _ _ _ _ _ _ _ (Tq36.setTop (mkF m 53 #[.val (.int flag), .val (.int hr), .val (.int (1 : Int32)), .val (.int (hr &&& (31 : Int32))), .val (.int (inPk (1 : Int32) (hr &&& (31 : Int32)))), .val (.int (offPk (1 : Int32) (hr &&& (31 : Int32)))), .unset, .unset, .unset] [(.long ((hr &&& (31 : Int32)).toInt64 - (8 : Int64)))]))
      refine Goes.via (fun _ k => XT.lstore Xq36.here hx rfl (hb hby at_53) rfl (l' := #[.val (.int flag), .val (.int hr), .val (.int (1 : Int32)), .val (.int (hr &&& (31 : Int32))), .val (.int (inPk (1 : Int32) (hr &&& (31 : Int32)))), .val (.int (offPk (1 : Int32) (hr &&& (31 : Int32)))), .val (.long ((hr &&& (31 : Int32)).toInt64 - (8 : Int64))), .second, .unset]) rfl k) ?_
      show Goes _ _ _ _ _ _ _ _ (Tq36.setTop (mkF m 55 #[.val (.int flag), .val (.int hr), .val (.int (1 : Int32)), .val (.int (hr &&& (31 : Int32))), .val (.int (inPk (1 : Int32) (hr &&& (31 : Int32)))), .val (.int (offPk (1 : Int32) (hr &&& (31 : Int32)))), .val (.long ((hr &&& (31 : Int32)).toInt64 - (8 : Int64))), .second, .unset] []))
      refine Goes.via (fun _ k => XS.iloadN Xq36.here hx rfl (hb hby at_55) rfl k) ?_
      show Goes _ _ _ _ _ _ _ _ (Tq36.setTop (mkF m 56 #[.val (.int flag), .val (.int hr), .val (.int (1 : Int32)), .val (.int (hr &&& (31 : Int32))), .val (.int (inPk (1 : Int32) (hr &&& (31 : Int32)))), .val (.int (offPk (1 : Int32) (hr &&& (31 : Int32)))), .val (.long ((hr &&& (31 : Int32)).toInt64 - (8 : Int64))), .second, .unset] [(.int (1 : Int32))]))
      refine Goes.via (fun _ k => XS.ifNo Xq36.here hx rfl (hb hby at_56) rfl (XT.i0_eq_f (by decide)) k) ?_
      show Goes _ _ _ _ _ _ _ _ (Tq36.setTop (mkF m 59 #[.val (.int flag), .val (.int hr), .val (.int (1 : Int32)), .val (.int (hr &&& (31 : Int32))), .val (.int (inPk (1 : Int32) (hr &&& (31 : Int32)))), .val (.int (offPk (1 : Int32) (hr &&& (31 : Int32)))), .val (.long ((hr &&& (31 : Int32)).toInt64 - (8 : Int64))), .second, .unset] []))
      refine Goes.via (fun _ k => XT.lload Xq36.here hx rfl (hb hby at_59) rfl k) ?_
      show Goes _ _ _ _ _ _ _ _ (Tq36.setTop (mkF m 61 #[.val (.int flag), .val (.int hr), .val (.int (1 : Int32)), .val (.int (hr &&& (31 : Int32))), .val (.int (inPk (1 : Int32) (hr &&& (31 : Int32)))), .val (.int (offPk (1 : Int32) (hr &&& (31 : Int32)))), .val (.long ((hr &&& (31 : Int32)).toInt64 - (8 : Int64))), .second, .unset] [(.long ((hr &&& (31 : Int32)).toInt64 - (8 : Int64)))]))
      refine Goes.via (fun _ k => XT.lconstV Xq36.here hx rfl (0 : Int64) (hb hby at_61) (by decide) k) ?_
      show Goes _ _ _ _ _ _ _ _ (Tq36.setTop (mkF m 62 #[.val (.int flag), .val (.int hr), .val (.int (1 : Int32)), .val (.int (hr &&& (31 : Int32))), .val (.int (inPk (1 : Int32) (hr &&& (31 : Int32)))), .val (.int (offPk (1 : Int32) (hr &&& (31 : Int32)))), .val (.long ((hr &&& (31 : Int32)).toInt64 - (8 : Int64))), .second, .unset] [(.long (0 : Int64)), (.long ((hr &&& (31 : Int32)).toInt64 - (8 : Int64)))]))
      refine Goes.via (fun _ k => XT.lcmp Xq36.here hx rfl (hb hby at_62) rfl k) ?_
      show Goes _ _ _ _ _ _ _ _ (Tq36.setTop (mkF m 63 #[.val (.int flag), .val (.int hr), .val (.int (1 : Int32)), .val (.int (hr &&& (31 : Int32))), .val (.int (inPk (1 : Int32) (hr &&& (31 : Int32)))), .val (.int (offPk (1 : Int32) (hr &&& (31 : Int32)))), .val (.long ((hr &&& (31 : Int32)).toInt64 - (8 : Int64))), .second, .unset] [(.int (XT.cmpL ((hr &&& (31 : Int32)).toInt64 - (8 : Int64)) (0 : Int64)))]))
      by_cases cq38 : ((hr &&& (31 : Int32)).toInt64 - (8 : Int64)) < (0 : Int64)
      · skip
        refine Goes.via (fun _ k => XS.ifYes Xq36.here hx rfl (pc0 := 63) (pc' := 79) rfl (hb hby at_63) rfl (XT.ll_lt_t cq38) (by decide) (by decide) k) ?_
        show Goes _ _ _ _ _ _ _ _ (Tq36.setTop (mkF m 79 #[.val (.int flag), .val (.int hr), .val (.int (1 : Int32)), .val (.int (hr &&& (31 : Int32))), .val (.int (inPk (1 : Int32) (hr &&& (31 : Int32)))), .val (.int (offPk (1 : Int32) (hr &&& (31 : Int32)))), .val (.long ((hr &&& (31 : Int32)).toInt64 - (8 : Int64))), .second, .unset] []))
        refine Goes.via (fun _ k => XT.iconstV Xq36.here hx rfl (0 : Int32) (hb hby at_79) (by decide) k) ?_
        show Goes _ _ _ _ _ _ _ _ (Tq36.setTop (mkF m 80 #[.val (.int flag), .val (.int hr), .val (.int (1 : Int32)), .val (.int (hr &&& (31 : Int32))), .val (.int (inPk (1 : Int32) (hr &&& (31 : Int32)))), .val (.int (offPk (1 : Int32) (hr &&& (31 : Int32)))), .val (.long ((hr &&& (31 : Int32)).toInt64 - (8 : Int64))), .second, .unset] [(.int (0 : Int32))]))
        refine Goes.via (fun _ k => XS.istore Xq36.here hx rfl (hb hby at_80) rfl (l' := #[.val (.int flag), .val (.int hr), .val (.int (1 : Int32)), .val (.int (hr &&& (31 : Int32))), .val (.int (inPk (1 : Int32) (hr &&& (31 : Int32)))), .val (.int (offPk (1 : Int32) (hr &&& (31 : Int32)))), .val (.long ((hr &&& (31 : Int32)).toInt64 - (8 : Int64))), .second, .val (.int (0 : Int32))]) rfl k) ?_
        show Goes _ _ _ _ _ _ _ _ (Tq36.setTop (mkF m 82 #[.val (.int flag), .val (.int hr), .val (.int (1 : Int32)), .val (.int (hr &&& (31 : Int32))), .val (.int (inPk (1 : Int32) (hr &&& (31 : Int32)))), .val (.int (offPk (1 : Int32) (hr &&& (31 : Int32)))), .val (.long ((hr &&& (31 : Int32)).toInt64 - (8 : Int64))), .second, .val (.int (0 : Int32))] []))
        refine Goes.via (fun _ k => XS.iload Xq36.here hx rfl (hb hby at_82) rfl k) ?_
        show Goes _ _ _ _ _ _ _ _ (Tq36.setTop (mkF m 84 #[.val (.int flag), .val (.int hr), .val (.int (1 : Int32)), .val (.int (hr &&& (31 : Int32))), .val (.int (inPk (1 : Int32) (hr &&& (31 : Int32)))), .val (.int (offPk (1 : Int32) (hr &&& (31 : Int32)))), .val (.long ((hr &&& (31 : Int32)).toInt64 - (8 : Int64))), .second, .val (.int (0 : Int32))] [(.int (inPk (1 : Int32) (hr &&& (31 : Int32))))]))
        refine Goes.via (fun _ k => XS.iload Xq36.here hx rfl (hb hby at_84) rfl k) ?_
        show Goes _ _ _ _ _ _ _ _ (Tq36.setTop (mkF m 86 #[.val (.int flag), .val (.int hr), .val (.int (1 : Int32)), .val (.int (hr &&& (31 : Int32))), .val (.int (inPk (1 : Int32) (hr &&& (31 : Int32)))), .val (.int (offPk (1 : Int32) (hr &&& (31 : Int32)))), .val (.long ((hr &&& (31 : Int32)).toInt64 - (8 : Int64))), .second, .val (.int (0 : Int32))] [(.int (0 : Int32)), (.int (inPk (1 : Int32) (hr &&& (31 : Int32))))]))
        refine Goes.via (fun _ k => XS.icmpNo Xq36.here hx rfl (hb hby at_86) rfl (XT.ii_ne_f (pk_lo cq38)) k) ?_
        show Goes _ _ _ _ _ _ _ _ (Tq36.setTop (mkF m 89 #[.val (.int flag), .val (.int hr), .val (.int (1 : Int32)), .val (.int (hr &&& (31 : Int32))), .val (.int (inPk (1 : Int32) (hr &&& (31 : Int32)))), .val (.int (offPk (1 : Int32) (hr &&& (31 : Int32)))), .val (.long ((hr &&& (31 : Int32)).toInt64 - (8 : Int64))), .second, .val (.int (0 : Int32))] []))
        refine Goes.via (fun _ k => XS.iload Xq36.here hx rfl (hb hby at_89) rfl k) ?_
        show Goes _ _ _ _ _ _ _ _ (Tq36.setTop (mkF m 91 #[.val (.int flag), .val (.int hr), .val (.int (1 : Int32)), .val (.int (hr &&& (31 : Int32))), .val (.int (inPk (1 : Int32) (hr &&& (31 : Int32)))), .val (.int (offPk (1 : Int32) (hr &&& (31 : Int32)))), .val (.long ((hr &&& (31 : Int32)).toInt64 - (8 : Int64))), .second, .val (.int (0 : Int32))] [(.int (offPk (1 : Int32) (hr &&& (31 : Int32))))]))
        refine Goes.via (fun _ k => XS.iload Xq36.here hx rfl (hb hby at_91) rfl k) ?_
        show Goes _ _ _ _ _ _ _ _ (Tq36.setTop (mkF m 93 #[.val (.int flag), .val (.int hr), .val (.int (1 : Int32)), .val (.int (hr &&& (31 : Int32))), .val (.int (inPk (1 : Int32) (hr &&& (31 : Int32)))), .val (.int (offPk (1 : Int32) (hr &&& (31 : Int32)))), .val (.long ((hr &&& (31 : Int32)).toInt64 - (8 : Int64))), .second, .val (.int (0 : Int32))] [(.int (inPk (1 : Int32) (hr &&& (31 : Int32)))), (.int (offPk (1 : Int32) (hr &&& (31 : Int32))))]))
        refine Goes.via (fun _ k => XS.icmpNo Xq36.here hx rfl (hb hby at_93) rfl (XT.ii_eq_f (by unfold offPk; rw [(pk_lo cq38)]; decide)) k) ?_
        show Goes _ _ _ _ _ _ _ _ (Tq36.setTop (mkF m 96 #[.val (.int flag), .val (.int hr), .val (.int (1 : Int32)), .val (.int (hr &&& (31 : Int32))), .val (.int (inPk (1 : Int32) (hr &&& (31 : Int32)))), .val (.int (offPk (1 : Int32) (hr &&& (31 : Int32)))), .val (.long ((hr &&& (31 : Int32)).toInt64 - (8 : Int64))), .second, .val (.int (0 : Int32))] []))
        refine Goes.via (fun _ k => XT.iconstV Xq36.here hx rfl (1 : Int32) (hb hby at_96) (by decide) k) ?_
        show Goes _ _ _ _ _ _ _ _ (Tq36.setTop (mkF m 97 #[.val (.int flag), .val (.int hr), .val (.int (1 : Int32)), .val (.int (hr &&& (31 : Int32))), .val (.int (inPk (1 : Int32) (hr &&& (31 : Int32)))), .val (.int (offPk (1 : Int32) (hr &&& (31 : Int32)))), .val (.long ((hr &&& (31 : Int32)).toInt64 - (8 : Int64))), .second, .val (.int (0 : Int32))] [(.int (1 : Int32))]))
        refine Goes.via (fun _ k => XS.goto Xq36.here hx rfl (pc0 := 97) (pc' := 101) rfl (hb hby at_97) (by decide) (by decide) k) ?_
        show Goes _ _ _ _ _ _ _ _ (Tq36.setTop (mkF m 101 #[.val (.int flag), .val (.int hr), .val (.int (1 : Int32)), .val (.int (hr &&& (31 : Int32))), .val (.int (inPk (1 : Int32) (hr &&& (31 : Int32)))), .val (.int (offPk (1 : Int32) (hr &&& (31 : Int32)))), .val (.long ((hr &&& (31 : Int32)).toInt64 - (8 : Int64))), .second, .val (.int (0 : Int32))] [(.int (1 : Int32))]))
        refine goRetN Xq36 hx hrt (by simp) hlk Nq36 (by decide) (by decide) (hb hby at_101) ?_
        try rw [pq36_0]
        exact rfl
      · skip
        refine Goes.via (fun _ k => XS.ifNo Xq36.here hx rfl (hb hby at_63) rfl (XT.ll_lt_f cq38) k) ?_
        show Goes _ _ _ _ _ _ _ _ (Tq36.setTop (mkF m 66 #[.val (.int flag), .val (.int hr), .val (.int (1 : Int32)), .val (.int (hr &&& (31 : Int32))), .val (.int (inPk (1 : Int32) (hr &&& (31 : Int32)))), .val (.int (offPk (1 : Int32) (hr &&& (31 : Int32)))), .val (.long ((hr &&& (31 : Int32)).toInt64 - (8 : Int64))), .second, .unset] []))
        refine Goes.via (fun _ k => XT.lload Xq36.here hx rfl (hb hby at_66) rfl k) ?_
        show Goes _ _ _ _ _ _ _ _ (Tq36.setTop (mkF m 68 #[.val (.int flag), .val (.int hr), .val (.int (1 : Int32)), .val (.int (hr &&& (31 : Int32))), .val (.int (inPk (1 : Int32) (hr &&& (31 : Int32)))), .val (.int (offPk (1 : Int32) (hr &&& (31 : Int32)))), .val (.long ((hr &&& (31 : Int32)).toInt64 - (8 : Int64))), .second, .unset] [(.long ((hr &&& (31 : Int32)).toInt64 - (8 : Int64)))]))
        refine Goes.via (fun _ k => Xq36.ldc2J hx hown (mvT hZ (W_20 hw)) (g := (mkF m 68 #[.val (.int flag), .val (.int hr), .val (.int (1 : Int32)), .val (.int (hr &&& (31 : Int32))), .val (.int (inPk (1 : Int32) (hr &&& (31 : Int32)))), .val (.int (offPk (1 : Int32) (hr &&& (31 : Int32)))), .val (.long ((hr &&& (31 : Int32)).toInt64 - (8 : Int64))), .second, .unset] [(.long ((hr &&& (31 : Int32)).toInt64 - (8 : Int64)))])) rfl (hb hby at_68) k) ?_
        show Goes _ _ _ _ _ _ _ _ (Tq36.setTop (mkF m 71 #[.val (.int flag), .val (.int hr), .val (.int (1 : Int32)), .val (.int (hr &&& (31 : Int32))), .val (.int (inPk (1 : Int32) (hr &&& (31 : Int32)))), .val (.int (offPk (1 : Int32) (hr &&& (31 : Int32)))), .val (.long ((hr &&& (31 : Int32)).toInt64 - (8 : Int64))), .second, .unset] [(.long (16 : Int64)), (.long ((hr &&& (31 : Int32)).toInt64 - (8 : Int64)))]))
        refine Goes.via (fun _ k => XT.lcmp Xq36.here hx rfl (hb hby at_71) rfl k) ?_
        show Goes _ _ _ _ _ _ _ _ (Tq36.setTop (mkF m 72 #[.val (.int flag), .val (.int hr), .val (.int (1 : Int32)), .val (.int (hr &&& (31 : Int32))), .val (.int (inPk (1 : Int32) (hr &&& (31 : Int32)))), .val (.int (offPk (1 : Int32) (hr &&& (31 : Int32)))), .val (.long ((hr &&& (31 : Int32)).toInt64 - (8 : Int64))), .second, .unset] [(.int (XT.cmpL ((hr &&& (31 : Int32)).toInt64 - (8 : Int64)) (16 : Int64)))]))
        by_cases cq39 : ((hr &&& (31 : Int32)).toInt64 - (8 : Int64)) < (16 : Int64)
        · skip
          refine Goes.via (fun _ k => XS.ifNo Xq36.here hx rfl (hb hby at_72) rfl (XT.ll_ge_f cq39) k) ?_
          show Goes _ _ _ _ _ _ _ _ (Tq36.setTop (mkF m 75 #[.val (.int flag), .val (.int hr), .val (.int (1 : Int32)), .val (.int (hr &&& (31 : Int32))), .val (.int (inPk (1 : Int32) (hr &&& (31 : Int32)))), .val (.int (offPk (1 : Int32) (hr &&& (31 : Int32)))), .val (.long ((hr &&& (31 : Int32)).toInt64 - (8 : Int64))), .second, .unset] []))
          refine Goes.via (fun _ k => XT.iconstV Xq36.here hx rfl (1 : Int32) (hb hby at_75) (by decide) k) ?_
          show Goes _ _ _ _ _ _ _ _ (Tq36.setTop (mkF m 76 #[.val (.int flag), .val (.int hr), .val (.int (1 : Int32)), .val (.int (hr &&& (31 : Int32))), .val (.int (inPk (1 : Int32) (hr &&& (31 : Int32)))), .val (.int (offPk (1 : Int32) (hr &&& (31 : Int32)))), .val (.long ((hr &&& (31 : Int32)).toInt64 - (8 : Int64))), .second, .unset] [(.int (1 : Int32))]))
          refine Goes.via (fun _ k => XS.goto Xq36.here hx rfl (pc0 := 76) (pc' := 80) rfl (hb hby at_76) (by decide) (by decide) k) ?_
          show Goes _ _ _ _ _ _ _ _ (Tq36.setTop (mkF m 80 #[.val (.int flag), .val (.int hr), .val (.int (1 : Int32)), .val (.int (hr &&& (31 : Int32))), .val (.int (inPk (1 : Int32) (hr &&& (31 : Int32)))), .val (.int (offPk (1 : Int32) (hr &&& (31 : Int32)))), .val (.long ((hr &&& (31 : Int32)).toInt64 - (8 : Int64))), .second, .unset] [(.int (1 : Int32))]))
          refine Goes.via (fun _ k => XS.istore Xq36.here hx rfl (hb hby at_80) rfl (l' := #[.val (.int flag), .val (.int hr), .val (.int (1 : Int32)), .val (.int (hr &&& (31 : Int32))), .val (.int (inPk (1 : Int32) (hr &&& (31 : Int32)))), .val (.int (offPk (1 : Int32) (hr &&& (31 : Int32)))), .val (.long ((hr &&& (31 : Int32)).toInt64 - (8 : Int64))), .second, .val (.int (1 : Int32))]) rfl k) ?_
          show Goes _ _ _ _ _ _ _ _ (Tq36.setTop (mkF m 82 #[.val (.int flag), .val (.int hr), .val (.int (1 : Int32)), .val (.int (hr &&& (31 : Int32))), .val (.int (inPk (1 : Int32) (hr &&& (31 : Int32)))), .val (.int (offPk (1 : Int32) (hr &&& (31 : Int32)))), .val (.long ((hr &&& (31 : Int32)).toInt64 - (8 : Int64))), .second, .val (.int (1 : Int32))] []))
          refine Goes.via (fun _ k => XS.iload Xq36.here hx rfl (hb hby at_82) rfl k) ?_
          show Goes _ _ _ _ _ _ _ _ (Tq36.setTop (mkF m 84 #[.val (.int flag), .val (.int hr), .val (.int (1 : Int32)), .val (.int (hr &&& (31 : Int32))), .val (.int (inPk (1 : Int32) (hr &&& (31 : Int32)))), .val (.int (offPk (1 : Int32) (hr &&& (31 : Int32)))), .val (.long ((hr &&& (31 : Int32)).toInt64 - (8 : Int64))), .second, .val (.int (1 : Int32))] [(.int (inPk (1 : Int32) (hr &&& (31 : Int32))))]))
          refine Goes.via (fun _ k => XS.iload Xq36.here hx rfl (hb hby at_84) rfl k) ?_
          show Goes _ _ _ _ _ _ _ _ (Tq36.setTop (mkF m 86 #[.val (.int flag), .val (.int hr), .val (.int (1 : Int32)), .val (.int (hr &&& (31 : Int32))), .val (.int (inPk (1 : Int32) (hr &&& (31 : Int32)))), .val (.int (offPk (1 : Int32) (hr &&& (31 : Int32)))), .val (.long ((hr &&& (31 : Int32)).toInt64 - (8 : Int64))), .second, .val (.int (1 : Int32))] [(.int (1 : Int32)), (.int (inPk (1 : Int32) (hr &&& (31 : Int32))))]))
          refine Goes.via (fun _ k => XS.icmpNo Xq36.here hx rfl (hb hby at_86) rfl (XT.ii_ne_f (pk_in cq38 cq39)) k) ?_
          show Goes _ _ _ _ _ _ _ _ (Tq36.setTop (mkF m 89 #[.val (.int flag), .val (.int hr), .val (.int (1 : Int32)), .val (.int (hr &&& (31 : Int32))), .val (.int (inPk (1 : Int32) (hr &&& (31 : Int32)))), .val (.int (offPk (1 : Int32) (hr &&& (31 : Int32)))), .val (.long ((hr &&& (31 : Int32)).toInt64 - (8 : Int64))), .second, .val (.int (1 : Int32))] []))
          refine Goes.via (fun _ k => XS.iload Xq36.here hx rfl (hb hby at_89) rfl k) ?_
          show Goes _ _ _ _ _ _ _ _ (Tq36.setTop (mkF m 91 #[.val (.int flag), .val (.int hr), .val (.int (1 : Int32)), .val (.int (hr &&& (31 : Int32))), .val (.int (inPk (1 : Int32) (hr &&& (31 : Int32)))), .val (.int (offPk (1 : Int32) (hr &&& (31 : Int32)))), .val (.long ((hr &&& (31 : Int32)).toInt64 - (8 : Int64))), .second, .val (.int (1 : Int32))] [(.int (offPk (1 : Int32) (hr &&& (31 : Int32))))]))
          refine Goes.via (fun _ k => XS.iload Xq36.here hx rfl (hb hby at_91) rfl k) ?_
          show Goes _ _ _ _ _ _ _ _ (Tq36.setTop (mkF m 93 #[.val (.int flag), .val (.int hr), .val (.int (1 : Int32)), .val (.int (hr &&& (31 : Int32))), .val (.int (inPk (1 : Int32) (hr &&& (31 : Int32)))), .val (.int (offPk (1 : Int32) (hr &&& (31 : Int32)))), .val (.long ((hr &&& (31 : Int32)).toInt64 - (8 : Int64))), .second, .val (.int (1 : Int32))] [(.int (inPk (1 : Int32) (hr &&& (31 : Int32)))), (.int (offPk (1 : Int32) (hr &&& (31 : Int32))))]))
          refine Goes.via (fun _ k => XS.icmpNo Xq36.here hx rfl (hb hby at_93) rfl (XT.ii_eq_f (by unfold offPk; rw [(pk_in cq38 cq39)]; decide)) k) ?_
          show Goes _ _ _ _ _ _ _ _ (Tq36.setTop (mkF m 96 #[.val (.int flag), .val (.int hr), .val (.int (1 : Int32)), .val (.int (hr &&& (31 : Int32))), .val (.int (inPk (1 : Int32) (hr &&& (31 : Int32)))), .val (.int (offPk (1 : Int32) (hr &&& (31 : Int32)))), .val (.long ((hr &&& (31 : Int32)).toInt64 - (8 : Int64))), .second, .val (.int (1 : Int32))] []))
          refine Goes.via (fun _ k => XT.iconstV Xq36.here hx rfl (1 : Int32) (hb hby at_96) (by decide) k) ?_
          show Goes _ _ _ _ _ _ _ _ (Tq36.setTop (mkF m 97 #[.val (.int flag), .val (.int hr), .val (.int (1 : Int32)), .val (.int (hr &&& (31 : Int32))), .val (.int (inPk (1 : Int32) (hr &&& (31 : Int32)))), .val (.int (offPk (1 : Int32) (hr &&& (31 : Int32)))), .val (.long ((hr &&& (31 : Int32)).toInt64 - (8 : Int64))), .second, .val (.int (1 : Int32))] [(.int (1 : Int32))]))
          refine Goes.via (fun _ k => XS.goto Xq36.here hx rfl (pc0 := 97) (pc' := 101) rfl (hb hby at_97) (by decide) (by decide) k) ?_
          show Goes _ _ _ _ _ _ _ _ (Tq36.setTop (mkF m 101 #[.val (.int flag), .val (.int hr), .val (.int (1 : Int32)), .val (.int (hr &&& (31 : Int32))), .val (.int (inPk (1 : Int32) (hr &&& (31 : Int32)))), .val (.int (offPk (1 : Int32) (hr &&& (31 : Int32)))), .val (.long ((hr &&& (31 : Int32)).toInt64 - (8 : Int64))), .second, .val (.int (1 : Int32))] [(.int (1 : Int32))]))
          refine goRetN Xq36 hx hrt (by simp) hlk Nq36 (by decide) (by decide) (hb hby at_101) ?_
          try rw [pq36_0]
          exact rfl
        · skip
          refine Goes.via (fun _ k => XS.ifYes Xq36.here hx rfl (pc0 := 72) (pc' := 79) rfl (hb hby at_72) rfl (XT.ll_ge_t cq39) (by decide) (by decide) k) ?_
          show Goes _ _ _ _ _ _ _ _ (Tq36.setTop (mkF m 79 #[.val (.int flag), .val (.int hr), .val (.int (1 : Int32)), .val (.int (hr &&& (31 : Int32))), .val (.int (inPk (1 : Int32) (hr &&& (31 : Int32)))), .val (.int (offPk (1 : Int32) (hr &&& (31 : Int32)))), .val (.long ((hr &&& (31 : Int32)).toInt64 - (8 : Int64))), .second, .unset] []))
          refine Goes.via (fun _ k => XT.iconstV Xq36.here hx rfl (0 : Int32) (hb hby at_79) (by decide) k) ?_
          show Goes _ _ _ _ _ _ _ _ (Tq36.setTop (mkF m 80 #[.val (.int flag), .val (.int hr), .val (.int (1 : Int32)), .val (.int (hr &&& (31 : Int32))), .val (.int (inPk (1 : Int32) (hr &&& (31 : Int32)))), .val (.int (offPk (1 : Int32) (hr &&& (31 : Int32)))), .val (.long ((hr &&& (31 : Int32)).toInt64 - (8 : Int64))), .second, .unset] [(.int (0 : Int32))]))
          refine Goes.via (fun _ k => XS.istore Xq36.here hx rfl (hb hby at_80) rfl (l' := #[.val (.int flag), .val (.int hr), .val (.int (1 : Int32)), .val (.int (hr &&& (31 : Int32))), .val (.int (inPk (1 : Int32) (hr &&& (31 : Int32)))), .val (.int (offPk (1 : Int32) (hr &&& (31 : Int32)))), .val (.long ((hr &&& (31 : Int32)).toInt64 - (8 : Int64))), .second, .val (.int (0 : Int32))]) rfl k) ?_
          show Goes _ _ _ _ _ _ _ _ (Tq36.setTop (mkF m 82 #[.val (.int flag), .val (.int hr), .val (.int (1 : Int32)), .val (.int (hr &&& (31 : Int32))), .val (.int (inPk (1 : Int32) (hr &&& (31 : Int32)))), .val (.int (offPk (1 : Int32) (hr &&& (31 : Int32)))), .val (.long ((hr &&& (31 : Int32)).toInt64 - (8 : Int64))), .second, .val (.int (0 : Int32))] []))
          refine Goes.via (fun _ k => XS.iload Xq36.here hx rfl (hb hby at_82) rfl k) ?_
          show Goes _ _ _ _ _ _ _ _ (Tq36.setTop (mkF m 84 #[.val (.int flag), .val (.int hr), .val (.int (1 : Int32)), .val (.int (hr &&& (31 : Int32))), .val (.int (inPk (1 : Int32) (hr &&& (31 : Int32)))), .val (.int (offPk (1 : Int32) (hr &&& (31 : Int32)))), .val (.long ((hr &&& (31 : Int32)).toInt64 - (8 : Int64))), .second, .val (.int (0 : Int32))] [(.int (inPk (1 : Int32) (hr &&& (31 : Int32))))]))
          refine Goes.via (fun _ k => XS.iload Xq36.here hx rfl (hb hby at_84) rfl k) ?_
          show Goes _ _ _ _ _ _ _ _ (Tq36.setTop (mkF m 86 #[.val (.int flag), .val (.int hr), .val (.int (1 : Int32)), .val (.int (hr &&& (31 : Int32))), .val (.int (inPk (1 : Int32) (hr &&& (31 : Int32)))), .val (.int (offPk (1 : Int32) (hr &&& (31 : Int32)))), .val (.long ((hr &&& (31 : Int32)).toInt64 - (8 : Int64))), .second, .val (.int (0 : Int32))] [(.int (0 : Int32)), (.int (inPk (1 : Int32) (hr &&& (31 : Int32))))]))
          refine Goes.via (fun _ k => XS.icmpNo Xq36.here hx rfl (hb hby at_86) rfl (XT.ii_ne_f (pk_hi cq39)) k) ?_
          show Goes _ _ _ _ _ _ _ _ (Tq36.setTop (mkF m 89 #[.val (.int flag), .val (.int hr), .val (.int (1 : Int32)), .val (.int (hr &&& (31 : Int32))), .val (.int (inPk (1 : Int32) (hr &&& (31 : Int32)))), .val (.int (offPk (1 : Int32) (hr &&& (31 : Int32)))), .val (.long ((hr &&& (31 : Int32)).toInt64 - (8 : Int64))), .second, .val (.int (0 : Int32))] []))
          refine Goes.via (fun _ k => XS.iload Xq36.here hx rfl (hb hby at_89) rfl k) ?_
          show Goes _ _ _ _ _ _ _ _ (Tq36.setTop (mkF m 91 #[.val (.int flag), .val (.int hr), .val (.int (1 : Int32)), .val (.int (hr &&& (31 : Int32))), .val (.int (inPk (1 : Int32) (hr &&& (31 : Int32)))), .val (.int (offPk (1 : Int32) (hr &&& (31 : Int32)))), .val (.long ((hr &&& (31 : Int32)).toInt64 - (8 : Int64))), .second, .val (.int (0 : Int32))] [(.int (offPk (1 : Int32) (hr &&& (31 : Int32))))]))
          refine Goes.via (fun _ k => XS.iload Xq36.here hx rfl (hb hby at_91) rfl k) ?_
          show Goes _ _ _ _ _ _ _ _ (Tq36.setTop (mkF m 93 #[.val (.int flag), .val (.int hr), .val (.int (1 : Int32)), .val (.int (hr &&& (31 : Int32))), .val (.int (inPk (1 : Int32) (hr &&& (31 : Int32)))), .val (.int (offPk (1 : Int32) (hr &&& (31 : Int32)))), .val (.long ((hr &&& (31 : Int32)).toInt64 - (8 : Int64))), .second, .val (.int (0 : Int32))] [(.int (inPk (1 : Int32) (hr &&& (31 : Int32)))), (.int (offPk (1 : Int32) (hr &&& (31 : Int32))))]))
          refine Goes.via (fun _ k => XS.icmpNo Xq36.here hx rfl (hb hby at_93) rfl (XT.ii_eq_f (by unfold offPk; rw [(pk_hi cq39)]; decide)) k) ?_
          show Goes _ _ _ _ _ _ _ _ (Tq36.setTop (mkF m 96 #[.val (.int flag), .val (.int hr), .val (.int (1 : Int32)), .val (.int (hr &&& (31 : Int32))), .val (.int (inPk (1 : Int32) (hr &&& (31 : Int32)))), .val (.int (offPk (1 : Int32) (hr &&& (31 : Int32)))), .val (.long ((hr &&& (31 : Int32)).toInt64 - (8 : Int64))), .second, .val (.int (0 : Int32))] []))
          refine Goes.via (fun _ k => XT.iconstV Xq36.here hx rfl (1 : Int32) (hb hby at_96) (by decide) k) ?_
          show Goes _ _ _ _ _ _ _ _ (Tq36.setTop (mkF m 97 #[.val (.int flag), .val (.int hr), .val (.int (1 : Int32)), .val (.int (hr &&& (31 : Int32))), .val (.int (inPk (1 : Int32) (hr &&& (31 : Int32)))), .val (.int (offPk (1 : Int32) (hr &&& (31 : Int32)))), .val (.long ((hr &&& (31 : Int32)).toInt64 - (8 : Int64))), .second, .val (.int (0 : Int32))] [(.int (1 : Int32))]))
          refine Goes.via (fun _ k => XS.goto Xq36.here hx rfl (pc0 := 97) (pc' := 101) rfl (hb hby at_97) (by decide) (by decide) k) ?_
          show Goes _ _ _ _ _ _ _ _ (Tq36.setTop (mkF m 101 #[.val (.int flag), .val (.int hr), .val (.int (1 : Int32)), .val (.int (hr &&& (31 : Int32))), .val (.int (inPk (1 : Int32) (hr &&& (31 : Int32)))), .val (.int (offPk (1 : Int32) (hr &&& (31 : Int32)))), .val (.long ((hr &&& (31 : Int32)).toInt64 - (8 : Int64))), .second, .val (.int (0 : Int32))] [(.int (1 : Int32))]))
          refine goRetN Xq36 hx hrt (by simp) hlk Nq36 (by decide) (by decide) (hb hby at_101) ?_
          try rw [pq36_0]
          exact rfl
set_option maxRecDepth 65536 in
set_option maxHeartbeats 40000000 in
theorem comes_1 {Post : Tables → Env → Array Value → State → Outcome → State → Prop} (hpost : ∀ tb e args s v u, (limb_1_1.after args s (.returned v) u = true ∧ limb_1_2.after args s (.returned v) u = true ∧ True) → FrameEnd s (.returned v) u (Jvm.fieldLocs frame_1_writes args s ++ Jvm.arrayLocs frame_1_arrays args s ++ Jvm.staticLocs frame_1_statics s) 0 0 → Post tb e args s (.returned v) u) :
    ArmFor flags0 classFile x code maxLocals ret World_1 tables_1 room_1 Calls_1 rest_1 Pre_1 Post := by
  intro l hfl _ _ p e ha hc hk s m args below hf hA hF happ hP
  obtain ⟨hcalls, hrest, hpre⟩ := hP
  obtain ⟨-, -, -, hnamed, -, -, -, hat⟩ := (Spec.applies_iff hf).mp happ
  obtain ⟨hg, hn⟩ := and_e (Cond.before_iff.mp (show (Jvm.Cond.and given_1 narrow_1).before args s = true from hpre))
  obtain ⟨hcnt, ha0⟩ := and_e hg
  obtain ⟨hk0, ha1⟩ := and_e ha0
  have hk1 := ha1
  obtain ⟨w0, w1, rfl⟩ : ∃ w0 w1 : Value, args = #[w0, w1] := by
    have hs : args.size = 2 := by simpa [Cond.value, given_1] using hcnt
    obtain ⟨L⟩ := args
    match L, hs with
    | [w0, w1], _ => exact ⟨w0, w1, rfl⟩
  have hw := fun d (hd : d ∈ tables_1) => atoms_spec (ws := Jvm.Cond.code x code maxLocals ret :: tables_1) hat d (List.mem_cons_of_mem _ hd)
  have hfit : Fit s := fun {y c} hc i hi => by
    obtain ⟨ha, rfl⟩ := Array.getElem?_eq_some_iff.mp hc
    have q := List.all_eq_true.mp ((Array.all_eq_true_iff_forall_mem.mp hF) _ (Array.getElem_mem ha)) i (List.mem_range.mpr hi)
    simpa [Array.getElem?_eq_getElem hi] using q
  obtain ⟨i0, ei0⟩ := is_v hk0
  obtain rfl : w0 = (.int i0) := Option.some.inj ei0
  obtain ⟨i1, ei1⟩ := is_v hk1
  obtain rfl : w1 = (.int i1) := Option.some.inj ei1
  obtain ⟨nr0, hn0⟩ := and_e hn
  obtain ⟨nr1, hn1⟩ := and_e hn0
  obtain ⟨nr2, hn2⟩ := and_e hn1
  have nr3 := hn2
  obtain ⟨a0p, ea0⟩ := exa_v nr0
  have E0 := Exa.start ea0 nr0
  have S0 := Sta.start ea0 (Or.inr ⟨(W_1 hw), (W_2 hw)⟩)
  have F0 := Fld.start ((fld_at ea0).symm.trans (eq_int nr1))
  obtain ⟨a1p, ea1⟩ := exa_v nr2
  have E1 := Exa.start ea1 nr2
  have S1 := Sta.start ea1 (Or.inr ⟨(W_1 hw), (W_18 hw)⟩)
  have F1 := Fld.start ((fld_at ea1).symm.trans (eq_int nr3))
  obtain ⟨n, o, h1, h2, h3, _, L, rfl, ⟨rfl, N⟩, hq⟩ := law l s _ hw i0 i1 a0p a1p (Old.start s) S0 E0 F0 S1 E1 F1 tables_1 p e ha hc hk s m _ below hf ((Spec.applies_iff_loose hf).mp happ).1 ⟨rfl, State.Warmed39.refl s, rfl⟩ trivial
  refine ⟨n, _, h1, h2, h3, hpost _ _ _ _ _ _ ⟨Cond.after_iff.mpr rfl, Cond.after_iff.mpr (eq_i res_at (Term.int_eval (1)) rfl), trivial⟩ ⟨hq.1, hq.2.1, (hq.2.2.sift fun y hy => Or.inr (N y hy)).mono (by decide) (by decide)⟩⟩
theorem main_1_1 : Claimed_1_1 := comes_1 fun _ _ _ _ _ _ h hF => ⟨h.1, hF⟩
theorem main_1_2 : Claimed_1_2 := comes_1 fun _ _ _ _ _ _ h hF => ⟨h.2.1, hF⟩

end Jvm.Pilot.@@N@@
namespace Jvm.Pilot.@@N@@
open Jvm Jvm.ClassFile Sem Op Lib Jvm.Free Jvm.Stand Jvm.Pilot.@@N@@.Jvm.D
/-! MADE BY PROGRAM (witnessworld.py) out of the Statement's table words and the real class files: 10 classes; the members and pool entries that the words name. The judged class is class 1, her method 1. -/
namespace start1
open Jvm.ClassFile
def u (s : String) : CpInfo := .utf8 (stringToUtf16 s)
/-- a pool by its gaps: so many unusable entries, then the entry; so many at the end -/
def gap : Nat → List CpInfo → List CpInfo
  | 0, r => r
  | n + 1, r => .unusable :: gap n r
def poolList (es : List (Nat × CpInfo)) (last : Nat) : List CpInfo := es.foldr (fun e r => gap e.1 (e.2 :: r)) (gap last [])
def pool (es : List (Nat × CpInfo)) (last : Nat) : Array CpInfo := ⟨poolList es last⟩
def fileOf (pool : Array CpInfo) (this : Nat) (attrs : Array Attribute := #[]) (ms : Array MethodInfo := #[]) (fl : Nat := 33) (sup : Nat := 0) (ifs : Array Nat := #[]) (fds : Array FieldInfo := #[]) : ClassFile where
  minorVersion := 0
  majorVersion := 65
  constantPool := pool
  accessFlags := fl
  thisClass := this
  superClass := sup
  interfaces := ifs
  fields := fds
  methods := ms
  attributes := attrs
def plain (name : String) (sup : Option ClassId) : Class where
  name := name
  kind := .ordinary
  loader := none
  accessFlags := 33
  super := sup
  interfaces := #[]
  cf := none
  fields := #[]
  methods := #[]
  instanceTypes := #[]
  staticTypes := #[]
  resolved := #[]
  callSites := []
  init := .initialized
  statics := none
  mirror := none

def pool0 : Array CpInfo := pool [(5, u "<init>"), (0, u "()V"), (1, .class_ 10), (1, u "java/lang/Object")] 113

def k0m0 : Method := { name := "<init>", desc := "()V", sig := { parameters := [], returnType := none }, accessFlags := 1, code := none }
/-- java/lang/Object -/
def k0 : Class := { plain "java/lang/Object" none with
  accessFlags := 33
  interfaces := #[]
  cf := some (fileOf pool0 8 #[] #[{ accessFlags := 1, nameIndex := 5, descriptorIndex := 6, attributes := #[] }] 33 0 #[] #[])
  fields := #[]
  methods := #[k0m0]
  instanceTypes := #[]
  staticTypes := #[]
  resolved := Array.replicate 124 none
  statics := none }

def pool1 : Array CpInfo := pool [(2, .class_ 4), (1, u "java/lang/Object"), (0, u "<init>"), (0, u "()V"), (0, .fieldref 8 9), (0, .class_ 10), (0, .nameAndType 11 12), (0, u "com/example/zonetally/zonetally/HourBlock"), (0, u "PEAK"), (0, u "Lcom/example/zonetally/zonetally/HourBlock;"), (0, .methodref 8 14), (0, .nameAndType 15 16), (0, u "contains"), (0, u "(ZI)Z"), (0, .fieldref 8 18), (0, .nameAndType 19 12), (0, u "OFF_PEAK"), (0, .long 8), (1, .long 16), (1, .class_ 25), (0, u "com/example/zonetally/zonetally/HourBlockContainsPinLaw"), (2, u "law"), (0, u "(II)Z")] 3

def k1m0 : Method := { name := "<init>", desc := "()V", sig := { parameters := [], returnType := none }, accessFlags := 2, code := none }
def k1c1 : Code := { maxStack := 4, maxLocals := 9, code := code, exceptionTable := #[], attributes := #[] }
def k1m1 : Method := { name := "law", desc := "(II)Z", sig := { parameters := [.int, .int], returnType := some .boolean }, accessFlags := 9, code := some k1c1 }
/-- com/example/zonetally/zonetally/HourBlockContainsPinLaw -/
def k1 : Class := { plain "com/example/zonetally/zonetally/HourBlockContainsPinLaw" (some 0) with
  accessFlags := 49
  interfaces := #[]
  cf := some (fileOf pool1 24 #[] #[{ accessFlags := 2, nameIndex := 5, descriptorIndex := 6, attributes := #[] }, { accessFlags := 9, nameIndex := 28, descriptorIndex := 29, attributes := #[] }] 49 2 #[] #[])
  fields := #[]
  methods := #[k1m0, k1m1]
  instanceTypes := #[]
  staticTypes := #[]
  resolved := Array.replicate 33 none
  statics := none }

def pool2 : Array CpInfo := pool [(1, .class_ 2), (0, u "java/lang/constant/Constable"), (0, .class_ 4), (0, u "java/lang/Object")] 6

/-- java/lang/constant/Constable -/
def k2 : Class := { plain "java/lang/constant/Constable" (some 0) with
  accessFlags := 1537
  interfaces := #[]
  cf := some (fileOf pool2 1 #[] #[] 1537 3 #[] #[])
  fields := #[]
  methods := #[]
  instanceTypes := #[]
  staticTypes := #[]
  resolved := Array.replicate 11 none
  statics := none }

def pool3 : Array CpInfo := pool [(1, .class_ 2), (0, u "java/lang/Comparable"), (0, .class_ 4), (0, u "java/lang/Object")] 7

/-- java/lang/Comparable -/
def k3 : Class := { plain "java/lang/Comparable" (some 0) with
  accessFlags := 1537
  interfaces := #[]
  cf := some (fileOf pool3 1 #[] #[] 1537 3 #[] #[])
  fields := #[]
  methods := #[]
  instanceTypes := #[]
  staticTypes := #[]
  resolved := Array.replicate 12 none
  statics := none }

def pool4 : Array CpInfo := pool [(1, .class_ 2), (0, u "java/io/Serializable"), (0, .class_ 4), (0, u "java/lang/Object")] 2

/-- java/io/Serializable -/
def k4 : Class := { plain "java/io/Serializable" (some 0) with
  accessFlags := 1537
  interfaces := #[]
  cf := some (fileOf pool4 1 #[] #[] 1537 3 #[] #[])
  fields := #[]
  methods := #[]
  instanceTypes := #[]
  staticTypes := #[]
  resolved := Array.replicate 7 none
  statics := none }

def pool5 : Array CpInfo := pool [(2, .class_ 4), (1, u "java/lang/Enum"), (0, u "name"), (0, u "Ljava/lang/String;"), (0, .fieldref 2 8), (0, .nameAndType 9 10), (0, u "ordinal"), (0, u "I"), (1, .class_ 14), (1, u "java/lang/Object"), (4, u "hash"), (86, .class_ 108), (1, u "java/lang/Enum$EnumDesc"), (2, .class_ 112), (0, u "java/lang/constant/Constable"), (0, .class_ 114), (0, u "java/lang/Comparable"), (0, .class_ 116), (0, u "java/io/Serializable"), (9, u "()I")] 77

def k5c0 : Code := { maxStack := 1, maxLocals := 1, code := jdk_37_method_2_code, exceptionTable := #[], attributes := #[] }
def k5m0 : Method := { name := "ordinal", desc := "()I", sig := { parameters := [], returnType := some .int }, accessFlags := 17, code := some k5c0 }
/-- java/lang/Enum -/
def k5 : Class := { plain "java/lang/Enum" (some 0) with
  accessFlags := 1057
  interfaces := #[2, 3, 4]
  cf := some (fileOf pool5 2 #[.nestMembers #[106]] #[{ accessFlags := 17, nameIndex := 9, descriptorIndex := 126, attributes := #[] }] 1057 12 #[111, 113, 115] #[{ accessFlags := 18, nameIndex := 5, descriptorIndex := 6, attributes := #[] }, { accessFlags := 18, nameIndex := 9, descriptorIndex := 10, attributes := #[] }, { accessFlags := 2, nameIndex := 19, descriptorIndex := 10, attributes := #[] }])
  fields := #[{ name := "name", type := (.object "java/lang/String"), accessFlags := 18, slot := 0, constantValue := 0 }, { name := "ordinal", type := .int, accessFlags := 18, slot := 1, constantValue := 0 }, { name := "hash", type := .int, accessFlags := 2, slot := 2, constantValue := 0 }]
  methods := #[k5m0]
  instanceTypes := #[(.object "java/lang/String"), .int, .int]
  staticTypes := #[]
  resolved := Array.replicate 204 none
  statics := none }

def pool6 : Array CpInfo := pool [(1, .class_ 2), (0, u "com/example/zonetally/zonetally/HourBlock"), (2, u "PEAK"), (0, u "Lcom/example/zonetally/zonetally/HourBlock;"), (2, u "OFF_PEAK"), (2, u "$VALUES"), (0, u "[Lcom/example/zonetally/zonetally/HourBlock;"), (6, .class_ 22), (1, u "java/lang/Enum"), (19, u "()I"), (2, u "contains"), (0, u "(ZI)Z"), (0, .methodref 1 48), (0, .nameAndType 49 42), (0, u "ordinal"), (7, u "HOURS_OF_A_WHOLE_DAY"), (0, u "[[I"), (34, u "HOURS_A_DAY"), (0, u "I")] 18

def k6c0 : Code := { maxStack := 4, maxLocals := 4, code := prog_20_method_5_code, exceptionTable := #[], attributes := #[] }
def k6m0 : Method := { name := "contains", desc := "(ZI)Z", sig := { parameters := [.boolean, .int], returnType := some .boolean }, accessFlags := 0, code := some k6c0 }
/-- com/example/zonetally/zonetally/HourBlock -/
def k6 : Class := { plain "com/example/zonetally/zonetally/HourBlock" (some 5) with
  accessFlags := 16433
  interfaces := #[]
  cf := some (fileOf pool6 1 #[] #[{ accessFlags := 0, nameIndex := 45, descriptorIndex := 46, attributes := #[] }] 16433 20 #[] #[{ accessFlags := 16409, nameIndex := 5, descriptorIndex := 6, attributes := #[] }, { accessFlags := 16409, nameIndex := 9, descriptorIndex := 6, attributes := #[] }, { accessFlags := 26, nameIndex := 93, descriptorIndex := 94, attributes := #[] }, { accessFlags := 26, nameIndex := 57, descriptorIndex := 58, attributes := #[] }, { accessFlags := 4122, nameIndex := 12, descriptorIndex := 13, attributes := #[] }])
  fields := #[{ name := "PEAK", type := (.object "com/example/zonetally/zonetally/HourBlock"), accessFlags := 16409, slot := 0, constantValue := 0 }, { name := "OFF_PEAK", type := (.object "com/example/zonetally/zonetally/HourBlock"), accessFlags := 16409, slot := 1, constantValue := 0 }, { name := "HOURS_A_DAY", type := .int, accessFlags := 26, slot := 2, constantValue := 0 }, { name := "HOURS_OF_A_WHOLE_DAY", type := (.array (.array .int)), accessFlags := 26, slot := 3, constantValue := 0 }, { name := "$VALUES", type := (.array (.object "com/example/zonetally/zonetally/HourBlock")), accessFlags := 4122, slot := 4, constantValue := 0 }]
  methods := #[k6m0]
  instanceTypes := #[(.object "java/lang/String"), .int, .int]
  staticTypes := #[(.object "com/example/zonetally/zonetally/HourBlock"), (.object "com/example/zonetally/zonetally/HourBlock"), .int, (.array (.array .int)), (.array (.object "com/example/zonetally/zonetally/HourBlock"))]
  resolved := Array.replicate 113 none
  statics := some 0 }

def pool7 : Array CpInfo := pool [(1, u "java/lang/Cloneable"), (0, .class_ 1), (0, u "java/lang/Object"), (0, .class_ 3)] 3

/-- java/lang/Cloneable -/
def k7 : Class := { plain "java/lang/Cloneable" (some 0) with
  accessFlags := 1537
  interfaces := #[]
  cf := some (fileOf pool7 2 #[] #[] 1537 4 #[] #[])
  fields := #[]
  methods := #[]
  instanceTypes := #[]
  staticTypes := #[]
  resolved := Array.replicate 8 none
  statics := none }

/-- the primitive byte -/
def k8 : Class := { plain "byte" none with kind := .primitive 'B', accessFlags := 0x411 }
/-- [B -/
def k9 : Class := { plain "[B" (some 0) with kind := .array 8 .byte, interfaces := #[7, 4], accessFlags := 1041 }

def heap : Heap := #[{ cls := 6, slots := #[.ref 1, .ref 2, .int 0, .null, .null], vm := .statics 6 },
  { cls := 6, slots := #[.null, .int 0, .int 0], vm := .none },
  { cls := 6, slots := #[.null, .int 1, .int 0], vm := .none }]
def classes : Array Class := #[k0, k1, k2, k3, k4, k5, k6, k7, k8, k9]
def interned : List (Array UInt16 × Addr) := []
def slotsUsed : Nat := 11
def theMethod : MethodId := ⟨1, 1⟩
def args0 : Array Value := #[.int 5, .int 9]
def aboutOver (below : List Frame) : State where
  vm := { classes := classes, interned := interned.toArray }
  heap := heap
  slotsUsed := slotsUsed
  threads := #[{ frames := .invoking theMethod args0 :: below }]
def below0 : List Frame := [.native { method := ⟨0, 0⟩, args := #[] }]
def about1 : State := aboutOver below0
def p0 : Program := .bare "" "" ""
def e0 : Env := launch0.env 0 0 0
theorem w_frames : about1.frames = Frame.invoking theMethod args0 :: below0 := rfl
set_option maxRecDepth 65536 in
theorem w_args : argsFit about1.vm theMethod args0 = true := by decide +kernel
set_option maxRecDepth 65536 in
theorem w_heap : heapFits about1 = true := by decide +kernel
set_option maxRecDepth 65536 in
theorem w_runnable : about1.curStatus? = some .runnable := by decide +kernel
set_option maxRecDepth 65536 in
theorem w_alone : about1.alone = true := by decide +kernel
set_option maxRecDepth 65536 in
theorem w_named : about1.methodNamed? x = some theMethod := by decide +kernel
set_option maxRecDepth 65536 in
theorem w_hears : about1.hears theMethod below0 = true := by decide +kernel
set_option maxRecDepth 65536 in
theorem w_ripe : about1.ripe theMethod args0 below0 = true := by decide +kernel
theorem w_running : about1.status = .running := rfl
set_option maxRecDepth 65536 in
theorem w_room : about1.hasRoom e0.platform room_1 = true :=
  launch0.hasRoom_least _ room_1 (by decide +kernel) (by decide +kernel) (by decide +kernel) (by decide +kernel) (by decide +kernel) (by decide +kernel)
theorem allAtoms_all (ts : List Jvm.Cond) (a : Array Jvm.Value) (st : Jvm.State) : (allAtoms ts).before a st = ts.all (fun c => c.before a st) := by
  induction ts with
  | nil => rfl
  | cons c t ih =>
    show (Jvm.Cond.and c (allAtoms t)).before a st = _
    rw [Jvm.Cond.before_and, ih, List.all_cons]
def words1 : List Jvm.Cond := Jvm.Cond.code x code maxLocals ret :: tables_1
/-- a 'code' word, met by the world's own term for the bytes: nothing is compared byte by byte -/
theorem code_word {y : MethodName} {bytes : ByteArray} {mx : Nat} {rt : Option FieldType} {a : Array Value} {s : State} {m : MethodId} {meth : Method} {c : Code} (h1 : s.methodNamed? y = some m) (h2 : s.vm.method? m = some meth) (h3 : meth.code = some c) (h4 : c.code = bytes)
    (h5 : (c.maxLocals == mx && c.exceptionTable.isEmpty && decide (c.maxStack ≤ mostOperands) && decide (meth.sig.returnType = rt) && !meth.locks && decide (parseMethodDescriptor y.desc = some meth.sig)) = true) : (Jvm.Cond.code y bytes mx rt).before a s = true := by
  simp only [Bool.and_eq_true, beq_iff_eq, Bool.not_eq_true', decide_eq_true_eq] at h5
  obtain ⟨⟨⟨⟨⟨g1, g2⟩, g3⟩, g4⟩, g5⟩, g6⟩ := h5
  simp [Cond.before, Cond.holds, Cond.value, h1, h2, h3, h4, g1, g2, g3, g4, g5, g6]
def isCode : Jvm.Cond → Bool
  | .code _ _ _ _ => true
  | _ => false
theorem all_split {L : List Jvm.Cond} {P : Jvm.Cond → Bool} (h1 : L.all (fun c => isCode c || P c) = true) (h2 : ∀ c ∈ L.filter isCode, P c = true) : L.all P = true := by
  refine List.all_eq_true.mpr fun c hc => ?_
  have h := List.all_eq_true.mp h1 c hc
  rcases Bool.eq_false_or_eq_true (isCode c) with hi | hi
  · exact h2 c (List.mem_filter.mpr ⟨hc, hi⟩)
  · simpa [hi] using h
set_option maxRecDepth 65536 in
theorem w_c0 : (Jvm.Cond.code x code maxLocals ret).before args0 about1 = true := code_word (m := ⟨1, 1⟩) (meth := k1m1) (c := k1c1) (by decide +kernel) rfl rfl rfl (by decide +kernel)
set_option maxRecDepth 65536 in
theorem w_c1 : (Jvm.Cond.code ({ cls := "com/example/zonetally/zonetally/HourBlock", name := "contains", desc := "(ZI)Z" } : Jvm.MethodName) prog_20_method_5_code (4 : Nat) (Option.some Jvm.ClassFile.FieldType.boolean)).before args0 about1 = true := code_word (m := ⟨6, 0⟩) (meth := k6m0) (c := k6c0) (by decide +kernel) rfl rfl rfl (by decide +kernel)
set_option maxRecDepth 65536 in
theorem w_c2 : (Jvm.Cond.code ({ cls := "java/lang/Enum", name := "ordinal", desc := "()I" } : Jvm.MethodName) jdk_37_method_2_code (1 : Nat) (Option.some Jvm.ClassFile.FieldType.int)).before args0 about1 = true := code_word (m := ⟨5, 0⟩) (meth := k5m0) (c := k5c0) (by decide +kernel) rfl rfl rfl (by decide +kernel)
def codes1 : List Jvm.Cond := [Jvm.Cond.code x code maxLocals ret, Jvm.Cond.code ({ cls := "com/example/zonetally/zonetally/HourBlock", name := "contains", desc := "(ZI)Z" } : Jvm.MethodName) prog_20_method_5_code (4 : Nat) (Option.some Jvm.ClassFile.FieldType.boolean), Jvm.Cond.code ({ cls := "java/lang/Enum", name := "ordinal", desc := "()I" } : Jvm.MethodName) jdk_37_method_2_code (1 : Nat) (Option.some Jvm.ClassFile.FieldType.int)]
set_option maxRecDepth 65536 in
theorem codes_eq : words1.filter isCode = codes1 := rfl
theorem w_codes : ∀ c ∈ words1.filter isCode, c.before args0 about1 = true := by
  rw [codes_eq]
  intro c hc
  simp only [codes1, List.mem_cons, List.not_mem_nil, or_false] at hc
  rcases hc with rfl | rfl | rfl
  · exact w_c0
  · exact w_c1
  · exact w_c2
set_option maxRecDepth 65536 in
theorem w_t1 : words1.all (fun c => isCode c || c.before args0 about1) = true := by decide +kernel
theorem w_tables : (allAtoms (Jvm.Cond.code x code maxLocals ret :: tables_1)).before args0 about1 = true := by
  rw [allAtoms_all]
  show words1.all (fun c => c.before args0 about1) = true
  refine all_split ?_ w_codes
  rw [w_t1]
set_option maxRecDepth 65536 in
theorem w_case : (Jvm.Cond.and given_1 narrow_1).before args0 about1 = true := by decide +kernel
theorem w_applies : (headSpec (Jvm.Cond.code x code maxLocals ret :: tables_1) room_1).applies x e0.platform about1 = true :=
  (Spec.applies_iff w_frames).mpr ⟨w_running, w_runnable, w_alone, w_named, w_hears, w_ripe, w_room, w_tables⟩
theorem atStart : AtStart classFile x code maxLocals ret World_1 tables_1 room_1 Calls_1 rest_1 Pre_1 launch0 p0 e0 about1 theMethod args0 below0 :=
  ⟨lists_1, trivial, launch0.admits_env _ _ _, launch0.least_env, fairChoices_fair.cas, fairChoices_fair.clock, w_frames, w_args, w_heap, w_applies, trivial, trivial, w_case⟩
end start1
theorem witness_1 : WitnessClaimed_1 := ⟨start1.p0, start1.e0, start1.about1, start1.theMethod, start1.args0, start1.below0, start1.atStart⟩
end Jvm.Pilot.@@N@@
