import JvmDerived
import JvmDerived.Pilot.@@N@@Statement
import JvmDerived.Pilot.@@N@@Code
set_option linter.unusedVariables false
set_option linter.unusedSimpArgs false
/-! the layer of this seat's own: a walk that ends well (Goes), contracts (MET), calls by them -/
namespace Jvm.RoadKit
open Sem ClassFile Op Lib Jvm.Stand Jvm.Free Jvm.LawKit
section OwnLayer
variable {p : Program} {l : Launch} {e : Env} {R : Room} {s : State} {m : MethodId} {args : Array Value} {below : List Frame} {meth : Method} {c : Code} {T : State} {locs : List Loc} {cells slots : Nat} {Z : State} {a0 : Array Value} {h : Heap} {kc ks n0 : Nat} {Q : Option Value → Heap → Prop} {A B : State}
/-- from S the run comes to the end of this invocation, and Q holds there -/
def Goes (p : Program) (e : Env) (below : List Frame) (s : State) (kc ks n0 : Nat) (Q : Option Value → Heap → Prop) (S : State) : Prop :=
  ∃ s₂ o, Steps p.tables e below S s₂ ∧ s₂.status = .running ∧ Ended s₂ below o ∧ ∃ v L, o = .returned v ∧ (Q v s₂.heap ∧ Fr n0 L) ∧ FrameEnd s o s₂ L kc ks
theorem Goes.via (h : ∀ t, Steps p.tables e below B t → Steps p.tables e below A t) (g : Goes p e below s kc ks n0 Q B) : Goes p e below s kc ks n0 Q A := by
  obtain ⟨s₂, o, h1, h2⟩ := g
  exact ⟨s₂, o, h _ h1, h2⟩
theorem Goes.fin (X : Stand p l e R s m args below meth c T locs cells slots) {v : Option Value} {g : JFrame} (hv : meth.sig.returnType = none → v = none) (hlk : meth.locks = false) (N : Fr n0 locs) (hc : cells ≤ kc) (hs : slots ≤ ks) (hq : Q v T.heap)
    (hr : ∀ fs, (∀ (f : JFrame) (acts : List Action), f.method = m → f.locked = none → f.entered = [] → (doReturn e (T.setTop f) acts v).1 = T.setFrames fs) → Steps p.tables e below (T.setTop g) (T.setFrames fs)) : Goes p e below s kc ks n0 Q (T.setTop g) := by
  obtain ⟨fs, hr', hrun, hended, hW, hsame⟩ := X.leave hv hlk
  exact ⟨_, _, hr fs hr', hrun, hended, _, _, rfl, ⟨hq, N⟩, ⟨_, rfl⟩, hW, hsame.mono hc hs⟩
theorem goRetN (X : Stand p l e R s m args below meth c T locs cells slots) (hx : p.tables.exec = Jvm.exec) {t : FieldType} (hrt : meth.sig.returnType = some t) (ht : t = .boolean ∨ t = .byte ∨ t = .char ∨ t = .short) (hlk : meth.locks = false) (N : Fr n0 locs) (hc : cells ≤ kc) (hs : slots ≤ ks)
    {pc : Nat} {Ls : Array Slot} {z : Int32} {rest : List Value} (hd : decode c.code pc = .ok (.ireturn, 1)) (hq : Q (some (.int (nar t z))) T.heap) : Goes p e below s kc ks n0 Q (T.setTop (mkF m pc Ls (.int z :: rest))) :=
  Goes.fin X (fun q => by rw [hrt] at q; cases q) hlk N hc hs hq fun fs hr => retN X hx (t := t) hrt ht hd hr
theorem goRetO (X : Stand p l e R s m args below meth c T locs cells slots) (hx : p.tables.exec = Jvm.exec) {t : FieldType} (hrt : meth.sig.returnType = some t) (hlk : meth.locks = false) (N : Fr n0 locs) (hc : cells ≤ kc) (hs : slots ≤ ks)
    {pc : Nat} {Ls : Array Slot} {w : Value} {i : Instr} {rest : List Value} (hn : narrow t w = w)
    (hi : (i = .ireturn ∧ (t = .int ∨ t = .boolean ∨ t = .byte ∨ t = .char ∨ t = .short) ∧ ∃ z, w = .int z) ∨ (i = .lreturn ∧ t = .long ∧ ∃ z, w = .long z) ∨ (i = .dreturn ∧ t = .double ∧ ∃ z, w = .double z) ∨ (i = .freturn ∧ t = .float ∧ ∃ z, w = .float z) ∨ (i = .areturn ∧ t.isReference = true ∧ w.isRef = true))
    (hd : decode c.code pc = .ok (i, 1)) (hq : Q (some w) T.heap) : Goes p e below s kc ks n0 Q (T.setTop (mkF m pc Ls (w :: rest))) :=
  Goes.fin X (fun q => by rw [hrt] at q; cases q) hlk N hc hs hq fun fs hr => retOut X hx hrt hn hi hd hr
theorem goRetI (X : Stand p l e R s m args below meth c T locs cells slots) (hx : p.tables.exec = Jvm.exec) (hrt : meth.sig.returnType = some .int) (hlk : meth.locks = false) (N : Fr n0 locs) (hc : cells ≤ kc) (hs : slots ≤ ks)
    {pc : Nat} {Ls : Array Slot} {z : Int32} {rest : List Value} (hd : decode c.code pc = .ok (.ireturn, 1)) (hq : Q (some (.int z)) T.heap) : Goes p e below s kc ks n0 Q (T.setTop (mkF m pc Ls (.int z :: rest))) :=
  goRetO X hx hrt hlk N hc hs rfl (Or.inl ⟨rfl, Or.inl rfl, _, rfl⟩) hd hq
theorem goRetJ (X : Stand p l e R s m args below meth c T locs cells slots) (hx : p.tables.exec = Jvm.exec) (hrt : meth.sig.returnType = some .long) (hlk : meth.locks = false) (N : Fr n0 locs) (hc : cells ≤ kc) (hs : slots ≤ ks)
    {pc : Nat} {Ls : Array Slot} {z : Int64} {rest : List Value} (hd : decode c.code pc = .ok (.lreturn, 1)) (hq : Q (some (.long z)) T.heap) : Goes p e below s kc ks n0 Q (T.setTop (mkF m pc Ls (.long z :: rest))) :=
  goRetO X hx hrt hlk N hc hs rfl (Or.inr (Or.inl ⟨rfl, rfl, _, rfl⟩)) hd hq
theorem goRetA (X : Stand p l e R s m args below meth c T locs cells slots) (hx : p.tables.exec = Jvm.exec) {t : FieldType} (hrt : meth.sig.returnType = some t) (ht : t.isReference = true) (hlk : meth.locks = false) (N : Fr n0 locs) (hc : cells ≤ kc) (hs : slots ≤ ks)
    {pc : Nat} {Ls : Array Slot} {w : Value} {rest : List Value} (hw : w.isRef = true) (hd : decode c.code pc = .ok (.areturn, 1)) (hq : Q (some w) T.heap) : Goes p e below s kc ks n0 Q (T.setTop (mkF m pc Ls (w :: rest))) :=
  goRetO X hx hrt hlk N hc hs (by cases t <;> cases w <;> first | rfl | (cases ht; done) | (cases hw; done)) (Or.inr (Or.inr (Or.inr (Or.inr ⟨rfl, ht, hw⟩)))) hd hq
theorem goRetV (X : Stand p l e R s m args below meth c T locs cells slots) (hx : p.tables.exec = Jvm.exec) (hrt : meth.sig.returnType = none) (hlk : meth.locks = false) (N : Fr n0 locs) (hc : cells ≤ kc) (hs : slots ≤ ks)
    {pc : Nat} {Ls : Array Slot} (hd : decode c.code pc = .ok (.return_, 1)) (hq : Q none T.heap) : Goes p e below s kc ks n0 Q (T.setTop (mkF m pc Ls [])) :=
  Goes.fin X (fun _ => rfl) hlk N hc hs hq fun fs hr => X.returnOut hx hrt hd hr
/-- a contract: from a heap h0, with these arguments, the invocation returns and Q holds of what it returned and of the heap -/
abbrev MET (l : Launch) (Z : State) (y : MethodName) (bytes : ByteArray) (maxL : Nat) (ret : Option FieldType) (rm : Room) (as' : Array Value) (h0 : Heap) (n0 : Nat) (Q : Option Value → Heap → Prop) : Prop :=
  ∀ ws : List Jvm.Cond, MetFree l y (head1 (Jvm.Cond.code y bytes maxL ret :: ws) rm) (fun a U => a = as' ∧ Z.Warmed39 U.vm ∧ U.heap = h0) (fun _ _ _ _ _ => True) (fun _ U o U' => ∃ v L, o = .returned v ∧ (Q v U'.heap ∧ Fr n0 L) ∧ FrameEnd U o U' L rm.cells rm.slots)
theorem metOf {y : MethodName} {bytes : ByteArray} {maxL : Nat} {ret : Option FieldType} {rm : Room} {as' : Array Value} {h0 : Heap} (hpf : plainFor y = true)
    (body : ∀ (p : Program) (e : Env) (s : State) (m : MethodId) (below : List Frame) (meth : Method) (c : Code) (T : State), p.tables.exec = Jvm.exec → c.code = bytes → c.maxLocals = maxL → meth.sig.returnType = ret → meth.locks = false → meth.name = y.name → Z.Warmed39 s.vm → s.vm.findClass y.cls = some m.cls →
      Stand p l e rm s m as' below meth c T [] 0 0 → T.heap = h0 → Goes p e below s rm.cells rm.slots n0 Q (T.setTop (entryFrame m as' maxL))) : MET l Z y bytes maxL ret rm as' h0 n0 Q := by
  intro ws
  refine MetFree.of_bodySF hpf hisR ?_
  intro p e s m args below meth c s₁ Bd hml0 hP hK
  obtain ⟨rfl, hZ, hh⟩ := hP
  exact body p e s m below meth c s₁ Bd.exec Bd.bytes hml0 Bd.returns Bd.notSynchronized (name_of_methodNamed Bd.named Bd.method).1 hZ (findClass_of_methodNamed Bd.named) (Stand.of_body Bd) (by rw [← hh, Bd.state]; rfl)
theorem goCast {g g' : JFrame} (q : g = g') (k : Goes p e below s kc ks n0 Q (T.setTop g')) : Goes p e below s kc ks n0 Q (T.setTop g) := q ▸ k
theorem iincZ {tb : Tables} [Ours tb] {target : State} {g : JFrame} (h : At T m c below) (hx : tb.exec = Jvm.exec) (hg : g.method = m) {k : Nat} {cst : Int} {x : Int32} {l' : Array Slot} (z : Int32) (hd : decode c.code g.pc = .ok (.iinc k cst, 3)) (hz : x + Int32.ofInt cst = z) (hl : g.locals[k]? = some (.val (.int x))) (hl' : storeLocals g.locals k (.int z) = some l')
    (hr : Steps tb e below (T.setTop { g with pc := g.pc + 3, locals := l' }) target) : Steps tb e below (T.setTop g) target := XS.iinc h hx hg hd hl (hz ▸ hl') hr
theorem all_getD {P : Value → Prop} {d : Value} (hd : P d) : ∀ (vs : List Value) (i : Nat), (∀ v ∈ vs, P v) → P (vs.getD i d)
  | [], i, _ => by simpa using hd
  | v :: vs, 0, q => by simpa using q v (List.mem_cons_self ..)
  | v :: vs, i + 1, q => by simpa using all_getD hd vs i fun w hw => q w (List.mem_cons_of_mem _ hw)
/-! calls by a contract -/
section Calls
variable {own C : String} {index : Nat} {y z : MethodName} {bytes : ByteArray} {maxL : Nat} {ret : Option FieldType} {rm : Room} {as' : Array Value} {Qc : Option Value → Heap → Prop} {W : Nat} {g : JFrame} {argsL rest : List Value} {a : Addr}
theorem callSt (X : Stand p l e R s m args below meth c T locs cells slots) (hx : p.tables.exec = Jvm.exec) (hZ : Z.Warmed39 s.vm) (hown : s.vm.findClass own = some m.cls) (hM : MET l Z y bytes maxL ret rm as' h n0 Qc) (w1 : (Jvm.Cond.methodLink own index y).before a0 Z = true) (w2 : (Jvm.Cond.static y).before a0 Z = true) (w3 : (Jvm.Cond.initialized y.cls).before a0 Z = true) (w4 : (Jvm.Cond.code y bytes maxL ret).before a0 Z = true)
    (hy : y.cls ≠ "java/lang/invoke/MethodHandle" ∧ y.cls ≠ "java/lang/invoke/VarHandle") (eT : T.heap = h) (hf : rm.frames + 1 ≤ R.frames) (hl : W + (maxL + 11) + rm.locals ≤ R.locals) (hc : cells + rm.cells ≤ R.cells) (hsl : slots + rm.slots ≤ R.slots)
    (hg : g.method = m) (hsize : g.locals.size = c.maxLocals) (ha : argsL.toArray = as') (hlen : ∀ sig, parseMethodDescriptor y.desc = some sig → argsL.length = sig.parameters.length) (hs : g.stack = argsL.reverse ++ rest) (hW : 2 * g.monitorRoom + (rest.map fun v => v.category).sum ≤ W) (hd : decode c.code g.pc = .ok (.invokestatic index, 3)) :
    ∃ (v : Option Value) (T' : State) (L : List Loc), Stand p l e R s m args below meth c T' (locs ++ L) (cells + rm.cells) (slots + rm.slots) ∧ Qc v T'.heap ∧ Fr n0 L ∧ ∀ t, Steps p.tables e below (T'.setTop { g with pc := g.pc + 3, stack := v.toList ++ rest }) t → Steps p.tables e below (T.setTop g) t := by
  obtain ⟨v, _, ⟨T', L', k', n'⟩, -, X', ⟨Lc, ⟨hq, hn⟩, e1, e2, e3⟩, st⟩ := Jvm.LawKit.callS X hx (y := y) hown (mvT hZ w1) (mvT hZ w2) (mvT hZ w3) (mvT hZ w4) hy (backOf (W := W) (Q := fun v h L => Qc v h ∧ Fr n0 L) (hM []) hZ w4 w3 hf hl) hg hsize hlen hs hW hd (fun _ _ => ⟨ha, eT, hc, hsl⟩)
  dsimp only [Pt.U, Pt.locs, Pt.cells, Pt.slots] at X' e1 e2 e3 st hq
  subst e1 e2 e3
  exact ⟨v, T', Lc, X', hq, hn, st⟩
theorem callSp (X : Stand p l e R s m args below meth c T locs cells slots) (hx : p.tables.exec = Jvm.exec) (hZ : Z.Warmed39 s.vm) (hown : s.vm.findClass own = some m.cls) (hM : MET l Z y bytes maxL none rm as' h n0 Qc) (hin : y.name = "<init>") (w1 : (Jvm.Cond.methodLink own index y).before a0 Z = true) (w2 : (Jvm.Cond.instanceMethod y).before a0 Z = true) (w3 : (Jvm.Cond.initialized y.cls).before a0 Z = true) (w4 : (Jvm.Cond.code y bytes maxL none).before a0 Z = true)
    (hy : y.cls ≠ "java/lang/invoke/MethodHandle" ∧ y.cls ≠ "java/lang/invoke/VarHandle") (eT : T.heap = h) (hf : rm.frames + 1 ≤ R.frames) (hl : W + (maxL + 11) + rm.locals ≤ R.locals) (hc : cells + rm.cells ≤ R.cells) (hsl : slots + rm.slots ≤ R.slots)
    (hg : g.method = m) (hsize : g.locals.size = c.maxLocals) (ha : (Value.ref a :: argsL).toArray = as') (hlen : ∀ sig, parseMethodDescriptor y.desc = some sig → argsL.length = sig.parameters.length) (hs : g.stack = argsL.reverse ++ .ref a :: rest) (hW : 2 * g.monitorRoom + (rest.map fun v => v.category).sum ≤ W) (hd : decode c.code g.pc = .ok (.invokespecial index, 3)) :
    ∃ (v : Option Value) (T' : State) (L : List Loc), Stand p l e R s m args below meth c T' (locs ++ L) (cells + rm.cells) (slots + rm.slots) ∧ Qc v T'.heap ∧ Fr n0 L ∧ ∀ t, Steps p.tables e below (T'.setTop { g with pc := g.pc + 3, stack := v.toList ++ rest }) t → Steps p.tables e below (T.setTop g) t := by
  obtain ⟨v, _, ⟨T', L', k', n'⟩, -, X', ⟨Lc, ⟨hq, hn⟩, e1, e2, e3⟩, st⟩ := X.specialBack hx (y := y) hin hown (mvT hZ w1) (mvT hZ w2) (mvT hZ w4) hy (backOf (W := W) (Q := fun v h L => Qc v h ∧ Fr n0 L) (hM []) hZ w4 w3 hf hl) hg hsize (Steps.refl _) (a := a) (argsL := argsL) (rest := rest) hlen hs hW hd (fun _ _ => ⟨ha, eT, hc, hsl⟩)
  dsimp only [Pt.U, Pt.locs, Pt.cells, Pt.slots] at X' e1 e2 e3 st hq
  subst e1 e2 e3
  exact ⟨v, T', Lc, X', hq, hn, fun t k => st.trans k⟩
theorem callVi (X : Stand p l e R s m args below meth c T locs cells slots) (hx : p.tables.exec = Jvm.exec) (hZ : Z.Warmed39 s.vm) (hown : s.vm.findClass own = some m.cls) (hM : MET l Z z bytes maxL ret rm as' h n0 Qc) (w1 : (Jvm.Cond.methodLink own index y).before a0 Z = true) (w2 : (Jvm.Cond.declares y).before a0 Z = true) (nf : NotFace s y) (w5 : (Jvm.Cond.selects C y z).before a0 Z = true) (w6 : (Jvm.Cond.instanceMethod z).before a0 Z = true) (w3 : (Jvm.Cond.initialized z.cls).before a0 Z = true) (w4 : (Jvm.Cond.code z bytes maxL ret).before a0 Z = true)
    (hy : y.cls ≠ "java/lang/invoke/MethodHandle" ∧ y.cls ≠ "java/lang/invoke/VarHandle") (eT : T.heap = h) (E : Exa Z h a C) (hf : rm.frames + 1 ≤ R.frames) (hl : W + (maxL + 11) + rm.locals ≤ R.locals) (hc : cells + rm.cells ≤ R.cells) (hsl : slots + rm.slots ≤ R.slots)
    (hg : g.method = m) (hsize : g.locals.size = c.maxLocals) (ha : (Value.ref a :: argsL).toArray = as') (hlen : ∀ sig, parseMethodDescriptor y.desc = some sig → argsL.length = sig.parameters.length) (hs : g.stack = argsL.reverse ++ .ref a :: rest) (hW : 2 * g.monitorRoom + (rest.map fun v => v.category).sum ≤ W) (hd : decode c.code g.pc = .ok (.invokevirtual index, 3)) :
    ∃ (v : Option Value) (T' : State) (L : List Loc), Stand p l e R s m args below meth c T' (locs ++ L) (cells + rm.cells) (slots + rm.slots) ∧ Qc v T'.heap ∧ Fr n0 L ∧ ∀ t, Steps p.tables e below (T'.setTop { g with pc := g.pc + 3, stack := v.toList ++ rest }) t → Steps p.tables e below (T.setTop g) t := by
  obtain ⟨cq, kq, qa, qb, qc⟩ := isOf hZ eT E
  obtain ⟨v, _, ⟨T', L', k', n'⟩, -, X', ⟨Lc, ⟨hq, hn⟩, e1, e2, e3⟩, st⟩ := X.virtualBack hx (y := y) (z := z) hown (mvT hZ w1) (mvT hZ w2) nf (mvT hZ w5) (mvT hZ w6) hy (backOf (W := W) (Q := fun v h L => Qc v h ∧ Fr n0 L) (hM []) hZ w4 w3 hf hl) qa qc hg hsize (Steps.refl _) (argsL := argsL) (rest := rest) hlen hs hW hd (fun _ _ => ⟨ha, eT, hc, hsl⟩)
  dsimp only [Pt.U, Pt.locs, Pt.cells, Pt.slots] at X' e1 e2 e3 st hq
  subst e1 e2 e3
  exact ⟨v, T', Lc, X', hq, hn, fun t k => st.trans k⟩
theorem callUp {owner : String} (X : Stand p l e R s m args below meth c T locs cells slots) (hx : p.tables.exec = Jvm.exec) (hZ : Z.Warmed39 s.vm) (hown : s.vm.findClass own = some m.cls) (hM : MET l Z z bytes maxL ret rm as' h n0 Qc) (w1 : (Jvm.Cond.methodLink own index y).before a0 Z = true) (w7 : (Jvm.Cond.sameMethod y.cls owner y.name y.desc).before a0 Z = true) (w2 : (Jvm.Cond.declares ⟨owner, y.name, y.desc⟩).before a0 Z = true) (w5 : (Jvm.Cond.selects C y z).before a0 Z = true) (w6 : (Jvm.Cond.instanceMethod z).before a0 Z = true) (w3 : (Jvm.Cond.initialized z.cls).before a0 Z = true) (w4 : (Jvm.Cond.code z bytes maxL ret).before a0 Z = true)
    (hy : owner ≠ "java/lang/invoke/MethodHandle" ∧ owner ≠ "java/lang/invoke/VarHandle") (eT : T.heap = h) (E : Exa Z h a C) (hf : rm.frames + 1 ≤ R.frames) (hl : W + (maxL + 11) + rm.locals ≤ R.locals) (hc : cells + rm.cells ≤ R.cells) (hsl : slots + rm.slots ≤ R.slots)
    (hg : g.method = m) (hsize : g.locals.size = c.maxLocals) (ha : (Value.ref a :: argsL).toArray = as') (hlen : ∀ sig, parseMethodDescriptor y.desc = some sig → argsL.length = sig.parameters.length) (hs : g.stack = argsL.reverse ++ .ref a :: rest) (hW : 2 * g.monitorRoom + (rest.map fun v => v.category).sum ≤ W) (hd : decode c.code g.pc = .ok (.invokevirtual index, 3)) :
    ∃ (v : Option Value) (T' : State) (L : List Loc), Stand p l e R s m args below meth c T' (locs ++ L) (cells + rm.cells) (slots + rm.slots) ∧ Qc v T'.heap ∧ Fr n0 L ∧ ∀ t, Steps p.tables e below (T'.setTop { g with pc := g.pc + 3, stack := v.toList ++ rest }) t → Steps p.tables e below (T.setTop g) t := by
  obtain ⟨cq, kq, qa, qb, qc⟩ := isOf hZ eT E
  obtain ⟨v, _, ⟨T', L', k', n'⟩, -, X', ⟨Lc, ⟨hq, hn⟩, e1, e2, e3⟩, st⟩ := X.virtualBackUp hx (x := y) (y := z) hown (mvT hZ w1) (mvT hZ w7) (mvT hZ w2) hy (mvT hZ w5) (mvT hZ w6) (backOf (W := W) (Q := fun v h L => Qc v h ∧ Fr n0 L) (hM []) hZ w4 w3 hf hl) qa qc hg hsize (Steps.refl _) (argsL := argsL) (rest := rest) hlen hs hW hd (fun _ _ => ⟨ha, eT, hc, hsl⟩)
  dsimp only [Pt.U, Pt.locs, Pt.cells, Pt.slots] at X' e1 e2 e3 st hq
  subst e1 e2 e3
  exact ⟨v, T', Lc, X', hq, hn, fun t k => st.trans k⟩
theorem callIf {count : Nat} (X : Stand p l e R s m args below meth c T locs cells slots) (hx : p.tables.exec = Jvm.exec) (hZ : Z.Warmed39 s.vm) (hown : s.vm.findClass own = some m.cls) (hM : MET l Z z bytes maxL ret rm as' h n0 Qc) (w1 : (Jvm.Cond.methodLink own index y).before a0 Z = true) (w2 : (Jvm.Cond.declares y).before a0 Z = true) (w7 : ∀ s' : State, Z.Warmed39 s'.vm → (Jvm.Cond.interfaceMethod y.cls y.cls y.name y.desc).before args s' = true) (w5 : (Jvm.Cond.selects C y z).before a0 Z = true) (w6 : (Jvm.Cond.instanceMethod z).before a0 Z = true) (w8 : (Jvm.Cond.publicMethod z).before a0 Z = true) (w9 : (Jvm.Cond.unhidden C y.name y.desc).before a0 Z = true) (w10 : (Jvm.Cond.castable C y.cls).before a0 Z = true) (w3 : (Jvm.Cond.initialized z.cls).before a0 Z = true) (w4 : (Jvm.Cond.code z bytes maxL ret).before a0 Z = true)
    (hy : y.cls ≠ "java/lang/invoke/MethodHandle" ∧ y.cls ≠ "java/lang/invoke/VarHandle") (eT : T.heap = h) (E : Exa Z h a C) (hf : rm.frames + 1 ≤ R.frames) (hl : W + (maxL + 11) + rm.locals ≤ R.locals) (hc : cells + rm.cells ≤ R.cells) (hsl : slots + rm.slots ≤ R.slots)
    (hg : g.method = m) (hsize : g.locals.size = c.maxLocals) (ha : (Value.ref a :: argsL).toArray = as') (hlen : ∀ sig, parseMethodDescriptor y.desc = some sig → argsL.length = sig.parameters.length) (hs : g.stack = argsL.reverse ++ .ref a :: rest) (hW : 2 * g.monitorRoom + (rest.map fun v => v.category).sum ≤ W) (hd : decode c.code g.pc = .ok (.invokeinterface index count, 5)) :
    ∃ (v : Option Value) (T' : State) (L : List Loc), Stand p l e R s m args below meth c T' (locs ++ L) (cells + rm.cells) (slots + rm.slots) ∧ Qc v T'.heap ∧ Fr n0 L ∧ ∀ t, Steps p.tables e below (T'.setTop { g with pc := g.pc + 5, stack := v.toList ++ rest }) t → Steps p.tables e below (T.setTop g) t := by
  obtain ⟨cq, kq, qa, qb, qc⟩ := isOf hZ eT E
  obtain ⟨v, _, ⟨T', L', k', n'⟩, -, X', ⟨Lc, ⟨hq, hn⟩, e1, e2, e3⟩, st⟩ := X.interfaceBack hx (xi := y) (y := z) hown (mvT hZ w1) (mvT hZ w2) (w7 s hZ) (mvT hZ w5) (mvT hZ w6) (mvT hZ w8) (mvT hZ w9) (mvT hZ w10) hy (backOf (W := W) (Q := fun v h L => Qc v h ∧ Fr n0 L) (hM []) hZ w4 w3 hf hl) qa qb qc hg hsize (Steps.refl _) (argsL := argsL) (rest := rest) hlen hs hW hd (fun _ _ => ⟨ha, eT, hc, hsl⟩)
  dsimp only [Pt.U, Pt.locs, Pt.cells, Pt.slots] at X' e1 e2 e3 st hq
  subst e1 e2 e3
  exact ⟨v, T', Lc, X', hq, hn, fun t k => st.trans k⟩
end Calls
end OwnLayer
end Jvm.RoadKit

/-! facts of the start, out of the sheet's words -/
namespace Jvm.RoadKit
open Sem ClassFile Op Lib Jvm.Stand Jvm.Free Jvm.LawKit
section OwnStart
variable {Z : State} {args : Array Value} {t : Term} {a : Addr} {c : Cell} {ty : FieldType} {n : Int32} {dv : Value} {n0 : Nat} {h h' : Heap} {ws : List Addr}
theorem Old.le (X : Old Z n0 h) : n0 ≤ h.size := X.1 ▸ X.2.1
theorem len_start (ev : t.eval args Z none [] Z = some (.ref a)) (A : Arr Z Z.heap a c ty) (hl : (Jvm.Cond.eq (.length t) (.int n)).value args Z none Z [] = some true) : c.slots.size < 2 ^ 31 ∧ c.slots.size.toInt32 = n := by
  have ha : Z.arrayAt? a = some c := A.fin (Vm.Alike.refl _)
  by_cases q : c.slots.size < 2 ^ 31
  · exact ⟨q, gotT (Cond.eq_ints (len_f ev ha q) (Term.int_eval n)) hl⟩
  · simp [Cond.value, Term.eval, ev, ha, q] at hl
theorem arv_start (hf : Fit Z) (ev : t.eval args Z none [] Z = some (.ref a)) (A : Arr Z Z.heap a c ty) (hl : (Jvm.Cond.eq (.length t) (.int n)).value args Z none Z [] = some true) : Arv Z Z.heap a c.cls ty n c.slots.toList dv := by
  obtain ⟨q1, q2⟩ := len_start ev A hl
  have hz : ¬ n < 0 := by
    rw [← q2, Int32.lt_iff_toInt_lt, len_toInt q1]
    have : (0 : Int32).toInt = 0 := by decide
    omega
  have hs : c.slots.size = n.toNatClampNeg := by
    have := len_toInt q1
    rw [q2] at this
    rw [Int32.toNatClampNeg, this]; rfl
  have g : ∀ i, i < c.slots.size → c.slots[i]? = some (c.slots.toList.getD i dv) := fun i hi => by
    simp [hi]
  refine ⟨c, A, rfl, hs, hz, g, fun i hi => ?_⟩
  have hj : ¬ ((Int32.ofNat i) < 0 ∨ c.slots.size ≤ (Int32.ofNat i).toNatClampNeg) := idx_in hi q1
  obtain ⟨v, e1, e2⟩ := elem_fit hf A hj
  have e3 : (Int32.ofNat i).toNatClampNeg = i := by
    have := len_toInt (n := i) (by omega)
    rw [Int32.toNatClampNeg, show (Int32.ofNat i).toInt = (i : Int) from this]; rfl
  rw [e3, g i hi] at e1
  cases e1
  exact e2
theorem eq_int {u : Term} {o : Option Outcome} {first : State} {idx : List Nat} (hl : (Jvm.Cond.eq u (.int n)).value args first o Z idx = some true) : u.eval args first o idx Z = some (.int n) := by
  obtain ⟨x, y, e1, e2, k1, k2⟩ := cmp_v (Or.inl hl)
  have e3 : Term.eval args first o idx Z (.int n) = some (.int n) := rfl
  cases (e3.symm.trans e2)
  obtain ⟨z, rfl⟩ := k2
  have q := gotT (Cond.eq_ints e1 e2) hl
  rw [e1, q]
theorem eq_long {n : Int64} {u : Term} {o : Option Outcome} {first : State} {idx : List Nat} (hl : (Jvm.Cond.eq u (.long n)).value args first o Z idx = some true) : u.eval args first o idx Z = some (.long n) := by
  obtain ⟨x, y, e1, e2, k1, k2⟩ := cmp_v (Or.inl hl)
  have e3 : Term.eval args first o idx Z (.long n) = some (.long n) := rfl
  cases (e3.symm.trans e2)
  obtain ⟨z, rfl⟩ := k2
  have q := gotT (eq_L e1 e2) hl
  rw [e1, q]
theorem eq_ref {x : Addr} {u w : Term} {o : Option Outcome} {first : State} {idx : List Nat} (hl : (Jvm.Cond.eq u w).value args first o Z idx = some true) (hw : w.eval args first o idx Z = some (.ref x)) : u.eval args first o idx Z = some (.ref x) := by
  obtain ⟨v, y, e1, e2, k1, k2⟩ := cmp_v (Or.inl hl)
  cases (hw.symm.trans e2)
  have q := gotT (eq_R e1 e2 k2.2 rfl) hl
  rw [e1, q]
theorem ins_keep {C : String} (F : Ins Z h a C true) (K : Keep h h' ws) : Ins Z h' a C true := by
  obtain ⟨cell, cT, h1, h2, h3⟩ := F
  obtain ⟨c', e1, e2, e3, -⟩ := K.2.2 a cell h1
  exact ⟨c', cT, e1, h2, by rw [e2, e3]; exact h3⟩
theorem arr_keep (F : Arr Z h a c ty) (K : Keep h h' ws) (q : a ∉ ws) : Arr Z h' a c ty := ⟨K.2.1 a c F.1 q, F.2⟩
end OwnStart
end Jvm.RoadKit

namespace Jvm.Pilot.@@N@@
open Jvm Jvm.ClassFile Sem Op Lib Jvm.Free Jvm.Stand Jvm.LawKit Jvm.RoadKit Bundle Jvm.Pilot.@@N@@.Jvm.D
theorem W_0 {Z : State} {aw : Array Value} (hw : ∀ d ∈ tables_1, d.before aw Z = true) : (Jvm.Cond.constantLong "com/example/trailkeep/trailkeep/journal/InputPositionWithBornPinLaw" (9 : Nat) (9223372036854775807 : Int64)).before aw Z = true := hw _ (List.mem_of_getElem? (i := 0) rfl)
theorem W_1 {Z : State} {aw : Array Value} (hw : ∀ d ∈ tables_1, d.before aw Z = true) : (Jvm.Cond.classLink "com/example/trailkeep/trailkeep/journal/InputPositionWithBornPinLaw" (11 : Nat) "com/example/trailkeep/trailkeep/journal/InputPosition").before aw Z = true := hw _ (List.mem_of_getElem? (i := 1) rfl)
theorem W_2 {Z : State} {aw : Array Value} (hw : ∀ d ∈ tables_1, d.before aw Z = true) : (Jvm.Cond.instantiable "com/example/trailkeep/trailkeep/journal/InputPosition" (6 : Nat)).before aw Z = true := hw _ (List.mem_of_getElem? (i := 2) rfl)
theorem W_3 {Z : State} {aw : Array Value} (hw : ∀ d ∈ tables_1, d.before aw Z = true) : (Jvm.Cond.initialized "com/example/trailkeep/trailkeep/journal/InputPosition").before aw Z = true := hw _ (List.mem_of_getElem? (i := 3) rfl)
theorem W_4 {Z : State} {aw : Array Value} (hw : ∀ d ∈ tables_1, d.before aw Z = true) : (Jvm.Cond.methodLink "com/example/trailkeep/trailkeep/journal/InputPositionWithBornPinLaw" (13 : Nat) ({ cls := "com/example/trailkeep/trailkeep/journal/InputPosition", name := "<init>", desc := "(JJJ)V" } : Jvm.MethodName)).before aw Z = true := hw _ (List.mem_of_getElem? (i := 4) rfl)
theorem W_5 {Z : State} {aw : Array Value} (hw : ∀ d ∈ tables_1, d.before aw Z = true) : (Jvm.Cond.instanceMethod ({ cls := "com/example/trailkeep/trailkeep/journal/InputPosition", name := "<init>", desc := "(JJJ)V" } : Jvm.MethodName)).before aw Z = true := hw _ (List.mem_of_getElem? (i := 5) rfl)
theorem W_6 {Z : State} {aw : Array Value} (hw : ∀ d ∈ tables_1, d.before aw Z = true) : (Jvm.Cond.code ({ cls := "com/example/trailkeep/trailkeep/journal/InputPosition", name := "<init>", desc := "(JJJ)V" } : Jvm.MethodName) prog_2_method_2_code (7 : Nat) (Option.none : Option Jvm.ClassFile.FieldType)).before aw Z = true := hw _ (List.mem_of_getElem? (i := 6) rfl)
theorem W_7 {Z : State} {aw : Array Value} (hw : ∀ d ∈ tables_1, d.before aw Z = true) : (Jvm.Cond.methodLink "com/example/trailkeep/trailkeep/journal/InputPosition" (64 : Nat) ({ cls := "com/example/trailkeep/trailkeep/journal/InputPosition", name := "<init>", desc := "(JJJLjava/util/UUID;Ljava/lang/Long;Ljava/lang/Long;)V" } : Jvm.MethodName)).before aw Z = true := hw _ (List.mem_of_getElem? (i := 7) rfl)
theorem W_8 {Z : State} {aw : Array Value} (hw : ∀ d ∈ tables_1, d.before aw Z = true) : (Jvm.Cond.instanceMethod ({ cls := "com/example/trailkeep/trailkeep/journal/InputPosition", name := "<init>", desc := "(JJJLjava/util/UUID;Ljava/lang/Long;Ljava/lang/Long;)V" } : Jvm.MethodName)).before aw Z = true := hw _ (List.mem_of_getElem? (i := 8) rfl)
theorem W_9 {Z : State} {aw : Array Value} (hw : ∀ d ∈ tables_1, d.before aw Z = true) : (Jvm.Cond.code ({ cls := "com/example/trailkeep/trailkeep/journal/InputPosition", name := "<init>", desc := "(JJJLjava/util/UUID;Ljava/lang/Long;Ljava/lang/Long;)V" } : Jvm.MethodName) prog_2_method_1_code (10 : Nat) (Option.none : Option Jvm.ClassFile.FieldType)).before aw Z = true := hw _ (List.mem_of_getElem? (i := 9) rfl)
theorem W_10 {Z : State} {aw : Array Value} (hw : ∀ d ∈ tables_1, d.before aw Z = true) : (Jvm.Cond.methodLink "com/example/trailkeep/trailkeep/journal/InputPosition" (1 : Nat) ({ cls := "java/lang/Record", name := "<init>", desc := "()V" } : Jvm.MethodName)).before aw Z = true := hw _ (List.mem_of_getElem? (i := 10) rfl)
theorem W_11 {Z : State} {aw : Array Value} (hw : ∀ d ∈ tables_1, d.before aw Z = true) : (Jvm.Cond.instanceMethod ({ cls := "java/lang/Record", name := "<init>", desc := "()V" } : Jvm.MethodName)).before aw Z = true := hw _ (List.mem_of_getElem? (i := 11) rfl)
theorem W_13 {Z : State} {aw : Array Value} (hw : ∀ d ∈ tables_1, d.before aw Z = true) : (Jvm.Cond.initialized "java/lang/Record").before aw Z = true := hw _ (List.mem_of_getElem? (i := 13) rfl)
theorem W_14 {Z : State} {aw : Array Value} (hw : ∀ d ∈ tables_1, d.before aw Z = true) : (Jvm.Cond.code ({ cls := "java/lang/Record", name := "<init>", desc := "()V" } : Jvm.MethodName) jdk_30_method_1_code (1 : Nat) (Option.none : Option Jvm.ClassFile.FieldType)).before aw Z = true := hw _ (List.mem_of_getElem? (i := 14) rfl)
theorem W_15 {Z : State} {aw : Array Value} (hw : ∀ d ∈ tables_1, d.before aw Z = true) : (Jvm.Cond.methodLink "java/lang/Record" (1 : Nat) ({ cls := "java/lang/Object", name := "<init>", desc := "()V" } : Jvm.MethodName)).before aw Z = true := hw _ (List.mem_of_getElem? (i := 15) rfl)
theorem W_16 {Z : State} {aw : Array Value} (hw : ∀ d ∈ tables_1, d.before aw Z = true) : (Jvm.Cond.instanceMethod ({ cls := "java/lang/Object", name := "<init>", desc := "()V" } : Jvm.MethodName)).before aw Z = true := hw _ (List.mem_of_getElem? (i := 16) rfl)
theorem W_17 {Z : State} {aw : Array Value} (hw : ∀ d ∈ tables_1, d.before aw Z = true) : (Jvm.Cond.code ({ cls := "java/lang/Object", name := "<init>", desc := "()V" } : Jvm.MethodName) object_method_1_code (1 : Nat) (Option.none : Option Jvm.ClassFile.FieldType)).before aw Z = true := hw _ (List.mem_of_getElem? (i := 17) rfl)
theorem W_18 {Z : State} {aw : Array Value} (hw : ∀ d ∈ tables_1, d.before aw Z = true) : (Jvm.Cond.fieldLink "com/example/trailkeep/trailkeep/journal/InputPosition" (41 : Nat) "com/example/trailkeep/trailkeep/journal/InputPosition" "offset" "J").before aw Z = true := hw _ (List.mem_of_getElem? (i := 18) rfl)
theorem W_19 {Z : State} {aw : Array Value} (hw : ∀ d ∈ tables_1, d.before aw Z = true) : (Jvm.Cond.laysFinal "com/example/trailkeep/trailkeep/journal/InputPosition" "com/example/trailkeep/trailkeep/journal/InputPosition" "offset" "J").before aw Z = true := hw _ (List.mem_of_getElem? (i := 19) rfl)
theorem W_20 {Z : State} {aw : Array Value} (hw : ∀ d ∈ tables_1, d.before aw Z = true) : (Jvm.Cond.fieldLink "com/example/trailkeep/trailkeep/journal/InputPosition" (47 : Nat) "com/example/trailkeep/trailkeep/journal/InputPosition" "lineNumber" "J").before aw Z = true := hw _ (List.mem_of_getElem? (i := 20) rfl)
theorem W_21 {Z : State} {aw : Array Value} (hw : ∀ d ∈ tables_1, d.before aw Z = true) : (Jvm.Cond.laysFinal "com/example/trailkeep/trailkeep/journal/InputPosition" "com/example/trailkeep/trailkeep/journal/InputPosition" "lineNumber" "J").before aw Z = true := hw _ (List.mem_of_getElem? (i := 21) rfl)
theorem W_22 {Z : State} {aw : Array Value} (hw : ∀ d ∈ tables_1, d.before aw Z = true) : (Jvm.Cond.fieldLink "com/example/trailkeep/trailkeep/journal/InputPosition" (50 : Nat) "com/example/trailkeep/trailkeep/journal/InputPosition" "stored" "J").before aw Z = true := hw _ (List.mem_of_getElem? (i := 22) rfl)
theorem W_23 {Z : State} {aw : Array Value} (hw : ∀ d ∈ tables_1, d.before aw Z = true) : (Jvm.Cond.laysFinal "com/example/trailkeep/trailkeep/journal/InputPosition" "com/example/trailkeep/trailkeep/journal/InputPosition" "stored" "J").before aw Z = true := hw _ (List.mem_of_getElem? (i := 23) rfl)
theorem W_24 {Z : State} {aw : Array Value} (hw : ∀ d ∈ tables_1, d.before aw Z = true) : (Jvm.Cond.fieldLink "com/example/trailkeep/trailkeep/journal/InputPosition" (53 : Nat) "com/example/trailkeep/trailkeep/journal/InputPosition" "tail" "Ljava/util/UUID;").before aw Z = true := hw _ (List.mem_of_getElem? (i := 24) rfl)
theorem W_25 {Z : State} {aw : Array Value} (hw : ∀ d ∈ tables_1, d.before aw Z = true) : (Jvm.Cond.laysFinal "com/example/trailkeep/trailkeep/journal/InputPosition" "com/example/trailkeep/trailkeep/journal/InputPosition" "tail" "Ljava/util/UUID;").before aw Z = true := hw _ (List.mem_of_getElem? (i := 25) rfl)
theorem W_26 {Z : State} {aw : Array Value} (hw : ∀ d ∈ tables_1, d.before aw Z = true) : (Jvm.Cond.fieldLink "com/example/trailkeep/trailkeep/journal/InputPosition" (57 : Nat) "com/example/trailkeep/trailkeep/journal/InputPosition" "born" "Ljava/lang/Long;").before aw Z = true := hw _ (List.mem_of_getElem? (i := 26) rfl)
theorem W_27 {Z : State} {aw : Array Value} (hw : ∀ d ∈ tables_1, d.before aw Z = true) : (Jvm.Cond.laysFinal "com/example/trailkeep/trailkeep/journal/InputPosition" "com/example/trailkeep/trailkeep/journal/InputPosition" "born" "Ljava/lang/Long;").before aw Z = true := hw _ (List.mem_of_getElem? (i := 27) rfl)
theorem W_28 {Z : State} {aw : Array Value} (hw : ∀ d ∈ tables_1, d.before aw Z = true) : (Jvm.Cond.fieldLink "com/example/trailkeep/trailkeep/journal/InputPosition" (61 : Nat) "com/example/trailkeep/trailkeep/journal/InputPosition" "batchTime" "Ljava/lang/Long;").before aw Z = true := hw _ (List.mem_of_getElem? (i := 28) rfl)
theorem W_29 {Z : State} {aw : Array Value} (hw : ∀ d ∈ tables_1, d.before aw Z = true) : (Jvm.Cond.laysFinal "com/example/trailkeep/trailkeep/journal/InputPosition" "com/example/trailkeep/trailkeep/journal/InputPosition" "batchTime" "Ljava/lang/Long;").before aw Z = true := hw _ (List.mem_of_getElem? (i := 29) rfl)
theorem W_30 {Z : State} {aw : Array Value} (hw : ∀ d ∈ tables_1, d.before aw Z = true) : (Jvm.Cond.methodLink "com/example/trailkeep/trailkeep/journal/InputPositionWithBornPinLaw" (16 : Nat) ({ cls := "com/example/trailkeep/trailkeep/journal/InputPosition", name := "withBorn", desc := "(J)Lcom/example/trailkeep/trailkeep/journal/InputPosition;" } : Jvm.MethodName)).before aw Z = true := hw _ (List.mem_of_getElem? (i := 30) rfl)
theorem W_31 {Z : State} {aw : Array Value} (hw : ∀ d ∈ tables_1, d.before aw Z = true) : (Jvm.Cond.declares ({ cls := "com/example/trailkeep/trailkeep/journal/InputPosition", name := "withBorn", desc := "(J)Lcom/example/trailkeep/trailkeep/journal/InputPosition;" } : Jvm.MethodName)).before aw Z = true := hw _ (List.mem_of_getElem? (i := 31) rfl)
theorem W_32 {Z : State} {aw : Array Value} (hw : ∀ d ∈ tables_1, d.before aw Z = true) : (Jvm.Cond.instanceMethod ({ cls := "com/example/trailkeep/trailkeep/journal/InputPosition", name := "withBorn", desc := "(J)Lcom/example/trailkeep/trailkeep/journal/InputPosition;" } : Jvm.MethodName)).before aw Z = true := hw _ (List.mem_of_getElem? (i := 32) rfl)
theorem W_33 {Z : State} {aw : Array Value} (hw : ∀ d ∈ tables_1, d.before aw Z = true) : (Jvm.Cond.selects "com/example/trailkeep/trailkeep/journal/InputPosition" ({ cls := "com/example/trailkeep/trailkeep/journal/InputPosition", name := "withBorn", desc := "(J)Lcom/example/trailkeep/trailkeep/journal/InputPosition;" } : Jvm.MethodName) ({ cls := "com/example/trailkeep/trailkeep/journal/InputPosition", name := "withBorn", desc := "(J)Lcom/example/trailkeep/trailkeep/journal/InputPosition;" } : Jvm.MethodName)).before aw Z = true := hw _ (List.mem_of_getElem? (i := 33) rfl)
theorem W_34 {Z : State} {aw : Array Value} (hw : ∀ d ∈ tables_1, d.before aw Z = true) : (Jvm.Cond.code ({ cls := "com/example/trailkeep/trailkeep/journal/InputPosition", name := "withBorn", desc := "(J)Lcom/example/trailkeep/trailkeep/journal/InputPosition;" } : Jvm.MethodName) prog_2_method_5_code (3 : Nat) (Option.some (Jvm.ClassFile.FieldType.object "com/example/trailkeep/trailkeep/journal/InputPosition"))).before aw Z = true := hw _ (List.mem_of_getElem? (i := 34) rfl)
theorem W_35 {Z : State} {aw : Array Value} (hw : ∀ d ∈ tables_1, d.before aw Z = true) : (Jvm.Cond.classLink "com/example/trailkeep/trailkeep/journal/InputPosition" (42 : Nat) "com/example/trailkeep/trailkeep/journal/InputPosition").before aw Z = true := hw _ (List.mem_of_getElem? (i := 35) rfl)
theorem W_36 {Z : State} {aw : Array Value} (hw : ∀ d ∈ tables_1, d.before aw Z = true) : (Jvm.Cond.methodLink "com/example/trailkeep/trailkeep/journal/InputPosition" (67 : Nat) ({ cls := "java/lang/Long", name := "valueOf", desc := "(J)Ljava/lang/Long;" } : Jvm.MethodName)).before aw Z = true := hw _ (List.mem_of_getElem? (i := 36) rfl)
theorem W_37 {Z : State} {aw : Array Value} (hw : ∀ d ∈ tables_1, d.before aw Z = true) : (Jvm.Cond.static ({ cls := "java/lang/Long", name := "valueOf", desc := "(J)Ljava/lang/Long;" } : Jvm.MethodName)).before aw Z = true := hw _ (List.mem_of_getElem? (i := 37) rfl)
theorem W_38 {Z : State} {aw : Array Value} (hw : ∀ d ∈ tables_1, d.before aw Z = true) : (Jvm.Cond.initialized "java/lang/Long").before aw Z = true := hw _ (List.mem_of_getElem? (i := 38) rfl)
theorem W_39 {Z : State} {aw : Array Value} (hw : ∀ d ∈ tables_1, d.before aw Z = true) : (Jvm.Cond.code ({ cls := "java/lang/Long", name := "valueOf", desc := "(J)Ljava/lang/Long;" } : Jvm.MethodName) jdk_35_method_24_code (3 : Nat) (Option.some (Jvm.ClassFile.FieldType.object "java/lang/Long"))).before aw Z = true := hw _ (List.mem_of_getElem? (i := 39) rfl)
theorem W_40 {Z : State} {aw : Array Value} (hw : ∀ d ∈ tables_1, d.before aw Z = true) : (Jvm.Cond.constantLong "java/lang/Long" (230 : Nat) (-128 : Int64)).before aw Z = true := hw _ (List.mem_of_getElem? (i := 40) rfl)
theorem W_41 {Z : State} {aw : Array Value} (hw : ∀ d ∈ tables_1, d.before aw Z = true) : (Jvm.Cond.constantLong "java/lang/Long" (232 : Nat) (127 : Int64)).before aw Z = true := hw _ (List.mem_of_getElem? (i := 41) rfl)
theorem W_42 {Z : State} {aw : Array Value} (hw : ∀ d ∈ tables_1, d.before aw Z = true) : (Jvm.Cond.fieldLink "java/lang/Long" (234 : Nat) "java/lang/Long$LongCache" "cache" "[Ljava/lang/Long;").before aw Z = true := hw _ (List.mem_of_getElem? (i := 42) rfl)
theorem W_44 {Z : State} {aw : Array Value} (hw : ∀ d ∈ tables_1, d.before aw Z = true) : (Jvm.Cond.methodLink "com/example/trailkeep/trailkeep/journal/InputPositionWithBornPinLaw" (20 : Nat) ({ cls := "com/example/trailkeep/trailkeep/journal/InputPosition", name := "born", desc := "()Ljava/lang/Long;" } : Jvm.MethodName)).before aw Z = true := hw _ (List.mem_of_getElem? (i := 44) rfl)
theorem W_45 {Z : State} {aw : Array Value} (hw : ∀ d ∈ tables_1, d.before aw Z = true) : (Jvm.Cond.declares ({ cls := "com/example/trailkeep/trailkeep/journal/InputPosition", name := "born", desc := "()Ljava/lang/Long;" } : Jvm.MethodName)).before aw Z = true := hw _ (List.mem_of_getElem? (i := 45) rfl)
theorem W_46 {Z : State} {aw : Array Value} (hw : ∀ d ∈ tables_1, d.before aw Z = true) : (Jvm.Cond.instanceMethod ({ cls := "com/example/trailkeep/trailkeep/journal/InputPosition", name := "born", desc := "()Ljava/lang/Long;" } : Jvm.MethodName)).before aw Z = true := hw _ (List.mem_of_getElem? (i := 46) rfl)
theorem W_47 {Z : State} {aw : Array Value} (hw : ∀ d ∈ tables_1, d.before aw Z = true) : (Jvm.Cond.selects "com/example/trailkeep/trailkeep/journal/InputPosition" ({ cls := "com/example/trailkeep/trailkeep/journal/InputPosition", name := "born", desc := "()Ljava/lang/Long;" } : Jvm.MethodName) ({ cls := "com/example/trailkeep/trailkeep/journal/InputPosition", name := "born", desc := "()Ljava/lang/Long;" } : Jvm.MethodName)).before aw Z = true := hw _ (List.mem_of_getElem? (i := 47) rfl)
theorem W_48 {Z : State} {aw : Array Value} (hw : ∀ d ∈ tables_1, d.before aw Z = true) : (Jvm.Cond.code ({ cls := "com/example/trailkeep/trailkeep/journal/InputPosition", name := "born", desc := "()Ljava/lang/Long;" } : Jvm.MethodName) prog_2_method_14_code (1 : Nat) (Option.some (Jvm.ClassFile.FieldType.object "java/lang/Long"))).before aw Z = true := hw _ (List.mem_of_getElem? (i := 48) rfl)
theorem W_49 {Z : State} {aw : Array Value} (hw : ∀ d ∈ tables_1, d.before aw Z = true) : (Jvm.Cond.methodLink "com/example/trailkeep/trailkeep/journal/InputPositionWithBornPinLaw" (24 : Nat) ({ cls := "java/lang/Long", name := "longValue", desc := "()J" } : Jvm.MethodName)).before aw Z = true := hw _ (List.mem_of_getElem? (i := 49) rfl)
theorem W_50 {Z : State} {aw : Array Value} (hw : ∀ d ∈ tables_1, d.before aw Z = true) : (Jvm.Cond.declares ({ cls := "java/lang/Long", name := "longValue", desc := "()J" } : Jvm.MethodName)).before aw Z = true := hw _ (List.mem_of_getElem? (i := 50) rfl)
theorem W_51 {Z : State} {aw : Array Value} (hw : ∀ d ∈ tables_1, d.before aw Z = true) : (Jvm.Cond.instanceMethod ({ cls := "java/lang/Long", name := "longValue", desc := "()J" } : Jvm.MethodName)).before aw Z = true := hw _ (List.mem_of_getElem? (i := 51) rfl)
theorem W_52 {Z : State} {aw : Array Value} (hw : ∀ d ∈ tables_1, d.before aw Z = true) : (Jvm.Cond.selects "java/lang/Long" ({ cls := "java/lang/Long", name := "longValue", desc := "()J" } : Jvm.MethodName) ({ cls := "java/lang/Long", name := "longValue", desc := "()J" } : Jvm.MethodName)).before aw Z = true := hw _ (List.mem_of_getElem? (i := 52) rfl)
theorem W_53 {Z : State} {aw : Array Value} (hw : ∀ d ∈ tables_1, d.before aw Z = true) : (Jvm.Cond.code ({ cls := "java/lang/Long", name := "longValue", desc := "()J" } : Jvm.MethodName) jdk_35_method_31_code (1 : Nat) (Option.some Jvm.ClassFile.FieldType.long)).before aw Z = true := hw _ (List.mem_of_getElem? (i := 53) rfl)
theorem W_54 {Z : State} {aw : Array Value} (hw : ∀ d ∈ tables_1, d.before aw Z = true) : (Jvm.Cond.fieldLink "java/lang/Long" (273 : Nat) "java/lang/Long" "value" "J").before aw Z = true := hw _ (List.mem_of_getElem? (i := 54) rfl)
theorem W_55 {Z : State} {aw : Array Value} (hw : ∀ d ∈ tables_1, d.before aw Z = true) : (Jvm.Cond.laysFinal "java/lang/Long" "java/lang/Long" "value" "J").before aw Z = true := hw _ (List.mem_of_getElem? (i := 55) rfl)
theorem W_56 {Z : State} {aw : Array Value} (hw : ∀ d ∈ tables_1, d.before aw Z = true) : (Jvm.Cond.methodLink "com/example/trailkeep/trailkeep/journal/InputPositionWithBornPinLaw" (28 : Nat) ({ cls := "com/example/trailkeep/trailkeep/journal/InputPosition", name := "offset", desc := "()J" } : Jvm.MethodName)).before aw Z = true := hw _ (List.mem_of_getElem? (i := 56) rfl)
theorem W_57 {Z : State} {aw : Array Value} (hw : ∀ d ∈ tables_1, d.before aw Z = true) : (Jvm.Cond.declares ({ cls := "com/example/trailkeep/trailkeep/journal/InputPosition", name := "offset", desc := "()J" } : Jvm.MethodName)).before aw Z = true := hw _ (List.mem_of_getElem? (i := 57) rfl)
theorem W_58 {Z : State} {aw : Array Value} (hw : ∀ d ∈ tables_1, d.before aw Z = true) : (Jvm.Cond.instanceMethod ({ cls := "com/example/trailkeep/trailkeep/journal/InputPosition", name := "offset", desc := "()J" } : Jvm.MethodName)).before aw Z = true := hw _ (List.mem_of_getElem? (i := 58) rfl)
theorem W_59 {Z : State} {aw : Array Value} (hw : ∀ d ∈ tables_1, d.before aw Z = true) : (Jvm.Cond.selects "com/example/trailkeep/trailkeep/journal/InputPosition" ({ cls := "com/example/trailkeep/trailkeep/journal/InputPosition", name := "offset", desc := "()J" } : Jvm.MethodName) ({ cls := "com/example/trailkeep/trailkeep/journal/InputPosition", name := "offset", desc := "()J" } : Jvm.MethodName)).before aw Z = true := hw _ (List.mem_of_getElem? (i := 59) rfl)
theorem W_60 {Z : State} {aw : Array Value} (hw : ∀ d ∈ tables_1, d.before aw Z = true) : (Jvm.Cond.code ({ cls := "com/example/trailkeep/trailkeep/journal/InputPosition", name := "offset", desc := "()J" } : Jvm.MethodName) prog_2_method_10_code (1 : Nat) (Option.some Jvm.ClassFile.FieldType.long)).before aw Z = true := hw _ (List.mem_of_getElem? (i := 60) rfl)
theorem W_61 {Z : State} {aw : Array Value} (hw : ∀ d ∈ tables_1, d.before aw Z = true) : (Jvm.Cond.methodLink "com/example/trailkeep/trailkeep/journal/InputPositionWithBornPinLaw" (31 : Nat) ({ cls := "com/example/trailkeep/trailkeep/journal/InputPosition", name := "lineNumber", desc := "()J" } : Jvm.MethodName)).before aw Z = true := hw _ (List.mem_of_getElem? (i := 61) rfl)
theorem W_62 {Z : State} {aw : Array Value} (hw : ∀ d ∈ tables_1, d.before aw Z = true) : (Jvm.Cond.declares ({ cls := "com/example/trailkeep/trailkeep/journal/InputPosition", name := "lineNumber", desc := "()J" } : Jvm.MethodName)).before aw Z = true := hw _ (List.mem_of_getElem? (i := 62) rfl)
theorem W_63 {Z : State} {aw : Array Value} (hw : ∀ d ∈ tables_1, d.before aw Z = true) : (Jvm.Cond.instanceMethod ({ cls := "com/example/trailkeep/trailkeep/journal/InputPosition", name := "lineNumber", desc := "()J" } : Jvm.MethodName)).before aw Z = true := hw _ (List.mem_of_getElem? (i := 63) rfl)
theorem W_64 {Z : State} {aw : Array Value} (hw : ∀ d ∈ tables_1, d.before aw Z = true) : (Jvm.Cond.selects "com/example/trailkeep/trailkeep/journal/InputPosition" ({ cls := "com/example/trailkeep/trailkeep/journal/InputPosition", name := "lineNumber", desc := "()J" } : Jvm.MethodName) ({ cls := "com/example/trailkeep/trailkeep/journal/InputPosition", name := "lineNumber", desc := "()J" } : Jvm.MethodName)).before aw Z = true := hw _ (List.mem_of_getElem? (i := 64) rfl)
theorem W_65 {Z : State} {aw : Array Value} (hw : ∀ d ∈ tables_1, d.before aw Z = true) : (Jvm.Cond.code ({ cls := "com/example/trailkeep/trailkeep/journal/InputPosition", name := "lineNumber", desc := "()J" } : Jvm.MethodName) prog_2_method_11_code (1 : Nat) (Option.some Jvm.ClassFile.FieldType.long)).before aw Z = true := hw _ (List.mem_of_getElem? (i := 65) rfl)
theorem W_66 {Z : State} {aw : Array Value} (hw : ∀ d ∈ tables_1, d.before aw Z = true) : (Jvm.Cond.methodLink "com/example/trailkeep/trailkeep/journal/InputPositionWithBornPinLaw" (34 : Nat) ({ cls := "com/example/trailkeep/trailkeep/journal/InputPosition", name := "stored", desc := "()J" } : Jvm.MethodName)).before aw Z = true := hw _ (List.mem_of_getElem? (i := 66) rfl)
theorem W_67 {Z : State} {aw : Array Value} (hw : ∀ d ∈ tables_1, d.before aw Z = true) : (Jvm.Cond.declares ({ cls := "com/example/trailkeep/trailkeep/journal/InputPosition", name := "stored", desc := "()J" } : Jvm.MethodName)).before aw Z = true := hw _ (List.mem_of_getElem? (i := 67) rfl)
theorem W_68 {Z : State} {aw : Array Value} (hw : ∀ d ∈ tables_1, d.before aw Z = true) : (Jvm.Cond.instanceMethod ({ cls := "com/example/trailkeep/trailkeep/journal/InputPosition", name := "stored", desc := "()J" } : Jvm.MethodName)).before aw Z = true := hw _ (List.mem_of_getElem? (i := 68) rfl)
theorem W_69 {Z : State} {aw : Array Value} (hw : ∀ d ∈ tables_1, d.before aw Z = true) : (Jvm.Cond.selects "com/example/trailkeep/trailkeep/journal/InputPosition" ({ cls := "com/example/trailkeep/trailkeep/journal/InputPosition", name := "stored", desc := "()J" } : Jvm.MethodName) ({ cls := "com/example/trailkeep/trailkeep/journal/InputPosition", name := "stored", desc := "()J" } : Jvm.MethodName)).before aw Z = true := hw _ (List.mem_of_getElem? (i := 69) rfl)
theorem W_70 {Z : State} {aw : Array Value} (hw : ∀ d ∈ tables_1, d.before aw Z = true) : (Jvm.Cond.code ({ cls := "com/example/trailkeep/trailkeep/journal/InputPosition", name := "stored", desc := "()J" } : Jvm.MethodName) prog_2_method_12_code (1 : Nat) (Option.some Jvm.ClassFile.FieldType.long)).before aw Z = true := hw _ (List.mem_of_getElem? (i := 70) rfl)
theorem W_71 {Z : State} {aw : Array Value} (hw : ∀ d ∈ tables_1, d.before aw Z = true) : (Jvm.Cond.methodLink "com/example/trailkeep/trailkeep/journal/InputPositionWithBornPinLaw" (37 : Nat) ({ cls := "com/example/trailkeep/trailkeep/journal/InputPosition", name := "tail", desc := "()Ljava/util/UUID;" } : Jvm.MethodName)).before aw Z = true := hw _ (List.mem_of_getElem? (i := 71) rfl)
theorem W_72 {Z : State} {aw : Array Value} (hw : ∀ d ∈ tables_1, d.before aw Z = true) : (Jvm.Cond.declares ({ cls := "com/example/trailkeep/trailkeep/journal/InputPosition", name := "tail", desc := "()Ljava/util/UUID;" } : Jvm.MethodName)).before aw Z = true := hw _ (List.mem_of_getElem? (i := 72) rfl)
theorem W_73 {Z : State} {aw : Array Value} (hw : ∀ d ∈ tables_1, d.before aw Z = true) : (Jvm.Cond.instanceMethod ({ cls := "com/example/trailkeep/trailkeep/journal/InputPosition", name := "tail", desc := "()Ljava/util/UUID;" } : Jvm.MethodName)).before aw Z = true := hw _ (List.mem_of_getElem? (i := 73) rfl)
theorem W_74 {Z : State} {aw : Array Value} (hw : ∀ d ∈ tables_1, d.before aw Z = true) : (Jvm.Cond.selects "com/example/trailkeep/trailkeep/journal/InputPosition" ({ cls := "com/example/trailkeep/trailkeep/journal/InputPosition", name := "tail", desc := "()Ljava/util/UUID;" } : Jvm.MethodName) ({ cls := "com/example/trailkeep/trailkeep/journal/InputPosition", name := "tail", desc := "()Ljava/util/UUID;" } : Jvm.MethodName)).before aw Z = true := hw _ (List.mem_of_getElem? (i := 74) rfl)
theorem W_75 {Z : State} {aw : Array Value} (hw : ∀ d ∈ tables_1, d.before aw Z = true) : (Jvm.Cond.code ({ cls := "com/example/trailkeep/trailkeep/journal/InputPosition", name := "tail", desc := "()Ljava/util/UUID;" } : Jvm.MethodName) prog_2_method_13_code (1 : Nat) (Option.some (Jvm.ClassFile.FieldType.object "java/util/UUID"))).before aw Z = true := hw _ (List.mem_of_getElem? (i := 75) rfl)
theorem W_76 {Z : State} {aw : Array Value} (hw : ∀ d ∈ tables_1, d.before aw Z = true) : (Jvm.Cond.methodLink "com/example/trailkeep/trailkeep/journal/InputPositionWithBornPinLaw" (41 : Nat) ({ cls := "com/example/trailkeep/trailkeep/journal/InputPosition", name := "batchTime", desc := "()Ljava/lang/Long;" } : Jvm.MethodName)).before aw Z = true := hw _ (List.mem_of_getElem? (i := 76) rfl)
theorem W_77 {Z : State} {aw : Array Value} (hw : ∀ d ∈ tables_1, d.before aw Z = true) : (Jvm.Cond.declares ({ cls := "com/example/trailkeep/trailkeep/journal/InputPosition", name := "batchTime", desc := "()Ljava/lang/Long;" } : Jvm.MethodName)).before aw Z = true := hw _ (List.mem_of_getElem? (i := 77) rfl)
theorem W_78 {Z : State} {aw : Array Value} (hw : ∀ d ∈ tables_1, d.before aw Z = true) : (Jvm.Cond.instanceMethod ({ cls := "com/example/trailkeep/trailkeep/journal/InputPosition", name := "batchTime", desc := "()Ljava/lang/Long;" } : Jvm.MethodName)).before aw Z = true := hw _ (List.mem_of_getElem? (i := 78) rfl)
theorem W_79 {Z : State} {aw : Array Value} (hw : ∀ d ∈ tables_1, d.before aw Z = true) : (Jvm.Cond.selects "com/example/trailkeep/trailkeep/journal/InputPosition" ({ cls := "com/example/trailkeep/trailkeep/journal/InputPosition", name := "batchTime", desc := "()Ljava/lang/Long;" } : Jvm.MethodName) ({ cls := "com/example/trailkeep/trailkeep/journal/InputPosition", name := "batchTime", desc := "()Ljava/lang/Long;" } : Jvm.MethodName)).before aw Z = true := hw _ (List.mem_of_getElem? (i := 79) rfl)
theorem W_80 {Z : State} {aw : Array Value} (hw : ∀ d ∈ tables_1, d.before aw Z = true) : (Jvm.Cond.code ({ cls := "com/example/trailkeep/trailkeep/journal/InputPosition", name := "batchTime", desc := "()Ljava/lang/Long;" } : Jvm.MethodName) prog_2_method_15_code (1 : Nat) (Option.some (Jvm.ClassFile.FieldType.object "java/lang/Long"))).before aw Z = true := hw _ (List.mem_of_getElem? (i := 80) rfl)
theorem W_81 {Z : State} {aw : Array Value} (hw : ∀ d ∈ tables_1, d.before aw Z = true) : (Jvm.Cond.classLink "java/lang/Long" (1 : Nat) "java/lang/Long").before aw Z = true := hw _ (List.mem_of_getElem? (i := 81) rfl)
theorem W_82 {Z : State} {aw : Array Value} (hw : ∀ d ∈ tables_1, d.before aw Z = true) : (Jvm.Cond.instantiable "java/lang/Long" (1 : Nat)).before aw Z = true := hw _ (List.mem_of_getElem? (i := 82) rfl)
theorem W_83 {Z : State} {aw : Array Value} (hw : ∀ d ∈ tables_1, d.before aw Z = true) : (Jvm.Cond.methodLink "java/lang/Long" (240 : Nat) ({ cls := "java/lang/Long", name := "<init>", desc := "(J)V" } : Jvm.MethodName)).before aw Z = true := hw _ (List.mem_of_getElem? (i := 83) rfl)
theorem W_84 {Z : State} {aw : Array Value} (hw : ∀ d ∈ tables_1, d.before aw Z = true) : (Jvm.Cond.instanceMethod ({ cls := "java/lang/Long", name := "<init>", desc := "(J)V" } : Jvm.MethodName)).before aw Z = true := hw _ (List.mem_of_getElem? (i := 84) rfl)
theorem W_86 {Z : State} {aw : Array Value} (hw : ∀ d ∈ tables_1, d.before aw Z = true) : (Jvm.Cond.code ({ cls := "java/lang/Long", name := "<init>", desc := "(J)V" } : Jvm.MethodName) jdk_35_method_26_code (3 : Nat) (Option.none : Option Jvm.ClassFile.FieldType)).before aw Z = true := hw _ (List.mem_of_getElem? (i := 86) rfl)
theorem W_87 {Z : State} {aw : Array Value} (hw : ∀ d ∈ tables_1, d.before aw Z = true) : (Jvm.Cond.methodLink "java/lang/Long" (270 : Nat) ({ cls := "java/lang/Number", name := "<init>", desc := "()V" } : Jvm.MethodName)).before aw Z = true := hw _ (List.mem_of_getElem? (i := 87) rfl)
theorem W_88 {Z : State} {aw : Array Value} (hw : ∀ d ∈ tables_1, d.before aw Z = true) : (Jvm.Cond.instanceMethod ({ cls := "java/lang/Number", name := "<init>", desc := "()V" } : Jvm.MethodName)).before aw Z = true := hw _ (List.mem_of_getElem? (i := 88) rfl)
theorem W_91 {Z : State} {aw : Array Value} (hw : ∀ d ∈ tables_1, d.before aw Z = true) : (Jvm.Cond.initialized "java/lang/Number").before aw Z = true := hw _ (List.mem_of_getElem? (i := 91) rfl)
theorem W_92 {Z : State} {aw : Array Value} (hw : ∀ d ∈ tables_1, d.before aw Z = true) : (Jvm.Cond.code ({ cls := "java/lang/Number", name := "<init>", desc := "()V" } : Jvm.MethodName) jdk_18_method_1_code (1 : Nat) (Option.none : Option Jvm.ClassFile.FieldType)).before aw Z = true := hw _ (List.mem_of_getElem? (i := 92) rfl)
theorem W_93 {Z : State} {aw : Array Value} (hw : ∀ d ∈ tables_1, d.before aw Z = true) : (Jvm.Cond.methodLink "java/lang/Number" (1 : Nat) ({ cls := "java/lang/Object", name := "<init>", desc := "()V" } : Jvm.MethodName)).before aw Z = true := hw _ (List.mem_of_getElem? (i := 93) rfl)
theorem d_jdk_30_method_1_code_0 : decode jdk_30_method_1_code 0 = .ok (.aload_n 0, 1) := by decide +kernel
theorem d_jdk_30_method_1_code_1 : decode jdk_30_method_1_code 1 = .ok (.invokespecial 1, 3) := by decide +kernel
theorem d_jdk_30_method_1_code_4 : decode jdk_30_method_1_code 4 = .ok (.return_, 1) := by decide +kernel
theorem d_jdk_18_method_1_code_0 : decode jdk_18_method_1_code 0 = .ok (.aload_n 0, 1) := by decide +kernel
theorem d_jdk_18_method_1_code_1 : decode jdk_18_method_1_code 1 = .ok (.invokespecial 1, 3) := by decide +kernel
theorem d_jdk_18_method_1_code_4 : decode jdk_18_method_1_code 4 = .ok (.return_, 1) := by decide +kernel
theorem d_jdk_35_method_26_code_0 : decode jdk_35_method_26_code 0 = .ok (.aload_n 0, 1) := by decide +kernel
theorem d_jdk_35_method_26_code_1 : decode jdk_35_method_26_code 1 = .ok (.invokespecial 270, 3) := by decide +kernel
theorem d_jdk_35_method_26_code_4 : decode jdk_35_method_26_code 4 = .ok (.aload_n 0, 1) := by decide +kernel
theorem d_jdk_35_method_26_code_5 : decode jdk_35_method_26_code 5 = .ok (.lload_n 1, 1) := by decide +kernel
theorem d_jdk_35_method_26_code_6 : decode jdk_35_method_26_code 6 = .ok (.putfield 273, 3) := by decide +kernel
theorem d_jdk_35_method_26_code_9 : decode jdk_35_method_26_code 9 = .ok (.return_, 1) := by decide +kernel
theorem d_jdk_35_method_31_code_0 : decode jdk_35_method_31_code 0 = .ok (.aload_n 0, 1) := by decide +kernel
theorem d_jdk_35_method_31_code_1 : decode jdk_35_method_31_code 1 = .ok (.getfield 273, 3) := by decide +kernel
theorem d_jdk_35_method_31_code_4 : decode jdk_35_method_31_code 4 = .ok (.lreturn, 1) := by decide +kernel
theorem d_jdk_35_method_24_code_0 : decode jdk_35_method_24_code 0 = .ok (.sipush 128, 3) := by decide +kernel
theorem d_jdk_35_method_24_code_3 : decode jdk_35_method_24_code 3 = .ok (.istore_n 2, 1) := by decide +kernel
theorem d_jdk_35_method_24_code_4 : decode jdk_35_method_24_code 4 = .ok (.lload_n 0, 1) := by decide +kernel
theorem d_jdk_35_method_24_code_5 : decode jdk_35_method_24_code 5 = .ok (.ldc2_w 230, 3) := by decide +kernel
theorem d_jdk_35_method_24_code_8 : decode jdk_35_method_24_code 8 = .ok (.lcmp, 1) := by decide +kernel
theorem d_jdk_35_method_24_code_9 : decode jdk_35_method_24_code 9 = .ok (.ifCond .lt 22, 3) := by decide +kernel
theorem d_jdk_35_method_24_code_31 : decode jdk_35_method_24_code 31 = .ok (.new 1, 3) := by decide +kernel
theorem d_jdk_35_method_24_code_34 : decode jdk_35_method_24_code 34 = .ok (.dup, 1) := by decide +kernel
theorem d_jdk_35_method_24_code_35 : decode jdk_35_method_24_code 35 = .ok (.lload_n 0, 1) := by decide +kernel
theorem d_jdk_35_method_24_code_36 : decode jdk_35_method_24_code 36 = .ok (.invokespecial 240, 3) := by decide +kernel
theorem d_jdk_35_method_24_code_39 : decode jdk_35_method_24_code 39 = .ok (.areturn, 1) := by decide +kernel
theorem d_jdk_35_method_24_code_12 : decode jdk_35_method_24_code 12 = .ok (.lload_n 0, 1) := by decide +kernel
theorem d_jdk_35_method_24_code_13 : decode jdk_35_method_24_code 13 = .ok (.ldc2_w 232, 3) := by decide +kernel
theorem d_jdk_35_method_24_code_16 : decode jdk_35_method_24_code 16 = .ok (.lcmp, 1) := by decide +kernel
theorem d_jdk_35_method_24_code_17 : decode jdk_35_method_24_code 17 = .ok (.ifCond .gt 14, 3) := by decide +kernel
theorem d_jdk_35_method_24_code_20 : decode jdk_35_method_24_code 20 = .ok (.getstatic 234, 3) := by decide +kernel
theorem d_jdk_35_method_24_code_23 : decode jdk_35_method_24_code 23 = .ok (.lload_n 0, 1) := by decide +kernel
theorem d_jdk_35_method_24_code_24 : decode jdk_35_method_24_code 24 = .ok (.l2i, 1) := by decide +kernel
theorem d_jdk_35_method_24_code_25 : decode jdk_35_method_24_code 25 = .ok (.sipush 128, 3) := by decide +kernel
theorem d_jdk_35_method_24_code_28 : decode jdk_35_method_24_code 28 = .ok (.iadd, 1) := by decide +kernel
theorem d_jdk_35_method_24_code_29 : decode jdk_35_method_24_code 29 = .ok (.aaload, 1) := by decide +kernel
theorem d_jdk_35_method_24_code_30 : decode jdk_35_method_24_code 30 = .ok (.areturn, 1) := by decide +kernel
theorem d_prog_2_method_1_code_0 : decode prog_2_method_1_code 0 = .ok (.aload_n 0, 1) := by decide +kernel
theorem d_prog_2_method_1_code_1 : decode prog_2_method_1_code 1 = .ok (.invokespecial 1, 3) := by decide +kernel
theorem d_prog_2_method_1_code_4 : decode prog_2_method_1_code 4 = .ok (.lload_n 1, 1) := by decide +kernel
theorem d_prog_2_method_1_code_5 : decode prog_2_method_1_code 5 = .ok (.lconst 0, 1) := by decide +kernel
theorem d_prog_2_method_1_code_6 : decode prog_2_method_1_code 6 = .ok (.lcmp, 1) := by decide +kernel
theorem d_prog_2_method_1_code_7 : decode prog_2_method_1_code 7 = .ok (.ifCond .lt 38, 3) := by decide +kernel
theorem d_prog_2_method_1_code_10 : decode prog_2_method_1_code 10 = .ok (.lload_n 3, 1) := by decide +kernel
theorem d_prog_2_method_1_code_11 : decode prog_2_method_1_code 11 = .ok (.lconst 0, 1) := by decide +kernel
theorem d_prog_2_method_1_code_12 : decode prog_2_method_1_code 12 = .ok (.lcmp, 1) := by decide +kernel
theorem d_prog_2_method_1_code_13 : decode prog_2_method_1_code 13 = .ok (.ifCond .lt 32, 3) := by decide +kernel
theorem d_prog_2_method_1_code_16 : decode prog_2_method_1_code 16 = .ok (.lload 5, 2) := by decide +kernel
theorem d_prog_2_method_1_code_18 : decode prog_2_method_1_code 18 = .ok (.lconst 0, 1) := by decide +kernel
theorem d_prog_2_method_1_code_19 : decode prog_2_method_1_code 19 = .ok (.lcmp, 1) := by decide +kernel
theorem d_prog_2_method_1_code_20 : decode prog_2_method_1_code 20 = .ok (.ifCond .lt 25, 3) := by decide +kernel
theorem d_prog_2_method_1_code_23 : decode prog_2_method_1_code 23 = .ok (.lload 5, 2) := by decide +kernel
theorem d_prog_2_method_1_code_25 : decode prog_2_method_1_code 25 = .ok (.lload_n 3, 1) := by decide +kernel
theorem d_prog_2_method_1_code_26 : decode prog_2_method_1_code 26 = .ok (.lcmp, 1) := by decide +kernel
theorem d_prog_2_method_1_code_27 : decode prog_2_method_1_code 27 = .ok (.ifCond .gt 18, 3) := by decide +kernel
theorem d_prog_2_method_1_code_30 : decode prog_2_method_1_code 30 = .ok (.aload 7, 2) := by decide +kernel
theorem d_prog_2_method_1_code_32 : decode prog_2_method_1_code 32 = .ok (.ifnonnull 8, 3) := by decide +kernel
theorem d_prog_2_method_1_code_35 : decode prog_2_method_1_code 35 = .ok (.aload 8, 2) := by decide +kernel
theorem d_prog_2_method_1_code_37 : decode prog_2_method_1_code 37 = .ok (.ifnull 84, 3) := by decide +kernel
theorem d_prog_2_method_1_code_121 : decode prog_2_method_1_code 121 = .ok (.aload_n 0, 1) := by decide +kernel
theorem d_prog_2_method_1_code_122 : decode prog_2_method_1_code 122 = .ok (.lload_n 1, 1) := by decide +kernel
theorem d_prog_2_method_1_code_123 : decode prog_2_method_1_code 123 = .ok (.putfield 41, 3) := by decide +kernel
theorem d_prog_2_method_1_code_126 : decode prog_2_method_1_code 126 = .ok (.aload_n 0, 1) := by decide +kernel
theorem d_prog_2_method_1_code_127 : decode prog_2_method_1_code 127 = .ok (.lload_n 3, 1) := by decide +kernel
theorem d_prog_2_method_1_code_128 : decode prog_2_method_1_code 128 = .ok (.putfield 47, 3) := by decide +kernel
theorem d_prog_2_method_1_code_131 : decode prog_2_method_1_code 131 = .ok (.aload_n 0, 1) := by decide +kernel
theorem d_prog_2_method_1_code_132 : decode prog_2_method_1_code 132 = .ok (.lload 5, 2) := by decide +kernel
theorem d_prog_2_method_1_code_134 : decode prog_2_method_1_code 134 = .ok (.putfield 50, 3) := by decide +kernel
theorem d_prog_2_method_1_code_137 : decode prog_2_method_1_code 137 = .ok (.aload_n 0, 1) := by decide +kernel
theorem d_prog_2_method_1_code_138 : decode prog_2_method_1_code 138 = .ok (.aload 7, 2) := by decide +kernel
theorem d_prog_2_method_1_code_140 : decode prog_2_method_1_code 140 = .ok (.putfield 53, 3) := by decide +kernel
theorem d_prog_2_method_1_code_143 : decode prog_2_method_1_code 143 = .ok (.aload_n 0, 1) := by decide +kernel
theorem d_prog_2_method_1_code_144 : decode prog_2_method_1_code 144 = .ok (.aload 8, 2) := by decide +kernel
theorem d_prog_2_method_1_code_146 : decode prog_2_method_1_code 146 = .ok (.putfield 57, 3) := by decide +kernel
theorem d_prog_2_method_1_code_149 : decode prog_2_method_1_code 149 = .ok (.aload_n 0, 1) := by decide +kernel
theorem d_prog_2_method_1_code_150 : decode prog_2_method_1_code 150 = .ok (.aload 9, 2) := by decide +kernel
theorem d_prog_2_method_1_code_152 : decode prog_2_method_1_code 152 = .ok (.putfield 61, 3) := by decide +kernel
theorem d_prog_2_method_1_code_155 : decode prog_2_method_1_code 155 = .ok (.return_, 1) := by decide +kernel
theorem d_prog_2_method_1_code_40 : decode prog_2_method_1_code 40 = .ok (.aload 9, 2) := by decide +kernel
theorem d_prog_2_method_1_code_42 : decode prog_2_method_1_code 42 = .ok (.ifnull 79, 3) := by decide +kernel
theorem d_prog_2_method_2_code_0 : decode prog_2_method_2_code 0 = .ok (.aload_n 0, 1) := by decide +kernel
theorem d_prog_2_method_2_code_1 : decode prog_2_method_2_code 1 = .ok (.lload_n 1, 1) := by decide +kernel
theorem d_prog_2_method_2_code_2 : decode prog_2_method_2_code 2 = .ok (.lload_n 3, 1) := by decide +kernel
theorem d_prog_2_method_2_code_3 : decode prog_2_method_2_code 3 = .ok (.lload 5, 2) := by decide +kernel
theorem d_prog_2_method_2_code_5 : decode prog_2_method_2_code 5 = .ok (.aconst_null, 1) := by decide +kernel
theorem d_prog_2_method_2_code_6 : decode prog_2_method_2_code 6 = .ok (.aconst_null, 1) := by decide +kernel
theorem d_prog_2_method_2_code_7 : decode prog_2_method_2_code 7 = .ok (.aconst_null, 1) := by decide +kernel
theorem d_prog_2_method_2_code_8 : decode prog_2_method_2_code 8 = .ok (.invokespecial 64, 3) := by decide +kernel
theorem d_prog_2_method_2_code_11 : decode prog_2_method_2_code 11 = .ok (.return_, 1) := by decide +kernel
theorem d_prog_2_method_5_code_0 : decode prog_2_method_5_code 0 = .ok (.new 42, 3) := by decide +kernel
theorem d_prog_2_method_5_code_3 : decode prog_2_method_5_code 3 = .ok (.dup, 1) := by decide +kernel
theorem d_prog_2_method_5_code_4 : decode prog_2_method_5_code 4 = .ok (.aload_n 0, 1) := by decide +kernel
theorem d_prog_2_method_5_code_5 : decode prog_2_method_5_code 5 = .ok (.getfield 41, 3) := by decide +kernel
theorem d_prog_2_method_5_code_8 : decode prog_2_method_5_code 8 = .ok (.aload_n 0, 1) := by decide +kernel
theorem d_prog_2_method_5_code_9 : decode prog_2_method_5_code 9 = .ok (.getfield 47, 3) := by decide +kernel
theorem d_prog_2_method_5_code_12 : decode prog_2_method_5_code 12 = .ok (.aload_n 0, 1) := by decide +kernel
theorem d_prog_2_method_5_code_13 : decode prog_2_method_5_code 13 = .ok (.getfield 50, 3) := by decide +kernel
theorem d_prog_2_method_5_code_16 : decode prog_2_method_5_code 16 = .ok (.aload_n 0, 1) := by decide +kernel
theorem d_prog_2_method_5_code_17 : decode prog_2_method_5_code 17 = .ok (.getfield 53, 3) := by decide +kernel
theorem d_prog_2_method_5_code_20 : decode prog_2_method_5_code 20 = .ok (.lload_n 1, 1) := by decide +kernel
theorem d_prog_2_method_5_code_21 : decode prog_2_method_5_code 21 = .ok (.invokestatic 67, 3) := by decide +kernel
theorem d_prog_2_method_5_code_24 : decode prog_2_method_5_code 24 = .ok (.aload_n 0, 1) := by decide +kernel
theorem d_prog_2_method_5_code_25 : decode prog_2_method_5_code 25 = .ok (.getfield 61, 3) := by decide +kernel
theorem d_prog_2_method_5_code_28 : decode prog_2_method_5_code 28 = .ok (.invokespecial 64, 3) := by decide +kernel
theorem d_prog_2_method_5_code_31 : decode prog_2_method_5_code 31 = .ok (.areturn, 1) := by decide +kernel
theorem d_prog_2_method_10_code_0 : decode prog_2_method_10_code 0 = .ok (.aload_n 0, 1) := by decide +kernel
theorem d_prog_2_method_10_code_1 : decode prog_2_method_10_code 1 = .ok (.getfield 41, 3) := by decide +kernel
theorem d_prog_2_method_10_code_4 : decode prog_2_method_10_code 4 = .ok (.lreturn, 1) := by decide +kernel
theorem d_prog_2_method_11_code_0 : decode prog_2_method_11_code 0 = .ok (.aload_n 0, 1) := by decide +kernel
theorem d_prog_2_method_11_code_1 : decode prog_2_method_11_code 1 = .ok (.getfield 47, 3) := by decide +kernel
theorem d_prog_2_method_11_code_4 : decode prog_2_method_11_code 4 = .ok (.lreturn, 1) := by decide +kernel
theorem d_prog_2_method_12_code_0 : decode prog_2_method_12_code 0 = .ok (.aload_n 0, 1) := by decide +kernel
theorem d_prog_2_method_12_code_1 : decode prog_2_method_12_code 1 = .ok (.getfield 50, 3) := by decide +kernel
theorem d_prog_2_method_12_code_4 : decode prog_2_method_12_code 4 = .ok (.lreturn, 1) := by decide +kernel
theorem d_prog_2_method_13_code_0 : decode prog_2_method_13_code 0 = .ok (.aload_n 0, 1) := by decide +kernel
theorem d_prog_2_method_13_code_1 : decode prog_2_method_13_code 1 = .ok (.getfield 53, 3) := by decide +kernel
theorem d_prog_2_method_13_code_4 : decode prog_2_method_13_code 4 = .ok (.areturn, 1) := by decide +kernel
theorem d_prog_2_method_14_code_0 : decode prog_2_method_14_code 0 = .ok (.aload_n 0, 1) := by decide +kernel
theorem d_prog_2_method_14_code_1 : decode prog_2_method_14_code 1 = .ok (.getfield 57, 3) := by decide +kernel
theorem d_prog_2_method_14_code_4 : decode prog_2_method_14_code 4 = .ok (.areturn, 1) := by decide +kernel
theorem d_prog_2_method_15_code_0 : decode prog_2_method_15_code 0 = .ok (.aload_n 0, 1) := by decide +kernel
theorem d_prog_2_method_15_code_1 : decode prog_2_method_15_code 1 = .ok (.getfield 61, 3) := by decide +kernel
theorem d_prog_2_method_15_code_4 : decode prog_2_method_15_code 4 = .ok (.areturn, 1) := by decide +kernel
theorem pn_0 : plainName "java/lang/Record" = true := by first | (simp [plainName, overriddenIn]; done) | decide +kernel
theorem pn_1 : plainName "java/lang/Number" = true := by first | (simp [plainName, overriddenIn]; done) | decide +kernel
theorem pn_2 : plainName "java/lang/Long" = true := by first | (simp [plainName, overriddenIn]; done) | decide +kernel
theorem pd_3 : parseMethodDescriptor "()V" = some ⟨[], none⟩ := by decide +kernel
theorem pd_4 : parseMethodDescriptor "(J)V" = some ⟨[.long], none⟩ := by decide +kernel
theorem pn_5 : plainName "com/example/trailkeep/trailkeep/journal/InputPosition" = true := by first | (simp [plainName, overriddenIn]; done) | decide +kernel
theorem pd_6 : parseMethodDescriptor "(JJJLjava/util/UUID;Ljava/lang/Long;Ljava/lang/Long;)V" = some ⟨[.long, .long, .long, (.object "java/util/UUID"), (.object "java/lang/Long"), (.object "java/lang/Long")], none⟩ := by decide +kernel
theorem pd_7 : parseMethodDescriptor "(J)Ljava/lang/Long;" = some ⟨[.long], some (.object "java/lang/Long")⟩ := by decide +kernel
theorem pn_8 : plainName "com/example/trailkeep/trailkeep/journal/InputPositionWithBornPinLaw" = true := by first | (simp [plainName, overriddenIn]; done) | decide +kernel
theorem pd_9 : parseMethodDescriptor "(JJJ)V" = some ⟨[.long, .long, .long], none⟩ := by decide +kernel
theorem pd_10 : parseMethodDescriptor "(J)Lcom/example/trailkeep/trailkeep/journal/InputPosition;" = some ⟨[.long], some (.object "com/example/trailkeep/trailkeep/journal/InputPosition")⟩ := by decide +kernel
theorem pd_11 : parseMethodDescriptor "()Ljava/lang/Long;" = some ⟨[], some (.object "java/lang/Long")⟩ := by decide +kernel
theorem pd_12 : parseMethodDescriptor "()J" = some ⟨[], some .long⟩ := by decide +kernel
theorem pd_13 : parseMethodDescriptor "()Ljava/util/UUID;" = some ⟨[], some (.object "java/util/UUID")⟩ := by decide +kernel
theorem ef_recInit (m : MethodId) (a : Addr) : entryFrame m #[(.ref a)] 1 = mkF m 0 #[.val (.ref a)] [] := by first | (simp [entryFrame, mkF, argsToLocals, Value.category]; done) | rfl
set_option maxRecDepth 65536 in
set_option maxHeartbeats 40000000 in
theorem recInit (l : Launch) (Z : State) (aw : Array Value) (hw : ∀ d ∈ tables_1, d.before aw Z = true) (a : Addr) {h0 : Heap} {n0 : Nat} (O : Old Z n0 h0) :
    MET l Z (⟨"java/lang/Record", "<init>", "()V"⟩ : MethodName) jdk_30_method_1_code 1 none ({ frames := 1, cells := 0, slots := 0, locals := 12 } : Room) #[(.ref a)] h0 n0 (fun vv hh => vv = none ∧ hh = h0) := by
  refine metOf (plainFor_of_name pn_0) ?_
  intro p e s m below meth c T hx hby hml hrt hlk hnm hZ hown X e0
  replace hml : c.maxLocals = 1 := hml
  replace hnm : meth.name = "<init>" := hnm
  replace hown : s.vm.findClass "java/lang/Record" = some m.cls := hown
  have N := Fr.nil n0
  have zO := O.le
  refine goCast (ef_recInit m a) ?_
  show Goes _ _ _ _ _ _ _ _ (T.setTop (mkF m 0 #[.val (.ref a)] []))
  refine Goes.via (fun _ k => XS.aloadN X.here hx rfl (hb hby d_jdk_30_method_1_code_0) rfl rfl k) ?_
  show Goes _ _ _ _ _ _ _ _ (T.setTop (mkF m 1 #[.val (.ref a)] [(.ref a)]))
  obtain ⟨Tq1, Xq1, eq1, stq1⟩ := initO X hx hZ hown (W_15 hw) (W_16 hw) (W_17 hw) e0 (g := (mkF m 1 #[.val (.ref a)] [(.ref a)])) rfl (by rw [hml]; rfl) rfl (hb hby d_jdk_30_method_1_code_1) (by decide) (W := 0) (by show 2 * 0 + _ ≤ _; exact Nat.le_of_eq rfl) (by decide)
  refine Goes.via stq1 ?_
  show Goes _ _ _ _ _ _ _ _ (Tq1.setTop (mkF m 4 #[.val (.ref a)] []))
  refine goRetV Xq1 hx hrt hlk N (by decide) (by decide) (hb hby d_jdk_30_method_1_code_4) ?_
  try rw [eq1]
  exact ⟨rfl, rfl⟩
theorem ef_numInit (m : MethodId) (a : Addr) : entryFrame m #[(.ref a)] 1 = mkF m 0 #[.val (.ref a)] [] := by first | (simp [entryFrame, mkF, argsToLocals, Value.category]; done) | rfl
set_option maxRecDepth 65536 in
set_option maxHeartbeats 40000000 in
theorem numInit (l : Launch) (Z : State) (aw : Array Value) (hw : ∀ d ∈ tables_1, d.before aw Z = true) (a : Addr) {h0 : Heap} {n0 : Nat} (O : Old Z n0 h0) :
    MET l Z (⟨"java/lang/Number", "<init>", "()V"⟩ : MethodName) jdk_18_method_1_code 1 none ({ frames := 1, cells := 0, slots := 0, locals := 12 } : Room) #[(.ref a)] h0 n0 (fun vv hh => vv = none ∧ hh = h0) := by
  refine metOf (plainFor_of_name pn_1) ?_
  intro p e s m below meth c T hx hby hml hrt hlk hnm hZ hown X e0
  replace hml : c.maxLocals = 1 := hml
  replace hnm : meth.name = "<init>" := hnm
  replace hown : s.vm.findClass "java/lang/Number" = some m.cls := hown
  have N := Fr.nil n0
  have zO := O.le
  refine goCast (ef_numInit m a) ?_
  show Goes _ _ _ _ _ _ _ _ (T.setTop (mkF m 0 #[.val (.ref a)] []))
  refine Goes.via (fun _ k => XS.aloadN X.here hx rfl (hb hby d_jdk_18_method_1_code_0) rfl rfl k) ?_
  show Goes _ _ _ _ _ _ _ _ (T.setTop (mkF m 1 #[.val (.ref a)] [(.ref a)]))
  obtain ⟨Tq1, Xq1, eq1, stq1⟩ := initO X hx hZ hown (W_93 hw) (W_16 hw) (W_17 hw) e0 (g := (mkF m 1 #[.val (.ref a)] [(.ref a)])) rfl (by rw [hml]; rfl) rfl (hb hby d_jdk_18_method_1_code_1) (by decide) (W := 0) (by show 2 * 0 + _ ≤ _; exact Nat.le_of_eq rfl) (by decide)
  refine Goes.via stq1 ?_
  show Goes _ _ _ _ _ _ _ _ (Tq1.setTop (mkF m 4 #[.val (.ref a)] []))
  refine goRetV Xq1 hx hrt hlk N (by decide) (by decide) (hb hby d_jdk_18_method_1_code_4) ?_
  try rw [eq1]
  exact ⟨rfl, rfl⟩
theorem ef_longInit (m : MethodId) (a : Addr) (v : Int64) : entryFrame m #[(.ref a), (.long v)] 3 = mkF m 0 #[.val (.ref a), .val (.long v), .second] [] := by first | (simp [entryFrame, mkF, argsToLocals, Value.category]; done) | rfl
set_option maxRecDepth 65536 in
set_option maxHeartbeats 40000000 in
theorem longInit (l : Launch) (Z : State) (aw : Array Value) (hw : ∀ d ∈ tables_1, d.before aw Z = true) (a : Addr) (v : Int64) {h0 : Heap} {n0 : Nat} (O : Old Z n0 h0) (E : Exa Z h0 a "java/lang/Long") (F : Fld Z h0 a "java/lang/Long" "value" "J" (.long (0 : Int64))) (ga : n0 ≤ a) :
    MET l Z (⟨"java/lang/Long", "<init>", "(J)V"⟩ : MethodName) jdk_35_method_26_code 3 none ({ frames := 2, cells := 0, slots := 0, locals := 24 } : Room) #[(.ref a), (.long v)] h0 n0 (fun vv hh => vv = none ∧ Keep h0 hh [a] ∧ Exa Z hh a "java/lang/Long" ∧ Fld Z hh a "java/lang/Long" "value" "J" (.long v)) := by
  refine metOf (plainFor_of_name pn_2) ?_
  intro p e s m below meth c T hx hby hml hrt hlk hnm hZ hown X e0
  replace hml : c.maxLocals = 3 := hml
  replace hnm : meth.name = "<init>" := hnm
  replace hown : s.vm.findClass "java/lang/Long" = some m.cls := hown
  have N := Fr.nil n0
  have zO := O.le
  refine goCast (ef_longInit m a v) ?_
  have lt_a := E.lt
  show Goes _ _ _ _ _ _ _ _ (T.setTop (mkF m 0 #[.val (.ref a), .val (.long v), .second] []))
  refine Goes.via (fun _ k => XS.aloadN X.here hx rfl (hb hby d_jdk_35_method_26_code_0) rfl rfl k) ?_
  show Goes _ _ _ _ _ _ _ _ (T.setTop (mkF m 1 #[.val (.ref a), .val (.long v), .second] [(.ref a)]))
  obtain ⟨vq1, Tq1, Lq1, Xq1, qq1, nq1, stq1⟩ := callSp X hx hZ hown (numInit l Z aw hw a O) rfl (W_87 hw) (W_88 hw) (W_91 hw) (W_92 hw) (by decide) e0 (by decide) (W := 0) (by decide) (by decide) (by decide) (g := (mkF m 1 #[.val (.ref a), .val (.long v), .second] [(.ref a)])) rfl (by rw [hml]; rfl) (a := a) (argsL := []) (rest := []) rfl (lenOf pd_3 rfl) rfl (by show 2 * 0 + _ ≤ _; exact Nat.le_of_eq rfl) (hb hby d_jdk_35_method_26_code_1)
  obtain ⟨rfl, pq1_0⟩ := qq1
  have Nq1 := Fr.app N nq1
  refine Goes.via stq1 ?_
  show Goes _ _ _ _ _ _ _ _ (Tq1.setTop (mkF m 4 #[.val (.ref a), .val (.long v), .second] []))
  refine Goes.via (fun _ k => XS.aloadN Xq1.here hx rfl (hb hby d_jdk_35_method_26_code_4) rfl rfl k) ?_
  show Goes _ _ _ _ _ _ _ _ (Tq1.setTop (mkF m 5 #[.val (.ref a), .val (.long v), .second] [(.ref a)]))
  refine Goes.via (fun _ k => XT.lloadN Xq1.here hx rfl (hb hby d_jdk_35_method_26_code_5) rfl k) ?_
  show Goes _ _ _ _ _ _ _ _ (Tq1.setTop (mkF m 6 #[.val (.ref a), .val (.long v), .second] [(.long v), (.ref a)]))
  obtain ⟨Tq2, hq2, Xq2, eq2, Wq2, stq2⟩ := putF Xq1 hx hZ hown (host := "") (Or.inl (W_54 hw)) Via.refl pq1_0 F E (Or.inr ⟨(W_55 hw), rfl, hnm⟩) (W_82 hw) (ty := .long) (by decide) rfl rfl (g := (mkF m 6 #[.val (.ref a), .val (.long v), .second] [(.long v), (.ref a)])) rfl rfl (hb hby d_jdk_35_method_26_code_6)
  have Nq2 := Fr.snoc Xq2 Nq1 (by omega)
  have zq2 := Wq2.size
  have Oq2 := O.wr Wq2 (by omega)
  have Fq2 : Fld Z hq2 a "java/lang/Long" "value" "J" (.long v) := F.same Wq2
  refine Goes.via stq2 ?_
  show Goes _ _ _ _ _ _ _ _ (Tq2.setTop (mkF m 9 #[.val (.ref a), .val (.long v), .second] []))
  refine goRetV Xq2 hx hrt hlk Nq2 (by decide) (by decide) (hb hby d_jdk_35_method_26_code_9) ?_
  try rw [eq2]
  have fq3 : Exa Z hq2 a "java/lang/Long" := (E.wr Wq2)
  exact ⟨rfl, ((Keep.refl _ [a]).wr Wq2 (Or.inl (by simp))), fq3, Fq2⟩
theorem ef_longValue (m : MethodId) (a : Addr) : entryFrame m #[(.ref a)] 1 = mkF m 0 #[.val (.ref a)] [] := by first | (simp [entryFrame, mkF, argsToLocals, Value.category]; done) | rfl
set_option maxRecDepth 65536 in
set_option maxHeartbeats 40000000 in
theorem longValue (l : Launch) (Z : State) (aw : Array Value) (hw : ∀ d ∈ tables_1, d.before aw Z = true) (a : Addr) (v : Int64) {h0 : Heap} {n0 : Nat} (O : Old Z n0 h0) (F : Fld Z h0 a "java/lang/Long" "value" "J" (.long v)) :
    MET l Z (⟨"java/lang/Long", "longValue", "()J"⟩ : MethodName) jdk_35_method_31_code 1 (some .long) ({ frames := 0, cells := 0, slots := 0, locals := 0 } : Room) #[(.ref a)] h0 n0 (fun vv hh => vv = some (.long v) ∧ hh = h0) := by
  refine metOf (plainFor_of_name pn_2) ?_
  intro p e s m below meth c T hx hby hml hrt hlk hnm hZ hown X e0
  replace hml : c.maxLocals = 1 := hml
  replace hnm : meth.name = "longValue" := hnm
  replace hown : s.vm.findClass "java/lang/Long" = some m.cls := hown
  have N := Fr.nil n0
  have zO := O.le
  refine goCast (ef_longValue m a) ?_
  have lt_a := F.lt
  show Goes _ _ _ _ _ _ _ _ (T.setTop (mkF m 0 #[.val (.ref a)] []))
  refine Goes.via (fun _ k => XS.aloadN X.here hx rfl (hb hby d_jdk_35_method_31_code_0) rfl rfl k) ?_
  show Goes _ _ _ _ _ _ _ _ (T.setTop (mkF m 1 #[.val (.ref a)] [(.ref a)]))
  obtain ⟨Tq1, Xq1, eq1, stq1⟩ := getF X hx hZ hown (host := "") (Or.inl (W_54 hw)) Via.refl e0 F (g := (mkF m 1 #[.val (.ref a)] [(.ref a)])) rfl rfl (hb hby d_jdk_35_method_31_code_1)
  refine Goes.via stq1 ?_
  show Goes _ _ _ _ _ _ _ _ (Tq1.setTop (mkF m 4 #[.val (.ref a)] [(.long v)]))
  refine goRetJ Xq1 hx hrt hlk N (by decide) (by decide) (hb hby d_jdk_35_method_31_code_4) ?_
  try rw [eq1]
  exact ⟨rfl, rfl⟩
theorem box_ix {v : Int64} (h1 : ¬ v < (-128 : Int64)) (h2 : ¬ (127 : Int64) < v) : (¬ (v.toInt32 + (128 : Int32)) < 0 ∧ (v.toInt32 + (128 : Int32)) < (256 : Int32)) ∧ (v.toInt32 + (128 : Int32) - (128 : Int32)).toInt64 = v := by
  rw [Int64.lt_iff_toInt_lt] at h1 h2
  have e1 : (-128 : Int64).toInt = -128 := by decide
  have e2 : (127 : Int64).toInt = 127 := by decide
  have e3 : (128 : Int32).toInt = 128 := by decide
  have e4 : (256 : Int32).toInt = 256 := by decide
  have e5 : (0 : Int32).toInt = 0 := by decide
  have q0 := XT.narrowInt (x := v) ⟨by omega, by omega⟩
  have q1 : (v.toInt32 + (128 : Int32)).toInt = v.toInt + 128 := by rw [XT.add32 ⟨by omega, by omega⟩, q0, e3]
  have q2 : (v.toInt32 + (128 : Int32) - (128 : Int32)).toInt = v.toInt := by rw [XT.sub32 ⟨by omega, by omega⟩, q1, e3]; omega
  refine ⟨⟨?_, ?_⟩, ?_⟩
  · rw [Int32.lt_iff_toInt_lt]; omega
  · rw [Int32.lt_iff_toInt_lt]; omega
  · apply Int64.toInt_inj.mp; rw [Int32.toInt_toInt64, q2]
theorem ef_valueOf (m : MethodId) (v : Int64) : entryFrame m #[(.long v)] 3 = mkF m 0 #[.val (.long v), .second, .unset] [] := by first | (simp [entryFrame, mkF, argsToLocals, Value.category]; done) | rfl
set_option maxRecDepth 65536 in
set_option maxHeartbeats 40000000 in
theorem valueOf (l : Launch) (Z : State) (aw : Array Value) (hw : ∀ d ∈ tables_1, d.before aw Z = true) (v : Int64) (ar : Addr) (c0 : Cell) {h0 : Heap} {n0 : Nat} (O : Old Z n0 h0) (S0 : Sta Z Z.heap "java/lang/Long$LongCache" "cache" "[Ljava/lang/Long;" (.ref ar)) (A0 : Arr Z Z.heap ar c0 (.object "java/lang/Long")) (Sz : c0.slots.size = (256 : Int32).toNatClampNeg) (CH : ∀ j : Int32, ¬ j < 0 → j < (256 : Int32) → ∃ r, c0.slots[j.toNatClampNeg]? = some (.ref r) ∧ Exa Z Z.heap r "java/lang/Long" ∧ Fld Z Z.heap r "java/lang/Long" "value" "J" (.long (j - (128 : Int32)).toInt64)) :
    MET l Z (⟨"java/lang/Long", "valueOf", "(J)Ljava/lang/Long;"⟩ : MethodName) jdk_35_method_24_code 3 (some (.object "java/lang/Long")) ({ frames := 3, cells := 1, slots := 1, locals := 42 } : Room) #[(.long v)] h0 n0 (fun vv hh => ∃ r : Addr, vv = some (.ref r) ∧ Keep h0 hh [] ∧ Exa Z hh r "java/lang/Long" ∧ Fld Z hh r "java/lang/Long" "value" "J" (.long v)) := by
  refine metOf (plainFor_of_name pn_2) ?_
  intro p e s m below meth c T hx hby hml hrt hlk hnm hZ hown X e0
  replace hml : c.maxLocals = 3 := hml
  replace hnm : meth.name = "valueOf" := hnm
  replace hown : s.vm.findClass "java/lang/Long" = some m.cls := hown
  have N := Fr.nil n0
  have zO := O.le
  refine goCast (ef_valueOf m v) ?_
  show Goes _ _ _ _ _ _ _ _ (T.setTop (mkF m 0 #[.val (.long v), .second, .unset] []))
  refine Goes.via (fun _ k => XT.sipushV X.here hx rfl (128 : Int32) (hb hby d_jdk_35_method_24_code_0) (by decide) k) ?_
  show Goes _ _ _ _ _ _ _ _ (T.setTop (mkF m 3 #[.val (.long v), .second, .unset] [(.int (128 : Int32))]))
  refine Goes.via (fun _ k => XS.istoreN X.here hx rfl (hb hby d_jdk_35_method_24_code_3) rfl (l' := #[.val (.long v), .second, .val (.int (128 : Int32))]) rfl k) ?_
  show Goes _ _ _ _ _ _ _ _ (T.setTop (mkF m 4 #[.val (.long v), .second, .val (.int (128 : Int32))] []))
  refine Goes.via (fun _ k => XT.lloadN X.here hx rfl (hb hby d_jdk_35_method_24_code_4) rfl k) ?_
  show Goes _ _ _ _ _ _ _ _ (T.setTop (mkF m 5 #[.val (.long v), .second, .val (.int (128 : Int32))] [(.long v)]))
  refine Goes.via (fun _ k => X.ldc2J hx hown (mvT hZ (W_40 hw)) (g := (mkF m 5 #[.val (.long v), .second, .val (.int (128 : Int32))] [(.long v)])) rfl (hb hby d_jdk_35_method_24_code_5) k) ?_
  show Goes _ _ _ _ _ _ _ _ (T.setTop (mkF m 8 #[.val (.long v), .second, .val (.int (128 : Int32))] [(.long (-128 : Int64)), (.long v)]))
  refine Goes.via (fun _ k => XT.lcmp X.here hx rfl (hb hby d_jdk_35_method_24_code_8) rfl k) ?_
  show Goes _ _ _ _ _ _ _ _ (T.setTop (mkF m 9 #[.val (.long v), .second, .val (.int (128 : Int32))] [(.int (XT.cmpL v (-128 : Int64)))]))
  by_cases cq1 : v < (-128 : Int64)
  · skip
    refine Goes.via (fun _ k => XS.ifYes X.here hx rfl (pc0 := 9) (pc' := 31) rfl (hb hby d_jdk_35_method_24_code_9) rfl (XT.ll_lt_t cq1) (by decide) (by decide) k) ?_
    show Goes _ _ _ _ _ _ _ _ (T.setTop (mkF m 31 #[.val (.long v), .second, .val (.int (128 : Int32))] []))
    obtain ⟨Tq2, hq2, Xq2, eq2, Eq2, Aq2, Dq2, -, stq2⟩ := newO X hx hZ hown (W_81 hw) (W_82 hw) (W_38 hw) e0 (g := (mkF m 31 #[.val (.long v), .second, .val (.int (128 : Int32))] [])) rfl (hb hby d_jdk_35_method_24_code_31) (by decide) (by decide)
    obtain ⟨bq2, gq2⟩ : ∃ z, z = h0.size := ⟨_, rfl⟩
    rw [← gq2] at Aq2 Dq2 stq2
    have zq2 := Eq2.1
    have Oq2 := O.ext Eq2
    have lq2 := Aq2.lt
    refine Goes.via stq2 ?_
    show Goes _ _ _ _ _ _ _ _ (Tq2.setTop (mkF m 34 #[.val (.long v), .second, .val (.int (128 : Int32))] [(.ref bq2)]))
    refine Goes.via (fun _ k => XS.dup Xq2.here hx rfl (hb hby d_jdk_35_method_24_code_34) rfl rfl k) ?_
    show Goes _ _ _ _ _ _ _ _ (Tq2.setTop (mkF m 35 #[.val (.long v), .second, .val (.int (128 : Int32))] [(.ref bq2), (.ref bq2)]))
    refine Goes.via (fun _ k => XT.lloadN Xq2.here hx rfl (hb hby d_jdk_35_method_24_code_35) rfl k) ?_
    show Goes _ _ _ _ _ _ _ _ (Tq2.setTop (mkF m 36 #[.val (.long v), .second, .val (.int (128 : Int32))] [(.long v), (.ref bq2), (.ref bq2)]))
    obtain ⟨vq3, Tq3, Lq3, Xq3, qq3, nq3, stq3⟩ := callSp Xq2 hx hZ hown (longInit l Z aw hw bq2 v Oq2 Aq2 (Dq2 (Or.inr (W_55 hw)) (ty := .long) (by decide)) (by omega)) rfl (W_83 hw) (W_84 hw) (W_38 hw) (W_86 hw) (by decide) eq2 (by decide) (W := 1) (by decide) (by decide) (by decide) (g := (mkF m 36 #[.val (.long v), .second, .val (.int (128 : Int32))] [(.long v), (.ref bq2), (.ref bq2)])) rfl (by rw [hml]; rfl) (a := bq2) (argsL := [(.long v)]) (rest := [(.ref bq2)]) rfl (lenOf pd_4 rfl) rfl (by show 2 * 0 + _ ≤ _; exact Nat.le_of_eq rfl) (hb hby d_jdk_35_method_24_code_36)
    obtain ⟨rfl, pq3_0, pq3_1, pq3_2⟩ := qq3
    have Nq3 := Fr.app N nq3
    have zq3 := pq3_0.1
    have Oq3 := Oq2.keep pq3_0 (allS (by omega) all0)
    have ltpq3_1 := pq3_1.lt
    refine Goes.via stq3 ?_
    show Goes _ _ _ _ _ _ _ _ (Tq3.setTop (mkF m 39 #[.val (.long v), .second, .val (.int (128 : Int32))] [(.ref bq2)]))
    refine goRetA Xq3 hx hrt rfl hlk Nq3 (by decide) (by decide) rfl (hb hby d_jdk_35_method_24_code_39) ?_
    exact ⟨bq2, rfl, (((Keep.refl _ []).ext Eq2).trans pq3_0 (allS (Or.inr (by omega)) all0)), pq3_1, pq3_2⟩
  · skip
    refine Goes.via (fun _ k => XS.ifNo X.here hx rfl (hb hby d_jdk_35_method_24_code_9) rfl (XT.ll_lt_f cq1) k) ?_
    show Goes _ _ _ _ _ _ _ _ (T.setTop (mkF m 12 #[.val (.long v), .second, .val (.int (128 : Int32))] []))
    refine Goes.via (fun _ k => XT.lloadN X.here hx rfl (hb hby d_jdk_35_method_24_code_12) rfl k) ?_
    show Goes _ _ _ _ _ _ _ _ (T.setTop (mkF m 13 #[.val (.long v), .second, .val (.int (128 : Int32))] [(.long v)]))
    refine Goes.via (fun _ k => X.ldc2J hx hown (mvT hZ (W_41 hw)) (g := (mkF m 13 #[.val (.long v), .second, .val (.int (128 : Int32))] [(.long v)])) rfl (hb hby d_jdk_35_method_24_code_13) k) ?_
    show Goes _ _ _ _ _ _ _ _ (T.setTop (mkF m 16 #[.val (.long v), .second, .val (.int (128 : Int32))] [(.long (127 : Int64)), (.long v)]))
    refine Goes.via (fun _ k => XT.lcmp X.here hx rfl (hb hby d_jdk_35_method_24_code_16) rfl k) ?_
    show Goes _ _ _ _ _ _ _ _ (T.setTop (mkF m 17 #[.val (.long v), .second, .val (.int (128 : Int32))] [(.int (XT.cmpL v (127 : Int64)))]))
    by_cases cq4 : (127 : Int64) < v
    · skip
      refine Goes.via (fun _ k => XS.ifYes X.here hx rfl (pc0 := 17) (pc' := 31) rfl (hb hby d_jdk_35_method_24_code_17) rfl (XT.ll_gt_t cq4) (by decide) (by decide) k) ?_
      show Goes _ _ _ _ _ _ _ _ (T.setTop (mkF m 31 #[.val (.long v), .second, .val (.int (128 : Int32))] []))
      obtain ⟨Tq5, hq5, Xq5, eq5, Eq5, Aq5, Dq5, -, stq5⟩ := newO X hx hZ hown (W_81 hw) (W_82 hw) (W_38 hw) e0 (g := (mkF m 31 #[.val (.long v), .second, .val (.int (128 : Int32))] [])) rfl (hb hby d_jdk_35_method_24_code_31) (by decide) (by decide)
      obtain ⟨bq5, gq5⟩ : ∃ z, z = h0.size := ⟨_, rfl⟩
      rw [← gq5] at Aq5 Dq5 stq5
      have zq5 := Eq5.1
      have Oq5 := O.ext Eq5
      have lq5 := Aq5.lt
      refine Goes.via stq5 ?_
      show Goes _ _ _ _ _ _ _ _ (Tq5.setTop (mkF m 34 #[.val (.long v), .second, .val (.int (128 : Int32))] [(.ref bq5)]))
      refine Goes.via (fun _ k => XS.dup Xq5.here hx rfl (hb hby d_jdk_35_method_24_code_34) rfl rfl k) ?_
      show Goes _ _ _ _ _ _ _ _ (Tq5.setTop (mkF m 35 #[.val (.long v), .second, .val (.int (128 : Int32))] [(.ref bq5), (.ref bq5)]))
      refine Goes.via (fun _ k => XT.lloadN Xq5.here hx rfl (hb hby d_jdk_35_method_24_code_35) rfl k) ?_
      show Goes _ _ _ _ _ _ _ _ (Tq5.setTop (mkF m 36 #[.val (.long v), .second, .val (.int (128 : Int32))] [(.long v), (.ref bq5), (.ref bq5)]))
      obtain ⟨vq6, Tq6, Lq6, Xq6, qq6, nq6, stq6⟩ := callSp Xq5 hx hZ hown (longInit l Z aw hw bq5 v Oq5 Aq5 (Dq5 (Or.inr (W_55 hw)) (ty := .long) (by decide)) (by omega)) rfl (W_83 hw) (W_84 hw) (W_38 hw) (W_86 hw) (by decide) eq5 (by decide) (W := 1) (by decide) (by decide) (by decide) (g := (mkF m 36 #[.val (.long v), .second, .val (.int (128 : Int32))] [(.long v), (.ref bq5), (.ref bq5)])) rfl (by rw [hml]; rfl) (a := bq5) (argsL := [(.long v)]) (rest := [(.ref bq5)]) rfl (lenOf pd_4 rfl) rfl (by show 2 * 0 + _ ≤ _; exact Nat.le_of_eq rfl) (hb hby d_jdk_35_method_24_code_36)
      obtain ⟨rfl, pq6_0, pq6_1, pq6_2⟩ := qq6
      have Nq6 := Fr.app N nq6
      have zq6 := pq6_0.1
      have Oq6 := Oq5.keep pq6_0 (allS (by omega) all0)
      have ltpq6_1 := pq6_1.lt
      refine Goes.via stq6 ?_
      show Goes _ _ _ _ _ _ _ _ (Tq6.setTop (mkF m 39 #[.val (.long v), .second, .val (.int (128 : Int32))] [(.ref bq5)]))
      refine goRetA Xq6 hx hrt rfl hlk Nq6 (by decide) (by decide) rfl (hb hby d_jdk_35_method_24_code_39) ?_
      exact ⟨bq5, rfl, (((Keep.refl _ []).ext Eq5).trans pq6_0 (allS (Or.inr (by omega)) all0)), pq6_1, pq6_2⟩
    · skip
      refine Goes.via (fun _ k => XS.ifNo X.here hx rfl (hb hby d_jdk_35_method_24_code_17) rfl (XT.ll_gt_f cq4) k) ?_
      show Goes _ _ _ _ _ _ _ _ (T.setTop (mkF m 20 #[.val (.long v), .second, .val (.int (128 : Int32))] []))
      have fq8 : Sta Z h0 "java/lang/Long$LongCache" "cache" "[Ljava/lang/Long;" (.ref ar) := (S0.ext O.2)
      obtain ⟨Tq7, Xq7, eq7, stq7⟩ := getS2 X hx hZ hown (host := "") (Or.inl (W_42 hw)) Via.refl e0 fq8 (g := (mkF m 20 #[.val (.long v), .second, .val (.int (128 : Int32))] [])) rfl (hb hby d_jdk_35_method_24_code_20)
      refine Goes.via stq7 ?_
      show Goes _ _ _ _ _ _ _ _ (Tq7.setTop (mkF m 23 #[.val (.long v), .second, .val (.int (128 : Int32))] [(.ref ar)]))
      refine Goes.via (fun _ k => XT.lloadN Xq7.here hx rfl (hb hby d_jdk_35_method_24_code_23) rfl k) ?_
      show Goes _ _ _ _ _ _ _ _ (Tq7.setTop (mkF m 24 #[.val (.long v), .second, .val (.int (128 : Int32))] [(.long v), (.ref ar)]))
      refine Goes.via (fun _ k => XT.l2i Xq7.here hx rfl (hb hby d_jdk_35_method_24_code_24) rfl k) ?_
      show Goes _ _ _ _ _ _ _ _ (Tq7.setTop (mkF m 25 #[.val (.long v), .second, .val (.int (128 : Int32))] [(.int v.toInt32), (.ref ar)]))
      refine Goes.via (fun _ k => XT.sipushV Xq7.here hx rfl (128 : Int32) (hb hby d_jdk_35_method_24_code_25) (by decide) k) ?_
      show Goes _ _ _ _ _ _ _ _ (Tq7.setTop (mkF m 28 #[.val (.long v), .second, .val (.int (128 : Int32))] [(.int (128 : Int32)), (.int v.toInt32), (.ref ar)]))
      refine Goes.via (fun _ k => XS.iadd Xq7.here hx rfl (hb hby d_jdk_35_method_24_code_28) rfl k) ?_
      show Goes _ _ _ _ _ _ _ _ (Tq7.setTop (mkF m 29 #[.val (.long v), .second, .val (.int (128 : Int32))] [(.int (v.toInt32 + (128 : Int32))), (.ref ar)]))
      have fq10 : Arr Z h0 ar c0 (.object "java/lang/Long") := (A0.ext O.2)
      obtain ⟨bx1, bx2⟩ := box_ix cq1 cq4
      obtain ⟨r29, hat29, E29, F29⟩ := CH _ bx1.1 bx1.2
      rw [bx2] at F29
      have hin29 := inb_of Sz bx1
      refine Goes.via (Xq7.aaload hx (j := (v.toInt32 + (128 : Int32))) (v := (.ref r29)) (by rw [eq7]; exact fq10.1) (State.isArrayOf_alike hZ.alike fq10.2.1) rfl fq10.2.2 hin29 hat29 (g := (mkF m 29 #[.val (.long v), .second, .val (.int (128 : Int32))] [(.int (v.toInt32 + (128 : Int32))), (.ref ar)])) rfl rfl (hb hby d_jdk_35_method_24_code_29)) ?_
      show Goes _ _ _ _ _ _ _ _ (Tq7.setTop (mkF m 30 #[.val (.long v), .second, .val (.int (128 : Int32))] [(.ref r29)]))
      refine goRetA Xq7 hx hrt rfl hlk N (by decide) (by decide) rfl (hb hby d_jdk_35_method_24_code_30) ?_
      try rw [eq7]
      have fq11 : Exa Z h0 r29 "java/lang/Long" := (E29.ext O.2)
      have fq12 : Fld Z h0 r29 "java/lang/Long" "value" "J" (.long v) := (F29.ext O.2)
      exact ⟨r29, rfl, (Keep.refl _ []), fq11, fq12⟩
theorem ef_init6n (m : MethodId) (a : Addr) (o : Int64) (ln : Int64) (st : Int64) : entryFrame m #[(.ref a), (.long o), (.long ln), (.long st), .null, .null, .null] 10 = mkF m 0 #[.val (.ref a), .val (.long o), .second, .val (.long ln), .second, .val (.long st), .second, .val .null, .val .null, .val .null] [] := by first | (simp [entryFrame, mkF, argsToLocals, Value.category]; done) | rfl
set_option maxRecDepth 65536 in
set_option maxHeartbeats 40000000 in
theorem init6n (l : Launch) (Z : State) (aw : Array Value) (hw : ∀ d ∈ tables_1, d.before aw Z = true) (a : Addr) (o : Int64) (ln : Int64) (st : Int64) {h0 : Heap} {n0 : Nat} (O : Old Z n0 h0) (E : Exa Z h0 a "com/example/trailkeep/trailkeep/journal/InputPosition") (F0 : Fld Z h0 a "com/example/trailkeep/trailkeep/journal/InputPosition" "offset" "J" (.long (0 : Int64))) (F1 : Fld Z h0 a "com/example/trailkeep/trailkeep/journal/InputPosition" "lineNumber" "J" (.long (0 : Int64))) (F2 : Fld Z h0 a "com/example/trailkeep/trailkeep/journal/InputPosition" "stored" "J" (.long (0 : Int64))) (F3 : Fld Z h0 a "com/example/trailkeep/trailkeep/journal/InputPosition" "tail" "Ljava/util/UUID;" .null) (F4 : Fld Z h0 a "com/example/trailkeep/trailkeep/journal/InputPosition" "born" "Ljava/lang/Long;" .null) (F5 : Fld Z h0 a "com/example/trailkeep/trailkeep/journal/InputPosition" "batchTime" "Ljava/lang/Long;" .null) (ga : n0 ≤ a) (ho : ¬ o < (0 : Int64)) (hl : ¬ ln < (0 : Int64)) (hs : ¬ st < (0 : Int64)) (hsl : ¬ ln < st) :
    MET l Z (⟨"com/example/trailkeep/trailkeep/journal/InputPosition", "<init>", "(JJJLjava/util/UUID;Ljava/lang/Long;Ljava/lang/Long;)V"⟩ : MethodName) prog_2_method_1_code 10 none ({ frames := 2, cells := 0, slots := 0, locals := 24 } : Room) #[(.ref a), (.long o), (.long ln), (.long st), .null, .null, .null] h0 n0 (fun vv hh => vv = none ∧ Keep h0 hh [a] ∧ Exa Z hh a "com/example/trailkeep/trailkeep/journal/InputPosition" ∧ Fld Z hh a "com/example/trailkeep/trailkeep/journal/InputPosition" "offset" "J" (.long o) ∧ Fld Z hh a "com/example/trailkeep/trailkeep/journal/InputPosition" "lineNumber" "J" (.long ln) ∧ Fld Z hh a "com/example/trailkeep/trailkeep/journal/InputPosition" "stored" "J" (.long st) ∧ Fld Z hh a "com/example/trailkeep/trailkeep/journal/InputPosition" "tail" "Ljava/util/UUID;" .null ∧ Fld Z hh a "com/example/trailkeep/trailkeep/journal/InputPosition" "born" "Ljava/lang/Long;" .null ∧ Fld Z hh a "com/example/trailkeep/trailkeep/journal/InputPosition" "batchTime" "Ljava/lang/Long;" .null) := by
  refine metOf (plainFor_of_name pn_5) ?_
  intro p e s m below meth c T hx hby hml hrt hlk hnm hZ hown X e0
  replace hml : c.maxLocals = 10 := hml
  replace hnm : meth.name = "<init>" := hnm
  replace hown : s.vm.findClass "com/example/trailkeep/trailkeep/journal/InputPosition" = some m.cls := hown
  have N := Fr.nil n0
  have zO := O.le
  refine goCast (ef_init6n m a o ln st) ?_
  have lt_a := E.lt
  show Goes _ _ _ _ _ _ _ _ (T.setTop (mkF m 0 #[.val (.ref a), .val (.long o), .second, .val (.long ln), .second, .val (.long st), .second, .val .null, .val .null, .val .null] []))
  refine Goes.via (fun _ k => XS.aloadN X.here hx rfl (hb hby d_prog_2_method_1_code_0) rfl rfl k) ?_
  show Goes _ _ _ _ _ _ _ _ (T.setTop (mkF m 1 #[.val (.ref a), .val (.long o), .second, .val (.long ln), .second, .val (.long st), .second, .val .null, .val .null, .val .null] [(.ref a)]))
  obtain ⟨vq1, Tq1, Lq1, Xq1, qq1, nq1, stq1⟩ := callSp X hx hZ hown (recInit l Z aw hw a O) rfl (W_10 hw) (W_11 hw) (W_13 hw) (W_14 hw) (by decide) e0 (by decide) (W := 0) (by decide) (by decide) (by decide) (g := (mkF m 1 #[.val (.ref a), .val (.long o), .second, .val (.long ln), .second, .val (.long st), .second, .val .null, .val .null, .val .null] [(.ref a)])) rfl (by rw [hml]; rfl) (a := a) (argsL := []) (rest := []) rfl (lenOf pd_3 rfl) rfl (by show 2 * 0 + _ ≤ _; exact Nat.le_of_eq rfl) (hb hby d_prog_2_method_1_code_1)
  obtain ⟨rfl, pq1_0⟩ := qq1
  have Nq1 := Fr.app N nq1
  refine Goes.via stq1 ?_
  show Goes _ _ _ _ _ _ _ _ (Tq1.setTop (mkF m 4 #[.val (.ref a), .val (.long o), .second, .val (.long ln), .second, .val (.long st), .second, .val .null, .val .null, .val .null] []))
  refine Goes.via (fun _ k => XT.lloadN Xq1.here hx rfl (hb hby d_prog_2_method_1_code_4) rfl k) ?_
  show Goes _ _ _ _ _ _ _ _ (Tq1.setTop (mkF m 5 #[.val (.ref a), .val (.long o), .second, .val (.long ln), .second, .val (.long st), .second, .val .null, .val .null, .val .null] [(.long o)]))
  refine Goes.via (fun _ k => XT.lconstV Xq1.here hx rfl (0 : Int64) (hb hby d_prog_2_method_1_code_5) (by decide) k) ?_
  show Goes _ _ _ _ _ _ _ _ (Tq1.setTop (mkF m 6 #[.val (.ref a), .val (.long o), .second, .val (.long ln), .second, .val (.long st), .second, .val .null, .val .null, .val .null] [(.long (0 : Int64)), (.long o)]))
  refine Goes.via (fun _ k => XT.lcmp Xq1.here hx rfl (hb hby d_prog_2_method_1_code_6) rfl k) ?_
  show Goes _ _ _ _ _ _ _ _ (Tq1.setTop (mkF m 7 #[.val (.ref a), .val (.long o), .second, .val (.long ln), .second, .val (.long st), .second, .val .null, .val .null, .val .null] [(.int (XT.cmpL o (0 : Int64)))]))
  refine Goes.via (fun _ k => XS.ifNo Xq1.here hx rfl (hb hby d_prog_2_method_1_code_7) rfl (XT.ll_lt_f ho) k) ?_
  show Goes _ _ _ _ _ _ _ _ (Tq1.setTop (mkF m 10 #[.val (.ref a), .val (.long o), .second, .val (.long ln), .second, .val (.long st), .second, .val .null, .val .null, .val .null] []))
  refine Goes.via (fun _ k => XT.lloadN Xq1.here hx rfl (hb hby d_prog_2_method_1_code_10) rfl k) ?_
  show Goes _ _ _ _ _ _ _ _ (Tq1.setTop (mkF m 11 #[.val (.ref a), .val (.long o), .second, .val (.long ln), .second, .val (.long st), .second, .val .null, .val .null, .val .null] [(.long ln)]))
  refine Goes.via (fun _ k => XT.lconstV Xq1.here hx rfl (0 : Int64) (hb hby d_prog_2_method_1_code_11) (by decide) k) ?_
  show Goes _ _ _ _ _ _ _ _ (Tq1.setTop (mkF m 12 #[.val (.ref a), .val (.long o), .second, .val (.long ln), .second, .val (.long st), .second, .val .null, .val .null, .val .null] [(.long (0 : Int64)), (.long ln)]))
  refine Goes.via (fun _ k => XT.lcmp Xq1.here hx rfl (hb hby d_prog_2_method_1_code_12) rfl k) ?_
  show Goes _ _ _ _ _ _ _ _ (Tq1.setTop (mkF m 13 #[.val (.ref a), .val (.long o), .second, .val (.long ln), .second, .val (.long st), .second, .val .null, .val .null, .val .null] [(.int (XT.cmpL ln (0 : Int64)))]))
  refine Goes.via (fun _ k => XS.ifNo Xq1.here hx rfl (hb hby d_prog_2_method_1_code_13) rfl (XT.ll_lt_f hl) k) ?_
  show Goes _ _ _ _ _ _ _ _ (Tq1.setTop (mkF m 16 #[.val (.ref a), .val (.long o), .second, .val (.long ln), .second, .val (.long st), .second, .val .null, .val .null, .val .null] []))
  refine Goes.via (fun _ k => XT.lload Xq1.here hx rfl (hb hby d_prog_2_method_1_code_16) rfl k) ?_
  show Goes _ _ _ _ _ _ _ _ (Tq1.setTop (mkF m 18 #[.val (.ref a), .val (.long o), .second, .val (.long ln), .second, .val (.long st), .second, .val .null, .val .null, .val .null] [(.long st)]))
  refine Goes.via (fun _ k => XT.lconstV Xq1.here hx rfl (0 : Int64) (hb hby d_prog_2_method_1_code_18) (by decide) k) ?_
  show Goes _ _ _ _ _ _ _ _ (Tq1.setTop (mkF m 19 #[.val (.ref a), .val (.long o), .second, .val (.long ln), .second, .val (.long st), .second, .val .null, .val .null, .val .null] [(.long (0 : Int64)), (.long st)]))
  refine Goes.via (fun _ k => XT.lcmp Xq1.here hx rfl (hb hby d_prog_2_method_1_code_19) rfl k) ?_
  show Goes _ _ _ _ _ _ _ _ (Tq1.setTop (mkF m 20 #[.val (.ref a), .val (.long o), .second, .val (.long ln), .second, .val (.long st), .second, .val .null, .val .null, .val .null] [(.int (XT.cmpL st (0 : Int64)))]))
  refine Goes.via (fun _ k => XS.ifNo Xq1.here hx rfl (hb hby d_prog_2_method_1_code_20) rfl (XT.ll_lt_f hs) k) ?_
  show Goes _ _ _ _ _ _ _ _ (Tq1.setTop (mkF m 23 #[.val (.ref a), .val (.long o), .second, .val (.long ln), .second, .val (.long st), .second, .val .null, .val .null, .val .null] []))
  refine Goes.via (fun _ k => XT.lload Xq1.here hx rfl (hb hby d_prog_2_method_1_code_23) rfl k) ?_
  show Goes _ _ _ _ _ _ _ _ (Tq1.setTop (mkF m 25 #[.val (.ref a), .val (.long o), .second, .val (.long ln), .second, .val (.long st), .second, .val .null, .val .null, .val .null] [(.long st)]))
  refine Goes.via (fun _ k => XT.lloadN Xq1.here hx rfl (hb hby d_prog_2_method_1_code_25) rfl k) ?_
  show Goes _ _ _ _ _ _ _ _ (Tq1.setTop (mkF m 26 #[.val (.ref a), .val (.long o), .second, .val (.long ln), .second, .val (.long st), .second, .val .null, .val .null, .val .null] [(.long ln), (.long st)]))
  refine Goes.via (fun _ k => XT.lcmp Xq1.here hx rfl (hb hby d_prog_2_method_1_code_26) rfl k) ?_
  show Goes _ _ _ _ _ _ _ _ (Tq1.setTop (mkF m 27 #[.val (.ref a), .val (.long o), .second, .val (.long ln), .second, .val (.long st), .second, .val .null, .val .null, .val .null] [(.int (XT.cmpL st ln))]))
  refine Goes.via (fun _ k => XS.ifNo Xq1.here hx rfl (hb hby d_prog_2_method_1_code_27) rfl (XT.ll_gt_f hsl) k) ?_
  show Goes _ _ _ _ _ _ _ _ (Tq1.setTop (mkF m 30 #[.val (.ref a), .val (.long o), .second, .val (.long ln), .second, .val (.long st), .second, .val .null, .val .null, .val .null] []))
  refine Goes.via (fun _ k => XS.aload Xq1.here hx rfl (hb hby d_prog_2_method_1_code_30) rfl rfl k) ?_
  show Goes _ _ _ _ _ _ _ _ (Tq1.setTop (mkF m 32 #[.val (.ref a), .val (.long o), .second, .val (.long ln), .second, .val (.long st), .second, .val .null, .val .null, .val .null] [.null]))
  refine Goes.via (fun _ k => XT.ifnonnullNo Xq1.here hx rfl (hb hby d_prog_2_method_1_code_32) rfl k) ?_
  show Goes _ _ _ _ _ _ _ _ (Tq1.setTop (mkF m 35 #[.val (.ref a), .val (.long o), .second, .val (.long ln), .second, .val (.long st), .second, .val .null, .val .null, .val .null] []))
  refine Goes.via (fun _ k => XS.aload Xq1.here hx rfl (hb hby d_prog_2_method_1_code_35) rfl rfl k) ?_
  show Goes _ _ _ _ _ _ _ _ (Tq1.setTop (mkF m 37 #[.val (.ref a), .val (.long o), .second, .val (.long ln), .second, .val (.long st), .second, .val .null, .val .null, .val .null] [.null]))
  refine Goes.via (fun _ k => XS.ifnullYes Xq1.here hx rfl (pc0 := 37) (pc' := 121) rfl (hb hby d_prog_2_method_1_code_37) rfl (by decide) (by decide) k) ?_
  show Goes _ _ _ _ _ _ _ _ (Tq1.setTop (mkF m 121 #[.val (.ref a), .val (.long o), .second, .val (.long ln), .second, .val (.long st), .second, .val .null, .val .null, .val .null] []))
  refine Goes.via (fun _ k => XS.aloadN Xq1.here hx rfl (hb hby d_prog_2_method_1_code_121) rfl rfl k) ?_
  show Goes _ _ _ _ _ _ _ _ (Tq1.setTop (mkF m 122 #[.val (.ref a), .val (.long o), .second, .val (.long ln), .second, .val (.long st), .second, .val .null, .val .null, .val .null] [(.ref a)]))
  refine Goes.via (fun _ k => XT.lloadN Xq1.here hx rfl (hb hby d_prog_2_method_1_code_122) rfl k) ?_
  show Goes _ _ _ _ _ _ _ _ (Tq1.setTop (mkF m 123 #[.val (.ref a), .val (.long o), .second, .val (.long ln), .second, .val (.long st), .second, .val .null, .val .null, .val .null] [(.long o), (.ref a)]))
  obtain ⟨Tq2, hq2, Xq2, eq2, Wq2, stq2⟩ := putF Xq1 hx hZ hown (host := "") (Or.inl (W_18 hw)) Via.refl pq1_0 F0 E (Or.inr ⟨(W_19 hw), rfl, hnm⟩) (W_2 hw) (ty := .long) (by decide) rfl rfl (g := (mkF m 123 #[.val (.ref a), .val (.long o), .second, .val (.long ln), .second, .val (.long st), .second, .val .null, .val .null, .val .null] [(.long o), (.ref a)])) rfl rfl (hb hby d_prog_2_method_1_code_123)
  have Nq2 := Fr.snoc Xq2 Nq1 (by omega)
  have zq2 := Wq2.size
  have Oq2 := O.wr Wq2 (by omega)
  have Fq2 : Fld Z hq2 a "com/example/trailkeep/trailkeep/journal/InputPosition" "offset" "J" (.long o) := F0.same Wq2
  refine Goes.via stq2 ?_
  show Goes _ _ _ _ _ _ _ _ (Tq2.setTop (mkF m 126 #[.val (.ref a), .val (.long o), .second, .val (.long ln), .second, .val (.long st), .second, .val .null, .val .null, .val .null] []))
  refine Goes.via (fun _ k => XS.aloadN Xq2.here hx rfl (hb hby d_prog_2_method_1_code_126) rfl rfl k) ?_
  show Goes _ _ _ _ _ _ _ _ (Tq2.setTop (mkF m 127 #[.val (.ref a), .val (.long o), .second, .val (.long ln), .second, .val (.long st), .second, .val .null, .val .null, .val .null] [(.ref a)]))
  refine Goes.via (fun _ k => XT.lloadN Xq2.here hx rfl (hb hby d_prog_2_method_1_code_127) rfl k) ?_
  show Goes _ _ _ _ _ _ _ _ (Tq2.setTop (mkF m 128 #[.val (.ref a), .val (.long o), .second, .val (.long ln), .second, .val (.long st), .second, .val .null, .val .null, .val .null] [(.long ln), (.ref a)]))
  have fq4 : Fld Z hq2 a "com/example/trailkeep/trailkeep/journal/InputPosition" "lineNumber" "J" (.long (0 : Int64)) := (F1.other Wq2 (Or.inr (slot_ne (Or.inr (W_21 hw)) (Or.inr (W_19 hw)) (by decide) (t := .long) (t' := .long) (by decide) (by decide))))
  have fq5 : Exa Z hq2 a "com/example/trailkeep/trailkeep/journal/InputPosition" := (E.wr Wq2)
  obtain ⟨Tq3, hq3, Xq3, eq3, Wq3, stq3⟩ := putF Xq2 hx hZ hown (host := "") (Or.inl (W_20 hw)) Via.refl eq2 fq4 fq5 (Or.inr ⟨(W_21 hw), rfl, hnm⟩) (W_2 hw) (ty := .long) (by decide) rfl rfl (g := (mkF m 128 #[.val (.ref a), .val (.long o), .second, .val (.long ln), .second, .val (.long st), .second, .val .null, .val .null, .val .null] [(.long ln), (.ref a)])) rfl rfl (hb hby d_prog_2_method_1_code_128)
  have Nq3 := Fr.snoc Xq3 Nq2 (by omega)
  have zq3 := Wq3.size
  have Oq3 := Oq2.wr Wq3 (by omega)
  have Fq3 : Fld Z hq3 a "com/example/trailkeep/trailkeep/journal/InputPosition" "lineNumber" "J" (.long ln) := fq4.same Wq3
  refine Goes.via stq3 ?_
  show Goes _ _ _ _ _ _ _ _ (Tq3.setTop (mkF m 131 #[.val (.ref a), .val (.long o), .second, .val (.long ln), .second, .val (.long st), .second, .val .null, .val .null, .val .null] []))
  refine Goes.via (fun _ k => XS.aloadN Xq3.here hx rfl (hb hby d_prog_2_method_1_code_131) rfl rfl k) ?_
  show Goes _ _ _ _ _ _ _ _ (Tq3.setTop (mkF m 132 #[.val (.ref a), .val (.long o), .second, .val (.long ln), .second, .val (.long st), .second, .val .null, .val .null, .val .null] [(.ref a)]))
  refine Goes.via (fun _ k => XT.lload Xq3.here hx rfl (hb hby d_prog_2_method_1_code_132) rfl k) ?_
  show Goes _ _ _ _ _ _ _ _ (Tq3.setTop (mkF m 134 #[.val (.ref a), .val (.long o), .second, .val (.long ln), .second, .val (.long st), .second, .val .null, .val .null, .val .null] [(.long st), (.ref a)]))
  have fq7 : Fld Z hq3 a "com/example/trailkeep/trailkeep/journal/InputPosition" "stored" "J" (.long (0 : Int64)) := ((F2.other Wq2 (Or.inr (slot_ne (Or.inr (W_23 hw)) (Or.inr (W_19 hw)) (by decide) (t := .long) (t' := .long) (by decide) (by decide)))).other Wq3 (Or.inr (slot_ne (Or.inr (W_23 hw)) (Or.inr (W_21 hw)) (by decide) (t := .long) (t' := .long) (by decide) (by decide))))
  have fq8 : Exa Z hq3 a "com/example/trailkeep/trailkeep/journal/InputPosition" := (fq5.wr Wq3)
  obtain ⟨Tq6, hq6, Xq6, eq6, Wq6, stq6⟩ := putF Xq3 hx hZ hown (host := "") (Or.inl (W_22 hw)) Via.refl eq3 fq7 fq8 (Or.inr ⟨(W_23 hw), rfl, hnm⟩) (W_2 hw) (ty := .long) (by decide) rfl rfl (g := (mkF m 134 #[.val (.ref a), .val (.long o), .second, .val (.long ln), .second, .val (.long st), .second, .val .null, .val .null, .val .null] [(.long st), (.ref a)])) rfl rfl (hb hby d_prog_2_method_1_code_134)
  have Nq6 := Fr.snoc Xq6 Nq3 (by omega)
  have zq6 := Wq6.size
  have Oq6 := Oq3.wr Wq6 (by omega)
  have Fq6 : Fld Z hq6 a "com/example/trailkeep/trailkeep/journal/InputPosition" "stored" "J" (.long st) := fq7.same Wq6
  refine Goes.via stq6 ?_
  show Goes _ _ _ _ _ _ _ _ (Tq6.setTop (mkF m 137 #[.val (.ref a), .val (.long o), .second, .val (.long ln), .second, .val (.long st), .second, .val .null, .val .null, .val .null] []))
  refine Goes.via (fun _ k => XS.aloadN Xq6.here hx rfl (hb hby d_prog_2_method_1_code_137) rfl rfl k) ?_
  show Goes _ _ _ _ _ _ _ _ (Tq6.setTop (mkF m 138 #[.val (.ref a), .val (.long o), .second, .val (.long ln), .second, .val (.long st), .second, .val .null, .val .null, .val .null] [(.ref a)]))
  refine Goes.via (fun _ k => XS.aload Xq6.here hx rfl (hb hby d_prog_2_method_1_code_138) rfl rfl k) ?_
  show Goes _ _ _ _ _ _ _ _ (Tq6.setTop (mkF m 140 #[.val (.ref a), .val (.long o), .second, .val (.long ln), .second, .val (.long st), .second, .val .null, .val .null, .val .null] [.null, (.ref a)]))
  have fq10 : Fld Z hq6 a "com/example/trailkeep/trailkeep/journal/InputPosition" "tail" "Ljava/util/UUID;" .null := (((F3.other Wq2 (Or.inr (slot_ne (Or.inr (W_25 hw)) (Or.inr (W_19 hw)) (by decide) (t := (.object "java/util/UUID")) (t' := .long) (by decide) (by decide)))).other Wq3 (Or.inr (slot_ne (Or.inr (W_25 hw)) (Or.inr (W_21 hw)) (by decide) (t := (.object "java/util/UUID")) (t' := .long) (by decide) (by decide)))).other Wq6 (Or.inr (slot_ne (Or.inr (W_25 hw)) (Or.inr (W_23 hw)) (by decide) (t := (.object "java/util/UUID")) (t' := .long) (by decide) (by decide))))
  have fq11 : Exa Z hq6 a "com/example/trailkeep/trailkeep/journal/InputPosition" := (fq8.wr Wq6)
  obtain ⟨Tq9, hq9, Xq9, eq9, Wq9, stq9⟩ := putF Xq6 hx hZ hown (host := "") (Or.inl (W_24 hw)) Via.refl eq6 fq10 fq11 (Or.inr ⟨(W_25 hw), rfl, hnm⟩) (W_2 hw) (ty := (.object "java/util/UUID")) (by decide) rfl rfl (g := (mkF m 140 #[.val (.ref a), .val (.long o), .second, .val (.long ln), .second, .val (.long st), .second, .val .null, .val .null, .val .null] [.null, (.ref a)])) rfl rfl (hb hby d_prog_2_method_1_code_140)
  have Nq9 := Fr.snoc Xq9 Nq6 (by omega)
  have zq9 := Wq9.size
  have Oq9 := Oq6.wr Wq9 (by omega)
  have Fq9 : Fld Z hq9 a "com/example/trailkeep/trailkeep/journal/InputPosition" "tail" "Ljava/util/UUID;" .null := fq10.same Wq9
  refine Goes.via stq9 ?_
  show Goes _ _ _ _ _ _ _ _ (Tq9.setTop (mkF m 143 #[.val (.ref a), .val (.long o), .second, .val (.long ln), .second, .val (.long st), .second, .val .null, .val .null, .val .null] []))
  refine Goes.via (fun _ k => XS.aloadN Xq9.here hx rfl (hb hby d_prog_2_method_1_code_143) rfl rfl k) ?_
  show Goes _ _ _ _ _ _ _ _ (Tq9.setTop (mkF m 144 #[.val (.ref a), .val (.long o), .second, .val (.long ln), .second, .val (.long st), .second, .val .null, .val .null, .val .null] [(.ref a)]))
  refine Goes.via (fun _ k => XS.aload Xq9.here hx rfl (hb hby d_prog_2_method_1_code_144) rfl rfl k) ?_
  show Goes _ _ _ _ _ _ _ _ (Tq9.setTop (mkF m 146 #[.val (.ref a), .val (.long o), .second, .val (.long ln), .second, .val (.long st), .second, .val .null, .val .null, .val .null] [.null, (.ref a)]))
  have fq13 : Fld Z hq9 a "com/example/trailkeep/trailkeep/journal/InputPosition" "born" "Ljava/lang/Long;" .null := ((((F4.other Wq2 (Or.inr (slot_ne (Or.inr (W_27 hw)) (Or.inr (W_19 hw)) (by decide) (t := (.object "java/lang/Long")) (t' := .long) (by decide) (by decide)))).other Wq3 (Or.inr (slot_ne (Or.inr (W_27 hw)) (Or.inr (W_21 hw)) (by decide) (t := (.object "java/lang/Long")) (t' := .long) (by decide) (by decide)))).other Wq6 (Or.inr (slot_ne (Or.inr (W_27 hw)) (Or.inr (W_23 hw)) (by decide) (t := (.object "java/lang/Long")) (t' := .long) (by decide) (by decide)))).other Wq9 (Or.inr (slot_ne (Or.inr (W_27 hw)) (Or.inr (W_25 hw)) (by decide) (t := (.object "java/lang/Long")) (t' := (.object "java/util/UUID")) (by decide) (by decide))))
  have fq14 : Exa Z hq9 a "com/example/trailkeep/trailkeep/journal/InputPosition" := (fq11.wr Wq9)
  obtain ⟨Tq12, hq12, Xq12, eq12, Wq12, stq12⟩ := putF Xq9 hx hZ hown (host := "") (Or.inl (W_26 hw)) Via.refl eq9 fq13 fq14 (Or.inr ⟨(W_27 hw), rfl, hnm⟩) (W_2 hw) (ty := (.object "java/lang/Long")) (by decide) rfl rfl (g := (mkF m 146 #[.val (.ref a), .val (.long o), .second, .val (.long ln), .second, .val (.long st), .second, .val .null, .val .null, .val .null] [.null, (.ref a)])) rfl rfl (hb hby d_prog_2_method_1_code_146)
  have Nq12 := Fr.snoc Xq12 Nq9 (by omega)
  have zq12 := Wq12.size
  have Oq12 := Oq9.wr Wq12 (by omega)
  have Fq12 : Fld Z hq12 a "com/example/trailkeep/trailkeep/journal/InputPosition" "born" "Ljava/lang/Long;" .null := fq13.same Wq12
  refine Goes.via stq12 ?_
  show Goes _ _ _ _ _ _ _ _ (Tq12.setTop (mkF m 149 #[.val (.ref a), .val (.long o), .second, .val (.long ln), .second, .val (.long st), .second, .val .null, .val .null, .val .null] []))
  refine Goes.via (fun _ k => XS.aloadN Xq12.here hx rfl (hb hby d_prog_2_method_1_code_149) rfl rfl k) ?_
  show Goes _ _ _ _ _ _ _ _ (Tq12.setTop (mkF m 150 #[.val (.ref a), .val (.long o), .second, .val (.long ln), .second, .val (.long st), .second, .val .null, .val .null, .val .null] [(.ref a)]))
  refine Goes.via (fun _ k => XS.aload Xq12.here hx rfl (hb hby d_prog_2_method_1_code_150) rfl rfl k) ?_
  show Goes _ _ _ _ _ _ _ _ (Tq12.setTop (mkF m 152 #[.val (.ref a), .val (.long o), .second, .val (.long ln), .second, .val (.long st), .second, .val .null, .val .null, .val .null] [.null, (.ref a)]))
  have fq16 : Fld Z hq12 a "com/example/trailkeep/trailkeep/journal/InputPosition" "batchTime" "Ljava/lang/Long;" .null := (((((F5.other Wq2 (Or.inr (slot_ne (Or.inr (W_29 hw)) (Or.inr (W_19 hw)) (by decide) (t := (.object "java/lang/Long")) (t' := .long) (by decide) (by decide)))).other Wq3 (Or.inr (slot_ne (Or.inr (W_29 hw)) (Or.inr (W_21 hw)) (by decide) (t := (.object "java/lang/Long")) (t' := .long) (by decide) (by decide)))).other Wq6 (Or.inr (slot_ne (Or.inr (W_29 hw)) (Or.inr (W_23 hw)) (by decide) (t := (.object "java/lang/Long")) (t' := .long) (by decide) (by decide)))).other Wq9 (Or.inr (slot_ne (Or.inr (W_29 hw)) (Or.inr (W_25 hw)) (by decide) (t := (.object "java/lang/Long")) (t' := (.object "java/util/UUID")) (by decide) (by decide)))).other Wq12 (Or.inr (slot_ne (Or.inr (W_29 hw)) (Or.inr (W_27 hw)) (by decide) (t := (.object "java/lang/Long")) (t' := (.object "java/lang/Long")) (by decide) (by decide))))
  have fq17 : Exa Z hq12 a "com/example/trailkeep/trailkeep/journal/InputPosition" := (fq14.wr Wq12)
  obtain ⟨Tq15, hq15, Xq15, eq15, Wq15, stq15⟩ := putF Xq12 hx hZ hown (host := "") (Or.inl (W_28 hw)) Via.refl eq12 fq16 fq17 (Or.inr ⟨(W_29 hw), rfl, hnm⟩) (W_2 hw) (ty := (.object "java/lang/Long")) (by decide) rfl rfl (g := (mkF m 152 #[.val (.ref a), .val (.long o), .second, .val (.long ln), .second, .val (.long st), .second, .val .null, .val .null, .val .null] [.null, (.ref a)])) rfl rfl (hb hby d_prog_2_method_1_code_152)
  have Nq15 := Fr.snoc Xq15 Nq12 (by omega)
  have zq15 := Wq15.size
  have Oq15 := Oq12.wr Wq15 (by omega)
  have Fq15 : Fld Z hq15 a "com/example/trailkeep/trailkeep/journal/InputPosition" "batchTime" "Ljava/lang/Long;" .null := fq16.same Wq15
  refine Goes.via stq15 ?_
  show Goes _ _ _ _ _ _ _ _ (Tq15.setTop (mkF m 155 #[.val (.ref a), .val (.long o), .second, .val (.long ln), .second, .val (.long st), .second, .val .null, .val .null, .val .null] []))
  refine goRetV Xq15 hx hrt hlk Nq15 (by decide) (by decide) (hb hby d_prog_2_method_1_code_155) ?_
  try rw [eq15]
  have fq18 : Exa Z hq15 a "com/example/trailkeep/trailkeep/journal/InputPosition" := (fq17.wr Wq15)
  have fq19 : Fld Z hq15 a "com/example/trailkeep/trailkeep/journal/InputPosition" "offset" "J" (.long o) := (((((Fq2.other Wq3 (Or.inr (slot_ne (Or.inr (W_19 hw)) (Or.inr (W_21 hw)) (by decide) (t := .long) (t' := .long) (by decide) (by decide)))).other Wq6 (Or.inr (slot_ne (Or.inr (W_19 hw)) (Or.inr (W_23 hw)) (by decide) (t := .long) (t' := .long) (by decide) (by decide)))).other Wq9 (Or.inr (slot_ne (Or.inr (W_19 hw)) (Or.inr (W_25 hw)) (by decide) (t := .long) (t' := (.object "java/util/UUID")) (by decide) (by decide)))).other Wq12 (Or.inr (slot_ne (Or.inr (W_19 hw)) (Or.inr (W_27 hw)) (by decide) (t := .long) (t' := (.object "java/lang/Long")) (by decide) (by decide)))).other Wq15 (Or.inr (slot_ne (Or.inr (W_19 hw)) (Or.inr (W_29 hw)) (by decide) (t := .long) (t' := (.object "java/lang/Long")) (by decide) (by decide))))
  have fq20 : Fld Z hq15 a "com/example/trailkeep/trailkeep/journal/InputPosition" "lineNumber" "J" (.long ln) := ((((Fq3.other Wq6 (Or.inr (slot_ne (Or.inr (W_21 hw)) (Or.inr (W_23 hw)) (by decide) (t := .long) (t' := .long) (by decide) (by decide)))).other Wq9 (Or.inr (slot_ne (Or.inr (W_21 hw)) (Or.inr (W_25 hw)) (by decide) (t := .long) (t' := (.object "java/util/UUID")) (by decide) (by decide)))).other Wq12 (Or.inr (slot_ne (Or.inr (W_21 hw)) (Or.inr (W_27 hw)) (by decide) (t := .long) (t' := (.object "java/lang/Long")) (by decide) (by decide)))).other Wq15 (Or.inr (slot_ne (Or.inr (W_21 hw)) (Or.inr (W_29 hw)) (by decide) (t := .long) (t' := (.object "java/lang/Long")) (by decide) (by decide))))
  have fq21 : Fld Z hq15 a "com/example/trailkeep/trailkeep/journal/InputPosition" "stored" "J" (.long st) := (((Fq6.other Wq9 (Or.inr (slot_ne (Or.inr (W_23 hw)) (Or.inr (W_25 hw)) (by decide) (t := .long) (t' := (.object "java/util/UUID")) (by decide) (by decide)))).other Wq12 (Or.inr (slot_ne (Or.inr (W_23 hw)) (Or.inr (W_27 hw)) (by decide) (t := .long) (t' := (.object "java/lang/Long")) (by decide) (by decide)))).other Wq15 (Or.inr (slot_ne (Or.inr (W_23 hw)) (Or.inr (W_29 hw)) (by decide) (t := .long) (t' := (.object "java/lang/Long")) (by decide) (by decide))))
  have fq22 : Fld Z hq15 a "com/example/trailkeep/trailkeep/journal/InputPosition" "tail" "Ljava/util/UUID;" .null := ((Fq9.other Wq12 (Or.inr (slot_ne (Or.inr (W_25 hw)) (Or.inr (W_27 hw)) (by decide) (t := (.object "java/util/UUID")) (t' := (.object "java/lang/Long")) (by decide) (by decide)))).other Wq15 (Or.inr (slot_ne (Or.inr (W_25 hw)) (Or.inr (W_29 hw)) (by decide) (t := (.object "java/util/UUID")) (t' := (.object "java/lang/Long")) (by decide) (by decide))))
  have fq23 : Fld Z hq15 a "com/example/trailkeep/trailkeep/journal/InputPosition" "born" "Ljava/lang/Long;" .null := (Fq12.other Wq15 (Or.inr (slot_ne (Or.inr (W_27 hw)) (Or.inr (W_29 hw)) (by decide) (t := (.object "java/lang/Long")) (t' := (.object "java/lang/Long")) (by decide) (by decide))))
  exact ⟨rfl, (((((((Keep.refl _ [a]).wr Wq2 (Or.inl (by simp))).wr Wq3 (Or.inl (by simp))).wr Wq6 (Or.inl (by simp))).wr Wq9 (Or.inl (by simp))).wr Wq12 (Or.inl (by simp))).wr Wq15 (Or.inl (by simp))), fq18, fq19, fq20, fq21, fq22, fq23, Fq15⟩
theorem ef_init6r (m : MethodId) (a : Addr) (o : Int64) (ln : Int64) (st : Int64) (bo : Addr) : entryFrame m #[(.ref a), (.long o), (.long ln), (.long st), .null, (.ref bo), .null] 10 = mkF m 0 #[.val (.ref a), .val (.long o), .second, .val (.long ln), .second, .val (.long st), .second, .val .null, .val (.ref bo), .val .null] [] := by first | (simp [entryFrame, mkF, argsToLocals, Value.category]; done) | rfl
set_option maxRecDepth 65536 in
set_option maxHeartbeats 40000000 in
theorem init6r (l : Launch) (Z : State) (aw : Array Value) (hw : ∀ d ∈ tables_1, d.before aw Z = true) (a : Addr) (o : Int64) (ln : Int64) (st : Int64) (bo : Addr) {h0 : Heap} {n0 : Nat} (O : Old Z n0 h0) (E : Exa Z h0 a "com/example/trailkeep/trailkeep/journal/InputPosition") (F0 : Fld Z h0 a "com/example/trailkeep/trailkeep/journal/InputPosition" "offset" "J" (.long (0 : Int64))) (F1 : Fld Z h0 a "com/example/trailkeep/trailkeep/journal/InputPosition" "lineNumber" "J" (.long (0 : Int64))) (F2 : Fld Z h0 a "com/example/trailkeep/trailkeep/journal/InputPosition" "stored" "J" (.long (0 : Int64))) (F3 : Fld Z h0 a "com/example/trailkeep/trailkeep/journal/InputPosition" "tail" "Ljava/util/UUID;" .null) (F4 : Fld Z h0 a "com/example/trailkeep/trailkeep/journal/InputPosition" "born" "Ljava/lang/Long;" .null) (F5 : Fld Z h0 a "com/example/trailkeep/trailkeep/journal/InputPosition" "batchTime" "Ljava/lang/Long;" .null) (ga : n0 ≤ a) (ho : ¬ o < (0 : Int64)) (hl : ¬ ln < (0 : Int64)) (hs : ¬ st < (0 : Int64)) (hsl : ¬ ln < st) :
    MET l Z (⟨"com/example/trailkeep/trailkeep/journal/InputPosition", "<init>", "(JJJLjava/util/UUID;Ljava/lang/Long;Ljava/lang/Long;)V"⟩ : MethodName) prog_2_method_1_code 10 none ({ frames := 2, cells := 0, slots := 0, locals := 24 } : Room) #[(.ref a), (.long o), (.long ln), (.long st), .null, (.ref bo), .null] h0 n0 (fun vv hh => vv = none ∧ Keep h0 hh [a] ∧ Exa Z hh a "com/example/trailkeep/trailkeep/journal/InputPosition" ∧ Fld Z hh a "com/example/trailkeep/trailkeep/journal/InputPosition" "offset" "J" (.long o) ∧ Fld Z hh a "com/example/trailkeep/trailkeep/journal/InputPosition" "lineNumber" "J" (.long ln) ∧ Fld Z hh a "com/example/trailkeep/trailkeep/journal/InputPosition" "stored" "J" (.long st) ∧ Fld Z hh a "com/example/trailkeep/trailkeep/journal/InputPosition" "tail" "Ljava/util/UUID;" .null ∧ Fld Z hh a "com/example/trailkeep/trailkeep/journal/InputPosition" "born" "Ljava/lang/Long;" (.ref bo) ∧ Fld Z hh a "com/example/trailkeep/trailkeep/journal/InputPosition" "batchTime" "Ljava/lang/Long;" .null) := by
  refine metOf (plainFor_of_name pn_5) ?_
  intro p e s m below meth c T hx hby hml hrt hlk hnm hZ hown X e0
  replace hml : c.maxLocals = 10 := hml
  replace hnm : meth.name = "<init>" := hnm
  replace hown : s.vm.findClass "com/example/trailkeep/trailkeep/journal/InputPosition" = some m.cls := hown
  have N := Fr.nil n0
  have zO := O.le
  refine goCast (ef_init6r m a o ln st bo) ?_
  have lt_a := E.lt
  show Goes _ _ _ _ _ _ _ _ (T.setTop (mkF m 0 #[.val (.ref a), .val (.long o), .second, .val (.long ln), .second, .val (.long st), .second, .val .null, .val (.ref bo), .val .null] []))
  refine Goes.via (fun _ k => XS.aloadN X.here hx rfl (hb hby d_prog_2_method_1_code_0) rfl rfl k) ?_
  show Goes _ _ _ _ _ _ _ _ (T.setTop (mkF m 1 #[.val (.ref a), .val (.long o), .second, .val (.long ln), .second, .val (.long st), .second, .val .null, .val (.ref bo), .val .null] [(.ref a)]))
  obtain ⟨vq1, Tq1, Lq1, Xq1, qq1, nq1, stq1⟩ := callSp X hx hZ hown (recInit l Z aw hw a O) rfl (W_10 hw) (W_11 hw) (W_13 hw) (W_14 hw) (by decide) e0 (by decide) (W := 0) (by decide) (by decide) (by decide) (g := (mkF m 1 #[.val (.ref a), .val (.long o), .second, .val (.long ln), .second, .val (.long st), .second, .val .null, .val (.ref bo), .val .null] [(.ref a)])) rfl (by rw [hml]; rfl) (a := a) (argsL := []) (rest := []) rfl (lenOf pd_3 rfl) rfl (by show 2 * 0 + _ ≤ _; exact Nat.le_of_eq rfl) (hb hby d_prog_2_method_1_code_1)
  obtain ⟨rfl, pq1_0⟩ := qq1
  have Nq1 := Fr.app N nq1
  refine Goes.via stq1 ?_
  show Goes _ _ _ _ _ _ _ _ (Tq1.setTop (mkF m 4 #[.val (.ref a), .val (.long o), .second, .val (.long ln), .second, .val (.long st), .second, .val .null, .val (.ref bo), .val .null] []))
  refine Goes.via (fun _ k => XT.lloadN Xq1.here hx rfl (hb hby d_prog_2_method_1_code_4) rfl k) ?_
  show Goes _ _ _ _ _ _ _ _ (Tq1.setTop (mkF m 5 #[.val (.ref a), .val (.long o), .second, .val (.long ln), .second, .val (.long st), .second, .val .null, .val (.ref bo), .val .null] [(.long o)]))
  refine Goes.via (fun _ k => XT.lconstV Xq1.here hx rfl (0 : Int64) (hb hby d_prog_2_method_1_code_5) (by decide) k) ?_
  show Goes _ _ _ _ _ _ _ _ (Tq1.setTop (mkF m 6 #[.val (.ref a), .val (.long o), .second, .val (.long ln), .second, .val (.long st), .second, .val .null, .val (.ref bo), .val .null] [(.long (0 : Int64)), (.long o)]))
  refine Goes.via (fun _ k => XT.lcmp Xq1.here hx rfl (hb hby d_prog_2_method_1_code_6) rfl k) ?_
  show Goes _ _ _ _ _ _ _ _ (Tq1.setTop (mkF m 7 #[.val (.ref a), .val (.long o), .second, .val (.long ln), .second, .val (.long st), .second, .val .null, .val (.ref bo), .val .null] [(.int (XT.cmpL o (0 : Int64)))]))
  refine Goes.via (fun _ k => XS.ifNo Xq1.here hx rfl (hb hby d_prog_2_method_1_code_7) rfl (XT.ll_lt_f ho) k) ?_
  show Goes _ _ _ _ _ _ _ _ (Tq1.setTop (mkF m 10 #[.val (.ref a), .val (.long o), .second, .val (.long ln), .second, .val (.long st), .second, .val .null, .val (.ref bo), .val .null] []))
  refine Goes.via (fun _ k => XT.lloadN Xq1.here hx rfl (hb hby d_prog_2_method_1_code_10) rfl k) ?_
  show Goes _ _ _ _ _ _ _ _ (Tq1.setTop (mkF m 11 #[.val (.ref a), .val (.long o), .second, .val (.long ln), .second, .val (.long st), .second, .val .null, .val (.ref bo), .val .null] [(.long ln)]))
  refine Goes.via (fun _ k => XT.lconstV Xq1.here hx rfl (0 : Int64) (hb hby d_prog_2_method_1_code_11) (by decide) k) ?_
  show Goes _ _ _ _ _ _ _ _ (Tq1.setTop (mkF m 12 #[.val (.ref a), .val (.long o), .second, .val (.long ln), .second, .val (.long st), .second, .val .null, .val (.ref bo), .val .null] [(.long (0 : Int64)), (.long ln)]))
  refine Goes.via (fun _ k => XT.lcmp Xq1.here hx rfl (hb hby d_prog_2_method_1_code_12) rfl k) ?_
  show Goes _ _ _ _ _ _ _ _ (Tq1.setTop (mkF m 13 #[.val (.ref a), .val (.long o), .second, .val (.long ln), .second, .val (.long st), .second, .val .null, .val (.ref bo), .val .null] [(.int (XT.cmpL ln (0 : Int64)))]))
  refine Goes.via (fun _ k => XS.ifNo Xq1.here hx rfl (hb hby d_prog_2_method_1_code_13) rfl (XT.ll_lt_f hl) k) ?_
  show Goes _ _ _ _ _ _ _ _ (Tq1.setTop (mkF m 16 #[.val (.ref a), .val (.long o), .second, .val (.long ln), .second, .val (.long st), .second, .val .null, .val (.ref bo), .val .null] []))
  refine Goes.via (fun _ k => XT.lload Xq1.here hx rfl (hb hby d_prog_2_method_1_code_16) rfl k) ?_
  show Goes _ _ _ _ _ _ _ _ (Tq1.setTop (mkF m 18 #[.val (.ref a), .val (.long o), .second, .val (.long ln), .second, .val (.long st), .second, .val .null, .val (.ref bo), .val .null] [(.long st)]))
  refine Goes.via (fun _ k => XT.lconstV Xq1.here hx rfl (0 : Int64) (hb hby d_prog_2_method_1_code_18) (by decide) k) ?_
  show Goes _ _ _ _ _ _ _ _ (Tq1.setTop (mkF m 19 #[.val (.ref a), .val (.long o), .second, .val (.long ln), .second, .val (.long st), .second, .val .null, .val (.ref bo), .val .null] [(.long (0 : Int64)), (.long st)]))
  refine Goes.via (fun _ k => XT.lcmp Xq1.here hx rfl (hb hby d_prog_2_method_1_code_19) rfl k) ?_
  show Goes _ _ _ _ _ _ _ _ (Tq1.setTop (mkF m 20 #[.val (.ref a), .val (.long o), .second, .val (.long ln), .second, .val (.long st), .second, .val .null, .val (.ref bo), .val .null] [(.int (XT.cmpL st (0 : Int64)))]))
  refine Goes.via (fun _ k => XS.ifNo Xq1.here hx rfl (hb hby d_prog_2_method_1_code_20) rfl (XT.ll_lt_f hs) k) ?_
  show Goes _ _ _ _ _ _ _ _ (Tq1.setTop (mkF m 23 #[.val (.ref a), .val (.long o), .second, .val (.long ln), .second, .val (.long st), .second, .val .null, .val (.ref bo), .val .null] []))
  refine Goes.via (fun _ k => XT.lload Xq1.here hx rfl (hb hby d_prog_2_method_1_code_23) rfl k) ?_
  show Goes _ _ _ _ _ _ _ _ (Tq1.setTop (mkF m 25 #[.val (.ref a), .val (.long o), .second, .val (.long ln), .second, .val (.long st), .second, .val .null, .val (.ref bo), .val .null] [(.long st)]))
  refine Goes.via (fun _ k => XT.lloadN Xq1.here hx rfl (hb hby d_prog_2_method_1_code_25) rfl k) ?_
  show Goes _ _ _ _ _ _ _ _ (Tq1.setTop (mkF m 26 #[.val (.ref a), .val (.long o), .second, .val (.long ln), .second, .val (.long st), .second, .val .null, .val (.ref bo), .val .null] [(.long ln), (.long st)]))
  refine Goes.via (fun _ k => XT.lcmp Xq1.here hx rfl (hb hby d_prog_2_method_1_code_26) rfl k) ?_
  show Goes _ _ _ _ _ _ _ _ (Tq1.setTop (mkF m 27 #[.val (.ref a), .val (.long o), .second, .val (.long ln), .second, .val (.long st), .second, .val .null, .val (.ref bo), .val .null] [(.int (XT.cmpL st ln))]))
  refine Goes.via (fun _ k => XS.ifNo Xq1.here hx rfl (hb hby d_prog_2_method_1_code_27) rfl (XT.ll_gt_f hsl) k) ?_
  show Goes _ _ _ _ _ _ _ _ (Tq1.setTop (mkF m 30 #[.val (.ref a), .val (.long o), .second, .val (.long ln), .second, .val (.long st), .second, .val .null, .val (.ref bo), .val .null] []))
  refine Goes.via (fun _ k => XS.aload Xq1.here hx rfl (hb hby d_prog_2_method_1_code_30) rfl rfl k) ?_
  show Goes _ _ _ _ _ _ _ _ (Tq1.setTop (mkF m 32 #[.val (.ref a), .val (.long o), .second, .val (.long ln), .second, .val (.long st), .second, .val .null, .val (.ref bo), .val .null] [.null]))
  refine Goes.via (fun _ k => XT.ifnonnullNo Xq1.here hx rfl (hb hby d_prog_2_method_1_code_32) rfl k) ?_
  show Goes _ _ _ _ _ _ _ _ (Tq1.setTop (mkF m 35 #[.val (.ref a), .val (.long o), .second, .val (.long ln), .second, .val (.long st), .second, .val .null, .val (.ref bo), .val .null] []))
  refine Goes.via (fun _ k => XS.aload Xq1.here hx rfl (hb hby d_prog_2_method_1_code_35) rfl rfl k) ?_
  show Goes _ _ _ _ _ _ _ _ (Tq1.setTop (mkF m 37 #[.val (.ref a), .val (.long o), .second, .val (.long ln), .second, .val (.long st), .second, .val .null, .val (.ref bo), .val .null] [(.ref bo)]))
  refine Goes.via (fun _ k => XS.ifnullNo Xq1.here hx rfl (hb hby d_prog_2_method_1_code_37) rfl k) ?_
  show Goes _ _ _ _ _ _ _ _ (Tq1.setTop (mkF m 40 #[.val (.ref a), .val (.long o), .second, .val (.long ln), .second, .val (.long st), .second, .val .null, .val (.ref bo), .val .null] []))
  refine Goes.via (fun _ k => XS.aload Xq1.here hx rfl (hb hby d_prog_2_method_1_code_40) rfl rfl k) ?_
  show Goes _ _ _ _ _ _ _ _ (Tq1.setTop (mkF m 42 #[.val (.ref a), .val (.long o), .second, .val (.long ln), .second, .val (.long st), .second, .val .null, .val (.ref bo), .val .null] [.null]))
  refine Goes.via (fun _ k => XS.ifnullYes Xq1.here hx rfl (pc0 := 42) (pc' := 121) rfl (hb hby d_prog_2_method_1_code_42) rfl (by decide) (by decide) k) ?_
  show Goes _ _ _ _ _ _ _ _ (Tq1.setTop (mkF m 121 #[.val (.ref a), .val (.long o), .second, .val (.long ln), .second, .val (.long st), .second, .val .null, .val (.ref bo), .val .null] []))
  refine Goes.via (fun _ k => XS.aloadN Xq1.here hx rfl (hb hby d_prog_2_method_1_code_121) rfl rfl k) ?_
  show Goes _ _ _ _ _ _ _ _ (Tq1.setTop (mkF m 122 #[.val (.ref a), .val (.long o), .second, .val (.long ln), .second, .val (.long st), .second, .val .null, .val (.ref bo), .val .null] [(.ref a)]))
  refine Goes.via (fun _ k => XT.lloadN Xq1.here hx rfl (hb hby d_prog_2_method_1_code_122) rfl k) ?_
  show Goes _ _ _ _ _ _ _ _ (Tq1.setTop (mkF m 123 #[.val (.ref a), .val (.long o), .second, .val (.long ln), .second, .val (.long st), .second, .val .null, .val (.ref bo), .val .null] [(.long o), (.ref a)]))
  obtain ⟨Tq2, hq2, Xq2, eq2, Wq2, stq2⟩ := putF Xq1 hx hZ hown (host := "") (Or.inl (W_18 hw)) Via.refl pq1_0 F0 E (Or.inr ⟨(W_19 hw), rfl, hnm⟩) (W_2 hw) (ty := .long) (by decide) rfl rfl (g := (mkF m 123 #[.val (.ref a), .val (.long o), .second, .val (.long ln), .second, .val (.long st), .second, .val .null, .val (.ref bo), .val .null] [(.long o), (.ref a)])) rfl rfl (hb hby d_prog_2_method_1_code_123)
  have Nq2 := Fr.snoc Xq2 Nq1 (by omega)
  have zq2 := Wq2.size
  have Oq2 := O.wr Wq2 (by omega)
  have Fq2 : Fld Z hq2 a "com/example/trailkeep/trailkeep/journal/InputPosition" "offset" "J" (.long o) := F0.same Wq2
  refine Goes.via stq2 ?_
  show Goes _ _ _ _ _ _ _ _ (Tq2.setTop (mkF m 126 #[.val (.ref a), .val (.long o), .second, .val (.long ln), .second, .val (.long st), .second, .val .null, .val (.ref bo), .val .null] []))
  refine Goes.via (fun _ k => XS.aloadN Xq2.here hx rfl (hb hby d_prog_2_method_1_code_126) rfl rfl k) ?_
  show Goes _ _ _ _ _ _ _ _ (Tq2.setTop (mkF m 127 #[.val (.ref a), .val (.long o), .second, .val (.long ln), .second, .val (.long st), .second, .val .null, .val (.ref bo), .val .null] [(.ref a)]))
  refine Goes.via (fun _ k => XT.lloadN Xq2.here hx rfl (hb hby d_prog_2_method_1_code_127) rfl k) ?_
  show Goes _ _ _ _ _ _ _ _ (Tq2.setTop (mkF m 128 #[.val (.ref a), .val (.long o), .second, .val (.long ln), .second, .val (.long st), .second, .val .null, .val (.ref bo), .val .null] [(.long ln), (.ref a)]))
  have fq4 : Fld Z hq2 a "com/example/trailkeep/trailkeep/journal/InputPosition" "lineNumber" "J" (.long (0 : Int64)) := (F1.other Wq2 (Or.inr (slot_ne (Or.inr (W_21 hw)) (Or.inr (W_19 hw)) (by decide) (t := .long) (t' := .long) (by decide) (by decide))))
  have fq5 : Exa Z hq2 a "com/example/trailkeep/trailkeep/journal/InputPosition" := (E.wr Wq2)
  obtain ⟨Tq3, hq3, Xq3, eq3, Wq3, stq3⟩ := putF Xq2 hx hZ hown (host := "") (Or.inl (W_20 hw)) Via.refl eq2 fq4 fq5 (Or.inr ⟨(W_21 hw), rfl, hnm⟩) (W_2 hw) (ty := .long) (by decide) rfl rfl (g := (mkF m 128 #[.val (.ref a), .val (.long o), .second, .val (.long ln), .second, .val (.long st), .second, .val .null, .val (.ref bo), .val .null] [(.long ln), (.ref a)])) rfl rfl (hb hby d_prog_2_method_1_code_128)
  have Nq3 := Fr.snoc Xq3 Nq2 (by omega)
  have zq3 := Wq3.size
  have Oq3 := Oq2.wr Wq3 (by omega)
  have Fq3 : Fld Z hq3 a "com/example/trailkeep/trailkeep/journal/InputPosition" "lineNumber" "J" (.long ln) := fq4.same Wq3
  refine Goes.via stq3 ?_
  show Goes _ _ _ _ _ _ _ _ (Tq3.setTop (mkF m 131 #[.val (.ref a), .val (.long o), .second, .val (.long ln), .second, .val (.long st), .second, .val .null, .val (.ref bo), .val .null] []))
  refine Goes.via (fun _ k => XS.aloadN Xq3.here hx rfl (hb hby d_prog_2_method_1_code_131) rfl rfl k) ?_
  show Goes _ _ _ _ _ _ _ _ (Tq3.setTop (mkF m 132 #[.val (.ref a), .val (.long o), .second, .val (.long ln), .second, .val (.long st), .second, .val .null, .val (.ref bo), .val .null] [(.ref a)]))
  refine Goes.via (fun _ k => XT.lload Xq3.here hx rfl (hb hby d_prog_2_method_1_code_132) rfl k) ?_
  show Goes _ _ _ _ _ _ _ _ (Tq3.setTop (mkF m 134 #[.val (.ref a), .val (.long o), .second, .val (.long ln), .second, .val (.long st), .second, .val .null, .val (.ref bo), .val .null] [(.long st), (.ref a)]))
  have fq7 : Fld Z hq3 a "com/example/trailkeep/trailkeep/journal/InputPosition" "stored" "J" (.long (0 : Int64)) := ((F2.other Wq2 (Or.inr (slot_ne (Or.inr (W_23 hw)) (Or.inr (W_19 hw)) (by decide) (t := .long) (t' := .long) (by decide) (by decide)))).other Wq3 (Or.inr (slot_ne (Or.inr (W_23 hw)) (Or.inr (W_21 hw)) (by decide) (t := .long) (t' := .long) (by decide) (by decide))))
  have fq8 : Exa Z hq3 a "com/example/trailkeep/trailkeep/journal/InputPosition" := (fq5.wr Wq3)
  obtain ⟨Tq6, hq6, Xq6, eq6, Wq6, stq6⟩ := putF Xq3 hx hZ hown (host := "") (Or.inl (W_22 hw)) Via.refl eq3 fq7 fq8 (Or.inr ⟨(W_23 hw), rfl, hnm⟩) (W_2 hw) (ty := .long) (by decide) rfl rfl (g := (mkF m 134 #[.val (.ref a), .val (.long o), .second, .val (.long ln), .second, .val (.long st), .second, .val .null, .val (.ref bo), .val .null] [(.long st), (.ref a)])) rfl rfl (hb hby d_prog_2_method_1_code_134)
  have Nq6 := Fr.snoc Xq6 Nq3 (by omega)
  have zq6 := Wq6.size
  have Oq6 := Oq3.wr Wq6 (by omega)
  have Fq6 : Fld Z hq6 a "com/example/trailkeep/trailkeep/journal/InputPosition" "stored" "J" (.long st) := fq7.same Wq6
  refine Goes.via stq6 ?_
  show Goes _ _ _ _ _ _ _ _ (Tq6.setTop (mkF m 137 #[.val (.ref a), .val (.long o), .second, .val (.long ln), .second, .val (.long st), .second, .val .null, .val (.ref bo), .val .null] []))
  refine Goes.via (fun _ k => XS.aloadN Xq6.here hx rfl (hb hby d_prog_2_method_1_code_137) rfl rfl k) ?_
  show Goes _ _ _ _ _ _ _ _ (Tq6.setTop (mkF m 138 #[.val (.ref a), .val (.long o), .second, .val (.long ln), .second, .val (.long st), .second, .val .null, .val (.ref bo), .val .null] [(.ref a)]))
  refine Goes.via (fun _ k => XS.aload Xq6.here hx rfl (hb hby d_prog_2_method_1_code_138) rfl rfl k) ?_
  show Goes _ _ _ _ _ _ _ _ (Tq6.setTop (mkF m 140 #[.val (.ref a), .val (.long o), .second, .val (.long ln), .second, .val (.long st), .second, .val .null, .val (.ref bo), .val .null] [.null, (.ref a)]))
  have fq10 : Fld Z hq6 a "com/example/trailkeep/trailkeep/journal/InputPosition" "tail" "Ljava/util/UUID;" .null := (((F3.other Wq2 (Or.inr (slot_ne (Or.inr (W_25 hw)) (Or.inr (W_19 hw)) (by decide) (t := (.object "java/util/UUID")) (t' := .long) (by decide) (by decide)))).other Wq3 (Or.inr (slot_ne (Or.inr (W_25 hw)) (Or.inr (W_21 hw)) (by decide) (t := (.object "java/util/UUID")) (t' := .long) (by decide) (by decide)))).other Wq6 (Or.inr (slot_ne (Or.inr (W_25 hw)) (Or.inr (W_23 hw)) (by decide) (t := (.object "java/util/UUID")) (t' := .long) (by decide) (by decide))))
  have fq11 : Exa Z hq6 a "com/example/trailkeep/trailkeep/journal/InputPosition" := (fq8.wr Wq6)
  obtain ⟨Tq9, hq9, Xq9, eq9, Wq9, stq9⟩ := putF Xq6 hx hZ hown (host := "") (Or.inl (W_24 hw)) Via.refl eq6 fq10 fq11 (Or.inr ⟨(W_25 hw), rfl, hnm⟩) (W_2 hw) (ty := (.object "java/util/UUID")) (by decide) rfl rfl (g := (mkF m 140 #[.val (.ref a), .val (.long o), .second, .val (.long ln), .second, .val (.long st), .second, .val .null, .val (.ref bo), .val .null] [.null, (.ref a)])) rfl rfl (hb hby d_prog_2_method_1_code_140)
  have Nq9 := Fr.snoc Xq9 Nq6 (by omega)
  have zq9 := Wq9.size
  have Oq9 := Oq6.wr Wq9 (by omega)
  have Fq9 : Fld Z hq9 a "com/example/trailkeep/trailkeep/journal/InputPosition" "tail" "Ljava/util/UUID;" .null := fq10.same Wq9
  refine Goes.via stq9 ?_
  show Goes _ _ _ _ _ _ _ _ (Tq9.setTop (mkF m 143 #[.val (.ref a), .val (.long o), .second, .val (.long ln), .second, .val (.long st), .second, .val .null, .val (.ref bo), .val .null] []))
  refine Goes.via (fun _ k => XS.aloadN Xq9.here hx rfl (hb hby d_prog_2_method_1_code_143) rfl rfl k) ?_
  show Goes _ _ _ _ _ _ _ _ (Tq9.setTop (mkF m 144 #[.val (.ref a), .val (.long o), .second, .val (.long ln), .second, .val (.long st), .second, .val .null, .val (.ref bo), .val .null] [(.ref a)]))
  refine Goes.via (fun _ k => XS.aload Xq9.here hx rfl (hb hby d_prog_2_method_1_code_144) rfl rfl k) ?_
  show Goes _ _ _ _ _ _ _ _ (Tq9.setTop (mkF m 146 #[.val (.ref a), .val (.long o), .second, .val (.long ln), .second, .val (.long st), .second, .val .null, .val (.ref bo), .val .null] [(.ref bo), (.ref a)]))
  have fq13 : Fld Z hq9 a "com/example/trailkeep/trailkeep/journal/InputPosition" "born" "Ljava/lang/Long;" .null := ((((F4.other Wq2 (Or.inr (slot_ne (Or.inr (W_27 hw)) (Or.inr (W_19 hw)) (by decide) (t := (.object "java/lang/Long")) (t' := .long) (by decide) (by decide)))).other Wq3 (Or.inr (slot_ne (Or.inr (W_27 hw)) (Or.inr (W_21 hw)) (by decide) (t := (.object "java/lang/Long")) (t' := .long) (by decide) (by decide)))).other Wq6 (Or.inr (slot_ne (Or.inr (W_27 hw)) (Or.inr (W_23 hw)) (by decide) (t := (.object "java/lang/Long")) (t' := .long) (by decide) (by decide)))).other Wq9 (Or.inr (slot_ne (Or.inr (W_27 hw)) (Or.inr (W_25 hw)) (by decide) (t := (.object "java/lang/Long")) (t' := (.object "java/util/UUID")) (by decide) (by decide))))
  have fq14 : Exa Z hq9 a "com/example/trailkeep/trailkeep/journal/InputPosition" := (fq11.wr Wq9)
  obtain ⟨Tq12, hq12, Xq12, eq12, Wq12, stq12⟩ := putF Xq9 hx hZ hown (host := "") (Or.inl (W_26 hw)) Via.refl eq9 fq13 fq14 (Or.inr ⟨(W_27 hw), rfl, hnm⟩) (W_2 hw) (ty := (.object "java/lang/Long")) (by decide) rfl rfl (g := (mkF m 146 #[.val (.ref a), .val (.long o), .second, .val (.long ln), .second, .val (.long st), .second, .val .null, .val (.ref bo), .val .null] [(.ref bo), (.ref a)])) rfl rfl (hb hby d_prog_2_method_1_code_146)
  have Nq12 := Fr.snoc Xq12 Nq9 (by omega)
  have zq12 := Wq12.size
  have Oq12 := Oq9.wr Wq12 (by omega)
  have Fq12 : Fld Z hq12 a "com/example/trailkeep/trailkeep/journal/InputPosition" "born" "Ljava/lang/Long;" (.ref bo) := fq13.same Wq12
  refine Goes.via stq12 ?_
  show Goes _ _ _ _ _ _ _ _ (Tq12.setTop (mkF m 149 #[.val (.ref a), .val (.long o), .second, .val (.long ln), .second, .val (.long st), .second, .val .null, .val (.ref bo), .val .null] []))
  refine Goes.via (fun _ k => XS.aloadN Xq12.here hx rfl (hb hby d_prog_2_method_1_code_149) rfl rfl k) ?_
  show Goes _ _ _ _ _ _ _ _ (Tq12.setTop (mkF m 150 #[.val (.ref a), .val (.long o), .second, .val (.long ln), .second, .val (.long st), .second, .val .null, .val (.ref bo), .val .null] [(.ref a)]))
  refine Goes.via (fun _ k => XS.aload Xq12.here hx rfl (hb hby d_prog_2_method_1_code_150) rfl rfl k) ?_
  show Goes _ _ _ _ _ _ _ _ (Tq12.setTop (mkF m 152 #[.val (.ref a), .val (.long o), .second, .val (.long ln), .second, .val (.long st), .second, .val .null, .val (.ref bo), .val .null] [.null, (.ref a)]))
  have fq16 : Fld Z hq12 a "com/example/trailkeep/trailkeep/journal/InputPosition" "batchTime" "Ljava/lang/Long;" .null := (((((F5.other Wq2 (Or.inr (slot_ne (Or.inr (W_29 hw)) (Or.inr (W_19 hw)) (by decide) (t := (.object "java/lang/Long")) (t' := .long) (by decide) (by decide)))).other Wq3 (Or.inr (slot_ne (Or.inr (W_29 hw)) (Or.inr (W_21 hw)) (by decide) (t := (.object "java/lang/Long")) (t' := .long) (by decide) (by decide)))).other Wq6 (Or.inr (slot_ne (Or.inr (W_29 hw)) (Or.inr (W_23 hw)) (by decide) (t := (.object "java/lang/Long")) (t' := .long) (by decide) (by decide)))).other Wq9 (Or.inr (slot_ne (Or.inr (W_29 hw)) (Or.inr (W_25 hw)) (by decide) (t := (.object "java/lang/Long")) (t' := (.object "java/util/UUID")) (by decide) (by decide)))).other Wq12 (Or.inr (slot_ne (Or.inr (W_29 hw)) (Or.inr (W_27 hw)) (by decide) (t := (.object "java/lang/Long")) (t' := (.object "java/lang/Long")) (by decide) (by decide))))
  have fq17 : Exa Z hq12 a "com/example/trailkeep/trailkeep/journal/InputPosition" := (fq14.wr Wq12)
  obtain ⟨Tq15, hq15, Xq15, eq15, Wq15, stq15⟩ := putF Xq12 hx hZ hown (host := "") (Or.inl (W_28 hw)) Via.refl eq12 fq16 fq17 (Or.inr ⟨(W_29 hw), rfl, hnm⟩) (W_2 hw) (ty := (.object "java/lang/Long")) (by decide) rfl rfl (g := (mkF m 152 #[.val (.ref a), .val (.long o), .second, .val (.long ln), .second, .val (.long st), .second, .val .null, .val (.ref bo), .val .null] [.null, (.ref a)])) rfl rfl (hb hby d_prog_2_method_1_code_152)
  have Nq15 := Fr.snoc Xq15 Nq12 (by omega)
  have zq15 := Wq15.size
  have Oq15 := Oq12.wr Wq15 (by omega)
  have Fq15 : Fld Z hq15 a "com/example/trailkeep/trailkeep/journal/InputPosition" "batchTime" "Ljava/lang/Long;" .null := fq16.same Wq15
  refine Goes.via stq15 ?_
  show Goes _ _ _ _ _ _ _ _ (Tq15.setTop (mkF m 155 #[.val (.ref a), .val (.long o), .second, .val (.long ln), .second, .val (.long st), .second, .val .null, .val (.ref bo), .val .null] []))
  refine goRetV Xq15 hx hrt hlk Nq15 (by decide) (by decide) (hb hby d_prog_2_method_1_code_155) ?_
  try rw [eq15]
  have fq18 : Exa Z hq15 a "com/example/trailkeep/trailkeep/journal/InputPosition" := (fq17.wr Wq15)
  have fq19 : Fld Z hq15 a "com/example/trailkeep/trailkeep/journal/InputPosition" "offset" "J" (.long o) := (((((Fq2.other Wq3 (Or.inr (slot_ne (Or.inr (W_19 hw)) (Or.inr (W_21 hw)) (by decide) (t := .long) (t' := .long) (by decide) (by decide)))).other Wq6 (Or.inr (slot_ne (Or.inr (W_19 hw)) (Or.inr (W_23 hw)) (by decide) (t := .long) (t' := .long) (by decide) (by decide)))).other Wq9 (Or.inr (slot_ne (Or.inr (W_19 hw)) (Or.inr (W_25 hw)) (by decide) (t := .long) (t' := (.object "java/util/UUID")) (by decide) (by decide)))).other Wq12 (Or.inr (slot_ne (Or.inr (W_19 hw)) (Or.inr (W_27 hw)) (by decide) (t := .long) (t' := (.object "java/lang/Long")) (by decide) (by decide)))).other Wq15 (Or.inr (slot_ne (Or.inr (W_19 hw)) (Or.inr (W_29 hw)) (by decide) (t := .long) (t' := (.object "java/lang/Long")) (by decide) (by decide))))
  have fq20 : Fld Z hq15 a "com/example/trailkeep/trailkeep/journal/InputPosition" "lineNumber" "J" (.long ln) := ((((Fq3.other Wq6 (Or.inr (slot_ne (Or.inr (W_21 hw)) (Or.inr (W_23 hw)) (by decide) (t := .long) (t' := .long) (by decide) (by decide)))).other Wq9 (Or.inr (slot_ne (Or.inr (W_21 hw)) (Or.inr (W_25 hw)) (by decide) (t := .long) (t' := (.object "java/util/UUID")) (by decide) (by decide)))).other Wq12 (Or.inr (slot_ne (Or.inr (W_21 hw)) (Or.inr (W_27 hw)) (by decide) (t := .long) (t' := (.object "java/lang/Long")) (by decide) (by decide)))).other Wq15 (Or.inr (slot_ne (Or.inr (W_21 hw)) (Or.inr (W_29 hw)) (by decide) (t := .long) (t' := (.object "java/lang/Long")) (by decide) (by decide))))
  have fq21 : Fld Z hq15 a "com/example/trailkeep/trailkeep/journal/InputPosition" "stored" "J" (.long st) := (((Fq6.other Wq9 (Or.inr (slot_ne (Or.inr (W_23 hw)) (Or.inr (W_25 hw)) (by decide) (t := .long) (t' := (.object "java/util/UUID")) (by decide) (by decide)))).other Wq12 (Or.inr (slot_ne (Or.inr (W_23 hw)) (Or.inr (W_27 hw)) (by decide) (t := .long) (t' := (.object "java/lang/Long")) (by decide) (by decide)))).other Wq15 (Or.inr (slot_ne (Or.inr (W_23 hw)) (Or.inr (W_29 hw)) (by decide) (t := .long) (t' := (.object "java/lang/Long")) (by decide) (by decide))))
  have fq22 : Fld Z hq15 a "com/example/trailkeep/trailkeep/journal/InputPosition" "tail" "Ljava/util/UUID;" .null := ((Fq9.other Wq12 (Or.inr (slot_ne (Or.inr (W_25 hw)) (Or.inr (W_27 hw)) (by decide) (t := (.object "java/util/UUID")) (t' := (.object "java/lang/Long")) (by decide) (by decide)))).other Wq15 (Or.inr (slot_ne (Or.inr (W_25 hw)) (Or.inr (W_29 hw)) (by decide) (t := (.object "java/util/UUID")) (t' := (.object "java/lang/Long")) (by decide) (by decide))))
  have fq23 : Fld Z hq15 a "com/example/trailkeep/trailkeep/journal/InputPosition" "born" "Ljava/lang/Long;" (.ref bo) := (Fq12.other Wq15 (Or.inr (slot_ne (Or.inr (W_27 hw)) (Or.inr (W_29 hw)) (by decide) (t := (.object "java/lang/Long")) (t' := (.object "java/lang/Long")) (by decide) (by decide))))
  exact ⟨rfl, (((((((Keep.refl _ [a]).wr Wq2 (Or.inl (by simp))).wr Wq3 (Or.inl (by simp))).wr Wq6 (Or.inl (by simp))).wr Wq9 (Or.inl (by simp))).wr Wq12 (Or.inl (by simp))).wr Wq15 (Or.inl (by simp))), fq18, fq19, fq20, fq21, fq22, fq23, Fq15⟩
theorem ef_init3 (m : MethodId) (a : Addr) (o : Int64) (ln : Int64) (st : Int64) : entryFrame m #[(.ref a), (.long o), (.long ln), (.long st)] 7 = mkF m 0 #[.val (.ref a), .val (.long o), .second, .val (.long ln), .second, .val (.long st), .second] [] := by first | (simp [entryFrame, mkF, argsToLocals, Value.category]; done) | rfl
set_option maxRecDepth 65536 in
set_option maxHeartbeats 40000000 in
theorem init3 (l : Launch) (Z : State) (aw : Array Value) (hw : ∀ d ∈ tables_1, d.before aw Z = true) (a : Addr) (o : Int64) (ln : Int64) (st : Int64) {h0 : Heap} {n0 : Nat} (O : Old Z n0 h0) (E : Exa Z h0 a "com/example/trailkeep/trailkeep/journal/InputPosition") (F0 : Fld Z h0 a "com/example/trailkeep/trailkeep/journal/InputPosition" "offset" "J" (.long (0 : Int64))) (F1 : Fld Z h0 a "com/example/trailkeep/trailkeep/journal/InputPosition" "lineNumber" "J" (.long (0 : Int64))) (F2 : Fld Z h0 a "com/example/trailkeep/trailkeep/journal/InputPosition" "stored" "J" (.long (0 : Int64))) (F3 : Fld Z h0 a "com/example/trailkeep/trailkeep/journal/InputPosition" "tail" "Ljava/util/UUID;" .null) (F4 : Fld Z h0 a "com/example/trailkeep/trailkeep/journal/InputPosition" "born" "Ljava/lang/Long;" .null) (F5 : Fld Z h0 a "com/example/trailkeep/trailkeep/journal/InputPosition" "batchTime" "Ljava/lang/Long;" .null) (ga : n0 ≤ a) (ho : ¬ o < (0 : Int64)) (hl : ¬ ln < (0 : Int64)) (hs : ¬ st < (0 : Int64)) (hsl : ¬ ln < st) :
    MET l Z (⟨"com/example/trailkeep/trailkeep/journal/InputPosition", "<init>", "(JJJ)V"⟩ : MethodName) prog_2_method_2_code 7 none ({ frames := 3, cells := 0, slots := 0, locals := 45 } : Room) #[(.ref a), (.long o), (.long ln), (.long st)] h0 n0 (fun vv hh => vv = none ∧ Keep h0 hh [a] ∧ Exa Z hh a "com/example/trailkeep/trailkeep/journal/InputPosition" ∧ Fld Z hh a "com/example/trailkeep/trailkeep/journal/InputPosition" "offset" "J" (.long o) ∧ Fld Z hh a "com/example/trailkeep/trailkeep/journal/InputPosition" "lineNumber" "J" (.long ln) ∧ Fld Z hh a "com/example/trailkeep/trailkeep/journal/InputPosition" "stored" "J" (.long st) ∧ Fld Z hh a "com/example/trailkeep/trailkeep/journal/InputPosition" "tail" "Ljava/util/UUID;" .null ∧ Fld Z hh a "com/example/trailkeep/trailkeep/journal/InputPosition" "born" "Ljava/lang/Long;" .null ∧ Fld Z hh a "com/example/trailkeep/trailkeep/journal/InputPosition" "batchTime" "Ljava/lang/Long;" .null) := by
  refine metOf (plainFor_of_name pn_5) ?_
  intro p e s m below meth c T hx hby hml hrt hlk hnm hZ hown X e0
  replace hml : c.maxLocals = 7 := hml
  replace hnm : meth.name = "<init>" := hnm
  replace hown : s.vm.findClass "com/example/trailkeep/trailkeep/journal/InputPosition" = some m.cls := hown
  have N := Fr.nil n0
  have zO := O.le
  refine goCast (ef_init3 m a o ln st) ?_
  have lt_a := E.lt
  show Goes _ _ _ _ _ _ _ _ (T.setTop (mkF m 0 #[.val (.ref a), .val (.long o), .second, .val (.long ln), .second, .val (.long st), .second] []))
  refine Goes.via (fun _ k => XS.aloadN X.here hx rfl (hb hby d_prog_2_method_2_code_0) rfl rfl k) ?_
  show Goes _ _ _ _ _ _ _ _ (T.setTop (mkF m 1 #[.val (.ref a), .val (.long o), .second, .val (.long ln), .second, .val (.long st), .second] [(.ref a)]))
  refine Goes.via (fun _ k => XT.lloadN X.here hx rfl (hb hby d_prog_2_method_2_code_1) rfl k) ?_
  show Goes _ _ _ _ _ _ _ _ (T.setTop (mkF m 2 #[.val (.ref a), .val (.long o), .second, .val (.long ln), .second, .val (.long st), .second] [(.long o), (.ref a)]))
  refine Goes.via (fun _ k => XT.lloadN X.here hx rfl (hb hby d_prog_2_method_2_code_2) rfl k) ?_
  show Goes _ _ _ _ _ _ _ _ (T.setTop (mkF m 3 #[.val (.ref a), .val (.long o), .second, .val (.long ln), .second, .val (.long st), .second] [(.long ln), (.long o), (.ref a)]))
  refine Goes.via (fun _ k => XT.lload X.here hx rfl (hb hby d_prog_2_method_2_code_3) rfl k) ?_
  show Goes _ _ _ _ _ _ _ _ (T.setTop (mkF m 5 #[.val (.ref a), .val (.long o), .second, .val (.long ln), .second, .val (.long st), .second] [(.long st), (.long ln), (.long o), (.ref a)]))
  refine Goes.via (fun _ k => XS.aconstNull X.here hx rfl (hb hby d_prog_2_method_2_code_5) k) ?_
  show Goes _ _ _ _ _ _ _ _ (T.setTop (mkF m 6 #[.val (.ref a), .val (.long o), .second, .val (.long ln), .second, .val (.long st), .second] [.null, (.long st), (.long ln), (.long o), (.ref a)]))
  refine Goes.via (fun _ k => XS.aconstNull X.here hx rfl (hb hby d_prog_2_method_2_code_6) k) ?_
  show Goes _ _ _ _ _ _ _ _ (T.setTop (mkF m 7 #[.val (.ref a), .val (.long o), .second, .val (.long ln), .second, .val (.long st), .second] [.null, .null, (.long st), (.long ln), (.long o), (.ref a)]))
  refine Goes.via (fun _ k => XS.aconstNull X.here hx rfl (hb hby d_prog_2_method_2_code_7) k) ?_
  show Goes _ _ _ _ _ _ _ _ (T.setTop (mkF m 8 #[.val (.ref a), .val (.long o), .second, .val (.long ln), .second, .val (.long st), .second] [.null, .null, .null, (.long st), (.long ln), (.long o), (.ref a)]))
  obtain ⟨vq1, Tq1, Lq1, Xq1, qq1, nq1, stq1⟩ := callSp X hx hZ hown (init6n l Z aw hw a o ln st O E F0 F1 F2 F3 F4 F5 (by omega) (by assumption) (by assumption) (by assumption) (by assumption)) rfl (W_7 hw) (W_8 hw) (W_3 hw) (W_9 hw) (by decide) e0 (by decide) (W := 0) (by decide) (by decide) (by decide) (g := (mkF m 8 #[.val (.ref a), .val (.long o), .second, .val (.long ln), .second, .val (.long st), .second] [.null, .null, .null, (.long st), (.long ln), (.long o), (.ref a)])) rfl (by rw [hml]; rfl) (a := a) (argsL := [(.long o), (.long ln), (.long st), .null, .null, .null]) (rest := []) rfl (lenOf pd_6 rfl) rfl (by show 2 * 0 + _ ≤ _; exact Nat.le_of_eq rfl) (hb hby d_prog_2_method_2_code_8)
  obtain ⟨rfl, pq1_0, pq1_1, pq1_2, pq1_3, pq1_4, pq1_5, pq1_6, pq1_7⟩ := qq1
  have Nq1 := Fr.app N nq1
  have zq1 := pq1_0.1
  have Oq1 := O.keep pq1_0 (allS (by omega) all0)
  have ltpq1_1 := pq1_1.lt
  refine Goes.via stq1 ?_
  show Goes _ _ _ _ _ _ _ _ (Tq1.setTop (mkF m 11 #[.val (.ref a), .val (.long o), .second, .val (.long ln), .second, .val (.long st), .second] []))
  refine goRetV Xq1 hx hrt hlk Nq1 (by decide) (by decide) (hb hby d_prog_2_method_2_code_11) ?_
  exact ⟨rfl, ((Keep.refl _ [a]).trans pq1_0 (allS (Or.inl (by simp)) all0)), pq1_1, pq1_2, pq1_3, pq1_4, pq1_5, pq1_6, pq1_7⟩
theorem ef_withBorn (m : MethodId) (a : Addr) (bn : Int64) : entryFrame m #[(.ref a), (.long bn)] 3 = mkF m 0 #[.val (.ref a), .val (.long bn), .second] [] := by first | (simp [entryFrame, mkF, argsToLocals, Value.category]; done) | rfl
set_option maxRecDepth 65536 in
set_option maxHeartbeats 40000000 in
theorem withBorn (l : Launch) (Z : State) (aw : Array Value) (hw : ∀ d ∈ tables_1, d.before aw Z = true) (a : Addr) (bn : Int64) (o : Int64) (ln : Int64) (st : Int64) (ar : Addr) (c0 : Cell) {h0 : Heap} {n0 : Nat} (O : Old Z n0 h0) (S0 : Sta Z Z.heap "java/lang/Long$LongCache" "cache" "[Ljava/lang/Long;" (.ref ar)) (A0 : Arr Z Z.heap ar c0 (.object "java/lang/Long")) (E : Exa Z h0 a "com/example/trailkeep/trailkeep/journal/InputPosition") (F0 : Fld Z h0 a "com/example/trailkeep/trailkeep/journal/InputPosition" "offset" "J" (.long o)) (F1 : Fld Z h0 a "com/example/trailkeep/trailkeep/journal/InputPosition" "lineNumber" "J" (.long ln)) (F2 : Fld Z h0 a "com/example/trailkeep/trailkeep/journal/InputPosition" "stored" "J" (.long st)) (F3 : Fld Z h0 a "com/example/trailkeep/trailkeep/journal/InputPosition" "tail" "Ljava/util/UUID;" .null) (F5 : Fld Z h0 a "com/example/trailkeep/trailkeep/journal/InputPosition" "batchTime" "Ljava/lang/Long;" .null) (ho : ¬ o < (0 : Int64)) (hl : ¬ ln < (0 : Int64)) (hs : ¬ st < (0 : Int64)) (hsl : ¬ ln < st) (Sz : c0.slots.size = (256 : Int32).toNatClampNeg) (CH : ∀ j : Int32, ¬ j < 0 → j < (256 : Int32) → ∃ r, c0.slots[j.toNatClampNeg]? = some (.ref r) ∧ Exa Z Z.heap r "java/lang/Long" ∧ Fld Z Z.heap r "java/lang/Long" "value" "J" (.long (j - (128 : Int32)).toInt64)) :
    MET l Z (⟨"com/example/trailkeep/trailkeep/journal/InputPosition", "withBorn", "(J)Lcom/example/trailkeep/trailkeep/journal/InputPosition;"⟩ : MethodName) prog_2_method_5_code 3 (some (.object "com/example/trailkeep/trailkeep/journal/InputPosition")) ({ frames := 4, cells := 2, slots := 7, locals := 70 } : Room) #[(.ref a), (.long bn)] h0 n0 (fun vv hh => ∃ r : Addr, ∃ q : Addr, vv = some (.ref r) ∧ h0.size ≤ r ∧ Keep h0 hh [] ∧ Exa Z hh r "com/example/trailkeep/trailkeep/journal/InputPosition" ∧ Fld Z hh r "com/example/trailkeep/trailkeep/journal/InputPosition" "offset" "J" (.long o) ∧ Fld Z hh r "com/example/trailkeep/trailkeep/journal/InputPosition" "lineNumber" "J" (.long ln) ∧ Fld Z hh r "com/example/trailkeep/trailkeep/journal/InputPosition" "stored" "J" (.long st) ∧ Fld Z hh r "com/example/trailkeep/trailkeep/journal/InputPosition" "tail" "Ljava/util/UUID;" .null ∧ Fld Z hh r "com/example/trailkeep/trailkeep/journal/InputPosition" "born" "Ljava/lang/Long;" (.ref q) ∧ Fld Z hh r "com/example/trailkeep/trailkeep/journal/InputPosition" "batchTime" "Ljava/lang/Long;" .null ∧ Exa Z hh q "java/lang/Long" ∧ Fld Z hh q "java/lang/Long" "value" "J" (.long bn)) := by
  refine metOf (plainFor_of_name pn_5) ?_
  intro p e s m below meth c T hx hby hml hrt hlk hnm hZ hown X e0
  replace hml : c.maxLocals = 3 := hml
  replace hnm : meth.name = "withBorn" := hnm
  replace hown : s.vm.findClass "com/example/trailkeep/trailkeep/journal/InputPosition" = some m.cls := hown
  have N := Fr.nil n0
  have zO := O.le
  refine goCast (ef_withBorn m a bn) ?_
  have lt_a := E.lt
  show Goes _ _ _ _ _ _ _ _ (T.setTop (mkF m 0 #[.val (.ref a), .val (.long bn), .second] []))
  obtain ⟨Tq1, hq1, Xq1, eq1, Eq1, Aq1, Dq1, -, stq1⟩ := newO X hx hZ hown (W_35 hw) (W_2 hw) (W_3 hw) e0 (g := (mkF m 0 #[.val (.ref a), .val (.long bn), .second] [])) rfl (hb hby d_prog_2_method_5_code_0) (by decide) (by decide)
  obtain ⟨bq1, gq1⟩ : ∃ z, z = h0.size := ⟨_, rfl⟩
  rw [← gq1] at Aq1 Dq1 stq1
  have zq1 := Eq1.1
  have Oq1 := O.ext Eq1
  have lq1 := Aq1.lt
  refine Goes.via stq1 ?_
  show Goes _ _ _ _ _ _ _ _ (Tq1.setTop (mkF m 3 #[.val (.ref a), .val (.long bn), .second] [(.ref bq1)]))
  refine Goes.via (fun _ k => XS.dup Xq1.here hx rfl (hb hby d_prog_2_method_5_code_3) rfl rfl k) ?_
  show Goes _ _ _ _ _ _ _ _ (Tq1.setTop (mkF m 4 #[.val (.ref a), .val (.long bn), .second] [(.ref bq1), (.ref bq1)]))
  refine Goes.via (fun _ k => XS.aloadN Xq1.here hx rfl (hb hby d_prog_2_method_5_code_4) rfl rfl k) ?_
  show Goes _ _ _ _ _ _ _ _ (Tq1.setTop (mkF m 5 #[.val (.ref a), .val (.long bn), .second] [(.ref a), (.ref bq1), (.ref bq1)]))
  have fq3 : Fld Z hq1 a "com/example/trailkeep/trailkeep/journal/InputPosition" "offset" "J" (.long o) := (F0.ext Eq1)
  obtain ⟨Tq2, Xq2, eq2, stq2⟩ := getF Xq1 hx hZ hown (host := "") (Or.inl (W_18 hw)) Via.refl eq1 fq3 (g := (mkF m 5 #[.val (.ref a), .val (.long bn), .second] [(.ref a), (.ref bq1), (.ref bq1)])) rfl rfl (hb hby d_prog_2_method_5_code_5)
  refine Goes.via stq2 ?_
  show Goes _ _ _ _ _ _ _ _ (Tq2.setTop (mkF m 8 #[.val (.ref a), .val (.long bn), .second] [(.long o), (.ref bq1), (.ref bq1)]))
  refine Goes.via (fun _ k => XS.aloadN Xq2.here hx rfl (hb hby d_prog_2_method_5_code_8) rfl rfl k) ?_
  show Goes _ _ _ _ _ _ _ _ (Tq2.setTop (mkF m 9 #[.val (.ref a), .val (.long bn), .second] [(.ref a), (.long o), (.ref bq1), (.ref bq1)]))
  have fq5 : Fld Z hq1 a "com/example/trailkeep/trailkeep/journal/InputPosition" "lineNumber" "J" (.long ln) := (F1.ext Eq1)
  obtain ⟨Tq4, Xq4, eq4, stq4⟩ := getF Xq2 hx hZ hown (host := "") (Or.inl (W_20 hw)) Via.refl eq2 fq5 (g := (mkF m 9 #[.val (.ref a), .val (.long bn), .second] [(.ref a), (.long o), (.ref bq1), (.ref bq1)])) rfl rfl (hb hby d_prog_2_method_5_code_9)
  refine Goes.via stq4 ?_
  show Goes _ _ _ _ _ _ _ _ (Tq4.setTop (mkF m 12 #[.val (.ref a), .val (.long bn), .second] [(.long ln), (.long o), (.ref bq1), (.ref bq1)]))
  refine Goes.via (fun _ k => XS.aloadN Xq4.here hx rfl (hb hby d_prog_2_method_5_code_12) rfl rfl k) ?_
  show Goes _ _ _ _ _ _ _ _ (Tq4.setTop (mkF m 13 #[.val (.ref a), .val (.long bn), .second] [(.ref a), (.long ln), (.long o), (.ref bq1), (.ref bq1)]))
  have fq7 : Fld Z hq1 a "com/example/trailkeep/trailkeep/journal/InputPosition" "stored" "J" (.long st) := (F2.ext Eq1)
  obtain ⟨Tq6, Xq6, eq6, stq6⟩ := getF Xq4 hx hZ hown (host := "") (Or.inl (W_22 hw)) Via.refl eq4 fq7 (g := (mkF m 13 #[.val (.ref a), .val (.long bn), .second] [(.ref a), (.long ln), (.long o), (.ref bq1), (.ref bq1)])) rfl rfl (hb hby d_prog_2_method_5_code_13)
  refine Goes.via stq6 ?_
  show Goes _ _ _ _ _ _ _ _ (Tq6.setTop (mkF m 16 #[.val (.ref a), .val (.long bn), .second] [(.long st), (.long ln), (.long o), (.ref bq1), (.ref bq1)]))
  refine Goes.via (fun _ k => XS.aloadN Xq6.here hx rfl (hb hby d_prog_2_method_5_code_16) rfl rfl k) ?_
  show Goes _ _ _ _ _ _ _ _ (Tq6.setTop (mkF m 17 #[.val (.ref a), .val (.long bn), .second] [(.ref a), (.long st), (.long ln), (.long o), (.ref bq1), (.ref bq1)]))
  have fq9 : Fld Z hq1 a "com/example/trailkeep/trailkeep/journal/InputPosition" "tail" "Ljava/util/UUID;" .null := (F3.ext Eq1)
  obtain ⟨Tq8, Xq8, eq8, stq8⟩ := getF Xq6 hx hZ hown (host := "") (Or.inl (W_24 hw)) Via.refl eq6 fq9 (g := (mkF m 17 #[.val (.ref a), .val (.long bn), .second] [(.ref a), (.long st), (.long ln), (.long o), (.ref bq1), (.ref bq1)])) rfl rfl (hb hby d_prog_2_method_5_code_17)
  refine Goes.via stq8 ?_
  show Goes _ _ _ _ _ _ _ _ (Tq8.setTop (mkF m 20 #[.val (.ref a), .val (.long bn), .second] [.null, (.long st), (.long ln), (.long o), (.ref bq1), (.ref bq1)]))
  refine Goes.via (fun _ k => XT.lloadN Xq8.here hx rfl (hb hby d_prog_2_method_5_code_20) rfl k) ?_
  show Goes _ _ _ _ _ _ _ _ (Tq8.setTop (mkF m 21 #[.val (.ref a), .val (.long bn), .second] [(.long bn), .null, (.long st), (.long ln), (.long o), (.ref bq1), (.ref bq1)]))
  obtain ⟨vq10, Tq10, Lq10, Xq10, qq10, nq10, stq10⟩ := callSt Xq8 hx hZ hown (valueOf l Z aw hw bn ar c0 Oq1 S0 A0 (by assumption) (by assumption)) (W_36 hw) (W_37 hw) (W_38 hw) (W_39 hw) (by decide) eq8 (by decide) (W := 9) (by decide) (by decide) (by decide) (g := (mkF m 21 #[.val (.ref a), .val (.long bn), .second] [(.long bn), .null, (.long st), (.long ln), (.long o), (.ref bq1), (.ref bq1)])) rfl (by rw [hml]; rfl) (argsL := [(.long bn)]) (rest := [.null, (.long st), (.long ln), (.long o), (.ref bq1), (.ref bq1)]) rfl (lenOf pd_7 rfl) rfl (by show 2 * 0 + _ ≤ _; exact Nat.le_of_eq rfl) (hb hby d_prog_2_method_5_code_21)
  obtain ⟨xr_q10, rfl, pq10_0, pq10_1, pq10_2⟩ := qq10
  have Nq10 := Fr.app N nq10
  have zq10 := pq10_0.1
  have Oq10 := Oq1.keep pq10_0 all0
  have ltpq10_1 := pq10_1.lt
  refine Goes.via stq10 ?_
  show Goes _ _ _ _ _ _ _ _ (Tq10.setTop (mkF m 24 #[.val (.ref a), .val (.long bn), .second] [(.ref xr_q10), .null, (.long st), (.long ln), (.long o), (.ref bq1), (.ref bq1)]))
  have fq11 : Exa Z Tq10.heap bq1 "com/example/trailkeep/trailkeep/journal/InputPosition" := (Aq1.keep pq10_0)
  have nerb : xr_q10 ≠ bq1 := ne_exa pq10_1 fq11 (by decide)
  refine Goes.via (fun _ k => XS.aloadN Xq10.here hx rfl (hb hby d_prog_2_method_5_code_24) rfl rfl k) ?_
  show Goes _ _ _ _ _ _ _ _ (Tq10.setTop (mkF m 25 #[.val (.ref a), .val (.long bn), .second] [(.ref a), (.ref xr_q10), .null, (.long st), (.long ln), (.long o), (.ref bq1), (.ref bq1)]))
  have fq13 : Fld Z Tq10.heap a "com/example/trailkeep/trailkeep/journal/InputPosition" "batchTime" "Ljava/lang/Long;" .null := ((F5.ext Eq1).keep pq10_0 nin0)
  obtain ⟨Tq12, Xq12, eq12, stq12⟩ := getF Xq10 hx hZ hown (host := "") (Or.inl (W_28 hw)) Via.refl rfl fq13 (g := (mkF m 25 #[.val (.ref a), .val (.long bn), .second] [(.ref a), (.ref xr_q10), .null, (.long st), (.long ln), (.long o), (.ref bq1), (.ref bq1)])) rfl rfl (hb hby d_prog_2_method_5_code_25)
  refine Goes.via stq12 ?_
  show Goes _ _ _ _ _ _ _ _ (Tq12.setTop (mkF m 28 #[.val (.ref a), .val (.long bn), .second] [.null, (.ref xr_q10), .null, (.long st), (.long ln), (.long o), (.ref bq1), (.ref bq1)]))
  have fq14 : Fld Z Tq10.heap bq1 "com/example/trailkeep/trailkeep/journal/InputPosition" "offset" "J" (.long (0 : Int64)) := ((Dq1 (Or.inr (W_19 hw)) (ty := .long) (by decide)).keep pq10_0 nin0)
  have fq15 : Fld Z Tq10.heap bq1 "com/example/trailkeep/trailkeep/journal/InputPosition" "lineNumber" "J" (.long (0 : Int64)) := ((Dq1 (Or.inr (W_21 hw)) (ty := .long) (by decide)).keep pq10_0 nin0)
  have fq16 : Fld Z Tq10.heap bq1 "com/example/trailkeep/trailkeep/journal/InputPosition" "stored" "J" (.long (0 : Int64)) := ((Dq1 (Or.inr (W_23 hw)) (ty := .long) (by decide)).keep pq10_0 nin0)
  have fq17 : Fld Z Tq10.heap bq1 "com/example/trailkeep/trailkeep/journal/InputPosition" "tail" "Ljava/util/UUID;" .null := ((Dq1 (Or.inr (W_25 hw)) (ty := (.object "java/util/UUID")) (by decide)).keep pq10_0 nin0)
  have fq18 : Fld Z Tq10.heap bq1 "com/example/trailkeep/trailkeep/journal/InputPosition" "born" "Ljava/lang/Long;" .null := ((Dq1 (Or.inr (W_27 hw)) (ty := (.object "java/lang/Long")) (by decide)).keep pq10_0 nin0)
  have fq19 : Fld Z Tq10.heap bq1 "com/example/trailkeep/trailkeep/journal/InputPosition" "batchTime" "Ljava/lang/Long;" .null := ((Dq1 (Or.inr (W_29 hw)) (ty := (.object "java/lang/Long")) (by decide)).keep pq10_0 nin0)
  obtain ⟨vq20, Tq20, Lq20, Xq20, qq20, nq20, stq20⟩ := callSp Xq12 hx hZ hown (init6r l Z aw hw bq1 o ln st xr_q10 Oq10 fq11 fq14 fq15 fq16 fq17 fq18 fq19 (by omega) (by assumption) (by assumption) (by assumption) (by assumption)) rfl (W_7 hw) (W_8 hw) (W_3 hw) (W_9 hw) (by decide) eq12 (by decide) (W := 1) (by decide) (by decide) (by decide) (g := (mkF m 28 #[.val (.ref a), .val (.long bn), .second] [.null, (.ref xr_q10), .null, (.long st), (.long ln), (.long o), (.ref bq1), (.ref bq1)])) rfl (by rw [hml]; rfl) (a := bq1) (argsL := [(.long o), (.long ln), (.long st), .null, (.ref xr_q10), .null]) (rest := [(.ref bq1)]) rfl (lenOf pd_6 rfl) rfl (by show 2 * 0 + _ ≤ _; exact Nat.le_of_eq rfl) (hb hby d_prog_2_method_5_code_28)
  obtain ⟨rfl, pq20_0, pq20_1, pq20_2, pq20_3, pq20_4, pq20_5, pq20_6, pq20_7⟩ := qq20
  have Nq20 := Fr.app Nq10 nq20
  have zq20 := pq20_0.1
  have Oq20 := Oq10.keep pq20_0 (allS (by omega) all0)
  have ltpq20_1 := pq20_1.lt
  refine Goes.via stq20 ?_
  show Goes _ _ _ _ _ _ _ _ (Tq20.setTop (mkF m 31 #[.val (.ref a), .val (.long bn), .second] [(.ref bq1)]))
  refine goRetA Xq20 hx hrt rfl hlk Nq20 (by decide) (by decide) rfl (hb hby d_prog_2_method_5_code_31) ?_
  have fq21 : Exa Z Tq20.heap xr_q10 "java/lang/Long" := (pq10_1.keep pq20_0)
  have fq22 : Fld Z Tq20.heap xr_q10 "java/lang/Long" "value" "J" (.long bn) := (pq10_2.keep pq20_0 (ninS (by omega) nin0))
  exact ⟨bq1, xr_q10, rfl, by omega, ((((Keep.refl _ []).ext Eq1).trans pq10_0 all0).trans pq20_0 (allS (Or.inr (by omega)) all0)), pq20_1, pq20_2, pq20_3, pq20_4, pq20_5, pq20_6, pq20_7, fq21, fq22⟩
theorem ef_get_offset (m : MethodId) (a : Addr) : entryFrame m #[(.ref a)] 1 = mkF m 0 #[.val (.ref a)] [] := by first | (simp [entryFrame, mkF, argsToLocals, Value.category]; done) | rfl
set_option maxRecDepth 65536 in
set_option maxHeartbeats 40000000 in
theorem get_offset (l : Launch) (Z : State) (aw : Array Value) (hw : ∀ d ∈ tables_1, d.before aw Z = true) (a : Addr) (v : Int64) {h0 : Heap} {n0 : Nat} (O : Old Z n0 h0) (F : Fld Z h0 a "com/example/trailkeep/trailkeep/journal/InputPosition" "offset" "J" (.long v)) :
    MET l Z (⟨"com/example/trailkeep/trailkeep/journal/InputPosition", "offset", "()J"⟩ : MethodName) prog_2_method_10_code 1 (some .long) ({ frames := 0, cells := 0, slots := 0, locals := 0 } : Room) #[(.ref a)] h0 n0 (fun vv hh => vv = some (.long v) ∧ hh = h0) := by
  refine metOf (plainFor_of_name pn_5) ?_
  intro p e s m below meth c T hx hby hml hrt hlk hnm hZ hown X e0
  replace hml : c.maxLocals = 1 := hml
  replace hnm : meth.name = "offset" := hnm
  replace hown : s.vm.findClass "com/example/trailkeep/trailkeep/journal/InputPosition" = some m.cls := hown
  have N := Fr.nil n0
  have zO := O.le
  refine goCast (ef_get_offset m a) ?_
  have lt_a := F.lt
  show Goes _ _ _ _ _ _ _ _ (T.setTop (mkF m 0 #[.val (.ref a)] []))
  refine Goes.via (fun _ k => XS.aloadN X.here hx rfl (hb hby d_prog_2_method_10_code_0) rfl rfl k) ?_
  show Goes _ _ _ _ _ _ _ _ (T.setTop (mkF m 1 #[.val (.ref a)] [(.ref a)]))
  obtain ⟨Tq1, Xq1, eq1, stq1⟩ := getF X hx hZ hown (host := "") (Or.inl (W_18 hw)) Via.refl e0 F (g := (mkF m 1 #[.val (.ref a)] [(.ref a)])) rfl rfl (hb hby d_prog_2_method_10_code_1)
  refine Goes.via stq1 ?_
  show Goes _ _ _ _ _ _ _ _ (Tq1.setTop (mkF m 4 #[.val (.ref a)] [(.long v)]))
  refine goRetJ Xq1 hx hrt hlk N (by decide) (by decide) (hb hby d_prog_2_method_10_code_4) ?_
  try rw [eq1]
  exact ⟨rfl, rfl⟩
theorem ef_get_lineNumber (m : MethodId) (a : Addr) : entryFrame m #[(.ref a)] 1 = mkF m 0 #[.val (.ref a)] [] := by first | (simp [entryFrame, mkF, argsToLocals, Value.category]; done) | rfl
set_option maxRecDepth 65536 in
set_option maxHeartbeats 40000000 in
theorem get_lineNumber (l : Launch) (Z : State) (aw : Array Value) (hw : ∀ d ∈ tables_1, d.before aw Z = true) (a : Addr) (v : Int64) {h0 : Heap} {n0 : Nat} (O : Old Z n0 h0) (F : Fld Z h0 a "com/example/trailkeep/trailkeep/journal/InputPosition" "lineNumber" "J" (.long v)) :
    MET l Z (⟨"com/example/trailkeep/trailkeep/journal/InputPosition", "lineNumber", "()J"⟩ : MethodName) prog_2_method_11_code 1 (some .long) ({ frames := 0, cells := 0, slots := 0, locals := 0 } : Room) #[(.ref a)] h0 n0 (fun vv hh => vv = some (.long v) ∧ hh = h0) := by
  refine metOf (plainFor_of_name pn_5) ?_
  intro p e s m below meth c T hx hby hml hrt hlk hnm hZ hown X e0
  replace hml : c.maxLocals = 1 := hml
  replace hnm : meth.name = "lineNumber" := hnm
  replace hown : s.vm.findClass "com/example/trailkeep/trailkeep/journal/InputPosition" = some m.cls := hown
  have N := Fr.nil n0
  have zO := O.le
  refine goCast (ef_get_lineNumber m a) ?_
  have lt_a := F.lt
  show Goes _ _ _ _ _ _ _ _ (T.setTop (mkF m 0 #[.val (.ref a)] []))
  refine Goes.via (fun _ k => XS.aloadN X.here hx rfl (hb hby d_prog_2_method_11_code_0) rfl rfl k) ?_
  show Goes _ _ _ _ _ _ _ _ (T.setTop (mkF m 1 #[.val (.ref a)] [(.ref a)]))
  obtain ⟨Tq1, Xq1, eq1, stq1⟩ := getF X hx hZ hown (host := "") (Or.inl (W_20 hw)) Via.refl e0 F (g := (mkF m 1 #[.val (.ref a)] [(.ref a)])) rfl rfl (hb hby d_prog_2_method_11_code_1)
  refine Goes.via stq1 ?_
  show Goes _ _ _ _ _ _ _ _ (Tq1.setTop (mkF m 4 #[.val (.ref a)] [(.long v)]))
  refine goRetJ Xq1 hx hrt hlk N (by decide) (by decide) (hb hby d_prog_2_method_11_code_4) ?_
  try rw [eq1]
  exact ⟨rfl, rfl⟩
theorem ef_get_stored (m : MethodId) (a : Addr) : entryFrame m #[(.ref a)] 1 = mkF m 0 #[.val (.ref a)] [] := by first | (simp [entryFrame, mkF, argsToLocals, Value.category]; done) | rfl
set_option maxRecDepth 65536 in
set_option maxHeartbeats 40000000 in
theorem get_stored (l : Launch) (Z : State) (aw : Array Value) (hw : ∀ d ∈ tables_1, d.before aw Z = true) (a : Addr) (v : Int64) {h0 : Heap} {n0 : Nat} (O : Old Z n0 h0) (F : Fld Z h0 a "com/example/trailkeep/trailkeep/journal/InputPosition" "stored" "J" (.long v)) :
    MET l Z (⟨"com/example/trailkeep/trailkeep/journal/InputPosition", "stored", "()J"⟩ : MethodName) prog_2_method_12_code 1 (some .long) ({ frames := 0, cells := 0, slots := 0, locals := 0 } : Room) #[(.ref a)] h0 n0 (fun vv hh => vv = some (.long v) ∧ hh = h0) := by
  refine metOf (plainFor_of_name pn_5) ?_
  intro p e s m below meth c T hx hby hml hrt hlk hnm hZ hown X e0
  replace hml : c.maxLocals = 1 := hml
  replace hnm : meth.name = "stored" := hnm
  replace hown : s.vm.findClass "com/example/trailkeep/trailkeep/journal/InputPosition" = some m.cls := hown
  have N := Fr.nil n0
  have zO := O.le
  refine goCast (ef_get_stored m a) ?_
  have lt_a := F.lt
  show Goes _ _ _ _ _ _ _ _ (T.setTop (mkF m 0 #[.val (.ref a)] []))
  refine Goes.via (fun _ k => XS.aloadN X.here hx rfl (hb hby d_prog_2_method_12_code_0) rfl rfl k) ?_
  show Goes _ _ _ _ _ _ _ _ (T.setTop (mkF m 1 #[.val (.ref a)] [(.ref a)]))
  obtain ⟨Tq1, Xq1, eq1, stq1⟩ := getF X hx hZ hown (host := "") (Or.inl (W_22 hw)) Via.refl e0 F (g := (mkF m 1 #[.val (.ref a)] [(.ref a)])) rfl rfl (hb hby d_prog_2_method_12_code_1)
  refine Goes.via stq1 ?_
  show Goes _ _ _ _ _ _ _ _ (Tq1.setTop (mkF m 4 #[.val (.ref a)] [(.long v)]))
  refine goRetJ Xq1 hx hrt hlk N (by decide) (by decide) (hb hby d_prog_2_method_12_code_4) ?_
  try rw [eq1]
  exact ⟨rfl, rfl⟩
theorem ef_get_tail (m : MethodId) (a : Addr) : entryFrame m #[(.ref a)] 1 = mkF m 0 #[.val (.ref a)] [] := by first | (simp [entryFrame, mkF, argsToLocals, Value.category]; done) | rfl
set_option maxRecDepth 65536 in
set_option maxHeartbeats 40000000 in
theorem get_tail (l : Launch) (Z : State) (aw : Array Value) (hw : ∀ d ∈ tables_1, d.before aw Z = true) (a : Addr) {h0 : Heap} {n0 : Nat} (O : Old Z n0 h0) (F : Fld Z h0 a "com/example/trailkeep/trailkeep/journal/InputPosition" "tail" "Ljava/util/UUID;" .null) :
    MET l Z (⟨"com/example/trailkeep/trailkeep/journal/InputPosition", "tail", "()Ljava/util/UUID;"⟩ : MethodName) prog_2_method_13_code 1 (some (.object "java/util/UUID")) ({ frames := 0, cells := 0, slots := 0, locals := 0 } : Room) #[(.ref a)] h0 n0 (fun vv hh => vv = some .null ∧ hh = h0) := by
  refine metOf (plainFor_of_name pn_5) ?_
  intro p e s m below meth c T hx hby hml hrt hlk hnm hZ hown X e0
  replace hml : c.maxLocals = 1 := hml
  replace hnm : meth.name = "tail" := hnm
  replace hown : s.vm.findClass "com/example/trailkeep/trailkeep/journal/InputPosition" = some m.cls := hown
  have N := Fr.nil n0
  have zO := O.le
  refine goCast (ef_get_tail m a) ?_
  have lt_a := F.lt
  show Goes _ _ _ _ _ _ _ _ (T.setTop (mkF m 0 #[.val (.ref a)] []))
  refine Goes.via (fun _ k => XS.aloadN X.here hx rfl (hb hby d_prog_2_method_13_code_0) rfl rfl k) ?_
  show Goes _ _ _ _ _ _ _ _ (T.setTop (mkF m 1 #[.val (.ref a)] [(.ref a)]))
  obtain ⟨Tq1, Xq1, eq1, stq1⟩ := getF X hx hZ hown (host := "") (Or.inl (W_24 hw)) Via.refl e0 F (g := (mkF m 1 #[.val (.ref a)] [(.ref a)])) rfl rfl (hb hby d_prog_2_method_13_code_1)
  refine Goes.via stq1 ?_
  show Goes _ _ _ _ _ _ _ _ (Tq1.setTop (mkF m 4 #[.val (.ref a)] [.null]))
  refine goRetA Xq1 hx hrt rfl hlk N (by decide) (by decide) rfl (hb hby d_prog_2_method_13_code_4) ?_
  try rw [eq1]
  exact ⟨rfl, rfl⟩
theorem ef_get_bornR (m : MethodId) (a : Addr) : entryFrame m #[(.ref a)] 1 = mkF m 0 #[.val (.ref a)] [] := by first | (simp [entryFrame, mkF, argsToLocals, Value.category]; done) | rfl
set_option maxRecDepth 65536 in
set_option maxHeartbeats 40000000 in
theorem get_bornR (l : Launch) (Z : State) (aw : Array Value) (hw : ∀ d ∈ tables_1, d.before aw Z = true) (a : Addr) (v : Addr) {h0 : Heap} {n0 : Nat} (O : Old Z n0 h0) (F : Fld Z h0 a "com/example/trailkeep/trailkeep/journal/InputPosition" "born" "Ljava/lang/Long;" (.ref v)) :
    MET l Z (⟨"com/example/trailkeep/trailkeep/journal/InputPosition", "born", "()Ljava/lang/Long;"⟩ : MethodName) prog_2_method_14_code 1 (some (.object "java/lang/Long")) ({ frames := 0, cells := 0, slots := 0, locals := 0 } : Room) #[(.ref a)] h0 n0 (fun vv hh => vv = some (.ref v) ∧ hh = h0) := by
  refine metOf (plainFor_of_name pn_5) ?_
  intro p e s m below meth c T hx hby hml hrt hlk hnm hZ hown X e0
  replace hml : c.maxLocals = 1 := hml
  replace hnm : meth.name = "born" := hnm
  replace hown : s.vm.findClass "com/example/trailkeep/trailkeep/journal/InputPosition" = some m.cls := hown
  have N := Fr.nil n0
  have zO := O.le
  refine goCast (ef_get_bornR m a) ?_
  have lt_a := F.lt
  show Goes _ _ _ _ _ _ _ _ (T.setTop (mkF m 0 #[.val (.ref a)] []))
  refine Goes.via (fun _ k => XS.aloadN X.here hx rfl (hb hby d_prog_2_method_14_code_0) rfl rfl k) ?_
  show Goes _ _ _ _ _ _ _ _ (T.setTop (mkF m 1 #[.val (.ref a)] [(.ref a)]))
  obtain ⟨Tq1, Xq1, eq1, stq1⟩ := getF X hx hZ hown (host := "") (Or.inl (W_26 hw)) Via.refl e0 F (g := (mkF m 1 #[.val (.ref a)] [(.ref a)])) rfl rfl (hb hby d_prog_2_method_14_code_1)
  refine Goes.via stq1 ?_
  show Goes _ _ _ _ _ _ _ _ (Tq1.setTop (mkF m 4 #[.val (.ref a)] [(.ref v)]))
  refine goRetA Xq1 hx hrt rfl hlk N (by decide) (by decide) rfl (hb hby d_prog_2_method_14_code_4) ?_
  try rw [eq1]
  exact ⟨rfl, rfl⟩
theorem ef_get_bornN (m : MethodId) (a : Addr) : entryFrame m #[(.ref a)] 1 = mkF m 0 #[.val (.ref a)] [] := by first | (simp [entryFrame, mkF, argsToLocals, Value.category]; done) | rfl
set_option maxRecDepth 65536 in
set_option maxHeartbeats 40000000 in
theorem get_bornN (l : Launch) (Z : State) (aw : Array Value) (hw : ∀ d ∈ tables_1, d.before aw Z = true) (a : Addr) {h0 : Heap} {n0 : Nat} (O : Old Z n0 h0) (F : Fld Z h0 a "com/example/trailkeep/trailkeep/journal/InputPosition" "born" "Ljava/lang/Long;" .null) :
    MET l Z (⟨"com/example/trailkeep/trailkeep/journal/InputPosition", "born", "()Ljava/lang/Long;"⟩ : MethodName) prog_2_method_14_code 1 (some (.object "java/lang/Long")) ({ frames := 0, cells := 0, slots := 0, locals := 0 } : Room) #[(.ref a)] h0 n0 (fun vv hh => vv = some .null ∧ hh = h0) := by
  refine metOf (plainFor_of_name pn_5) ?_
  intro p e s m below meth c T hx hby hml hrt hlk hnm hZ hown X e0
  replace hml : c.maxLocals = 1 := hml
  replace hnm : meth.name = "born" := hnm
  replace hown : s.vm.findClass "com/example/trailkeep/trailkeep/journal/InputPosition" = some m.cls := hown
  have N := Fr.nil n0
  have zO := O.le
  refine goCast (ef_get_bornN m a) ?_
  have lt_a := F.lt
  show Goes _ _ _ _ _ _ _ _ (T.setTop (mkF m 0 #[.val (.ref a)] []))
  refine Goes.via (fun _ k => XS.aloadN X.here hx rfl (hb hby d_prog_2_method_14_code_0) rfl rfl k) ?_
  show Goes _ _ _ _ _ _ _ _ (T.setTop (mkF m 1 #[.val (.ref a)] [(.ref a)]))
  obtain ⟨Tq1, Xq1, eq1, stq1⟩ := getF X hx hZ hown (host := "") (Or.inl (W_26 hw)) Via.refl e0 F (g := (mkF m 1 #[.val (.ref a)] [(.ref a)])) rfl rfl (hb hby d_prog_2_method_14_code_1)
  refine Goes.via stq1 ?_
  show Goes _ _ _ _ _ _ _ _ (Tq1.setTop (mkF m 4 #[.val (.ref a)] [.null]))
  refine goRetA Xq1 hx hrt rfl hlk N (by decide) (by decide) rfl (hb hby d_prog_2_method_14_code_4) ?_
  try rw [eq1]
  exact ⟨rfl, rfl⟩
theorem ef_get_batchTime (m : MethodId) (a : Addr) : entryFrame m #[(.ref a)] 1 = mkF m 0 #[.val (.ref a)] [] := by first | (simp [entryFrame, mkF, argsToLocals, Value.category]; done) | rfl
set_option maxRecDepth 65536 in
set_option maxHeartbeats 40000000 in
theorem get_batchTime (l : Launch) (Z : State) (aw : Array Value) (hw : ∀ d ∈ tables_1, d.before aw Z = true) (a : Addr) {h0 : Heap} {n0 : Nat} (O : Old Z n0 h0) (F : Fld Z h0 a "com/example/trailkeep/trailkeep/journal/InputPosition" "batchTime" "Ljava/lang/Long;" .null) :
    MET l Z (⟨"com/example/trailkeep/trailkeep/journal/InputPosition", "batchTime", "()Ljava/lang/Long;"⟩ : MethodName) prog_2_method_15_code 1 (some (.object "java/lang/Long")) ({ frames := 0, cells := 0, slots := 0, locals := 0 } : Room) #[(.ref a)] h0 n0 (fun vv hh => vv = some .null ∧ hh = h0) := by
  refine metOf (plainFor_of_name pn_5) ?_
  intro p e s m below meth c T hx hby hml hrt hlk hnm hZ hown X e0
  replace hml : c.maxLocals = 1 := hml
  replace hnm : meth.name = "batchTime" := hnm
  replace hown : s.vm.findClass "com/example/trailkeep/trailkeep/journal/InputPosition" = some m.cls := hown
  have N := Fr.nil n0
  have zO := O.le
  refine goCast (ef_get_batchTime m a) ?_
  have lt_a := F.lt
  show Goes _ _ _ _ _ _ _ _ (T.setTop (mkF m 0 #[.val (.ref a)] []))
  refine Goes.via (fun _ k => XS.aloadN X.here hx rfl (hb hby d_prog_2_method_15_code_0) rfl rfl k) ?_
  show Goes _ _ _ _ _ _ _ _ (T.setTop (mkF m 1 #[.val (.ref a)] [(.ref a)]))
  obtain ⟨Tq1, Xq1, eq1, stq1⟩ := getF X hx hZ hown (host := "") (Or.inl (W_28 hw)) Via.refl e0 F (g := (mkF m 1 #[.val (.ref a)] [(.ref a)])) rfl rfl (hb hby d_prog_2_method_15_code_1)
  refine Goes.via stq1 ?_
  show Goes _ _ _ _ _ _ _ _ (Tq1.setTop (mkF m 4 #[.val (.ref a)] [.null]))
  refine goRetA Xq1 hx hrt rfl hlk N (by decide) (by decide) rfl (hb hby d_prog_2_method_15_code_4) ?_
  try rw [eq1]
  exact ⟨rfl, rfl⟩
theorem mk_nn (x : Int64) : ¬ (x &&& (9223372036854775807 : Int64)) < (0 : Int64) := by
  have h := c_maskL x 9223372036854775807 63 (by decide) (by decide)
  have e : (0 : Int64).toInt = 0 := by decide
  rw [Int64.lt_iff_toInt_lt, h]; omega
theorem rem_ok {s l : Int64} (hs : ¬ s < (0 : Int64)) (hl : ¬ l < (0 : Int64)) (h : l < s) : l + (1 : Int64) ≠ 0 ∧ ¬ (s - s / (l + (1 : Int64)) * (l + (1 : Int64))) < (0 : Int64) ∧ ¬ l < (s - s / (l + (1 : Int64)) * (l + (1 : Int64))) := by
  rw [Int64.lt_iff_toInt_lt] at hs hl h
  have e : (0 : Int64).toInt = 0 := by decide
  have e1 : (1 : Int64).toInt = 1 := by decide
  have u := s.toInt_lt
  have q : (l + (1 : Int64)).toInt = l.toInt + 1 := by rw [XT.add64 ⟨by omega, by omega⟩, e1]
  have r := (c_lrem s (l + (1 : Int64)) (l.toInt + 1) q).1 (by omega)
  have p1 := Int.emod_nonneg s.toInt (b := l.toInt + 1) (by omega)
  have p2 := Int.emod_lt_of_pos s.toInt (b := l.toInt + 1) (by omega)
  refine ⟨fun z => ?_, ?_, ?_⟩
  · have := congrArg Int64.toInt z; rw [q, e] at this; omega
  · rw [Int64.lt_iff_toInt_lt, r]; omega
  · rw [Int64.lt_iff_toInt_lt, r]; omega
theorem ef_law (m : MethodId) (x0 : Int64) (x1 : Int64) (x2 : Int64) (x3 : Int64) : entryFrame m #[(.long x0), (.long x1), (.long x2), (.long x3)] maxLocals = mkF m 0 #[.val (.long x0), .second, .val (.long x1), .second, .val (.long x2), .second, .val (.long x3), .second, .unset, .unset, .unset, .unset, .unset, .unset, .unset, .unset, .unset] [] := by first | (simp [entryFrame, mkF, argsToLocals, Value.category, maxLocals]; done) | rfl
set_option maxRecDepth 65536 in
set_option maxHeartbeats 40000000 in
theorem law (l : Launch) (Z : State) (aw : Array Value) (hw : ∀ d ∈ tables_1, d.before aw Z = true) (x0 : Int64) (x1 : Int64) (x2 : Int64) (x3 : Int64) (ar : Addr) (c0 : Cell) {h0 : Heap} {n0 : Nat} (O : Old Z n0 h0) (S0 : Sta Z Z.heap "java/lang/Long$LongCache" "cache" "[Ljava/lang/Long;" (.ref ar)) (A0 : Arr Z Z.heap ar c0 (.object "java/lang/Long")) (Sz : c0.slots.size = (256 : Int32).toNatClampNeg) (CH : ∀ j : Int32, ¬ j < 0 → j < (256 : Int32) → ∃ r, c0.slots[j.toNatClampNeg]? = some (.ref r) ∧ Exa Z Z.heap r "java/lang/Long" ∧ Fld Z Z.heap r "java/lang/Long" "value" "J" (.long (j - (128 : Int32)).toInt64)) :
    MET l Z x code maxLocals ret room_1 #[(.long x0), (.long x1), (.long x2), (.long x3)] h0 n0 (fun vv hh => vv = some (.int (1 : Int32))) := by
  refine metOf (plainFor_of_name pn_8) ?_
  intro p e s m below meth c T hx hby hml hrt hlk hnm hZ hown X e0
  replace hml : c.maxLocals = 17 := hml
  replace hnm : meth.name = "law" := hnm
  replace hown : s.vm.findClass "com/example/trailkeep/trailkeep/journal/InputPositionWithBornPinLaw" = some m.cls := hown
  have N := Fr.nil n0
  have zO := O.le
  refine goCast (ef_law m x0 x1 x2 x3) ?_
  show Goes _ _ _ _ _ _ _ _ (T.setTop (mkF m 0 #[.val (.long x0), .second, .val (.long x1), .second, .val (.long x2), .second, .val (.long x3), .second, .unset, .unset, .unset, .unset, .unset, .unset, .unset, .unset, .unset] []))
  refine Goes.via (fun _ k => XT.lloadN X.here hx rfl (hb hby at_0) rfl k) ?_
  show Goes _ _ _ _ _ _ _ _ (T.setTop (mkF m 1 #[.val (.long x0), .second, .val (.long x1), .second, .val (.long x2), .second, .val (.long x3), .second, .unset, .unset, .unset, .unset, .unset, .unset, .unset, .unset, .unset] [(.long x0)]))
  refine Goes.via (fun _ k => X.ldc2J hx hown (mvT hZ (W_0 hw)) (g := (mkF m 1 #[.val (.long x0), .second, .val (.long x1), .second, .val (.long x2), .second, .val (.long x3), .second, .unset, .unset, .unset, .unset, .unset, .unset, .unset, .unset, .unset] [(.long x0)])) rfl (hb hby at_1) k) ?_
  show Goes _ _ _ _ _ _ _ _ (T.setTop (mkF m 4 #[.val (.long x0), .second, .val (.long x1), .second, .val (.long x2), .second, .val (.long x3), .second, .unset, .unset, .unset, .unset, .unset, .unset, .unset, .unset, .unset] [(.long (9223372036854775807 : Int64)), (.long x0)]))
  refine Goes.via (fun _ k => XT.land X.here hx rfl (hb hby at_4) rfl k) ?_
  show Goes _ _ _ _ _ _ _ _ (T.setTop (mkF m 5 #[.val (.long x0), .second, .val (.long x1), .second, .val (.long x2), .second, .val (.long x3), .second, .unset, .unset, .unset, .unset, .unset, .unset, .unset, .unset, .unset] [(.long (x0 &&& (9223372036854775807 : Int64)))]))
  refine Goes.via (fun _ k => XT.lstore X.here hx rfl (hb hby at_5) rfl (l' := #[.val (.long x0), .second, .val (.long x1), .second, .val (.long x2), .second, .val (.long x3), .second, .val (.long (x0 &&& (9223372036854775807 : Int64))), .second, .unset, .unset, .unset, .unset, .unset, .unset, .unset]) rfl k) ?_
  show Goes _ _ _ _ _ _ _ _ (T.setTop (mkF m 7 #[.val (.long x0), .second, .val (.long x1), .second, .val (.long x2), .second, .val (.long x3), .second, .val (.long (x0 &&& (9223372036854775807 : Int64))), .second, .unset, .unset, .unset, .unset, .unset, .unset, .unset] []))
  refine Goes.via (fun _ k => XT.lloadN X.here hx rfl (hb hby at_7) rfl k) ?_
  show Goes _ _ _ _ _ _ _ _ (T.setTop (mkF m 8 #[.val (.long x0), .second, .val (.long x1), .second, .val (.long x2), .second, .val (.long x3), .second, .val (.long (x0 &&& (9223372036854775807 : Int64))), .second, .unset, .unset, .unset, .unset, .unset, .unset, .unset] [(.long x1)]))
  refine Goes.via (fun _ k => X.ldc2J hx hown (mvT hZ (W_0 hw)) (g := (mkF m 8 #[.val (.long x0), .second, .val (.long x1), .second, .val (.long x2), .second, .val (.long x3), .second, .val (.long (x0 &&& (9223372036854775807 : Int64))), .second, .unset, .unset, .unset, .unset, .unset, .unset, .unset] [(.long x1)])) rfl (hb hby at_8) k) ?_
  show Goes _ _ _ _ _ _ _ _ (T.setTop (mkF m 11 #[.val (.long x0), .second, .val (.long x1), .second, .val (.long x2), .second, .val (.long x3), .second, .val (.long (x0 &&& (9223372036854775807 : Int64))), .second, .unset, .unset, .unset, .unset, .unset, .unset, .unset] [(.long (9223372036854775807 : Int64)), (.long x1)]))
  refine Goes.via (fun _ k => XT.land X.here hx rfl (hb hby at_11) rfl k) ?_
  show Goes _ _ _ _ _ _ _ _ (T.setTop (mkF m 12 #[.val (.long x0), .second, .val (.long x1), .second, .val (.long x2), .second, .val (.long x3), .second, .val (.long (x0 &&& (9223372036854775807 : Int64))), .second, .unset, .unset, .unset, .unset, .unset, .unset, .unset] [(.long (x1 &&& (9223372036854775807 : Int64)))]))
  refine Goes.via (fun _ k => XT.lstore X.here hx rfl (hb hby at_12) rfl (l' := #[.val (.long x0), .second, .val (.long x1), .second, .val (.long x2), .second, .val (.long x3), .second, .val (.long (x0 &&& (9223372036854775807 : Int64))), .second, .val (.long (x1 &&& (9223372036854775807 : Int64))), .second, .unset, .unset, .unset, .unset, .unset]) rfl k) ?_
  show Goes _ _ _ _ _ _ _ _ (T.setTop (mkF m 14 #[.val (.long x0), .second, .val (.long x1), .second, .val (.long x2), .second, .val (.long x3), .second, .val (.long (x0 &&& (9223372036854775807 : Int64))), .second, .val (.long (x1 &&& (9223372036854775807 : Int64))), .second, .unset, .unset, .unset, .unset, .unset] []))
  refine Goes.via (fun _ k => XT.lload X.here hx rfl (hb hby at_14) rfl k) ?_
  show Goes _ _ _ _ _ _ _ _ (T.setTop (mkF m 16 #[.val (.long x0), .second, .val (.long x1), .second, .val (.long x2), .second, .val (.long x3), .second, .val (.long (x0 &&& (9223372036854775807 : Int64))), .second, .val (.long (x1 &&& (9223372036854775807 : Int64))), .second, .unset, .unset, .unset, .unset, .unset] [(.long x2)]))
  refine Goes.via (fun _ k => X.ldc2J hx hown (mvT hZ (W_0 hw)) (g := (mkF m 16 #[.val (.long x0), .second, .val (.long x1), .second, .val (.long x2), .second, .val (.long x3), .second, .val (.long (x0 &&& (9223372036854775807 : Int64))), .second, .val (.long (x1 &&& (9223372036854775807 : Int64))), .second, .unset, .unset, .unset, .unset, .unset] [(.long x2)])) rfl (hb hby at_16) k) ?_
  show Goes _ _ _ _ _ _ _ _ (T.setTop (mkF m 19 #[.val (.long x0), .second, .val (.long x1), .second, .val (.long x2), .second, .val (.long x3), .second, .val (.long (x0 &&& (9223372036854775807 : Int64))), .second, .val (.long (x1 &&& (9223372036854775807 : Int64))), .second, .unset, .unset, .unset, .unset, .unset] [(.long (9223372036854775807 : Int64)), (.long x2)]))
  refine Goes.via (fun _ k => XT.land X.here hx rfl (hb hby at_19) rfl k) ?_
  show Goes _ _ _ _ _ _ _ _ (T.setTop (mkF m 20 #[.val (.long x0), .second, .val (.long x1), .second, .val (.long x2), .second, .val (.long x3), .second, .val (.long (x0 &&& (9223372036854775807 : Int64))), .second, .val (.long (x1 &&& (9223372036854775807 : Int64))), .second, .unset, .unset, .unset, .unset, .unset] [(.long (x2 &&& (9223372036854775807 : Int64)))]))
  refine Goes.via (fun _ k => XT.lstore X.here hx rfl (hb hby at_20) rfl (l' := #[.val (.long x0), .second, .val (.long x1), .second, .val (.long x2), .second, .val (.long x3), .second, .val (.long (x0 &&& (9223372036854775807 : Int64))), .second, .val (.long (x1 &&& (9223372036854775807 : Int64))), .second, .val (.long (x2 &&& (9223372036854775807 : Int64))), .second, .unset, .unset, .unset]) rfl k) ?_
  show Goes _ _ _ _ _ _ _ _ (T.setTop (mkF m 22 #[.val (.long x0), .second, .val (.long x1), .second, .val (.long x2), .second, .val (.long x3), .second, .val (.long (x0 &&& (9223372036854775807 : Int64))), .second, .val (.long (x1 &&& (9223372036854775807 : Int64))), .second, .val (.long (x2 &&& (9223372036854775807 : Int64))), .second, .unset, .unset, .unset] []))
  refine Goes.via (fun _ k => XT.lload X.here hx rfl (hb hby at_22) rfl k) ?_
  show Goes _ _ _ _ _ _ _ _ (T.setTop (mkF m 24 #[.val (.long x0), .second, .val (.long x1), .second, .val (.long x2), .second, .val (.long x3), .second, .val (.long (x0 &&& (9223372036854775807 : Int64))), .second, .val (.long (x1 &&& (9223372036854775807 : Int64))), .second, .val (.long (x2 &&& (9223372036854775807 : Int64))), .second, .unset, .unset, .unset] [(.long (x2 &&& (9223372036854775807 : Int64)))]))
  refine Goes.via (fun _ k => XT.lload X.here hx rfl (hb hby at_24) rfl k) ?_
  show Goes _ _ _ _ _ _ _ _ (T.setTop (mkF m 26 #[.val (.long x0), .second, .val (.long x1), .second, .val (.long x2), .second, .val (.long x3), .second, .val (.long (x0 &&& (9223372036854775807 : Int64))), .second, .val (.long (x1 &&& (9223372036854775807 : Int64))), .second, .val (.long (x2 &&& (9223372036854775807 : Int64))), .second, .unset, .unset, .unset] [(.long (x1 &&& (9223372036854775807 : Int64))), (.long (x2 &&& (9223372036854775807 : Int64)))]))
  refine Goes.via (fun _ k => XT.lcmp X.here hx rfl (hb hby at_26) rfl k) ?_
  show Goes _ _ _ _ _ _ _ _ (T.setTop (mkF m 27 #[.val (.long x0), .second, .val (.long x1), .second, .val (.long x2), .second, .val (.long x3), .second, .val (.long (x0 &&& (9223372036854775807 : Int64))), .second, .val (.long (x1 &&& (9223372036854775807 : Int64))), .second, .val (.long (x2 &&& (9223372036854775807 : Int64))), .second, .unset, .unset, .unset] [(.int (XT.cmpL (x2 &&& (9223372036854775807 : Int64)) (x1 &&& (9223372036854775807 : Int64))))]))
  by_cases cq1 : (x1 &&& (9223372036854775807 : Int64)) < (x2 &&& (9223372036854775807 : Int64))
  · skip
    refine Goes.via (fun _ k => XS.ifNo X.here hx rfl (hb hby at_27) rfl (XT.ll_le_f cq1) k) ?_
    show Goes _ _ _ _ _ _ _ _ (T.setTop (mkF m 30 #[.val (.long x0), .second, .val (.long x1), .second, .val (.long x2), .second, .val (.long x3), .second, .val (.long (x0 &&& (9223372036854775807 : Int64))), .second, .val (.long (x1 &&& (9223372036854775807 : Int64))), .second, .val (.long (x2 &&& (9223372036854775807 : Int64))), .second, .unset, .unset, .unset] []))
    obtain ⟨rm1, rm2, rm3⟩ := rem_ok (mk_nn x2) (mk_nn x1) cq1
    refine Goes.via (fun _ k => XT.lload X.here hx rfl (hb hby at_30) rfl k) ?_
    show Goes _ _ _ _ _ _ _ _ (T.setTop (mkF m 32 #[.val (.long x0), .second, .val (.long x1), .second, .val (.long x2), .second, .val (.long x3), .second, .val (.long (x0 &&& (9223372036854775807 : Int64))), .second, .val (.long (x1 &&& (9223372036854775807 : Int64))), .second, .val (.long (x2 &&& (9223372036854775807 : Int64))), .second, .unset, .unset, .unset] [(.long (x2 &&& (9223372036854775807 : Int64)))]))
    refine Goes.via (fun _ k => XT.lload X.here hx rfl (hb hby at_32) rfl k) ?_
    show Goes _ _ _ _ _ _ _ _ (T.setTop (mkF m 34 #[.val (.long x0), .second, .val (.long x1), .second, .val (.long x2), .second, .val (.long x3), .second, .val (.long (x0 &&& (9223372036854775807 : Int64))), .second, .val (.long (x1 &&& (9223372036854775807 : Int64))), .second, .val (.long (x2 &&& (9223372036854775807 : Int64))), .second, .unset, .unset, .unset] [(.long (x1 &&& (9223372036854775807 : Int64))), (.long (x2 &&& (9223372036854775807 : Int64)))]))
    refine Goes.via (fun _ k => XT.lconstV X.here hx rfl (1 : Int64) (hb hby at_34) (by decide) k) ?_
    show Goes _ _ _ _ _ _ _ _ (T.setTop (mkF m 35 #[.val (.long x0), .second, .val (.long x1), .second, .val (.long x2), .second, .val (.long x3), .second, .val (.long (x0 &&& (9223372036854775807 : Int64))), .second, .val (.long (x1 &&& (9223372036854775807 : Int64))), .second, .val (.long (x2 &&& (9223372036854775807 : Int64))), .second, .unset, .unset, .unset] [(.long (1 : Int64)), (.long (x1 &&& (9223372036854775807 : Int64))), (.long (x2 &&& (9223372036854775807 : Int64)))]))
    refine Goes.via (fun _ k => XT.ladd X.here hx rfl (hb hby at_35) rfl k) ?_
    show Goes _ _ _ _ _ _ _ _ (T.setTop (mkF m 36 #[.val (.long x0), .second, .val (.long x1), .second, .val (.long x2), .second, .val (.long x3), .second, .val (.long (x0 &&& (9223372036854775807 : Int64))), .second, .val (.long (x1 &&& (9223372036854775807 : Int64))), .second, .val (.long (x2 &&& (9223372036854775807 : Int64))), .second, .unset, .unset, .unset] [(.long ((x1 &&& (9223372036854775807 : Int64)) + (1 : Int64))), (.long (x2 &&& (9223372036854775807 : Int64)))]))
    refine Goes.via (fun _ k => XT.lrem X.here hx rfl (hb hby at_36) rfl rm1 k) ?_
    show Goes _ _ _ _ _ _ _ _ (T.setTop (mkF m 37 #[.val (.long x0), .second, .val (.long x1), .second, .val (.long x2), .second, .val (.long x3), .second, .val (.long (x0 &&& (9223372036854775807 : Int64))), .second, .val (.long (x1 &&& (9223372036854775807 : Int64))), .second, .val (.long (x2 &&& (9223372036854775807 : Int64))), .second, .unset, .unset, .unset] [(.long ((x2 &&& (9223372036854775807 : Int64)) - (x2 &&& (9223372036854775807 : Int64)) / ((x1 &&& (9223372036854775807 : Int64)) + (1 : Int64)) * ((x1 &&& (9223372036854775807 : Int64)) + (1 : Int64))))]))
    refine Goes.via (fun _ k => XT.lstore X.here hx rfl (hb hby at_37) rfl (l' := #[.val (.long x0), .second, .val (.long x1), .second, .val (.long x2), .second, .val (.long x3), .second, .val (.long (x0 &&& (9223372036854775807 : Int64))), .second, .val (.long (x1 &&& (9223372036854775807 : Int64))), .second, .val (.long ((x2 &&& (9223372036854775807 : Int64)) - (x2 &&& (9223372036854775807 : Int64)) / ((x1 &&& (9223372036854775807 : Int64)) + (1 : Int64)) * ((x1 &&& (9223372036854775807 : Int64)) + (1 : Int64)))), .second, .unset, .unset, .unset]) rfl k) ?_
    show Goes _ _ _ _ _ _ _ _ (T.setTop (mkF m 39 #[.val (.long x0), .second, .val (.long x1), .second, .val (.long x2), .second, .val (.long x3), .second, .val (.long (x0 &&& (9223372036854775807 : Int64))), .second, .val (.long (x1 &&& (9223372036854775807 : Int64))), .second, .val (.long ((x2 &&& (9223372036854775807 : Int64)) - (x2 &&& (9223372036854775807 : Int64)) / ((x1 &&& (9223372036854775807 : Int64)) + (1 : Int64)) * ((x1 &&& (9223372036854775807 : Int64)) + (1 : Int64)))), .second, .unset, .unset, .unset] []))
    have p0 := mk_nn x0
    have p1 := mk_nn x1
    have p2 := rm2
    have p3 := rm3
    obtain ⟨Tq2, hq2, Xq2, eq2, Eq2, Aq2, Dq2, -, stq2⟩ := newO X hx hZ hown (W_1 hw) (W_2 hw) (W_3 hw) e0 (g := (mkF m 39 #[.val (.long x0), .second, .val (.long x1), .second, .val (.long x2), .second, .val (.long x3), .second, .val (.long (x0 &&& (9223372036854775807 : Int64))), .second, .val (.long (x1 &&& (9223372036854775807 : Int64))), .second, .val (.long ((x2 &&& (9223372036854775807 : Int64)) - (x2 &&& (9223372036854775807 : Int64)) / ((x1 &&& (9223372036854775807 : Int64)) + (1 : Int64)) * ((x1 &&& (9223372036854775807 : Int64)) + (1 : Int64)))), .second, .unset, .unset, .unset] [])) rfl (hb hby at_39) (by decide) (by decide)
    obtain ⟨bq2, gq2⟩ : ∃ z, z = h0.size := ⟨_, rfl⟩
    rw [← gq2] at Aq2 Dq2 stq2
    have zq2 := Eq2.1
    have Oq2 := O.ext Eq2
    have lq2 := Aq2.lt
    refine Goes.via stq2 ?_
    show Goes _ _ _ _ _ _ _ _ (Tq2.setTop (mkF m 42 #[.val (.long x0), .second, .val (.long x1), .second, .val (.long x2), .second, .val (.long x3), .second, .val (.long (x0 &&& (9223372036854775807 : Int64))), .second, .val (.long (x1 &&& (9223372036854775807 : Int64))), .second, .val (.long ((x2 &&& (9223372036854775807 : Int64)) - (x2 &&& (9223372036854775807 : Int64)) / ((x1 &&& (9223372036854775807 : Int64)) + (1 : Int64)) * ((x1 &&& (9223372036854775807 : Int64)) + (1 : Int64)))), .second, .unset, .unset, .unset] [(.ref bq2)]))
    refine Goes.via (fun _ k => XS.dup Xq2.here hx rfl (hb hby at_42) rfl rfl k) ?_
    show Goes _ _ _ _ _ _ _ _ (Tq2.setTop (mkF m 43 #[.val (.long x0), .second, .val (.long x1), .second, .val (.long x2), .second, .val (.long x3), .second, .val (.long (x0 &&& (9223372036854775807 : Int64))), .second, .val (.long (x1 &&& (9223372036854775807 : Int64))), .second, .val (.long ((x2 &&& (9223372036854775807 : Int64)) - (x2 &&& (9223372036854775807 : Int64)) / ((x1 &&& (9223372036854775807 : Int64)) + (1 : Int64)) * ((x1 &&& (9223372036854775807 : Int64)) + (1 : Int64)))), .second, .unset, .unset, .unset] [(.ref bq2), (.ref bq2)]))
    refine Goes.via (fun _ k => XT.lload Xq2.here hx rfl (hb hby at_43) rfl k) ?_
    show Goes _ _ _ _ _ _ _ _ (Tq2.setTop (mkF m 45 #[.val (.long x0), .second, .val (.long x1), .second, .val (.long x2), .second, .val (.long x3), .second, .val (.long (x0 &&& (9223372036854775807 : Int64))), .second, .val (.long (x1 &&& (9223372036854775807 : Int64))), .second, .val (.long ((x2 &&& (9223372036854775807 : Int64)) - (x2 &&& (9223372036854775807 : Int64)) / ((x1 &&& (9223372036854775807 : Int64)) + (1 : Int64)) * ((x1 &&& (9223372036854775807 : Int64)) + (1 : Int64)))), .second, .unset, .unset, .unset] [(.long (x0 &&& (9223372036854775807 : Int64))), (.ref bq2), (.ref bq2)]))
    refine Goes.via (fun _ k => XT.lload Xq2.here hx rfl (hb hby at_45) rfl k) ?_
    show Goes _ _ _ _ _ _ _ _ (Tq2.setTop (mkF m 47 #[.val (.long x0), .second, .val (.long x1), .second, .val (.long x2), .second, .val (.long x3), .second, .val (.long (x0 &&& (9223372036854775807 : Int64))), .second, .val (.long (x1 &&& (9223372036854775807 : Int64))), .second, .val (.long ((x2 &&& (9223372036854775807 : Int64)) - (x2 &&& (9223372036854775807 : Int64)) / ((x1 &&& (9223372036854775807 : Int64)) + (1 : Int64)) * ((x1 &&& (9223372036854775807 : Int64)) + (1 : Int64)))), .second, .unset, .unset, .unset] [(.long (x1 &&& (9223372036854775807 : Int64))), (.long (x0 &&& (9223372036854775807 : Int64))), (.ref bq2), (.ref bq2)]))
    refine Goes.via (fun _ k => XT.lload Xq2.here hx rfl (hb hby at_47) rfl k) ?_
    show Goes _ _ _ _ _ _ _ _ (Tq2.setTop (mkF m 49 #[.val (.long x0), .second, .val (.long x1), .second, .val (.long x2), .second, .val (.long x3), .second, .val (.long (x0 &&& (9223372036854775807 : Int64))), .second, .val (.long (x1 &&& (9223372036854775807 : Int64))), .second, .val (.long ((x2 &&& (9223372036854775807 : Int64)) - (x2 &&& (9223372036854775807 : Int64)) / ((x1 &&& (9223372036854775807 : Int64)) + (1 : Int64)) * ((x1 &&& (9223372036854775807 : Int64)) + (1 : Int64)))), .second, .unset, .unset, .unset] [(.long ((x2 &&& (9223372036854775807 : Int64)) - (x2 &&& (9223372036854775807 : Int64)) / ((x1 &&& (9223372036854775807 : Int64)) + (1 : Int64)) * ((x1 &&& (9223372036854775807 : Int64)) + (1 : Int64)))), (.long (x1 &&& (9223372036854775807 : Int64))), (.long (x0 &&& (9223372036854775807 : Int64))), (.ref bq2), (.ref bq2)]))
    obtain ⟨vq3, Tq3, Lq3, Xq3, qq3, nq3, stq3⟩ := callSp Xq2 hx hZ hown (init3 l Z aw hw bq2 (x0 &&& (9223372036854775807 : Int64)) (x1 &&& (9223372036854775807 : Int64)) ((x2 &&& (9223372036854775807 : Int64)) - (x2 &&& (9223372036854775807 : Int64)) / ((x1 &&& (9223372036854775807 : Int64)) + (1 : Int64)) * ((x1 &&& (9223372036854775807 : Int64)) + (1 : Int64))) Oq2 Aq2 (Dq2 (Or.inr (W_19 hw)) (ty := .long) (by decide)) (Dq2 (Or.inr (W_21 hw)) (ty := .long) (by decide)) (Dq2 (Or.inr (W_23 hw)) (ty := .long) (by decide)) (Dq2 (Or.inr (W_25 hw)) (ty := (.object "java/util/UUID")) (by decide)) (Dq2 (Or.inr (W_27 hw)) (ty := (.object "java/lang/Long")) (by decide)) (Dq2 (Or.inr (W_29 hw)) (ty := (.object "java/lang/Long")) (by decide)) (by omega) p0 p1 p2 p3) rfl (W_4 hw) (W_5 hw) (W_3 hw) (W_6 hw) (by decide) eq2 (by decide) (W := 1) (by decide) (by decide) (by decide) (g := (mkF m 49 #[.val (.long x0), .second, .val (.long x1), .second, .val (.long x2), .second, .val (.long x3), .second, .val (.long (x0 &&& (9223372036854775807 : Int64))), .second, .val (.long (x1 &&& (9223372036854775807 : Int64))), .second, .val (.long ((x2 &&& (9223372036854775807 : Int64)) - (x2 &&& (9223372036854775807 : Int64)) / ((x1 &&& (9223372036854775807 : Int64)) + (1 : Int64)) * ((x1 &&& (9223372036854775807 : Int64)) + (1 : Int64)))), .second, .unset, .unset, .unset] [(.long ((x2 &&& (9223372036854775807 : Int64)) - (x2 &&& (9223372036854775807 : Int64)) / ((x1 &&& (9223372036854775807 : Int64)) + (1 : Int64)) * ((x1 &&& (9223372036854775807 : Int64)) + (1 : Int64)))), (.long (x1 &&& (9223372036854775807 : Int64))), (.long (x0 &&& (9223372036854775807 : Int64))), (.ref bq2), (.ref bq2)])) rfl (by rw [hml]; rfl) (a := bq2) (argsL := [(.long (x0 &&& (9223372036854775807 : Int64))), (.long (x1 &&& (9223372036854775807 : Int64))), (.long ((x2 &&& (9223372036854775807 : Int64)) - (x2 &&& (9223372036854775807 : Int64)) / ((x1 &&& (9223372036854775807 : Int64)) + (1 : Int64)) * ((x1 &&& (9223372036854775807 : Int64)) + (1 : Int64))))]) (rest := [(.ref bq2)]) rfl (lenOf pd_9 rfl) rfl (by show 2 * 0 + _ ≤ _; exact Nat.le_of_eq rfl) (hb hby at_49)
    obtain ⟨rfl, pq3_0, pq3_1, pq3_2, pq3_3, pq3_4, pq3_5, pq3_6, pq3_7⟩ := qq3
    have Nq3 := Fr.app N nq3
    have zq3 := pq3_0.1
    have Oq3 := Oq2.keep pq3_0 (allS (by omega) all0)
    have ltpq3_1 := pq3_1.lt
    refine Goes.via stq3 ?_
    show Goes _ _ _ _ _ _ _ _ (Tq3.setTop (mkF m 52 #[.val (.long x0), .second, .val (.long x1), .second, .val (.long x2), .second, .val (.long x3), .second, .val (.long (x0 &&& (9223372036854775807 : Int64))), .second, .val (.long (x1 &&& (9223372036854775807 : Int64))), .second, .val (.long ((x2 &&& (9223372036854775807 : Int64)) - (x2 &&& (9223372036854775807 : Int64)) / ((x1 &&& (9223372036854775807 : Int64)) + (1 : Int64)) * ((x1 &&& (9223372036854775807 : Int64)) + (1 : Int64)))), .second, .unset, .unset, .unset] [(.ref bq2)]))
    refine Goes.via (fun _ k => XS.astore Xq3.here hx rfl (hb hby at_52) rfl rfl (l' := #[.val (.long x0), .second, .val (.long x1), .second, .val (.long x2), .second, .val (.long x3), .second, .val (.long (x0 &&& (9223372036854775807 : Int64))), .second, .val (.long (x1 &&& (9223372036854775807 : Int64))), .second, .val (.long ((x2 &&& (9223372036854775807 : Int64)) - (x2 &&& (9223372036854775807 : Int64)) / ((x1 &&& (9223372036854775807 : Int64)) + (1 : Int64)) * ((x1 &&& (9223372036854775807 : Int64)) + (1 : Int64)))), .second, .val (.ref bq2), .unset, .unset]) rfl k) ?_
    show Goes _ _ _ _ _ _ _ _ (Tq3.setTop (mkF m 54 #[.val (.long x0), .second, .val (.long x1), .second, .val (.long x2), .second, .val (.long x3), .second, .val (.long (x0 &&& (9223372036854775807 : Int64))), .second, .val (.long (x1 &&& (9223372036854775807 : Int64))), .second, .val (.long ((x2 &&& (9223372036854775807 : Int64)) - (x2 &&& (9223372036854775807 : Int64)) / ((x1 &&& (9223372036854775807 : Int64)) + (1 : Int64)) * ((x1 &&& (9223372036854775807 : Int64)) + (1 : Int64)))), .second, .val (.ref bq2), .unset, .unset] []))
    refine Goes.via (fun _ k => XS.aload Xq3.here hx rfl (hb hby at_54) rfl rfl k) ?_
    show Goes _ _ _ _ _ _ _ _ (Tq3.setTop (mkF m 56 #[.val (.long x0), .second, .val (.long x1), .second, .val (.long x2), .second, .val (.long x3), .second, .val (.long (x0 &&& (9223372036854775807 : Int64))), .second, .val (.long (x1 &&& (9223372036854775807 : Int64))), .second, .val (.long ((x2 &&& (9223372036854775807 : Int64)) - (x2 &&& (9223372036854775807 : Int64)) / ((x1 &&& (9223372036854775807 : Int64)) + (1 : Int64)) * ((x1 &&& (9223372036854775807 : Int64)) + (1 : Int64)))), .second, .val (.ref bq2), .unset, .unset] [(.ref bq2)]))
    refine Goes.via (fun _ k => XT.lload Xq3.here hx rfl (hb hby at_56) rfl k) ?_
    show Goes _ _ _ _ _ _ _ _ (Tq3.setTop (mkF m 58 #[.val (.long x0), .second, .val (.long x1), .second, .val (.long x2), .second, .val (.long x3), .second, .val (.long (x0 &&& (9223372036854775807 : Int64))), .second, .val (.long (x1 &&& (9223372036854775807 : Int64))), .second, .val (.long ((x2 &&& (9223372036854775807 : Int64)) - (x2 &&& (9223372036854775807 : Int64)) / ((x1 &&& (9223372036854775807 : Int64)) + (1 : Int64)) * ((x1 &&& (9223372036854775807 : Int64)) + (1 : Int64)))), .second, .val (.ref bq2), .unset, .unset] [(.long x3), (.ref bq2)]))
    obtain ⟨vq4, Tq4, Lq4, Xq4, qq4, nq4, stq4⟩ := callVi Xq3 hx hZ hown (withBorn l Z aw hw bq2 x3 (x0 &&& (9223372036854775807 : Int64)) (x1 &&& (9223372036854775807 : Int64)) ((x2 &&& (9223372036854775807 : Int64)) - (x2 &&& (9223372036854775807 : Int64)) / ((x1 &&& (9223372036854775807 : Int64)) + (1 : Int64)) * ((x1 &&& (9223372036854775807 : Int64)) + (1 : Int64))) ar c0 Oq3 S0 A0 pq3_1 pq3_2 pq3_3 pq3_4 pq3_5 pq3_7 p0 p1 p2 p3 Sz CH) (W_30 hw) (W_31 hw) (notFace_of_selects (args := #[]) (mvT hZ (W_33 hw))) (W_33 hw) (W_32 hw) (W_3 hw) (W_34 hw) (by decide) rfl pq3_1 (by decide) (W := 0) (by decide) (by decide) (by decide) (g := (mkF m 58 #[.val (.long x0), .second, .val (.long x1), .second, .val (.long x2), .second, .val (.long x3), .second, .val (.long (x0 &&& (9223372036854775807 : Int64))), .second, .val (.long (x1 &&& (9223372036854775807 : Int64))), .second, .val (.long ((x2 &&& (9223372036854775807 : Int64)) - (x2 &&& (9223372036854775807 : Int64)) / ((x1 &&& (9223372036854775807 : Int64)) + (1 : Int64)) * ((x1 &&& (9223372036854775807 : Int64)) + (1 : Int64)))), .second, .val (.ref bq2), .unset, .unset] [(.long x3), (.ref bq2)])) rfl (by rw [hml]; rfl) (a := bq2) (argsL := [(.long x3)]) (rest := []) rfl (lenOf pd_10 rfl) rfl (by show 2 * 0 + _ ≤ _; exact Nat.le_of_eq rfl) (hb hby at_58)
    obtain ⟨xr_q4, xq_q4, rfl, pq4_0, pq4_1, pq4_2, pq4_3, pq4_4, pq4_5, pq4_6, pq4_7, pq4_8, pq4_9, pq4_10⟩ := qq4
    have Nq4 := Fr.app Nq3 nq4
    have zq4 := pq4_1.1
    have Oq4 := Oq3.keep pq4_1 all0
    have ltpq4_2 := pq4_2.lt
    have ltpq4_9 := pq4_9.lt
    refine Goes.via stq4 ?_
    show Goes _ _ _ _ _ _ _ _ (Tq4.setTop (mkF m 61 #[.val (.long x0), .second, .val (.long x1), .second, .val (.long x2), .second, .val (.long x3), .second, .val (.long (x0 &&& (9223372036854775807 : Int64))), .second, .val (.long (x1 &&& (9223372036854775807 : Int64))), .second, .val (.long ((x2 &&& (9223372036854775807 : Int64)) - (x2 &&& (9223372036854775807 : Int64)) / ((x1 &&& (9223372036854775807 : Int64)) + (1 : Int64)) * ((x1 &&& (9223372036854775807 : Int64)) + (1 : Int64)))), .second, .val (.ref bq2), .unset, .unset] [(.ref xr_q4)]))
    refine Goes.via (fun _ k => XS.astore Xq4.here hx rfl (hb hby at_61) rfl rfl (l' := #[.val (.long x0), .second, .val (.long x1), .second, .val (.long x2), .second, .val (.long x3), .second, .val (.long (x0 &&& (9223372036854775807 : Int64))), .second, .val (.long (x1 &&& (9223372036854775807 : Int64))), .second, .val (.long ((x2 &&& (9223372036854775807 : Int64)) - (x2 &&& (9223372036854775807 : Int64)) / ((x1 &&& (9223372036854775807 : Int64)) + (1 : Int64)) * ((x1 &&& (9223372036854775807 : Int64)) + (1 : Int64)))), .second, .val (.ref bq2), .val (.ref xr_q4), .unset]) rfl k) ?_
    show Goes _ _ _ _ _ _ _ _ (Tq4.setTop (mkF m 63 #[.val (.long x0), .second, .val (.long x1), .second, .val (.long x2), .second, .val (.long x3), .second, .val (.long (x0 &&& (9223372036854775807 : Int64))), .second, .val (.long (x1 &&& (9223372036854775807 : Int64))), .second, .val (.long ((x2 &&& (9223372036854775807 : Int64)) - (x2 &&& (9223372036854775807 : Int64)) / ((x1 &&& (9223372036854775807 : Int64)) + (1 : Int64)) * ((x1 &&& (9223372036854775807 : Int64)) + (1 : Int64)))), .second, .val (.ref bq2), .val (.ref xr_q4), .unset] []))
    refine Goes.via (fun _ k => XS.aload Xq4.here hx rfl (hb hby at_63) rfl rfl k) ?_
    show Goes _ _ _ _ _ _ _ _ (Tq4.setTop (mkF m 65 #[.val (.long x0), .second, .val (.long x1), .second, .val (.long x2), .second, .val (.long x3), .second, .val (.long (x0 &&& (9223372036854775807 : Int64))), .second, .val (.long (x1 &&& (9223372036854775807 : Int64))), .second, .val (.long ((x2 &&& (9223372036854775807 : Int64)) - (x2 &&& (9223372036854775807 : Int64)) / ((x1 &&& (9223372036854775807 : Int64)) + (1 : Int64)) * ((x1 &&& (9223372036854775807 : Int64)) + (1 : Int64)))), .second, .val (.ref bq2), .val (.ref xr_q4), .unset] [(.ref xr_q4)]))
    obtain ⟨vq5, Tq5, Lq5, Xq5, qq5, nq5, stq5⟩ := callVi Xq4 hx hZ hown (get_bornR l Z aw hw xr_q4 xq_q4 Oq4 pq4_7) (W_44 hw) (W_45 hw) (notFace_of_selects (args := #[]) (mvT hZ (W_47 hw))) (W_47 hw) (W_46 hw) (W_3 hw) (W_48 hw) (by decide) rfl pq4_2 (by decide) (W := 0) (by decide) (by decide) (by decide) (g := (mkF m 65 #[.val (.long x0), .second, .val (.long x1), .second, .val (.long x2), .second, .val (.long x3), .second, .val (.long (x0 &&& (9223372036854775807 : Int64))), .second, .val (.long (x1 &&& (9223372036854775807 : Int64))), .second, .val (.long ((x2 &&& (9223372036854775807 : Int64)) - (x2 &&& (9223372036854775807 : Int64)) / ((x1 &&& (9223372036854775807 : Int64)) + (1 : Int64)) * ((x1 &&& (9223372036854775807 : Int64)) + (1 : Int64)))), .second, .val (.ref bq2), .val (.ref xr_q4), .unset] [(.ref xr_q4)])) rfl (by rw [hml]; rfl) (a := xr_q4) (argsL := []) (rest := []) rfl (lenOf pd_11 rfl) rfl (by show 2 * 0 + _ ≤ _; exact Nat.le_of_eq rfl) (hb hby at_65)
    obtain ⟨rfl, pq5_0⟩ := qq5
    have Nq5 := Fr.app Nq4 nq5
    refine Goes.via stq5 ?_
    show Goes _ _ _ _ _ _ _ _ (Tq5.setTop (mkF m 68 #[.val (.long x0), .second, .val (.long x1), .second, .val (.long x2), .second, .val (.long x3), .second, .val (.long (x0 &&& (9223372036854775807 : Int64))), .second, .val (.long (x1 &&& (9223372036854775807 : Int64))), .second, .val (.long ((x2 &&& (9223372036854775807 : Int64)) - (x2 &&& (9223372036854775807 : Int64)) / ((x1 &&& (9223372036854775807 : Int64)) + (1 : Int64)) * ((x1 &&& (9223372036854775807 : Int64)) + (1 : Int64)))), .second, .val (.ref bq2), .val (.ref xr_q4), .unset] [(.ref xq_q4)]))
    refine Goes.via (fun _ k => XS.astore Xq5.here hx rfl (hb hby at_68) rfl rfl (l' := #[.val (.long x0), .second, .val (.long x1), .second, .val (.long x2), .second, .val (.long x3), .second, .val (.long (x0 &&& (9223372036854775807 : Int64))), .second, .val (.long (x1 &&& (9223372036854775807 : Int64))), .second, .val (.long ((x2 &&& (9223372036854775807 : Int64)) - (x2 &&& (9223372036854775807 : Int64)) / ((x1 &&& (9223372036854775807 : Int64)) + (1 : Int64)) * ((x1 &&& (9223372036854775807 : Int64)) + (1 : Int64)))), .second, .val (.ref bq2), .val (.ref xr_q4), .val (.ref xq_q4)]) rfl k) ?_
    show Goes _ _ _ _ _ _ _ _ (Tq5.setTop (mkF m 70 #[.val (.long x0), .second, .val (.long x1), .second, .val (.long x2), .second, .val (.long x3), .second, .val (.long (x0 &&& (9223372036854775807 : Int64))), .second, .val (.long (x1 &&& (9223372036854775807 : Int64))), .second, .val (.long ((x2 &&& (9223372036854775807 : Int64)) - (x2 &&& (9223372036854775807 : Int64)) / ((x1 &&& (9223372036854775807 : Int64)) + (1 : Int64)) * ((x1 &&& (9223372036854775807 : Int64)) + (1 : Int64)))), .second, .val (.ref bq2), .val (.ref xr_q4), .val (.ref xq_q4)] []))
    refine Goes.via (fun _ k => XS.aload Xq5.here hx rfl (hb hby at_70) rfl rfl k) ?_
    show Goes _ _ _ _ _ _ _ _ (Tq5.setTop (mkF m 72 #[.val (.long x0), .second, .val (.long x1), .second, .val (.long x2), .second, .val (.long x3), .second, .val (.long (x0 &&& (9223372036854775807 : Int64))), .second, .val (.long (x1 &&& (9223372036854775807 : Int64))), .second, .val (.long ((x2 &&& (9223372036854775807 : Int64)) - (x2 &&& (9223372036854775807 : Int64)) / ((x1 &&& (9223372036854775807 : Int64)) + (1 : Int64)) * ((x1 &&& (9223372036854775807 : Int64)) + (1 : Int64)))), .second, .val (.ref bq2), .val (.ref xr_q4), .val (.ref xq_q4)] [(.ref xq_q4)]))
    refine Goes.via (fun _ k => XS.ifnullNo Xq5.here hx rfl (hb hby at_72) rfl k) ?_
    show Goes _ _ _ _ _ _ _ _ (Tq5.setTop (mkF m 75 #[.val (.long x0), .second, .val (.long x1), .second, .val (.long x2), .second, .val (.long x3), .second, .val (.long (x0 &&& (9223372036854775807 : Int64))), .second, .val (.long (x1 &&& (9223372036854775807 : Int64))), .second, .val (.long ((x2 &&& (9223372036854775807 : Int64)) - (x2 &&& (9223372036854775807 : Int64)) / ((x1 &&& (9223372036854775807 : Int64)) + (1 : Int64)) * ((x1 &&& (9223372036854775807 : Int64)) + (1 : Int64)))), .second, .val (.ref bq2), .val (.ref xr_q4), .val (.ref xq_q4)] []))
    refine Goes.via (fun _ k => XS.aload Xq5.here hx rfl (hb hby at_75) rfl rfl k) ?_
    show Goes _ _ _ _ _ _ _ _ (Tq5.setTop (mkF m 77 #[.val (.long x0), .second, .val (.long x1), .second, .val (.long x2), .second, .val (.long x3), .second, .val (.long (x0 &&& (9223372036854775807 : Int64))), .second, .val (.long (x1 &&& (9223372036854775807 : Int64))), .second, .val (.long ((x2 &&& (9223372036854775807 : Int64)) - (x2 &&& (9223372036854775807 : Int64)) / ((x1 &&& (9223372036854775807 : Int64)) + (1 : Int64)) * ((x1 &&& (9223372036854775807 : Int64)) + (1 : Int64)))), .second, .val (.ref bq2), .val (.ref xr_q4), .val (.ref xq_q4)] [(.ref xq_q4)]))
    obtain ⟨vq6, Tq6, Lq6, Xq6, qq6, nq6, stq6⟩ := callVi Xq5 hx hZ hown (longValue l Z aw hw xq_q4 x3 Oq4 pq4_10) (W_49 hw) (W_50 hw) (notFace_of_selects (args := #[]) (mvT hZ (W_52 hw))) (W_52 hw) (W_51 hw) (W_38 hw) (W_53 hw) (by decide) pq5_0 pq4_9 (by decide) (W := 0) (by decide) (by decide) (by decide) (g := (mkF m 77 #[.val (.long x0), .second, .val (.long x1), .second, .val (.long x2), .second, .val (.long x3), .second, .val (.long (x0 &&& (9223372036854775807 : Int64))), .second, .val (.long (x1 &&& (9223372036854775807 : Int64))), .second, .val (.long ((x2 &&& (9223372036854775807 : Int64)) - (x2 &&& (9223372036854775807 : Int64)) / ((x1 &&& (9223372036854775807 : Int64)) + (1 : Int64)) * ((x1 &&& (9223372036854775807 : Int64)) + (1 : Int64)))), .second, .val (.ref bq2), .val (.ref xr_q4), .val (.ref xq_q4)] [(.ref xq_q4)])) rfl (by rw [hml]; rfl) (a := xq_q4) (argsL := []) (rest := []) rfl (lenOf pd_12 rfl) rfl (by show 2 * 0 + _ ≤ _; exact Nat.le_of_eq rfl) (hb hby at_77)
    obtain ⟨rfl, pq6_0⟩ := qq6
    have Nq6 := Fr.app Nq5 nq6
    refine Goes.via stq6 ?_
    show Goes _ _ _ _ _ _ _ _ (Tq6.setTop (mkF m 80 #[.val (.long x0), .second, .val (.long x1), .second, .val (.long x2), .second, .val (.long x3), .second, .val (.long (x0 &&& (9223372036854775807 : Int64))), .second, .val (.long (x1 &&& (9223372036854775807 : Int64))), .second, .val (.long ((x2 &&& (9223372036854775807 : Int64)) - (x2 &&& (9223372036854775807 : Int64)) / ((x1 &&& (9223372036854775807 : Int64)) + (1 : Int64)) * ((x1 &&& (9223372036854775807 : Int64)) + (1 : Int64)))), .second, .val (.ref bq2), .val (.ref xr_q4), .val (.ref xq_q4)] [(.long x3)]))
    refine Goes.via (fun _ k => XT.lload Xq6.here hx rfl (hb hby at_80) rfl k) ?_
    show Goes _ _ _ _ _ _ _ _ (Tq6.setTop (mkF m 82 #[.val (.long x0), .second, .val (.long x1), .second, .val (.long x2), .second, .val (.long x3), .second, .val (.long (x0 &&& (9223372036854775807 : Int64))), .second, .val (.long (x1 &&& (9223372036854775807 : Int64))), .second, .val (.long ((x2 &&& (9223372036854775807 : Int64)) - (x2 &&& (9223372036854775807 : Int64)) / ((x1 &&& (9223372036854775807 : Int64)) + (1 : Int64)) * ((x1 &&& (9223372036854775807 : Int64)) + (1 : Int64)))), .second, .val (.ref bq2), .val (.ref xr_q4), .val (.ref xq_q4)] [(.long x3), (.long x3)]))
    refine Goes.via (fun _ k => XT.lcmp Xq6.here hx rfl (hb hby at_82) rfl k) ?_
    show Goes _ _ _ _ _ _ _ _ (Tq6.setTop (mkF m 83 #[.val (.long x0), .second, .val (.long x1), .second, .val (.long x2), .second, .val (.long x3), .second, .val (.long (x0 &&& (9223372036854775807 : Int64))), .second, .val (.long (x1 &&& (9223372036854775807 : Int64))), .second, .val (.long ((x2 &&& (9223372036854775807 : Int64)) - (x2 &&& (9223372036854775807 : Int64)) / ((x1 &&& (9223372036854775807 : Int64)) + (1 : Int64)) * ((x1 &&& (9223372036854775807 : Int64)) + (1 : Int64)))), .second, .val (.ref bq2), .val (.ref xr_q4), .val (.ref xq_q4)] [(.int (XT.cmpL x3 x3))]))
    refine Goes.via (fun _ k => XS.ifYes Xq6.here hx rfl (pc0 := 83) (pc' := 88) rfl (hb hby at_83) rfl (XT.ll_eq_t rfl) (by decide) (by decide) k) ?_
    show Goes _ _ _ _ _ _ _ _ (Tq6.setTop (mkF m 88 #[.val (.long x0), .second, .val (.long x1), .second, .val (.long x2), .second, .val (.long x3), .second, .val (.long (x0 &&& (9223372036854775807 : Int64))), .second, .val (.long (x1 &&& (9223372036854775807 : Int64))), .second, .val (.long ((x2 &&& (9223372036854775807 : Int64)) - (x2 &&& (9223372036854775807 : Int64)) / ((x1 &&& (9223372036854775807 : Int64)) + (1 : Int64)) * ((x1 &&& (9223372036854775807 : Int64)) + (1 : Int64)))), .second, .val (.ref bq2), .val (.ref xr_q4), .val (.ref xq_q4)] []))
    refine Goes.via (fun _ k => XS.aload Xq6.here hx rfl (hb hby at_88) rfl rfl k) ?_
    show Goes _ _ _ _ _ _ _ _ (Tq6.setTop (mkF m 90 #[.val (.long x0), .second, .val (.long x1), .second, .val (.long x2), .second, .val (.long x3), .second, .val (.long (x0 &&& (9223372036854775807 : Int64))), .second, .val (.long (x1 &&& (9223372036854775807 : Int64))), .second, .val (.long ((x2 &&& (9223372036854775807 : Int64)) - (x2 &&& (9223372036854775807 : Int64)) / ((x1 &&& (9223372036854775807 : Int64)) + (1 : Int64)) * ((x1 &&& (9223372036854775807 : Int64)) + (1 : Int64)))), .second, .val (.ref bq2), .val (.ref xr_q4), .val (.ref xq_q4)] [(.ref xr_q4)]))
    obtain ⟨vq7, Tq7, Lq7, Xq7, qq7, nq7, stq7⟩ := callVi Xq6 hx hZ hown (get_offset l Z aw hw xr_q4 (x0 &&& (9223372036854775807 : Int64)) Oq4 pq4_3) (W_56 hw) (W_57 hw) (notFace_of_selects (args := #[]) (mvT hZ (W_59 hw))) (W_59 hw) (W_58 hw) (W_3 hw) (W_60 hw) (by decide) pq6_0 pq4_2 (by decide) (W := 0) (by decide) (by decide) (by decide) (g := (mkF m 90 #[.val (.long x0), .second, .val (.long x1), .second, .val (.long x2), .second, .val (.long x3), .second, .val (.long (x0 &&& (9223372036854775807 : Int64))), .second, .val (.long (x1 &&& (9223372036854775807 : Int64))), .second, .val (.long ((x2 &&& (9223372036854775807 : Int64)) - (x2 &&& (9223372036854775807 : Int64)) / ((x1 &&& (9223372036854775807 : Int64)) + (1 : Int64)) * ((x1 &&& (9223372036854775807 : Int64)) + (1 : Int64)))), .second, .val (.ref bq2), .val (.ref xr_q4), .val (.ref xq_q4)] [(.ref xr_q4)])) rfl (by rw [hml]; rfl) (a := xr_q4) (argsL := []) (rest := []) rfl (lenOf pd_12 rfl) rfl (by show 2 * 0 + _ ≤ _; exact Nat.le_of_eq rfl) (hb hby at_90)
    obtain ⟨rfl, pq7_0⟩ := qq7
    have Nq7 := Fr.app Nq6 nq7
    refine Goes.via stq7 ?_
    show Goes _ _ _ _ _ _ _ _ (Tq7.setTop (mkF m 93 #[.val (.long x0), .second, .val (.long x1), .second, .val (.long x2), .second, .val (.long x3), .second, .val (.long (x0 &&& (9223372036854775807 : Int64))), .second, .val (.long (x1 &&& (9223372036854775807 : Int64))), .second, .val (.long ((x2 &&& (9223372036854775807 : Int64)) - (x2 &&& (9223372036854775807 : Int64)) / ((x1 &&& (9223372036854775807 : Int64)) + (1 : Int64)) * ((x1 &&& (9223372036854775807 : Int64)) + (1 : Int64)))), .second, .val (.ref bq2), .val (.ref xr_q4), .val (.ref xq_q4)] [(.long (x0 &&& (9223372036854775807 : Int64)))]))
    refine Goes.via (fun _ k => XT.lload Xq7.here hx rfl (hb hby at_93) rfl k) ?_
    show Goes _ _ _ _ _ _ _ _ (Tq7.setTop (mkF m 95 #[.val (.long x0), .second, .val (.long x1), .second, .val (.long x2), .second, .val (.long x3), .second, .val (.long (x0 &&& (9223372036854775807 : Int64))), .second, .val (.long (x1 &&& (9223372036854775807 : Int64))), .second, .val (.long ((x2 &&& (9223372036854775807 : Int64)) - (x2 &&& (9223372036854775807 : Int64)) / ((x1 &&& (9223372036854775807 : Int64)) + (1 : Int64)) * ((x1 &&& (9223372036854775807 : Int64)) + (1 : Int64)))), .second, .val (.ref bq2), .val (.ref xr_q4), .val (.ref xq_q4)] [(.long (x0 &&& (9223372036854775807 : Int64))), (.long (x0 &&& (9223372036854775807 : Int64)))]))
    refine Goes.via (fun _ k => XT.lcmp Xq7.here hx rfl (hb hby at_95) rfl k) ?_
    show Goes _ _ _ _ _ _ _ _ (Tq7.setTop (mkF m 96 #[.val (.long x0), .second, .val (.long x1), .second, .val (.long x2), .second, .val (.long x3), .second, .val (.long (x0 &&& (9223372036854775807 : Int64))), .second, .val (.long (x1 &&& (9223372036854775807 : Int64))), .second, .val (.long ((x2 &&& (9223372036854775807 : Int64)) - (x2 &&& (9223372036854775807 : Int64)) / ((x1 &&& (9223372036854775807 : Int64)) + (1 : Int64)) * ((x1 &&& (9223372036854775807 : Int64)) + (1 : Int64)))), .second, .val (.ref bq2), .val (.ref xr_q4), .val (.ref xq_q4)] [(.int (XT.cmpL (x0 &&& (9223372036854775807 : Int64)) (x0 &&& (9223372036854775807 : Int64))))]))
    refine Goes.via (fun _ k => XS.ifNo Xq7.here hx rfl (hb hby at_96) rfl (XT.ll_ne_f rfl) k) ?_
    show Goes _ _ _ _ _ _ _ _ (Tq7.setTop (mkF m 99 #[.val (.long x0), .second, .val (.long x1), .second, .val (.long x2), .second, .val (.long x3), .second, .val (.long (x0 &&& (9223372036854775807 : Int64))), .second, .val (.long (x1 &&& (9223372036854775807 : Int64))), .second, .val (.long ((x2 &&& (9223372036854775807 : Int64)) - (x2 &&& (9223372036854775807 : Int64)) / ((x1 &&& (9223372036854775807 : Int64)) + (1 : Int64)) * ((x1 &&& (9223372036854775807 : Int64)) + (1 : Int64)))), .second, .val (.ref bq2), .val (.ref xr_q4), .val (.ref xq_q4)] []))
    refine Goes.via (fun _ k => XS.aload Xq7.here hx rfl (hb hby at_99) rfl rfl k) ?_
    show Goes _ _ _ _ _ _ _ _ (Tq7.setTop (mkF m 101 #[.val (.long x0), .second, .val (.long x1), .second, .val (.long x2), .second, .val (.long x3), .second, .val (.long (x0 &&& (9223372036854775807 : Int64))), .second, .val (.long (x1 &&& (9223372036854775807 : Int64))), .second, .val (.long ((x2 &&& (9223372036854775807 : Int64)) - (x2 &&& (9223372036854775807 : Int64)) / ((x1 &&& (9223372036854775807 : Int64)) + (1 : Int64)) * ((x1 &&& (9223372036854775807 : Int64)) + (1 : Int64)))), .second, .val (.ref bq2), .val (.ref xr_q4), .val (.ref xq_q4)] [(.ref xr_q4)]))
    obtain ⟨vq8, Tq8, Lq8, Xq8, qq8, nq8, stq8⟩ := callVi Xq7 hx hZ hown (get_lineNumber l Z aw hw xr_q4 (x1 &&& (9223372036854775807 : Int64)) Oq4 pq4_4) (W_61 hw) (W_62 hw) (notFace_of_selects (args := #[]) (mvT hZ (W_64 hw))) (W_64 hw) (W_63 hw) (W_3 hw) (W_65 hw) (by decide) pq7_0 pq4_2 (by decide) (W := 0) (by decide) (by decide) (by decide) (g := (mkF m 101 #[.val (.long x0), .second, .val (.long x1), .second, .val (.long x2), .second, .val (.long x3), .second, .val (.long (x0 &&& (9223372036854775807 : Int64))), .second, .val (.long (x1 &&& (9223372036854775807 : Int64))), .second, .val (.long ((x2 &&& (9223372036854775807 : Int64)) - (x2 &&& (9223372036854775807 : Int64)) / ((x1 &&& (9223372036854775807 : Int64)) + (1 : Int64)) * ((x1 &&& (9223372036854775807 : Int64)) + (1 : Int64)))), .second, .val (.ref bq2), .val (.ref xr_q4), .val (.ref xq_q4)] [(.ref xr_q4)])) rfl (by rw [hml]; rfl) (a := xr_q4) (argsL := []) (rest := []) rfl (lenOf pd_12 rfl) rfl (by show 2 * 0 + _ ≤ _; exact Nat.le_of_eq rfl) (hb hby at_101)
    obtain ⟨rfl, pq8_0⟩ := qq8
    have Nq8 := Fr.app Nq7 nq8
    refine Goes.via stq8 ?_
    show Goes _ _ _ _ _ _ _ _ (Tq8.setTop (mkF m 104 #[.val (.long x0), .second, .val (.long x1), .second, .val (.long x2), .second, .val (.long x3), .second, .val (.long (x0 &&& (9223372036854775807 : Int64))), .second, .val (.long (x1 &&& (9223372036854775807 : Int64))), .second, .val (.long ((x2 &&& (9223372036854775807 : Int64)) - (x2 &&& (9223372036854775807 : Int64)) / ((x1 &&& (9223372036854775807 : Int64)) + (1 : Int64)) * ((x1 &&& (9223372036854775807 : Int64)) + (1 : Int64)))), .second, .val (.ref bq2), .val (.ref xr_q4), .val (.ref xq_q4)] [(.long (x1 &&& (9223372036854775807 : Int64)))]))
    refine Goes.via (fun _ k => XT.lload Xq8.here hx rfl (hb hby at_104) rfl k) ?_
    show Goes _ _ _ _ _ _ _ _ (Tq8.setTop (mkF m 106 #[.val (.long x0), .second, .val (.long x1), .second, .val (.long x2), .second, .val (.long x3), .second, .val (.long (x0 &&& (9223372036854775807 : Int64))), .second, .val (.long (x1 &&& (9223372036854775807 : Int64))), .second, .val (.long ((x2 &&& (9223372036854775807 : Int64)) - (x2 &&& (9223372036854775807 : Int64)) / ((x1 &&& (9223372036854775807 : Int64)) + (1 : Int64)) * ((x1 &&& (9223372036854775807 : Int64)) + (1 : Int64)))), .second, .val (.ref bq2), .val (.ref xr_q4), .val (.ref xq_q4)] [(.long (x1 &&& (9223372036854775807 : Int64))), (.long (x1 &&& (9223372036854775807 : Int64)))]))
    refine Goes.via (fun _ k => XT.lcmp Xq8.here hx rfl (hb hby at_106) rfl k) ?_
    show Goes _ _ _ _ _ _ _ _ (Tq8.setTop (mkF m 107 #[.val (.long x0), .second, .val (.long x1), .second, .val (.long x2), .second, .val (.long x3), .second, .val (.long (x0 &&& (9223372036854775807 : Int64))), .second, .val (.long (x1 &&& (9223372036854775807 : Int64))), .second, .val (.long ((x2 &&& (9223372036854775807 : Int64)) - (x2 &&& (9223372036854775807 : Int64)) / ((x1 &&& (9223372036854775807 : Int64)) + (1 : Int64)) * ((x1 &&& (9223372036854775807 : Int64)) + (1 : Int64)))), .second, .val (.ref bq2), .val (.ref xr_q4), .val (.ref xq_q4)] [(.int (XT.cmpL (x1 &&& (9223372036854775807 : Int64)) (x1 &&& (9223372036854775807 : Int64))))]))
    refine Goes.via (fun _ k => XS.ifNo Xq8.here hx rfl (hb hby at_107) rfl (XT.ll_ne_f rfl) k) ?_
    show Goes _ _ _ _ _ _ _ _ (Tq8.setTop (mkF m 110 #[.val (.long x0), .second, .val (.long x1), .second, .val (.long x2), .second, .val (.long x3), .second, .val (.long (x0 &&& (9223372036854775807 : Int64))), .second, .val (.long (x1 &&& (9223372036854775807 : Int64))), .second, .val (.long ((x2 &&& (9223372036854775807 : Int64)) - (x2 &&& (9223372036854775807 : Int64)) / ((x1 &&& (9223372036854775807 : Int64)) + (1 : Int64)) * ((x1 &&& (9223372036854775807 : Int64)) + (1 : Int64)))), .second, .val (.ref bq2), .val (.ref xr_q4), .val (.ref xq_q4)] []))
    refine Goes.via (fun _ k => XS.aload Xq8.here hx rfl (hb hby at_110) rfl rfl k) ?_
    show Goes _ _ _ _ _ _ _ _ (Tq8.setTop (mkF m 112 #[.val (.long x0), .second, .val (.long x1), .second, .val (.long x2), .second, .val (.long x3), .second, .val (.long (x0 &&& (9223372036854775807 : Int64))), .second, .val (.long (x1 &&& (9223372036854775807 : Int64))), .second, .val (.long ((x2 &&& (9223372036854775807 : Int64)) - (x2 &&& (9223372036854775807 : Int64)) / ((x1 &&& (9223372036854775807 : Int64)) + (1 : Int64)) * ((x1 &&& (9223372036854775807 : Int64)) + (1 : Int64)))), .second, .val (.ref bq2), .val (.ref xr_q4), .val (.ref xq_q4)] [(.ref xr_q4)]))
    obtain ⟨vq9, Tq9, Lq9, Xq9, qq9, nq9, stq9⟩ := callVi Xq8 hx hZ hown (get_stored l Z aw hw xr_q4 ((x2 &&& (9223372036854775807 : Int64)) - (x2 &&& (9223372036854775807 : Int64)) / ((x1 &&& (9223372036854775807 : Int64)) + (1 : Int64)) * ((x1 &&& (9223372036854775807 : Int64)) + (1 : Int64))) Oq4 pq4_5) (W_66 hw) (W_67 hw) (notFace_of_selects (args := #[]) (mvT hZ (W_69 hw))) (W_69 hw) (W_68 hw) (W_3 hw) (W_70 hw) (by decide) pq8_0 pq4_2 (by decide) (W := 0) (by decide) (by decide) (by decide) (g := (mkF m 112 #[.val (.long x0), .second, .val (.long x1), .second, .val (.long x2), .second, .val (.long x3), .second, .val (.long (x0 &&& (9223372036854775807 : Int64))), .second, .val (.long (x1 &&& (9223372036854775807 : Int64))), .second, .val (.long ((x2 &&& (9223372036854775807 : Int64)) - (x2 &&& (9223372036854775807 : Int64)) / ((x1 &&& (9223372036854775807 : Int64)) + (1 : Int64)) * ((x1 &&& (9223372036854775807 : Int64)) + (1 : Int64)))), .second, .val (.ref bq2), .val (.ref xr_q4), .val (.ref xq_q4)] [(.ref xr_q4)])) rfl (by rw [hml]; rfl) (a := xr_q4) (argsL := []) (rest := []) rfl (lenOf pd_12 rfl) rfl (by show 2 * 0 + _ ≤ _; exact Nat.le_of_eq rfl) (hb hby at_112)
    obtain ⟨rfl, pq9_0⟩ := qq9
    have Nq9 := Fr.app Nq8 nq9
    refine Goes.via stq9 ?_
    show Goes _ _ _ _ _ _ _ _ (Tq9.setTop (mkF m 115 #[.val (.long x0), .second, .val (.long x1), .second, .val (.long x2), .second, .val (.long x3), .second, .val (.long (x0 &&& (9223372036854775807 : Int64))), .second, .val (.long (x1 &&& (9223372036854775807 : Int64))), .second, .val (.long ((x2 &&& (9223372036854775807 : Int64)) - (x2 &&& (9223372036854775807 : Int64)) / ((x1 &&& (9223372036854775807 : Int64)) + (1 : Int64)) * ((x1 &&& (9223372036854775807 : Int64)) + (1 : Int64)))), .second, .val (.ref bq2), .val (.ref xr_q4), .val (.ref xq_q4)] [(.long ((x2 &&& (9223372036854775807 : Int64)) - (x2 &&& (9223372036854775807 : Int64)) / ((x1 &&& (9223372036854775807 : Int64)) + (1 : Int64)) * ((x1 &&& (9223372036854775807 : Int64)) + (1 : Int64))))]))
    refine Goes.via (fun _ k => XT.lload Xq9.here hx rfl (hb hby at_115) rfl k) ?_
    show Goes _ _ _ _ _ _ _ _ (Tq9.setTop (mkF m 117 #[.val (.long x0), .second, .val (.long x1), .second, .val (.long x2), .second, .val (.long x3), .second, .val (.long (x0 &&& (9223372036854775807 : Int64))), .second, .val (.long (x1 &&& (9223372036854775807 : Int64))), .second, .val (.long ((x2 &&& (9223372036854775807 : Int64)) - (x2 &&& (9223372036854775807 : Int64)) / ((x1 &&& (9223372036854775807 : Int64)) + (1 : Int64)) * ((x1 &&& (9223372036854775807 : Int64)) + (1 : Int64)))), .second, .val (.ref bq2), .val (.ref xr_q4), .val (.ref xq_q4)] [(.long ((x2 &&& (9223372036854775807 : Int64)) - (x2 &&& (9223372036854775807 : Int64)) / ((x1 &&& (9223372036854775807 : Int64)) + (1 : Int64)) * ((x1 &&& (9223372036854775807 : Int64)) + (1 : Int64)))), (.long ((x2 &&& (9223372036854775807 : Int64)) - (x2 &&& (9223372036854775807 : Int64)) / ((x1 &&& (9223372036854775807 : Int64)) + (1 : Int64)) * ((x1 &&& (9223372036854775807 : Int64)) + (1 : Int64))))]))
    refine Goes.via (fun _ k => XT.lcmp Xq9.here hx rfl (hb hby at_117) rfl k) ?_
    show Goes _ _ _ _ _ _ _ _ (Tq9.setTop (mkF m 118 #[.val (.long x0), .second, .val (.long x1), .second, .val (.long x2), .second, .val (.long x3), .second, .val (.long (x0 &&& (9223372036854775807 : Int64))), .second, .val (.long (x1 &&& (9223372036854775807 : Int64))), .second, .val (.long ((x2 &&& (9223372036854775807 : Int64)) - (x2 &&& (9223372036854775807 : Int64)) / ((x1 &&& (9223372036854775807 : Int64)) + (1 : Int64)) * ((x1 &&& (9223372036854775807 : Int64)) + (1 : Int64)))), .second, .val (.ref bq2), .val (.ref xr_q4), .val (.ref xq_q4)] [(.int (XT.cmpL ((x2 &&& (9223372036854775807 : Int64)) - (x2 &&& (9223372036854775807 : Int64)) / ((x1 &&& (9223372036854775807 : Int64)) + (1 : Int64)) * ((x1 &&& (9223372036854775807 : Int64)) + (1 : Int64))) ((x2 &&& (9223372036854775807 : Int64)) - (x2 &&& (9223372036854775807 : Int64)) / ((x1 &&& (9223372036854775807 : Int64)) + (1 : Int64)) * ((x1 &&& (9223372036854775807 : Int64)) + (1 : Int64)))))]))
    refine Goes.via (fun _ k => XS.ifYes Xq9.here hx rfl (pc0 := 118) (pc' := 123) rfl (hb hby at_118) rfl (XT.ll_eq_t rfl) (by decide) (by decide) k) ?_
    show Goes _ _ _ _ _ _ _ _ (Tq9.setTop (mkF m 123 #[.val (.long x0), .second, .val (.long x1), .second, .val (.long x2), .second, .val (.long x3), .second, .val (.long (x0 &&& (9223372036854775807 : Int64))), .second, .val (.long (x1 &&& (9223372036854775807 : Int64))), .second, .val (.long ((x2 &&& (9223372036854775807 : Int64)) - (x2 &&& (9223372036854775807 : Int64)) / ((x1 &&& (9223372036854775807 : Int64)) + (1 : Int64)) * ((x1 &&& (9223372036854775807 : Int64)) + (1 : Int64)))), .second, .val (.ref bq2), .val (.ref xr_q4), .val (.ref xq_q4)] []))
    refine Goes.via (fun _ k => XS.aload Xq9.here hx rfl (hb hby at_123) rfl rfl k) ?_
    show Goes _ _ _ _ _ _ _ _ (Tq9.setTop (mkF m 125 #[.val (.long x0), .second, .val (.long x1), .second, .val (.long x2), .second, .val (.long x3), .second, .val (.long (x0 &&& (9223372036854775807 : Int64))), .second, .val (.long (x1 &&& (9223372036854775807 : Int64))), .second, .val (.long ((x2 &&& (9223372036854775807 : Int64)) - (x2 &&& (9223372036854775807 : Int64)) / ((x1 &&& (9223372036854775807 : Int64)) + (1 : Int64)) * ((x1 &&& (9223372036854775807 : Int64)) + (1 : Int64)))), .second, .val (.ref bq2), .val (.ref xr_q4), .val (.ref xq_q4)] [(.ref xr_q4)]))
    obtain ⟨vq10, Tq10, Lq10, Xq10, qq10, nq10, stq10⟩ := callVi Xq9 hx hZ hown (get_tail l Z aw hw xr_q4 Oq4 pq4_6) (W_71 hw) (W_72 hw) (notFace_of_selects (args := #[]) (mvT hZ (W_74 hw))) (W_74 hw) (W_73 hw) (W_3 hw) (W_75 hw) (by decide) pq9_0 pq4_2 (by decide) (W := 0) (by decide) (by decide) (by decide) (g := (mkF m 125 #[.val (.long x0), .second, .val (.long x1), .second, .val (.long x2), .second, .val (.long x3), .second, .val (.long (x0 &&& (9223372036854775807 : Int64))), .second, .val (.long (x1 &&& (9223372036854775807 : Int64))), .second, .val (.long ((x2 &&& (9223372036854775807 : Int64)) - (x2 &&& (9223372036854775807 : Int64)) / ((x1 &&& (9223372036854775807 : Int64)) + (1 : Int64)) * ((x1 &&& (9223372036854775807 : Int64)) + (1 : Int64)))), .second, .val (.ref bq2), .val (.ref xr_q4), .val (.ref xq_q4)] [(.ref xr_q4)])) rfl (by rw [hml]; rfl) (a := xr_q4) (argsL := []) (rest := []) rfl (lenOf pd_13 rfl) rfl (by show 2 * 0 + _ ≤ _; exact Nat.le_of_eq rfl) (hb hby at_125)
    obtain ⟨rfl, pq10_0⟩ := qq10
    have Nq10 := Fr.app Nq9 nq10
    refine Goes.via stq10 ?_
    show Goes _ _ _ _ _ _ _ _ (Tq10.setTop (mkF m 128 #[.val (.long x0), .second, .val (.long x1), .second, .val (.long x2), .second, .val (.long x3), .second, .val (.long (x0 &&& (9223372036854775807 : Int64))), .second, .val (.long (x1 &&& (9223372036854775807 : Int64))), .second, .val (.long ((x2 &&& (9223372036854775807 : Int64)) - (x2 &&& (9223372036854775807 : Int64)) / ((x1 &&& (9223372036854775807 : Int64)) + (1 : Int64)) * ((x1 &&& (9223372036854775807 : Int64)) + (1 : Int64)))), .second, .val (.ref bq2), .val (.ref xr_q4), .val (.ref xq_q4)] [.null]))
    refine Goes.via (fun _ k => XT.ifnonnullNo Xq10.here hx rfl (hb hby at_128) rfl k) ?_
    show Goes _ _ _ _ _ _ _ _ (Tq10.setTop (mkF m 131 #[.val (.long x0), .second, .val (.long x1), .second, .val (.long x2), .second, .val (.long x3), .second, .val (.long (x0 &&& (9223372036854775807 : Int64))), .second, .val (.long (x1 &&& (9223372036854775807 : Int64))), .second, .val (.long ((x2 &&& (9223372036854775807 : Int64)) - (x2 &&& (9223372036854775807 : Int64)) / ((x1 &&& (9223372036854775807 : Int64)) + (1 : Int64)) * ((x1 &&& (9223372036854775807 : Int64)) + (1 : Int64)))), .second, .val (.ref bq2), .val (.ref xr_q4), .val (.ref xq_q4)] []))
    refine Goes.via (fun _ k => XS.aload Xq10.here hx rfl (hb hby at_131) rfl rfl k) ?_
    show Goes _ _ _ _ _ _ _ _ (Tq10.setTop (mkF m 133 #[.val (.long x0), .second, .val (.long x1), .second, .val (.long x2), .second, .val (.long x3), .second, .val (.long (x0 &&& (9223372036854775807 : Int64))), .second, .val (.long (x1 &&& (9223372036854775807 : Int64))), .second, .val (.long ((x2 &&& (9223372036854775807 : Int64)) - (x2 &&& (9223372036854775807 : Int64)) / ((x1 &&& (9223372036854775807 : Int64)) + (1 : Int64)) * ((x1 &&& (9223372036854775807 : Int64)) + (1 : Int64)))), .second, .val (.ref bq2), .val (.ref xr_q4), .val (.ref xq_q4)] [(.ref xr_q4)]))
    obtain ⟨vq11, Tq11, Lq11, Xq11, qq11, nq11, stq11⟩ := callVi Xq10 hx hZ hown (get_batchTime l Z aw hw xr_q4 Oq4 pq4_8) (W_76 hw) (W_77 hw) (notFace_of_selects (args := #[]) (mvT hZ (W_79 hw))) (W_79 hw) (W_78 hw) (W_3 hw) (W_80 hw) (by decide) pq10_0 pq4_2 (by decide) (W := 0) (by decide) (by decide) (by decide) (g := (mkF m 133 #[.val (.long x0), .second, .val (.long x1), .second, .val (.long x2), .second, .val (.long x3), .second, .val (.long (x0 &&& (9223372036854775807 : Int64))), .second, .val (.long (x1 &&& (9223372036854775807 : Int64))), .second, .val (.long ((x2 &&& (9223372036854775807 : Int64)) - (x2 &&& (9223372036854775807 : Int64)) / ((x1 &&& (9223372036854775807 : Int64)) + (1 : Int64)) * ((x1 &&& (9223372036854775807 : Int64)) + (1 : Int64)))), .second, .val (.ref bq2), .val (.ref xr_q4), .val (.ref xq_q4)] [(.ref xr_q4)])) rfl (by rw [hml]; rfl) (a := xr_q4) (argsL := []) (rest := []) rfl (lenOf pd_11 rfl) rfl (by show 2 * 0 + _ ≤ _; exact Nat.le_of_eq rfl) (hb hby at_133)
    obtain ⟨rfl, pq11_0⟩ := qq11
    have Nq11 := Fr.app Nq10 nq11
    refine Goes.via stq11 ?_
    show Goes _ _ _ _ _ _ _ _ (Tq11.setTop (mkF m 136 #[.val (.long x0), .second, .val (.long x1), .second, .val (.long x2), .second, .val (.long x3), .second, .val (.long (x0 &&& (9223372036854775807 : Int64))), .second, .val (.long (x1 &&& (9223372036854775807 : Int64))), .second, .val (.long ((x2 &&& (9223372036854775807 : Int64)) - (x2 &&& (9223372036854775807 : Int64)) / ((x1 &&& (9223372036854775807 : Int64)) + (1 : Int64)) * ((x1 &&& (9223372036854775807 : Int64)) + (1 : Int64)))), .second, .val (.ref bq2), .val (.ref xr_q4), .val (.ref xq_q4)] [.null]))
    refine Goes.via (fun _ k => XS.ifnullYes Xq11.here hx rfl (pc0 := 136) (pc' := 141) rfl (hb hby at_136) rfl (by decide) (by decide) k) ?_
    show Goes _ _ _ _ _ _ _ _ (Tq11.setTop (mkF m 141 #[.val (.long x0), .second, .val (.long x1), .second, .val (.long x2), .second, .val (.long x3), .second, .val (.long (x0 &&& (9223372036854775807 : Int64))), .second, .val (.long (x1 &&& (9223372036854775807 : Int64))), .second, .val (.long ((x2 &&& (9223372036854775807 : Int64)) - (x2 &&& (9223372036854775807 : Int64)) / ((x1 &&& (9223372036854775807 : Int64)) + (1 : Int64)) * ((x1 &&& (9223372036854775807 : Int64)) + (1 : Int64)))), .second, .val (.ref bq2), .val (.ref xr_q4), .val (.ref xq_q4)] []))
    refine Goes.via (fun _ k => XS.aload Xq11.here hx rfl (hb hby at_141) rfl rfl k) ?_
    show Goes _ _ _ _ _ _ _ _ (Tq11.setTop (mkF m 143 #[.val (.long x0), .second, .val (.long x1), .second, .val (.long x2), .second, .val (.long x3), .second, .val (.long (x0 &&& (9223372036854775807 : Int64))), .second, .val (.long (x1 &&& (9223372036854775807 : Int64))), .second, .val (.long ((x2 &&& (9223372036854775807 : Int64)) - (x2 &&& (9223372036854775807 : Int64)) / ((x1 &&& (9223372036854775807 : Int64)) + (1 : Int64)) * ((x1 &&& (9223372036854775807 : Int64)) + (1 : Int64)))), .second, .val (.ref bq2), .val (.ref xr_q4), .val (.ref xq_q4)] [(.ref bq2)]))
    have fq12 : Fld Z Tq4.heap bq2 "com/example/trailkeep/trailkeep/journal/InputPosition" "born" "Ljava/lang/Long;" .null := (pq3_6.keep pq4_1 nin0)
    have fq14 : Exa Z Tq4.heap bq2 "com/example/trailkeep/trailkeep/journal/InputPosition" := (pq3_1.keep pq4_1)
    obtain ⟨vq13, Tq13, Lq13, Xq13, qq13, nq13, stq13⟩ := callVi Xq11 hx hZ hown (get_bornN l Z aw hw bq2 Oq4 fq12) (W_44 hw) (W_45 hw) (notFace_of_selects (args := #[]) (mvT hZ (W_47 hw))) (W_47 hw) (W_46 hw) (W_3 hw) (W_48 hw) (by decide) pq11_0 fq14 (by decide) (W := 0) (by decide) (by decide) (by decide) (g := (mkF m 143 #[.val (.long x0), .second, .val (.long x1), .second, .val (.long x2), .second, .val (.long x3), .second, .val (.long (x0 &&& (9223372036854775807 : Int64))), .second, .val (.long (x1 &&& (9223372036854775807 : Int64))), .second, .val (.long ((x2 &&& (9223372036854775807 : Int64)) - (x2 &&& (9223372036854775807 : Int64)) / ((x1 &&& (9223372036854775807 : Int64)) + (1 : Int64)) * ((x1 &&& (9223372036854775807 : Int64)) + (1 : Int64)))), .second, .val (.ref bq2), .val (.ref xr_q4), .val (.ref xq_q4)] [(.ref bq2)])) rfl (by rw [hml]; rfl) (a := bq2) (argsL := []) (rest := []) rfl (lenOf pd_11 rfl) rfl (by show 2 * 0 + _ ≤ _; exact Nat.le_of_eq rfl) (hb hby at_143)
    obtain ⟨rfl, pq13_0⟩ := qq13
    have Nq13 := Fr.app Nq11 nq13
    refine Goes.via stq13 ?_
    show Goes _ _ _ _ _ _ _ _ (Tq13.setTop (mkF m 146 #[.val (.long x0), .second, .val (.long x1), .second, .val (.long x2), .second, .val (.long x3), .second, .val (.long (x0 &&& (9223372036854775807 : Int64))), .second, .val (.long (x1 &&& (9223372036854775807 : Int64))), .second, .val (.long ((x2 &&& (9223372036854775807 : Int64)) - (x2 &&& (9223372036854775807 : Int64)) / ((x1 &&& (9223372036854775807 : Int64)) + (1 : Int64)) * ((x1 &&& (9223372036854775807 : Int64)) + (1 : Int64)))), .second, .val (.ref bq2), .val (.ref xr_q4), .val (.ref xq_q4)] [.null]))
    refine Goes.via (fun _ k => XT.ifnonnullNo Xq13.here hx rfl (hb hby at_146) rfl k) ?_
    show Goes _ _ _ _ _ _ _ _ (Tq13.setTop (mkF m 149 #[.val (.long x0), .second, .val (.long x1), .second, .val (.long x2), .second, .val (.long x3), .second, .val (.long (x0 &&& (9223372036854775807 : Int64))), .second, .val (.long (x1 &&& (9223372036854775807 : Int64))), .second, .val (.long ((x2 &&& (9223372036854775807 : Int64)) - (x2 &&& (9223372036854775807 : Int64)) / ((x1 &&& (9223372036854775807 : Int64)) + (1 : Int64)) * ((x1 &&& (9223372036854775807 : Int64)) + (1 : Int64)))), .second, .val (.ref bq2), .val (.ref xr_q4), .val (.ref xq_q4)] []))
    refine Goes.via (fun _ k => XT.iconstV Xq13.here hx rfl (1 : Int32) (hb hby at_149) (by decide) k) ?_
    show Goes _ _ _ _ _ _ _ _ (Tq13.setTop (mkF m 150 #[.val (.long x0), .second, .val (.long x1), .second, .val (.long x2), .second, .val (.long x3), .second, .val (.long (x0 &&& (9223372036854775807 : Int64))), .second, .val (.long (x1 &&& (9223372036854775807 : Int64))), .second, .val (.long ((x2 &&& (9223372036854775807 : Int64)) - (x2 &&& (9223372036854775807 : Int64)) / ((x1 &&& (9223372036854775807 : Int64)) + (1 : Int64)) * ((x1 &&& (9223372036854775807 : Int64)) + (1 : Int64)))), .second, .val (.ref bq2), .val (.ref xr_q4), .val (.ref xq_q4)] [(.int (1 : Int32))]))
    refine Goes.via (fun _ k => XS.goto Xq13.here hx rfl (pc0 := 150) (pc' := 154) rfl (hb hby at_150) (by decide) (by decide) k) ?_
    show Goes _ _ _ _ _ _ _ _ (Tq13.setTop (mkF m 154 #[.val (.long x0), .second, .val (.long x1), .second, .val (.long x2), .second, .val (.long x3), .second, .val (.long (x0 &&& (9223372036854775807 : Int64))), .second, .val (.long (x1 &&& (9223372036854775807 : Int64))), .second, .val (.long ((x2 &&& (9223372036854775807 : Int64)) - (x2 &&& (9223372036854775807 : Int64)) / ((x1 &&& (9223372036854775807 : Int64)) + (1 : Int64)) * ((x1 &&& (9223372036854775807 : Int64)) + (1 : Int64)))), .second, .val (.ref bq2), .val (.ref xr_q4), .val (.ref xq_q4)] [(.int (1 : Int32))]))
    refine goRetN Xq13 hx hrt (by simp) hlk Nq13 (by decide) (by decide) (hb hby at_154) ?_
    try rw [pq13_0]
    exact rfl
  · skip
    refine Goes.via (fun _ k => XS.ifYes X.here hx rfl (pc0 := 27) (pc' := 39) rfl (hb hby at_27) rfl (XT.ll_le_t cq1) (by decide) (by decide) k) ?_
    show Goes _ _ _ _ _ _ _ _ (T.setTop (mkF m 39 #[.val (.long x0), .second, .val (.long x1), .second, .val (.long x2), .second, .val (.long x3), .second, .val (.long (x0 &&& (9223372036854775807 : Int64))), .second, .val (.long (x1 &&& (9223372036854775807 : Int64))), .second, .val (.long (x2 &&& (9223372036854775807 : Int64))), .second, .unset, .unset, .unset] []))
    have p0 := mk_nn x0
    have p1 := mk_nn x1
    have p2 := mk_nn x2
    have p3 := cq1
    obtain ⟨Tq15, hq15, Xq15, eq15, Eq15, Aq15, Dq15, -, stq15⟩ := newO X hx hZ hown (W_1 hw) (W_2 hw) (W_3 hw) e0 (g := (mkF m 39 #[.val (.long x0), .second, .val (.long x1), .second, .val (.long x2), .second, .val (.long x3), .second, .val (.long (x0 &&& (9223372036854775807 : Int64))), .second, .val (.long (x1 &&& (9223372036854775807 : Int64))), .second, .val (.long (x2 &&& (9223372036854775807 : Int64))), .second, .unset, .unset, .unset] [])) rfl (hb hby at_39) (by decide) (by decide)
    obtain ⟨bq15, gq15⟩ : ∃ z, z = h0.size := ⟨_, rfl⟩
    rw [← gq15] at Aq15 Dq15 stq15
    have zq15 := Eq15.1
    have Oq15 := O.ext Eq15
    have lq15 := Aq15.lt
    refine Goes.via stq15 ?_
    show Goes _ _ _ _ _ _ _ _ (Tq15.setTop (mkF m 42 #[.val (.long x0), .second, .val (.long x1), .second, .val (.long x2), .second, .val (.long x3), .second, .val (.long (x0 &&& (9223372036854775807 : Int64))), .second, .val (.long (x1 &&& (9223372036854775807 : Int64))), .second, .val (.long (x2 &&& (9223372036854775807 : Int64))), .second, .unset, .unset, .unset] [(.ref bq15)]))
    refine Goes.via (fun _ k => XS.dup Xq15.here hx rfl (hb hby at_42) rfl rfl k) ?_
    show Goes _ _ _ _ _ _ _ _ (Tq15.setTop (mkF m 43 #[.val (.long x0), .second, .val (.long x1), .second, .val (.long x2), .second, .val (.long x3), .second, .val (.long (x0 &&& (9223372036854775807 : Int64))), .second, .val (.long (x1 &&& (9223372036854775807 : Int64))), .second, .val (.long (x2 &&& (9223372036854775807 : Int64))), .second, .unset, .unset, .unset] [(.ref bq15), (.ref bq15)]))
    refine Goes.via (fun _ k => XT.lload Xq15.here hx rfl (hb hby at_43) rfl k) ?_
    show Goes _ _ _ _ _ _ _ _ (Tq15.setTop (mkF m 45 #[.val (.long x0), .second, .val (.long x1), .second, .val (.long x2), .second, .val (.long x3), .second, .val (.long (x0 &&& (9223372036854775807 : Int64))), .second, .val (.long (x1 &&& (9223372036854775807 : Int64))), .second, .val (.long (x2 &&& (9223372036854775807 : Int64))), .second, .unset, .unset, .unset] [(.long (x0 &&& (9223372036854775807 : Int64))), (.ref bq15), (.ref bq15)]))
    refine Goes.via (fun _ k => XT.lload Xq15.here hx rfl (hb hby at_45) rfl k) ?_
    show Goes _ _ _ _ _ _ _ _ (Tq15.setTop (mkF m 47 #[.val (.long x0), .second, .val (.long x1), .second, .val (.long x2), .second, .val (.long x3), .second, .val (.long (x0 &&& (9223372036854775807 : Int64))), .second, .val (.long (x1 &&& (9223372036854775807 : Int64))), .second, .val (.long (x2 &&& (9223372036854775807 : Int64))), .second, .unset, .unset, .unset] [(.long (x1 &&& (9223372036854775807 : Int64))), (.long (x0 &&& (9223372036854775807 : Int64))), (.ref bq15), (.ref bq15)]))
    refine Goes.via (fun _ k => XT.lload Xq15.here hx rfl (hb hby at_47) rfl k) ?_
    show Goes _ _ _ _ _ _ _ _ (Tq15.setTop (mkF m 49 #[.val (.long x0), .second, .val (.long x1), .second, .val (.long x2), .second, .val (.long x3), .second, .val (.long (x0 &&& (9223372036854775807 : Int64))), .second, .val (.long (x1 &&& (9223372036854775807 : Int64))), .second, .val (.long (x2 &&& (9223372036854775807 : Int64))), .second, .unset, .unset, .unset] [(.long (x2 &&& (9223372036854775807 : Int64))), (.long (x1 &&& (9223372036854775807 : Int64))), (.long (x0 &&& (9223372036854775807 : Int64))), (.ref bq15), (.ref bq15)]))
    obtain ⟨vq16, Tq16, Lq16, Xq16, qq16, nq16, stq16⟩ := callSp Xq15 hx hZ hown (init3 l Z aw hw bq15 (x0 &&& (9223372036854775807 : Int64)) (x1 &&& (9223372036854775807 : Int64)) (x2 &&& (9223372036854775807 : Int64)) Oq15 Aq15 (Dq15 (Or.inr (W_19 hw)) (ty := .long) (by decide)) (Dq15 (Or.inr (W_21 hw)) (ty := .long) (by decide)) (Dq15 (Or.inr (W_23 hw)) (ty := .long) (by decide)) (Dq15 (Or.inr (W_25 hw)) (ty := (.object "java/util/UUID")) (by decide)) (Dq15 (Or.inr (W_27 hw)) (ty := (.object "java/lang/Long")) (by decide)) (Dq15 (Or.inr (W_29 hw)) (ty := (.object "java/lang/Long")) (by decide)) (by omega) p0 p1 p2 p3) rfl (W_4 hw) (W_5 hw) (W_3 hw) (W_6 hw) (by decide) eq15 (by decide) (W := 1) (by decide) (by decide) (by decide) (g := (mkF m 49 #[.val (.long x0), .second, .val (.long x1), .second, .val (.long x2), .second, .val (.long x3), .second, .val (.long (x0 &&& (9223372036854775807 : Int64))), .second, .val (.long (x1 &&& (9223372036854775807 : Int64))), .second, .val (.long (x2 &&& (9223372036854775807 : Int64))), .second, .unset, .unset, .unset] [(.long (x2 &&& (9223372036854775807 : Int64))), (.long (x1 &&& (9223372036854775807 : Int64))), (.long (x0 &&& (9223372036854775807 : Int64))), (.ref bq15), (.ref bq15)])) rfl (by rw [hml]; rfl) (a := bq15) (argsL := [(.long (x0 &&& (9223372036854775807 : Int64))), (.long (x1 &&& (9223372036854775807 : Int64))), (.long (x2 &&& (9223372036854775807 : Int64)))]) (rest := [(.ref bq15)]) rfl (lenOf pd_9 rfl) rfl (by show 2 * 0 + _ ≤ _; exact Nat.le_of_eq rfl) (hb hby at_49)
    obtain ⟨rfl, pq16_0, pq16_1, pq16_2, pq16_3, pq16_4, pq16_5, pq16_6, pq16_7⟩ := qq16
    have Nq16 := Fr.app N nq16
    have zq16 := pq16_0.1
    have Oq16 := Oq15.keep pq16_0 (allS (by omega) all0)
    have ltpq16_1 := pq16_1.lt
    refine Goes.via stq16 ?_
    show Goes _ _ _ _ _ _ _ _ (Tq16.setTop (mkF m 52 #[.val (.long x0), .second, .val (.long x1), .second, .val (.long x2), .second, .val (.long x3), .second, .val (.long (x0 &&& (9223372036854775807 : Int64))), .second, .val (.long (x1 &&& (9223372036854775807 : Int64))), .second, .val (.long (x2 &&& (9223372036854775807 : Int64))), .second, .unset, .unset, .unset] [(.ref bq15)]))
    refine Goes.via (fun _ k => XS.astore Xq16.here hx rfl (hb hby at_52) rfl rfl (l' := #[.val (.long x0), .second, .val (.long x1), .second, .val (.long x2), .second, .val (.long x3), .second, .val (.long (x0 &&& (9223372036854775807 : Int64))), .second, .val (.long (x1 &&& (9223372036854775807 : Int64))), .second, .val (.long (x2 &&& (9223372036854775807 : Int64))), .second, .val (.ref bq15), .unset, .unset]) rfl k) ?_
    show Goes _ _ _ _ _ _ _ _ (Tq16.setTop (mkF m 54 #[.val (.long x0), .second, .val (.long x1), .second, .val (.long x2), .second, .val (.long x3), .second, .val (.long (x0 &&& (9223372036854775807 : Int64))), .second, .val (.long (x1 &&& (9223372036854775807 : Int64))), .second, .val (.long (x2 &&& (9223372036854775807 : Int64))), .second, .val (.ref bq15), .unset, .unset] []))
    refine Goes.via (fun _ k => XS.aload Xq16.here hx rfl (hb hby at_54) rfl rfl k) ?_
    show Goes _ _ _ _ _ _ _ _ (Tq16.setTop (mkF m 56 #[.val (.long x0), .second, .val (.long x1), .second, .val (.long x2), .second, .val (.long x3), .second, .val (.long (x0 &&& (9223372036854775807 : Int64))), .second, .val (.long (x1 &&& (9223372036854775807 : Int64))), .second, .val (.long (x2 &&& (9223372036854775807 : Int64))), .second, .val (.ref bq15), .unset, .unset] [(.ref bq15)]))
    refine Goes.via (fun _ k => XT.lload Xq16.here hx rfl (hb hby at_56) rfl k) ?_
    show Goes _ _ _ _ _ _ _ _ (Tq16.setTop (mkF m 58 #[.val (.long x0), .second, .val (.long x1), .second, .val (.long x2), .second, .val (.long x3), .second, .val (.long (x0 &&& (9223372036854775807 : Int64))), .second, .val (.long (x1 &&& (9223372036854775807 : Int64))), .second, .val (.long (x2 &&& (9223372036854775807 : Int64))), .second, .val (.ref bq15), .unset, .unset] [(.long x3), (.ref bq15)]))
    obtain ⟨vq17, Tq17, Lq17, Xq17, qq17, nq17, stq17⟩ := callVi Xq16 hx hZ hown (withBorn l Z aw hw bq15 x3 (x0 &&& (9223372036854775807 : Int64)) (x1 &&& (9223372036854775807 : Int64)) (x2 &&& (9223372036854775807 : Int64)) ar c0 Oq16 S0 A0 pq16_1 pq16_2 pq16_3 pq16_4 pq16_5 pq16_7 p0 p1 p2 p3 Sz CH) (W_30 hw) (W_31 hw) (notFace_of_selects (args := #[]) (mvT hZ (W_33 hw))) (W_33 hw) (W_32 hw) (W_3 hw) (W_34 hw) (by decide) rfl pq16_1 (by decide) (W := 0) (by decide) (by decide) (by decide) (g := (mkF m 58 #[.val (.long x0), .second, .val (.long x1), .second, .val (.long x2), .second, .val (.long x3), .second, .val (.long (x0 &&& (9223372036854775807 : Int64))), .second, .val (.long (x1 &&& (9223372036854775807 : Int64))), .second, .val (.long (x2 &&& (9223372036854775807 : Int64))), .second, .val (.ref bq15), .unset, .unset] [(.long x3), (.ref bq15)])) rfl (by rw [hml]; rfl) (a := bq15) (argsL := [(.long x3)]) (rest := []) rfl (lenOf pd_10 rfl) rfl (by show 2 * 0 + _ ≤ _; exact Nat.le_of_eq rfl) (hb hby at_58)
    obtain ⟨xr_q17, xq_q17, rfl, pq17_0, pq17_1, pq17_2, pq17_3, pq17_4, pq17_5, pq17_6, pq17_7, pq17_8, pq17_9, pq17_10⟩ := qq17
    have Nq17 := Fr.app Nq16 nq17
    have zq17 := pq17_1.1
    have Oq17 := Oq16.keep pq17_1 all0
    have ltpq17_2 := pq17_2.lt
    have ltpq17_9 := pq17_9.lt
    refine Goes.via stq17 ?_
    show Goes _ _ _ _ _ _ _ _ (Tq17.setTop (mkF m 61 #[.val (.long x0), .second, .val (.long x1), .second, .val (.long x2), .second, .val (.long x3), .second, .val (.long (x0 &&& (9223372036854775807 : Int64))), .second, .val (.long (x1 &&& (9223372036854775807 : Int64))), .second, .val (.long (x2 &&& (9223372036854775807 : Int64))), .second, .val (.ref bq15), .unset, .unset] [(.ref xr_q17)]))
    refine Goes.via (fun _ k => XS.astore Xq17.here hx rfl (hb hby at_61) rfl rfl (l' := #[.val (.long x0), .second, .val (.long x1), .second, .val (.long x2), .second, .val (.long x3), .second, .val (.long (x0 &&& (9223372036854775807 : Int64))), .second, .val (.long (x1 &&& (9223372036854775807 : Int64))), .second, .val (.long (x2 &&& (9223372036854775807 : Int64))), .second, .val (.ref bq15), .val (.ref xr_q17), .unset]) rfl k) ?_
    show Goes _ _ _ _ _ _ _ _ (Tq17.setTop (mkF m 63 #[.val (.long x0), .second, .val (.long x1), .second, .val (.long x2), .second, .val (.long x3), .second, .val (.long (x0 &&& (9223372036854775807 : Int64))), .second, .val (.long (x1 &&& (9223372036854775807 : Int64))), .second, .val (.long (x2 &&& (9223372036854775807 : Int64))), .second, .val (.ref bq15), .val (.ref xr_q17), .unset] []))
    refine Goes.via (fun _ k => XS.aload Xq17.here hx rfl (hb hby at_63) rfl rfl k) ?_
    show Goes _ _ _ _ _ _ _ _ (Tq17.setTop (mkF m 65 #[.val (.long x0), .second, .val (.long x1), .second, .val (.long x2), .second, .val (.long x3), .second, .val (.long (x0 &&& (9223372036854775807 : Int64))), .second, .val (.long (x1 &&& (9223372036854775807 : Int64))), .second, .val (.long (x2 &&& (9223372036854775807 : Int64))), .second, .val (.ref bq15), .val (.ref xr_q17), .unset] [(.ref xr_q17)]))
    obtain ⟨vq18, Tq18, Lq18, Xq18, qq18, nq18, stq18⟩ := callVi Xq17 hx hZ hown (get_bornR l Z aw hw xr_q17 xq_q17 Oq17 pq17_7) (W_44 hw) (W_45 hw) (notFace_of_selects (args := #[]) (mvT hZ (W_47 hw))) (W_47 hw) (W_46 hw) (W_3 hw) (W_48 hw) (by decide) rfl pq17_2 (by decide) (W := 0) (by decide) (by decide) (by decide) (g := (mkF m 65 #[.val (.long x0), .second, .val (.long x1), .second, .val (.long x2), .second, .val (.long x3), .second, .val (.long (x0 &&& (9223372036854775807 : Int64))), .second, .val (.long (x1 &&& (9223372036854775807 : Int64))), .second, .val (.long (x2 &&& (9223372036854775807 : Int64))), .second, .val (.ref bq15), .val (.ref xr_q17), .unset] [(.ref xr_q17)])) rfl (by rw [hml]; rfl) (a := xr_q17) (argsL := []) (rest := []) rfl (lenOf pd_11 rfl) rfl (by show 2 * 0 + _ ≤ _; exact Nat.le_of_eq rfl) (hb hby at_65)
    obtain ⟨rfl, pq18_0⟩ := qq18
    have Nq18 := Fr.app Nq17 nq18
    refine Goes.via stq18 ?_
    show Goes _ _ _ _ _ _ _ _ (Tq18.setTop (mkF m 68 #[.val (.long x0), .second, .val (.long x1), .second, .val (.long x2), .second, .val (.long x3), .second, .val (.long (x0 &&& (9223372036854775807 : Int64))), .second, .val (.long (x1 &&& (9223372036854775807 : Int64))), .second, .val (.long (x2 &&& (9223372036854775807 : Int64))), .second, .val (.ref bq15), .val (.ref xr_q17), .unset] [(.ref xq_q17)]))
    refine Goes.via (fun _ k => XS.astore Xq18.here hx rfl (hb hby at_68) rfl rfl (l' := #[.val (.long x0), .second, .val (.long x1), .second, .val (.long x2), .second, .val (.long x3), .second, .val (.long (x0 &&& (9223372036854775807 : Int64))), .second, .val (.long (x1 &&& (9223372036854775807 : Int64))), .second, .val (.long (x2 &&& (9223372036854775807 : Int64))), .second, .val (.ref bq15), .val (.ref xr_q17), .val (.ref xq_q17)]) rfl k) ?_
    show Goes _ _ _ _ _ _ _ _ (Tq18.setTop (mkF m 70 #[.val (.long x0), .second, .val (.long x1), .second, .val (.long x2), .second, .val (.long x3), .second, .val (.long (x0 &&& (9223372036854775807 : Int64))), .second, .val (.long (x1 &&& (9223372036854775807 : Int64))), .second, .val (.long (x2 &&& (9223372036854775807 : Int64))), .second, .val (.ref bq15), .val (.ref xr_q17), .val (.ref xq_q17)] []))
    refine Goes.via (fun _ k => XS.aload Xq18.here hx rfl (hb hby at_70) rfl rfl k) ?_
    show Goes _ _ _ _ _ _ _ _ (Tq18.setTop (mkF m 72 #[.val (.long x0), .second, .val (.long x1), .second, .val (.long x2), .second, .val (.long x3), .second, .val (.long (x0 &&& (9223372036854775807 : Int64))), .second, .val (.long (x1 &&& (9223372036854775807 : Int64))), .second, .val (.long (x2 &&& (9223372036854775807 : Int64))), .second, .val (.ref bq15), .val (.ref xr_q17), .val (.ref xq_q17)] [(.ref xq_q17)]))
    refine Goes.via (fun _ k => XS.ifnullNo Xq18.here hx rfl (hb hby at_72) rfl k) ?_
    show Goes _ _ _ _ _ _ _ _ (Tq18.setTop (mkF m 75 #[.val (.long x0), .second, .val (.long x1), .second, .val (.long x2), .second, .val (.long x3), .second, .val (.long (x0 &&& (9223372036854775807 : Int64))), .second, .val (.long (x1 &&& (9223372036854775807 : Int64))), .second, .val (.long (x2 &&& (9223372036854775807 : Int64))), .second, .val (.ref bq15), .val (.ref xr_q17), .val (.ref xq_q17)] []))
    refine Goes.via (fun _ k => XS.aload Xq18.here hx rfl (hb hby at_75) rfl rfl k) ?_
    show Goes _ _ _ _ _ _ _ _ (Tq18.setTop (mkF m 77 #[.val (.long x0), .second, .val (.long x1), .second, .val (.long x2), .second, .val (.long x3), .second, .val (.long (x0 &&& (9223372036854775807 : Int64))), .second, .val (.long (x1 &&& (9223372036854775807 : Int64))), .second, .val (.long (x2 &&& (9223372036854775807 : Int64))), .second, .val (.ref bq15), .val (.ref xr_q17), .val (.ref xq_q17)] [(.ref xq_q17)]))
    obtain ⟨vq19, Tq19, Lq19, Xq19, qq19, nq19, stq19⟩ := callVi Xq18 hx hZ hown (longValue l Z aw hw xq_q17 x3 Oq17 pq17_10) (W_49 hw) (W_50 hw) (notFace_of_selects (args := #[]) (mvT hZ (W_52 hw))) (W_52 hw) (W_51 hw) (W_38 hw) (W_53 hw) (by decide) pq18_0 pq17_9 (by decide) (W := 0) (by decide) (by decide) (by decide) (g := (mkF m 77 #[.val (.long x0), .second, .val (.long x1), .second, .val (.long x2), .second, .val (.long x3), .second, .val (.long (x0 &&& (9223372036854775807 : Int64))), .second, .val (.long (x1 &&& (9223372036854775807 : Int64))), .second, .val (.long (x2 &&& (9223372036854775807 : Int64))), .second, .val (.ref bq15), .val (.ref xr_q17), .val (.ref xq_q17)] [(.ref xq_q17)])) rfl (by rw [hml]; rfl) (a := xq_q17) (argsL := []) (rest := []) rfl (lenOf pd_12 rfl) rfl (by show 2 * 0 + _ ≤ _; exact Nat.le_of_eq rfl) (hb hby at_77)
    obtain ⟨rfl, pq19_0⟩ := qq19
    have Nq19 := Fr.app Nq18 nq19
    refine Goes.via stq19 ?_
    show Goes _ _ _ _ _ _ _ _ (Tq19.setTop (mkF m 80 #[.val (.long x0), .second, .val (.long x1), .second, .val (.long x2), .second, .val (.long x3), .second, .val (.long (x0 &&& (9223372036854775807 : Int64))), .second, .val (.long (x1 &&& (9223372036854775807 : Int64))), .second, .val (.long (x2 &&& (9223372036854775807 : Int64))), .second, .val (.ref bq15), .val (.ref xr_q17), .val (.ref xq_q17)] [(.long x3)]))
    refine Goes.via (fun _ k => XT.lload Xq19.here hx rfl (hb hby at_80) rfl k) ?_
    show Goes _ _ _ _ _ _ _ _ (Tq19.setTop (mkF m 82 #[.val (.long x0), .second, .val (.long x1), .second, .val (.long x2), .second, .val (.long x3), .second, .val (.long (x0 &&& (9223372036854775807 : Int64))), .second, .val (.long (x1 &&& (9223372036854775807 : Int64))), .second, .val (.long (x2 &&& (9223372036854775807 : Int64))), .second, .val (.ref bq15), .val (.ref xr_q17), .val (.ref xq_q17)] [(.long x3), (.long x3)]))
    refine Goes.via (fun _ k => XT.lcmp Xq19.here hx rfl (hb hby at_82) rfl k) ?_
    show Goes _ _ _ _ _ _ _ _ (Tq19.setTop (mkF m 83 #[.val (.long x0), .second, .val (.long x1), .second, .val (.long x2), .second, .val (.long x3), .second, .val (.long (x0 &&& (9223372036854775807 : Int64))), .second, .val (.long (x1 &&& (9223372036854775807 : Int64))), .second, .val (.long (x2 &&& (9223372036854775807 : Int64))), .second, .val (.ref bq15), .val (.ref xr_q17), .val (.ref xq_q17)] [(.int (XT.cmpL x3 x3))]))
    refine Goes.via (fun _ k => XS.ifYes Xq19.here hx rfl (pc0 := 83) (pc' := 88) rfl (hb hby at_83) rfl (XT.ll_eq_t rfl) (by decide) (by decide) k) ?_
    show Goes _ _ _ _ _ _ _ _ (Tq19.setTop (mkF m 88 #[.val (.long x0), .second, .val (.long x1), .second, .val (.long x2), .second, .val (.long x3), .second, .val (.long (x0 &&& (9223372036854775807 : Int64))), .second, .val (.long (x1 &&& (9223372036854775807 : Int64))), .second, .val (.long (x2 &&& (9223372036854775807 : Int64))), .second, .val (.ref bq15), .val (.ref xr_q17), .val (.ref xq_q17)] []))
    refine Goes.via (fun _ k => XS.aload Xq19.here hx rfl (hb hby at_88) rfl rfl k) ?_
    show Goes _ _ _ _ _ _ _ _ (Tq19.setTop (mkF m 90 #[.val (.long x0), .second, .val (.long x1), .second, .val (.long x2), .second, .val (.long x3), .second, .val (.long (x0 &&& (9223372036854775807 : Int64))), .second, .val (.long (x1 &&& (9223372036854775807 : Int64))), .second, .val (.long (x2 &&& (9223372036854775807 : Int64))), .second, .val (.ref bq15), .val (.ref xr_q17), .val (.ref xq_q17)] [(.ref xr_q17)]))
    obtain ⟨vq20, Tq20, Lq20, Xq20, qq20, nq20, stq20⟩ := callVi Xq19 hx hZ hown (get_offset l Z aw hw xr_q17 (x0 &&& (9223372036854775807 : Int64)) Oq17 pq17_3) (W_56 hw) (W_57 hw) (notFace_of_selects (args := #[]) (mvT hZ (W_59 hw))) (W_59 hw) (W_58 hw) (W_3 hw) (W_60 hw) (by decide) pq19_0 pq17_2 (by decide) (W := 0) (by decide) (by decide) (by decide) (g := (mkF m 90 #[.val (.long x0), .second, .val (.long x1), .second, .val (.long x2), .second, .val (.long x3), .second, .val (.long (x0 &&& (9223372036854775807 : Int64))), .second, .val (.long (x1 &&& (9223372036854775807 : Int64))), .second, .val (.long (x2 &&& (9223372036854775807 : Int64))), .second, .val (.ref bq15), .val (.ref xr_q17), .val (.ref xq_q17)] [(.ref xr_q17)])) rfl (by rw [hml]; rfl) (a := xr_q17) (argsL := []) (rest := []) rfl (lenOf pd_12 rfl) rfl (by show 2 * 0 + _ ≤ _; exact Nat.le_of_eq rfl) (hb hby at_90)
    obtain ⟨rfl, pq20_0⟩ := qq20
    have Nq20 := Fr.app Nq19 nq20
    refine Goes.via stq20 ?_
    show Goes _ _ _ _ _ _ _ _ (Tq20.setTop (mkF m 93 #[.val (.long x0), .second, .val (.long x1), .second, .val (.long x2), .second, .val (.long x3), .second, .val (.long (x0 &&& (9223372036854775807 : Int64))), .second, .val (.long (x1 &&& (9223372036854775807 : Int64))), .second, .val (.long (x2 &&& (9223372036854775807 : Int64))), .second, .val (.ref bq15), .val (.ref xr_q17), .val (.ref xq_q17)] [(.long (x0 &&& (9223372036854775807 : Int64)))]))
    refine Goes.via (fun _ k => XT.lload Xq20.here hx rfl (hb hby at_93) rfl k) ?_
    show Goes _ _ _ _ _ _ _ _ (Tq20.setTop (mkF m 95 #[.val (.long x0), .second, .val (.long x1), .second, .val (.long x2), .second, .val (.long x3), .second, .val (.long (x0 &&& (9223372036854775807 : Int64))), .second, .val (.long (x1 &&& (9223372036854775807 : Int64))), .second, .val (.long (x2 &&& (9223372036854775807 : Int64))), .second, .val (.ref bq15), .val (.ref xr_q17), .val (.ref xq_q17)] [(.long (x0 &&& (9223372036854775807 : Int64))), (.long (x0 &&& (9223372036854775807 : Int64)))]))
    refine Goes.via (fun _ k => XT.lcmp Xq20.here hx rfl (hb hby at_95) rfl k) ?_
    show Goes _ _ _ _ _ _ _ _ (Tq20.setTop (mkF m 96 #[.val (.long x0), .second, .val (.long x1), .second, .val (.long x2), .second, .val (.long x3), .second, .val (.long (x0 &&& (9223372036854775807 : Int64))), .second, .val (.long (x1 &&& (9223372036854775807 : Int64))), .second, .val (.long (x2 &&& (9223372036854775807 : Int64))), .second, .val (.ref bq15), .val (.ref xr_q17), .val (.ref xq_q17)] [(.int (XT.cmpL (x0 &&& (9223372036854775807 : Int64)) (x0 &&& (9223372036854775807 : Int64))))]))
    refine Goes.via (fun _ k => XS.ifNo Xq20.here hx rfl (hb hby at_96) rfl (XT.ll_ne_f rfl) k) ?_
    show Goes _ _ _ _ _ _ _ _ (Tq20.setTop (mkF m 99 #[.val (.long x0), .second, .val (.long x1), .second, .val (.long x2), .second, .val (.long x3), .second, .val (.long (x0 &&& (9223372036854775807 : Int64))), .second, .val (.long (x1 &&& (9223372036854775807 : Int64))), .second, .val (.long (x2 &&& (9223372036854775807 : Int64))), .second, .val (.ref bq15), .val (.ref xr_q17), .val (.ref xq_q17)] []))
    refine Goes.via (fun _ k => XS.aload Xq20.here hx rfl (hb hby at_99) rfl rfl k) ?_
    show Goes _ _ _ _ _ _ _ _ (Tq20.setTop (mkF m 101 #[.val (.long x0), .second, .val (.long x1), .second, .val (.long x2), .second, .val (.long x3), .second, .val (.long (x0 &&& (9223372036854775807 : Int64))), .second, .val (.long (x1 &&& (9223372036854775807 : Int64))), .second, .val (.long (x2 &&& (9223372036854775807 : Int64))), .second, .val (.ref bq15), .val (.ref xr_q17), .val (.ref xq_q17)] [(.ref xr_q17)]))
    obtain ⟨vq21, Tq21, Lq21, Xq21, qq21, nq21, stq21⟩ := callVi Xq20 hx hZ hown (get_lineNumber l Z aw hw xr_q17 (x1 &&& (9223372036854775807 : Int64)) Oq17 pq17_4) (W_61 hw) (W_62 hw) (notFace_of_selects (args := #[]) (mvT hZ (W_64 hw))) (W_64 hw) (W_63 hw) (W_3 hw) (W_65 hw) (by decide) pq20_0 pq17_2 (by decide) (W := 0) (by decide) (by decide) (by decide) (g := (mkF m 101 #[.val (.long x0), .second, .val (.long x1), .second, .val (.long x2), .second, .val (.long x3), .second, .val (.long (x0 &&& (9223372036854775807 : Int64))), .second, .val (.long (x1 &&& (9223372036854775807 : Int64))), .second, .val (.long (x2 &&& (9223372036854775807 : Int64))), .second, .val (.ref bq15), .val (.ref xr_q17), .val (.ref xq_q17)] [(.ref xr_q17)])) rfl (by rw [hml]; rfl) (a := xr_q17) (argsL := []) (rest := []) rfl (lenOf pd_12 rfl) rfl (by show 2 * 0 + _ ≤ _; exact Nat.le_of_eq rfl) (hb hby at_101)
    obtain ⟨rfl, pq21_0⟩ := qq21
    have Nq21 := Fr.app Nq20 nq21
    refine Goes.via stq21 ?_
    show Goes _ _ _ _ _ _ _ _ (Tq21.setTop (mkF m 104 #[.val (.long x0), .second, .val (.long x1), .second, .val (.long x2), .second, .val (.long x3), .second, .val (.long (x0 &&& (9223372036854775807 : Int64))), .second, .val (.long (x1 &&& (9223372036854775807 : Int64))), .second, .val (.long (x2 &&& (9223372036854775807 : Int64))), .second, .val (.ref bq15), .val (.ref xr_q17), .val (.ref xq_q17)] [(.long (x1 &&& (9223372036854775807 : Int64)))]))
    refine Goes.via (fun _ k => XT.lload Xq21.here hx rfl (hb hby at_104) rfl k) ?_
    show Goes _ _ _ _ _ _ _ _ (Tq21.setTop (mkF m 106 #[.val (.long x0), .second, .val (.long x1), .second, .val (.long x2), .second, .val (.long x3), .second, .val (.long (x0 &&& (9223372036854775807 : Int64))), .second, .val (.long (x1 &&& (9223372036854775807 : Int64))), .second, .val (.long (x2 &&& (9223372036854775807 : Int64))), .second, .val (.ref bq15), .val (.ref xr_q17), .val (.ref xq_q17)] [(.long (x1 &&& (9223372036854775807 : Int64))), (.long (x1 &&& (9223372036854775807 : Int64)))]))
    refine Goes.via (fun _ k => XT.lcmp Xq21.here hx rfl (hb hby at_106) rfl k) ?_
    show Goes _ _ _ _ _ _ _ _ (Tq21.setTop (mkF m 107 #[.val (.long x0), .second, .val (.long x1), .second, .val (.long x2), .second, .val (.long x3), .second, .val (.long (x0 &&& (9223372036854775807 : Int64))), .second, .val (.long (x1 &&& (9223372036854775807 : Int64))), .second, .val (.long (x2 &&& (9223372036854775807 : Int64))), .second, .val (.ref bq15), .val (.ref xr_q17), .val (.ref xq_q17)] [(.int (XT.cmpL (x1 &&& (9223372036854775807 : Int64)) (x1 &&& (9223372036854775807 : Int64))))]))
    refine Goes.via (fun _ k => XS.ifNo Xq21.here hx rfl (hb hby at_107) rfl (XT.ll_ne_f rfl) k) ?_
    show Goes _ _ _ _ _ _ _ _ (Tq21.setTop (mkF m 110 #[.val (.long x0), .second, .val (.long x1), .second, .val (.long x2), .second, .val (.long x3), .second, .val (.long (x0 &&& (9223372036854775807 : Int64))), .second, .val (.long (x1 &&& (9223372036854775807 : Int64))), .second, .val (.long (x2 &&& (9223372036854775807 : Int64))), .second, .val (.ref bq15), .val (.ref xr_q17), .val (.ref xq_q17)] []))
    refine Goes.via (fun _ k => XS.aload Xq21.here hx rfl (hb hby at_110) rfl rfl k) ?_
    show Goes _ _ _ _ _ _ _ _ (Tq21.setTop (mkF m 112 #[.val (.long x0), .second, .val (.long x1), .second, .val (.long x2), .second, .val (.long x3), .second, .val (.long (x0 &&& (9223372036854775807 : Int64))), .second, .val (.long (x1 &&& (9223372036854775807 : Int64))), .second, .val (.long (x2 &&& (9223372036854775807 : Int64))), .second, .val (.ref bq15), .val (.ref xr_q17), .val (.ref xq_q17)] [(.ref xr_q17)]))
    obtain ⟨vq22, Tq22, Lq22, Xq22, qq22, nq22, stq22⟩ := callVi Xq21 hx hZ hown (get_stored l Z aw hw xr_q17 (x2 &&& (9223372036854775807 : Int64)) Oq17 pq17_5) (W_66 hw) (W_67 hw) (notFace_of_selects (args := #[]) (mvT hZ (W_69 hw))) (W_69 hw) (W_68 hw) (W_3 hw) (W_70 hw) (by decide) pq21_0 pq17_2 (by decide) (W := 0) (by decide) (by decide) (by decide) (g := (mkF m 112 #[.val (.long x0), .second, .val (.long x1), .second, .val (.long x2), .second, .val (.long x3), .second, .val (.long (x0 &&& (9223372036854775807 : Int64))), .second, .val (.long (x1 &&& (9223372036854775807 : Int64))), .second, .val (.long (x2 &&& (9223372036854775807 : Int64))), .second, .val (.ref bq15), .val (.ref xr_q17), .val (.ref xq_q17)] [(.ref xr_q17)])) rfl (by rw [hml]; rfl) (a := xr_q17) (argsL := []) (rest := []) rfl (lenOf pd_12 rfl) rfl (by show 2 * 0 + _ ≤ _; exact Nat.le_of_eq rfl) (hb hby at_112)
    obtain ⟨rfl, pq22_0⟩ := qq22
    have Nq22 := Fr.app Nq21 nq22
    refine Goes.via stq22 ?_
    show Goes _ _ _ _ _ _ _ _ (Tq22.setTop (mkF m 115 #[.val (.long x0), .second, .val (.long x1), .second, .val (.long x2), .second, .val (.long x3), .second, .val (.long (x0 &&& (9223372036854775807 : Int64))), .second, .val (.long (x1 &&& (9223372036854775807 : Int64))), .second, .val (.long (x2 &&& (9223372036854775807 : Int64))), .second, .val (.ref bq15), .val (.ref xr_q17), .val (.ref xq_q17)] [(.long (x2 &&& (9223372036854775807 : Int64)))]))
    refine Goes.via (fun _ k => XT.lload Xq22.here hx rfl (hb hby at_115) rfl k) ?_
    show Goes _ _ _ _ _ _ _ _ (Tq22.setTop (mkF m 117 #[.val (.long x0), .second, .val (.long x1), .second, .val (.long x2), .second, .val (.long x3), .second, .val (.long (x0 &&& (9223372036854775807 : Int64))), .second, .val (.long (x1 &&& (9223372036854775807 : Int64))), .second, .val (.long (x2 &&& (9223372036854775807 : Int64))), .second, .val (.ref bq15), .val (.ref xr_q17), .val (.ref xq_q17)] [(.long (x2 &&& (9223372036854775807 : Int64))), (.long (x2 &&& (9223372036854775807 : Int64)))]))
    refine Goes.via (fun _ k => XT.lcmp Xq22.here hx rfl (hb hby at_117) rfl k) ?_
    show Goes _ _ _ _ _ _ _ _ (Tq22.setTop (mkF m 118 #[.val (.long x0), .second, .val (.long x1), .second, .val (.long x2), .second, .val (.long x3), .second, .val (.long (x0 &&& (9223372036854775807 : Int64))), .second, .val (.long (x1 &&& (9223372036854775807 : Int64))), .second, .val (.long (x2 &&& (9223372036854775807 : Int64))), .second, .val (.ref bq15), .val (.ref xr_q17), .val (.ref xq_q17)] [(.int (XT.cmpL (x2 &&& (9223372036854775807 : Int64)) (x2 &&& (9223372036854775807 : Int64))))]))
    refine Goes.via (fun _ k => XS.ifYes Xq22.here hx rfl (pc0 := 118) (pc' := 123) rfl (hb hby at_118) rfl (XT.ll_eq_t rfl) (by decide) (by decide) k) ?_
    show Goes _ _ _ _ _ _ _ _ (Tq22.setTop (mkF m 123 #[.val (.long x0), .second, .val (.long x1), .second, .val (.long x2), .second, .val (.long x3), .second, .val (.long (x0 &&& (9223372036854775807 : Int64))), .second, .val (.long (x1 &&& (9223372036854775807 : Int64))), .second, .val (.long (x2 &&& (9223372036854775807 : Int64))), .second, .val (.ref bq15), .val (.ref xr_q17), .val (.ref xq_q17)] []))
    refine Goes.via (fun _ k => XS.aload Xq22.here hx rfl (hb hby at_123) rfl rfl k) ?_
    show Goes _ _ _ _ _ _ _ _ (Tq22.setTop (mkF m 125 #[.val (.long x0), .second, .val (.long x1), .second, .val (.long x2), .second, .val (.long x3), .second, .val (.long (x0 &&& (9223372036854775807 : Int64))), .second, .val (.long (x1 &&& (9223372036854775807 : Int64))), .second, .val (.long (x2 &&& (9223372036854775807 : Int64))), .second, .val (.ref bq15), .val (.ref xr_q17), .val (.ref xq_q17)] [(.ref xr_q17)]))
    obtain ⟨vq23, Tq23, Lq23, Xq23, qq23, nq23, stq23⟩ := callVi Xq22 hx hZ hown (get_tail l Z aw hw xr_q17 Oq17 pq17_6) (W_71 hw) (W_72 hw) (notFace_of_selects (args := #[]) (mvT hZ (W_74 hw))) (W_74 hw) (W_73 hw) (W_3 hw) (W_75 hw) (by decide) pq22_0 pq17_2 (by decide) (W := 0) (by decide) (by decide) (by decide) (g := (mkF m 125 #[.val (.long x0), .second, .val (.long x1), .second, .val (.long x2), .second, .val (.long x3), .second, .val (.long (x0 &&& (9223372036854775807 : Int64))), .second, .val (.long (x1 &&& (9223372036854775807 : Int64))), .second, .val (.long (x2 &&& (9223372036854775807 : Int64))), .second, .val (.ref bq15), .val (.ref xr_q17), .val (.ref xq_q17)] [(.ref xr_q17)])) rfl (by rw [hml]; rfl) (a := xr_q17) (argsL := []) (rest := []) rfl (lenOf pd_13 rfl) rfl (by show 2 * 0 + _ ≤ _; exact Nat.le_of_eq rfl) (hb hby at_125)
    obtain ⟨rfl, pq23_0⟩ := qq23
    have Nq23 := Fr.app Nq22 nq23
    refine Goes.via stq23 ?_
    show Goes _ _ _ _ _ _ _ _ (Tq23.setTop (mkF m 128 #[.val (.long x0), .second, .val (.long x1), .second, .val (.long x2), .second, .val (.long x3), .second, .val (.long (x0 &&& (9223372036854775807 : Int64))), .second, .val (.long (x1 &&& (9223372036854775807 : Int64))), .second, .val (.long (x2 &&& (9223372036854775807 : Int64))), .second, .val (.ref bq15), .val (.ref xr_q17), .val (.ref xq_q17)] [.null]))
    refine Goes.via (fun _ k => XT.ifnonnullNo Xq23.here hx rfl (hb hby at_128) rfl k) ?_
    show Goes _ _ _ _ _ _ _ _ (Tq23.setTop (mkF m 131 #[.val (.long x0), .second, .val (.long x1), .second, .val (.long x2), .second, .val (.long x3), .second, .val (.long (x0 &&& (9223372036854775807 : Int64))), .second, .val (.long (x1 &&& (9223372036854775807 : Int64))), .second, .val (.long (x2 &&& (9223372036854775807 : Int64))), .second, .val (.ref bq15), .val (.ref xr_q17), .val (.ref xq_q17)] []))
    refine Goes.via (fun _ k => XS.aload Xq23.here hx rfl (hb hby at_131) rfl rfl k) ?_
    show Goes _ _ _ _ _ _ _ _ (Tq23.setTop (mkF m 133 #[.val (.long x0), .second, .val (.long x1), .second, .val (.long x2), .second, .val (.long x3), .second, .val (.long (x0 &&& (9223372036854775807 : Int64))), .second, .val (.long (x1 &&& (9223372036854775807 : Int64))), .second, .val (.long (x2 &&& (9223372036854775807 : Int64))), .second, .val (.ref bq15), .val (.ref xr_q17), .val (.ref xq_q17)] [(.ref xr_q17)]))
    obtain ⟨vq24, Tq24, Lq24, Xq24, qq24, nq24, stq24⟩ := callVi Xq23 hx hZ hown (get_batchTime l Z aw hw xr_q17 Oq17 pq17_8) (W_76 hw) (W_77 hw) (notFace_of_selects (args := #[]) (mvT hZ (W_79 hw))) (W_79 hw) (W_78 hw) (W_3 hw) (W_80 hw) (by decide) pq23_0 pq17_2 (by decide) (W := 0) (by decide) (by decide) (by decide) (g := (mkF m 133 #[.val (.long x0), .second, .val (.long x1), .second, .val (.long x2), .second, .val (.long x3), .second, .val (.long (x0 &&& (9223372036854775807 : Int64))), .second, .val (.long (x1 &&& (9223372036854775807 : Int64))), .second, .val (.long (x2 &&& (9223372036854775807 : Int64))), .second, .val (.ref bq15), .val (.ref xr_q17), .val (.ref xq_q17)] [(.ref xr_q17)])) rfl (by rw [hml]; rfl) (a := xr_q17) (argsL := []) (rest := []) rfl (lenOf pd_11 rfl) rfl (by show 2 * 0 + _ ≤ _; exact Nat.le_of_eq rfl) (hb hby at_133)
    obtain ⟨rfl, pq24_0⟩ := qq24
    have Nq24 := Fr.app Nq23 nq24
    refine Goes.via stq24 ?_
    show Goes _ _ _ _ _ _ _ _ (Tq24.setTop (mkF m 136 #[.val (.long x0), .second, .val (.long x1), .second, .val (.long x2), .second, .val (.long x3), .second, .val (.long (x0 &&& (9223372036854775807 : Int64))), .second, .val (.long (x1 &&& (9223372036854775807 : Int64))), .second, .val (.long (x2 &&& (9223372036854775807 : Int64))), .second, .val (.ref bq15), .val (.ref xr_q17), .val (.ref xq_q17)] [.null]))
    refine Goes.via (fun _ k => XS.ifnullYes Xq24.here hx rfl (pc0 := 136) (pc' := 141) rfl (hb hby at_136) rfl (by decide) (by decide) k) ?_
    show Goes _ _ _ _ _ _ _ _ (Tq24.setTop (mkF m 141 #[.val (.long x0), .second, .val (.long x1), .second, .val (.long x2), .second, .val (.long x3), .second, .val (.long (x0 &&& (9223372036854775807 : Int64))), .second, .val (.long (x1 &&& (9223372036854775807 : Int64))), .second, .val (.long (x2 &&& (9223372036854775807 : Int64))), .second, .val (.ref bq15), .val (.ref xr_q17), .val (.ref xq_q17)] []))
    refine Goes.via (fun _ k => XS.aload Xq24.here hx rfl (hb hby at_141) rfl rfl k) ?_
    show Goes _ _ _ _ _ _ _ _ (Tq24.setTop (mkF m 143 #[.val (.long x0), .second, .val (.long x1), .second, .val (.long x2), .second, .val (.long x3), .second, .val (.long (x0 &&& (9223372036854775807 : Int64))), .second, .val (.long (x1 &&& (9223372036854775807 : Int64))), .second, .val (.long (x2 &&& (9223372036854775807 : Int64))), .second, .val (.ref bq15), .val (.ref xr_q17), .val (.ref xq_q17)] [(.ref bq15)]))
    have fq25 : Fld Z Tq17.heap bq15 "com/example/trailkeep/trailkeep/journal/InputPosition" "born" "Ljava/lang/Long;" .null := (pq16_6.keep pq17_1 nin0)
    have fq27 : Exa Z Tq17.heap bq15 "com/example/trailkeep/trailkeep/journal/InputPosition" := (pq16_1.keep pq17_1)
    obtain ⟨vq26, Tq26, Lq26, Xq26, qq26, nq26, stq26⟩ := callVi Xq24 hx hZ hown (get_bornN l Z aw hw bq15 Oq17 fq25) (W_44 hw) (W_45 hw) (notFace_of_selects (args := #[]) (mvT hZ (W_47 hw))) (W_47 hw) (W_46 hw) (W_3 hw) (W_48 hw) (by decide) pq24_0 fq27 (by decide) (W := 0) (by decide) (by decide) (by decide) (g := (mkF m 143 #[.val (.long x0), .second, .val (.long x1), .second, .val (.long x2), .second, .val (.long x3), .second, .val (.long (x0 &&& (9223372036854775807 : Int64))), .second, .val (.long (x1 &&& (9223372036854775807 : Int64))), .second, .val (.long (x2 &&& (9223372036854775807 : Int64))), .second, .val (.ref bq15), .val (.ref xr_q17), .val (.ref xq_q17)] [(.ref bq15)])) rfl (by rw [hml]; rfl) (a := bq15) (argsL := []) (rest := []) rfl (lenOf pd_11 rfl) rfl (by show 2 * 0 + _ ≤ _; exact Nat.le_of_eq rfl) (hb hby at_143)
    obtain ⟨rfl, pq26_0⟩ := qq26
    have Nq26 := Fr.app Nq24 nq26
    refine Goes.via stq26 ?_
    show Goes _ _ _ _ _ _ _ _ (Tq26.setTop (mkF m 146 #[.val (.long x0), .second, .val (.long x1), .second, .val (.long x2), .second, .val (.long x3), .second, .val (.long (x0 &&& (9223372036854775807 : Int64))), .second, .val (.long (x1 &&& (9223372036854775807 : Int64))), .second, .val (.long (x2 &&& (9223372036854775807 : Int64))), .second, .val (.ref bq15), .val (.ref xr_q17), .val (.ref xq_q17)] [.null]))
    refine Goes.via (fun _ k => XT.ifnonnullNo Xq26.here hx rfl (hb hby at_146) rfl k) ?_
    show Goes _ _ _ _ _ _ _ _ (Tq26.setTop (mkF m 149 #[.val (.long x0), .second, .val (.long x1), .second, .val (.long x2), .second, .val (.long x3), .second, .val (.long (x0 &&& (9223372036854775807 : Int64))), .second, .val (.long (x1 &&& (9223372036854775807 : Int64))), .second, .val (.long (x2 &&& (9223372036854775807 : Int64))), .second, .val (.ref bq15), .val (.ref xr_q17), .val (.ref xq_q17)] []))
    refine Goes.via (fun _ k => XT.iconstV Xq26.here hx rfl (1 : Int32) (hb hby at_149) (by decide) k) ?_
    show Goes _ _ _ _ _ _ _ _ (Tq26.setTop (mkF m 150 #[.val (.long x0), .second, .val (.long x1), .second, .val (.long x2), .second, .val (.long x3), .second, .val (.long (x0 &&& (9223372036854775807 : Int64))), .second, .val (.long (x1 &&& (9223372036854775807 : Int64))), .second, .val (.long (x2 &&& (9223372036854775807 : Int64))), .second, .val (.ref bq15), .val (.ref xr_q17), .val (.ref xq_q17)] [(.int (1 : Int32))]))
    refine Goes.via (fun _ k => XS.goto Xq26.here hx rfl (pc0 := 150) (pc' := 154) rfl (hb hby at_150) (by decide) (by decide) k) ?_
    show Goes _ _ _ _ _ _ _ _ (Tq26.setTop (mkF m 154 #[.val (.long x0), .second, .val (.long x1), .second, .val (.long x2), .second, .val (.long x3), .second, .val (.long (x0 &&& (9223372036854775807 : Int64))), .second, .val (.long (x1 &&& (9223372036854775807 : Int64))), .second, .val (.long (x2 &&& (9223372036854775807 : Int64))), .second, .val (.ref bq15), .val (.ref xr_q17), .val (.ref xq_q17)] [(.int (1 : Int32))]))
    refine goRetN Xq26 hx hrt (by simp) hlk Nq26 (by decide) (by decide) (hb hby at_154) ?_
    try rw [pq26_0]
    exact rfl
set_option maxRecDepth 65536 in
set_option maxHeartbeats 40000000 in
theorem comes_1 {Post : Tables → Env → Array Value → State → Outcome → State → Prop} (hpost : ∀ tb e args s v u, (limb_1_1.after args s (.returned v) u = true ∧ limb_1_2.after args s (.returned v) u = true ∧ True) → FrameEnd s (.returned v) u (Jvm.fieldLocs frame_1_writes args s ++ Jvm.arrayLocs frame_1_arrays args s ++ Jvm.staticLocs frame_1_statics s) 16 128 → Post tb e args s (.returned v) u) :
    ArmFor flags0 classFile x code maxLocals ret World_1 tables_1 room_1 Calls_1 rest_1 Pre_1 Post := by
  intro l hfl _ _ p e ha hc hk s m args below hf hA hF happ hP
  obtain ⟨hcalls, hrest, hpre⟩ := hP
  obtain ⟨-, -, -, hnamed, -, -, -, hat⟩ := (Spec.applies_iff hf).mp happ
  obtain ⟨hg, hn⟩ := and_e (Cond.before_iff.mp (show (Jvm.Cond.and given_1 narrow_1).before args s = true from hpre))
  obtain ⟨hcnt, ha0⟩ := and_e hg
  obtain ⟨hk0, ha1⟩ := and_e ha0
  obtain ⟨hk1, ha2⟩ := and_e ha1
  obtain ⟨hk2, ha3⟩ := and_e ha2
  have hk3 := ha3
  obtain ⟨w0, w1, w2, w3, rfl⟩ : ∃ w0 w1 w2 w3 : Value, args = #[w0, w1, w2, w3] := by
    have hs : args.size = 4 := by simpa [Cond.value, given_1] using hcnt
    obtain ⟨L⟩ := args
    match L, hs with
    | [w0, w1, w2, w3], _ => exact ⟨w0, w1, w2, w3, rfl⟩
  have hw := fun d (hd : d ∈ tables_1) => atoms_spec (ws := Jvm.Cond.code x code maxLocals ret :: tables_1) hat d (List.mem_cons_of_mem _ hd)
  obtain ⟨hsets, hown0⟩ := atoms_of _ (rest_1_c_eq ▸ (show rest_1_c.before _ s = true from hrest))
  have hfit : Fit s := fun {y c} hc i hi => by
    obtain ⟨ha, rfl⟩ := Array.getElem?_eq_some_iff.mp hc
    have q := List.all_eq_true.mp ((Array.all_eq_true_iff_forall_mem.mp hF) _ (Array.getElem_mem ha)) i (List.mem_range.mpr hi)
    simpa [Array.getElem?_eq_getElem hi] using q
  obtain ⟨i0, ei0⟩ := isL_v hk0
  obtain rfl : w0 = (.long i0) := Option.some.inj ei0
  obtain ⟨i1, ei1⟩ := isL_v hk1
  obtain rfl : w1 = (.long i1) := Option.some.inj ei1
  obtain ⟨i2, ei2⟩ := isL_v hk2
  obtain rfl : w2 = (.long i2) := Option.some.inj ei2
  obtain ⟨i3, ei3⟩ := isL_v hk3
  obtain rfl : w3 = (.long i3) := Option.some.inj ei3
  obtain ⟨ar, ear⟩ := arr_v (Cond.before_iff.mp (hsets _ (List.mem_of_getElem? (i := 2) rfl)))
  have S0 := Sta.start ear (Or.inl (hsets _ (List.mem_of_getElem? (i := 1) rfl)))
  obtain ⟨c0, A0⟩ := Arr.start ear (Cond.before_iff.mp (hsets _ (List.mem_of_getElem? (i := 2) rfl)))
  obtain ⟨z1, z2⟩ := len_start ear A0 (Cond.before_iff.mp (hsets _ (List.mem_of_getElem? (i := 4) rfl)))
  have Sz : c0.slots.size = (256 : Int32).toNatClampNeg := by rw [← z2]; simp only [Int32.toNatClampNeg, len_toInt z1]; rfl
  have hall := Cond.all_elim ear (A0.fin (Vm.Alike.refl _)) (Cond.before_iff.mp (hsets _ (List.mem_of_getElem? (i := 5) rfl)))
  have CH : ∀ j : Int32, ¬ j < 0 → j < (256 : Int32) → ∃ r, c0.slots[j.toNatClampNeg]? = some (.ref r) ∧ Exa s s.heap r "java/lang/Long" ∧ Fld s s.heap r "java/lang/Long" "value" "J" (.long (j - (128 : Int32)).toInt64) := by
    intro j hj1 hj2
    have hj : j.toNatClampNeg < c0.slots.size := by
      have q := inb_of Sz ⟨hj1, hj2⟩
      exact Nat.lt_of_not_le fun y => q (Or.inr y)
    obtain ⟨g1, g2⟩ := and_e (hall _ hj)
    obtain ⟨r, er⟩ := exa_v g1
    obtain ⟨v, y, e1, e2, k1, k2⟩ := cmp_v (Or.inl g2)
    have ei : (Term.index 0).eval #[.long i0, .long i1, .long i2, .long i3] s none [j.toNatClampNeg] s = some (.int j) := idx_at hj1
    have e3 : Term.eval #[.long i0, .long i1, .long i2, .long i3] s none [j.toNatClampNeg] s (.op1 .i2l (.sub (.index 0) (.int (128 : Int32)))) = some (.long (j - (128 : Int32)).toInt64) := by
      rw [op1_f (x := .int (j - (128 : Int32)))]
      · rfl
      · simp [Term.eval, ei] at ei ⊢
        rw [ei]
    cases e3.symm.trans e2
    obtain ⟨u, rfl⟩ := k2
    have e4 := gotT (eq_L e1 e2) g2
    rw [e4] at e1
    exact ⟨r, (elem_in er ear ei A0.1).2, exa_at er g1, Fld.start ((fld_at er).symm.trans e1)⟩
  obtain ⟨n, o, h1, h2, h3, _, L, rfl, ⟨rfl, N⟩, hq⟩ := law l s _ hw i0 i1 i2 i3 ar c0 (Old.start s) S0 A0 Sz CH tables_1 p e ha hc hk s m _ below hf ((Spec.applies_iff_loose hf).mp happ).1 ⟨rfl, State.Warmed39.refl s, rfl⟩ trivial
  refine ⟨n, _, h1, h2, h3, hpost _ _ _ _ _ _ ⟨Cond.after_iff.mpr rfl, Cond.after_iff.mpr (eq_i res_at (Term.int_eval (1)) rfl), trivial⟩ ⟨hq.1, hq.2.1, (hq.2.2.sift fun y hy => Or.inr (N y hy)).mono (by decide) (by decide)⟩⟩
theorem main_1_1 : Claimed_1_1 := comes_1 fun _ _ _ _ _ _ h hF => ⟨h.1, hF⟩
theorem main_1_2 : Claimed_1_2 := comes_1 fun _ _ _ _ _ _ h hF => ⟨h.2.1, hF⟩

end Jvm.Pilot.@@N@@
namespace Jvm.Pilot.@@N@@
open Jvm Jvm.ClassFile Sem Op Lib Jvm.Free Jvm.Stand Jvm.Pilot.@@N@@.Jvm.D
/-! MADE BY PROGRAM (witnessworld.py) out of the Statement's table words and the real class files: 15 classes; the members and pool entries that the words name. The judged class is class 1, her method 1. -/
namespace start1
open Jvm.ClassFile
def u (s : String) : CpInfo := .utf8 (stringToUtf16 s)
/-- a pool by its gaps: so many unusable entries, then the entry; so many at the end -/
def gap : Nat → List CpInfo → List CpInfo
  | 0, r => r
  | n + 1, r => .unusable :: gap n r
def poolList (es : List (Nat × CpInfo)) (last : Nat) : List CpInfo := es.foldr (fun e r => gap e.1 (e.2 :: r)) (gap last [])
def pool (es : List (Nat × CpInfo)) (last : Nat) : Array CpInfo := ⟨poolList es last⟩
def fileOf (pool : Array CpInfo) (this : Nat) (attrs : Array Attribute := #[]) (ms : Array MethodInfo := #[]) (fl : Nat := 33) (sup : Nat := 0) (ifs : Array Nat := #[]) (fds : Array FieldInfo := #[]) : ClassFile where
  minorVersion := 0
  majorVersion := 65
  constantPool := pool
  accessFlags := fl
  thisClass := this
  superClass := sup
  interfaces := ifs
  fields := fds
  methods := ms
  attributes := attrs
def plain (name : String) (sup : Option ClassId) : Class where
  name := name
  kind := .ordinary
  loader := none
  accessFlags := 33
  super := sup
  interfaces := #[]
  cf := none
  fields := #[]
  methods := #[]
  instanceTypes := #[]
  staticTypes := #[]
  resolved := #[]
  callSites := []
  init := .initialized
  statics := none
  mirror := none

def pool0 : Array CpInfo := pool [(5, u "<init>"), (0, u "()V"), (1, .class_ 10), (1, u "java/lang/Object")] 113

def k0c0 : Code := { maxStack := 0, maxLocals := 1, code := object_method_1_code, exceptionTable := #[], attributes := #[] }
def k0m0 : Method := { name := "<init>", desc := "()V", sig := { parameters := [], returnType := none }, accessFlags := 1, code := some k0c0 }
/-- java/lang/Object -/
def k0 : Class := { plain "java/lang/Object" none with
  accessFlags := 33
  interfaces := #[]
  cf := some (fileOf pool0 8 #[] #[{ accessFlags := 1, nameIndex := 5, descriptorIndex := 6, attributes := #[] }] 33 0 #[] #[])
  fields := #[]
  methods := #[k0m0]
  instanceTypes := #[]
  staticTypes := #[]
  resolved := Array.replicate 124 none
  statics := none }

def pool1 : Array CpInfo := pool [(2, .class_ 4), (1, u "java/lang/Object"), (0, u "<init>"), (0, u "()V"), (0, .class_ 8), (0, u "java/lang/Long"), (0, .long 9223372036854775807), (1, .class_ 12), (0, u "com/example/trailkeep/trailkeep/journal/InputPosition"), (0, .methodref 11 14), (0, .nameAndType 5 15), (0, u "(JJJ)V"), (0, .methodref 11 17), (0, .nameAndType 18 19), (0, u "withBorn"), (0, u "(J)Lcom/example/trailkeep/trailkeep/journal/InputPosition;"), (0, .methodref 11 21), (0, .nameAndType 22 23), (0, u "born"), (0, u "()Ljava/lang/Long;"), (0, .methodref 7 25), (0, .nameAndType 26 27), (0, u "longValue"), (0, u "()J"), (0, .methodref 11 29), (0, .nameAndType 30 27), (0, u "offset"), (0, .methodref 11 32), (0, .nameAndType 33 27), (0, u "lineNumber"), (0, .methodref 11 35), (0, .nameAndType 36 27), (0, u "stored"), (0, .methodref 11 38), (0, .nameAndType 39 40), (0, u "tail"), (0, u "()Ljava/util/UUID;"), (0, .methodref 11 42), (0, .nameAndType 43 23), (0, u "batchTime"), (0, .class_ 45), (0, u "com/example/trailkeep/trailkeep/journal/InputPositionWithBornPinLaw"), (2, u "law"), (0, u "(JJJJ)Z")] 3

def k1m0 : Method := { name := "<init>", desc := "()V", sig := { parameters := [], returnType := none }, accessFlags := 1, code := none }
def k1c1 : Code := { maxStack := 8, maxLocals := 17, code := code, exceptionTable := #[], attributes := #[] }
def k1m1 : Method := { name := "law", desc := "(JJJJ)Z", sig := { parameters := [.long, .long, .long, .long], returnType := some .boolean }, accessFlags := 9, code := some k1c1 }
/-- com/example/trailkeep/trailkeep/journal/InputPositionWithBornPinLaw -/
def k1 : Class := { plain "com/example/trailkeep/trailkeep/journal/InputPositionWithBornPinLaw" (some 0) with
  accessFlags := 49
  interfaces := #[]
  cf := some (fileOf pool1 44 #[] #[{ accessFlags := 1, nameIndex := 5, descriptorIndex := 6, attributes := #[] }, { accessFlags := 9, nameIndex := 48, descriptorIndex := 49, attributes := #[] }] 49 2 #[] #[])
  fields := #[]
  methods := #[k1m0, k1m1]
  instanceTypes := #[]
  staticTypes := #[]
  resolved := Array.replicate 53 none
  statics := none }

def pool2 : Array CpInfo := pool [(1, .methodref 2 3), (0, .class_ 4), (0, .nameAndType 5 6), (0, u "java/lang/Object"), (0, u "<init>"), (0, u "()V"), (0, .class_ 8), (0, u "java/lang/Record")] 13

def k2c0 : Code := { maxStack := 1, maxLocals := 1, code := jdk_30_method_1_code, exceptionTable := #[], attributes := #[] }
def k2m0 : Method := { name := "<init>", desc := "()V", sig := { parameters := [], returnType := none }, accessFlags := 4, code := some k2c0 }
/-- java/lang/Record -/
def k2 : Class := { plain "java/lang/Record" (some 0) with
  accessFlags := 1057
  interfaces := #[]
  cf := some (fileOf pool2 7 #[] #[{ accessFlags := 4, nameIndex := 5, descriptorIndex := 6, attributes := #[] }] 1057 2 #[] #[])
  fields := #[]
  methods := #[k2m0]
  instanceTypes := #[]
  staticTypes := #[]
  resolved := Array.replicate 22 none
  statics := none }

def pool3 : Array CpInfo := pool [(1, .methodref 2 3), (0, .class_ 4), (0, .nameAndType 5 6), (0, u "java/lang/Record"), (0, u "<init>"), (0, u "()V"), (34, .fieldref 42 43), (0, .class_ 44), (0, .nameAndType 45 46), (0, u "com/example/trailkeep/trailkeep/journal/InputPosition"), (0, u "offset"), (0, u "J"), (0, .fieldref 42 48), (0, .nameAndType 49 46), (0, u "lineNumber"), (0, .fieldref 42 51), (0, .nameAndType 52 46), (0, u "stored"), (0, .fieldref 42 54), (0, .nameAndType 55 56), (0, u "tail"), (0, u "Ljava/util/UUID;"), (0, .fieldref 42 58), (0, .nameAndType 59 60), (0, u "born"), (0, u "Ljava/lang/Long;"), (0, .fieldref 42 62), (0, .nameAndType 63 60), (0, u "batchTime"), (0, .methodref 42 65), (0, .nameAndType 5 66), (0, u "(JJJLjava/util/UUID;Ljava/lang/Long;Ljava/lang/Long;)V"), (0, .methodref 68 69), (0, .class_ 70), (0, .nameAndType 71 72), (0, u "java/lang/Long"), (0, u "valueOf"), (0, u "(J)Ljava/lang/Long;"), (13, u "(JJJ)V"), (2, u "START"), (0, u "Lcom/example/trailkeep/trailkeep/journal/InputPosition;"), (10, u "withBorn"), (0, u "(J)Lcom/example/trailkeep/trailkeep/journal/InputPosition;"), (1, u "()J"), (2, u "()Ljava/util/UUID;"), (0, u "()Ljava/lang/Long;")] 26

def k3c0 : Code := { maxStack := 5, maxLocals := 10, code := prog_2_method_1_code, exceptionTable := #[], attributes := #[] }
def k3m0 : Method := { name := "<init>", desc := "(JJJLjava/util/UUID;Ljava/lang/Long;Ljava/lang/Long;)V", sig := { parameters := [.long, .long, .long, (.object "java/util/UUID"), (.object "java/lang/Long"), (.object "java/lang/Long")], returnType := none }, accessFlags := 1, code := some k3c0 }
def k3c1 : Code := { maxStack := 10, maxLocals := 7, code := prog_2_method_2_code, exceptionTable := #[], attributes := #[] }
def k3m1 : Method := { name := "<init>", desc := "(JJJ)V", sig := { parameters := [.long, .long, .long], returnType := none }, accessFlags := 1, code := some k3c1 }
def k3c2 : Code := { maxStack := 11, maxLocals := 3, code := prog_2_method_5_code, exceptionTable := #[], attributes := #[] }
def k3m2 : Method := { name := "withBorn", desc := "(J)Lcom/example/trailkeep/trailkeep/journal/InputPosition;", sig := { parameters := [.long], returnType := some (.object "com/example/trailkeep/trailkeep/journal/InputPosition") }, accessFlags := 1, code := some k3c2 }
def k3c3 : Code := { maxStack := 2, maxLocals := 1, code := prog_2_method_10_code, exceptionTable := #[], attributes := #[] }
def k3m3 : Method := { name := "offset", desc := "()J", sig := { parameters := [], returnType := some .long }, accessFlags := 1, code := some k3c3 }
def k3c4 : Code := { maxStack := 2, maxLocals := 1, code := prog_2_method_11_code, exceptionTable := #[], attributes := #[] }
def k3m4 : Method := { name := "lineNumber", desc := "()J", sig := { parameters := [], returnType := some .long }, accessFlags := 1, code := some k3c4 }
def k3c5 : Code := { maxStack := 2, maxLocals := 1, code := prog_2_method_12_code, exceptionTable := #[], attributes := #[] }
def k3m5 : Method := { name := "stored", desc := "()J", sig := { parameters := [], returnType := some .long }, accessFlags := 1, code := some k3c5 }
def k3c6 : Code := { maxStack := 1, maxLocals := 1, code := prog_2_method_13_code, exceptionTable := #[], attributes := #[] }
def k3m6 : Method := { name := "tail", desc := "()Ljava/util/UUID;", sig := { parameters := [], returnType := some (.object "java/util/UUID") }, accessFlags := 1, code := some k3c6 }
def k3c7 : Code := { maxStack := 1, maxLocals := 1, code := prog_2_method_14_code, exceptionTable := #[], attributes := #[] }
def k3m7 : Method := { name := "born", desc := "()Ljava/lang/Long;", sig := { parameters := [], returnType := some (.object "java/lang/Long") }, accessFlags := 1, code := some k3c7 }
def k3c8 : Code := { maxStack := 1, maxLocals := 1, code := prog_2_method_15_code, exceptionTable := #[], attributes := #[] }
def k3m8 : Method := { name := "batchTime", desc := "()Ljava/lang/Long;", sig := { parameters := [], returnType := some (.object "java/lang/Long") }, accessFlags := 1, code := some k3c8 }
/-- com/example/trailkeep/trailkeep/journal/InputPosition -/
def k3 : Class := { plain "com/example/trailkeep/trailkeep/journal/InputPosition" (some 2) with
  accessFlags := 49
  interfaces := #[]
  cf := some (fileOf pool3 42 #[] #[{ accessFlags := 1, nameIndex := 5, descriptorIndex := 66, attributes := #[] }, { accessFlags := 1, nameIndex := 5, descriptorIndex := 86, attributes := #[] }, { accessFlags := 1, nameIndex := 101, descriptorIndex := 102, attributes := #[] }, { accessFlags := 1, nameIndex := 45, descriptorIndex := 104, attributes := #[] }, { accessFlags := 1, nameIndex := 49, descriptorIndex := 104, attributes := #[] }, { accessFlags := 1, nameIndex := 52, descriptorIndex := 104, attributes := #[] }, { accessFlags := 1, nameIndex := 55, descriptorIndex := 107, attributes := #[] }, { accessFlags := 1, nameIndex := 59, descriptorIndex := 108, attributes := #[] }, { accessFlags := 1, nameIndex := 63, descriptorIndex := 108, attributes := #[] }] 49 2 #[] #[{ accessFlags := 18, nameIndex := 45, descriptorIndex := 46, attributes := #[] }, { accessFlags := 18, nameIndex := 49, descriptorIndex := 46, attributes := #[] }, { accessFlags := 18, nameIndex := 52, descriptorIndex := 46, attributes := #[] }, { accessFlags := 18, nameIndex := 55, descriptorIndex := 56, attributes := #[] }, { accessFlags := 18, nameIndex := 59, descriptorIndex := 60, attributes := #[] }, { accessFlags := 18, nameIndex := 63, descriptorIndex := 60, attributes := #[] }, { accessFlags := 25, nameIndex := 89, descriptorIndex := 90, attributes := #[] }])
  fields := #[{ name := "offset", type := .long, accessFlags := 18, slot := 0, constantValue := 0 }, { name := "lineNumber", type := .long, accessFlags := 18, slot := 1, constantValue := 0 }, { name := "stored", type := .long, accessFlags := 18, slot := 2, constantValue := 0 }, { name := "tail", type := (.object "java/util/UUID"), accessFlags := 18, slot := 3, constantValue := 0 }, { name := "born", type := (.object "java/lang/Long"), accessFlags := 18, slot := 4, constantValue := 0 }, { name := "batchTime", type := (.object "java/lang/Long"), accessFlags := 18, slot := 5, constantValue := 0 }, { name := "START", type := (.object "com/example/trailkeep/trailkeep/journal/InputPosition"), accessFlags := 25, slot := 0, constantValue := 0 }]
  methods := #[k3m0, k3m1, k3m2, k3m3, k3m4, k3m5, k3m6, k3m7, k3m8]
  instanceTypes := #[.long, .long, .long, (.object "java/util/UUID"), (.object "java/lang/Long"), (.object "java/lang/Long")]
  staticTypes := #[(.object "com/example/trailkeep/trailkeep/journal/InputPosition")]
  resolved := Array.replicate 135 none
  statics := none }

def pool4 : Array CpInfo := pool [(1, .class_ 2), (0, u "java/io/Serializable"), (0, .class_ 4), (0, u "java/lang/Object")] 2

/-- java/io/Serializable -/
def k4 : Class := { plain "java/io/Serializable" (some 0) with
  accessFlags := 1537
  interfaces := #[]
  cf := some (fileOf pool4 1 #[] #[] 1537 3 #[] #[])
  fields := #[]
  methods := #[]
  instanceTypes := #[]
  staticTypes := #[]
  resolved := Array.replicate 7 none
  statics := none }

def pool5 : Array CpInfo := pool [(1, .methodref 2 3), (0, .class_ 4), (0, .nameAndType 5 6), (0, u "java/lang/Object"), (0, u "<init>"), (0, u "()V"), (1, .class_ 10), (1, u "java/lang/Number"), (2, .class_ 14), (0, u "java/io/Serializable"), (0, u "serialVersionUID"), (0, u "J")] 20

def k5c0 : Code := { maxStack := 1, maxLocals := 1, code := jdk_18_method_1_code, exceptionTable := #[], attributes := #[] }
def k5m0 : Method := { name := "<init>", desc := "()V", sig := { parameters := [], returnType := none }, accessFlags := 1, code := some k5c0 }
/-- java/lang/Number -/
def k5 : Class := { plain "java/lang/Number" (some 0) with
  accessFlags := 1057
  interfaces := #[4]
  cf := some (fileOf pool5 8 #[] #[{ accessFlags := 1, nameIndex := 5, descriptorIndex := 6, attributes := #[] }] 1057 2 #[13] #[{ accessFlags := 26, nameIndex := 15, descriptorIndex := 16, attributes := #[] }])
  fields := #[{ name := "serialVersionUID", type := .long, accessFlags := 26, slot := 0, constantValue := 0 }]
  methods := #[k5m0]
  instanceTypes := #[]
  staticTypes := #[.long]
  resolved := Array.replicate 37 none
  statics := none }

def pool6 : Array CpInfo := pool [(1, .class_ 2), (0, u "java/lang/Comparable"), (0, .class_ 4), (0, u "java/lang/Object")] 7

/-- java/lang/Comparable -/
def k6 : Class := { plain "java/lang/Comparable" (some 0) with
  accessFlags := 1537
  interfaces := #[]
  cf := some (fileOf pool6 1 #[] #[] 1537 3 #[] #[])
  fields := #[]
  methods := #[]
  instanceTypes := #[]
  staticTypes := #[]
  resolved := Array.replicate 12 none
  statics := none }

def pool7 : Array CpInfo := pool [(1, .class_ 2), (0, u "java/lang/constant/Constable"), (0, .class_ 4), (0, u "java/lang/Object")] 6

/-- java/lang/constant/Constable -/
def k7 : Class := { plain "java/lang/constant/Constable" (some 0) with
  accessFlags := 1537
  interfaces := #[]
  cf := some (fileOf pool7 1 #[] #[] 1537 3 #[] #[])
  fields := #[]
  methods := #[]
  instanceTypes := #[]
  staticTypes := #[]
  resolved := Array.replicate 11 none
  statics := none }

def pool8 : Array CpInfo := pool [(1, .class_ 2), (0, u "java/lang/constant/ConstantDesc"), (0, .class_ 4), (0, u "java/lang/Object")] 32

/-- java/lang/constant/ConstantDesc -/
def k8 : Class := { plain "java/lang/constant/ConstantDesc" (some 0) with
  accessFlags := 1537
  interfaces := #[]
  cf := some (fileOf pool8 1 #[] #[] 1537 3 #[] #[])
  fields := #[]
  methods := #[]
  instanceTypes := #[]
  staticTypes := #[]
  resolved := Array.replicate 37 none
  statics := none }

def pool9 : Array CpInfo := pool [(1, .class_ 2), (0, u "java/lang/Long"), (55, .nameAndType 59 60), (0, u "<init>"), (0, u "()V"), (24, u "valueOf"), (143, u "(J)Ljava/lang/Long;"), (0, .long 18446744073709551488), (1, .long 127), (1, .fieldref 235 236), (0, .class_ 237), (0, .nameAndType 238 239), (0, u "java/lang/Long$LongCache"), (0, u "cache"), (0, u "[Ljava/lang/Long;"), (0, .methodref 1 241), (0, .nameAndType 59 242), (0, u "(J)V"), (27, .methodref 271 58), (0, .class_ 272), (0, u "java/lang/Number"), (0, .fieldref 1 274), (0, .nameAndType 275 276), (0, u "value"), (0, u "J"), (5, u "longValue"), (0, u "()J"), (77, u "TYPE"), (0, u "Ljava/lang/Class;"), (0, .class_ 364), (0, u "java/lang/Comparable"), (0, .class_ 366), (0, u "java/lang/constant/Constable"), (0, .class_ 368), (0, u "java/lang/constant/ConstantDesc"), (0, u "MIN_VALUE"), (1, u "MAX_VALUE"), (4, u "SIZE"), (0, u "I"), (1, u "BYTES"), (1, u "serialVersionUID")] 142

def k9c0 : Code := { maxStack := 4, maxLocals := 3, code := jdk_35_method_24_code, exceptionTable := #[], attributes := #[] }
def k9m0 : Method := { name := "valueOf", desc := "(J)Ljava/lang/Long;", sig := { parameters := [.long], returnType := some (.object "java/lang/Long") }, accessFlags := 9, code := some k9c0 }
def k9c1 : Code := { maxStack := 3, maxLocals := 3, code := jdk_35_method_26_code, exceptionTable := #[], attributes := #[] }
def k9m1 : Method := { name := "<init>", desc := "(J)V", sig := { parameters := [.long], returnType := none }, accessFlags := 1, code := some k9c1 }
def k9c2 : Code := { maxStack := 2, maxLocals := 1, code := jdk_35_method_31_code, exceptionTable := #[], attributes := #[] }
def k9m2 : Method := { name := "longValue", desc := "()J", sig := { parameters := [], returnType := some .long }, accessFlags := 1, code := some k9c2 }
/-- java/lang/Long -/
def k9 : Class := { plain "java/lang/Long" (some 5) with
  accessFlags := 49
  interfaces := #[6, 7, 8]
  cf := some (fileOf pool9 1 #[.nestMembers #[235]] #[{ accessFlags := 9, nameIndex := 85, descriptorIndex := 229, attributes := #[] }, { accessFlags := 1, nameIndex := 59, descriptorIndex := 242, attributes := #[] }, { accessFlags := 1, nameIndex := 282, descriptorIndex := 283, attributes := #[] }] 49 271 #[363, 365, 367] #[{ accessFlags := 25, nameIndex := 369, descriptorIndex := 276, attributes := #[] }, { accessFlags := 25, nameIndex := 371, descriptorIndex := 276, attributes := #[] }, { accessFlags := 25, nameIndex := 361, descriptorIndex := 362, attributes := #[] }, { accessFlags := 18, nameIndex := 275, descriptorIndex := 276, attributes := #[] }, { accessFlags := 25, nameIndex := 376, descriptorIndex := 377, attributes := #[] }, { accessFlags := 25, nameIndex := 379, descriptorIndex := 377, attributes := #[] }, { accessFlags := 26, nameIndex := 381, descriptorIndex := 276, attributes := #[] }])
  fields := #[{ name := "MIN_VALUE", type := .long, accessFlags := 25, slot := 0, constantValue := 0 }, { name := "MAX_VALUE", type := .long, accessFlags := 25, slot := 1, constantValue := 0 }, { name := "TYPE", type := (.object "java/lang/Class"), accessFlags := 25, slot := 2, constantValue := 0 }, { name := "value", type := .long, accessFlags := 18, slot := 0, constantValue := 0 }, { name := "SIZE", type := .int, accessFlags := 25, slot := 3, constantValue := 0 }, { name := "BYTES", type := .int, accessFlags := 25, slot := 4, constantValue := 0 }, { name := "serialVersionUID", type := .long, accessFlags := 26, slot := 5, constantValue := 0 }]
  methods := #[k9m0, k9m1, k9m2]
  instanceTypes := #[.long]
  staticTypes := #[.long, .long, (.object "java/lang/Class"), .int, .int, .long]
  resolved := Array.replicate 524 none
  statics := none }

def pool10 : Array CpInfo := pool [(2, .class_ 4), (1, u "java/lang/Object"), (0, u "<init>"), (0, u "()V"), (0, .class_ 8), (0, u "java/lang/Long"), (7, .class_ 18), (1, u "java/lang/Long$LongCache"), (0, u "$assertionsDisabled"), (0, u "Z"), (8, u "archivedCache"), (0, u "[Ljava/lang/Long;"), (7, u "cache")] 24

def k10m0 : Method := { name := "<init>", desc := "()V", sig := { parameters := [], returnType := none }, accessFlags := 2, code := none }
/-- java/lang/Long$LongCache -/
def k10 : Class := { plain "java/lang/Long$LongCache" (some 0) with
  accessFlags := 48
  interfaces := #[]
  cf := some (fileOf pool10 16 #[.nestHost 7] #[{ accessFlags := 2, nameIndex := 5, descriptorIndex := 6, attributes := #[] }] 48 2 #[] #[{ accessFlags := 24, nameIndex := 38, descriptorIndex := 30, attributes := #[] }, { accessFlags := 8, nameIndex := 29, descriptorIndex := 30, attributes := #[] }, { accessFlags := 4120, nameIndex := 19, descriptorIndex := 20, attributes := #[] }])
  fields := #[{ name := "cache", type := (.array (.object "java/lang/Long")), accessFlags := 24, slot := 0, constantValue := 0 }, { name := "archivedCache", type := (.array (.object "java/lang/Long")), accessFlags := 8, slot := 1, constantValue := 0 }, { name := "$assertionsDisabled", type := .boolean, accessFlags := 4120, slot := 2, constantValue := 0 }]
  methods := #[k10m0]
  instanceTypes := #[]
  staticTypes := #[(.array (.object "java/lang/Long")), (.array (.object "java/lang/Long")), .boolean]
  resolved := Array.replicate 63 none
  statics := some 0 }

def pool11 : Array CpInfo := pool [(1, u "java/lang/Cloneable"), (0, .class_ 1), (0, u "java/lang/Object"), (0, .class_ 3)] 3

/-- java/lang/Cloneable -/
def k11 : Class := { plain "java/lang/Cloneable" (some 0) with
  accessFlags := 1537
  interfaces := #[]
  cf := some (fileOf pool11 2 #[] #[] 1537 4 #[] #[])
  fields := #[]
  methods := #[]
  instanceTypes := #[]
  staticTypes := #[]
  resolved := Array.replicate 8 none
  statics := none }

/-- the primitive byte -/
def k12 : Class := { plain "byte" none with kind := .primitive 'B', accessFlags := 0x411 }
/-- [B -/
def k13 : Class := { plain "[B" (some 0) with kind := .array 12 .byte, interfaces := #[11, 4], accessFlags := 1041 }

/-- [Ljava/lang/Long; -/
def k14 : Class := { plain "[Ljava/lang/Long;" (some 0) with kind := .array 9 (.object "java/lang/Long"), interfaces := #[11, 4], accessFlags := 1041 }

def heap : Heap := #[{ cls := 10, slots := #[.ref 1, .null, .int 0], vm := .statics 10 },
  { cls := 14, slots := #[.ref 2, .ref 3, .ref 4, .ref 5, .ref 6, .ref 7, .ref 8, .ref 9, .ref 10, .ref 11, .ref 12, .ref 13, .ref 14, .ref 15, .ref 16, .ref 17, .ref 18, .ref 19, .ref 20, .ref 21, .ref 22, .ref 23, .ref 24, .ref 25, .ref 26, .ref 27, .ref 28, .ref 29, .ref 30, .ref 31, .ref 32, .ref 33, .ref 34, .ref 35, .ref 36, .ref 37, .ref 38, .ref 39, .ref 40, .ref 41, .ref 42, .ref 43, .ref 44, .ref 45, .ref 46, .ref 47, .ref 48, .ref 49, .ref 50, .ref 51, .ref 52, .ref 53, .ref 54, .ref 55, .ref 56, .ref 57, .ref 58, .ref 59, .ref 60, .ref 61, .ref 62, .ref 63, .ref 64, .ref 65, .ref 66, .ref 67, .ref 68, .ref 69, .ref 70, .ref 71, .ref 72, .ref 73, .ref 74, .ref 75, .ref 76, .ref 77, .ref 78, .ref 79, .ref 80, .ref 81, .ref 82, .ref 83, .ref 84, .ref 85, .ref 86, .ref 87, .ref 88, .ref 89, .ref 90, .ref 91, .ref 92, .ref 93, .ref 94, .ref 95, .ref 96, .ref 97, .ref 98, .ref 99, .ref 100, .ref 101, .ref 102, .ref 103, .ref 104, .ref 105, .ref 106, .ref 107, .ref 108, .ref 109, .ref 110, .ref 111, .ref 112, .ref 113, .ref 114, .ref 115, .ref 116, .ref 117, .ref 118, .ref 119, .ref 120, .ref 121, .ref 122, .ref 123, .ref 124, .ref 125, .ref 126, .ref 127, .ref 128, .ref 129, .ref 130, .ref 131, .ref 132, .ref 133, .ref 134, .ref 135, .ref 136, .ref 137, .ref 138, .ref 139, .ref 140, .ref 141, .ref 142, .ref 143, .ref 144, .ref 145, .ref 146, .ref 147, .ref 148, .ref 149, .ref 150, .ref 151, .ref 152, .ref 153, .ref 154, .ref 155, .ref 156, .ref 157, .ref 158, .ref 159, .ref 160, .ref 161, .ref 162, .ref 163, .ref 164, .ref 165, .ref 166, .ref 167, .ref 168, .ref 169, .ref 170, .ref 171, .ref 172, .ref 173, .ref 174, .ref 175, .ref 176, .ref 177, .ref 178, .ref 179, .ref 180, .ref 181, .ref 182, .ref 183, .ref 184, .ref 185, .ref 186, .ref 187, .ref 188, .ref 189, .ref 190, .ref 191, .ref 192, .ref 193, .ref 194, .ref 195, .ref 196, .ref 197, .ref 198, .ref 199, .ref 200, .ref 201, .ref 202, .ref 203, .ref 204, .ref 205, .ref 206, .ref 207, .ref 208, .ref 209, .ref 210, .ref 211, .ref 212, .ref 213, .ref 214, .ref 215, .ref 216, .ref 217, .ref 218, .ref 219, .ref 220, .ref 221, .ref 222, .ref 223, .ref 224, .ref 225, .ref 226, .ref 227, .ref 228, .ref 229, .ref 230, .ref 231, .ref 232, .ref 233, .ref 234, .ref 235, .ref 236, .ref 237, .ref 238, .ref 239, .ref 240, .ref 241, .ref 242, .ref 243, .ref 244, .ref 245, .ref 246, .ref 247, .ref 248, .ref 249, .ref 250, .ref 251, .ref 252, .ref 253, .ref 254, .ref 255, .ref 256, .ref 257], vm := .none },
  { cls := 9, slots := #[.long (-128)], vm := .none },
  { cls := 9, slots := #[.long (-127)], vm := .none },
  { cls := 9, slots := #[.long (-126)], vm := .none },
  { cls := 9, slots := #[.long (-125)], vm := .none },
  { cls := 9, slots := #[.long (-124)], vm := .none },
  { cls := 9, slots := #[.long (-123)], vm := .none },
  { cls := 9, slots := #[.long (-122)], vm := .none },
  { cls := 9, slots := #[.long (-121)], vm := .none },
  { cls := 9, slots := #[.long (-120)], vm := .none },
  { cls := 9, slots := #[.long (-119)], vm := .none },
  { cls := 9, slots := #[.long (-118)], vm := .none },
  { cls := 9, slots := #[.long (-117)], vm := .none },
  { cls := 9, slots := #[.long (-116)], vm := .none },
  { cls := 9, slots := #[.long (-115)], vm := .none },
  { cls := 9, slots := #[.long (-114)], vm := .none },
  { cls := 9, slots := #[.long (-113)], vm := .none },
  { cls := 9, slots := #[.long (-112)], vm := .none },
  { cls := 9, slots := #[.long (-111)], vm := .none },
  { cls := 9, slots := #[.long (-110)], vm := .none },
  { cls := 9, slots := #[.long (-109)], vm := .none },
  { cls := 9, slots := #[.long (-108)], vm := .none },
  { cls := 9, slots := #[.long (-107)], vm := .none },
  { cls := 9, slots := #[.long (-106)], vm := .none },
  { cls := 9, slots := #[.long (-105)], vm := .none },
  { cls := 9, slots := #[.long (-104)], vm := .none },
  { cls := 9, slots := #[.long (-103)], vm := .none },
  { cls := 9, slots := #[.long (-102)], vm := .none },
  { cls := 9, slots := #[.long (-101)], vm := .none },
  { cls := 9, slots := #[.long (-100)], vm := .none },
  { cls := 9, slots := #[.long (-99)], vm := .none },
  { cls := 9, slots := #[.long (-98)], vm := .none },
  { cls := 9, slots := #[.long (-97)], vm := .none },
  { cls := 9, slots := #[.long (-96)], vm := .none },
  { cls := 9, slots := #[.long (-95)], vm := .none },
  { cls := 9, slots := #[.long (-94)], vm := .none },
  { cls := 9, slots := #[.long (-93)], vm := .none },
  { cls := 9, slots := #[.long (-92)], vm := .none },
  { cls := 9, slots := #[.long (-91)], vm := .none },
  { cls := 9, slots := #[.long (-90)], vm := .none },
  { cls := 9, slots := #[.long (-89)], vm := .none },
  { cls := 9, slots := #[.long (-88)], vm := .none },
  { cls := 9, slots := #[.long (-87)], vm := .none },
  { cls := 9, slots := #[.long (-86)], vm := .none },
  { cls := 9, slots := #[.long (-85)], vm := .none },
  { cls := 9, slots := #[.long (-84)], vm := .none },
  { cls := 9, slots := #[.long (-83)], vm := .none },
  { cls := 9, slots := #[.long (-82)], vm := .none },
  { cls := 9, slots := #[.long (-81)], vm := .none },
  { cls := 9, slots := #[.long (-80)], vm := .none },
  { cls := 9, slots := #[.long (-79)], vm := .none },
  { cls := 9, slots := #[.long (-78)], vm := .none },
  { cls := 9, slots := #[.long (-77)], vm := .none },
  { cls := 9, slots := #[.long (-76)], vm := .none },
  { cls := 9, slots := #[.long (-75)], vm := .none },
  { cls := 9, slots := #[.long (-74)], vm := .none },
  { cls := 9, slots := #[.long (-73)], vm := .none },
  { cls := 9, slots := #[.long (-72)], vm := .none },
  { cls := 9, slots := #[.long (-71)], vm := .none },
  { cls := 9, slots := #[.long (-70)], vm := .none },
  { cls := 9, slots := #[.long (-69)], vm := .none },
  { cls := 9, slots := #[.long (-68)], vm := .none },
  { cls := 9, slots := #[.long (-67)], vm := .none },
  { cls := 9, slots := #[.long (-66)], vm := .none },
  { cls := 9, slots := #[.long (-65)], vm := .none },
  { cls := 9, slots := #[.long (-64)], vm := .none },
  { cls := 9, slots := #[.long (-63)], vm := .none },
  { cls := 9, slots := #[.long (-62)], vm := .none },
  { cls := 9, slots := #[.long (-61)], vm := .none },
  { cls := 9, slots := #[.long (-60)], vm := .none },
  { cls := 9, slots := #[.long (-59)], vm := .none },
  { cls := 9, slots := #[.long (-58)], vm := .none },
  { cls := 9, slots := #[.long (-57)], vm := .none },
  { cls := 9, slots := #[.long (-56)], vm := .none },
  { cls := 9, slots := #[.long (-55)], vm := .none },
  { cls := 9, slots := #[.long (-54)], vm := .none },
  { cls := 9, slots := #[.long (-53)], vm := .none },
  { cls := 9, slots := #[.long (-52)], vm := .none },
  { cls := 9, slots := #[.long (-51)], vm := .none },
  { cls := 9, slots := #[.long (-50)], vm := .none },
  { cls := 9, slots := #[.long (-49)], vm := .none },
  { cls := 9, slots := #[.long (-48)], vm := .none },
  { cls := 9, slots := #[.long (-47)], vm := .none },
  { cls := 9, slots := #[.long (-46)], vm := .none },
  { cls := 9, slots := #[.long (-45)], vm := .none },
  { cls := 9, slots := #[.long (-44)], vm := .none },
  { cls := 9, slots := #[.long (-43)], vm := .none },
  { cls := 9, slots := #[.long (-42)], vm := .none },
  { cls := 9, slots := #[.long (-41)], vm := .none },
  { cls := 9, slots := #[.long (-40)], vm := .none },
  { cls := 9, slots := #[.long (-39)], vm := .none },
  { cls := 9, slots := #[.long (-38)], vm := .none },
  { cls := 9, slots := #[.long (-37)], vm := .none },
  { cls := 9, slots := #[.long (-36)], vm := .none },
  { cls := 9, slots := #[.long (-35)], vm := .none },
  { cls := 9, slots := #[.long (-34)], vm := .none },
  { cls := 9, slots := #[.long (-33)], vm := .none },
  { cls := 9, slots := #[.long (-32)], vm := .none },
  { cls := 9, slots := #[.long (-31)], vm := .none },
  { cls := 9, slots := #[.long (-30)], vm := .none },
  { cls := 9, slots := #[.long (-29)], vm := .none },
  { cls := 9, slots := #[.long (-28)], vm := .none },
  { cls := 9, slots := #[.long (-27)], vm := .none },
  { cls := 9, slots := #[.long (-26)], vm := .none },
  { cls := 9, slots := #[.long (-25)], vm := .none },
  { cls := 9, slots := #[.long (-24)], vm := .none },
  { cls := 9, slots := #[.long (-23)], vm := .none },
  { cls := 9, slots := #[.long (-22)], vm := .none },
  { cls := 9, slots := #[.long (-21)], vm := .none },
  { cls := 9, slots := #[.long (-20)], vm := .none },
  { cls := 9, slots := #[.long (-19)], vm := .none },
  { cls := 9, slots := #[.long (-18)], vm := .none },
  { cls := 9, slots := #[.long (-17)], vm := .none },
  { cls := 9, slots := #[.long (-16)], vm := .none },
  { cls := 9, slots := #[.long (-15)], vm := .none },
  { cls := 9, slots := #[.long (-14)], vm := .none },
  { cls := 9, slots := #[.long (-13)], vm := .none },
  { cls := 9, slots := #[.long (-12)], vm := .none },
  { cls := 9, slots := #[.long (-11)], vm := .none },
  { cls := 9, slots := #[.long (-10)], vm := .none },
  { cls := 9, slots := #[.long (-9)], vm := .none },
  { cls := 9, slots := #[.long (-8)], vm := .none },
  { cls := 9, slots := #[.long (-7)], vm := .none },
  { cls := 9, slots := #[.long (-6)], vm := .none },
  { cls := 9, slots := #[.long (-5)], vm := .none },
  { cls := 9, slots := #[.long (-4)], vm := .none },
  { cls := 9, slots := #[.long (-3)], vm := .none },
  { cls := 9, slots := #[.long (-2)], vm := .none },
  { cls := 9, slots := #[.long (-1)], vm := .none },
  { cls := 9, slots := #[.long 0], vm := .none },
  { cls := 9, slots := #[.long 1], vm := .none },
  { cls := 9, slots := #[.long 2], vm := .none },
  { cls := 9, slots := #[.long 3], vm := .none },
  { cls := 9, slots := #[.long 4], vm := .none },
  { cls := 9, slots := #[.long 5], vm := .none },
  { cls := 9, slots := #[.long 6], vm := .none },
  { cls := 9, slots := #[.long 7], vm := .none },
  { cls := 9, slots := #[.long 8], vm := .none },
  { cls := 9, slots := #[.long 9], vm := .none },
  { cls := 9, slots := #[.long 10], vm := .none },
  { cls := 9, slots := #[.long 11], vm := .none },
  { cls := 9, slots := #[.long 12], vm := .none },
  { cls := 9, slots := #[.long 13], vm := .none },
  { cls := 9, slots := #[.long 14], vm := .none },
  { cls := 9, slots := #[.long 15], vm := .none },
  { cls := 9, slots := #[.long 16], vm := .none },
  { cls := 9, slots := #[.long 17], vm := .none },
  { cls := 9, slots := #[.long 18], vm := .none },
  { cls := 9, slots := #[.long 19], vm := .none },
  { cls := 9, slots := #[.long 20], vm := .none },
  { cls := 9, slots := #[.long 21], vm := .none },
  { cls := 9, slots := #[.long 22], vm := .none },
  { cls := 9, slots := #[.long 23], vm := .none },
  { cls := 9, slots := #[.long 24], vm := .none },
  { cls := 9, slots := #[.long 25], vm := .none },
  { cls := 9, slots := #[.long 26], vm := .none },
  { cls := 9, slots := #[.long 27], vm := .none },
  { cls := 9, slots := #[.long 28], vm := .none },
  { cls := 9, slots := #[.long 29], vm := .none },
  { cls := 9, slots := #[.long 30], vm := .none },
  { cls := 9, slots := #[.long 31], vm := .none },
  { cls := 9, slots := #[.long 32], vm := .none },
  { cls := 9, slots := #[.long 33], vm := .none },
  { cls := 9, slots := #[.long 34], vm := .none },
  { cls := 9, slots := #[.long 35], vm := .none },
  { cls := 9, slots := #[.long 36], vm := .none },
  { cls := 9, slots := #[.long 37], vm := .none },
  { cls := 9, slots := #[.long 38], vm := .none },
  { cls := 9, slots := #[.long 39], vm := .none },
  { cls := 9, slots := #[.long 40], vm := .none },
  { cls := 9, slots := #[.long 41], vm := .none },
  { cls := 9, slots := #[.long 42], vm := .none },
  { cls := 9, slots := #[.long 43], vm := .none },
  { cls := 9, slots := #[.long 44], vm := .none },
  { cls := 9, slots := #[.long 45], vm := .none },
  { cls := 9, slots := #[.long 46], vm := .none },
  { cls := 9, slots := #[.long 47], vm := .none },
  { cls := 9, slots := #[.long 48], vm := .none },
  { cls := 9, slots := #[.long 49], vm := .none },
  { cls := 9, slots := #[.long 50], vm := .none },
  { cls := 9, slots := #[.long 51], vm := .none },
  { cls := 9, slots := #[.long 52], vm := .none },
  { cls := 9, slots := #[.long 53], vm := .none },
  { cls := 9, slots := #[.long 54], vm := .none },
  { cls := 9, slots := #[.long 55], vm := .none },
  { cls := 9, slots := #[.long 56], vm := .none },
  { cls := 9, slots := #[.long 57], vm := .none },
  { cls := 9, slots := #[.long 58], vm := .none },
  { cls := 9, slots := #[.long 59], vm := .none },
  { cls := 9, slots := #[.long 60], vm := .none },
  { cls := 9, slots := #[.long 61], vm := .none },
  { cls := 9, slots := #[.long 62], vm := .none },
  { cls := 9, slots := #[.long 63], vm := .none },
  { cls := 9, slots := #[.long 64], vm := .none },
  { cls := 9, slots := #[.long 65], vm := .none },
  { cls := 9, slots := #[.long 66], vm := .none },
  { cls := 9, slots := #[.long 67], vm := .none },
  { cls := 9, slots := #[.long 68], vm := .none },
  { cls := 9, slots := #[.long 69], vm := .none },
  { cls := 9, slots := #[.long 70], vm := .none },
  { cls := 9, slots := #[.long 71], vm := .none },
  { cls := 9, slots := #[.long 72], vm := .none },
  { cls := 9, slots := #[.long 73], vm := .none },
  { cls := 9, slots := #[.long 74], vm := .none },
  { cls := 9, slots := #[.long 75], vm := .none },
  { cls := 9, slots := #[.long 76], vm := .none },
  { cls := 9, slots := #[.long 77], vm := .none },
  { cls := 9, slots := #[.long 78], vm := .none },
  { cls := 9, slots := #[.long 79], vm := .none },
  { cls := 9, slots := #[.long 80], vm := .none },
  { cls := 9, slots := #[.long 81], vm := .none },
  { cls := 9, slots := #[.long 82], vm := .none },
  { cls := 9, slots := #[.long 83], vm := .none },
  { cls := 9, slots := #[.long 84], vm := .none },
  { cls := 9, slots := #[.long 85], vm := .none },
  { cls := 9, slots := #[.long 86], vm := .none },
  { cls := 9, slots := #[.long 87], vm := .none },
  { cls := 9, slots := #[.long 88], vm := .none },
  { cls := 9, slots := #[.long 89], vm := .none },
  { cls := 9, slots := #[.long 90], vm := .none },
  { cls := 9, slots := #[.long 91], vm := .none },
  { cls := 9, slots := #[.long 92], vm := .none },
  { cls := 9, slots := #[.long 93], vm := .none },
  { cls := 9, slots := #[.long 94], vm := .none },
  { cls := 9, slots := #[.long 95], vm := .none },
  { cls := 9, slots := #[.long 96], vm := .none },
  { cls := 9, slots := #[.long 97], vm := .none },
  { cls := 9, slots := #[.long 98], vm := .none },
  { cls := 9, slots := #[.long 99], vm := .none },
  { cls := 9, slots := #[.long 100], vm := .none },
  { cls := 9, slots := #[.long 101], vm := .none },
  { cls := 9, slots := #[.long 102], vm := .none },
  { cls := 9, slots := #[.long 103], vm := .none },
  { cls := 9, slots := #[.long 104], vm := .none },
  { cls := 9, slots := #[.long 105], vm := .none },
  { cls := 9, slots := #[.long 106], vm := .none },
  { cls := 9, slots := #[.long 107], vm := .none },
  { cls := 9, slots := #[.long 108], vm := .none },
  { cls := 9, slots := #[.long 109], vm := .none },
  { cls := 9, slots := #[.long 110], vm := .none },
  { cls := 9, slots := #[.long 111], vm := .none },
  { cls := 9, slots := #[.long 112], vm := .none },
  { cls := 9, slots := #[.long 113], vm := .none },
  { cls := 9, slots := #[.long 114], vm := .none },
  { cls := 9, slots := #[.long 115], vm := .none },
  { cls := 9, slots := #[.long 116], vm := .none },
  { cls := 9, slots := #[.long 117], vm := .none },
  { cls := 9, slots := #[.long 118], vm := .none },
  { cls := 9, slots := #[.long 119], vm := .none },
  { cls := 9, slots := #[.long 120], vm := .none },
  { cls := 9, slots := #[.long 121], vm := .none },
  { cls := 9, slots := #[.long 122], vm := .none },
  { cls := 9, slots := #[.long 123], vm := .none },
  { cls := 9, slots := #[.long 124], vm := .none },
  { cls := 9, slots := #[.long 125], vm := .none },
  { cls := 9, slots := #[.long 126], vm := .none },
  { cls := 9, slots := #[.long 127], vm := .none }]
def classes : Array Class := #[k0, k1, k2, k3, k4, k5, k6, k7, k8, k9, k10, k11, k12, k13, k14]
def interned : List (Array UInt16 × Addr) := []
def slotsUsed : Nat := 515
def theMethod : MethodId := ⟨1, 1⟩
def args0 : Array Value := #[.long 3, .long 4, .long 5, .long 6]
def aboutOver (below : List Frame) : State where
  vm := { classes := classes, interned := interned.toArray }
  heap := heap
  slotsUsed := slotsUsed
  threads := #[{ frames := .invoking theMethod args0 :: below }]
def below0 : List Frame := [.native { method := ⟨0, 0⟩, args := #[] }]
def about1 : State := aboutOver below0
def p0 : Program := .bare "" "" ""
def e0 : Env := launch0.env 0 0 0
theorem w_frames : about1.frames = Frame.invoking theMethod args0 :: below0 := rfl
set_option maxRecDepth 65536 in
theorem w_args : argsFit about1.vm theMethod args0 = true := by decide +kernel
set_option maxRecDepth 65536 in
theorem w_heap : heapFits about1 = true := by decide +kernel
set_option maxRecDepth 65536 in
theorem w_runnable : about1.curStatus? = some .runnable := by decide +kernel
set_option maxRecDepth 65536 in
theorem w_alone : about1.alone = true := by decide +kernel
set_option maxRecDepth 65536 in
theorem w_named : about1.methodNamed? x = some theMethod := by decide +kernel
set_option maxRecDepth 65536 in
theorem w_hears : about1.hears theMethod below0 = true := by decide +kernel
set_option maxRecDepth 65536 in
theorem w_ripe : about1.ripe theMethod args0 below0 = true := by decide +kernel
theorem w_running : about1.status = .running := rfl
set_option maxRecDepth 65536 in
theorem w_room : about1.hasRoom e0.platform room_1 = true :=
  launch0.hasRoom_least _ room_1 (by decide +kernel) (by decide +kernel) (by decide +kernel) (by decide +kernel) (by decide +kernel) (by decide +kernel)
theorem allAtoms_all (ts : List Jvm.Cond) (a : Array Jvm.Value) (st : Jvm.State) : (allAtoms ts).before a st = ts.all (fun c => c.before a st) := by
  induction ts with
  | nil => rfl
  | cons c t ih =>
    show (Jvm.Cond.and c (allAtoms t)).before a st = _
    rw [Jvm.Cond.before_and, ih, List.all_cons]
def words1 : List Jvm.Cond := Jvm.Cond.code x code maxLocals ret :: tables_1
/-- a 'code' word, met by the world's own term for the bytes: nothing is compared byte by byte -/
theorem code_word {y : MethodName} {bytes : ByteArray} {mx : Nat} {rt : Option FieldType} {a : Array Value} {s : State} {m : MethodId} {meth : Method} {c : Code} (h1 : s.methodNamed? y = some m) (h2 : s.vm.method? m = some meth) (h3 : meth.code = some c) (h4 : c.code = bytes)
    (h5 : (c.maxLocals == mx && c.exceptionTable.isEmpty && decide (c.maxStack ≤ mostOperands) && decide (meth.sig.returnType = rt) && !meth.locks && decide (parseMethodDescriptor y.desc = some meth.sig)) = true) : (Jvm.Cond.code y bytes mx rt).before a s = true := by
  simp only [Bool.and_eq_true, beq_iff_eq, Bool.not_eq_true', decide_eq_true_eq] at h5
  obtain ⟨⟨⟨⟨⟨g1, g2⟩, g3⟩, g4⟩, g5⟩, g6⟩ := h5
  simp [Cond.before, Cond.holds, Cond.value, h1, h2, h3, h4, g1, g2, g3, g4, g5, g6]
def isCode : Jvm.Cond → Bool
  | .code _ _ _ _ => true
  | _ => false
theorem all_split {L : List Jvm.Cond} {P : Jvm.Cond → Bool} (h1 : L.all (fun c => isCode c || P c) = true) (h2 : ∀ c ∈ L.filter isCode, P c = true) : L.all P = true := by
  refine List.all_eq_true.mpr fun c hc => ?_
  have h := List.all_eq_true.mp h1 c hc
  rcases Bool.eq_false_or_eq_true (isCode c) with hi | hi
  · exact h2 c (List.mem_filter.mpr ⟨hc, hi⟩)
  · simpa [hi] using h
set_option maxRecDepth 65536 in
theorem w_c0 : (Jvm.Cond.code x code maxLocals ret).before args0 about1 = true := code_word (m := ⟨1, 1⟩) (meth := k1m1) (c := k1c1) (by decide +kernel) rfl rfl rfl (by decide +kernel)
set_option maxRecDepth 65536 in
theorem w_c1 : (Jvm.Cond.code ({ cls := "com/example/trailkeep/trailkeep/journal/InputPosition", name := "<init>", desc := "(JJJ)V" } : Jvm.MethodName) prog_2_method_2_code (7 : Nat) (Option.none : Option Jvm.ClassFile.FieldType)).before args0 about1 = true := code_word (m := ⟨3, 1⟩) (meth := k3m1) (c := k3c1) (by decide +kernel) rfl rfl rfl (by decide +kernel)
set_option maxRecDepth 65536 in
theorem w_c2 : (Jvm.Cond.code ({ cls := "com/example/trailkeep/trailkeep/journal/InputPosition", name := "<init>", desc := "(JJJLjava/util/UUID;Ljava/lang/Long;Ljava/lang/Long;)V" } : Jvm.MethodName) prog_2_method_1_code (10 : Nat) (Option.none : Option Jvm.ClassFile.FieldType)).before args0 about1 = true := code_word (m := ⟨3, 0⟩) (meth := k3m0) (c := k3c0) (by decide +kernel) rfl rfl rfl (by decide +kernel)
set_option maxRecDepth 65536 in
theorem w_c3 : (Jvm.Cond.code ({ cls := "java/lang/Record", name := "<init>", desc := "()V" } : Jvm.MethodName) jdk_30_method_1_code (1 : Nat) (Option.none : Option Jvm.ClassFile.FieldType)).before args0 about1 = true := code_word (m := ⟨2, 0⟩) (meth := k2m0) (c := k2c0) (by decide +kernel) rfl rfl rfl (by decide +kernel)
set_option maxRecDepth 65536 in
theorem w_c4 : (Jvm.Cond.code ({ cls := "java/lang/Object", name := "<init>", desc := "()V" } : Jvm.MethodName) object_method_1_code (1 : Nat) (Option.none : Option Jvm.ClassFile.FieldType)).before args0 about1 = true := code_word (m := ⟨0, 0⟩) (meth := k0m0) (c := k0c0) (by decide +kernel) rfl rfl rfl (by decide +kernel)
set_option maxRecDepth 65536 in
theorem w_c5 : (Jvm.Cond.code ({ cls := "com/example/trailkeep/trailkeep/journal/InputPosition", name := "withBorn", desc := "(J)Lcom/example/trailkeep/trailkeep/journal/InputPosition;" } : Jvm.MethodName) prog_2_method_5_code (3 : Nat) (Option.some (Jvm.ClassFile.FieldType.object "com/example/trailkeep/trailkeep/journal/InputPosition"))).before args0 about1 = true := code_word (m := ⟨3, 2⟩) (meth := k3m2) (c := k3c2) (by decide +kernel) rfl rfl rfl (by decide +kernel)
set_option maxRecDepth 65536 in
theorem w_c6 : (Jvm.Cond.code ({ cls := "java/lang/Long", name := "valueOf", desc := "(J)Ljava/lang/Long;" } : Jvm.MethodName) jdk_35_method_24_code (3 : Nat) (Option.some (Jvm.ClassFile.FieldType.object "java/lang/Long"))).before args0 about1 = true := code_word (m := ⟨9, 0⟩) (meth := k9m0) (c := k9c0) (by decide +kernel) rfl rfl rfl (by decide +kernel)
set_option maxRecDepth 65536 in
theorem w_c7 : (Jvm.Cond.code ({ cls := "com/example/trailkeep/trailkeep/journal/InputPosition", name := "born", desc := "()Ljava/lang/Long;" } : Jvm.MethodName) prog_2_method_14_code (1 : Nat) (Option.some (Jvm.ClassFile.FieldType.object "java/lang/Long"))).before args0 about1 = true := code_word (m := ⟨3, 7⟩) (meth := k3m7) (c := k3c7) (by decide +kernel) rfl rfl rfl (by decide +kernel)
set_option maxRecDepth 65536 in
theorem w_c8 : (Jvm.Cond.code ({ cls := "java/lang/Long", name := "longValue", desc := "()J" } : Jvm.MethodName) jdk_35_method_31_code (1 : Nat) (Option.some Jvm.ClassFile.FieldType.long)).before args0 about1 = true := code_word (m := ⟨9, 2⟩) (meth := k9m2) (c := k9c2) (by decide +kernel) rfl rfl rfl (by decide +kernel)
set_option maxRecDepth 65536 in
theorem w_c9 : (Jvm.Cond.code ({ cls := "com/example/trailkeep/trailkeep/journal/InputPosition", name := "offset", desc := "()J" } : Jvm.MethodName) prog_2_method_10_code (1 : Nat) (Option.some Jvm.ClassFile.FieldType.long)).before args0 about1 = true := code_word (m := ⟨3, 3⟩) (meth := k3m3) (c := k3c3) (by decide +kernel) rfl rfl rfl (by decide +kernel)
set_option maxRecDepth 65536 in
theorem w_c10 : (Jvm.Cond.code ({ cls := "com/example/trailkeep/trailkeep/journal/InputPosition", name := "lineNumber", desc := "()J" } : Jvm.MethodName) prog_2_method_11_code (1 : Nat) (Option.some Jvm.ClassFile.FieldType.long)).before args0 about1 = true := code_word (m := ⟨3, 4⟩) (meth := k3m4) (c := k3c4) (by decide +kernel) rfl rfl rfl (by decide +kernel)
set_option maxRecDepth 65536 in
theorem w_c11 : (Jvm.Cond.code ({ cls := "com/example/trailkeep/trailkeep/journal/InputPosition", name := "stored", desc := "()J" } : Jvm.MethodName) prog_2_method_12_code (1 : Nat) (Option.some Jvm.ClassFile.FieldType.long)).before args0 about1 = true := code_word (m := ⟨3, 5⟩) (meth := k3m5) (c := k3c5) (by decide +kernel) rfl rfl rfl (by decide +kernel)
set_option maxRecDepth 65536 in
theorem w_c12 : (Jvm.Cond.code ({ cls := "com/example/trailkeep/trailkeep/journal/InputPosition", name := "tail", desc := "()Ljava/util/UUID;" } : Jvm.MethodName) prog_2_method_13_code (1 : Nat) (Option.some (Jvm.ClassFile.FieldType.object "java/util/UUID"))).before args0 about1 = true := code_word (m := ⟨3, 6⟩) (meth := k3m6) (c := k3c6) (by decide +kernel) rfl rfl rfl (by decide +kernel)
set_option maxRecDepth 65536 in
theorem w_c13 : (Jvm.Cond.code ({ cls := "com/example/trailkeep/trailkeep/journal/InputPosition", name := "batchTime", desc := "()Ljava/lang/Long;" } : Jvm.MethodName) prog_2_method_15_code (1 : Nat) (Option.some (Jvm.ClassFile.FieldType.object "java/lang/Long"))).before args0 about1 = true := code_word (m := ⟨3, 8⟩) (meth := k3m8) (c := k3c8) (by decide +kernel) rfl rfl rfl (by decide +kernel)
set_option maxRecDepth 65536 in
theorem w_c14 : (Jvm.Cond.code ({ cls := "java/lang/Long", name := "<init>", desc := "(J)V" } : Jvm.MethodName) jdk_35_method_26_code (3 : Nat) (Option.none : Option Jvm.ClassFile.FieldType)).before args0 about1 = true := code_word (m := ⟨9, 1⟩) (meth := k9m1) (c := k9c1) (by decide +kernel) rfl rfl rfl (by decide +kernel)
set_option maxRecDepth 65536 in
theorem w_c15 : (Jvm.Cond.code ({ cls := "java/lang/Number", name := "<init>", desc := "()V" } : Jvm.MethodName) jdk_18_method_1_code (1 : Nat) (Option.none : Option Jvm.ClassFile.FieldType)).before args0 about1 = true := code_word (m := ⟨5, 0⟩) (meth := k5m0) (c := k5c0) (by decide +kernel) rfl rfl rfl (by decide +kernel)
def codes1 : List Jvm.Cond := [Jvm.Cond.code x code maxLocals ret, Jvm.Cond.code ({ cls := "com/example/trailkeep/trailkeep/journal/InputPosition", name := "<init>", desc := "(JJJ)V" } : Jvm.MethodName) prog_2_method_2_code (7 : Nat) (Option.none : Option Jvm.ClassFile.FieldType), Jvm.Cond.code ({ cls := "com/example/trailkeep/trailkeep/journal/InputPosition", name := "<init>", desc := "(JJJLjava/util/UUID;Ljava/lang/Long;Ljava/lang/Long;)V" } : Jvm.MethodName) prog_2_method_1_code (10 : Nat) (Option.none : Option Jvm.ClassFile.FieldType), Jvm.Cond.code ({ cls := "java/lang/Record", name := "<init>", desc := "()V" } : Jvm.MethodName) jdk_30_method_1_code (1 : Nat) (Option.none : Option Jvm.ClassFile.FieldType), Jvm.Cond.code ({ cls := "java/lang/Object", name := "<init>", desc := "()V" } : Jvm.MethodName) object_method_1_code (1 : Nat) (Option.none : Option Jvm.ClassFile.FieldType), Jvm.Cond.code ({ cls := "com/example/trailkeep/trailkeep/journal/InputPosition", name := "withBorn", desc := "(J)Lcom/example/trailkeep/trailkeep/journal/InputPosition;" } : Jvm.MethodName) prog_2_method_5_code (3 : Nat) (Option.some (Jvm.ClassFile.FieldType.object "com/example/trailkeep/trailkeep/journal/InputPosition")), Jvm.Cond.code ({ cls := "java/lang/Long", name := "valueOf", desc := "(J)Ljava/lang/Long;" } : Jvm.MethodName) jdk_35_method_24_code (3 : Nat) (Option.some (Jvm.ClassFile.FieldType.object "java/lang/Long")), Jvm.Cond.code ({ cls := "com/example/trailkeep/trailkeep/journal/InputPosition", name := "born", desc := "()Ljava/lang/Long;" } : Jvm.MethodName) prog_2_method_14_code (1 : Nat) (Option.some (Jvm.ClassFile.FieldType.object "java/lang/Long")), Jvm.Cond.code ({ cls := "java/lang/Long", name := "longValue", desc := "()J" } : Jvm.MethodName) jdk_35_method_31_code (1 : Nat) (Option.some Jvm.ClassFile.FieldType.long), Jvm.Cond.code ({ cls := "com/example/trailkeep/trailkeep/journal/InputPosition", name := "offset", desc := "()J" } : Jvm.MethodName) prog_2_method_10_code (1 : Nat) (Option.some Jvm.ClassFile.FieldType.long), Jvm.Cond.code ({ cls := "com/example/trailkeep/trailkeep/journal/InputPosition", name := "lineNumber", desc := "()J" } : Jvm.MethodName) prog_2_method_11_code (1 : Nat) (Option.some Jvm.ClassFile.FieldType.long), Jvm.Cond.code ({ cls := "com/example/trailkeep/trailkeep/journal/InputPosition", name := "stored", desc := "()J" } : Jvm.MethodName) prog_2_method_12_code (1 : Nat) (Option.some Jvm.ClassFile.FieldType.long), Jvm.Cond.code ({ cls := "com/example/trailkeep/trailkeep/journal/InputPosition", name := "tail", desc := "()Ljava/util/UUID;" } : Jvm.MethodName) prog_2_method_13_code (1 : Nat) (Option.some (Jvm.ClassFile.FieldType.object "java/util/UUID")), Jvm.Cond.code ({ cls := "com/example/trailkeep/trailkeep/journal/InputPosition", name := "batchTime", desc := "()Ljava/lang/Long;" } : Jvm.MethodName) prog_2_method_15_code (1 : Nat) (Option.some (Jvm.ClassFile.FieldType.object "java/lang/Long")), Jvm.Cond.code ({ cls := "java/lang/Long", name := "<init>", desc := "(J)V" } : Jvm.MethodName) jdk_35_method_26_code (3 : Nat) (Option.none : Option Jvm.ClassFile.FieldType), Jvm.Cond.code ({ cls := "java/lang/Number", name := "<init>", desc := "()V" } : Jvm.MethodName) jdk_18_method_1_code (1 : Nat) (Option.none : Option Jvm.ClassFile.FieldType)]
set_option maxRecDepth 65536 in
theorem codes_eq : words1.filter isCode = codes1 := rfl
theorem w_codes : ∀ c ∈ words1.filter isCode, c.before args0 about1 = true := by
  rw [codes_eq]
  intro c hc
  simp only [codes1, List.mem_cons, List.not_mem_nil, or_false] at hc
  rcases hc with rfl | rfl | rfl | rfl | rfl | rfl | rfl | rfl | rfl | rfl | rfl | rfl | rfl | rfl | rfl | rfl
  · exact w_c0
  · exact w_c1
  · exact w_c2
  · exact w_c3
  · exact w_c4
  · exact w_c5
  · exact w_c6
  · exact w_c7
  · exact w_c8
  · exact w_c9
  · exact w_c10
  · exact w_c11
  · exact w_c12
  · exact w_c13
  · exact w_c14
  · exact w_c15
set_option maxRecDepth 65536 in
theorem w_t1 : (words1.take 24).all (fun c => isCode c || c.before args0 about1) = true := by decide +kernel
set_option maxRecDepth 65536 in
theorem w_t2 : ((words1.drop 24).take 24).all (fun c => isCode c || c.before args0 about1) = true := by decide +kernel
set_option maxRecDepth 65536 in
theorem w_t3 : (((words1.drop 24).drop 24).take 24).all (fun c => isCode c || c.before args0 about1) = true := by decide +kernel
set_option maxRecDepth 65536 in
theorem w_t4 : (((words1.drop 24).drop 24).drop 24).all (fun c => isCode c || c.before args0 about1) = true := by decide +kernel
theorem w_tables : (allAtoms (Jvm.Cond.code x code maxLocals ret :: tables_1)).before args0 about1 = true := by
  rw [allAtoms_all]
  show words1.all (fun c => c.before args0 about1) = true
  refine all_split ?_ w_codes
  rw [← List.take_append_drop 24 words1, List.all_append, w_t1, ← List.take_append_drop 24 (words1.drop 24), List.all_append, w_t2, ← List.take_append_drop 24 ((words1.drop 24).drop 24), List.all_append, w_t3, w_t4]
  rfl
set_option maxRecDepth 65536 in
theorem w_rest : rest_1_c.before args0 about1 = true := by decide +kernel
set_option maxRecDepth 65536 in
theorem w_case : (Jvm.Cond.and given_1 narrow_1).before args0 about1 = true := by decide +kernel
theorem w_applies : (headSpec (Jvm.Cond.code x code maxLocals ret :: tables_1) room_1).applies x e0.platform about1 = true :=
  (Spec.applies_iff w_frames).mpr ⟨w_running, w_runnable, w_alone, w_named, w_hears, w_ripe, w_room, w_tables⟩
theorem atStart : AtStart classFile x code maxLocals ret World_1 tables_1 room_1 Calls_1 rest_1 Pre_1 launch0 p0 e0 about1 theMethod args0 below0 :=
  ⟨lists_1, trivial, launch0.admits_env _ _ _, launch0.least_env, fairChoices_fair.cas, fairChoices_fair.clock, w_frames, w_args, w_heap, w_applies, trivial, w_rest, w_case⟩
end start1
theorem witness_1 : WitnessClaimed_1 := ⟨start1.p0, start1.e0, start1.about1, start1.theMethod, start1.args0, start1.below0, start1.atStart⟩
end Jvm.Pilot.@@N@@
