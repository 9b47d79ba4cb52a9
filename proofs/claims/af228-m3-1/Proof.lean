import JvmDerived
import JvmDerived.Pilot.@@N@@Statement
import JvmDerived.Pilot.@@N@@Code
set_option linter.unusedVariables false
set_option linter.unusedSimpArgs false
/-! the layer of this seat's own: a walk that ends well (Goes), contracts (MET), calls by them -/
namespace Jvm.RoadKit
open Sem ClassFile Op Lib Jvm.Stand Jvm.Free Jvm.LawKit
theorem lt_nat {a b : Nat} (h : @LT.lt Addr instLTNat a b) : @LT.lt Nat instLTNat a b := h
theorem lt_ok {a b : Nat} (h : @LT.lt Nat instLTNat a b) : @LT.lt Addr instLTNat a b := h
theorem ne_ok {a b : Nat} (h : ¬ @Eq Nat a b) : @Ne Addr a b := h
theorem ne2_nat {x a b : Nat} (h : @Ne Addr x a ∧ @Ne Addr x b) : ¬ @Eq Nat x a ∧ ¬ @Eq Nat x b := h
section OwnLayer
variable {p : Program} {l : Launch} {e : Env} {R : Room} {s : State} {m : MethodId} {args : Array Value} {below : List Frame} {meth : Method} {c : Code} {T : State} {locs : List Loc} {cells slots : Nat} {Z : State} {a0 : Array Value} {h : Heap} {kc ks n0 : Nat} {Q : Option Value → Heap → Prop} {A B : State}
/-- from S the run comes to the end of this invocation, and Q holds there -/
def Goes (p : Program) (e : Env) (below : List Frame) (s : State) (kc ks n0 : Nat) (Q : Option Value → Heap → Prop) (S : State) : Prop :=
  ∃ s₂ o, Steps p.tables e below S s₂ ∧ s₂.status = .running ∧ Ended s₂ below o ∧ ∃ v L, o = .returned v ∧ (Q v s₂.heap ∧ Fr n0 L) ∧ FrameEnd s o s₂ L kc ks
theorem Goes.via (h : ∀ t, Steps p.tables e below B t → Steps p.tables e below A t) (g : Goes p e below s kc ks n0 Q B) : Goes p e below s kc ks n0 Q A := by
  obtain ⟨s₂, o, h1, h2⟩ := g
  exact ⟨s₂, o, h _ h1, h2⟩
theorem Goes.fin (X : Stand p l e R s m args below meth c T locs cells slots) {v : Option Value} {g : JFrame} (hv : meth.sig.returnType = none → v = none) (hlk : meth.locks = false) (N : Fr n0 locs) (hc : cells ≤ kc) (hs : slots ≤ ks) (hq : Q v T.heap)
    (hr : ∀ fs, (∀ (f : JFrame) (acts : List Action), f.method = m → f.locked = none → f.entered = [] → (doReturn e (T.setTop f) acts v).1 = T.setFrames fs) → Steps p.tables e below (T.setTop g) (T.setFrames fs)) : Goes p e below s kc ks n0 Q (T.setTop g) := by
  obtain ⟨fs, hr', hrun, hended, hW, hsame⟩ := X.leave hv hlk
  exact ⟨_, _, hr fs hr', hrun, hended, _, _, rfl, ⟨hq, N⟩, ⟨_, rfl⟩, hW, hsame.mono hc hs⟩
theorem goRetN (X : Stand p l e R s m args below meth c T locs cells slots) (hx : p.tables.exec = Jvm.exec) {t : FieldType} (hrt : meth.sig.returnType = some t) (ht : t = .boolean ∨ t = .byte ∨ t = .char ∨ t = .short) (hlk : meth.locks = false) (N : Fr n0 locs) (hc : cells ≤ kc) (hs : slots ≤ ks)
    {pc : Nat} {Ls : Array Slot} {z : Int32} {rest : List Value} (hd : decode c.code pc = .ok (.ireturn, 1)) (hq : Q (some (.int (nar t z))) T.heap) : Goes p e below s kc ks n0 Q (T.setTop (mkF m pc Ls (.int z :: rest))) :=
  Goes.fin X (fun q => by rw [hrt] at q; cases q) hlk N hc hs hq fun fs hr => retN X hx (t := t) hrt ht hd hr
theorem goRetO (X : Stand p l e R s m args below meth c T locs cells slots) (hx : p.tables.exec = Jvm.exec) {t : FieldType} (hrt : meth.sig.returnType = some t) (hlk : meth.locks = false) (N : Fr n0 locs) (hc : cells ≤ kc) (hs : slots ≤ ks)
    {pc : Nat} {Ls : Array Slot} {w : Value} {i : Instr} {rest : List Value} (hn : narrow t w = w)
    (hi : (i = .ireturn ∧ (t = .int ∨ t = .boolean ∨ t = .byte ∨ t = .char ∨ t = .short) ∧ ∃ z, w = .int z) ∨ (i = .lreturn ∧ t = .long ∧ ∃ z, w = .long z) ∨ (i = .dreturn ∧ t = .double ∧ ∃ z, w = .double z) ∨ (i = .freturn ∧ t = .float ∧ ∃ z, w = .float z) ∨ (i = .areturn ∧ t.isReference = true ∧ w.isRef = true))
    (hd : decode c.code pc = .ok (i, 1)) (hq : Q (some w) T.heap) : Goes p e below s kc ks n0 Q (T.setTop (mkF m pc Ls (w :: rest))) :=
  Goes.fin X (fun q => by rw [hrt] at q; cases q) hlk N hc hs hq fun fs hr => retOut X hx hrt hn hi hd hr
theorem goRetI (X : Stand p l e R s m args below meth c T locs cells slots) (hx : p.tables.exec = Jvm.exec) (hrt : meth.sig.returnType = some .int) (hlk : meth.locks = false) (N : Fr n0 locs) (hc : cells ≤ kc) (hs : slots ≤ ks)
    {pc : Nat} {Ls : Array Slot} {z : Int32} {rest : List Value} (hd : decode c.code pc = .ok (.ireturn, 1)) (hq : Q (some (.int z)) T.heap) : Goes p e below s kc ks n0 Q (T.setTop (mkF m pc Ls (.int z :: rest))) :=
  goRetO X hx hrt hlk N hc hs rfl (Or.inl ⟨rfl, Or.inl rfl, _, rfl⟩) hd hq
theorem goRetJ (X : Stand p l e R s m args below meth c T locs cells slots) (hx : p.tables.exec = Jvm.exec) (hrt : meth.sig.returnType = some .long) (hlk : meth.locks = false) (N : Fr n0 locs) (hc : cells ≤ kc) (hs : slots ≤ ks)
    {pc : Nat} {Ls : Array Slot} {z : Int64} {rest : List Value} (hd : decode c.code pc = .ok (.lreturn, 1)) (hq : Q (some (.long z)) T.heap) : Goes p e below s kc ks n0 Q (T.setTop (mkF m pc Ls (.long z :: rest))) :=
  goRetO X hx hrt hlk N hc hs rfl (Or.inr (Or.inl ⟨rfl, rfl, _, rfl⟩)) hd hq
theorem goRetA (X : Stand p l e R s m args below meth c T locs cells slots) (hx : p.tables.exec = Jvm.exec) {t : FieldType} (hrt : meth.sig.returnType = some t) (ht : t.isReference = true) (hlk : meth.locks = false) (N : Fr n0 locs) (hc : cells ≤ kc) (hs : slots ≤ ks)
    {pc : Nat} {Ls : Array Slot} {w : Value} {rest : List Value} (hw : w.isRef = true) (hd : decode c.code pc = .ok (.areturn, 1)) (hq : Q (some w) T.heap) : Goes p e below s kc ks n0 Q (T.setTop (mkF m pc Ls (w :: rest))) :=
  goRetO X hx hrt hlk N hc hs (by cases t <;> cases w <;> first | rfl | (cases ht; done) | (cases hw; done)) (Or.inr (Or.inr (Or.inr (Or.inr ⟨rfl, ht, hw⟩)))) hd hq
theorem goRetV (X : Stand p l e R s m args below meth c T locs cells slots) (hx : p.tables.exec = Jvm.exec) (hrt : meth.sig.returnType = none) (hlk : meth.locks = false) (N : Fr n0 locs) (hc : cells ≤ kc) (hs : slots ≤ ks)
    {pc : Nat} {Ls : Array Slot} (hd : decode c.code pc = .ok (.return_, 1)) (hq : Q none T.heap) : Goes p e below s kc ks n0 Q (T.setTop (mkF m pc Ls [])) :=
  Goes.fin X (fun _ => rfl) hlk N hc hs hq fun fs hr => X.returnOut hx hrt hd hr
/-- a contract: from a heap h0, with these arguments, the invocation returns and Q holds of what it returned and of the heap -/
abbrev MET (l : Launch) (Z : State) (y : MethodName) (bytes : ByteArray) (maxL : Nat) (ret : Option FieldType) (rm : Room) (as' : Array Value) (h0 : Heap) (n0 : Nat) (Q : Option Value → Heap → Prop) : Prop :=
  ∀ ws : List Jvm.Cond, MetFree l y (head1 (Jvm.Cond.code y bytes maxL ret :: ws) rm) (fun a U => a = as' ∧ Z.Warmed39 U.vm ∧ U.heap = h0) (fun _ _ _ _ _ => True) (fun _ U o U' => ∃ v L, o = .returned v ∧ (Q v U'.heap ∧ Fr n0 L) ∧ FrameEnd U o U' L rm.cells rm.slots)
theorem metOf {y : MethodName} {bytes : ByteArray} {maxL : Nat} {ret : Option FieldType} {rm : Room} {as' : Array Value} {h0 : Heap} (hpf : plainFor y = true)
    (body : ∀ (p : Program) (e : Env) (s : State) (m : MethodId) (below : List Frame) (meth : Method) (c : Code) (T : State), p.tables.exec = Jvm.exec → c.code = bytes → c.maxLocals = maxL → meth.sig.returnType = ret → meth.locks = false → meth.name = y.name → Z.Warmed39 s.vm → s.vm.findClass y.cls = some m.cls →
      Stand p l e rm s m as' below meth c T [] 0 0 → T.heap = h0 → Goes p e below s rm.cells rm.slots n0 Q (T.setTop (entryFrame m as' maxL))) : MET l Z y bytes maxL ret rm as' h0 n0 Q := by
  intro ws
  refine MetFree.of_bodySF hpf hisR ?_
  intro p e s m args below meth c s₁ Bd hml0 hP hK
  obtain ⟨rfl, hZ, hh⟩ := hP
  exact body p e s m below meth c s₁ Bd.exec Bd.bytes hml0 Bd.returns Bd.notSynchronized (name_of_methodNamed Bd.named Bd.method).1 hZ (findClass_of_methodNamed Bd.named) (Stand.of_body Bd) (by rw [← hh, Bd.state]; rfl)
theorem goCast {g g' : JFrame} (q : g = g') (k : Goes p e below s kc ks n0 Q (T.setTop g')) : Goes p e below s kc ks n0 Q (T.setTop g) := q ▸ k
theorem iincZ {tb : Tables} [Ours tb] {target : State} {g : JFrame} (h : At T m c below) (hx : tb.exec = Jvm.exec) (hg : g.method = m) {k : Nat} {cst : Int} {x : Int32} {l' : Array Slot} (z : Int32) (hd : decode c.code g.pc = .ok (.iinc k cst, 3)) (hz : x + Int32.ofInt cst = z) (hl : g.locals[k]? = some (.val (.int x))) (hl' : storeLocals g.locals k (.int z) = some l')
    (hr : Steps tb e below (T.setTop { g with pc := g.pc + 3, locals := l' }) target) : Steps tb e below (T.setTop g) target := XS.iinc h hx hg hd hl (hz ▸ hl') hr
theorem all_getD {P : Value → Prop} {d : Value} (hd : P d) : ∀ (vs : List Value) (i : Nat), (∀ v ∈ vs, P v) → P (vs.getD i d)
  | [], i, _ => by simpa using hd
  | v :: vs, 0, q => by simpa using q v (List.mem_cons_self ..)
  | v :: vs, i + 1, q => by simpa using all_getD hd vs i fun w hw => q w (List.mem_cons_of_mem _ hw)
/-! calls by a contract -/
section Calls
variable {own C : String} {index : Nat} {y z : MethodName} {bytes : ByteArray} {maxL : Nat} {ret : Option FieldType} {rm : Room} {as' : Array Value} {Qc : Option Value → Heap → Prop} {W : Nat} {g : JFrame} {argsL rest : List Value} {a : Addr}
theorem callSt (X : Stand p l e R s m args below meth c T locs cells slots) (hx : p.tables.exec = Jvm.exec) (hZ : Z.Warmed39 s.vm) (hown : s.vm.findClass own = some m.cls) (hM : MET l Z y bytes maxL ret rm as' h n0 Qc) (w1 : (Jvm.Cond.methodLink own index y).before a0 Z = true) (w2 : (Jvm.Cond.static y).before a0 Z = true) (w3 : (Jvm.Cond.initialized y.cls).before a0 Z = true) (w4 : (Jvm.Cond.code y bytes maxL ret).before a0 Z = true)
    (hy : y.cls ≠ "java/lang/invoke/MethodHandle" ∧ y.cls ≠ "java/lang/invoke/VarHandle") (eT : T.heap = h) (hf : rm.frames + 1 ≤ R.frames) (hl : W + (maxL + 11) + rm.locals ≤ R.locals) (hc : cells + rm.cells ≤ R.cells) (hsl : slots + rm.slots ≤ R.slots)
    (hg : g.method = m) (hsize : g.locals.size = c.maxLocals) (ha : argsL.toArray = as') (hlen : ∀ sig, parseMethodDescriptor y.desc = some sig → argsL.length = sig.parameters.length) (hs : g.stack = argsL.reverse ++ rest) (hW : 2 * g.monitorRoom + (rest.map fun v => v.category).sum ≤ W) (hd : decode c.code g.pc = .ok (.invokestatic index, 3)) :
    ∃ (v : Option Value) (T' : State) (L : List Loc), Stand p l e R s m args below meth c T' (locs ++ L) (cells + rm.cells) (slots + rm.slots) ∧ Qc v T'.heap ∧ Fr n0 L ∧ ∀ t, Steps p.tables e below (T'.setTop { g with pc := g.pc + 3, stack := v.toList ++ rest }) t → Steps p.tables e below (T.setTop g) t := by
  obtain ⟨v, _, ⟨T', L', k', n'⟩, -, X', ⟨Lc, ⟨hq, hn⟩, e1, e2, e3⟩, st⟩ := Jvm.LawKit.callS X hx (y := y) hown (mvT hZ w1) (mvT hZ w2) (mvT hZ w3) (mvT hZ w4) hy (backOf (W := W) (Q := fun v h L => Qc v h ∧ Fr n0 L) (hM []) hZ w4 w3 hf hl) hg hsize hlen hs hW hd (fun _ _ => ⟨ha, eT, hc, hsl⟩)
  dsimp only [Pt.U, Pt.locs, Pt.cells, Pt.slots] at X' e1 e2 e3 st hq
  subst e1 e2 e3
  exact ⟨v, T', Lc, X', hq, hn, st⟩
theorem callSp (X : Stand p l e R s m args below meth c T locs cells slots) (hx : p.tables.exec = Jvm.exec) (hZ : Z.Warmed39 s.vm) (hown : s.vm.findClass own = some m.cls) (hM : MET l Z y bytes maxL none rm as' h n0 Qc) (hin : y.name = "<init>") (w1 : (Jvm.Cond.methodLink own index y).before a0 Z = true) (w2 : (Jvm.Cond.instanceMethod y).before a0 Z = true) (w3 : (Jvm.Cond.initialized y.cls).before a0 Z = true) (w4 : (Jvm.Cond.code y bytes maxL none).before a0 Z = true)
    (hy : y.cls ≠ "java/lang/invoke/MethodHandle" ∧ y.cls ≠ "java/lang/invoke/VarHandle") (eT : T.heap = h) (hf : rm.frames + 1 ≤ R.frames) (hl : W + (maxL + 11) + rm.locals ≤ R.locals) (hc : cells + rm.cells ≤ R.cells) (hsl : slots + rm.slots ≤ R.slots)
    (hg : g.method = m) (hsize : g.locals.size = c.maxLocals) (ha : (Value.ref a :: argsL).toArray = as') (hlen : ∀ sig, parseMethodDescriptor y.desc = some sig → argsL.length = sig.parameters.length) (hs : g.stack = argsL.reverse ++ .ref a :: rest) (hW : 2 * g.monitorRoom + (rest.map fun v => v.category).sum ≤ W) (hd : decode c.code g.pc = .ok (.invokespecial index, 3)) :
    ∃ (v : Option Value) (T' : State) (L : List Loc), Stand p l e R s m args below meth c T' (locs ++ L) (cells + rm.cells) (slots + rm.slots) ∧ Qc v T'.heap ∧ Fr n0 L ∧ ∀ t, Steps p.tables e below (T'.setTop { g with pc := g.pc + 3, stack := v.toList ++ rest }) t → Steps p.tables e below (T.setTop g) t := by
  obtain ⟨v, _, ⟨T', L', k', n'⟩, -, X', ⟨Lc, ⟨hq, hn⟩, e1, e2, e3⟩, st⟩ := X.specialBack hx (y := y) hin hown (mvT hZ w1) (mvT hZ w2) (mvT hZ w4) hy (backOf (W := W) (Q := fun v h L => Qc v h ∧ Fr n0 L) (hM []) hZ w4 w3 hf hl) hg hsize (Steps.refl _) (a := a) (argsL := argsL) (rest := rest) hlen hs hW hd (fun _ _ => ⟨ha, eT, hc, hsl⟩)
  dsimp only [Pt.U, Pt.locs, Pt.cells, Pt.slots] at X' e1 e2 e3 st hq
  subst e1 e2 e3
  exact ⟨v, T', Lc, X', hq, hn, fun t k => st.trans k⟩
theorem callVi (X : Stand p l e R s m args below meth c T locs cells slots) (hx : p.tables.exec = Jvm.exec) (hZ : Z.Warmed39 s.vm) (hown : s.vm.findClass own = some m.cls) (hM : MET l Z z bytes maxL ret rm as' h n0 Qc) (w1 : (Jvm.Cond.methodLink own index y).before a0 Z = true) (w2 : (Jvm.Cond.declares y).before a0 Z = true) (nf : NotFace s y) (w5 : (Jvm.Cond.selects C y z).before a0 Z = true) (w6 : (Jvm.Cond.instanceMethod z).before a0 Z = true) (w3 : (Jvm.Cond.initialized z.cls).before a0 Z = true) (w4 : (Jvm.Cond.code z bytes maxL ret).before a0 Z = true)
    (hy : y.cls ≠ "java/lang/invoke/MethodHandle" ∧ y.cls ≠ "java/lang/invoke/VarHandle") (eT : T.heap = h) (E : Exa Z h a C) (hf : rm.frames + 1 ≤ R.frames) (hl : W + (maxL + 11) + rm.locals ≤ R.locals) (hc : cells + rm.cells ≤ R.cells) (hsl : slots + rm.slots ≤ R.slots)
    (hg : g.method = m) (hsize : g.locals.size = c.maxLocals) (ha : (Value.ref a :: argsL).toArray = as') (hlen : ∀ sig, parseMethodDescriptor y.desc = some sig → argsL.length = sig.parameters.length) (hs : g.stack = argsL.reverse ++ .ref a :: rest) (hW : 2 * g.monitorRoom + (rest.map fun v => v.category).sum ≤ W) (hd : decode c.code g.pc = .ok (.invokevirtual index, 3)) :
    ∃ (v : Option Value) (T' : State) (L : List Loc), Stand p l e R s m args below meth c T' (locs ++ L) (cells + rm.cells) (slots + rm.slots) ∧ Qc v T'.heap ∧ Fr n0 L ∧ ∀ t, Steps p.tables e below (T'.setTop { g with pc := g.pc + 3, stack := v.toList ++ rest }) t → Steps p.tables e below (T.setTop g) t := by
  obtain ⟨cq, kq, qa, qb, qc⟩ := isOf hZ eT E
  obtain ⟨v, _, ⟨T', L', k', n'⟩, -, X', ⟨Lc, ⟨hq, hn⟩, e1, e2, e3⟩, st⟩ := X.virtualBack hx (y := y) (z := z) hown (mvT hZ w1) (mvT hZ w2) nf (mvT hZ w5) (mvT hZ w6) hy (backOf (W := W) (Q := fun v h L => Qc v h ∧ Fr n0 L) (hM []) hZ w4 w3 hf hl) qa qc hg hsize (Steps.refl _) (argsL := argsL) (rest := rest) hlen hs hW hd (fun _ _ => ⟨ha, eT, hc, hsl⟩)
  dsimp only [Pt.U, Pt.locs, Pt.cells, Pt.slots] at X' e1 e2 e3 st hq
  subst e1 e2 e3
  exact ⟨v, T', Lc, X', hq, hn, fun t k => st.trans k⟩
theorem callUp {owner : String} (X : Stand p l e R s m args below meth c T locs cells slots) (hx : p.tables.exec = Jvm.exec) (hZ : Z.Warmed39 s.vm) (hown : s.vm.findClass own = some m.cls) (hM : MET l Z z bytes maxL ret rm as' h n0 Qc) (w1 : (Jvm.Cond.methodLink own index y).before a0 Z = true) (w7 : (Jvm.Cond.sameMethod y.cls owner y.name y.desc).before a0 Z = true) (w2 : (Jvm.Cond.declares ⟨owner, y.name, y.desc⟩).before a0 Z = true) (w5 : (Jvm.Cond.selects C y z).before a0 Z = true) (w6 : (Jvm.Cond.instanceMethod z).before a0 Z = true) (w3 : (Jvm.Cond.initialized z.cls).before a0 Z = true) (w4 : (Jvm.Cond.code z bytes maxL ret).before a0 Z = true)
    (hy : owner ≠ "java/lang/invoke/MethodHandle" ∧ owner ≠ "java/lang/invoke/VarHandle") (eT : T.heap = h) (E : Exa Z h a C) (hf : rm.frames + 1 ≤ R.frames) (hl : W + (maxL + 11) + rm.locals ≤ R.locals) (hc : cells + rm.cells ≤ R.cells) (hsl : slots + rm.slots ≤ R.slots)
    (hg : g.method = m) (hsize : g.locals.size = c.maxLocals) (ha : (Value.ref a :: argsL).toArray = as') (hlen : ∀ sig, parseMethodDescriptor y.desc = some sig → argsL.length = sig.parameters.length) (hs : g.stack = argsL.reverse ++ .ref a :: rest) (hW : 2 * g.monitorRoom + (rest.map fun v => v.category).sum ≤ W) (hd : decode c.code g.pc = .ok (.invokevirtual index, 3)) :
    ∃ (v : Option Value) (T' : State) (L : List Loc), Stand p l e R s m args below meth c T' (locs ++ L) (cells + rm.cells) (slots + rm.slots) ∧ Qc v T'.heap ∧ Fr n0 L ∧ ∀ t, Steps p.tables e below (T'.setTop { g with pc := g.pc + 3, stack := v.toList ++ rest }) t → Steps p.tables e below (T.setTop g) t := by
  obtain ⟨cq, kq, qa, qb, qc⟩ := isOf hZ eT E
  obtain ⟨v, _, ⟨T', L', k', n'⟩, -, X', ⟨Lc, ⟨hq, hn⟩, e1, e2, e3⟩, st⟩ := X.virtualBackUp hx (x := y) (y := z) hown (mvT hZ w1) (mvT hZ w7) (mvT hZ w2) hy (mvT hZ w5) (mvT hZ w6) (backOf (W := W) (Q := fun v h L => Qc v h ∧ Fr n0 L) (hM []) hZ w4 w3 hf hl) qa qc hg hsize (Steps.refl _) (argsL := argsL) (rest := rest) hlen hs hW hd (fun _ _ => ⟨ha, eT, hc, hsl⟩)
  dsimp only [Pt.U, Pt.locs, Pt.cells, Pt.slots] at X' e1 e2 e3 st hq
  subst e1 e2 e3
  exact ⟨v, T', Lc, X', hq, hn, fun t k => st.trans k⟩
theorem callIf {count : Nat} (X : Stand p l e R s m args below meth c T locs cells slots) (hx : p.tables.exec = Jvm.exec) (hZ : Z.Warmed39 s.vm) (hown : s.vm.findClass own = some m.cls) (hM : MET l Z z bytes maxL ret rm as' h n0 Qc) (w1 : (Jvm.Cond.methodLink own index y).before a0 Z = true) (w2 : (Jvm.Cond.declares y).before a0 Z = true) (w7 : ∀ s' : State, Z.Warmed39 s'.vm → (Jvm.Cond.interfaceMethod y.cls y.cls y.name y.desc).before args s' = true) (w5 : (Jvm.Cond.selects C y z).before a0 Z = true) (w6 : (Jvm.Cond.instanceMethod z).before a0 Z = true) (w8 : (Jvm.Cond.publicMethod z).before a0 Z = true) (w9 : (Jvm.Cond.unhidden C y.name y.desc).before a0 Z = true) (w10 : (Jvm.Cond.castable C y.cls).before a0 Z = true) (w3 : (Jvm.Cond.initialized z.cls).before a0 Z = true) (w4 : (Jvm.Cond.code z bytes maxL ret).before a0 Z = true)
    (hy : y.cls ≠ "java/lang/invoke/MethodHandle" ∧ y.cls ≠ "java/lang/invoke/VarHandle") (eT : T.heap = h) (E : Exa Z h a C) (hf : rm.frames + 1 ≤ R.frames) (hl : W + (maxL + 11) + rm.locals ≤ R.locals) (hc : cells + rm.cells ≤ R.cells) (hsl : slots + rm.slots ≤ R.slots)
    (hg : g.method = m) (hsize : g.locals.size = c.maxLocals) (ha : (Value.ref a :: argsL).toArray = as') (hlen : ∀ sig, parseMethodDescriptor y.desc = some sig → argsL.length = sig.parameters.length) (hs : g.stack = argsL.reverse ++ .ref a :: rest) (hW : 2 * g.monitorRoom + (rest.map fun v => v.category).sum ≤ W) (hd : decode c.code g.pc = .ok (.invokeinterface index count, 5)) :
    ∃ (v : Option Value) (T' : State) (L : List Loc), Stand p l e R s m args below meth c T' (locs ++ L) (cells + rm.cells) (slots + rm.slots) ∧ Qc v T'.heap ∧ Fr n0 L ∧ ∀ t, Steps p.tables e below (T'.setTop { g with pc := g.pc + 5, stack := v.toList ++ rest }) t → Steps p.tables e below (T.setTop g) t := by
  obtain ⟨cq, kq, qa, qb, qc⟩ := isOf hZ eT E
  obtain ⟨v, _, ⟨T', L', k', n'⟩, -, X', ⟨Lc, ⟨hq, hn⟩, e1, e2, e3⟩, st⟩ := X.interfaceBack hx (xi := y) (y := z) hown (mvT hZ w1) (mvT hZ w2) (w7 s hZ) (mvT hZ w5) (mvT hZ w6) (mvT hZ w8) (mvT hZ w9) (mvT hZ w10) hy (backOf (W := W) (Q := fun v h L => Qc v h ∧ Fr n0 L) (hM []) hZ w4 w3 hf hl) qa qb qc hg hsize (Steps.refl _) (argsL := argsL) (rest := rest) hlen hs hW hd (fun _ _ => ⟨ha, eT, hc, hsl⟩)
  dsimp only [Pt.U, Pt.locs, Pt.cells, Pt.slots] at X' e1 e2 e3 st hq
  subst e1 e2 e3
  exact ⟨v, T', Lc, X', hq, hn, fun t k => st.trans k⟩
end Calls
end OwnLayer
end Jvm.RoadKit

/-! facts of the start, out of the sheet's words -/
namespace Jvm.RoadKit
open Sem ClassFile Op Lib Jvm.Stand Jvm.Free Jvm.LawKit
section OwnStart
variable {Z : State} {args : Array Value} {t : Term} {a : Addr} {c : Cell} {ty : FieldType} {n : Int32} {dv : Value} {n0 : Nat} {h h' : Heap} {ws : List Addr}
theorem Old.le (X : Old Z n0 h) : n0 ≤ h.size := X.1 ▸ X.2.1
theorem len_start (ev : t.eval args Z none [] Z = some (.ref a)) (A : Arr Z Z.heap a c ty) (hl : (Jvm.Cond.eq (.length t) (.int n)).value args Z none Z [] = some true) : c.slots.size < 2 ^ 31 ∧ c.slots.size.toInt32 = n := by
  have ha : Z.arrayAt? a = some c := A.fin (Vm.Alike.refl _)
  by_cases q : c.slots.size < 2 ^ 31
  · exact ⟨q, gotT (Cond.eq_ints (len_f ev ha q) (Term.int_eval n)) hl⟩
  · simp [Cond.value, Term.eval, ev, ha, q] at hl
theorem arv_start (hf : Fit Z) (ev : t.eval args Z none [] Z = some (.ref a)) (A : Arr Z Z.heap a c ty) (hl : (Jvm.Cond.eq (.length t) (.int n)).value args Z none Z [] = some true) : Arv Z Z.heap a c.cls ty n c.slots.toList dv := by
  obtain ⟨q1, q2⟩ := len_start ev A hl
  have hz : ¬ n < 0 := by
    rw [← q2, Int32.lt_iff_toInt_lt, len_toInt q1]
    have : (0 : Int32).toInt = 0 := by decide
    omega
  have hs : c.slots.size = n.toNatClampNeg := by
    have := len_toInt q1
    rw [q2] at this
    rw [Int32.toNatClampNeg, this]; rfl
  have g : ∀ i, i < c.slots.size → c.slots[i]? = some (c.slots.toList.getD i dv) := fun i hi => by
    simp [hi]
  refine ⟨c, A, rfl, hs, hz, g, fun i hi => ?_⟩
  have hj : ¬ ((Int32.ofNat i) < 0 ∨ c.slots.size ≤ (Int32.ofNat i).toNatClampNeg) := idx_in hi q1
  obtain ⟨v, e1, e2⟩ := elem_fit hf A hj
  have e3 : (Int32.ofNat i).toNatClampNeg = i := by
    have := len_toInt (n := i) (by omega)
    rw [Int32.toNatClampNeg, show (Int32.ofNat i).toInt = (i : Int) from this]; rfl
  rw [e3, g i hi] at e1
  cases e1
  exact e2
theorem eq_int {u : Term} {o : Option Outcome} {first : State} {idx : List Nat} (hl : (Jvm.Cond.eq u (.int n)).value args first o Z idx = some true) : u.eval args first o idx Z = some (.int n) := by
  obtain ⟨x, y, e1, e2, k1, k2⟩ := cmp_v (Or.inl hl)
  have e3 : Term.eval args first o idx Z (.int n) = some (.int n) := rfl
  cases (e3.symm.trans e2)
  obtain ⟨z, rfl⟩ := k2
  have q := gotT (Cond.eq_ints e1 e2) hl
  rw [e1, q]
theorem eq_long {n : Int64} {u : Term} {o : Option Outcome} {first : State} {idx : List Nat} (hl : (Jvm.Cond.eq u (.long n)).value args first o Z idx = some true) : u.eval args first o idx Z = some (.long n) := by
  obtain ⟨x, y, e1, e2, k1, k2⟩ := cmp_v (Or.inl hl)
  have e3 : Term.eval args first o idx Z (.long n) = some (.long n) := rfl
  cases (e3.symm.trans e2)
  obtain ⟨z, rfl⟩ := k2
  have q := gotT (eq_L e1 e2) hl
  rw [e1, q]
theorem eq_ref {x : Addr} {u w : Term} {o : Option Outcome} {first : State} {idx : List Nat} (hl : (Jvm.Cond.eq u w).value args first o Z idx = some true) (hw : w.eval args first o idx Z = some (.ref x)) : u.eval args first o idx Z = some (.ref x) := by
  obtain ⟨v, y, e1, e2, k1, k2⟩ := cmp_v (Or.inl hl)
  cases (hw.symm.trans e2)
  have q := gotT (eq_R e1 e2 k2.2 rfl) hl
  rw [e1, q]
theorem ins_keep {C : String} (F : Ins Z h a C true) (K : Keep h h' ws) : Ins Z h' a C true := by
  obtain ⟨cell, cT, h1, h2, h3⟩ := F
  obtain ⟨c', e1, e2, e3, -⟩ := K.2.2 a cell h1
  exact ⟨c', cT, e1, h2, by rw [e2, e3]; exact h3⟩
theorem arr_keep (F : Arr Z h a c ty) (K : Keep h h' ws) (q : a ∉ ws) : Arr Z h' a c ty := ⟨K.2.1 a c F.1 q, F.2⟩
end OwnStart
end Jvm.RoadKit

/-! the same for walks that may load String constants (the wide frame) -/
namespace Jvm.RoadKit
open Sem ClassFile Op Lib Jvm.Stand Jvm.Free Jvm.LawKit
section OwnWide
variable {p : Program} {l : Launch} {e : Env} {R : Room} {s : State} {m : MethodId} {args : Array Value} {below : List Frame} {meth : Method} {c : Code} {T : State} {locs : List Loc} {cells slots : Nat} {Z : State} {a0 : Array Value} {h : Heap} {kc ks n0 k0 : Nat} {Q : Option Value → Vm → Heap → Prop} {A B : State} {vm0 : Vm} {I : Vm → Prop}
def GoesW (p : Program) (e : Env) (below : List Frame) (s : State) (kc ks n0 : Nat) (Q : Option Value → Vm → Heap → Prop) (S : State) : Prop :=
  ∃ s₂ o, Steps p.tables e below S s₂ ∧ s₂.status = .running ∧ Ended s₂ below o ∧ ∃ v L, o = .returned v ∧ (Q v s₂.vm s₂.heap ∧ Fr n0 L) ∧ ReturnedEndW s o s₂ L kc ks
theorem GoesW.via (h : ∀ t, Steps p.tables e below B t → Steps p.tables e below A t) (g : GoesW p e below s kc ks n0 Q B) : GoesW p e below s kc ks n0 Q A := by
  obtain ⟨s₂, o, h1, h2⟩ := g
  exact ⟨s₂, o, h _ h1, h2⟩
theorem GoesW.fin (X : Stand p l e R (s.setVm vm0) m args below meth c T locs cells slots) {v : Option Value} {g : JFrame} (hv : meth.sig.returnType = none → v = none) (hlk : meth.locks = false) (N : Fr n0 locs) (hS : s.Since vm0 k0) (hk : k0 ≤ T.heap.size) (hc : cells ≤ kc) (hs : slots ≤ ks) (hq : (s.setVm vm0).WarmedH T.vm → Q v T.vm T.heap)
    (hr : ∀ fs, (∀ (f : JFrame) (acts : List Action), f.method = m → f.locked = none → f.entered = [] → (doReturn e (T.setTop f) acts v).1 = T.setFrames fs) → Steps p.tables e below (T.setTop g) (T.setFrames fs)) : GoesW p e below s kc ks n0 Q (T.setTop g) := by
  obtain ⟨fs, hr', hrun, hended, hW⟩ := X.leaveW hS hk hv hlk
  exact ⟨_, _, hr fs hr', hrun, hended, _, _, rfl, ⟨hq X.warmed, N⟩, ⟨_, rfl⟩, hW.2.1, hW.2.2.1, hW.2.2.2.mono hc hs⟩
theorem goRetNW (X : Stand p l e R (s.setVm vm0) m args below meth c T locs cells slots) (hx : p.tables.exec = Jvm.exec) {t : FieldType} (hrt : meth.sig.returnType = some t) (ht : t = .boolean ∨ t = .byte ∨ t = .char ∨ t = .short) (hlk : meth.locks = false) (N : Fr n0 locs) (hS : s.Since vm0 k0) (hk : k0 ≤ T.heap.size) (hc : cells ≤ kc) (hs : slots ≤ ks)
    {pc : Nat} {Ls : Array Slot} {z : Int32} {rest : List Value} (hd : decode c.code pc = .ok (.ireturn, 1)) (hq : (s.setVm vm0).WarmedH T.vm → Q (some (.int (nar t z))) T.vm T.heap) : GoesW p e below s kc ks n0 Q (T.setTop (mkF m pc Ls (.int z :: rest))) :=
  GoesW.fin X (fun q => by rw [hrt] at q; cases q) hlk N hS hk hc hs hq fun fs hr => retN X hx (t := t) hrt ht hd hr
theorem goRetOW (X : Stand p l e R (s.setVm vm0) m args below meth c T locs cells slots) (hx : p.tables.exec = Jvm.exec) {t : FieldType} (hrt : meth.sig.returnType = some t) (hlk : meth.locks = false) (N : Fr n0 locs) (hS : s.Since vm0 k0) (hk : k0 ≤ T.heap.size) (hc : cells ≤ kc) (hs : slots ≤ ks)
    {pc : Nat} {Ls : Array Slot} {w : Value} {i : Instr} {rest : List Value} (hn : narrow t w = w)
    (hi : (i = .ireturn ∧ (t = .int ∨ t = .boolean ∨ t = .byte ∨ t = .char ∨ t = .short) ∧ ∃ z, w = .int z) ∨ (i = .lreturn ∧ t = .long ∧ ∃ z, w = .long z) ∨ (i = .dreturn ∧ t = .double ∧ ∃ z, w = .double z) ∨ (i = .freturn ∧ t = .float ∧ ∃ z, w = .float z) ∨ (i = .areturn ∧ t.isReference = true ∧ w.isRef = true))
    (hd : decode c.code pc = .ok (i, 1)) (hq : (s.setVm vm0).WarmedH T.vm → Q (some w) T.vm T.heap) : GoesW p e below s kc ks n0 Q (T.setTop (mkF m pc Ls (w :: rest))) :=
  GoesW.fin X (fun q => by rw [hrt] at q; cases q) hlk N hS hk hc hs hq fun fs hr => retOut X hx hrt hn hi hd hr
theorem goRetIW (X : Stand p l e R (s.setVm vm0) m args below meth c T locs cells slots) (hx : p.tables.exec = Jvm.exec) (hrt : meth.sig.returnType = some .int) (hlk : meth.locks = false) (N : Fr n0 locs) (hS : s.Since vm0 k0) (hk : k0 ≤ T.heap.size) (hc : cells ≤ kc) (hs : slots ≤ ks)
    {pc : Nat} {Ls : Array Slot} {z : Int32} {rest : List Value} (hd : decode c.code pc = .ok (.ireturn, 1)) (hq : (s.setVm vm0).WarmedH T.vm → Q (some (.int z)) T.vm T.heap) : GoesW p e below s kc ks n0 Q (T.setTop (mkF m pc Ls (.int z :: rest))) :=
  goRetOW X hx hrt hlk N hS hk hc hs rfl (Or.inl ⟨rfl, Or.inl rfl, _, rfl⟩) hd hq
theorem goRetJW (X : Stand p l e R (s.setVm vm0) m args below meth c T locs cells slots) (hx : p.tables.exec = Jvm.exec) (hrt : meth.sig.returnType = some .long) (hlk : meth.locks = false) (N : Fr n0 locs) (hS : s.Since vm0 k0) (hk : k0 ≤ T.heap.size) (hc : cells ≤ kc) (hs : slots ≤ ks)
    {pc : Nat} {Ls : Array Slot} {z : Int64} {rest : List Value} (hd : decode c.code pc = .ok (.lreturn, 1)) (hq : (s.setVm vm0).WarmedH T.vm → Q (some (.long z)) T.vm T.heap) : GoesW p e below s kc ks n0 Q (T.setTop (mkF m pc Ls (.long z :: rest))) :=
  goRetOW X hx hrt hlk N hS hk hc hs rfl (Or.inr (Or.inl ⟨rfl, rfl, _, rfl⟩)) hd hq
theorem goRetAW (X : Stand p l e R (s.setVm vm0) m args below meth c T locs cells slots) (hx : p.tables.exec = Jvm.exec) {t : FieldType} (hrt : meth.sig.returnType = some t) (ht : t.isReference = true) (hlk : meth.locks = false) (N : Fr n0 locs) (hS : s.Since vm0 k0) (hk : k0 ≤ T.heap.size) (hc : cells ≤ kc) (hs : slots ≤ ks)
    {pc : Nat} {Ls : Array Slot} {w : Value} {rest : List Value} (hw : w.isRef = true) (hd : decode c.code pc = .ok (.areturn, 1)) (hq : (s.setVm vm0).WarmedH T.vm → Q (some w) T.vm T.heap) : GoesW p e below s kc ks n0 Q (T.setTop (mkF m pc Ls (w :: rest))) :=
  goRetOW X hx hrt hlk N hS hk hc hs (by cases t <;> cases w <;> first | rfl | (cases ht; done) | (cases hw; done)) (Or.inr (Or.inr (Or.inr (Or.inr ⟨rfl, ht, hw⟩)))) hd hq
theorem goRetVW (X : Stand p l e R (s.setVm vm0) m args below meth c T locs cells slots) (hx : p.tables.exec = Jvm.exec) (hrt : meth.sig.returnType = none) (hlk : meth.locks = false) (N : Fr n0 locs) (hS : s.Since vm0 k0) (hk : k0 ≤ T.heap.size) (hc : cells ≤ kc) (hs : slots ≤ ks)
    {pc : Nat} {Ls : Array Slot} (hd : decode c.code pc = .ok (.return_, 1)) (hq : (s.setVm vm0).WarmedH T.vm → Q none T.vm T.heap) : GoesW p e below s kc ks n0 Q (T.setTop (mkF m pc Ls [])) :=
  GoesW.fin X (fun _ => rfl) hlk N hS hk hc hs hq fun fs hr => X.returnOut hx hrt hd hr
/-- a contract of a body that may load String constants: EL the entries whose texts are read somewhere (CHv: what the tables book for them says its text), SL the cells that it writes and that no entry books -/
abbrev METW (l : Launch) (Z : State) (y : MethodName) (bytes : ByteArray) (maxL : Nat) (ret : Option FieldType) (rm : Room) (as' : Array Value) (EL : List (String × Nat)) (SL : List Addr) (h0 : Heap) (n0 : Nat) (Q : Option Value → Heap → Prop) : Prop :=
  ∀ ws : List Jvm.Cond, MetFree l y (head1 (Jvm.Cond.code y bytes maxL ret :: ws) rm) (fun a U => a = as' ∧ Z.Warmed39 U.vm ∧ U.heap = h0 ∧ CHv Z EL U.vm h0 ∧ ∀ x ∈ SL, Safe Z EL U.vm h0 x) (fun _ _ _ _ _ => True) (fun _ U o U' => ∃ v L, o = .returned v ∧ ((Q v U'.heap ∧ CHr Z EL U.vm U.heap U'.vm U'.heap) ∧ Fr n0 L) ∧ ReturnedEndW U o U' L rm.cells rm.slots)
theorem metOfW {y : MethodName} {bytes : ByteArray} {maxL : Nat} {ret : Option FieldType} {rm : Room} {as' : Array Value} {h0 : Heap} {EL : List (String × Nat)} {SL : List Addr} {Q : Option Value → Heap → Prop} (hpf : plainFor y = true)
    (body : ∀ (p : Program) (e : Env) (s : State) (m : MethodId) (below : List Frame) (meth : Method) (c : Code) (T : State) (vm0 : Vm), p.tables.exec = Jvm.exec → c.code = bytes → c.maxLocals = maxL → meth.sig.returnType = ret → meth.locks = false → meth.name = y.name → Z.Warmed39 vm0 → vm0.findClass y.cls = some m.cls →
      Stand p l e rm (s.setVm vm0) m as' below meth c T [] 0 0 → T.heap = h0 → s.Since vm0 h0.size → CHr Z EL vm0 h0 vm0 h0 → (∀ x ∈ SL, Safe Z EL vm0 h0 x) → GoesW p e below s rm.cells rm.slots n0 (fun v vm h => Q v h ∧ CHr Z EL vm0 h0 vm h) (T.setTop (entryFrame m as' maxL))) : METW l Z y bytes maxL ret rm as' EL SL h0 n0 Q := by
  intro ws
  refine MetFree.of_bodySF hpf hisR ?_
  intro p e s m args below meth c s₁ Bd hml0 hP hK
  obtain ⟨rfl, hZ, hh, hI, hSL⟩ := hP
  subst hh
  exact body p e s m below meth c s₁ s.vm Bd.exec Bd.bytes hml0 Bd.returns Bd.notSynchronized (name_of_methodNamed Bd.named Bd.method).1 hZ (findClass_of_methodNamed Bd.named) (Stand.of_body Bd) (by rw [Bd.state]; rfl) ((State.WarmedH.refl s).since _) (CHr.refl hI) hSL
/-- the tables at hand may be warmer -/
theorem CHv.warm {EL : List (String × Nat)} {vm1 : Vm} (hZ : Z.Warmed39 vm0) (w : EW Z a0 EL) (H : CHv Z EL vm0 h) (hw : (s.setVm vm0).WarmedH vm1) : CHr Z EL vm0 h vm1 h := by
  have q := CHv.later (h' := h) hZ (hW := (show (Wst Z vm0 h).Warmed39 vm1 from hw.wide)) w ⟨Nat.le_refl _, fun _ _ q => q⟩ (Or.inl hw.interned_eq) H
  exact ⟨q.1, Nat.le_refl _, q.2⟩
theorem Safe.arvO {EL : List (String × Nat)} {x : Addr} {k : ClassId} {ty : FieldType} {z : Int32} {vs : List Value} {d : Value} (hal : Z.vm.Alike vm0) (V : Arv Z h x k ty z vs d) (ht : ty ≠ .byte) : Safe Z EL vm0 h x := by
  obtain ⟨cl, A, -⟩ := V
  exact Safe.arr hal A ht
theorem CHr.safeAll {EL : List (String × Nat)} {vm1 : Vm} {h' : Heap} {SL : List Addr} (A : CHr Z EL vm0 h vm1 h') (hx : ∀ x ∈ SL, x < h.size) (S : ∀ x ∈ SL, Safe Z EL vm0 h x) : ∀ x ∈ SL, Safe Z EL vm1 h' x := fun x q => A.safe (hx x q) (S x q)
theorem goCastW {g g' : JFrame} (q : g = g') (k : GoesW p e below s kc ks n0 Q (T.setTop g')) : GoesW p e below s kc ks n0 Q (T.setTop g) := q ▸ k
section Calls
variable {own C : String} {index : Nat} {y z : MethodName} {bytes : ByteArray} {maxL : Nat} {ret : Option FieldType} {rm : Room} {as' : Array Value} {Qc : Option Value → Heap → Prop} {W : Nat} {g : JFrame} {argsL rest : List Value} {a : Addr} {len : Nat} {EL : List (String × Nat)} {SL : List Addr}
theorem backOfV (hM : METW l Z y bytes maxL ret rm as' EL SL h n0 Qc) (hZ : Z.Warmed39 vm0) (wc : (Jvm.Cond.code y bytes maxL ret).before a0 Z = true) (wz : (Jvm.Cond.initialized y.cls).before a0 Z = true) (hf : rm.frames + 1 ≤ R.frames) (hl : W + (maxL + 11) + rm.locals ≤ R.locals) (hEL : EW Z a0 EL) (hC : CHv Z EL vm0 h) (hSl : ∀ x ∈ SL, x < h.size) (hSs : ∀ x ∈ SL, Safe Z EL vm0 h x) :
    BackS l R p e below (s.setVm vm0) args y len W (fun A a => a = as' ∧ A.U.heap = h ∧ A.cells + rm.cells ≤ R.cells ∧ A.slots + rm.slots ≤ R.slots)
      (fun A _ v B => ∃ L, ((Qc v B.U.heap ∧ CHr Z EL vm0 h B.U.vm B.U.heap) ∧ Fr n0 L) ∧ B.locs = A.locs ++ L ∧ B.cells = A.cells + rm.cells ∧ B.slots = A.slots + rm.slots) :=
  BackS.of_freeW (bytes := bytes) (maxL := maxL) (ret := ret) (E := fun _ first o t L k n => k = rm.cells ∧ n = rm.slots ∧ ∃ v, o = .returned v ∧ (Qc v t.heap ∧ CHr Z EL first.vm first.heap t.vm t.heap) ∧ Fr n0 L) (hM []) hf hl
    (fun m meth c A a Y hp => have hU : Z.Warmed39 A.U.vm := wtrans (s := s.setVm vm0) hZ Y.warmed
      ⟨by show (Jvm.Cond.and _ .tt).before a A.U = true; rw [Cond.before_and, mv hU wc]; rfl, mv hU wc, mv hU wz, hp.2.2.1, hp.2.2.2⟩)
    (fun m meth c A a g mk Y hp => ⟨hp.1, wtrans (s := s.setVm vm0) hZ Y.warmed, hp.2.1, (CHv.at Y hZ hEL hC).1, (CHv.at Y hZ hEL hC).safeAll hSl hSs⟩) (fun _ _ _ _ _ _ _ _ _ => trivial)
    (fun _ _ _ _ ⟨v, L, h1, h2, h3⟩ => ⟨L, _, _, h3, rfl, rfl, v, h1, h2⟩)
    (fun m meth c A a g mk v t L k n Y hp _ _ ⟨e1, e2, v', e3, ⟨e4, e5⟩, e6⟩ => by
      cases e3; subst e1 e2
      refine ⟨L, ⟨⟨e4, (CHv.at Y hZ hEL hC).trans ?_⟩, e6⟩, rfl, rfl, rfl⟩
      rw [← hp.2.1]; exact e5)
theorem callStW (X : Stand p l e R (s.setVm vm0) m args below meth c T locs cells slots) (hx : p.tables.exec = Jvm.exec) (hZ : Z.Warmed39 vm0) (hown : vm0.findClass own = some m.cls) (hS : s.Since vm0 k0) (hk : k0 ≤ T.heap.size) (hEL : EW Z a0 EL) (hC : CHv Z EL vm0 h) (hSl : ∀ x ∈ SL, x < h.size) (hSs : ∀ x ∈ SL, Safe Z EL vm0 h x) (hM : METW l Z y bytes maxL ret rm as' EL SL h n0 Qc) (w1 : (Jvm.Cond.methodLink own index y).before a0 Z = true) (w2 : (Jvm.Cond.static y).before a0 Z = true) (w3 : (Jvm.Cond.initialized y.cls).before a0 Z = true) (w4 : (Jvm.Cond.code y bytes maxL ret).before a0 Z = true)
    (hy : y.cls ≠ "java/lang/invoke/MethodHandle" ∧ y.cls ≠ "java/lang/invoke/VarHandle") (eT : T.heap = h) (hf : rm.frames + 1 ≤ R.frames) (hl : W + (maxL + 11) + rm.locals ≤ R.locals) (hc : cells + rm.cells ≤ R.cells) (hsl : slots + rm.slots ≤ R.slots)
    (hg : g.method = m) (hsize : g.locals.size = c.maxLocals) (ha : argsL.toArray = as') (hlen : ∀ sig, parseMethodDescriptor y.desc = some sig → argsL.length = sig.parameters.length) (hs : g.stack = argsL.reverse ++ rest) (hW : 2 * g.monitorRoom + (rest.map fun v => v.category).sum ≤ W) (hd : decode c.code g.pc = .ok (.invokestatic index, 3)) :
    ∃ (v : Option Value) (T' : State) (L : List Loc), Stand p l e R (s.setVm T'.vm) m args below meth c T' (locs ++ L) (cells + rm.cells) (slots + rm.slots) ∧ s.Since T'.vm T'.heap.size ∧ Z.Warmed39 T'.vm ∧ T'.vm.findClass own = some m.cls ∧ CHr Z EL vm0 h T'.vm T'.heap ∧ Qc v T'.heap ∧ Fr n0 L ∧ ∀ t, Steps p.tables e below (T'.setTop { g with pc := g.pc + 3, stack := v.toList ++ rest }) t → Steps p.tables e below (T.setTop g) t := by
  obtain ⟨v, _, ⟨T', L', k', n'⟩, -, X', hS', hg', ⟨Lc, ⟨⟨hq, hr⟩, hn⟩, e1, e2, e3⟩, st⟩ := callSS X hx (y := y) hown (mvT (s := s.setVm vm0) hZ w1) (mvT (s := s.setVm vm0) hZ w2) (mvT (s := s.setVm vm0) hZ w3) (mvT (s := s.setVm vm0) hZ w4) hy (backOfV (W := W) (s := s) hM hZ w4 w3 hf hl hEL hC hSl hSs) hg hsize hlen hs hW hd (fun _ _ => ⟨ha, eT, hc, hsl⟩)
  dsimp only [Pt.U, Pt.locs, Pt.cells, Pt.slots] at X' hS' hg' e1 e2 e3 st hq hr
  subst e1 e2 e3
  obtain ⟨r1, r2, r3, r4⟩ := rebS hS hk X' hS' hg' hZ hown
  exact ⟨v, T', Lc, r1, r2, r3, r4, hr, hq, hn, fun t k => st.trans k⟩
theorem callSpW (X : Stand p l e R (s.setVm vm0) m args below meth c T locs cells slots) (hx : p.tables.exec = Jvm.exec) (hZ : Z.Warmed39 vm0) (hown : vm0.findClass own = some m.cls) (hS : s.Since vm0 k0) (hk : k0 ≤ T.heap.size) (hEL : EW Z a0 EL) (hC : CHv Z EL vm0 h) (hSl : ∀ x ∈ SL, x < h.size) (hSs : ∀ x ∈ SL, Safe Z EL vm0 h x) (hM : METW l Z y bytes maxL none rm as' EL SL h n0 Qc) (hin : y.name = "<init>") (w1 : (Jvm.Cond.methodLink own index y).before a0 Z = true) (w2 : (Jvm.Cond.instanceMethod y).before a0 Z = true) (w3 : (Jvm.Cond.initialized y.cls).before a0 Z = true) (w4 : (Jvm.Cond.code y bytes maxL none).before a0 Z = true)
    (hy : y.cls ≠ "java/lang/invoke/MethodHandle" ∧ y.cls ≠ "java/lang/invoke/VarHandle") (eT : T.heap = h) (hf : rm.frames + 1 ≤ R.frames) (hl : W + (maxL + 11) + rm.locals ≤ R.locals) (hc : cells + rm.cells ≤ R.cells) (hsl : slots + rm.slots ≤ R.slots)
    (hg : g.method = m) (hsize : g.locals.size = c.maxLocals) (ha : (Value.ref a :: argsL).toArray = as') (hlen : ∀ sig, parseMethodDescriptor y.desc = some sig → argsL.length = sig.parameters.length) (hs : g.stack = argsL.reverse ++ .ref a :: rest) (hW : 2 * g.monitorRoom + (rest.map fun v => v.category).sum ≤ W) (hd : decode c.code g.pc = .ok (.invokespecial index, 3)) :
    ∃ (v : Option Value) (T' : State) (L : List Loc), Stand p l e R (s.setVm T'.vm) m args below meth c T' (locs ++ L) (cells + rm.cells) (slots + rm.slots) ∧ s.Since T'.vm T'.heap.size ∧ Z.Warmed39 T'.vm ∧ T'.vm.findClass own = some m.cls ∧ CHr Z EL vm0 h T'.vm T'.heap ∧ Qc v T'.heap ∧ Fr n0 L ∧ ∀ t, Steps p.tables e below (T'.setTop { g with pc := g.pc + 3, stack := v.toList ++ rest }) t → Steps p.tables e below (T.setTop g) t := by
  obtain ⟨v, _, ⟨T', L', k', n'⟩, -, X', hS', hg', ⟨Lc, ⟨⟨hq, hr⟩, hn⟩, e1, e2, e3⟩, st⟩ := X.specialBackS hx (y := y) hin hown (mvT (s := s.setVm vm0) hZ w1) (mvT (s := s.setVm vm0) hZ w2) (mvT (s := s.setVm vm0) hZ w4) hy (backOfV (W := W) (s := s) hM hZ w4 w3 hf hl hEL hC hSl hSs) hg hsize (Steps.refl _) (a := a) (argsL := argsL) (rest := rest) hlen hs hW hd (fun _ _ => ⟨ha, eT, hc, hsl⟩)
  dsimp only [Pt.U, Pt.locs, Pt.cells, Pt.slots] at X' hS' hg' e1 e2 e3 st hq hr
  subst e1 e2 e3
  obtain ⟨r1, r2, r3, r4⟩ := rebS hS hk X' hS' hg' hZ hown
  exact ⟨v, T', Lc, r1, r2, r3, r4, hr, hq, hn, fun t k => st.trans k⟩
theorem callViW (X : Stand p l e R (s.setVm vm0) m args below meth c T locs cells slots) (hx : p.tables.exec = Jvm.exec) (hZ : Z.Warmed39 vm0) (hown : vm0.findClass own = some m.cls) (hS : s.Since vm0 k0) (hk : k0 ≤ T.heap.size) (hEL : EW Z a0 EL) (hC : CHv Z EL vm0 h) (hSl : ∀ x ∈ SL, x < h.size) (hSs : ∀ x ∈ SL, Safe Z EL vm0 h x) (hM : METW l Z z bytes maxL ret rm as' EL SL h n0 Qc) (w1 : (Jvm.Cond.methodLink own index y).before a0 Z = true) (w2 : (Jvm.Cond.declares y).before a0 Z = true) (nf : NotFace (s.setVm vm0) y) (w5 : (Jvm.Cond.selects C y z).before a0 Z = true) (w6 : (Jvm.Cond.instanceMethod z).before a0 Z = true) (w3 : (Jvm.Cond.initialized z.cls).before a0 Z = true) (w4 : (Jvm.Cond.code z bytes maxL ret).before a0 Z = true)
    (hy : y.cls ≠ "java/lang/invoke/MethodHandle" ∧ y.cls ≠ "java/lang/invoke/VarHandle") (eT : T.heap = h) (E : Exa Z h a C) (hf : rm.frames + 1 ≤ R.frames) (hl : W + (maxL + 11) + rm.locals ≤ R.locals) (hc : cells + rm.cells ≤ R.cells) (hsl : slots + rm.slots ≤ R.slots)
    (hg : g.method = m) (hsize : g.locals.size = c.maxLocals) (ha : (Value.ref a :: argsL).toArray = as') (hlen : ∀ sig, parseMethodDescriptor y.desc = some sig → argsL.length = sig.parameters.length) (hs : g.stack = argsL.reverse ++ .ref a :: rest) (hW : 2 * g.monitorRoom + (rest.map fun v => v.category).sum ≤ W) (hd : decode c.code g.pc = .ok (.invokevirtual index, 3)) :
    ∃ (v : Option Value) (T' : State) (L : List Loc), Stand p l e R (s.setVm T'.vm) m args below meth c T' (locs ++ L) (cells + rm.cells) (slots + rm.slots) ∧ s.Since T'.vm T'.heap.size ∧ Z.Warmed39 T'.vm ∧ T'.vm.findClass own = some m.cls ∧ CHr Z EL vm0 h T'.vm T'.heap ∧ Qc v T'.heap ∧ Fr n0 L ∧ ∀ t, Steps p.tables e below (T'.setTop { g with pc := g.pc + 3, stack := v.toList ++ rest }) t → Steps p.tables e below (T.setTop g) t := by
  obtain ⟨cq, kq, qa, qb, qc⟩ := isOf (s := s.setVm vm0) hZ eT E
  obtain ⟨v, _, ⟨T', L', k', n'⟩, -, X', hS', hg', ⟨Lc, ⟨⟨hq, hr⟩, hn⟩, e1, e2, e3⟩, st⟩ := X.virtualBackS hx (y := y) (z := z) hown (mvT (s := s.setVm vm0) hZ w1) (mvT (s := s.setVm vm0) hZ w2) nf (mvT (s := s.setVm vm0) hZ w5) (mvT (s := s.setVm vm0) hZ w6) hy (backOfV (W := W) (s := s) hM hZ w4 w3 hf hl hEL hC hSl hSs) qa qc hg hsize (Steps.refl _) (argsL := argsL) (rest := rest) hlen hs hW hd (fun _ _ => ⟨ha, eT, hc, hsl⟩)
  dsimp only [Pt.U, Pt.locs, Pt.cells, Pt.slots] at X' hS' hg' e1 e2 e3 st hq hr
  subst e1 e2 e3
  obtain ⟨r1, r2, r3, r4⟩ := rebS hS hk X' hS' hg' hZ hown
  exact ⟨v, T', Lc, r1, r2, r3, r4, hr, hq, hn, fun t k => st.trans k⟩
end Calls
end OwnWide
end Jvm.RoadKit

/-! calls by a premise 'Back' (the kit's String laws), and what is no instance -/
namespace Jvm.RoadKit
open Sem ClassFile Op Lib Jvm.Stand Jvm.Free Jvm.LawKit
section OwnBack
variable {p : Program} {l : Launch} {e : Env} {R : Room} {s : State} {m : MethodId} {args : Array Value} {below : List Frame} {meth : Method} {c : Code} {T : State} {locs : List Loc} {cells slots : Nat} {Z : State} {a0 : Array Value} {h : Heap} {own C : String} {index : Nat} {y z : MethodName} {bytes : ByteArray} {maxL : Nat} {as' : Array Value} {Qb : Option Value → Heap → List Loc → Prop} {W rc rs : Nat} {g : JFrame} {argsL rest : List Value} {a : Addr}
theorem callSpB (X : Stand p l e R s m args below meth c T locs cells slots) (hx : p.tables.exec = Jvm.exec) (hZ : Z.Warmed39 s.vm) (hown : s.vm.findClass own = some m.cls)
    (hB : Back l R p e below s args y 3 W (fun P b => b = as' ∧ P.U.heap = h ∧ P.cells + rc ≤ R.cells ∧ P.slots + rs ≤ R.slots) (fun P _ v B => ∃ L, Qb v B.U.heap L ∧ B.locs = P.locs ++ L ∧ B.cells = P.cells + rc ∧ B.slots = P.slots + rs))
    (hin : y.name = "<init>") (w1 : (Jvm.Cond.methodLink own index y).before a0 Z = true) (w2 : (Jvm.Cond.instanceMethod y).before a0 Z = true) (w4 : (Jvm.Cond.code y bytes maxL none).before a0 Z = true)
    (hy : y.cls ≠ "java/lang/invoke/MethodHandle" ∧ y.cls ≠ "java/lang/invoke/VarHandle") (eT : T.heap = h) (hc : cells + rc ≤ R.cells) (hsl : slots + rs ≤ R.slots)
    (hg : g.method = m) (hsize : g.locals.size = c.maxLocals) (ha : (Value.ref a :: argsL).toArray = as') (hlen : ∀ sig, parseMethodDescriptor y.desc = some sig → argsL.length = sig.parameters.length) (hs : g.stack = argsL.reverse ++ .ref a :: rest) (hW : 2 * g.monitorRoom + (rest.map fun v => v.category).sum ≤ W) (hd : decode c.code g.pc = .ok (.invokespecial index, 3)) :
    ∃ (v : Option Value) (T' : State) (L : List Loc), Stand p l e R s m args below meth c T' (locs ++ L) (cells + rc) (slots + rs) ∧ Qb v T'.heap L ∧ ∀ t, Steps p.tables e below (T'.setTop { g with pc := g.pc + 3, stack := v.toList ++ rest }) t → Steps p.tables e below (T.setTop g) t := by
  obtain ⟨v, _, ⟨T', L', k', n'⟩, -, X', ⟨Lc, hq, e1, e2, e3⟩, st⟩ := X.specialBack hx (y := y) hin hown (mvT hZ w1) (mvT hZ w2) (mvT hZ w4) hy hB hg hsize (Steps.refl _) (a := a) (argsL := argsL) (rest := rest) hlen hs hW hd (fun _ _ => ⟨ha, eT, hc, hsl⟩)
  dsimp only [Pt.U, Pt.locs, Pt.cells, Pt.slots] at X' e1 e2 e3 st hq
  subst e1 e2 e3
  exact ⟨v, T', Lc, X', hq, fun t k => st.trans k⟩
theorem callViB (X : Stand p l e R s m args below meth c T locs cells slots) (hx : p.tables.exec = Jvm.exec) (hZ : Z.Warmed39 s.vm) (hown : s.vm.findClass own = some m.cls)
    (hB : Back l R p e below s args z 3 W (fun P b => b = as' ∧ P.U.heap = h ∧ P.cells + rc ≤ R.cells ∧ P.slots + rs ≤ R.slots) (fun P _ v B => ∃ L, Qb v B.U.heap L ∧ B.locs = P.locs ++ L ∧ B.cells = P.cells + rc ∧ B.slots = P.slots + rs))
    (w1 : (Jvm.Cond.methodLink own index y).before a0 Z = true) (w2 : (Jvm.Cond.declares y).before a0 Z = true) (nf : NotFace s y) (w5 : (Jvm.Cond.selects C y z).before a0 Z = true) (w6 : (Jvm.Cond.instanceMethod z).before a0 Z = true)
    (hy : y.cls ≠ "java/lang/invoke/MethodHandle" ∧ y.cls ≠ "java/lang/invoke/VarHandle") (eT : T.heap = h) (E : Exa Z h a C) (hc : cells + rc ≤ R.cells) (hsl : slots + rs ≤ R.slots)
    (hg : g.method = m) (hsize : g.locals.size = c.maxLocals) (ha : (Value.ref a :: argsL).toArray = as') (hlen : ∀ sig, parseMethodDescriptor y.desc = some sig → argsL.length = sig.parameters.length) (hs : g.stack = argsL.reverse ++ .ref a :: rest) (hW : 2 * g.monitorRoom + (rest.map fun v => v.category).sum ≤ W) (hd : decode c.code g.pc = .ok (.invokevirtual index, 3)) :
    ∃ (v : Option Value) (T' : State) (L : List Loc), Stand p l e R s m args below meth c T' (locs ++ L) (cells + rc) (slots + rs) ∧ Qb v T'.heap L ∧ ∀ t, Steps p.tables e below (T'.setTop { g with pc := g.pc + 3, stack := v.toList ++ rest }) t → Steps p.tables e below (T.setTop g) t := by
  obtain ⟨cq, kq, qa, qb, qc⟩ := isOf hZ eT E
  obtain ⟨v, _, ⟨T', L', k', n'⟩, -, X', ⟨Lc, hq, e1, e2, e3⟩, st⟩ := X.virtualBack hx (y := y) (z := z) hown (mvT hZ w1) (mvT hZ w2) nf (mvT hZ w5) (mvT hZ w6) hy hB qa qc hg hsize (Steps.refl _) (argsL := argsL) (rest := rest) hlen hs hW hd (fun _ _ => ⟨ha, eT, hc, hsl⟩)
  dsimp only [Pt.U, Pt.locs, Pt.cells, Pt.slots] at X' e1 e2 e3 st hq
  subst e1 e2 e3
  exact ⟨v, T', Lc, X', hq, fun t k => st.trans k⟩
theorem noInst {K : String} {nk : Nat} (w : (Jvm.Cond.superclass C "java/lang/Object").before a0 Z = true) (wo : (Jvm.Cond.noSuperclass "java/lang/Object").before a0 Z = true) (wk : (Jvm.Cond.instantiable K nk).before a0 Z = true) (hn : C ≠ K) (hn2 : "java/lang/Object" ≠ K) : ∃ c t, Z.vm.findClass C = some c ∧ Z.vm.findClass K = some t ∧ Z.vm.assignable c t = false := by
  obtain ⟨t, kt, g1, g2, g3, g4, -⟩ := Cond.instantiable_spec wk
  obtain ⟨o, ko, o1, o2, o3, -⟩ := Cond.noSuperclass_spec wo
  obtain ⟨c, h0⟩ := found_sup w
  obtain ⟨p, k, kp, h1, h2, h3, h4, h5, -, h7⟩ := Cond.superclass_spec h0 w
  cases o1.symm.trans h1
  have ne := ids_ne h0 g1 hn
  have ne2 := ids_ne o1 g1 hn2
  have g5 : kt.isInterface = false := by
    revert g4
    cases kt.isInterface <;> simp
  refine ⟨c, t, h0, g1, ?_⟩
  have n3 : ∀ fuel, Z.vm.isSubclassAux fuel c t = false := fun fuel => by
    cases fuel with
    | zero => rfl
    | succ f =>
      cases f with
      | zero => simp [Vm.isSubclassAux, ne, h2, h4]
      | succ f => simp [Vm.isSubclassAux, ne, h2, h4, ne2, o2, o3]
  show Z.vm.assignableAux (255 + 1) c t = false
  simp [Vm.assignableAux, ne, h2, g2, h5, g3, g5, Vm.isSubclass, n3]
theorem ch0 {k : Int32} : ∀ x ∈ ([] : List Int32), ¬ x < 0 ∧ ¬ k < x := fun _ q => nomatch q
theorem chS {k x : Int32} {xs : List Int32} (h : ¬ x < 0 ∧ ¬ k < x) (r : ∀ x ∈ xs, ¬ x < 0 ∧ ¬ k < x) : ∀ y ∈ x :: xs, ¬ y < 0 ∧ ¬ k < y := fun y q => by
  rcases List.mem_cons.mp q with rfl | q
  · exact h
  · exact r y q
theorem up65 {xs : List Int32} (r : ∀ x ∈ xs, ¬ x < 0 ∧ ¬ (255 : Int32) < x) : ∀ x ∈ xs, ¬ x < 0 ∧ ¬ (65535 : Int32) < x := fun x q => by
  have h := r x q
  have e0 : (255 : Int32).toInt = 255 := by decide
  have e1 : (65535 : Int32).toInt = 65535 := by decide
  refine ⟨h.1, ?_⟩
  have h2 := h.2
  rw [Int32.lt_iff_toInt_lt] at h2 ⊢
  omega
theorem i2c_in {x : Int32} (h : ¬ x < 0 ∧ ¬ (255 : Int32) < x) : x.toUInt32.toUInt16.toUInt32.toInt32 = x := by
  have q := c_i2c x
  have e0 : (255 : Int32).toInt = 255 := by decide
  have e1 : (0 : Int32).toInt = 0 := by decide
  have h1 := h.1
  have h2 := h.2
  rw [Int32.lt_iff_toInt_lt] at h1 h2
  apply Int32.toInt_inj.mp
  omega
theorem narc_in {x : Int32} (h : ¬ x < 0 ∧ ¬ (255 : Int32) < x) : nar .char x = x := i2c_in h
theorem m255_in (x : Int32) : ¬ (x &&& (255 : Int32)) < 0 ∧ ¬ (255 : Int32) < x &&& (255 : Int32) := by
  have h := c_mask x 255 8 (by decide) (by decide)
  have e0 : (255 : Int32).toInt = 255 := by decide
  have e1 : (0 : Int32).toInt = 0 := by decide
  rw [Int32.lt_iff_toInt_lt, Int32.lt_iff_toInt_lt, h]
  omega
end OwnBack
end Jvm.RoadKit

/- laws to paste: Road.backV, Road.eqW, Road.codOf (cut by pick.py; bodies as the Statement names them) -/
namespace Jvm.Pilot.@@N@@
namespace StrChars
open Jvm Sem ClassFile Op Lib Jvm.Stand Jvm.Free.XT Jvm.Free.ALB Jvm.Free.JM Jvm.Free
open Jvm.Lib.Cold (StaticIs)
/-- a char array whose places are chars -/
def Ch (a : Addr) (A : Cell) (U : State) : Prop := Arr .char a A U ∧ Typed .char A
theorem Ch.mv {a : Addr} {A : Cell} {U U' : State} (h : Ch a A U) (hal : U.vm.Alike U'.vm) (hh : U'.heap = U.heap) : Ch a A U' := ⟨h.1.mv hal hh, h.2⟩
theorem Ch.keep {a : Addr} {A : Cell} {U U' : State} (h : Ch a A U) (hal : U.vm.Alike U'.vm) (hk : U'.heap[a]? = some A) : Ch a A U' := ⟨h.1.keep hal hk, h.2⟩
/-- what place i of a char[]'s cell holds -/
def cv (A : Cell) (i : Nat) : Int32 := match A.slots[i]? with | some (.int x) => x | _ => 0
theorem Ch.get {a : Addr} {A : Cell} {U : State} (h : Ch a A U) {i : Nat} (hi : i < A.slots.size) : A.slots[i]? = some (.int (cv A i)) := by
  have e := Array.getElem?_eq_getElem hi
  have f := h.2 i _ e
  unfold cv; rw [e]
  generalize A.slots[i] = v at f
  cases v <;> simp [fits] at f ⊢
/-- the byte that i2b leaves of a char -/
def lo8 (x : Int32) : Int32 := x.toInt8.toInt32
theorem fits_lo8 (y : Int32) : fits .byte (.int (lo8 y)) = true := by
  have h1 := y.toInt8.le_toInt
  have h2 := y.toInt8.toInt_lt
  simp only [lo8, fits, Bool.and_eq_true, decide_eq_true_eq, Int32.le_iff_toInt_le, Int8.toInt_toInt32, show (-128 : Int32).toInt = -128 from by decide, show (127 : Int32).toInt = 127 from by decide]
  omega
/-- A' is A but that each place j of lo .. hi - 1 holds f j -/
def Laid (A A' : Cell) (lo hi : Nat) (f : Nat → Value) : Prop := A'.cls = A.cls ∧ A'.vm = A.vm ∧ A'.slots.size = A.slots.size ∧ ∀ i, A'.slots[i]? = if lo ≤ i ∧ i < hi then some (f i) else A.slots[i]?
theorem Laid.zero (A : Cell) (lo : Nat) (f : Nat → Value) : Laid A A lo (lo + 0) f := ⟨rfl, rfl, rfl, fun i => by rw [if_neg (by omega)]⟩
theorem Laid.step {A Ak : Cell} {lo k : Nat} {f : Nat → Value} {v : Value} (h : Laid A Ak lo k f) (hlo : lo ≤ k) (hk : k < Ak.slots.size) (hv : v = f k) : Laid A (Ak.setSlot k v) lo (k + 1) f := by
  refine ⟨h.1, h.2.1, by simpa [Cell.setSlot] using h.2.2.1, fun i => ?_⟩
  by_cases e : k = i
  · subst e; rw [Cell.slots_setSlot_self v hk, if_pos (by omega), hv]
  · rw [Cell.slots_setSlot_ne v e, h.2.2.2 i]
    by_cases q : lo ≤ i ∧ i < k
    · rw [if_pos q, if_pos (by omega)]
    · rw [if_neg q, if_neg (by omega)]
def U16 : String := "java/lang/StringUTF16"
namespace Cmp5
def yN : MethodName := ⟨"java/lang/StringUTF16", "compress", "([CI[BII)I"⟩
abbrev yB : ByteArray := jdk_52_method_21_code
theorem d0 : decode yB 0 = .ok (.iconst 0, 1) := by decide +kernel
theorem d1 : decode yB 1 = .ok (.istore 5, 2) := by decide +kernel
theorem d3 : decode yB 3 = .ok (.iload 5, 2) := by decide +kernel
theorem d5 : decode yB 5 = .ok (.iload 4, 2) := by decide +kernel
theorem d7 : decode yB 7 = .ok (.if_icmp (.ge) 37, 3) := by decide +kernel
theorem d10 : decode yB 10 = .ok (.aload_n 0, 1) := by decide +kernel
theorem d11 : decode yB 11 = .ok (.iload_n 1, 1) := by decide +kernel
theorem d12 : decode yB 12 = .ok (.caload, 1) := by decide +kernel
theorem d13 : decode yB 13 = .ok (.istore 6, 2) := by decide +kernel
theorem d15 : decode yB 15 = .ok (.iload 6, 2) := by decide +kernel
theorem d17 : decode yB 17 = .ok (.sipush 255, 3) := by decide +kernel
theorem d20 : decode yB 20 = .ok (.if_icmp (.le) 6, 3) := by decide +kernel
theorem d26 : decode yB 26 = .ok (.aload_n 2, 1) := by decide +kernel
theorem d27 : decode yB 27 = .ok (.iload_n 3, 1) := by decide +kernel
theorem d28 : decode yB 28 = .ok (.iload 6, 2) := by decide +kernel
theorem d30 : decode yB 30 = .ok (.i2b, 1) := by decide +kernel
theorem d31 : decode yB 31 = .ok (.bastore, 1) := by decide +kernel
theorem d32 : decode yB 32 = .ok (.iinc 1 1, 3) := by decide +kernel
theorem d35 : decode yB 35 = .ok (.iinc 3 1, 3) := by decide +kernel
theorem d38 : decode yB 38 = .ok (.iinc 5 1, 3) := by decide +kernel
theorem d41 : decode yB 41 = .ok (.goto (-38), 3) := by decide +kernel
theorem d44 : decode yB 44 = .ok (.iload 4, 2) := by decide +kernel
theorem d46 : decode yB 46 = .ok (.ireturn, 1) := by decide +kernel
def site : List Cond := []
def tab : Cond := tabOf yN yB 7 (some .int) site
def P (b : Addr) (A : Cell) (d : Addr) (B : Cell) (o q len : Nat) (args : Array Value) (s : State) : Prop := args = #[.ref b, .int (Int32.ofNat o), .ref d, .int (Int32.ofNat q), .int (Int32.ofNat len)] ∧ Ch b A s ∧ Arr .byte d B s ∧ b ≠ d ∧ o + len ≤ A.slots.size ∧ q + len ≤ B.slots.size ∧ ∀ i, i < len → ¬ 255 < cv A (o + i)
def E (b : Addr) (A : Cell) (d : Addr) (B : Cell) (o q len : Nat) (r : Option Value) (s u : State) : Prop := r = some (.int (Int32.ofNat len)) ∧ ∃ B', Put d B' s u ∧ Laid B B' q (q + len) (fun j => Value.int (lo8 (cv A (o + (j - q)))))
/-- no char of the range above 255: len; the places written hold each char's low byte -/
theorem law (l : Launch) (b : Addr) (A : Cell) (d : Addr) (B : Cell) (o q len : Nat) : Law l yN 5 5 0 0 yB 7 (some .int) site (P b A d B o q len) (E b A d B o q len) (copyLocs d q len) 0 0 := by
  refine Law.of_walk (plainFor_of_name (by decide +kernel)) (by decide +kernel) (by decide +kernel) (by decide) (fun _ _ h => by rw [h.1]; rfl) (fun _ U U' hal hh h => ⟨h.1, h.2.1.mv hal hh, h.2.2.1.mv hal hh, h.2.2.2⟩) (fun r U U' V V' h1 hal h2 h => ⟨h.1, h.2.elim fun B' q => ⟨B', q.1.mv h1 h2, q.2⟩⟩) ?_
  intro p e s m args below meth c s₁ X0 hexec hbytes hml hret hlk hnm hown hh0 W hP
  obtain ⟨rfl, hA, hB, hne, l1, l2, hp⟩ := hP
  have c1 : Steps p.tables e below (s₁.setTop (entryFrame m #[.ref b, .int (Int32.ofNat o), .ref d, .int (Int32.ofNat q), .int (Int32.ofNat len)] 7)) (s₁.setTop (mkF m 0 #[.val (.ref b), .val (.int (Int32.ofNat o)), .val (.ref d), .val (.int (Int32.ofNat q)), .val (.int (Int32.ofNat len)), .unset, .unset] [])) := entry rfl
  have hA0 := hA.1.mv X0.warmed.alike hh0
  have hB0 := hB.mv X0.warmed.alike hh0
  have a31 := hA.1.2.2.2
  have c2 : Steps p.tables e below (s₁.setTop (entryFrame m #[.ref b, .int (Int32.ofNat o), .ref d, .int (Int32.ofNat q), .int (Int32.ofNat len)] 7)) (s₁.setTop (mkF m 3 #[.val (.ref b), .val (.int (Int32.ofNat o)), .val (.ref d), .val (.int (Int32.ofNat q)), .val (.int (Int32.ofNat len)), .val (.int 0), .unset] [])) := c1.trans (by
    refine iconstV X0.here hexec rfl 0 (hb hbytes d0) (by decide) ?_
    refine XS.istore X0.here hexec rfl (hb hbytes d1) rfl rfl ?_
    exact Steps.refl _)
  have loop : ∀ (r i : Nat), i + r = len → ∀ (z : Slot), (z = .unset ∨ ∃ w, z = .val w ∧ w.category = 1) → ∀ (Tl : State) (Bk : Cell), Stand p l e { frames := 0, locals := 0, cells := 0, slots := 0 } s m #[.ref b, .int (Int32.ofNat o), .ref d, .int (Int32.ofNat q), .int (Int32.ofNat len)] below meth c Tl ([] ++ copyLocs d q i) 0 0 → Put d Bk s₁ Tl → Laid B Bk q (q + i) (fun j => Value.int (lo8 (cv A (o + (j - q))))) →
      Steps p.tables e below (s₁.setTop (entryFrame m #[.ref b, .int (Int32.ofNat o), .ref d, .int (Int32.ofNat q), .int (Int32.ofNat len)] 7)) (Tl.setTop (mkF m 3 #[.val (.ref b), .val (.int (Int32.ofNat (o + i))), .val (.ref d), .val (.int (Int32.ofNat (q + i))), .val (.int (Int32.ofNat len)), .val (.int (Int32.ofNat i)), z] [])) → ∃ (T' : State) (B' : Cell) (z' : Slot), Stand p l e { frames := 0, locals := 0, cells := 0, slots := 0 } s m #[.ref b, .int (Int32.ofNat o), .ref d, .int (Int32.ofNat q), .int (Int32.ofNat len)] below meth c T' ([] ++ copyLocs d q len) 0 0 ∧ Put d B' s₁ T' ∧ Laid B B' q (q + len) (fun j => Value.int (lo8 (cv A (o + (j - q))))) ∧
      Steps p.tables e below (s₁.setTop (entryFrame m #[.ref b, .int (Int32.ofNat o), .ref d, .int (Int32.ofNat q), .int (Int32.ofNat len)] 7)) (T'.setTop (mkF m 3 #[.val (.ref b), .val (.int (Int32.ofNat (o + len))), .val (.ref d), .val (.int (Int32.ofNat (q + len))), .val (.int (Int32.ofNat len)), .val (.int (Int32.ofNat len)), z'] [])) := by
    intro r
    induction r with
    | zero =>
      intro i hi z hz Tl Bk Xl pl fl cl
      have hil : i = len := by omega
      rw [hil] at Xl fl cl
      exact ⟨Tl, Bk, z, Xl, pl, fl, cl⟩
    | succ r ih =>
      intro i hi z hz Tl Bk Xl pl fl cl
      have all := X0.warmed.alike.symm.trans Xl.warmed.alike
      have hAl := hA0.keep all (pl.other hne hA0.1)
      have hBk := hB0.like all pl.1 fl.1 fl.2.1 fl.2.2.1
      have hlt : q + i < Bk.slots.size := by rw [fl.2.2.1]; omega
      have c3 : Steps p.tables e below (s₁.setTop (entryFrame m #[.ref b, .int (Int32.ofNat o), .ref d, .int (Int32.ofNat q), .int (Int32.ofNat len)] 7)) (Tl.setTop (mkF m 12 #[.val (.ref b), .val (.int (Int32.ofNat (o + i))), .val (.ref d), .val (.int (Int32.ofNat (q + i))), .val (.int (Int32.ofNat len)), .val (.int (Int32.ofNat i)), z] [.int (Int32.ofNat (o + i)), .ref b])) := cl.trans (by
        refine XS.iload Xl.here hexec rfl (hb hbytes d3) rfl ?_
        refine XS.iload Xl.here hexec rfl (hb hbytes d5) rfl ?_
        refine XS.icmpNo Xl.here hexec rfl (hb hbytes d7) rfl (ii_ge_f (lt32 (by omega) (by omega))) ?_
        refine XS.aloadN Xl.here hexec rfl (hb hbytes d10) rfl rfl ?_
        refine XS.iloadN Xl.here hexec rfl (hb hbytes d11) rfl ?_
        exact Steps.refl _)
      have c4 : Steps p.tables e below (s₁.setTop (entryFrame m #[.ref b, .int (Int32.ofNat o), .ref d, .int (Int32.ofNat q), .int (Int32.ofNat len)] 7)) (Tl.setTop (mkF m 13 #[.val (.ref b), .val (.int (Int32.ofNat (o + i))), .val (.ref d), .val (.int (Int32.ofNat (q + i))), .val (.int (Int32.ofNat len)), .val (.int (Int32.ofNat i)), z] [.int (cv A (o + i))])) := c3.trans (by
        refine Xl.aget hexec hAl rfl (hA.get (i := o + i) (by omega)) rfl rfl (hb hbytes d12) ?_
        exact Steps.refl _)
      have c5 : Steps p.tables e below (s₁.setTop (entryFrame m #[.ref b, .int (Int32.ofNat o), .ref d, .int (Int32.ofNat q), .int (Int32.ofNat len)] 7)) (Tl.setTop (mkF m 15 #[.val (.ref b), .val (.int (Int32.ofNat (o + i))), .val (.ref d), .val (.int (Int32.ofNat (q + i))), .val (.int (Int32.ofNat len)), .val (.int (Int32.ofNat i)), .val (.int (cv A (o + i)))] [])) := c4.trans (by
        refine XS.istoreS Xl.here hexec rfl (hb hbytes d13) rfl rfl hz ?_
        exact Steps.refl _)
      have c6 : Steps p.tables e below (s₁.setTop (entryFrame m #[.ref b, .int (Int32.ofNat o), .ref d, .int (Int32.ofNat q), .int (Int32.ofNat len)] 7)) (Tl.setTop (mkF m 31 #[.val (.ref b), .val (.int (Int32.ofNat (o + i))), .val (.ref d), .val (.int (Int32.ofNat (q + i))), .val (.int (Int32.ofNat len)), .val (.int (Int32.ofNat i)), .val (.int (cv A (o + i)))] [.int (lo8 (cv A (o + i))), .int (Int32.ofNat (q + i)), .ref d])) := c5.trans (by
        refine XS.iload Xl.here hexec rfl (hb hbytes d15) rfl ?_
        refine sipushV Xl.here hexec rfl 255 (hb hbytes d17) (by decide) ?_
        refine XS.icmpYes Xl.here hexec rfl (pc0 := 20) rfl (hb hbytes d20) rfl (ii_le_t (hp i (by omega))) (by decide) rfl ?_
        refine XS.aloadN Xl.here hexec rfl (hb hbytes d26) rfl rfl ?_
        refine XS.iloadN Xl.here hexec rfl (hb hbytes d27) rfl ?_
        refine XS.iload Xl.here hexec rfl (hb hbytes d28) rfl ?_
        refine i2b Xl.here hexec rfl (hb hbytes d30) rfl ?_
        exact Steps.refl _)
      obtain ⟨T7, X7, p7, st7⟩ := Xl.aput hexec hBk rfl hlt rfl (fits_lo8 (cv A (o + i))) (g := (mkF m 31 #[.val (.ref b), .val (.int (Int32.ofNat (o + i))), .val (.ref d), .val (.int (Int32.ofNat (q + i))), .val (.int (Int32.ofNat len)), .val (.int (Int32.ofNat i)), .val (.int (cv A (o + i)))] [.int (lo8 (cv A (o + i))), .int (Int32.ofNat (q + i)), .ref d])) rfl (rest := []) rfl (hb hbytes d31)
      have c8 : Steps p.tables e below (s₁.setTop (entryFrame m #[.ref b, .int (Int32.ofNat o), .ref d, .int (Int32.ofNat q), .int (Int32.ofNat len)] 7)) (T7.setTop (mkF m 32 #[.val (.ref b), .val (.int (Int32.ofNat (o + i))), .val (.ref d), .val (.int (Int32.ofNat (q + i))), .val (.int (Int32.ofNat len)), .val (.int (Int32.ofNat i)), .val (.int (cv A (o + i)))] [])) := c6.trans (st7 _ (Steps.refl _))
      have c9 : Steps p.tables e below (s₁.setTop (entryFrame m #[.ref b, .int (Int32.ofNat o), .ref d, .int (Int32.ofNat q), .int (Int32.ofNat len)] 7)) (T7.setTop (mkF m 3 #[.val (.ref b), .val (.int (Int32.ofNat (o + i) + 1)), .val (.ref d), .val (.int (Int32.ofNat (q + i) + 1)), .val (.int (Int32.ofNat len)), .val (.int (Int32.ofNat i + 1)), .val (.int (cv A (o + i)))] [])) := c8.trans (by
        refine iincV X7.here hexec rfl 1 (hb hbytes d32) (by decide) rfl rfl ?_
        refine iincV X7.here hexec rfl 1 (hb hbytes d35) (by decide) rfl rfl ?_
        refine iincV X7.here hexec rfl 1 (hb hbytes d38) (by decide) rfl rfl ?_
        refine XS.goto X7.here hexec rfl (pc0 := 41) rfl (hb hbytes d41) (by decide) rfl ?_
        exact Steps.refl _)
      have c10 : Steps p.tables e below (s₁.setTop (entryFrame m #[.ref b, .int (Int32.ofNat o), .ref d, .int (Int32.ofNat q), .int (Int32.ofNat len)] 7)) (T7.setTop (mkF m 3 #[.val (.ref b), .val (.int (Int32.ofNat (o + (i + 1)))), .val (.ref d), .val (.int (Int32.ofNat (q + (i + 1)))), .val (.int (Int32.ofNat len)), .val (.int (Int32.ofNat (i + 1))), .val (.int (cv A (o + i)))] [])) := by
        have := c9
        rw [succ32, succ32, succ32] at this
        exact this
      exact ih (i + 1) (by omega) _ (Or.inr ⟨_, rfl, rfl⟩) T7 _ (by rw [copyLocs_step, ← List.append_assoc]; exact X7) (pl.trans p7) (fl.step (by omega) hlt (by simp)) c10
  obtain ⟨T9, B9, z9, X9, p9, f9, g9⟩ := loop len 0 (by omega) .unset (Or.inl rfl) s₁ B (by simpa [copyLocs] using X0) ⟨hB0.1, fun _ _ => rfl, rfl⟩ (Laid.zero _ _ _) c2
  have c11 : Steps p.tables e below (s₁.setTop (entryFrame m #[.ref b, .int (Int32.ofNat o), .ref d, .int (Int32.ofNat q), .int (Int32.ofNat len)] 7)) (T9.setTop (mkF m 46 #[.val (.ref b), .val (.int (Int32.ofNat (o + len))), .val (.ref d), .val (.int (Int32.ofNat (q + len))), .val (.int (Int32.ofNat len)), .val (.int (Int32.ofNat len)), z9] [.int (Int32.ofNat len)])) := g9.trans (by
    refine XS.iload X9.here hexec rfl (hb hbytes d3) rfl ?_
    refine XS.iload X9.here hexec rfl (hb hbytes d5) rfl ?_
    refine XS.icmpYes X9.here hexec rfl (pc0 := 7) rfl (hb hbytes d7) rfl (ii_ge_t (nlt32 (by omega) (Nat.le_refl _))) (by decide) rfl ?_
    refine XS.iload X9.here hexec rfl (hb hbytes d44) rfl ?_
    exact Steps.refl _)
  exact ⟨T9, some (.int (Int32.ofNat len)), _, _, _, X9, by simp, rfl, rfl, (fun h => by cases h), ⟨rfl, B9, p9.from hh0, f9⟩, fun fs hl => c11.trans (X9.ireturnOut hexec hret rfl (Or.inl rfl) (hb hbytes d46) hl)⟩
end Cmp5
namespace Cmp3
def yN : MethodName := ⟨"java/lang/StringUTF16", "compress", "([CII)[B"⟩
abbrev yB : ByteArray := jdk_52_method_16_code
theorem d0 : decode yB 0 = .ok (.iload_n 2, 1) := by decide +kernel
theorem d1 : decode yB 1 = .ok (.newarray .byte, 2) := by decide +kernel
theorem d3 : decode yB 3 = .ok (.astore_n 3, 1) := by decide +kernel
theorem d4 : decode yB 4 = .ok (.aload_n 0, 1) := by decide +kernel
theorem d5 : decode yB 5 = .ok (.iload_n 1, 1) := by decide +kernel
theorem d6 : decode yB 6 = .ok (.aload_n 3, 1) := by decide +kernel
theorem d7 : decode yB 7 = .ok (.iconst 0, 1) := by decide +kernel
theorem d8 : decode yB 8 = .ok (.iload_n 2, 1) := by decide +kernel
theorem d9 : decode yB 9 = .ok (.invokestatic 115, 3) := by decide +kernel
theorem d12 : decode yB 12 = .ok (.istore 4, 2) := by decide +kernel
theorem d14 : decode yB 14 = .ok (.iload 4, 2) := by decide +kernel
theorem d16 : decode yB 16 = .ok (.iload_n 2, 1) := by decide +kernel
theorem d17 : decode yB 17 = .ok (.if_icmp (.eq) 40, 3) := by decide +kernel
theorem d57 : decode yB 57 = .ok (.aload_n 3, 1) := by decide +kernel
theorem d58 : decode yB 58 = .ok (.areturn, 1) := by decide +kernel
def site : List Cond := [.arrayClass .byte, Cmp5.tab] ++ staticW U16 115 Cmp5.yN
def tab : Cond := tabOf yN yB 6 (some (.array .byte)) site
def P (b : Addr) (A : Cell) (o len : Nat) (args : Array Value) (s : State) : Prop := args = #[.ref b, .int (Int32.ofNat o), .int (Int32.ofNat len)] ∧ Ch b A s ∧ o + len ≤ A.slots.size ∧ len ≤ 536870912 ∧ ∀ i, i < len → ¬ 255 < cv A (o + i)
def E (b : Addr) (A : Cell) (o len : Nat) (r : Option Value) (s u : State) : Prop := NewArr .byte "[B" len (fun j => .int (lo8 (cv A (o + j)))) r s u ∧ u.heap.size = s.heap.size + 1
/-- no char of the range above 255: a new byte[] of their low bytes -/
theorem law (l : Launch) (b : Addr) (A : Cell) (o len : Nat) : Law l yN 3 3 1 18 yB 6 (some (.array .byte)) site (P b A o len) (E b A o len) [] 1 len := by
  refine Law.of_walk (plainFor_of_name (by decide +kernel)) (by decide +kernel) (by decide +kernel) (by decide) (fun _ _ h => by rw [h.1]; rfl) (fun _ U U' hal hh h => ⟨h.1, h.2.1.mv hal hh, h.2.2⟩) (fun r U U' V V' h1 hal h2 h => ⟨NewArr.mv r U U' V V' h1 hal h2 h.1, by rw [h1, h2]; exact h.2⟩) ?_
  intro p e s m args below meth c s₁ X0 hexec hbytes hml hret hlk hnm hown hh0 W hP
  obtain ⟨rfl, hA, l1, l2, hp⟩ := hP
  have a31 := hA.1.2.2.2
  have c1 : Steps p.tables e below (s₁.setTop (entryFrame m #[.ref b, .int (Int32.ofNat o), .int (Int32.ofNat len)] 6)) (s₁.setTop (mkF m 0 #[.val (.ref b), .val (.int (Int32.ofNat o)), .val (.int (Int32.ofNat len)), .unset, .unset, .unset] [])) := entry rfl
  have c2 : Steps p.tables e below (s₁.setTop (entryFrame m #[.ref b, .int (Int32.ofNat o), .int (Int32.ofNat len)] 6)) (s₁.setTop (mkF m 1 #[.val (.ref b), .val (.int (Int32.ofNat o)), .val (.int (Int32.ofNat len)), .unset, .unset, .unset] [.int (Int32.ofNat len)])) := c1.trans (by
    refine XS.iloadN X0.here hexec rfl (hb hbytes d0) rfl ?_
    exact Steps.refl _)
  obtain ⟨T3, B3, X3, ba3, bs3, bv3, bh3, bf3, st3⟩ := X0.anew hexec (atype := .byte) (wk W (.arrayClass .byte)) rfl (by show len * 1 ≤ _; omega) (by omega) (g := (mkF m 1 #[.val (.ref b), .val (.int (Int32.ofNat o)), .val (.int (Int32.ofNat len)), .unset, .unset, .unset] [.int (Int32.ofNat len)])) rfl (hb hbytes d1) (rest := []) rfl (Nat.le_refl _) (by show 0 + len ≤ len; omega)
  rw [hh0] at ba3 st3
  have kp3 : XT.Kept s T3 := (XT.Kept.of_eq hh0).push bh3
  have hA3 := hA.keep X3.warmed.alike (kp3 _ _ hA.1.1)
  have hne : b ≠ s.heap.size := hA.1.ne
  have c4 : Steps p.tables e below (s₁.setTop (entryFrame m #[.ref b, .int (Int32.ofNat o), .int (Int32.ofNat len)] 6)) (T3.setTop (mkF m 3 #[.val (.ref b), .val (.int (Int32.ofNat o)), .val (.int (Int32.ofNat len)), .unset, .unset, .unset] [.ref s.heap.size])) := c2.trans (st3 _ (Steps.refl _))
  have c5 : Steps p.tables e below (s₁.setTop (entryFrame m #[.ref b, .int (Int32.ofNat o), .int (Int32.ofNat len)] 6)) (T3.setTop (mkF m 9 #[.val (.ref b), .val (.int (Int32.ofNat o)), .val (.int (Int32.ofNat len)), .val (.ref s.heap.size), .unset, .unset] [.int (Int32.ofNat len), .int 0, .ref s.heap.size, .int (Int32.ofNat o), .ref b])) := c4.trans (by
    refine XS.astoreN X3.here hexec rfl (hb hbytes d3) rfl rfl rfl ?_
    refine XS.aloadN X3.here hexec rfl (hb hbytes d4) rfl rfl ?_
    refine XS.iloadN X3.here hexec rfl (hb hbytes d5) rfl ?_
    refine XS.aloadN X3.here hexec rfl (hb hbytes d6) rfl rfl ?_
    refine iconstV X3.here hexec rfl 0 (hb hbytes d7) (by decide) ?_
    refine XS.iloadN X3.here hexec rfl (hb hbytes d8) rfl ?_
    exact Steps.refl _)
  obtain ⟨v6, T6, X6, E6, g6⟩ := X3.callS hexec (Cmp5.law l b A s.heap.size B3 o 0 len) hown (wks W (staticW U16 115 Cmp5.yN)) (wk W Cmp5.tab) (W := 0) (Nat.le_of_ble_eq_true rfl) (Nat.le_of_ble_eq_true rfl) (Nat.le_refl _) (by show 0 + len + 0 ≤ len; omega) (g := (mkF m 9 #[.val (.ref b), .val (.int (Int32.ofNat o)), .val (.int (Int32.ofNat len)), .val (.ref s.heap.size), .unset, .unset] [.int (Int32.ofNat len), .int (Int32.ofNat 0), .ref s.heap.size, .int (Int32.ofNat o), .ref b])) rfl (by rw [hml]; rfl) c5 (argsL := [.ref b, .int (Int32.ofNat o), .ref s.heap.size, .int (Int32.ofNat 0), .int (Int32.ofNat len)]) (rest := []) rfl rfl (by show 2 * 0 + 0 ≤ _; decide) (hb hbytes d9) (⟨rfl, hA3, ba3, hne, l1, by rw [bs3]; simp, hp⟩)
  obtain ⟨rfl, B6, p6, f6⟩ := E6
  have c7 : Steps p.tables e below (s₁.setTop (entryFrame m #[.ref b, .int (Int32.ofNat o), .int (Int32.ofNat len)] 6)) (T6.setTop (mkF m 12 #[.val (.ref b), .val (.int (Int32.ofNat o)), .val (.int (Int32.ofNat len)), .val (.ref s.heap.size), .unset, .unset] [.int (Int32.ofNat len)])) := g6
  have c8 : Steps p.tables e below (s₁.setTop (entryFrame m #[.ref b, .int (Int32.ofNat o), .int (Int32.ofNat len)] 6)) (T6.setTop (mkF m 58 #[.val (.ref b), .val (.int (Int32.ofNat o)), .val (.int (Int32.ofNat len)), .val (.ref s.heap.size), .val (.int (Int32.ofNat len)), .unset] [.ref s.heap.size])) := c7.trans (by
    refine XS.istore X6.here hexec rfl (hb hbytes d12) rfl rfl ?_
    refine XS.iload X6.here hexec rfl (hb hbytes d14) rfl ?_
    refine XS.iloadN X6.here hexec rfl (hb hbytes d16) rfl ?_
    refine XS.icmpYes X6.here hexec rfl (pc0 := 17) rfl (hb hbytes d17) rfl (ii_eq_t rfl) (by decide) rfl ?_
    refine XS.aloadN X6.here hexec rfl (hb hbytes d57) rfl rfl ?_
    exact Steps.refl _)
  have X8 := X6.wide (L' := []) (cells' := 1) (slots' := len) (fun x hx hlt => by
    simp only [List.nil_append, copyLocs, List.mem_map, List.mem_range] at hx
    obtain ⟨i, -, rfl⟩ := hx
    exact absurd hlt (Nat.lt_irrefl _)) (Nat.le_refl _) (by omega)
  exact ⟨T6, some (.ref s.heap.size), _, _, _, X8, rfl, rfl, rfl, (fun h => by cases h), ⟨⟨rfl, B6, ba3.like (X3.warmed.alike.symm.trans X6.warmed.alike) p6.1 f6.1 f6.2.1 f6.2.2.1, f6.2.1.trans bv3, by rw [X6.warmed.alike.findClass, f6.1]; exact bf3, by rw [f6.2.2.1, bs3]; simp, fun j hj => by rw [f6.2.2.2 j, if_pos (by omega)]; rfl, kp3.put p6 (Nat.le_refl _)⟩, by rw [p6.2.2, bh3, hh0]; simp⟩, fun fs hl => c8.trans (X8.areturnOut hexec rfl hret rfl (hb hbytes d58) hl)⟩
end Cmp3
namespace CodL
def yN : MethodName := ⟨"java/lang/StringUTF16", "coderFromArrayLen", "([BI)B"⟩
abbrev yB : ByteArray := jdk_52_method_15_code
theorem d0 : decode yB 0 = .ok (.iload_n 1, 1) := by decide +kernel
theorem d1 : decode yB 1 = .ok (.aload_n 0, 1) := by decide +kernel
theorem d2 : decode yB 2 = .ok (.arraylength, 1) := by decide +kernel
theorem d3 : decode yB 3 = .ok (.isub, 1) := by decide +kernel
theorem d4 : decode yB 4 = .ok (.bipush 31, 2) := by decide +kernel
theorem d6 : decode yB 6 = .ok (.iushr, 1) := by decide +kernel
theorem d7 : decode yB 7 = .ok (.i2b, 1) := by decide +kernel
theorem d8 : decode yB 8 = .ok (.ireturn, 1) := by decide +kernel
def site : List Cond := []
def tab : Cond := tabOf yN yB 2 (some .byte) site
def P (d : Addr) (B : Cell) (args : Array Value) (s : State) : Prop := args = #[.ref d, .int (Int32.ofNat B.slots.size)] ∧ Arr .byte d B s
def E (r : Option Value) (s u : State) : Prop := XT.PureE (some (.int 0)) r s u
/-- an array as long as the number of chars: LATIN1 -/
theorem law (l : Launch) (d : Addr) (B : Cell) : Law l yN 2 2 0 0 yB 2 (some .byte) site (P d B) E [] 0 0 := by
  refine Law.of_walk (plainFor_of_name (by decide +kernel)) (by decide +kernel) (by decide +kernel) (by decide) (fun _ _ h => by rw [h.1]; rfl) (fun _ U U' hal hh h => ⟨h.1, h.2.mv hal hh⟩) (fun r U U' V V' h1 hal h2 h => XT.PureE.mv r U U' V V' h1 hal h2 h) ?_
  intro p e s m args below meth c s₁ X0 hexec hbytes hml hret hlk hnm hown hh0 W hP
  obtain ⟨rfl, hB⟩ := hP
  have hB0 := hB.mv X0.warmed.alike hh0
  have c1 : Steps p.tables e below (s₁.setTop (entryFrame m #[.ref d, .int (Int32.ofNat B.slots.size)] 2)) (s₁.setTop (mkF m 0 #[.val (.ref d), .val (.int (Int32.ofNat B.slots.size))] [])) := entry rfl
  have c2 : Steps p.tables e below (s₁.setTop (entryFrame m #[.ref d, .int (Int32.ofNat B.slots.size)] 2)) (s₁.setTop (mkF m 2 #[.val (.ref d), .val (.int (Int32.ofNat B.slots.size))] [.ref d, .int (Int32.ofNat B.slots.size)])) := c1.trans (by
    refine XS.iloadN X0.here hexec rfl (hb hbytes d0) rfl ?_
    refine XS.aloadN X0.here hexec rfl (hb hbytes d1) rfl rfl ?_
    exact Steps.refl _)
  have c3 : Steps p.tables e below (s₁.setTop (entryFrame m #[.ref d, .int (Int32.ofNat B.slots.size)] 2)) (s₁.setTop (mkF m 8 #[.val (.ref d), .val (.int (Int32.ofNat B.slots.size))] [.int (lo8 (ushr (Int32.ofNat B.slots.size - Int32.ofNat B.slots.size) 31))])) := c2.trans (by
    refine X0.alen hexec hB0 rfl rfl (hb hbytes d2) ?_
    refine XS.isub X0.here hexec rfl (hb hbytes d3) rfl ?_
    refine bipushV X0.here hexec rfl 31 (hb hbytes d4) (by decide) ?_
    refine iushr X0.here hexec rfl (hb hbytes d6) rfl ?_
    refine i2b X0.here hexec rfl (hb hbytes d7) rfl ?_
    exact Steps.refl _)
  have e0 : lo8 (ushr (Int32.ofNat B.slots.size - Int32.ofNat B.slots.size) 31) = 0 := by rw [Int32.sub_self]; decide
  rw [e0] at c3
  exact ⟨s₁, some (.int 0), _, _, _, X0, rfl, rfl, rfl, (fun h => by cases h), ⟨rfl, hh0⟩, fun fs hl => c3.trans (X0.ireturnOut hexec hret rfl (Or.inr (Or.inr (Or.inl rfl))) (hb hbytes d8) hl)⟩
end CodL
/-- the String at a is Latin-1 over a new byte[] (the heap's one new cell): the low bytes of the len chars of A from o on; every cell but a is kept -/
def Got (a : Addr) (D : Cell) (fV fC : Field) (A : Cell) (o len : Nat) (r : Option Value) (s u : State) : Prop := r = none ∧ ∃ D' V : Cell, Blank "java/lang/String" a D' u ∧ Same D D' [fV.slot, fC.slot] ∧ D'.slots[fV.slot]? = some (.ref s.heap.size) ∧ D'.slots[fC.slot]? = some (.int 0) ∧ Arr .byte s.heap.size V u ∧ V.vm = .none ∧ u.vm.findClass "[B" = some V.cls ∧ V.slots.size = len ∧ (∀ j, j < len → V.slots[j]? = some (.int (lo8 (cv A (o + j))))) ∧ (∀ (y : Addr) (c : Cell), y ≠ a → s.heap[y]? = some c → u.heap[y]? = some c) ∧ u.heap.size = s.heap.size + 1
theorem Got.mv {a : Addr} {D A : Cell} {fV fC : Field} {o len : Nat} : ∀ r (U U' V V' : State), U'.heap = U.heap → V.vm.Alike V'.vm → V'.heap = V.heap → Got a D fV fC A o len r U V → Got a D fV fC A o len r U' V' :=
  fun r U U' V V' h1 hal h2 ⟨e0, D', X, a1, a2, a3, a4, a5, a6, a7, a8, a9, a10, a11⟩ => ⟨e0, D', X, a1.mv hal h2, a2, by rw [h1]; exact a3, a4, by rw [h1]; exact a5.mv hal h2, a6, by rw [hal.findClass]; exact a7, a8, a9, by rw [h1, h2]; exact a10, by rw [h1, h2]; exact a11⟩
namespace New4
def yN : MethodName := ⟨"java/lang/String", "<init>", "([CIILjava/lang/Void;)V"⟩
abbrev yB : ByteArray := jdk_42_method_149_code
theorem d0 : decode yB 0 = .ok (.aload_n 0, 1) := by decide +kernel
theorem d1 : decode yB 1 = .ok (.invokespecial 1, 3) := by decide +kernel
theorem d4 : decode yB 4 = .ok (.iload_n 3, 1) := by decide +kernel
theorem d5 : decode yB 5 = .ok (.ifCond (.ne) 22, 3) := by decide +kernel
theorem d27 : decode yB 27 = .ok (.getstatic 38, 3) := by decide +kernel
theorem d30 : decode yB 30 = .ok (.ifCond (.eq) 28, 3) := by decide +kernel
theorem d33 : decode yB 33 = .ok (.aload_n 1, 1) := by decide +kernel
theorem d34 : decode yB 34 = .ok (.iload_n 2, 1) := by decide +kernel
theorem d35 : decode yB 35 = .ok (.iload_n 3, 1) := by decide +kernel
theorem d36 : decode yB 36 = .ok (.invokestatic 177, 3) := by decide +kernel
theorem d39 : decode yB 39 = .ok (.astore 5, 2) := by decide +kernel
theorem d41 : decode yB 41 = .ok (.aload_n 0, 1) := by decide +kernel
theorem d42 : decode yB 42 = .ok (.aload 5, 2) := by decide +kernel
theorem d44 : decode yB 44 = .ok (.iload_n 3, 1) := by decide +kernel
theorem d45 : decode yB 45 = .ok (.invokestatic 47, 3) := by decide +kernel
theorem d48 : decode yB 48 = .ok (.putfield 15, 3) := by decide +kernel
theorem d51 : decode yB 51 = .ok (.aload_n 0, 1) := by decide +kernel
theorem d52 : decode yB 52 = .ok (.aload 5, 2) := by decide +kernel
theorem d54 : decode yB 54 = .ok (.putfield 9, 3) := by decide +kernel
theorem d57 : decode yB 57 = .ok (.return_, 1) := by decide +kernel
def site : List Cond := [.fieldLink "java/lang/String" 38 "java/lang/String" "COMPACT_STRINGS" "Z", Cmp3.tab, CodL.tab, .laysFinal "java/lang/String" "java/lang/String" "value" "[B", .fieldLink "java/lang/String" 9 "java/lang/String" "value" "[B", .laysFinal "java/lang/String" "java/lang/String" "coder" "B", .fieldLink "java/lang/String" 15 "java/lang/String" "coder" "B"] ++ objW "java/lang/String" 1 ++ staticW "java/lang/String" 177 Cmp3.yN ++ staticW "java/lang/String" 47 CodL.yN
def tab : Cond := tabOf yN yB 6 none site
def P (a : Addr) (D : Cell) (fV fC : Field) (b : Addr) (A : Cell) (z : Int32) (o len : Nat) (args : Array Value) (s : State) : Prop := args = #[.ref a, .ref b, .int (Int32.ofNat o), .int (Int32.ofNat len), .null] ∧ Blank "java/lang/String" a D s ∧ Found "java/lang/String" "value" "[B" fV s ∧ Found "java/lang/String" "coder" "B" fC s ∧ Ch b A s ∧ StaticIs s "java/lang/String" "COMPACT_STRINGS" "Z" (.int z) ∧ ¬ z = 0 ∧ 0 < len ∧ o + len ≤ A.slots.size ∧ len ≤ 536870912 ∧ ∀ i, i < len → ¬ 255 < cv A (o + i)
def E (a : Addr) (D : Cell) (fV fC : Field) (A : Cell) (o len : Nat) (r : Option Value) (s u : State) : Prop := Got a D fV fC A o len r s u
/-- len > 0, no char of the range above 255: a Latin-1 String of their low bytes -/
theorem law (l : Launch) (a : Addr) (D : Cell) (fV fC : Field) (b : Addr) (A : Cell) (z : Int32) (o len : Nat) : Law l yN 5 4 2 35 yB 6 none site (P a D fV fC b A z o len) (E a D fV fC A o len) [⟨a, fC.slot⟩, ⟨a, fV.slot⟩] 1 len := by
  refine Law.of_walk (plainFor_of_name (by decide +kernel)) (by decide +kernel) (by decide +kernel) (by decide) (fun _ _ h => by rw [h.1]; rfl) (fun _ U U' hal hh h => ⟨h.1, h.2.1.mv hal hh, h.2.2.1.al hal, h.2.2.2.1.al hal, h.2.2.2.2.1.mv hal hh, h.2.2.2.2.2.1.there hal hh, h.2.2.2.2.2.2⟩) (fun r U U' V V' h1 hal h2 h => Got.mv r U U' V V' h1 hal h2 h) ?_
  intro p e s m args below meth c s₁ X0 hexec hbytes hml hret hlk hnm hown hh0 W hP
  obtain ⟨rfl, hB, f1, f2, hA, s1, hz, l0, l1, l2, hp⟩ := hP
  have a31 := hA.1.2.2.2
  have c1 : Steps p.tables e below (s₁.setTop (entryFrame m #[.ref a, .ref b, .int (Int32.ofNat o), .int (Int32.ofNat len), .null] 6)) (s₁.setTop (mkF m 0 #[.val (.ref a), .val (.ref b), .val (.int (Int32.ofNat o)), .val (.int (Int32.ofNat len)), .val .null, .unset] [])) := entry rfl
  have c2 : Steps p.tables e below (s₁.setTop (entryFrame m #[.ref a, .ref b, .int (Int32.ofNat o), .int (Int32.ofNat len), .null] 6)) (s₁.setTop (mkF m 1 #[.val (.ref a), .val (.ref b), .val (.int (Int32.ofNat o)), .val (.int (Int32.ofNat len)), .val .null, .unset] [.ref a])) := c1.trans (by
    refine XS.aloadN X0.here hexec rfl (hb hbytes d0) rfl rfl ?_
    exact Steps.refl _)
  obtain ⟨T3, X3, q3, st3⟩ := X0.oinit hexec hown (wks W (objW "java/lang/String" 1)) (g := (mkF m 1 #[.val (.ref a), .val (.ref b), .val (.int (Int32.ofNat o)), .val (.int (Int32.ofNat len)), .val .null, .unset] [.ref a])) rfl (by rw [hml]; rfl) (rest := []) rfl (hb hbytes d1) (W := 0) (by show 2 * 0 + 0 ≤ _; decide) (Nat.le_of_ble_eq_true rfl) (Nat.le_of_ble_eq_true rfl)
  have hh3 := q3.trans hh0
  have c4 : Steps p.tables e below (s₁.setTop (entryFrame m #[.ref a, .ref b, .int (Int32.ofNat o), .int (Int32.ofNat len), .null] 6)) (T3.setTop (mkF m 27 #[.val (.ref a), .val (.ref b), .val (.int (Int32.ofNat o)), .val (.int (Int32.ofNat len)), .val .null, .unset] [])) := (c2.trans (st3 _ (Steps.refl _))).trans (by
    refine XS.iloadN X3.here hexec rfl (hb hbytes d4) rfl ?_
    refine XS.ifYes X3.here hexec rfl (pc0 := 5) rfl (hb hbytes d5) rfl (i0_ne_t (nz32 (by omega) l0)) (by decide) rfl ?_
    exact Steps.refl _)
  obtain ⟨T5, X5, q5, st5⟩ := X3.sget hexec hown (wk W (.fieldLink "java/lang/String" 38 "java/lang/String" "COMPACT_STRINGS" "Z")) s1 (fun _ _ h => by rw [hh3]; exact h) (g := (mkF m 27 #[.val (.ref a), .val (.ref b), .val (.int (Int32.ofNat o)), .val (.int (Int32.ofNat len)), .val .null, .unset] [])) rfl (hb hbytes d27)
  have hh5 := q5.trans hh3
  have c6 : Steps p.tables e below (s₁.setTop (entryFrame m #[.ref a, .ref b, .int (Int32.ofNat o), .int (Int32.ofNat len), .null] 6)) (T5.setTop (mkF m 30 #[.val (.ref a), .val (.ref b), .val (.int (Int32.ofNat o)), .val (.int (Int32.ofNat len)), .val .null, .unset] [.int z])) := c4.trans (st5 _ (Steps.refl _))
  have c7 : Steps p.tables e below (s₁.setTop (entryFrame m #[.ref a, .ref b, .int (Int32.ofNat o), .int (Int32.ofNat len), .null] 6)) (T5.setTop (mkF m 36 #[.val (.ref a), .val (.ref b), .val (.int (Int32.ofNat o)), .val (.int (Int32.ofNat len)), .val .null, .unset] [.int (Int32.ofNat len), .int (Int32.ofNat o), .ref b])) := c6.trans (by
    refine XS.ifNo X5.here hexec rfl (hb hbytes d30) rfl (i0_eq_f hz) ?_
    refine XS.aloadN X5.here hexec rfl (hb hbytes d33) rfl rfl ?_
    refine XS.iloadN X5.here hexec rfl (hb hbytes d34) rfl ?_
    refine XS.iloadN X5.here hexec rfl (hb hbytes d35) rfl ?_
    exact Steps.refl _)
  obtain ⟨v8, T8, X8, E8, g8⟩ := X5.callS hexec (Cmp3.law l b A o len) hown (wks W (staticW "java/lang/String" 177 Cmp3.yN)) (wk W Cmp3.tab) (W := 0) (Nat.le_of_ble_eq_true rfl) (Nat.le_of_ble_eq_true rfl) (Nat.le_refl _) (by show 0 + len ≤ len; omega) (g := (mkF m 36 #[.val (.ref a), .val (.ref b), .val (.int (Int32.ofNat o)), .val (.int (Int32.ofNat len)), .val .null, .unset] [.int (Int32.ofNat len), .int (Int32.ofNat o), .ref b])) rfl (by rw [hml]; rfl) c7 (argsL := [.ref b, .int (Int32.ofNat o), .int (Int32.ofNat len)]) (rest := []) rfl rfl (by show 2 * 0 + 0 ≤ _; decide) (hb hbytes d36) (⟨rfl, hA.mv X5.warmed.alike hh5, l1, l2, hp⟩)
  obtain ⟨e8, z8⟩ := E8
  obtain ⟨rfl, N, n1, n2, n3, n4, n5, n6⟩ := NewArr.mv _ T5 s _ _ hh5.symm (Vm.Alike.refl _) rfl e8
  rw [hh5] at z8
  have hB1 := hB.keep X8.warmed.alike (n6 _ _ hB.1)
  have hne : s.heap.size ≠ a := (Nat.ne_of_lt (Array.getElem?_eq_some_iff.mp hB.1).1).symm
  have c9 : Steps p.tables e below (s₁.setTop (entryFrame m #[.ref a, .ref b, .int (Int32.ofNat o), .int (Int32.ofNat len), .null] 6)) (T8.setTop (mkF m 39 #[.val (.ref a), .val (.ref b), .val (.int (Int32.ofNat o)), .val (.int (Int32.ofNat len)), .val .null, .unset] [.ref s.heap.size])) := g8
  have c10 : Steps p.tables e below (s₁.setTop (entryFrame m #[.ref a, .ref b, .int (Int32.ofNat o), .int (Int32.ofNat len), .null] 6)) (T8.setTop (mkF m 45 #[.val (.ref a), .val (.ref b), .val (.int (Int32.ofNat o)), .val (.int (Int32.ofNat len)), .val .null, .val (.ref s.heap.size)] [.int (Int32.ofNat N.slots.size), .ref s.heap.size, .ref a])) := by
    have hc : Steps p.tables e below (s₁.setTop (entryFrame m #[.ref a, .ref b, .int (Int32.ofNat o), .int (Int32.ofNat len), .null] 6)) (T8.setTop (mkF m 45 #[.val (.ref a), .val (.ref b), .val (.int (Int32.ofNat o)), .val (.int (Int32.ofNat len)), .val .null, .val (.ref s.heap.size)] [.int (Int32.ofNat len), .ref s.heap.size, .ref a])) := c9.trans (by
      refine XS.astore X8.here hexec rfl (hb hbytes d39) rfl rfl rfl ?_
      refine XS.aloadN X8.here hexec rfl (hb hbytes d41) rfl rfl ?_
      refine XS.aload X8.here hexec rfl (hb hbytes d42) rfl rfl ?_
      refine XS.iloadN X8.here hexec rfl (hb hbytes d44) rfl ?_
      exact Steps.refl _)
    rw [n4]; exact hc
  obtain ⟨v11, T11, X11, E11, g11⟩ := X8.callS hexec (CodL.law l s.heap.size N) hown (wks W (staticW "java/lang/String" 47 CodL.yN)) (wk W CodL.tab) (W := 1) (Nat.le_of_ble_eq_true rfl) (Nat.le_of_ble_eq_true rfl) (Nat.le_refl _) (by show 0 + len + 0 ≤ len; omega) (g := (mkF m 45 #[.val (.ref a), .val (.ref b), .val (.int (Int32.ofNat o)), .val (.int (Int32.ofNat len)), .val .null, .val (.ref s.heap.size)] [.int (Int32.ofNat N.slots.size), .ref s.heap.size, .ref a])) rfl (by rw [hml]; rfl) c10 (argsL := [.ref s.heap.size, .int (Int32.ofNat N.slots.size)]) (rest := [.ref a]) rfl rfl (by show 2 * 0 + (1 + 0) ≤ _; decide) (hb hbytes d45) (⟨rfl, n1⟩)
  obtain ⟨rfl, q11⟩ := E11
  have hB11 := hB1.mv (X8.warmed.alike.symm.trans X11.warmed.alike) q11
  have c12 : Steps p.tables e below (s₁.setTop (entryFrame m #[.ref a, .ref b, .int (Int32.ofNat o), .int (Int32.ofNat len), .null] 6)) (T11.setTop (mkF m 48 #[.val (.ref a), .val (.ref b), .val (.int (Int32.ofNat o)), .val (.int (Int32.ofNat len)), .val .null, .val (.ref s.heap.size)] [.int 0, .ref a])) := g11
  obtain ⟨T13, X13, p13, bl13, sl13, st13⟩ := X11.finit hexec hown (wk W (.fieldLink "java/lang/String" 15 "java/lang/String" "coder" "B")) (Or.inr ⟨_, (wk W (.laysFinal "java/lang/String" "java/lang/String" "coder" "B"))⟩) (Or.inl ⟨rfl, hnm⟩) f2 (Or.inl rfl) hB11 (t := .byte) (by decide +kernel) rfl (g := (mkF m 48 #[.val (.ref a), .val (.ref b), .val (.int (Int32.ofNat o)), .val (.int (Int32.ofNat len)), .val .null, .val (.ref s.heap.size)] [.int 0, .ref a])) rfl (rest := []) rfl (hb hbytes d48)
  have c14 : Steps p.tables e below (s₁.setTop (entryFrame m #[.ref a, .ref b, .int (Int32.ofNat o), .int (Int32.ofNat len), .null] 6)) (T13.setTop (mkF m 54 #[.val (.ref a), .val (.ref b), .val (.int (Int32.ofNat o)), .val (.int (Int32.ofNat len)), .val .null, .val (.ref s.heap.size)] [.ref s.heap.size, .ref a])) := (c12.trans (st13 _ (Steps.refl _))).trans (by
    refine XS.aloadN X13.here hexec rfl (hb hbytes d51) rfl rfl ?_
    refine XS.aload X13.here hexec rfl (hb hbytes d52) rfl rfl ?_
    exact Steps.refl _)
  obtain ⟨T15, X15, p15, bl15, sl15, st15⟩ := X13.finit hexec hown (wk W (.fieldLink "java/lang/String" 9 "java/lang/String" "value" "[B")) (Or.inr ⟨_, (wk W (.laysFinal "java/lang/String" "java/lang/String" "value" "[B"))⟩) (Or.inl ⟨rfl, hnm⟩) f1 (Or.inl rfl) bl13 (t := (.array .byte)) (by decide +kernel) rfl (g := (mkF m 54 #[.val (.ref a), .val (.ref b), .val (.int (Int32.ofNat o)), .val (.int (Int32.ofNat len)), .val .null, .val (.ref s.heap.size)] [.ref s.heap.size, .ref a])) rfl (rest := []) rfl (hb hbytes d54)
  have c16 : Steps p.tables e below (s₁.setTop (entryFrame m #[.ref a, .ref b, .int (Int32.ofNat o), .int (Int32.ofNat len), .null] 6)) (T15.setTop (mkF m 57 #[.val (.ref a), .val (.ref b), .val (.int (Int32.ofNat o)), .val (.int (Int32.ofNat len)), .val .null, .val (.ref s.heap.size)] [])) := c14.trans (st15 _ (Steps.refl _))
  have ap := apart (Or.inr ⟨_, (wk W (.laysFinal "java/lang/String" "java/lang/String" "value" "[B"))⟩) (Or.inr ⟨_, (wk W (.laysFinal "java/lang/String" "java/lang/String" "coder" "B"))⟩) f1 f2 (t₁ := .array .byte) (t₂ := .byte) (by decide +kernel) (by decide +kernel) (by decide)
  have al := X8.warmed.alike.symm.trans X15.warmed.alike
  have n7 : T11.heap[s.heap.size]? = some N := by rw [q11]; exact n1.1
  exact ⟨T15, none, _, _, _, X15, by simp, rfl, by omega, (fun _ => rfl), ⟨rfl, _, N, bl15, ((Same.refl D _).set _ (by simp)).set _ (by simp), sl15, (Cell.slots_setSlot_ne _ ap).trans sl13, n1.keep al (p15.other hne (p13.other hne n7)), n2, by rw [al.findClass]; exact n3, n4, n5, fun y c h1 h2 => p15.other h1 (p13.other h1 (by rw [q11]; exact n6 y c h2)), by rw [p15.2.2, p13.2.2, q11]; exact z8⟩, fun fs hl => c16.trans (X15.returnOut hexec hret (hb hbytes d57) hl)⟩
end New4
namespace New1
def yN : MethodName := ⟨"java/lang/String", "<init>", "([C)V"⟩
abbrev yB : ByteArray := jdk_42_method_3_code
theorem d0 : decode yB 0 = .ok (.aload_n 0, 1) := by decide +kernel
theorem d1 : decode yB 1 = .ok (.aload_n 1, 1) := by decide +kernel
theorem d2 : decode yB 2 = .ok (.iconst 0, 1) := by decide +kernel
theorem d3 : decode yB 3 = .ok (.aload_n 1, 1) := by decide +kernel
theorem d4 : decode yB 4 = .ok (.arraylength, 1) := by decide +kernel
theorem d5 : decode yB 5 = .ok (.aconst_null, 1) := by decide +kernel
theorem d6 : decode yB 6 = .ok (.invokespecial 27, 3) := by decide +kernel
theorem d9 : decode yB 9 = .ok (.return_, 1) := by decide +kernel
def site : List Cond := [New4.tab] ++ initW "java/lang/String" 27 New4.yN
def tab : Cond := tabOf yN yB 2 none site
def P (a : Addr) (D : Cell) (fV fC : Field) (b : Addr) (A : Cell) (z : Int32) (args : Array Value) (s : State) : Prop := args = #[.ref a, .ref b] ∧ Blank "java/lang/String" a D s ∧ Found "java/lang/String" "value" "[B" fV s ∧ Found "java/lang/String" "coder" "B" fC s ∧ Ch b A s ∧ StaticIs s "java/lang/String" "COMPACT_STRINGS" "Z" (.int z) ∧ ¬ z = 0 ∧ 0 < A.slots.size ∧ A.slots.size ≤ 536870912 ∧ ∀ i, i < A.slots.size → ¬ 255 < cv A i
def E (a : Addr) (D : Cell) (fV fC : Field) (A : Cell) (r : Option Value) (s u : State) : Prop := Got a D fV fC A 0 A.slots.size r s u
/-- new String(chars), not empty, no char above 255: a Latin-1 String of their low bytes -/
theorem law (l : Launch) (a : Addr) (D : Cell) (fV fC : Field) (b : Addr) (A : Cell) (z : Int32) : Law l yN 2 1 3 52 yB 2 none site (P a D fV fC b A z) (E a D fV fC A) [⟨a, fC.slot⟩, ⟨a, fV.slot⟩] 1 A.slots.size := by
  refine Law.of_walk (plainFor_of_name (by decide +kernel)) (by decide +kernel) (by decide +kernel) (by decide) (fun _ _ h => by rw [h.1]; rfl) (fun _ U U' hal hh h => ⟨h.1, h.2.1.mv hal hh, h.2.2.1.al hal, h.2.2.2.1.al hal, h.2.2.2.2.1.mv hal hh, h.2.2.2.2.2.1.there hal hh, h.2.2.2.2.2.2⟩) (fun r U U' V V' h1 hal h2 h => Got.mv r U U' V V' h1 hal h2 h) ?_
  intro p e s m args below meth c s₁ X0 hexec hbytes hml hret hlk hnm hown hh0 W hP
  obtain ⟨rfl, hB, f1, f2, hA, s1, hz, l0, l2, hp⟩ := hP
  have c1 : Steps p.tables e below (s₁.setTop (entryFrame m #[.ref a, .ref b] 2)) (s₁.setTop (mkF m 0 #[.val (.ref a), .val (.ref b)] [])) := entry rfl
  have c2 : Steps p.tables e below (s₁.setTop (entryFrame m #[.ref a, .ref b] 2)) (s₁.setTop (mkF m 6 #[.val (.ref a), .val (.ref b)] [.null, .int (Int32.ofNat A.slots.size), .int 0, .ref b, .ref a])) := c1.trans (by
    refine XS.aloadN X0.here hexec rfl (hb hbytes d0) rfl rfl ?_
    refine XS.aloadN X0.here hexec rfl (hb hbytes d1) rfl rfl ?_
    refine iconstV X0.here hexec rfl 0 (hb hbytes d2) (by decide) ?_
    refine XS.aloadN X0.here hexec rfl (hb hbytes d3) rfl rfl ?_
    refine X0.alen hexec (hA.1.mv X0.warmed.alike hh0) rfl rfl (hb hbytes d4) ?_
    refine XS.aconstNull X0.here hexec rfl (hb hbytes d5) ?_
    exact Steps.refl _)
  obtain ⟨v3, T3, X3, E3, g3⟩ := X0.callN hexec (New4.law l a D fV fC b A z 0 A.slots.size) rfl hown (wks W (initW "java/lang/String" 27 New4.yN)) (W New4.tab (by simp only [site, List.mem_cons, List.mem_append, true_or, or_true])) (W := 0) (Nat.le_of_ble_eq_true rfl) (Nat.le_of_ble_eq_true rfl) (Nat.le_refl _) (by show 0 + A.slots.size ≤ A.slots.size; omega) (g := (mkF m 6 #[.val (.ref a), .val (.ref b)] [.null, .int (Int32.ofNat A.slots.size), .int (Int32.ofNat 0), .ref b, .ref a])) rfl (by rw [hml]; rfl) c2 (argsL := [.ref b, .int (Int32.ofNat 0), .int (Int32.ofNat A.slots.size), .null]) (rest := []) rfl rfl (by show 2 * 0 + 0 ≤ _; decide) (hb hbytes d6) (⟨rfl, hB.mv X0.warmed.alike hh0, f1.al X0.warmed.alike, f2.al X0.warmed.alike, hA.mv X0.warmed.alike hh0, s1.there X0.warmed.alike hh0, hz, l0, by omega, l2, fun i hi => by rw [Nat.zero_add]; exact hp i hi⟩)
  have e0 := Got.mv _ s₁ s _ _ hh0.symm (Vm.Alike.refl _) rfl E3
  obtain rfl := e0.1
  have c4 : Steps p.tables e below (s₁.setTop (entryFrame m #[.ref a, .ref b] 2)) (T3.setTop (mkF m 9 #[.val (.ref a), .val (.ref b)] [])) := g3
  exact ⟨T3, none, _, _, _, X3, by simp, rfl, by omega, (fun _ => rfl), e0, fun fs hl => c4.trans (X3.returnOut hexec hret (hb hbytes d9) hl)⟩
theorem pays {l : Launch} {R : Room} {p : Program} {e : Env} {below : List Frame} {s : State} {sargs : Array Value} {len W : Nat} (a : Addr) (D : Cell) (fV fC : Field) (b : Addr) (A : Cell) (z : Int32) (htab : tab.before sargs s = true) (hfr : 4 ≤ R.frames) (hlo : W + 65 ≤ R.locals) :
    Back l R p e below s sargs yN len W (fun A₁ a₁ => A₁.cells + 1 ≤ R.cells ∧ A₁.slots + A.slots.size ≤ R.slots ∧ P a D fV fC b A z a₁ A₁.U) (fun A₁ _ v₁ B₁ => E a D fV fC A v₁ A₁.U B₁.U ∧ B₁.locs = A₁.locs ++ [⟨a, fC.slot⟩, ⟨a, fV.slot⟩] ∧ B₁.cells = A₁.cells + 1 ∧ B₁.slots = A₁.slots + A.slots.size) :=
  (law l a D fV fC b A z).pays htab hfr (by omega)
end New1
/-- the byte, read back as charAt reads it, is the char -/
theorem lo8_mask {x : Int32} (h0 : ¬ x < 0) (h1 : ¬ 255 < x) : lo8 x &&& 255 = x := by
  have t : ∀ k : Fin 256, lo8 (Int32.ofNat k.val) &&& 255 = Int32.ofNat k.val := by decide +kernel
  rw [Int32.lt_iff_toInt_lt] at h0 h1
  have e0 : (0 : Int32).toInt = 0 := rfl
  have e1 : (255 : Int32).toInt = 255 := rfl
  obtain ⟨k, hk⟩ : ∃ k : Nat, x.toInt = k := ⟨x.toInt.toNat, by omega⟩
  have hx : x = Int32.ofNat k := Int32.toInt_inj.mp (by rw [hk, Int32.toInt_ofNat_small (by omega)])
  rw [hx]
  exact t ⟨k, by omega⟩
end StrChars
namespace StrChars.Road
open Jvm Sem ClassFile Op Lib Jvm.Stand Jvm.Free Jvm.Free.XT
open Jvm.Lib.Cold (StaticIs)
abbrev ST : String := "java/lang/String"
/-- every table word that New1's law asks, flat -/
abbrev words : List Jvm.Cond := [.code New1.yN New1.yB 2 none, .initialized ST, .methodLink ST 27 New4.yN, .instanceMethod New4.yN,
  .code New4.yN New4.yB 6 none, .fieldLink ST 38 ST "COMPACT_STRINGS" "Z", .laysFinal ST ST "value" "[B", .fieldLink ST 9 ST "value" "[B", .laysFinal ST ST "coder" "B", .fieldLink ST 15 ST "coder" "B",
  .methodLink ST 1 Lib.objectInit, .instanceMethod Lib.objectInit, .code Lib.objectInit ⟨#[0xb1]⟩ 1 none, .methodLink ST 177 Cmp3.yN, .static Cmp3.yN, .methodLink ST 47 CodL.yN, .static CodL.yN,
  .code Cmp3.yN Cmp3.yB 6 (some (.array .byte)), .initialized U16, .arrayClass .byte, .methodLink U16 115 Cmp5.yN, .static Cmp5.yN, .code Cmp5.yN Cmp5.yB 7 (some .int), .code CodL.yN CodL.yB 2 (some .byte)]
theorem tab_of {a : Array Value} {s : State} (h : ∀ w ∈ words, w.before a s = true) : New1.tab.before a s = true := by
  have h5 : Cmp5.tab.before a s = true := unparts (wk h (.code Cmp5.yN Cmp5.yB 7 (some .int))) (wks h (.initialized Cmp5.yN.cls :: Cmp5.site))
  have hc : CodL.tab.before a s = true := unparts (wk h (.code CodL.yN CodL.yB 2 (some .byte))) (wks h (.initialized CodL.yN.cls :: CodL.site))
  have q5 : ∀ w ∈ Cmp5.tab :: words, w.before a s = true := fun w hw => (List.mem_cons.mp hw).elim (fun e => e ▸ h5) (h w)
  have h3 : Cmp3.tab.before a s = true := unparts (wk q5 (.code Cmp3.yN Cmp3.yB 6 (some (.array .byte)))) (wks q5 (.initialized Cmp3.yN.cls :: Cmp3.site))
  have q3 : ∀ w ∈ Cmp3.tab :: CodL.tab :: words, w.before a s = true := fun w hw => (List.mem_cons.mp hw).elim (fun e => e ▸ h3) fun hw => (List.mem_cons.mp hw).elim (fun e => e ▸ hc) (h w)
  have h4 : New4.tab.before a s = true := unparts (wk q3 (.code New4.yN New4.yB 6 none)) (wks q3 (.initialized New4.yN.cls :: New4.site))
  have q4 : ∀ w ∈ New4.tab :: words, w.before a s = true := fun w hw => (List.mem_cons.mp hw).elim (fun e => e ▸ h4) (h w)
  exact unparts (wk q4 (.code New1.yN New1.yB 2 none)) (wks q4 (.initialized New1.yN.cls :: New1.site))
/-- the words ride from the start Z to the walk's own state -/
theorem moved {Z s : State} {a0 args : Array Value} (hZ : Z.Warmed39 s.vm) (hw : ∀ d ∈ words, d.before a0 Z = true) : ∀ d ∈ words, d.before args s = true := fun d hd => by
  have q := hw d hd
  have t : ∀ d ∈ words, d = .arrayClass .byte ∨ (d.onTables && d.keepsFace) = true := by decide +kernel
  rcases t d hd with rfl | t
  · exact RoadKit.mvA hZ q
  · exact RoadKit.mv hZ q t
/-- WHAT COMES BACK, over the tables of the start Z: h the heap at the call, h' behind it -/
def Q (Z : State) (x : Addr) (A : Cell) (h : Heap) (v : Option Value) (h' : Heap) (L : List Loc) : Prop := v = none ∧ (∀ y ∈ L, y.base = x) ∧ RoadKit.Keep h h' [x] ∧ h'.size = h.size + 1 ∧ RoadKit.Exa Z h' x ST ∧ RoadKit.Fld Z h' x ST "value" "[B" (.ref h.size) ∧ RoadKit.Fld Z h' x ST "coder" "B" (.int 0) ∧
  (∃ V : Cell, RoadKit.Arr Z h' h.size V .byte ∧ V.vm = .none ∧ Z.vm.findClass "[B" = some V.cls ∧ V.slots.size = A.slots.size ∧ ∀ j, j < A.slots.size → V.slots[j]? = some (.int (lo8 (cv A j)))) ∧
  ∀ (O n d : String) (w : Value), RoadKit.Fld Z h x O n d w → RoadKit.slotOf Z O n d ≠ RoadKit.slotOf Z ST "value" "[B" → RoadKit.slotOf Z O n d ≠ RoadKit.slotOf Z ST "coder" "B" → RoadKit.Fld Z h' x O n d w
/-- **new String(chars) AT A CALL, IN THE ROAD'S FORM**: for specialBack behind newO: x the fresh String, b the char[] with the cell A -/
theorem back {p : Program} {l : Launch} {e : Env} {R : Room} {s : State} {args : Array Value} {below : List Frame} {len W : Nat} {Z : State} {a0 : Array Value} {h : Heap} (hZ : Z.Warmed39 s.vm) (hw : ∀ d ∈ words, d.before a0 Z = true) {kI : Nat} (wi : (Jvm.Cond.instantiable ST kI).before a0 Z = true)
    {x b : Addr} {A : Cell} {z : Int32} {v0 c0 : Value} (E : RoadKit.Exa Z h x ST) (V : RoadKit.Fld Z h x ST "value" "[B" v0) (C : RoadKit.Fld Z h x ST "coder" "B" c0) (K : RoadKit.Arr Z h b A .char) (hty : Typed .char A) (S : RoadKit.Sta Z h ST "COMPACT_STRINGS" "Z" (.int z)) (hz : ¬ z = 0)
    (l0 : 0 < A.slots.size) (l2 : A.slots.size ≤ 536870912) (hp : ∀ i, i < A.slots.size → ¬ 255 < cv A i) (hfr : 4 ≤ R.frames) (hlo : W + 65 ≤ R.locals) :
    Back l R p e below s args New1.yN len W (fun P a => a = #[.ref x, .ref b] ∧ P.U.heap = h ∧ P.cells + 1 ≤ R.cells ∧ P.slots + A.slots.size ≤ R.slots)
      (fun P _ v B => ∃ L, Q Z x A h v B.U.heap L ∧ B.locs = P.locs ++ L ∧ B.cells = P.cells + 1 ∧ B.slots = P.slots + A.slots.size) := by
  intro m meth c P g ig mk a X hg hsize hdg hW hn hp'
  obtain ⟨rfl, rfl, r1, r2⟩ := hp'
  have al : Z.vm.Alike P.U.vm := hZ.alike.trans X.warmed.alike
  obtain ⟨D, cfV, kV, iV, fV, hD, gV, stV, knV, obV, asV, slV⟩ := id V
  obtain ⟨D', cfC, kC, iC, fC, hD', gC, stC, -, -, asC, slC⟩ := id C
  cases hD.symm.trans hD'
  obtain ⟨D2, kD, e1, e2, e3, e4, e5⟩ := id E
  cases hD.symm.trans e1
  obtain ⟨c2, k2, i1, i2, i3, -⟩ := Cond.instantiable_spec wi
  cases e2.symm.trans i1
  cases e3.symm.trans i2
  obtain ⟨kU, u1, u2⟩ := al.2.2 _ _ e3
  have hB : Blank ST x D P.U := ⟨hD, ⟨knV, fun q hq => by rw [hq] at obV; cases obV⟩, by rw [al.findClass]; exact e2, kU, u1, by rw [u2]; exact i3, by rw [u2]; exact e5 i3⟩
  have F1 : Found ST "value" "[B" fV P.U := ⟨SBG.found_only al ⟨cfV, kV, iV, gV⟩, stV⟩
  have F2 : Found ST "coder" "B" fC P.U := ⟨SBG.found_only al ⟨cfC, kC, iC, gC⟩, stC⟩
  have hA : Ch b A P.U := ⟨⟨K.1, State.isArrayOf_alike al K.2.1, K.2.2, by omega⟩, hty⟩
  have hS : StaticIs P.U ST "COMPACT_STRINGS" "Z" (.int z) := by
    obtain ⟨cfS, iS, kS, fS, st, cS, t1, t2, t3, t4, t5, t6, t7⟩ := S
    exact StaticIs.there (s := { Z with heap := P.U.heap }) ⟨cfS, iS, kS, fS, st, cS, t1, t2, t3, t4, t5, (fun q => by rw [q] at t6; cases t6), t7⟩ al rfl
  obtain ⟨v, B, X', ⟨⟨hv, E', V', q1, q2, q3, q4, q5, q6, q7, q8, q9, q10, q11⟩, hl, hc, hs⟩, st⟩ := New1.pays x D fV fC b A z (tab_of (moved hZ hw)) hfr hlo m meth c P g ig mk _ X hg hsize hdg hW hn ⟨r1, r2, rfl, hB, F1, F2, hA, hS, hz, l0, l2, hp⟩
  have al' : Z.vm.Alike B.U.vm := hZ.alike.trans X'.warmed.alike
  have hsz : E'.slots.size = D.slots.size := by
    obtain ⟨-, -, -, kB, w1, w2, w3⟩ := q1
    obtain ⟨kB', y1, y2⟩ := al'.2.2 _ _ e3
    rw [q2.2.1] at w1
    cases w1.symm.trans y1
    rw [w3, e5 i3, y2]
  refine ⟨v, B, X', ⟨_, ⟨hv, ?_, ⟨by omega, fun y cy hy hn' => q10 y cy (by simpa using hn') hy, fun y cy hy => ?_⟩, q11, ⟨E', _, q1.1, by rw [q2.2.1]; exact e2, by rw [q2.2.1]; exact e3, by rw [q2.1]; exact obV, fun _ => by rw [hsz]; exact e5 i3⟩,
    ⟨E', cfV, kV, iV, fV, q1.1, gV, stV, by rw [q2.1]; exact knV, by rw [q2.1]; exact obV, by rw [q2.2.1]; exact asV, q3⟩, ⟨E', cfC, kC, iC, fC, q1.1, gC, stC, by rw [q2.1]; exact knV, by rw [q2.1]; exact obV, by rw [q2.2.1]; exact asC, q4⟩,
    ⟨V', ⟨q5.1, State.isArrayOf_alike al'.symm q5.2.1, q5.2.2.1⟩, q6, by rw [← al'.findClass]; exact q7, q8, fun j hj => by have := q9 j hj; rwa [Nat.zero_add] at this⟩, fun O n d w F n1 n2 => ?_⟩, hl, hc, hs⟩, st⟩
  · intro y hy
    simp only [List.mem_cons, List.not_mem_nil, or_false] at hy
    rcases hy with rfl | rfl <;> rfl
  · by_cases q : y = x
    · subst q
      cases hD.symm.trans hy
      exact ⟨E', q1.1, q2.2.1, q2.1, hsz⟩
    · exact ⟨cy, q10 y cy q hy, rfl, rfl, rfl⟩
  · obtain ⟨D3, cf, k, i, f, g1, g2, g3, g4, g5, g6, g7⟩ := F
    cases hD.symm.trans g1
    simp only [RoadKit.slotOf, g2, gV, gC, Option.map_some, Option.getD_some] at n1 n2
    exact ⟨E', cf, k, i, f, q1.1, g2, g3, by rw [q2.1]; exact g4, by rw [q2.1]; exact g5, by rw [q2.2.1]; exact g6, by rw [q2.2.2 f.slot (by simp [n1, n2])]; exact g7⟩
end StrChars.Road
namespace StrChars.Road
open Jvm Sem ClassFile Op Lib Jvm.Stand Jvm.Free Jvm.Free.XT
/-- WHAT COMES BACK, the byte[] as a list of values -/
def QA (Z : State) (x : Addr) (zn : Int32) (cs : List Int32) (h : Heap) (v : Option Value) (h' : Heap) (L : List Loc) : Prop := v = none ∧ (∀ y ∈ L, y.base = x) ∧ RoadKit.Keep h h' [x] ∧ h'.size = h.size + 1 ∧ RoadKit.Exa Z h' x ST ∧ RoadKit.Fld Z h' x ST "value" "[B" (.ref h.size) ∧ RoadKit.Fld Z h' x ST "coder" "B" (.int 0) ∧
  (∃ kb, Z.vm.findClass "[B" = some kb ∧ RoadKit.Arv Z h' h.size kb .byte zn (cs.map fun c => .int (lo8 c)) (.int 0)) ∧
  ∀ (O n d : String) (w : Value), RoadKit.Fld Z h x O n d w → RoadKit.slotOf Z O n d ≠ RoadKit.slotOf Z ST "value" "[B" → RoadKit.slotOf Z O n d ≠ RoadKit.slotOf Z ST "coder" "B" → RoadKit.Fld Z h' x O n d w
/-- **new String(chars) AT A CALL, THE ARRAYS AS LISTS**: the char[] at b holds cs, not empty, no char above 255 -/
theorem backArv {p : Program} {l : Launch} {e : Env} {R : Room} {s : State} {args : Array Value} {below : List Frame} {len W : Nat} {Z : State} {a0 : Array Value} {h : Heap} (hZ : Z.Warmed39 s.vm) (hw : ∀ d ∈ words, d.before a0 Z = true) {kI : Nat} (wi : (Jvm.Cond.instantiable ST kI).before a0 Z = true)
    {x b : Addr} {k : ClassId} {zn z : Int32} {cs : List Int32} {dv v0 c0 : Value} (E : RoadKit.Exa Z h x ST) (V : RoadKit.Fld Z h x ST "value" "[B" v0) (C : RoadKit.Fld Z h x ST "coder" "B" c0) (K : RoadKit.Arv Z h b k .char zn (cs.map Value.int) dv) (S : RoadKit.Sta Z h ST "COMPACT_STRINGS" "Z" (.int z)) (hz : ¬ z = 0)
    (hlen : zn.toNatClampNeg = cs.length) (h0 : 0 < cs.length) (hbig : cs.length ≤ 536870912) (hall : ∀ c ∈ cs, ¬ 255 < c) (hfr : 4 ≤ R.frames) (hlo : W + 65 ≤ R.locals) :
    Back l R p e below s args New1.yN len W (fun P a => a = #[.ref x, .ref b] ∧ P.U.heap = h ∧ P.cells + 1 ≤ R.cells ∧ P.slots + cs.length ≤ R.slots)
      (fun P _ v B => ∃ L, QA Z x zn cs h v B.U.heap L ∧ B.locs = P.locs ++ L ∧ B.cells = P.cells + 1 ∧ B.slots = P.slots + cs.length) := by
  obtain ⟨A, K1, K2, K3, K4, K5, K6⟩ := K
  have e : A.slots.size = cs.length := K3.trans hlen
  have hat : ∀ (i : Nat) (hi : i < cs.length), A.slots[i]? = some (.int cs[i]) := fun i hi => by rw [K5 i (by omega)]; simp [List.getD_eq_getElem?_getD, hi]
  have hcv : ∀ (i : Nat) (hi : i < cs.length), cv A i = cs[i] := fun i hi => by unfold cv; rw [hat i hi]
  have hty : Typed .char A := fun i v hv => by
    have hi : i < A.slots.size := (Array.getElem?_eq_some_iff.mp hv).1
    have q := K5 i hi
    rw [hv] at q
    rw [Option.some.inj q]
    exact K6 i hi
  refine Back.mono (back hZ hw wi E V C K1 hty S hz (by omega) (by omega) (fun i hi => by rw [hcv i (by omega)]; exact hall _ (List.getElem_mem _)) hfr hlo) (fun P a hp => ⟨hp.1, hp.2.1, hp.2.2.1, by rw [e]; exact hp.2.2.2⟩) (fun P a v B hp hq => ?_)
  obtain ⟨L, ⟨q1, q2, q3, q4, q5, q6, q7, ⟨V', v1, v2, v3, v4, v5⟩, q9⟩, hl, hc, hs⟩ := hq
  refine ⟨L, ⟨q1, q2, q3, q4, q5, q6, q7, ⟨V'.cls, v3, V', v1, rfl, by rw [v4, e, hlen], K4, fun i hi => ?_, fun i hi => ?_⟩, q9⟩, hl, hc, by rw [hs, e]⟩
  · have hi' : i < cs.length := by omega
    rw [v5 i (by omega), hcv i hi']; simp [List.getD_eq_getElem?_getD, hi']
  · have hi' : i < cs.length := by omega
    simp only [List.getD_eq_getElem?_getD, List.getElem?_map, List.getElem?_eq_getElem hi', Option.map_some, Option.getD_some]
    exact fits_lo8 _
end StrChars.Road
namespace StrChars.Road
open Jvm Sem ClassFile Op Lib Jvm.Stand Jvm.Free Jvm.Free.XT
/-- WHAT COMES BACK, in the writer's own shape -/
def QV (Z : State) (x : Addr) (N : Int32) (bs : List Int32) (h : Heap) (n0 : Nat) (v : Option Value) (h' : Heap) (L : List Loc) : Prop := v = none ∧ RoadKit.Fr n0 L ∧ RoadKit.Keep h h' [x] ∧ RoadKit.Exa Z h' x ST ∧ RoadKit.Fld Z h' x ST "coder" "B" (.int 0) ∧
  ∃ (t : Addr) (kb : ClassId), n0 ≤ t ∧ h.size ≤ t ∧ ¬ t = x ∧ RoadKit.Fld Z h' x ST "value" "[B" (.ref t) ∧ RoadKit.Arv Z h' t kb .byte N (bs.map Value.int) (.int 0)
/-- **new String(chars) AT A CALL, FOR THE WRITER**: a char[] of n known ints, each 0 to 255 -/
theorem backV {p : Program} {l : Launch} {e : Env} {R : Room} {s : State} {args : Array Value} {below : List Frame} {len W : Nat} {Z : State} {a0 : Array Value} {h : Heap} (hZ : Z.Warmed39 s.vm) (hw : ∀ d ∈ words, d.before a0 Z = true) {kI : Nat} (wi : (Jvm.Cond.instantiable ST kI).before a0 Z = true)
    {x b : Addr} {kC : ClassId} {cs bs : List Int32} {d v0 c0 : Value} {z N : Int32} {n n0 : Nat} (hx0 : n0 ≤ x) (hh0 : n0 ≤ h.size) (E : RoadKit.Exa Z h x ST) (V : RoadKit.Fld Z h x ST "value" "[B" v0) (C : RoadKit.Fld Z h x ST "coder" "B" c0) (K : RoadKit.Arv Z h b kC .char N (cs.map Value.int) d) (S : RoadKit.Sta Z h ST "COMPACT_STRINGS" "Z" (.int z)) (hz : ¬ z = 0)
    (hn : cs.length = n) (hN : N = Int32.ofNat n) (l0 : 0 < n) (l2 : n ≤ 4000) (hp : ∀ c ∈ cs, ¬ c < 0 ∧ ¬ (255 : Int32) < c) (hb : bs = cs.map (fun c => c.toInt8.toInt32)) (hfr : 4 ≤ R.frames) (hlo : W + 65 ≤ R.locals) :
    Back l R p e below s args (⟨"java/lang/String", "<init>", "([C)V"⟩ : MethodName) len W (fun P a => a = #[.ref x, .ref b] ∧ P.U.heap = h ∧ P.cells + 1 ≤ R.cells ∧ P.slots + n ≤ R.slots)
      (fun P _ v B => ∃ L, QV Z x N bs h n0 v B.U.heap L ∧ B.locs = P.locs ++ L ∧ B.cells = P.cells + 1 ∧ B.slots = P.slots + n) := by
  subst hn hN hb
  refine Back.mono (backArv hZ hw wi E V C K S hz (n32 (by omega)) l0 (by omega) (fun c hc => (hp c hc).2) hfr hlo) (fun P a hp => hp) (fun P a v B hp hq => ?_)
  obtain ⟨L, ⟨q1, q2, q3, q4, q5, q6, q7, ⟨kb, v1, v2⟩, q9⟩, hl, hc, hs⟩ := hq
  exact ⟨L, ⟨q1, fun y hy => by rw [q2 y hy]; exact hx0, q3, q5, q7, h.size, kb, hh0, Nat.le_refl _, Nat.ne_of_gt E.lt, q6, by rw [List.map_map]; exact v2⟩, hl, hc, hs⟩
end StrChars.Road
namespace StrChars
open Jvm Sem ClassFile Op Lib Jvm.Stand Jvm.Free.XT Jvm.Free.ALB Jvm.Free.JM Jvm.Free
open Jvm.Lib.Cold (StaticIs)
def hi8 (x : Int32) : Int32 := lo8 (x >>> ((8 : Int32) &&& 31))
/-- what StringUTF16.getChar makes of two bytes -/
def pairCh (u v : Int32) : Int32 := (((u &&& 255) <<< ((0 : Int32) &&& 31)) ||| ((v &&& 255) <<< ((8 : Int32) &&& 31))).toUInt32.toUInt16.toUInt32.toInt32
theorem lo8_and (x : Int32) : (lo8 x &&& 255).toBitVec.toNat = x.toBitVec.toNat % 256 := by
  have h : (lo8 x).toBitVec = (x.toBitVec.signExtend 8).signExtend 32 := by rw [lo8, Int8.toBitVec_toInt32, Int32.toBitVec_toInt8]
  rw [Int32.toBitVec_and, BitVec.toNat_and, h]
  have e : ((x.toBitVec.signExtend 8).signExtend 32).toNat % 256 = x.toBitVec.toNat % 256 := by
    rw [BitVec.toNat_signExtend]
    have hlt := x.toBitVec.isLt
    simp only [BitVec.toNat_setWidth, BitVec.toNat_signExtend]
    split <;> split <;> omega
  rw [← e]
  exact Nat.and_two_pow_sub_one_eq_mod _ 8
theorem pair_says {c : Int32} (h0 : ¬ c < 0) (h1 : ¬ 65535 < c) : pairCh (lo8 c) (hi8 c) = c := by
  rw [Int32.lt_iff_toInt_lt] at h0 h1
  have e0 : (0 : Int32).toInt = 0 := rfl
  have e1 : (65535 : Int32).toInt = 65535 := rfl
  have hc : c.toInt = c.toBitVec.toNat := by
    have := c.toBitVec.isLt
    have e : c.toInt = c.toBitVec.toInt := rfl
    rw [e] at h0 h1
    rw [e]
    rw [BitVec.toInt_eq_toNat_cond] at h0 h1 ⊢
    split at h0 <;> split <;> omega
  have hn : c.toBitVec.toNat < 65536 := by omega
  have a1 := lo8_and c
  have a2 : (hi8 c &&& 255).toBitVec.toNat = c.toBitVec.toNat / 256 := by
    rw [hi8, lo8_and]
    have e : ((8 : Int32) &&& 31) = 8 := by decide
    rw [e, Int32.toBitVec_shiftRight]
    have e2 : ((8 : Int32).toBitVec.smod 32) = 8#32 := by decide
    rw [e2, BitVec.sshiftRight_eq', BitVec.toNat_sshiftRight_of_msb_false (by rw [BitVec.msb_eq_false_iff_two_mul_lt]; omega)]
    show c.toBitVec.toNat >>> 8 % 256 = _
    rw [Nat.shiftRight_eq_div_pow]
    omega
  unfold pairCh
  apply Int32.toBitVec_inj.mp
  apply BitVec.eq_of_toNat_eq
  have f0 : ((0 : Int32) &&& 31) = 0 := by decide
  have f8 : ((8 : Int32) &&& 31) = 8 := by decide
  rw [f0, f8]
  have g : (((lo8 c &&& 255) <<< (0 : Int32)) ||| ((hi8 c &&& 255) <<< (8 : Int32))).toBitVec.toNat = c.toBitVec.toNat := by
    rw [Int32.toBitVec_or, Int32.toBitVec_shiftLeft, Int32.toBitVec_shiftLeft]
    have s0 : ((0 : Int32).toBitVec.smod 32) = 0#32 := by decide
    have s8 : ((8 : Int32).toBitVec.smod 32) = 8#32 := by decide
    rw [s0, s8, BitVec.toNat_or]
    simp only [BitVec.shiftLeft_eq', BitVec.toNat_shiftLeft, a1, a2]
    show (c.toBitVec.toNat % 256) <<< 0 % 2 ^ 32 ||| (c.toBitVec.toNat / 256) <<< 8 % 2 ^ 32 = _
    rw [Nat.shiftLeft_zero, Nat.mod_eq_of_lt (show c.toBitVec.toNat % 256 < 2 ^ 32 by omega), Nat.mod_eq_of_lt (show (c.toBitVec.toNat / 256) <<< 8 < 2 ^ 32 by rw [Nat.shiftLeft_eq]; omega), Nat.or_comm, ← Nat.shiftLeft_add_eq_or_of_lt (by omega), Nat.shiftLeft_eq]
    omega
  show BitVec.toNat (((((lo8 c &&& 255) <<< (0 : Int32)) ||| ((hi8 c &&& 255) <<< (8 : Int32))).toBitVec.setWidth 16).setWidth 32) = _
  rw [BitVec.toNat_setWidth, BitVec.toNat_setWidth, g]
  omega
end StrChars
namespace StrChars
open Jvm Sem ClassFile Op Lib Jvm.Stand Jvm.Free.XT Jvm.Free.ALB Jvm.Free.JM Jvm.Free
open Jvm.Lib.Cold (StaticIs)
/-- the array's cell V codes the n chars f 0 .. f (n - 1) by the coder cd, as the JDK does: coder 1 just where some char is above 255 -/
def Cod (cd : Int32) (n : Nat) (f : Nat → Int32) (V : Cell) : Prop := (cd = 0 ∧ V.slots.size = n ∧ ∀ j, j < n → V.slots[j]? = some (.int (lo8 (f j))) ∧ ¬ 255 < f j) ∨ (cd = 1 ∧ V.slots.size = 2 * n ∧ (∀ j, j < n → V.slots[2 * j]? = some (.int (lo8 (f j))) ∧ V.slots[2 * j + 1]? = some (.int (hi8 (f j)))) ∧ ∃ j, j < n ∧ 255 < f j)
/-- **x is a String of the n chars f 0 .. f (n - 1)**, Latin-1 or UTF-16; its array at t has the cell V -/
def Txt (x t : Addr) (V : Cell) (cd : Int32) (n : Nat) (f : Nat → Int32) (U : State) : Prop := Exact "java/lang/String" x U ∧ Has x "java/lang/String" "value" "[B" (.ref t) U ∧ Has x "java/lang/String" "coder" "B" (.int cd) U ∧ XT.Arr .byte t V U ∧ Cod cd n f V ∧ ∀ j, j < n → ¬ f j < 0 ∧ ¬ 65535 < f j
theorem Txt.mv {x t : Addr} {V : Cell} {cd : Int32} {n : Nat} {f : Nat → Int32} {U U' : State} (h : Txt x t V cd n f U) (hal : U.vm.Alike U'.vm) (hh : U'.heap = U.heap) : Txt x t V cd n f U' := ⟨h.1.mv hal hh, h.2.1.mv hal hh, h.2.2.1.mv hal hh, h.2.2.2.1.mv hal hh, h.2.2.2.2⟩
end StrChars
namespace StrChars.Road
open Jvm Sem ClassFile Op Lib Jvm.Stand Jvm.Free Jvm.Free.XT
open Jvm.Lib.Cold (StaticIs)
theorem consq {a : Array Value} {s : State} {c : Jvm.Cond} {L : List Jvm.Cond} (h0 : c.before a s = true) (h : ∀ w ∈ L, w.before a s = true) : ∀ w ∈ c :: L, w.before a s = true := fun w hw => (List.mem_cons.mp hw).elim (fun e => e ▸ h0) (h w)
/-- the bytes of the chars cs, low before high -/
def wideBytes : List Int32 → List Value
  | [] => []
  | c :: cs => .int (lo8 c) :: .int (hi8 c) :: wideBytes cs
theorem wide_lo (d : Value) : ∀ (cs : List Int32) (j : Nat), j < cs.length → (wideBytes cs).getD (2 * j) d = .int (lo8 (cs.getD j 0))
  | [], j, h => absurd h (Nat.not_lt_zero j)
  | c :: cs, 0, _ => rfl
  | c :: cs, j + 1, h => by
    have q := wide_lo d cs j (by simpa using h)
    rw [show 2 * (j + 1) = 2 * j + 1 + 1 from by omega]
    simpa [wideBytes] using q
theorem wide_hi (d : Value) : ∀ (cs : List Int32) (j : Nat), j < cs.length → (wideBytes cs).getD (2 * j + 1) d = .int (hi8 (cs.getD j 0))
  | [], j, h => absurd h (Nat.not_lt_zero j)
  | c :: cs, 0, _ => rfl
  | c :: cs, j + 1, h => by
    have q := wide_hi d cs j (by simpa using h)
    rw [show 2 * (j + 1) + 1 = 2 * j + 1 + 1 + 1 from by omega]
    simpa [wideBytes] using q
theorem low_at (d : Value) (cs : List Int32) (j : Nat) (h : j < cs.length) : (cs.map fun c => Value.int (lo8 c)).getD j d = .int (lo8 (cs.getD j 0)) := by
  simp [List.getD_eq_getElem?_getD, h]
/-- an array of N2 bytes vs codes the chars cs by the coder cd -/
def CodA (cs : List Int32) (cd N2 : Int32) (vs : List Value) : Prop := (cd = 0 ∧ N2 = Int32.ofNat cs.length ∧ vs = (cs.map fun c => Value.int (lo8 c)) ∧ ∀ c ∈ cs, ¬ 255 < c) ∨ (cd = 1 ∧ N2 = Int32.ofNat (2 * cs.length) ∧ vs = wideBytes cs ∧ ∃ c ∈ cs, 255 < c)
theorem CodA.cod {cs : List Int32} {cd N2 : Int32} {vs : List Value} {V : Cell} (h : CodA cs cd N2 vs) (hn : 2 * cs.length < 2 ^ 31) (hs : V.slots.size = N2.toNatClampNeg) (hv : RoadKit.Has V vs (.int 0)) : Cod cd cs.length (fun j => cs.getD j 0) V := by
  rcases h with ⟨rfl, rfl, rfl, h⟩ | ⟨rfl, rfl, rfl, c, hc, hw⟩
  · rw [n32 (by omega)] at hs
    exact Or.inl ⟨rfl, hs, fun j hj => ⟨by rw [hv j (by omega), low_at _ _ _ hj], by
      have e : cs.getD j 0 = cs[j] := by simp [List.getD_eq_getElem?_getD, hj]
      show ¬ 255 < cs.getD j 0
      rw [e]; exact h _ (List.getElem_mem _)⟩⟩
  · rw [n32 (by omega)] at hs
    obtain ⟨j, hj, rfl⟩ := List.getElem_of_mem hc
    exact Or.inr ⟨rfl, hs, fun j hj => ⟨by rw [hv _ (by omega), wide_lo _ _ _ hj], by rw [hv _ (by omega), wide_hi _ _ _ hj]⟩, j, hj, by
      have e : cs.getD j 0 = cs[j] := by simp [List.getD_eq_getElem?_getD, hj]
      show 255 < cs.getD j 0
      rw [e]; exact hw⟩
/-- an object of exactly java/lang/String, its two fields found: as the laws ask it -/
theorem strObj {Z U : State} {a0 : Array Value} {kI : Nat} (wi : (Jvm.Cond.instantiable ST kI).before a0 Z = true) (al : Z.vm.Alike U.vm) {x : Addr} {v0 c0 : Value} (E : RoadKit.Exa Z U.heap x ST) (V : RoadKit.Fld Z U.heap x ST "value" "[B" v0) (C : RoadKit.Fld Z U.heap x ST "coder" "B" c0) :
    ∃ (D : Cell) (fV fC : Field), Blank ST x D U ∧ Found ST "value" "[B" fV U ∧ Found ST "coder" "B" fC U ∧ D.slots[fV.slot]? = some v0 ∧ D.slots[fC.slot]? = some c0 ∧ RoadKit.slotOf Z ST "value" "[B" = fV.slot ∧ RoadKit.slotOf Z ST "coder" "B" = fC.slot := by
  obtain ⟨D, cfV, kV, iV, fV, hD, gV, stV, knV, obV, asV, slV⟩ := V
  obtain ⟨D', cfC, kC, iC, fC, hD', gC, stC, -, -, asC, slC⟩ := C
  cases hD.symm.trans hD'
  obtain ⟨D2, kD, e1, e2, e3, e4, e5⟩ := E
  cases hD.symm.trans e1
  obtain ⟨c2, k2, i1, i2, i3, -⟩ := Cond.instantiable_spec wi
  cases e2.symm.trans i1
  cases e3.symm.trans i2
  obtain ⟨kU, u1, u2⟩ := al.2.2 _ _ e3
  exact ⟨D, fV, fC, ⟨hD, ⟨knV, fun q hq => by rw [hq] at obV; cases obV⟩, by rw [al.findClass]; exact e2, kU, u1, by rw [u2]; exact i3, by rw [u2]; exact e5 i3⟩, ⟨SBG.found_only al ⟨cfV, kV, iV, gV⟩, stV⟩, ⟨SBG.found_only al ⟨cfC, kC, iC, gC⟩, stC⟩, slV, slC, by simp [RoadKit.slotOf, gV], by simp [RoadKit.slotOf, gC]⟩
theorem sta_is {Z U : State} (al : Z.vm.Alike U.vm) {C n d : String} {v : Value} (S : RoadKit.Sta Z U.heap C n d v) : StaticIs U C n d v := by
  obtain ⟨cfS, iS, kS, fS, st, cS, t1, t2, t3, t4, t5, t6, t7⟩ := S
  exact StaticIs.there (s := { Z with heap := U.heap }) ⟨cfS, iS, kS, fS, st, cS, t1, t2, t3, t4, t5, (fun q => by rw [q] at t6; cases t6), t7⟩ al rfl
end StrChars.Road
namespace StrChars
open Jvm Sem ClassFile Op Lib Jvm.Stand Jvm.Free.XT Jvm.Free.ALB Jvm.Free.JM Jvm.Free
open Jvm.Lib.Cold (StaticIs)
/-- what place i of a byte[]'s cell holds -/
def yv (A : Cell) (i : Nat) : Int32 := match A.slots[i]? with | some (.int x) => x | _ => 0
theorem yv_get {a : Addr} {A : Cell} {U : State} (h : XT.Arr .byte a A U) (ht : Typed .byte A) {i : Nat} (hi : i < A.slots.size) : A.slots[i]? = some (.int (yv A i)) := by
  have e := Array.getElem?_eq_getElem hi
  have f := ht i _ e
  unfold yv; rw [e]
  generalize A.slots[i] = v at f
  cases v <;> simp [fits] at f ⊢
/-- the two arrays are equal, place for place -/
def EqC (A B : Cell) : Prop := A.slots.size = B.slots.size ∧ ∀ i, i < A.slots.size → yv A i = yv B i
/-- a boolean that says whether p -/
def Says01 (q : Prop) (r : Option Value) (s u : State) : Prop := ∃ v : Int32, r = some (.int v) ∧ u.heap = s.heap ∧ ((v = 1 ∧ q) ∨ (v = 0 ∧ ¬ q))
theorem Says01.mv {q : Prop} : ∀ r (U U' V V' : State), U'.heap = U.heap → V.vm.Alike V'.vm → V'.heap = V.heap → Says01 q r U V → Says01 q r U' V' :=
  fun r U U' V V' h1 _ h2 ⟨v, a, b, c⟩ => ⟨v, a, by rw [h1, h2]; exact b, c⟩
namespace LEq
def yN : MethodName := ⟨"java/lang/StringLatin1", "equals", "([B[B)Z"⟩
abbrev yB : ByteArray := jdk_43_method_13_code
theorem d0 : decode yB 0 = .ok (.aload_n 0, 1) := by decide +kernel
theorem d1 : decode yB 1 = .ok (.arraylength, 1) := by decide +kernel
theorem d2 : decode yB 2 = .ok (.aload_n 1, 1) := by decide +kernel
theorem d3 : decode yB 3 = .ok (.arraylength, 1) := by decide +kernel
theorem d4 : decode yB 4 = .ok (.if_icmp (.ne) 30, 3) := by decide +kernel
theorem d7 : decode yB 7 = .ok (.iconst 0, 1) := by decide +kernel
theorem d8 : decode yB 8 = .ok (.istore_n 2, 1) := by decide +kernel
theorem d9 : decode yB 9 = .ok (.iload_n 2, 1) := by decide +kernel
theorem d10 : decode yB 10 = .ok (.aload_n 0, 1) := by decide +kernel
theorem d11 : decode yB 11 = .ok (.arraylength, 1) := by decide +kernel
theorem d12 : decode yB 12 = .ok (.if_icmp (.ge) 20, 3) := by decide +kernel
theorem d15 : decode yB 15 = .ok (.aload_n 0, 1) := by decide +kernel
theorem d16 : decode yB 16 = .ok (.iload_n 2, 1) := by decide +kernel
theorem d17 : decode yB 17 = .ok (.baload, 1) := by decide +kernel
theorem d18 : decode yB 18 = .ok (.aload_n 1, 1) := by decide +kernel
theorem d19 : decode yB 19 = .ok (.iload_n 2, 1) := by decide +kernel
theorem d20 : decode yB 20 = .ok (.baload, 1) := by decide +kernel
theorem d21 : decode yB 21 = .ok (.if_icmp (.eq) 5, 3) := by decide +kernel
theorem d24 : decode yB 24 = .ok (.iconst 0, 1) := by decide +kernel
theorem d25 : decode yB 25 = .ok (.ireturn, 1) := by decide +kernel
theorem d26 : decode yB 26 = .ok (.iinc 2 1, 3) := by decide +kernel
theorem d29 : decode yB 29 = .ok (.goto (-20), 3) := by decide +kernel
theorem d32 : decode yB 32 = .ok (.iconst 1, 1) := by decide +kernel
theorem d33 : decode yB 33 = .ok (.ireturn, 1) := by decide +kernel
theorem d34 : decode yB 34 = .ok (.iconst 0, 1) := by decide +kernel
theorem d35 : decode yB 35 = .ok (.ireturn, 1) := by decide +kernel
def site : List Cond := []
def tab : Cond := tabOf yN yB 3 (some .boolean) site
def P (a : Addr) (A : Cell) (b : Addr) (B : Cell) (args : Array Value) (s : State) : Prop := args = #[.ref a, .ref b] ∧ XT.Arr .byte a A s ∧ Typed .byte A ∧ XT.Arr .byte b B s ∧ Typed .byte B
/-- whether two byte[] are equal, place for place -/
theorem law (l : Launch) (a : Addr) (A : Cell) (b : Addr) (B : Cell) : Law l yN 2 2 0 0 yB 3 (some .boolean) site (P a A b B) (Says01 (EqC A B)) [] 0 0 := by
  refine Law.of_walk (plainFor_of_name (by decide +kernel)) (by decide +kernel) (by decide +kernel) (by decide) (fun _ _ h => by rw [h.1]; rfl) (fun _ U U' hal hh h => ⟨h.1, h.2.1.mv hal hh, h.2.2.1, h.2.2.2.1.mv hal hh, h.2.2.2.2⟩) (fun r U U' V V' h1 hal h2 h => Says01.mv r U U' V V' h1 hal h2 h) ?_
  intro p e s m args below meth c s₁ X0 hexec hbytes hml hret hlk hnm hown hh0 W hP
  obtain ⟨rfl, hA, tA, hB, tB⟩ := hP
  have a31 := hA.2.2.2
  have b31 := hB.2.2.2
  have hA0 := hA.mv X0.warmed.alike hh0
  have hB0 := hB.mv X0.warmed.alike hh0
  have c1 : Steps p.tables e below (s₁.setTop (entryFrame m #[.ref a, .ref b] 3)) (s₁.setTop (mkF m 0 #[.val (.ref a), .val (.ref b), .unset] [])) := entry rfl
  have c2 : Steps p.tables e below (s₁.setTop (entryFrame m #[.ref a, .ref b] 3)) (s₁.setTop (mkF m 4 #[.val (.ref a), .val (.ref b), .unset] [.int (Int32.ofNat B.slots.size), .int (Int32.ofNat A.slots.size)])) := c1.trans (by
    refine XS.aloadN X0.here hexec rfl (hb hbytes d0) rfl rfl ?_
    refine X0.alen hexec hA0 rfl rfl (hb hbytes d1) ?_
    refine XS.aloadN X0.here hexec rfl (hb hbytes d2) rfl rfl ?_
    refine X0.alen hexec hB0 rfl rfl (hb hbytes d3) ?_
    exact Steps.refl _)
  by_cases hs : A.slots.size = B.slots.size
  · have c3 : Steps p.tables e below (s₁.setTop (entryFrame m #[.ref a, .ref b] 3)) (s₁.setTop (mkF m 9 #[.val (.ref a), .val (.ref b), .val (.int 0)] [])) := c2.trans (by
      refine XS.icmpNo X0.here hexec rfl (hb hbytes d4) rfl (ii_ne_f (by rw [hs])) ?_
      refine iconstV X0.here hexec rfl 0 (hb hbytes d7) (by decide) ?_
      refine XS.istoreN X0.here hexec rfl (hb hbytes d8) rfl rfl ?_
      exact Steps.refl _)
    have loop : ∀ (r i : Nat), i + r = A.slots.size → (∀ j, j < i → yv A j = yv B j) → Steps p.tables e below (s₁.setTop (entryFrame m #[.ref a, .ref b] 3)) (s₁.setTop (mkF m 9 #[.val (.ref a), .val (.ref b), .val (.int (Int32.ofNat i))] [])) → ∃ (pc : Nat) (Ls : Array Slot) (v : Int32), (pc = 25 ∨ pc = 33) ∧ ((v = 1 ∧ EqC A B) ∨ (v = 0 ∧ ¬ EqC A B)) ∧ Steps p.tables e below (s₁.setTop (entryFrame m #[.ref a, .ref b] 3)) (s₁.setTop (mkF m pc Ls [.int v])) := by
      intro r
      induction r with
      | zero =>
        intro i hi he cl
        exact ⟨33, _, 1, Or.inr rfl, Or.inl ⟨rfl, hs, fun j hj => he j (by omega)⟩, cl.trans (by
          refine XS.iloadN X0.here hexec rfl (hb hbytes d9) rfl ?_
          refine XS.aloadN X0.here hexec rfl (hb hbytes d10) rfl rfl ?_
          refine X0.alen hexec hA0 rfl rfl (hb hbytes d11) ?_
          refine XS.icmpYes X0.here hexec rfl (pc0 := 12) rfl (hb hbytes d12) rfl (ii_ge_t (nlt32 (by omega) (by omega))) (by decide) rfl ?_
          refine iconstV X0.here hexec rfl 1 (hb hbytes d32) (by decide) ?_
          exact Steps.refl _)⟩
      | succ r ih =>
        intro i hi he cl
        have c4 : Steps p.tables e below (s₁.setTop (entryFrame m #[.ref a, .ref b] 3)) (s₁.setTop (mkF m 21 #[.val (.ref a), .val (.ref b), .val (.int (Int32.ofNat i))] [.int (yv B i), .int (yv A i)])) := cl.trans (by
          refine XS.iloadN X0.here hexec rfl (hb hbytes d9) rfl ?_
          refine XS.aloadN X0.here hexec rfl (hb hbytes d10) rfl rfl ?_
          refine X0.alen hexec hA0 rfl rfl (hb hbytes d11) ?_
          refine XS.icmpNo X0.here hexec rfl (hb hbytes d12) rfl (ii_ge_f (lt32 (by omega) (by omega))) ?_
          refine XS.aloadN X0.here hexec rfl (hb hbytes d15) rfl rfl ?_
          refine XS.iloadN X0.here hexec rfl (hb hbytes d16) rfl ?_
          refine X0.aget hexec hA0 rfl (yv_get hA tA (i := i) (by omega)) rfl rfl (hb hbytes d17) ?_
          refine XS.aloadN X0.here hexec rfl (hb hbytes d18) rfl rfl ?_
          refine XS.iloadN X0.here hexec rfl (hb hbytes d19) rfl ?_
          refine X0.aget hexec hB0 rfl (yv_get hB tB (i := i) (by omega)) rfl rfl (hb hbytes d20) ?_
          exact Steps.refl _)
        by_cases hv : yv A i = yv B i
        · have c5 : Steps p.tables e below (s₁.setTop (entryFrame m #[.ref a, .ref b] 3)) (s₁.setTop (mkF m 9 #[.val (.ref a), .val (.ref b), .val (.int (Int32.ofNat i + 1))] [])) := c4.trans (by
            refine XS.icmpYes X0.here hexec rfl (pc0 := 21) rfl (hb hbytes d21) rfl (ii_eq_t hv) (by decide) rfl ?_
            refine iincV X0.here hexec rfl 1 (hb hbytes d26) (by decide) rfl rfl ?_
            refine XS.goto X0.here hexec rfl (pc0 := 29) rfl (hb hbytes d29) (by decide) rfl ?_
            exact Steps.refl _)
          rw [succ32] at c5
          exact ih (i + 1) (by omega) (fun j hj => by
            by_cases e : j = i
            · rw [e]; exact hv
            · exact he j (by omega)) c5
        · exact ⟨25, _, 0, Or.inl rfl, Or.inr ⟨rfl, fun q => hv (q.2 i (by omega))⟩, c4.trans (by
            refine XS.icmpNo X0.here hexec rfl (hb hbytes d21) rfl (ii_eq_f hv) ?_
            refine iconstV X0.here hexec rfl 0 (hb hbytes d24) (by decide) ?_
            exact Steps.refl _)⟩
    obtain ⟨pc, Ls, v, hpc, hv, cz⟩ := loop A.slots.size 0 (by omega) (fun j hj => absurd hj (Nat.not_lt_zero j)) c3
    have nv : narrow .boolean (.int v) = .int v := by rcases hv with ⟨rfl, -⟩ | ⟨rfl, -⟩ <;> rfl
    rcases hpc with rfl | rfl
    · exact ⟨s₁, some (.int v), _, _, _, X0, rfl, rfl, rfl, (fun h => by cases h), ⟨v, rfl, hh0, hv⟩, fun fs hl => cz.trans (X0.ireturnOut hexec hret nv (Or.inr (Or.inl rfl)) (hb hbytes d25) hl)⟩
    · exact ⟨s₁, some (.int v), _, _, _, X0, rfl, rfl, rfl, (fun h => by cases h), ⟨v, rfl, hh0, hv⟩, fun fs hl => cz.trans (X0.ireturnOut hexec hret nv (Or.inr (Or.inl rfl)) (hb hbytes d33) hl)⟩
  · have c3 : Steps p.tables e below (s₁.setTop (entryFrame m #[.ref a, .ref b] 3)) (s₁.setTop (mkF m 35 #[.val (.ref a), .val (.ref b), .unset] [.int 0])) := c2.trans (by
      refine XS.icmpYes X0.here hexec rfl (pc0 := 4) rfl (hb hbytes d4) rfl (ii_ne_t (ne32 a31 b31 hs)) (by decide) rfl ?_
      refine iconstV X0.here hexec rfl 0 (hb hbytes d34) (by decide) ?_
      exact Steps.refl _)
    exact ⟨s₁, some (.int 0), _, _, _, X0, rfl, rfl, rfl, (fun h => by cases h), ⟨0, rfl, hh0, Or.inr ⟨rfl, fun q => hs q.1⟩⟩, fun fs hl => c3.trans (X0.ireturnOut hexec hret rfl (Or.inr (Or.inl rfl)) (hb hbytes d35) hl)⟩
end LEq
theorem Cod.ty {cd : Int32} {n : Nat} {f : Nat → Int32} {V : Cell} (h : Cod cd n f V) : Typed .byte V := fun i v hv => by
  have hi : i < V.slots.size := (Array.getElem?_eq_some_iff.mp hv).1
  rcases h with ⟨-, k1, k2⟩ | ⟨-, k1, k2, -⟩
  · rw [(k2 i (by omega)).1] at hv; cases hv; exact fits_lo8 _
  · rcases Nat.mod_two_eq_zero_or_one i with e | e
    · obtain ⟨j, rfl⟩ : ∃ j, i = 2 * j := ⟨i / 2, by omega⟩
      rw [(k2 j (by omega)).1] at hv; cases hv; exact fits_lo8 _
    · obtain ⟨j, rfl⟩ : ∃ j, i = 2 * j + 1 := ⟨i / 2, by omega⟩
      rw [(k2 j (by omega)).2] at hv; cases hv; exact fits_lo8 _
/-- the same text -/
def SameT (n : Nat) (f : Nat → Int32) (k : Nat) (g : Nat → Int32) : Prop := n = k ∧ ∀ j, j < n → f j = g j
theorem lo8_inj {x y : Int32} (h0 : ¬ x < 0) (h1 : ¬ 255 < x) (k0 : ¬ y < 0) (k1 : ¬ 255 < y) (h : lo8 x = lo8 y) : x = y := by
  rw [← lo8_mask h0 h1, ← lo8_mask k0 k1, h]
/-- arrays coded by one coder are equal just where the texts are -/
theorem Cod.eqv {cd : Int32} {n k : Nat} {f g : Nat → Int32} {V V' : Cell} (h : Cod cd n f V) (h' : Cod cd k g V') (hf : ∀ j, j < n → ¬ f j < 0 ∧ ¬ 65535 < f j) (hg : ∀ j, j < k → ¬ g j < 0 ∧ ¬ 65535 < g j) : EqC V V' ↔ SameT n f k g := by
  have yvv : ∀ {W : Cell} {i : Nat} {x : Int32}, W.slots[i]? = some (.int x) → yv W i = x := fun q => by unfold yv; rw [q]
  rcases h with ⟨rfl, k1, k2⟩ | ⟨rfl, k1, k2, -⟩
  · rcases h' with ⟨-, m1, m2⟩ | ⟨e, -⟩
    · constructor
      · rintro ⟨e1, e2⟩
        refine ⟨by omega, fun j hj => ?_⟩
        have q := e2 j (by omega)
        rw [yvv (k2 j hj).1, yvv (m2 j (by omega)).1] at q
        exact lo8_inj (hf j hj).1 (k2 j hj).2 (hg j (by omega)).1 (m2 j (by omega)).2 q
      · rintro ⟨rfl, e2⟩
        refine ⟨by omega, fun j hj => ?_⟩
        rw [yvv (k2 j (by omega)).1, yvv (m2 j (by omega)).1, e2 j (by omega)]
    · exact absurd e (by decide)
  · rcases h' with ⟨e, -⟩ | ⟨-, m1, m2, -⟩
    · exact absurd e (by decide)
    · constructor
      · rintro ⟨e1, e2⟩
        refine ⟨by omega, fun j hj => ?_⟩
        have q1 := e2 (2 * j) (by omega)
        have q2 := e2 (2 * j + 1) (by omega)
        rw [yvv (k2 j hj).1, yvv (m2 j (by omega)).1] at q1
        rw [yvv (k2 j hj).2, yvv (m2 j (by omega)).2] at q2
        rw [← pair_says (hf j hj).1 (hf j hj).2, ← pair_says (hg j (by omega)).1 (hg j (by omega)).2, q1, q2]
      · rintro ⟨rfl, e2⟩
        refine ⟨by omega, fun i hi => ?_⟩
        rcases Nat.mod_two_eq_zero_or_one i with e | e
        · obtain ⟨j, rfl⟩ : ∃ j, i = 2 * j := ⟨i / 2, by omega⟩
          rw [yvv (k2 j (by omega)).1, yvv (m2 j (by omega)).1, e2 j (by omega)]
        · obtain ⟨j, rfl⟩ : ∃ j, i = 2 * j + 1 := ⟨i / 2, by omega⟩
          rw [yvv (k2 j (by omega)).2, yvv (m2 j (by omega)).2, e2 j (by omega)]
/-- two codings differ: so do the texts -/
theorem Cod.dif {cd cd' : Int32} {n k : Nat} {f g : Nat → Int32} {V V' : Cell} (h : Cod cd n f V) (h' : Cod cd' k g V') (hne : ¬ cd = cd') : ¬ SameT n f k g := by
  rintro ⟨rfl, e⟩
  rcases h with ⟨rfl, -, k2⟩ | ⟨rfl, -, -, j, hj, hw⟩
  · rcases h' with ⟨rfl, -⟩ | ⟨-, -, -, j, hj, hw⟩
    · exact hne rfl
    · exact (k2 j hj).2 (by rw [e j hj]; exact hw)
  · rcases h' with ⟨-, -, m2⟩ | ⟨rfl, -⟩
    · exact (m2 j hj).2 (by rw [← e j hj]; exact hw)
    · exact hne rfl
/-- an object of exactly C is an instance of C -/
theorem cinst {p : Program} {l : Launch} {e : Env} {R : Room} {s : State} {m : MethodId} {args : Array Value} {below : List Frame} {meth : Method} {c : Code} {T : State} {locs : List Loc} {cells slots : Nat} (X : Stand p l e R s m args below meth c T locs cells slots) (hexec : p.tables.exec = Jvm.exec) {own C : String} {index : Nat} (hown : s.vm.findClass own = some m.cls) (hlink : (Cond.classLink own index C).before args s = true) {a : Addr} (hE : Exact C a T)
    {g : JFrame} (hg : g.method = m) {rest : List Value} (hstack : g.stack = .ref a :: rest) (hdg : decode c.code g.pc = .ok (.instanceof index, 3)) :
    ∃ T', Stand p l e R s m args below meth c T' locs cells slots ∧ T'.heap = T.heap ∧ ∀ target, Steps p.tables e below (T'.setTop { g with pc := g.pc + 3, stack := .int 1 :: rest }) target → Steps p.tables e below (T.setTop g) target := by
  obtain ⟨cB, h1, D, h2, h3, h4⟩ := hE
  have h1' : s.vm.findClass C = some cB := by rw [← X.warmed.alike.findClass]; exact h1
  obtain ⟨vm', X', st⟩ := X.instanceofYes hexec hown hlink h2 h4 h1' (by rw [h3]; exact Jvm.Free.SB.assignable_self _ _) hg hstack hdg
  exact ⟨_, X', rfl, st⟩
theorem cself {p : Program} {l : Launch} {e : Env} {R : Room} {s : State} {m : MethodId} {args : Array Value} {below : List Frame} {meth : Method} {c : Code} {T : State} {locs : List Loc} {cells slots : Nat} (X : Stand p l e R s m args below meth c T locs cells slots) (hexec : p.tables.exec = Jvm.exec) {own C : String} {index : Nat} (hown : s.vm.findClass own = some m.cls) (hlink : (Cond.classLink own index C).before args s = true) {a : Addr} (hE : Exact C a T)
    {g : JFrame} (hg : g.method = m) {rest : List Value} (hstack : g.stack = .ref a :: rest) (hdg : decode c.code g.pc = .ok (.checkcast index, 3)) :
    ∃ T', Stand p l e R s m args below meth c T' locs cells slots ∧ T'.heap = T.heap ∧ ∀ target, Steps p.tables e below (T'.setTop { g with pc := g.pc + 3, stack := .ref a :: rest }) target → Steps p.tables e below (T.setTop g) target := by
  obtain ⟨cB, h1, D, h2, h3, h4⟩ := hE
  have h1' : s.vm.findClass C = some cB := by rw [← X.warmed.alike.findClass]; exact h1
  obtain ⟨vm', X', st⟩ := X.checkcastYes hexec hown hlink h2 h4 h1' (by rw [h3]; exact Jvm.Free.SB.assignable_self _ _) hg hstack hdg
  exact ⟨_, X', rfl, fun t h => st t (by rw [← hstack] at h; exact h)⟩
namespace SEq
def yN : MethodName := ⟨"java/lang/String", "equals", "(Ljava/lang/Object;)Z"⟩
abbrev yB : ByteArray := jdk_42_method_66_code
theorem d0 : decode yB 0 = .ok (.aload_n 0, 1) := by decide +kernel
theorem d1 : decode yB 1 = .ok (.aload_n 1, 1) := by decide +kernel
theorem d2 : decode yB 2 = .ok (.if_acmp (.ne) 5, 3) := by decide +kernel
theorem d5 : decode yB 5 = .ok (.iconst 1, 1) := by decide +kernel
theorem d6 : decode yB 6 = .ok (.ireturn, 1) := by decide +kernel
theorem d7 : decode yB 7 = .ok (.aload_n 1, 1) := by decide +kernel
theorem d8 : decode yB 8 = .ok (.instanceof 10, 3) := by decide +kernel
theorem d11 : decode yB 11 = .ok (.ifCond (.eq) 43, 3) := by decide +kernel
theorem d14 : decode yB 14 = .ok (.aload_n 1, 1) := by decide +kernel
theorem d15 : decode yB 15 = .ok (.checkcast 10, 3) := by decide +kernel
theorem d18 : decode yB 18 = .ok (.astore_n 2, 1) := by decide +kernel
theorem d19 : decode yB 19 = .ok (.getstatic 38, 3) := by decide +kernel
theorem d22 : decode yB 22 = .ok (.ifCond (.eq) 14, 3) := by decide +kernel
theorem d25 : decode yB 25 = .ok (.aload_n 0, 1) := by decide +kernel
theorem d26 : decode yB 26 = .ok (.getfield 15, 3) := by decide +kernel
theorem d29 : decode yB 29 = .ok (.aload_n 2, 1) := by decide +kernel
theorem d30 : decode yB 30 = .ok (.getfield 15, 3) := by decide +kernel
theorem d33 : decode yB 33 = .ok (.if_icmp (.ne) 21, 3) := by decide +kernel
theorem d36 : decode yB 36 = .ok (.aload_n 0, 1) := by decide +kernel
theorem d37 : decode yB 37 = .ok (.getfield 9, 3) := by decide +kernel
theorem d40 : decode yB 40 = .ok (.aload_n 2, 1) := by decide +kernel
theorem d41 : decode yB 41 = .ok (.getfield 9, 3) := by decide +kernel
theorem d44 : decode yB 44 = .ok (.invokestatic 541, 3) := by decide +kernel
theorem d47 : decode yB 47 = .ok (.ifCond (.eq) 7, 3) := by decide +kernel
theorem d50 : decode yB 50 = .ok (.iconst 1, 1) := by decide +kernel
theorem d51 : decode yB 51 = .ok (.goto 4, 3) := by decide +kernel
theorem d54 : decode yB 54 = .ok (.iconst 0, 1) := by decide +kernel
theorem d55 : decode yB 55 = .ok (.ireturn, 1) := by decide +kernel
def site : List Cond := [.classLink "java/lang/String" 10 "java/lang/String", .fieldLink "java/lang/String" 38 "java/lang/String" "COMPACT_STRINGS" "Z", .fieldLink "java/lang/String" 15 "java/lang/String" "coder" "B", .fieldLink "java/lang/String" 9 "java/lang/String" "value" "[B", LEq.tab] ++ staticW "java/lang/String" 541 LEq.yN
def tab : Cond := tabOf yN yB 3 (some .boolean) site
def P (x t : Addr) (V : Cell) (cd : Int32) (n : Nat) (f : Nat → Int32) (y t' : Addr) (V' : Cell) (cd' : Int32) (k : Nat) (g : Nat → Int32) (z : Int32) (args : Array Value) (s : State) : Prop := args = #[.ref x, .ref y] ∧ Txt x t V cd n f s ∧ Txt y t' V' cd' k g s ∧ StaticIs s "java/lang/String" "COMPACT_STRINGS" "Z" (.int z) ∧ ¬ z = 0
/-- equals(Object) of two Strings: whether the texts are the same -/
theorem law (l : Launch) (x t : Addr) (V : Cell) (cd : Int32) (n : Nat) (f : Nat → Int32) (y t' : Addr) (V' : Cell) (cd' : Int32) (k : Nat) (g : Nat → Int32) (z : Int32) : Law l yN 2 1 1 14 yB 3 (some .boolean) site (P x t V cd n f y t' V' cd' k g z) (Says01 (SameT n f k g)) [] 0 0 := by
  refine Law.of_walk (plainFor_of_name (by decide +kernel)) (by decide +kernel) (by decide +kernel) (by decide) (fun _ _ h => by rw [h.1]; rfl) (fun _ U U' hal hh h => ⟨h.1, h.2.1.mv hal hh, h.2.2.1.mv hal hh, h.2.2.2.1.there hal hh, h.2.2.2.2⟩) (fun r U U' V V' h1 hal h2 h => Says01.mv r U U' V V' h1 hal h2 h) ?_
  intro p e s m args below meth c s₁ X0 hexec hbytes hml hret hlk hnm hown hh0 W hP
  obtain ⟨rfl, hx, hy, s1, hz⟩ := hP
  have c1 : Steps p.tables e below (s₁.setTop (entryFrame m #[.ref x, .ref y] 3)) (s₁.setTop (mkF m 2 #[.val (.ref x), .val (.ref y), .unset] [.ref y, .ref x])) := Steps.trans (entry rfl) (by
    show Steps p.tables e below (s₁.setTop (mkF m 0 #[.val (.ref x), .val (.ref y), .unset] [])) _
    refine XS.aloadN X0.here hexec rfl (hb hbytes d0) rfl rfl ?_
    refine XS.aloadN X0.here hexec rfl (hb hbytes d1) rfl rfl ?_
    exact Steps.refl _)
  by_cases hxy : x = y
  · have c2 : Steps p.tables e below (s₁.setTop (entryFrame m #[.ref x, .ref y] 3)) (s₁.setTop (mkF m 6 #[.val (.ref x), .val (.ref y), .unset] [.int 1])) := c1.trans (by
      refine acmpNo X0.here hexec rfl (hb hbytes d2) rfl rfl rfl (by simp [acmp, hxy]) ?_
      refine iconstV X0.here hexec rfl 1 (hb hbytes d5) (by decide) ?_
      exact Steps.refl _)
    subst hxy
    have ec : cd = cd' := by
      obtain ⟨D, fd, a1, a2, a3⟩ := hx.2.2.1
      obtain ⟨D', fd', b1, b2, b3⟩ := hy.2.2.1
      cases a1.symm.trans b1
      obtain ⟨q1, q2, q3, q4⟩ := a2.1
      obtain ⟨r1, r2, r3, r4⟩ := b2.1
      cases q4.symm.trans r4
      cases a3.symm.trans b3; rfl
    have et : t = t' := by
      obtain ⟨D, fd, a1, a2, a3⟩ := hx.2.1
      obtain ⟨D', fd', b1, b2, b3⟩ := hy.2.1
      cases a1.symm.trans b1
      obtain ⟨q1, q2, q3, q4⟩ := a2.1
      obtain ⟨r1, r2, r3, r4⟩ := b2.1
      cases q4.symm.trans r4
      cases a3.symm.trans b3; rfl
    subst ec et
    have ev : V = V' := by cases hx.2.2.2.1.1.symm.trans hy.2.2.2.1.1; rfl
    subst ev
    have hs : SameT n f k g := (Cod.eqv hx.2.2.2.2.1 hy.2.2.2.2.1 hx.2.2.2.2.2 hy.2.2.2.2.2).mp ⟨rfl, fun _ _ => rfl⟩
    exact ⟨s₁, some (.int 1), _, _, _, X0, rfl, rfl, rfl, (fun h => by cases h), ⟨1, rfl, hh0, Or.inl ⟨rfl, hs⟩⟩, fun fs hl => c2.trans (X0.ireturnOut hexec hret rfl (Or.inr (Or.inl rfl)) (hb hbytes d6) hl)⟩
  · have c2 : Steps p.tables e below (s₁.setTop (entryFrame m #[.ref x, .ref y] 3)) (s₁.setTop (mkF m 8 #[.val (.ref x), .val (.ref y), .unset] [.ref y])) := c1.trans (by
      refine acmpYes X0.here hexec rfl (pc0 := 2) rfl (hb hbytes d2) rfl rfl rfl (by simp [acmp, hxy]) (by decide) rfl ?_
      refine XS.aloadN X0.here hexec rfl (hb hbytes d7) rfl rfl ?_
      exact Steps.refl _)
    obtain ⟨T3, X3, q3, st3⟩ := cinst X0 hexec hown (wk W (.classLink "java/lang/String" 10 "java/lang/String")) (hy.mv X0.warmed.alike hh0).1 (g := (mkF m 8 #[.val (.ref x), .val (.ref y), .unset] [.ref y])) rfl (rest := []) rfl (hb hbytes d8)
    have hh3 := q3.trans hh0
    have c4 : Steps p.tables e below (s₁.setTop (entryFrame m #[.ref x, .ref y] 3)) (T3.setTop (mkF m 15 #[.val (.ref x), .val (.ref y), .unset] [.ref y])) := (c2.trans (st3 _ (Steps.refl _))).trans (by
      refine XS.ifNo X3.here hexec rfl (hb hbytes d11) rfl (i0_eq_f (by decide)) ?_
      refine XS.aloadN X3.here hexec rfl (hb hbytes d14) rfl rfl ?_
      exact Steps.refl _)
    obtain ⟨T5, X5, q5, st5⟩ := cself X3 hexec hown (wk W (.classLink "java/lang/String" 10 "java/lang/String")) (hy.mv X3.warmed.alike hh3).1 (g := (mkF m 15 #[.val (.ref x), .val (.ref y), .unset] [.ref y])) rfl (rest := []) rfl (hb hbytes d15)
    have hh5 := q5.trans hh3
    have c6 : Steps p.tables e below (s₁.setTop (entryFrame m #[.ref x, .ref y] 3)) (T5.setTop (mkF m 19 #[.val (.ref x), .val (.ref y), .val (.ref y)] [])) := (c4.trans (st5 _ (Steps.refl _))).trans (by
      refine XS.astoreN X5.here hexec rfl (hb hbytes d18) rfl rfl rfl ?_
      exact Steps.refl _)
    obtain ⟨T7, X7, q7, st7⟩ := X5.sget hexec hown (wk W (.fieldLink "java/lang/String" 38 "java/lang/String" "COMPACT_STRINGS" "Z")) s1 (fun _ _ h => by rw [hh5]; exact h) (g := (mkF m 19 #[.val (.ref x), .val (.ref y), .val (.ref y)] [])) rfl (hb hbytes d19)
    have hh7 := q7.trans hh5
    have c8 : Steps p.tables e below (s₁.setTop (entryFrame m #[.ref x, .ref y] 3)) (T7.setTop (mkF m 26 #[.val (.ref x), .val (.ref y), .val (.ref y)] [.ref x])) := (c6.trans (st7 _ (Steps.refl _))).trans (by
      refine XS.ifNo X7.here hexec rfl (hb hbytes d22) rfl (i0_eq_f hz) ?_
      refine XS.aloadN X7.here hexec rfl (hb hbytes d25) rfl rfl ?_
      exact Steps.refl _)
    obtain ⟨T9, X9, q9, st9⟩ := X7.hget hexec hown (wk W (.fieldLink "java/lang/String" 15 "java/lang/String" "coder" "B")) (hx.mv X7.warmed.alike hh7).2.2.1 (g := (mkF m 26 #[.val (.ref x), .val (.ref y), .val (.ref y)] [.ref x])) rfl (rest := []) rfl (hb hbytes d26)
    have hh9 := q9.trans hh7
    have c10 : Steps p.tables e below (s₁.setTop (entryFrame m #[.ref x, .ref y] 3)) (T9.setTop (mkF m 30 #[.val (.ref x), .val (.ref y), .val (.ref y)] [.ref y, .int cd])) := (c8.trans (st9 _ (Steps.refl _))).trans (by
      refine XS.aloadN X9.here hexec rfl (hb hbytes d29) rfl rfl ?_
      exact Steps.refl _)
    obtain ⟨T11, X11, q11, st11⟩ := X9.hget hexec hown (wk W (.fieldLink "java/lang/String" 15 "java/lang/String" "coder" "B")) (hy.mv X9.warmed.alike hh9).2.2.1 (g := (mkF m 30 #[.val (.ref x), .val (.ref y), .val (.ref y)] [.ref y, .int cd])) rfl (rest := [.int cd]) rfl (hb hbytes d30)
    have hh11 := q11.trans hh9
    have c12 : Steps p.tables e below (s₁.setTop (entryFrame m #[.ref x, .ref y] 3)) (T11.setTop (mkF m 33 #[.val (.ref x), .val (.ref y), .val (.ref y)] [.int cd', .int cd])) := c10.trans (st11 _ (Steps.refl _))
    by_cases hcd : cd = cd'
    · subst hcd
      have c13 : Steps p.tables e below (s₁.setTop (entryFrame m #[.ref x, .ref y] 3)) (T11.setTop (mkF m 37 #[.val (.ref x), .val (.ref y), .val (.ref y)] [.ref x])) := c12.trans (by
        refine XS.icmpNo X11.here hexec rfl (hb hbytes d33) rfl (ii_ne_f rfl) ?_
        refine XS.aloadN X11.here hexec rfl (hb hbytes d36) rfl rfl ?_
        exact Steps.refl _)
      obtain ⟨T14, X14, q14, st14⟩ := X11.hget hexec hown (wk W (.fieldLink "java/lang/String" 9 "java/lang/String" "value" "[B")) (hx.mv X11.warmed.alike hh11).2.1 (g := (mkF m 37 #[.val (.ref x), .val (.ref y), .val (.ref y)] [.ref x])) rfl (rest := []) rfl (hb hbytes d37)
      have hh14 := q14.trans hh11
      have c15 : Steps p.tables e below (s₁.setTop (entryFrame m #[.ref x, .ref y] 3)) (T14.setTop (mkF m 41 #[.val (.ref x), .val (.ref y), .val (.ref y)] [.ref y, .ref t])) := (c13.trans (st14 _ (Steps.refl _))).trans (by
        refine XS.aloadN X14.here hexec rfl (hb hbytes d40) rfl rfl ?_
        exact Steps.refl _)
      obtain ⟨T16, X16, q16, st16⟩ := X14.hget hexec hown (wk W (.fieldLink "java/lang/String" 9 "java/lang/String" "value" "[B")) (hy.mv X14.warmed.alike hh14).2.1 (g := (mkF m 41 #[.val (.ref x), .val (.ref y), .val (.ref y)] [.ref y, .ref t])) rfl (rest := [.ref t]) rfl (hb hbytes d41)
      have hh16 := q16.trans hh14
      have c17 : Steps p.tables e below (s₁.setTop (entryFrame m #[.ref x, .ref y] 3)) (T16.setTop (mkF m 44 #[.val (.ref x), .val (.ref y), .val (.ref y)] [.ref t', .ref t])) := c15.trans (st16 _ (Steps.refl _))
      obtain ⟨v18, T18, X18, E18, g18⟩ := X16.callS hexec (LEq.law l t V t' V') hown (wks W (staticW "java/lang/String" 541 LEq.yN)) (wk W LEq.tab) (W := 0) (Nat.le_of_ble_eq_true rfl) (Nat.le_of_ble_eq_true rfl) (Nat.le_refl _) (Nat.le_refl _) (g := (mkF m 44 #[.val (.ref x), .val (.ref y), .val (.ref y)] [.ref t', .ref t])) rfl (by rw [hml]; rfl) c17 (argsL := [.ref t, .ref t']) (rest := []) rfl rfl (by show 2 * 0 + 0 ≤ _; decide) (hb hbytes d44) (⟨rfl, hx.2.2.2.1.mv X16.warmed.alike hh16, hx.2.2.2.2.1.ty, hy.2.2.2.1.mv X16.warmed.alike hh16, hy.2.2.2.2.1.ty⟩)
      obtain ⟨v, rfl, q18, hv⟩ := E18
      have iff := Cod.eqv hx.2.2.2.2.1 hy.2.2.2.2.1 hx.2.2.2.2.2 hy.2.2.2.2.2
      rcases hv with ⟨rfl, he⟩ | ⟨rfl, he⟩
      · have c19 : Steps p.tables e below (s₁.setTop (entryFrame m #[.ref x, .ref y] 3)) (T18.setTop (mkF m 55 #[.val (.ref x), .val (.ref y), .val (.ref y)] [.int 1])) := Steps.trans g18 (by
          refine XS.ifNo X18.here hexec rfl (hb hbytes d47) rfl (i0_eq_f (by decide)) ?_
          refine iconstV X18.here hexec rfl 1 (hb hbytes d50) (by decide) ?_
          refine XS.goto X18.here hexec rfl (pc0 := 51) rfl (hb hbytes d51) (by decide) rfl ?_
          exact Steps.refl _)
        exact ⟨T18, some (.int 1), _, _, _, X18, rfl, rfl, rfl, (fun h => by cases h), ⟨1, rfl, q18.trans hh16, Or.inl ⟨rfl, iff.mp he⟩⟩, fun fs hl => c19.trans (X18.ireturnOut hexec hret rfl (Or.inr (Or.inl rfl)) (hb hbytes d55) hl)⟩
      · have c19 : Steps p.tables e below (s₁.setTop (entryFrame m #[.ref x, .ref y] 3)) (T18.setTop (mkF m 55 #[.val (.ref x), .val (.ref y), .val (.ref y)] [.int 0])) := Steps.trans g18 (by
          refine XS.ifYes X18.here hexec rfl (pc0 := 47) rfl (hb hbytes d47) rfl (i0_eq_t rfl) (by decide) rfl ?_
          refine iconstV X18.here hexec rfl 0 (hb hbytes d54) (by decide) ?_
          exact Steps.refl _)
        exact ⟨T18, some (.int 0), _, _, _, X18, rfl, rfl, rfl, (fun h => by cases h), ⟨0, rfl, q18.trans hh16, Or.inr ⟨rfl, fun q => he (iff.mpr q)⟩⟩, fun fs hl => c19.trans (X18.ireturnOut hexec hret rfl (Or.inr (Or.inl rfl)) (hb hbytes d55) hl)⟩
    · have c13 : Steps p.tables e below (s₁.setTop (entryFrame m #[.ref x, .ref y] 3)) (T11.setTop (mkF m 55 #[.val (.ref x), .val (.ref y), .val (.ref y)] [.int 0])) := c12.trans (by
        refine XS.icmpYes X11.here hexec rfl (pc0 := 33) rfl (hb hbytes d33) rfl (ii_ne_t hcd) (by decide) rfl ?_
        refine iconstV X11.here hexec rfl 0 (hb hbytes d54) (by decide) ?_
        exact Steps.refl _)
      exact ⟨T11, some (.int 0), _, _, _, X11, rfl, rfl, rfl, (fun h => by cases h), ⟨0, rfl, hh11, Or.inr ⟨rfl, Cod.dif hx.2.2.2.2.1 hy.2.2.2.2.1 hcd⟩⟩, fun fs hl => c13.trans (X11.ireturnOut hexec hret rfl (Or.inr (Or.inl rfl)) (hb hbytes d55) hl)⟩
theorem pays {l : Launch} {R : Room} {p : Program} {e : Env} {below : List Frame} {s : State} {sargs : Array Value} {len W : Nat} (x t : Addr) (V : Cell) (cd : Int32) (n : Nat) (f : Nat → Int32) (y t' : Addr) (V' : Cell) (cd' : Int32) (k : Nat) (g : Nat → Int32) (z : Int32) (htab : tab.before sargs s = true) (hfr : 2 ≤ R.frames) (hlo : W + 28 ≤ R.locals) :
    Back l R p e below s sargs yN len W (fun A₁ a₁ => A₁.cells + 0 ≤ R.cells ∧ A₁.slots + 0 ≤ R.slots ∧ P x t V cd n f y t' V' cd' k g z a₁ A₁.U) (fun A₁ _ v₁ B₁ => Says01 (SameT n f k g) v₁ A₁.U B₁.U ∧ B₁.locs = A₁.locs ++ [] ∧ B₁.cells = A₁.cells + 0 ∧ B₁.slots = A₁.slots + 0) :=
  (law l x t V cd n f y t' V' cd' k g z).pays htab hfr (by omega)
end SEq
end StrChars
namespace StrChars.Road
open Jvm Sem ClassFile Op Lib Jvm.Stand Jvm.Free Jvm.Free.XT
open Jvm.Lib.Cold (StaticIs)
/-- the words of String.equals(Object) -/
abbrev wordsEq : List Jvm.Cond := [.code SEq.yN SEq.yB 3 (some .boolean), .initialized ST, .classLink ST 10 ST, .fieldLink ST 38 ST "COMPACT_STRINGS" "Z", .fieldLink ST 15 ST "coder" "B", .fieldLink ST 9 ST "value" "[B", .methodLink ST 541 LEq.yN, .static LEq.yN, .code LEq.yN LEq.yB 3 (some .boolean), .initialized "java/lang/StringLatin1"]
theorem tabEq_of {a : Array Value} {s : State} (h : ∀ w ∈ wordsEq, w.before a s = true) : SEq.tab.before a s = true := by
  have hl : LEq.tab.before a s = true := unparts (wk h (.code LEq.yN LEq.yB 3 (some .boolean))) (wks h (.initialized LEq.yN.cls :: LEq.site))
  have q := consq hl h
  exact unparts (wk q (.code SEq.yN SEq.yB 3 (some .boolean))) (wks q (.initialized SEq.yN.cls :: SEq.site))
theorem movedEq {Z s : State} {a0 args : Array Value} (hZ : Z.Warmed39 s.vm) (hw : ∀ d ∈ wordsEq, d.before a0 Z = true) : ∀ d ∈ wordsEq, d.before args s = true := fun d hd => by
  have t : ∀ d ∈ wordsEq, (d.onTables && d.keepsFace) = true := by decide +kernel
  exact RoadKit.mv hZ (hw d hd) (t d hd)
/-- the road's facts of a String, as the laws ask it -/
theorem txt_of {Z U : State} {a0 : Array Value} {kI : Nat} (wi : (Jvm.Cond.instantiable ST kI).before a0 Z = true) (al : Z.vm.Alike U.vm) {x t : Addr} {kb : ClassId} {cs : List Int32} {cd N2 : Int32} {vs : List Value} (E : RoadKit.Exa Z U.heap x ST) (V : RoadKit.Fld Z U.heap x ST "value" "[B" (.ref t)) (C : RoadKit.Fld Z U.heap x ST "coder" "B" (.int cd)) (K : RoadKit.Arv Z U.heap t kb .byte N2 vs (.int 0)) (hc : CodA cs cd N2 vs) (hb : ∀ c ∈ cs, ¬ c < 0 ∧ ¬ (65535 : Int32) < c) (l2 : cs.length ≤ 4000) :
    ∃ A, Txt x t A cd cs.length (fun j => cs.getD j 0) U := by
  obtain ⟨A, K1, K2, K3, K4, K5, K6⟩ := K
  have hcod := hc.cod (by omega) K3 K5
  obtain ⟨D, fV, fC, hB, F1, F2, g1, g2, -, -⟩ := strObj wi al E V C
  exact ⟨A, ⟨_, hB.2.2.1, D, hB.1, rfl, by cases q : D.vm <;> first | rfl | exact absurd q (hB.2.1.2 _)⟩, Has.of hB F1 g1, Has.of hB F2 g2, ⟨K1.1, State.isArrayOf_alike al K1.2.1, K1.2.2, by rcases hcod with ⟨-, q, -⟩ | ⟨-, q, -⟩ <;> omega⟩, hcod, fun j hj => by
    have e : cs.getD j 0 = cs[j] := by simp [List.getD_eq_getElem?_getD, hj]
    show ¬ cs.getD j 0 < 0 ∧ ¬ 65535 < cs.getD j 0
    rw [e]; exact hb _ (List.getElem_mem _)⟩
theorem same_list (cs ds : List Int32) : SameT cs.length (fun j => cs.getD j 0) ds.length (fun j => ds.getD j 0) ↔ cs = ds := by
  constructor
  · rintro ⟨e, q⟩
    refine List.ext_getElem e fun j h1 h2 => ?_
    have := q j h1
    simpa [List.getD_eq_getElem?_getD, h1, h2] using this
  · rintro rfl
    exact ⟨rfl, fun _ _ => rfl⟩
/-- **equals(Object) OF TWO SUCH STRINGS**: 1 just where the chars are the same -/
theorem eqW {p : Program} {l : Launch} {e : Env} {R : Room} {s : State} {args : Array Value} {below : List Frame} {len W : Nat} {Z : State} {a0 : Array Value} {h : Heap} (hZ : Z.Warmed39 s.vm) (hw : ∀ d ∈ wordsEq, d.before a0 Z = true) {kI : Nat} (wi : (Jvm.Cond.instantiable ST kI).before a0 Z = true)
    {x t : Addr} {kb : ClassId} {cs : List Int32} {cd N2 : Int32} {vs : List Value} (E : RoadKit.Exa Z h x ST) (V : RoadKit.Fld Z h x ST "value" "[B" (.ref t)) (C : RoadKit.Fld Z h x ST "coder" "B" (.int cd)) (K : RoadKit.Arv Z h t kb .byte N2 vs (.int 0)) (hc : CodA cs cd N2 vs) (hb : ∀ c ∈ cs, ¬ c < 0 ∧ ¬ (65535 : Int32) < c) (l2 : cs.length ≤ 4000)
    {y t' : Addr} {kb' : ClassId} {ds : List Int32} {cd' N2' : Int32} {vs' : List Value} (E' : RoadKit.Exa Z h y ST) (V' : RoadKit.Fld Z h y ST "value" "[B" (.ref t')) (C' : RoadKit.Fld Z h y ST "coder" "B" (.int cd')) (K' : RoadKit.Arv Z h t' kb' .byte N2' vs' (.int 0)) (hc' : CodA ds cd' N2' vs') (hb' : ∀ c ∈ ds, ¬ c < 0 ∧ ¬ (65535 : Int32) < c) (l2' : ds.length ≤ 4000)
    {z : Int32} (S : RoadKit.Sta Z h ST "COMPACT_STRINGS" "Z" (.int z)) (hz : ¬ z = 0) (hfr : 2 ≤ R.frames) (hlo : W + 28 ≤ R.locals) :
    Back l R p e below s args (⟨"java/lang/String", "equals", "(Ljava/lang/Object;)Z"⟩ : MethodName) len W (fun P a => a = #[.ref x, .ref y] ∧ P.U.heap = h ∧ P.cells + 0 ≤ R.cells ∧ P.slots + 0 ≤ R.slots)
      (fun P _ v B => ∃ L, (((v = some (.int 1) ∧ cs = ds) ∨ (v = some (.int 0) ∧ ¬ cs = ds)) ∧ L = [] ∧ B.U.heap = h) ∧ B.locs = P.locs ++ L ∧ B.cells = P.cells + 0 ∧ B.slots = P.slots + 0) := by
  intro m meth c P g ig mk a X hg hsize hdg hW hn hp'
  obtain ⟨rfl, rfl, r1, r2⟩ := hp'
  have al : Z.vm.Alike P.U.vm := hZ.alike.trans X.warmed.alike
  obtain ⟨A, hx⟩ := txt_of wi al E V C K hc hb l2
  obtain ⟨A', hy⟩ := txt_of wi al E' V' C' K' hc' hb' l2'
  obtain ⟨v, B, X', ⟨⟨w, hv, hh, hq⟩, hl, hk, hs⟩, st⟩ := SEq.pays x t A cd cs.length (fun j => cs.getD j 0) y t' A' cd' ds.length (fun j => ds.getD j 0) z (tabEq_of (movedEq hZ hw)) hfr hlo m meth c P g ig mk _ X hg hsize hdg hW hn ⟨r1, r2, rfl, hx, hy, sta_is al S, hz⟩
  refine ⟨v, B, X', ⟨[], ⟨?_, rfl, hh⟩, hl, hk, hs⟩, st⟩
  rcases hq with ⟨rfl, q⟩ | ⟨rfl, q⟩
  · exact Or.inl ⟨hv, (same_list cs ds).mp q⟩
  · exact Or.inr ⟨hv, fun e => q ((same_list cs ds).mpr e)⟩
end StrChars.Road
namespace StrChars.Road
open Jvm Sem ClassFile Op Lib Jvm.Stand Jvm.Free Jvm.Free.XT
open Jvm.Lib.Cold (StaticIs)
/-- what backV says of its String, as the contracts of this text ask it: cs's low bytes, coder 0 -/
theorem codOf {cs : List Int32} {n : Nat} (hn : cs.length = n) (hb : ∀ c ∈ cs, ¬ 255 < c) : CodA cs 0 (Int32.ofNat n) ((cs.map lo8).map Value.int) := Or.inl ⟨rfl, by rw [hn], by simp [List.map_map, Function.comp_def], hb⟩
end StrChars.Road
end Jvm.Pilot.@@N@@

namespace Jvm.Pilot.@@N@@
open Jvm Jvm.ClassFile Sem Op Lib Jvm.Free Jvm.Stand Jvm.LawKit Jvm.RoadKit Bundle Jvm.Pilot.@@N@@.Jvm.D
theorem W_0 {Z : State} {aw : Array Value} (hw : ∀ d ∈ tables_1, d.before aw Z = true) : (Jvm.Cond.methodLink "com/example/dispatch_note/dispatchnote/contract/ManagedMemberNamedPinLaw" (17 : Nat) ({ cls := "com/example/dispatch_note/dispatchnote/contract/ManagedMemberNamedPinLaw", name := "appended", desc := "(IC)[C" } : Jvm.MethodName)).before aw Z = true := hw _ (List.mem_of_getElem? (i := 0) rfl)
theorem W_1 {Z : State} {aw : Array Value} (hw : ∀ d ∈ tables_1, d.before aw Z = true) : (Jvm.Cond.static ({ cls := "com/example/dispatch_note/dispatchnote/contract/ManagedMemberNamedPinLaw", name := "appended", desc := "(IC)[C" } : Jvm.MethodName)).before aw Z = true := hw _ (List.mem_of_getElem? (i := 1) rfl)
theorem W_2 {Z : State} {aw : Array Value} (hw : ∀ d ∈ tables_1, d.before aw Z = true) : (Jvm.Cond.initialized "com/example/dispatch_note/dispatchnote/contract/ManagedMemberNamedPinLaw").before aw Z = true := hw _ (List.mem_of_getElem? (i := 2) rfl)
theorem W_3 {Z : State} {aw : Array Value} (hw : ∀ d ∈ tables_1, d.before aw Z = true) : (Jvm.Cond.code ({ cls := "com/example/dispatch_note/dispatchnote/contract/ManagedMemberNamedPinLaw", name := "appended", desc := "(IC)[C" } : Jvm.MethodName) method_5_code (2 : Nat) (Option.some (Jvm.ClassFile.FieldType.array Jvm.ClassFile.FieldType.char))).before aw Z = true := hw _ (List.mem_of_getElem? (i := 3) rfl)
theorem W_4 {Z : State} {aw : Array Value} (hw : ∀ d ∈ tables_1, d.before aw Z = true) : (Jvm.Cond.arrayClass Jvm.ClassFile.FieldType.char).before aw Z = true := hw _ (List.mem_of_getElem? (i := 4) rfl)
theorem W_5 {Z : State} {aw : Array Value} (hw : ∀ d ∈ tables_1, d.before aw Z = true) : (Jvm.Cond.classLink "com/example/dispatch_note/dispatchnote/contract/ManagedMemberNamedPinLaw" (21 : Nat) "java/lang/String").before aw Z = true := hw _ (List.mem_of_getElem? (i := 5) rfl)
theorem W_6 {Z : State} {aw : Array Value} (hw : ∀ d ∈ tables_1, d.before aw Z = true) : (Jvm.Cond.instantiable "java/lang/String" (4 : Nat)).before aw Z = true := hw _ (List.mem_of_getElem? (i := 6) rfl)
theorem W_7 {Z : State} {aw : Array Value} (hw : ∀ d ∈ tables_1, d.before aw Z = true) : (Jvm.Cond.initialized "java/lang/String").before aw Z = true := hw _ (List.mem_of_getElem? (i := 7) rfl)
theorem W_8 {Z : State} {aw : Array Value} (hw : ∀ d ∈ tables_1, d.before aw Z = true) : (Jvm.Cond.methodLink "com/example/dispatch_note/dispatchnote/contract/ManagedMemberNamedPinLaw" (23 : Nat) ({ cls := "java/lang/String", name := "<init>", desc := "([C)V" } : Jvm.MethodName)).before aw Z = true := hw _ (List.mem_of_getElem? (i := 8) rfl)
theorem W_9 {Z : State} {aw : Array Value} (hw : ∀ d ∈ tables_1, d.before aw Z = true) : (Jvm.Cond.instanceMethod ({ cls := "java/lang/String", name := "<init>", desc := "([C)V" } : Jvm.MethodName)).before aw Z = true := hw _ (List.mem_of_getElem? (i := 9) rfl)
theorem W_10 {Z : State} {aw : Array Value} (hw : ∀ d ∈ tables_1, d.before aw Z = true) : (Jvm.Cond.code ({ cls := "java/lang/String", name := "<init>", desc := "([C)V" } : Jvm.MethodName) jdk_42_method_3_code (2 : Nat) (Option.none : Option Jvm.ClassFile.FieldType)).before aw Z = true := hw _ (List.mem_of_getElem? (i := 10) rfl)
theorem W_11 {Z : State} {aw : Array Value} (hw : ∀ d ∈ tables_1, d.before aw Z = true) : (Jvm.Cond.methodLink "java/lang/String" (27 : Nat) ({ cls := "java/lang/String", name := "<init>", desc := "([CIILjava/lang/Void;)V" } : Jvm.MethodName)).before aw Z = true := hw _ (List.mem_of_getElem? (i := 11) rfl)
theorem W_12 {Z : State} {aw : Array Value} (hw : ∀ d ∈ tables_1, d.before aw Z = true) : (Jvm.Cond.instanceMethod ({ cls := "java/lang/String", name := "<init>", desc := "([CIILjava/lang/Void;)V" } : Jvm.MethodName)).before aw Z = true := hw _ (List.mem_of_getElem? (i := 12) rfl)
theorem W_14 {Z : State} {aw : Array Value} (hw : ∀ d ∈ tables_1, d.before aw Z = true) : (Jvm.Cond.code ({ cls := "java/lang/String", name := "<init>", desc := "([CIILjava/lang/Void;)V" } : Jvm.MethodName) jdk_42_method_149_code (6 : Nat) (Option.none : Option Jvm.ClassFile.FieldType)).before aw Z = true := hw _ (List.mem_of_getElem? (i := 14) rfl)
theorem W_15 {Z : State} {aw : Array Value} (hw : ∀ d ∈ tables_1, d.before aw Z = true) : (Jvm.Cond.methodLink "java/lang/String" (1 : Nat) ({ cls := "java/lang/Object", name := "<init>", desc := "()V" } : Jvm.MethodName)).before aw Z = true := hw _ (List.mem_of_getElem? (i := 15) rfl)
theorem W_16 {Z : State} {aw : Array Value} (hw : ∀ d ∈ tables_1, d.before aw Z = true) : (Jvm.Cond.instanceMethod ({ cls := "java/lang/Object", name := "<init>", desc := "()V" } : Jvm.MethodName)).before aw Z = true := hw _ (List.mem_of_getElem? (i := 16) rfl)
theorem W_17 {Z : State} {aw : Array Value} (hw : ∀ d ∈ tables_1, d.before aw Z = true) : (Jvm.Cond.code ({ cls := "java/lang/Object", name := "<init>", desc := "()V" } : Jvm.MethodName) object_method_1_code (1 : Nat) (Option.none : Option Jvm.ClassFile.FieldType)).before aw Z = true := hw _ (List.mem_of_getElem? (i := 17) rfl)
theorem W_23 {Z : State} {aw : Array Value} (hw : ∀ d ∈ tables_1, d.before aw Z = true) : (Jvm.Cond.arrayClass Jvm.ClassFile.FieldType.byte).before aw Z = true := hw _ (List.mem_of_getElem? (i := 23) rfl)
theorem W_30 {Z : State} {aw : Array Value} (hw : ∀ d ∈ tables_1, d.before aw Z = true) : (Jvm.Cond.fieldLink "java/lang/String" (15 : Nat) "java/lang/String" "coder" "B").before aw Z = true := hw _ (List.mem_of_getElem? (i := 30) rfl)
theorem W_31 {Z : State} {aw : Array Value} (hw : ∀ d ∈ tables_1, d.before aw Z = true) : (Jvm.Cond.laysFinal "java/lang/String" "java/lang/String" "coder" "B").before aw Z = true := hw _ (List.mem_of_getElem? (i := 31) rfl)
theorem W_32 {Z : State} {aw : Array Value} (hw : ∀ d ∈ tables_1, d.before aw Z = true) : (Jvm.Cond.fieldLink "java/lang/String" (9 : Nat) "java/lang/String" "value" "[B").before aw Z = true := hw _ (List.mem_of_getElem? (i := 32) rfl)
theorem W_33 {Z : State} {aw : Array Value} (hw : ∀ d ∈ tables_1, d.before aw Z = true) : (Jvm.Cond.laysFinal "java/lang/String" "java/lang/String" "value" "[B").before aw Z = true := hw _ (List.mem_of_getElem? (i := 33) rfl)
theorem W_34 {Z : State} {aw : Array Value} (hw : ∀ d ∈ tables_1, d.before aw Z = true) : (Jvm.Cond.stringLink "com/example/dispatch_note/dispatchnote/contract/ManagedMemberNamedPinLaw" (26 : Nat) "id").before aw Z = true := hw _ (List.mem_of_getElem? (i := 34) rfl)
theorem W_35 {Z : State} {aw : Array Value} (hw : ∀ d ∈ tables_1, d.before aw Z = true) : (Jvm.Cond.soleField "java/lang/String" "value").before aw Z = true := hw _ (List.mem_of_getElem? (i := 35) rfl)
theorem W_36 {Z : State} {aw : Array Value} (hw : ∀ d ∈ tables_1, d.before aw Z = true) : (Jvm.Cond.soleField "java/lang/String" "coder").before aw Z = true := hw _ (List.mem_of_getElem? (i := 36) rfl)
theorem W_37 {Z : State} {aw : Array Value} (hw : ∀ d ∈ tables_1, d.before aw Z = true) : (Jvm.Cond.methodLink "com/example/dispatch_note/dispatchnote/contract/ManagedMemberNamedPinLaw" (28 : Nat) ({ cls := "java/lang/String", name := "equals", desc := "(Ljava/lang/Object;)Z" } : Jvm.MethodName)).before aw Z = true := hw _ (List.mem_of_getElem? (i := 37) rfl)
theorem W_38 {Z : State} {aw : Array Value} (hw : ∀ d ∈ tables_1, d.before aw Z = true) : (Jvm.Cond.declares ({ cls := "java/lang/String", name := "equals", desc := "(Ljava/lang/Object;)Z" } : Jvm.MethodName)).before aw Z = true := hw _ (List.mem_of_getElem? (i := 38) rfl)
theorem W_39 {Z : State} {aw : Array Value} (hw : ∀ d ∈ tables_1, d.before aw Z = true) : (Jvm.Cond.instanceMethod ({ cls := "java/lang/String", name := "equals", desc := "(Ljava/lang/Object;)Z" } : Jvm.MethodName)).before aw Z = true := hw _ (List.mem_of_getElem? (i := 39) rfl)
theorem W_40 {Z : State} {aw : Array Value} (hw : ∀ d ∈ tables_1, d.before aw Z = true) : (Jvm.Cond.selects "java/lang/String" ({ cls := "java/lang/String", name := "equals", desc := "(Ljava/lang/Object;)Z" } : Jvm.MethodName) ({ cls := "java/lang/String", name := "equals", desc := "(Ljava/lang/Object;)Z" } : Jvm.MethodName)).before aw Z = true := hw _ (List.mem_of_getElem? (i := 40) rfl)
theorem W_47 {Z : State} {aw : Array Value} (hw : ∀ d ∈ tables_1, d.before aw Z = true) : (Jvm.Cond.stringLink "com/example/dispatch_note/dispatchnote/contract/ManagedMemberNamedPinLaw" (38 : Nat) "version").before aw Z = true := hw _ (List.mem_of_getElem? (i := 47) rfl)
theorem W_48 {Z : State} {aw : Array Value} (hw : ∀ d ∈ tables_1, d.before aw Z = true) : (Jvm.Cond.stringLink "com/example/dispatch_note/dispatchnote/contract/ManagedMemberNamedPinLaw" (43 : Nat) "createdAt").before aw Z = true := hw _ (List.mem_of_getElem? (i := 48) rfl)
theorem W_49 {Z : State} {aw : Array Value} (hw : ∀ d ∈ tables_1, d.before aw Z = true) : (Jvm.Cond.stringLink "com/example/dispatch_note/dispatchnote/contract/ManagedMemberNamedPinLaw" (48 : Nat) "updatedAt").before aw Z = true := hw _ (List.mem_of_getElem? (i := 49) rfl)
theorem W_50 {Z : State} {aw : Array Value} (hw : ∀ d ∈ tables_1, d.before aw Z = true) : (Jvm.Cond.methodLink "com/example/dispatch_note/dispatchnote/contract/ManagedMemberNamedPinLaw" (53 : Nat) ({ cls := "com/example/dispatch_note/dispatchnote/contract/ManagedMember", name := "named", desc := "(Ljava/lang/String;)Ljava/util/Optional;" } : Jvm.MethodName)).before aw Z = true := hw _ (List.mem_of_getElem? (i := 50) rfl)
theorem W_51 {Z : State} {aw : Array Value} (hw : ∀ d ∈ tables_1, d.before aw Z = true) : (Jvm.Cond.static ({ cls := "com/example/dispatch_note/dispatchnote/contract/ManagedMember", name := "named", desc := "(Ljava/lang/String;)Ljava/util/Optional;" } : Jvm.MethodName)).before aw Z = true := hw _ (List.mem_of_getElem? (i := 51) rfl)
theorem W_52 {Z : State} {aw : Array Value} (hw : ∀ d ∈ tables_1, d.before aw Z = true) : (Jvm.Cond.initialized "com/example/dispatch_note/dispatchnote/contract/ManagedMember").before aw Z = true := hw _ (List.mem_of_getElem? (i := 52) rfl)
theorem W_53 {Z : State} {aw : Array Value} (hw : ∀ d ∈ tables_1, d.before aw Z = true) : (Jvm.Cond.code ({ cls := "com/example/dispatch_note/dispatchnote/contract/ManagedMember", name := "named", desc := "(Ljava/lang/String;)Ljava/util/Optional;" } : Jvm.MethodName) prog_4_method_5_code (5 : Nat) (Option.some (Jvm.ClassFile.FieldType.object "java/util/Optional"))).before aw Z = true := hw _ (List.mem_of_getElem? (i := 53) rfl)
theorem W_54 {Z : State} {aw : Array Value} (hw : ∀ d ∈ tables_1, d.before aw Z = true) : (Jvm.Cond.methodLink "com/example/dispatch_note/dispatchnote/contract/ManagedMember" (43 : Nat) ({ cls := "com/example/dispatch_note/dispatchnote/contract/ManagedMember", name := "values", desc := "()[Lcom/example/dispatch_note/dispatchnote/contract/ManagedMember;" } : Jvm.MethodName)).before aw Z = true := hw _ (List.mem_of_getElem? (i := 54) rfl)
theorem W_55 {Z : State} {aw : Array Value} (hw : ∀ d ∈ tables_1, d.before aw Z = true) : (Jvm.Cond.static ({ cls := "com/example/dispatch_note/dispatchnote/contract/ManagedMember", name := "values", desc := "()[Lcom/example/dispatch_note/dispatchnote/contract/ManagedMember;" } : Jvm.MethodName)).before aw Z = true := hw _ (List.mem_of_getElem? (i := 55) rfl)
theorem W_56 {Z : State} {aw : Array Value} (hw : ∀ d ∈ tables_1, d.before aw Z = true) : (Jvm.Cond.code ({ cls := "com/example/dispatch_note/dispatchnote/contract/ManagedMember", name := "values", desc := "()[Lcom/example/dispatch_note/dispatchnote/contract/ManagedMember;" } : Jvm.MethodName) prog_4_method_1_code (0 : Nat) (Option.some (Jvm.ClassFile.FieldType.array (Jvm.ClassFile.FieldType.object "com/example/dispatch_note/dispatchnote/contract/ManagedMember")))).before aw Z = true := hw _ (List.mem_of_getElem? (i := 56) rfl)
theorem W_57 {Z : State} {aw : Array Value} (hw : ∀ d ∈ tables_1, d.before aw Z = true) : (Jvm.Cond.fieldLink "com/example/dispatch_note/dispatchnote/contract/ManagedMember" (16 : Nat) "com/example/dispatch_note/dispatchnote/contract/ManagedMember" "$VALUES" "[Lcom/example/dispatch_note/dispatchnote/contract/ManagedMember;").before aw Z = true := hw _ (List.mem_of_getElem? (i := 57) rfl)
theorem W_58 {Z : State} {aw : Array Value} (hw : ∀ d ∈ tables_1, d.before aw Z = true) : (Jvm.Cond.laysStatic "com/example/dispatch_note/dispatchnote/contract/ManagedMember" "$VALUES" "[Lcom/example/dispatch_note/dispatchnote/contract/ManagedMember;").before aw Z = true := hw _ (List.mem_of_getElem? (i := 58) rfl)
theorem W_59 {Z : State} {aw : Array Value} (hw : ∀ d ∈ tables_1, d.before aw Z = true) : (Jvm.Cond.methodLink "com/example/dispatch_note/dispatchnote/contract/ManagedMember" (20 : Nat) ({ cls := "[Lcom/example/dispatch_note/dispatchnote/contract/ManagedMember;", name := "clone", desc := "()Ljava/lang/Object;" } : Jvm.MethodName)).before aw Z = true := hw _ (List.mem_of_getElem? (i := 59) rfl)
theorem W_60 {Z : State} {aw : Array Value} (hw : ∀ d ∈ tables_1, d.before aw Z = true) : (Jvm.Cond.sameMethod "[Lcom/example/dispatch_note/dispatchnote/contract/ManagedMember;" "java/lang/Object" "clone" "()Ljava/lang/Object;").before aw Z = true := hw _ (List.mem_of_getElem? (i := 60) rfl)
theorem W_62 {Z : State} {aw : Array Value} (hw : ∀ d ∈ tables_1, d.before aw Z = true) : (Jvm.Cond.instanceMethod ({ cls := "java/lang/Object", name := "clone", desc := "()Ljava/lang/Object;" } : Jvm.MethodName)).before aw Z = true := hw _ (List.mem_of_getElem? (i := 62) rfl)
theorem W_63 {Z : State} {aw : Array Value} (hw : ∀ d ∈ tables_1, d.before aw Z = true) : (Jvm.Cond.selects "[Lcom/example/dispatch_note/dispatchnote/contract/ManagedMember;" ({ cls := "[Lcom/example/dispatch_note/dispatchnote/contract/ManagedMember;", name := "clone", desc := "()Ljava/lang/Object;" } : Jvm.MethodName) ({ cls := "java/lang/Object", name := "clone", desc := "()Ljava/lang/Object;" } : Jvm.MethodName)).before aw Z = true := hw _ (List.mem_of_getElem? (i := 63) rfl)
theorem W_64 {Z : State} {aw : Array Value} (hw : ∀ d ∈ tables_1, d.before aw Z = true) : (Jvm.Cond.native ({ cls := "java/lang/Object", name := "clone", desc := "()Ljava/lang/Object;" } : Jvm.MethodName)).before aw Z = true := hw _ (List.mem_of_getElem? (i := 64) rfl)
theorem W_65 {Z : State} {aw : Array Value} (hw : ∀ d ∈ tables_1, d.before aw Z = true) : (Jvm.Cond.castable "[Lcom/example/dispatch_note/dispatchnote/contract/ManagedMember;" "java/lang/Cloneable").before aw Z = true := hw _ (List.mem_of_getElem? (i := 65) rfl)
theorem W_66 {Z : State} {aw : Array Value} (hw : ∀ d ∈ tables_1, d.before aw Z = true) : (Jvm.Cond.laysStatic "com/example/dispatch_note/dispatchnote/contract/ManagedMember" "ID" "Lcom/example/dispatch_note/dispatchnote/contract/ManagedMember;").before aw Z = true := hw _ (List.mem_of_getElem? (i := 66) rfl)
theorem W_67 {Z : State} {aw : Array Value} (hw : ∀ d ∈ tables_1, d.before aw Z = true) : (Jvm.Cond.laysStatic "com/example/dispatch_note/dispatchnote/contract/ManagedMember" "VERSION" "Lcom/example/dispatch_note/dispatchnote/contract/ManagedMember;").before aw Z = true := hw _ (List.mem_of_getElem? (i := 67) rfl)
theorem W_68 {Z : State} {aw : Array Value} (hw : ∀ d ∈ tables_1, d.before aw Z = true) : (Jvm.Cond.laysStatic "com/example/dispatch_note/dispatchnote/contract/ManagedMember" "CREATED_AT" "Lcom/example/dispatch_note/dispatchnote/contract/ManagedMember;").before aw Z = true := hw _ (List.mem_of_getElem? (i := 68) rfl)
theorem W_69 {Z : State} {aw : Array Value} (hw : ∀ d ∈ tables_1, d.before aw Z = true) : (Jvm.Cond.laysStatic "com/example/dispatch_note/dispatchnote/contract/ManagedMember" "UPDATED_AT" "Lcom/example/dispatch_note/dispatchnote/contract/ManagedMember;").before aw Z = true := hw _ (List.mem_of_getElem? (i := 69) rfl)
theorem W_71 {Z : State} {aw : Array Value} (hw : ∀ d ∈ tables_1, d.before aw Z = true) : (Jvm.Cond.classLink "com/example/dispatch_note/dispatchnote/contract/ManagedMember" (21 : Nat) "[Lcom/example/dispatch_note/dispatchnote/contract/ManagedMember;").before aw Z = true := hw _ (List.mem_of_getElem? (i := 71) rfl)
theorem W_73 {Z : State} {aw : Array Value} (hw : ∀ d ∈ tables_1, d.before aw Z = true) : (Jvm.Cond.fieldLink "com/example/dispatch_note/dispatchnote/contract/ManagedMember" (35 : Nat) "com/example/dispatch_note/dispatchnote/contract/ManagedMember" "memberName" "Ljava/lang/String;").before aw Z = true := hw _ (List.mem_of_getElem? (i := 73) rfl)
theorem W_75 {Z : State} {aw : Array Value} (hw : ∀ d ∈ tables_1, d.before aw Z = true) : (Jvm.Cond.methodLink "com/example/dispatch_note/dispatchnote/contract/ManagedMember" (47 : Nat) ({ cls := "java/lang/String", name := "equals", desc := "(Ljava/lang/Object;)Z" } : Jvm.MethodName)).before aw Z = true := hw _ (List.mem_of_getElem? (i := 75) rfl)
theorem W_76 {Z : State} {aw : Array Value} (hw : ∀ d ∈ tables_1, d.before aw Z = true) : (Jvm.Cond.methodLink "com/example/dispatch_note/dispatchnote/contract/ManagedMember" (59 : Nat) ({ cls := "java/util/Optional", name := "empty", desc := "()Ljava/util/Optional;" } : Jvm.MethodName)).before aw Z = true := hw _ (List.mem_of_getElem? (i := 76) rfl)
theorem W_77 {Z : State} {aw : Array Value} (hw : ∀ d ∈ tables_1, d.before aw Z = true) : (Jvm.Cond.static ({ cls := "java/util/Optional", name := "empty", desc := "()Ljava/util/Optional;" } : Jvm.MethodName)).before aw Z = true := hw _ (List.mem_of_getElem? (i := 77) rfl)
theorem W_78 {Z : State} {aw : Array Value} (hw : ∀ d ∈ tables_1, d.before aw Z = true) : (Jvm.Cond.initialized "java/util/Optional").before aw Z = true := hw _ (List.mem_of_getElem? (i := 78) rfl)
theorem W_79 {Z : State} {aw : Array Value} (hw : ∀ d ∈ tables_1, d.before aw Z = true) : (Jvm.Cond.code ({ cls := "java/util/Optional", name := "empty", desc := "()Ljava/util/Optional;" } : Jvm.MethodName) jdk_32_method_1_code (1 : Nat) (Option.some (Jvm.ClassFile.FieldType.object "java/util/Optional"))).before aw Z = true := hw _ (List.mem_of_getElem? (i := 79) rfl)
theorem W_80 {Z : State} {aw : Array Value} (hw : ∀ d ∈ tables_1, d.before aw Z = true) : (Jvm.Cond.fieldLink "java/util/Optional" (1 : Nat) "java/util/Optional" "EMPTY" "Ljava/util/Optional;").before aw Z = true := hw _ (List.mem_of_getElem? (i := 80) rfl)
theorem W_81 {Z : State} {aw : Array Value} (hw : ∀ d ∈ tables_1, d.before aw Z = true) : (Jvm.Cond.methodLink "com/example/dispatch_note/dispatchnote/contract/ManagedMemberNamedPinLaw" (57 : Nat) ({ cls := "java/util/Optional", name := "orElse", desc := "(Ljava/lang/Object;)Ljava/lang/Object;" } : Jvm.MethodName)).before aw Z = true := hw _ (List.mem_of_getElem? (i := 81) rfl)
theorem W_82 {Z : State} {aw : Array Value} (hw : ∀ d ∈ tables_1, d.before aw Z = true) : (Jvm.Cond.declares ({ cls := "java/util/Optional", name := "orElse", desc := "(Ljava/lang/Object;)Ljava/lang/Object;" } : Jvm.MethodName)).before aw Z = true := hw _ (List.mem_of_getElem? (i := 82) rfl)
theorem W_83 {Z : State} {aw : Array Value} (hw : ∀ d ∈ tables_1, d.before aw Z = true) : (Jvm.Cond.instanceMethod ({ cls := "java/util/Optional", name := "orElse", desc := "(Ljava/lang/Object;)Ljava/lang/Object;" } : Jvm.MethodName)).before aw Z = true := hw _ (List.mem_of_getElem? (i := 83) rfl)
theorem W_84 {Z : State} {aw : Array Value} (hw : ∀ d ∈ tables_1, d.before aw Z = true) : (Jvm.Cond.selects "java/util/Optional" ({ cls := "java/util/Optional", name := "orElse", desc := "(Ljava/lang/Object;)Ljava/lang/Object;" } : Jvm.MethodName) ({ cls := "java/util/Optional", name := "orElse", desc := "(Ljava/lang/Object;)Ljava/lang/Object;" } : Jvm.MethodName)).before aw Z = true := hw _ (List.mem_of_getElem? (i := 84) rfl)
theorem W_85 {Z : State} {aw : Array Value} (hw : ∀ d ∈ tables_1, d.before aw Z = true) : (Jvm.Cond.code ({ cls := "java/util/Optional", name := "orElse", desc := "(Ljava/lang/Object;)Ljava/lang/Object;" } : Jvm.MethodName) jdk_32_method_15_code (2 : Nat) (Option.some (Jvm.ClassFile.FieldType.object "java/lang/Object"))).before aw Z = true := hw _ (List.mem_of_getElem? (i := 85) rfl)
theorem W_86 {Z : State} {aw : Array Value} (hw : ∀ d ∈ tables_1, d.before aw Z = true) : (Jvm.Cond.fieldLink "java/util/Optional" (13 : Nat) "java/util/Optional" "value" "Ljava/lang/Object;").before aw Z = true := hw _ (List.mem_of_getElem? (i := 86) rfl)
theorem W_87 {Z : State} {aw : Array Value} (hw : ∀ d ∈ tables_1, d.before aw Z = true) : (Jvm.Cond.laysFinal "java/util/Optional" "java/util/Optional" "value" "Ljava/lang/Object;").before aw Z = true := hw _ (List.mem_of_getElem? (i := 87) rfl)
theorem W_88 {Z : State} {aw : Array Value} (hw : ∀ d ∈ tables_1, d.before aw Z = true) : (Jvm.Cond.methodLink "com/example/dispatch_note/dispatchnote/contract/ManagedMemberNamedPinLaw" (7 : Nat) ({ cls := "com/example/dispatch_note/dispatchnote/contract/ManagedMemberNamedPinLaw", name := "base", desc := "(I)[C" } : Jvm.MethodName)).before aw Z = true := hw _ (List.mem_of_getElem? (i := 88) rfl)
theorem W_89 {Z : State} {aw : Array Value} (hw : ∀ d ∈ tables_1, d.before aw Z = true) : (Jvm.Cond.static ({ cls := "com/example/dispatch_note/dispatchnote/contract/ManagedMemberNamedPinLaw", name := "base", desc := "(I)[C" } : Jvm.MethodName)).before aw Z = true := hw _ (List.mem_of_getElem? (i := 89) rfl)
theorem W_90 {Z : State} {aw : Array Value} (hw : ∀ d ∈ tables_1, d.before aw Z = true) : (Jvm.Cond.code ({ cls := "com/example/dispatch_note/dispatchnote/contract/ManagedMemberNamedPinLaw", name := "base", desc := "(I)[C" } : Jvm.MethodName) method_3_code (1 : Nat) (Option.some (Jvm.ClassFile.FieldType.array Jvm.ClassFile.FieldType.char))).before aw Z = true := hw _ (List.mem_of_getElem? (i := 90) rfl)
theorem W_91 {Z : State} {aw : Array Value} (hw : ∀ d ∈ tables_1, d.before aw Z = true) : (Jvm.Cond.fieldLink "com/example/dispatch_note/dispatchnote/contract/ManagedMemberNamedPinLaw" (50 : Nat) "com/example/dispatch_note/dispatchnote/contract/ManagedMember" "UPDATED_AT" "Lcom/example/dispatch_note/dispatchnote/contract/ManagedMember;").before aw Z = true := hw _ (List.mem_of_getElem? (i := 91) rfl)
theorem W_92 {Z : State} {aw : Array Value} (hw : ∀ d ∈ tables_1, d.before aw Z = true) : (Jvm.Cond.methodLink "com/example/dispatch_note/dispatchnote/contract/ManagedMember" (53 : Nat) ({ cls := "java/util/Optional", name := "of", desc := "(Ljava/lang/Object;)Ljava/util/Optional;" } : Jvm.MethodName)).before aw Z = true := hw _ (List.mem_of_getElem? (i := 92) rfl)
theorem W_93 {Z : State} {aw : Array Value} (hw : ∀ d ∈ tables_1, d.before aw Z = true) : (Jvm.Cond.static ({ cls := "java/util/Optional", name := "of", desc := "(Ljava/lang/Object;)Ljava/util/Optional;" } : Jvm.MethodName)).before aw Z = true := hw _ (List.mem_of_getElem? (i := 93) rfl)
theorem W_94 {Z : State} {aw : Array Value} (hw : ∀ d ∈ tables_1, d.before aw Z = true) : (Jvm.Cond.code ({ cls := "java/util/Optional", name := "of", desc := "(Ljava/lang/Object;)Ljava/util/Optional;" } : Jvm.MethodName) jdk_32_method_3_code (1 : Nat) (Option.some (Jvm.ClassFile.FieldType.object "java/util/Optional"))).before aw Z = true := hw _ (List.mem_of_getElem? (i := 94) rfl)
theorem W_95 {Z : State} {aw : Array Value} (hw : ∀ d ∈ tables_1, d.before aw Z = true) : (Jvm.Cond.classLink "java/util/Optional" (2 : Nat) "java/util/Optional").before aw Z = true := hw _ (List.mem_of_getElem? (i := 95) rfl)
theorem W_96 {Z : State} {aw : Array Value} (hw : ∀ d ∈ tables_1, d.before aw Z = true) : (Jvm.Cond.instantiable "java/util/Optional" (1 : Nat)).before aw Z = true := hw _ (List.mem_of_getElem? (i := 96) rfl)
theorem W_97 {Z : State} {aw : Array Value} (hw : ∀ d ∈ tables_1, d.before aw Z = true) : (Jvm.Cond.methodLink "java/util/Optional" (17 : Nat) ({ cls := "java/util/Objects", name := "requireNonNull", desc := "(Ljava/lang/Object;)Ljava/lang/Object;" } : Jvm.MethodName)).before aw Z = true := hw _ (List.mem_of_getElem? (i := 97) rfl)
theorem W_98 {Z : State} {aw : Array Value} (hw : ∀ d ∈ tables_1, d.before aw Z = true) : (Jvm.Cond.static ({ cls := "java/util/Objects", name := "requireNonNull", desc := "(Ljava/lang/Object;)Ljava/lang/Object;" } : Jvm.MethodName)).before aw Z = true := hw _ (List.mem_of_getElem? (i := 98) rfl)
theorem W_99 {Z : State} {aw : Array Value} (hw : ∀ d ∈ tables_1, d.before aw Z = true) : (Jvm.Cond.initialized "java/util/Objects").before aw Z = true := hw _ (List.mem_of_getElem? (i := 99) rfl)
theorem W_100 {Z : State} {aw : Array Value} (hw : ∀ d ∈ tables_1, d.before aw Z = true) : (Jvm.Cond.code ({ cls := "java/util/Objects", name := "requireNonNull", desc := "(Ljava/lang/Object;)Ljava/lang/Object;" } : Jvm.MethodName) jdk_31_method_10_code (1 : Nat) (Option.some (Jvm.ClassFile.FieldType.object "java/lang/Object"))).before aw Z = true := hw _ (List.mem_of_getElem? (i := 100) rfl)
theorem W_101 {Z : State} {aw : Array Value} (hw : ∀ d ∈ tables_1, d.before aw Z = true) : (Jvm.Cond.methodLink "java/util/Optional" (23 : Nat) ({ cls := "java/util/Optional", name := "<init>", desc := "(Ljava/lang/Object;)V" } : Jvm.MethodName)).before aw Z = true := hw _ (List.mem_of_getElem? (i := 101) rfl)
theorem W_102 {Z : State} {aw : Array Value} (hw : ∀ d ∈ tables_1, d.before aw Z = true) : (Jvm.Cond.instanceMethod ({ cls := "java/util/Optional", name := "<init>", desc := "(Ljava/lang/Object;)V" } : Jvm.MethodName)).before aw Z = true := hw _ (List.mem_of_getElem? (i := 102) rfl)
theorem W_104 {Z : State} {aw : Array Value} (hw : ∀ d ∈ tables_1, d.before aw Z = true) : (Jvm.Cond.code ({ cls := "java/util/Optional", name := "<init>", desc := "(Ljava/lang/Object;)V" } : Jvm.MethodName) jdk_32_method_2_code (2 : Nat) (Option.none : Option Jvm.ClassFile.FieldType)).before aw Z = true := hw _ (List.mem_of_getElem? (i := 104) rfl)
theorem W_105 {Z : State} {aw : Array Value} (hw : ∀ d ∈ tables_1, d.before aw Z = true) : (Jvm.Cond.methodLink "java/util/Optional" (7 : Nat) ({ cls := "java/lang/Object", name := "<init>", desc := "()V" } : Jvm.MethodName)).before aw Z = true := hw _ (List.mem_of_getElem? (i := 105) rfl)
theorem W_106 {Z : State} {aw : Array Value} (hw : ∀ d ∈ tables_1, d.before aw Z = true) : (Jvm.Cond.classLink "com/example/dispatch_note/dispatchnote/contract/ManagedMemberNamedPinLaw" (33 : Nat) "com/example/dispatch_note/dispatchnote/contract/ManagedMember").before aw Z = true := hw _ (List.mem_of_getElem? (i := 106) rfl)
theorem W_108 {Z : State} {aw : Array Value} (hw : ∀ d ∈ tables_1, d.before aw Z = true) : (Jvm.Cond.fieldLink "com/example/dispatch_note/dispatchnote/contract/ManagedMemberNamedPinLaw" (40 : Nat) "com/example/dispatch_note/dispatchnote/contract/ManagedMember" "VERSION" "Lcom/example/dispatch_note/dispatchnote/contract/ManagedMember;").before aw Z = true := hw _ (List.mem_of_getElem? (i := 108) rfl)
theorem W_109 {Z : State} {aw : Array Value} (hw : ∀ d ∈ tables_1, d.before aw Z = true) : (Jvm.Cond.constant "com/example/dispatch_note/dispatchnote/contract/ManagedMemberNamedPinLaw" (13 : Nat) (2147483647 : Int32)).before aw Z = true := hw _ (List.mem_of_getElem? (i := 109) rfl)
theorem W_110 {Z : State} {aw : Array Value} (hw : ∀ d ∈ tables_1, d.before aw Z = true) : (Jvm.Cond.methodLink "com/example/dispatch_note/dispatchnote/contract/ManagedMemberNamedPinLaw" (14 : Nat) ({ cls := "com/example/dispatch_note/dispatchnote/contract/ManagedMemberNamedPinLaw", name := "truncated", desc := "(I)[C" } : Jvm.MethodName)).before aw Z = true := hw _ (List.mem_of_getElem? (i := 110) rfl)
theorem W_111 {Z : State} {aw : Array Value} (hw : ∀ d ∈ tables_1, d.before aw Z = true) : (Jvm.Cond.static ({ cls := "com/example/dispatch_note/dispatchnote/contract/ManagedMemberNamedPinLaw", name := "truncated", desc := "(I)[C" } : Jvm.MethodName)).before aw Z = true := hw _ (List.mem_of_getElem? (i := 111) rfl)
theorem W_112 {Z : State} {aw : Array Value} (hw : ∀ d ∈ tables_1, d.before aw Z = true) : (Jvm.Cond.code ({ cls := "com/example/dispatch_note/dispatchnote/contract/ManagedMemberNamedPinLaw", name := "truncated", desc := "(I)[C" } : Jvm.MethodName) method_4_code (1 : Nat) (Option.some (Jvm.ClassFile.FieldType.array Jvm.ClassFile.FieldType.char))).before aw Z = true := hw _ (List.mem_of_getElem? (i := 112) rfl)
theorem W_113 {Z : State} {aw : Array Value} (hw : ∀ d ∈ tables_1, d.before aw Z = true) : (Jvm.Cond.fieldLink "com/example/dispatch_note/dispatchnote/contract/ManagedMemberNamedPinLaw" (32 : Nat) "com/example/dispatch_note/dispatchnote/contract/ManagedMember" "ID" "Lcom/example/dispatch_note/dispatchnote/contract/ManagedMember;").before aw Z = true := hw _ (List.mem_of_getElem? (i := 113) rfl)
theorem W_114 {Z : State} {aw : Array Value} (hw : ∀ d ∈ tables_1, d.before aw Z = true) : (Jvm.Cond.stringLink "java/lang/String" (7 : Nat) "").before aw Z = true := hw _ (List.mem_of_getElem? (i := 114) rfl)
theorem W_115 {Z : State} {aw : Array Value} (hw : ∀ d ∈ tables_1, d.before aw Z = true) : (Jvm.Cond.fieldLink "com/example/dispatch_note/dispatchnote/contract/ManagedMemberNamedPinLaw" (45 : Nat) "com/example/dispatch_note/dispatchnote/contract/ManagedMember" "CREATED_AT" "Lcom/example/dispatch_note/dispatchnote/contract/ManagedMember;").before aw Z = true := hw _ (List.mem_of_getElem? (i := 115) rfl)
abbrev EL : List (String × Nat) := [("com/example/dispatch_note/dispatchnote/contract/ManagedMemberNamedPinLaw", 26), ("com/example/dispatch_note/dispatchnote/contract/ManagedMemberNamedPinLaw", 38), ("com/example/dispatch_note/dispatchnote/contract/ManagedMemberNamedPinLaw", 43), ("com/example/dispatch_note/dispatchnote/contract/ManagedMemberNamedPinLaw", 48), ("java/lang/String", 7)]
theorem ew {Z : State} {aw : Array Value} (hw : ∀ d ∈ tables_1, d.before aw Z = true) : EW Z aw EL := (EW.cons (W_34 hw) (by decide +kernel) (EW.cons (W_47 hw) (by decide +kernel) (EW.cons (W_48 hw) (by decide +kernel) (EW.cons (W_49 hw) (by decide +kernel) (EW.cons (W_114 hw) (by decide +kernel) EW.nil)))))
theorem strAtoms {Z : State} {aw : Array Value} (hw : ∀ d ∈ tables_1, d.before aw Z = true) : ∀ a ∈ Bundle.stringAtoms, a.before aw Z = true := by
  intro a ha
  simp only [Bundle.stringAtoms, List.mem_cons, List.not_mem_nil, or_false] at ha
  rcases ha with rfl | rfl | rfl | rfl | rfl | rfl | rfl
  · first | exact (W_7 hw) | exact (W_6 hw) | exact (W_23 hw) | exact (W_33 hw) | exact (W_31 hw) | exact (W_35 hw) | exact (W_36 hw)
  · first | exact (W_7 hw) | exact (W_6 hw) | exact (W_23 hw) | exact (W_33 hw) | exact (W_31 hw) | exact (W_35 hw) | exact (W_36 hw)
  · first | exact (W_7 hw) | exact (W_6 hw) | exact (W_23 hw) | exact (W_33 hw) | exact (W_31 hw) | exact (W_35 hw) | exact (W_36 hw)
  · first | exact (W_7 hw) | exact (W_6 hw) | exact (W_23 hw) | exact (W_33 hw) | exact (W_31 hw) | exact (W_35 hw) | exact (W_36 hw)
  · first | exact (W_7 hw) | exact (W_6 hw) | exact (W_23 hw) | exact (W_33 hw) | exact (W_31 hw) | exact (W_35 hw) | exact (W_36 hw)
  · first | exact (W_7 hw) | exact (W_6 hw) | exact (W_23 hw) | exact (W_33 hw) | exact (W_31 hw) | exact (W_35 hw) | exact (W_36 hw)
  · first | exact (W_7 hw) | exact (W_6 hw) | exact (W_23 hw) | exact (W_33 hw) | exact (W_31 hw) | exact (W_35 hw) | exact (W_36 hw)
theorem hwStr {Z : State} {aw : Array Value} (hw : ∀ d ∈ tables_1, d.before aw Z = true) : ∀ d ∈ StrChars.Road.words, d.before aw Z = true := fun d hd => hw d ((by decide +kernel : ∀ d ∈ StrChars.Road.words, d ∈ tables_1) d hd)
theorem hwEq {Z : State} {aw : Array Value} (hw : ∀ d ∈ tables_1, d.before aw Z = true) : ∀ d ∈ StrChars.Road.wordsEq, d.before aw Z = true := fun d hd => hw d ((by decide +kernel : ∀ d ∈ StrChars.Road.wordsEq, d ∈ tables_1) d hd)
theorem d_jdk_31_method_10_code_0 : decode jdk_31_method_10_code 0 = .ok (.aload_n 0, 1) := by decide +kernel
theorem d_jdk_31_method_10_code_1 : decode jdk_31_method_10_code 1 = .ok (.ifnonnull 11, 3) := by decide +kernel
theorem d_jdk_31_method_10_code_12 : decode jdk_31_method_10_code 12 = .ok (.aload_n 0, 1) := by decide +kernel
theorem d_jdk_31_method_10_code_13 : decode jdk_31_method_10_code 13 = .ok (.areturn, 1) := by decide +kernel
theorem d_jdk_32_method_2_code_0 : decode jdk_32_method_2_code 0 = .ok (.aload_n 0, 1) := by decide +kernel
theorem d_jdk_32_method_2_code_1 : decode jdk_32_method_2_code 1 = .ok (.invokespecial 7, 3) := by decide +kernel
theorem d_jdk_32_method_2_code_4 : decode jdk_32_method_2_code 4 = .ok (.aload_n 0, 1) := by decide +kernel
theorem d_jdk_32_method_2_code_5 : decode jdk_32_method_2_code 5 = .ok (.aload_n 1, 1) := by decide +kernel
theorem d_jdk_32_method_2_code_6 : decode jdk_32_method_2_code 6 = .ok (.putfield 13, 3) := by decide +kernel
theorem d_jdk_32_method_2_code_9 : decode jdk_32_method_2_code 9 = .ok (.return_, 1) := by decide +kernel
theorem d_jdk_32_method_3_code_0 : decode jdk_32_method_3_code 0 = .ok (.new 2, 3) := by decide +kernel
theorem d_jdk_32_method_3_code_3 : decode jdk_32_method_3_code 3 = .ok (.dup, 1) := by decide +kernel
theorem d_jdk_32_method_3_code_4 : decode jdk_32_method_3_code 4 = .ok (.aload_n 0, 1) := by decide +kernel
theorem d_jdk_32_method_3_code_5 : decode jdk_32_method_3_code 5 = .ok (.invokestatic 17, 3) := by decide +kernel
theorem d_jdk_32_method_3_code_8 : decode jdk_32_method_3_code 8 = .ok (.invokespecial 23, 3) := by decide +kernel
theorem d_jdk_32_method_3_code_11 : decode jdk_32_method_3_code 11 = .ok (.areturn, 1) := by decide +kernel
theorem d_jdk_32_method_1_code_0 : decode jdk_32_method_1_code 0 = .ok (.getstatic 1, 3) := by decide +kernel
theorem d_jdk_32_method_1_code_3 : decode jdk_32_method_1_code 3 = .ok (.astore_n 0, 1) := by decide +kernel
theorem d_jdk_32_method_1_code_4 : decode jdk_32_method_1_code 4 = .ok (.aload_n 0, 1) := by decide +kernel
theorem d_jdk_32_method_1_code_5 : decode jdk_32_method_1_code 5 = .ok (.areturn, 1) := by decide +kernel
theorem d_jdk_32_method_15_code_0 : decode jdk_32_method_15_code 0 = .ok (.aload_n 0, 1) := by decide +kernel
theorem d_jdk_32_method_15_code_1 : decode jdk_32_method_15_code 1 = .ok (.getfield 13, 3) := by decide +kernel
theorem d_jdk_32_method_15_code_4 : decode jdk_32_method_15_code 4 = .ok (.ifnull 10, 3) := by decide +kernel
theorem d_jdk_32_method_15_code_7 : decode jdk_32_method_15_code 7 = .ok (.aload_n 0, 1) := by decide +kernel
theorem d_jdk_32_method_15_code_8 : decode jdk_32_method_15_code 8 = .ok (.getfield 13, 3) := by decide +kernel
theorem d_jdk_32_method_15_code_11 : decode jdk_32_method_15_code 11 = .ok (.goto 4, 3) := by decide +kernel
theorem d_jdk_32_method_15_code_15 : decode jdk_32_method_15_code 15 = .ok (.areturn, 1) := by decide +kernel
theorem d_jdk_32_method_15_code_14 : decode jdk_32_method_15_code 14 = .ok (.aload_n 1, 1) := by decide +kernel
theorem d_prog_4_method_1_code_0 : decode prog_4_method_1_code 0 = .ok (.getstatic 16, 3) := by decide +kernel
theorem d_prog_4_method_1_code_3 : decode prog_4_method_1_code 3 = .ok (.invokevirtual 20, 3) := by decide +kernel
theorem d_prog_4_method_1_code_6 : decode prog_4_method_1_code 6 = .ok (.checkcast 21, 3) := by decide +kernel
theorem d_prog_4_method_1_code_9 : decode prog_4_method_1_code 9 = .ok (.areturn, 1) := by decide +kernel
theorem d_prog_4_method_5_code_0 : decode prog_4_method_5_code 0 = .ok (.invokestatic 43, 3) := by decide +kernel
theorem d_prog_4_method_5_code_3 : decode prog_4_method_5_code 3 = .ok (.astore_n 1, 1) := by decide +kernel
theorem d_prog_4_method_5_code_4 : decode prog_4_method_5_code 4 = .ok (.aload_n 1, 1) := by decide +kernel
theorem d_prog_4_method_5_code_5 : decode prog_4_method_5_code 5 = .ok (.arraylength, 1) := by decide +kernel
theorem d_prog_4_method_5_code_6 : decode prog_4_method_5_code 6 = .ok (.istore_n 2, 1) := by decide +kernel
theorem d_prog_4_method_5_code_7 : decode prog_4_method_5_code 7 = .ok (.iconst 0, 1) := by decide +kernel
theorem d_prog_4_method_5_code_8 : decode prog_4_method_5_code 8 = .ok (.istore_n 3, 1) := by decide +kernel
theorem d_prog_4_method_5_code_9 : decode prog_4_method_5_code 9 = .ok (.iload_n 3, 1) := by decide +kernel
theorem d_prog_4_method_5_code_10 : decode prog_4_method_5_code 10 = .ok (.iload_n 2, 1) := by decide +kernel
theorem d_prog_4_method_5_code_11 : decode prog_4_method_5_code 11 = .ok (.if_icmp .ge 32, 3) := by decide +kernel
theorem d_prog_4_method_5_code_14 : decode prog_4_method_5_code 14 = .ok (.aload_n 1, 1) := by decide +kernel
theorem d_prog_4_method_5_code_15 : decode prog_4_method_5_code 15 = .ok (.iload_n 3, 1) := by decide +kernel
theorem d_prog_4_method_5_code_16 : decode prog_4_method_5_code 16 = .ok (.aaload, 1) := by decide +kernel
theorem d_prog_4_method_5_code_17 : decode prog_4_method_5_code 17 = .ok (.astore 4, 2) := by decide +kernel
theorem d_prog_4_method_5_code_19 : decode prog_4_method_5_code 19 = .ok (.aload 4, 2) := by decide +kernel
theorem d_prog_4_method_5_code_21 : decode prog_4_method_5_code 21 = .ok (.getfield 35, 3) := by decide +kernel
theorem d_prog_4_method_5_code_24 : decode prog_4_method_5_code 24 = .ok (.aload_n 0, 1) := by decide +kernel
theorem d_prog_4_method_5_code_25 : decode prog_4_method_5_code 25 = .ok (.invokevirtual 47, 3) := by decide +kernel
theorem d_prog_4_method_5_code_28 : decode prog_4_method_5_code 28 = .ok (.ifCond .eq 9, 3) := by decide +kernel
theorem d_prog_4_method_5_code_31 : decode prog_4_method_5_code 31 = .ok (.aload 4, 2) := by decide +kernel
theorem d_prog_4_method_5_code_33 : decode prog_4_method_5_code 33 = .ok (.invokestatic 53, 3) := by decide +kernel
theorem d_prog_4_method_5_code_36 : decode prog_4_method_5_code 36 = .ok (.areturn, 1) := by decide +kernel
theorem d_prog_4_method_5_code_37 : decode prog_4_method_5_code 37 = .ok (.iinc 3 1, 3) := by decide +kernel
theorem d_prog_4_method_5_code_40 : decode prog_4_method_5_code 40 = .ok (.goto (-31), 3) := by decide +kernel
theorem d_prog_4_method_5_code_43 : decode prog_4_method_5_code 43 = .ok (.invokestatic 59, 3) := by decide +kernel
theorem d_prog_4_method_5_code_46 : decode prog_4_method_5_code 46 = .ok (.areturn, 1) := by decide +kernel
theorem d_method_3_code_0 : decode method_3_code 0 = .ok (.iload_n 0, 1) := by decide +kernel
theorem d_method_3_code_1 : decode method_3_code 1 = .ok (.ifCond .ne 17, 3) := by decide +kernel
theorem d_method_3_code_4 : decode method_3_code 4 = .ok (.iconst 2, 1) := by decide +kernel
theorem d_method_3_code_5 : decode method_3_code 5 = .ok (.newarray .char, 2) := by decide +kernel
theorem d_method_3_code_7 : decode method_3_code 7 = .ok (.dup, 1) := by decide +kernel
theorem d_method_3_code_8 : decode method_3_code 8 = .ok (.iconst 0, 1) := by decide +kernel
theorem d_method_3_code_9 : decode method_3_code 9 = .ok (.bipush 105, 2) := by decide +kernel
theorem d_method_3_code_11 : decode method_3_code 11 = .ok (.castore, 1) := by decide +kernel
theorem d_method_3_code_12 : decode method_3_code 12 = .ok (.dup, 1) := by decide +kernel
theorem d_method_3_code_13 : decode method_3_code 13 = .ok (.iconst 1, 1) := by decide +kernel
theorem d_method_3_code_14 : decode method_3_code 14 = .ok (.bipush 100, 2) := by decide +kernel
theorem d_method_3_code_16 : decode method_3_code 16 = .ok (.castore, 1) := by decide +kernel
theorem d_method_3_code_17 : decode method_3_code 17 = .ok (.areturn, 1) := by decide +kernel
theorem d_method_3_code_18 : decode method_3_code 18 = .ok (.iload_n 0, 1) := by decide +kernel
theorem d_method_3_code_19 : decode method_3_code 19 = .ok (.iconst 1, 1) := by decide +kernel
theorem d_method_3_code_20 : decode method_3_code 20 = .ok (.if_icmp .ne 44, 3) := by decide +kernel
theorem d_method_3_code_23 : decode method_3_code 23 = .ok (.bipush 7, 2) := by decide +kernel
theorem d_method_3_code_25 : decode method_3_code 25 = .ok (.newarray .char, 2) := by decide +kernel
theorem d_method_3_code_27 : decode method_3_code 27 = .ok (.dup, 1) := by decide +kernel
theorem d_method_3_code_28 : decode method_3_code 28 = .ok (.iconst 0, 1) := by decide +kernel
theorem d_method_3_code_29 : decode method_3_code 29 = .ok (.bipush 118, 2) := by decide +kernel
theorem d_method_3_code_31 : decode method_3_code 31 = .ok (.castore, 1) := by decide +kernel
theorem d_method_3_code_32 : decode method_3_code 32 = .ok (.dup, 1) := by decide +kernel
theorem d_method_3_code_33 : decode method_3_code 33 = .ok (.iconst 1, 1) := by decide +kernel
theorem d_method_3_code_34 : decode method_3_code 34 = .ok (.bipush 101, 2) := by decide +kernel
theorem d_method_3_code_36 : decode method_3_code 36 = .ok (.castore, 1) := by decide +kernel
theorem d_method_3_code_37 : decode method_3_code 37 = .ok (.dup, 1) := by decide +kernel
theorem d_method_3_code_38 : decode method_3_code 38 = .ok (.iconst 2, 1) := by decide +kernel
theorem d_method_3_code_39 : decode method_3_code 39 = .ok (.bipush 114, 2) := by decide +kernel
theorem d_method_3_code_41 : decode method_3_code 41 = .ok (.castore, 1) := by decide +kernel
theorem d_method_3_code_42 : decode method_3_code 42 = .ok (.dup, 1) := by decide +kernel
theorem d_method_3_code_43 : decode method_3_code 43 = .ok (.iconst 3, 1) := by decide +kernel
theorem d_method_3_code_44 : decode method_3_code 44 = .ok (.bipush 115, 2) := by decide +kernel
theorem d_method_3_code_46 : decode method_3_code 46 = .ok (.castore, 1) := by decide +kernel
theorem d_method_3_code_47 : decode method_3_code 47 = .ok (.dup, 1) := by decide +kernel
theorem d_method_3_code_48 : decode method_3_code 48 = .ok (.iconst 4, 1) := by decide +kernel
theorem d_method_3_code_49 : decode method_3_code 49 = .ok (.bipush 105, 2) := by decide +kernel
theorem d_method_3_code_51 : decode method_3_code 51 = .ok (.castore, 1) := by decide +kernel
theorem d_method_3_code_52 : decode method_3_code 52 = .ok (.dup, 1) := by decide +kernel
theorem d_method_3_code_53 : decode method_3_code 53 = .ok (.iconst 5, 1) := by decide +kernel
theorem d_method_3_code_54 : decode method_3_code 54 = .ok (.bipush 111, 2) := by decide +kernel
theorem d_method_3_code_56 : decode method_3_code 56 = .ok (.castore, 1) := by decide +kernel
theorem d_method_3_code_57 : decode method_3_code 57 = .ok (.dup, 1) := by decide +kernel
theorem d_method_3_code_58 : decode method_3_code 58 = .ok (.bipush 6, 2) := by decide +kernel
theorem d_method_3_code_60 : decode method_3_code 60 = .ok (.bipush 110, 2) := by decide +kernel
theorem d_method_3_code_62 : decode method_3_code 62 = .ok (.castore, 1) := by decide +kernel
theorem d_method_3_code_63 : decode method_3_code 63 = .ok (.areturn, 1) := by decide +kernel
theorem d_method_3_code_64 : decode method_3_code 64 = .ok (.iload_n 0, 1) := by decide +kernel
theorem d_method_3_code_65 : decode method_3_code 65 = .ok (.iconst 2, 1) := by decide +kernel
theorem d_method_3_code_66 : decode method_3_code 66 = .ok (.if_icmp .ne 56, 3) := by decide +kernel
theorem d_method_3_code_69 : decode method_3_code 69 = .ok (.bipush 9, 2) := by decide +kernel
theorem d_method_3_code_71 : decode method_3_code 71 = .ok (.newarray .char, 2) := by decide +kernel
theorem d_method_3_code_73 : decode method_3_code 73 = .ok (.dup, 1) := by decide +kernel
theorem d_method_3_code_74 : decode method_3_code 74 = .ok (.iconst 0, 1) := by decide +kernel
theorem d_method_3_code_75 : decode method_3_code 75 = .ok (.bipush 99, 2) := by decide +kernel
theorem d_method_3_code_77 : decode method_3_code 77 = .ok (.castore, 1) := by decide +kernel
theorem d_method_3_code_78 : decode method_3_code 78 = .ok (.dup, 1) := by decide +kernel
theorem d_method_3_code_79 : decode method_3_code 79 = .ok (.iconst 1, 1) := by decide +kernel
theorem d_method_3_code_80 : decode method_3_code 80 = .ok (.bipush 114, 2) := by decide +kernel
theorem d_method_3_code_82 : decode method_3_code 82 = .ok (.castore, 1) := by decide +kernel
theorem d_method_3_code_83 : decode method_3_code 83 = .ok (.dup, 1) := by decide +kernel
theorem d_method_3_code_84 : decode method_3_code 84 = .ok (.iconst 2, 1) := by decide +kernel
theorem d_method_3_code_85 : decode method_3_code 85 = .ok (.bipush 101, 2) := by decide +kernel
theorem d_method_3_code_87 : decode method_3_code 87 = .ok (.castore, 1) := by decide +kernel
theorem d_method_3_code_88 : decode method_3_code 88 = .ok (.dup, 1) := by decide +kernel
theorem d_method_3_code_89 : decode method_3_code 89 = .ok (.iconst 3, 1) := by decide +kernel
theorem d_method_3_code_90 : decode method_3_code 90 = .ok (.bipush 97, 2) := by decide +kernel
theorem d_method_3_code_92 : decode method_3_code 92 = .ok (.castore, 1) := by decide +kernel
theorem d_method_3_code_93 : decode method_3_code 93 = .ok (.dup, 1) := by decide +kernel
theorem d_method_3_code_94 : decode method_3_code 94 = .ok (.iconst 4, 1) := by decide +kernel
theorem d_method_3_code_95 : decode method_3_code 95 = .ok (.bipush 116, 2) := by decide +kernel
theorem d_method_3_code_97 : decode method_3_code 97 = .ok (.castore, 1) := by decide +kernel
theorem d_method_3_code_98 : decode method_3_code 98 = .ok (.dup, 1) := by decide +kernel
theorem d_method_3_code_99 : decode method_3_code 99 = .ok (.iconst 5, 1) := by decide +kernel
theorem d_method_3_code_100 : decode method_3_code 100 = .ok (.bipush 101, 2) := by decide +kernel
theorem d_method_3_code_102 : decode method_3_code 102 = .ok (.castore, 1) := by decide +kernel
theorem d_method_3_code_103 : decode method_3_code 103 = .ok (.dup, 1) := by decide +kernel
theorem d_method_3_code_104 : decode method_3_code 104 = .ok (.bipush 6, 2) := by decide +kernel
theorem d_method_3_code_106 : decode method_3_code 106 = .ok (.bipush 100, 2) := by decide +kernel
theorem d_method_3_code_108 : decode method_3_code 108 = .ok (.castore, 1) := by decide +kernel
theorem d_method_3_code_109 : decode method_3_code 109 = .ok (.dup, 1) := by decide +kernel
theorem d_method_3_code_110 : decode method_3_code 110 = .ok (.bipush 7, 2) := by decide +kernel
theorem d_method_3_code_112 : decode method_3_code 112 = .ok (.bipush 65, 2) := by decide +kernel
theorem d_method_3_code_114 : decode method_3_code 114 = .ok (.castore, 1) := by decide +kernel
theorem d_method_3_code_115 : decode method_3_code 115 = .ok (.dup, 1) := by decide +kernel
theorem d_method_3_code_116 : decode method_3_code 116 = .ok (.bipush 8, 2) := by decide +kernel
theorem d_method_3_code_118 : decode method_3_code 118 = .ok (.bipush 116, 2) := by decide +kernel
theorem d_method_3_code_120 : decode method_3_code 120 = .ok (.castore, 1) := by decide +kernel
theorem d_method_3_code_121 : decode method_3_code 121 = .ok (.areturn, 1) := by decide +kernel
theorem d_method_3_code_122 : decode method_3_code 122 = .ok (.bipush 9, 2) := by decide +kernel
theorem d_method_3_code_124 : decode method_3_code 124 = .ok (.newarray .char, 2) := by decide +kernel
theorem d_method_3_code_126 : decode method_3_code 126 = .ok (.dup, 1) := by decide +kernel
theorem d_method_3_code_127 : decode method_3_code 127 = .ok (.iconst 0, 1) := by decide +kernel
theorem d_method_3_code_128 : decode method_3_code 128 = .ok (.bipush 117, 2) := by decide +kernel
theorem d_method_3_code_130 : decode method_3_code 130 = .ok (.castore, 1) := by decide +kernel
theorem d_method_3_code_131 : decode method_3_code 131 = .ok (.dup, 1) := by decide +kernel
theorem d_method_3_code_132 : decode method_3_code 132 = .ok (.iconst 1, 1) := by decide +kernel
theorem d_method_3_code_133 : decode method_3_code 133 = .ok (.bipush 112, 2) := by decide +kernel
theorem d_method_3_code_135 : decode method_3_code 135 = .ok (.castore, 1) := by decide +kernel
theorem d_method_3_code_136 : decode method_3_code 136 = .ok (.dup, 1) := by decide +kernel
theorem d_method_3_code_137 : decode method_3_code 137 = .ok (.iconst 2, 1) := by decide +kernel
theorem d_method_3_code_138 : decode method_3_code 138 = .ok (.bipush 100, 2) := by decide +kernel
theorem d_method_3_code_140 : decode method_3_code 140 = .ok (.castore, 1) := by decide +kernel
theorem d_method_3_code_141 : decode method_3_code 141 = .ok (.dup, 1) := by decide +kernel
theorem d_method_3_code_142 : decode method_3_code 142 = .ok (.iconst 3, 1) := by decide +kernel
theorem d_method_3_code_143 : decode method_3_code 143 = .ok (.bipush 97, 2) := by decide +kernel
theorem d_method_3_code_145 : decode method_3_code 145 = .ok (.castore, 1) := by decide +kernel
theorem d_method_3_code_146 : decode method_3_code 146 = .ok (.dup, 1) := by decide +kernel
theorem d_method_3_code_147 : decode method_3_code 147 = .ok (.iconst 4, 1) := by decide +kernel
theorem d_method_3_code_148 : decode method_3_code 148 = .ok (.bipush 116, 2) := by decide +kernel
theorem d_method_3_code_150 : decode method_3_code 150 = .ok (.castore, 1) := by decide +kernel
theorem d_method_3_code_151 : decode method_3_code 151 = .ok (.dup, 1) := by decide +kernel
theorem d_method_3_code_152 : decode method_3_code 152 = .ok (.iconst 5, 1) := by decide +kernel
theorem d_method_3_code_153 : decode method_3_code 153 = .ok (.bipush 101, 2) := by decide +kernel
theorem d_method_3_code_155 : decode method_3_code 155 = .ok (.castore, 1) := by decide +kernel
theorem d_method_3_code_156 : decode method_3_code 156 = .ok (.dup, 1) := by decide +kernel
theorem d_method_3_code_157 : decode method_3_code 157 = .ok (.bipush 6, 2) := by decide +kernel
theorem d_method_3_code_159 : decode method_3_code 159 = .ok (.bipush 100, 2) := by decide +kernel
theorem d_method_3_code_161 : decode method_3_code 161 = .ok (.castore, 1) := by decide +kernel
theorem d_method_3_code_162 : decode method_3_code 162 = .ok (.dup, 1) := by decide +kernel
theorem d_method_3_code_163 : decode method_3_code 163 = .ok (.bipush 7, 2) := by decide +kernel
theorem d_method_3_code_165 : decode method_3_code 165 = .ok (.bipush 65, 2) := by decide +kernel
theorem d_method_3_code_167 : decode method_3_code 167 = .ok (.castore, 1) := by decide +kernel
theorem d_method_3_code_168 : decode method_3_code 168 = .ok (.dup, 1) := by decide +kernel
theorem d_method_3_code_169 : decode method_3_code 169 = .ok (.bipush 8, 2) := by decide +kernel
theorem d_method_3_code_171 : decode method_3_code 171 = .ok (.bipush 116, 2) := by decide +kernel
theorem d_method_3_code_173 : decode method_3_code 173 = .ok (.castore, 1) := by decide +kernel
theorem d_method_3_code_174 : decode method_3_code 174 = .ok (.areturn, 1) := by decide +kernel
theorem d_method_4_code_0 : decode method_4_code 0 = .ok (.iload_n 0, 1) := by decide +kernel
theorem d_method_4_code_1 : decode method_4_code 1 = .ok (.ifCond .ne 12, 3) := by decide +kernel
theorem d_method_4_code_4 : decode method_4_code 4 = .ok (.iconst 1, 1) := by decide +kernel
theorem d_method_4_code_5 : decode method_4_code 5 = .ok (.newarray .char, 2) := by decide +kernel
theorem d_method_4_code_7 : decode method_4_code 7 = .ok (.dup, 1) := by decide +kernel
theorem d_method_4_code_8 : decode method_4_code 8 = .ok (.iconst 0, 1) := by decide +kernel
theorem d_method_4_code_9 : decode method_4_code 9 = .ok (.bipush 105, 2) := by decide +kernel
theorem d_method_4_code_11 : decode method_4_code 11 = .ok (.castore, 1) := by decide +kernel
theorem d_method_4_code_12 : decode method_4_code 12 = .ok (.areturn, 1) := by decide +kernel
theorem d_method_4_code_13 : decode method_4_code 13 = .ok (.iload_n 0, 1) := by decide +kernel
theorem d_method_4_code_14 : decode method_4_code 14 = .ok (.iconst 1, 1) := by decide +kernel
theorem d_method_4_code_15 : decode method_4_code 15 = .ok (.if_icmp .ne 38, 3) := by decide +kernel
theorem d_method_4_code_18 : decode method_4_code 18 = .ok (.bipush 6, 2) := by decide +kernel
theorem d_method_4_code_20 : decode method_4_code 20 = .ok (.newarray .char, 2) := by decide +kernel
theorem d_method_4_code_22 : decode method_4_code 22 = .ok (.dup, 1) := by decide +kernel
theorem d_method_4_code_23 : decode method_4_code 23 = .ok (.iconst 0, 1) := by decide +kernel
theorem d_method_4_code_24 : decode method_4_code 24 = .ok (.bipush 118, 2) := by decide +kernel
theorem d_method_4_code_26 : decode method_4_code 26 = .ok (.castore, 1) := by decide +kernel
theorem d_method_4_code_27 : decode method_4_code 27 = .ok (.dup, 1) := by decide +kernel
theorem d_method_4_code_28 : decode method_4_code 28 = .ok (.iconst 1, 1) := by decide +kernel
theorem d_method_4_code_29 : decode method_4_code 29 = .ok (.bipush 101, 2) := by decide +kernel
theorem d_method_4_code_31 : decode method_4_code 31 = .ok (.castore, 1) := by decide +kernel
theorem d_method_4_code_32 : decode method_4_code 32 = .ok (.dup, 1) := by decide +kernel
theorem d_method_4_code_33 : decode method_4_code 33 = .ok (.iconst 2, 1) := by decide +kernel
theorem d_method_4_code_34 : decode method_4_code 34 = .ok (.bipush 114, 2) := by decide +kernel
theorem d_method_4_code_36 : decode method_4_code 36 = .ok (.castore, 1) := by decide +kernel
theorem d_method_4_code_37 : decode method_4_code 37 = .ok (.dup, 1) := by decide +kernel
theorem d_method_4_code_38 : decode method_4_code 38 = .ok (.iconst 3, 1) := by decide +kernel
theorem d_method_4_code_39 : decode method_4_code 39 = .ok (.bipush 115, 2) := by decide +kernel
theorem d_method_4_code_41 : decode method_4_code 41 = .ok (.castore, 1) := by decide +kernel
theorem d_method_4_code_42 : decode method_4_code 42 = .ok (.dup, 1) := by decide +kernel
theorem d_method_4_code_43 : decode method_4_code 43 = .ok (.iconst 4, 1) := by decide +kernel
theorem d_method_4_code_44 : decode method_4_code 44 = .ok (.bipush 105, 2) := by decide +kernel
theorem d_method_4_code_46 : decode method_4_code 46 = .ok (.castore, 1) := by decide +kernel
theorem d_method_4_code_47 : decode method_4_code 47 = .ok (.dup, 1) := by decide +kernel
theorem d_method_4_code_48 : decode method_4_code 48 = .ok (.iconst 5, 1) := by decide +kernel
theorem d_method_4_code_49 : decode method_4_code 49 = .ok (.bipush 111, 2) := by decide +kernel
theorem d_method_4_code_51 : decode method_4_code 51 = .ok (.castore, 1) := by decide +kernel
theorem d_method_4_code_52 : decode method_4_code 52 = .ok (.areturn, 1) := by decide +kernel
theorem d_method_4_code_53 : decode method_4_code 53 = .ok (.iload_n 0, 1) := by decide +kernel
theorem d_method_4_code_54 : decode method_4_code 54 = .ok (.iconst 2, 1) := by decide +kernel
theorem d_method_4_code_55 : decode method_4_code 55 = .ok (.if_icmp .ne 50, 3) := by decide +kernel
theorem d_method_4_code_58 : decode method_4_code 58 = .ok (.bipush 8, 2) := by decide +kernel
theorem d_method_4_code_60 : decode method_4_code 60 = .ok (.newarray .char, 2) := by decide +kernel
theorem d_method_4_code_62 : decode method_4_code 62 = .ok (.dup, 1) := by decide +kernel
theorem d_method_4_code_63 : decode method_4_code 63 = .ok (.iconst 0, 1) := by decide +kernel
theorem d_method_4_code_64 : decode method_4_code 64 = .ok (.bipush 99, 2) := by decide +kernel
theorem d_method_4_code_66 : decode method_4_code 66 = .ok (.castore, 1) := by decide +kernel
theorem d_method_4_code_67 : decode method_4_code 67 = .ok (.dup, 1) := by decide +kernel
theorem d_method_4_code_68 : decode method_4_code 68 = .ok (.iconst 1, 1) := by decide +kernel
theorem d_method_4_code_69 : decode method_4_code 69 = .ok (.bipush 114, 2) := by decide +kernel
theorem d_method_4_code_71 : decode method_4_code 71 = .ok (.castore, 1) := by decide +kernel
theorem d_method_4_code_72 : decode method_4_code 72 = .ok (.dup, 1) := by decide +kernel
theorem d_method_4_code_73 : decode method_4_code 73 = .ok (.iconst 2, 1) := by decide +kernel
theorem d_method_4_code_74 : decode method_4_code 74 = .ok (.bipush 101, 2) := by decide +kernel
theorem d_method_4_code_76 : decode method_4_code 76 = .ok (.castore, 1) := by decide +kernel
theorem d_method_4_code_77 : decode method_4_code 77 = .ok (.dup, 1) := by decide +kernel
theorem d_method_4_code_78 : decode method_4_code 78 = .ok (.iconst 3, 1) := by decide +kernel
theorem d_method_4_code_79 : decode method_4_code 79 = .ok (.bipush 97, 2) := by decide +kernel
theorem d_method_4_code_81 : decode method_4_code 81 = .ok (.castore, 1) := by decide +kernel
theorem d_method_4_code_82 : decode method_4_code 82 = .ok (.dup, 1) := by decide +kernel
theorem d_method_4_code_83 : decode method_4_code 83 = .ok (.iconst 4, 1) := by decide +kernel
theorem d_method_4_code_84 : decode method_4_code 84 = .ok (.bipush 116, 2) := by decide +kernel
theorem d_method_4_code_86 : decode method_4_code 86 = .ok (.castore, 1) := by decide +kernel
theorem d_method_4_code_87 : decode method_4_code 87 = .ok (.dup, 1) := by decide +kernel
theorem d_method_4_code_88 : decode method_4_code 88 = .ok (.iconst 5, 1) := by decide +kernel
theorem d_method_4_code_89 : decode method_4_code 89 = .ok (.bipush 101, 2) := by decide +kernel
theorem d_method_4_code_91 : decode method_4_code 91 = .ok (.castore, 1) := by decide +kernel
theorem d_method_4_code_92 : decode method_4_code 92 = .ok (.dup, 1) := by decide +kernel
theorem d_method_4_code_93 : decode method_4_code 93 = .ok (.bipush 6, 2) := by decide +kernel
theorem d_method_4_code_95 : decode method_4_code 95 = .ok (.bipush 100, 2) := by decide +kernel
theorem d_method_4_code_97 : decode method_4_code 97 = .ok (.castore, 1) := by decide +kernel
theorem d_method_4_code_98 : decode method_4_code 98 = .ok (.dup, 1) := by decide +kernel
theorem d_method_4_code_99 : decode method_4_code 99 = .ok (.bipush 7, 2) := by decide +kernel
theorem d_method_4_code_101 : decode method_4_code 101 = .ok (.bipush 65, 2) := by decide +kernel
theorem d_method_4_code_103 : decode method_4_code 103 = .ok (.castore, 1) := by decide +kernel
theorem d_method_4_code_104 : decode method_4_code 104 = .ok (.areturn, 1) := by decide +kernel
theorem d_method_4_code_105 : decode method_4_code 105 = .ok (.bipush 8, 2) := by decide +kernel
theorem d_method_4_code_107 : decode method_4_code 107 = .ok (.newarray .char, 2) := by decide +kernel
theorem d_method_4_code_109 : decode method_4_code 109 = .ok (.dup, 1) := by decide +kernel
theorem d_method_4_code_110 : decode method_4_code 110 = .ok (.iconst 0, 1) := by decide +kernel
theorem d_method_4_code_111 : decode method_4_code 111 = .ok (.bipush 117, 2) := by decide +kernel
theorem d_method_4_code_113 : decode method_4_code 113 = .ok (.castore, 1) := by decide +kernel
theorem d_method_4_code_114 : decode method_4_code 114 = .ok (.dup, 1) := by decide +kernel
theorem d_method_4_code_115 : decode method_4_code 115 = .ok (.iconst 1, 1) := by decide +kernel
theorem d_method_4_code_116 : decode method_4_code 116 = .ok (.bipush 112, 2) := by decide +kernel
theorem d_method_4_code_118 : decode method_4_code 118 = .ok (.castore, 1) := by decide +kernel
theorem d_method_4_code_119 : decode method_4_code 119 = .ok (.dup, 1) := by decide +kernel
theorem d_method_4_code_120 : decode method_4_code 120 = .ok (.iconst 2, 1) := by decide +kernel
theorem d_method_4_code_121 : decode method_4_code 121 = .ok (.bipush 100, 2) := by decide +kernel
theorem d_method_4_code_123 : decode method_4_code 123 = .ok (.castore, 1) := by decide +kernel
theorem d_method_4_code_124 : decode method_4_code 124 = .ok (.dup, 1) := by decide +kernel
theorem d_method_4_code_125 : decode method_4_code 125 = .ok (.iconst 3, 1) := by decide +kernel
theorem d_method_4_code_126 : decode method_4_code 126 = .ok (.bipush 97, 2) := by decide +kernel
theorem d_method_4_code_128 : decode method_4_code 128 = .ok (.castore, 1) := by decide +kernel
theorem d_method_4_code_129 : decode method_4_code 129 = .ok (.dup, 1) := by decide +kernel
theorem d_method_4_code_130 : decode method_4_code 130 = .ok (.iconst 4, 1) := by decide +kernel
theorem d_method_4_code_131 : decode method_4_code 131 = .ok (.bipush 116, 2) := by decide +kernel
theorem d_method_4_code_133 : decode method_4_code 133 = .ok (.castore, 1) := by decide +kernel
theorem d_method_4_code_134 : decode method_4_code 134 = .ok (.dup, 1) := by decide +kernel
theorem d_method_4_code_135 : decode method_4_code 135 = .ok (.iconst 5, 1) := by decide +kernel
theorem d_method_4_code_136 : decode method_4_code 136 = .ok (.bipush 101, 2) := by decide +kernel
theorem d_method_4_code_138 : decode method_4_code 138 = .ok (.castore, 1) := by decide +kernel
theorem d_method_4_code_139 : decode method_4_code 139 = .ok (.dup, 1) := by decide +kernel
theorem d_method_4_code_140 : decode method_4_code 140 = .ok (.bipush 6, 2) := by decide +kernel
theorem d_method_4_code_142 : decode method_4_code 142 = .ok (.bipush 100, 2) := by decide +kernel
theorem d_method_4_code_144 : decode method_4_code 144 = .ok (.castore, 1) := by decide +kernel
theorem d_method_4_code_145 : decode method_4_code 145 = .ok (.dup, 1) := by decide +kernel
theorem d_method_4_code_146 : decode method_4_code 146 = .ok (.bipush 7, 2) := by decide +kernel
theorem d_method_4_code_148 : decode method_4_code 148 = .ok (.bipush 65, 2) := by decide +kernel
theorem d_method_4_code_150 : decode method_4_code 150 = .ok (.castore, 1) := by decide +kernel
theorem d_method_4_code_151 : decode method_4_code 151 = .ok (.areturn, 1) := by decide +kernel
theorem d_method_5_code_0 : decode method_5_code 0 = .ok (.iload_n 0, 1) := by decide +kernel
theorem d_method_5_code_1 : decode method_5_code 1 = .ok (.ifCond .ne 21, 3) := by decide +kernel
theorem d_method_5_code_4 : decode method_5_code 4 = .ok (.iconst 3, 1) := by decide +kernel
theorem d_method_5_code_5 : decode method_5_code 5 = .ok (.newarray .char, 2) := by decide +kernel
theorem d_method_5_code_7 : decode method_5_code 7 = .ok (.dup, 1) := by decide +kernel
theorem d_method_5_code_8 : decode method_5_code 8 = .ok (.iconst 0, 1) := by decide +kernel
theorem d_method_5_code_9 : decode method_5_code 9 = .ok (.bipush 105, 2) := by decide +kernel
theorem d_method_5_code_11 : decode method_5_code 11 = .ok (.castore, 1) := by decide +kernel
theorem d_method_5_code_12 : decode method_5_code 12 = .ok (.dup, 1) := by decide +kernel
theorem d_method_5_code_13 : decode method_5_code 13 = .ok (.iconst 1, 1) := by decide +kernel
theorem d_method_5_code_14 : decode method_5_code 14 = .ok (.bipush 100, 2) := by decide +kernel
theorem d_method_5_code_16 : decode method_5_code 16 = .ok (.castore, 1) := by decide +kernel
theorem d_method_5_code_17 : decode method_5_code 17 = .ok (.dup, 1) := by decide +kernel
theorem d_method_5_code_18 : decode method_5_code 18 = .ok (.iconst 2, 1) := by decide +kernel
theorem d_method_5_code_19 : decode method_5_code 19 = .ok (.iload_n 1, 1) := by decide +kernel
theorem d_method_5_code_20 : decode method_5_code 20 = .ok (.castore, 1) := by decide +kernel
theorem d_method_5_code_21 : decode method_5_code 21 = .ok (.areturn, 1) := by decide +kernel
theorem d_method_5_code_22 : decode method_5_code 22 = .ok (.iload_n 0, 1) := by decide +kernel
theorem d_method_5_code_23 : decode method_5_code 23 = .ok (.iconst 1, 1) := by decide +kernel
theorem d_method_5_code_24 : decode method_5_code 24 = .ok (.if_icmp .ne 49, 3) := by decide +kernel
theorem d_method_5_code_27 : decode method_5_code 27 = .ok (.bipush 8, 2) := by decide +kernel
theorem d_method_5_code_29 : decode method_5_code 29 = .ok (.newarray .char, 2) := by decide +kernel
theorem d_method_5_code_31 : decode method_5_code 31 = .ok (.dup, 1) := by decide +kernel
theorem d_method_5_code_32 : decode method_5_code 32 = .ok (.iconst 0, 1) := by decide +kernel
theorem d_method_5_code_33 : decode method_5_code 33 = .ok (.bipush 118, 2) := by decide +kernel
theorem d_method_5_code_35 : decode method_5_code 35 = .ok (.castore, 1) := by decide +kernel
theorem d_method_5_code_36 : decode method_5_code 36 = .ok (.dup, 1) := by decide +kernel
theorem d_method_5_code_37 : decode method_5_code 37 = .ok (.iconst 1, 1) := by decide +kernel
theorem d_method_5_code_38 : decode method_5_code 38 = .ok (.bipush 101, 2) := by decide +kernel
theorem d_method_5_code_40 : decode method_5_code 40 = .ok (.castore, 1) := by decide +kernel
theorem d_method_5_code_41 : decode method_5_code 41 = .ok (.dup, 1) := by decide +kernel
theorem d_method_5_code_42 : decode method_5_code 42 = .ok (.iconst 2, 1) := by decide +kernel
theorem d_method_5_code_43 : decode method_5_code 43 = .ok (.bipush 114, 2) := by decide +kernel
theorem d_method_5_code_45 : decode method_5_code 45 = .ok (.castore, 1) := by decide +kernel
theorem d_method_5_code_46 : decode method_5_code 46 = .ok (.dup, 1) := by decide +kernel
theorem d_method_5_code_47 : decode method_5_code 47 = .ok (.iconst 3, 1) := by decide +kernel
theorem d_method_5_code_48 : decode method_5_code 48 = .ok (.bipush 115, 2) := by decide +kernel
theorem d_method_5_code_50 : decode method_5_code 50 = .ok (.castore, 1) := by decide +kernel
theorem d_method_5_code_51 : decode method_5_code 51 = .ok (.dup, 1) := by decide +kernel
theorem d_method_5_code_52 : decode method_5_code 52 = .ok (.iconst 4, 1) := by decide +kernel
theorem d_method_5_code_53 : decode method_5_code 53 = .ok (.bipush 105, 2) := by decide +kernel
theorem d_method_5_code_55 : decode method_5_code 55 = .ok (.castore, 1) := by decide +kernel
theorem d_method_5_code_56 : decode method_5_code 56 = .ok (.dup, 1) := by decide +kernel
theorem d_method_5_code_57 : decode method_5_code 57 = .ok (.iconst 5, 1) := by decide +kernel
theorem d_method_5_code_58 : decode method_5_code 58 = .ok (.bipush 111, 2) := by decide +kernel
theorem d_method_5_code_60 : decode method_5_code 60 = .ok (.castore, 1) := by decide +kernel
theorem d_method_5_code_61 : decode method_5_code 61 = .ok (.dup, 1) := by decide +kernel
theorem d_method_5_code_62 : decode method_5_code 62 = .ok (.bipush 6, 2) := by decide +kernel
theorem d_method_5_code_64 : decode method_5_code 64 = .ok (.bipush 110, 2) := by decide +kernel
theorem d_method_5_code_66 : decode method_5_code 66 = .ok (.castore, 1) := by decide +kernel
theorem d_method_5_code_67 : decode method_5_code 67 = .ok (.dup, 1) := by decide +kernel
theorem d_method_5_code_68 : decode method_5_code 68 = .ok (.bipush 7, 2) := by decide +kernel
theorem d_method_5_code_70 : decode method_5_code 70 = .ok (.iload_n 1, 1) := by decide +kernel
theorem d_method_5_code_71 : decode method_5_code 71 = .ok (.castore, 1) := by decide +kernel
theorem d_method_5_code_72 : decode method_5_code 72 = .ok (.areturn, 1) := by decide +kernel
theorem d_method_5_code_73 : decode method_5_code 73 = .ok (.iload_n 0, 1) := by decide +kernel
theorem d_method_5_code_74 : decode method_5_code 74 = .ok (.iconst 2, 1) := by decide +kernel
theorem d_method_5_code_75 : decode method_5_code 75 = .ok (.if_icmp .ne 61, 3) := by decide +kernel
theorem d_method_5_code_78 : decode method_5_code 78 = .ok (.bipush 10, 2) := by decide +kernel
theorem d_method_5_code_80 : decode method_5_code 80 = .ok (.newarray .char, 2) := by decide +kernel
theorem d_method_5_code_82 : decode method_5_code 82 = .ok (.dup, 1) := by decide +kernel
theorem d_method_5_code_83 : decode method_5_code 83 = .ok (.iconst 0, 1) := by decide +kernel
theorem d_method_5_code_84 : decode method_5_code 84 = .ok (.bipush 99, 2) := by decide +kernel
theorem d_method_5_code_86 : decode method_5_code 86 = .ok (.castore, 1) := by decide +kernel
theorem d_method_5_code_87 : decode method_5_code 87 = .ok (.dup, 1) := by decide +kernel
theorem d_method_5_code_88 : decode method_5_code 88 = .ok (.iconst 1, 1) := by decide +kernel
theorem d_method_5_code_89 : decode method_5_code 89 = .ok (.bipush 114, 2) := by decide +kernel
theorem d_method_5_code_91 : decode method_5_code 91 = .ok (.castore, 1) := by decide +kernel
theorem d_method_5_code_92 : decode method_5_code 92 = .ok (.dup, 1) := by decide +kernel
theorem d_method_5_code_93 : decode method_5_code 93 = .ok (.iconst 2, 1) := by decide +kernel
theorem d_method_5_code_94 : decode method_5_code 94 = .ok (.bipush 101, 2) := by decide +kernel
theorem d_method_5_code_96 : decode method_5_code 96 = .ok (.castore, 1) := by decide +kernel
theorem d_method_5_code_97 : decode method_5_code 97 = .ok (.dup, 1) := by decide +kernel
theorem d_method_5_code_98 : decode method_5_code 98 = .ok (.iconst 3, 1) := by decide +kernel
theorem d_method_5_code_99 : decode method_5_code 99 = .ok (.bipush 97, 2) := by decide +kernel
theorem d_method_5_code_101 : decode method_5_code 101 = .ok (.castore, 1) := by decide +kernel
theorem d_method_5_code_102 : decode method_5_code 102 = .ok (.dup, 1) := by decide +kernel
theorem d_method_5_code_103 : decode method_5_code 103 = .ok (.iconst 4, 1) := by decide +kernel
theorem d_method_5_code_104 : decode method_5_code 104 = .ok (.bipush 116, 2) := by decide +kernel
theorem d_method_5_code_106 : decode method_5_code 106 = .ok (.castore, 1) := by decide +kernel
theorem d_method_5_code_107 : decode method_5_code 107 = .ok (.dup, 1) := by decide +kernel
theorem d_method_5_code_108 : decode method_5_code 108 = .ok (.iconst 5, 1) := by decide +kernel
theorem d_method_5_code_109 : decode method_5_code 109 = .ok (.bipush 101, 2) := by decide +kernel
theorem d_method_5_code_111 : decode method_5_code 111 = .ok (.castore, 1) := by decide +kernel
theorem d_method_5_code_112 : decode method_5_code 112 = .ok (.dup, 1) := by decide +kernel
theorem d_method_5_code_113 : decode method_5_code 113 = .ok (.bipush 6, 2) := by decide +kernel
theorem d_method_5_code_115 : decode method_5_code 115 = .ok (.bipush 100, 2) := by decide +kernel
theorem d_method_5_code_117 : decode method_5_code 117 = .ok (.castore, 1) := by decide +kernel
theorem d_method_5_code_118 : decode method_5_code 118 = .ok (.dup, 1) := by decide +kernel
theorem d_method_5_code_119 : decode method_5_code 119 = .ok (.bipush 7, 2) := by decide +kernel
theorem d_method_5_code_121 : decode method_5_code 121 = .ok (.bipush 65, 2) := by decide +kernel
theorem d_method_5_code_123 : decode method_5_code 123 = .ok (.castore, 1) := by decide +kernel
theorem d_method_5_code_124 : decode method_5_code 124 = .ok (.dup, 1) := by decide +kernel
theorem d_method_5_code_125 : decode method_5_code 125 = .ok (.bipush 8, 2) := by decide +kernel
theorem d_method_5_code_127 : decode method_5_code 127 = .ok (.bipush 116, 2) := by decide +kernel
theorem d_method_5_code_129 : decode method_5_code 129 = .ok (.castore, 1) := by decide +kernel
theorem d_method_5_code_130 : decode method_5_code 130 = .ok (.dup, 1) := by decide +kernel
theorem d_method_5_code_131 : decode method_5_code 131 = .ok (.bipush 9, 2) := by decide +kernel
theorem d_method_5_code_133 : decode method_5_code 133 = .ok (.iload_n 1, 1) := by decide +kernel
theorem d_method_5_code_134 : decode method_5_code 134 = .ok (.castore, 1) := by decide +kernel
theorem d_method_5_code_135 : decode method_5_code 135 = .ok (.areturn, 1) := by decide +kernel
theorem d_method_5_code_136 : decode method_5_code 136 = .ok (.bipush 10, 2) := by decide +kernel
theorem d_method_5_code_138 : decode method_5_code 138 = .ok (.newarray .char, 2) := by decide +kernel
theorem d_method_5_code_140 : decode method_5_code 140 = .ok (.dup, 1) := by decide +kernel
theorem d_method_5_code_141 : decode method_5_code 141 = .ok (.iconst 0, 1) := by decide +kernel
theorem d_method_5_code_142 : decode method_5_code 142 = .ok (.bipush 117, 2) := by decide +kernel
theorem d_method_5_code_144 : decode method_5_code 144 = .ok (.castore, 1) := by decide +kernel
theorem d_method_5_code_145 : decode method_5_code 145 = .ok (.dup, 1) := by decide +kernel
theorem d_method_5_code_146 : decode method_5_code 146 = .ok (.iconst 1, 1) := by decide +kernel
theorem d_method_5_code_147 : decode method_5_code 147 = .ok (.bipush 112, 2) := by decide +kernel
theorem d_method_5_code_149 : decode method_5_code 149 = .ok (.castore, 1) := by decide +kernel
theorem d_method_5_code_150 : decode method_5_code 150 = .ok (.dup, 1) := by decide +kernel
theorem d_method_5_code_151 : decode method_5_code 151 = .ok (.iconst 2, 1) := by decide +kernel
theorem d_method_5_code_152 : decode method_5_code 152 = .ok (.bipush 100, 2) := by decide +kernel
theorem d_method_5_code_154 : decode method_5_code 154 = .ok (.castore, 1) := by decide +kernel
theorem d_method_5_code_155 : decode method_5_code 155 = .ok (.dup, 1) := by decide +kernel
theorem d_method_5_code_156 : decode method_5_code 156 = .ok (.iconst 3, 1) := by decide +kernel
theorem d_method_5_code_157 : decode method_5_code 157 = .ok (.bipush 97, 2) := by decide +kernel
theorem d_method_5_code_159 : decode method_5_code 159 = .ok (.castore, 1) := by decide +kernel
theorem d_method_5_code_160 : decode method_5_code 160 = .ok (.dup, 1) := by decide +kernel
theorem d_method_5_code_161 : decode method_5_code 161 = .ok (.iconst 4, 1) := by decide +kernel
theorem d_method_5_code_162 : decode method_5_code 162 = .ok (.bipush 116, 2) := by decide +kernel
theorem d_method_5_code_164 : decode method_5_code 164 = .ok (.castore, 1) := by decide +kernel
theorem d_method_5_code_165 : decode method_5_code 165 = .ok (.dup, 1) := by decide +kernel
theorem d_method_5_code_166 : decode method_5_code 166 = .ok (.iconst 5, 1) := by decide +kernel
theorem d_method_5_code_167 : decode method_5_code 167 = .ok (.bipush 101, 2) := by decide +kernel
theorem d_method_5_code_169 : decode method_5_code 169 = .ok (.castore, 1) := by decide +kernel
theorem d_method_5_code_170 : decode method_5_code 170 = .ok (.dup, 1) := by decide +kernel
theorem d_method_5_code_171 : decode method_5_code 171 = .ok (.bipush 6, 2) := by decide +kernel
theorem d_method_5_code_173 : decode method_5_code 173 = .ok (.bipush 100, 2) := by decide +kernel
theorem d_method_5_code_175 : decode method_5_code 175 = .ok (.castore, 1) := by decide +kernel
theorem d_method_5_code_176 : decode method_5_code 176 = .ok (.dup, 1) := by decide +kernel
theorem d_method_5_code_177 : decode method_5_code 177 = .ok (.bipush 7, 2) := by decide +kernel
theorem d_method_5_code_179 : decode method_5_code 179 = .ok (.bipush 65, 2) := by decide +kernel
theorem d_method_5_code_181 : decode method_5_code 181 = .ok (.castore, 1) := by decide +kernel
theorem d_method_5_code_182 : decode method_5_code 182 = .ok (.dup, 1) := by decide +kernel
theorem d_method_5_code_183 : decode method_5_code 183 = .ok (.bipush 8, 2) := by decide +kernel
theorem d_method_5_code_185 : decode method_5_code 185 = .ok (.bipush 116, 2) := by decide +kernel
theorem d_method_5_code_187 : decode method_5_code 187 = .ok (.castore, 1) := by decide +kernel
theorem d_method_5_code_188 : decode method_5_code 188 = .ok (.dup, 1) := by decide +kernel
theorem d_method_5_code_189 : decode method_5_code 189 = .ok (.bipush 9, 2) := by decide +kernel
theorem d_method_5_code_191 : decode method_5_code 191 = .ok (.iload_n 1, 1) := by decide +kernel
theorem d_method_5_code_192 : decode method_5_code 192 = .ok (.castore, 1) := by decide +kernel
theorem d_method_5_code_193 : decode method_5_code 193 = .ok (.areturn, 1) := by decide +kernel
theorem d_jdk_42_method_149_code_0 : decode jdk_42_method_149_code 0 = .ok (.aload_n 0, 1) := by decide +kernel
theorem d_jdk_42_method_149_code_1 : decode jdk_42_method_149_code 1 = .ok (.invokespecial 1, 3) := by decide +kernel
theorem d_jdk_42_method_149_code_4 : decode jdk_42_method_149_code 4 = .ok (.iload_n 3, 1) := by decide +kernel
theorem d_jdk_42_method_149_code_5 : decode jdk_42_method_149_code 5 = .ok (.ifCond .ne 22, 3) := by decide +kernel
theorem d_jdk_42_method_149_code_8 : decode jdk_42_method_149_code 8 = .ok (.aload_n 0, 1) := by decide +kernel
theorem d_jdk_42_method_149_code_9 : decode jdk_42_method_149_code 9 = .ok (.ldc 7, 2) := by decide +kernel
theorem d_jdk_42_method_149_code_11 : decode jdk_42_method_149_code 11 = .ok (.getfield 9, 3) := by decide +kernel
theorem d_jdk_42_method_149_code_14 : decode jdk_42_method_149_code 14 = .ok (.putfield 9, 3) := by decide +kernel
theorem d_jdk_42_method_149_code_17 : decode jdk_42_method_149_code 17 = .ok (.aload_n 0, 1) := by decide +kernel
theorem d_jdk_42_method_149_code_18 : decode jdk_42_method_149_code 18 = .ok (.ldc 7, 2) := by decide +kernel
theorem d_jdk_42_method_149_code_20 : decode jdk_42_method_149_code 20 = .ok (.getfield 15, 3) := by decide +kernel
theorem d_jdk_42_method_149_code_23 : decode jdk_42_method_149_code 23 = .ok (.putfield 15, 3) := by decide +kernel
theorem d_jdk_42_method_149_code_26 : decode jdk_42_method_149_code 26 = .ok (.return_, 1) := by decide +kernel
theorem d_jdk_42_method_3_code_0 : decode jdk_42_method_3_code 0 = .ok (.aload_n 0, 1) := by decide +kernel
theorem d_jdk_42_method_3_code_1 : decode jdk_42_method_3_code 1 = .ok (.aload_n 1, 1) := by decide +kernel
theorem d_jdk_42_method_3_code_2 : decode jdk_42_method_3_code 2 = .ok (.iconst 0, 1) := by decide +kernel
theorem d_jdk_42_method_3_code_3 : decode jdk_42_method_3_code 3 = .ok (.aload_n 1, 1) := by decide +kernel
theorem d_jdk_42_method_3_code_4 : decode jdk_42_method_3_code 4 = .ok (.arraylength, 1) := by decide +kernel
theorem d_jdk_42_method_3_code_5 : decode jdk_42_method_3_code 5 = .ok (.aconst_null, 1) := by decide +kernel
theorem d_jdk_42_method_3_code_6 : decode jdk_42_method_3_code 6 = .ok (.invokespecial 27, 3) := by decide +kernel
theorem d_jdk_42_method_3_code_9 : decode jdk_42_method_3_code 9 = .ok (.return_, 1) := by decide +kernel
abbrev LIT_0 : List Int32 := [105, 100]
theorem codL_0 : StrChars.Road.CodA LIT_0 0 (2 : Int32) [(.int (105 : Int32)), (.int (100 : Int32))] := Or.inl ⟨rfl, by decide, by decide +kernel, by decide +kernel⟩
theorem rgL_0 : ∀ c ∈ LIT_0, ¬ c < 0 ∧ ¬ (65535 : Int32) < c := by decide +kernel
abbrev LIT_1 : List Int32 := [118, 101, 114, 115, 105, 111, 110]
theorem codL_1 : StrChars.Road.CodA LIT_1 0 (7 : Int32) [(.int (118 : Int32)), (.int (101 : Int32)), (.int (114 : Int32)), (.int (115 : Int32)), (.int (105 : Int32)), (.int (111 : Int32)), (.int (110 : Int32))] := Or.inl ⟨rfl, by decide, by decide +kernel, by decide +kernel⟩
theorem rgL_1 : ∀ c ∈ LIT_1, ¬ c < 0 ∧ ¬ (65535 : Int32) < c := by decide +kernel
abbrev LIT_2 : List Int32 := [99, 114, 101, 97, 116, 101, 100, 65, 116]
theorem codL_2 : StrChars.Road.CodA LIT_2 0 (9 : Int32) [(.int (99 : Int32)), (.int (114 : Int32)), (.int (101 : Int32)), (.int (97 : Int32)), (.int (116 : Int32)), (.int (101 : Int32)), (.int (100 : Int32)), (.int (65 : Int32)), (.int (116 : Int32))] := Or.inl ⟨rfl, by decide, by decide +kernel, by decide +kernel⟩
theorem rgL_2 : ∀ c ∈ LIT_2, ¬ c < 0 ∧ ¬ (65535 : Int32) < c := by decide +kernel
abbrev LIT_3 : List Int32 := [117, 112, 100, 97, 116, 101, 100, 65, 116]
theorem codL_3 : StrChars.Road.CodA LIT_3 0 (9 : Int32) [(.int (117 : Int32)), (.int (112 : Int32)), (.int (100 : Int32)), (.int (97 : Int32)), (.int (116 : Int32)), (.int (101 : Int32)), (.int (100 : Int32)), (.int (65 : Int32)), (.int (116 : Int32))] := Or.inl ⟨rfl, by decide, by decide +kernel, by decide +kernel⟩
theorem rgL_3 : ∀ c ∈ LIT_3, ¬ c < 0 ∧ ¬ (65535 : Int32) < c := by decide +kernel
theorem pn_4 : plainName "java/util/Objects" = true := by first | (simp [plainName, overriddenIn]; done) | decide +kernel
theorem pn_5 : plainName "java/util/Optional" = true := by first | (simp [plainName, overriddenIn]; done) | decide +kernel
theorem pd_6 : parseMethodDescriptor "(Ljava/lang/Object;)Ljava/lang/Object;" = some ⟨[(.object "java/lang/Object")], some (.object "java/lang/Object")⟩ := by decide +kernel
theorem pd_7 : parseMethodDescriptor "(Ljava/lang/Object;)V" = some ⟨[(.object "java/lang/Object")], none⟩ := by decide +kernel
theorem pn_8 : plainName "com/example/dispatch_note/dispatchnote/contract/ManagedMember" = true := by first | (simp [plainName, overriddenIn]; done) | decide +kernel
theorem pd_9 : parseMethodDescriptor "()[Lcom/example/dispatch_note/dispatchnote/contract/ManagedMember;" = some ⟨[], some (.array (.object "com/example/dispatch_note/dispatchnote/contract/ManagedMember"))⟩ := by decide +kernel
theorem pd_10 : parseMethodDescriptor "(Ljava/lang/Object;)Z" = some ⟨[(.object "java/lang/Object")], some .boolean⟩ := by decide +kernel
theorem pd_11 : parseMethodDescriptor "(Ljava/lang/Object;)Ljava/util/Optional;" = some ⟨[(.object "java/lang/Object")], some (.object "java/util/Optional")⟩ := by decide +kernel
theorem pd_12 : parseMethodDescriptor "()Ljava/util/Optional;" = some ⟨[], some (.object "java/util/Optional")⟩ := by decide +kernel
theorem pn_13 : plainName "com/example/dispatch_note/dispatchnote/contract/ManagedMemberNamedPinLaw" = true := by first | (simp [plainName, overriddenIn]; done) | decide +kernel
theorem pn_14 : plainName "java/lang/String" = true := by first | (simp [plainName, overriddenIn]; done) | decide +kernel
abbrev LIT_15 : List Int32 := []
theorem codL_15 : StrChars.Road.CodA LIT_15 0 (0 : Int32) [] := Or.inl ⟨rfl, by decide, by decide +kernel, by decide +kernel⟩
theorem rgL_15 : ∀ c ∈ LIT_15, ¬ c < 0 ∧ ¬ (65535 : Int32) < c := by decide +kernel
theorem pd_16 : parseMethodDescriptor "([CIILjava/lang/Void;)V" = some ⟨[(.array .char), .int, .int, (.object "java/lang/Void")], none⟩ := by decide +kernel
theorem pd_17 : parseMethodDescriptor "(Ljava/lang/String;)Ljava/util/Optional;" = some ⟨[(.object "java/lang/String")], some (.object "java/util/Optional")⟩ := by decide +kernel
theorem pd_18 : parseMethodDescriptor "([C)V" = some ⟨[(.array .char)], none⟩ := by decide +kernel
theorem pd_19 : parseMethodDescriptor "(I)[C" = some ⟨[.int], some (.array .char)⟩ := by decide +kernel
theorem pd_20 : parseMethodDescriptor "(IC)[C" = some ⟨[.int, .char], some (.array .char)⟩ := by decide +kernel
theorem set_in {cs : List Int32} {i : Nat} {x : Int32} (h : ∀ c ∈ cs, ¬ c < 0 ∧ ¬ (255 : Int32) < c) (hx : ¬ x < 0 ∧ ¬ (255 : Int32) < x) : ∀ c ∈ cs.set i x, ¬ c < 0 ∧ ¬ (255 : Int32) < c := fun c q => by
  rcases List.mem_or_eq_of_mem_set q with q | q
  · exact h c q
  · rw [q]; exact hx
theorem ofn_pos {nn : Nat} (h0 : 0 < nn) (h1 : nn ≤ 10) : (Int32.ofNat nn).toInt = nn := len_toInt (n := nn) (by omega)
theorem ofn_nz {nn : Nat} (h0 : 0 < nn) (h1 : nn ≤ 10) : ¬ Int32.ofNat nn = 0 := fun q => by
  have h := ofn_pos h0 h1
  rw [q] at h
  have e : (0 : Int32).toInt = 0 := by decide
  omega
theorem ix_b {nn : Nat} (x : Int32) (h0 : 0 < nn) (h1 : nn ≤ 10) : (¬ ((x &&& (2147483647 : Int32)) % Int32.ofNat nn) < 0 ∧ ((x &&& (2147483647 : Int32)) % Int32.ofNat nn) < Int32.ofNat nn) ∧ ((x &&& (2147483647 : Int32)) % Int32.ofNat nn).toNatClampNeg < nn := by
  have h := ofn_pos h0 h1
  have a := c_mask x 2147483647 31 (by decide) (by decide)
  have b := (c_irem (x &&& (2147483647 : Int32)) (Int32.ofNat nn) nn h).1 (by rw [a]; omega)
  have e : (0 : Int32).toInt = 0 := by decide
  have m0 : 0 ≤ (x &&& (2147483647 : Int32)).toInt % (nn : Int) := Int.emod_nonneg _ (by omega)
  have m1 : (x &&& (2147483647 : Int32)).toInt % (nn : Int) < nn := Int.emod_lt_of_pos _ (by omega)
  refine ⟨⟨?_, ?_⟩, ?_⟩
  · rw [Int32.lt_iff_toInt_lt, b]; omega
  · rw [Int32.lt_iff_toInt_lt, b, h]; omega
  · show ((x &&& (2147483647 : Int32)) % Int32.ofNat nn).toInt.toNat < nn
    rw [b]; omega
theorem cod0 : StrChars.Road.CodA [] 0 (0 : Int32) [] := Or.inl ⟨rfl, by decide, rfl, fun _ q => nomatch q⟩
theorem ef_rnn1 (m : MethodId) (a : Nat) : entryFrame m #[(.ref a)] 1 = mkF m 0 #[.val (.ref a)] [] := by first | (simp [entryFrame, mkF, argsToLocals, Value.category]; done) | rfl
set_option maxRecDepth 65536 in
set_option maxHeartbeats 40000000 in
theorem rnn1 (l : Launch) (Z : State) (aw : Array Value) (hw : ∀ d ∈ tables_1, d.before aw Z = true) (a : Nat) {h0 : Heap} {n0 : Nat} (O : Old Z n0 h0) :
    MET l Z (⟨"java/util/Objects", "requireNonNull", "(Ljava/lang/Object;)Ljava/lang/Object;"⟩ : MethodName) jdk_31_method_10_code 1 (some (.object "java/lang/Object")) ({ frames := 0, cells := 0, slots := 0, locals := 0 } : Room) #[(.ref a)] h0 n0 (fun vv hh => vv = some (.ref a) ∧ hh = h0) := by
  refine metOf (plainFor_of_name pn_4) ?_
  intro p e s m below meth c T hx hby hml hrt hlk hnm hZ hown X e0
  replace hml : c.maxLocals = 1 := hml
  replace hnm : meth.name = "requireNonNull" := hnm
  replace hown : s.vm.findClass "java/util/Objects" = some m.cls := hown
  have N := Fr.nil n0
  have zO := O.le
  refine goCast (ef_rnn1 m a) ?_
  show Goes _ _ _ _ _ _ _ _ (T.setTop (mkF m 0 #[.val (.ref a)] []))
  refine Goes.via (fun _ k => XS.aloadN X.here hx rfl (hb hby d_jdk_31_method_10_code_0) rfl rfl k) ?_
  show Goes _ _ _ _ _ _ _ _ (T.setTop (mkF m 1 #[.val (.ref a)] [(.ref a)]))
  refine Goes.via (fun _ k => XT.ifnonnullYes X.here hx rfl (pc0 := 1) (pc' := 12) rfl (hb hby d_jdk_31_method_10_code_1) rfl (by decide) (by decide) k) ?_
  show Goes _ _ _ _ _ _ _ _ (T.setTop (mkF m 12 #[.val (.ref a)] []))
  refine Goes.via (fun _ k => XS.aloadN X.here hx rfl (hb hby d_jdk_31_method_10_code_12) rfl rfl k) ?_
  show Goes _ _ _ _ _ _ _ _ (T.setTop (mkF m 13 #[.val (.ref a)] [(.ref a)]))
  refine goRetA X hx hrt rfl hlk N (by decide) (by decide) rfl (hb hby d_jdk_31_method_10_code_13) ?_
  try rw [e0]
  exact ⟨rfl, rfl⟩
theorem ef_optInit (m : MethodId) (a : Nat) (v : Nat) : entryFrame m #[(.ref a), (.ref v)] 2 = mkF m 0 #[.val (.ref a), .val (.ref v)] [] := by first | (simp [entryFrame, mkF, argsToLocals, Value.category]; done) | rfl
set_option maxRecDepth 65536 in
set_option maxHeartbeats 40000000 in
theorem optInit (l : Launch) (Z : State) (aw : Array Value) (hw : ∀ d ∈ tables_1, d.before aw Z = true) (a : Nat) (v : Nat) {h0 : Heap} {n0 : Nat} (O : Old Z n0 h0) (E : Exa Z h0 a "java/util/Optional") (F : Fld Z h0 a "java/util/Optional" "value" "Ljava/lang/Object;" .null) (ga : n0 ≤ a) :
    MET l Z (⟨"java/util/Optional", "<init>", "(Ljava/lang/Object;)V"⟩ : MethodName) jdk_32_method_2_code 2 none ({ frames := 1, cells := 0, slots := 0, locals := 12 } : Room) #[(.ref a), (.ref v)] h0 n0 (fun vv hh => vv = none ∧ Keep h0 hh [a] ∧ Exa Z hh a "java/util/Optional" ∧ Fld Z hh a "java/util/Optional" "value" "Ljava/lang/Object;" (.ref v)) := by
  refine metOf (plainFor_of_name pn_5) ?_
  intro p e s m below meth c T hx hby hml hrt hlk hnm hZ hown X e0
  replace hml : c.maxLocals = 2 := hml
  replace hnm : meth.name = "<init>" := hnm
  replace hown : s.vm.findClass "java/util/Optional" = some m.cls := hown
  have N := Fr.nil n0
  have zO := O.le
  refine goCast (ef_optInit m a v) ?_
  have lt_a := lt_nat E.lt
  show Goes _ _ _ _ _ _ _ _ (T.setTop (mkF m 0 #[.val (.ref a), .val (.ref v)] []))
  refine Goes.via (fun _ k => XS.aloadN X.here hx rfl (hb hby d_jdk_32_method_2_code_0) rfl rfl k) ?_
  show Goes _ _ _ _ _ _ _ _ (T.setTop (mkF m 1 #[.val (.ref a), .val (.ref v)] [(.ref a)]))
  obtain ⟨Tq1, Xq1, eq1, stq1⟩ := initO X hx hZ hown (W_105 hw) (W_16 hw) (W_17 hw) e0 (g := (mkF m 1 #[.val (.ref a), .val (.ref v)] [(.ref a)])) rfl (by rw [hml]; rfl) rfl (hb hby d_jdk_32_method_2_code_1) (by decide) (W := 0) (by show 2 * 0 + _ ≤ _; exact Nat.le_of_eq rfl) (by decide)
  refine Goes.via stq1 ?_
  show Goes _ _ _ _ _ _ _ _ (Tq1.setTop (mkF m 4 #[.val (.ref a), .val (.ref v)] []))
  refine Goes.via (fun _ k => XS.aloadN Xq1.here hx rfl (hb hby d_jdk_32_method_2_code_4) rfl rfl k) ?_
  show Goes _ _ _ _ _ _ _ _ (Tq1.setTop (mkF m 5 #[.val (.ref a), .val (.ref v)] [(.ref a)]))
  refine Goes.via (fun _ k => XS.aloadN Xq1.here hx rfl (hb hby d_jdk_32_method_2_code_5) rfl rfl k) ?_
  show Goes _ _ _ _ _ _ _ _ (Tq1.setTop (mkF m 6 #[.val (.ref a), .val (.ref v)] [(.ref v), (.ref a)]))
  obtain ⟨Tq2, hq2, Xq2, eq2, Wq2, stq2⟩ := putF Xq1 hx hZ hown (host := "") (Or.inl (W_86 hw)) Via.refl eq1 F E (Or.inr ⟨(W_87 hw), rfl, hnm⟩) (W_96 hw) (ty := (.object "java/lang/Object")) (by decide) rfl rfl (g := (mkF m 6 #[.val (.ref a), .val (.ref v)] [(.ref v), (.ref a)])) rfl rfl (hb hby d_jdk_32_method_2_code_6)
  have Nq2 := Fr.snoc Xq2 N (by omega)
  have zq2 := Wq2.size
  have Oq2 := O.wr Wq2 (by omega)
  have Fq2 : Fld Z hq2 a "java/util/Optional" "value" "Ljava/lang/Object;" (.ref v) := F.same Wq2
  refine Goes.via stq2 ?_
  show Goes _ _ _ _ _ _ _ _ (Tq2.setTop (mkF m 9 #[.val (.ref a), .val (.ref v)] []))
  refine goRetV Xq2 hx hrt hlk Nq2 (by decide) (by decide) (hb hby d_jdk_32_method_2_code_9) ?_
  try rw [eq2]
  have fq3 : Exa Z hq2 a "java/util/Optional" := (E.wr Wq2)
  exact ⟨rfl, ((Keep.refl _ [a]).wr Wq2 (Or.inl (by simp))), fq3, Fq2⟩
theorem ef_optOf (m : MethodId) (v : Nat) : entryFrame m #[(.ref v)] 1 = mkF m 0 #[.val (.ref v)] [] := by first | (simp [entryFrame, mkF, argsToLocals, Value.category]; done) | rfl
set_option maxRecDepth 65536 in
set_option maxHeartbeats 40000000 in
theorem optOf (l : Launch) (Z : State) (aw : Array Value) (hw : ∀ d ∈ tables_1, d.before aw Z = true) (v : Nat) {h0 : Heap} {n0 : Nat} (O : Old Z n0 h0) :
    MET l Z (⟨"java/util/Optional", "of", "(Ljava/lang/Object;)Ljava/util/Optional;"⟩ : MethodName) jdk_32_method_3_code 1 (some (.object "java/util/Optional")) ({ frames := 2, cells := 1, slots := 1, locals := 28 } : Room) #[(.ref v)] h0 n0 (fun vv hh => ∃ r : Nat, vv = some (.ref r) ∧ h0.size ≤ r ∧ Keep h0 hh [] ∧ Exa Z hh r "java/util/Optional" ∧ Fld Z hh r "java/util/Optional" "value" "Ljava/lang/Object;" (.ref v)) := by
  refine metOf (plainFor_of_name pn_5) ?_
  intro p e s m below meth c T hx hby hml hrt hlk hnm hZ hown X e0
  replace hml : c.maxLocals = 1 := hml
  replace hnm : meth.name = "of" := hnm
  replace hown : s.vm.findClass "java/util/Optional" = some m.cls := hown
  have N := Fr.nil n0
  have zO := O.le
  refine goCast (ef_optOf m v) ?_
  show Goes _ _ _ _ _ _ _ _ (T.setTop (mkF m 0 #[.val (.ref v)] []))
  obtain ⟨Tq1, hq1, Xq1, eq1, Eq1, Aq1, Dq1, -, stq1⟩ := newO X hx hZ hown (W_95 hw) (W_96 hw) (W_78 hw) e0 (g := (mkF m 0 #[.val (.ref v)] [])) rfl (hb hby d_jdk_32_method_3_code_0) (by decide) (by decide)
  obtain ⟨bq1, gq1⟩ : ∃ z, z = h0.size := ⟨_, rfl⟩
  rw [← gq1] at Aq1 Dq1 stq1
  have zq1 := Eq1.1
  have Oq1 := O.ext Eq1
  have lq1 := lt_nat Aq1.lt
  refine Goes.via stq1 ?_
  show Goes _ _ _ _ _ _ _ _ (Tq1.setTop (mkF m 3 #[.val (.ref v)] [(.ref bq1)]))
  refine Goes.via (fun _ k => XS.dup Xq1.here hx rfl (hb hby d_jdk_32_method_3_code_3) rfl rfl k) ?_
  show Goes _ _ _ _ _ _ _ _ (Tq1.setTop (mkF m 4 #[.val (.ref v)] [(.ref bq1), (.ref bq1)]))
  refine Goes.via (fun _ k => XS.aloadN Xq1.here hx rfl (hb hby d_jdk_32_method_3_code_4) rfl rfl k) ?_
  show Goes _ _ _ _ _ _ _ _ (Tq1.setTop (mkF m 5 #[.val (.ref v)] [(.ref v), (.ref bq1), (.ref bq1)]))
  obtain ⟨vq2, Tq2, Lq2, Xq2, qq2, nq2, stq2⟩ := callSt Xq1 hx hZ hown (rnn1 l Z aw hw v Oq1) (W_97 hw) (W_98 hw) (W_99 hw) (W_100 hw) (by decide) eq1 (by decide) (W := 2) (by decide) (by decide) (by decide) (g := (mkF m 5 #[.val (.ref v)] [(.ref v), (.ref bq1), (.ref bq1)])) rfl (by rw [hml]; rfl) (argsL := [(.ref v)]) (rest := [(.ref bq1), (.ref bq1)]) rfl (lenOf pd_6 rfl) rfl (by show 2 * 0 + _ ≤ _; exact Nat.le_of_eq rfl) (hb hby d_jdk_32_method_3_code_5)
  obtain ⟨rfl, pq2_0⟩ := qq2
  have Nq2 := Fr.app N nq2
  refine Goes.via stq2 ?_
  show Goes _ _ _ _ _ _ _ _ (Tq2.setTop (mkF m 8 #[.val (.ref v)] [(.ref v), (.ref bq1), (.ref bq1)]))
  obtain ⟨vq3, Tq3, Lq3, Xq3, qq3, nq3, stq3⟩ := callSp Xq2 hx hZ hown (optInit l Z aw hw bq1 v Oq1 Aq1 (Dq1 (Or.inr (W_87 hw)) (ty := (.object "java/lang/Object")) (by decide)) (by omega)) rfl (W_101 hw) (W_102 hw) (W_78 hw) (W_104 hw) (by decide) pq2_0 (by decide) (W := 1) (by decide) (by decide) (by decide) (g := (mkF m 8 #[.val (.ref v)] [(.ref v), (.ref bq1), (.ref bq1)])) rfl (by rw [hml]; rfl) (a := bq1) (argsL := [(.ref v)]) (rest := [(.ref bq1)]) rfl (lenOf pd_7 rfl) rfl (by show 2 * 0 + _ ≤ _; exact Nat.le_of_eq rfl) (hb hby d_jdk_32_method_3_code_8)
  obtain ⟨rfl, pq3_0, pq3_1, pq3_2⟩ := qq3
  have Nq3 := Fr.app Nq2 nq3
  have zq3 := pq3_0.1
  have Oq3 := Oq1.keep pq3_0 (allS (by omega) all0)
  have ltpq3_1 := lt_nat pq3_1.lt
  refine Goes.via stq3 ?_
  show Goes _ _ _ _ _ _ _ _ (Tq3.setTop (mkF m 11 #[.val (.ref v)] [(.ref bq1)]))
  refine goRetA Xq3 hx hrt rfl hlk Nq3 (by decide) (by decide) rfl (hb hby d_jdk_32_method_3_code_11) ?_
  exact ⟨bq1, rfl, by omega, (((Keep.refl _ []).ext Eq1).trans pq3_0 (allS (Or.inr (by omega)) all0)), pq3_1, pq3_2⟩
theorem ef_optEmpty (m : MethodId) : entryFrame m #[] 1 = mkF m 0 #[.unset] [] := by first | (simp [entryFrame, mkF, argsToLocals, Value.category]; done) | rfl
set_option maxRecDepth 65536 in
set_option maxHeartbeats 40000000 in
theorem optEmpty (l : Launch) (Z : State) (aw : Array Value) (hw : ∀ d ∈ tables_1, d.before aw Z = true) (em : Nat) {h0 : Heap} {n0 : Nat} (O : Old Z n0 h0) (SE : Sta Z Z.heap "java/util/Optional" "EMPTY" "Ljava/util/Optional;" (.ref em)) :
    MET l Z (⟨"java/util/Optional", "empty", "()Ljava/util/Optional;"⟩ : MethodName) jdk_32_method_1_code 1 (some (.object "java/util/Optional")) ({ frames := 0, cells := 0, slots := 0, locals := 0 } : Room) #[] h0 n0 (fun vv hh => vv = some (.ref em) ∧ hh = h0) := by
  refine metOf (plainFor_of_name pn_5) ?_
  intro p e s m below meth c T hx hby hml hrt hlk hnm hZ hown X e0
  replace hml : c.maxLocals = 1 := hml
  replace hnm : meth.name = "empty" := hnm
  replace hown : s.vm.findClass "java/util/Optional" = some m.cls := hown
  have N := Fr.nil n0
  have zO := O.le
  refine goCast (ef_optEmpty m) ?_
  show Goes _ _ _ _ _ _ _ _ (T.setTop (mkF m 0 #[.unset] []))
  have fq2 : Sta Z h0 "java/util/Optional" "EMPTY" "Ljava/util/Optional;" (.ref em) := (SE.ext O.2)
  obtain ⟨Tq1, Xq1, eq1, stq1⟩ := getS2 X hx hZ hown (host := "") (Or.inl (W_80 hw)) Via.refl e0 fq2 (g := (mkF m 0 #[.unset] [])) rfl (hb hby d_jdk_32_method_1_code_0)
  refine Goes.via stq1 ?_
  show Goes _ _ _ _ _ _ _ _ (Tq1.setTop (mkF m 3 #[.unset] [(.ref em)]))
  refine Goes.via (fun _ k => XS.astoreN Xq1.here hx rfl (hb hby d_jdk_32_method_1_code_3) rfl rfl (l' := #[.val (.ref em)]) rfl k) ?_
  show Goes _ _ _ _ _ _ _ _ (Tq1.setTop (mkF m 4 #[.val (.ref em)] []))
  refine Goes.via (fun _ k => XS.aloadN Xq1.here hx rfl (hb hby d_jdk_32_method_1_code_4) rfl rfl k) ?_
  show Goes _ _ _ _ _ _ _ _ (Tq1.setTop (mkF m 5 #[.val (.ref em)] [(.ref em)]))
  refine goRetA Xq1 hx hrt rfl hlk N (by decide) (by decide) rfl (hb hby d_jdk_32_method_1_code_5) ?_
  try rw [eq1]
  exact ⟨rfl, rfl⟩
theorem ef_orElseV (m : MethodId) (a : Nat) : entryFrame m #[(.ref a), .null] 2 = mkF m 0 #[.val (.ref a), .val .null] [] := by first | (simp [entryFrame, mkF, argsToLocals, Value.category]; done) | rfl
set_option maxRecDepth 65536 in
set_option maxHeartbeats 40000000 in
theorem orElseV (l : Launch) (Z : State) (aw : Array Value) (hw : ∀ d ∈ tables_1, d.before aw Z = true) (a : Nat) (v : Nat) {h0 : Heap} {n0 : Nat} (O : Old Z n0 h0) (F : Fld Z h0 a "java/util/Optional" "value" "Ljava/lang/Object;" (.ref v)) :
    MET l Z (⟨"java/util/Optional", "orElse", "(Ljava/lang/Object;)Ljava/lang/Object;"⟩ : MethodName) jdk_32_method_15_code 2 (some (.object "java/lang/Object")) ({ frames := 0, cells := 0, slots := 0, locals := 0 } : Room) #[(.ref a), .null] h0 n0 (fun vv hh => vv = some (.ref v) ∧ hh = h0) := by
  refine metOf (plainFor_of_name pn_5) ?_
  intro p e s m below meth c T hx hby hml hrt hlk hnm hZ hown X e0
  replace hml : c.maxLocals = 2 := hml
  replace hnm : meth.name = "orElse" := hnm
  replace hown : s.vm.findClass "java/util/Optional" = some m.cls := hown
  have N := Fr.nil n0
  have zO := O.le
  refine goCast (ef_orElseV m a) ?_
  have lt_a := lt_nat F.lt
  show Goes _ _ _ _ _ _ _ _ (T.setTop (mkF m 0 #[.val (.ref a), .val .null] []))
  refine Goes.via (fun _ k => XS.aloadN X.here hx rfl (hb hby d_jdk_32_method_15_code_0) rfl rfl k) ?_
  show Goes _ _ _ _ _ _ _ _ (T.setTop (mkF m 1 #[.val (.ref a), .val .null] [(.ref a)]))
  obtain ⟨Tq1, Xq1, eq1, stq1⟩ := getF X hx hZ hown (host := "") (Or.inl (W_86 hw)) Via.refl e0 F (g := (mkF m 1 #[.val (.ref a), .val .null] [(.ref a)])) rfl rfl (hb hby d_jdk_32_method_15_code_1)
  refine Goes.via stq1 ?_
  show Goes _ _ _ _ _ _ _ _ (Tq1.setTop (mkF m 4 #[.val (.ref a), .val .null] [(.ref v)]))
  refine Goes.via (fun _ k => XS.ifnullNo Xq1.here hx rfl (hb hby d_jdk_32_method_15_code_4) rfl k) ?_
  show Goes _ _ _ _ _ _ _ _ (Tq1.setTop (mkF m 7 #[.val (.ref a), .val .null] []))
  refine Goes.via (fun _ k => XS.aloadN Xq1.here hx rfl (hb hby d_jdk_32_method_15_code_7) rfl rfl k) ?_
  show Goes _ _ _ _ _ _ _ _ (Tq1.setTop (mkF m 8 #[.val (.ref a), .val .null] [(.ref a)]))
  obtain ⟨Tq2, Xq2, eq2, stq2⟩ := getF Xq1 hx hZ hown (host := "") (Or.inl (W_86 hw)) Via.refl eq1 F (g := (mkF m 8 #[.val (.ref a), .val .null] [(.ref a)])) rfl rfl (hb hby d_jdk_32_method_15_code_8)
  refine Goes.via stq2 ?_
  show Goes _ _ _ _ _ _ _ _ (Tq2.setTop (mkF m 11 #[.val (.ref a), .val .null] [(.ref v)]))
  refine Goes.via (fun _ k => XS.goto Xq2.here hx rfl (pc0 := 11) (pc' := 15) rfl (hb hby d_jdk_32_method_15_code_11) (by decide) (by decide) k) ?_
  show Goes _ _ _ _ _ _ _ _ (Tq2.setTop (mkF m 15 #[.val (.ref a), .val .null] [(.ref v)]))
  refine goRetA Xq2 hx hrt rfl hlk N (by decide) (by decide) rfl (hb hby d_jdk_32_method_15_code_15) ?_
  try rw [eq2]
  exact ⟨rfl, rfl⟩
theorem ef_orElseN (m : MethodId) (a : Nat) : entryFrame m #[(.ref a), .null] 2 = mkF m 0 #[.val (.ref a), .val .null] [] := by first | (simp [entryFrame, mkF, argsToLocals, Value.category]; done) | rfl
set_option maxRecDepth 65536 in
set_option maxHeartbeats 40000000 in
theorem orElseN (l : Launch) (Z : State) (aw : Array Value) (hw : ∀ d ∈ tables_1, d.before aw Z = true) (a : Nat) {h0 : Heap} {n0 : Nat} (O : Old Z n0 h0) (F : Fld Z h0 a "java/util/Optional" "value" "Ljava/lang/Object;" .null) :
    MET l Z (⟨"java/util/Optional", "orElse", "(Ljava/lang/Object;)Ljava/lang/Object;"⟩ : MethodName) jdk_32_method_15_code 2 (some (.object "java/lang/Object")) ({ frames := 0, cells := 0, slots := 0, locals := 0 } : Room) #[(.ref a), .null] h0 n0 (fun vv hh => vv = some .null ∧ hh = h0) := by
  refine metOf (plainFor_of_name pn_5) ?_
  intro p e s m below meth c T hx hby hml hrt hlk hnm hZ hown X e0
  replace hml : c.maxLocals = 2 := hml
  replace hnm : meth.name = "orElse" := hnm
  replace hown : s.vm.findClass "java/util/Optional" = some m.cls := hown
  have N := Fr.nil n0
  have zO := O.le
  refine goCast (ef_orElseN m a) ?_
  have lt_a := lt_nat F.lt
  show Goes _ _ _ _ _ _ _ _ (T.setTop (mkF m 0 #[.val (.ref a), .val .null] []))
  refine Goes.via (fun _ k => XS.aloadN X.here hx rfl (hb hby d_jdk_32_method_15_code_0) rfl rfl k) ?_
  show Goes _ _ _ _ _ _ _ _ (T.setTop (mkF m 1 #[.val (.ref a), .val .null] [(.ref a)]))
  obtain ⟨Tq1, Xq1, eq1, stq1⟩ := getF X hx hZ hown (host := "") (Or.inl (W_86 hw)) Via.refl e0 F (g := (mkF m 1 #[.val (.ref a), .val .null] [(.ref a)])) rfl rfl (hb hby d_jdk_32_method_15_code_1)
  refine Goes.via stq1 ?_
  show Goes _ _ _ _ _ _ _ _ (Tq1.setTop (mkF m 4 #[.val (.ref a), .val .null] [.null]))
  refine Goes.via (fun _ k => XS.ifnullYes Xq1.here hx rfl (pc0 := 4) (pc' := 14) rfl (hb hby d_jdk_32_method_15_code_4) rfl (by decide) (by decide) k) ?_
  show Goes _ _ _ _ _ _ _ _ (Tq1.setTop (mkF m 14 #[.val (.ref a), .val .null] []))
  refine Goes.via (fun _ k => XS.aloadN Xq1.here hx rfl (hb hby d_jdk_32_method_15_code_14) rfl rfl k) ?_
  show Goes _ _ _ _ _ _ _ _ (Tq1.setTop (mkF m 15 #[.val (.ref a), .val .null] [.null]))
  refine goRetA Xq1 hx hrt rfl hlk N (by decide) (by decide) rfl (hb hby d_jdk_32_method_15_code_15) ?_
  try rw [eq1]
  exact ⟨rfl, rfl⟩
theorem ef_vals (m : MethodId) : entryFrame m #[] 0 = mkF m 0 #[] [] := by first | (simp [entryFrame, mkF, argsToLocals, Value.category]; done) | rfl
set_option maxRecDepth 65536 in
set_option maxHeartbeats 40000000 in
theorem vals (l : Launch) (Z : State) (aw : Array Value) (hw : ∀ d ∈ tables_1, d.before aw Z = true) (ar : Nat) (kz0 : ClassId) (t0 : Nat) (t1 : Nat) (t2 : Nat) (t3 : Nat) {h0 : Heap} {n0 : Nat} (O : Old Z n0 h0) (S0 : Sta Z Z.heap "com/example/dispatch_note/dispatchnote/contract/ManagedMember" "$VALUES" "[Lcom/example/dispatch_note/dispatchnote/contract/ManagedMember;" (.ref ar)) (V0 : Arv Z Z.heap ar kz0 (.object "com/example/dispatch_note/dispatchnote/contract/ManagedMember") (4 : Int32) [(.ref t0), (.ref t1), (.ref t2), (.ref t3)] .null) (E0 : Exa Z Z.heap ar "[Lcom/example/dispatch_note/dispatchnote/contract/ManagedMember;") :
    MET l Z (⟨"com/example/dispatch_note/dispatchnote/contract/ManagedMember", "values", "()[Lcom/example/dispatch_note/dispatchnote/contract/ManagedMember;"⟩ : MethodName) prog_4_method_1_code 0 (some (.array (.object "com/example/dispatch_note/dispatchnote/contract/ManagedMember"))) ({ frames := 1, cells := 1, slots := 4, locals := 14 } : Room) #[] h0 n0 (fun vv hh => ∃ r : Nat, ∃ kr : ClassId, vv = some (.ref r) ∧ h0.size ≤ r ∧ Keep h0 hh [] ∧ Exa Z hh r "[Lcom/example/dispatch_note/dispatchnote/contract/ManagedMember;" ∧ Arv Z hh r kr (.object "com/example/dispatch_note/dispatchnote/contract/ManagedMember") (4 : Int32) [(.ref t0), (.ref t1), (.ref t2), (.ref t3)] .null) := by
  refine metOf (plainFor_of_name pn_8) ?_
  intro p e s m below meth c T hx hby hml hrt hlk hnm hZ hown X e0
  replace hml : c.maxLocals = 0 := hml
  replace hnm : meth.name = "values" := hnm
  replace hown : s.vm.findClass "com/example/dispatch_note/dispatchnote/contract/ManagedMember" = some m.cls := hown
  have N := Fr.nil n0
  have zO := O.le
  refine goCast (ef_vals m) ?_
  show Goes _ _ _ _ _ _ _ _ (T.setTop (mkF m 0 #[] []))
  have fq2 : Sta Z h0 "com/example/dispatch_note/dispatchnote/contract/ManagedMember" "$VALUES" "[Lcom/example/dispatch_note/dispatchnote/contract/ManagedMember;" (.ref ar) := (S0.ext O.2)
  obtain ⟨Tq1, Xq1, eq1, stq1⟩ := getS2 X hx hZ hown (host := "") (Or.inl (W_57 hw)) Via.refl e0 fq2 (g := (mkF m 0 #[] [])) rfl (hb hby d_prog_4_method_1_code_0)
  refine Goes.via stq1 ?_
  show Goes _ _ _ _ _ _ _ _ (Tq1.setTop (mkF m 3 #[] [(.ref ar)]))
  have fq4 : Arv Z h0 ar kz0 (.object "com/example/dispatch_note/dispatchnote/contract/ManagedMember") (4 : Int32) [(.ref t0), (.ref t1), (.ref t2), (.ref t3)] .null := (V0.ext O.2)
  have fq5 : Exa Z h0 ar "[Lcom/example/dispatch_note/dispatchnote/contract/ManagedMember;" := (E0.ext O.2)
  obtain ⟨Tq3, hq3, Xq3, eq3, Eq3, Vq3, Aq3, stq3⟩ := cloneH Xq1 hx hZ hown (W_59 hw) (W_60 hw) (W_64 hw) (W_62 hw) (W_63 hw) (W_65 hw) eq1 fq4.arh fq5 (g := (mkF m 3 #[] [(.ref ar)])) rfl (by rw [hml]; rfl) rfl (hb hby d_prog_4_method_1_code_3) (by decide) (W := 0) (cap := 4) (by show 2 * 0 + _ ≤ _; exact Nat.le_of_eq rfl) (by decide) (by decide) (by decide) (by decide)
  obtain ⟨bq3, gq3⟩ : ∃ z, z = h0.size := ⟨_, rfl⟩
  rw [← gq3] at Aq3 Vq3 stq3
  have zq3 := Eq3.1
  have Oq3 := O.ext Eq3
  have Uq3 : Arv Z hq3 bq3 kz0 (.object "com/example/dispatch_note/dispatchnote/contract/ManagedMember") (4 : Int32) [(.ref t0), (.ref t1), (.ref t2), (.ref t3)] .null := Vq3
  have lq3 := lt_nat Aq3.lt
  refine Goes.via stq3 ?_
  show Goes _ _ _ _ _ _ _ _ (Tq3.setTop (mkF m 6 #[] [(.ref bq3)]))
  obtain ⟨Tq6, Xq6, eq6, stq6⟩ := castY Xq3 hx hZ hown (W_71 hw) eq3 (Ins.self Aq3) (g := (mkF m 6 #[] [(.ref bq3)])) rfl rfl (hb hby d_prog_4_method_1_code_6)
  refine Goes.via stq6 ?_
  show Goes _ _ _ _ _ _ _ _ (Tq6.setTop (mkF m 9 #[] [(.ref bq3)]))
  refine goRetA Xq6 hx hrt rfl hlk N (by decide) (by decide) rfl (hb hby d_prog_4_method_1_code_9) ?_
  try rw [eq6]
  exact ⟨bq3, _, rfl, by omega, ((Keep.refl _ []).ext Eq3), Aq3, Uq3⟩
theorem ef_named_0 (m : MethodId) (sS : Nat) : entryFrame m #[(.ref sS)] 5 = mkF m 0 #[.val (.ref sS), .unset, .unset, .unset, .unset] [] := by first | (simp [entryFrame, mkF, argsToLocals, Value.category]; done) | rfl
set_option maxRecDepth 65536 in
set_option maxHeartbeats 40000000 in
theorem named_0 (l : Launch) (Z : State) (aw : Array Value) (hw : ∀ d ∈ tables_1, d.before aw Z = true) (sS : Nat) (wS : Nat) (kS : ClassId) (NS1 : Int32) (vS : List Value) (csS : List Int32) (ar : Nat) (kz0 : ClassId) (t0 : Nat) (t1 : Nat) (t2 : Nat) (t3 : Nat) (u0 : Nat) (y0 : Nat) (ky0 : ClassId) (u1 : Nat) (y1 : Nat) (ky1 : ClassId) (u2 : Nat) (y2 : Nat) (ky2 : ClassId) (u3 : Nat) (y3 : Nat) (ky3 : ClassId) (em : Nat) (cz : Int32) {h0 : Heap} {n0 : Nat} (O : Old Z n0 h0) (S0 : Sta Z Z.heap "com/example/dispatch_note/dispatchnote/contract/ManagedMember" "$VALUES" "[Lcom/example/dispatch_note/dispatchnote/contract/ManagedMember;" (.ref ar)) (V0 : Arv Z Z.heap ar kz0 (.object "com/example/dispatch_note/dispatchnote/contract/ManagedMember") (4 : Int32) [(.ref t0), (.ref t1), (.ref t2), (.ref t3)] .null) (E0 : Exa Z Z.heap ar "[Lcom/example/dispatch_note/dispatchnote/contract/ManagedMember;") (CS : Sta Z Z.heap "java/lang/String" "COMPACT_STRINGS" "Z" (.int cz)) (SE : Sta Z Z.heap "java/util/Optional" "EMPTY" "Ljava/util/Optional;" (.ref em)) (F0 : Fld Z Z.heap t0 "com/example/dispatch_note/dispatchnote/contract/ManagedMember" "memberName" "Ljava/lang/String;" (.ref u0)) (EU0 : Exa Z Z.heap u0 "java/lang/String") (CU0 : Fld Z Z.heap u0 "java/lang/String" "coder" "B" (.int (0 : Int32))) (VU0 : Fld Z Z.heap u0 "java/lang/String" "value" "[B" (.ref y0)) (AU0 : Arv Z Z.heap y0 ky0 .byte (2 : Int32) [(.int (105 : Int32)), (.int (100 : Int32))] (.int (0 : Int32))) (F1 : Fld Z Z.heap t1 "com/example/dispatch_note/dispatchnote/contract/ManagedMember" "memberName" "Ljava/lang/String;" (.ref u1)) (EU1 : Exa Z Z.heap u1 "java/lang/String") (CU1 : Fld Z Z.heap u1 "java/lang/String" "coder" "B" (.int (0 : Int32))) (VU1 : Fld Z Z.heap u1 "java/lang/String" "value" "[B" (.ref y1)) (AU1 : Arv Z Z.heap y1 ky1 .byte (7 : Int32) [(.int (118 : Int32)), (.int (101 : Int32)), (.int (114 : Int32)), (.int (115 : Int32)), (.int (105 : Int32)), (.int (111 : Int32)), (.int (110 : Int32))] (.int (0 : Int32))) (F2 : Fld Z Z.heap t2 "com/example/dispatch_note/dispatchnote/contract/ManagedMember" "memberName" "Ljava/lang/String;" (.ref u2)) (EU2 : Exa Z Z.heap u2 "java/lang/String") (CU2 : Fld Z Z.heap u2 "java/lang/String" "coder" "B" (.int (0 : Int32))) (VU2 : Fld Z Z.heap u2 "java/lang/String" "value" "[B" (.ref y2)) (AU2 : Arv Z Z.heap y2 ky2 .byte (9 : Int32) [(.int (99 : Int32)), (.int (114 : Int32)), (.int (101 : Int32)), (.int (97 : Int32)), (.int (116 : Int32)), (.int (101 : Int32)), (.int (100 : Int32)), (.int (65 : Int32)), (.int (116 : Int32))] (.int (0 : Int32))) (F3 : Fld Z Z.heap t3 "com/example/dispatch_note/dispatchnote/contract/ManagedMember" "memberName" "Ljava/lang/String;" (.ref u3)) (EU3 : Exa Z Z.heap u3 "java/lang/String") (CU3 : Fld Z Z.heap u3 "java/lang/String" "coder" "B" (.int (0 : Int32))) (VU3 : Fld Z Z.heap u3 "java/lang/String" "value" "[B" (.ref y3)) (AU3 : Arv Z Z.heap y3 ky3 .byte (9 : Int32) [(.int (117 : Int32)), (.int (112 : Int32)), (.int (100 : Int32)), (.int (97 : Int32)), (.int (116 : Int32)), (.int (101 : Int32)), (.int (100 : Int32)), (.int (65 : Int32)), (.int (116 : Int32))] (.int (0 : Int32))) (ES : Exa Z h0 sS "java/lang/String") (VS : Fld Z h0 sS "java/lang/String" "value" "[B" (.ref wS)) (CSS : Fld Z h0 sS "java/lang/String" "coder" "B" (.int (0 : Int32))) (AS : Arv Z h0 wS kS .byte NS1 vS (.int (0 : Int32))) (hcz : ¬ cz = (0 : Int32)) (codS : StrChars.Road.CodA csS 0 NS1 vS) (rgS : ∀ c ∈ csS, ¬ c < 0 ∧ ¬ (65535 : Int32) < c) (lnS : csS.length ≤ 4000) (hq : csS = LIT_0) :
    MET l Z (⟨"com/example/dispatch_note/dispatchnote/contract/ManagedMember", "named", "(Ljava/lang/String;)Ljava/util/Optional;"⟩ : MethodName) prog_4_method_5_code 5 (some (.object "java/util/Optional")) ({ frames := 3, cells := 2, slots := 8, locals := 50 } : Room) #[(.ref sS)] h0 n0 (fun vv hh => ∃ r : Nat, vv = some (.ref r) ∧ h0.size ≤ r ∧ Keep h0 hh [] ∧ Exa Z hh r "java/util/Optional" ∧ Fld Z hh r "java/util/Optional" "value" "Ljava/lang/Object;" (.ref t0)) := by
  refine metOf (plainFor_of_name pn_8) ?_
  intro p e s m below meth c T hx hby hml hrt hlk hnm hZ hown X e0
  replace hml : c.maxLocals = 5 := hml
  replace hnm : meth.name = "named" := hnm
  replace hown : s.vm.findClass "com/example/dispatch_note/dispatchnote/contract/ManagedMember" = some m.cls := hown
  have N := Fr.nil n0
  have zO := O.le
  refine goCast (ef_named_0 m sS) ?_
  have lt_sS := lt_nat ES.lt
  have lt_wS := lt_nat AS.lt
  show Goes _ _ _ _ _ _ _ _ (T.setTop (mkF m 0 #[.val (.ref sS), .unset, .unset, .unset, .unset] []))
  obtain ⟨vq1, Tq1, Lq1, Xq1, qq1, nq1, stq1⟩ := callSt X hx hZ hown (vals l Z aw hw ar kz0 t0 t1 t2 t3 O S0 V0 E0) (W_54 hw) (W_55 hw) (W_52 hw) (W_56 hw) (by decide) e0 (by decide) (W := 0) (by decide) (by decide) (by decide) (g := (mkF m 0 #[.val (.ref sS), .unset, .unset, .unset, .unset] [])) rfl (by rw [hml]; rfl) (argsL := []) (rest := []) rfl (lenOf pd_9 rfl) rfl (by show 2 * 0 + _ ≤ _; exact Nat.le_of_eq rfl) (hb hby d_prog_4_method_5_code_0)
  obtain ⟨xr_q1, xkr_q1, rfl, pq1_0, pq1_1, pq1_2, pq1_3⟩ := qq1
  have Nq1 := Fr.app N nq1
  have zq1 := pq1_1.1
  have Oq1 := O.keep pq1_1 all0
  have ltpq1_2 := lt_nat pq1_2.lt
  refine Goes.via stq1 ?_
  show Goes _ _ _ _ _ _ _ _ (Tq1.setTop (mkF m 3 #[.val (.ref sS), .unset, .unset, .unset, .unset] [(.ref xr_q1)]))
  refine Goes.via (fun _ k => XS.astoreN Xq1.here hx rfl (hb hby d_prog_4_method_5_code_3) rfl rfl (l' := #[.val (.ref sS), .val (.ref xr_q1), .unset, .unset, .unset]) rfl k) ?_
  show Goes _ _ _ _ _ _ _ _ (Tq1.setTop (mkF m 4 #[.val (.ref sS), .val (.ref xr_q1), .unset, .unset, .unset] []))
  refine Goes.via (fun _ k => XS.aloadN Xq1.here hx rfl (hb hby d_prog_4_method_5_code_4) rfl rfl k) ?_
  show Goes _ _ _ _ _ _ _ _ (Tq1.setTop (mkF m 5 #[.val (.ref sS), .val (.ref xr_q1), .unset, .unset, .unset] [(.ref xr_q1)]))
  obtain ⟨clq2, Arq2, -, Sq2, Nnq2, -, -⟩ := id pq1_3
  refine Goes.via (Xq1.arraylength hx Arq2.1 (State.isArrayOf_alike hZ.alike Arq2.2.1) (g := (mkF m 5 #[.val (.ref sS), .val (.ref xr_q1), .unset, .unset, .unset] [(.ref xr_q1)])) rfl rfl (hb hby d_prog_4_method_5_code_5)) ?_
  rw [len_of Sq2 Nnq2]
  show Goes _ _ _ _ _ _ _ _ (Tq1.setTop (mkF m 6 #[.val (.ref sS), .val (.ref xr_q1), .unset, .unset, .unset] [(.int (4 : Int32))]))
  refine Goes.via (fun _ k => XS.istoreN Xq1.here hx rfl (hb hby d_prog_4_method_5_code_6) rfl (l' := #[.val (.ref sS), .val (.ref xr_q1), .val (.int (4 : Int32)), .unset, .unset]) rfl k) ?_
  show Goes _ _ _ _ _ _ _ _ (Tq1.setTop (mkF m 7 #[.val (.ref sS), .val (.ref xr_q1), .val (.int (4 : Int32)), .unset, .unset] []))
  refine Goes.via (fun _ k => XT.iconstV Xq1.here hx rfl (0 : Int32) (hb hby d_prog_4_method_5_code_7) (by decide) k) ?_
  show Goes _ _ _ _ _ _ _ _ (Tq1.setTop (mkF m 8 #[.val (.ref sS), .val (.ref xr_q1), .val (.int (4 : Int32)), .unset, .unset] [(.int (0 : Int32))]))
  refine Goes.via (fun _ k => XS.istoreN Xq1.here hx rfl (hb hby d_prog_4_method_5_code_8) rfl (l' := #[.val (.ref sS), .val (.ref xr_q1), .val (.int (4 : Int32)), .val (.int (0 : Int32)), .unset]) rfl k) ?_
  show Goes _ _ _ _ _ _ _ _ (Tq1.setTop (mkF m 9 #[.val (.ref sS), .val (.ref xr_q1), .val (.int (4 : Int32)), .val (.int (0 : Int32)), .unset] []))
  refine Goes.via (fun _ k => XS.iloadN Xq1.here hx rfl (hb hby d_prog_4_method_5_code_9) rfl k) ?_
  show Goes _ _ _ _ _ _ _ _ (Tq1.setTop (mkF m 10 #[.val (.ref sS), .val (.ref xr_q1), .val (.int (4 : Int32)), .val (.int (0 : Int32)), .unset] [(.int (0 : Int32))]))
  refine Goes.via (fun _ k => XS.iloadN Xq1.here hx rfl (hb hby d_prog_4_method_5_code_10) rfl k) ?_
  show Goes _ _ _ _ _ _ _ _ (Tq1.setTop (mkF m 11 #[.val (.ref sS), .val (.ref xr_q1), .val (.int (4 : Int32)), .val (.int (0 : Int32)), .unset] [(.int (4 : Int32)), (.int (0 : Int32))]))
  refine Goes.via (fun _ k => XS.icmpNo Xq1.here hx rfl (hb hby d_prog_4_method_5_code_11) rfl (XT.ii_ge_f (by decide)) k) ?_
  show Goes _ _ _ _ _ _ _ _ (Tq1.setTop (mkF m 14 #[.val (.ref sS), .val (.ref xr_q1), .val (.int (4 : Int32)), .val (.int (0 : Int32)), .unset] []))
  refine Goes.via (fun _ k => XS.aloadN Xq1.here hx rfl (hb hby d_prog_4_method_5_code_14) rfl rfl k) ?_
  show Goes _ _ _ _ _ _ _ _ (Tq1.setTop (mkF m 15 #[.val (.ref sS), .val (.ref xr_q1), .val (.int (4 : Int32)), .val (.int (0 : Int32)), .unset] [(.ref xr_q1)]))
  refine Goes.via (fun _ k => XS.iloadN Xq1.here hx rfl (hb hby d_prog_4_method_5_code_15) rfl k) ?_
  show Goes _ _ _ _ _ _ _ _ (Tq1.setTop (mkF m 16 #[.val (.ref sS), .val (.ref xr_q1), .val (.int (4 : Int32)), .val (.int (0 : Int32)), .unset] [(.int (0 : Int32)), (.ref xr_q1)]))
  obtain ⟨clq3, Arq3, qq3, Sq3, Nnq3, Hq3, Gq3⟩ := id pq1_3
  have hinq3 : ¬ ((0 : Int32) < 0 ∨ clq3.slots.size ≤ ((0 : Int32)).toNatClampNeg) := inb_of Sq3 ⟨by decide, by decide⟩
  refine Goes.via (Xq1.aaload hx (j := (0 : Int32)) (v := (.ref t0)) Arq3.1 (State.isArrayOf_alike hZ.alike Arq3.2.1) rfl Arq3.2.2 hinq3 (Hq3.at hinq3 rfl) (g := (mkF m 16 #[.val (.ref sS), .val (.ref xr_q1), .val (.int (4 : Int32)), .val (.int (0 : Int32)), .unset] [(.int (0 : Int32)), (.ref xr_q1)])) rfl rfl (hb hby d_prog_4_method_5_code_16)) ?_
  show Goes _ _ _ _ _ _ _ _ (Tq1.setTop (mkF m 17 #[.val (.ref sS), .val (.ref xr_q1), .val (.int (4 : Int32)), .val (.int (0 : Int32)), .unset] [(.ref t0)]))
  refine Goes.via (fun _ k => XS.astore Xq1.here hx rfl (hb hby d_prog_4_method_5_code_17) rfl rfl (l' := #[.val (.ref sS), .val (.ref xr_q1), .val (.int (4 : Int32)), .val (.int (0 : Int32)), .val (.ref t0)]) rfl k) ?_
  show Goes _ _ _ _ _ _ _ _ (Tq1.setTop (mkF m 19 #[.val (.ref sS), .val (.ref xr_q1), .val (.int (4 : Int32)), .val (.int (0 : Int32)), .val (.ref t0)] []))
  refine Goes.via (fun _ k => XS.aload Xq1.here hx rfl (hb hby d_prog_4_method_5_code_19) rfl rfl k) ?_
  show Goes _ _ _ _ _ _ _ _ (Tq1.setTop (mkF m 21 #[.val (.ref sS), .val (.ref xr_q1), .val (.int (4 : Int32)), .val (.int (0 : Int32)), .val (.ref t0)] [(.ref t0)]))
  have fq5 : Fld Z Tq1.heap t0 "com/example/dispatch_note/dispatchnote/contract/ManagedMember" "memberName" "Ljava/lang/String;" (.ref u0) := (F0.ext Oq1.2)
  obtain ⟨Tq4, Xq4, eq4, stq4⟩ := getF Xq1 hx hZ hown (host := "") (Or.inl (W_73 hw)) Via.refl rfl fq5 (g := (mkF m 21 #[.val (.ref sS), .val (.ref xr_q1), .val (.int (4 : Int32)), .val (.int (0 : Int32)), .val (.ref t0)] [(.ref t0)])) rfl rfl (hb hby d_prog_4_method_5_code_21)
  refine Goes.via stq4 ?_
  show Goes _ _ _ _ _ _ _ _ (Tq4.setTop (mkF m 24 #[.val (.ref sS), .val (.ref xr_q1), .val (.int (4 : Int32)), .val (.int (0 : Int32)), .val (.ref t0)] [(.ref u0)]))
  refine Goes.via (fun _ k => XS.aloadN Xq4.here hx rfl (hb hby d_prog_4_method_5_code_24) rfl rfl k) ?_
  show Goes _ _ _ _ _ _ _ _ (Tq4.setTop (mkF m 25 #[.val (.ref sS), .val (.ref xr_q1), .val (.int (4 : Int32)), .val (.int (0 : Int32)), .val (.ref t0)] [(.ref sS), (.ref u0)]))
  have fq7 : Exa Z Tq1.heap u0 "java/lang/String" := (EU0.ext Oq1.2)
  have fq8 : Fld Z Tq1.heap u0 "java/lang/String" "value" "[B" (.ref y0) := (VU0.ext Oq1.2)
  have fq9 : Fld Z Tq1.heap u0 "java/lang/String" "coder" "B" (.int (0 : Int32)) := (CU0.ext Oq1.2)
  have fq10 : Arv Z Tq1.heap y0 ky0 .byte (2 : Int32) [(.int (105 : Int32)), (.int (100 : Int32))] (.int (0 : Int32)) := (AU0.ext Oq1.2)
  have fq11 : Exa Z Tq1.heap sS "java/lang/String" := (ES.keep pq1_1)
  have fq12 : Fld Z Tq1.heap sS "java/lang/String" "value" "[B" (.ref wS) := (VS.keep pq1_1 nin0)
  have fq13 : Fld Z Tq1.heap sS "java/lang/String" "coder" "B" (.int (0 : Int32)) := (CSS.keep pq1_1 nin0)
  have fq14 : Arv Z Tq1.heap wS kS .byte NS1 vS (.int (0 : Int32)) := (AS.keep pq1_1 nin0)
  have fq15 : Sta Z Tq1.heap "java/lang/String" "COMPACT_STRINGS" "Z" (.int cz) := (CS.ext Oq1.2)
  obtain ⟨vq6, Tq6, Lq6, Xq6, ⟨qq6, rfl, eq6⟩, stq6⟩ := callViB (Qb := fun v h' L => ((v = some (.int 1) ∧ LIT_0 = csS) ∨ (v = some (.int 0) ∧ ¬ LIT_0 = csS)) ∧ L = [] ∧ h' = Tq1.heap) Xq4 hx hZ hown (StrChars.Road.eqW (W := 0) hZ (hwEq hw) (kI := 4) (W_6 hw) fq7 fq8 fq9 fq10 codL_0 rgL_0 (Nat.le_of_ble_eq_true rfl) fq11 fq12 fq13 fq14 codS rgS lnS fq15 hcz (by decide) (by decide)) (W_75 hw) (W_38 hw) (notFace_of_selects (args := #[]) (mvT hZ (W_40 hw))) (W_40 hw) (W_39 hw) (by decide) eq4 fq7 (by decide) (by decide) (g := (mkF m 25 #[.val (.ref sS), .val (.ref xr_q1), .val (.int (4 : Int32)), .val (.int (0 : Int32)), .val (.ref t0)] [(.ref sS), (.ref u0)])) rfl (by rw [hml]; rfl) (a := u0) (argsL := [(.ref sS)]) (rest := []) rfl (lenOf pd_10 rfl) rfl (by show 2 * 0 + _ ≤ _; exact Nat.le_of_eq rfl) (hb hby d_prog_4_method_5_code_25)
  have Nq6 := Fr.app Nq1 (Fr.nil n0)
  obtain ⟨rfl, ccq6⟩ : vq6 = some (.int 1) ∧ LIT_0 = csS := qq6.resolve_right (fun z => z.2 hq.symm)
  refine Goes.via stq6 ?_
  show Goes _ _ _ _ _ _ _ _ (Tq6.setTop (mkF m 28 #[.val (.ref sS), .val (.ref xr_q1), .val (.int (4 : Int32)), .val (.int (0 : Int32)), .val (.ref t0)] [(.int (1 : Int32))]))
  refine Goes.via (fun _ k => XS.ifNo Xq6.here hx rfl (hb hby d_prog_4_method_5_code_28) rfl (XT.i0_eq_f (by decide)) k) ?_
  show Goes _ _ _ _ _ _ _ _ (Tq6.setTop (mkF m 31 #[.val (.ref sS), .val (.ref xr_q1), .val (.int (4 : Int32)), .val (.int (0 : Int32)), .val (.ref t0)] []))
  refine Goes.via (fun _ k => XS.aload Xq6.here hx rfl (hb hby d_prog_4_method_5_code_31) rfl rfl k) ?_
  show Goes _ _ _ _ _ _ _ _ (Tq6.setTop (mkF m 33 #[.val (.ref sS), .val (.ref xr_q1), .val (.int (4 : Int32)), .val (.int (0 : Int32)), .val (.ref t0)] [(.ref t0)]))
  obtain ⟨vq16, Tq16, Lq16, Xq16, qq16, nq16, stq16⟩ := callSt Xq6 hx hZ hown (optOf l Z aw hw t0 Oq1) (W_92 hw) (W_93 hw) (W_78 hw) (W_94 hw) (by decide) eq6 (by decide) (W := 0) (by decide) (by decide) (by decide) (g := (mkF m 33 #[.val (.ref sS), .val (.ref xr_q1), .val (.int (4 : Int32)), .val (.int (0 : Int32)), .val (.ref t0)] [(.ref t0)])) rfl (by rw [hml]; rfl) (argsL := [(.ref t0)]) (rest := []) rfl (lenOf pd_11 rfl) rfl (by show 2 * 0 + _ ≤ _; exact Nat.le_of_eq rfl) (hb hby d_prog_4_method_5_code_33)
  obtain ⟨xr_q16, rfl, pq16_0, pq16_1, pq16_2, pq16_3⟩ := qq16
  have Nq16 := Fr.app Nq6 nq16
  have zq16 := pq16_1.1
  have Oq16 := Oq1.keep pq16_1 all0
  have ltpq16_2 := lt_nat pq16_2.lt
  refine Goes.via stq16 ?_
  show Goes _ _ _ _ _ _ _ _ (Tq16.setTop (mkF m 36 #[.val (.ref sS), .val (.ref xr_q1), .val (.int (4 : Int32)), .val (.int (0 : Int32)), .val (.ref t0)] [(.ref xr_q16)]))
  refine goRetA Xq16 hx hrt rfl hlk Nq16 (by decide) (by decide) rfl (hb hby d_prog_4_method_5_code_36) ?_
  exact ⟨xr_q16, rfl, by omega, (((Keep.refl _ []).trans pq1_1 all0).trans pq16_1 all0), pq16_2, pq16_3⟩
theorem ef_named_1 (m : MethodId) (sS : Nat) : entryFrame m #[(.ref sS)] 5 = mkF m 0 #[.val (.ref sS), .unset, .unset, .unset, .unset] [] := by first | (simp [entryFrame, mkF, argsToLocals, Value.category]; done) | rfl
set_option maxRecDepth 65536 in
set_option maxHeartbeats 40000000 in
theorem named_1 (l : Launch) (Z : State) (aw : Array Value) (hw : ∀ d ∈ tables_1, d.before aw Z = true) (sS : Nat) (wS : Nat) (kS : ClassId) (NS1 : Int32) (vS : List Value) (csS : List Int32) (ar : Nat) (kz0 : ClassId) (t0 : Nat) (t1 : Nat) (t2 : Nat) (t3 : Nat) (u0 : Nat) (y0 : Nat) (ky0 : ClassId) (u1 : Nat) (y1 : Nat) (ky1 : ClassId) (u2 : Nat) (y2 : Nat) (ky2 : ClassId) (u3 : Nat) (y3 : Nat) (ky3 : ClassId) (em : Nat) (cz : Int32) {h0 : Heap} {n0 : Nat} (O : Old Z n0 h0) (S0 : Sta Z Z.heap "com/example/dispatch_note/dispatchnote/contract/ManagedMember" "$VALUES" "[Lcom/example/dispatch_note/dispatchnote/contract/ManagedMember;" (.ref ar)) (V0 : Arv Z Z.heap ar kz0 (.object "com/example/dispatch_note/dispatchnote/contract/ManagedMember") (4 : Int32) [(.ref t0), (.ref t1), (.ref t2), (.ref t3)] .null) (E0 : Exa Z Z.heap ar "[Lcom/example/dispatch_note/dispatchnote/contract/ManagedMember;") (CS : Sta Z Z.heap "java/lang/String" "COMPACT_STRINGS" "Z" (.int cz)) (SE : Sta Z Z.heap "java/util/Optional" "EMPTY" "Ljava/util/Optional;" (.ref em)) (F0 : Fld Z Z.heap t0 "com/example/dispatch_note/dispatchnote/contract/ManagedMember" "memberName" "Ljava/lang/String;" (.ref u0)) (EU0 : Exa Z Z.heap u0 "java/lang/String") (CU0 : Fld Z Z.heap u0 "java/lang/String" "coder" "B" (.int (0 : Int32))) (VU0 : Fld Z Z.heap u0 "java/lang/String" "value" "[B" (.ref y0)) (AU0 : Arv Z Z.heap y0 ky0 .byte (2 : Int32) [(.int (105 : Int32)), (.int (100 : Int32))] (.int (0 : Int32))) (F1 : Fld Z Z.heap t1 "com/example/dispatch_note/dispatchnote/contract/ManagedMember" "memberName" "Ljava/lang/String;" (.ref u1)) (EU1 : Exa Z Z.heap u1 "java/lang/String") (CU1 : Fld Z Z.heap u1 "java/lang/String" "coder" "B" (.int (0 : Int32))) (VU1 : Fld Z Z.heap u1 "java/lang/String" "value" "[B" (.ref y1)) (AU1 : Arv Z Z.heap y1 ky1 .byte (7 : Int32) [(.int (118 : Int32)), (.int (101 : Int32)), (.int (114 : Int32)), (.int (115 : Int32)), (.int (105 : Int32)), (.int (111 : Int32)), (.int (110 : Int32))] (.int (0 : Int32))) (F2 : Fld Z Z.heap t2 "com/example/dispatch_note/dispatchnote/contract/ManagedMember" "memberName" "Ljava/lang/String;" (.ref u2)) (EU2 : Exa Z Z.heap u2 "java/lang/String") (CU2 : Fld Z Z.heap u2 "java/lang/String" "coder" "B" (.int (0 : Int32))) (VU2 : Fld Z Z.heap u2 "java/lang/String" "value" "[B" (.ref y2)) (AU2 : Arv Z Z.heap y2 ky2 .byte (9 : Int32) [(.int (99 : Int32)), (.int (114 : Int32)), (.int (101 : Int32)), (.int (97 : Int32)), (.int (116 : Int32)), (.int (101 : Int32)), (.int (100 : Int32)), (.int (65 : Int32)), (.int (116 : Int32))] (.int (0 : Int32))) (F3 : Fld Z Z.heap t3 "com/example/dispatch_note/dispatchnote/contract/ManagedMember" "memberName" "Ljava/lang/String;" (.ref u3)) (EU3 : Exa Z Z.heap u3 "java/lang/String") (CU3 : Fld Z Z.heap u3 "java/lang/String" "coder" "B" (.int (0 : Int32))) (VU3 : Fld Z Z.heap u3 "java/lang/String" "value" "[B" (.ref y3)) (AU3 : Arv Z Z.heap y3 ky3 .byte (9 : Int32) [(.int (117 : Int32)), (.int (112 : Int32)), (.int (100 : Int32)), (.int (97 : Int32)), (.int (116 : Int32)), (.int (101 : Int32)), (.int (100 : Int32)), (.int (65 : Int32)), (.int (116 : Int32))] (.int (0 : Int32))) (ES : Exa Z h0 sS "java/lang/String") (VS : Fld Z h0 sS "java/lang/String" "value" "[B" (.ref wS)) (CSS : Fld Z h0 sS "java/lang/String" "coder" "B" (.int (0 : Int32))) (AS : Arv Z h0 wS kS .byte NS1 vS (.int (0 : Int32))) (hcz : ¬ cz = (0 : Int32)) (codS : StrChars.Road.CodA csS 0 NS1 vS) (rgS : ∀ c ∈ csS, ¬ c < 0 ∧ ¬ (65535 : Int32) < c) (lnS : csS.length ≤ 4000) (hq : csS = LIT_1) :
    MET l Z (⟨"com/example/dispatch_note/dispatchnote/contract/ManagedMember", "named", "(Ljava/lang/String;)Ljava/util/Optional;"⟩ : MethodName) prog_4_method_5_code 5 (some (.object "java/util/Optional")) ({ frames := 3, cells := 2, slots := 8, locals := 50 } : Room) #[(.ref sS)] h0 n0 (fun vv hh => ∃ r : Nat, vv = some (.ref r) ∧ h0.size ≤ r ∧ Keep h0 hh [] ∧ Exa Z hh r "java/util/Optional" ∧ Fld Z hh r "java/util/Optional" "value" "Ljava/lang/Object;" (.ref t1)) := by
  refine metOf (plainFor_of_name pn_8) ?_
  intro p e s m below meth c T hx hby hml hrt hlk hnm hZ hown X e0
  replace hml : c.maxLocals = 5 := hml
  replace hnm : meth.name = "named" := hnm
  replace hown : s.vm.findClass "com/example/dispatch_note/dispatchnote/contract/ManagedMember" = some m.cls := hown
  have N := Fr.nil n0
  have zO := O.le
  refine goCast (ef_named_1 m sS) ?_
  have lt_sS := lt_nat ES.lt
  have lt_wS := lt_nat AS.lt
  show Goes _ _ _ _ _ _ _ _ (T.setTop (mkF m 0 #[.val (.ref sS), .unset, .unset, .unset, .unset] []))
  obtain ⟨vq1, Tq1, Lq1, Xq1, qq1, nq1, stq1⟩ := callSt X hx hZ hown (vals l Z aw hw ar kz0 t0 t1 t2 t3 O S0 V0 E0) (W_54 hw) (W_55 hw) (W_52 hw) (W_56 hw) (by decide) e0 (by decide) (W := 0) (by decide) (by decide) (by decide) (g := (mkF m 0 #[.val (.ref sS), .unset, .unset, .unset, .unset] [])) rfl (by rw [hml]; rfl) (argsL := []) (rest := []) rfl (lenOf pd_9 rfl) rfl (by show 2 * 0 + _ ≤ _; exact Nat.le_of_eq rfl) (hb hby d_prog_4_method_5_code_0)
  obtain ⟨xr_q1, xkr_q1, rfl, pq1_0, pq1_1, pq1_2, pq1_3⟩ := qq1
  have Nq1 := Fr.app N nq1
  have zq1 := pq1_1.1
  have Oq1 := O.keep pq1_1 all0
  have ltpq1_2 := lt_nat pq1_2.lt
  refine Goes.via stq1 ?_
  show Goes _ _ _ _ _ _ _ _ (Tq1.setTop (mkF m 3 #[.val (.ref sS), .unset, .unset, .unset, .unset] [(.ref xr_q1)]))
  refine Goes.via (fun _ k => XS.astoreN Xq1.here hx rfl (hb hby d_prog_4_method_5_code_3) rfl rfl (l' := #[.val (.ref sS), .val (.ref xr_q1), .unset, .unset, .unset]) rfl k) ?_
  show Goes _ _ _ _ _ _ _ _ (Tq1.setTop (mkF m 4 #[.val (.ref sS), .val (.ref xr_q1), .unset, .unset, .unset] []))
  refine Goes.via (fun _ k => XS.aloadN Xq1.here hx rfl (hb hby d_prog_4_method_5_code_4) rfl rfl k) ?_
  show Goes _ _ _ _ _ _ _ _ (Tq1.setTop (mkF m 5 #[.val (.ref sS), .val (.ref xr_q1), .unset, .unset, .unset] [(.ref xr_q1)]))
  obtain ⟨clq2, Arq2, -, Sq2, Nnq2, -, -⟩ := id pq1_3
  refine Goes.via (Xq1.arraylength hx Arq2.1 (State.isArrayOf_alike hZ.alike Arq2.2.1) (g := (mkF m 5 #[.val (.ref sS), .val (.ref xr_q1), .unset, .unset, .unset] [(.ref xr_q1)])) rfl rfl (hb hby d_prog_4_method_5_code_5)) ?_
  rw [len_of Sq2 Nnq2]
  show Goes _ _ _ _ _ _ _ _ (Tq1.setTop (mkF m 6 #[.val (.ref sS), .val (.ref xr_q1), .unset, .unset, .unset] [(.int (4 : Int32))]))
  refine Goes.via (fun _ k => XS.istoreN Xq1.here hx rfl (hb hby d_prog_4_method_5_code_6) rfl (l' := #[.val (.ref sS), .val (.ref xr_q1), .val (.int (4 : Int32)), .unset, .unset]) rfl k) ?_
  show Goes _ _ _ _ _ _ _ _ (Tq1.setTop (mkF m 7 #[.val (.ref sS), .val (.ref xr_q1), .val (.int (4 : Int32)), .unset, .unset] []))
  refine Goes.via (fun _ k => XT.iconstV Xq1.here hx rfl (0 : Int32) (hb hby d_prog_4_method_5_code_7) (by decide) k) ?_
  show Goes _ _ _ _ _ _ _ _ (Tq1.setTop (mkF m 8 #[.val (.ref sS), .val (.ref xr_q1), .val (.int (4 : Int32)), .unset, .unset] [(.int (0 : Int32))]))
  refine Goes.via (fun _ k => XS.istoreN Xq1.here hx rfl (hb hby d_prog_4_method_5_code_8) rfl (l' := #[.val (.ref sS), .val (.ref xr_q1), .val (.int (4 : Int32)), .val (.int (0 : Int32)), .unset]) rfl k) ?_
  show Goes _ _ _ _ _ _ _ _ (Tq1.setTop (mkF m 9 #[.val (.ref sS), .val (.ref xr_q1), .val (.int (4 : Int32)), .val (.int (0 : Int32)), .unset] []))
  refine Goes.via (fun _ k => XS.iloadN Xq1.here hx rfl (hb hby d_prog_4_method_5_code_9) rfl k) ?_
  show Goes _ _ _ _ _ _ _ _ (Tq1.setTop (mkF m 10 #[.val (.ref sS), .val (.ref xr_q1), .val (.int (4 : Int32)), .val (.int (0 : Int32)), .unset] [(.int (0 : Int32))]))
  refine Goes.via (fun _ k => XS.iloadN Xq1.here hx rfl (hb hby d_prog_4_method_5_code_10) rfl k) ?_
  show Goes _ _ _ _ _ _ _ _ (Tq1.setTop (mkF m 11 #[.val (.ref sS), .val (.ref xr_q1), .val (.int (4 : Int32)), .val (.int (0 : Int32)), .unset] [(.int (4 : Int32)), (.int (0 : Int32))]))
  refine Goes.via (fun _ k => XS.icmpNo Xq1.here hx rfl (hb hby d_prog_4_method_5_code_11) rfl (XT.ii_ge_f (by decide)) k) ?_
  show Goes _ _ _ _ _ _ _ _ (Tq1.setTop (mkF m 14 #[.val (.ref sS), .val (.ref xr_q1), .val (.int (4 : Int32)), .val (.int (0 : Int32)), .unset] []))
  refine Goes.via (fun _ k => XS.aloadN Xq1.here hx rfl (hb hby d_prog_4_method_5_code_14) rfl rfl k) ?_
  show Goes _ _ _ _ _ _ _ _ (Tq1.setTop (mkF m 15 #[.val (.ref sS), .val (.ref xr_q1), .val (.int (4 : Int32)), .val (.int (0 : Int32)), .unset] [(.ref xr_q1)]))
  refine Goes.via (fun _ k => XS.iloadN Xq1.here hx rfl (hb hby d_prog_4_method_5_code_15) rfl k) ?_
  show Goes _ _ _ _ _ _ _ _ (Tq1.setTop (mkF m 16 #[.val (.ref sS), .val (.ref xr_q1), .val (.int (4 : Int32)), .val (.int (0 : Int32)), .unset] [(.int (0 : Int32)), (.ref xr_q1)]))
  obtain ⟨clq3, Arq3, qq3, Sq3, Nnq3, Hq3, Gq3⟩ := id pq1_3
  have hinq3 : ¬ ((0 : Int32) < 0 ∨ clq3.slots.size ≤ ((0 : Int32)).toNatClampNeg) := inb_of Sq3 ⟨by decide, by decide⟩
  refine Goes.via (Xq1.aaload hx (j := (0 : Int32)) (v := (.ref t0)) Arq3.1 (State.isArrayOf_alike hZ.alike Arq3.2.1) rfl Arq3.2.2 hinq3 (Hq3.at hinq3 rfl) (g := (mkF m 16 #[.val (.ref sS), .val (.ref xr_q1), .val (.int (4 : Int32)), .val (.int (0 : Int32)), .unset] [(.int (0 : Int32)), (.ref xr_q1)])) rfl rfl (hb hby d_prog_4_method_5_code_16)) ?_
  show Goes _ _ _ _ _ _ _ _ (Tq1.setTop (mkF m 17 #[.val (.ref sS), .val (.ref xr_q1), .val (.int (4 : Int32)), .val (.int (0 : Int32)), .unset] [(.ref t0)]))
  refine Goes.via (fun _ k => XS.astore Xq1.here hx rfl (hb hby d_prog_4_method_5_code_17) rfl rfl (l' := #[.val (.ref sS), .val (.ref xr_q1), .val (.int (4 : Int32)), .val (.int (0 : Int32)), .val (.ref t0)]) rfl k) ?_
  show Goes _ _ _ _ _ _ _ _ (Tq1.setTop (mkF m 19 #[.val (.ref sS), .val (.ref xr_q1), .val (.int (4 : Int32)), .val (.int (0 : Int32)), .val (.ref t0)] []))
  refine Goes.via (fun _ k => XS.aload Xq1.here hx rfl (hb hby d_prog_4_method_5_code_19) rfl rfl k) ?_
  show Goes _ _ _ _ _ _ _ _ (Tq1.setTop (mkF m 21 #[.val (.ref sS), .val (.ref xr_q1), .val (.int (4 : Int32)), .val (.int (0 : Int32)), .val (.ref t0)] [(.ref t0)]))
  have fq5 : Fld Z Tq1.heap t0 "com/example/dispatch_note/dispatchnote/contract/ManagedMember" "memberName" "Ljava/lang/String;" (.ref u0) := (F0.ext Oq1.2)
  obtain ⟨Tq4, Xq4, eq4, stq4⟩ := getF Xq1 hx hZ hown (host := "") (Or.inl (W_73 hw)) Via.refl rfl fq5 (g := (mkF m 21 #[.val (.ref sS), .val (.ref xr_q1), .val (.int (4 : Int32)), .val (.int (0 : Int32)), .val (.ref t0)] [(.ref t0)])) rfl rfl (hb hby d_prog_4_method_5_code_21)
  refine Goes.via stq4 ?_
  show Goes _ _ _ _ _ _ _ _ (Tq4.setTop (mkF m 24 #[.val (.ref sS), .val (.ref xr_q1), .val (.int (4 : Int32)), .val (.int (0 : Int32)), .val (.ref t0)] [(.ref u0)]))
  refine Goes.via (fun _ k => XS.aloadN Xq4.here hx rfl (hb hby d_prog_4_method_5_code_24) rfl rfl k) ?_
  show Goes _ _ _ _ _ _ _ _ (Tq4.setTop (mkF m 25 #[.val (.ref sS), .val (.ref xr_q1), .val (.int (4 : Int32)), .val (.int (0 : Int32)), .val (.ref t0)] [(.ref sS), (.ref u0)]))
  have fq7 : Exa Z Tq1.heap u0 "java/lang/String" := (EU0.ext Oq1.2)
  have fq8 : Fld Z Tq1.heap u0 "java/lang/String" "value" "[B" (.ref y0) := (VU0.ext Oq1.2)
  have fq9 : Fld Z Tq1.heap u0 "java/lang/String" "coder" "B" (.int (0 : Int32)) := (CU0.ext Oq1.2)
  have fq10 : Arv Z Tq1.heap y0 ky0 .byte (2 : Int32) [(.int (105 : Int32)), (.int (100 : Int32))] (.int (0 : Int32)) := (AU0.ext Oq1.2)
  have fq11 : Exa Z Tq1.heap sS "java/lang/String" := (ES.keep pq1_1)
  have fq12 : Fld Z Tq1.heap sS "java/lang/String" "value" "[B" (.ref wS) := (VS.keep pq1_1 nin0)
  have fq13 : Fld Z Tq1.heap sS "java/lang/String" "coder" "B" (.int (0 : Int32)) := (CSS.keep pq1_1 nin0)
  have fq14 : Arv Z Tq1.heap wS kS .byte NS1 vS (.int (0 : Int32)) := (AS.keep pq1_1 nin0)
  have fq15 : Sta Z Tq1.heap "java/lang/String" "COMPACT_STRINGS" "Z" (.int cz) := (CS.ext Oq1.2)
  obtain ⟨vq6, Tq6, Lq6, Xq6, ⟨qq6, rfl, eq6⟩, stq6⟩ := callViB (Qb := fun v h' L => ((v = some (.int 1) ∧ LIT_0 = csS) ∨ (v = some (.int 0) ∧ ¬ LIT_0 = csS)) ∧ L = [] ∧ h' = Tq1.heap) Xq4 hx hZ hown (StrChars.Road.eqW (W := 0) hZ (hwEq hw) (kI := 4) (W_6 hw) fq7 fq8 fq9 fq10 codL_0 rgL_0 (Nat.le_of_ble_eq_true rfl) fq11 fq12 fq13 fq14 codS rgS lnS fq15 hcz (by decide) (by decide)) (W_75 hw) (W_38 hw) (notFace_of_selects (args := #[]) (mvT hZ (W_40 hw))) (W_40 hw) (W_39 hw) (by decide) eq4 fq7 (by decide) (by decide) (g := (mkF m 25 #[.val (.ref sS), .val (.ref xr_q1), .val (.int (4 : Int32)), .val (.int (0 : Int32)), .val (.ref t0)] [(.ref sS), (.ref u0)])) rfl (by rw [hml]; rfl) (a := u0) (argsL := [(.ref sS)]) (rest := []) rfl (lenOf pd_10 rfl) rfl (by show 2 * 0 + _ ≤ _; exact Nat.le_of_eq rfl) (hb hby d_prog_4_method_5_code_25)
  have Nq6 := Fr.app Nq1 (Fr.nil n0)
  obtain ⟨rfl, ccq6⟩ : vq6 = some (.int 0) ∧ ¬ LIT_0 = csS := qq6.resolve_left (fun z => (fun q => absurd (q.trans hq) (by decide)) z.2)
  refine Goes.via stq6 ?_
  show Goes _ _ _ _ _ _ _ _ (Tq6.setTop (mkF m 28 #[.val (.ref sS), .val (.ref xr_q1), .val (.int (4 : Int32)), .val (.int (0 : Int32)), .val (.ref t0)] [(.int (0 : Int32))]))
  refine Goes.via (fun _ k => XS.ifYes Xq6.here hx rfl (pc0 := 28) (pc' := 37) rfl (hb hby d_prog_4_method_5_code_28) rfl (XT.i0_eq_t (by decide)) (by decide) (by decide) k) ?_
  show Goes _ _ _ _ _ _ _ _ (Tq6.setTop (mkF m 37 #[.val (.ref sS), .val (.ref xr_q1), .val (.int (4 : Int32)), .val (.int (0 : Int32)), .val (.ref t0)] []))
  refine Goes.via (fun _ k => iincZ Xq6.here hx rfl (1 : Int32) (hb hby d_prog_4_method_5_code_37) (by decide) rfl (l' := #[.val (.ref sS), .val (.ref xr_q1), .val (.int (4 : Int32)), .val (.int (1 : Int32)), .val (.ref t0)]) rfl k) ?_
  show Goes _ _ _ _ _ _ _ _ (Tq6.setTop (mkF m 40 #[.val (.ref sS), .val (.ref xr_q1), .val (.int (4 : Int32)), .val (.int (1 : Int32)), .val (.ref t0)] []))
  refine Goes.via (fun _ k => XS.goto Xq6.here hx rfl (pc0 := 40) (pc' := 9) rfl (hb hby d_prog_4_method_5_code_40) (by decide) (by decide) k) ?_
  show Goes _ _ _ _ _ _ _ _ (Tq6.setTop (mkF m 9 #[.val (.ref sS), .val (.ref xr_q1), .val (.int (4 : Int32)), .val (.int (1 : Int32)), .val (.ref t0)] []))
  refine Goes.via (fun _ k => XS.iloadN Xq6.here hx rfl (hb hby d_prog_4_method_5_code_9) rfl k) ?_
  show Goes _ _ _ _ _ _ _ _ (Tq6.setTop (mkF m 10 #[.val (.ref sS), .val (.ref xr_q1), .val (.int (4 : Int32)), .val (.int (1 : Int32)), .val (.ref t0)] [(.int (1 : Int32))]))
  refine Goes.via (fun _ k => XS.iloadN Xq6.here hx rfl (hb hby d_prog_4_method_5_code_10) rfl k) ?_
  show Goes _ _ _ _ _ _ _ _ (Tq6.setTop (mkF m 11 #[.val (.ref sS), .val (.ref xr_q1), .val (.int (4 : Int32)), .val (.int (1 : Int32)), .val (.ref t0)] [(.int (4 : Int32)), (.int (1 : Int32))]))
  refine Goes.via (fun _ k => XS.icmpNo Xq6.here hx rfl (hb hby d_prog_4_method_5_code_11) rfl (XT.ii_ge_f (by decide)) k) ?_
  show Goes _ _ _ _ _ _ _ _ (Tq6.setTop (mkF m 14 #[.val (.ref sS), .val (.ref xr_q1), .val (.int (4 : Int32)), .val (.int (1 : Int32)), .val (.ref t0)] []))
  refine Goes.via (fun _ k => XS.aloadN Xq6.here hx rfl (hb hby d_prog_4_method_5_code_14) rfl rfl k) ?_
  show Goes _ _ _ _ _ _ _ _ (Tq6.setTop (mkF m 15 #[.val (.ref sS), .val (.ref xr_q1), .val (.int (4 : Int32)), .val (.int (1 : Int32)), .val (.ref t0)] [(.ref xr_q1)]))
  refine Goes.via (fun _ k => XS.iloadN Xq6.here hx rfl (hb hby d_prog_4_method_5_code_15) rfl k) ?_
  show Goes _ _ _ _ _ _ _ _ (Tq6.setTop (mkF m 16 #[.val (.ref sS), .val (.ref xr_q1), .val (.int (4 : Int32)), .val (.int (1 : Int32)), .val (.ref t0)] [(.int (1 : Int32)), (.ref xr_q1)]))
  obtain ⟨clq16, Arq16, qq16, Sq16, Nnq16, Hq16, Gq16⟩ := id pq1_3
  have hinq16 : ¬ ((1 : Int32) < 0 ∨ clq16.slots.size ≤ ((1 : Int32)).toNatClampNeg) := inb_of Sq16 ⟨by decide, by decide⟩
  refine Goes.via (Xq6.aaload hx (j := (1 : Int32)) (v := (.ref t1)) (by rw [eq6]; exact Arq16.1) (State.isArrayOf_alike hZ.alike Arq16.2.1) rfl Arq16.2.2 hinq16 (Hq16.at hinq16 rfl) (g := (mkF m 16 #[.val (.ref sS), .val (.ref xr_q1), .val (.int (4 : Int32)), .val (.int (1 : Int32)), .val (.ref t0)] [(.int (1 : Int32)), (.ref xr_q1)])) rfl rfl (hb hby d_prog_4_method_5_code_16)) ?_
  show Goes _ _ _ _ _ _ _ _ (Tq6.setTop (mkF m 17 #[.val (.ref sS), .val (.ref xr_q1), .val (.int (4 : Int32)), .val (.int (1 : Int32)), .val (.ref t0)] [(.ref t1)]))
  refine Goes.via (fun _ k => XS.astore Xq6.here hx rfl (hb hby d_prog_4_method_5_code_17) rfl rfl (l' := #[.val (.ref sS), .val (.ref xr_q1), .val (.int (4 : Int32)), .val (.int (1 : Int32)), .val (.ref t1)]) rfl k) ?_
  show Goes _ _ _ _ _ _ _ _ (Tq6.setTop (mkF m 19 #[.val (.ref sS), .val (.ref xr_q1), .val (.int (4 : Int32)), .val (.int (1 : Int32)), .val (.ref t1)] []))
  refine Goes.via (fun _ k => XS.aload Xq6.here hx rfl (hb hby d_prog_4_method_5_code_19) rfl rfl k) ?_
  show Goes _ _ _ _ _ _ _ _ (Tq6.setTop (mkF m 21 #[.val (.ref sS), .val (.ref xr_q1), .val (.int (4 : Int32)), .val (.int (1 : Int32)), .val (.ref t1)] [(.ref t1)]))
  have fq18 : Fld Z Tq1.heap t1 "com/example/dispatch_note/dispatchnote/contract/ManagedMember" "memberName" "Ljava/lang/String;" (.ref u1) := (F1.ext Oq1.2)
  obtain ⟨Tq17, Xq17, eq17, stq17⟩ := getF Xq6 hx hZ hown (host := "") (Or.inl (W_73 hw)) Via.refl eq6 fq18 (g := (mkF m 21 #[.val (.ref sS), .val (.ref xr_q1), .val (.int (4 : Int32)), .val (.int (1 : Int32)), .val (.ref t1)] [(.ref t1)])) rfl rfl (hb hby d_prog_4_method_5_code_21)
  refine Goes.via stq17 ?_
  show Goes _ _ _ _ _ _ _ _ (Tq17.setTop (mkF m 24 #[.val (.ref sS), .val (.ref xr_q1), .val (.int (4 : Int32)), .val (.int (1 : Int32)), .val (.ref t1)] [(.ref u1)]))
  refine Goes.via (fun _ k => XS.aloadN Xq17.here hx rfl (hb hby d_prog_4_method_5_code_24) rfl rfl k) ?_
  show Goes _ _ _ _ _ _ _ _ (Tq17.setTop (mkF m 25 #[.val (.ref sS), .val (.ref xr_q1), .val (.int (4 : Int32)), .val (.int (1 : Int32)), .val (.ref t1)] [(.ref sS), (.ref u1)]))
  have fq20 : Exa Z Tq1.heap u1 "java/lang/String" := (EU1.ext Oq1.2)
  have fq21 : Fld Z Tq1.heap u1 "java/lang/String" "value" "[B" (.ref y1) := (VU1.ext Oq1.2)
  have fq22 : Fld Z Tq1.heap u1 "java/lang/String" "coder" "B" (.int (0 : Int32)) := (CU1.ext Oq1.2)
  have fq23 : Arv Z Tq1.heap y1 ky1 .byte (7 : Int32) [(.int (118 : Int32)), (.int (101 : Int32)), (.int (114 : Int32)), (.int (115 : Int32)), (.int (105 : Int32)), (.int (111 : Int32)), (.int (110 : Int32))] (.int (0 : Int32)) := (AU1.ext Oq1.2)
  obtain ⟨vq19, Tq19, Lq19, Xq19, ⟨qq19, rfl, eq19⟩, stq19⟩ := callViB (Qb := fun v h' L => ((v = some (.int 1) ∧ LIT_1 = csS) ∨ (v = some (.int 0) ∧ ¬ LIT_1 = csS)) ∧ L = [] ∧ h' = Tq1.heap) Xq17 hx hZ hown (StrChars.Road.eqW (W := 0) hZ (hwEq hw) (kI := 4) (W_6 hw) fq20 fq21 fq22 fq23 codL_1 rgL_1 (Nat.le_of_ble_eq_true rfl) fq11 fq12 fq13 fq14 codS rgS lnS fq15 hcz (by decide) (by decide)) (W_75 hw) (W_38 hw) (notFace_of_selects (args := #[]) (mvT hZ (W_40 hw))) (W_40 hw) (W_39 hw) (by decide) eq17 fq20 (by decide) (by decide) (g := (mkF m 25 #[.val (.ref sS), .val (.ref xr_q1), .val (.int (4 : Int32)), .val (.int (1 : Int32)), .val (.ref t1)] [(.ref sS), (.ref u1)])) rfl (by rw [hml]; rfl) (a := u1) (argsL := [(.ref sS)]) (rest := []) rfl (lenOf pd_10 rfl) rfl (by show 2 * 0 + _ ≤ _; exact Nat.le_of_eq rfl) (hb hby d_prog_4_method_5_code_25)
  have Nq19 := Fr.app Nq6 (Fr.nil n0)
  obtain ⟨rfl, ccq19⟩ : vq19 = some (.int 1) ∧ LIT_1 = csS := qq19.resolve_right (fun z => z.2 hq.symm)
  refine Goes.via stq19 ?_
  show Goes _ _ _ _ _ _ _ _ (Tq19.setTop (mkF m 28 #[.val (.ref sS), .val (.ref xr_q1), .val (.int (4 : Int32)), .val (.int (1 : Int32)), .val (.ref t1)] [(.int (1 : Int32))]))
  refine Goes.via (fun _ k => XS.ifNo Xq19.here hx rfl (hb hby d_prog_4_method_5_code_28) rfl (XT.i0_eq_f (by decide)) k) ?_
  show Goes _ _ _ _ _ _ _ _ (Tq19.setTop (mkF m 31 #[.val (.ref sS), .val (.ref xr_q1), .val (.int (4 : Int32)), .val (.int (1 : Int32)), .val (.ref t1)] []))
  refine Goes.via (fun _ k => XS.aload Xq19.here hx rfl (hb hby d_prog_4_method_5_code_31) rfl rfl k) ?_
  show Goes _ _ _ _ _ _ _ _ (Tq19.setTop (mkF m 33 #[.val (.ref sS), .val (.ref xr_q1), .val (.int (4 : Int32)), .val (.int (1 : Int32)), .val (.ref t1)] [(.ref t1)]))
  obtain ⟨vq24, Tq24, Lq24, Xq24, qq24, nq24, stq24⟩ := callSt Xq19 hx hZ hown (optOf l Z aw hw t1 Oq1) (W_92 hw) (W_93 hw) (W_78 hw) (W_94 hw) (by decide) eq19 (by decide) (W := 0) (by decide) (by decide) (by decide) (g := (mkF m 33 #[.val (.ref sS), .val (.ref xr_q1), .val (.int (4 : Int32)), .val (.int (1 : Int32)), .val (.ref t1)] [(.ref t1)])) rfl (by rw [hml]; rfl) (argsL := [(.ref t1)]) (rest := []) rfl (lenOf pd_11 rfl) rfl (by show 2 * 0 + _ ≤ _; exact Nat.le_of_eq rfl) (hb hby d_prog_4_method_5_code_33)
  obtain ⟨xr_q24, rfl, pq24_0, pq24_1, pq24_2, pq24_3⟩ := qq24
  have Nq24 := Fr.app Nq19 nq24
  have zq24 := pq24_1.1
  have Oq24 := Oq1.keep pq24_1 all0
  have ltpq24_2 := lt_nat pq24_2.lt
  refine Goes.via stq24 ?_
  show Goes _ _ _ _ _ _ _ _ (Tq24.setTop (mkF m 36 #[.val (.ref sS), .val (.ref xr_q1), .val (.int (4 : Int32)), .val (.int (1 : Int32)), .val (.ref t1)] [(.ref xr_q24)]))
  refine goRetA Xq24 hx hrt rfl hlk Nq24 (by decide) (by decide) rfl (hb hby d_prog_4_method_5_code_36) ?_
  exact ⟨xr_q24, rfl, by omega, (((Keep.refl _ []).trans pq1_1 all0).trans pq24_1 all0), pq24_2, pq24_3⟩
theorem ef_named_2 (m : MethodId) (sS : Nat) : entryFrame m #[(.ref sS)] 5 = mkF m 0 #[.val (.ref sS), .unset, .unset, .unset, .unset] [] := by first | (simp [entryFrame, mkF, argsToLocals, Value.category]; done) | rfl
set_option maxRecDepth 65536 in
set_option maxHeartbeats 40000000 in
theorem named_2_c1 (l : Launch) (Z : State) (aw : Array Value) (hw : ∀ d ∈ tables_1, d.before aw Z = true) (sS : Nat) (wS : Nat) (kS : ClassId) (NS1 : Int32) (vS : List Value) (csS : List Int32) (ar : Nat) (kz0 : ClassId) (t0 : Nat) (t1 : Nat) (t2 : Nat) (t3 : Nat) (u0 : Nat) (y0 : Nat) (ky0 : ClassId) (u1 : Nat) (y1 : Nat) (ky1 : ClassId) (u2 : Nat) (y2 : Nat) (ky2 : ClassId) (u3 : Nat) (y3 : Nat) (ky3 : ClassId) (em : Nat) (cz : Int32) (xr_q1 : Nat) (xkr_q1 : ClassId) {p : Program} {e : Env} {s : State} {m : MethodId} {args : Array Value} {below : List Frame} {meth : Method} {c : Code} {T : State} {locs : List Loc} {cells slots n0 : Nat} {h0 h1 : Heap} (hx : p.tables.exec = Jvm.exec) (hby : c.code = prog_4_method_5_code) (hml : c.maxLocals = 5) (hrt : meth.sig.returnType = some (.object "java/util/Optional")) (hlk : meth.locks = false) (hnm : meth.name = "named") (hZ : Z.Warmed39 s.vm) (hown : s.vm.findClass "com/example/dispatch_note/dispatchnote/contract/ManagedMember" = some m.cls) (X : Stand p l e ({ frames := 3, cells := 2, slots := 8, locals := 50 } : Room) s m args below meth c T locs cells slots) (e0 : T.heap = h1) (N : Fr n0 locs) (hcells : cells ≤ 1) (hslots : slots ≤ 4) (O : Old Z n0 h1) (K0 : Keep h0 h1 []) (S0 : Sta Z Z.heap "com/example/dispatch_note/dispatchnote/contract/ManagedMember" "$VALUES" "[Lcom/example/dispatch_note/dispatchnote/contract/ManagedMember;" (.ref ar)) (V0 : Arv Z Z.heap ar kz0 (.object "com/example/dispatch_note/dispatchnote/contract/ManagedMember") (4 : Int32) [(.ref t0), (.ref t1), (.ref t2), (.ref t3)] .null) (E0 : Exa Z Z.heap ar "[Lcom/example/dispatch_note/dispatchnote/contract/ManagedMember;") (CS : Sta Z Z.heap "java/lang/String" "COMPACT_STRINGS" "Z" (.int cz)) (SE : Sta Z Z.heap "java/util/Optional" "EMPTY" "Ljava/util/Optional;" (.ref em)) (F0 : Fld Z Z.heap t0 "com/example/dispatch_note/dispatchnote/contract/ManagedMember" "memberName" "Ljava/lang/String;" (.ref u0)) (EU0 : Exa Z Z.heap u0 "java/lang/String") (CU0 : Fld Z Z.heap u0 "java/lang/String" "coder" "B" (.int (0 : Int32))) (VU0 : Fld Z Z.heap u0 "java/lang/String" "value" "[B" (.ref y0)) (AU0 : Arv Z Z.heap y0 ky0 .byte (2 : Int32) [(.int (105 : Int32)), (.int (100 : Int32))] (.int (0 : Int32))) (F1 : Fld Z Z.heap t1 "com/example/dispatch_note/dispatchnote/contract/ManagedMember" "memberName" "Ljava/lang/String;" (.ref u1)) (EU1 : Exa Z Z.heap u1 "java/lang/String") (CU1 : Fld Z Z.heap u1 "java/lang/String" "coder" "B" (.int (0 : Int32))) (VU1 : Fld Z Z.heap u1 "java/lang/String" "value" "[B" (.ref y1)) (AU1 : Arv Z Z.heap y1 ky1 .byte (7 : Int32) [(.int (118 : Int32)), (.int (101 : Int32)), (.int (114 : Int32)), (.int (115 : Int32)), (.int (105 : Int32)), (.int (111 : Int32)), (.int (110 : Int32))] (.int (0 : Int32))) (F2 : Fld Z Z.heap t2 "com/example/dispatch_note/dispatchnote/contract/ManagedMember" "memberName" "Ljava/lang/String;" (.ref u2)) (EU2 : Exa Z Z.heap u2 "java/lang/String") (CU2 : Fld Z Z.heap u2 "java/lang/String" "coder" "B" (.int (0 : Int32))) (VU2 : Fld Z Z.heap u2 "java/lang/String" "value" "[B" (.ref y2)) (AU2 : Arv Z Z.heap y2 ky2 .byte (9 : Int32) [(.int (99 : Int32)), (.int (114 : Int32)), (.int (101 : Int32)), (.int (97 : Int32)), (.int (116 : Int32)), (.int (101 : Int32)), (.int (100 : Int32)), (.int (65 : Int32)), (.int (116 : Int32))] (.int (0 : Int32))) (F3 : Fld Z Z.heap t3 "com/example/dispatch_note/dispatchnote/contract/ManagedMember" "memberName" "Ljava/lang/String;" (.ref u3)) (EU3 : Exa Z Z.heap u3 "java/lang/String") (CU3 : Fld Z Z.heap u3 "java/lang/String" "coder" "B" (.int (0 : Int32))) (VU3 : Fld Z Z.heap u3 "java/lang/String" "value" "[B" (.ref y3)) (AU3 : Arv Z Z.heap y3 ky3 .byte (9 : Int32) [(.int (117 : Int32)), (.int (112 : Int32)), (.int (100 : Int32)), (.int (97 : Int32)), (.int (116 : Int32)), (.int (101 : Int32)), (.int (100 : Int32)), (.int (65 : Int32)), (.int (116 : Int32))] (.int (0 : Int32))) (pf0 : Exa Z h1 sS "java/lang/String") (pf1 : Fld Z h1 sS "java/lang/String" "value" "[B" (.ref wS)) (pf2 : Fld Z h1 sS "java/lang/String" "coder" "B" (.int (0 : Int32))) (pf3 : Arv Z h1 wS kS .byte NS1 vS (.int (0 : Int32))) (pf4 : Exa Z h1 xr_q1 "[Lcom/example/dispatch_note/dispatchnote/contract/ManagedMember;") (pf5 : Arv Z h1 xr_q1 xkr_q1 (.object "com/example/dispatch_note/dispatchnote/contract/ManagedMember") (4 : Int32) [(.ref t0), (.ref t1), (.ref t2), (.ref t3)] .null) (hcz : ¬ cz = (0 : Int32)) (codS : StrChars.Road.CodA csS 0 NS1 vS) (rgS : ∀ c ∈ csS, ¬ c < 0 ∧ ¬ (65535 : Int32) < c) (lnS : csS.length ≤ 4000) (hq : csS = LIT_2) (cn1 : n0 ≤ xr_q1) (cn2 : h0.size ≤ xr_q1) (cn3 : sS < xr_q1) (cn4 : sS < h0.size) :
    Goes p e below s ({ frames := 3, cells := 2, slots := 8, locals := 50 } : Room).cells ({ frames := 3, cells := 2, slots := 8, locals := 50 } : Room).slots n0 (fun vv hh => ∃ r : Nat, vv = some (.ref r) ∧ h0.size ≤ r ∧ Keep h0 hh [] ∧ Exa Z hh r "java/util/Optional" ∧ Fld Z hh r "java/util/Optional" "value" "Ljava/lang/Object;" (.ref t2)) (T.setTop (mkF m 16 #[.val (.ref sS), .val (.ref xr_q1), .val (.int (4 : Int32)), .val (.int (2 : Int32)), .val (.ref t1)] [(.int (2 : Int32)), (.ref xr_q1)])) := by
  have zO := O.le
  have zK := K0.1
  have lt_sS := lt_nat pf0.lt
  have lt_wS := lt_nat pf3.lt
  have lt_xr_q1 := lt_nat pf4.lt
  show Goes _ _ _ _ _ _ _ _ (T.setTop (mkF m 16 #[.val (.ref sS), .val (.ref xr_q1), .val (.int (4 : Int32)), .val (.int (2 : Int32)), .val (.ref t1)] [(.int (2 : Int32)), (.ref xr_q1)]))
  obtain ⟨clq24, Arq24, qq24, Sq24, Nnq24, Hq24, Gq24⟩ := id pf5
  have hinq24 : ¬ ((2 : Int32) < 0 ∨ clq24.slots.size ≤ ((2 : Int32)).toNatClampNeg) := inb_of Sq24 ⟨by decide, by decide⟩
  refine Goes.via (X.aaload hx (j := (2 : Int32)) (v := (.ref t2)) (by rw [e0]; exact Arq24.1) (State.isArrayOf_alike hZ.alike Arq24.2.1) rfl Arq24.2.2 hinq24 (Hq24.at hinq24 rfl) (g := (mkF m 16 #[.val (.ref sS), .val (.ref xr_q1), .val (.int (4 : Int32)), .val (.int (2 : Int32)), .val (.ref t1)] [(.int (2 : Int32)), (.ref xr_q1)])) rfl rfl (hb hby d_prog_4_method_5_code_16)) ?_
  show Goes _ _ _ _ _ _ _ _ (T.setTop (mkF m 17 #[.val (.ref sS), .val (.ref xr_q1), .val (.int (4 : Int32)), .val (.int (2 : Int32)), .val (.ref t1)] [(.ref t2)]))
  refine Goes.via (fun _ k => XS.astore X.here hx rfl (hb hby d_prog_4_method_5_code_17) rfl rfl (l' := #[.val (.ref sS), .val (.ref xr_q1), .val (.int (4 : Int32)), .val (.int (2 : Int32)), .val (.ref t2)]) rfl k) ?_
  show Goes _ _ _ _ _ _ _ _ (T.setTop (mkF m 19 #[.val (.ref sS), .val (.ref xr_q1), .val (.int (4 : Int32)), .val (.int (2 : Int32)), .val (.ref t2)] []))
  refine Goes.via (fun _ k => XS.aload X.here hx rfl (hb hby d_prog_4_method_5_code_19) rfl rfl k) ?_
  show Goes _ _ _ _ _ _ _ _ (T.setTop (mkF m 21 #[.val (.ref sS), .val (.ref xr_q1), .val (.int (4 : Int32)), .val (.int (2 : Int32)), .val (.ref t2)] [(.ref t2)]))
  have fq26 : Fld Z h1 t2 "com/example/dispatch_note/dispatchnote/contract/ManagedMember" "memberName" "Ljava/lang/String;" (.ref u2) := (F2.ext O.2)
  obtain ⟨Tq25, Xq25, eq25, stq25⟩ := getF X hx hZ hown (host := "") (Or.inl (W_73 hw)) Via.refl e0 fq26 (g := (mkF m 21 #[.val (.ref sS), .val (.ref xr_q1), .val (.int (4 : Int32)), .val (.int (2 : Int32)), .val (.ref t2)] [(.ref t2)])) rfl rfl (hb hby d_prog_4_method_5_code_21)
  refine Goes.via stq25 ?_
  show Goes _ _ _ _ _ _ _ _ (Tq25.setTop (mkF m 24 #[.val (.ref sS), .val (.ref xr_q1), .val (.int (4 : Int32)), .val (.int (2 : Int32)), .val (.ref t2)] [(.ref u2)]))
  refine Goes.via (fun _ k => XS.aloadN Xq25.here hx rfl (hb hby d_prog_4_method_5_code_24) rfl rfl k) ?_
  show Goes _ _ _ _ _ _ _ _ (Tq25.setTop (mkF m 25 #[.val (.ref sS), .val (.ref xr_q1), .val (.int (4 : Int32)), .val (.int (2 : Int32)), .val (.ref t2)] [(.ref sS), (.ref u2)]))
  have fq28 : Exa Z h1 u2 "java/lang/String" := (EU2.ext O.2)
  have fq29 : Fld Z h1 u2 "java/lang/String" "value" "[B" (.ref y2) := (VU2.ext O.2)
  have fq30 : Fld Z h1 u2 "java/lang/String" "coder" "B" (.int (0 : Int32)) := (CU2.ext O.2)
  have fq31 : Arv Z h1 y2 ky2 .byte (9 : Int32) [(.int (99 : Int32)), (.int (114 : Int32)), (.int (101 : Int32)), (.int (97 : Int32)), (.int (116 : Int32)), (.int (101 : Int32)), (.int (100 : Int32)), (.int (65 : Int32)), (.int (116 : Int32))] (.int (0 : Int32)) := (AU2.ext O.2)
  have fq32 : Sta Z h1 "java/lang/String" "COMPACT_STRINGS" "Z" (.int cz) := (CS.ext O.2)
  obtain ⟨vq27, Tq27, Lq27, Xq27, ⟨qq27, rfl, eq27⟩, stq27⟩ := callViB (Qb := fun v h' L => ((v = some (.int 1) ∧ LIT_2 = csS) ∨ (v = some (.int 0) ∧ ¬ LIT_2 = csS)) ∧ L = [] ∧ h' = h1) Xq25 hx hZ hown (StrChars.Road.eqW (W := 0) hZ (hwEq hw) (kI := 4) (W_6 hw) fq28 fq29 fq30 fq31 codL_2 rgL_2 (Nat.le_of_ble_eq_true rfl) pf0 pf1 pf2 pf3 codS rgS lnS fq32 hcz (by decide) (by decide)) (W_75 hw) (W_38 hw) (notFace_of_selects (args := #[]) (mvT hZ (W_40 hw))) (W_40 hw) (W_39 hw) (by decide) eq25 fq28 (by show _ + 0 ≤ 2; omega) (by show _ + 0 ≤ 8; omega) (g := (mkF m 25 #[.val (.ref sS), .val (.ref xr_q1), .val (.int (4 : Int32)), .val (.int (2 : Int32)), .val (.ref t2)] [(.ref sS), (.ref u2)])) rfl (by rw [hml]; rfl) (a := u2) (argsL := [(.ref sS)]) (rest := []) rfl (lenOf pd_10 rfl) rfl (by show 2 * 0 + _ ≤ _; exact Nat.le_of_eq rfl) (hb hby d_prog_4_method_5_code_25)
  have Nq27 := Fr.app N (Fr.nil n0)
  obtain ⟨rfl, ccq27⟩ : vq27 = some (.int 1) ∧ LIT_2 = csS := qq27.resolve_right (fun z => z.2 hq.symm)
  refine Goes.via stq27 ?_
  show Goes _ _ _ _ _ _ _ _ (Tq27.setTop (mkF m 28 #[.val (.ref sS), .val (.ref xr_q1), .val (.int (4 : Int32)), .val (.int (2 : Int32)), .val (.ref t2)] [(.int (1 : Int32))]))
  refine Goes.via (fun _ k => XS.ifNo Xq27.here hx rfl (hb hby d_prog_4_method_5_code_28) rfl (XT.i0_eq_f (by decide)) k) ?_
  show Goes _ _ _ _ _ _ _ _ (Tq27.setTop (mkF m 31 #[.val (.ref sS), .val (.ref xr_q1), .val (.int (4 : Int32)), .val (.int (2 : Int32)), .val (.ref t2)] []))
  refine Goes.via (fun _ k => XS.aload Xq27.here hx rfl (hb hby d_prog_4_method_5_code_31) rfl rfl k) ?_
  show Goes _ _ _ _ _ _ _ _ (Tq27.setTop (mkF m 33 #[.val (.ref sS), .val (.ref xr_q1), .val (.int (4 : Int32)), .val (.int (2 : Int32)), .val (.ref t2)] [(.ref t2)]))
  obtain ⟨vq33, Tq33, Lq33, Xq33, qq33, nq33, stq33⟩ := callSt Xq27 hx hZ hown (optOf l Z aw hw t2 O) (W_92 hw) (W_93 hw) (W_78 hw) (W_94 hw) (by decide) eq27 (by decide) (W := 0) (by decide) (by show _ + 1 ≤ 2; omega) (by show _ + 1 ≤ 8; omega) (g := (mkF m 33 #[.val (.ref sS), .val (.ref xr_q1), .val (.int (4 : Int32)), .val (.int (2 : Int32)), .val (.ref t2)] [(.ref t2)])) rfl (by rw [hml]; rfl) (argsL := [(.ref t2)]) (rest := []) rfl (lenOf pd_11 rfl) rfl (by show 2 * 0 + _ ≤ _; exact Nat.le_of_eq rfl) (hb hby d_prog_4_method_5_code_33)
  dsimp only at Xq33
  obtain ⟨xr_q33, rfl, pq33_0, pq33_1, pq33_2, pq33_3⟩ := qq33
  have Nq33 := Fr.app Nq27 nq33
  have zq33 := pq33_1.1
  have Oq33 := O.keep pq33_1 all0
  have ltpq33_2 := lt_nat pq33_2.lt
  refine Goes.via stq33 ?_
  show Goes _ _ _ _ _ _ _ _ (Tq33.setTop (mkF m 36 #[.val (.ref sS), .val (.ref xr_q1), .val (.int (4 : Int32)), .val (.int (2 : Int32)), .val (.ref t2)] [(.ref xr_q33)]))
  refine goRetA Xq33 hx hrt rfl hlk Nq33 (by show _ ≤ 2; omega) (by show _ ≤ 8; omega) rfl (hb hby d_prog_4_method_5_code_36) ?_
  exact ⟨xr_q33, rfl, by omega, (K0.trans pq33_1 all0), pq33_2, pq33_3⟩
set_option maxRecDepth 65536 in
set_option maxHeartbeats 40000000 in
theorem named_2 (l : Launch) (Z : State) (aw : Array Value) (hw : ∀ d ∈ tables_1, d.before aw Z = true) (sS : Nat) (wS : Nat) (kS : ClassId) (NS1 : Int32) (vS : List Value) (csS : List Int32) (ar : Nat) (kz0 : ClassId) (t0 : Nat) (t1 : Nat) (t2 : Nat) (t3 : Nat) (u0 : Nat) (y0 : Nat) (ky0 : ClassId) (u1 : Nat) (y1 : Nat) (ky1 : ClassId) (u2 : Nat) (y2 : Nat) (ky2 : ClassId) (u3 : Nat) (y3 : Nat) (ky3 : ClassId) (em : Nat) (cz : Int32) {h0 : Heap} {n0 : Nat} (O : Old Z n0 h0) (S0 : Sta Z Z.heap "com/example/dispatch_note/dispatchnote/contract/ManagedMember" "$VALUES" "[Lcom/example/dispatch_note/dispatchnote/contract/ManagedMember;" (.ref ar)) (V0 : Arv Z Z.heap ar kz0 (.object "com/example/dispatch_note/dispatchnote/contract/ManagedMember") (4 : Int32) [(.ref t0), (.ref t1), (.ref t2), (.ref t3)] .null) (E0 : Exa Z Z.heap ar "[Lcom/example/dispatch_note/dispatchnote/contract/ManagedMember;") (CS : Sta Z Z.heap "java/lang/String" "COMPACT_STRINGS" "Z" (.int cz)) (SE : Sta Z Z.heap "java/util/Optional" "EMPTY" "Ljava/util/Optional;" (.ref em)) (F0 : Fld Z Z.heap t0 "com/example/dispatch_note/dispatchnote/contract/ManagedMember" "memberName" "Ljava/lang/String;" (.ref u0)) (EU0 : Exa Z Z.heap u0 "java/lang/String") (CU0 : Fld Z Z.heap u0 "java/lang/String" "coder" "B" (.int (0 : Int32))) (VU0 : Fld Z Z.heap u0 "java/lang/String" "value" "[B" (.ref y0)) (AU0 : Arv Z Z.heap y0 ky0 .byte (2 : Int32) [(.int (105 : Int32)), (.int (100 : Int32))] (.int (0 : Int32))) (F1 : Fld Z Z.heap t1 "com/example/dispatch_note/dispatchnote/contract/ManagedMember" "memberName" "Ljava/lang/String;" (.ref u1)) (EU1 : Exa Z Z.heap u1 "java/lang/String") (CU1 : Fld Z Z.heap u1 "java/lang/String" "coder" "B" (.int (0 : Int32))) (VU1 : Fld Z Z.heap u1 "java/lang/String" "value" "[B" (.ref y1)) (AU1 : Arv Z Z.heap y1 ky1 .byte (7 : Int32) [(.int (118 : Int32)), (.int (101 : Int32)), (.int (114 : Int32)), (.int (115 : Int32)), (.int (105 : Int32)), (.int (111 : Int32)), (.int (110 : Int32))] (.int (0 : Int32))) (F2 : Fld Z Z.heap t2 "com/example/dispatch_note/dispatchnote/contract/ManagedMember" "memberName" "Ljava/lang/String;" (.ref u2)) (EU2 : Exa Z Z.heap u2 "java/lang/String") (CU2 : Fld Z Z.heap u2 "java/lang/String" "coder" "B" (.int (0 : Int32))) (VU2 : Fld Z Z.heap u2 "java/lang/String" "value" "[B" (.ref y2)) (AU2 : Arv Z Z.heap y2 ky2 .byte (9 : Int32) [(.int (99 : Int32)), (.int (114 : Int32)), (.int (101 : Int32)), (.int (97 : Int32)), (.int (116 : Int32)), (.int (101 : Int32)), (.int (100 : Int32)), (.int (65 : Int32)), (.int (116 : Int32))] (.int (0 : Int32))) (F3 : Fld Z Z.heap t3 "com/example/dispatch_note/dispatchnote/contract/ManagedMember" "memberName" "Ljava/lang/String;" (.ref u3)) (EU3 : Exa Z Z.heap u3 "java/lang/String") (CU3 : Fld Z Z.heap u3 "java/lang/String" "coder" "B" (.int (0 : Int32))) (VU3 : Fld Z Z.heap u3 "java/lang/String" "value" "[B" (.ref y3)) (AU3 : Arv Z Z.heap y3 ky3 .byte (9 : Int32) [(.int (117 : Int32)), (.int (112 : Int32)), (.int (100 : Int32)), (.int (97 : Int32)), (.int (116 : Int32)), (.int (101 : Int32)), (.int (100 : Int32)), (.int (65 : Int32)), (.int (116 : Int32))] (.int (0 : Int32))) (ES : Exa Z h0 sS "java/lang/String") (VS : Fld Z h0 sS "java/lang/String" "value" "[B" (.ref wS)) (CSS : Fld Z h0 sS "java/lang/String" "coder" "B" (.int (0 : Int32))) (AS : Arv Z h0 wS kS .byte NS1 vS (.int (0 : Int32))) (hcz : ¬ cz = (0 : Int32)) (codS : StrChars.Road.CodA csS 0 NS1 vS) (rgS : ∀ c ∈ csS, ¬ c < 0 ∧ ¬ (65535 : Int32) < c) (lnS : csS.length ≤ 4000) (hq : csS = LIT_2) :
    MET l Z (⟨"com/example/dispatch_note/dispatchnote/contract/ManagedMember", "named", "(Ljava/lang/String;)Ljava/util/Optional;"⟩ : MethodName) prog_4_method_5_code 5 (some (.object "java/util/Optional")) ({ frames := 3, cells := 2, slots := 8, locals := 50 } : Room) #[(.ref sS)] h0 n0 (fun vv hh => ∃ r : Nat, vv = some (.ref r) ∧ h0.size ≤ r ∧ Keep h0 hh [] ∧ Exa Z hh r "java/util/Optional" ∧ Fld Z hh r "java/util/Optional" "value" "Ljava/lang/Object;" (.ref t2)) := by
  refine metOf (plainFor_of_name pn_8) ?_
  intro p e s m below meth c T hx hby hml hrt hlk hnm hZ hown X e0
  replace hml : c.maxLocals = 5 := hml
  replace hnm : meth.name = "named" := hnm
  replace hown : s.vm.findClass "com/example/dispatch_note/dispatchnote/contract/ManagedMember" = some m.cls := hown
  have N := Fr.nil n0
  have zO := O.le
  refine goCast (ef_named_2 m sS) ?_
  have lt_sS := lt_nat ES.lt
  have lt_wS := lt_nat AS.lt
  show Goes _ _ _ _ _ _ _ _ (T.setTop (mkF m 0 #[.val (.ref sS), .unset, .unset, .unset, .unset] []))
  obtain ⟨vq1, Tq1, Lq1, Xq1, qq1, nq1, stq1⟩ := callSt X hx hZ hown (vals l Z aw hw ar kz0 t0 t1 t2 t3 O S0 V0 E0) (W_54 hw) (W_55 hw) (W_52 hw) (W_56 hw) (by decide) e0 (by decide) (W := 0) (by decide) (by decide) (by decide) (g := (mkF m 0 #[.val (.ref sS), .unset, .unset, .unset, .unset] [])) rfl (by rw [hml]; rfl) (argsL := []) (rest := []) rfl (lenOf pd_9 rfl) rfl (by show 2 * 0 + _ ≤ _; exact Nat.le_of_eq rfl) (hb hby d_prog_4_method_5_code_0)
  obtain ⟨xr_q1, xkr_q1, rfl, pq1_0, pq1_1, pq1_2, pq1_3⟩ := qq1
  have Nq1 := Fr.app N nq1
  have zq1 := pq1_1.1
  have Oq1 := O.keep pq1_1 all0
  have ltpq1_2 := lt_nat pq1_2.lt
  refine Goes.via stq1 ?_
  show Goes _ _ _ _ _ _ _ _ (Tq1.setTop (mkF m 3 #[.val (.ref sS), .unset, .unset, .unset, .unset] [(.ref xr_q1)]))
  refine Goes.via (fun _ k => XS.astoreN Xq1.here hx rfl (hb hby d_prog_4_method_5_code_3) rfl rfl (l' := #[.val (.ref sS), .val (.ref xr_q1), .unset, .unset, .unset]) rfl k) ?_
  show Goes _ _ _ _ _ _ _ _ (Tq1.setTop (mkF m 4 #[.val (.ref sS), .val (.ref xr_q1), .unset, .unset, .unset] []))
  refine Goes.via (fun _ k => XS.aloadN Xq1.here hx rfl (hb hby d_prog_4_method_5_code_4) rfl rfl k) ?_
  show Goes _ _ _ _ _ _ _ _ (Tq1.setTop (mkF m 5 #[.val (.ref sS), .val (.ref xr_q1), .unset, .unset, .unset] [(.ref xr_q1)]))
  obtain ⟨clq2, Arq2, -, Sq2, Nnq2, -, -⟩ := id pq1_3
  refine Goes.via (Xq1.arraylength hx Arq2.1 (State.isArrayOf_alike hZ.alike Arq2.2.1) (g := (mkF m 5 #[.val (.ref sS), .val (.ref xr_q1), .unset, .unset, .unset] [(.ref xr_q1)])) rfl rfl (hb hby d_prog_4_method_5_code_5)) ?_
  rw [len_of Sq2 Nnq2]
  show Goes _ _ _ _ _ _ _ _ (Tq1.setTop (mkF m 6 #[.val (.ref sS), .val (.ref xr_q1), .unset, .unset, .unset] [(.int (4 : Int32))]))
  refine Goes.via (fun _ k => XS.istoreN Xq1.here hx rfl (hb hby d_prog_4_method_5_code_6) rfl (l' := #[.val (.ref sS), .val (.ref xr_q1), .val (.int (4 : Int32)), .unset, .unset]) rfl k) ?_
  show Goes _ _ _ _ _ _ _ _ (Tq1.setTop (mkF m 7 #[.val (.ref sS), .val (.ref xr_q1), .val (.int (4 : Int32)), .unset, .unset] []))
  refine Goes.via (fun _ k => XT.iconstV Xq1.here hx rfl (0 : Int32) (hb hby d_prog_4_method_5_code_7) (by decide) k) ?_
  show Goes _ _ _ _ _ _ _ _ (Tq1.setTop (mkF m 8 #[.val (.ref sS), .val (.ref xr_q1), .val (.int (4 : Int32)), .unset, .unset] [(.int (0 : Int32))]))
  refine Goes.via (fun _ k => XS.istoreN Xq1.here hx rfl (hb hby d_prog_4_method_5_code_8) rfl (l' := #[.val (.ref sS), .val (.ref xr_q1), .val (.int (4 : Int32)), .val (.int (0 : Int32)), .unset]) rfl k) ?_
  show Goes _ _ _ _ _ _ _ _ (Tq1.setTop (mkF m 9 #[.val (.ref sS), .val (.ref xr_q1), .val (.int (4 : Int32)), .val (.int (0 : Int32)), .unset] []))
  refine Goes.via (fun _ k => XS.iloadN Xq1.here hx rfl (hb hby d_prog_4_method_5_code_9) rfl k) ?_
  show Goes _ _ _ _ _ _ _ _ (Tq1.setTop (mkF m 10 #[.val (.ref sS), .val (.ref xr_q1), .val (.int (4 : Int32)), .val (.int (0 : Int32)), .unset] [(.int (0 : Int32))]))
  refine Goes.via (fun _ k => XS.iloadN Xq1.here hx rfl (hb hby d_prog_4_method_5_code_10) rfl k) ?_
  show Goes _ _ _ _ _ _ _ _ (Tq1.setTop (mkF m 11 #[.val (.ref sS), .val (.ref xr_q1), .val (.int (4 : Int32)), .val (.int (0 : Int32)), .unset] [(.int (4 : Int32)), (.int (0 : Int32))]))
  refine Goes.via (fun _ k => XS.icmpNo Xq1.here hx rfl (hb hby d_prog_4_method_5_code_11) rfl (XT.ii_ge_f (by decide)) k) ?_
  show Goes _ _ _ _ _ _ _ _ (Tq1.setTop (mkF m 14 #[.val (.ref sS), .val (.ref xr_q1), .val (.int (4 : Int32)), .val (.int (0 : Int32)), .unset] []))
  refine Goes.via (fun _ k => XS.aloadN Xq1.here hx rfl (hb hby d_prog_4_method_5_code_14) rfl rfl k) ?_
  show Goes _ _ _ _ _ _ _ _ (Tq1.setTop (mkF m 15 #[.val (.ref sS), .val (.ref xr_q1), .val (.int (4 : Int32)), .val (.int (0 : Int32)), .unset] [(.ref xr_q1)]))
  refine Goes.via (fun _ k => XS.iloadN Xq1.here hx rfl (hb hby d_prog_4_method_5_code_15) rfl k) ?_
  show Goes _ _ _ _ _ _ _ _ (Tq1.setTop (mkF m 16 #[.val (.ref sS), .val (.ref xr_q1), .val (.int (4 : Int32)), .val (.int (0 : Int32)), .unset] [(.int (0 : Int32)), (.ref xr_q1)]))
  obtain ⟨clq3, Arq3, qq3, Sq3, Nnq3, Hq3, Gq3⟩ := id pq1_3
  have hinq3 : ¬ ((0 : Int32) < 0 ∨ clq3.slots.size ≤ ((0 : Int32)).toNatClampNeg) := inb_of Sq3 ⟨by decide, by decide⟩
  refine Goes.via (Xq1.aaload hx (j := (0 : Int32)) (v := (.ref t0)) Arq3.1 (State.isArrayOf_alike hZ.alike Arq3.2.1) rfl Arq3.2.2 hinq3 (Hq3.at hinq3 rfl) (g := (mkF m 16 #[.val (.ref sS), .val (.ref xr_q1), .val (.int (4 : Int32)), .val (.int (0 : Int32)), .unset] [(.int (0 : Int32)), (.ref xr_q1)])) rfl rfl (hb hby d_prog_4_method_5_code_16)) ?_
  show Goes _ _ _ _ _ _ _ _ (Tq1.setTop (mkF m 17 #[.val (.ref sS), .val (.ref xr_q1), .val (.int (4 : Int32)), .val (.int (0 : Int32)), .unset] [(.ref t0)]))
  refine Goes.via (fun _ k => XS.astore Xq1.here hx rfl (hb hby d_prog_4_method_5_code_17) rfl rfl (l' := #[.val (.ref sS), .val (.ref xr_q1), .val (.int (4 : Int32)), .val (.int (0 : Int32)), .val (.ref t0)]) rfl k) ?_
  show Goes _ _ _ _ _ _ _ _ (Tq1.setTop (mkF m 19 #[.val (.ref sS), .val (.ref xr_q1), .val (.int (4 : Int32)), .val (.int (0 : Int32)), .val (.ref t0)] []))
  refine Goes.via (fun _ k => XS.aload Xq1.here hx rfl (hb hby d_prog_4_method_5_code_19) rfl rfl k) ?_
  show Goes _ _ _ _ _ _ _ _ (Tq1.setTop (mkF m 21 #[.val (.ref sS), .val (.ref xr_q1), .val (.int (4 : Int32)), .val (.int (0 : Int32)), .val (.ref t0)] [(.ref t0)]))
  have fq5 : Fld Z Tq1.heap t0 "com/example/dispatch_note/dispatchnote/contract/ManagedMember" "memberName" "Ljava/lang/String;" (.ref u0) := (F0.ext Oq1.2)
  obtain ⟨Tq4, Xq4, eq4, stq4⟩ := getF Xq1 hx hZ hown (host := "") (Or.inl (W_73 hw)) Via.refl rfl fq5 (g := (mkF m 21 #[.val (.ref sS), .val (.ref xr_q1), .val (.int (4 : Int32)), .val (.int (0 : Int32)), .val (.ref t0)] [(.ref t0)])) rfl rfl (hb hby d_prog_4_method_5_code_21)
  refine Goes.via stq4 ?_
  show Goes _ _ _ _ _ _ _ _ (Tq4.setTop (mkF m 24 #[.val (.ref sS), .val (.ref xr_q1), .val (.int (4 : Int32)), .val (.int (0 : Int32)), .val (.ref t0)] [(.ref u0)]))
  refine Goes.via (fun _ k => XS.aloadN Xq4.here hx rfl (hb hby d_prog_4_method_5_code_24) rfl rfl k) ?_
  show Goes _ _ _ _ _ _ _ _ (Tq4.setTop (mkF m 25 #[.val (.ref sS), .val (.ref xr_q1), .val (.int (4 : Int32)), .val (.int (0 : Int32)), .val (.ref t0)] [(.ref sS), (.ref u0)]))
  have fq7 : Exa Z Tq1.heap u0 "java/lang/String" := (EU0.ext Oq1.2)
  have fq8 : Fld Z Tq1.heap u0 "java/lang/String" "value" "[B" (.ref y0) := (VU0.ext Oq1.2)
  have fq9 : Fld Z Tq1.heap u0 "java/lang/String" "coder" "B" (.int (0 : Int32)) := (CU0.ext Oq1.2)
  have fq10 : Arv Z Tq1.heap y0 ky0 .byte (2 : Int32) [(.int (105 : Int32)), (.int (100 : Int32))] (.int (0 : Int32)) := (AU0.ext Oq1.2)
  have fq11 : Exa Z Tq1.heap sS "java/lang/String" := (ES.keep pq1_1)
  have fq12 : Fld Z Tq1.heap sS "java/lang/String" "value" "[B" (.ref wS) := (VS.keep pq1_1 nin0)
  have fq13 : Fld Z Tq1.heap sS "java/lang/String" "coder" "B" (.int (0 : Int32)) := (CSS.keep pq1_1 nin0)
  have fq14 : Arv Z Tq1.heap wS kS .byte NS1 vS (.int (0 : Int32)) := (AS.keep pq1_1 nin0)
  have fq15 : Sta Z Tq1.heap "java/lang/String" "COMPACT_STRINGS" "Z" (.int cz) := (CS.ext Oq1.2)
  obtain ⟨vq6, Tq6, Lq6, Xq6, ⟨qq6, rfl, eq6⟩, stq6⟩ := callViB (Qb := fun v h' L => ((v = some (.int 1) ∧ LIT_0 = csS) ∨ (v = some (.int 0) ∧ ¬ LIT_0 = csS)) ∧ L = [] ∧ h' = Tq1.heap) Xq4 hx hZ hown (StrChars.Road.eqW (W := 0) hZ (hwEq hw) (kI := 4) (W_6 hw) fq7 fq8 fq9 fq10 codL_0 rgL_0 (Nat.le_of_ble_eq_true rfl) fq11 fq12 fq13 fq14 codS rgS lnS fq15 hcz (by decide) (by decide)) (W_75 hw) (W_38 hw) (notFace_of_selects (args := #[]) (mvT hZ (W_40 hw))) (W_40 hw) (W_39 hw) (by decide) eq4 fq7 (by decide) (by decide) (g := (mkF m 25 #[.val (.ref sS), .val (.ref xr_q1), .val (.int (4 : Int32)), .val (.int (0 : Int32)), .val (.ref t0)] [(.ref sS), (.ref u0)])) rfl (by rw [hml]; rfl) (a := u0) (argsL := [(.ref sS)]) (rest := []) rfl (lenOf pd_10 rfl) rfl (by show 2 * 0 + _ ≤ _; exact Nat.le_of_eq rfl) (hb hby d_prog_4_method_5_code_25)
  have Nq6 := Fr.app Nq1 (Fr.nil n0)
  obtain ⟨rfl, ccq6⟩ : vq6 = some (.int 0) ∧ ¬ LIT_0 = csS := qq6.resolve_left (fun z => (fun q => absurd (q.trans hq) (by decide)) z.2)
  refine Goes.via stq6 ?_
  show Goes _ _ _ _ _ _ _ _ (Tq6.setTop (mkF m 28 #[.val (.ref sS), .val (.ref xr_q1), .val (.int (4 : Int32)), .val (.int (0 : Int32)), .val (.ref t0)] [(.int (0 : Int32))]))
  refine Goes.via (fun _ k => XS.ifYes Xq6.here hx rfl (pc0 := 28) (pc' := 37) rfl (hb hby d_prog_4_method_5_code_28) rfl (XT.i0_eq_t (by decide)) (by decide) (by decide) k) ?_
  show Goes _ _ _ _ _ _ _ _ (Tq6.setTop (mkF m 37 #[.val (.ref sS), .val (.ref xr_q1), .val (.int (4 : Int32)), .val (.int (0 : Int32)), .val (.ref t0)] []))
  refine Goes.via (fun _ k => iincZ Xq6.here hx rfl (1 : Int32) (hb hby d_prog_4_method_5_code_37) (by decide) rfl (l' := #[.val (.ref sS), .val (.ref xr_q1), .val (.int (4 : Int32)), .val (.int (1 : Int32)), .val (.ref t0)]) rfl k) ?_
  show Goes _ _ _ _ _ _ _ _ (Tq6.setTop (mkF m 40 #[.val (.ref sS), .val (.ref xr_q1), .val (.int (4 : Int32)), .val (.int (1 : Int32)), .val (.ref t0)] []))
  refine Goes.via (fun _ k => XS.goto Xq6.here hx rfl (pc0 := 40) (pc' := 9) rfl (hb hby d_prog_4_method_5_code_40) (by decide) (by decide) k) ?_
  show Goes _ _ _ _ _ _ _ _ (Tq6.setTop (mkF m 9 #[.val (.ref sS), .val (.ref xr_q1), .val (.int (4 : Int32)), .val (.int (1 : Int32)), .val (.ref t0)] []))
  refine Goes.via (fun _ k => XS.iloadN Xq6.here hx rfl (hb hby d_prog_4_method_5_code_9) rfl k) ?_
  show Goes _ _ _ _ _ _ _ _ (Tq6.setTop (mkF m 10 #[.val (.ref sS), .val (.ref xr_q1), .val (.int (4 : Int32)), .val (.int (1 : Int32)), .val (.ref t0)] [(.int (1 : Int32))]))
  refine Goes.via (fun _ k => XS.iloadN Xq6.here hx rfl (hb hby d_prog_4_method_5_code_10) rfl k) ?_
  show Goes _ _ _ _ _ _ _ _ (Tq6.setTop (mkF m 11 #[.val (.ref sS), .val (.ref xr_q1), .val (.int (4 : Int32)), .val (.int (1 : Int32)), .val (.ref t0)] [(.int (4 : Int32)), (.int (1 : Int32))]))
  refine Goes.via (fun _ k => XS.icmpNo Xq6.here hx rfl (hb hby d_prog_4_method_5_code_11) rfl (XT.ii_ge_f (by decide)) k) ?_
  show Goes _ _ _ _ _ _ _ _ (Tq6.setTop (mkF m 14 #[.val (.ref sS), .val (.ref xr_q1), .val (.int (4 : Int32)), .val (.int (1 : Int32)), .val (.ref t0)] []))
  refine Goes.via (fun _ k => XS.aloadN Xq6.here hx rfl (hb hby d_prog_4_method_5_code_14) rfl rfl k) ?_
  show Goes _ _ _ _ _ _ _ _ (Tq6.setTop (mkF m 15 #[.val (.ref sS), .val (.ref xr_q1), .val (.int (4 : Int32)), .val (.int (1 : Int32)), .val (.ref t0)] [(.ref xr_q1)]))
  refine Goes.via (fun _ k => XS.iloadN Xq6.here hx rfl (hb hby d_prog_4_method_5_code_15) rfl k) ?_
  show Goes _ _ _ _ _ _ _ _ (Tq6.setTop (mkF m 16 #[.val (.ref sS), .val (.ref xr_q1), .val (.int (4 : Int32)), .val (.int (1 : Int32)), .val (.ref t0)] [(.int (1 : Int32)), (.ref xr_q1)]))
  obtain ⟨clq16, Arq16, qq16, Sq16, Nnq16, Hq16, Gq16⟩ := id pq1_3
  have hinq16 : ¬ ((1 : Int32) < 0 ∨ clq16.slots.size ≤ ((1 : Int32)).toNatClampNeg) := inb_of Sq16 ⟨by decide, by decide⟩
  refine Goes.via (Xq6.aaload hx (j := (1 : Int32)) (v := (.ref t1)) (by rw [eq6]; exact Arq16.1) (State.isArrayOf_alike hZ.alike Arq16.2.1) rfl Arq16.2.2 hinq16 (Hq16.at hinq16 rfl) (g := (mkF m 16 #[.val (.ref sS), .val (.ref xr_q1), .val (.int (4 : Int32)), .val (.int (1 : Int32)), .val (.ref t0)] [(.int (1 : Int32)), (.ref xr_q1)])) rfl rfl (hb hby d_prog_4_method_5_code_16)) ?_
  show Goes _ _ _ _ _ _ _ _ (Tq6.setTop (mkF m 17 #[.val (.ref sS), .val (.ref xr_q1), .val (.int (4 : Int32)), .val (.int (1 : Int32)), .val (.ref t0)] [(.ref t1)]))
  refine Goes.via (fun _ k => XS.astore Xq6.here hx rfl (hb hby d_prog_4_method_5_code_17) rfl rfl (l' := #[.val (.ref sS), .val (.ref xr_q1), .val (.int (4 : Int32)), .val (.int (1 : Int32)), .val (.ref t1)]) rfl k) ?_
  show Goes _ _ _ _ _ _ _ _ (Tq6.setTop (mkF m 19 #[.val (.ref sS), .val (.ref xr_q1), .val (.int (4 : Int32)), .val (.int (1 : Int32)), .val (.ref t1)] []))
  refine Goes.via (fun _ k => XS.aload Xq6.here hx rfl (hb hby d_prog_4_method_5_code_19) rfl rfl k) ?_
  show Goes _ _ _ _ _ _ _ _ (Tq6.setTop (mkF m 21 #[.val (.ref sS), .val (.ref xr_q1), .val (.int (4 : Int32)), .val (.int (1 : Int32)), .val (.ref t1)] [(.ref t1)]))
  have fq18 : Fld Z Tq1.heap t1 "com/example/dispatch_note/dispatchnote/contract/ManagedMember" "memberName" "Ljava/lang/String;" (.ref u1) := (F1.ext Oq1.2)
  obtain ⟨Tq17, Xq17, eq17, stq17⟩ := getF Xq6 hx hZ hown (host := "") (Or.inl (W_73 hw)) Via.refl eq6 fq18 (g := (mkF m 21 #[.val (.ref sS), .val (.ref xr_q1), .val (.int (4 : Int32)), .val (.int (1 : Int32)), .val (.ref t1)] [(.ref t1)])) rfl rfl (hb hby d_prog_4_method_5_code_21)
  refine Goes.via stq17 ?_
  show Goes _ _ _ _ _ _ _ _ (Tq17.setTop (mkF m 24 #[.val (.ref sS), .val (.ref xr_q1), .val (.int (4 : Int32)), .val (.int (1 : Int32)), .val (.ref t1)] [(.ref u1)]))
  refine Goes.via (fun _ k => XS.aloadN Xq17.here hx rfl (hb hby d_prog_4_method_5_code_24) rfl rfl k) ?_
  show Goes _ _ _ _ _ _ _ _ (Tq17.setTop (mkF m 25 #[.val (.ref sS), .val (.ref xr_q1), .val (.int (4 : Int32)), .val (.int (1 : Int32)), .val (.ref t1)] [(.ref sS), (.ref u1)]))
  have fq20 : Exa Z Tq1.heap u1 "java/lang/String" := (EU1.ext Oq1.2)
  have fq21 : Fld Z Tq1.heap u1 "java/lang/String" "value" "[B" (.ref y1) := (VU1.ext Oq1.2)
  have fq22 : Fld Z Tq1.heap u1 "java/lang/String" "coder" "B" (.int (0 : Int32)) := (CU1.ext Oq1.2)
  have fq23 : Arv Z Tq1.heap y1 ky1 .byte (7 : Int32) [(.int (118 : Int32)), (.int (101 : Int32)), (.int (114 : Int32)), (.int (115 : Int32)), (.int (105 : Int32)), (.int (111 : Int32)), (.int (110 : Int32))] (.int (0 : Int32)) := (AU1.ext Oq1.2)
  obtain ⟨vq19, Tq19, Lq19, Xq19, ⟨qq19, rfl, eq19⟩, stq19⟩ := callViB (Qb := fun v h' L => ((v = some (.int 1) ∧ LIT_1 = csS) ∨ (v = some (.int 0) ∧ ¬ LIT_1 = csS)) ∧ L = [] ∧ h' = Tq1.heap) Xq17 hx hZ hown (StrChars.Road.eqW (W := 0) hZ (hwEq hw) (kI := 4) (W_6 hw) fq20 fq21 fq22 fq23 codL_1 rgL_1 (Nat.le_of_ble_eq_true rfl) fq11 fq12 fq13 fq14 codS rgS lnS fq15 hcz (by decide) (by decide)) (W_75 hw) (W_38 hw) (notFace_of_selects (args := #[]) (mvT hZ (W_40 hw))) (W_40 hw) (W_39 hw) (by decide) eq17 fq20 (by decide) (by decide) (g := (mkF m 25 #[.val (.ref sS), .val (.ref xr_q1), .val (.int (4 : Int32)), .val (.int (1 : Int32)), .val (.ref t1)] [(.ref sS), (.ref u1)])) rfl (by rw [hml]; rfl) (a := u1) (argsL := [(.ref sS)]) (rest := []) rfl (lenOf pd_10 rfl) rfl (by show 2 * 0 + _ ≤ _; exact Nat.le_of_eq rfl) (hb hby d_prog_4_method_5_code_25)
  have Nq19 := Fr.app Nq6 (Fr.nil n0)
  obtain ⟨rfl, ccq19⟩ : vq19 = some (.int 0) ∧ ¬ LIT_1 = csS := qq19.resolve_left (fun z => (fun q => absurd (q.trans hq) (by decide)) z.2)
  refine Goes.via stq19 ?_
  show Goes _ _ _ _ _ _ _ _ (Tq19.setTop (mkF m 28 #[.val (.ref sS), .val (.ref xr_q1), .val (.int (4 : Int32)), .val (.int (1 : Int32)), .val (.ref t1)] [(.int (0 : Int32))]))
  refine Goes.via (fun _ k => XS.ifYes Xq19.here hx rfl (pc0 := 28) (pc' := 37) rfl (hb hby d_prog_4_method_5_code_28) rfl (XT.i0_eq_t (by decide)) (by decide) (by decide) k) ?_
  show Goes _ _ _ _ _ _ _ _ (Tq19.setTop (mkF m 37 #[.val (.ref sS), .val (.ref xr_q1), .val (.int (4 : Int32)), .val (.int (1 : Int32)), .val (.ref t1)] []))
  refine Goes.via (fun _ k => iincZ Xq19.here hx rfl (2 : Int32) (hb hby d_prog_4_method_5_code_37) (by decide) rfl (l' := #[.val (.ref sS), .val (.ref xr_q1), .val (.int (4 : Int32)), .val (.int (2 : Int32)), .val (.ref t1)]) rfl k) ?_
  show Goes _ _ _ _ _ _ _ _ (Tq19.setTop (mkF m 40 #[.val (.ref sS), .val (.ref xr_q1), .val (.int (4 : Int32)), .val (.int (2 : Int32)), .val (.ref t1)] []))
  refine Goes.via (fun _ k => XS.goto Xq19.here hx rfl (pc0 := 40) (pc' := 9) rfl (hb hby d_prog_4_method_5_code_40) (by decide) (by decide) k) ?_
  show Goes _ _ _ _ _ _ _ _ (Tq19.setTop (mkF m 9 #[.val (.ref sS), .val (.ref xr_q1), .val (.int (4 : Int32)), .val (.int (2 : Int32)), .val (.ref t1)] []))
  refine Goes.via (fun _ k => XS.iloadN Xq19.here hx rfl (hb hby d_prog_4_method_5_code_9) rfl k) ?_
  show Goes _ _ _ _ _ _ _ _ (Tq19.setTop (mkF m 10 #[.val (.ref sS), .val (.ref xr_q1), .val (.int (4 : Int32)), .val (.int (2 : Int32)), .val (.ref t1)] [(.int (2 : Int32))]))
  refine Goes.via (fun _ k => XS.iloadN Xq19.here hx rfl (hb hby d_prog_4_method_5_code_10) rfl k) ?_
  show Goes _ _ _ _ _ _ _ _ (Tq19.setTop (mkF m 11 #[.val (.ref sS), .val (.ref xr_q1), .val (.int (4 : Int32)), .val (.int (2 : Int32)), .val (.ref t1)] [(.int (4 : Int32)), (.int (2 : Int32))]))
  refine Goes.via (fun _ k => XS.icmpNo Xq19.here hx rfl (hb hby d_prog_4_method_5_code_11) rfl (XT.ii_ge_f (by decide)) k) ?_
  show Goes _ _ _ _ _ _ _ _ (Tq19.setTop (mkF m 14 #[.val (.ref sS), .val (.ref xr_q1), .val (.int (4 : Int32)), .val (.int (2 : Int32)), .val (.ref t1)] []))
  refine Goes.via (fun _ k => XS.aloadN Xq19.here hx rfl (hb hby d_prog_4_method_5_code_14) rfl rfl k) ?_
  show Goes _ _ _ _ _ _ _ _ (Tq19.setTop (mkF m 15 #[.val (.ref sS), .val (.ref xr_q1), .val (.int (4 : Int32)), .val (.int (2 : Int32)), .val (.ref t1)] [(.ref xr_q1)]))
  refine Goes.via (fun _ k => XS.iloadN Xq19.here hx rfl (hb hby d_prog_4_method_5_code_15) rfl k) ?_
  show Goes _ _ _ _ _ _ _ _ (Tq19.setTop (mkF m 16 #[.val (.ref sS), .val (.ref xr_q1), .val (.int (4 : Int32)), .val (.int (2 : Int32)), .val (.ref t1)] [(.int (2 : Int32)), (.ref xr_q1)]))
  exact named_2_c1 l Z aw hw sS wS kS NS1 vS csS ar kz0 t0 t1 t2 t3 u0 y0 ky0 u1 y1 ky1 u2 y2 ky2 u3 y3 ky3 em cz xr_q1 xkr_q1 hx hby hml hrt hlk hnm hZ hown Xq19 eq19 Nq19 (by decide) (by decide) Oq1 ((Keep.refl _ []).trans pq1_1 all0) S0 V0 E0 CS SE F0 EU0 CU0 VU0 AU0 F1 EU1 CU1 VU1 AU1 F2 EU2 CU2 VU2 AU2 F3 EU3 CU3 VU3 AU3 fq11 fq12 fq13 fq14 pq1_2 pq1_3 hcz codS rgS lnS hq (by omega) (by omega) (by omega) (by omega)
theorem ef_named_3 (m : MethodId) (sS : Nat) : entryFrame m #[(.ref sS)] 5 = mkF m 0 #[.val (.ref sS), .unset, .unset, .unset, .unset] [] := by first | (simp [entryFrame, mkF, argsToLocals, Value.category]; done) | rfl
set_option maxRecDepth 65536 in
set_option maxHeartbeats 40000000 in
theorem named_3_c2 (l : Launch) (Z : State) (aw : Array Value) (hw : ∀ d ∈ tables_1, d.before aw Z = true) (sS : Nat) (wS : Nat) (kS : ClassId) (NS1 : Int32) (vS : List Value) (csS : List Int32) (ar : Nat) (kz0 : ClassId) (t0 : Nat) (t1 : Nat) (t2 : Nat) (t3 : Nat) (u0 : Nat) (y0 : Nat) (ky0 : ClassId) (u1 : Nat) (y1 : Nat) (ky1 : ClassId) (u2 : Nat) (y2 : Nat) (ky2 : ClassId) (u3 : Nat) (y3 : Nat) (ky3 : ClassId) (em : Nat) (cz : Int32) (xr_q1 : Nat) (xkr_q1 : ClassId) {p : Program} {e : Env} {s : State} {m : MethodId} {args : Array Value} {below : List Frame} {meth : Method} {c : Code} {T : State} {locs : List Loc} {cells slots n0 : Nat} {h0 h1 : Heap} (hx : p.tables.exec = Jvm.exec) (hby : c.code = prog_4_method_5_code) (hml : c.maxLocals = 5) (hrt : meth.sig.returnType = some (.object "java/util/Optional")) (hlk : meth.locks = false) (hnm : meth.name = "named") (hZ : Z.Warmed39 s.vm) (hown : s.vm.findClass "com/example/dispatch_note/dispatchnote/contract/ManagedMember" = some m.cls) (X : Stand p l e ({ frames := 3, cells := 2, slots := 8, locals := 50 } : Room) s m args below meth c T locs cells slots) (e0 : T.heap = h1) (N : Fr n0 locs) (hcells : cells ≤ 1) (hslots : slots ≤ 4) (O : Old Z n0 h1) (K0 : Keep h0 h1 []) (S0 : Sta Z Z.heap "com/example/dispatch_note/dispatchnote/contract/ManagedMember" "$VALUES" "[Lcom/example/dispatch_note/dispatchnote/contract/ManagedMember;" (.ref ar)) (V0 : Arv Z Z.heap ar kz0 (.object "com/example/dispatch_note/dispatchnote/contract/ManagedMember") (4 : Int32) [(.ref t0), (.ref t1), (.ref t2), (.ref t3)] .null) (E0 : Exa Z Z.heap ar "[Lcom/example/dispatch_note/dispatchnote/contract/ManagedMember;") (CS : Sta Z Z.heap "java/lang/String" "COMPACT_STRINGS" "Z" (.int cz)) (SE : Sta Z Z.heap "java/util/Optional" "EMPTY" "Ljava/util/Optional;" (.ref em)) (F0 : Fld Z Z.heap t0 "com/example/dispatch_note/dispatchnote/contract/ManagedMember" "memberName" "Ljava/lang/String;" (.ref u0)) (EU0 : Exa Z Z.heap u0 "java/lang/String") (CU0 : Fld Z Z.heap u0 "java/lang/String" "coder" "B" (.int (0 : Int32))) (VU0 : Fld Z Z.heap u0 "java/lang/String" "value" "[B" (.ref y0)) (AU0 : Arv Z Z.heap y0 ky0 .byte (2 : Int32) [(.int (105 : Int32)), (.int (100 : Int32))] (.int (0 : Int32))) (F1 : Fld Z Z.heap t1 "com/example/dispatch_note/dispatchnote/contract/ManagedMember" "memberName" "Ljava/lang/String;" (.ref u1)) (EU1 : Exa Z Z.heap u1 "java/lang/String") (CU1 : Fld Z Z.heap u1 "java/lang/String" "coder" "B" (.int (0 : Int32))) (VU1 : Fld Z Z.heap u1 "java/lang/String" "value" "[B" (.ref y1)) (AU1 : Arv Z Z.heap y1 ky1 .byte (7 : Int32) [(.int (118 : Int32)), (.int (101 : Int32)), (.int (114 : Int32)), (.int (115 : Int32)), (.int (105 : Int32)), (.int (111 : Int32)), (.int (110 : Int32))] (.int (0 : Int32))) (F2 : Fld Z Z.heap t2 "com/example/dispatch_note/dispatchnote/contract/ManagedMember" "memberName" "Ljava/lang/String;" (.ref u2)) (EU2 : Exa Z Z.heap u2 "java/lang/String") (CU2 : Fld Z Z.heap u2 "java/lang/String" "coder" "B" (.int (0 : Int32))) (VU2 : Fld Z Z.heap u2 "java/lang/String" "value" "[B" (.ref y2)) (AU2 : Arv Z Z.heap y2 ky2 .byte (9 : Int32) [(.int (99 : Int32)), (.int (114 : Int32)), (.int (101 : Int32)), (.int (97 : Int32)), (.int (116 : Int32)), (.int (101 : Int32)), (.int (100 : Int32)), (.int (65 : Int32)), (.int (116 : Int32))] (.int (0 : Int32))) (F3 : Fld Z Z.heap t3 "com/example/dispatch_note/dispatchnote/contract/ManagedMember" "memberName" "Ljava/lang/String;" (.ref u3)) (EU3 : Exa Z Z.heap u3 "java/lang/String") (CU3 : Fld Z Z.heap u3 "java/lang/String" "coder" "B" (.int (0 : Int32))) (VU3 : Fld Z Z.heap u3 "java/lang/String" "value" "[B" (.ref y3)) (AU3 : Arv Z Z.heap y3 ky3 .byte (9 : Int32) [(.int (117 : Int32)), (.int (112 : Int32)), (.int (100 : Int32)), (.int (97 : Int32)), (.int (116 : Int32)), (.int (101 : Int32)), (.int (100 : Int32)), (.int (65 : Int32)), (.int (116 : Int32))] (.int (0 : Int32))) (pf0 : Exa Z h1 sS "java/lang/String") (pf1 : Fld Z h1 sS "java/lang/String" "value" "[B" (.ref wS)) (pf2 : Fld Z h1 sS "java/lang/String" "coder" "B" (.int (0 : Int32))) (pf3 : Arv Z h1 wS kS .byte NS1 vS (.int (0 : Int32))) (pf4 : Exa Z h1 xr_q1 "[Lcom/example/dispatch_note/dispatchnote/contract/ManagedMember;") (pf5 : Arv Z h1 xr_q1 xkr_q1 (.object "com/example/dispatch_note/dispatchnote/contract/ManagedMember") (4 : Int32) [(.ref t0), (.ref t1), (.ref t2), (.ref t3)] .null) (hcz : ¬ cz = (0 : Int32)) (codS : StrChars.Road.CodA csS 0 NS1 vS) (rgS : ∀ c ∈ csS, ¬ c < 0 ∧ ¬ (65535 : Int32) < c) (lnS : csS.length ≤ 4000) (hq : csS = LIT_3) (cn1 : n0 ≤ xr_q1) (cn2 : h0.size ≤ xr_q1) (cn3 : sS < xr_q1) (cn4 : sS < h0.size) :
    Goes p e below s ({ frames := 3, cells := 2, slots := 8, locals := 50 } : Room).cells ({ frames := 3, cells := 2, slots := 8, locals := 50 } : Room).slots n0 (fun vv hh => ∃ r : Nat, vv = some (.ref r) ∧ h0.size ≤ r ∧ Keep h0 hh [] ∧ Exa Z hh r "java/util/Optional" ∧ Fld Z hh r "java/util/Optional" "value" "Ljava/lang/Object;" (.ref t3)) (T.setTop (mkF m 16 #[.val (.ref sS), .val (.ref xr_q1), .val (.int (4 : Int32)), .val (.int (2 : Int32)), .val (.ref t1)] [(.int (2 : Int32)), (.ref xr_q1)])) := by
  have zO := O.le
  have zK := K0.1
  have lt_sS := lt_nat pf0.lt
  have lt_wS := lt_nat pf3.lt
  have lt_xr_q1 := lt_nat pf4.lt
  show Goes _ _ _ _ _ _ _ _ (T.setTop (mkF m 16 #[.val (.ref sS), .val (.ref xr_q1), .val (.int (4 : Int32)), .val (.int (2 : Int32)), .val (.ref t1)] [(.int (2 : Int32)), (.ref xr_q1)]))
  obtain ⟨clq24, Arq24, qq24, Sq24, Nnq24, Hq24, Gq24⟩ := id pf5
  have hinq24 : ¬ ((2 : Int32) < 0 ∨ clq24.slots.size ≤ ((2 : Int32)).toNatClampNeg) := inb_of Sq24 ⟨by decide, by decide⟩
  refine Goes.via (X.aaload hx (j := (2 : Int32)) (v := (.ref t2)) (by rw [e0]; exact Arq24.1) (State.isArrayOf_alike hZ.alike Arq24.2.1) rfl Arq24.2.2 hinq24 (Hq24.at hinq24 rfl) (g := (mkF m 16 #[.val (.ref sS), .val (.ref xr_q1), .val (.int (4 : Int32)), .val (.int (2 : Int32)), .val (.ref t1)] [(.int (2 : Int32)), (.ref xr_q1)])) rfl rfl (hb hby d_prog_4_method_5_code_16)) ?_
  show Goes _ _ _ _ _ _ _ _ (T.setTop (mkF m 17 #[.val (.ref sS), .val (.ref xr_q1), .val (.int (4 : Int32)), .val (.int (2 : Int32)), .val (.ref t1)] [(.ref t2)]))
  refine Goes.via (fun _ k => XS.astore X.here hx rfl (hb hby d_prog_4_method_5_code_17) rfl rfl (l' := #[.val (.ref sS), .val (.ref xr_q1), .val (.int (4 : Int32)), .val (.int (2 : Int32)), .val (.ref t2)]) rfl k) ?_
  show Goes _ _ _ _ _ _ _ _ (T.setTop (mkF m 19 #[.val (.ref sS), .val (.ref xr_q1), .val (.int (4 : Int32)), .val (.int (2 : Int32)), .val (.ref t2)] []))
  refine Goes.via (fun _ k => XS.aload X.here hx rfl (hb hby d_prog_4_method_5_code_19) rfl rfl k) ?_
  show Goes _ _ _ _ _ _ _ _ (T.setTop (mkF m 21 #[.val (.ref sS), .val (.ref xr_q1), .val (.int (4 : Int32)), .val (.int (2 : Int32)), .val (.ref t2)] [(.ref t2)]))
  have fq26 : Fld Z h1 t2 "com/example/dispatch_note/dispatchnote/contract/ManagedMember" "memberName" "Ljava/lang/String;" (.ref u2) := (F2.ext O.2)
  obtain ⟨Tq25, Xq25, eq25, stq25⟩ := getF X hx hZ hown (host := "") (Or.inl (W_73 hw)) Via.refl e0 fq26 (g := (mkF m 21 #[.val (.ref sS), .val (.ref xr_q1), .val (.int (4 : Int32)), .val (.int (2 : Int32)), .val (.ref t2)] [(.ref t2)])) rfl rfl (hb hby d_prog_4_method_5_code_21)
  refine Goes.via stq25 ?_
  show Goes _ _ _ _ _ _ _ _ (Tq25.setTop (mkF m 24 #[.val (.ref sS), .val (.ref xr_q1), .val (.int (4 : Int32)), .val (.int (2 : Int32)), .val (.ref t2)] [(.ref u2)]))
  refine Goes.via (fun _ k => XS.aloadN Xq25.here hx rfl (hb hby d_prog_4_method_5_code_24) rfl rfl k) ?_
  show Goes _ _ _ _ _ _ _ _ (Tq25.setTop (mkF m 25 #[.val (.ref sS), .val (.ref xr_q1), .val (.int (4 : Int32)), .val (.int (2 : Int32)), .val (.ref t2)] [(.ref sS), (.ref u2)]))
  have fq28 : Exa Z h1 u2 "java/lang/String" := (EU2.ext O.2)
  have fq29 : Fld Z h1 u2 "java/lang/String" "value" "[B" (.ref y2) := (VU2.ext O.2)
  have fq30 : Fld Z h1 u2 "java/lang/String" "coder" "B" (.int (0 : Int32)) := (CU2.ext O.2)
  have fq31 : Arv Z h1 y2 ky2 .byte (9 : Int32) [(.int (99 : Int32)), (.int (114 : Int32)), (.int (101 : Int32)), (.int (97 : Int32)), (.int (116 : Int32)), (.int (101 : Int32)), (.int (100 : Int32)), (.int (65 : Int32)), (.int (116 : Int32))] (.int (0 : Int32)) := (AU2.ext O.2)
  have fq32 : Sta Z h1 "java/lang/String" "COMPACT_STRINGS" "Z" (.int cz) := (CS.ext O.2)
  obtain ⟨vq27, Tq27, Lq27, Xq27, ⟨qq27, rfl, eq27⟩, stq27⟩ := callViB (Qb := fun v h' L => ((v = some (.int 1) ∧ LIT_2 = csS) ∨ (v = some (.int 0) ∧ ¬ LIT_2 = csS)) ∧ L = [] ∧ h' = h1) Xq25 hx hZ hown (StrChars.Road.eqW (W := 0) hZ (hwEq hw) (kI := 4) (W_6 hw) fq28 fq29 fq30 fq31 codL_2 rgL_2 (Nat.le_of_ble_eq_true rfl) pf0 pf1 pf2 pf3 codS rgS lnS fq32 hcz (by decide) (by decide)) (W_75 hw) (W_38 hw) (notFace_of_selects (args := #[]) (mvT hZ (W_40 hw))) (W_40 hw) (W_39 hw) (by decide) eq25 fq28 (by show _ + 0 ≤ 2; omega) (by show _ + 0 ≤ 8; omega) (g := (mkF m 25 #[.val (.ref sS), .val (.ref xr_q1), .val (.int (4 : Int32)), .val (.int (2 : Int32)), .val (.ref t2)] [(.ref sS), (.ref u2)])) rfl (by rw [hml]; rfl) (a := u2) (argsL := [(.ref sS)]) (rest := []) rfl (lenOf pd_10 rfl) rfl (by show 2 * 0 + _ ≤ _; exact Nat.le_of_eq rfl) (hb hby d_prog_4_method_5_code_25)
  have Nq27 := Fr.app N (Fr.nil n0)
  obtain ⟨rfl, ccq27⟩ : vq27 = some (.int 0) ∧ ¬ LIT_2 = csS := qq27.resolve_left (fun z => (fun q => absurd (q.trans hq) (by decide)) z.2)
  refine Goes.via stq27 ?_
  show Goes _ _ _ _ _ _ _ _ (Tq27.setTop (mkF m 28 #[.val (.ref sS), .val (.ref xr_q1), .val (.int (4 : Int32)), .val (.int (2 : Int32)), .val (.ref t2)] [(.int (0 : Int32))]))
  refine Goes.via (fun _ k => XS.ifYes Xq27.here hx rfl (pc0 := 28) (pc' := 37) rfl (hb hby d_prog_4_method_5_code_28) rfl (XT.i0_eq_t (by decide)) (by decide) (by decide) k) ?_
  show Goes _ _ _ _ _ _ _ _ (Tq27.setTop (mkF m 37 #[.val (.ref sS), .val (.ref xr_q1), .val (.int (4 : Int32)), .val (.int (2 : Int32)), .val (.ref t2)] []))
  refine Goes.via (fun _ k => iincZ Xq27.here hx rfl (3 : Int32) (hb hby d_prog_4_method_5_code_37) (by decide) rfl (l' := #[.val (.ref sS), .val (.ref xr_q1), .val (.int (4 : Int32)), .val (.int (3 : Int32)), .val (.ref t2)]) rfl k) ?_
  show Goes _ _ _ _ _ _ _ _ (Tq27.setTop (mkF m 40 #[.val (.ref sS), .val (.ref xr_q1), .val (.int (4 : Int32)), .val (.int (3 : Int32)), .val (.ref t2)] []))
  refine Goes.via (fun _ k => XS.goto Xq27.here hx rfl (pc0 := 40) (pc' := 9) rfl (hb hby d_prog_4_method_5_code_40) (by decide) (by decide) k) ?_
  show Goes _ _ _ _ _ _ _ _ (Tq27.setTop (mkF m 9 #[.val (.ref sS), .val (.ref xr_q1), .val (.int (4 : Int32)), .val (.int (3 : Int32)), .val (.ref t2)] []))
  refine Goes.via (fun _ k => XS.iloadN Xq27.here hx rfl (hb hby d_prog_4_method_5_code_9) rfl k) ?_
  show Goes _ _ _ _ _ _ _ _ (Tq27.setTop (mkF m 10 #[.val (.ref sS), .val (.ref xr_q1), .val (.int (4 : Int32)), .val (.int (3 : Int32)), .val (.ref t2)] [(.int (3 : Int32))]))
  refine Goes.via (fun _ k => XS.iloadN Xq27.here hx rfl (hb hby d_prog_4_method_5_code_10) rfl k) ?_
  show Goes _ _ _ _ _ _ _ _ (Tq27.setTop (mkF m 11 #[.val (.ref sS), .val (.ref xr_q1), .val (.int (4 : Int32)), .val (.int (3 : Int32)), .val (.ref t2)] [(.int (4 : Int32)), (.int (3 : Int32))]))
  refine Goes.via (fun _ k => XS.icmpNo Xq27.here hx rfl (hb hby d_prog_4_method_5_code_11) rfl (XT.ii_ge_f (by decide)) k) ?_
  show Goes _ _ _ _ _ _ _ _ (Tq27.setTop (mkF m 14 #[.val (.ref sS), .val (.ref xr_q1), .val (.int (4 : Int32)), .val (.int (3 : Int32)), .val (.ref t2)] []))
  refine Goes.via (fun _ k => XS.aloadN Xq27.here hx rfl (hb hby d_prog_4_method_5_code_14) rfl rfl k) ?_
  show Goes _ _ _ _ _ _ _ _ (Tq27.setTop (mkF m 15 #[.val (.ref sS), .val (.ref xr_q1), .val (.int (4 : Int32)), .val (.int (3 : Int32)), .val (.ref t2)] [(.ref xr_q1)]))
  refine Goes.via (fun _ k => XS.iloadN Xq27.here hx rfl (hb hby d_prog_4_method_5_code_15) rfl k) ?_
  show Goes _ _ _ _ _ _ _ _ (Tq27.setTop (mkF m 16 #[.val (.ref sS), .val (.ref xr_q1), .val (.int (4 : Int32)), .val (.int (3 : Int32)), .val (.ref t2)] [(.int (3 : Int32)), (.ref xr_q1)]))
  obtain ⟨clq33, Arq33, qq33, Sq33, Nnq33, Hq33, Gq33⟩ := id pf5
  have hinq33 : ¬ ((3 : Int32) < 0 ∨ clq33.slots.size ≤ ((3 : Int32)).toNatClampNeg) := inb_of Sq33 ⟨by decide, by decide⟩
  refine Goes.via (Xq27.aaload hx (j := (3 : Int32)) (v := (.ref t3)) (by rw [eq27]; exact Arq33.1) (State.isArrayOf_alike hZ.alike Arq33.2.1) rfl Arq33.2.2 hinq33 (Hq33.at hinq33 rfl) (g := (mkF m 16 #[.val (.ref sS), .val (.ref xr_q1), .val (.int (4 : Int32)), .val (.int (3 : Int32)), .val (.ref t2)] [(.int (3 : Int32)), (.ref xr_q1)])) rfl rfl (hb hby d_prog_4_method_5_code_16)) ?_
  show Goes _ _ _ _ _ _ _ _ (Tq27.setTop (mkF m 17 #[.val (.ref sS), .val (.ref xr_q1), .val (.int (4 : Int32)), .val (.int (3 : Int32)), .val (.ref t2)] [(.ref t3)]))
  refine Goes.via (fun _ k => XS.astore Xq27.here hx rfl (hb hby d_prog_4_method_5_code_17) rfl rfl (l' := #[.val (.ref sS), .val (.ref xr_q1), .val (.int (4 : Int32)), .val (.int (3 : Int32)), .val (.ref t3)]) rfl k) ?_
  show Goes _ _ _ _ _ _ _ _ (Tq27.setTop (mkF m 19 #[.val (.ref sS), .val (.ref xr_q1), .val (.int (4 : Int32)), .val (.int (3 : Int32)), .val (.ref t3)] []))
  refine Goes.via (fun _ k => XS.aload Xq27.here hx rfl (hb hby d_prog_4_method_5_code_19) rfl rfl k) ?_
  show Goes _ _ _ _ _ _ _ _ (Tq27.setTop (mkF m 21 #[.val (.ref sS), .val (.ref xr_q1), .val (.int (4 : Int32)), .val (.int (3 : Int32)), .val (.ref t3)] [(.ref t3)]))
  have fq35 : Fld Z h1 t3 "com/example/dispatch_note/dispatchnote/contract/ManagedMember" "memberName" "Ljava/lang/String;" (.ref u3) := (F3.ext O.2)
  obtain ⟨Tq34, Xq34, eq34, stq34⟩ := getF Xq27 hx hZ hown (host := "") (Or.inl (W_73 hw)) Via.refl eq27 fq35 (g := (mkF m 21 #[.val (.ref sS), .val (.ref xr_q1), .val (.int (4 : Int32)), .val (.int (3 : Int32)), .val (.ref t3)] [(.ref t3)])) rfl rfl (hb hby d_prog_4_method_5_code_21)
  refine Goes.via stq34 ?_
  show Goes _ _ _ _ _ _ _ _ (Tq34.setTop (mkF m 24 #[.val (.ref sS), .val (.ref xr_q1), .val (.int (4 : Int32)), .val (.int (3 : Int32)), .val (.ref t3)] [(.ref u3)]))
  refine Goes.via (fun _ k => XS.aloadN Xq34.here hx rfl (hb hby d_prog_4_method_5_code_24) rfl rfl k) ?_
  show Goes _ _ _ _ _ _ _ _ (Tq34.setTop (mkF m 25 #[.val (.ref sS), .val (.ref xr_q1), .val (.int (4 : Int32)), .val (.int (3 : Int32)), .val (.ref t3)] [(.ref sS), (.ref u3)]))
  have fq37 : Exa Z h1 u3 "java/lang/String" := (EU3.ext O.2)
  have fq38 : Fld Z h1 u3 "java/lang/String" "value" "[B" (.ref y3) := (VU3.ext O.2)
  have fq39 : Fld Z h1 u3 "java/lang/String" "coder" "B" (.int (0 : Int32)) := (CU3.ext O.2)
  have fq40 : Arv Z h1 y3 ky3 .byte (9 : Int32) [(.int (117 : Int32)), (.int (112 : Int32)), (.int (100 : Int32)), (.int (97 : Int32)), (.int (116 : Int32)), (.int (101 : Int32)), (.int (100 : Int32)), (.int (65 : Int32)), (.int (116 : Int32))] (.int (0 : Int32)) := (AU3.ext O.2)
  obtain ⟨vq36, Tq36, Lq36, Xq36, ⟨qq36, rfl, eq36⟩, stq36⟩ := callViB (Qb := fun v h' L => ((v = some (.int 1) ∧ LIT_3 = csS) ∨ (v = some (.int 0) ∧ ¬ LIT_3 = csS)) ∧ L = [] ∧ h' = h1) Xq34 hx hZ hown (StrChars.Road.eqW (W := 0) hZ (hwEq hw) (kI := 4) (W_6 hw) fq37 fq38 fq39 fq40 codL_3 rgL_3 (Nat.le_of_ble_eq_true rfl) pf0 pf1 pf2 pf3 codS rgS lnS fq32 hcz (by decide) (by decide)) (W_75 hw) (W_38 hw) (notFace_of_selects (args := #[]) (mvT hZ (W_40 hw))) (W_40 hw) (W_39 hw) (by decide) eq34 fq37 (by show _ + 0 ≤ 2; omega) (by show _ + 0 ≤ 8; omega) (g := (mkF m 25 #[.val (.ref sS), .val (.ref xr_q1), .val (.int (4 : Int32)), .val (.int (3 : Int32)), .val (.ref t3)] [(.ref sS), (.ref u3)])) rfl (by rw [hml]; rfl) (a := u3) (argsL := [(.ref sS)]) (rest := []) rfl (lenOf pd_10 rfl) rfl (by show 2 * 0 + _ ≤ _; exact Nat.le_of_eq rfl) (hb hby d_prog_4_method_5_code_25)
  have Nq36 := Fr.app Nq27 (Fr.nil n0)
  obtain ⟨rfl, ccq36⟩ : vq36 = some (.int 1) ∧ LIT_3 = csS := qq36.resolve_right (fun z => z.2 hq.symm)
  refine Goes.via stq36 ?_
  show Goes _ _ _ _ _ _ _ _ (Tq36.setTop (mkF m 28 #[.val (.ref sS), .val (.ref xr_q1), .val (.int (4 : Int32)), .val (.int (3 : Int32)), .val (.ref t3)] [(.int (1 : Int32))]))
  refine Goes.via (fun _ k => XS.ifNo Xq36.here hx rfl (hb hby d_prog_4_method_5_code_28) rfl (XT.i0_eq_f (by decide)) k) ?_
  show Goes _ _ _ _ _ _ _ _ (Tq36.setTop (mkF m 31 #[.val (.ref sS), .val (.ref xr_q1), .val (.int (4 : Int32)), .val (.int (3 : Int32)), .val (.ref t3)] []))
  refine Goes.via (fun _ k => XS.aload Xq36.here hx rfl (hb hby d_prog_4_method_5_code_31) rfl rfl k) ?_
  show Goes _ _ _ _ _ _ _ _ (Tq36.setTop (mkF m 33 #[.val (.ref sS), .val (.ref xr_q1), .val (.int (4 : Int32)), .val (.int (3 : Int32)), .val (.ref t3)] [(.ref t3)]))
  obtain ⟨vq41, Tq41, Lq41, Xq41, qq41, nq41, stq41⟩ := callSt Xq36 hx hZ hown (optOf l Z aw hw t3 O) (W_92 hw) (W_93 hw) (W_78 hw) (W_94 hw) (by decide) eq36 (by decide) (W := 0) (by decide) (by show _ + 1 ≤ 2; omega) (by show _ + 1 ≤ 8; omega) (g := (mkF m 33 #[.val (.ref sS), .val (.ref xr_q1), .val (.int (4 : Int32)), .val (.int (3 : Int32)), .val (.ref t3)] [(.ref t3)])) rfl (by rw [hml]; rfl) (argsL := [(.ref t3)]) (rest := []) rfl (lenOf pd_11 rfl) rfl (by show 2 * 0 + _ ≤ _; exact Nat.le_of_eq rfl) (hb hby d_prog_4_method_5_code_33)
  dsimp only at Xq41
  obtain ⟨xr_q41, rfl, pq41_0, pq41_1, pq41_2, pq41_3⟩ := qq41
  have Nq41 := Fr.app Nq36 nq41
  have zq41 := pq41_1.1
  have Oq41 := O.keep pq41_1 all0
  have ltpq41_2 := lt_nat pq41_2.lt
  refine Goes.via stq41 ?_
  show Goes _ _ _ _ _ _ _ _ (Tq41.setTop (mkF m 36 #[.val (.ref sS), .val (.ref xr_q1), .val (.int (4 : Int32)), .val (.int (3 : Int32)), .val (.ref t3)] [(.ref xr_q41)]))
  refine goRetA Xq41 hx hrt rfl hlk Nq41 (by show _ ≤ 2; omega) (by show _ ≤ 8; omega) rfl (hb hby d_prog_4_method_5_code_36) ?_
  exact ⟨xr_q41, rfl, by omega, (K0.trans pq41_1 all0), pq41_2, pq41_3⟩
set_option maxRecDepth 65536 in
set_option maxHeartbeats 40000000 in
theorem named_3 (l : Launch) (Z : State) (aw : Array Value) (hw : ∀ d ∈ tables_1, d.before aw Z = true) (sS : Nat) (wS : Nat) (kS : ClassId) (NS1 : Int32) (vS : List Value) (csS : List Int32) (ar : Nat) (kz0 : ClassId) (t0 : Nat) (t1 : Nat) (t2 : Nat) (t3 : Nat) (u0 : Nat) (y0 : Nat) (ky0 : ClassId) (u1 : Nat) (y1 : Nat) (ky1 : ClassId) (u2 : Nat) (y2 : Nat) (ky2 : ClassId) (u3 : Nat) (y3 : Nat) (ky3 : ClassId) (em : Nat) (cz : Int32) {h0 : Heap} {n0 : Nat} (O : Old Z n0 h0) (S0 : Sta Z Z.heap "com/example/dispatch_note/dispatchnote/contract/ManagedMember" "$VALUES" "[Lcom/example/dispatch_note/dispatchnote/contract/ManagedMember;" (.ref ar)) (V0 : Arv Z Z.heap ar kz0 (.object "com/example/dispatch_note/dispatchnote/contract/ManagedMember") (4 : Int32) [(.ref t0), (.ref t1), (.ref t2), (.ref t3)] .null) (E0 : Exa Z Z.heap ar "[Lcom/example/dispatch_note/dispatchnote/contract/ManagedMember;") (CS : Sta Z Z.heap "java/lang/String" "COMPACT_STRINGS" "Z" (.int cz)) (SE : Sta Z Z.heap "java/util/Optional" "EMPTY" "Ljava/util/Optional;" (.ref em)) (F0 : Fld Z Z.heap t0 "com/example/dispatch_note/dispatchnote/contract/ManagedMember" "memberName" "Ljava/lang/String;" (.ref u0)) (EU0 : Exa Z Z.heap u0 "java/lang/String") (CU0 : Fld Z Z.heap u0 "java/lang/String" "coder" "B" (.int (0 : Int32))) (VU0 : Fld Z Z.heap u0 "java/lang/String" "value" "[B" (.ref y0)) (AU0 : Arv Z Z.heap y0 ky0 .byte (2 : Int32) [(.int (105 : Int32)), (.int (100 : Int32))] (.int (0 : Int32))) (F1 : Fld Z Z.heap t1 "com/example/dispatch_note/dispatchnote/contract/ManagedMember" "memberName" "Ljava/lang/String;" (.ref u1)) (EU1 : Exa Z Z.heap u1 "java/lang/String") (CU1 : Fld Z Z.heap u1 "java/lang/String" "coder" "B" (.int (0 : Int32))) (VU1 : Fld Z Z.heap u1 "java/lang/String" "value" "[B" (.ref y1)) (AU1 : Arv Z Z.heap y1 ky1 .byte (7 : Int32) [(.int (118 : Int32)), (.int (101 : Int32)), (.int (114 : Int32)), (.int (115 : Int32)), (.int (105 : Int32)), (.int (111 : Int32)), (.int (110 : Int32))] (.int (0 : Int32))) (F2 : Fld Z Z.heap t2 "com/example/dispatch_note/dispatchnote/contract/ManagedMember" "memberName" "Ljava/lang/String;" (.ref u2)) (EU2 : Exa Z Z.heap u2 "java/lang/String") (CU2 : Fld Z Z.heap u2 "java/lang/String" "coder" "B" (.int (0 : Int32))) (VU2 : Fld Z Z.heap u2 "java/lang/String" "value" "[B" (.ref y2)) (AU2 : Arv Z Z.heap y2 ky2 .byte (9 : Int32) [(.int (99 : Int32)), (.int (114 : Int32)), (.int (101 : Int32)), (.int (97 : Int32)), (.int (116 : Int32)), (.int (101 : Int32)), (.int (100 : Int32)), (.int (65 : Int32)), (.int (116 : Int32))] (.int (0 : Int32))) (F3 : Fld Z Z.heap t3 "com/example/dispatch_note/dispatchnote/contract/ManagedMember" "memberName" "Ljava/lang/String;" (.ref u3)) (EU3 : Exa Z Z.heap u3 "java/lang/String") (CU3 : Fld Z Z.heap u3 "java/lang/String" "coder" "B" (.int (0 : Int32))) (VU3 : Fld Z Z.heap u3 "java/lang/String" "value" "[B" (.ref y3)) (AU3 : Arv Z Z.heap y3 ky3 .byte (9 : Int32) [(.int (117 : Int32)), (.int (112 : Int32)), (.int (100 : Int32)), (.int (97 : Int32)), (.int (116 : Int32)), (.int (101 : Int32)), (.int (100 : Int32)), (.int (65 : Int32)), (.int (116 : Int32))] (.int (0 : Int32))) (ES : Exa Z h0 sS "java/lang/String") (VS : Fld Z h0 sS "java/lang/String" "value" "[B" (.ref wS)) (CSS : Fld Z h0 sS "java/lang/String" "coder" "B" (.int (0 : Int32))) (AS : Arv Z h0 wS kS .byte NS1 vS (.int (0 : Int32))) (hcz : ¬ cz = (0 : Int32)) (codS : StrChars.Road.CodA csS 0 NS1 vS) (rgS : ∀ c ∈ csS, ¬ c < 0 ∧ ¬ (65535 : Int32) < c) (lnS : csS.length ≤ 4000) (hq : csS = LIT_3) :
    MET l Z (⟨"com/example/dispatch_note/dispatchnote/contract/ManagedMember", "named", "(Ljava/lang/String;)Ljava/util/Optional;"⟩ : MethodName) prog_4_method_5_code 5 (some (.object "java/util/Optional")) ({ frames := 3, cells := 2, slots := 8, locals := 50 } : Room) #[(.ref sS)] h0 n0 (fun vv hh => ∃ r : Nat, vv = some (.ref r) ∧ h0.size ≤ r ∧ Keep h0 hh [] ∧ Exa Z hh r "java/util/Optional" ∧ Fld Z hh r "java/util/Optional" "value" "Ljava/lang/Object;" (.ref t3)) := by
  refine metOf (plainFor_of_name pn_8) ?_
  intro p e s m below meth c T hx hby hml hrt hlk hnm hZ hown X e0
  replace hml : c.maxLocals = 5 := hml
  replace hnm : meth.name = "named" := hnm
  replace hown : s.vm.findClass "com/example/dispatch_note/dispatchnote/contract/ManagedMember" = some m.cls := hown
  have N := Fr.nil n0
  have zO := O.le
  refine goCast (ef_named_3 m sS) ?_
  have lt_sS := lt_nat ES.lt
  have lt_wS := lt_nat AS.lt
  show Goes _ _ _ _ _ _ _ _ (T.setTop (mkF m 0 #[.val (.ref sS), .unset, .unset, .unset, .unset] []))
  obtain ⟨vq1, Tq1, Lq1, Xq1, qq1, nq1, stq1⟩ := callSt X hx hZ hown (vals l Z aw hw ar kz0 t0 t1 t2 t3 O S0 V0 E0) (W_54 hw) (W_55 hw) (W_52 hw) (W_56 hw) (by decide) e0 (by decide) (W := 0) (by decide) (by decide) (by decide) (g := (mkF m 0 #[.val (.ref sS), .unset, .unset, .unset, .unset] [])) rfl (by rw [hml]; rfl) (argsL := []) (rest := []) rfl (lenOf pd_9 rfl) rfl (by show 2 * 0 + _ ≤ _; exact Nat.le_of_eq rfl) (hb hby d_prog_4_method_5_code_0)
  obtain ⟨xr_q1, xkr_q1, rfl, pq1_0, pq1_1, pq1_2, pq1_3⟩ := qq1
  have Nq1 := Fr.app N nq1
  have zq1 := pq1_1.1
  have Oq1 := O.keep pq1_1 all0
  have ltpq1_2 := lt_nat pq1_2.lt
  refine Goes.via stq1 ?_
  show Goes _ _ _ _ _ _ _ _ (Tq1.setTop (mkF m 3 #[.val (.ref sS), .unset, .unset, .unset, .unset] [(.ref xr_q1)]))
  refine Goes.via (fun _ k => XS.astoreN Xq1.here hx rfl (hb hby d_prog_4_method_5_code_3) rfl rfl (l' := #[.val (.ref sS), .val (.ref xr_q1), .unset, .unset, .unset]) rfl k) ?_
  show Goes _ _ _ _ _ _ _ _ (Tq1.setTop (mkF m 4 #[.val (.ref sS), .val (.ref xr_q1), .unset, .unset, .unset] []))
  refine Goes.via (fun _ k => XS.aloadN Xq1.here hx rfl (hb hby d_prog_4_method_5_code_4) rfl rfl k) ?_
  show Goes _ _ _ _ _ _ _ _ (Tq1.setTop (mkF m 5 #[.val (.ref sS), .val (.ref xr_q1), .unset, .unset, .unset] [(.ref xr_q1)]))
  obtain ⟨clq2, Arq2, -, Sq2, Nnq2, -, -⟩ := id pq1_3
  refine Goes.via (Xq1.arraylength hx Arq2.1 (State.isArrayOf_alike hZ.alike Arq2.2.1) (g := (mkF m 5 #[.val (.ref sS), .val (.ref xr_q1), .unset, .unset, .unset] [(.ref xr_q1)])) rfl rfl (hb hby d_prog_4_method_5_code_5)) ?_
  rw [len_of Sq2 Nnq2]
  show Goes _ _ _ _ _ _ _ _ (Tq1.setTop (mkF m 6 #[.val (.ref sS), .val (.ref xr_q1), .unset, .unset, .unset] [(.int (4 : Int32))]))
  refine Goes.via (fun _ k => XS.istoreN Xq1.here hx rfl (hb hby d_prog_4_method_5_code_6) rfl (l' := #[.val (.ref sS), .val (.ref xr_q1), .val (.int (4 : Int32)), .unset, .unset]) rfl k) ?_
  show Goes _ _ _ _ _ _ _ _ (Tq1.setTop (mkF m 7 #[.val (.ref sS), .val (.ref xr_q1), .val (.int (4 : Int32)), .unset, .unset] []))
  refine Goes.via (fun _ k => XT.iconstV Xq1.here hx rfl (0 : Int32) (hb hby d_prog_4_method_5_code_7) (by decide) k) ?_
  show Goes _ _ _ _ _ _ _ _ (Tq1.setTop (mkF m 8 #[.val (.ref sS), .val (.ref xr_q1), .val (.int (4 : Int32)), .unset, .unset] [(.int (0 : Int32))]))
  refine Goes.via (fun _ k => XS.istoreN Xq1.here hx rfl (hb hby d_prog_4_method_5_code_8) rfl (l' := #[.val (.ref sS), .val (.ref xr_q1), .val (.int (4 : Int32)), .val (.int (0 : Int32)), .unset]) rfl k) ?_
  show Goes _ _ _ _ _ _ _ _ (Tq1.setTop (mkF m 9 #[.val (.ref sS), .val (.ref xr_q1), .val (.int (4 : Int32)), .val (.int (0 : Int32)), .unset] []))
  refine Goes.via (fun _ k => XS.iloadN Xq1.here hx rfl (hb hby d_prog_4_method_5_code_9) rfl k) ?_
  show Goes _ _ _ _ _ _ _ _ (Tq1.setTop (mkF m 10 #[.val (.ref sS), .val (.ref xr_q1), .val (.int (4 : Int32)), .val (.int (0 : Int32)), .unset] [(.int (0 : Int32))]))
  refine Goes.via (fun _ k => XS.iloadN Xq1.here hx rfl (hb hby d_prog_4_method_5_code_10) rfl k) ?_
  show Goes _ _ _ _ _ _ _ _ (Tq1.setTop (mkF m 11 #[.val (.ref sS), .val (.ref xr_q1), .val (.int (4 : Int32)), .val (.int (0 : Int32)), .unset] [(.int (4 : Int32)), (.int (0 : Int32))]))
  refine Goes.via (fun _ k => XS.icmpNo Xq1.here hx rfl (hb hby d_prog_4_method_5_code_11) rfl (XT.ii_ge_f (by decide)) k) ?_
  show Goes _ _ _ _ _ _ _ _ (Tq1.setTop (mkF m 14 #[.val (.ref sS), .val (.ref xr_q1), .val (.int (4 : Int32)), .val (.int (0 : Int32)), .unset] []))
  refine Goes.via (fun _ k => XS.aloadN Xq1.here hx rfl (hb hby d_prog_4_method_5_code_14) rfl rfl k) ?_
  show Goes _ _ _ _ _ _ _ _ (Tq1.setTop (mkF m 15 #[.val (.ref sS), .val (.ref xr_q1), .val (.int (4 : Int32)), .val (.int (0 : Int32)), .unset] [(.ref xr_q1)]))
  refine Goes.via (fun _ k => XS.iloadN Xq1.here hx rfl (hb hby d_prog_4_method_5_code_15) rfl k) ?_
  show Goes _ _ _ _ _ _ _ _ (Tq1.setTop (mkF m 16 #[.val (.ref sS), .val (.ref xr_q1), .val (.int (4 : Int32)), .val (.int (0 : Int32)), .unset] [(.int (0 : Int32)), (.ref xr_q1)]))
  obtain ⟨clq3, Arq3, qq3, Sq3, Nnq3, Hq3, Gq3⟩ := id pq1_3
  have hinq3 : ¬ ((0 : Int32) < 0 ∨ clq3.slots.size ≤ ((0 : Int32)).toNatClampNeg) := inb_of Sq3 ⟨by decide, by decide⟩
  refine Goes.via (Xq1.aaload hx (j := (0 : Int32)) (v := (.ref t0)) Arq3.1 (State.isArrayOf_alike hZ.alike Arq3.2.1) rfl Arq3.2.2 hinq3 (Hq3.at hinq3 rfl) (g := (mkF m 16 #[.val (.ref sS), .val (.ref xr_q1), .val (.int (4 : Int32)), .val (.int (0 : Int32)), .unset] [(.int (0 : Int32)), (.ref xr_q1)])) rfl rfl (hb hby d_prog_4_method_5_code_16)) ?_
  show Goes _ _ _ _ _ _ _ _ (Tq1.setTop (mkF m 17 #[.val (.ref sS), .val (.ref xr_q1), .val (.int (4 : Int32)), .val (.int (0 : Int32)), .unset] [(.ref t0)]))
  refine Goes.via (fun _ k => XS.astore Xq1.here hx rfl (hb hby d_prog_4_method_5_code_17) rfl rfl (l' := #[.val (.ref sS), .val (.ref xr_q1), .val (.int (4 : Int32)), .val (.int (0 : Int32)), .val (.ref t0)]) rfl k) ?_
  show Goes _ _ _ _ _ _ _ _ (Tq1.setTop (mkF m 19 #[.val (.ref sS), .val (.ref xr_q1), .val (.int (4 : Int32)), .val (.int (0 : Int32)), .val (.ref t0)] []))
  refine Goes.via (fun _ k => XS.aload Xq1.here hx rfl (hb hby d_prog_4_method_5_code_19) rfl rfl k) ?_
  show Goes _ _ _ _ _ _ _ _ (Tq1.setTop (mkF m 21 #[.val (.ref sS), .val (.ref xr_q1), .val (.int (4 : Int32)), .val (.int (0 : Int32)), .val (.ref t0)] [(.ref t0)]))
  have fq5 : Fld Z Tq1.heap t0 "com/example/dispatch_note/dispatchnote/contract/ManagedMember" "memberName" "Ljava/lang/String;" (.ref u0) := (F0.ext Oq1.2)
  obtain ⟨Tq4, Xq4, eq4, stq4⟩ := getF Xq1 hx hZ hown (host := "") (Or.inl (W_73 hw)) Via.refl rfl fq5 (g := (mkF m 21 #[.val (.ref sS), .val (.ref xr_q1), .val (.int (4 : Int32)), .val (.int (0 : Int32)), .val (.ref t0)] [(.ref t0)])) rfl rfl (hb hby d_prog_4_method_5_code_21)
  refine Goes.via stq4 ?_
  show Goes _ _ _ _ _ _ _ _ (Tq4.setTop (mkF m 24 #[.val (.ref sS), .val (.ref xr_q1), .val (.int (4 : Int32)), .val (.int (0 : Int32)), .val (.ref t0)] [(.ref u0)]))
  refine Goes.via (fun _ k => XS.aloadN Xq4.here hx rfl (hb hby d_prog_4_method_5_code_24) rfl rfl k) ?_
  show Goes _ _ _ _ _ _ _ _ (Tq4.setTop (mkF m 25 #[.val (.ref sS), .val (.ref xr_q1), .val (.int (4 : Int32)), .val (.int (0 : Int32)), .val (.ref t0)] [(.ref sS), (.ref u0)]))
  have fq7 : Exa Z Tq1.heap u0 "java/lang/String" := (EU0.ext Oq1.2)
  have fq8 : Fld Z Tq1.heap u0 "java/lang/String" "value" "[B" (.ref y0) := (VU0.ext Oq1.2)
  have fq9 : Fld Z Tq1.heap u0 "java/lang/String" "coder" "B" (.int (0 : Int32)) := (CU0.ext Oq1.2)
  have fq10 : Arv Z Tq1.heap y0 ky0 .byte (2 : Int32) [(.int (105 : Int32)), (.int (100 : Int32))] (.int (0 : Int32)) := (AU0.ext Oq1.2)
  have fq11 : Exa Z Tq1.heap sS "java/lang/String" := (ES.keep pq1_1)
  have fq12 : Fld Z Tq1.heap sS "java/lang/String" "value" "[B" (.ref wS) := (VS.keep pq1_1 nin0)
  have fq13 : Fld Z Tq1.heap sS "java/lang/String" "coder" "B" (.int (0 : Int32)) := (CSS.keep pq1_1 nin0)
  have fq14 : Arv Z Tq1.heap wS kS .byte NS1 vS (.int (0 : Int32)) := (AS.keep pq1_1 nin0)
  have fq15 : Sta Z Tq1.heap "java/lang/String" "COMPACT_STRINGS" "Z" (.int cz) := (CS.ext Oq1.2)
  obtain ⟨vq6, Tq6, Lq6, Xq6, ⟨qq6, rfl, eq6⟩, stq6⟩ := callViB (Qb := fun v h' L => ((v = some (.int 1) ∧ LIT_0 = csS) ∨ (v = some (.int 0) ∧ ¬ LIT_0 = csS)) ∧ L = [] ∧ h' = Tq1.heap) Xq4 hx hZ hown (StrChars.Road.eqW (W := 0) hZ (hwEq hw) (kI := 4) (W_6 hw) fq7 fq8 fq9 fq10 codL_0 rgL_0 (Nat.le_of_ble_eq_true rfl) fq11 fq12 fq13 fq14 codS rgS lnS fq15 hcz (by decide) (by decide)) (W_75 hw) (W_38 hw) (notFace_of_selects (args := #[]) (mvT hZ (W_40 hw))) (W_40 hw) (W_39 hw) (by decide) eq4 fq7 (by decide) (by decide) (g := (mkF m 25 #[.val (.ref sS), .val (.ref xr_q1), .val (.int (4 : Int32)), .val (.int (0 : Int32)), .val (.ref t0)] [(.ref sS), (.ref u0)])) rfl (by rw [hml]; rfl) (a := u0) (argsL := [(.ref sS)]) (rest := []) rfl (lenOf pd_10 rfl) rfl (by show 2 * 0 + _ ≤ _; exact Nat.le_of_eq rfl) (hb hby d_prog_4_method_5_code_25)
  have Nq6 := Fr.app Nq1 (Fr.nil n0)
  obtain ⟨rfl, ccq6⟩ : vq6 = some (.int 0) ∧ ¬ LIT_0 = csS := qq6.resolve_left (fun z => (fun q => absurd (q.trans hq) (by decide)) z.2)
  refine Goes.via stq6 ?_
  show Goes _ _ _ _ _ _ _ _ (Tq6.setTop (mkF m 28 #[.val (.ref sS), .val (.ref xr_q1), .val (.int (4 : Int32)), .val (.int (0 : Int32)), .val (.ref t0)] [(.int (0 : Int32))]))
  refine Goes.via (fun _ k => XS.ifYes Xq6.here hx rfl (pc0 := 28) (pc' := 37) rfl (hb hby d_prog_4_method_5_code_28) rfl (XT.i0_eq_t (by decide)) (by decide) (by decide) k) ?_
  show Goes _ _ _ _ _ _ _ _ (Tq6.setTop (mkF m 37 #[.val (.ref sS), .val (.ref xr_q1), .val (.int (4 : Int32)), .val (.int (0 : Int32)), .val (.ref t0)] []))
  refine Goes.via (fun _ k => iincZ Xq6.here hx rfl (1 : Int32) (hb hby d_prog_4_method_5_code_37) (by decide) rfl (l' := #[.val (.ref sS), .val (.ref xr_q1), .val (.int (4 : Int32)), .val (.int (1 : Int32)), .val (.ref t0)]) rfl k) ?_
  show Goes _ _ _ _ _ _ _ _ (Tq6.setTop (mkF m 40 #[.val (.ref sS), .val (.ref xr_q1), .val (.int (4 : Int32)), .val (.int (1 : Int32)), .val (.ref t0)] []))
  refine Goes.via (fun _ k => XS.goto Xq6.here hx rfl (pc0 := 40) (pc' := 9) rfl (hb hby d_prog_4_method_5_code_40) (by decide) (by decide) k) ?_
  show Goes _ _ _ _ _ _ _ _ (Tq6.setTop (mkF m 9 #[.val (.ref sS), .val (.ref xr_q1), .val (.int (4 : Int32)), .val (.int (1 : Int32)), .val (.ref t0)] []))
  refine Goes.via (fun _ k => XS.iloadN Xq6.here hx rfl (hb hby d_prog_4_method_5_code_9) rfl k) ?_
  show Goes _ _ _ _ _ _ _ _ (Tq6.setTop (mkF m 10 #[.val (.ref sS), .val (.ref xr_q1), .val (.int (4 : Int32)), .val (.int (1 : Int32)), .val (.ref t0)] [(.int (1 : Int32))]))
  refine Goes.via (fun _ k => XS.iloadN Xq6.here hx rfl (hb hby d_prog_4_method_5_code_10) rfl k) ?_
  show Goes _ _ _ _ _ _ _ _ (Tq6.setTop (mkF m 11 #[.val (.ref sS), .val (.ref xr_q1), .val (.int (4 : Int32)), .val (.int (1 : Int32)), .val (.ref t0)] [(.int (4 : Int32)), (.int (1 : Int32))]))
  refine Goes.via (fun _ k => XS.icmpNo Xq6.here hx rfl (hb hby d_prog_4_method_5_code_11) rfl (XT.ii_ge_f (by decide)) k) ?_
  show Goes _ _ _ _ _ _ _ _ (Tq6.setTop (mkF m 14 #[.val (.ref sS), .val (.ref xr_q1), .val (.int (4 : Int32)), .val (.int (1 : Int32)), .val (.ref t0)] []))
  refine Goes.via (fun _ k => XS.aloadN Xq6.here hx rfl (hb hby d_prog_4_method_5_code_14) rfl rfl k) ?_
  show Goes _ _ _ _ _ _ _ _ (Tq6.setTop (mkF m 15 #[.val (.ref sS), .val (.ref xr_q1), .val (.int (4 : Int32)), .val (.int (1 : Int32)), .val (.ref t0)] [(.ref xr_q1)]))
  refine Goes.via (fun _ k => XS.iloadN Xq6.here hx rfl (hb hby d_prog_4_method_5_code_15) rfl k) ?_
  show Goes _ _ _ _ _ _ _ _ (Tq6.setTop (mkF m 16 #[.val (.ref sS), .val (.ref xr_q1), .val (.int (4 : Int32)), .val (.int (1 : Int32)), .val (.ref t0)] [(.int (1 : Int32)), (.ref xr_q1)]))
  obtain ⟨clq16, Arq16, qq16, Sq16, Nnq16, Hq16, Gq16⟩ := id pq1_3
  have hinq16 : ¬ ((1 : Int32) < 0 ∨ clq16.slots.size ≤ ((1 : Int32)).toNatClampNeg) := inb_of Sq16 ⟨by decide, by decide⟩
  refine Goes.via (Xq6.aaload hx (j := (1 : Int32)) (v := (.ref t1)) (by rw [eq6]; exact Arq16.1) (State.isArrayOf_alike hZ.alike Arq16.2.1) rfl Arq16.2.2 hinq16 (Hq16.at hinq16 rfl) (g := (mkF m 16 #[.val (.ref sS), .val (.ref xr_q1), .val (.int (4 : Int32)), .val (.int (1 : Int32)), .val (.ref t0)] [(.int (1 : Int32)), (.ref xr_q1)])) rfl rfl (hb hby d_prog_4_method_5_code_16)) ?_
  show Goes _ _ _ _ _ _ _ _ (Tq6.setTop (mkF m 17 #[.val (.ref sS), .val (.ref xr_q1), .val (.int (4 : Int32)), .val (.int (1 : Int32)), .val (.ref t0)] [(.ref t1)]))
  refine Goes.via (fun _ k => XS.astore Xq6.here hx rfl (hb hby d_prog_4_method_5_code_17) rfl rfl (l' := #[.val (.ref sS), .val (.ref xr_q1), .val (.int (4 : Int32)), .val (.int (1 : Int32)), .val (.ref t1)]) rfl k) ?_
  show Goes _ _ _ _ _ _ _ _ (Tq6.setTop (mkF m 19 #[.val (.ref sS), .val (.ref xr_q1), .val (.int (4 : Int32)), .val (.int (1 : Int32)), .val (.ref t1)] []))
  refine Goes.via (fun _ k => XS.aload Xq6.here hx rfl (hb hby d_prog_4_method_5_code_19) rfl rfl k) ?_
  show Goes _ _ _ _ _ _ _ _ (Tq6.setTop (mkF m 21 #[.val (.ref sS), .val (.ref xr_q1), .val (.int (4 : Int32)), .val (.int (1 : Int32)), .val (.ref t1)] [(.ref t1)]))
  have fq18 : Fld Z Tq1.heap t1 "com/example/dispatch_note/dispatchnote/contract/ManagedMember" "memberName" "Ljava/lang/String;" (.ref u1) := (F1.ext Oq1.2)
  obtain ⟨Tq17, Xq17, eq17, stq17⟩ := getF Xq6 hx hZ hown (host := "") (Or.inl (W_73 hw)) Via.refl eq6 fq18 (g := (mkF m 21 #[.val (.ref sS), .val (.ref xr_q1), .val (.int (4 : Int32)), .val (.int (1 : Int32)), .val (.ref t1)] [(.ref t1)])) rfl rfl (hb hby d_prog_4_method_5_code_21)
  refine Goes.via stq17 ?_
  show Goes _ _ _ _ _ _ _ _ (Tq17.setTop (mkF m 24 #[.val (.ref sS), .val (.ref xr_q1), .val (.int (4 : Int32)), .val (.int (1 : Int32)), .val (.ref t1)] [(.ref u1)]))
  refine Goes.via (fun _ k => XS.aloadN Xq17.here hx rfl (hb hby d_prog_4_method_5_code_24) rfl rfl k) ?_
  show Goes _ _ _ _ _ _ _ _ (Tq17.setTop (mkF m 25 #[.val (.ref sS), .val (.ref xr_q1), .val (.int (4 : Int32)), .val (.int (1 : Int32)), .val (.ref t1)] [(.ref sS), (.ref u1)]))
  have fq20 : Exa Z Tq1.heap u1 "java/lang/String" := (EU1.ext Oq1.2)
  have fq21 : Fld Z Tq1.heap u1 "java/lang/String" "value" "[B" (.ref y1) := (VU1.ext Oq1.2)
  have fq22 : Fld Z Tq1.heap u1 "java/lang/String" "coder" "B" (.int (0 : Int32)) := (CU1.ext Oq1.2)
  have fq23 : Arv Z Tq1.heap y1 ky1 .byte (7 : Int32) [(.int (118 : Int32)), (.int (101 : Int32)), (.int (114 : Int32)), (.int (115 : Int32)), (.int (105 : Int32)), (.int (111 : Int32)), (.int (110 : Int32))] (.int (0 : Int32)) := (AU1.ext Oq1.2)
  obtain ⟨vq19, Tq19, Lq19, Xq19, ⟨qq19, rfl, eq19⟩, stq19⟩ := callViB (Qb := fun v h' L => ((v = some (.int 1) ∧ LIT_1 = csS) ∨ (v = some (.int 0) ∧ ¬ LIT_1 = csS)) ∧ L = [] ∧ h' = Tq1.heap) Xq17 hx hZ hown (StrChars.Road.eqW (W := 0) hZ (hwEq hw) (kI := 4) (W_6 hw) fq20 fq21 fq22 fq23 codL_1 rgL_1 (Nat.le_of_ble_eq_true rfl) fq11 fq12 fq13 fq14 codS rgS lnS fq15 hcz (by decide) (by decide)) (W_75 hw) (W_38 hw) (notFace_of_selects (args := #[]) (mvT hZ (W_40 hw))) (W_40 hw) (W_39 hw) (by decide) eq17 fq20 (by decide) (by decide) (g := (mkF m 25 #[.val (.ref sS), .val (.ref xr_q1), .val (.int (4 : Int32)), .val (.int (1 : Int32)), .val (.ref t1)] [(.ref sS), (.ref u1)])) rfl (by rw [hml]; rfl) (a := u1) (argsL := [(.ref sS)]) (rest := []) rfl (lenOf pd_10 rfl) rfl (by show 2 * 0 + _ ≤ _; exact Nat.le_of_eq rfl) (hb hby d_prog_4_method_5_code_25)
  have Nq19 := Fr.app Nq6 (Fr.nil n0)
  obtain ⟨rfl, ccq19⟩ : vq19 = some (.int 0) ∧ ¬ LIT_1 = csS := qq19.resolve_left (fun z => (fun q => absurd (q.trans hq) (by decide)) z.2)
  refine Goes.via stq19 ?_
  show Goes _ _ _ _ _ _ _ _ (Tq19.setTop (mkF m 28 #[.val (.ref sS), .val (.ref xr_q1), .val (.int (4 : Int32)), .val (.int (1 : Int32)), .val (.ref t1)] [(.int (0 : Int32))]))
  refine Goes.via (fun _ k => XS.ifYes Xq19.here hx rfl (pc0 := 28) (pc' := 37) rfl (hb hby d_prog_4_method_5_code_28) rfl (XT.i0_eq_t (by decide)) (by decide) (by decide) k) ?_
  show Goes _ _ _ _ _ _ _ _ (Tq19.setTop (mkF m 37 #[.val (.ref sS), .val (.ref xr_q1), .val (.int (4 : Int32)), .val (.int (1 : Int32)), .val (.ref t1)] []))
  refine Goes.via (fun _ k => iincZ Xq19.here hx rfl (2 : Int32) (hb hby d_prog_4_method_5_code_37) (by decide) rfl (l' := #[.val (.ref sS), .val (.ref xr_q1), .val (.int (4 : Int32)), .val (.int (2 : Int32)), .val (.ref t1)]) rfl k) ?_
  show Goes _ _ _ _ _ _ _ _ (Tq19.setTop (mkF m 40 #[.val (.ref sS), .val (.ref xr_q1), .val (.int (4 : Int32)), .val (.int (2 : Int32)), .val (.ref t1)] []))
  refine Goes.via (fun _ k => XS.goto Xq19.here hx rfl (pc0 := 40) (pc' := 9) rfl (hb hby d_prog_4_method_5_code_40) (by decide) (by decide) k) ?_
  show Goes _ _ _ _ _ _ _ _ (Tq19.setTop (mkF m 9 #[.val (.ref sS), .val (.ref xr_q1), .val (.int (4 : Int32)), .val (.int (2 : Int32)), .val (.ref t1)] []))
  refine Goes.via (fun _ k => XS.iloadN Xq19.here hx rfl (hb hby d_prog_4_method_5_code_9) rfl k) ?_
  show Goes _ _ _ _ _ _ _ _ (Tq19.setTop (mkF m 10 #[.val (.ref sS), .val (.ref xr_q1), .val (.int (4 : Int32)), .val (.int (2 : Int32)), .val (.ref t1)] [(.int (2 : Int32))]))
  refine Goes.via (fun _ k => XS.iloadN Xq19.here hx rfl (hb hby d_prog_4_method_5_code_10) rfl k) ?_
  show Goes _ _ _ _ _ _ _ _ (Tq19.setTop (mkF m 11 #[.val (.ref sS), .val (.ref xr_q1), .val (.int (4 : Int32)), .val (.int (2 : Int32)), .val (.ref t1)] [(.int (4 : Int32)), (.int (2 : Int32))]))
  refine Goes.via (fun _ k => XS.icmpNo Xq19.here hx rfl (hb hby d_prog_4_method_5_code_11) rfl (XT.ii_ge_f (by decide)) k) ?_
  show Goes _ _ _ _ _ _ _ _ (Tq19.setTop (mkF m 14 #[.val (.ref sS), .val (.ref xr_q1), .val (.int (4 : Int32)), .val (.int (2 : Int32)), .val (.ref t1)] []))
  refine Goes.via (fun _ k => XS.aloadN Xq19.here hx rfl (hb hby d_prog_4_method_5_code_14) rfl rfl k) ?_
  show Goes _ _ _ _ _ _ _ _ (Tq19.setTop (mkF m 15 #[.val (.ref sS), .val (.ref xr_q1), .val (.int (4 : Int32)), .val (.int (2 : Int32)), .val (.ref t1)] [(.ref xr_q1)]))
  refine Goes.via (fun _ k => XS.iloadN Xq19.here hx rfl (hb hby d_prog_4_method_5_code_15) rfl k) ?_
  show Goes _ _ _ _ _ _ _ _ (Tq19.setTop (mkF m 16 #[.val (.ref sS), .val (.ref xr_q1), .val (.int (4 : Int32)), .val (.int (2 : Int32)), .val (.ref t1)] [(.int (2 : Int32)), (.ref xr_q1)]))
  exact named_3_c2 l Z aw hw sS wS kS NS1 vS csS ar kz0 t0 t1 t2 t3 u0 y0 ky0 u1 y1 ky1 u2 y2 ky2 u3 y3 ky3 em cz xr_q1 xkr_q1 hx hby hml hrt hlk hnm hZ hown Xq19 eq19 Nq19 (by decide) (by decide) Oq1 ((Keep.refl _ []).trans pq1_1 all0) S0 V0 E0 CS SE F0 EU0 CU0 VU0 AU0 F1 EU1 CU1 VU1 AU1 F2 EU2 CU2 VU2 AU2 F3 EU3 CU3 VU3 AU3 fq11 fq12 fq13 fq14 pq1_2 pq1_3 hcz codS rgS lnS hq (by omega) (by omega) (by omega) (by omega)
theorem ef_named_n (m : MethodId) (sS : Nat) : entryFrame m #[(.ref sS)] 5 = mkF m 0 #[.val (.ref sS), .unset, .unset, .unset, .unset] [] := by first | (simp [entryFrame, mkF, argsToLocals, Value.category]; done) | rfl
set_option maxRecDepth 65536 in
set_option maxHeartbeats 40000000 in
theorem named_n_c3 (l : Launch) (Z : State) (aw : Array Value) (hw : ∀ d ∈ tables_1, d.before aw Z = true) (sS : Nat) (wS : Nat) (kS : ClassId) (NS1 : Int32) (vS : List Value) (csS : List Int32) (ar : Nat) (kz0 : ClassId) (t0 : Nat) (t1 : Nat) (t2 : Nat) (t3 : Nat) (u0 : Nat) (y0 : Nat) (ky0 : ClassId) (u1 : Nat) (y1 : Nat) (ky1 : ClassId) (u2 : Nat) (y2 : Nat) (ky2 : ClassId) (u3 : Nat) (y3 : Nat) (ky3 : ClassId) (em : Nat) (cz : Int32) (xr_q1 : Nat) (xkr_q1 : ClassId) {p : Program} {e : Env} {s : State} {m : MethodId} {args : Array Value} {below : List Frame} {meth : Method} {c : Code} {T : State} {locs : List Loc} {cells slots n0 : Nat} {h0 h1 : Heap} (hx : p.tables.exec = Jvm.exec) (hby : c.code = prog_4_method_5_code) (hml : c.maxLocals = 5) (hrt : meth.sig.returnType = some (.object "java/util/Optional")) (hlk : meth.locks = false) (hnm : meth.name = "named") (hZ : Z.Warmed39 s.vm) (hown : s.vm.findClass "com/example/dispatch_note/dispatchnote/contract/ManagedMember" = some m.cls) (X : Stand p l e ({ frames := 3, cells := 2, slots := 8, locals := 50 } : Room) s m args below meth c T locs cells slots) (e0 : T.heap = h1) (N : Fr n0 locs) (hcells : cells ≤ 1) (hslots : slots ≤ 4) (O : Old Z n0 h1) (K0 : Keep h0 h1 []) (S0 : Sta Z Z.heap "com/example/dispatch_note/dispatchnote/contract/ManagedMember" "$VALUES" "[Lcom/example/dispatch_note/dispatchnote/contract/ManagedMember;" (.ref ar)) (V0 : Arv Z Z.heap ar kz0 (.object "com/example/dispatch_note/dispatchnote/contract/ManagedMember") (4 : Int32) [(.ref t0), (.ref t1), (.ref t2), (.ref t3)] .null) (E0 : Exa Z Z.heap ar "[Lcom/example/dispatch_note/dispatchnote/contract/ManagedMember;") (CS : Sta Z Z.heap "java/lang/String" "COMPACT_STRINGS" "Z" (.int cz)) (SE : Sta Z Z.heap "java/util/Optional" "EMPTY" "Ljava/util/Optional;" (.ref em)) (F0 : Fld Z Z.heap t0 "com/example/dispatch_note/dispatchnote/contract/ManagedMember" "memberName" "Ljava/lang/String;" (.ref u0)) (EU0 : Exa Z Z.heap u0 "java/lang/String") (CU0 : Fld Z Z.heap u0 "java/lang/String" "coder" "B" (.int (0 : Int32))) (VU0 : Fld Z Z.heap u0 "java/lang/String" "value" "[B" (.ref y0)) (AU0 : Arv Z Z.heap y0 ky0 .byte (2 : Int32) [(.int (105 : Int32)), (.int (100 : Int32))] (.int (0 : Int32))) (F1 : Fld Z Z.heap t1 "com/example/dispatch_note/dispatchnote/contract/ManagedMember" "memberName" "Ljava/lang/String;" (.ref u1)) (EU1 : Exa Z Z.heap u1 "java/lang/String") (CU1 : Fld Z Z.heap u1 "java/lang/String" "coder" "B" (.int (0 : Int32))) (VU1 : Fld Z Z.heap u1 "java/lang/String" "value" "[B" (.ref y1)) (AU1 : Arv Z Z.heap y1 ky1 .byte (7 : Int32) [(.int (118 : Int32)), (.int (101 : Int32)), (.int (114 : Int32)), (.int (115 : Int32)), (.int (105 : Int32)), (.int (111 : Int32)), (.int (110 : Int32))] (.int (0 : Int32))) (F2 : Fld Z Z.heap t2 "com/example/dispatch_note/dispatchnote/contract/ManagedMember" "memberName" "Ljava/lang/String;" (.ref u2)) (EU2 : Exa Z Z.heap u2 "java/lang/String") (CU2 : Fld Z Z.heap u2 "java/lang/String" "coder" "B" (.int (0 : Int32))) (VU2 : Fld Z Z.heap u2 "java/lang/String" "value" "[B" (.ref y2)) (AU2 : Arv Z Z.heap y2 ky2 .byte (9 : Int32) [(.int (99 : Int32)), (.int (114 : Int32)), (.int (101 : Int32)), (.int (97 : Int32)), (.int (116 : Int32)), (.int (101 : Int32)), (.int (100 : Int32)), (.int (65 : Int32)), (.int (116 : Int32))] (.int (0 : Int32))) (F3 : Fld Z Z.heap t3 "com/example/dispatch_note/dispatchnote/contract/ManagedMember" "memberName" "Ljava/lang/String;" (.ref u3)) (EU3 : Exa Z Z.heap u3 "java/lang/String") (CU3 : Fld Z Z.heap u3 "java/lang/String" "coder" "B" (.int (0 : Int32))) (VU3 : Fld Z Z.heap u3 "java/lang/String" "value" "[B" (.ref y3)) (AU3 : Arv Z Z.heap y3 ky3 .byte (9 : Int32) [(.int (117 : Int32)), (.int (112 : Int32)), (.int (100 : Int32)), (.int (97 : Int32)), (.int (116 : Int32)), (.int (101 : Int32)), (.int (100 : Int32)), (.int (65 : Int32)), (.int (116 : Int32))] (.int (0 : Int32))) (pf0 : Exa Z h1 sS "java/lang/String") (pf1 : Fld Z h1 sS "java/lang/String" "value" "[B" (.ref wS)) (pf2 : Fld Z h1 sS "java/lang/String" "coder" "B" (.int (0 : Int32))) (pf3 : Arv Z h1 wS kS .byte NS1 vS (.int (0 : Int32))) (pf4 : Exa Z h1 xr_q1 "[Lcom/example/dispatch_note/dispatchnote/contract/ManagedMember;") (pf5 : Arv Z h1 xr_q1 xkr_q1 (.object "com/example/dispatch_note/dispatchnote/contract/ManagedMember") (4 : Int32) [(.ref t0), (.ref t1), (.ref t2), (.ref t3)] .null) (hcz : ¬ cz = (0 : Int32)) (codS : StrChars.Road.CodA csS 0 NS1 vS) (rgS : ∀ c ∈ csS, ¬ c < 0 ∧ ¬ (65535 : Int32) < c) (lnS : csS.length ≤ 4000) (hq0 : ¬ csS = LIT_0) (hq1 : ¬ csS = LIT_1) (hq2 : ¬ csS = LIT_2) (hq3 : ¬ csS = LIT_3) (cn1 : n0 ≤ xr_q1) (cn2 : h0.size ≤ xr_q1) (cn3 : sS < xr_q1) (cn4 : sS < h0.size) :
    Goes p e below s ({ frames := 3, cells := 2, slots := 8, locals := 50 } : Room).cells ({ frames := 3, cells := 2, slots := 8, locals := 50 } : Room).slots n0 (fun vv hh => vv = some (.ref em) ∧ Keep h0 hh []) (T.setTop (mkF m 16 #[.val (.ref sS), .val (.ref xr_q1), .val (.int (4 : Int32)), .val (.int (2 : Int32)), .val (.ref t1)] [(.int (2 : Int32)), (.ref xr_q1)])) := by
  have zO := O.le
  have zK := K0.1
  have lt_sS := lt_nat pf0.lt
  have lt_wS := lt_nat pf3.lt
  have lt_xr_q1 := lt_nat pf4.lt
  show Goes _ _ _ _ _ _ _ _ (T.setTop (mkF m 16 #[.val (.ref sS), .val (.ref xr_q1), .val (.int (4 : Int32)), .val (.int (2 : Int32)), .val (.ref t1)] [(.int (2 : Int32)), (.ref xr_q1)]))
  obtain ⟨clq24, Arq24, qq24, Sq24, Nnq24, Hq24, Gq24⟩ := id pf5
  have hinq24 : ¬ ((2 : Int32) < 0 ∨ clq24.slots.size ≤ ((2 : Int32)).toNatClampNeg) := inb_of Sq24 ⟨by decide, by decide⟩
  refine Goes.via (X.aaload hx (j := (2 : Int32)) (v := (.ref t2)) (by rw [e0]; exact Arq24.1) (State.isArrayOf_alike hZ.alike Arq24.2.1) rfl Arq24.2.2 hinq24 (Hq24.at hinq24 rfl) (g := (mkF m 16 #[.val (.ref sS), .val (.ref xr_q1), .val (.int (4 : Int32)), .val (.int (2 : Int32)), .val (.ref t1)] [(.int (2 : Int32)), (.ref xr_q1)])) rfl rfl (hb hby d_prog_4_method_5_code_16)) ?_
  show Goes _ _ _ _ _ _ _ _ (T.setTop (mkF m 17 #[.val (.ref sS), .val (.ref xr_q1), .val (.int (4 : Int32)), .val (.int (2 : Int32)), .val (.ref t1)] [(.ref t2)]))
  refine Goes.via (fun _ k => XS.astore X.here hx rfl (hb hby d_prog_4_method_5_code_17) rfl rfl (l' := #[.val (.ref sS), .val (.ref xr_q1), .val (.int (4 : Int32)), .val (.int (2 : Int32)), .val (.ref t2)]) rfl k) ?_
  show Goes _ _ _ _ _ _ _ _ (T.setTop (mkF m 19 #[.val (.ref sS), .val (.ref xr_q1), .val (.int (4 : Int32)), .val (.int (2 : Int32)), .val (.ref t2)] []))
  refine Goes.via (fun _ k => XS.aload X.here hx rfl (hb hby d_prog_4_method_5_code_19) rfl rfl k) ?_
  show Goes _ _ _ _ _ _ _ _ (T.setTop (mkF m 21 #[.val (.ref sS), .val (.ref xr_q1), .val (.int (4 : Int32)), .val (.int (2 : Int32)), .val (.ref t2)] [(.ref t2)]))
  have fq26 : Fld Z h1 t2 "com/example/dispatch_note/dispatchnote/contract/ManagedMember" "memberName" "Ljava/lang/String;" (.ref u2) := (F2.ext O.2)
  obtain ⟨Tq25, Xq25, eq25, stq25⟩ := getF X hx hZ hown (host := "") (Or.inl (W_73 hw)) Via.refl e0 fq26 (g := (mkF m 21 #[.val (.ref sS), .val (.ref xr_q1), .val (.int (4 : Int32)), .val (.int (2 : Int32)), .val (.ref t2)] [(.ref t2)])) rfl rfl (hb hby d_prog_4_method_5_code_21)
  refine Goes.via stq25 ?_
  show Goes _ _ _ _ _ _ _ _ (Tq25.setTop (mkF m 24 #[.val (.ref sS), .val (.ref xr_q1), .val (.int (4 : Int32)), .val (.int (2 : Int32)), .val (.ref t2)] [(.ref u2)]))
  refine Goes.via (fun _ k => XS.aloadN Xq25.here hx rfl (hb hby d_prog_4_method_5_code_24) rfl rfl k) ?_
  show Goes _ _ _ _ _ _ _ _ (Tq25.setTop (mkF m 25 #[.val (.ref sS), .val (.ref xr_q1), .val (.int (4 : Int32)), .val (.int (2 : Int32)), .val (.ref t2)] [(.ref sS), (.ref u2)]))
  have fq28 : Exa Z h1 u2 "java/lang/String" := (EU2.ext O.2)
  have fq29 : Fld Z h1 u2 "java/lang/String" "value" "[B" (.ref y2) := (VU2.ext O.2)
  have fq30 : Fld Z h1 u2 "java/lang/String" "coder" "B" (.int (0 : Int32)) := (CU2.ext O.2)
  have fq31 : Arv Z h1 y2 ky2 .byte (9 : Int32) [(.int (99 : Int32)), (.int (114 : Int32)), (.int (101 : Int32)), (.int (97 : Int32)), (.int (116 : Int32)), (.int (101 : Int32)), (.int (100 : Int32)), (.int (65 : Int32)), (.int (116 : Int32))] (.int (0 : Int32)) := (AU2.ext O.2)
  have fq32 : Sta Z h1 "java/lang/String" "COMPACT_STRINGS" "Z" (.int cz) := (CS.ext O.2)
  obtain ⟨vq27, Tq27, Lq27, Xq27, ⟨qq27, rfl, eq27⟩, stq27⟩ := callViB (Qb := fun v h' L => ((v = some (.int 1) ∧ LIT_2 = csS) ∨ (v = some (.int 0) ∧ ¬ LIT_2 = csS)) ∧ L = [] ∧ h' = h1) Xq25 hx hZ hown (StrChars.Road.eqW (W := 0) hZ (hwEq hw) (kI := 4) (W_6 hw) fq28 fq29 fq30 fq31 codL_2 rgL_2 (Nat.le_of_ble_eq_true rfl) pf0 pf1 pf2 pf3 codS rgS lnS fq32 hcz (by decide) (by decide)) (W_75 hw) (W_38 hw) (notFace_of_selects (args := #[]) (mvT hZ (W_40 hw))) (W_40 hw) (W_39 hw) (by decide) eq25 fq28 (by show _ + 0 ≤ 2; omega) (by show _ + 0 ≤ 8; omega) (g := (mkF m 25 #[.val (.ref sS), .val (.ref xr_q1), .val (.int (4 : Int32)), .val (.int (2 : Int32)), .val (.ref t2)] [(.ref sS), (.ref u2)])) rfl (by rw [hml]; rfl) (a := u2) (argsL := [(.ref sS)]) (rest := []) rfl (lenOf pd_10 rfl) rfl (by show 2 * 0 + _ ≤ _; exact Nat.le_of_eq rfl) (hb hby d_prog_4_method_5_code_25)
  have Nq27 := Fr.app N (Fr.nil n0)
  obtain ⟨rfl, ccq27⟩ : vq27 = some (.int 0) ∧ ¬ LIT_2 = csS := qq27.resolve_left (fun z => (fun q => hq2 q.symm) z.2)
  refine Goes.via stq27 ?_
  show Goes _ _ _ _ _ _ _ _ (Tq27.setTop (mkF m 28 #[.val (.ref sS), .val (.ref xr_q1), .val (.int (4 : Int32)), .val (.int (2 : Int32)), .val (.ref t2)] [(.int (0 : Int32))]))
  refine Goes.via (fun _ k => XS.ifYes Xq27.here hx rfl (pc0 := 28) (pc' := 37) rfl (hb hby d_prog_4_method_5_code_28) rfl (XT.i0_eq_t (by decide)) (by decide) (by decide) k) ?_
  show Goes _ _ _ _ _ _ _ _ (Tq27.setTop (mkF m 37 #[.val (.ref sS), .val (.ref xr_q1), .val (.int (4 : Int32)), .val (.int (2 : Int32)), .val (.ref t2)] []))
  refine Goes.via (fun _ k => iincZ Xq27.here hx rfl (3 : Int32) (hb hby d_prog_4_method_5_code_37) (by decide) rfl (l' := #[.val (.ref sS), .val (.ref xr_q1), .val (.int (4 : Int32)), .val (.int (3 : Int32)), .val (.ref t2)]) rfl k) ?_
  show Goes _ _ _ _ _ _ _ _ (Tq27.setTop (mkF m 40 #[.val (.ref sS), .val (.ref xr_q1), .val (.int (4 : Int32)), .val (.int (3 : Int32)), .val (.ref t2)] []))
  refine Goes.via (fun _ k => XS.goto Xq27.here hx rfl (pc0 := 40) (pc' := 9) rfl (hb hby d_prog_4_method_5_code_40) (by decide) (by decide) k) ?_
  show Goes _ _ _ _ _ _ _ _ (Tq27.setTop (mkF m 9 #[.val (.ref sS), .val (.ref xr_q1), .val (.int (4 : Int32)), .val (.int (3 : Int32)), .val (.ref t2)] []))
  refine Goes.via (fun _ k => XS.iloadN Xq27.here hx rfl (hb hby d_prog_4_method_5_code_9) rfl k) ?_
  show Goes _ _ _ _ _ _ _ _ (Tq27.setTop (mkF m 10 #[.val (.ref sS), .val (.ref xr_q1), .val (.int (4 : Int32)), .val (.int (3 : Int32)), .val (.ref t2)] [(.int (3 : Int32))]))
  refine Goes.via (fun _ k => XS.iloadN Xq27.here hx rfl (hb hby d_prog_4_method_5_code_10) rfl k) ?_
  show Goes _ _ _ _ _ _ _ _ (Tq27.setTop (mkF m 11 #[.val (.ref sS), .val (.ref xr_q1), .val (.int (4 : Int32)), .val (.int (3 : Int32)), .val (.ref t2)] [(.int (4 : Int32)), (.int (3 : Int32))]))
  refine Goes.via (fun _ k => XS.icmpNo Xq27.here hx rfl (hb hby d_prog_4_method_5_code_11) rfl (XT.ii_ge_f (by decide)) k) ?_
  show Goes _ _ _ _ _ _ _ _ (Tq27.setTop (mkF m 14 #[.val (.ref sS), .val (.ref xr_q1), .val (.int (4 : Int32)), .val (.int (3 : Int32)), .val (.ref t2)] []))
  refine Goes.via (fun _ k => XS.aloadN Xq27.here hx rfl (hb hby d_prog_4_method_5_code_14) rfl rfl k) ?_
  show Goes _ _ _ _ _ _ _ _ (Tq27.setTop (mkF m 15 #[.val (.ref sS), .val (.ref xr_q1), .val (.int (4 : Int32)), .val (.int (3 : Int32)), .val (.ref t2)] [(.ref xr_q1)]))
  refine Goes.via (fun _ k => XS.iloadN Xq27.here hx rfl (hb hby d_prog_4_method_5_code_15) rfl k) ?_
  show Goes _ _ _ _ _ _ _ _ (Tq27.setTop (mkF m 16 #[.val (.ref sS), .val (.ref xr_q1), .val (.int (4 : Int32)), .val (.int (3 : Int32)), .val (.ref t2)] [(.int (3 : Int32)), (.ref xr_q1)]))
  obtain ⟨clq33, Arq33, qq33, Sq33, Nnq33, Hq33, Gq33⟩ := id pf5
  have hinq33 : ¬ ((3 : Int32) < 0 ∨ clq33.slots.size ≤ ((3 : Int32)).toNatClampNeg) := inb_of Sq33 ⟨by decide, by decide⟩
  refine Goes.via (Xq27.aaload hx (j := (3 : Int32)) (v := (.ref t3)) (by rw [eq27]; exact Arq33.1) (State.isArrayOf_alike hZ.alike Arq33.2.1) rfl Arq33.2.2 hinq33 (Hq33.at hinq33 rfl) (g := (mkF m 16 #[.val (.ref sS), .val (.ref xr_q1), .val (.int (4 : Int32)), .val (.int (3 : Int32)), .val (.ref t2)] [(.int (3 : Int32)), (.ref xr_q1)])) rfl rfl (hb hby d_prog_4_method_5_code_16)) ?_
  show Goes _ _ _ _ _ _ _ _ (Tq27.setTop (mkF m 17 #[.val (.ref sS), .val (.ref xr_q1), .val (.int (4 : Int32)), .val (.int (3 : Int32)), .val (.ref t2)] [(.ref t3)]))
  refine Goes.via (fun _ k => XS.astore Xq27.here hx rfl (hb hby d_prog_4_method_5_code_17) rfl rfl (l' := #[.val (.ref sS), .val (.ref xr_q1), .val (.int (4 : Int32)), .val (.int (3 : Int32)), .val (.ref t3)]) rfl k) ?_
  show Goes _ _ _ _ _ _ _ _ (Tq27.setTop (mkF m 19 #[.val (.ref sS), .val (.ref xr_q1), .val (.int (4 : Int32)), .val (.int (3 : Int32)), .val (.ref t3)] []))
  refine Goes.via (fun _ k => XS.aload Xq27.here hx rfl (hb hby d_prog_4_method_5_code_19) rfl rfl k) ?_
  show Goes _ _ _ _ _ _ _ _ (Tq27.setTop (mkF m 21 #[.val (.ref sS), .val (.ref xr_q1), .val (.int (4 : Int32)), .val (.int (3 : Int32)), .val (.ref t3)] [(.ref t3)]))
  have fq35 : Fld Z h1 t3 "com/example/dispatch_note/dispatchnote/contract/ManagedMember" "memberName" "Ljava/lang/String;" (.ref u3) := (F3.ext O.2)
  obtain ⟨Tq34, Xq34, eq34, stq34⟩ := getF Xq27 hx hZ hown (host := "") (Or.inl (W_73 hw)) Via.refl eq27 fq35 (g := (mkF m 21 #[.val (.ref sS), .val (.ref xr_q1), .val (.int (4 : Int32)), .val (.int (3 : Int32)), .val (.ref t3)] [(.ref t3)])) rfl rfl (hb hby d_prog_4_method_5_code_21)
  refine Goes.via stq34 ?_
  show Goes _ _ _ _ _ _ _ _ (Tq34.setTop (mkF m 24 #[.val (.ref sS), .val (.ref xr_q1), .val (.int (4 : Int32)), .val (.int (3 : Int32)), .val (.ref t3)] [(.ref u3)]))
  refine Goes.via (fun _ k => XS.aloadN Xq34.here hx rfl (hb hby d_prog_4_method_5_code_24) rfl rfl k) ?_
  show Goes _ _ _ _ _ _ _ _ (Tq34.setTop (mkF m 25 #[.val (.ref sS), .val (.ref xr_q1), .val (.int (4 : Int32)), .val (.int (3 : Int32)), .val (.ref t3)] [(.ref sS), (.ref u3)]))
  have fq37 : Exa Z h1 u3 "java/lang/String" := (EU3.ext O.2)
  have fq38 : Fld Z h1 u3 "java/lang/String" "value" "[B" (.ref y3) := (VU3.ext O.2)
  have fq39 : Fld Z h1 u3 "java/lang/String" "coder" "B" (.int (0 : Int32)) := (CU3.ext O.2)
  have fq40 : Arv Z h1 y3 ky3 .byte (9 : Int32) [(.int (117 : Int32)), (.int (112 : Int32)), (.int (100 : Int32)), (.int (97 : Int32)), (.int (116 : Int32)), (.int (101 : Int32)), (.int (100 : Int32)), (.int (65 : Int32)), (.int (116 : Int32))] (.int (0 : Int32)) := (AU3.ext O.2)
  obtain ⟨vq36, Tq36, Lq36, Xq36, ⟨qq36, rfl, eq36⟩, stq36⟩ := callViB (Qb := fun v h' L => ((v = some (.int 1) ∧ LIT_3 = csS) ∨ (v = some (.int 0) ∧ ¬ LIT_3 = csS)) ∧ L = [] ∧ h' = h1) Xq34 hx hZ hown (StrChars.Road.eqW (W := 0) hZ (hwEq hw) (kI := 4) (W_6 hw) fq37 fq38 fq39 fq40 codL_3 rgL_3 (Nat.le_of_ble_eq_true rfl) pf0 pf1 pf2 pf3 codS rgS lnS fq32 hcz (by decide) (by decide)) (W_75 hw) (W_38 hw) (notFace_of_selects (args := #[]) (mvT hZ (W_40 hw))) (W_40 hw) (W_39 hw) (by decide) eq34 fq37 (by show _ + 0 ≤ 2; omega) (by show _ + 0 ≤ 8; omega) (g := (mkF m 25 #[.val (.ref sS), .val (.ref xr_q1), .val (.int (4 : Int32)), .val (.int (3 : Int32)), .val (.ref t3)] [(.ref sS), (.ref u3)])) rfl (by rw [hml]; rfl) (a := u3) (argsL := [(.ref sS)]) (rest := []) rfl (lenOf pd_10 rfl) rfl (by show 2 * 0 + _ ≤ _; exact Nat.le_of_eq rfl) (hb hby d_prog_4_method_5_code_25)
  have Nq36 := Fr.app Nq27 (Fr.nil n0)
  obtain ⟨rfl, ccq36⟩ : vq36 = some (.int 0) ∧ ¬ LIT_3 = csS := qq36.resolve_left (fun z => (fun q => hq3 q.symm) z.2)
  refine Goes.via stq36 ?_
  show Goes _ _ _ _ _ _ _ _ (Tq36.setTop (mkF m 28 #[.val (.ref sS), .val (.ref xr_q1), .val (.int (4 : Int32)), .val (.int (3 : Int32)), .val (.ref t3)] [(.int (0 : Int32))]))
  refine Goes.via (fun _ k => XS.ifYes Xq36.here hx rfl (pc0 := 28) (pc' := 37) rfl (hb hby d_prog_4_method_5_code_28) rfl (XT.i0_eq_t (by decide)) (by decide) (by decide) k) ?_
  show Goes _ _ _ _ _ _ _ _ (Tq36.setTop (mkF m 37 #[.val (.ref sS), .val (.ref xr_q1), .val (.int (4 : Int32)), .val (.int (3 : Int32)), .val (.ref t3)] []))
  refine Goes.via (fun _ k => iincZ Xq36.here hx rfl (4 : Int32) (hb hby d_prog_4_method_5_code_37) (by decide) rfl (l' := #[.val (.ref sS), .val (.ref xr_q1), .val (.int (4 : Int32)), .val (.int (4 : Int32)), .val (.ref t3)]) rfl k) ?_
  show Goes _ _ _ _ _ _ _ _ (Tq36.setTop (mkF m 40 #[.val (.ref sS), .val (.ref xr_q1), .val (.int (4 : Int32)), .val (.int (4 : Int32)), .val (.ref t3)] []))
  refine Goes.via (fun _ k => XS.goto Xq36.here hx rfl (pc0 := 40) (pc' := 9) rfl (hb hby d_prog_4_method_5_code_40) (by decide) (by decide) k) ?_
  show Goes _ _ _ _ _ _ _ _ (Tq36.setTop (mkF m 9 #[.val (.ref sS), .val (.ref xr_q1), .val (.int (4 : Int32)), .val (.int (4 : Int32)), .val (.ref t3)] []))
  refine Goes.via (fun _ k => XS.iloadN Xq36.here hx rfl (hb hby d_prog_4_method_5_code_9) rfl k) ?_
  show Goes _ _ _ _ _ _ _ _ (Tq36.setTop (mkF m 10 #[.val (.ref sS), .val (.ref xr_q1), .val (.int (4 : Int32)), .val (.int (4 : Int32)), .val (.ref t3)] [(.int (4 : Int32))]))
  refine Goes.via (fun _ k => XS.iloadN Xq36.here hx rfl (hb hby d_prog_4_method_5_code_10) rfl k) ?_
  show Goes _ _ _ _ _ _ _ _ (Tq36.setTop (mkF m 11 #[.val (.ref sS), .val (.ref xr_q1), .val (.int (4 : Int32)), .val (.int (4 : Int32)), .val (.ref t3)] [(.int (4 : Int32)), (.int (4 : Int32))]))
  refine Goes.via (fun _ k => XS.icmpYes Xq36.here hx rfl (pc0 := 11) (pc' := 43) rfl (hb hby d_prog_4_method_5_code_11) rfl (XT.ii_ge_t (by decide)) (by decide) (by decide) k) ?_
  show Goes _ _ _ _ _ _ _ _ (Tq36.setTop (mkF m 43 #[.val (.ref sS), .val (.ref xr_q1), .val (.int (4 : Int32)), .val (.int (4 : Int32)), .val (.ref t3)] []))
  obtain ⟨vq41, Tq41, Lq41, Xq41, qq41, nq41, stq41⟩ := callSt Xq36 hx hZ hown (optEmpty l Z aw hw em O SE) (W_76 hw) (W_77 hw) (W_78 hw) (W_79 hw) (by decide) eq36 (by decide) (W := 0) (by decide) (by show _ + 0 ≤ 2; omega) (by show _ + 0 ≤ 8; omega) (g := (mkF m 43 #[.val (.ref sS), .val (.ref xr_q1), .val (.int (4 : Int32)), .val (.int (4 : Int32)), .val (.ref t3)] [])) rfl (by rw [hml]; rfl) (argsL := []) (rest := []) rfl (lenOf pd_12 rfl) rfl (by show 2 * 0 + _ ≤ _; exact Nat.le_of_eq rfl) (hb hby d_prog_4_method_5_code_43)
  dsimp only at Xq41
  obtain ⟨rfl, pq41_0⟩ := qq41
  have Nq41 := Fr.app Nq36 nq41
  refine Goes.via stq41 ?_
  show Goes _ _ _ _ _ _ _ _ (Tq41.setTop (mkF m 46 #[.val (.ref sS), .val (.ref xr_q1), .val (.int (4 : Int32)), .val (.int (4 : Int32)), .val (.ref t3)] [(.ref em)]))
  refine goRetA Xq41 hx hrt rfl hlk Nq41 (by show _ ≤ 2; omega) (by show _ ≤ 8; omega) rfl (hb hby d_prog_4_method_5_code_46) ?_
  try rw [pq41_0]
  exact ⟨rfl, K0⟩
set_option maxRecDepth 65536 in
set_option maxHeartbeats 40000000 in
theorem named_n (l : Launch) (Z : State) (aw : Array Value) (hw : ∀ d ∈ tables_1, d.before aw Z = true) (sS : Nat) (wS : Nat) (kS : ClassId) (NS1 : Int32) (vS : List Value) (csS : List Int32) (ar : Nat) (kz0 : ClassId) (t0 : Nat) (t1 : Nat) (t2 : Nat) (t3 : Nat) (u0 : Nat) (y0 : Nat) (ky0 : ClassId) (u1 : Nat) (y1 : Nat) (ky1 : ClassId) (u2 : Nat) (y2 : Nat) (ky2 : ClassId) (u3 : Nat) (y3 : Nat) (ky3 : ClassId) (em : Nat) (cz : Int32) {h0 : Heap} {n0 : Nat} (O : Old Z n0 h0) (S0 : Sta Z Z.heap "com/example/dispatch_note/dispatchnote/contract/ManagedMember" "$VALUES" "[Lcom/example/dispatch_note/dispatchnote/contract/ManagedMember;" (.ref ar)) (V0 : Arv Z Z.heap ar kz0 (.object "com/example/dispatch_note/dispatchnote/contract/ManagedMember") (4 : Int32) [(.ref t0), (.ref t1), (.ref t2), (.ref t3)] .null) (E0 : Exa Z Z.heap ar "[Lcom/example/dispatch_note/dispatchnote/contract/ManagedMember;") (CS : Sta Z Z.heap "java/lang/String" "COMPACT_STRINGS" "Z" (.int cz)) (SE : Sta Z Z.heap "java/util/Optional" "EMPTY" "Ljava/util/Optional;" (.ref em)) (F0 : Fld Z Z.heap t0 "com/example/dispatch_note/dispatchnote/contract/ManagedMember" "memberName" "Ljava/lang/String;" (.ref u0)) (EU0 : Exa Z Z.heap u0 "java/lang/String") (CU0 : Fld Z Z.heap u0 "java/lang/String" "coder" "B" (.int (0 : Int32))) (VU0 : Fld Z Z.heap u0 "java/lang/String" "value" "[B" (.ref y0)) (AU0 : Arv Z Z.heap y0 ky0 .byte (2 : Int32) [(.int (105 : Int32)), (.int (100 : Int32))] (.int (0 : Int32))) (F1 : Fld Z Z.heap t1 "com/example/dispatch_note/dispatchnote/contract/ManagedMember" "memberName" "Ljava/lang/String;" (.ref u1)) (EU1 : Exa Z Z.heap u1 "java/lang/String") (CU1 : Fld Z Z.heap u1 "java/lang/String" "coder" "B" (.int (0 : Int32))) (VU1 : Fld Z Z.heap u1 "java/lang/String" "value" "[B" (.ref y1)) (AU1 : Arv Z Z.heap y1 ky1 .byte (7 : Int32) [(.int (118 : Int32)), (.int (101 : Int32)), (.int (114 : Int32)), (.int (115 : Int32)), (.int (105 : Int32)), (.int (111 : Int32)), (.int (110 : Int32))] (.int (0 : Int32))) (F2 : Fld Z Z.heap t2 "com/example/dispatch_note/dispatchnote/contract/ManagedMember" "memberName" "Ljava/lang/String;" (.ref u2)) (EU2 : Exa Z Z.heap u2 "java/lang/String") (CU2 : Fld Z Z.heap u2 "java/lang/String" "coder" "B" (.int (0 : Int32))) (VU2 : Fld Z Z.heap u2 "java/lang/String" "value" "[B" (.ref y2)) (AU2 : Arv Z Z.heap y2 ky2 .byte (9 : Int32) [(.int (99 : Int32)), (.int (114 : Int32)), (.int (101 : Int32)), (.int (97 : Int32)), (.int (116 : Int32)), (.int (101 : Int32)), (.int (100 : Int32)), (.int (65 : Int32)), (.int (116 : Int32))] (.int (0 : Int32))) (F3 : Fld Z Z.heap t3 "com/example/dispatch_note/dispatchnote/contract/ManagedMember" "memberName" "Ljava/lang/String;" (.ref u3)) (EU3 : Exa Z Z.heap u3 "java/lang/String") (CU3 : Fld Z Z.heap u3 "java/lang/String" "coder" "B" (.int (0 : Int32))) (VU3 : Fld Z Z.heap u3 "java/lang/String" "value" "[B" (.ref y3)) (AU3 : Arv Z Z.heap y3 ky3 .byte (9 : Int32) [(.int (117 : Int32)), (.int (112 : Int32)), (.int (100 : Int32)), (.int (97 : Int32)), (.int (116 : Int32)), (.int (101 : Int32)), (.int (100 : Int32)), (.int (65 : Int32)), (.int (116 : Int32))] (.int (0 : Int32))) (ES : Exa Z h0 sS "java/lang/String") (VS : Fld Z h0 sS "java/lang/String" "value" "[B" (.ref wS)) (CSS : Fld Z h0 sS "java/lang/String" "coder" "B" (.int (0 : Int32))) (AS : Arv Z h0 wS kS .byte NS1 vS (.int (0 : Int32))) (hcz : ¬ cz = (0 : Int32)) (codS : StrChars.Road.CodA csS 0 NS1 vS) (rgS : ∀ c ∈ csS, ¬ c < 0 ∧ ¬ (65535 : Int32) < c) (lnS : csS.length ≤ 4000) (hq0 : ¬ csS = LIT_0) (hq1 : ¬ csS = LIT_1) (hq2 : ¬ csS = LIT_2) (hq3 : ¬ csS = LIT_3) :
    MET l Z (⟨"com/example/dispatch_note/dispatchnote/contract/ManagedMember", "named", "(Ljava/lang/String;)Ljava/util/Optional;"⟩ : MethodName) prog_4_method_5_code 5 (some (.object "java/util/Optional")) ({ frames := 3, cells := 2, slots := 8, locals := 50 } : Room) #[(.ref sS)] h0 n0 (fun vv hh => vv = some (.ref em) ∧ Keep h0 hh []) := by
  refine metOf (plainFor_of_name pn_8) ?_
  intro p e s m below meth c T hx hby hml hrt hlk hnm hZ hown X e0
  replace hml : c.maxLocals = 5 := hml
  replace hnm : meth.name = "named" := hnm
  replace hown : s.vm.findClass "com/example/dispatch_note/dispatchnote/contract/ManagedMember" = some m.cls := hown
  have N := Fr.nil n0
  have zO := O.le
  refine goCast (ef_named_n m sS) ?_
  have lt_sS := lt_nat ES.lt
  have lt_wS := lt_nat AS.lt
  show Goes _ _ _ _ _ _ _ _ (T.setTop (mkF m 0 #[.val (.ref sS), .unset, .unset, .unset, .unset] []))
  obtain ⟨vq1, Tq1, Lq1, Xq1, qq1, nq1, stq1⟩ := callSt X hx hZ hown (vals l Z aw hw ar kz0 t0 t1 t2 t3 O S0 V0 E0) (W_54 hw) (W_55 hw) (W_52 hw) (W_56 hw) (by decide) e0 (by decide) (W := 0) (by decide) (by decide) (by decide) (g := (mkF m 0 #[.val (.ref sS), .unset, .unset, .unset, .unset] [])) rfl (by rw [hml]; rfl) (argsL := []) (rest := []) rfl (lenOf pd_9 rfl) rfl (by show 2 * 0 + _ ≤ _; exact Nat.le_of_eq rfl) (hb hby d_prog_4_method_5_code_0)
  obtain ⟨xr_q1, xkr_q1, rfl, pq1_0, pq1_1, pq1_2, pq1_3⟩ := qq1
  have Nq1 := Fr.app N nq1
  have zq1 := pq1_1.1
  have Oq1 := O.keep pq1_1 all0
  have ltpq1_2 := lt_nat pq1_2.lt
  refine Goes.via stq1 ?_
  show Goes _ _ _ _ _ _ _ _ (Tq1.setTop (mkF m 3 #[.val (.ref sS), .unset, .unset, .unset, .unset] [(.ref xr_q1)]))
  refine Goes.via (fun _ k => XS.astoreN Xq1.here hx rfl (hb hby d_prog_4_method_5_code_3) rfl rfl (l' := #[.val (.ref sS), .val (.ref xr_q1), .unset, .unset, .unset]) rfl k) ?_
  show Goes _ _ _ _ _ _ _ _ (Tq1.setTop (mkF m 4 #[.val (.ref sS), .val (.ref xr_q1), .unset, .unset, .unset] []))
  refine Goes.via (fun _ k => XS.aloadN Xq1.here hx rfl (hb hby d_prog_4_method_5_code_4) rfl rfl k) ?_
  show Goes _ _ _ _ _ _ _ _ (Tq1.setTop (mkF m 5 #[.val (.ref sS), .val (.ref xr_q1), .unset, .unset, .unset] [(.ref xr_q1)]))
  obtain ⟨clq2, Arq2, -, Sq2, Nnq2, -, -⟩ := id pq1_3
  refine Goes.via (Xq1.arraylength hx Arq2.1 (State.isArrayOf_alike hZ.alike Arq2.2.1) (g := (mkF m 5 #[.val (.ref sS), .val (.ref xr_q1), .unset, .unset, .unset] [(.ref xr_q1)])) rfl rfl (hb hby d_prog_4_method_5_code_5)) ?_
  rw [len_of Sq2 Nnq2]
  show Goes _ _ _ _ _ _ _ _ (Tq1.setTop (mkF m 6 #[.val (.ref sS), .val (.ref xr_q1), .unset, .unset, .unset] [(.int (4 : Int32))]))
  refine Goes.via (fun _ k => XS.istoreN Xq1.here hx rfl (hb hby d_prog_4_method_5_code_6) rfl (l' := #[.val (.ref sS), .val (.ref xr_q1), .val (.int (4 : Int32)), .unset, .unset]) rfl k) ?_
  show Goes _ _ _ _ _ _ _ _ (Tq1.setTop (mkF m 7 #[.val (.ref sS), .val (.ref xr_q1), .val (.int (4 : Int32)), .unset, .unset] []))
  refine Goes.via (fun _ k => XT.iconstV Xq1.here hx rfl (0 : Int32) (hb hby d_prog_4_method_5_code_7) (by decide) k) ?_
  show Goes _ _ _ _ _ _ _ _ (Tq1.setTop (mkF m 8 #[.val (.ref sS), .val (.ref xr_q1), .val (.int (4 : Int32)), .unset, .unset] [(.int (0 : Int32))]))
  refine Goes.via (fun _ k => XS.istoreN Xq1.here hx rfl (hb hby d_prog_4_method_5_code_8) rfl (l' := #[.val (.ref sS), .val (.ref xr_q1), .val (.int (4 : Int32)), .val (.int (0 : Int32)), .unset]) rfl k) ?_
  show Goes _ _ _ _ _ _ _ _ (Tq1.setTop (mkF m 9 #[.val (.ref sS), .val (.ref xr_q1), .val (.int (4 : Int32)), .val (.int (0 : Int32)), .unset] []))
  refine Goes.via (fun _ k => XS.iloadN Xq1.here hx rfl (hb hby d_prog_4_method_5_code_9) rfl k) ?_
  show Goes _ _ _ _ _ _ _ _ (Tq1.setTop (mkF m 10 #[.val (.ref sS), .val (.ref xr_q1), .val (.int (4 : Int32)), .val (.int (0 : Int32)), .unset] [(.int (0 : Int32))]))
  refine Goes.via (fun _ k => XS.iloadN Xq1.here hx rfl (hb hby d_prog_4_method_5_code_10) rfl k) ?_
  show Goes _ _ _ _ _ _ _ _ (Tq1.setTop (mkF m 11 #[.val (.ref sS), .val (.ref xr_q1), .val (.int (4 : Int32)), .val (.int (0 : Int32)), .unset] [(.int (4 : Int32)), (.int (0 : Int32))]))
  refine Goes.via (fun _ k => XS.icmpNo Xq1.here hx rfl (hb hby d_prog_4_method_5_code_11) rfl (XT.ii_ge_f (by decide)) k) ?_
  show Goes _ _ _ _ _ _ _ _ (Tq1.setTop (mkF m 14 #[.val (.ref sS), .val (.ref xr_q1), .val (.int (4 : Int32)), .val (.int (0 : Int32)), .unset] []))
  refine Goes.via (fun _ k => XS.aloadN Xq1.here hx rfl (hb hby d_prog_4_method_5_code_14) rfl rfl k) ?_
  show Goes _ _ _ _ _ _ _ _ (Tq1.setTop (mkF m 15 #[.val (.ref sS), .val (.ref xr_q1), .val (.int (4 : Int32)), .val (.int (0 : Int32)), .unset] [(.ref xr_q1)]))
  refine Goes.via (fun _ k => XS.iloadN Xq1.here hx rfl (hb hby d_prog_4_method_5_code_15) rfl k) ?_
  show Goes _ _ _ _ _ _ _ _ (Tq1.setTop (mkF m 16 #[.val (.ref sS), .val (.ref xr_q1), .val (.int (4 : Int32)), .val (.int (0 : Int32)), .unset] [(.int (0 : Int32)), (.ref xr_q1)]))
  obtain ⟨clq3, Arq3, qq3, Sq3, Nnq3, Hq3, Gq3⟩ := id pq1_3
  have hinq3 : ¬ ((0 : Int32) < 0 ∨ clq3.slots.size ≤ ((0 : Int32)).toNatClampNeg) := inb_of Sq3 ⟨by decide, by decide⟩
  refine Goes.via (Xq1.aaload hx (j := (0 : Int32)) (v := (.ref t0)) Arq3.1 (State.isArrayOf_alike hZ.alike Arq3.2.1) rfl Arq3.2.2 hinq3 (Hq3.at hinq3 rfl) (g := (mkF m 16 #[.val (.ref sS), .val (.ref xr_q1), .val (.int (4 : Int32)), .val (.int (0 : Int32)), .unset] [(.int (0 : Int32)), (.ref xr_q1)])) rfl rfl (hb hby d_prog_4_method_5_code_16)) ?_
  show Goes _ _ _ _ _ _ _ _ (Tq1.setTop (mkF m 17 #[.val (.ref sS), .val (.ref xr_q1), .val (.int (4 : Int32)), .val (.int (0 : Int32)), .unset] [(.ref t0)]))
  refine Goes.via (fun _ k => XS.astore Xq1.here hx rfl (hb hby d_prog_4_method_5_code_17) rfl rfl (l' := #[.val (.ref sS), .val (.ref xr_q1), .val (.int (4 : Int32)), .val (.int (0 : Int32)), .val (.ref t0)]) rfl k) ?_
  show Goes _ _ _ _ _ _ _ _ (Tq1.setTop (mkF m 19 #[.val (.ref sS), .val (.ref xr_q1), .val (.int (4 : Int32)), .val (.int (0 : Int32)), .val (.ref t0)] []))
  refine Goes.via (fun _ k => XS.aload Xq1.here hx rfl (hb hby d_prog_4_method_5_code_19) rfl rfl k) ?_
  show Goes _ _ _ _ _ _ _ _ (Tq1.setTop (mkF m 21 #[.val (.ref sS), .val (.ref xr_q1), .val (.int (4 : Int32)), .val (.int (0 : Int32)), .val (.ref t0)] [(.ref t0)]))
  have fq5 : Fld Z Tq1.heap t0 "com/example/dispatch_note/dispatchnote/contract/ManagedMember" "memberName" "Ljava/lang/String;" (.ref u0) := (F0.ext Oq1.2)
  obtain ⟨Tq4, Xq4, eq4, stq4⟩ := getF Xq1 hx hZ hown (host := "") (Or.inl (W_73 hw)) Via.refl rfl fq5 (g := (mkF m 21 #[.val (.ref sS), .val (.ref xr_q1), .val (.int (4 : Int32)), .val (.int (0 : Int32)), .val (.ref t0)] [(.ref t0)])) rfl rfl (hb hby d_prog_4_method_5_code_21)
  refine Goes.via stq4 ?_
  show Goes _ _ _ _ _ _ _ _ (Tq4.setTop (mkF m 24 #[.val (.ref sS), .val (.ref xr_q1), .val (.int (4 : Int32)), .val (.int (0 : Int32)), .val (.ref t0)] [(.ref u0)]))
  refine Goes.via (fun _ k => XS.aloadN Xq4.here hx rfl (hb hby d_prog_4_method_5_code_24) rfl rfl k) ?_
  show Goes _ _ _ _ _ _ _ _ (Tq4.setTop (mkF m 25 #[.val (.ref sS), .val (.ref xr_q1), .val (.int (4 : Int32)), .val (.int (0 : Int32)), .val (.ref t0)] [(.ref sS), (.ref u0)]))
  have fq7 : Exa Z Tq1.heap u0 "java/lang/String" := (EU0.ext Oq1.2)
  have fq8 : Fld Z Tq1.heap u0 "java/lang/String" "value" "[B" (.ref y0) := (VU0.ext Oq1.2)
  have fq9 : Fld Z Tq1.heap u0 "java/lang/String" "coder" "B" (.int (0 : Int32)) := (CU0.ext Oq1.2)
  have fq10 : Arv Z Tq1.heap y0 ky0 .byte (2 : Int32) [(.int (105 : Int32)), (.int (100 : Int32))] (.int (0 : Int32)) := (AU0.ext Oq1.2)
  have fq11 : Exa Z Tq1.heap sS "java/lang/String" := (ES.keep pq1_1)
  have fq12 : Fld Z Tq1.heap sS "java/lang/String" "value" "[B" (.ref wS) := (VS.keep pq1_1 nin0)
  have fq13 : Fld Z Tq1.heap sS "java/lang/String" "coder" "B" (.int (0 : Int32)) := (CSS.keep pq1_1 nin0)
  have fq14 : Arv Z Tq1.heap wS kS .byte NS1 vS (.int (0 : Int32)) := (AS.keep pq1_1 nin0)
  have fq15 : Sta Z Tq1.heap "java/lang/String" "COMPACT_STRINGS" "Z" (.int cz) := (CS.ext Oq1.2)
  obtain ⟨vq6, Tq6, Lq6, Xq6, ⟨qq6, rfl, eq6⟩, stq6⟩ := callViB (Qb := fun v h' L => ((v = some (.int 1) ∧ LIT_0 = csS) ∨ (v = some (.int 0) ∧ ¬ LIT_0 = csS)) ∧ L = [] ∧ h' = Tq1.heap) Xq4 hx hZ hown (StrChars.Road.eqW (W := 0) hZ (hwEq hw) (kI := 4) (W_6 hw) fq7 fq8 fq9 fq10 codL_0 rgL_0 (Nat.le_of_ble_eq_true rfl) fq11 fq12 fq13 fq14 codS rgS lnS fq15 hcz (by decide) (by decide)) (W_75 hw) (W_38 hw) (notFace_of_selects (args := #[]) (mvT hZ (W_40 hw))) (W_40 hw) (W_39 hw) (by decide) eq4 fq7 (by decide) (by decide) (g := (mkF m 25 #[.val (.ref sS), .val (.ref xr_q1), .val (.int (4 : Int32)), .val (.int (0 : Int32)), .val (.ref t0)] [(.ref sS), (.ref u0)])) rfl (by rw [hml]; rfl) (a := u0) (argsL := [(.ref sS)]) (rest := []) rfl (lenOf pd_10 rfl) rfl (by show 2 * 0 + _ ≤ _; exact Nat.le_of_eq rfl) (hb hby d_prog_4_method_5_code_25)
  have Nq6 := Fr.app Nq1 (Fr.nil n0)
  obtain ⟨rfl, ccq6⟩ : vq6 = some (.int 0) ∧ ¬ LIT_0 = csS := qq6.resolve_left (fun z => (fun q => hq0 q.symm) z.2)
  refine Goes.via stq6 ?_
  show Goes _ _ _ _ _ _ _ _ (Tq6.setTop (mkF m 28 #[.val (.ref sS), .val (.ref xr_q1), .val (.int (4 : Int32)), .val (.int (0 : Int32)), .val (.ref t0)] [(.int (0 : Int32))]))
  refine Goes.via (fun _ k => XS.ifYes Xq6.here hx rfl (pc0 := 28) (pc' := 37) rfl (hb hby d_prog_4_method_5_code_28) rfl (XT.i0_eq_t (by decide)) (by decide) (by decide) k) ?_
  show Goes _ _ _ _ _ _ _ _ (Tq6.setTop (mkF m 37 #[.val (.ref sS), .val (.ref xr_q1), .val (.int (4 : Int32)), .val (.int (0 : Int32)), .val (.ref t0)] []))
  refine Goes.via (fun _ k => iincZ Xq6.here hx rfl (1 : Int32) (hb hby d_prog_4_method_5_code_37) (by decide) rfl (l' := #[.val (.ref sS), .val (.ref xr_q1), .val (.int (4 : Int32)), .val (.int (1 : Int32)), .val (.ref t0)]) rfl k) ?_
  show Goes _ _ _ _ _ _ _ _ (Tq6.setTop (mkF m 40 #[.val (.ref sS), .val (.ref xr_q1), .val (.int (4 : Int32)), .val (.int (1 : Int32)), .val (.ref t0)] []))
  refine Goes.via (fun _ k => XS.goto Xq6.here hx rfl (pc0 := 40) (pc' := 9) rfl (hb hby d_prog_4_method_5_code_40) (by decide) (by decide) k) ?_
  show Goes _ _ _ _ _ _ _ _ (Tq6.setTop (mkF m 9 #[.val (.ref sS), .val (.ref xr_q1), .val (.int (4 : Int32)), .val (.int (1 : Int32)), .val (.ref t0)] []))
  refine Goes.via (fun _ k => XS.iloadN Xq6.here hx rfl (hb hby d_prog_4_method_5_code_9) rfl k) ?_
  show Goes _ _ _ _ _ _ _ _ (Tq6.setTop (mkF m 10 #[.val (.ref sS), .val (.ref xr_q1), .val (.int (4 : Int32)), .val (.int (1 : Int32)), .val (.ref t0)] [(.int (1 : Int32))]))
  refine Goes.via (fun _ k => XS.iloadN Xq6.here hx rfl (hb hby d_prog_4_method_5_code_10) rfl k) ?_
  show Goes _ _ _ _ _ _ _ _ (Tq6.setTop (mkF m 11 #[.val (.ref sS), .val (.ref xr_q1), .val (.int (4 : Int32)), .val (.int (1 : Int32)), .val (.ref t0)] [(.int (4 : Int32)), (.int (1 : Int32))]))
  refine Goes.via (fun _ k => XS.icmpNo Xq6.here hx rfl (hb hby d_prog_4_method_5_code_11) rfl (XT.ii_ge_f (by decide)) k) ?_
  show Goes _ _ _ _ _ _ _ _ (Tq6.setTop (mkF m 14 #[.val (.ref sS), .val (.ref xr_q1), .val (.int (4 : Int32)), .val (.int (1 : Int32)), .val (.ref t0)] []))
  refine Goes.via (fun _ k => XS.aloadN Xq6.here hx rfl (hb hby d_prog_4_method_5_code_14) rfl rfl k) ?_
  show Goes _ _ _ _ _ _ _ _ (Tq6.setTop (mkF m 15 #[.val (.ref sS), .val (.ref xr_q1), .val (.int (4 : Int32)), .val (.int (1 : Int32)), .val (.ref t0)] [(.ref xr_q1)]))
  refine Goes.via (fun _ k => XS.iloadN Xq6.here hx rfl (hb hby d_prog_4_method_5_code_15) rfl k) ?_
  show Goes _ _ _ _ _ _ _ _ (Tq6.setTop (mkF m 16 #[.val (.ref sS), .val (.ref xr_q1), .val (.int (4 : Int32)), .val (.int (1 : Int32)), .val (.ref t0)] [(.int (1 : Int32)), (.ref xr_q1)]))
  obtain ⟨clq16, Arq16, qq16, Sq16, Nnq16, Hq16, Gq16⟩ := id pq1_3
  have hinq16 : ¬ ((1 : Int32) < 0 ∨ clq16.slots.size ≤ ((1 : Int32)).toNatClampNeg) := inb_of Sq16 ⟨by decide, by decide⟩
  refine Goes.via (Xq6.aaload hx (j := (1 : Int32)) (v := (.ref t1)) (by rw [eq6]; exact Arq16.1) (State.isArrayOf_alike hZ.alike Arq16.2.1) rfl Arq16.2.2 hinq16 (Hq16.at hinq16 rfl) (g := (mkF m 16 #[.val (.ref sS), .val (.ref xr_q1), .val (.int (4 : Int32)), .val (.int (1 : Int32)), .val (.ref t0)] [(.int (1 : Int32)), (.ref xr_q1)])) rfl rfl (hb hby d_prog_4_method_5_code_16)) ?_
  show Goes _ _ _ _ _ _ _ _ (Tq6.setTop (mkF m 17 #[.val (.ref sS), .val (.ref xr_q1), .val (.int (4 : Int32)), .val (.int (1 : Int32)), .val (.ref t0)] [(.ref t1)]))
  refine Goes.via (fun _ k => XS.astore Xq6.here hx rfl (hb hby d_prog_4_method_5_code_17) rfl rfl (l' := #[.val (.ref sS), .val (.ref xr_q1), .val (.int (4 : Int32)), .val (.int (1 : Int32)), .val (.ref t1)]) rfl k) ?_
  show Goes _ _ _ _ _ _ _ _ (Tq6.setTop (mkF m 19 #[.val (.ref sS), .val (.ref xr_q1), .val (.int (4 : Int32)), .val (.int (1 : Int32)), .val (.ref t1)] []))
  refine Goes.via (fun _ k => XS.aload Xq6.here hx rfl (hb hby d_prog_4_method_5_code_19) rfl rfl k) ?_
  show Goes _ _ _ _ _ _ _ _ (Tq6.setTop (mkF m 21 #[.val (.ref sS), .val (.ref xr_q1), .val (.int (4 : Int32)), .val (.int (1 : Int32)), .val (.ref t1)] [(.ref t1)]))
  have fq18 : Fld Z Tq1.heap t1 "com/example/dispatch_note/dispatchnote/contract/ManagedMember" "memberName" "Ljava/lang/String;" (.ref u1) := (F1.ext Oq1.2)
  obtain ⟨Tq17, Xq17, eq17, stq17⟩ := getF Xq6 hx hZ hown (host := "") (Or.inl (W_73 hw)) Via.refl eq6 fq18 (g := (mkF m 21 #[.val (.ref sS), .val (.ref xr_q1), .val (.int (4 : Int32)), .val (.int (1 : Int32)), .val (.ref t1)] [(.ref t1)])) rfl rfl (hb hby d_prog_4_method_5_code_21)
  refine Goes.via stq17 ?_
  show Goes _ _ _ _ _ _ _ _ (Tq17.setTop (mkF m 24 #[.val (.ref sS), .val (.ref xr_q1), .val (.int (4 : Int32)), .val (.int (1 : Int32)), .val (.ref t1)] [(.ref u1)]))
  refine Goes.via (fun _ k => XS.aloadN Xq17.here hx rfl (hb hby d_prog_4_method_5_code_24) rfl rfl k) ?_
  show Goes _ _ _ _ _ _ _ _ (Tq17.setTop (mkF m 25 #[.val (.ref sS), .val (.ref xr_q1), .val (.int (4 : Int32)), .val (.int (1 : Int32)), .val (.ref t1)] [(.ref sS), (.ref u1)]))
  have fq20 : Exa Z Tq1.heap u1 "java/lang/String" := (EU1.ext Oq1.2)
  have fq21 : Fld Z Tq1.heap u1 "java/lang/String" "value" "[B" (.ref y1) := (VU1.ext Oq1.2)
  have fq22 : Fld Z Tq1.heap u1 "java/lang/String" "coder" "B" (.int (0 : Int32)) := (CU1.ext Oq1.2)
  have fq23 : Arv Z Tq1.heap y1 ky1 .byte (7 : Int32) [(.int (118 : Int32)), (.int (101 : Int32)), (.int (114 : Int32)), (.int (115 : Int32)), (.int (105 : Int32)), (.int (111 : Int32)), (.int (110 : Int32))] (.int (0 : Int32)) := (AU1.ext Oq1.2)
  obtain ⟨vq19, Tq19, Lq19, Xq19, ⟨qq19, rfl, eq19⟩, stq19⟩ := callViB (Qb := fun v h' L => ((v = some (.int 1) ∧ LIT_1 = csS) ∨ (v = some (.int 0) ∧ ¬ LIT_1 = csS)) ∧ L = [] ∧ h' = Tq1.heap) Xq17 hx hZ hown (StrChars.Road.eqW (W := 0) hZ (hwEq hw) (kI := 4) (W_6 hw) fq20 fq21 fq22 fq23 codL_1 rgL_1 (Nat.le_of_ble_eq_true rfl) fq11 fq12 fq13 fq14 codS rgS lnS fq15 hcz (by decide) (by decide)) (W_75 hw) (W_38 hw) (notFace_of_selects (args := #[]) (mvT hZ (W_40 hw))) (W_40 hw) (W_39 hw) (by decide) eq17 fq20 (by decide) (by decide) (g := (mkF m 25 #[.val (.ref sS), .val (.ref xr_q1), .val (.int (4 : Int32)), .val (.int (1 : Int32)), .val (.ref t1)] [(.ref sS), (.ref u1)])) rfl (by rw [hml]; rfl) (a := u1) (argsL := [(.ref sS)]) (rest := []) rfl (lenOf pd_10 rfl) rfl (by show 2 * 0 + _ ≤ _; exact Nat.le_of_eq rfl) (hb hby d_prog_4_method_5_code_25)
  have Nq19 := Fr.app Nq6 (Fr.nil n0)
  obtain ⟨rfl, ccq19⟩ : vq19 = some (.int 0) ∧ ¬ LIT_1 = csS := qq19.resolve_left (fun z => (fun q => hq1 q.symm) z.2)
  refine Goes.via stq19 ?_
  show Goes _ _ _ _ _ _ _ _ (Tq19.setTop (mkF m 28 #[.val (.ref sS), .val (.ref xr_q1), .val (.int (4 : Int32)), .val (.int (1 : Int32)), .val (.ref t1)] [(.int (0 : Int32))]))
  refine Goes.via (fun _ k => XS.ifYes Xq19.here hx rfl (pc0 := 28) (pc' := 37) rfl (hb hby d_prog_4_method_5_code_28) rfl (XT.i0_eq_t (by decide)) (by decide) (by decide) k) ?_
  show Goes _ _ _ _ _ _ _ _ (Tq19.setTop (mkF m 37 #[.val (.ref sS), .val (.ref xr_q1), .val (.int (4 : Int32)), .val (.int (1 : Int32)), .val (.ref t1)] []))
  refine Goes.via (fun _ k => iincZ Xq19.here hx rfl (2 : Int32) (hb hby d_prog_4_method_5_code_37) (by decide) rfl (l' := #[.val (.ref sS), .val (.ref xr_q1), .val (.int (4 : Int32)), .val (.int (2 : Int32)), .val (.ref t1)]) rfl k) ?_
  show Goes _ _ _ _ _ _ _ _ (Tq19.setTop (mkF m 40 #[.val (.ref sS), .val (.ref xr_q1), .val (.int (4 : Int32)), .val (.int (2 : Int32)), .val (.ref t1)] []))
  refine Goes.via (fun _ k => XS.goto Xq19.here hx rfl (pc0 := 40) (pc' := 9) rfl (hb hby d_prog_4_method_5_code_40) (by decide) (by decide) k) ?_
  show Goes _ _ _ _ _ _ _ _ (Tq19.setTop (mkF m 9 #[.val (.ref sS), .val (.ref xr_q1), .val (.int (4 : Int32)), .val (.int (2 : Int32)), .val (.ref t1)] []))
  refine Goes.via (fun _ k => XS.iloadN Xq19.here hx rfl (hb hby d_prog_4_method_5_code_9) rfl k) ?_
  show Goes _ _ _ _ _ _ _ _ (Tq19.setTop (mkF m 10 #[.val (.ref sS), .val (.ref xr_q1), .val (.int (4 : Int32)), .val (.int (2 : Int32)), .val (.ref t1)] [(.int (2 : Int32))]))
  refine Goes.via (fun _ k => XS.iloadN Xq19.here hx rfl (hb hby d_prog_4_method_5_code_10) rfl k) ?_
  show Goes _ _ _ _ _ _ _ _ (Tq19.setTop (mkF m 11 #[.val (.ref sS), .val (.ref xr_q1), .val (.int (4 : Int32)), .val (.int (2 : Int32)), .val (.ref t1)] [(.int (4 : Int32)), (.int (2 : Int32))]))
  refine Goes.via (fun _ k => XS.icmpNo Xq19.here hx rfl (hb hby d_prog_4_method_5_code_11) rfl (XT.ii_ge_f (by decide)) k) ?_
  show Goes _ _ _ _ _ _ _ _ (Tq19.setTop (mkF m 14 #[.val (.ref sS), .val (.ref xr_q1), .val (.int (4 : Int32)), .val (.int (2 : Int32)), .val (.ref t1)] []))
  refine Goes.via (fun _ k => XS.aloadN Xq19.here hx rfl (hb hby d_prog_4_method_5_code_14) rfl rfl k) ?_
  show Goes _ _ _ _ _ _ _ _ (Tq19.setTop (mkF m 15 #[.val (.ref sS), .val (.ref xr_q1), .val (.int (4 : Int32)), .val (.int (2 : Int32)), .val (.ref t1)] [(.ref xr_q1)]))
  refine Goes.via (fun _ k => XS.iloadN Xq19.here hx rfl (hb hby d_prog_4_method_5_code_15) rfl k) ?_
  show Goes _ _ _ _ _ _ _ _ (Tq19.setTop (mkF m 16 #[.val (.ref sS), .val (.ref xr_q1), .val (.int (4 : Int32)), .val (.int (2 : Int32)), .val (.ref t1)] [(.int (2 : Int32)), (.ref xr_q1)]))
  exact named_n_c3 l Z aw hw sS wS kS NS1 vS csS ar kz0 t0 t1 t2 t3 u0 y0 ky0 u1 y1 ky1 u2 y2 ky2 u3 y3 ky3 em cz xr_q1 xkr_q1 hx hby hml hrt hlk hnm hZ hown Xq19 eq19 Nq19 (by decide) (by decide) Oq1 ((Keep.refl _ []).trans pq1_1 all0) S0 V0 E0 CS SE F0 EU0 CU0 VU0 AU0 F1 EU1 CU1 VU1 AU1 F2 EU2 CU2 VU2 AU2 F3 EU3 CU3 VU3 AU3 fq11 fq12 fq13 fq14 pq1_2 pq1_3 hcz codS rgS lnS hq0 hq1 hq2 hq3 (by omega) (by omega) (by omega) (by omega)
theorem ef_baseC (m : MethodId) (kk : Int32) : entryFrame m #[(.int kk)] 1 = mkF m 0 #[.val (.int kk)] [] := by first | (simp [entryFrame, mkF, argsToLocals, Value.category]; done) | rfl
set_option maxRecDepth 65536 in
set_option maxHeartbeats 40000000 in
theorem baseC_c4 (l : Launch) (Z : State) (aw : Array Value) (hw : ∀ d ∈ tables_1, d.before aw Z = true) (kk : Int32) (bq2 : Nat) (kq2 : ClassId) {p : Program} {e : Env} {s : State} {m : MethodId} {args : Array Value} {below : List Frame} {meth : Method} {c : Code} {T : State} {locs : List Loc} {cells slots n0 : Nat} {h0 h1 : Heap} (hx : p.tables.exec = Jvm.exec) (hby : c.code = method_3_code) (hml : c.maxLocals = 1) (hrt : meth.sig.returnType = some (.array .char)) (hlk : meth.locks = false) (hnm : meth.name = "base") (hZ : Z.Warmed39 s.vm) (hown : s.vm.findClass "com/example/dispatch_note/dispatchnote/contract/ManagedMemberNamedPinLaw" = some m.cls) (X : Stand p l e ({ frames := 0, cells := 1, slots := 10, locals := 0 } : Room) s m args below meth c T locs cells slots) (e0 : T.heap = h1) (N : Fr n0 locs) (hcells : cells ≤ 1) (hslots : slots ≤ 2) (O : Old Z n0 h1) (K0 : Keep h0 h1 []) (pf0 : Arv Z h1 bq2 kq2 .char (2 : Int32) [(.int (0 : Int32)), (.int (0 : Int32))] (.int (0 : Int32))) (cq1 : kk = (0 : Int32)) (cn1 : n0 ≤ bq2) (cn2 : h0.size ≤ bq2) :
    Goes p e below s ({ frames := 0, cells := 1, slots := 10, locals := 0 } : Room).cells ({ frames := 0, cells := 1, slots := 10, locals := 0 } : Room).slots n0 (fun vv hh => ∃ r : Nat, ∃ kr : ClassId, ∃ cs : List Int32, ∃ nn : Nat, vv = some (.ref r) ∧ h0.size ≤ r ∧ Keep h0 hh [] ∧ Arv Z hh r kr .char (Int32.ofNat nn) (cs.map Value.int) (.int (0 : Int32)) ∧ (0 < nn ∧ nn ≤ 10 ∧ cs.length = nn ∧ ∀ c ∈ cs, ¬ c < 0 ∧ ¬ (255 : Int32) < c)) (T.setTop (mkF m 9 #[.val (.int kk)] [(.int (0 : Int32)), (.ref bq2), (.ref bq2)])) := by
  have zO := O.le
  have zK := K0.1
  have lt_bq2 := lt_nat pf0.lt
  show Goes _ _ _ _ _ _ _ _ (T.setTop (mkF m 9 #[.val (.int kk)] [(.int (0 : Int32)), (.ref bq2), (.ref bq2)]))
  refine Goes.via (fun _ k => XT.bipushV X.here hx rfl (105 : Int32) (hb hby d_method_3_code_9) (by decide) k) ?_
  show Goes _ _ _ _ _ _ _ _ (T.setTop (mkF m 11 #[.val (.int kk)] [(.int (105 : Int32)), (.int (0 : Int32)), (.ref bq2), (.ref bq2)]))
  obtain ⟨clq3, Arq3, qq3, Sq3, Nnq3, Hq3, Gq3⟩ := id pf0
  have hinq3 : ¬ ((0 : Int32) < 0 ∨ clq3.slots.size ≤ ((0 : Int32)).toNatClampNeg) := inb_of Sq3 ⟨by decide, by decide⟩
  obtain ⟨Tq3, hq3, Xq3, eq3, Wq3, stq3⟩ := stC X hx hZ e0 Arq3 (j := (0 : Int32)) hinq3 (g := (mkF m 11 #[.val (.int kk)] [(.int (105 : Int32)), (.int (0 : Int32)), (.ref bq2), (.ref bq2)])) rfl rfl (hb hby d_method_3_code_11)
  have Nq3 := Fr.snoc Xq3 N (by omega)
  have zq3 := Wq3.size
  have Oq3 := O.wr Wq3 (by omega)
  have Vq3 : Arv Z hq3 bq2 kq2 .char (2 : Int32) [(.int (105 : Int32)), (.int (0 : Int32))] (.int (0 : Int32)) := Arv.set Arq3 qq3 Sq3 Nnq3 Hq3 Gq3 (by decide) Wq3 0 rfl (Nat.le_of_ble_eq_true rfl)
  refine Goes.via stq3 ?_
  show Goes _ _ _ _ _ _ _ _ (Tq3.setTop (mkF m 12 #[.val (.int kk)] [(.ref bq2)]))
  refine Goes.via (fun _ k => XS.dup Xq3.here hx rfl (hb hby d_method_3_code_12) rfl rfl k) ?_
  show Goes _ _ _ _ _ _ _ _ (Tq3.setTop (mkF m 13 #[.val (.int kk)] [(.ref bq2), (.ref bq2)]))
  refine Goes.via (fun _ k => XT.iconstV Xq3.here hx rfl (1 : Int32) (hb hby d_method_3_code_13) (by decide) k) ?_
  show Goes _ _ _ _ _ _ _ _ (Tq3.setTop (mkF m 14 #[.val (.int kk)] [(.int (1 : Int32)), (.ref bq2), (.ref bq2)]))
  refine Goes.via (fun _ k => XT.bipushV Xq3.here hx rfl (100 : Int32) (hb hby d_method_3_code_14) (by decide) k) ?_
  show Goes _ _ _ _ _ _ _ _ (Tq3.setTop (mkF m 16 #[.val (.int kk)] [(.int (100 : Int32)), (.int (1 : Int32)), (.ref bq2), (.ref bq2)]))
  obtain ⟨clq4, Arq4, qq4, Sq4, Nnq4, Hq4, Gq4⟩ := id Vq3
  have hinq4 : ¬ ((1 : Int32) < 0 ∨ clq4.slots.size ≤ ((1 : Int32)).toNatClampNeg) := inb_of Sq4 ⟨by decide, by decide⟩
  obtain ⟨Tq4, hq4, Xq4, eq4, Wq4, stq4⟩ := stC Xq3 hx hZ eq3 Arq4 (j := (1 : Int32)) hinq4 (g := (mkF m 16 #[.val (.int kk)] [(.int (100 : Int32)), (.int (1 : Int32)), (.ref bq2), (.ref bq2)])) rfl rfl (hb hby d_method_3_code_16)
  have Nq4 := Fr.snoc Xq4 Nq3 (by omega)
  have zq4 := Wq4.size
  have Oq4 := Oq3.wr Wq4 (by omega)
  have Vq4 : Arv Z hq4 bq2 kq2 .char (2 : Int32) [(.int (105 : Int32)), (.int (100 : Int32))] (.int (0 : Int32)) := Arv.set Arq4 qq4 Sq4 Nnq4 Hq4 Gq4 (by decide) Wq4 1 rfl (Nat.le_of_ble_eq_true rfl)
  refine Goes.via stq4 ?_
  show Goes _ _ _ _ _ _ _ _ (Tq4.setTop (mkF m 17 #[.val (.int kk)] [(.ref bq2)]))
  refine goRetA Xq4 hx hrt rfl hlk Nq4 (by show _ ≤ 1; omega) (by show _ ≤ 10; omega) rfl (hb hby d_method_3_code_17) ?_
  try rw [eq4]
  exact ⟨bq2, kq2, [(105 : Int32), (100 : Int32)], 2, rfl, by omega, ((K0.wr Wq3 (Or.inr (by omega))).wr Wq4 (Or.inr (by omega))), Vq4, by decide, by decide, rfl, (chS (by decide) (chS (by decide) ch0))⟩
set_option maxRecDepth 65536 in
set_option maxHeartbeats 40000000 in
theorem baseC_c5 (l : Launch) (Z : State) (aw : Array Value) (hw : ∀ d ∈ tables_1, d.before aw Z = true) (kk : Int32) {p : Program} {e : Env} {s : State} {m : MethodId} {args : Array Value} {below : List Frame} {meth : Method} {c : Code} {T : State} {locs : List Loc} {cells slots n0 : Nat} {h0 h1 : Heap} (hx : p.tables.exec = Jvm.exec) (hby : c.code = method_3_code) (hml : c.maxLocals = 1) (hrt : meth.sig.returnType = some (.array .char)) (hlk : meth.locks = false) (hnm : meth.name = "base") (hZ : Z.Warmed39 s.vm) (hown : s.vm.findClass "com/example/dispatch_note/dispatchnote/contract/ManagedMemberNamedPinLaw" = some m.cls) (X : Stand p l e ({ frames := 0, cells := 1, slots := 10, locals := 0 } : Room) s m args below meth c T locs cells slots) (e0 : T.heap = h1) (N : Fr n0 locs) (hcells : cells ≤ 0) (hslots : slots ≤ 0) (O : Old Z n0 h1) (K0 : Keep h0 h1 []) (cq1 : ¬ (kk = (0 : Int32))) (cq3 : kk = (1 : Int32)) :
    Goes p e below s ({ frames := 0, cells := 1, slots := 10, locals := 0 } : Room).cells ({ frames := 0, cells := 1, slots := 10, locals := 0 } : Room).slots n0 (fun vv hh => ∃ r : Nat, ∃ kr : ClassId, ∃ cs : List Int32, ∃ nn : Nat, vv = some (.ref r) ∧ h0.size ≤ r ∧ Keep h0 hh [] ∧ Arv Z hh r kr .char (Int32.ofNat nn) (cs.map Value.int) (.int (0 : Int32)) ∧ (0 < nn ∧ nn ≤ 10 ∧ cs.length = nn ∧ ∀ c ∈ cs, ¬ c < 0 ∧ ¬ (255 : Int32) < c)) (T.setTop (mkF m 25 #[.val (.int kk)] [(.int (7 : Int32))])) := by
  have zO := O.le
  have zK := K0.1
  show Goes _ _ _ _ _ _ _ _ (T.setTop (mkF m 25 #[.val (.int kk)] [(.int (7 : Int32))]))
  obtain ⟨Tq4, hq4, kq4, Xq4, eq4, Eq4, Aq4, stq4⟩ := newP (aty := .char) X hx hZ (W_4 hw) e0 (g := (mkF m 25 #[.val (.int kk)] [(.int (7 : Int32))])) rfl (hb hby d_method_3_code_25) rfl (by decide) (cap := 7) (by decide) (by decide) (by show _ + 1 ≤ 1; omega) (by show _ + 7 ≤ 10; omega)
  obtain ⟨bq4, gq4⟩ : ∃ z, z = h1.size := ⟨_, rfl⟩
  rw [← gq4] at Aq4 stq4
  have zq4 := Eq4.1
  have Oq4 := O.ext Eq4
  have Vq4 : Arv Z hq4 bq4 kq4 .char (7 : Int32) [(.int (0 : Int32)), (.int (0 : Int32)), (.int (0 : Int32)), (.int (0 : Int32)), (.int (0 : Int32)), (.int (0 : Int32)), (.int (0 : Int32))] (.int (0 : Int32)) := (Arv.new Aq4 (by decide)).pad (pad_rep [] (.int (0 : Int32)) 7)
  have lq4 := lt_nat Vq4.lt
  refine Goes.via stq4 ?_
  show Goes _ _ _ _ _ _ _ _ (Tq4.setTop (mkF m 27 #[.val (.int kk)] [(.ref bq4)]))
  refine Goes.via (fun _ k => XS.dup Xq4.here hx rfl (hb hby d_method_3_code_27) rfl rfl k) ?_
  show Goes _ _ _ _ _ _ _ _ (Tq4.setTop (mkF m 28 #[.val (.int kk)] [(.ref bq4), (.ref bq4)]))
  refine Goes.via (fun _ k => XT.iconstV Xq4.here hx rfl (0 : Int32) (hb hby d_method_3_code_28) (by decide) k) ?_
  show Goes _ _ _ _ _ _ _ _ (Tq4.setTop (mkF m 29 #[.val (.int kk)] [(.int (0 : Int32)), (.ref bq4), (.ref bq4)]))
  refine Goes.via (fun _ k => XT.bipushV Xq4.here hx rfl (118 : Int32) (hb hby d_method_3_code_29) (by decide) k) ?_
  show Goes _ _ _ _ _ _ _ _ (Tq4.setTop (mkF m 31 #[.val (.int kk)] [(.int (118 : Int32)), (.int (0 : Int32)), (.ref bq4), (.ref bq4)]))
  obtain ⟨clq5, Arq5, qq5, Sq5, Nnq5, Hq5, Gq5⟩ := id Vq4
  have hinq5 : ¬ ((0 : Int32) < 0 ∨ clq5.slots.size ≤ ((0 : Int32)).toNatClampNeg) := inb_of Sq5 ⟨by decide, by decide⟩
  obtain ⟨Tq5, hq5, Xq5, eq5, Wq5, stq5⟩ := stC Xq4 hx hZ eq4 Arq5 (j := (0 : Int32)) hinq5 (g := (mkF m 31 #[.val (.int kk)] [(.int (118 : Int32)), (.int (0 : Int32)), (.ref bq4), (.ref bq4)])) rfl rfl (hb hby d_method_3_code_31)
  have Nq5 := Fr.snoc Xq5 N (by omega)
  have zq5 := Wq5.size
  have Oq5 := Oq4.wr Wq5 (by omega)
  have Vq5 : Arv Z hq5 bq4 kq4 .char (7 : Int32) [(.int (118 : Int32)), (.int (0 : Int32)), (.int (0 : Int32)), (.int (0 : Int32)), (.int (0 : Int32)), (.int (0 : Int32)), (.int (0 : Int32))] (.int (0 : Int32)) := Arv.set Arq5 qq5 Sq5 Nnq5 Hq5 Gq5 (by decide) Wq5 0 rfl (Nat.le_of_ble_eq_true rfl)
  refine Goes.via stq5 ?_
  show Goes _ _ _ _ _ _ _ _ (Tq5.setTop (mkF m 32 #[.val (.int kk)] [(.ref bq4)]))
  refine Goes.via (fun _ k => XS.dup Xq5.here hx rfl (hb hby d_method_3_code_32) rfl rfl k) ?_
  show Goes _ _ _ _ _ _ _ _ (Tq5.setTop (mkF m 33 #[.val (.int kk)] [(.ref bq4), (.ref bq4)]))
  refine Goes.via (fun _ k => XT.iconstV Xq5.here hx rfl (1 : Int32) (hb hby d_method_3_code_33) (by decide) k) ?_
  show Goes _ _ _ _ _ _ _ _ (Tq5.setTop (mkF m 34 #[.val (.int kk)] [(.int (1 : Int32)), (.ref bq4), (.ref bq4)]))
  refine Goes.via (fun _ k => XT.bipushV Xq5.here hx rfl (101 : Int32) (hb hby d_method_3_code_34) (by decide) k) ?_
  show Goes _ _ _ _ _ _ _ _ (Tq5.setTop (mkF m 36 #[.val (.int kk)] [(.int (101 : Int32)), (.int (1 : Int32)), (.ref bq4), (.ref bq4)]))
  obtain ⟨clq6, Arq6, qq6, Sq6, Nnq6, Hq6, Gq6⟩ := id Vq5
  have hinq6 : ¬ ((1 : Int32) < 0 ∨ clq6.slots.size ≤ ((1 : Int32)).toNatClampNeg) := inb_of Sq6 ⟨by decide, by decide⟩
  obtain ⟨Tq6, hq6, Xq6, eq6, Wq6, stq6⟩ := stC Xq5 hx hZ eq5 Arq6 (j := (1 : Int32)) hinq6 (g := (mkF m 36 #[.val (.int kk)] [(.int (101 : Int32)), (.int (1 : Int32)), (.ref bq4), (.ref bq4)])) rfl rfl (hb hby d_method_3_code_36)
  have Nq6 := Fr.snoc Xq6 Nq5 (by omega)
  have zq6 := Wq6.size
  have Oq6 := Oq5.wr Wq6 (by omega)
  have Vq6 : Arv Z hq6 bq4 kq4 .char (7 : Int32) [(.int (118 : Int32)), (.int (101 : Int32)), (.int (0 : Int32)), (.int (0 : Int32)), (.int (0 : Int32)), (.int (0 : Int32)), (.int (0 : Int32))] (.int (0 : Int32)) := Arv.set Arq6 qq6 Sq6 Nnq6 Hq6 Gq6 (by decide) Wq6 1 rfl (Nat.le_of_ble_eq_true rfl)
  refine Goes.via stq6 ?_
  show Goes _ _ _ _ _ _ _ _ (Tq6.setTop (mkF m 37 #[.val (.int kk)] [(.ref bq4)]))
  refine Goes.via (fun _ k => XS.dup Xq6.here hx rfl (hb hby d_method_3_code_37) rfl rfl k) ?_
  show Goes _ _ _ _ _ _ _ _ (Tq6.setTop (mkF m 38 #[.val (.int kk)] [(.ref bq4), (.ref bq4)]))
  refine Goes.via (fun _ k => XT.iconstV Xq6.here hx rfl (2 : Int32) (hb hby d_method_3_code_38) (by decide) k) ?_
  show Goes _ _ _ _ _ _ _ _ (Tq6.setTop (mkF m 39 #[.val (.int kk)] [(.int (2 : Int32)), (.ref bq4), (.ref bq4)]))
  refine Goes.via (fun _ k => XT.bipushV Xq6.here hx rfl (114 : Int32) (hb hby d_method_3_code_39) (by decide) k) ?_
  show Goes _ _ _ _ _ _ _ _ (Tq6.setTop (mkF m 41 #[.val (.int kk)] [(.int (114 : Int32)), (.int (2 : Int32)), (.ref bq4), (.ref bq4)]))
  obtain ⟨clq7, Arq7, qq7, Sq7, Nnq7, Hq7, Gq7⟩ := id Vq6
  have hinq7 : ¬ ((2 : Int32) < 0 ∨ clq7.slots.size ≤ ((2 : Int32)).toNatClampNeg) := inb_of Sq7 ⟨by decide, by decide⟩
  obtain ⟨Tq7, hq7, Xq7, eq7, Wq7, stq7⟩ := stC Xq6 hx hZ eq6 Arq7 (j := (2 : Int32)) hinq7 (g := (mkF m 41 #[.val (.int kk)] [(.int (114 : Int32)), (.int (2 : Int32)), (.ref bq4), (.ref bq4)])) rfl rfl (hb hby d_method_3_code_41)
  have Nq7 := Fr.snoc Xq7 Nq6 (by omega)
  have zq7 := Wq7.size
  have Oq7 := Oq6.wr Wq7 (by omega)
  have Vq7 : Arv Z hq7 bq4 kq4 .char (7 : Int32) [(.int (118 : Int32)), (.int (101 : Int32)), (.int (114 : Int32)), (.int (0 : Int32)), (.int (0 : Int32)), (.int (0 : Int32)), (.int (0 : Int32))] (.int (0 : Int32)) := Arv.set Arq7 qq7 Sq7 Nnq7 Hq7 Gq7 (by decide) Wq7 2 rfl (Nat.le_of_ble_eq_true rfl)
  refine Goes.via stq7 ?_
  show Goes _ _ _ _ _ _ _ _ (Tq7.setTop (mkF m 42 #[.val (.int kk)] [(.ref bq4)]))
  refine Goes.via (fun _ k => XS.dup Xq7.here hx rfl (hb hby d_method_3_code_42) rfl rfl k) ?_
  show Goes _ _ _ _ _ _ _ _ (Tq7.setTop (mkF m 43 #[.val (.int kk)] [(.ref bq4), (.ref bq4)]))
  refine Goes.via (fun _ k => XT.iconstV Xq7.here hx rfl (3 : Int32) (hb hby d_method_3_code_43) (by decide) k) ?_
  show Goes _ _ _ _ _ _ _ _ (Tq7.setTop (mkF m 44 #[.val (.int kk)] [(.int (3 : Int32)), (.ref bq4), (.ref bq4)]))
  refine Goes.via (fun _ k => XT.bipushV Xq7.here hx rfl (115 : Int32) (hb hby d_method_3_code_44) (by decide) k) ?_
  show Goes _ _ _ _ _ _ _ _ (Tq7.setTop (mkF m 46 #[.val (.int kk)] [(.int (115 : Int32)), (.int (3 : Int32)), (.ref bq4), (.ref bq4)]))
  obtain ⟨clq8, Arq8, qq8, Sq8, Nnq8, Hq8, Gq8⟩ := id Vq7
  have hinq8 : ¬ ((3 : Int32) < 0 ∨ clq8.slots.size ≤ ((3 : Int32)).toNatClampNeg) := inb_of Sq8 ⟨by decide, by decide⟩
  obtain ⟨Tq8, hq8, Xq8, eq8, Wq8, stq8⟩ := stC Xq7 hx hZ eq7 Arq8 (j := (3 : Int32)) hinq8 (g := (mkF m 46 #[.val (.int kk)] [(.int (115 : Int32)), (.int (3 : Int32)), (.ref bq4), (.ref bq4)])) rfl rfl (hb hby d_method_3_code_46)
  have Nq8 := Fr.snoc Xq8 Nq7 (by omega)
  have zq8 := Wq8.size
  have Oq8 := Oq7.wr Wq8 (by omega)
  have Vq8 : Arv Z hq8 bq4 kq4 .char (7 : Int32) [(.int (118 : Int32)), (.int (101 : Int32)), (.int (114 : Int32)), (.int (115 : Int32)), (.int (0 : Int32)), (.int (0 : Int32)), (.int (0 : Int32))] (.int (0 : Int32)) := Arv.set Arq8 qq8 Sq8 Nnq8 Hq8 Gq8 (by decide) Wq8 3 rfl (Nat.le_of_ble_eq_true rfl)
  refine Goes.via stq8 ?_
  show Goes _ _ _ _ _ _ _ _ (Tq8.setTop (mkF m 47 #[.val (.int kk)] [(.ref bq4)]))
  refine Goes.via (fun _ k => XS.dup Xq8.here hx rfl (hb hby d_method_3_code_47) rfl rfl k) ?_
  show Goes _ _ _ _ _ _ _ _ (Tq8.setTop (mkF m 48 #[.val (.int kk)] [(.ref bq4), (.ref bq4)]))
  refine Goes.via (fun _ k => XT.iconstV Xq8.here hx rfl (4 : Int32) (hb hby d_method_3_code_48) (by decide) k) ?_
  show Goes _ _ _ _ _ _ _ _ (Tq8.setTop (mkF m 49 #[.val (.int kk)] [(.int (4 : Int32)), (.ref bq4), (.ref bq4)]))
  refine Goes.via (fun _ k => XT.bipushV Xq8.here hx rfl (105 : Int32) (hb hby d_method_3_code_49) (by decide) k) ?_
  show Goes _ _ _ _ _ _ _ _ (Tq8.setTop (mkF m 51 #[.val (.int kk)] [(.int (105 : Int32)), (.int (4 : Int32)), (.ref bq4), (.ref bq4)]))
  obtain ⟨clq9, Arq9, qq9, Sq9, Nnq9, Hq9, Gq9⟩ := id Vq8
  have hinq9 : ¬ ((4 : Int32) < 0 ∨ clq9.slots.size ≤ ((4 : Int32)).toNatClampNeg) := inb_of Sq9 ⟨by decide, by decide⟩
  obtain ⟨Tq9, hq9, Xq9, eq9, Wq9, stq9⟩ := stC Xq8 hx hZ eq8 Arq9 (j := (4 : Int32)) hinq9 (g := (mkF m 51 #[.val (.int kk)] [(.int (105 : Int32)), (.int (4 : Int32)), (.ref bq4), (.ref bq4)])) rfl rfl (hb hby d_method_3_code_51)
  have Nq9 := Fr.snoc Xq9 Nq8 (by omega)
  have zq9 := Wq9.size
  have Oq9 := Oq8.wr Wq9 (by omega)
  have Vq9 : Arv Z hq9 bq4 kq4 .char (7 : Int32) [(.int (118 : Int32)), (.int (101 : Int32)), (.int (114 : Int32)), (.int (115 : Int32)), (.int (105 : Int32)), (.int (0 : Int32)), (.int (0 : Int32))] (.int (0 : Int32)) := Arv.set Arq9 qq9 Sq9 Nnq9 Hq9 Gq9 (by decide) Wq9 4 rfl (Nat.le_of_ble_eq_true rfl)
  refine Goes.via stq9 ?_
  show Goes _ _ _ _ _ _ _ _ (Tq9.setTop (mkF m 52 #[.val (.int kk)] [(.ref bq4)]))
  refine Goes.via (fun _ k => XS.dup Xq9.here hx rfl (hb hby d_method_3_code_52) rfl rfl k) ?_
  show Goes _ _ _ _ _ _ _ _ (Tq9.setTop (mkF m 53 #[.val (.int kk)] [(.ref bq4), (.ref bq4)]))
  refine Goes.via (fun _ k => XT.iconstV Xq9.here hx rfl (5 : Int32) (hb hby d_method_3_code_53) (by decide) k) ?_
  show Goes _ _ _ _ _ _ _ _ (Tq9.setTop (mkF m 54 #[.val (.int kk)] [(.int (5 : Int32)), (.ref bq4), (.ref bq4)]))
  refine Goes.via (fun _ k => XT.bipushV Xq9.here hx rfl (111 : Int32) (hb hby d_method_3_code_54) (by decide) k) ?_
  show Goes _ _ _ _ _ _ _ _ (Tq9.setTop (mkF m 56 #[.val (.int kk)] [(.int (111 : Int32)), (.int (5 : Int32)), (.ref bq4), (.ref bq4)]))
  obtain ⟨clq10, Arq10, qq10, Sq10, Nnq10, Hq10, Gq10⟩ := id Vq9
  have hinq10 : ¬ ((5 : Int32) < 0 ∨ clq10.slots.size ≤ ((5 : Int32)).toNatClampNeg) := inb_of Sq10 ⟨by decide, by decide⟩
  obtain ⟨Tq10, hq10, Xq10, eq10, Wq10, stq10⟩ := stC Xq9 hx hZ eq9 Arq10 (j := (5 : Int32)) hinq10 (g := (mkF m 56 #[.val (.int kk)] [(.int (111 : Int32)), (.int (5 : Int32)), (.ref bq4), (.ref bq4)])) rfl rfl (hb hby d_method_3_code_56)
  have Nq10 := Fr.snoc Xq10 Nq9 (by omega)
  have zq10 := Wq10.size
  have Oq10 := Oq9.wr Wq10 (by omega)
  have Vq10 : Arv Z hq10 bq4 kq4 .char (7 : Int32) [(.int (118 : Int32)), (.int (101 : Int32)), (.int (114 : Int32)), (.int (115 : Int32)), (.int (105 : Int32)), (.int (111 : Int32)), (.int (0 : Int32))] (.int (0 : Int32)) := Arv.set Arq10 qq10 Sq10 Nnq10 Hq10 Gq10 (by decide) Wq10 5 rfl (Nat.le_of_ble_eq_true rfl)
  refine Goes.via stq10 ?_
  show Goes _ _ _ _ _ _ _ _ (Tq10.setTop (mkF m 57 #[.val (.int kk)] [(.ref bq4)]))
  refine Goes.via (fun _ k => XS.dup Xq10.here hx rfl (hb hby d_method_3_code_57) rfl rfl k) ?_
  show Goes _ _ _ _ _ _ _ _ (Tq10.setTop (mkF m 58 #[.val (.int kk)] [(.ref bq4), (.ref bq4)]))
  refine Goes.via (fun _ k => XT.bipushV Xq10.here hx rfl (6 : Int32) (hb hby d_method_3_code_58) (by decide) k) ?_
  show Goes _ _ _ _ _ _ _ _ (Tq10.setTop (mkF m 60 #[.val (.int kk)] [(.int (6 : Int32)), (.ref bq4), (.ref bq4)]))
  refine Goes.via (fun _ k => XT.bipushV Xq10.here hx rfl (110 : Int32) (hb hby d_method_3_code_60) (by decide) k) ?_
  show Goes _ _ _ _ _ _ _ _ (Tq10.setTop (mkF m 62 #[.val (.int kk)] [(.int (110 : Int32)), (.int (6 : Int32)), (.ref bq4), (.ref bq4)]))
  obtain ⟨clq11, Arq11, qq11, Sq11, Nnq11, Hq11, Gq11⟩ := id Vq10
  have hinq11 : ¬ ((6 : Int32) < 0 ∨ clq11.slots.size ≤ ((6 : Int32)).toNatClampNeg) := inb_of Sq11 ⟨by decide, by decide⟩
  obtain ⟨Tq11, hq11, Xq11, eq11, Wq11, stq11⟩ := stC Xq10 hx hZ eq10 Arq11 (j := (6 : Int32)) hinq11 (g := (mkF m 62 #[.val (.int kk)] [(.int (110 : Int32)), (.int (6 : Int32)), (.ref bq4), (.ref bq4)])) rfl rfl (hb hby d_method_3_code_62)
  have Nq11 := Fr.snoc Xq11 Nq10 (by omega)
  have zq11 := Wq11.size
  have Oq11 := Oq10.wr Wq11 (by omega)
  have Vq11 : Arv Z hq11 bq4 kq4 .char (7 : Int32) [(.int (118 : Int32)), (.int (101 : Int32)), (.int (114 : Int32)), (.int (115 : Int32)), (.int (105 : Int32)), (.int (111 : Int32)), (.int (110 : Int32))] (.int (0 : Int32)) := Arv.set Arq11 qq11 Sq11 Nnq11 Hq11 Gq11 (by decide) Wq11 6 rfl (Nat.le_of_ble_eq_true rfl)
  refine Goes.via stq11 ?_
  show Goes _ _ _ _ _ _ _ _ (Tq11.setTop (mkF m 63 #[.val (.int kk)] [(.ref bq4)]))
  refine goRetA Xq11 hx hrt rfl hlk Nq11 (by show _ ≤ 1; omega) (by show _ ≤ 10; omega) rfl (hb hby d_method_3_code_63) ?_
  try rw [eq11]
  exact ⟨bq4, kq4, [(118 : Int32), (101 : Int32), (114 : Int32), (115 : Int32), (105 : Int32), (111 : Int32), (110 : Int32)], 7, rfl, by omega, ((((((((K0.ext Eq4).wr Wq5 (Or.inr (by omega))).wr Wq6 (Or.inr (by omega))).wr Wq7 (Or.inr (by omega))).wr Wq8 (Or.inr (by omega))).wr Wq9 (Or.inr (by omega))).wr Wq10 (Or.inr (by omega))).wr Wq11 (Or.inr (by omega))), Vq11, by decide, by decide, rfl, (chS (by decide) (chS (by decide) (chS (by decide) (chS (by decide) (chS (by decide) (chS (by decide) (chS (by decide) ch0)))))))⟩
set_option maxRecDepth 65536 in
set_option maxHeartbeats 40000000 in
theorem baseC_c7 (l : Launch) (Z : State) (aw : Array Value) (hw : ∀ d ∈ tables_1, d.before aw Z = true) (kk : Int32) (bq5 : Nat) (kq5 : ClassId) {p : Program} {e : Env} {s : State} {m : MethodId} {args : Array Value} {below : List Frame} {meth : Method} {c : Code} {T : State} {locs : List Loc} {cells slots n0 : Nat} {h0 h1 : Heap} (hx : p.tables.exec = Jvm.exec) (hby : c.code = method_3_code) (hml : c.maxLocals = 1) (hrt : meth.sig.returnType = some (.array .char)) (hlk : meth.locks = false) (hnm : meth.name = "base") (hZ : Z.Warmed39 s.vm) (hown : s.vm.findClass "com/example/dispatch_note/dispatchnote/contract/ManagedMemberNamedPinLaw" = some m.cls) (X : Stand p l e ({ frames := 0, cells := 1, slots := 10, locals := 0 } : Room) s m args below meth c T locs cells slots) (e0 : T.heap = h1) (N : Fr n0 locs) (hcells : cells ≤ 1) (hslots : slots ≤ 9) (O : Old Z n0 h1) (K0 : Keep h0 h1 []) (pf0 : Arv Z h1 bq5 kq5 .char (9 : Int32) [(.int (0 : Int32)), (.int (0 : Int32)), (.int (0 : Int32)), (.int (0 : Int32)), (.int (0 : Int32)), (.int (0 : Int32)), (.int (0 : Int32)), (.int (0 : Int32)), (.int (0 : Int32))] (.int (0 : Int32))) (cq1 : ¬ (kk = (0 : Int32))) (cq3 : ¬ (kk = (1 : Int32))) (cq4 : kk = (2 : Int32)) (cn1 : n0 ≤ bq5) (cn2 : h0.size ≤ bq5) :
    Goes p e below s ({ frames := 0, cells := 1, slots := 10, locals := 0 } : Room).cells ({ frames := 0, cells := 1, slots := 10, locals := 0 } : Room).slots n0 (fun vv hh => ∃ r : Nat, ∃ kr : ClassId, ∃ cs : List Int32, ∃ nn : Nat, vv = some (.ref r) ∧ h0.size ≤ r ∧ Keep h0 hh [] ∧ Arv Z hh r kr .char (Int32.ofNat nn) (cs.map Value.int) (.int (0 : Int32)) ∧ (0 < nn ∧ nn ≤ 10 ∧ cs.length = nn ∧ ∀ c ∈ cs, ¬ c < 0 ∧ ¬ (255 : Int32) < c)) (T.setTop (mkF m 75 #[.val (.int kk)] [(.int (0 : Int32)), (.ref bq5), (.ref bq5)])) := by
  have zO := O.le
  have zK := K0.1
  have lt_bq5 := lt_nat pf0.lt
  show Goes _ _ _ _ _ _ _ _ (T.setTop (mkF m 75 #[.val (.int kk)] [(.int (0 : Int32)), (.ref bq5), (.ref bq5)]))
  refine Goes.via (fun _ k => XT.bipushV X.here hx rfl (99 : Int32) (hb hby d_method_3_code_75) (by decide) k) ?_
  show Goes _ _ _ _ _ _ _ _ (T.setTop (mkF m 77 #[.val (.int kk)] [(.int (99 : Int32)), (.int (0 : Int32)), (.ref bq5), (.ref bq5)]))
  obtain ⟨clq6, Arq6, qq6, Sq6, Nnq6, Hq6, Gq6⟩ := id pf0
  have hinq6 : ¬ ((0 : Int32) < 0 ∨ clq6.slots.size ≤ ((0 : Int32)).toNatClampNeg) := inb_of Sq6 ⟨by decide, by decide⟩
  obtain ⟨Tq6, hq6, Xq6, eq6, Wq6, stq6⟩ := stC X hx hZ e0 Arq6 (j := (0 : Int32)) hinq6 (g := (mkF m 77 #[.val (.int kk)] [(.int (99 : Int32)), (.int (0 : Int32)), (.ref bq5), (.ref bq5)])) rfl rfl (hb hby d_method_3_code_77)
  have Nq6 := Fr.snoc Xq6 N (by omega)
  have zq6 := Wq6.size
  have Oq6 := O.wr Wq6 (by omega)
  have Vq6 : Arv Z hq6 bq5 kq5 .char (9 : Int32) [(.int (99 : Int32)), (.int (0 : Int32)), (.int (0 : Int32)), (.int (0 : Int32)), (.int (0 : Int32)), (.int (0 : Int32)), (.int (0 : Int32)), (.int (0 : Int32)), (.int (0 : Int32))] (.int (0 : Int32)) := Arv.set Arq6 qq6 Sq6 Nnq6 Hq6 Gq6 (by decide) Wq6 0 rfl (Nat.le_of_ble_eq_true rfl)
  refine Goes.via stq6 ?_
  show Goes _ _ _ _ _ _ _ _ (Tq6.setTop (mkF m 78 #[.val (.int kk)] [(.ref bq5)]))
  refine Goes.via (fun _ k => XS.dup Xq6.here hx rfl (hb hby d_method_3_code_78) rfl rfl k) ?_
  show Goes _ _ _ _ _ _ _ _ (Tq6.setTop (mkF m 79 #[.val (.int kk)] [(.ref bq5), (.ref bq5)]))
  refine Goes.via (fun _ k => XT.iconstV Xq6.here hx rfl (1 : Int32) (hb hby d_method_3_code_79) (by decide) k) ?_
  show Goes _ _ _ _ _ _ _ _ (Tq6.setTop (mkF m 80 #[.val (.int kk)] [(.int (1 : Int32)), (.ref bq5), (.ref bq5)]))
  refine Goes.via (fun _ k => XT.bipushV Xq6.here hx rfl (114 : Int32) (hb hby d_method_3_code_80) (by decide) k) ?_
  show Goes _ _ _ _ _ _ _ _ (Tq6.setTop (mkF m 82 #[.val (.int kk)] [(.int (114 : Int32)), (.int (1 : Int32)), (.ref bq5), (.ref bq5)]))
  obtain ⟨clq7, Arq7, qq7, Sq7, Nnq7, Hq7, Gq7⟩ := id Vq6
  have hinq7 : ¬ ((1 : Int32) < 0 ∨ clq7.slots.size ≤ ((1 : Int32)).toNatClampNeg) := inb_of Sq7 ⟨by decide, by decide⟩
  obtain ⟨Tq7, hq7, Xq7, eq7, Wq7, stq7⟩ := stC Xq6 hx hZ eq6 Arq7 (j := (1 : Int32)) hinq7 (g := (mkF m 82 #[.val (.int kk)] [(.int (114 : Int32)), (.int (1 : Int32)), (.ref bq5), (.ref bq5)])) rfl rfl (hb hby d_method_3_code_82)
  have Nq7 := Fr.snoc Xq7 Nq6 (by omega)
  have zq7 := Wq7.size
  have Oq7 := Oq6.wr Wq7 (by omega)
  have Vq7 : Arv Z hq7 bq5 kq5 .char (9 : Int32) [(.int (99 : Int32)), (.int (114 : Int32)), (.int (0 : Int32)), (.int (0 : Int32)), (.int (0 : Int32)), (.int (0 : Int32)), (.int (0 : Int32)), (.int (0 : Int32)), (.int (0 : Int32))] (.int (0 : Int32)) := Arv.set Arq7 qq7 Sq7 Nnq7 Hq7 Gq7 (by decide) Wq7 1 rfl (Nat.le_of_ble_eq_true rfl)
  refine Goes.via stq7 ?_
  show Goes _ _ _ _ _ _ _ _ (Tq7.setTop (mkF m 83 #[.val (.int kk)] [(.ref bq5)]))
  refine Goes.via (fun _ k => XS.dup Xq7.here hx rfl (hb hby d_method_3_code_83) rfl rfl k) ?_
  show Goes _ _ _ _ _ _ _ _ (Tq7.setTop (mkF m 84 #[.val (.int kk)] [(.ref bq5), (.ref bq5)]))
  refine Goes.via (fun _ k => XT.iconstV Xq7.here hx rfl (2 : Int32) (hb hby d_method_3_code_84) (by decide) k) ?_
  show Goes _ _ _ _ _ _ _ _ (Tq7.setTop (mkF m 85 #[.val (.int kk)] [(.int (2 : Int32)), (.ref bq5), (.ref bq5)]))
  refine Goes.via (fun _ k => XT.bipushV Xq7.here hx rfl (101 : Int32) (hb hby d_method_3_code_85) (by decide) k) ?_
  show Goes _ _ _ _ _ _ _ _ (Tq7.setTop (mkF m 87 #[.val (.int kk)] [(.int (101 : Int32)), (.int (2 : Int32)), (.ref bq5), (.ref bq5)]))
  obtain ⟨clq8, Arq8, qq8, Sq8, Nnq8, Hq8, Gq8⟩ := id Vq7
  have hinq8 : ¬ ((2 : Int32) < 0 ∨ clq8.slots.size ≤ ((2 : Int32)).toNatClampNeg) := inb_of Sq8 ⟨by decide, by decide⟩
  obtain ⟨Tq8, hq8, Xq8, eq8, Wq8, stq8⟩ := stC Xq7 hx hZ eq7 Arq8 (j := (2 : Int32)) hinq8 (g := (mkF m 87 #[.val (.int kk)] [(.int (101 : Int32)), (.int (2 : Int32)), (.ref bq5), (.ref bq5)])) rfl rfl (hb hby d_method_3_code_87)
  have Nq8 := Fr.snoc Xq8 Nq7 (by omega)
  have zq8 := Wq8.size
  have Oq8 := Oq7.wr Wq8 (by omega)
  have Vq8 : Arv Z hq8 bq5 kq5 .char (9 : Int32) [(.int (99 : Int32)), (.int (114 : Int32)), (.int (101 : Int32)), (.int (0 : Int32)), (.int (0 : Int32)), (.int (0 : Int32)), (.int (0 : Int32)), (.int (0 : Int32)), (.int (0 : Int32))] (.int (0 : Int32)) := Arv.set Arq8 qq8 Sq8 Nnq8 Hq8 Gq8 (by decide) Wq8 2 rfl (Nat.le_of_ble_eq_true rfl)
  refine Goes.via stq8 ?_
  show Goes _ _ _ _ _ _ _ _ (Tq8.setTop (mkF m 88 #[.val (.int kk)] [(.ref bq5)]))
  refine Goes.via (fun _ k => XS.dup Xq8.here hx rfl (hb hby d_method_3_code_88) rfl rfl k) ?_
  show Goes _ _ _ _ _ _ _ _ (Tq8.setTop (mkF m 89 #[.val (.int kk)] [(.ref bq5), (.ref bq5)]))
  refine Goes.via (fun _ k => XT.iconstV Xq8.here hx rfl (3 : Int32) (hb hby d_method_3_code_89) (by decide) k) ?_
  show Goes _ _ _ _ _ _ _ _ (Tq8.setTop (mkF m 90 #[.val (.int kk)] [(.int (3 : Int32)), (.ref bq5), (.ref bq5)]))
  refine Goes.via (fun _ k => XT.bipushV Xq8.here hx rfl (97 : Int32) (hb hby d_method_3_code_90) (by decide) k) ?_
  show Goes _ _ _ _ _ _ _ _ (Tq8.setTop (mkF m 92 #[.val (.int kk)] [(.int (97 : Int32)), (.int (3 : Int32)), (.ref bq5), (.ref bq5)]))
  obtain ⟨clq9, Arq9, qq9, Sq9, Nnq9, Hq9, Gq9⟩ := id Vq8
  have hinq9 : ¬ ((3 : Int32) < 0 ∨ clq9.slots.size ≤ ((3 : Int32)).toNatClampNeg) := inb_of Sq9 ⟨by decide, by decide⟩
  obtain ⟨Tq9, hq9, Xq9, eq9, Wq9, stq9⟩ := stC Xq8 hx hZ eq8 Arq9 (j := (3 : Int32)) hinq9 (g := (mkF m 92 #[.val (.int kk)] [(.int (97 : Int32)), (.int (3 : Int32)), (.ref bq5), (.ref bq5)])) rfl rfl (hb hby d_method_3_code_92)
  have Nq9 := Fr.snoc Xq9 Nq8 (by omega)
  have zq9 := Wq9.size
  have Oq9 := Oq8.wr Wq9 (by omega)
  have Vq9 : Arv Z hq9 bq5 kq5 .char (9 : Int32) [(.int (99 : Int32)), (.int (114 : Int32)), (.int (101 : Int32)), (.int (97 : Int32)), (.int (0 : Int32)), (.int (0 : Int32)), (.int (0 : Int32)), (.int (0 : Int32)), (.int (0 : Int32))] (.int (0 : Int32)) := Arv.set Arq9 qq9 Sq9 Nnq9 Hq9 Gq9 (by decide) Wq9 3 rfl (Nat.le_of_ble_eq_true rfl)
  refine Goes.via stq9 ?_
  show Goes _ _ _ _ _ _ _ _ (Tq9.setTop (mkF m 93 #[.val (.int kk)] [(.ref bq5)]))
  refine Goes.via (fun _ k => XS.dup Xq9.here hx rfl (hb hby d_method_3_code_93) rfl rfl k) ?_
  show Goes _ _ _ _ _ _ _ _ (Tq9.setTop (mkF m 94 #[.val (.int kk)] [(.ref bq5), (.ref bq5)]))
  refine Goes.via (fun _ k => XT.iconstV Xq9.here hx rfl (4 : Int32) (hb hby d_method_3_code_94) (by decide) k) ?_
  show Goes _ _ _ _ _ _ _ _ (Tq9.setTop (mkF m 95 #[.val (.int kk)] [(.int (4 : Int32)), (.ref bq5), (.ref bq5)]))
  refine Goes.via (fun _ k => XT.bipushV Xq9.here hx rfl (116 : Int32) (hb hby d_method_3_code_95) (by decide) k) ?_
  show Goes _ _ _ _ _ _ _ _ (Tq9.setTop (mkF m 97 #[.val (.int kk)] [(.int (116 : Int32)), (.int (4 : Int32)), (.ref bq5), (.ref bq5)]))
  obtain ⟨clq10, Arq10, qq10, Sq10, Nnq10, Hq10, Gq10⟩ := id Vq9
  have hinq10 : ¬ ((4 : Int32) < 0 ∨ clq10.slots.size ≤ ((4 : Int32)).toNatClampNeg) := inb_of Sq10 ⟨by decide, by decide⟩
  obtain ⟨Tq10, hq10, Xq10, eq10, Wq10, stq10⟩ := stC Xq9 hx hZ eq9 Arq10 (j := (4 : Int32)) hinq10 (g := (mkF m 97 #[.val (.int kk)] [(.int (116 : Int32)), (.int (4 : Int32)), (.ref bq5), (.ref bq5)])) rfl rfl (hb hby d_method_3_code_97)
  have Nq10 := Fr.snoc Xq10 Nq9 (by omega)
  have zq10 := Wq10.size
  have Oq10 := Oq9.wr Wq10 (by omega)
  have Vq10 : Arv Z hq10 bq5 kq5 .char (9 : Int32) [(.int (99 : Int32)), (.int (114 : Int32)), (.int (101 : Int32)), (.int (97 : Int32)), (.int (116 : Int32)), (.int (0 : Int32)), (.int (0 : Int32)), (.int (0 : Int32)), (.int (0 : Int32))] (.int (0 : Int32)) := Arv.set Arq10 qq10 Sq10 Nnq10 Hq10 Gq10 (by decide) Wq10 4 rfl (Nat.le_of_ble_eq_true rfl)
  refine Goes.via stq10 ?_
  show Goes _ _ _ _ _ _ _ _ (Tq10.setTop (mkF m 98 #[.val (.int kk)] [(.ref bq5)]))
  refine Goes.via (fun _ k => XS.dup Xq10.here hx rfl (hb hby d_method_3_code_98) rfl rfl k) ?_
  show Goes _ _ _ _ _ _ _ _ (Tq10.setTop (mkF m 99 #[.val (.int kk)] [(.ref bq5), (.ref bq5)]))
  refine Goes.via (fun _ k => XT.iconstV Xq10.here hx rfl (5 : Int32) (hb hby d_method_3_code_99) (by decide) k) ?_
  show Goes _ _ _ _ _ _ _ _ (Tq10.setTop (mkF m 100 #[.val (.int kk)] [(.int (5 : Int32)), (.ref bq5), (.ref bq5)]))
  refine Goes.via (fun _ k => XT.bipushV Xq10.here hx rfl (101 : Int32) (hb hby d_method_3_code_100) (by decide) k) ?_
  show Goes _ _ _ _ _ _ _ _ (Tq10.setTop (mkF m 102 #[.val (.int kk)] [(.int (101 : Int32)), (.int (5 : Int32)), (.ref bq5), (.ref bq5)]))
  obtain ⟨clq11, Arq11, qq11, Sq11, Nnq11, Hq11, Gq11⟩ := id Vq10
  have hinq11 : ¬ ((5 : Int32) < 0 ∨ clq11.slots.size ≤ ((5 : Int32)).toNatClampNeg) := inb_of Sq11 ⟨by decide, by decide⟩
  obtain ⟨Tq11, hq11, Xq11, eq11, Wq11, stq11⟩ := stC Xq10 hx hZ eq10 Arq11 (j := (5 : Int32)) hinq11 (g := (mkF m 102 #[.val (.int kk)] [(.int (101 : Int32)), (.int (5 : Int32)), (.ref bq5), (.ref bq5)])) rfl rfl (hb hby d_method_3_code_102)
  have Nq11 := Fr.snoc Xq11 Nq10 (by omega)
  have zq11 := Wq11.size
  have Oq11 := Oq10.wr Wq11 (by omega)
  have Vq11 : Arv Z hq11 bq5 kq5 .char (9 : Int32) [(.int (99 : Int32)), (.int (114 : Int32)), (.int (101 : Int32)), (.int (97 : Int32)), (.int (116 : Int32)), (.int (101 : Int32)), (.int (0 : Int32)), (.int (0 : Int32)), (.int (0 : Int32))] (.int (0 : Int32)) := Arv.set Arq11 qq11 Sq11 Nnq11 Hq11 Gq11 (by decide) Wq11 5 rfl (Nat.le_of_ble_eq_true rfl)
  refine Goes.via stq11 ?_
  show Goes _ _ _ _ _ _ _ _ (Tq11.setTop (mkF m 103 #[.val (.int kk)] [(.ref bq5)]))
  refine Goes.via (fun _ k => XS.dup Xq11.here hx rfl (hb hby d_method_3_code_103) rfl rfl k) ?_
  show Goes _ _ _ _ _ _ _ _ (Tq11.setTop (mkF m 104 #[.val (.int kk)] [(.ref bq5), (.ref bq5)]))
  refine Goes.via (fun _ k => XT.bipushV Xq11.here hx rfl (6 : Int32) (hb hby d_method_3_code_104) (by decide) k) ?_
  show Goes _ _ _ _ _ _ _ _ (Tq11.setTop (mkF m 106 #[.val (.int kk)] [(.int (6 : Int32)), (.ref bq5), (.ref bq5)]))
  refine Goes.via (fun _ k => XT.bipushV Xq11.here hx rfl (100 : Int32) (hb hby d_method_3_code_106) (by decide) k) ?_
  show Goes _ _ _ _ _ _ _ _ (Tq11.setTop (mkF m 108 #[.val (.int kk)] [(.int (100 : Int32)), (.int (6 : Int32)), (.ref bq5), (.ref bq5)]))
  obtain ⟨clq12, Arq12, qq12, Sq12, Nnq12, Hq12, Gq12⟩ := id Vq11
  have hinq12 : ¬ ((6 : Int32) < 0 ∨ clq12.slots.size ≤ ((6 : Int32)).toNatClampNeg) := inb_of Sq12 ⟨by decide, by decide⟩
  obtain ⟨Tq12, hq12, Xq12, eq12, Wq12, stq12⟩ := stC Xq11 hx hZ eq11 Arq12 (j := (6 : Int32)) hinq12 (g := (mkF m 108 #[.val (.int kk)] [(.int (100 : Int32)), (.int (6 : Int32)), (.ref bq5), (.ref bq5)])) rfl rfl (hb hby d_method_3_code_108)
  have Nq12 := Fr.snoc Xq12 Nq11 (by omega)
  have zq12 := Wq12.size
  have Oq12 := Oq11.wr Wq12 (by omega)
  have Vq12 : Arv Z hq12 bq5 kq5 .char (9 : Int32) [(.int (99 : Int32)), (.int (114 : Int32)), (.int (101 : Int32)), (.int (97 : Int32)), (.int (116 : Int32)), (.int (101 : Int32)), (.int (100 : Int32)), (.int (0 : Int32)), (.int (0 : Int32))] (.int (0 : Int32)) := Arv.set Arq12 qq12 Sq12 Nnq12 Hq12 Gq12 (by decide) Wq12 6 rfl (Nat.le_of_ble_eq_true rfl)
  refine Goes.via stq12 ?_
  show Goes _ _ _ _ _ _ _ _ (Tq12.setTop (mkF m 109 #[.val (.int kk)] [(.ref bq5)]))
  refine Goes.via (fun _ k => XS.dup Xq12.here hx rfl (hb hby d_method_3_code_109) rfl rfl k) ?_
  show Goes _ _ _ _ _ _ _ _ (Tq12.setTop (mkF m 110 #[.val (.int kk)] [(.ref bq5), (.ref bq5)]))
  refine Goes.via (fun _ k => XT.bipushV Xq12.here hx rfl (7 : Int32) (hb hby d_method_3_code_110) (by decide) k) ?_
  show Goes _ _ _ _ _ _ _ _ (Tq12.setTop (mkF m 112 #[.val (.int kk)] [(.int (7 : Int32)), (.ref bq5), (.ref bq5)]))
  refine Goes.via (fun _ k => XT.bipushV Xq12.here hx rfl (65 : Int32) (hb hby d_method_3_code_112) (by decide) k) ?_
  show Goes _ _ _ _ _ _ _ _ (Tq12.setTop (mkF m 114 #[.val (.int kk)] [(.int (65 : Int32)), (.int (7 : Int32)), (.ref bq5), (.ref bq5)]))
  obtain ⟨clq13, Arq13, qq13, Sq13, Nnq13, Hq13, Gq13⟩ := id Vq12
  have hinq13 : ¬ ((7 : Int32) < 0 ∨ clq13.slots.size ≤ ((7 : Int32)).toNatClampNeg) := inb_of Sq13 ⟨by decide, by decide⟩
  obtain ⟨Tq13, hq13, Xq13, eq13, Wq13, stq13⟩ := stC Xq12 hx hZ eq12 Arq13 (j := (7 : Int32)) hinq13 (g := (mkF m 114 #[.val (.int kk)] [(.int (65 : Int32)), (.int (7 : Int32)), (.ref bq5), (.ref bq5)])) rfl rfl (hb hby d_method_3_code_114)
  have Nq13 := Fr.snoc Xq13 Nq12 (by omega)
  have zq13 := Wq13.size
  have Oq13 := Oq12.wr Wq13 (by omega)
  have Vq13 : Arv Z hq13 bq5 kq5 .char (9 : Int32) [(.int (99 : Int32)), (.int (114 : Int32)), (.int (101 : Int32)), (.int (97 : Int32)), (.int (116 : Int32)), (.int (101 : Int32)), (.int (100 : Int32)), (.int (65 : Int32)), (.int (0 : Int32))] (.int (0 : Int32)) := Arv.set Arq13 qq13 Sq13 Nnq13 Hq13 Gq13 (by decide) Wq13 7 rfl (Nat.le_of_ble_eq_true rfl)
  refine Goes.via stq13 ?_
  show Goes _ _ _ _ _ _ _ _ (Tq13.setTop (mkF m 115 #[.val (.int kk)] [(.ref bq5)]))
  refine Goes.via (fun _ k => XS.dup Xq13.here hx rfl (hb hby d_method_3_code_115) rfl rfl k) ?_
  show Goes _ _ _ _ _ _ _ _ (Tq13.setTop (mkF m 116 #[.val (.int kk)] [(.ref bq5), (.ref bq5)]))
  refine Goes.via (fun _ k => XT.bipushV Xq13.here hx rfl (8 : Int32) (hb hby d_method_3_code_116) (by decide) k) ?_
  show Goes _ _ _ _ _ _ _ _ (Tq13.setTop (mkF m 118 #[.val (.int kk)] [(.int (8 : Int32)), (.ref bq5), (.ref bq5)]))
  refine Goes.via (fun _ k => XT.bipushV Xq13.here hx rfl (116 : Int32) (hb hby d_method_3_code_118) (by decide) k) ?_
  show Goes _ _ _ _ _ _ _ _ (Tq13.setTop (mkF m 120 #[.val (.int kk)] [(.int (116 : Int32)), (.int (8 : Int32)), (.ref bq5), (.ref bq5)]))
  obtain ⟨clq14, Arq14, qq14, Sq14, Nnq14, Hq14, Gq14⟩ := id Vq13
  have hinq14 : ¬ ((8 : Int32) < 0 ∨ clq14.slots.size ≤ ((8 : Int32)).toNatClampNeg) := inb_of Sq14 ⟨by decide, by decide⟩
  obtain ⟨Tq14, hq14, Xq14, eq14, Wq14, stq14⟩ := stC Xq13 hx hZ eq13 Arq14 (j := (8 : Int32)) hinq14 (g := (mkF m 120 #[.val (.int kk)] [(.int (116 : Int32)), (.int (8 : Int32)), (.ref bq5), (.ref bq5)])) rfl rfl (hb hby d_method_3_code_120)
  have Nq14 := Fr.snoc Xq14 Nq13 (by omega)
  have zq14 := Wq14.size
  have Oq14 := Oq13.wr Wq14 (by omega)
  have Vq14 : Arv Z hq14 bq5 kq5 .char (9 : Int32) [(.int (99 : Int32)), (.int (114 : Int32)), (.int (101 : Int32)), (.int (97 : Int32)), (.int (116 : Int32)), (.int (101 : Int32)), (.int (100 : Int32)), (.int (65 : Int32)), (.int (116 : Int32))] (.int (0 : Int32)) := Arv.set Arq14 qq14 Sq14 Nnq14 Hq14 Gq14 (by decide) Wq14 8 rfl (Nat.le_of_ble_eq_true rfl)
  refine Goes.via stq14 ?_
  show Goes _ _ _ _ _ _ _ _ (Tq14.setTop (mkF m 121 #[.val (.int kk)] [(.ref bq5)]))
  refine goRetA Xq14 hx hrt rfl hlk Nq14 (by show _ ≤ 1; omega) (by show _ ≤ 10; omega) rfl (hb hby d_method_3_code_121) ?_
  try rw [eq14]
  exact ⟨bq5, kq5, [(99 : Int32), (114 : Int32), (101 : Int32), (97 : Int32), (116 : Int32), (101 : Int32), (100 : Int32), (65 : Int32), (116 : Int32)], 9, rfl, by omega, (((((((((K0.wr Wq6 (Or.inr (by omega))).wr Wq7 (Or.inr (by omega))).wr Wq8 (Or.inr (by omega))).wr Wq9 (Or.inr (by omega))).wr Wq10 (Or.inr (by omega))).wr Wq11 (Or.inr (by omega))).wr Wq12 (Or.inr (by omega))).wr Wq13 (Or.inr (by omega))).wr Wq14 (Or.inr (by omega))), Vq14, by decide, by decide, rfl, (chS (by decide) (chS (by decide) (chS (by decide) (chS (by decide) (chS (by decide) (chS (by decide) (chS (by decide) (chS (by decide) (chS (by decide) ch0)))))))))⟩
set_option maxRecDepth 65536 in
set_option maxHeartbeats 40000000 in
theorem baseC_c8 (l : Launch) (Z : State) (aw : Array Value) (hw : ∀ d ∈ tables_1, d.before aw Z = true) (kk : Int32) (bq6 : Nat) (kq6 : ClassId) {p : Program} {e : Env} {s : State} {m : MethodId} {args : Array Value} {below : List Frame} {meth : Method} {c : Code} {T : State} {locs : List Loc} {cells slots n0 : Nat} {h0 h1 : Heap} (hx : p.tables.exec = Jvm.exec) (hby : c.code = method_3_code) (hml : c.maxLocals = 1) (hrt : meth.sig.returnType = some (.array .char)) (hlk : meth.locks = false) (hnm : meth.name = "base") (hZ : Z.Warmed39 s.vm) (hown : s.vm.findClass "com/example/dispatch_note/dispatchnote/contract/ManagedMemberNamedPinLaw" = some m.cls) (X : Stand p l e ({ frames := 0, cells := 1, slots := 10, locals := 0 } : Room) s m args below meth c T locs cells slots) (e0 : T.heap = h1) (N : Fr n0 locs) (hcells : cells ≤ 1) (hslots : slots ≤ 9) (O : Old Z n0 h1) (K0 : Keep h0 h1 []) (pf0 : Arv Z h1 bq6 kq6 .char (9 : Int32) [(.int (0 : Int32)), (.int (0 : Int32)), (.int (0 : Int32)), (.int (0 : Int32)), (.int (0 : Int32)), (.int (0 : Int32)), (.int (0 : Int32)), (.int (0 : Int32)), (.int (0 : Int32))] (.int (0 : Int32))) (cq1 : ¬ (kk = (0 : Int32))) (cq3 : ¬ (kk = (1 : Int32))) (cq4 : ¬ (kk = (2 : Int32))) (cn1 : n0 ≤ bq6) (cn2 : h0.size ≤ bq6) :
    Goes p e below s ({ frames := 0, cells := 1, slots := 10, locals := 0 } : Room).cells ({ frames := 0, cells := 1, slots := 10, locals := 0 } : Room).slots n0 (fun vv hh => ∃ r : Nat, ∃ kr : ClassId, ∃ cs : List Int32, ∃ nn : Nat, vv = some (.ref r) ∧ h0.size ≤ r ∧ Keep h0 hh [] ∧ Arv Z hh r kr .char (Int32.ofNat nn) (cs.map Value.int) (.int (0 : Int32)) ∧ (0 < nn ∧ nn ≤ 10 ∧ cs.length = nn ∧ ∀ c ∈ cs, ¬ c < 0 ∧ ¬ (255 : Int32) < c)) (T.setTop (mkF m 128 #[.val (.int kk)] [(.int (0 : Int32)), (.ref bq6), (.ref bq6)])) := by
  have zO := O.le
  have zK := K0.1
  have lt_bq6 := lt_nat pf0.lt
  show Goes _ _ _ _ _ _ _ _ (T.setTop (mkF m 128 #[.val (.int kk)] [(.int (0 : Int32)), (.ref bq6), (.ref bq6)]))
  refine Goes.via (fun _ k => XT.bipushV X.here hx rfl (117 : Int32) (hb hby d_method_3_code_128) (by decide) k) ?_
  show Goes _ _ _ _ _ _ _ _ (T.setTop (mkF m 130 #[.val (.int kk)] [(.int (117 : Int32)), (.int (0 : Int32)), (.ref bq6), (.ref bq6)]))
  obtain ⟨clq7, Arq7, qq7, Sq7, Nnq7, Hq7, Gq7⟩ := id pf0
  have hinq7 : ¬ ((0 : Int32) < 0 ∨ clq7.slots.size ≤ ((0 : Int32)).toNatClampNeg) := inb_of Sq7 ⟨by decide, by decide⟩
  obtain ⟨Tq7, hq7, Xq7, eq7, Wq7, stq7⟩ := stC X hx hZ e0 Arq7 (j := (0 : Int32)) hinq7 (g := (mkF m 130 #[.val (.int kk)] [(.int (117 : Int32)), (.int (0 : Int32)), (.ref bq6), (.ref bq6)])) rfl rfl (hb hby d_method_3_code_130)
  have Nq7 := Fr.snoc Xq7 N (by omega)
  have zq7 := Wq7.size
  have Oq7 := O.wr Wq7 (by omega)
  have Vq7 : Arv Z hq7 bq6 kq6 .char (9 : Int32) [(.int (117 : Int32)), (.int (0 : Int32)), (.int (0 : Int32)), (.int (0 : Int32)), (.int (0 : Int32)), (.int (0 : Int32)), (.int (0 : Int32)), (.int (0 : Int32)), (.int (0 : Int32))] (.int (0 : Int32)) := Arv.set Arq7 qq7 Sq7 Nnq7 Hq7 Gq7 (by decide) Wq7 0 rfl (Nat.le_of_ble_eq_true rfl)
  refine Goes.via stq7 ?_
  show Goes _ _ _ _ _ _ _ _ (Tq7.setTop (mkF m 131 #[.val (.int kk)] [(.ref bq6)]))
  refine Goes.via (fun _ k => XS.dup Xq7.here hx rfl (hb hby d_method_3_code_131) rfl rfl k) ?_
  show Goes _ _ _ _ _ _ _ _ (Tq7.setTop (mkF m 132 #[.val (.int kk)] [(.ref bq6), (.ref bq6)]))
  refine Goes.via (fun _ k => XT.iconstV Xq7.here hx rfl (1 : Int32) (hb hby d_method_3_code_132) (by decide) k) ?_
  show Goes _ _ _ _ _ _ _ _ (Tq7.setTop (mkF m 133 #[.val (.int kk)] [(.int (1 : Int32)), (.ref bq6), (.ref bq6)]))
  refine Goes.via (fun _ k => XT.bipushV Xq7.here hx rfl (112 : Int32) (hb hby d_method_3_code_133) (by decide) k) ?_
  show Goes _ _ _ _ _ _ _ _ (Tq7.setTop (mkF m 135 #[.val (.int kk)] [(.int (112 : Int32)), (.int (1 : Int32)), (.ref bq6), (.ref bq6)]))
  obtain ⟨clq8, Arq8, qq8, Sq8, Nnq8, Hq8, Gq8⟩ := id Vq7
  have hinq8 : ¬ ((1 : Int32) < 0 ∨ clq8.slots.size ≤ ((1 : Int32)).toNatClampNeg) := inb_of Sq8 ⟨by decide, by decide⟩
  obtain ⟨Tq8, hq8, Xq8, eq8, Wq8, stq8⟩ := stC Xq7 hx hZ eq7 Arq8 (j := (1 : Int32)) hinq8 (g := (mkF m 135 #[.val (.int kk)] [(.int (112 : Int32)), (.int (1 : Int32)), (.ref bq6), (.ref bq6)])) rfl rfl (hb hby d_method_3_code_135)
  have Nq8 := Fr.snoc Xq8 Nq7 (by omega)
  have zq8 := Wq8.size
  have Oq8 := Oq7.wr Wq8 (by omega)
  have Vq8 : Arv Z hq8 bq6 kq6 .char (9 : Int32) [(.int (117 : Int32)), (.int (112 : Int32)), (.int (0 : Int32)), (.int (0 : Int32)), (.int (0 : Int32)), (.int (0 : Int32)), (.int (0 : Int32)), (.int (0 : Int32)), (.int (0 : Int32))] (.int (0 : Int32)) := Arv.set Arq8 qq8 Sq8 Nnq8 Hq8 Gq8 (by decide) Wq8 1 rfl (Nat.le_of_ble_eq_true rfl)
  refine Goes.via stq8 ?_
  show Goes _ _ _ _ _ _ _ _ (Tq8.setTop (mkF m 136 #[.val (.int kk)] [(.ref bq6)]))
  refine Goes.via (fun _ k => XS.dup Xq8.here hx rfl (hb hby d_method_3_code_136) rfl rfl k) ?_
  show Goes _ _ _ _ _ _ _ _ (Tq8.setTop (mkF m 137 #[.val (.int kk)] [(.ref bq6), (.ref bq6)]))
  refine Goes.via (fun _ k => XT.iconstV Xq8.here hx rfl (2 : Int32) (hb hby d_method_3_code_137) (by decide) k) ?_
  show Goes _ _ _ _ _ _ _ _ (Tq8.setTop (mkF m 138 #[.val (.int kk)] [(.int (2 : Int32)), (.ref bq6), (.ref bq6)]))
  refine Goes.via (fun _ k => XT.bipushV Xq8.here hx rfl (100 : Int32) (hb hby d_method_3_code_138) (by decide) k) ?_
  show Goes _ _ _ _ _ _ _ _ (Tq8.setTop (mkF m 140 #[.val (.int kk)] [(.int (100 : Int32)), (.int (2 : Int32)), (.ref bq6), (.ref bq6)]))
  obtain ⟨clq9, Arq9, qq9, Sq9, Nnq9, Hq9, Gq9⟩ := id Vq8
  have hinq9 : ¬ ((2 : Int32) < 0 ∨ clq9.slots.size ≤ ((2 : Int32)).toNatClampNeg) := inb_of Sq9 ⟨by decide, by decide⟩
  obtain ⟨Tq9, hq9, Xq9, eq9, Wq9, stq9⟩ := stC Xq8 hx hZ eq8 Arq9 (j := (2 : Int32)) hinq9 (g := (mkF m 140 #[.val (.int kk)] [(.int (100 : Int32)), (.int (2 : Int32)), (.ref bq6), (.ref bq6)])) rfl rfl (hb hby d_method_3_code_140)
  have Nq9 := Fr.snoc Xq9 Nq8 (by omega)
  have zq9 := Wq9.size
  have Oq9 := Oq8.wr Wq9 (by omega)
  have Vq9 : Arv Z hq9 bq6 kq6 .char (9 : Int32) [(.int (117 : Int32)), (.int (112 : Int32)), (.int (100 : Int32)), (.int (0 : Int32)), (.int (0 : Int32)), (.int (0 : Int32)), (.int (0 : Int32)), (.int (0 : Int32)), (.int (0 : Int32))] (.int (0 : Int32)) := Arv.set Arq9 qq9 Sq9 Nnq9 Hq9 Gq9 (by decide) Wq9 2 rfl (Nat.le_of_ble_eq_true rfl)
  refine Goes.via stq9 ?_
  show Goes _ _ _ _ _ _ _ _ (Tq9.setTop (mkF m 141 #[.val (.int kk)] [(.ref bq6)]))
  refine Goes.via (fun _ k => XS.dup Xq9.here hx rfl (hb hby d_method_3_code_141) rfl rfl k) ?_
  show Goes _ _ _ _ _ _ _ _ (Tq9.setTop (mkF m 142 #[.val (.int kk)] [(.ref bq6), (.ref bq6)]))
  refine Goes.via (fun _ k => XT.iconstV Xq9.here hx rfl (3 : Int32) (hb hby d_method_3_code_142) (by decide) k) ?_
  show Goes _ _ _ _ _ _ _ _ (Tq9.setTop (mkF m 143 #[.val (.int kk)] [(.int (3 : Int32)), (.ref bq6), (.ref bq6)]))
  refine Goes.via (fun _ k => XT.bipushV Xq9.here hx rfl (97 : Int32) (hb hby d_method_3_code_143) (by decide) k) ?_
  show Goes _ _ _ _ _ _ _ _ (Tq9.setTop (mkF m 145 #[.val (.int kk)] [(.int (97 : Int32)), (.int (3 : Int32)), (.ref bq6), (.ref bq6)]))
  obtain ⟨clq10, Arq10, qq10, Sq10, Nnq10, Hq10, Gq10⟩ := id Vq9
  have hinq10 : ¬ ((3 : Int32) < 0 ∨ clq10.slots.size ≤ ((3 : Int32)).toNatClampNeg) := inb_of Sq10 ⟨by decide, by decide⟩
  obtain ⟨Tq10, hq10, Xq10, eq10, Wq10, stq10⟩ := stC Xq9 hx hZ eq9 Arq10 (j := (3 : Int32)) hinq10 (g := (mkF m 145 #[.val (.int kk)] [(.int (97 : Int32)), (.int (3 : Int32)), (.ref bq6), (.ref bq6)])) rfl rfl (hb hby d_method_3_code_145)
  have Nq10 := Fr.snoc Xq10 Nq9 (by omega)
  have zq10 := Wq10.size
  have Oq10 := Oq9.wr Wq10 (by omega)
  have Vq10 : Arv Z hq10 bq6 kq6 .char (9 : Int32) [(.int (117 : Int32)), (.int (112 : Int32)), (.int (100 : Int32)), (.int (97 : Int32)), (.int (0 : Int32)), (.int (0 : Int32)), (.int (0 : Int32)), (.int (0 : Int32)), (.int (0 : Int32))] (.int (0 : Int32)) := Arv.set Arq10 qq10 Sq10 Nnq10 Hq10 Gq10 (by decide) Wq10 3 rfl (Nat.le_of_ble_eq_true rfl)
  refine Goes.via stq10 ?_
  show Goes _ _ _ _ _ _ _ _ (Tq10.setTop (mkF m 146 #[.val (.int kk)] [(.ref bq6)]))
  refine Goes.via (fun _ k => XS.dup Xq10.here hx rfl (hb hby d_method_3_code_146) rfl rfl k) ?_
  show Goes _ _ _ _ _ _ _ _ (Tq10.setTop (mkF m 147 #[.val (.int kk)] [(.ref bq6), (.ref bq6)]))
  refine Goes.via (fun _ k => XT.iconstV Xq10.here hx rfl (4 : Int32) (hb hby d_method_3_code_147) (by decide) k) ?_
  show Goes _ _ _ _ _ _ _ _ (Tq10.setTop (mkF m 148 #[.val (.int kk)] [(.int (4 : Int32)), (.ref bq6), (.ref bq6)]))
  refine Goes.via (fun _ k => XT.bipushV Xq10.here hx rfl (116 : Int32) (hb hby d_method_3_code_148) (by decide) k) ?_
  show Goes _ _ _ _ _ _ _ _ (Tq10.setTop (mkF m 150 #[.val (.int kk)] [(.int (116 : Int32)), (.int (4 : Int32)), (.ref bq6), (.ref bq6)]))
  obtain ⟨clq11, Arq11, qq11, Sq11, Nnq11, Hq11, Gq11⟩ := id Vq10
  have hinq11 : ¬ ((4 : Int32) < 0 ∨ clq11.slots.size ≤ ((4 : Int32)).toNatClampNeg) := inb_of Sq11 ⟨by decide, by decide⟩
  obtain ⟨Tq11, hq11, Xq11, eq11, Wq11, stq11⟩ := stC Xq10 hx hZ eq10 Arq11 (j := (4 : Int32)) hinq11 (g := (mkF m 150 #[.val (.int kk)] [(.int (116 : Int32)), (.int (4 : Int32)), (.ref bq6), (.ref bq6)])) rfl rfl (hb hby d_method_3_code_150)
  have Nq11 := Fr.snoc Xq11 Nq10 (by omega)
  have zq11 := Wq11.size
  have Oq11 := Oq10.wr Wq11 (by omega)
  have Vq11 : Arv Z hq11 bq6 kq6 .char (9 : Int32) [(.int (117 : Int32)), (.int (112 : Int32)), (.int (100 : Int32)), (.int (97 : Int32)), (.int (116 : Int32)), (.int (0 : Int32)), (.int (0 : Int32)), (.int (0 : Int32)), (.int (0 : Int32))] (.int (0 : Int32)) := Arv.set Arq11 qq11 Sq11 Nnq11 Hq11 Gq11 (by decide) Wq11 4 rfl (Nat.le_of_ble_eq_true rfl)
  refine Goes.via stq11 ?_
  show Goes _ _ _ _ _ _ _ _ (Tq11.setTop (mkF m 151 #[.val (.int kk)] [(.ref bq6)]))
  refine Goes.via (fun _ k => XS.dup Xq11.here hx rfl (hb hby d_method_3_code_151) rfl rfl k) ?_
  show Goes _ _ _ _ _ _ _ _ (Tq11.setTop (mkF m 152 #[.val (.int kk)] [(.ref bq6), (.ref bq6)]))
  refine Goes.via (fun _ k => XT.iconstV Xq11.here hx rfl (5 : Int32) (hb hby d_method_3_code_152) (by decide) k) ?_
  show Goes _ _ _ _ _ _ _ _ (Tq11.setTop (mkF m 153 #[.val (.int kk)] [(.int (5 : Int32)), (.ref bq6), (.ref bq6)]))
  refine Goes.via (fun _ k => XT.bipushV Xq11.here hx rfl (101 : Int32) (hb hby d_method_3_code_153) (by decide) k) ?_
  show Goes _ _ _ _ _ _ _ _ (Tq11.setTop (mkF m 155 #[.val (.int kk)] [(.int (101 : Int32)), (.int (5 : Int32)), (.ref bq6), (.ref bq6)]))
  obtain ⟨clq12, Arq12, qq12, Sq12, Nnq12, Hq12, Gq12⟩ := id Vq11
  have hinq12 : ¬ ((5 : Int32) < 0 ∨ clq12.slots.size ≤ ((5 : Int32)).toNatClampNeg) := inb_of Sq12 ⟨by decide, by decide⟩
  obtain ⟨Tq12, hq12, Xq12, eq12, Wq12, stq12⟩ := stC Xq11 hx hZ eq11 Arq12 (j := (5 : Int32)) hinq12 (g := (mkF m 155 #[.val (.int kk)] [(.int (101 : Int32)), (.int (5 : Int32)), (.ref bq6), (.ref bq6)])) rfl rfl (hb hby d_method_3_code_155)
  have Nq12 := Fr.snoc Xq12 Nq11 (by omega)
  have zq12 := Wq12.size
  have Oq12 := Oq11.wr Wq12 (by omega)
  have Vq12 : Arv Z hq12 bq6 kq6 .char (9 : Int32) [(.int (117 : Int32)), (.int (112 : Int32)), (.int (100 : Int32)), (.int (97 : Int32)), (.int (116 : Int32)), (.int (101 : Int32)), (.int (0 : Int32)), (.int (0 : Int32)), (.int (0 : Int32))] (.int (0 : Int32)) := Arv.set Arq12 qq12 Sq12 Nnq12 Hq12 Gq12 (by decide) Wq12 5 rfl (Nat.le_of_ble_eq_true rfl)
  refine Goes.via stq12 ?_
  show Goes _ _ _ _ _ _ _ _ (Tq12.setTop (mkF m 156 #[.val (.int kk)] [(.ref bq6)]))
  refine Goes.via (fun _ k => XS.dup Xq12.here hx rfl (hb hby d_method_3_code_156) rfl rfl k) ?_
  show Goes _ _ _ _ _ _ _ _ (Tq12.setTop (mkF m 157 #[.val (.int kk)] [(.ref bq6), (.ref bq6)]))
  refine Goes.via (fun _ k => XT.bipushV Xq12.here hx rfl (6 : Int32) (hb hby d_method_3_code_157) (by decide) k) ?_
  show Goes _ _ _ _ _ _ _ _ (Tq12.setTop (mkF m 159 #[.val (.int kk)] [(.int (6 : Int32)), (.ref bq6), (.ref bq6)]))
  refine Goes.via (fun _ k => XT.bipushV Xq12.here hx rfl (100 : Int32) (hb hby d_method_3_code_159) (by decide) k) ?_
  show Goes _ _ _ _ _ _ _ _ (Tq12.setTop (mkF m 161 #[.val (.int kk)] [(.int (100 : Int32)), (.int (6 : Int32)), (.ref bq6), (.ref bq6)]))
  obtain ⟨clq13, Arq13, qq13, Sq13, Nnq13, Hq13, Gq13⟩ := id Vq12
  have hinq13 : ¬ ((6 : Int32) < 0 ∨ clq13.slots.size ≤ ((6 : Int32)).toNatClampNeg) := inb_of Sq13 ⟨by decide, by decide⟩
  obtain ⟨Tq13, hq13, Xq13, eq13, Wq13, stq13⟩ := stC Xq12 hx hZ eq12 Arq13 (j := (6 : Int32)) hinq13 (g := (mkF m 161 #[.val (.int kk)] [(.int (100 : Int32)), (.int (6 : Int32)), (.ref bq6), (.ref bq6)])) rfl rfl (hb hby d_method_3_code_161)
  have Nq13 := Fr.snoc Xq13 Nq12 (by omega)
  have zq13 := Wq13.size
  have Oq13 := Oq12.wr Wq13 (by omega)
  have Vq13 : Arv Z hq13 bq6 kq6 .char (9 : Int32) [(.int (117 : Int32)), (.int (112 : Int32)), (.int (100 : Int32)), (.int (97 : Int32)), (.int (116 : Int32)), (.int (101 : Int32)), (.int (100 : Int32)), (.int (0 : Int32)), (.int (0 : Int32))] (.int (0 : Int32)) := Arv.set Arq13 qq13 Sq13 Nnq13 Hq13 Gq13 (by decide) Wq13 6 rfl (Nat.le_of_ble_eq_true rfl)
  refine Goes.via stq13 ?_
  show Goes _ _ _ _ _ _ _ _ (Tq13.setTop (mkF m 162 #[.val (.int kk)] [(.ref bq6)]))
  refine Goes.via (fun _ k => XS.dup Xq13.here hx rfl (hb hby d_method_3_code_162) rfl rfl k) ?_
  show Goes _ _ _ _ _ _ _ _ (Tq13.setTop (mkF m 163 #[.val (.int kk)] [(.ref bq6), (.ref bq6)]))
  refine Goes.via (fun _ k => XT.bipushV Xq13.here hx rfl (7 : Int32) (hb hby d_method_3_code_163) (by decide) k) ?_
  show Goes _ _ _ _ _ _ _ _ (Tq13.setTop (mkF m 165 #[.val (.int kk)] [(.int (7 : Int32)), (.ref bq6), (.ref bq6)]))
  refine Goes.via (fun _ k => XT.bipushV Xq13.here hx rfl (65 : Int32) (hb hby d_method_3_code_165) (by decide) k) ?_
  show Goes _ _ _ _ _ _ _ _ (Tq13.setTop (mkF m 167 #[.val (.int kk)] [(.int (65 : Int32)), (.int (7 : Int32)), (.ref bq6), (.ref bq6)]))
  obtain ⟨clq14, Arq14, qq14, Sq14, Nnq14, Hq14, Gq14⟩ := id Vq13
  have hinq14 : ¬ ((7 : Int32) < 0 ∨ clq14.slots.size ≤ ((7 : Int32)).toNatClampNeg) := inb_of Sq14 ⟨by decide, by decide⟩
  obtain ⟨Tq14, hq14, Xq14, eq14, Wq14, stq14⟩ := stC Xq13 hx hZ eq13 Arq14 (j := (7 : Int32)) hinq14 (g := (mkF m 167 #[.val (.int kk)] [(.int (65 : Int32)), (.int (7 : Int32)), (.ref bq6), (.ref bq6)])) rfl rfl (hb hby d_method_3_code_167)
  have Nq14 := Fr.snoc Xq14 Nq13 (by omega)
  have zq14 := Wq14.size
  have Oq14 := Oq13.wr Wq14 (by omega)
  have Vq14 : Arv Z hq14 bq6 kq6 .char (9 : Int32) [(.int (117 : Int32)), (.int (112 : Int32)), (.int (100 : Int32)), (.int (97 : Int32)), (.int (116 : Int32)), (.int (101 : Int32)), (.int (100 : Int32)), (.int (65 : Int32)), (.int (0 : Int32))] (.int (0 : Int32)) := Arv.set Arq14 qq14 Sq14 Nnq14 Hq14 Gq14 (by decide) Wq14 7 rfl (Nat.le_of_ble_eq_true rfl)
  refine Goes.via stq14 ?_
  show Goes _ _ _ _ _ _ _ _ (Tq14.setTop (mkF m 168 #[.val (.int kk)] [(.ref bq6)]))
  refine Goes.via (fun _ k => XS.dup Xq14.here hx rfl (hb hby d_method_3_code_168) rfl rfl k) ?_
  show Goes _ _ _ _ _ _ _ _ (Tq14.setTop (mkF m 169 #[.val (.int kk)] [(.ref bq6), (.ref bq6)]))
  refine Goes.via (fun _ k => XT.bipushV Xq14.here hx rfl (8 : Int32) (hb hby d_method_3_code_169) (by decide) k) ?_
  show Goes _ _ _ _ _ _ _ _ (Tq14.setTop (mkF m 171 #[.val (.int kk)] [(.int (8 : Int32)), (.ref bq6), (.ref bq6)]))
  refine Goes.via (fun _ k => XT.bipushV Xq14.here hx rfl (116 : Int32) (hb hby d_method_3_code_171) (by decide) k) ?_
  show Goes _ _ _ _ _ _ _ _ (Tq14.setTop (mkF m 173 #[.val (.int kk)] [(.int (116 : Int32)), (.int (8 : Int32)), (.ref bq6), (.ref bq6)]))
  obtain ⟨clq15, Arq15, qq15, Sq15, Nnq15, Hq15, Gq15⟩ := id Vq14
  have hinq15 : ¬ ((8 : Int32) < 0 ∨ clq15.slots.size ≤ ((8 : Int32)).toNatClampNeg) := inb_of Sq15 ⟨by decide, by decide⟩
  obtain ⟨Tq15, hq15, Xq15, eq15, Wq15, stq15⟩ := stC Xq14 hx hZ eq14 Arq15 (j := (8 : Int32)) hinq15 (g := (mkF m 173 #[.val (.int kk)] [(.int (116 : Int32)), (.int (8 : Int32)), (.ref bq6), (.ref bq6)])) rfl rfl (hb hby d_method_3_code_173)
  have Nq15 := Fr.snoc Xq15 Nq14 (by omega)
  have zq15 := Wq15.size
  have Oq15 := Oq14.wr Wq15 (by omega)
  have Vq15 : Arv Z hq15 bq6 kq6 .char (9 : Int32) [(.int (117 : Int32)), (.int (112 : Int32)), (.int (100 : Int32)), (.int (97 : Int32)), (.int (116 : Int32)), (.int (101 : Int32)), (.int (100 : Int32)), (.int (65 : Int32)), (.int (116 : Int32))] (.int (0 : Int32)) := Arv.set Arq15 qq15 Sq15 Nnq15 Hq15 Gq15 (by decide) Wq15 8 rfl (Nat.le_of_ble_eq_true rfl)
  refine Goes.via stq15 ?_
  show Goes _ _ _ _ _ _ _ _ (Tq15.setTop (mkF m 174 #[.val (.int kk)] [(.ref bq6)]))
  refine goRetA Xq15 hx hrt rfl hlk Nq15 (by show _ ≤ 1; omega) (by show _ ≤ 10; omega) rfl (hb hby d_method_3_code_174) ?_
  try rw [eq15]
  exact ⟨bq6, kq6, [(117 : Int32), (112 : Int32), (100 : Int32), (97 : Int32), (116 : Int32), (101 : Int32), (100 : Int32), (65 : Int32), (116 : Int32)], 9, rfl, by omega, (((((((((K0.wr Wq7 (Or.inr (by omega))).wr Wq8 (Or.inr (by omega))).wr Wq9 (Or.inr (by omega))).wr Wq10 (Or.inr (by omega))).wr Wq11 (Or.inr (by omega))).wr Wq12 (Or.inr (by omega))).wr Wq13 (Or.inr (by omega))).wr Wq14 (Or.inr (by omega))).wr Wq15 (Or.inr (by omega))), Vq15, by decide, by decide, rfl, (chS (by decide) (chS (by decide) (chS (by decide) (chS (by decide) (chS (by decide) (chS (by decide) (chS (by decide) (chS (by decide) (chS (by decide) ch0)))))))))⟩
set_option maxRecDepth 65536 in
set_option maxHeartbeats 40000000 in
theorem baseC_c6 (l : Launch) (Z : State) (aw : Array Value) (hw : ∀ d ∈ tables_1, d.before aw Z = true) (kk : Int32) {p : Program} {e : Env} {s : State} {m : MethodId} {args : Array Value} {below : List Frame} {meth : Method} {c : Code} {T : State} {locs : List Loc} {cells slots n0 : Nat} {h0 h1 : Heap} (hx : p.tables.exec = Jvm.exec) (hby : c.code = method_3_code) (hml : c.maxLocals = 1) (hrt : meth.sig.returnType = some (.array .char)) (hlk : meth.locks = false) (hnm : meth.name = "base") (hZ : Z.Warmed39 s.vm) (hown : s.vm.findClass "com/example/dispatch_note/dispatchnote/contract/ManagedMemberNamedPinLaw" = some m.cls) (X : Stand p l e ({ frames := 0, cells := 1, slots := 10, locals := 0 } : Room) s m args below meth c T locs cells slots) (e0 : T.heap = h1) (N : Fr n0 locs) (hcells : cells ≤ 0) (hslots : slots ≤ 0) (O : Old Z n0 h1) (K0 : Keep h0 h1 []) (cq1 : ¬ (kk = (0 : Int32))) (cq3 : ¬ (kk = (1 : Int32))) :
    Goes p e below s ({ frames := 0, cells := 1, slots := 10, locals := 0 } : Room).cells ({ frames := 0, cells := 1, slots := 10, locals := 0 } : Room).slots n0 (fun vv hh => ∃ r : Nat, ∃ kr : ClassId, ∃ cs : List Int32, ∃ nn : Nat, vv = some (.ref r) ∧ h0.size ≤ r ∧ Keep h0 hh [] ∧ Arv Z hh r kr .char (Int32.ofNat nn) (cs.map Value.int) (.int (0 : Int32)) ∧ (0 < nn ∧ nn ≤ 10 ∧ cs.length = nn ∧ ∀ c ∈ cs, ¬ c < 0 ∧ ¬ (255 : Int32) < c)) (T.setTop (mkF m 65 #[.val (.int kk)] [(.int kk)])) := by
  have zO := O.le
  have zK := K0.1
  show Goes _ _ _ _ _ _ _ _ (T.setTop (mkF m 65 #[.val (.int kk)] [(.int kk)]))
  refine Goes.via (fun _ k => XT.iconstV X.here hx rfl (2 : Int32) (hb hby d_method_3_code_65) (by decide) k) ?_
  show Goes _ _ _ _ _ _ _ _ (T.setTop (mkF m 66 #[.val (.int kk)] [(.int (2 : Int32)), (.int kk)]))
  by_cases cq4 : kk = (2 : Int32)
  · skip
    refine Goes.via (fun _ k => XS.icmpNo X.here hx rfl (hb hby d_method_3_code_66) rfl (XT.ii_ne_f cq4) k) ?_
    show Goes _ _ _ _ _ _ _ _ (T.setTop (mkF m 69 #[.val (.int kk)] []))
    refine Goes.via (fun _ k => XT.bipushV X.here hx rfl (9 : Int32) (hb hby d_method_3_code_69) (by decide) k) ?_
    show Goes _ _ _ _ _ _ _ _ (T.setTop (mkF m 71 #[.val (.int kk)] [(.int (9 : Int32))]))
    obtain ⟨Tq5, hq5, kq5, Xq5, eq5, Eq5, Aq5, stq5⟩ := newP (aty := .char) X hx hZ (W_4 hw) e0 (g := (mkF m 71 #[.val (.int kk)] [(.int (9 : Int32))])) rfl (hb hby d_method_3_code_71) rfl (by decide) (cap := 9) (by decide) (by decide) (by show _ + 1 ≤ 1; omega) (by show _ + 9 ≤ 10; omega)
    obtain ⟨bq5, gq5⟩ : ∃ z, z = h1.size := ⟨_, rfl⟩
    rw [← gq5] at Aq5 stq5
    have zq5 := Eq5.1
    have Oq5 := O.ext Eq5
    have Vq5 : Arv Z hq5 bq5 kq5 .char (9 : Int32) [(.int (0 : Int32)), (.int (0 : Int32)), (.int (0 : Int32)), (.int (0 : Int32)), (.int (0 : Int32)), (.int (0 : Int32)), (.int (0 : Int32)), (.int (0 : Int32)), (.int (0 : Int32))] (.int (0 : Int32)) := (Arv.new Aq5 (by decide)).pad (pad_rep [] (.int (0 : Int32)) 9)
    have lq5 := lt_nat Vq5.lt
    refine Goes.via stq5 ?_
    show Goes _ _ _ _ _ _ _ _ (Tq5.setTop (mkF m 73 #[.val (.int kk)] [(.ref bq5)]))
    refine Goes.via (fun _ k => XS.dup Xq5.here hx rfl (hb hby d_method_3_code_73) rfl rfl k) ?_
    show Goes _ _ _ _ _ _ _ _ (Tq5.setTop (mkF m 74 #[.val (.int kk)] [(.ref bq5), (.ref bq5)]))
    refine Goes.via (fun _ k => XT.iconstV Xq5.here hx rfl (0 : Int32) (hb hby d_method_3_code_74) (by decide) k) ?_
    show Goes _ _ _ _ _ _ _ _ (Tq5.setTop (mkF m 75 #[.val (.int kk)] [(.int (0 : Int32)), (.ref bq5), (.ref bq5)]))
    exact baseC_c7 l Z aw hw kk bq5 kq5 hx hby hml hrt hlk hnm hZ hown Xq5 eq5 N (by omega) (by omega) Oq5 (K0.ext Eq5) Vq5 cq1 cq3 cq4 (by omega) (by omega)
  · skip
    refine Goes.via (fun _ k => XS.icmpYes X.here hx rfl (pc0 := 66) (pc' := 122) rfl (hb hby d_method_3_code_66) rfl (XT.ii_ne_t cq4) (by decide) (by decide) k) ?_
    show Goes _ _ _ _ _ _ _ _ (T.setTop (mkF m 122 #[.val (.int kk)] []))
    refine Goes.via (fun _ k => XT.bipushV X.here hx rfl (9 : Int32) (hb hby d_method_3_code_122) (by decide) k) ?_
    show Goes _ _ _ _ _ _ _ _ (T.setTop (mkF m 124 #[.val (.int kk)] [(.int (9 : Int32))]))
    obtain ⟨Tq6, hq6, kq6, Xq6, eq6, Eq6, Aq6, stq6⟩ := newP (aty := .char) X hx hZ (W_4 hw) e0 (g := (mkF m 124 #[.val (.int kk)] [(.int (9 : Int32))])) rfl (hb hby d_method_3_code_124) rfl (by decide) (cap := 9) (by decide) (by decide) (by show _ + 1 ≤ 1; omega) (by show _ + 9 ≤ 10; omega)
    obtain ⟨bq6, gq6⟩ : ∃ z, z = h1.size := ⟨_, rfl⟩
    rw [← gq6] at Aq6 stq6
    have zq6 := Eq6.1
    have Oq6 := O.ext Eq6
    have Vq6 : Arv Z hq6 bq6 kq6 .char (9 : Int32) [(.int (0 : Int32)), (.int (0 : Int32)), (.int (0 : Int32)), (.int (0 : Int32)), (.int (0 : Int32)), (.int (0 : Int32)), (.int (0 : Int32)), (.int (0 : Int32)), (.int (0 : Int32))] (.int (0 : Int32)) := (Arv.new Aq6 (by decide)).pad (pad_rep [] (.int (0 : Int32)) 9)
    have lq6 := lt_nat Vq6.lt
    refine Goes.via stq6 ?_
    show Goes _ _ _ _ _ _ _ _ (Tq6.setTop (mkF m 126 #[.val (.int kk)] [(.ref bq6)]))
    refine Goes.via (fun _ k => XS.dup Xq6.here hx rfl (hb hby d_method_3_code_126) rfl rfl k) ?_
    show Goes _ _ _ _ _ _ _ _ (Tq6.setTop (mkF m 127 #[.val (.int kk)] [(.ref bq6), (.ref bq6)]))
    refine Goes.via (fun _ k => XT.iconstV Xq6.here hx rfl (0 : Int32) (hb hby d_method_3_code_127) (by decide) k) ?_
    show Goes _ _ _ _ _ _ _ _ (Tq6.setTop (mkF m 128 #[.val (.int kk)] [(.int (0 : Int32)), (.ref bq6), (.ref bq6)]))
    exact baseC_c8 l Z aw hw kk bq6 kq6 hx hby hml hrt hlk hnm hZ hown Xq6 eq6 N (by omega) (by omega) Oq6 (K0.ext Eq6) Vq6 cq1 cq3 cq4 (by omega) (by omega)
set_option maxRecDepth 65536 in
set_option maxHeartbeats 40000000 in
theorem baseC (l : Launch) (Z : State) (aw : Array Value) (hw : ∀ d ∈ tables_1, d.before aw Z = true) (kk : Int32) {h0 : Heap} {n0 : Nat} (O : Old Z n0 h0) :
    MET l Z (⟨"com/example/dispatch_note/dispatchnote/contract/ManagedMemberNamedPinLaw", "base", "(I)[C"⟩ : MethodName) method_3_code 1 (some (.array .char)) ({ frames := 0, cells := 1, slots := 10, locals := 0 } : Room) #[(.int kk)] h0 n0 (fun vv hh => ∃ r : Nat, ∃ kr : ClassId, ∃ cs : List Int32, ∃ nn : Nat, vv = some (.ref r) ∧ h0.size ≤ r ∧ Keep h0 hh [] ∧ Arv Z hh r kr .char (Int32.ofNat nn) (cs.map Value.int) (.int (0 : Int32)) ∧ (0 < nn ∧ nn ≤ 10 ∧ cs.length = nn ∧ ∀ c ∈ cs, ¬ c < 0 ∧ ¬ (255 : Int32) < c)) := by
  refine metOf (plainFor_of_name pn_13) ?_
  intro p e s m below meth c T hx hby hml hrt hlk hnm hZ hown X e0
  replace hml : c.maxLocals = 1 := hml
  replace hnm : meth.name = "base" := hnm
  replace hown : s.vm.findClass "com/example/dispatch_note/dispatchnote/contract/ManagedMemberNamedPinLaw" = some m.cls := hown
  have N := Fr.nil n0
  have zO := O.le
  refine goCast (ef_baseC m kk) ?_
  show Goes _ _ _ _ _ _ _ _ (T.setTop (mkF m 0 #[.val (.int kk)] []))
  refine Goes.via (fun _ k => XS.iloadN X.here hx rfl (hb hby d_method_3_code_0) rfl k) ?_
  show Goes _ _ _ _ _ _ _ _ (T.setTop (mkF m 1 #[.val (.int kk)] [(.int kk)]))
  by_cases cq1 : kk = (0 : Int32)
  · skip
    refine Goes.via (fun _ k => XS.ifNo X.here hx rfl (hb hby d_method_3_code_1) rfl (XT.i0_ne_f cq1) k) ?_
    show Goes _ _ _ _ _ _ _ _ (T.setTop (mkF m 4 #[.val (.int kk)] []))
    refine Goes.via (fun _ k => XT.iconstV X.here hx rfl (2 : Int32) (hb hby d_method_3_code_4) (by decide) k) ?_
    show Goes _ _ _ _ _ _ _ _ (T.setTop (mkF m 5 #[.val (.int kk)] [(.int (2 : Int32))]))
    obtain ⟨Tq2, hq2, kq2, Xq2, eq2, Eq2, Aq2, stq2⟩ := newP (aty := .char) X hx hZ (W_4 hw) e0 (g := (mkF m 5 #[.val (.int kk)] [(.int (2 : Int32))])) rfl (hb hby d_method_3_code_5) rfl (by decide) (cap := 2) (by decide) (by decide) (by decide) (by decide)
    obtain ⟨bq2, gq2⟩ : ∃ z, z = h0.size := ⟨_, rfl⟩
    rw [← gq2] at Aq2 stq2
    have zq2 := Eq2.1
    have Oq2 := O.ext Eq2
    have Vq2 : Arv Z hq2 bq2 kq2 .char (2 : Int32) [(.int (0 : Int32)), (.int (0 : Int32))] (.int (0 : Int32)) := (Arv.new Aq2 (by decide)).pad (pad_rep [] (.int (0 : Int32)) 2)
    have lq2 := lt_nat Vq2.lt
    refine Goes.via stq2 ?_
    show Goes _ _ _ _ _ _ _ _ (Tq2.setTop (mkF m 7 #[.val (.int kk)] [(.ref bq2)]))
    refine Goes.via (fun _ k => XS.dup Xq2.here hx rfl (hb hby d_method_3_code_7) rfl rfl k) ?_
    show Goes _ _ _ _ _ _ _ _ (Tq2.setTop (mkF m 8 #[.val (.int kk)] [(.ref bq2), (.ref bq2)]))
    refine Goes.via (fun _ k => XT.iconstV Xq2.here hx rfl (0 : Int32) (hb hby d_method_3_code_8) (by decide) k) ?_
    show Goes _ _ _ _ _ _ _ _ (Tq2.setTop (mkF m 9 #[.val (.int kk)] [(.int (0 : Int32)), (.ref bq2), (.ref bq2)]))
    exact baseC_c4 l Z aw hw kk bq2 kq2 hx hby hml hrt hlk hnm hZ hown Xq2 eq2 N (by decide) (by decide) Oq2 ((Keep.refl _ []).ext Eq2) Vq2 cq1 (by omega) (by omega)
  · skip
    refine Goes.via (fun _ k => XS.ifYes X.here hx rfl (pc0 := 1) (pc' := 18) rfl (hb hby d_method_3_code_1) rfl (XT.i0_ne_t cq1) (by decide) (by decide) k) ?_
    show Goes _ _ _ _ _ _ _ _ (T.setTop (mkF m 18 #[.val (.int kk)] []))
    refine Goes.via (fun _ k => XS.iloadN X.here hx rfl (hb hby d_method_3_code_18) rfl k) ?_
    show Goes _ _ _ _ _ _ _ _ (T.setTop (mkF m 19 #[.val (.int kk)] [(.int kk)]))
    refine Goes.via (fun _ k => XT.iconstV X.here hx rfl (1 : Int32) (hb hby d_method_3_code_19) (by decide) k) ?_
    show Goes _ _ _ _ _ _ _ _ (T.setTop (mkF m 20 #[.val (.int kk)] [(.int (1 : Int32)), (.int kk)]))
    by_cases cq3 : kk = (1 : Int32)
    · skip
      refine Goes.via (fun _ k => XS.icmpNo X.here hx rfl (hb hby d_method_3_code_20) rfl (XT.ii_ne_f cq3) k) ?_
      show Goes _ _ _ _ _ _ _ _ (T.setTop (mkF m 23 #[.val (.int kk)] []))
      refine Goes.via (fun _ k => XT.bipushV X.here hx rfl (7 : Int32) (hb hby d_method_3_code_23) (by decide) k) ?_
      show Goes _ _ _ _ _ _ _ _ (T.setTop (mkF m 25 #[.val (.int kk)] [(.int (7 : Int32))]))
      exact baseC_c5 l Z aw hw kk hx hby hml hrt hlk hnm hZ hown X e0 N (by decide) (by decide) O (Keep.refl _ []) cq1 cq3
    · skip
      refine Goes.via (fun _ k => XS.icmpYes X.here hx rfl (pc0 := 20) (pc' := 64) rfl (hb hby d_method_3_code_20) rfl (XT.ii_ne_t cq3) (by decide) (by decide) k) ?_
      show Goes _ _ _ _ _ _ _ _ (T.setTop (mkF m 64 #[.val (.int kk)] []))
      refine Goes.via (fun _ k => XS.iloadN X.here hx rfl (hb hby d_method_3_code_64) rfl k) ?_
      show Goes _ _ _ _ _ _ _ _ (T.setTop (mkF m 65 #[.val (.int kk)] [(.int kk)]))
      exact baseC_c6 l Z aw hw kk hx hby hml hrt hlk hnm hZ hown X e0 N (by decide) (by decide) O (Keep.refl _ []) cq1 cq3
theorem ef_truncC (m : MethodId) (kk : Int32) : entryFrame m #[(.int kk)] 1 = mkF m 0 #[.val (.int kk)] [] := by first | (simp [entryFrame, mkF, argsToLocals, Value.category]; done) | rfl
set_option maxRecDepth 65536 in
set_option maxHeartbeats 40000000 in
theorem truncC_c9 (l : Launch) (Z : State) (aw : Array Value) (hw : ∀ d ∈ tables_1, d.before aw Z = true) (kk : Int32) (bq2 : Nat) (kq2 : ClassId) {p : Program} {e : Env} {s : State} {m : MethodId} {args : Array Value} {below : List Frame} {meth : Method} {c : Code} {T : State} {locs : List Loc} {cells slots n0 : Nat} {h0 h1 : Heap} (hx : p.tables.exec = Jvm.exec) (hby : c.code = method_4_code) (hml : c.maxLocals = 1) (hrt : meth.sig.returnType = some (.array .char)) (hlk : meth.locks = false) (hnm : meth.name = "truncated") (hZ : Z.Warmed39 s.vm) (hown : s.vm.findClass "com/example/dispatch_note/dispatchnote/contract/ManagedMemberNamedPinLaw" = some m.cls) (X : Stand p l e ({ frames := 0, cells := 1, slots := 10, locals := 0 } : Room) s m args below meth c T locs cells slots) (e0 : T.heap = h1) (N : Fr n0 locs) (hcells : cells ≤ 1) (hslots : slots ≤ 1) (O : Old Z n0 h1) (K0 : Keep h0 h1 []) (pf0 : Arv Z h1 bq2 kq2 .char (1 : Int32) [(.int (0 : Int32))] (.int (0 : Int32))) (cq1 : kk = (0 : Int32)) (cn1 : n0 ≤ bq2) (cn2 : h0.size ≤ bq2) :
    Goes p e below s ({ frames := 0, cells := 1, slots := 10, locals := 0 } : Room).cells ({ frames := 0, cells := 1, slots := 10, locals := 0 } : Room).slots n0 (fun vv hh => ∃ r : Nat, ∃ kr : ClassId, ∃ cs : List Int32, ∃ nn : Nat, vv = some (.ref r) ∧ h0.size ≤ r ∧ Keep h0 hh [] ∧ Arv Z hh r kr .char (Int32.ofNat nn) (cs.map Value.int) (.int (0 : Int32)) ∧ (0 < nn ∧ nn ≤ 10 ∧ cs.length = nn ∧ ∀ c ∈ cs, ¬ c < 0 ∧ ¬ (255 : Int32) < c)) (T.setTop (mkF m 9 #[.val (.int kk)] [(.int (0 : Int32)), (.ref bq2), (.ref bq2)])) := by
  have zO := O.le
  have zK := K0.1
  have lt_bq2 := lt_nat pf0.lt
  show Goes _ _ _ _ _ _ _ _ (T.setTop (mkF m 9 #[.val (.int kk)] [(.int (0 : Int32)), (.ref bq2), (.ref bq2)]))
  refine Goes.via (fun _ k => XT.bipushV X.here hx rfl (105 : Int32) (hb hby d_method_4_code_9) (by decide) k) ?_
  show Goes _ _ _ _ _ _ _ _ (T.setTop (mkF m 11 #[.val (.int kk)] [(.int (105 : Int32)), (.int (0 : Int32)), (.ref bq2), (.ref bq2)]))
  obtain ⟨clq3, Arq3, qq3, Sq3, Nnq3, Hq3, Gq3⟩ := id pf0
  have hinq3 : ¬ ((0 : Int32) < 0 ∨ clq3.slots.size ≤ ((0 : Int32)).toNatClampNeg) := inb_of Sq3 ⟨by decide, by decide⟩
  obtain ⟨Tq3, hq3, Xq3, eq3, Wq3, stq3⟩ := stC X hx hZ e0 Arq3 (j := (0 : Int32)) hinq3 (g := (mkF m 11 #[.val (.int kk)] [(.int (105 : Int32)), (.int (0 : Int32)), (.ref bq2), (.ref bq2)])) rfl rfl (hb hby d_method_4_code_11)
  have Nq3 := Fr.snoc Xq3 N (by omega)
  have zq3 := Wq3.size
  have Oq3 := O.wr Wq3 (by omega)
  have Vq3 : Arv Z hq3 bq2 kq2 .char (1 : Int32) [(.int (105 : Int32))] (.int (0 : Int32)) := Arv.set Arq3 qq3 Sq3 Nnq3 Hq3 Gq3 (by decide) Wq3 0 rfl (Nat.le_of_ble_eq_true rfl)
  refine Goes.via stq3 ?_
  show Goes _ _ _ _ _ _ _ _ (Tq3.setTop (mkF m 12 #[.val (.int kk)] [(.ref bq2)]))
  refine goRetA Xq3 hx hrt rfl hlk Nq3 (by show _ ≤ 1; omega) (by show _ ≤ 10; omega) rfl (hb hby d_method_4_code_12) ?_
  try rw [eq3]
  exact ⟨bq2, kq2, [(105 : Int32)], 1, rfl, by omega, (K0.wr Wq3 (Or.inr (by omega))), Vq3, by decide, by decide, rfl, (chS (by decide) ch0)⟩
set_option maxRecDepth 65536 in
set_option maxHeartbeats 40000000 in
theorem truncC_c10 (l : Launch) (Z : State) (aw : Array Value) (hw : ∀ d ∈ tables_1, d.before aw Z = true) (kk : Int32) {p : Program} {e : Env} {s : State} {m : MethodId} {args : Array Value} {below : List Frame} {meth : Method} {c : Code} {T : State} {locs : List Loc} {cells slots n0 : Nat} {h0 h1 : Heap} (hx : p.tables.exec = Jvm.exec) (hby : c.code = method_4_code) (hml : c.maxLocals = 1) (hrt : meth.sig.returnType = some (.array .char)) (hlk : meth.locks = false) (hnm : meth.name = "truncated") (hZ : Z.Warmed39 s.vm) (hown : s.vm.findClass "com/example/dispatch_note/dispatchnote/contract/ManagedMemberNamedPinLaw" = some m.cls) (X : Stand p l e ({ frames := 0, cells := 1, slots := 10, locals := 0 } : Room) s m args below meth c T locs cells slots) (e0 : T.heap = h1) (N : Fr n0 locs) (hcells : cells ≤ 0) (hslots : slots ≤ 0) (O : Old Z n0 h1) (K0 : Keep h0 h1 []) (cq1 : ¬ (kk = (0 : Int32))) (cq3 : kk = (1 : Int32)) :
    Goes p e below s ({ frames := 0, cells := 1, slots := 10, locals := 0 } : Room).cells ({ frames := 0, cells := 1, slots := 10, locals := 0 } : Room).slots n0 (fun vv hh => ∃ r : Nat, ∃ kr : ClassId, ∃ cs : List Int32, ∃ nn : Nat, vv = some (.ref r) ∧ h0.size ≤ r ∧ Keep h0 hh [] ∧ Arv Z hh r kr .char (Int32.ofNat nn) (cs.map Value.int) (.int (0 : Int32)) ∧ (0 < nn ∧ nn ≤ 10 ∧ cs.length = nn ∧ ∀ c ∈ cs, ¬ c < 0 ∧ ¬ (255 : Int32) < c)) (T.setTop (mkF m 20 #[.val (.int kk)] [(.int (6 : Int32))])) := by
  have zO := O.le
  have zK := K0.1
  show Goes _ _ _ _ _ _ _ _ (T.setTop (mkF m 20 #[.val (.int kk)] [(.int (6 : Int32))]))
  obtain ⟨Tq4, hq4, kq4, Xq4, eq4, Eq4, Aq4, stq4⟩ := newP (aty := .char) X hx hZ (W_4 hw) e0 (g := (mkF m 20 #[.val (.int kk)] [(.int (6 : Int32))])) rfl (hb hby d_method_4_code_20) rfl (by decide) (cap := 6) (by decide) (by decide) (by show _ + 1 ≤ 1; omega) (by show _ + 6 ≤ 10; omega)
  obtain ⟨bq4, gq4⟩ : ∃ z, z = h1.size := ⟨_, rfl⟩
  rw [← gq4] at Aq4 stq4
  have zq4 := Eq4.1
  have Oq4 := O.ext Eq4
  have Vq4 : Arv Z hq4 bq4 kq4 .char (6 : Int32) [(.int (0 : Int32)), (.int (0 : Int32)), (.int (0 : Int32)), (.int (0 : Int32)), (.int (0 : Int32)), (.int (0 : Int32))] (.int (0 : Int32)) := (Arv.new Aq4 (by decide)).pad (pad_rep [] (.int (0 : Int32)) 6)
  have lq4 := lt_nat Vq4.lt
  refine Goes.via stq4 ?_
  show Goes _ _ _ _ _ _ _ _ (Tq4.setTop (mkF m 22 #[.val (.int kk)] [(.ref bq4)]))
  refine Goes.via (fun _ k => XS.dup Xq4.here hx rfl (hb hby d_method_4_code_22) rfl rfl k) ?_
  show Goes _ _ _ _ _ _ _ _ (Tq4.setTop (mkF m 23 #[.val (.int kk)] [(.ref bq4), (.ref bq4)]))
  refine Goes.via (fun _ k => XT.iconstV Xq4.here hx rfl (0 : Int32) (hb hby d_method_4_code_23) (by decide) k) ?_
  show Goes _ _ _ _ _ _ _ _ (Tq4.setTop (mkF m 24 #[.val (.int kk)] [(.int (0 : Int32)), (.ref bq4), (.ref bq4)]))
  refine Goes.via (fun _ k => XT.bipushV Xq4.here hx rfl (118 : Int32) (hb hby d_method_4_code_24) (by decide) k) ?_
  show Goes _ _ _ _ _ _ _ _ (Tq4.setTop (mkF m 26 #[.val (.int kk)] [(.int (118 : Int32)), (.int (0 : Int32)), (.ref bq4), (.ref bq4)]))
  obtain ⟨clq5, Arq5, qq5, Sq5, Nnq5, Hq5, Gq5⟩ := id Vq4
  have hinq5 : ¬ ((0 : Int32) < 0 ∨ clq5.slots.size ≤ ((0 : Int32)).toNatClampNeg) := inb_of Sq5 ⟨by decide, by decide⟩
  obtain ⟨Tq5, hq5, Xq5, eq5, Wq5, stq5⟩ := stC Xq4 hx hZ eq4 Arq5 (j := (0 : Int32)) hinq5 (g := (mkF m 26 #[.val (.int kk)] [(.int (118 : Int32)), (.int (0 : Int32)), (.ref bq4), (.ref bq4)])) rfl rfl (hb hby d_method_4_code_26)
  have Nq5 := Fr.snoc Xq5 N (by omega)
  have zq5 := Wq5.size
  have Oq5 := Oq4.wr Wq5 (by omega)
  have Vq5 : Arv Z hq5 bq4 kq4 .char (6 : Int32) [(.int (118 : Int32)), (.int (0 : Int32)), (.int (0 : Int32)), (.int (0 : Int32)), (.int (0 : Int32)), (.int (0 : Int32))] (.int (0 : Int32)) := Arv.set Arq5 qq5 Sq5 Nnq5 Hq5 Gq5 (by decide) Wq5 0 rfl (Nat.le_of_ble_eq_true rfl)
  refine Goes.via stq5 ?_
  show Goes _ _ _ _ _ _ _ _ (Tq5.setTop (mkF m 27 #[.val (.int kk)] [(.ref bq4)]))
  refine Goes.via (fun _ k => XS.dup Xq5.here hx rfl (hb hby d_method_4_code_27) rfl rfl k) ?_
  show Goes _ _ _ _ _ _ _ _ (Tq5.setTop (mkF m 28 #[.val (.int kk)] [(.ref bq4), (.ref bq4)]))
  refine Goes.via (fun _ k => XT.iconstV Xq5.here hx rfl (1 : Int32) (hb hby d_method_4_code_28) (by decide) k) ?_
  show Goes _ _ _ _ _ _ _ _ (Tq5.setTop (mkF m 29 #[.val (.int kk)] [(.int (1 : Int32)), (.ref bq4), (.ref bq4)]))
  refine Goes.via (fun _ k => XT.bipushV Xq5.here hx rfl (101 : Int32) (hb hby d_method_4_code_29) (by decide) k) ?_
  show Goes _ _ _ _ _ _ _ _ (Tq5.setTop (mkF m 31 #[.val (.int kk)] [(.int (101 : Int32)), (.int (1 : Int32)), (.ref bq4), (.ref bq4)]))
  obtain ⟨clq6, Arq6, qq6, Sq6, Nnq6, Hq6, Gq6⟩ := id Vq5
  have hinq6 : ¬ ((1 : Int32) < 0 ∨ clq6.slots.size ≤ ((1 : Int32)).toNatClampNeg) := inb_of Sq6 ⟨by decide, by decide⟩
  obtain ⟨Tq6, hq6, Xq6, eq6, Wq6, stq6⟩ := stC Xq5 hx hZ eq5 Arq6 (j := (1 : Int32)) hinq6 (g := (mkF m 31 #[.val (.int kk)] [(.int (101 : Int32)), (.int (1 : Int32)), (.ref bq4), (.ref bq4)])) rfl rfl (hb hby d_method_4_code_31)
  have Nq6 := Fr.snoc Xq6 Nq5 (by omega)
  have zq6 := Wq6.size
  have Oq6 := Oq5.wr Wq6 (by omega)
  have Vq6 : Arv Z hq6 bq4 kq4 .char (6 : Int32) [(.int (118 : Int32)), (.int (101 : Int32)), (.int (0 : Int32)), (.int (0 : Int32)), (.int (0 : Int32)), (.int (0 : Int32))] (.int (0 : Int32)) := Arv.set Arq6 qq6 Sq6 Nnq6 Hq6 Gq6 (by decide) Wq6 1 rfl (Nat.le_of_ble_eq_true rfl)
  refine Goes.via stq6 ?_
  show Goes _ _ _ _ _ _ _ _ (Tq6.setTop (mkF m 32 #[.val (.int kk)] [(.ref bq4)]))
  refine Goes.via (fun _ k => XS.dup Xq6.here hx rfl (hb hby d_method_4_code_32) rfl rfl k) ?_
  show Goes _ _ _ _ _ _ _ _ (Tq6.setTop (mkF m 33 #[.val (.int kk)] [(.ref bq4), (.ref bq4)]))
  refine Goes.via (fun _ k => XT.iconstV Xq6.here hx rfl (2 : Int32) (hb hby d_method_4_code_33) (by decide) k) ?_
  show Goes _ _ _ _ _ _ _ _ (Tq6.setTop (mkF m 34 #[.val (.int kk)] [(.int (2 : Int32)), (.ref bq4), (.ref bq4)]))
  refine Goes.via (fun _ k => XT.bipushV Xq6.here hx rfl (114 : Int32) (hb hby d_method_4_code_34) (by decide) k) ?_
  show Goes _ _ _ _ _ _ _ _ (Tq6.setTop (mkF m 36 #[.val (.int kk)] [(.int (114 : Int32)), (.int (2 : Int32)), (.ref bq4), (.ref bq4)]))
  obtain ⟨clq7, Arq7, qq7, Sq7, Nnq7, Hq7, Gq7⟩ := id Vq6
  have hinq7 : ¬ ((2 : Int32) < 0 ∨ clq7.slots.size ≤ ((2 : Int32)).toNatClampNeg) := inb_of Sq7 ⟨by decide, by decide⟩
  obtain ⟨Tq7, hq7, Xq7, eq7, Wq7, stq7⟩ := stC Xq6 hx hZ eq6 Arq7 (j := (2 : Int32)) hinq7 (g := (mkF m 36 #[.val (.int kk)] [(.int (114 : Int32)), (.int (2 : Int32)), (.ref bq4), (.ref bq4)])) rfl rfl (hb hby d_method_4_code_36)
  have Nq7 := Fr.snoc Xq7 Nq6 (by omega)
  have zq7 := Wq7.size
  have Oq7 := Oq6.wr Wq7 (by omega)
  have Vq7 : Arv Z hq7 bq4 kq4 .char (6 : Int32) [(.int (118 : Int32)), (.int (101 : Int32)), (.int (114 : Int32)), (.int (0 : Int32)), (.int (0 : Int32)), (.int (0 : Int32))] (.int (0 : Int32)) := Arv.set Arq7 qq7 Sq7 Nnq7 Hq7 Gq7 (by decide) Wq7 2 rfl (Nat.le_of_ble_eq_true rfl)
  refine Goes.via stq7 ?_
  show Goes _ _ _ _ _ _ _ _ (Tq7.setTop (mkF m 37 #[.val (.int kk)] [(.ref bq4)]))
  refine Goes.via (fun _ k => XS.dup Xq7.here hx rfl (hb hby d_method_4_code_37) rfl rfl k) ?_
  show Goes _ _ _ _ _ _ _ _ (Tq7.setTop (mkF m 38 #[.val (.int kk)] [(.ref bq4), (.ref bq4)]))
  refine Goes.via (fun _ k => XT.iconstV Xq7.here hx rfl (3 : Int32) (hb hby d_method_4_code_38) (by decide) k) ?_
  show Goes _ _ _ _ _ _ _ _ (Tq7.setTop (mkF m 39 #[.val (.int kk)] [(.int (3 : Int32)), (.ref bq4), (.ref bq4)]))
  refine Goes.via (fun _ k => XT.bipushV Xq7.here hx rfl (115 : Int32) (hb hby d_method_4_code_39) (by decide) k) ?_
  show Goes _ _ _ _ _ _ _ _ (Tq7.setTop (mkF m 41 #[.val (.int kk)] [(.int (115 : Int32)), (.int (3 : Int32)), (.ref bq4), (.ref bq4)]))
  obtain ⟨clq8, Arq8, qq8, Sq8, Nnq8, Hq8, Gq8⟩ := id Vq7
  have hinq8 : ¬ ((3 : Int32) < 0 ∨ clq8.slots.size ≤ ((3 : Int32)).toNatClampNeg) := inb_of Sq8 ⟨by decide, by decide⟩
  obtain ⟨Tq8, hq8, Xq8, eq8, Wq8, stq8⟩ := stC Xq7 hx hZ eq7 Arq8 (j := (3 : Int32)) hinq8 (g := (mkF m 41 #[.val (.int kk)] [(.int (115 : Int32)), (.int (3 : Int32)), (.ref bq4), (.ref bq4)])) rfl rfl (hb hby d_method_4_code_41)
  have Nq8 := Fr.snoc Xq8 Nq7 (by omega)
  have zq8 := Wq8.size
  have Oq8 := Oq7.wr Wq8 (by omega)
  have Vq8 : Arv Z hq8 bq4 kq4 .char (6 : Int32) [(.int (118 : Int32)), (.int (101 : Int32)), (.int (114 : Int32)), (.int (115 : Int32)), (.int (0 : Int32)), (.int (0 : Int32))] (.int (0 : Int32)) := Arv.set Arq8 qq8 Sq8 Nnq8 Hq8 Gq8 (by decide) Wq8 3 rfl (Nat.le_of_ble_eq_true rfl)
  refine Goes.via stq8 ?_
  show Goes _ _ _ _ _ _ _ _ (Tq8.setTop (mkF m 42 #[.val (.int kk)] [(.ref bq4)]))
  refine Goes.via (fun _ k => XS.dup Xq8.here hx rfl (hb hby d_method_4_code_42) rfl rfl k) ?_
  show Goes _ _ _ _ _ _ _ _ (Tq8.setTop (mkF m 43 #[.val (.int kk)] [(.ref bq4), (.ref bq4)]))
  refine Goes.via (fun _ k => XT.iconstV Xq8.here hx rfl (4 : Int32) (hb hby d_method_4_code_43) (by decide) k) ?_
  show Goes _ _ _ _ _ _ _ _ (Tq8.setTop (mkF m 44 #[.val (.int kk)] [(.int (4 : Int32)), (.ref bq4), (.ref bq4)]))
  refine Goes.via (fun _ k => XT.bipushV Xq8.here hx rfl (105 : Int32) (hb hby d_method_4_code_44) (by decide) k) ?_
  show Goes _ _ _ _ _ _ _ _ (Tq8.setTop (mkF m 46 #[.val (.int kk)] [(.int (105 : Int32)), (.int (4 : Int32)), (.ref bq4), (.ref bq4)]))
  obtain ⟨clq9, Arq9, qq9, Sq9, Nnq9, Hq9, Gq9⟩ := id Vq8
  have hinq9 : ¬ ((4 : Int32) < 0 ∨ clq9.slots.size ≤ ((4 : Int32)).toNatClampNeg) := inb_of Sq9 ⟨by decide, by decide⟩
  obtain ⟨Tq9, hq9, Xq9, eq9, Wq9, stq9⟩ := stC Xq8 hx hZ eq8 Arq9 (j := (4 : Int32)) hinq9 (g := (mkF m 46 #[.val (.int kk)] [(.int (105 : Int32)), (.int (4 : Int32)), (.ref bq4), (.ref bq4)])) rfl rfl (hb hby d_method_4_code_46)
  have Nq9 := Fr.snoc Xq9 Nq8 (by omega)
  have zq9 := Wq9.size
  have Oq9 := Oq8.wr Wq9 (by omega)
  have Vq9 : Arv Z hq9 bq4 kq4 .char (6 : Int32) [(.int (118 : Int32)), (.int (101 : Int32)), (.int (114 : Int32)), (.int (115 : Int32)), (.int (105 : Int32)), (.int (0 : Int32))] (.int (0 : Int32)) := Arv.set Arq9 qq9 Sq9 Nnq9 Hq9 Gq9 (by decide) Wq9 4 rfl (Nat.le_of_ble_eq_true rfl)
  refine Goes.via stq9 ?_
  show Goes _ _ _ _ _ _ _ _ (Tq9.setTop (mkF m 47 #[.val (.int kk)] [(.ref bq4)]))
  refine Goes.via (fun _ k => XS.dup Xq9.here hx rfl (hb hby d_method_4_code_47) rfl rfl k) ?_
  show Goes _ _ _ _ _ _ _ _ (Tq9.setTop (mkF m 48 #[.val (.int kk)] [(.ref bq4), (.ref bq4)]))
  refine Goes.via (fun _ k => XT.iconstV Xq9.here hx rfl (5 : Int32) (hb hby d_method_4_code_48) (by decide) k) ?_
  show Goes _ _ _ _ _ _ _ _ (Tq9.setTop (mkF m 49 #[.val (.int kk)] [(.int (5 : Int32)), (.ref bq4), (.ref bq4)]))
  refine Goes.via (fun _ k => XT.bipushV Xq9.here hx rfl (111 : Int32) (hb hby d_method_4_code_49) (by decide) k) ?_
  show Goes _ _ _ _ _ _ _ _ (Tq9.setTop (mkF m 51 #[.val (.int kk)] [(.int (111 : Int32)), (.int (5 : Int32)), (.ref bq4), (.ref bq4)]))
  obtain ⟨clq10, Arq10, qq10, Sq10, Nnq10, Hq10, Gq10⟩ := id Vq9
  have hinq10 : ¬ ((5 : Int32) < 0 ∨ clq10.slots.size ≤ ((5 : Int32)).toNatClampNeg) := inb_of Sq10 ⟨by decide, by decide⟩
  obtain ⟨Tq10, hq10, Xq10, eq10, Wq10, stq10⟩ := stC Xq9 hx hZ eq9 Arq10 (j := (5 : Int32)) hinq10 (g := (mkF m 51 #[.val (.int kk)] [(.int (111 : Int32)), (.int (5 : Int32)), (.ref bq4), (.ref bq4)])) rfl rfl (hb hby d_method_4_code_51)
  have Nq10 := Fr.snoc Xq10 Nq9 (by omega)
  have zq10 := Wq10.size
  have Oq10 := Oq9.wr Wq10 (by omega)
  have Vq10 : Arv Z hq10 bq4 kq4 .char (6 : Int32) [(.int (118 : Int32)), (.int (101 : Int32)), (.int (114 : Int32)), (.int (115 : Int32)), (.int (105 : Int32)), (.int (111 : Int32))] (.int (0 : Int32)) := Arv.set Arq10 qq10 Sq10 Nnq10 Hq10 Gq10 (by decide) Wq10 5 rfl (Nat.le_of_ble_eq_true rfl)
  refine Goes.via stq10 ?_
  show Goes _ _ _ _ _ _ _ _ (Tq10.setTop (mkF m 52 #[.val (.int kk)] [(.ref bq4)]))
  refine goRetA Xq10 hx hrt rfl hlk Nq10 (by show _ ≤ 1; omega) (by show _ ≤ 10; omega) rfl (hb hby d_method_4_code_52) ?_
  try rw [eq10]
  exact ⟨bq4, kq4, [(118 : Int32), (101 : Int32), (114 : Int32), (115 : Int32), (105 : Int32), (111 : Int32)], 6, rfl, by omega, (((((((K0.ext Eq4).wr Wq5 (Or.inr (by omega))).wr Wq6 (Or.inr (by omega))).wr Wq7 (Or.inr (by omega))).wr Wq8 (Or.inr (by omega))).wr Wq9 (Or.inr (by omega))).wr Wq10 (Or.inr (by omega))), Vq10, by decide, by decide, rfl, (chS (by decide) (chS (by decide) (chS (by decide) (chS (by decide) (chS (by decide) (chS (by decide) ch0))))))⟩
set_option maxRecDepth 65536 in
set_option maxHeartbeats 40000000 in
theorem truncC_c12 (l : Launch) (Z : State) (aw : Array Value) (hw : ∀ d ∈ tables_1, d.before aw Z = true) (kk : Int32) (bq5 : Nat) (kq5 : ClassId) {p : Program} {e : Env} {s : State} {m : MethodId} {args : Array Value} {below : List Frame} {meth : Method} {c : Code} {T : State} {locs : List Loc} {cells slots n0 : Nat} {h0 h1 : Heap} (hx : p.tables.exec = Jvm.exec) (hby : c.code = method_4_code) (hml : c.maxLocals = 1) (hrt : meth.sig.returnType = some (.array .char)) (hlk : meth.locks = false) (hnm : meth.name = "truncated") (hZ : Z.Warmed39 s.vm) (hown : s.vm.findClass "com/example/dispatch_note/dispatchnote/contract/ManagedMemberNamedPinLaw" = some m.cls) (X : Stand p l e ({ frames := 0, cells := 1, slots := 10, locals := 0 } : Room) s m args below meth c T locs cells slots) (e0 : T.heap = h1) (N : Fr n0 locs) (hcells : cells ≤ 1) (hslots : slots ≤ 8) (O : Old Z n0 h1) (K0 : Keep h0 h1 []) (pf0 : Arv Z h1 bq5 kq5 .char (8 : Int32) [(.int (0 : Int32)), (.int (0 : Int32)), (.int (0 : Int32)), (.int (0 : Int32)), (.int (0 : Int32)), (.int (0 : Int32)), (.int (0 : Int32)), (.int (0 : Int32))] (.int (0 : Int32))) (cq1 : ¬ (kk = (0 : Int32))) (cq3 : ¬ (kk = (1 : Int32))) (cq4 : kk = (2 : Int32)) (cn1 : n0 ≤ bq5) (cn2 : h0.size ≤ bq5) :
    Goes p e below s ({ frames := 0, cells := 1, slots := 10, locals := 0 } : Room).cells ({ frames := 0, cells := 1, slots := 10, locals := 0 } : Room).slots n0 (fun vv hh => ∃ r : Nat, ∃ kr : ClassId, ∃ cs : List Int32, ∃ nn : Nat, vv = some (.ref r) ∧ h0.size ≤ r ∧ Keep h0 hh [] ∧ Arv Z hh r kr .char (Int32.ofNat nn) (cs.map Value.int) (.int (0 : Int32)) ∧ (0 < nn ∧ nn ≤ 10 ∧ cs.length = nn ∧ ∀ c ∈ cs, ¬ c < 0 ∧ ¬ (255 : Int32) < c)) (T.setTop (mkF m 64 #[.val (.int kk)] [(.int (0 : Int32)), (.ref bq5), (.ref bq5)])) := by
  have zO := O.le
  have zK := K0.1
  have lt_bq5 := lt_nat pf0.lt
  show Goes _ _ _ _ _ _ _ _ (T.setTop (mkF m 64 #[.val (.int kk)] [(.int (0 : Int32)), (.ref bq5), (.ref bq5)]))
  refine Goes.via (fun _ k => XT.bipushV X.here hx rfl (99 : Int32) (hb hby d_method_4_code_64) (by decide) k) ?_
  show Goes _ _ _ _ _ _ _ _ (T.setTop (mkF m 66 #[.val (.int kk)] [(.int (99 : Int32)), (.int (0 : Int32)), (.ref bq5), (.ref bq5)]))
  obtain ⟨clq6, Arq6, qq6, Sq6, Nnq6, Hq6, Gq6⟩ := id pf0
  have hinq6 : ¬ ((0 : Int32) < 0 ∨ clq6.slots.size ≤ ((0 : Int32)).toNatClampNeg) := inb_of Sq6 ⟨by decide, by decide⟩
  obtain ⟨Tq6, hq6, Xq6, eq6, Wq6, stq6⟩ := stC X hx hZ e0 Arq6 (j := (0 : Int32)) hinq6 (g := (mkF m 66 #[.val (.int kk)] [(.int (99 : Int32)), (.int (0 : Int32)), (.ref bq5), (.ref bq5)])) rfl rfl (hb hby d_method_4_code_66)
  have Nq6 := Fr.snoc Xq6 N (by omega)
  have zq6 := Wq6.size
  have Oq6 := O.wr Wq6 (by omega)
  have Vq6 : Arv Z hq6 bq5 kq5 .char (8 : Int32) [(.int (99 : Int32)), (.int (0 : Int32)), (.int (0 : Int32)), (.int (0 : Int32)), (.int (0 : Int32)), (.int (0 : Int32)), (.int (0 : Int32)), (.int (0 : Int32))] (.int (0 : Int32)) := Arv.set Arq6 qq6 Sq6 Nnq6 Hq6 Gq6 (by decide) Wq6 0 rfl (Nat.le_of_ble_eq_true rfl)
  refine Goes.via stq6 ?_
  show Goes _ _ _ _ _ _ _ _ (Tq6.setTop (mkF m 67 #[.val (.int kk)] [(.ref bq5)]))
  refine Goes.via (fun _ k => XS.dup Xq6.here hx rfl (hb hby d_method_4_code_67) rfl rfl k) ?_
  show Goes _ _ _ _ _ _ _ _ (Tq6.setTop (mkF m 68 #[.val (.int kk)] [(.ref bq5), (.ref bq5)]))
  refine Goes.via (fun _ k => XT.iconstV Xq6.here hx rfl (1 : Int32) (hb hby d_method_4_code_68) (by decide) k) ?_
  show Goes _ _ _ _ _ _ _ _ (Tq6.setTop (mkF m 69 #[.val (.int kk)] [(.int (1 : Int32)), (.ref bq5), (.ref bq5)]))
  refine Goes.via (fun _ k => XT.bipushV Xq6.here hx rfl (114 : Int32) (hb hby d_method_4_code_69) (by decide) k) ?_
  show Goes _ _ _ _ _ _ _ _ (Tq6.setTop (mkF m 71 #[.val (.int kk)] [(.int (114 : Int32)), (.int (1 : Int32)), (.ref bq5), (.ref bq5)]))
  obtain ⟨clq7, Arq7, qq7, Sq7, Nnq7, Hq7, Gq7⟩ := id Vq6
  have hinq7 : ¬ ((1 : Int32) < 0 ∨ clq7.slots.size ≤ ((1 : Int32)).toNatClampNeg) := inb_of Sq7 ⟨by decide, by decide⟩
  obtain ⟨Tq7, hq7, Xq7, eq7, Wq7, stq7⟩ := stC Xq6 hx hZ eq6 Arq7 (j := (1 : Int32)) hinq7 (g := (mkF m 71 #[.val (.int kk)] [(.int (114 : Int32)), (.int (1 : Int32)), (.ref bq5), (.ref bq5)])) rfl rfl (hb hby d_method_4_code_71)
  have Nq7 := Fr.snoc Xq7 Nq6 (by omega)
  have zq7 := Wq7.size
  have Oq7 := Oq6.wr Wq7 (by omega)
  have Vq7 : Arv Z hq7 bq5 kq5 .char (8 : Int32) [(.int (99 : Int32)), (.int (114 : Int32)), (.int (0 : Int32)), (.int (0 : Int32)), (.int (0 : Int32)), (.int (0 : Int32)), (.int (0 : Int32)), (.int (0 : Int32))] (.int (0 : Int32)) := Arv.set Arq7 qq7 Sq7 Nnq7 Hq7 Gq7 (by decide) Wq7 1 rfl (Nat.le_of_ble_eq_true rfl)
  refine Goes.via stq7 ?_
  show Goes _ _ _ _ _ _ _ _ (Tq7.setTop (mkF m 72 #[.val (.int kk)] [(.ref bq5)]))
  refine Goes.via (fun _ k => XS.dup Xq7.here hx rfl (hb hby d_method_4_code_72) rfl rfl k) ?_
  show Goes _ _ _ _ _ _ _ _ (Tq7.setTop (mkF m 73 #[.val (.int kk)] [(.ref bq5), (.ref bq5)]))
  refine Goes.via (fun _ k => XT.iconstV Xq7.here hx rfl (2 : Int32) (hb hby d_method_4_code_73) (by decide) k) ?_
  show Goes _ _ _ _ _ _ _ _ (Tq7.setTop (mkF m 74 #[.val (.int kk)] [(.int (2 : Int32)), (.ref bq5), (.ref bq5)]))
  refine Goes.via (fun _ k => XT.bipushV Xq7.here hx rfl (101 : Int32) (hb hby d_method_4_code_74) (by decide) k) ?_
  show Goes _ _ _ _ _ _ _ _ (Tq7.setTop (mkF m 76 #[.val (.int kk)] [(.int (101 : Int32)), (.int (2 : Int32)), (.ref bq5), (.ref bq5)]))
  obtain ⟨clq8, Arq8, qq8, Sq8, Nnq8, Hq8, Gq8⟩ := id Vq7
  have hinq8 : ¬ ((2 : Int32) < 0 ∨ clq8.slots.size ≤ ((2 : Int32)).toNatClampNeg) := inb_of Sq8 ⟨by decide, by decide⟩
  obtain ⟨Tq8, hq8, Xq8, eq8, Wq8, stq8⟩ := stC Xq7 hx hZ eq7 Arq8 (j := (2 : Int32)) hinq8 (g := (mkF m 76 #[.val (.int kk)] [(.int (101 : Int32)), (.int (2 : Int32)), (.ref bq5), (.ref bq5)])) rfl rfl (hb hby d_method_4_code_76)
  have Nq8 := Fr.snoc Xq8 Nq7 (by omega)
  have zq8 := Wq8.size
  have Oq8 := Oq7.wr Wq8 (by omega)
  have Vq8 : Arv Z hq8 bq5 kq5 .char (8 : Int32) [(.int (99 : Int32)), (.int (114 : Int32)), (.int (101 : Int32)), (.int (0 : Int32)), (.int (0 : Int32)), (.int (0 : Int32)), (.int (0 : Int32)), (.int (0 : Int32))] (.int (0 : Int32)) := Arv.set Arq8 qq8 Sq8 Nnq8 Hq8 Gq8 (by decide) Wq8 2 rfl (Nat.le_of_ble_eq_true rfl)
  refine Goes.via stq8 ?_
  show Goes _ _ _ _ _ _ _ _ (Tq8.setTop (mkF m 77 #[.val (.int kk)] [(.ref bq5)]))
  refine Goes.via (fun _ k => XS.dup Xq8.here hx rfl (hb hby d_method_4_code_77) rfl rfl k) ?_
  show Goes _ _ _ _ _ _ _ _ (Tq8.setTop (mkF m 78 #[.val (.int kk)] [(.ref bq5), (.ref bq5)]))
  refine Goes.via (fun _ k => XT.iconstV Xq8.here hx rfl (3 : Int32) (hb hby d_method_4_code_78) (by decide) k) ?_
  show Goes _ _ _ _ _ _ _ _ (Tq8.setTop (mkF m 79 #[.val (.int kk)] [(.int (3 : Int32)), (.ref bq5), (.ref bq5)]))
  refine Goes.via (fun _ k => XT.bipushV Xq8.here hx rfl (97 : Int32) (hb hby d_method_4_code_79) (by decide) k) ?_
  show Goes _ _ _ _ _ _ _ _ (Tq8.setTop (mkF m 81 #[.val (.int kk)] [(.int (97 : Int32)), (.int (3 : Int32)), (.ref bq5), (.ref bq5)]))
  obtain ⟨clq9, Arq9, qq9, Sq9, Nnq9, Hq9, Gq9⟩ := id Vq8
  have hinq9 : ¬ ((3 : Int32) < 0 ∨ clq9.slots.size ≤ ((3 : Int32)).toNatClampNeg) := inb_of Sq9 ⟨by decide, by decide⟩
  obtain ⟨Tq9, hq9, Xq9, eq9, Wq9, stq9⟩ := stC Xq8 hx hZ eq8 Arq9 (j := (3 : Int32)) hinq9 (g := (mkF m 81 #[.val (.int kk)] [(.int (97 : Int32)), (.int (3 : Int32)), (.ref bq5), (.ref bq5)])) rfl rfl (hb hby d_method_4_code_81)
  have Nq9 := Fr.snoc Xq9 Nq8 (by omega)
  have zq9 := Wq9.size
  have Oq9 := Oq8.wr Wq9 (by omega)
  have Vq9 : Arv Z hq9 bq5 kq5 .char (8 : Int32) [(.int (99 : Int32)), (.int (114 : Int32)), (.int (101 : Int32)), (.int (97 : Int32)), (.int (0 : Int32)), (.int (0 : Int32)), (.int (0 : Int32)), (.int (0 : Int32))] (.int (0 : Int32)) := Arv.set Arq9 qq9 Sq9 Nnq9 Hq9 Gq9 (by decide) Wq9 3 rfl (Nat.le_of_ble_eq_true rfl)
  refine Goes.via stq9 ?_
  show Goes _ _ _ _ _ _ _ _ (Tq9.setTop (mkF m 82 #[.val (.int kk)] [(.ref bq5)]))
  refine Goes.via (fun _ k => XS.dup Xq9.here hx rfl (hb hby d_method_4_code_82) rfl rfl k) ?_
  show Goes _ _ _ _ _ _ _ _ (Tq9.setTop (mkF m 83 #[.val (.int kk)] [(.ref bq5), (.ref bq5)]))
  refine Goes.via (fun _ k => XT.iconstV Xq9.here hx rfl (4 : Int32) (hb hby d_method_4_code_83) (by decide) k) ?_
  show Goes _ _ _ _ _ _ _ _ (Tq9.setTop (mkF m 84 #[.val (.int kk)] [(.int (4 : Int32)), (.ref bq5), (.ref bq5)]))
  refine Goes.via (fun _ k => XT.bipushV Xq9.here hx rfl (116 : Int32) (hb hby d_method_4_code_84) (by decide) k) ?_
  show Goes _ _ _ _ _ _ _ _ (Tq9.setTop (mkF m 86 #[.val (.int kk)] [(.int (116 : Int32)), (.int (4 : Int32)), (.ref bq5), (.ref bq5)]))
  obtain ⟨clq10, Arq10, qq10, Sq10, Nnq10, Hq10, Gq10⟩ := id Vq9
  have hinq10 : ¬ ((4 : Int32) < 0 ∨ clq10.slots.size ≤ ((4 : Int32)).toNatClampNeg) := inb_of Sq10 ⟨by decide, by decide⟩
  obtain ⟨Tq10, hq10, Xq10, eq10, Wq10, stq10⟩ := stC Xq9 hx hZ eq9 Arq10 (j := (4 : Int32)) hinq10 (g := (mkF m 86 #[.val (.int kk)] [(.int (116 : Int32)), (.int (4 : Int32)), (.ref bq5), (.ref bq5)])) rfl rfl (hb hby d_method_4_code_86)
  have Nq10 := Fr.snoc Xq10 Nq9 (by omega)
  have zq10 := Wq10.size
  have Oq10 := Oq9.wr Wq10 (by omega)
  have Vq10 : Arv Z hq10 bq5 kq5 .char (8 : Int32) [(.int (99 : Int32)), (.int (114 : Int32)), (.int (101 : Int32)), (.int (97 : Int32)), (.int (116 : Int32)), (.int (0 : Int32)), (.int (0 : Int32)), (.int (0 : Int32))] (.int (0 : Int32)) := Arv.set Arq10 qq10 Sq10 Nnq10 Hq10 Gq10 (by decide) Wq10 4 rfl (Nat.le_of_ble_eq_true rfl)
  refine Goes.via stq10 ?_
  show Goes _ _ _ _ _ _ _ _ (Tq10.setTop (mkF m 87 #[.val (.int kk)] [(.ref bq5)]))
  refine Goes.via (fun _ k => XS.dup Xq10.here hx rfl (hb hby d_method_4_code_87) rfl rfl k) ?_
  show Goes _ _ _ _ _ _ _ _ (Tq10.setTop (mkF m 88 #[.val (.int kk)] [(.ref bq5), (.ref bq5)]))
  refine Goes.via (fun _ k => XT.iconstV Xq10.here hx rfl (5 : Int32) (hb hby d_method_4_code_88) (by decide) k) ?_
  show Goes _ _ _ _ _ _ _ _ (Tq10.setTop (mkF m 89 #[.val (.int kk)] [(.int (5 : Int32)), (.ref bq5), (.ref bq5)]))
  refine Goes.via (fun _ k => XT.bipushV Xq10.here hx rfl (101 : Int32) (hb hby d_method_4_code_89) (by decide) k) ?_
  show Goes _ _ _ _ _ _ _ _ (Tq10.setTop (mkF m 91 #[.val (.int kk)] [(.int (101 : Int32)), (.int (5 : Int32)), (.ref bq5), (.ref bq5)]))
  obtain ⟨clq11, Arq11, qq11, Sq11, Nnq11, Hq11, Gq11⟩ := id Vq10
  have hinq11 : ¬ ((5 : Int32) < 0 ∨ clq11.slots.size ≤ ((5 : Int32)).toNatClampNeg) := inb_of Sq11 ⟨by decide, by decide⟩
  obtain ⟨Tq11, hq11, Xq11, eq11, Wq11, stq11⟩ := stC Xq10 hx hZ eq10 Arq11 (j := (5 : Int32)) hinq11 (g := (mkF m 91 #[.val (.int kk)] [(.int (101 : Int32)), (.int (5 : Int32)), (.ref bq5), (.ref bq5)])) rfl rfl (hb hby d_method_4_code_91)
  have Nq11 := Fr.snoc Xq11 Nq10 (by omega)
  have zq11 := Wq11.size
  have Oq11 := Oq10.wr Wq11 (by omega)
  have Vq11 : Arv Z hq11 bq5 kq5 .char (8 : Int32) [(.int (99 : Int32)), (.int (114 : Int32)), (.int (101 : Int32)), (.int (97 : Int32)), (.int (116 : Int32)), (.int (101 : Int32)), (.int (0 : Int32)), (.int (0 : Int32))] (.int (0 : Int32)) := Arv.set Arq11 qq11 Sq11 Nnq11 Hq11 Gq11 (by decide) Wq11 5 rfl (Nat.le_of_ble_eq_true rfl)
  refine Goes.via stq11 ?_
  show Goes _ _ _ _ _ _ _ _ (Tq11.setTop (mkF m 92 #[.val (.int kk)] [(.ref bq5)]))
  refine Goes.via (fun _ k => XS.dup Xq11.here hx rfl (hb hby d_method_4_code_92) rfl rfl k) ?_
  show Goes _ _ _ _ _ _ _ _ (Tq11.setTop (mkF m 93 #[.val (.int kk)] [(.ref bq5), (.ref bq5)]))
  refine Goes.via (fun _ k => XT.bipushV Xq11.here hx rfl (6 : Int32) (hb hby d_method_4_code_93) (by decide) k) ?_
  show Goes _ _ _ _ _ _ _ _ (Tq11.setTop (mkF m 95 #[.val (.int kk)] [(.int (6 : Int32)), (.ref bq5), (.ref bq5)]))
  refine Goes.via (fun _ k => XT.bipushV Xq11.here hx rfl (100 : Int32) (hb hby d_method_4_code_95) (by decide) k) ?_
  show Goes _ _ _ _ _ _ _ _ (Tq11.setTop (mkF m 97 #[.val (.int kk)] [(.int (100 : Int32)), (.int (6 : Int32)), (.ref bq5), (.ref bq5)]))
  obtain ⟨clq12, Arq12, qq12, Sq12, Nnq12, Hq12, Gq12⟩ := id Vq11
  have hinq12 : ¬ ((6 : Int32) < 0 ∨ clq12.slots.size ≤ ((6 : Int32)).toNatClampNeg) := inb_of Sq12 ⟨by decide, by decide⟩
  obtain ⟨Tq12, hq12, Xq12, eq12, Wq12, stq12⟩ := stC Xq11 hx hZ eq11 Arq12 (j := (6 : Int32)) hinq12 (g := (mkF m 97 #[.val (.int kk)] [(.int (100 : Int32)), (.int (6 : Int32)), (.ref bq5), (.ref bq5)])) rfl rfl (hb hby d_method_4_code_97)
  have Nq12 := Fr.snoc Xq12 Nq11 (by omega)
  have zq12 := Wq12.size
  have Oq12 := Oq11.wr Wq12 (by omega)
  have Vq12 : Arv Z hq12 bq5 kq5 .char (8 : Int32) [(.int (99 : Int32)), (.int (114 : Int32)), (.int (101 : Int32)), (.int (97 : Int32)), (.int (116 : Int32)), (.int (101 : Int32)), (.int (100 : Int32)), (.int (0 : Int32))] (.int (0 : Int32)) := Arv.set Arq12 qq12 Sq12 Nnq12 Hq12 Gq12 (by decide) Wq12 6 rfl (Nat.le_of_ble_eq_true rfl)
  refine Goes.via stq12 ?_
  show Goes _ _ _ _ _ _ _ _ (Tq12.setTop (mkF m 98 #[.val (.int kk)] [(.ref bq5)]))
  refine Goes.via (fun _ k => XS.dup Xq12.here hx rfl (hb hby d_method_4_code_98) rfl rfl k) ?_
  show Goes _ _ _ _ _ _ _ _ (Tq12.setTop (mkF m 99 #[.val (.int kk)] [(.ref bq5), (.ref bq5)]))
  refine Goes.via (fun _ k => XT.bipushV Xq12.here hx rfl (7 : Int32) (hb hby d_method_4_code_99) (by decide) k) ?_
  show Goes _ _ _ _ _ _ _ _ (Tq12.setTop (mkF m 101 #[.val (.int kk)] [(.int (7 : Int32)), (.ref bq5), (.ref bq5)]))
  refine Goes.via (fun _ k => XT.bipushV Xq12.here hx rfl (65 : Int32) (hb hby d_method_4_code_101) (by decide) k) ?_
  show Goes _ _ _ _ _ _ _ _ (Tq12.setTop (mkF m 103 #[.val (.int kk)] [(.int (65 : Int32)), (.int (7 : Int32)), (.ref bq5), (.ref bq5)]))
  obtain ⟨clq13, Arq13, qq13, Sq13, Nnq13, Hq13, Gq13⟩ := id Vq12
  have hinq13 : ¬ ((7 : Int32) < 0 ∨ clq13.slots.size ≤ ((7 : Int32)).toNatClampNeg) := inb_of Sq13 ⟨by decide, by decide⟩
  obtain ⟨Tq13, hq13, Xq13, eq13, Wq13, stq13⟩ := stC Xq12 hx hZ eq12 Arq13 (j := (7 : Int32)) hinq13 (g := (mkF m 103 #[.val (.int kk)] [(.int (65 : Int32)), (.int (7 : Int32)), (.ref bq5), (.ref bq5)])) rfl rfl (hb hby d_method_4_code_103)
  have Nq13 := Fr.snoc Xq13 Nq12 (by omega)
  have zq13 := Wq13.size
  have Oq13 := Oq12.wr Wq13 (by omega)
  have Vq13 : Arv Z hq13 bq5 kq5 .char (8 : Int32) [(.int (99 : Int32)), (.int (114 : Int32)), (.int (101 : Int32)), (.int (97 : Int32)), (.int (116 : Int32)), (.int (101 : Int32)), (.int (100 : Int32)), (.int (65 : Int32))] (.int (0 : Int32)) := Arv.set Arq13 qq13 Sq13 Nnq13 Hq13 Gq13 (by decide) Wq13 7 rfl (Nat.le_of_ble_eq_true rfl)
  refine Goes.via stq13 ?_
  show Goes _ _ _ _ _ _ _ _ (Tq13.setTop (mkF m 104 #[.val (.int kk)] [(.ref bq5)]))
  refine goRetA Xq13 hx hrt rfl hlk Nq13 (by show _ ≤ 1; omega) (by show _ ≤ 10; omega) rfl (hb hby d_method_4_code_104) ?_
  try rw [eq13]
  exact ⟨bq5, kq5, [(99 : Int32), (114 : Int32), (101 : Int32), (97 : Int32), (116 : Int32), (101 : Int32), (100 : Int32), (65 : Int32)], 8, rfl, by omega, ((((((((K0.wr Wq6 (Or.inr (by omega))).wr Wq7 (Or.inr (by omega))).wr Wq8 (Or.inr (by omega))).wr Wq9 (Or.inr (by omega))).wr Wq10 (Or.inr (by omega))).wr Wq11 (Or.inr (by omega))).wr Wq12 (Or.inr (by omega))).wr Wq13 (Or.inr (by omega))), Vq13, by decide, by decide, rfl, (chS (by decide) (chS (by decide) (chS (by decide) (chS (by decide) (chS (by decide) (chS (by decide) (chS (by decide) (chS (by decide) ch0))))))))⟩
set_option maxRecDepth 65536 in
set_option maxHeartbeats 40000000 in
theorem truncC_c13 (l : Launch) (Z : State) (aw : Array Value) (hw : ∀ d ∈ tables_1, d.before aw Z = true) (kk : Int32) (bq6 : Nat) (kq6 : ClassId) {p : Program} {e : Env} {s : State} {m : MethodId} {args : Array Value} {below : List Frame} {meth : Method} {c : Code} {T : State} {locs : List Loc} {cells slots n0 : Nat} {h0 h1 : Heap} (hx : p.tables.exec = Jvm.exec) (hby : c.code = method_4_code) (hml : c.maxLocals = 1) (hrt : meth.sig.returnType = some (.array .char)) (hlk : meth.locks = false) (hnm : meth.name = "truncated") (hZ : Z.Warmed39 s.vm) (hown : s.vm.findClass "com/example/dispatch_note/dispatchnote/contract/ManagedMemberNamedPinLaw" = some m.cls) (X : Stand p l e ({ frames := 0, cells := 1, slots := 10, locals := 0 } : Room) s m args below meth c T locs cells slots) (e0 : T.heap = h1) (N : Fr n0 locs) (hcells : cells ≤ 1) (hslots : slots ≤ 8) (O : Old Z n0 h1) (K0 : Keep h0 h1 []) (pf0 : Arv Z h1 bq6 kq6 .char (8 : Int32) [(.int (0 : Int32)), (.int (0 : Int32)), (.int (0 : Int32)), (.int (0 : Int32)), (.int (0 : Int32)), (.int (0 : Int32)), (.int (0 : Int32)), (.int (0 : Int32))] (.int (0 : Int32))) (cq1 : ¬ (kk = (0 : Int32))) (cq3 : ¬ (kk = (1 : Int32))) (cq4 : ¬ (kk = (2 : Int32))) (cn1 : n0 ≤ bq6) (cn2 : h0.size ≤ bq6) :
    Goes p e below s ({ frames := 0, cells := 1, slots := 10, locals := 0 } : Room).cells ({ frames := 0, cells := 1, slots := 10, locals := 0 } : Room).slots n0 (fun vv hh => ∃ r : Nat, ∃ kr : ClassId, ∃ cs : List Int32, ∃ nn : Nat, vv = some (.ref r) ∧ h0.size ≤ r ∧ Keep h0 hh [] ∧ Arv Z hh r kr .char (Int32.ofNat nn) (cs.map Value.int) (.int (0 : Int32)) ∧ (0 < nn ∧ nn ≤ 10 ∧ cs.length = nn ∧ ∀ c ∈ cs, ¬ c < 0 ∧ ¬ (255 : Int32) < c)) (T.setTop (mkF m 111 #[.val (.int kk)] [(.int (0 : Int32)), (.ref bq6), (.ref bq6)])) := by
  have zO := O.le
  have zK := K0.1
  have lt_bq6 := lt_nat pf0.lt
  show Goes _ _ _ _ _ _ _ _ (T.setTop (mkF m 111 #[.val (.int kk)] [(.int (0 : Int32)), (.ref bq6), (.ref bq6)]))
  refine Goes.via (fun _ k => XT.bipushV X.here hx rfl (117 : Int32) (hb hby d_method_4_code_111) (by decide) k) ?_
  show Goes _ _ _ _ _ _ _ _ (T.setTop (mkF m 113 #[.val (.int kk)] [(.int (117 : Int32)), (.int (0 : Int32)), (.ref bq6), (.ref bq6)]))
  obtain ⟨clq7, Arq7, qq7, Sq7, Nnq7, Hq7, Gq7⟩ := id pf0
  have hinq7 : ¬ ((0 : Int32) < 0 ∨ clq7.slots.size ≤ ((0 : Int32)).toNatClampNeg) := inb_of Sq7 ⟨by decide, by decide⟩
  obtain ⟨Tq7, hq7, Xq7, eq7, Wq7, stq7⟩ := stC X hx hZ e0 Arq7 (j := (0 : Int32)) hinq7 (g := (mkF m 113 #[.val (.int kk)] [(.int (117 : Int32)), (.int (0 : Int32)), (.ref bq6), (.ref bq6)])) rfl rfl (hb hby d_method_4_code_113)
  have Nq7 := Fr.snoc Xq7 N (by omega)
  have zq7 := Wq7.size
  have Oq7 := O.wr Wq7 (by omega)
  have Vq7 : Arv Z hq7 bq6 kq6 .char (8 : Int32) [(.int (117 : Int32)), (.int (0 : Int32)), (.int (0 : Int32)), (.int (0 : Int32)), (.int (0 : Int32)), (.int (0 : Int32)), (.int (0 : Int32)), (.int (0 : Int32))] (.int (0 : Int32)) := Arv.set Arq7 qq7 Sq7 Nnq7 Hq7 Gq7 (by decide) Wq7 0 rfl (Nat.le_of_ble_eq_true rfl)
  refine Goes.via stq7 ?_
  show Goes _ _ _ _ _ _ _ _ (Tq7.setTop (mkF m 114 #[.val (.int kk)] [(.ref bq6)]))
  refine Goes.via (fun _ k => XS.dup Xq7.here hx rfl (hb hby d_method_4_code_114) rfl rfl k) ?_
  show Goes _ _ _ _ _ _ _ _ (Tq7.setTop (mkF m 115 #[.val (.int kk)] [(.ref bq6), (.ref bq6)]))
  refine Goes.via (fun _ k => XT.iconstV Xq7.here hx rfl (1 : Int32) (hb hby d_method_4_code_115) (by decide) k) ?_
  show Goes _ _ _ _ _ _ _ _ (Tq7.setTop (mkF m 116 #[.val (.int kk)] [(.int (1 : Int32)), (.ref bq6), (.ref bq6)]))
  refine Goes.via (fun _ k => XT.bipushV Xq7.here hx rfl (112 : Int32) (hb hby d_method_4_code_116) (by decide) k) ?_
  show Goes _ _ _ _ _ _ _ _ (Tq7.setTop (mkF m 118 #[.val (.int kk)] [(.int (112 : Int32)), (.int (1 : Int32)), (.ref bq6), (.ref bq6)]))
  obtain ⟨clq8, Arq8, qq8, Sq8, Nnq8, Hq8, Gq8⟩ := id Vq7
  have hinq8 : ¬ ((1 : Int32) < 0 ∨ clq8.slots.size ≤ ((1 : Int32)).toNatClampNeg) := inb_of Sq8 ⟨by decide, by decide⟩
  obtain ⟨Tq8, hq8, Xq8, eq8, Wq8, stq8⟩ := stC Xq7 hx hZ eq7 Arq8 (j := (1 : Int32)) hinq8 (g := (mkF m 118 #[.val (.int kk)] [(.int (112 : Int32)), (.int (1 : Int32)), (.ref bq6), (.ref bq6)])) rfl rfl (hb hby d_method_4_code_118)
  have Nq8 := Fr.snoc Xq8 Nq7 (by omega)
  have zq8 := Wq8.size
  have Oq8 := Oq7.wr Wq8 (by omega)
  have Vq8 : Arv Z hq8 bq6 kq6 .char (8 : Int32) [(.int (117 : Int32)), (.int (112 : Int32)), (.int (0 : Int32)), (.int (0 : Int32)), (.int (0 : Int32)), (.int (0 : Int32)), (.int (0 : Int32)), (.int (0 : Int32))] (.int (0 : Int32)) := Arv.set Arq8 qq8 Sq8 Nnq8 Hq8 Gq8 (by decide) Wq8 1 rfl (Nat.le_of_ble_eq_true rfl)
  refine Goes.via stq8 ?_
  show Goes _ _ _ _ _ _ _ _ (Tq8.setTop (mkF m 119 #[.val (.int kk)] [(.ref bq6)]))
  refine Goes.via (fun _ k => XS.dup Xq8.here hx rfl (hb hby d_method_4_code_119) rfl rfl k) ?_
  show Goes _ _ _ _ _ _ _ _ (Tq8.setTop (mkF m 120 #[.val (.int kk)] [(.ref bq6), (.ref bq6)]))
  refine Goes.via (fun _ k => XT.iconstV Xq8.here hx rfl (2 : Int32) (hb hby d_method_4_code_120) (by decide) k) ?_
  show Goes _ _ _ _ _ _ _ _ (Tq8.setTop (mkF m 121 #[.val (.int kk)] [(.int (2 : Int32)), (.ref bq6), (.ref bq6)]))
  refine Goes.via (fun _ k => XT.bipushV Xq8.here hx rfl (100 : Int32) (hb hby d_method_4_code_121) (by decide) k) ?_
  show Goes _ _ _ _ _ _ _ _ (Tq8.setTop (mkF m 123 #[.val (.int kk)] [(.int (100 : Int32)), (.int (2 : Int32)), (.ref bq6), (.ref bq6)]))
  obtain ⟨clq9, Arq9, qq9, Sq9, Nnq9, Hq9, Gq9⟩ := id Vq8
  have hinq9 : ¬ ((2 : Int32) < 0 ∨ clq9.slots.size ≤ ((2 : Int32)).toNatClampNeg) := inb_of Sq9 ⟨by decide, by decide⟩
  obtain ⟨Tq9, hq9, Xq9, eq9, Wq9, stq9⟩ := stC Xq8 hx hZ eq8 Arq9 (j := (2 : Int32)) hinq9 (g := (mkF m 123 #[.val (.int kk)] [(.int (100 : Int32)), (.int (2 : Int32)), (.ref bq6), (.ref bq6)])) rfl rfl (hb hby d_method_4_code_123)
  have Nq9 := Fr.snoc Xq9 Nq8 (by omega)
  have zq9 := Wq9.size
  have Oq9 := Oq8.wr Wq9 (by omega)
  have Vq9 : Arv Z hq9 bq6 kq6 .char (8 : Int32) [(.int (117 : Int32)), (.int (112 : Int32)), (.int (100 : Int32)), (.int (0 : Int32)), (.int (0 : Int32)), (.int (0 : Int32)), (.int (0 : Int32)), (.int (0 : Int32))] (.int (0 : Int32)) := Arv.set Arq9 qq9 Sq9 Nnq9 Hq9 Gq9 (by decide) Wq9 2 rfl (Nat.le_of_ble_eq_true rfl)
  refine Goes.via stq9 ?_
  show Goes _ _ _ _ _ _ _ _ (Tq9.setTop (mkF m 124 #[.val (.int kk)] [(.ref bq6)]))
  refine Goes.via (fun _ k => XS.dup Xq9.here hx rfl (hb hby d_method_4_code_124) rfl rfl k) ?_
  show Goes _ _ _ _ _ _ _ _ (Tq9.setTop (mkF m 125 #[.val (.int kk)] [(.ref bq6), (.ref bq6)]))
  refine Goes.via (fun _ k => XT.iconstV Xq9.here hx rfl (3 : Int32) (hb hby d_method_4_code_125) (by decide) k) ?_
  show Goes _ _ _ _ _ _ _ _ (Tq9.setTop (mkF m 126 #[.val (.int kk)] [(.int (3 : Int32)), (.ref bq6), (.ref bq6)]))
  refine Goes.via (fun _ k => XT.bipushV Xq9.here hx rfl (97 : Int32) (hb hby d_method_4_code_126) (by decide) k) ?_
  show Goes _ _ _ _ _ _ _ _ (Tq9.setTop (mkF m 128 #[.val (.int kk)] [(.int (97 : Int32)), (.int (3 : Int32)), (.ref bq6), (.ref bq6)]))
  obtain ⟨clq10, Arq10, qq10, Sq10, Nnq10, Hq10, Gq10⟩ := id Vq9
  have hinq10 : ¬ ((3 : Int32) < 0 ∨ clq10.slots.size ≤ ((3 : Int32)).toNatClampNeg) := inb_of Sq10 ⟨by decide, by decide⟩
  obtain ⟨Tq10, hq10, Xq10, eq10, Wq10, stq10⟩ := stC Xq9 hx hZ eq9 Arq10 (j := (3 : Int32)) hinq10 (g := (mkF m 128 #[.val (.int kk)] [(.int (97 : Int32)), (.int (3 : Int32)), (.ref bq6), (.ref bq6)])) rfl rfl (hb hby d_method_4_code_128)
  have Nq10 := Fr.snoc Xq10 Nq9 (by omega)
  have zq10 := Wq10.size
  have Oq10 := Oq9.wr Wq10 (by omega)
  have Vq10 : Arv Z hq10 bq6 kq6 .char (8 : Int32) [(.int (117 : Int32)), (.int (112 : Int32)), (.int (100 : Int32)), (.int (97 : Int32)), (.int (0 : Int32)), (.int (0 : Int32)), (.int (0 : Int32)), (.int (0 : Int32))] (.int (0 : Int32)) := Arv.set Arq10 qq10 Sq10 Nnq10 Hq10 Gq10 (by decide) Wq10 3 rfl (Nat.le_of_ble_eq_true rfl)
  refine Goes.via stq10 ?_
  show Goes _ _ _ _ _ _ _ _ (Tq10.setTop (mkF m 129 #[.val (.int kk)] [(.ref bq6)]))
  refine Goes.via (fun _ k => XS.dup Xq10.here hx rfl (hb hby d_method_4_code_129) rfl rfl k) ?_
  show Goes _ _ _ _ _ _ _ _ (Tq10.setTop (mkF m 130 #[.val (.int kk)] [(.ref bq6), (.ref bq6)]))
  refine Goes.via (fun _ k => XT.iconstV Xq10.here hx rfl (4 : Int32) (hb hby d_method_4_code_130) (by decide) k) ?_
  show Goes _ _ _ _ _ _ _ _ (Tq10.setTop (mkF m 131 #[.val (.int kk)] [(.int (4 : Int32)), (.ref bq6), (.ref bq6)]))
  refine Goes.via (fun _ k => XT.bipushV Xq10.here hx rfl (116 : Int32) (hb hby d_method_4_code_131) (by decide) k) ?_
  show Goes _ _ _ _ _ _ _ _ (Tq10.setTop (mkF m 133 #[.val (.int kk)] [(.int (116 : Int32)), (.int (4 : Int32)), (.ref bq6), (.ref bq6)]))
  obtain ⟨clq11, Arq11, qq11, Sq11, Nnq11, Hq11, Gq11⟩ := id Vq10
  have hinq11 : ¬ ((4 : Int32) < 0 ∨ clq11.slots.size ≤ ((4 : Int32)).toNatClampNeg) := inb_of Sq11 ⟨by decide, by decide⟩
  obtain ⟨Tq11, hq11, Xq11, eq11, Wq11, stq11⟩ := stC Xq10 hx hZ eq10 Arq11 (j := (4 : Int32)) hinq11 (g := (mkF m 133 #[.val (.int kk)] [(.int (116 : Int32)), (.int (4 : Int32)), (.ref bq6), (.ref bq6)])) rfl rfl (hb hby d_method_4_code_133)
  have Nq11 := Fr.snoc Xq11 Nq10 (by omega)
  have zq11 := Wq11.size
  have Oq11 := Oq10.wr Wq11 (by omega)
  have Vq11 : Arv Z hq11 bq6 kq6 .char (8 : Int32) [(.int (117 : Int32)), (.int (112 : Int32)), (.int (100 : Int32)), (.int (97 : Int32)), (.int (116 : Int32)), (.int (0 : Int32)), (.int (0 : Int32)), (.int (0 : Int32))] (.int (0 : Int32)) := Arv.set Arq11 qq11 Sq11 Nnq11 Hq11 Gq11 (by decide) Wq11 4 rfl (Nat.le_of_ble_eq_true rfl)
  refine Goes.via stq11 ?_
  show Goes _ _ _ _ _ _ _ _ (Tq11.setTop (mkF m 134 #[.val (.int kk)] [(.ref bq6)]))
  refine Goes.via (fun _ k => XS.dup Xq11.here hx rfl (hb hby d_method_4_code_134) rfl rfl k) ?_
  show Goes _ _ _ _ _ _ _ _ (Tq11.setTop (mkF m 135 #[.val (.int kk)] [(.ref bq6), (.ref bq6)]))
  refine Goes.via (fun _ k => XT.iconstV Xq11.here hx rfl (5 : Int32) (hb hby d_method_4_code_135) (by decide) k) ?_
  show Goes _ _ _ _ _ _ _ _ (Tq11.setTop (mkF m 136 #[.val (.int kk)] [(.int (5 : Int32)), (.ref bq6), (.ref bq6)]))
  refine Goes.via (fun _ k => XT.bipushV Xq11.here hx rfl (101 : Int32) (hb hby d_method_4_code_136) (by decide) k) ?_
  show Goes _ _ _ _ _ _ _ _ (Tq11.setTop (mkF m 138 #[.val (.int kk)] [(.int (101 : Int32)), (.int (5 : Int32)), (.ref bq6), (.ref bq6)]))
  obtain ⟨clq12, Arq12, qq12, Sq12, Nnq12, Hq12, Gq12⟩ := id Vq11
  have hinq12 : ¬ ((5 : Int32) < 0 ∨ clq12.slots.size ≤ ((5 : Int32)).toNatClampNeg) := inb_of Sq12 ⟨by decide, by decide⟩
  obtain ⟨Tq12, hq12, Xq12, eq12, Wq12, stq12⟩ := stC Xq11 hx hZ eq11 Arq12 (j := (5 : Int32)) hinq12 (g := (mkF m 138 #[.val (.int kk)] [(.int (101 : Int32)), (.int (5 : Int32)), (.ref bq6), (.ref bq6)])) rfl rfl (hb hby d_method_4_code_138)
  have Nq12 := Fr.snoc Xq12 Nq11 (by omega)
  have zq12 := Wq12.size
  have Oq12 := Oq11.wr Wq12 (by omega)
  have Vq12 : Arv Z hq12 bq6 kq6 .char (8 : Int32) [(.int (117 : Int32)), (.int (112 : Int32)), (.int (100 : Int32)), (.int (97 : Int32)), (.int (116 : Int32)), (.int (101 : Int32)), (.int (0 : Int32)), (.int (0 : Int32))] (.int (0 : Int32)) := Arv.set Arq12 qq12 Sq12 Nnq12 Hq12 Gq12 (by decide) Wq12 5 rfl (Nat.le_of_ble_eq_true rfl)
  refine Goes.via stq12 ?_
  show Goes _ _ _ _ _ _ _ _ (Tq12.setTop (mkF m 139 #[.val (.int kk)] [(.ref bq6)]))
  refine Goes.via (fun _ k => XS.dup Xq12.here hx rfl (hb hby d_method_4_code_139) rfl rfl k) ?_
  show Goes _ _ _ _ _ _ _ _ (Tq12.setTop (mkF m 140 #[.val (.int kk)] [(.ref bq6), (.ref bq6)]))
  refine Goes.via (fun _ k => XT.bipushV Xq12.here hx rfl (6 : Int32) (hb hby d_method_4_code_140) (by decide) k) ?_
  show Goes _ _ _ _ _ _ _ _ (Tq12.setTop (mkF m 142 #[.val (.int kk)] [(.int (6 : Int32)), (.ref bq6), (.ref bq6)]))
  refine Goes.via (fun _ k => XT.bipushV Xq12.here hx rfl (100 : Int32) (hb hby d_method_4_code_142) (by decide) k) ?_
  show Goes _ _ _ _ _ _ _ _ (Tq12.setTop (mkF m 144 #[.val (.int kk)] [(.int (100 : Int32)), (.int (6 : Int32)), (.ref bq6), (.ref bq6)]))
  obtain ⟨clq13, Arq13, qq13, Sq13, Nnq13, Hq13, Gq13⟩ := id Vq12
  have hinq13 : ¬ ((6 : Int32) < 0 ∨ clq13.slots.size ≤ ((6 : Int32)).toNatClampNeg) := inb_of Sq13 ⟨by decide, by decide⟩
  obtain ⟨Tq13, hq13, Xq13, eq13, Wq13, stq13⟩ := stC Xq12 hx hZ eq12 Arq13 (j := (6 : Int32)) hinq13 (g := (mkF m 144 #[.val (.int kk)] [(.int (100 : Int32)), (.int (6 : Int32)), (.ref bq6), (.ref bq6)])) rfl rfl (hb hby d_method_4_code_144)
  have Nq13 := Fr.snoc Xq13 Nq12 (by omega)
  have zq13 := Wq13.size
  have Oq13 := Oq12.wr Wq13 (by omega)
  have Vq13 : Arv Z hq13 bq6 kq6 .char (8 : Int32) [(.int (117 : Int32)), (.int (112 : Int32)), (.int (100 : Int32)), (.int (97 : Int32)), (.int (116 : Int32)), (.int (101 : Int32)), (.int (100 : Int32)), (.int (0 : Int32))] (.int (0 : Int32)) := Arv.set Arq13 qq13 Sq13 Nnq13 Hq13 Gq13 (by decide) Wq13 6 rfl (Nat.le_of_ble_eq_true rfl)
  refine Goes.via stq13 ?_
  show Goes _ _ _ _ _ _ _ _ (Tq13.setTop (mkF m 145 #[.val (.int kk)] [(.ref bq6)]))
  refine Goes.via (fun _ k => XS.dup Xq13.here hx rfl (hb hby d_method_4_code_145) rfl rfl k) ?_
  show Goes _ _ _ _ _ _ _ _ (Tq13.setTop (mkF m 146 #[.val (.int kk)] [(.ref bq6), (.ref bq6)]))
  refine Goes.via (fun _ k => XT.bipushV Xq13.here hx rfl (7 : Int32) (hb hby d_method_4_code_146) (by decide) k) ?_
  show Goes _ _ _ _ _ _ _ _ (Tq13.setTop (mkF m 148 #[.val (.int kk)] [(.int (7 : Int32)), (.ref bq6), (.ref bq6)]))
  refine Goes.via (fun _ k => XT.bipushV Xq13.here hx rfl (65 : Int32) (hb hby d_method_4_code_148) (by decide) k) ?_
  show Goes _ _ _ _ _ _ _ _ (Tq13.setTop (mkF m 150 #[.val (.int kk)] [(.int (65 : Int32)), (.int (7 : Int32)), (.ref bq6), (.ref bq6)]))
  obtain ⟨clq14, Arq14, qq14, Sq14, Nnq14, Hq14, Gq14⟩ := id Vq13
  have hinq14 : ¬ ((7 : Int32) < 0 ∨ clq14.slots.size ≤ ((7 : Int32)).toNatClampNeg) := inb_of Sq14 ⟨by decide, by decide⟩
  obtain ⟨Tq14, hq14, Xq14, eq14, Wq14, stq14⟩ := stC Xq13 hx hZ eq13 Arq14 (j := (7 : Int32)) hinq14 (g := (mkF m 150 #[.val (.int kk)] [(.int (65 : Int32)), (.int (7 : Int32)), (.ref bq6), (.ref bq6)])) rfl rfl (hb hby d_method_4_code_150)
  have Nq14 := Fr.snoc Xq14 Nq13 (by omega)
  have zq14 := Wq14.size
  have Oq14 := Oq13.wr Wq14 (by omega)
  have Vq14 : Arv Z hq14 bq6 kq6 .char (8 : Int32) [(.int (117 : Int32)), (.int (112 : Int32)), (.int (100 : Int32)), (.int (97 : Int32)), (.int (116 : Int32)), (.int (101 : Int32)), (.int (100 : Int32)), (.int (65 : Int32))] (.int (0 : Int32)) := Arv.set Arq14 qq14 Sq14 Nnq14 Hq14 Gq14 (by decide) Wq14 7 rfl (Nat.le_of_ble_eq_true rfl)
  refine Goes.via stq14 ?_
  show Goes _ _ _ _ _ _ _ _ (Tq14.setTop (mkF m 151 #[.val (.int kk)] [(.ref bq6)]))
  refine goRetA Xq14 hx hrt rfl hlk Nq14 (by show _ ≤ 1; omega) (by show _ ≤ 10; omega) rfl (hb hby d_method_4_code_151) ?_
  try rw [eq14]
  exact ⟨bq6, kq6, [(117 : Int32), (112 : Int32), (100 : Int32), (97 : Int32), (116 : Int32), (101 : Int32), (100 : Int32), (65 : Int32)], 8, rfl, by omega, ((((((((K0.wr Wq7 (Or.inr (by omega))).wr Wq8 (Or.inr (by omega))).wr Wq9 (Or.inr (by omega))).wr Wq10 (Or.inr (by omega))).wr Wq11 (Or.inr (by omega))).wr Wq12 (Or.inr (by omega))).wr Wq13 (Or.inr (by omega))).wr Wq14 (Or.inr (by omega))), Vq14, by decide, by decide, rfl, (chS (by decide) (chS (by decide) (chS (by decide) (chS (by decide) (chS (by decide) (chS (by decide) (chS (by decide) (chS (by decide) ch0))))))))⟩
set_option maxRecDepth 65536 in
set_option maxHeartbeats 40000000 in
theorem truncC_c11 (l : Launch) (Z : State) (aw : Array Value) (hw : ∀ d ∈ tables_1, d.before aw Z = true) (kk : Int32) {p : Program} {e : Env} {s : State} {m : MethodId} {args : Array Value} {below : List Frame} {meth : Method} {c : Code} {T : State} {locs : List Loc} {cells slots n0 : Nat} {h0 h1 : Heap} (hx : p.tables.exec = Jvm.exec) (hby : c.code = method_4_code) (hml : c.maxLocals = 1) (hrt : meth.sig.returnType = some (.array .char)) (hlk : meth.locks = false) (hnm : meth.name = "truncated") (hZ : Z.Warmed39 s.vm) (hown : s.vm.findClass "com/example/dispatch_note/dispatchnote/contract/ManagedMemberNamedPinLaw" = some m.cls) (X : Stand p l e ({ frames := 0, cells := 1, slots := 10, locals := 0 } : Room) s m args below meth c T locs cells slots) (e0 : T.heap = h1) (N : Fr n0 locs) (hcells : cells ≤ 0) (hslots : slots ≤ 0) (O : Old Z n0 h1) (K0 : Keep h0 h1 []) (cq1 : ¬ (kk = (0 : Int32))) (cq3 : ¬ (kk = (1 : Int32))) :
    Goes p e below s ({ frames := 0, cells := 1, slots := 10, locals := 0 } : Room).cells ({ frames := 0, cells := 1, slots := 10, locals := 0 } : Room).slots n0 (fun vv hh => ∃ r : Nat, ∃ kr : ClassId, ∃ cs : List Int32, ∃ nn : Nat, vv = some (.ref r) ∧ h0.size ≤ r ∧ Keep h0 hh [] ∧ Arv Z hh r kr .char (Int32.ofNat nn) (cs.map Value.int) (.int (0 : Int32)) ∧ (0 < nn ∧ nn ≤ 10 ∧ cs.length = nn ∧ ∀ c ∈ cs, ¬ c < 0 ∧ ¬ (255 : Int32) < c)) (T.setTop (mkF m 54 #[.val (.int kk)] [(.int kk)])) := by
  have zO := O.le
  have zK := K0.1
  show Goes _ _ _ _ _ _ _ _ (T.setTop (mkF m 54 #[.val (.int kk)] [(.int kk)]))
  refine Goes.via (fun _ k => XT.iconstV X.here hx rfl (2 : Int32) (hb hby d_method_4_code_54) (by decide) k) ?_
  show Goes _ _ _ _ _ _ _ _ (T.setTop (mkF m 55 #[.val (.int kk)] [(.int (2 : Int32)), (.int kk)]))
  by_cases cq4 : kk = (2 : Int32)
  · skip
    refine Goes.via (fun _ k => XS.icmpNo X.here hx rfl (hb hby d_method_4_code_55) rfl (XT.ii_ne_f cq4) k) ?_
    show Goes _ _ _ _ _ _ _ _ (T.setTop (mkF m 58 #[.val (.int kk)] []))
    refine Goes.via (fun _ k => XT.bipushV X.here hx rfl (8 : Int32) (hb hby d_method_4_code_58) (by decide) k) ?_
    show Goes _ _ _ _ _ _ _ _ (T.setTop (mkF m 60 #[.val (.int kk)] [(.int (8 : Int32))]))
    obtain ⟨Tq5, hq5, kq5, Xq5, eq5, Eq5, Aq5, stq5⟩ := newP (aty := .char) X hx hZ (W_4 hw) e0 (g := (mkF m 60 #[.val (.int kk)] [(.int (8 : Int32))])) rfl (hb hby d_method_4_code_60) rfl (by decide) (cap := 8) (by decide) (by decide) (by show _ + 1 ≤ 1; omega) (by show _ + 8 ≤ 10; omega)
    obtain ⟨bq5, gq5⟩ : ∃ z, z = h1.size := ⟨_, rfl⟩
    rw [← gq5] at Aq5 stq5
    have zq5 := Eq5.1
    have Oq5 := O.ext Eq5
    have Vq5 : Arv Z hq5 bq5 kq5 .char (8 : Int32) [(.int (0 : Int32)), (.int (0 : Int32)), (.int (0 : Int32)), (.int (0 : Int32)), (.int (0 : Int32)), (.int (0 : Int32)), (.int (0 : Int32)), (.int (0 : Int32))] (.int (0 : Int32)) := (Arv.new Aq5 (by decide)).pad (pad_rep [] (.int (0 : Int32)) 8)
    have lq5 := lt_nat Vq5.lt
    refine Goes.via stq5 ?_
    show Goes _ _ _ _ _ _ _ _ (Tq5.setTop (mkF m 62 #[.val (.int kk)] [(.ref bq5)]))
    refine Goes.via (fun _ k => XS.dup Xq5.here hx rfl (hb hby d_method_4_code_62) rfl rfl k) ?_
    show Goes _ _ _ _ _ _ _ _ (Tq5.setTop (mkF m 63 #[.val (.int kk)] [(.ref bq5), (.ref bq5)]))
    refine Goes.via (fun _ k => XT.iconstV Xq5.here hx rfl (0 : Int32) (hb hby d_method_4_code_63) (by decide) k) ?_
    show Goes _ _ _ _ _ _ _ _ (Tq5.setTop (mkF m 64 #[.val (.int kk)] [(.int (0 : Int32)), (.ref bq5), (.ref bq5)]))
    exact truncC_c12 l Z aw hw kk bq5 kq5 hx hby hml hrt hlk hnm hZ hown Xq5 eq5 N (by omega) (by omega) Oq5 (K0.ext Eq5) Vq5 cq1 cq3 cq4 (by omega) (by omega)
  · skip
    refine Goes.via (fun _ k => XS.icmpYes X.here hx rfl (pc0 := 55) (pc' := 105) rfl (hb hby d_method_4_code_55) rfl (XT.ii_ne_t cq4) (by decide) (by decide) k) ?_
    show Goes _ _ _ _ _ _ _ _ (T.setTop (mkF m 105 #[.val (.int kk)] []))
    refine Goes.via (fun _ k => XT.bipushV X.here hx rfl (8 : Int32) (hb hby d_method_4_code_105) (by decide) k) ?_
    show Goes _ _ _ _ _ _ _ _ (T.setTop (mkF m 107 #[.val (.int kk)] [(.int (8 : Int32))]))
    obtain ⟨Tq6, hq6, kq6, Xq6, eq6, Eq6, Aq6, stq6⟩ := newP (aty := .char) X hx hZ (W_4 hw) e0 (g := (mkF m 107 #[.val (.int kk)] [(.int (8 : Int32))])) rfl (hb hby d_method_4_code_107) rfl (by decide) (cap := 8) (by decide) (by decide) (by show _ + 1 ≤ 1; omega) (by show _ + 8 ≤ 10; omega)
    obtain ⟨bq6, gq6⟩ : ∃ z, z = h1.size := ⟨_, rfl⟩
    rw [← gq6] at Aq6 stq6
    have zq6 := Eq6.1
    have Oq6 := O.ext Eq6
    have Vq6 : Arv Z hq6 bq6 kq6 .char (8 : Int32) [(.int (0 : Int32)), (.int (0 : Int32)), (.int (0 : Int32)), (.int (0 : Int32)), (.int (0 : Int32)), (.int (0 : Int32)), (.int (0 : Int32)), (.int (0 : Int32))] (.int (0 : Int32)) := (Arv.new Aq6 (by decide)).pad (pad_rep [] (.int (0 : Int32)) 8)
    have lq6 := lt_nat Vq6.lt
    refine Goes.via stq6 ?_
    show Goes _ _ _ _ _ _ _ _ (Tq6.setTop (mkF m 109 #[.val (.int kk)] [(.ref bq6)]))
    refine Goes.via (fun _ k => XS.dup Xq6.here hx rfl (hb hby d_method_4_code_109) rfl rfl k) ?_
    show Goes _ _ _ _ _ _ _ _ (Tq6.setTop (mkF m 110 #[.val (.int kk)] [(.ref bq6), (.ref bq6)]))
    refine Goes.via (fun _ k => XT.iconstV Xq6.here hx rfl (0 : Int32) (hb hby d_method_4_code_110) (by decide) k) ?_
    show Goes _ _ _ _ _ _ _ _ (Tq6.setTop (mkF m 111 #[.val (.int kk)] [(.int (0 : Int32)), (.ref bq6), (.ref bq6)]))
    exact truncC_c13 l Z aw hw kk bq6 kq6 hx hby hml hrt hlk hnm hZ hown Xq6 eq6 N (by omega) (by omega) Oq6 (K0.ext Eq6) Vq6 cq1 cq3 cq4 (by omega) (by omega)
set_option maxRecDepth 65536 in
set_option maxHeartbeats 40000000 in
theorem truncC (l : Launch) (Z : State) (aw : Array Value) (hw : ∀ d ∈ tables_1, d.before aw Z = true) (kk : Int32) {h0 : Heap} {n0 : Nat} (O : Old Z n0 h0) :
    MET l Z (⟨"com/example/dispatch_note/dispatchnote/contract/ManagedMemberNamedPinLaw", "truncated", "(I)[C"⟩ : MethodName) method_4_code 1 (some (.array .char)) ({ frames := 0, cells := 1, slots := 10, locals := 0 } : Room) #[(.int kk)] h0 n0 (fun vv hh => ∃ r : Nat, ∃ kr : ClassId, ∃ cs : List Int32, ∃ nn : Nat, vv = some (.ref r) ∧ h0.size ≤ r ∧ Keep h0 hh [] ∧ Arv Z hh r kr .char (Int32.ofNat nn) (cs.map Value.int) (.int (0 : Int32)) ∧ (0 < nn ∧ nn ≤ 10 ∧ cs.length = nn ∧ ∀ c ∈ cs, ¬ c < 0 ∧ ¬ (255 : Int32) < c)) := by
  refine metOf (plainFor_of_name pn_13) ?_
  intro p e s m below meth c T hx hby hml hrt hlk hnm hZ hown X e0
  replace hml : c.maxLocals = 1 := hml
  replace hnm : meth.name = "truncated" := hnm
  replace hown : s.vm.findClass "com/example/dispatch_note/dispatchnote/contract/ManagedMemberNamedPinLaw" = some m.cls := hown
  have N := Fr.nil n0
  have zO := O.le
  refine goCast (ef_truncC m kk) ?_
  show Goes _ _ _ _ _ _ _ _ (T.setTop (mkF m 0 #[.val (.int kk)] []))
  refine Goes.via (fun _ k => XS.iloadN X.here hx rfl (hb hby d_method_4_code_0) rfl k) ?_
  show Goes _ _ _ _ _ _ _ _ (T.setTop (mkF m 1 #[.val (.int kk)] [(.int kk)]))
  by_cases cq1 : kk = (0 : Int32)
  · skip
    refine Goes.via (fun _ k => XS.ifNo X.here hx rfl (hb hby d_method_4_code_1) rfl (XT.i0_ne_f cq1) k) ?_
    show Goes _ _ _ _ _ _ _ _ (T.setTop (mkF m 4 #[.val (.int kk)] []))
    refine Goes.via (fun _ k => XT.iconstV X.here hx rfl (1 : Int32) (hb hby d_method_4_code_4) (by decide) k) ?_
    show Goes _ _ _ _ _ _ _ _ (T.setTop (mkF m 5 #[.val (.int kk)] [(.int (1 : Int32))]))
    obtain ⟨Tq2, hq2, kq2, Xq2, eq2, Eq2, Aq2, stq2⟩ := newP (aty := .char) X hx hZ (W_4 hw) e0 (g := (mkF m 5 #[.val (.int kk)] [(.int (1 : Int32))])) rfl (hb hby d_method_4_code_5) rfl (by decide) (cap := 1) (by decide) (by decide) (by decide) (by decide)
    obtain ⟨bq2, gq2⟩ : ∃ z, z = h0.size := ⟨_, rfl⟩
    rw [← gq2] at Aq2 stq2
    have zq2 := Eq2.1
    have Oq2 := O.ext Eq2
    have Vq2 : Arv Z hq2 bq2 kq2 .char (1 : Int32) [(.int (0 : Int32))] (.int (0 : Int32)) := (Arv.new Aq2 (by decide)).pad (pad_rep [] (.int (0 : Int32)) 1)
    have lq2 := lt_nat Vq2.lt
    refine Goes.via stq2 ?_
    show Goes _ _ _ _ _ _ _ _ (Tq2.setTop (mkF m 7 #[.val (.int kk)] [(.ref bq2)]))
    refine Goes.via (fun _ k => XS.dup Xq2.here hx rfl (hb hby d_method_4_code_7) rfl rfl k) ?_
    show Goes _ _ _ _ _ _ _ _ (Tq2.setTop (mkF m 8 #[.val (.int kk)] [(.ref bq2), (.ref bq2)]))
    refine Goes.via (fun _ k => XT.iconstV Xq2.here hx rfl (0 : Int32) (hb hby d_method_4_code_8) (by decide) k) ?_
    show Goes _ _ _ _ _ _ _ _ (Tq2.setTop (mkF m 9 #[.val (.int kk)] [(.int (0 : Int32)), (.ref bq2), (.ref bq2)]))
    exact truncC_c9 l Z aw hw kk bq2 kq2 hx hby hml hrt hlk hnm hZ hown Xq2 eq2 N (by decide) (by decide) Oq2 ((Keep.refl _ []).ext Eq2) Vq2 cq1 (by omega) (by omega)
  · skip
    refine Goes.via (fun _ k => XS.ifYes X.here hx rfl (pc0 := 1) (pc' := 13) rfl (hb hby d_method_4_code_1) rfl (XT.i0_ne_t cq1) (by decide) (by decide) k) ?_
    show Goes _ _ _ _ _ _ _ _ (T.setTop (mkF m 13 #[.val (.int kk)] []))
    refine Goes.via (fun _ k => XS.iloadN X.here hx rfl (hb hby d_method_4_code_13) rfl k) ?_
    show Goes _ _ _ _ _ _ _ _ (T.setTop (mkF m 14 #[.val (.int kk)] [(.int kk)]))
    refine Goes.via (fun _ k => XT.iconstV X.here hx rfl (1 : Int32) (hb hby d_method_4_code_14) (by decide) k) ?_
    show Goes _ _ _ _ _ _ _ _ (T.setTop (mkF m 15 #[.val (.int kk)] [(.int (1 : Int32)), (.int kk)]))
    by_cases cq3 : kk = (1 : Int32)
    · skip
      refine Goes.via (fun _ k => XS.icmpNo X.here hx rfl (hb hby d_method_4_code_15) rfl (XT.ii_ne_f cq3) k) ?_
      show Goes _ _ _ _ _ _ _ _ (T.setTop (mkF m 18 #[.val (.int kk)] []))
      refine Goes.via (fun _ k => XT.bipushV X.here hx rfl (6 : Int32) (hb hby d_method_4_code_18) (by decide) k) ?_
      show Goes _ _ _ _ _ _ _ _ (T.setTop (mkF m 20 #[.val (.int kk)] [(.int (6 : Int32))]))
      exact truncC_c10 l Z aw hw kk hx hby hml hrt hlk hnm hZ hown X e0 N (by decide) (by decide) O (Keep.refl _ []) cq1 cq3
    · skip
      refine Goes.via (fun _ k => XS.icmpYes X.here hx rfl (pc0 := 15) (pc' := 53) rfl (hb hby d_method_4_code_15) rfl (XT.ii_ne_t cq3) (by decide) (by decide) k) ?_
      show Goes _ _ _ _ _ _ _ _ (T.setTop (mkF m 53 #[.val (.int kk)] []))
      refine Goes.via (fun _ k => XS.iloadN X.here hx rfl (hb hby d_method_4_code_53) rfl k) ?_
      show Goes _ _ _ _ _ _ _ _ (T.setTop (mkF m 54 #[.val (.int kk)] [(.int kk)]))
      exact truncC_c11 l Z aw hw kk hx hby hml hrt hlk hnm hZ hown X e0 N (by decide) (by decide) O (Keep.refl _ []) cq1 cq3
theorem ef_appC (m : MethodId) (kk : Int32) (ch : Int32) : entryFrame m #[(.int kk), (.int ch)] 2 = mkF m 0 #[.val (.int kk), .val (.int ch)] [] := by first | (simp [entryFrame, mkF, argsToLocals, Value.category]; done) | rfl
set_option maxRecDepth 65536 in
set_option maxHeartbeats 40000000 in
theorem appC_c14 (l : Launch) (Z : State) (aw : Array Value) (hw : ∀ d ∈ tables_1, d.before aw Z = true) (kk : Int32) (ch : Int32) (bq2 : Nat) (kq2 : ClassId) {p : Program} {e : Env} {s : State} {m : MethodId} {args : Array Value} {below : List Frame} {meth : Method} {c : Code} {T : State} {locs : List Loc} {cells slots n0 : Nat} {h0 h1 : Heap} (hx : p.tables.exec = Jvm.exec) (hby : c.code = method_5_code) (hml : c.maxLocals = 2) (hrt : meth.sig.returnType = some (.array .char)) (hlk : meth.locks = false) (hnm : meth.name = "appended") (hZ : Z.Warmed39 s.vm) (hown : s.vm.findClass "com/example/dispatch_note/dispatchnote/contract/ManagedMemberNamedPinLaw" = some m.cls) (X : Stand p l e ({ frames := 0, cells := 1, slots := 10, locals := 0 } : Room) s m args below meth c T locs cells slots) (e0 : T.heap = h1) (N : Fr n0 locs) (hcells : cells ≤ 1) (hslots : slots ≤ 3) (O : Old Z n0 h1) (K0 : Keep h0 h1 []) (pf0 : Arv Z h1 bq2 kq2 .char (3 : Int32) [(.int (0 : Int32)), (.int (0 : Int32)), (.int (0 : Int32))] (.int (0 : Int32))) (hch : ¬ ch < 0 ∧ ¬ (255 : Int32) < ch) (cq1 : kk = (0 : Int32)) (cn1 : n0 ≤ bq2) (cn2 : h0.size ≤ bq2) :
    Goes p e below s ({ frames := 0, cells := 1, slots := 10, locals := 0 } : Room).cells ({ frames := 0, cells := 1, slots := 10, locals := 0 } : Room).slots n0 (fun vv hh => ∃ r : Nat, ∃ kr : ClassId, ∃ cs : List Int32, ∃ nn : Nat, vv = some (.ref r) ∧ h0.size ≤ r ∧ Keep h0 hh [] ∧ Arv Z hh r kr .char (Int32.ofNat nn) (cs.map Value.int) (.int (0 : Int32)) ∧ (0 < nn ∧ nn ≤ 10 ∧ cs.length = nn ∧ ∀ c ∈ cs, ¬ c < 0 ∧ ¬ (255 : Int32) < c)) (T.setTop (mkF m 9 #[.val (.int kk), .val (.int ch)] [(.int (0 : Int32)), (.ref bq2), (.ref bq2)])) := by
  have zO := O.le
  have zK := K0.1
  have lt_bq2 := lt_nat pf0.lt
  show Goes _ _ _ _ _ _ _ _ (T.setTop (mkF m 9 #[.val (.int kk), .val (.int ch)] [(.int (0 : Int32)), (.ref bq2), (.ref bq2)]))
  refine Goes.via (fun _ k => XT.bipushV X.here hx rfl (105 : Int32) (hb hby d_method_5_code_9) (by decide) k) ?_
  show Goes _ _ _ _ _ _ _ _ (T.setTop (mkF m 11 #[.val (.int kk), .val (.int ch)] [(.int (105 : Int32)), (.int (0 : Int32)), (.ref bq2), (.ref bq2)]))
  obtain ⟨clq3, Arq3, qq3, Sq3, Nnq3, Hq3, Gq3⟩ := id pf0
  have hinq3 : ¬ ((0 : Int32) < 0 ∨ clq3.slots.size ≤ ((0 : Int32)).toNatClampNeg) := inb_of Sq3 ⟨by decide, by decide⟩
  obtain ⟨Tq3, hq3, Xq3, eq3, Wq3, stq3⟩ := stC X hx hZ e0 Arq3 (j := (0 : Int32)) hinq3 (g := (mkF m 11 #[.val (.int kk), .val (.int ch)] [(.int (105 : Int32)), (.int (0 : Int32)), (.ref bq2), (.ref bq2)])) rfl rfl (hb hby d_method_5_code_11)
  have Nq3 := Fr.snoc Xq3 N (by omega)
  have zq3 := Wq3.size
  have Oq3 := O.wr Wq3 (by omega)
  have Vq3 : Arv Z hq3 bq2 kq2 .char (3 : Int32) [(.int (105 : Int32)), (.int (0 : Int32)), (.int (0 : Int32))] (.int (0 : Int32)) := Arv.set Arq3 qq3 Sq3 Nnq3 Hq3 Gq3 (by decide) Wq3 0 rfl (Nat.le_of_ble_eq_true rfl)
  refine Goes.via stq3 ?_
  show Goes _ _ _ _ _ _ _ _ (Tq3.setTop (mkF m 12 #[.val (.int kk), .val (.int ch)] [(.ref bq2)]))
  refine Goes.via (fun _ k => XS.dup Xq3.here hx rfl (hb hby d_method_5_code_12) rfl rfl k) ?_
  show Goes _ _ _ _ _ _ _ _ (Tq3.setTop (mkF m 13 #[.val (.int kk), .val (.int ch)] [(.ref bq2), (.ref bq2)]))
  refine Goes.via (fun _ k => XT.iconstV Xq3.here hx rfl (1 : Int32) (hb hby d_method_5_code_13) (by decide) k) ?_
  show Goes _ _ _ _ _ _ _ _ (Tq3.setTop (mkF m 14 #[.val (.int kk), .val (.int ch)] [(.int (1 : Int32)), (.ref bq2), (.ref bq2)]))
  refine Goes.via (fun _ k => XT.bipushV Xq3.here hx rfl (100 : Int32) (hb hby d_method_5_code_14) (by decide) k) ?_
  show Goes _ _ _ _ _ _ _ _ (Tq3.setTop (mkF m 16 #[.val (.int kk), .val (.int ch)] [(.int (100 : Int32)), (.int (1 : Int32)), (.ref bq2), (.ref bq2)]))
  obtain ⟨clq4, Arq4, qq4, Sq4, Nnq4, Hq4, Gq4⟩ := id Vq3
  have hinq4 : ¬ ((1 : Int32) < 0 ∨ clq4.slots.size ≤ ((1 : Int32)).toNatClampNeg) := inb_of Sq4 ⟨by decide, by decide⟩
  obtain ⟨Tq4, hq4, Xq4, eq4, Wq4, stq4⟩ := stC Xq3 hx hZ eq3 Arq4 (j := (1 : Int32)) hinq4 (g := (mkF m 16 #[.val (.int kk), .val (.int ch)] [(.int (100 : Int32)), (.int (1 : Int32)), (.ref bq2), (.ref bq2)])) rfl rfl (hb hby d_method_5_code_16)
  have Nq4 := Fr.snoc Xq4 Nq3 (by omega)
  have zq4 := Wq4.size
  have Oq4 := Oq3.wr Wq4 (by omega)
  have Vq4 : Arv Z hq4 bq2 kq2 .char (3 : Int32) [(.int (105 : Int32)), (.int (100 : Int32)), (.int (0 : Int32))] (.int (0 : Int32)) := Arv.set Arq4 qq4 Sq4 Nnq4 Hq4 Gq4 (by decide) Wq4 1 rfl (Nat.le_of_ble_eq_true rfl)
  refine Goes.via stq4 ?_
  show Goes _ _ _ _ _ _ _ _ (Tq4.setTop (mkF m 17 #[.val (.int kk), .val (.int ch)] [(.ref bq2)]))
  refine Goes.via (fun _ k => XS.dup Xq4.here hx rfl (hb hby d_method_5_code_17) rfl rfl k) ?_
  show Goes _ _ _ _ _ _ _ _ (Tq4.setTop (mkF m 18 #[.val (.int kk), .val (.int ch)] [(.ref bq2), (.ref bq2)]))
  refine Goes.via (fun _ k => XT.iconstV Xq4.here hx rfl (2 : Int32) (hb hby d_method_5_code_18) (by decide) k) ?_
  show Goes _ _ _ _ _ _ _ _ (Tq4.setTop (mkF m 19 #[.val (.int kk), .val (.int ch)] [(.int (2 : Int32)), (.ref bq2), (.ref bq2)]))
  refine Goes.via (fun _ k => XS.iloadN Xq4.here hx rfl (hb hby d_method_5_code_19) rfl k) ?_
  show Goes _ _ _ _ _ _ _ _ (Tq4.setTop (mkF m 20 #[.val (.int kk), .val (.int ch)] [(.int ch), (.int (2 : Int32)), (.ref bq2), (.ref bq2)]))
  obtain ⟨clq5, Arq5, qq5, Sq5, Nnq5, Hq5, Gq5⟩ := id Vq4
  have hinq5 : ¬ ((2 : Int32) < 0 ∨ clq5.slots.size ≤ ((2 : Int32)).toNatClampNeg) := inb_of Sq5 ⟨by decide, by decide⟩
  obtain ⟨Tq5, hq5, Xq5, eq5, Wq5, stq5⟩ := stC Xq4 hx hZ eq4 Arq5 (j := (2 : Int32)) hinq5 (g := (mkF m 20 #[.val (.int kk), .val (.int ch)] [(.int ch), (.int (2 : Int32)), (.ref bq2), (.ref bq2)])) rfl rfl (hb hby d_method_5_code_20)
  have Nq5 := Fr.snoc Xq5 Nq4 (by omega)
  have zq5 := Wq5.size
  have Oq5 := Oq4.wr Wq5 (by omega)
  have Vq5 : Arv Z hq5 bq2 kq2 .char (3 : Int32) [(.int (105 : Int32)), (.int (100 : Int32)), (.int (nar .char ch))] (.int (0 : Int32)) := Arv.set Arq5 qq5 Sq5 Nnq5 Hq5 Gq5 (fits_nar_char _) Wq5 2 rfl (Nat.le_of_ble_eq_true rfl)
  refine Goes.via stq5 ?_
  show Goes _ _ _ _ _ _ _ _ (Tq5.setTop (mkF m 21 #[.val (.int kk), .val (.int ch)] [(.ref bq2)]))
  refine goRetA Xq5 hx hrt rfl hlk Nq5 (by show _ ≤ 1; omega) (by show _ ≤ 10; omega) rfl (hb hby d_method_5_code_21) ?_
  try rw [eq5]
  have VRq6 : Arv Z hq5 bq2 kq2 .char (3 : Int32) [(.int (105 : Int32)), (.int (100 : Int32)), (.int ch)] (.int (0 : Int32)) := by
    have q := Vq5
    rw [narc_in hch] at q
    exact q
  exact ⟨bq2, kq2, [(105 : Int32), (100 : Int32), ch], 3, rfl, by omega, (((K0.wr Wq3 (Or.inr (by omega))).wr Wq4 (Or.inr (by omega))).wr Wq5 (Or.inr (by omega))), VRq6, by decide, by decide, rfl, (chS (by decide) (chS (by decide) (chS hch ch0)))⟩
set_option maxRecDepth 65536 in
set_option maxHeartbeats 40000000 in
theorem appC_c15 (l : Launch) (Z : State) (aw : Array Value) (hw : ∀ d ∈ tables_1, d.before aw Z = true) (kk : Int32) (ch : Int32) {p : Program} {e : Env} {s : State} {m : MethodId} {args : Array Value} {below : List Frame} {meth : Method} {c : Code} {T : State} {locs : List Loc} {cells slots n0 : Nat} {h0 h1 : Heap} (hx : p.tables.exec = Jvm.exec) (hby : c.code = method_5_code) (hml : c.maxLocals = 2) (hrt : meth.sig.returnType = some (.array .char)) (hlk : meth.locks = false) (hnm : meth.name = "appended") (hZ : Z.Warmed39 s.vm) (hown : s.vm.findClass "com/example/dispatch_note/dispatchnote/contract/ManagedMemberNamedPinLaw" = some m.cls) (X : Stand p l e ({ frames := 0, cells := 1, slots := 10, locals := 0 } : Room) s m args below meth c T locs cells slots) (e0 : T.heap = h1) (N : Fr n0 locs) (hcells : cells ≤ 0) (hslots : slots ≤ 0) (O : Old Z n0 h1) (K0 : Keep h0 h1 []) (hch : ¬ ch < 0 ∧ ¬ (255 : Int32) < ch) (cq1 : ¬ (kk = (0 : Int32))) (cq3 : kk = (1 : Int32)) :
    Goes p e below s ({ frames := 0, cells := 1, slots := 10, locals := 0 } : Room).cells ({ frames := 0, cells := 1, slots := 10, locals := 0 } : Room).slots n0 (fun vv hh => ∃ r : Nat, ∃ kr : ClassId, ∃ cs : List Int32, ∃ nn : Nat, vv = some (.ref r) ∧ h0.size ≤ r ∧ Keep h0 hh [] ∧ Arv Z hh r kr .char (Int32.ofNat nn) (cs.map Value.int) (.int (0 : Int32)) ∧ (0 < nn ∧ nn ≤ 10 ∧ cs.length = nn ∧ ∀ c ∈ cs, ¬ c < 0 ∧ ¬ (255 : Int32) < c)) (T.setTop (mkF m 29 #[.val (.int kk), .val (.int ch)] [(.int (8 : Int32))])) := by
  have zO := O.le
  have zK := K0.1
  show Goes _ _ _ _ _ _ _ _ (T.setTop (mkF m 29 #[.val (.int kk), .val (.int ch)] [(.int (8 : Int32))]))
  obtain ⟨Tq4, hq4, kq4, Xq4, eq4, Eq4, Aq4, stq4⟩ := newP (aty := .char) X hx hZ (W_4 hw) e0 (g := (mkF m 29 #[.val (.int kk), .val (.int ch)] [(.int (8 : Int32))])) rfl (hb hby d_method_5_code_29) rfl (by decide) (cap := 8) (by decide) (by decide) (by show _ + 1 ≤ 1; omega) (by show _ + 8 ≤ 10; omega)
  obtain ⟨bq4, gq4⟩ : ∃ z, z = h1.size := ⟨_, rfl⟩
  rw [← gq4] at Aq4 stq4
  have zq4 := Eq4.1
  have Oq4 := O.ext Eq4
  have Vq4 : Arv Z hq4 bq4 kq4 .char (8 : Int32) [(.int (0 : Int32)), (.int (0 : Int32)), (.int (0 : Int32)), (.int (0 : Int32)), (.int (0 : Int32)), (.int (0 : Int32)), (.int (0 : Int32)), (.int (0 : Int32))] (.int (0 : Int32)) := (Arv.new Aq4 (by decide)).pad (pad_rep [] (.int (0 : Int32)) 8)
  have lq4 := lt_nat Vq4.lt
  refine Goes.via stq4 ?_
  show Goes _ _ _ _ _ _ _ _ (Tq4.setTop (mkF m 31 #[.val (.int kk), .val (.int ch)] [(.ref bq4)]))
  refine Goes.via (fun _ k => XS.dup Xq4.here hx rfl (hb hby d_method_5_code_31) rfl rfl k) ?_
  show Goes _ _ _ _ _ _ _ _ (Tq4.setTop (mkF m 32 #[.val (.int kk), .val (.int ch)] [(.ref bq4), (.ref bq4)]))
  refine Goes.via (fun _ k => XT.iconstV Xq4.here hx rfl (0 : Int32) (hb hby d_method_5_code_32) (by decide) k) ?_
  show Goes _ _ _ _ _ _ _ _ (Tq4.setTop (mkF m 33 #[.val (.int kk), .val (.int ch)] [(.int (0 : Int32)), (.ref bq4), (.ref bq4)]))
  refine Goes.via (fun _ k => XT.bipushV Xq4.here hx rfl (118 : Int32) (hb hby d_method_5_code_33) (by decide) k) ?_
  show Goes _ _ _ _ _ _ _ _ (Tq4.setTop (mkF m 35 #[.val (.int kk), .val (.int ch)] [(.int (118 : Int32)), (.int (0 : Int32)), (.ref bq4), (.ref bq4)]))
  obtain ⟨clq5, Arq5, qq5, Sq5, Nnq5, Hq5, Gq5⟩ := id Vq4
  have hinq5 : ¬ ((0 : Int32) < 0 ∨ clq5.slots.size ≤ ((0 : Int32)).toNatClampNeg) := inb_of Sq5 ⟨by decide, by decide⟩
  obtain ⟨Tq5, hq5, Xq5, eq5, Wq5, stq5⟩ := stC Xq4 hx hZ eq4 Arq5 (j := (0 : Int32)) hinq5 (g := (mkF m 35 #[.val (.int kk), .val (.int ch)] [(.int (118 : Int32)), (.int (0 : Int32)), (.ref bq4), (.ref bq4)])) rfl rfl (hb hby d_method_5_code_35)
  have Nq5 := Fr.snoc Xq5 N (by omega)
  have zq5 := Wq5.size
  have Oq5 := Oq4.wr Wq5 (by omega)
  have Vq5 : Arv Z hq5 bq4 kq4 .char (8 : Int32) [(.int (118 : Int32)), (.int (0 : Int32)), (.int (0 : Int32)), (.int (0 : Int32)), (.int (0 : Int32)), (.int (0 : Int32)), (.int (0 : Int32)), (.int (0 : Int32))] (.int (0 : Int32)) := Arv.set Arq5 qq5 Sq5 Nnq5 Hq5 Gq5 (by decide) Wq5 0 rfl (Nat.le_of_ble_eq_true rfl)
  refine Goes.via stq5 ?_
  show Goes _ _ _ _ _ _ _ _ (Tq5.setTop (mkF m 36 #[.val (.int kk), .val (.int ch)] [(.ref bq4)]))
  refine Goes.via (fun _ k => XS.dup Xq5.here hx rfl (hb hby d_method_5_code_36) rfl rfl k) ?_
  show Goes _ _ _ _ _ _ _ _ (Tq5.setTop (mkF m 37 #[.val (.int kk), .val (.int ch)] [(.ref bq4), (.ref bq4)]))
  refine Goes.via (fun _ k => XT.iconstV Xq5.here hx rfl (1 : Int32) (hb hby d_method_5_code_37) (by decide) k) ?_
  show Goes _ _ _ _ _ _ _ _ (Tq5.setTop (mkF m 38 #[.val (.int kk), .val (.int ch)] [(.int (1 : Int32)), (.ref bq4), (.ref bq4)]))
  refine Goes.via (fun _ k => XT.bipushV Xq5.here hx rfl (101 : Int32) (hb hby d_method_5_code_38) (by decide) k) ?_
  show Goes _ _ _ _ _ _ _ _ (Tq5.setTop (mkF m 40 #[.val (.int kk), .val (.int ch)] [(.int (101 : Int32)), (.int (1 : Int32)), (.ref bq4), (.ref bq4)]))
  obtain ⟨clq6, Arq6, qq6, Sq6, Nnq6, Hq6, Gq6⟩ := id Vq5
  have hinq6 : ¬ ((1 : Int32) < 0 ∨ clq6.slots.size ≤ ((1 : Int32)).toNatClampNeg) := inb_of Sq6 ⟨by decide, by decide⟩
  obtain ⟨Tq6, hq6, Xq6, eq6, Wq6, stq6⟩ := stC Xq5 hx hZ eq5 Arq6 (j := (1 : Int32)) hinq6 (g := (mkF m 40 #[.val (.int kk), .val (.int ch)] [(.int (101 : Int32)), (.int (1 : Int32)), (.ref bq4), (.ref bq4)])) rfl rfl (hb hby d_method_5_code_40)
  have Nq6 := Fr.snoc Xq6 Nq5 (by omega)
  have zq6 := Wq6.size
  have Oq6 := Oq5.wr Wq6 (by omega)
  have Vq6 : Arv Z hq6 bq4 kq4 .char (8 : Int32) [(.int (118 : Int32)), (.int (101 : Int32)), (.int (0 : Int32)), (.int (0 : Int32)), (.int (0 : Int32)), (.int (0 : Int32)), (.int (0 : Int32)), (.int (0 : Int32))] (.int (0 : Int32)) := Arv.set Arq6 qq6 Sq6 Nnq6 Hq6 Gq6 (by decide) Wq6 1 rfl (Nat.le_of_ble_eq_true rfl)
  refine Goes.via stq6 ?_
  show Goes _ _ _ _ _ _ _ _ (Tq6.setTop (mkF m 41 #[.val (.int kk), .val (.int ch)] [(.ref bq4)]))
  refine Goes.via (fun _ k => XS.dup Xq6.here hx rfl (hb hby d_method_5_code_41) rfl rfl k) ?_
  show Goes _ _ _ _ _ _ _ _ (Tq6.setTop (mkF m 42 #[.val (.int kk), .val (.int ch)] [(.ref bq4), (.ref bq4)]))
  refine Goes.via (fun _ k => XT.iconstV Xq6.here hx rfl (2 : Int32) (hb hby d_method_5_code_42) (by decide) k) ?_
  show Goes _ _ _ _ _ _ _ _ (Tq6.setTop (mkF m 43 #[.val (.int kk), .val (.int ch)] [(.int (2 : Int32)), (.ref bq4), (.ref bq4)]))
  refine Goes.via (fun _ k => XT.bipushV Xq6.here hx rfl (114 : Int32) (hb hby d_method_5_code_43) (by decide) k) ?_
  show Goes _ _ _ _ _ _ _ _ (Tq6.setTop (mkF m 45 #[.val (.int kk), .val (.int ch)] [(.int (114 : Int32)), (.int (2 : Int32)), (.ref bq4), (.ref bq4)]))
  obtain ⟨clq7, Arq7, qq7, Sq7, Nnq7, Hq7, Gq7⟩ := id Vq6
  have hinq7 : ¬ ((2 : Int32) < 0 ∨ clq7.slots.size ≤ ((2 : Int32)).toNatClampNeg) := inb_of Sq7 ⟨by decide, by decide⟩
  obtain ⟨Tq7, hq7, Xq7, eq7, Wq7, stq7⟩ := stC Xq6 hx hZ eq6 Arq7 (j := (2 : Int32)) hinq7 (g := (mkF m 45 #[.val (.int kk), .val (.int ch)] [(.int (114 : Int32)), (.int (2 : Int32)), (.ref bq4), (.ref bq4)])) rfl rfl (hb hby d_method_5_code_45)
  have Nq7 := Fr.snoc Xq7 Nq6 (by omega)
  have zq7 := Wq7.size
  have Oq7 := Oq6.wr Wq7 (by omega)
  have Vq7 : Arv Z hq7 bq4 kq4 .char (8 : Int32) [(.int (118 : Int32)), (.int (101 : Int32)), (.int (114 : Int32)), (.int (0 : Int32)), (.int (0 : Int32)), (.int (0 : Int32)), (.int (0 : Int32)), (.int (0 : Int32))] (.int (0 : Int32)) := Arv.set Arq7 qq7 Sq7 Nnq7 Hq7 Gq7 (by decide) Wq7 2 rfl (Nat.le_of_ble_eq_true rfl)
  refine Goes.via stq7 ?_
  show Goes _ _ _ _ _ _ _ _ (Tq7.setTop (mkF m 46 #[.val (.int kk), .val (.int ch)] [(.ref bq4)]))
  refine Goes.via (fun _ k => XS.dup Xq7.here hx rfl (hb hby d_method_5_code_46) rfl rfl k) ?_
  show Goes _ _ _ _ _ _ _ _ (Tq7.setTop (mkF m 47 #[.val (.int kk), .val (.int ch)] [(.ref bq4), (.ref bq4)]))
  refine Goes.via (fun _ k => XT.iconstV Xq7.here hx rfl (3 : Int32) (hb hby d_method_5_code_47) (by decide) k) ?_
  show Goes _ _ _ _ _ _ _ _ (Tq7.setTop (mkF m 48 #[.val (.int kk), .val (.int ch)] [(.int (3 : Int32)), (.ref bq4), (.ref bq4)]))
  refine Goes.via (fun _ k => XT.bipushV Xq7.here hx rfl (115 : Int32) (hb hby d_method_5_code_48) (by decide) k) ?_
  show Goes _ _ _ _ _ _ _ _ (Tq7.setTop (mkF m 50 #[.val (.int kk), .val (.int ch)] [(.int (115 : Int32)), (.int (3 : Int32)), (.ref bq4), (.ref bq4)]))
  obtain ⟨clq8, Arq8, qq8, Sq8, Nnq8, Hq8, Gq8⟩ := id Vq7
  have hinq8 : ¬ ((3 : Int32) < 0 ∨ clq8.slots.size ≤ ((3 : Int32)).toNatClampNeg) := inb_of Sq8 ⟨by decide, by decide⟩
  obtain ⟨Tq8, hq8, Xq8, eq8, Wq8, stq8⟩ := stC Xq7 hx hZ eq7 Arq8 (j := (3 : Int32)) hinq8 (g := (mkF m 50 #[.val (.int kk), .val (.int ch)] [(.int (115 : Int32)), (.int (3 : Int32)), (.ref bq4), (.ref bq4)])) rfl rfl (hb hby d_method_5_code_50)
  have Nq8 := Fr.snoc Xq8 Nq7 (by omega)
  have zq8 := Wq8.size
  have Oq8 := Oq7.wr Wq8 (by omega)
  have Vq8 : Arv Z hq8 bq4 kq4 .char (8 : Int32) [(.int (118 : Int32)), (.int (101 : Int32)), (.int (114 : Int32)), (.int (115 : Int32)), (.int (0 : Int32)), (.int (0 : Int32)), (.int (0 : Int32)), (.int (0 : Int32))] (.int (0 : Int32)) := Arv.set Arq8 qq8 Sq8 Nnq8 Hq8 Gq8 (by decide) Wq8 3 rfl (Nat.le_of_ble_eq_true rfl)
  refine Goes.via stq8 ?_
  show Goes _ _ _ _ _ _ _ _ (Tq8.setTop (mkF m 51 #[.val (.int kk), .val (.int ch)] [(.ref bq4)]))
  refine Goes.via (fun _ k => XS.dup Xq8.here hx rfl (hb hby d_method_5_code_51) rfl rfl k) ?_
  show Goes _ _ _ _ _ _ _ _ (Tq8.setTop (mkF m 52 #[.val (.int kk), .val (.int ch)] [(.ref bq4), (.ref bq4)]))
  refine Goes.via (fun _ k => XT.iconstV Xq8.here hx rfl (4 : Int32) (hb hby d_method_5_code_52) (by decide) k) ?_
  show Goes _ _ _ _ _ _ _ _ (Tq8.setTop (mkF m 53 #[.val (.int kk), .val (.int ch)] [(.int (4 : Int32)), (.ref bq4), (.ref bq4)]))
  refine Goes.via (fun _ k => XT.bipushV Xq8.here hx rfl (105 : Int32) (hb hby d_method_5_code_53) (by decide) k) ?_
  show Goes _ _ _ _ _ _ _ _ (Tq8.setTop (mkF m 55 #[.val (.int kk), .val (.int ch)] [(.int (105 : Int32)), (.int (4 : Int32)), (.ref bq4), (.ref bq4)]))
  obtain ⟨clq9, Arq9, qq9, Sq9, Nnq9, Hq9, Gq9⟩ := id Vq8
  have hinq9 : ¬ ((4 : Int32) < 0 ∨ clq9.slots.size ≤ ((4 : Int32)).toNatClampNeg) := inb_of Sq9 ⟨by decide, by decide⟩
  obtain ⟨Tq9, hq9, Xq9, eq9, Wq9, stq9⟩ := stC Xq8 hx hZ eq8 Arq9 (j := (4 : Int32)) hinq9 (g := (mkF m 55 #[.val (.int kk), .val (.int ch)] [(.int (105 : Int32)), (.int (4 : Int32)), (.ref bq4), (.ref bq4)])) rfl rfl (hb hby d_method_5_code_55)
  have Nq9 := Fr.snoc Xq9 Nq8 (by omega)
  have zq9 := Wq9.size
  have Oq9 := Oq8.wr Wq9 (by omega)
  have Vq9 : Arv Z hq9 bq4 kq4 .char (8 : Int32) [(.int (118 : Int32)), (.int (101 : Int32)), (.int (114 : Int32)), (.int (115 : Int32)), (.int (105 : Int32)), (.int (0 : Int32)), (.int (0 : Int32)), (.int (0 : Int32))] (.int (0 : Int32)) := Arv.set Arq9 qq9 Sq9 Nnq9 Hq9 Gq9 (by decide) Wq9 4 rfl (Nat.le_of_ble_eq_true rfl)
  refine Goes.via stq9 ?_
  show Goes _ _ _ _ _ _ _ _ (Tq9.setTop (mkF m 56 #[.val (.int kk), .val (.int ch)] [(.ref bq4)]))
  refine Goes.via (fun _ k => XS.dup Xq9.here hx rfl (hb hby d_method_5_code_56) rfl rfl k) ?_
  show Goes _ _ _ _ _ _ _ _ (Tq9.setTop (mkF m 57 #[.val (.int kk), .val (.int ch)] [(.ref bq4), (.ref bq4)]))
  refine Goes.via (fun _ k => XT.iconstV Xq9.here hx rfl (5 : Int32) (hb hby d_method_5_code_57) (by decide) k) ?_
  show Goes _ _ _ _ _ _ _ _ (Tq9.setTop (mkF m 58 #[.val (.int kk), .val (.int ch)] [(.int (5 : Int32)), (.ref bq4), (.ref bq4)]))
  refine Goes.via (fun _ k => XT.bipushV Xq9.here hx rfl (111 : Int32) (hb hby d_method_5_code_58) (by decide) k) ?_
  show Goes _ _ _ _ _ _ _ _ (Tq9.setTop (mkF m 60 #[.val (.int kk), .val (.int ch)] [(.int (111 : Int32)), (.int (5 : Int32)), (.ref bq4), (.ref bq4)]))
  obtain ⟨clq10, Arq10, qq10, Sq10, Nnq10, Hq10, Gq10⟩ := id Vq9
  have hinq10 : ¬ ((5 : Int32) < 0 ∨ clq10.slots.size ≤ ((5 : Int32)).toNatClampNeg) := inb_of Sq10 ⟨by decide, by decide⟩
  obtain ⟨Tq10, hq10, Xq10, eq10, Wq10, stq10⟩ := stC Xq9 hx hZ eq9 Arq10 (j := (5 : Int32)) hinq10 (g := (mkF m 60 #[.val (.int kk), .val (.int ch)] [(.int (111 : Int32)), (.int (5 : Int32)), (.ref bq4), (.ref bq4)])) rfl rfl (hb hby d_method_5_code_60)
  have Nq10 := Fr.snoc Xq10 Nq9 (by omega)
  have zq10 := Wq10.size
  have Oq10 := Oq9.wr Wq10 (by omega)
  have Vq10 : Arv Z hq10 bq4 kq4 .char (8 : Int32) [(.int (118 : Int32)), (.int (101 : Int32)), (.int (114 : Int32)), (.int (115 : Int32)), (.int (105 : Int32)), (.int (111 : Int32)), (.int (0 : Int32)), (.int (0 : Int32))] (.int (0 : Int32)) := Arv.set Arq10 qq10 Sq10 Nnq10 Hq10 Gq10 (by decide) Wq10 5 rfl (Nat.le_of_ble_eq_true rfl)
  refine Goes.via stq10 ?_
  show Goes _ _ _ _ _ _ _ _ (Tq10.setTop (mkF m 61 #[.val (.int kk), .val (.int ch)] [(.ref bq4)]))
  refine Goes.via (fun _ k => XS.dup Xq10.here hx rfl (hb hby d_method_5_code_61) rfl rfl k) ?_
  show Goes _ _ _ _ _ _ _ _ (Tq10.setTop (mkF m 62 #[.val (.int kk), .val (.int ch)] [(.ref bq4), (.ref bq4)]))
  refine Goes.via (fun _ k => XT.bipushV Xq10.here hx rfl (6 : Int32) (hb hby d_method_5_code_62) (by decide) k) ?_
  show Goes _ _ _ _ _ _ _ _ (Tq10.setTop (mkF m 64 #[.val (.int kk), .val (.int ch)] [(.int (6 : Int32)), (.ref bq4), (.ref bq4)]))
  refine Goes.via (fun _ k => XT.bipushV Xq10.here hx rfl (110 : Int32) (hb hby d_method_5_code_64) (by decide) k) ?_
  show Goes _ _ _ _ _ _ _ _ (Tq10.setTop (mkF m 66 #[.val (.int kk), .val (.int ch)] [(.int (110 : Int32)), (.int (6 : Int32)), (.ref bq4), (.ref bq4)]))
  obtain ⟨clq11, Arq11, qq11, Sq11, Nnq11, Hq11, Gq11⟩ := id Vq10
  have hinq11 : ¬ ((6 : Int32) < 0 ∨ clq11.slots.size ≤ ((6 : Int32)).toNatClampNeg) := inb_of Sq11 ⟨by decide, by decide⟩
  obtain ⟨Tq11, hq11, Xq11, eq11, Wq11, stq11⟩ := stC Xq10 hx hZ eq10 Arq11 (j := (6 : Int32)) hinq11 (g := (mkF m 66 #[.val (.int kk), .val (.int ch)] [(.int (110 : Int32)), (.int (6 : Int32)), (.ref bq4), (.ref bq4)])) rfl rfl (hb hby d_method_5_code_66)
  have Nq11 := Fr.snoc Xq11 Nq10 (by omega)
  have zq11 := Wq11.size
  have Oq11 := Oq10.wr Wq11 (by omega)
  have Vq11 : Arv Z hq11 bq4 kq4 .char (8 : Int32) [(.int (118 : Int32)), (.int (101 : Int32)), (.int (114 : Int32)), (.int (115 : Int32)), (.int (105 : Int32)), (.int (111 : Int32)), (.int (110 : Int32)), (.int (0 : Int32))] (.int (0 : Int32)) := Arv.set Arq11 qq11 Sq11 Nnq11 Hq11 Gq11 (by decide) Wq11 6 rfl (Nat.le_of_ble_eq_true rfl)
  refine Goes.via stq11 ?_
  show Goes _ _ _ _ _ _ _ _ (Tq11.setTop (mkF m 67 #[.val (.int kk), .val (.int ch)] [(.ref bq4)]))
  refine Goes.via (fun _ k => XS.dup Xq11.here hx rfl (hb hby d_method_5_code_67) rfl rfl k) ?_
  show Goes _ _ _ _ _ _ _ _ (Tq11.setTop (mkF m 68 #[.val (.int kk), .val (.int ch)] [(.ref bq4), (.ref bq4)]))
  refine Goes.via (fun _ k => XT.bipushV Xq11.here hx rfl (7 : Int32) (hb hby d_method_5_code_68) (by decide) k) ?_
  show Goes _ _ _ _ _ _ _ _ (Tq11.setTop (mkF m 70 #[.val (.int kk), .val (.int ch)] [(.int (7 : Int32)), (.ref bq4), (.ref bq4)]))
  refine Goes.via (fun _ k => XS.iloadN Xq11.here hx rfl (hb hby d_method_5_code_70) rfl k) ?_
  show Goes _ _ _ _ _ _ _ _ (Tq11.setTop (mkF m 71 #[.val (.int kk), .val (.int ch)] [(.int ch), (.int (7 : Int32)), (.ref bq4), (.ref bq4)]))
  obtain ⟨clq12, Arq12, qq12, Sq12, Nnq12, Hq12, Gq12⟩ := id Vq11
  have hinq12 : ¬ ((7 : Int32) < 0 ∨ clq12.slots.size ≤ ((7 : Int32)).toNatClampNeg) := inb_of Sq12 ⟨by decide, by decide⟩
  obtain ⟨Tq12, hq12, Xq12, eq12, Wq12, stq12⟩ := stC Xq11 hx hZ eq11 Arq12 (j := (7 : Int32)) hinq12 (g := (mkF m 71 #[.val (.int kk), .val (.int ch)] [(.int ch), (.int (7 : Int32)), (.ref bq4), (.ref bq4)])) rfl rfl (hb hby d_method_5_code_71)
  have Nq12 := Fr.snoc Xq12 Nq11 (by omega)
  have zq12 := Wq12.size
  have Oq12 := Oq11.wr Wq12 (by omega)
  have Vq12 : Arv Z hq12 bq4 kq4 .char (8 : Int32) [(.int (118 : Int32)), (.int (101 : Int32)), (.int (114 : Int32)), (.int (115 : Int32)), (.int (105 : Int32)), (.int (111 : Int32)), (.int (110 : Int32)), (.int (nar .char ch))] (.int (0 : Int32)) := Arv.set Arq12 qq12 Sq12 Nnq12 Hq12 Gq12 (fits_nar_char _) Wq12 7 rfl (Nat.le_of_ble_eq_true rfl)
  refine Goes.via stq12 ?_
  show Goes _ _ _ _ _ _ _ _ (Tq12.setTop (mkF m 72 #[.val (.int kk), .val (.int ch)] [(.ref bq4)]))
  refine goRetA Xq12 hx hrt rfl hlk Nq12 (by show _ ≤ 1; omega) (by show _ ≤ 10; omega) rfl (hb hby d_method_5_code_72) ?_
  try rw [eq12]
  have VRq13 : Arv Z hq12 bq4 kq4 .char (8 : Int32) [(.int (118 : Int32)), (.int (101 : Int32)), (.int (114 : Int32)), (.int (115 : Int32)), (.int (105 : Int32)), (.int (111 : Int32)), (.int (110 : Int32)), (.int ch)] (.int (0 : Int32)) := by
    have q := Vq12
    rw [narc_in hch] at q
    exact q
  exact ⟨bq4, kq4, [(118 : Int32), (101 : Int32), (114 : Int32), (115 : Int32), (105 : Int32), (111 : Int32), (110 : Int32), ch], 8, rfl, by omega, (((((((((K0.ext Eq4).wr Wq5 (Or.inr (by omega))).wr Wq6 (Or.inr (by omega))).wr Wq7 (Or.inr (by omega))).wr Wq8 (Or.inr (by omega))).wr Wq9 (Or.inr (by omega))).wr Wq10 (Or.inr (by omega))).wr Wq11 (Or.inr (by omega))).wr Wq12 (Or.inr (by omega))), VRq13, by decide, by decide, rfl, (chS (by decide) (chS (by decide) (chS (by decide) (chS (by decide) (chS (by decide) (chS (by decide) (chS (by decide) (chS hch ch0))))))))⟩
set_option maxRecDepth 65536 in
set_option maxHeartbeats 40000000 in
theorem appC_c17 (l : Launch) (Z : State) (aw : Array Value) (hw : ∀ d ∈ tables_1, d.before aw Z = true) (kk : Int32) (ch : Int32) (bq5 : Nat) (kq5 : ClassId) {p : Program} {e : Env} {s : State} {m : MethodId} {args : Array Value} {below : List Frame} {meth : Method} {c : Code} {T : State} {locs : List Loc} {cells slots n0 : Nat} {h0 h1 : Heap} (hx : p.tables.exec = Jvm.exec) (hby : c.code = method_5_code) (hml : c.maxLocals = 2) (hrt : meth.sig.returnType = some (.array .char)) (hlk : meth.locks = false) (hnm : meth.name = "appended") (hZ : Z.Warmed39 s.vm) (hown : s.vm.findClass "com/example/dispatch_note/dispatchnote/contract/ManagedMemberNamedPinLaw" = some m.cls) (X : Stand p l e ({ frames := 0, cells := 1, slots := 10, locals := 0 } : Room) s m args below meth c T locs cells slots) (e0 : T.heap = h1) (N : Fr n0 locs) (hcells : cells ≤ 1) (hslots : slots ≤ 10) (O : Old Z n0 h1) (K0 : Keep h0 h1 []) (pf0 : Arv Z h1 bq5 kq5 .char (10 : Int32) [(.int (0 : Int32)), (.int (0 : Int32)), (.int (0 : Int32)), (.int (0 : Int32)), (.int (0 : Int32)), (.int (0 : Int32)), (.int (0 : Int32)), (.int (0 : Int32)), (.int (0 : Int32)), (.int (0 : Int32))] (.int (0 : Int32))) (hch : ¬ ch < 0 ∧ ¬ (255 : Int32) < ch) (cq1 : ¬ (kk = (0 : Int32))) (cq3 : ¬ (kk = (1 : Int32))) (cq4 : kk = (2 : Int32)) (cn1 : n0 ≤ bq5) (cn2 : h0.size ≤ bq5) :
    Goes p e below s ({ frames := 0, cells := 1, slots := 10, locals := 0 } : Room).cells ({ frames := 0, cells := 1, slots := 10, locals := 0 } : Room).slots n0 (fun vv hh => ∃ r : Nat, ∃ kr : ClassId, ∃ cs : List Int32, ∃ nn : Nat, vv = some (.ref r) ∧ h0.size ≤ r ∧ Keep h0 hh [] ∧ Arv Z hh r kr .char (Int32.ofNat nn) (cs.map Value.int) (.int (0 : Int32)) ∧ (0 < nn ∧ nn ≤ 10 ∧ cs.length = nn ∧ ∀ c ∈ cs, ¬ c < 0 ∧ ¬ (255 : Int32) < c)) (T.setTop (mkF m 84 #[.val (.int kk), .val (.int ch)] [(.int (0 : Int32)), (.ref bq5), (.ref bq5)])) := by
  have zO := O.le
  have zK := K0.1
  have lt_bq5 := lt_nat pf0.lt
  show Goes _ _ _ _ _ _ _ _ (T.setTop (mkF m 84 #[.val (.int kk), .val (.int ch)] [(.int (0 : Int32)), (.ref bq5), (.ref bq5)]))
  refine Goes.via (fun _ k => XT.bipushV X.here hx rfl (99 : Int32) (hb hby d_method_5_code_84) (by decide) k) ?_
  show Goes _ _ _ _ _ _ _ _ (T.setTop (mkF m 86 #[.val (.int kk), .val (.int ch)] [(.int (99 : Int32)), (.int (0 : Int32)), (.ref bq5), (.ref bq5)]))
  obtain ⟨clq6, Arq6, qq6, Sq6, Nnq6, Hq6, Gq6⟩ := id pf0
  have hinq6 : ¬ ((0 : Int32) < 0 ∨ clq6.slots.size ≤ ((0 : Int32)).toNatClampNeg) := inb_of Sq6 ⟨by decide, by decide⟩
  obtain ⟨Tq6, hq6, Xq6, eq6, Wq6, stq6⟩ := stC X hx hZ e0 Arq6 (j := (0 : Int32)) hinq6 (g := (mkF m 86 #[.val (.int kk), .val (.int ch)] [(.int (99 : Int32)), (.int (0 : Int32)), (.ref bq5), (.ref bq5)])) rfl rfl (hb hby d_method_5_code_86)
  have Nq6 := Fr.snoc Xq6 N (by omega)
  have zq6 := Wq6.size
  have Oq6 := O.wr Wq6 (by omega)
  have Vq6 : Arv Z hq6 bq5 kq5 .char (10 : Int32) [(.int (99 : Int32)), (.int (0 : Int32)), (.int (0 : Int32)), (.int (0 : Int32)), (.int (0 : Int32)), (.int (0 : Int32)), (.int (0 : Int32)), (.int (0 : Int32)), (.int (0 : Int32)), (.int (0 : Int32))] (.int (0 : Int32)) := Arv.set Arq6 qq6 Sq6 Nnq6 Hq6 Gq6 (by decide) Wq6 0 rfl (Nat.le_of_ble_eq_true rfl)
  refine Goes.via stq6 ?_
  show Goes _ _ _ _ _ _ _ _ (Tq6.setTop (mkF m 87 #[.val (.int kk), .val (.int ch)] [(.ref bq5)]))
  refine Goes.via (fun _ k => XS.dup Xq6.here hx rfl (hb hby d_method_5_code_87) rfl rfl k) ?_
  show Goes _ _ _ _ _ _ _ _ (Tq6.setTop (mkF m 88 #[.val (.int kk), .val (.int ch)] [(.ref bq5), (.ref bq5)]))
  refine Goes.via (fun _ k => XT.iconstV Xq6.here hx rfl (1 : Int32) (hb hby d_method_5_code_88) (by decide) k) ?_
  show Goes _ _ _ _ _ _ _ _ (Tq6.setTop (mkF m 89 #[.val (.int kk), .val (.int ch)] [(.int (1 : Int32)), (.ref bq5), (.ref bq5)]))
  refine Goes.via (fun _ k => XT.bipushV Xq6.here hx rfl (114 : Int32) (hb hby d_method_5_code_89) (by decide) k) ?_
  show Goes _ _ _ _ _ _ _ _ (Tq6.setTop (mkF m 91 #[.val (.int kk), .val (.int ch)] [(.int (114 : Int32)), (.int (1 : Int32)), (.ref bq5), (.ref bq5)]))
  obtain ⟨clq7, Arq7, qq7, Sq7, Nnq7, Hq7, Gq7⟩ := id Vq6
  have hinq7 : ¬ ((1 : Int32) < 0 ∨ clq7.slots.size ≤ ((1 : Int32)).toNatClampNeg) := inb_of Sq7 ⟨by decide, by decide⟩
  obtain ⟨Tq7, hq7, Xq7, eq7, Wq7, stq7⟩ := stC Xq6 hx hZ eq6 Arq7 (j := (1 : Int32)) hinq7 (g := (mkF m 91 #[.val (.int kk), .val (.int ch)] [(.int (114 : Int32)), (.int (1 : Int32)), (.ref bq5), (.ref bq5)])) rfl rfl (hb hby d_method_5_code_91)
  have Nq7 := Fr.snoc Xq7 Nq6 (by omega)
  have zq7 := Wq7.size
  have Oq7 := Oq6.wr Wq7 (by omega)
  have Vq7 : Arv Z hq7 bq5 kq5 .char (10 : Int32) [(.int (99 : Int32)), (.int (114 : Int32)), (.int (0 : Int32)), (.int (0 : Int32)), (.int (0 : Int32)), (.int (0 : Int32)), (.int (0 : Int32)), (.int (0 : Int32)), (.int (0 : Int32)), (.int (0 : Int32))] (.int (0 : Int32)) := Arv.set Arq7 qq7 Sq7 Nnq7 Hq7 Gq7 (by decide) Wq7 1 rfl (Nat.le_of_ble_eq_true rfl)
  refine Goes.via stq7 ?_
  show Goes _ _ _ _ _ _ _ _ (Tq7.setTop (mkF m 92 #[.val (.int kk), .val (.int ch)] [(.ref bq5)]))
  refine Goes.via (fun _ k => XS.dup Xq7.here hx rfl (hb hby d_method_5_code_92) rfl rfl k) ?_
  show Goes _ _ _ _ _ _ _ _ (Tq7.setTop (mkF m 93 #[.val (.int kk), .val (.int ch)] [(.ref bq5), (.ref bq5)]))
  refine Goes.via (fun _ k => XT.iconstV Xq7.here hx rfl (2 : Int32) (hb hby d_method_5_code_93) (by decide) k) ?_
  show Goes _ _ _ _ _ _ _ _ (Tq7.setTop (mkF m 94 #[.val (.int kk), .val (.int ch)] [(.int (2 : Int32)), (.ref bq5), (.ref bq5)]))
  refine Goes.via (fun _ k => XT.bipushV Xq7.here hx rfl (101 : Int32) (hb hby d_method_5_code_94) (by decide) k) ?_
  show Goes _ _ _ _ _ _ _ _ (Tq7.setTop (mkF m 96 #[.val (.int kk), .val (.int ch)] [(.int (101 : Int32)), (.int (2 : Int32)), (.ref bq5), (.ref bq5)]))
  obtain ⟨clq8, Arq8, qq8, Sq8, Nnq8, Hq8, Gq8⟩ := id Vq7
  have hinq8 : ¬ ((2 : Int32) < 0 ∨ clq8.slots.size ≤ ((2 : Int32)).toNatClampNeg) := inb_of Sq8 ⟨by decide, by decide⟩
  obtain ⟨Tq8, hq8, Xq8, eq8, Wq8, stq8⟩ := stC Xq7 hx hZ eq7 Arq8 (j := (2 : Int32)) hinq8 (g := (mkF m 96 #[.val (.int kk), .val (.int ch)] [(.int (101 : Int32)), (.int (2 : Int32)), (.ref bq5), (.ref bq5)])) rfl rfl (hb hby d_method_5_code_96)
  have Nq8 := Fr.snoc Xq8 Nq7 (by omega)
  have zq8 := Wq8.size
  have Oq8 := Oq7.wr Wq8 (by omega)
  have Vq8 : Arv Z hq8 bq5 kq5 .char (10 : Int32) [(.int (99 : Int32)), (.int (114 : Int32)), (.int (101 : Int32)), (.int (0 : Int32)), (.int (0 : Int32)), (.int (0 : Int32)), (.int (0 : Int32)), (.int (0 : Int32)), (.int (0 : Int32)), (.int (0 : Int32))] (.int (0 : Int32)) := Arv.set Arq8 qq8 Sq8 Nnq8 Hq8 Gq8 (by decide) Wq8 2 rfl (Nat.le_of_ble_eq_true rfl)
  refine Goes.via stq8 ?_
  show Goes _ _ _ _ _ _ _ _ (Tq8.setTop (mkF m 97 #[.val (.int kk), .val (.int ch)] [(.ref bq5)]))
  refine Goes.via (fun _ k => XS.dup Xq8.here hx rfl (hb hby d_method_5_code_97) rfl rfl k) ?_
  show Goes _ _ _ _ _ _ _ _ (Tq8.setTop (mkF m 98 #[.val (.int kk), .val (.int ch)] [(.ref bq5), (.ref bq5)]))
  refine Goes.via (fun _ k => XT.iconstV Xq8.here hx rfl (3 : Int32) (hb hby d_method_5_code_98) (by decide) k) ?_
  show Goes _ _ _ _ _ _ _ _ (Tq8.setTop (mkF m 99 #[.val (.int kk), .val (.int ch)] [(.int (3 : Int32)), (.ref bq5), (.ref bq5)]))
  refine Goes.via (fun _ k => XT.bipushV Xq8.here hx rfl (97 : Int32) (hb hby d_method_5_code_99) (by decide) k) ?_
  show Goes _ _ _ _ _ _ _ _ (Tq8.setTop (mkF m 101 #[.val (.int kk), .val (.int ch)] [(.int (97 : Int32)), (.int (3 : Int32)), (.ref bq5), (.ref bq5)]))
  obtain ⟨clq9, Arq9, qq9, Sq9, Nnq9, Hq9, Gq9⟩ := id Vq8
  have hinq9 : ¬ ((3 : Int32) < 0 ∨ clq9.slots.size ≤ ((3 : Int32)).toNatClampNeg) := inb_of Sq9 ⟨by decide, by decide⟩
  obtain ⟨Tq9, hq9, Xq9, eq9, Wq9, stq9⟩ := stC Xq8 hx hZ eq8 Arq9 (j := (3 : Int32)) hinq9 (g := (mkF m 101 #[.val (.int kk), .val (.int ch)] [(.int (97 : Int32)), (.int (3 : Int32)), (.ref bq5), (.ref bq5)])) rfl rfl (hb hby d_method_5_code_101)
  have Nq9 := Fr.snoc Xq9 Nq8 (by omega)
  have zq9 := Wq9.size
  have Oq9 := Oq8.wr Wq9 (by omega)
  have Vq9 : Arv Z hq9 bq5 kq5 .char (10 : Int32) [(.int (99 : Int32)), (.int (114 : Int32)), (.int (101 : Int32)), (.int (97 : Int32)), (.int (0 : Int32)), (.int (0 : Int32)), (.int (0 : Int32)), (.int (0 : Int32)), (.int (0 : Int32)), (.int (0 : Int32))] (.int (0 : Int32)) := Arv.set Arq9 qq9 Sq9 Nnq9 Hq9 Gq9 (by decide) Wq9 3 rfl (Nat.le_of_ble_eq_true rfl)
  refine Goes.via stq9 ?_
  show Goes _ _ _ _ _ _ _ _ (Tq9.setTop (mkF m 102 #[.val (.int kk), .val (.int ch)] [(.ref bq5)]))
  refine Goes.via (fun _ k => XS.dup Xq9.here hx rfl (hb hby d_method_5_code_102) rfl rfl k) ?_
  show Goes _ _ _ _ _ _ _ _ (Tq9.setTop (mkF m 103 #[.val (.int kk), .val (.int ch)] [(.ref bq5), (.ref bq5)]))
  refine Goes.via (fun _ k => XT.iconstV Xq9.here hx rfl (4 : Int32) (hb hby d_method_5_code_103) (by decide) k) ?_
  show Goes _ _ _ _ _ _ _ _ (Tq9.setTop (mkF m 104 #[.val (.int kk), .val (.int ch)] [(.int (4 : Int32)), (.ref bq5), (.ref bq5)]))
  refine Goes.via (fun _ k => XT.bipushV Xq9.here hx rfl (116 : Int32) (hb hby d_method_5_code_104) (by decide) k) ?_
  show Goes _ _ _ _ _ _ _ _ (Tq9.setTop (mkF m 106 #[.val (.int kk), .val (.int ch)] [(.int (116 : Int32)), (.int (4 : Int32)), (.ref bq5), (.ref bq5)]))
  obtain ⟨clq10, Arq10, qq10, Sq10, Nnq10, Hq10, Gq10⟩ := id Vq9
  have hinq10 : ¬ ((4 : Int32) < 0 ∨ clq10.slots.size ≤ ((4 : Int32)).toNatClampNeg) := inb_of Sq10 ⟨by decide, by decide⟩
  obtain ⟨Tq10, hq10, Xq10, eq10, Wq10, stq10⟩ := stC Xq9 hx hZ eq9 Arq10 (j := (4 : Int32)) hinq10 (g := (mkF m 106 #[.val (.int kk), .val (.int ch)] [(.int (116 : Int32)), (.int (4 : Int32)), (.ref bq5), (.ref bq5)])) rfl rfl (hb hby d_method_5_code_106)
  have Nq10 := Fr.snoc Xq10 Nq9 (by omega)
  have zq10 := Wq10.size
  have Oq10 := Oq9.wr Wq10 (by omega)
  have Vq10 : Arv Z hq10 bq5 kq5 .char (10 : Int32) [(.int (99 : Int32)), (.int (114 : Int32)), (.int (101 : Int32)), (.int (97 : Int32)), (.int (116 : Int32)), (.int (0 : Int32)), (.int (0 : Int32)), (.int (0 : Int32)), (.int (0 : Int32)), (.int (0 : Int32))] (.int (0 : Int32)) := Arv.set Arq10 qq10 Sq10 Nnq10 Hq10 Gq10 (by decide) Wq10 4 rfl (Nat.le_of_ble_eq_true rfl)
  refine Goes.via stq10 ?_
  show Goes _ _ _ _ _ _ _ _ (Tq10.setTop (mkF m 107 #[.val (.int kk), .val (.int ch)] [(.ref bq5)]))
  refine Goes.via (fun _ k => XS.dup Xq10.here hx rfl (hb hby d_method_5_code_107) rfl rfl k) ?_
  show Goes _ _ _ _ _ _ _ _ (Tq10.setTop (mkF m 108 #[.val (.int kk), .val (.int ch)] [(.ref bq5), (.ref bq5)]))
  refine Goes.via (fun _ k => XT.iconstV Xq10.here hx rfl (5 : Int32) (hb hby d_method_5_code_108) (by decide) k) ?_
  show Goes _ _ _ _ _ _ _ _ (Tq10.setTop (mkF m 109 #[.val (.int kk), .val (.int ch)] [(.int (5 : Int32)), (.ref bq5), (.ref bq5)]))
  refine Goes.via (fun _ k => XT.bipushV Xq10.here hx rfl (101 : Int32) (hb hby d_method_5_code_109) (by decide) k) ?_
  show Goes _ _ _ _ _ _ _ _ (Tq10.setTop (mkF m 111 #[.val (.int kk), .val (.int ch)] [(.int (101 : Int32)), (.int (5 : Int32)), (.ref bq5), (.ref bq5)]))
  obtain ⟨clq11, Arq11, qq11, Sq11, Nnq11, Hq11, Gq11⟩ := id Vq10
  have hinq11 : ¬ ((5 : Int32) < 0 ∨ clq11.slots.size ≤ ((5 : Int32)).toNatClampNeg) := inb_of Sq11 ⟨by decide, by decide⟩
  obtain ⟨Tq11, hq11, Xq11, eq11, Wq11, stq11⟩ := stC Xq10 hx hZ eq10 Arq11 (j := (5 : Int32)) hinq11 (g := (mkF m 111 #[.val (.int kk), .val (.int ch)] [(.int (101 : Int32)), (.int (5 : Int32)), (.ref bq5), (.ref bq5)])) rfl rfl (hb hby d_method_5_code_111)
  have Nq11 := Fr.snoc Xq11 Nq10 (by omega)
  have zq11 := Wq11.size
  have Oq11 := Oq10.wr Wq11 (by omega)
  have Vq11 : Arv Z hq11 bq5 kq5 .char (10 : Int32) [(.int (99 : Int32)), (.int (114 : Int32)), (.int (101 : Int32)), (.int (97 : Int32)), (.int (116 : Int32)), (.int (101 : Int32)), (.int (0 : Int32)), (.int (0 : Int32)), (.int (0 : Int32)), (.int (0 : Int32))] (.int (0 : Int32)) := Arv.set Arq11 qq11 Sq11 Nnq11 Hq11 Gq11 (by decide) Wq11 5 rfl (Nat.le_of_ble_eq_true rfl)
  refine Goes.via stq11 ?_
  show Goes _ _ _ _ _ _ _ _ (Tq11.setTop (mkF m 112 #[.val (.int kk), .val (.int ch)] [(.ref bq5)]))
  refine Goes.via (fun _ k => XS.dup Xq11.here hx rfl (hb hby d_method_5_code_112) rfl rfl k) ?_
  show Goes _ _ _ _ _ _ _ _ (Tq11.setTop (mkF m 113 #[.val (.int kk), .val (.int ch)] [(.ref bq5), (.ref bq5)]))
  refine Goes.via (fun _ k => XT.bipushV Xq11.here hx rfl (6 : Int32) (hb hby d_method_5_code_113) (by decide) k) ?_
  show Goes _ _ _ _ _ _ _ _ (Tq11.setTop (mkF m 115 #[.val (.int kk), .val (.int ch)] [(.int (6 : Int32)), (.ref bq5), (.ref bq5)]))
  refine Goes.via (fun _ k => XT.bipushV Xq11.here hx rfl (100 : Int32) (hb hby d_method_5_code_115) (by decide) k) ?_
  show Goes _ _ _ _ _ _ _ _ (Tq11.setTop (mkF m 117 #[.val (.int kk), .val (.int ch)] [(.int (100 : Int32)), (.int (6 : Int32)), (.ref bq5), (.ref bq5)]))
  obtain ⟨clq12, Arq12, qq12, Sq12, Nnq12, Hq12, Gq12⟩ := id Vq11
  have hinq12 : ¬ ((6 : Int32) < 0 ∨ clq12.slots.size ≤ ((6 : Int32)).toNatClampNeg) := inb_of Sq12 ⟨by decide, by decide⟩
  obtain ⟨Tq12, hq12, Xq12, eq12, Wq12, stq12⟩ := stC Xq11 hx hZ eq11 Arq12 (j := (6 : Int32)) hinq12 (g := (mkF m 117 #[.val (.int kk), .val (.int ch)] [(.int (100 : Int32)), (.int (6 : Int32)), (.ref bq5), (.ref bq5)])) rfl rfl (hb hby d_method_5_code_117)
  have Nq12 := Fr.snoc Xq12 Nq11 (by omega)
  have zq12 := Wq12.size
  have Oq12 := Oq11.wr Wq12 (by omega)
  have Vq12 : Arv Z hq12 bq5 kq5 .char (10 : Int32) [(.int (99 : Int32)), (.int (114 : Int32)), (.int (101 : Int32)), (.int (97 : Int32)), (.int (116 : Int32)), (.int (101 : Int32)), (.int (100 : Int32)), (.int (0 : Int32)), (.int (0 : Int32)), (.int (0 : Int32))] (.int (0 : Int32)) := Arv.set Arq12 qq12 Sq12 Nnq12 Hq12 Gq12 (by decide) Wq12 6 rfl (Nat.le_of_ble_eq_true rfl)
  refine Goes.via stq12 ?_
  show Goes _ _ _ _ _ _ _ _ (Tq12.setTop (mkF m 118 #[.val (.int kk), .val (.int ch)] [(.ref bq5)]))
  refine Goes.via (fun _ k => XS.dup Xq12.here hx rfl (hb hby d_method_5_code_118) rfl rfl k) ?_
  show Goes _ _ _ _ _ _ _ _ (Tq12.setTop (mkF m 119 #[.val (.int kk), .val (.int ch)] [(.ref bq5), (.ref bq5)]))
  refine Goes.via (fun _ k => XT.bipushV Xq12.here hx rfl (7 : Int32) (hb hby d_method_5_code_119) (by decide) k) ?_
  show Goes _ _ _ _ _ _ _ _ (Tq12.setTop (mkF m 121 #[.val (.int kk), .val (.int ch)] [(.int (7 : Int32)), (.ref bq5), (.ref bq5)]))
  refine Goes.via (fun _ k => XT.bipushV Xq12.here hx rfl (65 : Int32) (hb hby d_method_5_code_121) (by decide) k) ?_
  show Goes _ _ _ _ _ _ _ _ (Tq12.setTop (mkF m 123 #[.val (.int kk), .val (.int ch)] [(.int (65 : Int32)), (.int (7 : Int32)), (.ref bq5), (.ref bq5)]))
  obtain ⟨clq13, Arq13, qq13, Sq13, Nnq13, Hq13, Gq13⟩ := id Vq12
  have hinq13 : ¬ ((7 : Int32) < 0 ∨ clq13.slots.size ≤ ((7 : Int32)).toNatClampNeg) := inb_of Sq13 ⟨by decide, by decide⟩
  obtain ⟨Tq13, hq13, Xq13, eq13, Wq13, stq13⟩ := stC Xq12 hx hZ eq12 Arq13 (j := (7 : Int32)) hinq13 (g := (mkF m 123 #[.val (.int kk), .val (.int ch)] [(.int (65 : Int32)), (.int (7 : Int32)), (.ref bq5), (.ref bq5)])) rfl rfl (hb hby d_method_5_code_123)
  have Nq13 := Fr.snoc Xq13 Nq12 (by omega)
  have zq13 := Wq13.size
  have Oq13 := Oq12.wr Wq13 (by omega)
  have Vq13 : Arv Z hq13 bq5 kq5 .char (10 : Int32) [(.int (99 : Int32)), (.int (114 : Int32)), (.int (101 : Int32)), (.int (97 : Int32)), (.int (116 : Int32)), (.int (101 : Int32)), (.int (100 : Int32)), (.int (65 : Int32)), (.int (0 : Int32)), (.int (0 : Int32))] (.int (0 : Int32)) := Arv.set Arq13 qq13 Sq13 Nnq13 Hq13 Gq13 (by decide) Wq13 7 rfl (Nat.le_of_ble_eq_true rfl)
  refine Goes.via stq13 ?_
  show Goes _ _ _ _ _ _ _ _ (Tq13.setTop (mkF m 124 #[.val (.int kk), .val (.int ch)] [(.ref bq5)]))
  refine Goes.via (fun _ k => XS.dup Xq13.here hx rfl (hb hby d_method_5_code_124) rfl rfl k) ?_
  show Goes _ _ _ _ _ _ _ _ (Tq13.setTop (mkF m 125 #[.val (.int kk), .val (.int ch)] [(.ref bq5), (.ref bq5)]))
  refine Goes.via (fun _ k => XT.bipushV Xq13.here hx rfl (8 : Int32) (hb hby d_method_5_code_125) (by decide) k) ?_
  show Goes _ _ _ _ _ _ _ _ (Tq13.setTop (mkF m 127 #[.val (.int kk), .val (.int ch)] [(.int (8 : Int32)), (.ref bq5), (.ref bq5)]))
  refine Goes.via (fun _ k => XT.bipushV Xq13.here hx rfl (116 : Int32) (hb hby d_method_5_code_127) (by decide) k) ?_
  show Goes _ _ _ _ _ _ _ _ (Tq13.setTop (mkF m 129 #[.val (.int kk), .val (.int ch)] [(.int (116 : Int32)), (.int (8 : Int32)), (.ref bq5), (.ref bq5)]))
  obtain ⟨clq14, Arq14, qq14, Sq14, Nnq14, Hq14, Gq14⟩ := id Vq13
  have hinq14 : ¬ ((8 : Int32) < 0 ∨ clq14.slots.size ≤ ((8 : Int32)).toNatClampNeg) := inb_of Sq14 ⟨by decide, by decide⟩
  obtain ⟨Tq14, hq14, Xq14, eq14, Wq14, stq14⟩ := stC Xq13 hx hZ eq13 Arq14 (j := (8 : Int32)) hinq14 (g := (mkF m 129 #[.val (.int kk), .val (.int ch)] [(.int (116 : Int32)), (.int (8 : Int32)), (.ref bq5), (.ref bq5)])) rfl rfl (hb hby d_method_5_code_129)
  have Nq14 := Fr.snoc Xq14 Nq13 (by omega)
  have zq14 := Wq14.size
  have Oq14 := Oq13.wr Wq14 (by omega)
  have Vq14 : Arv Z hq14 bq5 kq5 .char (10 : Int32) [(.int (99 : Int32)), (.int (114 : Int32)), (.int (101 : Int32)), (.int (97 : Int32)), (.int (116 : Int32)), (.int (101 : Int32)), (.int (100 : Int32)), (.int (65 : Int32)), (.int (116 : Int32)), (.int (0 : Int32))] (.int (0 : Int32)) := Arv.set Arq14 qq14 Sq14 Nnq14 Hq14 Gq14 (by decide) Wq14 8 rfl (Nat.le_of_ble_eq_true rfl)
  refine Goes.via stq14 ?_
  show Goes _ _ _ _ _ _ _ _ (Tq14.setTop (mkF m 130 #[.val (.int kk), .val (.int ch)] [(.ref bq5)]))
  refine Goes.via (fun _ k => XS.dup Xq14.here hx rfl (hb hby d_method_5_code_130) rfl rfl k) ?_
  show Goes _ _ _ _ _ _ _ _ (Tq14.setTop (mkF m 131 #[.val (.int kk), .val (.int ch)] [(.ref bq5), (.ref bq5)]))
  refine Goes.via (fun _ k => XT.bipushV Xq14.here hx rfl (9 : Int32) (hb hby d_method_5_code_131) (by decide) k) ?_
  show Goes _ _ _ _ _ _ _ _ (Tq14.setTop (mkF m 133 #[.val (.int kk), .val (.int ch)] [(.int (9 : Int32)), (.ref bq5), (.ref bq5)]))
  refine Goes.via (fun _ k => XS.iloadN Xq14.here hx rfl (hb hby d_method_5_code_133) rfl k) ?_
  show Goes _ _ _ _ _ _ _ _ (Tq14.setTop (mkF m 134 #[.val (.int kk), .val (.int ch)] [(.int ch), (.int (9 : Int32)), (.ref bq5), (.ref bq5)]))
  obtain ⟨clq15, Arq15, qq15, Sq15, Nnq15, Hq15, Gq15⟩ := id Vq14
  have hinq15 : ¬ ((9 : Int32) < 0 ∨ clq15.slots.size ≤ ((9 : Int32)).toNatClampNeg) := inb_of Sq15 ⟨by decide, by decide⟩
  obtain ⟨Tq15, hq15, Xq15, eq15, Wq15, stq15⟩ := stC Xq14 hx hZ eq14 Arq15 (j := (9 : Int32)) hinq15 (g := (mkF m 134 #[.val (.int kk), .val (.int ch)] [(.int ch), (.int (9 : Int32)), (.ref bq5), (.ref bq5)])) rfl rfl (hb hby d_method_5_code_134)
  have Nq15 := Fr.snoc Xq15 Nq14 (by omega)
  have zq15 := Wq15.size
  have Oq15 := Oq14.wr Wq15 (by omega)
  have Vq15 : Arv Z hq15 bq5 kq5 .char (10 : Int32) [(.int (99 : Int32)), (.int (114 : Int32)), (.int (101 : Int32)), (.int (97 : Int32)), (.int (116 : Int32)), (.int (101 : Int32)), (.int (100 : Int32)), (.int (65 : Int32)), (.int (116 : Int32)), (.int (nar .char ch))] (.int (0 : Int32)) := Arv.set Arq15 qq15 Sq15 Nnq15 Hq15 Gq15 (fits_nar_char _) Wq15 9 rfl (Nat.le_of_ble_eq_true rfl)
  refine Goes.via stq15 ?_
  show Goes _ _ _ _ _ _ _ _ (Tq15.setTop (mkF m 135 #[.val (.int kk), .val (.int ch)] [(.ref bq5)]))
  refine goRetA Xq15 hx hrt rfl hlk Nq15 (by show _ ≤ 1; omega) (by show _ ≤ 10; omega) rfl (hb hby d_method_5_code_135) ?_
  try rw [eq15]
  have VRq16 : Arv Z hq15 bq5 kq5 .char (10 : Int32) [(.int (99 : Int32)), (.int (114 : Int32)), (.int (101 : Int32)), (.int (97 : Int32)), (.int (116 : Int32)), (.int (101 : Int32)), (.int (100 : Int32)), (.int (65 : Int32)), (.int (116 : Int32)), (.int ch)] (.int (0 : Int32)) := by
    have q := Vq15
    rw [narc_in hch] at q
    exact q
  exact ⟨bq5, kq5, [(99 : Int32), (114 : Int32), (101 : Int32), (97 : Int32), (116 : Int32), (101 : Int32), (100 : Int32), (65 : Int32), (116 : Int32), ch], 10, rfl, by omega, ((((((((((K0.wr Wq6 (Or.inr (by omega))).wr Wq7 (Or.inr (by omega))).wr Wq8 (Or.inr (by omega))).wr Wq9 (Or.inr (by omega))).wr Wq10 (Or.inr (by omega))).wr Wq11 (Or.inr (by omega))).wr Wq12 (Or.inr (by omega))).wr Wq13 (Or.inr (by omega))).wr Wq14 (Or.inr (by omega))).wr Wq15 (Or.inr (by omega))), VRq16, by decide, by decide, rfl, (chS (by decide) (chS (by decide) (chS (by decide) (chS (by decide) (chS (by decide) (chS (by decide) (chS (by decide) (chS (by decide) (chS (by decide) (chS hch ch0))))))))))⟩
set_option maxRecDepth 65536 in
set_option maxHeartbeats 40000000 in
theorem appC_c18 (l : Launch) (Z : State) (aw : Array Value) (hw : ∀ d ∈ tables_1, d.before aw Z = true) (kk : Int32) (ch : Int32) (bq6 : Nat) (kq6 : ClassId) {p : Program} {e : Env} {s : State} {m : MethodId} {args : Array Value} {below : List Frame} {meth : Method} {c : Code} {T : State} {locs : List Loc} {cells slots n0 : Nat} {h0 h1 : Heap} (hx : p.tables.exec = Jvm.exec) (hby : c.code = method_5_code) (hml : c.maxLocals = 2) (hrt : meth.sig.returnType = some (.array .char)) (hlk : meth.locks = false) (hnm : meth.name = "appended") (hZ : Z.Warmed39 s.vm) (hown : s.vm.findClass "com/example/dispatch_note/dispatchnote/contract/ManagedMemberNamedPinLaw" = some m.cls) (X : Stand p l e ({ frames := 0, cells := 1, slots := 10, locals := 0 } : Room) s m args below meth c T locs cells slots) (e0 : T.heap = h1) (N : Fr n0 locs) (hcells : cells ≤ 1) (hslots : slots ≤ 10) (O : Old Z n0 h1) (K0 : Keep h0 h1 []) (pf0 : Arv Z h1 bq6 kq6 .char (10 : Int32) [(.int (0 : Int32)), (.int (0 : Int32)), (.int (0 : Int32)), (.int (0 : Int32)), (.int (0 : Int32)), (.int (0 : Int32)), (.int (0 : Int32)), (.int (0 : Int32)), (.int (0 : Int32)), (.int (0 : Int32))] (.int (0 : Int32))) (hch : ¬ ch < 0 ∧ ¬ (255 : Int32) < ch) (cq1 : ¬ (kk = (0 : Int32))) (cq3 : ¬ (kk = (1 : Int32))) (cq4 : ¬ (kk = (2 : Int32))) (cn1 : n0 ≤ bq6) (cn2 : h0.size ≤ bq6) :
    Goes p e below s ({ frames := 0, cells := 1, slots := 10, locals := 0 } : Room).cells ({ frames := 0, cells := 1, slots := 10, locals := 0 } : Room).slots n0 (fun vv hh => ∃ r : Nat, ∃ kr : ClassId, ∃ cs : List Int32, ∃ nn : Nat, vv = some (.ref r) ∧ h0.size ≤ r ∧ Keep h0 hh [] ∧ Arv Z hh r kr .char (Int32.ofNat nn) (cs.map Value.int) (.int (0 : Int32)) ∧ (0 < nn ∧ nn ≤ 10 ∧ cs.length = nn ∧ ∀ c ∈ cs, ¬ c < 0 ∧ ¬ (255 : Int32) < c)) (T.setTop (mkF m 142 #[.val (.int kk), .val (.int ch)] [(.int (0 : Int32)), (.ref bq6), (.ref bq6)])) := by
  have zO := O.le
  have zK := K0.1
  have lt_bq6 := lt_nat pf0.lt
  show Goes _ _ _ _ _ _ _ _ (T.setTop (mkF m 142 #[.val (.int kk), .val (.int ch)] [(.int (0 : Int32)), (.ref bq6), (.ref bq6)]))
  refine Goes.via (fun _ k => XT.bipushV X.here hx rfl (117 : Int32) (hb hby d_method_5_code_142) (by decide) k) ?_
  show Goes _ _ _ _ _ _ _ _ (T.setTop (mkF m 144 #[.val (.int kk), .val (.int ch)] [(.int (117 : Int32)), (.int (0 : Int32)), (.ref bq6), (.ref bq6)]))
  obtain ⟨clq7, Arq7, qq7, Sq7, Nnq7, Hq7, Gq7⟩ := id pf0
  have hinq7 : ¬ ((0 : Int32) < 0 ∨ clq7.slots.size ≤ ((0 : Int32)).toNatClampNeg) := inb_of Sq7 ⟨by decide, by decide⟩
  obtain ⟨Tq7, hq7, Xq7, eq7, Wq7, stq7⟩ := stC X hx hZ e0 Arq7 (j := (0 : Int32)) hinq7 (g := (mkF m 144 #[.val (.int kk), .val (.int ch)] [(.int (117 : Int32)), (.int (0 : Int32)), (.ref bq6), (.ref bq6)])) rfl rfl (hb hby d_method_5_code_144)
  have Nq7 := Fr.snoc Xq7 N (by omega)
  have zq7 := Wq7.size
  have Oq7 := O.wr Wq7 (by omega)
  have Vq7 : Arv Z hq7 bq6 kq6 .char (10 : Int32) [(.int (117 : Int32)), (.int (0 : Int32)), (.int (0 : Int32)), (.int (0 : Int32)), (.int (0 : Int32)), (.int (0 : Int32)), (.int (0 : Int32)), (.int (0 : Int32)), (.int (0 : Int32)), (.int (0 : Int32))] (.int (0 : Int32)) := Arv.set Arq7 qq7 Sq7 Nnq7 Hq7 Gq7 (by decide) Wq7 0 rfl (Nat.le_of_ble_eq_true rfl)
  refine Goes.via stq7 ?_
  show Goes _ _ _ _ _ _ _ _ (Tq7.setTop (mkF m 145 #[.val (.int kk), .val (.int ch)] [(.ref bq6)]))
  refine Goes.via (fun _ k => XS.dup Xq7.here hx rfl (hb hby d_method_5_code_145) rfl rfl k) ?_
  show Goes _ _ _ _ _ _ _ _ (Tq7.setTop (mkF m 146 #[.val (.int kk), .val (.int ch)] [(.ref bq6), (.ref bq6)]))
  refine Goes.via (fun _ k => XT.iconstV Xq7.here hx rfl (1 : Int32) (hb hby d_method_5_code_146) (by decide) k) ?_
  show Goes _ _ _ _ _ _ _ _ (Tq7.setTop (mkF m 147 #[.val (.int kk), .val (.int ch)] [(.int (1 : Int32)), (.ref bq6), (.ref bq6)]))
  refine Goes.via (fun _ k => XT.bipushV Xq7.here hx rfl (112 : Int32) (hb hby d_method_5_code_147) (by decide) k) ?_
  show Goes _ _ _ _ _ _ _ _ (Tq7.setTop (mkF m 149 #[.val (.int kk), .val (.int ch)] [(.int (112 : Int32)), (.int (1 : Int32)), (.ref bq6), (.ref bq6)]))
  obtain ⟨clq8, Arq8, qq8, Sq8, Nnq8, Hq8, Gq8⟩ := id Vq7
  have hinq8 : ¬ ((1 : Int32) < 0 ∨ clq8.slots.size ≤ ((1 : Int32)).toNatClampNeg) := inb_of Sq8 ⟨by decide, by decide⟩
  obtain ⟨Tq8, hq8, Xq8, eq8, Wq8, stq8⟩ := stC Xq7 hx hZ eq7 Arq8 (j := (1 : Int32)) hinq8 (g := (mkF m 149 #[.val (.int kk), .val (.int ch)] [(.int (112 : Int32)), (.int (1 : Int32)), (.ref bq6), (.ref bq6)])) rfl rfl (hb hby d_method_5_code_149)
  have Nq8 := Fr.snoc Xq8 Nq7 (by omega)
  have zq8 := Wq8.size
  have Oq8 := Oq7.wr Wq8 (by omega)
  have Vq8 : Arv Z hq8 bq6 kq6 .char (10 : Int32) [(.int (117 : Int32)), (.int (112 : Int32)), (.int (0 : Int32)), (.int (0 : Int32)), (.int (0 : Int32)), (.int (0 : Int32)), (.int (0 : Int32)), (.int (0 : Int32)), (.int (0 : Int32)), (.int (0 : Int32))] (.int (0 : Int32)) := Arv.set Arq8 qq8 Sq8 Nnq8 Hq8 Gq8 (by decide) Wq8 1 rfl (Nat.le_of_ble_eq_true rfl)
  refine Goes.via stq8 ?_
  show Goes _ _ _ _ _ _ _ _ (Tq8.setTop (mkF m 150 #[.val (.int kk), .val (.int ch)] [(.ref bq6)]))
  refine Goes.via (fun _ k => XS.dup Xq8.here hx rfl (hb hby d_method_5_code_150) rfl rfl k) ?_
  show Goes _ _ _ _ _ _ _ _ (Tq8.setTop (mkF m 151 #[.val (.int kk), .val (.int ch)] [(.ref bq6), (.ref bq6)]))
  refine Goes.via (fun _ k => XT.iconstV Xq8.here hx rfl (2 : Int32) (hb hby d_method_5_code_151) (by decide) k) ?_
  show Goes _ _ _ _ _ _ _ _ (Tq8.setTop (mkF m 152 #[.val (.int kk), .val (.int ch)] [(.int (2 : Int32)), (.ref bq6), (.ref bq6)]))
  refine Goes.via (fun _ k => XT.bipushV Xq8.here hx rfl (100 : Int32) (hb hby d_method_5_code_152) (by decide) k) ?_
  show Goes _ _ _ _ _ _ _ _ (Tq8.setTop (mkF m 154 #[.val (.int kk), .val (.int ch)] [(.int (100 : Int32)), (.int (2 : Int32)), (.ref bq6), (.ref bq6)]))
  obtain ⟨clq9, Arq9, qq9, Sq9, Nnq9, Hq9, Gq9⟩ := id Vq8
  have hinq9 : ¬ ((2 : Int32) < 0 ∨ clq9.slots.size ≤ ((2 : Int32)).toNatClampNeg) := inb_of Sq9 ⟨by decide, by decide⟩
  obtain ⟨Tq9, hq9, Xq9, eq9, Wq9, stq9⟩ := stC Xq8 hx hZ eq8 Arq9 (j := (2 : Int32)) hinq9 (g := (mkF m 154 #[.val (.int kk), .val (.int ch)] [(.int (100 : Int32)), (.int (2 : Int32)), (.ref bq6), (.ref bq6)])) rfl rfl (hb hby d_method_5_code_154)
  have Nq9 := Fr.snoc Xq9 Nq8 (by omega)
  have zq9 := Wq9.size
  have Oq9 := Oq8.wr Wq9 (by omega)
  have Vq9 : Arv Z hq9 bq6 kq6 .char (10 : Int32) [(.int (117 : Int32)), (.int (112 : Int32)), (.int (100 : Int32)), (.int (0 : Int32)), (.int (0 : Int32)), (.int (0 : Int32)), (.int (0 : Int32)), (.int (0 : Int32)), (.int (0 : Int32)), (.int (0 : Int32))] (.int (0 : Int32)) := Arv.set Arq9 qq9 Sq9 Nnq9 Hq9 Gq9 (by decide) Wq9 2 rfl (Nat.le_of_ble_eq_true rfl)
  refine Goes.via stq9 ?_
  show Goes _ _ _ _ _ _ _ _ (Tq9.setTop (mkF m 155 #[.val (.int kk), .val (.int ch)] [(.ref bq6)]))
  refine Goes.via (fun _ k => XS.dup Xq9.here hx rfl (hb hby d_method_5_code_155) rfl rfl k) ?_
  show Goes _ _ _ _ _ _ _ _ (Tq9.setTop (mkF m 156 #[.val (.int kk), .val (.int ch)] [(.ref bq6), (.ref bq6)]))
  refine Goes.via (fun _ k => XT.iconstV Xq9.here hx rfl (3 : Int32) (hb hby d_method_5_code_156) (by decide) k) ?_
  show Goes _ _ _ _ _ _ _ _ (Tq9.setTop (mkF m 157 #[.val (.int kk), .val (.int ch)] [(.int (3 : Int32)), (.ref bq6), (.ref bq6)]))
  refine Goes.via (fun _ k => XT.bipushV Xq9.here hx rfl (97 : Int32) (hb hby d_method_5_code_157) (by decide) k) ?_
  show Goes _ _ _ _ _ _ _ _ (Tq9.setTop (mkF m 159 #[.val (.int kk), .val (.int ch)] [(.int (97 : Int32)), (.int (3 : Int32)), (.ref bq6), (.ref bq6)]))
  obtain ⟨clq10, Arq10, qq10, Sq10, Nnq10, Hq10, Gq10⟩ := id Vq9
  have hinq10 : ¬ ((3 : Int32) < 0 ∨ clq10.slots.size ≤ ((3 : Int32)).toNatClampNeg) := inb_of Sq10 ⟨by decide, by decide⟩
  obtain ⟨Tq10, hq10, Xq10, eq10, Wq10, stq10⟩ := stC Xq9 hx hZ eq9 Arq10 (j := (3 : Int32)) hinq10 (g := (mkF m 159 #[.val (.int kk), .val (.int ch)] [(.int (97 : Int32)), (.int (3 : Int32)), (.ref bq6), (.ref bq6)])) rfl rfl (hb hby d_method_5_code_159)
  have Nq10 := Fr.snoc Xq10 Nq9 (by omega)
  have zq10 := Wq10.size
  have Oq10 := Oq9.wr Wq10 (by omega)
  have Vq10 : Arv Z hq10 bq6 kq6 .char (10 : Int32) [(.int (117 : Int32)), (.int (112 : Int32)), (.int (100 : Int32)), (.int (97 : Int32)), (.int (0 : Int32)), (.int (0 : Int32)), (.int (0 : Int32)), (.int (0 : Int32)), (.int (0 : Int32)), (.int (0 : Int32))] (.int (0 : Int32)) := Arv.set Arq10 qq10 Sq10 Nnq10 Hq10 Gq10 (by decide) Wq10 3 rfl (Nat.le_of_ble_eq_true rfl)
  refine Goes.via stq10 ?_
  show Goes _ _ _ _ _ _ _ _ (Tq10.setTop (mkF m 160 #[.val (.int kk), .val (.int ch)] [(.ref bq6)]))
  refine Goes.via (fun _ k => XS.dup Xq10.here hx rfl (hb hby d_method_5_code_160) rfl rfl k) ?_
  show Goes _ _ _ _ _ _ _ _ (Tq10.setTop (mkF m 161 #[.val (.int kk), .val (.int ch)] [(.ref bq6), (.ref bq6)]))
  refine Goes.via (fun _ k => XT.iconstV Xq10.here hx rfl (4 : Int32) (hb hby d_method_5_code_161) (by decide) k) ?_
  show Goes _ _ _ _ _ _ _ _ (Tq10.setTop (mkF m 162 #[.val (.int kk), .val (.int ch)] [(.int (4 : Int32)), (.ref bq6), (.ref bq6)]))
  refine Goes.via (fun _ k => XT.bipushV Xq10.here hx rfl (116 : Int32) (hb hby d_method_5_code_162) (by decide) k) ?_
  show Goes _ _ _ _ _ _ _ _ (Tq10.setTop (mkF m 164 #[.val (.int kk), .val (.int ch)] [(.int (116 : Int32)), (.int (4 : Int32)), (.ref bq6), (.ref bq6)]))
  obtain ⟨clq11, Arq11, qq11, Sq11, Nnq11, Hq11, Gq11⟩ := id Vq10
  have hinq11 : ¬ ((4 : Int32) < 0 ∨ clq11.slots.size ≤ ((4 : Int32)).toNatClampNeg) := inb_of Sq11 ⟨by decide, by decide⟩
  obtain ⟨Tq11, hq11, Xq11, eq11, Wq11, stq11⟩ := stC Xq10 hx hZ eq10 Arq11 (j := (4 : Int32)) hinq11 (g := (mkF m 164 #[.val (.int kk), .val (.int ch)] [(.int (116 : Int32)), (.int (4 : Int32)), (.ref bq6), (.ref bq6)])) rfl rfl (hb hby d_method_5_code_164)
  have Nq11 := Fr.snoc Xq11 Nq10 (by omega)
  have zq11 := Wq11.size
  have Oq11 := Oq10.wr Wq11 (by omega)
  have Vq11 : Arv Z hq11 bq6 kq6 .char (10 : Int32) [(.int (117 : Int32)), (.int (112 : Int32)), (.int (100 : Int32)), (.int (97 : Int32)), (.int (116 : Int32)), (.int (0 : Int32)), (.int (0 : Int32)), (.int (0 : Int32)), (.int (0 : Int32)), (.int (0 : Int32))] (.int (0 : Int32)) := Arv.set Arq11 qq11 Sq11 Nnq11 Hq11 Gq11 (by decide) Wq11 4 rfl (Nat.le_of_ble_eq_true rfl)
  refine Goes.via stq11 ?_
  show Goes _ _ _ _ _ _ _ _ (Tq11.setTop (mkF m 165 #[.val (.int kk), .val (.int ch)] [(.ref bq6)]))
  refine Goes.via (fun _ k => XS.dup Xq11.here hx rfl (hb hby d_method_5_code_165) rfl rfl k) ?_
  show Goes _ _ _ _ _ _ _ _ (Tq11.setTop (mkF m 166 #[.val (.int kk), .val (.int ch)] [(.ref bq6), (.ref bq6)]))
  refine Goes.via (fun _ k => XT.iconstV Xq11.here hx rfl (5 : Int32) (hb hby d_method_5_code_166) (by decide) k) ?_
  show Goes _ _ _ _ _ _ _ _ (Tq11.setTop (mkF m 167 #[.val (.int kk), .val (.int ch)] [(.int (5 : Int32)), (.ref bq6), (.ref bq6)]))
  refine Goes.via (fun _ k => XT.bipushV Xq11.here hx rfl (101 : Int32) (hb hby d_method_5_code_167) (by decide) k) ?_
  show Goes _ _ _ _ _ _ _ _ (Tq11.setTop (mkF m 169 #[.val (.int kk), .val (.int ch)] [(.int (101 : Int32)), (.int (5 : Int32)), (.ref bq6), (.ref bq6)]))
  obtain ⟨clq12, Arq12, qq12, Sq12, Nnq12, Hq12, Gq12⟩ := id Vq11
  have hinq12 : ¬ ((5 : Int32) < 0 ∨ clq12.slots.size ≤ ((5 : Int32)).toNatClampNeg) := inb_of Sq12 ⟨by decide, by decide⟩
  obtain ⟨Tq12, hq12, Xq12, eq12, Wq12, stq12⟩ := stC Xq11 hx hZ eq11 Arq12 (j := (5 : Int32)) hinq12 (g := (mkF m 169 #[.val (.int kk), .val (.int ch)] [(.int (101 : Int32)), (.int (5 : Int32)), (.ref bq6), (.ref bq6)])) rfl rfl (hb hby d_method_5_code_169)
  have Nq12 := Fr.snoc Xq12 Nq11 (by omega)
  have zq12 := Wq12.size
  have Oq12 := Oq11.wr Wq12 (by omega)
  have Vq12 : Arv Z hq12 bq6 kq6 .char (10 : Int32) [(.int (117 : Int32)), (.int (112 : Int32)), (.int (100 : Int32)), (.int (97 : Int32)), (.int (116 : Int32)), (.int (101 : Int32)), (.int (0 : Int32)), (.int (0 : Int32)), (.int (0 : Int32)), (.int (0 : Int32))] (.int (0 : Int32)) := Arv.set Arq12 qq12 Sq12 Nnq12 Hq12 Gq12 (by decide) Wq12 5 rfl (Nat.le_of_ble_eq_true rfl)
  refine Goes.via stq12 ?_
  show Goes _ _ _ _ _ _ _ _ (Tq12.setTop (mkF m 170 #[.val (.int kk), .val (.int ch)] [(.ref bq6)]))
  refine Goes.via (fun _ k => XS.dup Xq12.here hx rfl (hb hby d_method_5_code_170) rfl rfl k) ?_
  show Goes _ _ _ _ _ _ _ _ (Tq12.setTop (mkF m 171 #[.val (.int kk), .val (.int ch)] [(.ref bq6), (.ref bq6)]))
  refine Goes.via (fun _ k => XT.bipushV Xq12.here hx rfl (6 : Int32) (hb hby d_method_5_code_171) (by decide) k) ?_
  show Goes _ _ _ _ _ _ _ _ (Tq12.setTop (mkF m 173 #[.val (.int kk), .val (.int ch)] [(.int (6 : Int32)), (.ref bq6), (.ref bq6)]))
  refine Goes.via (fun _ k => XT.bipushV Xq12.here hx rfl (100 : Int32) (hb hby d_method_5_code_173) (by decide) k) ?_
  show Goes _ _ _ _ _ _ _ _ (Tq12.setTop (mkF m 175 #[.val (.int kk), .val (.int ch)] [(.int (100 : Int32)), (.int (6 : Int32)), (.ref bq6), (.ref bq6)]))
  obtain ⟨clq13, Arq13, qq13, Sq13, Nnq13, Hq13, Gq13⟩ := id Vq12
  have hinq13 : ¬ ((6 : Int32) < 0 ∨ clq13.slots.size ≤ ((6 : Int32)).toNatClampNeg) := inb_of Sq13 ⟨by decide, by decide⟩
  obtain ⟨Tq13, hq13, Xq13, eq13, Wq13, stq13⟩ := stC Xq12 hx hZ eq12 Arq13 (j := (6 : Int32)) hinq13 (g := (mkF m 175 #[.val (.int kk), .val (.int ch)] [(.int (100 : Int32)), (.int (6 : Int32)), (.ref bq6), (.ref bq6)])) rfl rfl (hb hby d_method_5_code_175)
  have Nq13 := Fr.snoc Xq13 Nq12 (by omega)
  have zq13 := Wq13.size
  have Oq13 := Oq12.wr Wq13 (by omega)
  have Vq13 : Arv Z hq13 bq6 kq6 .char (10 : Int32) [(.int (117 : Int32)), (.int (112 : Int32)), (.int (100 : Int32)), (.int (97 : Int32)), (.int (116 : Int32)), (.int (101 : Int32)), (.int (100 : Int32)), (.int (0 : Int32)), (.int (0 : Int32)), (.int (0 : Int32))] (.int (0 : Int32)) := Arv.set Arq13 qq13 Sq13 Nnq13 Hq13 Gq13 (by decide) Wq13 6 rfl (Nat.le_of_ble_eq_true rfl)
  refine Goes.via stq13 ?_
  show Goes _ _ _ _ _ _ _ _ (Tq13.setTop (mkF m 176 #[.val (.int kk), .val (.int ch)] [(.ref bq6)]))
  refine Goes.via (fun _ k => XS.dup Xq13.here hx rfl (hb hby d_method_5_code_176) rfl rfl k) ?_
  show Goes _ _ _ _ _ _ _ _ (Tq13.setTop (mkF m 177 #[.val (.int kk), .val (.int ch)] [(.ref bq6), (.ref bq6)]))
  refine Goes.via (fun _ k => XT.bipushV Xq13.here hx rfl (7 : Int32) (hb hby d_method_5_code_177) (by decide) k) ?_
  show Goes _ _ _ _ _ _ _ _ (Tq13.setTop (mkF m 179 #[.val (.int kk), .val (.int ch)] [(.int (7 : Int32)), (.ref bq6), (.ref bq6)]))
  refine Goes.via (fun _ k => XT.bipushV Xq13.here hx rfl (65 : Int32) (hb hby d_method_5_code_179) (by decide) k) ?_
  show Goes _ _ _ _ _ _ _ _ (Tq13.setTop (mkF m 181 #[.val (.int kk), .val (.int ch)] [(.int (65 : Int32)), (.int (7 : Int32)), (.ref bq6), (.ref bq6)]))
  obtain ⟨clq14, Arq14, qq14, Sq14, Nnq14, Hq14, Gq14⟩ := id Vq13
  have hinq14 : ¬ ((7 : Int32) < 0 ∨ clq14.slots.size ≤ ((7 : Int32)).toNatClampNeg) := inb_of Sq14 ⟨by decide, by decide⟩
  obtain ⟨Tq14, hq14, Xq14, eq14, Wq14, stq14⟩ := stC Xq13 hx hZ eq13 Arq14 (j := (7 : Int32)) hinq14 (g := (mkF m 181 #[.val (.int kk), .val (.int ch)] [(.int (65 : Int32)), (.int (7 : Int32)), (.ref bq6), (.ref bq6)])) rfl rfl (hb hby d_method_5_code_181)
  have Nq14 := Fr.snoc Xq14 Nq13 (by omega)
  have zq14 := Wq14.size
  have Oq14 := Oq13.wr Wq14 (by omega)
  have Vq14 : Arv Z hq14 bq6 kq6 .char (10 : Int32) [(.int (117 : Int32)), (.int (112 : Int32)), (.int (100 : Int32)), (.int (97 : Int32)), (.int (116 : Int32)), (.int (101 : Int32)), (.int (100 : Int32)), (.int (65 : Int32)), (.int (0 : Int32)), (.int (0 : Int32))] (.int (0 : Int32)) := Arv.set Arq14 qq14 Sq14 Nnq14 Hq14 Gq14 (by decide) Wq14 7 rfl (Nat.le_of_ble_eq_true rfl)
  refine Goes.via stq14 ?_
  show Goes _ _ _ _ _ _ _ _ (Tq14.setTop (mkF m 182 #[.val (.int kk), .val (.int ch)] [(.ref bq6)]))
  refine Goes.via (fun _ k => XS.dup Xq14.here hx rfl (hb hby d_method_5_code_182) rfl rfl k) ?_
  show Goes _ _ _ _ _ _ _ _ (Tq14.setTop (mkF m 183 #[.val (.int kk), .val (.int ch)] [(.ref bq6), (.ref bq6)]))
  refine Goes.via (fun _ k => XT.bipushV Xq14.here hx rfl (8 : Int32) (hb hby d_method_5_code_183) (by decide) k) ?_
  show Goes _ _ _ _ _ _ _ _ (Tq14.setTop (mkF m 185 #[.val (.int kk), .val (.int ch)] [(.int (8 : Int32)), (.ref bq6), (.ref bq6)]))
  refine Goes.via (fun _ k => XT.bipushV Xq14.here hx rfl (116 : Int32) (hb hby d_method_5_code_185) (by decide) k) ?_
  show Goes _ _ _ _ _ _ _ _ (Tq14.setTop (mkF m 187 #[.val (.int kk), .val (.int ch)] [(.int (116 : Int32)), (.int (8 : Int32)), (.ref bq6), (.ref bq6)]))
  obtain ⟨clq15, Arq15, qq15, Sq15, Nnq15, Hq15, Gq15⟩ := id Vq14
  have hinq15 : ¬ ((8 : Int32) < 0 ∨ clq15.slots.size ≤ ((8 : Int32)).toNatClampNeg) := inb_of Sq15 ⟨by decide, by decide⟩
  obtain ⟨Tq15, hq15, Xq15, eq15, Wq15, stq15⟩ := stC Xq14 hx hZ eq14 Arq15 (j := (8 : Int32)) hinq15 (g := (mkF m 187 #[.val (.int kk), .val (.int ch)] [(.int (116 : Int32)), (.int (8 : Int32)), (.ref bq6), (.ref bq6)])) rfl rfl (hb hby d_method_5_code_187)
  have Nq15 := Fr.snoc Xq15 Nq14 (by omega)
  have zq15 := Wq15.size
  have Oq15 := Oq14.wr Wq15 (by omega)
  have Vq15 : Arv Z hq15 bq6 kq6 .char (10 : Int32) [(.int (117 : Int32)), (.int (112 : Int32)), (.int (100 : Int32)), (.int (97 : Int32)), (.int (116 : Int32)), (.int (101 : Int32)), (.int (100 : Int32)), (.int (65 : Int32)), (.int (116 : Int32)), (.int (0 : Int32))] (.int (0 : Int32)) := Arv.set Arq15 qq15 Sq15 Nnq15 Hq15 Gq15 (by decide) Wq15 8 rfl (Nat.le_of_ble_eq_true rfl)
  refine Goes.via stq15 ?_
  show Goes _ _ _ _ _ _ _ _ (Tq15.setTop (mkF m 188 #[.val (.int kk), .val (.int ch)] [(.ref bq6)]))
  refine Goes.via (fun _ k => XS.dup Xq15.here hx rfl (hb hby d_method_5_code_188) rfl rfl k) ?_
  show Goes _ _ _ _ _ _ _ _ (Tq15.setTop (mkF m 189 #[.val (.int kk), .val (.int ch)] [(.ref bq6), (.ref bq6)]))
  refine Goes.via (fun _ k => XT.bipushV Xq15.here hx rfl (9 : Int32) (hb hby d_method_5_code_189) (by decide) k) ?_
  show Goes _ _ _ _ _ _ _ _ (Tq15.setTop (mkF m 191 #[.val (.int kk), .val (.int ch)] [(.int (9 : Int32)), (.ref bq6), (.ref bq6)]))
  refine Goes.via (fun _ k => XS.iloadN Xq15.here hx rfl (hb hby d_method_5_code_191) rfl k) ?_
  show Goes _ _ _ _ _ _ _ _ (Tq15.setTop (mkF m 192 #[.val (.int kk), .val (.int ch)] [(.int ch), (.int (9 : Int32)), (.ref bq6), (.ref bq6)]))
  obtain ⟨clq16, Arq16, qq16, Sq16, Nnq16, Hq16, Gq16⟩ := id Vq15
  have hinq16 : ¬ ((9 : Int32) < 0 ∨ clq16.slots.size ≤ ((9 : Int32)).toNatClampNeg) := inb_of Sq16 ⟨by decide, by decide⟩
  obtain ⟨Tq16, hq16, Xq16, eq16, Wq16, stq16⟩ := stC Xq15 hx hZ eq15 Arq16 (j := (9 : Int32)) hinq16 (g := (mkF m 192 #[.val (.int kk), .val (.int ch)] [(.int ch), (.int (9 : Int32)), (.ref bq6), (.ref bq6)])) rfl rfl (hb hby d_method_5_code_192)
  have Nq16 := Fr.snoc Xq16 Nq15 (by omega)
  have zq16 := Wq16.size
  have Oq16 := Oq15.wr Wq16 (by omega)
  have Vq16 : Arv Z hq16 bq6 kq6 .char (10 : Int32) [(.int (117 : Int32)), (.int (112 : Int32)), (.int (100 : Int32)), (.int (97 : Int32)), (.int (116 : Int32)), (.int (101 : Int32)), (.int (100 : Int32)), (.int (65 : Int32)), (.int (116 : Int32)), (.int (nar .char ch))] (.int (0 : Int32)) := Arv.set Arq16 qq16 Sq16 Nnq16 Hq16 Gq16 (fits_nar_char _) Wq16 9 rfl (Nat.le_of_ble_eq_true rfl)
  refine Goes.via stq16 ?_
  show Goes _ _ _ _ _ _ _ _ (Tq16.setTop (mkF m 193 #[.val (.int kk), .val (.int ch)] [(.ref bq6)]))
  refine goRetA Xq16 hx hrt rfl hlk Nq16 (by show _ ≤ 1; omega) (by show _ ≤ 10; omega) rfl (hb hby d_method_5_code_193) ?_
  try rw [eq16]
  have VRq17 : Arv Z hq16 bq6 kq6 .char (10 : Int32) [(.int (117 : Int32)), (.int (112 : Int32)), (.int (100 : Int32)), (.int (97 : Int32)), (.int (116 : Int32)), (.int (101 : Int32)), (.int (100 : Int32)), (.int (65 : Int32)), (.int (116 : Int32)), (.int ch)] (.int (0 : Int32)) := by
    have q := Vq16
    rw [narc_in hch] at q
    exact q
  exact ⟨bq6, kq6, [(117 : Int32), (112 : Int32), (100 : Int32), (97 : Int32), (116 : Int32), (101 : Int32), (100 : Int32), (65 : Int32), (116 : Int32), ch], 10, rfl, by omega, ((((((((((K0.wr Wq7 (Or.inr (by omega))).wr Wq8 (Or.inr (by omega))).wr Wq9 (Or.inr (by omega))).wr Wq10 (Or.inr (by omega))).wr Wq11 (Or.inr (by omega))).wr Wq12 (Or.inr (by omega))).wr Wq13 (Or.inr (by omega))).wr Wq14 (Or.inr (by omega))).wr Wq15 (Or.inr (by omega))).wr Wq16 (Or.inr (by omega))), VRq17, by decide, by decide, rfl, (chS (by decide) (chS (by decide) (chS (by decide) (chS (by decide) (chS (by decide) (chS (by decide) (chS (by decide) (chS (by decide) (chS (by decide) (chS hch ch0))))))))))⟩
set_option maxRecDepth 65536 in
set_option maxHeartbeats 40000000 in
theorem appC_c16 (l : Launch) (Z : State) (aw : Array Value) (hw : ∀ d ∈ tables_1, d.before aw Z = true) (kk : Int32) (ch : Int32) {p : Program} {e : Env} {s : State} {m : MethodId} {args : Array Value} {below : List Frame} {meth : Method} {c : Code} {T : State} {locs : List Loc} {cells slots n0 : Nat} {h0 h1 : Heap} (hx : p.tables.exec = Jvm.exec) (hby : c.code = method_5_code) (hml : c.maxLocals = 2) (hrt : meth.sig.returnType = some (.array .char)) (hlk : meth.locks = false) (hnm : meth.name = "appended") (hZ : Z.Warmed39 s.vm) (hown : s.vm.findClass "com/example/dispatch_note/dispatchnote/contract/ManagedMemberNamedPinLaw" = some m.cls) (X : Stand p l e ({ frames := 0, cells := 1, slots := 10, locals := 0 } : Room) s m args below meth c T locs cells slots) (e0 : T.heap = h1) (N : Fr n0 locs) (hcells : cells ≤ 0) (hslots : slots ≤ 0) (O : Old Z n0 h1) (K0 : Keep h0 h1 []) (hch : ¬ ch < 0 ∧ ¬ (255 : Int32) < ch) (cq1 : ¬ (kk = (0 : Int32))) (cq3 : ¬ (kk = (1 : Int32))) :
    Goes p e below s ({ frames := 0, cells := 1, slots := 10, locals := 0 } : Room).cells ({ frames := 0, cells := 1, slots := 10, locals := 0 } : Room).slots n0 (fun vv hh => ∃ r : Nat, ∃ kr : ClassId, ∃ cs : List Int32, ∃ nn : Nat, vv = some (.ref r) ∧ h0.size ≤ r ∧ Keep h0 hh [] ∧ Arv Z hh r kr .char (Int32.ofNat nn) (cs.map Value.int) (.int (0 : Int32)) ∧ (0 < nn ∧ nn ≤ 10 ∧ cs.length = nn ∧ ∀ c ∈ cs, ¬ c < 0 ∧ ¬ (255 : Int32) < c)) (T.setTop (mkF m 74 #[.val (.int kk), .val (.int ch)] [(.int kk)])) := by
  have zO := O.le
  have zK := K0.1
  show Goes _ _ _ _ _ _ _ _ (T.setTop (mkF m 74 #[.val (.int kk), .val (.int ch)] [(.int kk)]))
  refine Goes.via (fun _ k => XT.iconstV X.here hx rfl (2 : Int32) (hb hby d_method_5_code_74) (by decide) k) ?_
  show Goes _ _ _ _ _ _ _ _ (T.setTop (mkF m 75 #[.val (.int kk), .val (.int ch)] [(.int (2 : Int32)), (.int kk)]))
  by_cases cq4 : kk = (2 : Int32)
  · skip
    refine Goes.via (fun _ k => XS.icmpNo X.here hx rfl (hb hby d_method_5_code_75) rfl (XT.ii_ne_f cq4) k) ?_
    show Goes _ _ _ _ _ _ _ _ (T.setTop (mkF m 78 #[.val (.int kk), .val (.int ch)] []))
    refine Goes.via (fun _ k => XT.bipushV X.here hx rfl (10 : Int32) (hb hby d_method_5_code_78) (by decide) k) ?_
    show Goes _ _ _ _ _ _ _ _ (T.setTop (mkF m 80 #[.val (.int kk), .val (.int ch)] [(.int (10 : Int32))]))
    obtain ⟨Tq5, hq5, kq5, Xq5, eq5, Eq5, Aq5, stq5⟩ := newP (aty := .char) X hx hZ (W_4 hw) e0 (g := (mkF m 80 #[.val (.int kk), .val (.int ch)] [(.int (10 : Int32))])) rfl (hb hby d_method_5_code_80) rfl (by decide) (cap := 10) (by decide) (by decide) (by show _ + 1 ≤ 1; omega) (by show _ + 10 ≤ 10; omega)
    obtain ⟨bq5, gq5⟩ : ∃ z, z = h1.size := ⟨_, rfl⟩
    rw [← gq5] at Aq5 stq5
    have zq5 := Eq5.1
    have Oq5 := O.ext Eq5
    have Vq5 : Arv Z hq5 bq5 kq5 .char (10 : Int32) [(.int (0 : Int32)), (.int (0 : Int32)), (.int (0 : Int32)), (.int (0 : Int32)), (.int (0 : Int32)), (.int (0 : Int32)), (.int (0 : Int32)), (.int (0 : Int32)), (.int (0 : Int32)), (.int (0 : Int32))] (.int (0 : Int32)) := (Arv.new Aq5 (by decide)).pad (pad_rep [] (.int (0 : Int32)) 10)
    have lq5 := lt_nat Vq5.lt
    refine Goes.via stq5 ?_
    show Goes _ _ _ _ _ _ _ _ (Tq5.setTop (mkF m 82 #[.val (.int kk), .val (.int ch)] [(.ref bq5)]))
    refine Goes.via (fun _ k => XS.dup Xq5.here hx rfl (hb hby d_method_5_code_82) rfl rfl k) ?_
    show Goes _ _ _ _ _ _ _ _ (Tq5.setTop (mkF m 83 #[.val (.int kk), .val (.int ch)] [(.ref bq5), (.ref bq5)]))
    refine Goes.via (fun _ k => XT.iconstV Xq5.here hx rfl (0 : Int32) (hb hby d_method_5_code_83) (by decide) k) ?_
    show Goes _ _ _ _ _ _ _ _ (Tq5.setTop (mkF m 84 #[.val (.int kk), .val (.int ch)] [(.int (0 : Int32)), (.ref bq5), (.ref bq5)]))
    exact appC_c17 l Z aw hw kk ch bq5 kq5 hx hby hml hrt hlk hnm hZ hown Xq5 eq5 N (by omega) (by omega) Oq5 (K0.ext Eq5) Vq5 hch cq1 cq3 cq4 (by omega) (by omega)
  · skip
    refine Goes.via (fun _ k => XS.icmpYes X.here hx rfl (pc0 := 75) (pc' := 136) rfl (hb hby d_method_5_code_75) rfl (XT.ii_ne_t cq4) (by decide) (by decide) k) ?_
    show Goes _ _ _ _ _ _ _ _ (T.setTop (mkF m 136 #[.val (.int kk), .val (.int ch)] []))
    refine Goes.via (fun _ k => XT.bipushV X.here hx rfl (10 : Int32) (hb hby d_method_5_code_136) (by decide) k) ?_
    show Goes _ _ _ _ _ _ _ _ (T.setTop (mkF m 138 #[.val (.int kk), .val (.int ch)] [(.int (10 : Int32))]))
    obtain ⟨Tq6, hq6, kq6, Xq6, eq6, Eq6, Aq6, stq6⟩ := newP (aty := .char) X hx hZ (W_4 hw) e0 (g := (mkF m 138 #[.val (.int kk), .val (.int ch)] [(.int (10 : Int32))])) rfl (hb hby d_method_5_code_138) rfl (by decide) (cap := 10) (by decide) (by decide) (by show _ + 1 ≤ 1; omega) (by show _ + 10 ≤ 10; omega)
    obtain ⟨bq6, gq6⟩ : ∃ z, z = h1.size := ⟨_, rfl⟩
    rw [← gq6] at Aq6 stq6
    have zq6 := Eq6.1
    have Oq6 := O.ext Eq6
    have Vq6 : Arv Z hq6 bq6 kq6 .char (10 : Int32) [(.int (0 : Int32)), (.int (0 : Int32)), (.int (0 : Int32)), (.int (0 : Int32)), (.int (0 : Int32)), (.int (0 : Int32)), (.int (0 : Int32)), (.int (0 : Int32)), (.int (0 : Int32)), (.int (0 : Int32))] (.int (0 : Int32)) := (Arv.new Aq6 (by decide)).pad (pad_rep [] (.int (0 : Int32)) 10)
    have lq6 := lt_nat Vq6.lt
    refine Goes.via stq6 ?_
    show Goes _ _ _ _ _ _ _ _ (Tq6.setTop (mkF m 140 #[.val (.int kk), .val (.int ch)] [(.ref bq6)]))
    refine Goes.via (fun _ k => XS.dup Xq6.here hx rfl (hb hby d_method_5_code_140) rfl rfl k) ?_
    show Goes _ _ _ _ _ _ _ _ (Tq6.setTop (mkF m 141 #[.val (.int kk), .val (.int ch)] [(.ref bq6), (.ref bq6)]))
    refine Goes.via (fun _ k => XT.iconstV Xq6.here hx rfl (0 : Int32) (hb hby d_method_5_code_141) (by decide) k) ?_
    show Goes _ _ _ _ _ _ _ _ (Tq6.setTop (mkF m 142 #[.val (.int kk), .val (.int ch)] [(.int (0 : Int32)), (.ref bq6), (.ref bq6)]))
    exact appC_c18 l Z aw hw kk ch bq6 kq6 hx hby hml hrt hlk hnm hZ hown Xq6 eq6 N (by omega) (by omega) Oq6 (K0.ext Eq6) Vq6 hch cq1 cq3 cq4 (by omega) (by omega)
set_option maxRecDepth 65536 in
set_option maxHeartbeats 40000000 in
theorem appC (l : Launch) (Z : State) (aw : Array Value) (hw : ∀ d ∈ tables_1, d.before aw Z = true) (kk : Int32) (ch : Int32) {h0 : Heap} {n0 : Nat} (O : Old Z n0 h0) (hch : ¬ ch < 0 ∧ ¬ (255 : Int32) < ch) :
    MET l Z (⟨"com/example/dispatch_note/dispatchnote/contract/ManagedMemberNamedPinLaw", "appended", "(IC)[C"⟩ : MethodName) method_5_code 2 (some (.array .char)) ({ frames := 0, cells := 1, slots := 10, locals := 0 } : Room) #[(.int kk), (.int ch)] h0 n0 (fun vv hh => ∃ r : Nat, ∃ kr : ClassId, ∃ cs : List Int32, ∃ nn : Nat, vv = some (.ref r) ∧ h0.size ≤ r ∧ Keep h0 hh [] ∧ Arv Z hh r kr .char (Int32.ofNat nn) (cs.map Value.int) (.int (0 : Int32)) ∧ (0 < nn ∧ nn ≤ 10 ∧ cs.length = nn ∧ ∀ c ∈ cs, ¬ c < 0 ∧ ¬ (255 : Int32) < c)) := by
  refine metOf (plainFor_of_name pn_13) ?_
  intro p e s m below meth c T hx hby hml hrt hlk hnm hZ hown X e0
  replace hml : c.maxLocals = 2 := hml
  replace hnm : meth.name = "appended" := hnm
  replace hown : s.vm.findClass "com/example/dispatch_note/dispatchnote/contract/ManagedMemberNamedPinLaw" = some m.cls := hown
  have N := Fr.nil n0
  have zO := O.le
  refine goCast (ef_appC m kk ch) ?_
  show Goes _ _ _ _ _ _ _ _ (T.setTop (mkF m 0 #[.val (.int kk), .val (.int ch)] []))
  refine Goes.via (fun _ k => XS.iloadN X.here hx rfl (hb hby d_method_5_code_0) rfl k) ?_
  show Goes _ _ _ _ _ _ _ _ (T.setTop (mkF m 1 #[.val (.int kk), .val (.int ch)] [(.int kk)]))
  by_cases cq1 : kk = (0 : Int32)
  · skip
    refine Goes.via (fun _ k => XS.ifNo X.here hx rfl (hb hby d_method_5_code_1) rfl (XT.i0_ne_f cq1) k) ?_
    show Goes _ _ _ _ _ _ _ _ (T.setTop (mkF m 4 #[.val (.int kk), .val (.int ch)] []))
    refine Goes.via (fun _ k => XT.iconstV X.here hx rfl (3 : Int32) (hb hby d_method_5_code_4) (by decide) k) ?_
    show Goes _ _ _ _ _ _ _ _ (T.setTop (mkF m 5 #[.val (.int kk), .val (.int ch)] [(.int (3 : Int32))]))
    obtain ⟨Tq2, hq2, kq2, Xq2, eq2, Eq2, Aq2, stq2⟩ := newP (aty := .char) X hx hZ (W_4 hw) e0 (g := (mkF m 5 #[.val (.int kk), .val (.int ch)] [(.int (3 : Int32))])) rfl (hb hby d_method_5_code_5) rfl (by decide) (cap := 3) (by decide) (by decide) (by decide) (by decide)
    obtain ⟨bq2, gq2⟩ : ∃ z, z = h0.size := ⟨_, rfl⟩
    rw [← gq2] at Aq2 stq2
    have zq2 := Eq2.1
    have Oq2 := O.ext Eq2
    have Vq2 : Arv Z hq2 bq2 kq2 .char (3 : Int32) [(.int (0 : Int32)), (.int (0 : Int32)), (.int (0 : Int32))] (.int (0 : Int32)) := (Arv.new Aq2 (by decide)).pad (pad_rep [] (.int (0 : Int32)) 3)
    have lq2 := lt_nat Vq2.lt
    refine Goes.via stq2 ?_
    show Goes _ _ _ _ _ _ _ _ (Tq2.setTop (mkF m 7 #[.val (.int kk), .val (.int ch)] [(.ref bq2)]))
    refine Goes.via (fun _ k => XS.dup Xq2.here hx rfl (hb hby d_method_5_code_7) rfl rfl k) ?_
    show Goes _ _ _ _ _ _ _ _ (Tq2.setTop (mkF m 8 #[.val (.int kk), .val (.int ch)] [(.ref bq2), (.ref bq2)]))
    refine Goes.via (fun _ k => XT.iconstV Xq2.here hx rfl (0 : Int32) (hb hby d_method_5_code_8) (by decide) k) ?_
    show Goes _ _ _ _ _ _ _ _ (Tq2.setTop (mkF m 9 #[.val (.int kk), .val (.int ch)] [(.int (0 : Int32)), (.ref bq2), (.ref bq2)]))
    exact appC_c14 l Z aw hw kk ch bq2 kq2 hx hby hml hrt hlk hnm hZ hown Xq2 eq2 N (by decide) (by decide) Oq2 ((Keep.refl _ []).ext Eq2) Vq2 hch cq1 (by omega) (by omega)
  · skip
    refine Goes.via (fun _ k => XS.ifYes X.here hx rfl (pc0 := 1) (pc' := 22) rfl (hb hby d_method_5_code_1) rfl (XT.i0_ne_t cq1) (by decide) (by decide) k) ?_
    show Goes _ _ _ _ _ _ _ _ (T.setTop (mkF m 22 #[.val (.int kk), .val (.int ch)] []))
    refine Goes.via (fun _ k => XS.iloadN X.here hx rfl (hb hby d_method_5_code_22) rfl k) ?_
    show Goes _ _ _ _ _ _ _ _ (T.setTop (mkF m 23 #[.val (.int kk), .val (.int ch)] [(.int kk)]))
    refine Goes.via (fun _ k => XT.iconstV X.here hx rfl (1 : Int32) (hb hby d_method_5_code_23) (by decide) k) ?_
    show Goes _ _ _ _ _ _ _ _ (T.setTop (mkF m 24 #[.val (.int kk), .val (.int ch)] [(.int (1 : Int32)), (.int kk)]))
    by_cases cq3 : kk = (1 : Int32)
    · skip
      refine Goes.via (fun _ k => XS.icmpNo X.here hx rfl (hb hby d_method_5_code_24) rfl (XT.ii_ne_f cq3) k) ?_
      show Goes _ _ _ _ _ _ _ _ (T.setTop (mkF m 27 #[.val (.int kk), .val (.int ch)] []))
      refine Goes.via (fun _ k => XT.bipushV X.here hx rfl (8 : Int32) (hb hby d_method_5_code_27) (by decide) k) ?_
      show Goes _ _ _ _ _ _ _ _ (T.setTop (mkF m 29 #[.val (.int kk), .val (.int ch)] [(.int (8 : Int32))]))
      exact appC_c15 l Z aw hw kk ch hx hby hml hrt hlk hnm hZ hown X e0 N (by decide) (by decide) O (Keep.refl _ []) hch cq1 cq3
    · skip
      refine Goes.via (fun _ k => XS.icmpYes X.here hx rfl (pc0 := 24) (pc' := 73) rfl (hb hby d_method_5_code_24) rfl (XT.ii_ne_t cq3) (by decide) (by decide) k) ?_
      show Goes _ _ _ _ _ _ _ _ (T.setTop (mkF m 73 #[.val (.int kk), .val (.int ch)] []))
      refine Goes.via (fun _ k => XS.iloadN X.here hx rfl (hb hby d_method_5_code_73) rfl k) ?_
      show Goes _ _ _ _ _ _ _ _ (T.setTop (mkF m 74 #[.val (.int kk), .val (.int ch)] [(.int kk)]))
      exact appC_c16 l Z aw hw kk ch hx hby hml hrt hlk hnm hZ hown X e0 N (by decide) (by decide) O (Keep.refl _ []) hch cq1 cq3
theorem ef_str4_0 (m : MethodId) (a : Nat) (q : Nat) : entryFrame m #[(.ref a), (.ref q), (.int (0 : Int32)), (.int (0 : Int32)), .null] 6 = mkF m 0 #[.val (.ref a), .val (.ref q), .val (.int (0 : Int32)), .val (.int (0 : Int32)), .val .null, .unset] [] := by first | (simp [entryFrame, mkF, argsToLocals, Value.category]; done) | rfl
set_option maxRecDepth 65536 in
set_option maxHeartbeats 40000000 in
theorem str4_0 (l : Launch) (Z : State) (aw : Array Value) (hw : ∀ d ∈ tables_1, d.before aw Z = true) (a : Nat) (q : Nat) {h0 : Heap} {n0 : Nat} (O : Old Z n0 h0) (E : Exa Z h0 a "java/lang/String") (Fv : Fld Z h0 a "java/lang/String" "value" "[B" .null) (Fc : Fld Z h0 a "java/lang/String" "coder" "B" (.int (0 : Int32))) (ga : n0 ≤ a) :
    METW l Z (⟨"java/lang/String", "<init>", "([CIILjava/lang/Void;)V"⟩ : MethodName) jdk_42_method_149_code 6 none ({ frames := 1, cells := 4, slots := 8, locals := 12 } : Room) #[(.ref a), (.ref q), (.int (0 : Int32)), (.int (0 : Int32)), .null] EL [a] h0 n0 (fun vv hh => ∃ b : Nat, ∃ kb : ClassId, vv = none ∧ Keep h0 hh [a] ∧ Exa Z hh a "java/lang/String" ∧ Fld Z hh a "java/lang/String" "value" "[B" (.ref b) ∧ Fld Z hh a "java/lang/String" "coder" "B" (.int (0 : Int32)) ∧ Arv Z hh b kb .byte (0 : Int32) [] (.int (0 : Int32))) := by
  refine metOfW (plainFor_of_name pn_14) ?_
  intro p e s m below meth c T vm0 hx hby hml hrt hlk hnm hZ hown X e0 hS C0 hSL
  replace hml : c.maxLocals = 6 := hml
  replace hnm : meth.name = "<init>" := hnm
  replace hown : vm0.findClass "java/lang/String" = some m.cls := hown
  have N := Fr.nil n0
  have zO := O.le
  refine goCastW (ef_str4_0 m a q) ?_
  have lt_a := lt_nat E.lt
  show GoesW _ _ _ _ _ _ _ _ (T.setTop (mkF m 0 #[.val (.ref a), .val (.ref q), .val (.int (0 : Int32)), .val (.int (0 : Int32)), .val .null, .unset] []))
  refine GoesW.via (fun _ k => XS.aloadN X.here hx rfl (hb hby d_jdk_42_method_149_code_0) rfl rfl k) ?_
  show GoesW _ _ _ _ _ _ _ _ (T.setTop (mkF m 1 #[.val (.ref a), .val (.ref q), .val (.int (0 : Int32)), .val (.int (0 : Int32)), .val .null, .unset] [(.ref a)]))
  obtain ⟨Tq1, Xq1, eq1, stq1⟩ := initO X hx hZ hown (W_15 hw) (W_16 hw) (W_17 hw) e0 (g := (mkF m 1 #[.val (.ref a), .val (.ref q), .val (.int (0 : Int32)), .val (.int (0 : Int32)), .val .null, .unset] [(.ref a)])) rfl (by rw [hml]; rfl) rfl (hb hby d_jdk_42_method_149_code_1) (by decide) (W := 0) (by show 2 * 0 + _ ≤ _; exact Nat.le_of_eq rfl) (by decide)
  refine GoesW.via stq1 ?_
  show GoesW _ _ _ _ _ _ _ _ (Tq1.setTop (mkF m 4 #[.val (.ref a), .val (.ref q), .val (.int (0 : Int32)), .val (.int (0 : Int32)), .val .null, .unset] []))
  refine GoesW.via (fun _ k => XS.iloadN Xq1.here hx rfl (hb hby d_jdk_42_method_149_code_4) rfl k) ?_
  show GoesW _ _ _ _ _ _ _ _ (Tq1.setTop (mkF m 5 #[.val (.ref a), .val (.ref q), .val (.int (0 : Int32)), .val (.int (0 : Int32)), .val .null, .unset] [(.int (0 : Int32))]))
  refine GoesW.via (fun _ k => XS.ifNo Xq1.here hx rfl (hb hby d_jdk_42_method_149_code_5) rfl (XT.i0_ne_f (by decide)) k) ?_
  show GoesW _ _ _ _ _ _ _ _ (Tq1.setTop (mkF m 8 #[.val (.ref a), .val (.ref q), .val (.int (0 : Int32)), .val (.int (0 : Int32)), .val .null, .unset] []))
  refine GoesW.via (fun _ k => XS.aloadN Xq1.here hx rfl (hb hby d_jdk_42_method_149_code_8) rfl rfl k) ?_
  show GoesW _ _ _ _ _ _ _ _ (Tq1.setTop (mkF m 9 #[.val (.ref a), .val (.ref q), .val (.int (0 : Int32)), .val (.int (0 : Int32)), .val .null, .unset] [(.ref a)]))
  obtain ⟨aq2, Tq2, hq2, kq2, wq2, kkq2, Xq2, eq2, Eq2, Sq2, hkq2, hZq2, hownq2, exq2, fcq2, fvq2, vaq2, laq2, lbq2, Rq2, -, sfq2, stq2⟩ := ldcCH Xq1 hx hZ hown (W_114 hw) (strAtoms hw) eq1 hS (by omega) (ew hw) (by decide) C0.1 (vs := []) (z := (0 : Int32)) ⟨by decide +kernel, by decide +kernel⟩ (by decide) (by decide) (g := (mkF m 9 #[.val (.ref a), .val (.ref q), .val (.int (0 : Int32)), .val (.int (0 : Int32)), .val .null, .unset] [(.ref a)])) rfl (hb hby d_jdk_42_method_149_code_9) (n := 0) (by decide +kernel) (by decide) (by decide) (by decide)
  replace laq2 := lt_nat laq2
  replace lbq2 := lt_nat lbq2
  have zq2 := Eq2.1
  have Oq2 := O.ext Eq2
  have Cq2 := C0.trans Rq2
  refine GoesW.via stq2 ?_
  show GoesW _ _ _ _ _ _ _ _ (Tq2.setTop (mkF m 11 #[.val (.ref a), .val (.ref q), .val (.int (0 : Int32)), .val (.int (0 : Int32)), .val .null, .unset] [(.ref aq2), (.ref a)]))
  obtain ⟨Tq3, Xq3, eq3, stq3⟩ := getF Xq2 hx hZq2 hownq2 (host := "") (Or.inl (W_32 hw)) Via.refl eq2 fvq2 (g := (mkF m 11 #[.val (.ref a), .val (.ref q), .val (.int (0 : Int32)), .val (.int (0 : Int32)), .val .null, .unset] [(.ref aq2), (.ref a)])) rfl rfl (hb hby d_jdk_42_method_149_code_11)
  refine GoesW.via stq3 ?_
  show GoesW _ _ _ _ _ _ _ _ (Tq3.setTop (mkF m 14 #[.val (.ref a), .val (.ref q), .val (.int (0 : Int32)), .val (.int (0 : Int32)), .val .null, .unset] [(.ref wq2), (.ref a)]))
  have fq4 : Safe Z EL Tq2.vm hq2 a := (CHr.safe Rq2 (lt_ok (by omega)) (hSL _ (by simp)))
  have nbq2 := ne2_nat (sfq2 _ fq4)
  have fq6 : Fld Z hq2 a "java/lang/String" "value" "[B" .null := (Fv.ext Eq2)
  have fq7 : Exa Z hq2 a "java/lang/String" := (E.ext Eq2)
  obtain ⟨Tq5, hq5, Xq5, eq5, Wq5, stq5⟩ := putF Xq3 hx hZq2 hownq2 (host := "") (Or.inl (W_32 hw)) Via.refl eq3 fq6 fq7 (Or.inr ⟨(W_33 hw), rfl, hnm⟩) (W_6 hw) (ty := (.array .byte)) (by decide) rfl rfl (g := (mkF m 14 #[.val (.ref a), .val (.ref q), .val (.int (0 : Int32)), .val (.int (0 : Int32)), .val .null, .unset] [(.ref wq2), (.ref a)])) rfl rfl (hb hby d_jdk_42_method_149_code_14)
  have Nq5 := Fr.snoc Xq5 N (by omega)
  have zq5 := Wq5.size
  have Oq5 := Oq2.wr Wq5 (by omega)
  have Cq5 := Cq2.trans (CHr.wr Wq5 fq4 Cq2.1)
  have Fq5 : Fld Z hq5 a "java/lang/String" "value" "[B" (.ref wq2) := fq6.same Wq5
  refine GoesW.via stq5 ?_
  show GoesW _ _ _ _ _ _ _ _ (Tq5.setTop (mkF m 17 #[.val (.ref a), .val (.ref q), .val (.int (0 : Int32)), .val (.int (0 : Int32)), .val .null, .unset] []))
  refine GoesW.via (fun _ k => XS.aloadN Xq5.here hx rfl (hb hby d_jdk_42_method_149_code_17) rfl rfl k) ?_
  show GoesW _ _ _ _ _ _ _ _ (Tq5.setTop (mkF m 18 #[.val (.ref a), .val (.ref q), .val (.int (0 : Int32)), .val (.int (0 : Int32)), .val .null, .unset] [(.ref a)]))
  obtain ⟨aq8, Tq8, hq8, kq8, wq8, kkq8, Xq8, eq8, Eq8, Sq8, hkq8, hZq8, hownq8, exq8, fcq8, fvq8, vaq8, laq8, lbq8, Rq8, -, sfq8, stq8⟩ := ldcCH Xq5 hx hZq2 hownq2 (W_114 hw) (strAtoms hw) eq5 Sq2 (by omega) (ew hw) (by decide) Cq5.1 (vs := []) (z := (0 : Int32)) ⟨by decide +kernel, by decide +kernel⟩ (by decide) (by decide) (g := (mkF m 18 #[.val (.ref a), .val (.ref q), .val (.int (0 : Int32)), .val (.int (0 : Int32)), .val .null, .unset] [(.ref a)])) rfl (hb hby d_jdk_42_method_149_code_18) (n := 0) (by decide +kernel) (by decide) (by decide) (by decide)
  replace laq8 := lt_nat laq8
  replace lbq8 := lt_nat lbq8
  have zq8 := Eq8.1
  have Oq8 := Oq5.ext Eq8
  have Cq8 := Cq5.trans Rq8
  refine GoesW.via stq8 ?_
  show GoesW _ _ _ _ _ _ _ _ (Tq8.setTop (mkF m 20 #[.val (.ref a), .val (.ref q), .val (.int (0 : Int32)), .val (.int (0 : Int32)), .val .null, .unset] [(.ref aq8), (.ref a)]))
  obtain ⟨Tq9, Xq9, eq9, stq9⟩ := getF Xq8 hx hZq8 hownq8 (host := "") (Or.inl (W_30 hw)) Via.refl eq8 fcq8 (g := (mkF m 20 #[.val (.ref a), .val (.ref q), .val (.int (0 : Int32)), .val (.int (0 : Int32)), .val .null, .unset] [(.ref aq8), (.ref a)])) rfl rfl (hb hby d_jdk_42_method_149_code_20)
  refine GoesW.via stq9 ?_
  show GoesW _ _ _ _ _ _ _ _ (Tq9.setTop (mkF m 23 #[.val (.ref a), .val (.ref q), .val (.int (0 : Int32)), .val (.int (0 : Int32)), .val .null, .unset] [(.int (0 : Int32)), (.ref a)]))
  have fq11 : Fld Z hq8 a "java/lang/String" "coder" "B" (.int (0 : Int32)) := (((Fc.ext Eq2).other Wq5 (Or.inr (slot_ne (Or.inr (W_31 hw)) (Or.inr (W_33 hw)) (by decide) (t := .byte) (t' := (.array .byte)) (by decide) (by decide)))).ext Eq8)
  have fq12 : Exa Z hq8 a "java/lang/String" := ((fq7.wr Wq5).ext Eq8)
  obtain ⟨Tq10, hq10, Xq10, eq10, Wq10, stq10⟩ := putFN Xq9 hx hZq8 hownq8 (W_30 hw) Via.refl eq9 fq11 fq12 (Or.inr ⟨(W_31 hw), rfl, hnm⟩) (W_6 hw) (ty := .byte) (v' := (.int (0 : Int32))) (by decide) (by rfl) (by decide) (g := (mkF m 23 #[.val (.ref a), .val (.ref q), .val (.int (0 : Int32)), .val (.int (0 : Int32)), .val .null, .unset] [(.int (0 : Int32)), (.ref a)])) rfl rfl (hb hby d_jdk_42_method_149_code_23)
  have Nq10 := Fr.snoc Xq10 Nq5 (by omega)
  have fq13 : Safe Z EL Tq8.vm hq8 a := (CHr.safe Rq8 (lt_ok (by omega)) (Safe.wr Wq5 fq4 Cq2.1 fq4))
  have zq10 := Wq10.size
  have Oq10 := Oq8.wr Wq10 (by omega)
  have Cq10 := Cq8.trans (CHr.wr Wq10 fq13 Cq8.1)
  have Fq10 : Fld Z hq10 a "java/lang/String" "coder" "B" (.int (0 : Int32)) := fq11.same Wq10
  refine GoesW.via stq10 ?_
  show GoesW _ _ _ _ _ _ _ _ (Tq10.setTop (mkF m 26 #[.val (.ref a), .val (.ref q), .val (.int (0 : Int32)), .val (.int (0 : Int32)), .val .null, .unset] []))
  refine goRetVW Xq10 hx hrt hlk Nq10 Sq8 (by rw [eq10]; omega) (by decide) (by decide) (hb hby d_jdk_42_method_149_code_26) ?_
  intro hWm
  try rw [eq10]
  refine ⟨?_, Cq10.trans (CHv.at Xq10 hZq8 (ew hw) Cq10.1)⟩
  have fq14 : Exa Z hq10 a "java/lang/String" := (fq12.wr Wq10)
  have fq15 : Fld Z hq10 a "java/lang/String" "value" "[B" (.ref wq2) := ((Fq5.ext Eq8).other Wq10 (Or.inr (slot_ne (Or.inr (W_33 hw)) (Or.inr (W_31 hw)) (by decide) (t := (.array .byte)) (t' := .byte) (by decide) (by decide))))
  have fq16 : Arv Z hq10 wq2 kkq2 .byte (0 : Int32) [] (.int (0 : Int32)) := (((vaq2.other Wq5 (ne_ok (by omega))).ext Eq8).other Wq10 (ne_ok (by omega)))
  exact ⟨wq2, _, rfl, (((((Keep.refl _ [a]).ext Eq2).wr Wq5 (Or.inl (by simp))).ext Eq8).wr Wq10 (Or.inl (by simp))), fq14, fq15, Fq10, fq16⟩
theorem ef_str_0 (m : MethodId) (a : Nat) (q : Nat) : entryFrame m #[(.ref a), (.ref q)] 2 = mkF m 0 #[.val (.ref a), .val (.ref q)] [] := by first | (simp [entryFrame, mkF, argsToLocals, Value.category]; done) | rfl
set_option maxRecDepth 65536 in
set_option maxHeartbeats 40000000 in
theorem str_0 (l : Launch) (Z : State) (aw : Array Value) (hw : ∀ d ∈ tables_1, d.before aw Z = true) (a : Nat) (q : Nat) (kq : ClassId) {h0 : Heap} {n0 : Nat} (O : Old Z n0 h0) (E : Exa Z h0 a "java/lang/String") (Fv : Fld Z h0 a "java/lang/String" "value" "[B" .null) (Fc : Fld Z h0 a "java/lang/String" "coder" "B" (.int (0 : Int32))) (Vq : Arv Z h0 q kq .char (0 : Int32) [] (.int (0 : Int32))) (ga : n0 ≤ a) :
    METW l Z (⟨"java/lang/String", "<init>", "([C)V"⟩ : MethodName) jdk_42_method_3_code 2 none ({ frames := 2, cells := 4, slots := 8, locals := 40 } : Room) #[(.ref a), (.ref q)] EL [a] h0 n0 (fun vv hh => ∃ b : Nat, ∃ kb : ClassId, vv = none ∧ Keep h0 hh [a] ∧ Exa Z hh a "java/lang/String" ∧ Fld Z hh a "java/lang/String" "value" "[B" (.ref b) ∧ Fld Z hh a "java/lang/String" "coder" "B" (.int (0 : Int32)) ∧ Arv Z hh b kb .byte (0 : Int32) [] (.int (0 : Int32))) := by
  refine metOfW (plainFor_of_name pn_14) ?_
  intro p e s m below meth c T vm0 hx hby hml hrt hlk hnm hZ hown X e0 hS C0 hSL
  replace hml : c.maxLocals = 2 := hml
  replace hnm : meth.name = "<init>" := hnm
  replace hown : vm0.findClass "java/lang/String" = some m.cls := hown
  have N := Fr.nil n0
  have zO := O.le
  refine goCastW (ef_str_0 m a q) ?_
  have lt_a := lt_nat E.lt
  have lt_q := lt_nat Vq.lt
  show GoesW _ _ _ _ _ _ _ _ (T.setTop (mkF m 0 #[.val (.ref a), .val (.ref q)] []))
  refine GoesW.via (fun _ k => XS.aloadN X.here hx rfl (hb hby d_jdk_42_method_3_code_0) rfl rfl k) ?_
  show GoesW _ _ _ _ _ _ _ _ (T.setTop (mkF m 1 #[.val (.ref a), .val (.ref q)] [(.ref a)]))
  refine GoesW.via (fun _ k => XS.aloadN X.here hx rfl (hb hby d_jdk_42_method_3_code_1) rfl rfl k) ?_
  show GoesW _ _ _ _ _ _ _ _ (T.setTop (mkF m 2 #[.val (.ref a), .val (.ref q)] [(.ref q), (.ref a)]))
  refine GoesW.via (fun _ k => XT.iconstV X.here hx rfl (0 : Int32) (hb hby d_jdk_42_method_3_code_2) (by decide) k) ?_
  show GoesW _ _ _ _ _ _ _ _ (T.setTop (mkF m 3 #[.val (.ref a), .val (.ref q)] [(.int (0 : Int32)), (.ref q), (.ref a)]))
  refine GoesW.via (fun _ k => XS.aloadN X.here hx rfl (hb hby d_jdk_42_method_3_code_3) rfl rfl k) ?_
  show GoesW _ _ _ _ _ _ _ _ (T.setTop (mkF m 4 #[.val (.ref a), .val (.ref q)] [(.ref q), (.int (0 : Int32)), (.ref q), (.ref a)]))
  obtain ⟨clq1, Arq1, -, Sq1, Nnq1, -, -⟩ := id Vq
  refine GoesW.via (X.arraylength hx (by rw [e0]; exact Arq1.1) (State.isArrayOf_alike hZ.alike Arq1.2.1) (g := (mkF m 4 #[.val (.ref a), .val (.ref q)] [(.ref q), (.int (0 : Int32)), (.ref q), (.ref a)])) rfl rfl (hb hby d_jdk_42_method_3_code_4)) ?_
  rw [len_of Sq1 Nnq1]
  show GoesW _ _ _ _ _ _ _ _ (T.setTop (mkF m 5 #[.val (.ref a), .val (.ref q)] [(.int (0 : Int32)), (.int (0 : Int32)), (.ref q), (.ref a)]))
  refine GoesW.via (fun _ k => XS.aconstNull X.here hx rfl (hb hby d_jdk_42_method_3_code_5) k) ?_
  show GoesW _ _ _ _ _ _ _ _ (T.setTop (mkF m 6 #[.val (.ref a), .val (.ref q)] [.null, (.int (0 : Int32)), (.int (0 : Int32)), (.ref q), (.ref a)]))
  obtain ⟨vq2, Tq2, Lq2, Xq2, Sq2, hZq2, hownq2, Rq2, qq2, nq2, stq2⟩ := callSpW X hx hZ hown hS (by rw [e0]; omega) (ew hw) C0.1 (allS (lt_ok (by omega)) all0) (allS (hSL _ (by simp)) all0) (str4_0 l Z aw hw a q O E Fv Fc (by omega)) rfl (W_11 hw) (W_12 hw) (W_7 hw) (W_14 hw) (by decide) e0 (by decide) (W := 0) (by decide) (by decide) (by decide) (g := (mkF m 6 #[.val (.ref a), .val (.ref q)] [.null, (.int (0 : Int32)), (.int (0 : Int32)), (.ref q), (.ref a)])) rfl (by rw [hml]; rfl) (a := a) (argsL := [(.ref q), (.int (0 : Int32)), (.int (0 : Int32)), .null]) (rest := []) rfl (lenOf pd_16 rfl) rfl (by show 2 * 0 + _ ≤ _; exact Nat.le_of_eq rfl) (hb hby d_jdk_42_method_3_code_6)
  obtain ⟨xb_q2, xkb_q2, rfl, pq2_0, pq2_1, pq2_2, pq2_3, pq2_4⟩ := qq2
  have Nq2 := Fr.app N nq2
  have zq2 := pq2_0.1
  have Oq2 := O.keep pq2_0 (allS (by omega) all0)
  have Cq2 := C0.trans Rq2
  have ltpq2_1 := lt_nat pq2_1.lt
  have ltpq2_4 := lt_nat pq2_4.lt
  refine GoesW.via stq2 ?_
  show GoesW _ _ _ _ _ _ _ _ (Tq2.setTop (mkF m 9 #[.val (.ref a), .val (.ref q)] []))
  refine goRetVW Xq2 hx hrt hlk Nq2 Sq2 (by omega) (by decide) (by decide) (hb hby d_jdk_42_method_3_code_9) ?_
  intro hWm
  refine ⟨?_, Cq2.trans (CHv.at Xq2 hZq2 (ew hw) Cq2.1)⟩
  exact ⟨xb_q2, _, rfl, ((Keep.refl _ [a]).trans pq2_0 (allS (Or.inl (by simp)) all0)), pq2_1, pq2_2, pq2_3, pq2_4⟩
set_option maxRecDepth 65536 in
set_option maxHeartbeats 40000000 in
theorem law_c19 (l : Launch) (Z : State) (aw : Array Value) (hw : ∀ d ∈ tables_1, d.before aw Z = true) (x0 : Int32) (x1 : Int32) (x2 : Int32) (x3 : Int32) (k4 : Int32) (c5 : Int32) (d6 : Int32) (m7 : Int32) (ca : Nat) (sS : Nat) (wS : Nat) (kS : ClassId) (NS1 : Int32) (vS : List Value) (csS : List Int32) (ar : Nat) (kz0 : ClassId) (t0 : Nat) (t1 : Nat) (t2 : Nat) (t3 : Nat) (u0 : Nat) (y0 : Nat) (ky0 : ClassId) (u1 : Nat) (y1 : Nat) (ky1 : ClassId) (u2 : Nat) (y2 : Nat) (ky2 : ClassId) (u3 : Nat) (y3 : Nat) (ky3 : ClassId) (em : Nat) (cz : Int32) {p : Program} {e : Env} {s : State} {m : MethodId} {args : Array Value} {below : List Frame} {meth : Method} {c : Code} {T : State} {locs : List Loc} {cells slots n0 : Nat} {h0 h1 : Heap} (hx : p.tables.exec = Jvm.exec) (hby : c.code = code) (hml : c.maxLocals = 12) (hrt : meth.sig.returnType = some .boolean) (hlk : meth.locks = false) (hnm : meth.name = "law") {vm0 vmE : Vm} {k0 : Nat} (hZ : Z.Warmed39 vm0) (hown : vm0.findClass "com/example/dispatch_note/dispatchnote/contract/ManagedMemberNamedPinLaw" = some m.cls) (X : Stand p l e room_1 (s.setVm vm0) m args below meth c T locs cells slots) (e0 : T.heap = h1) (N : Fr n0 locs) (hcells : cells ≤ 10) (hslots : slots ≤ 72) (O : Old Z n0 h1) (hS : s.Since vm0 k0) (hk0 : k0 ≤ h1.size) (C0 : CHr Z EL vmE h0 vm0 h1) (S0 : Sta Z Z.heap "com/example/dispatch_note/dispatchnote/contract/ManagedMember" "$VALUES" "[Lcom/example/dispatch_note/dispatchnote/contract/ManagedMember;" (.ref ar)) (V0 : Arv Z Z.heap ar kz0 (.object "com/example/dispatch_note/dispatchnote/contract/ManagedMember") (4 : Int32) [(.ref t0), (.ref t1), (.ref t2), (.ref t3)] .null) (E0 : Exa Z Z.heap ar "[Lcom/example/dispatch_note/dispatchnote/contract/ManagedMember;") (S1 : Sta Z Z.heap "com/example/dispatch_note/dispatchnote/contract/ManagedMember" "ID" "Lcom/example/dispatch_note/dispatchnote/contract/ManagedMember;" (.ref t0)) (S2 : Sta Z Z.heap "com/example/dispatch_note/dispatchnote/contract/ManagedMember" "VERSION" "Lcom/example/dispatch_note/dispatchnote/contract/ManagedMember;" (.ref t1)) (S3 : Sta Z Z.heap "com/example/dispatch_note/dispatchnote/contract/ManagedMember" "CREATED_AT" "Lcom/example/dispatch_note/dispatchnote/contract/ManagedMember;" (.ref t2)) (S4 : Sta Z Z.heap "com/example/dispatch_note/dispatchnote/contract/ManagedMember" "UPDATED_AT" "Lcom/example/dispatch_note/dispatchnote/contract/ManagedMember;" (.ref t3)) (E1 : Exa Z Z.heap t0 "com/example/dispatch_note/dispatchnote/contract/ManagedMember") (E2 : Exa Z Z.heap t1 "com/example/dispatch_note/dispatchnote/contract/ManagedMember") (E3 : Exa Z Z.heap t2 "com/example/dispatch_note/dispatchnote/contract/ManagedMember") (E4 : Exa Z Z.heap t3 "com/example/dispatch_note/dispatchnote/contract/ManagedMember") (F0 : Fld Z Z.heap t0 "com/example/dispatch_note/dispatchnote/contract/ManagedMember" "memberName" "Ljava/lang/String;" (.ref u0)) (EU0 : Exa Z Z.heap u0 "java/lang/String") (CU0 : Fld Z Z.heap u0 "java/lang/String" "coder" "B" (.int (0 : Int32))) (VU0 : Fld Z Z.heap u0 "java/lang/String" "value" "[B" (.ref y0)) (AU0 : Arv Z Z.heap y0 ky0 .byte (2 : Int32) [(.int (105 : Int32)), (.int (100 : Int32))] (.int (0 : Int32))) (F1 : Fld Z Z.heap t1 "com/example/dispatch_note/dispatchnote/contract/ManagedMember" "memberName" "Ljava/lang/String;" (.ref u1)) (EU1 : Exa Z Z.heap u1 "java/lang/String") (CU1 : Fld Z Z.heap u1 "java/lang/String" "coder" "B" (.int (0 : Int32))) (VU1 : Fld Z Z.heap u1 "java/lang/String" "value" "[B" (.ref y1)) (AU1 : Arv Z Z.heap y1 ky1 .byte (7 : Int32) [(.int (118 : Int32)), (.int (101 : Int32)), (.int (114 : Int32)), (.int (115 : Int32)), (.int (105 : Int32)), (.int (111 : Int32)), (.int (110 : Int32))] (.int (0 : Int32))) (F2 : Fld Z Z.heap t2 "com/example/dispatch_note/dispatchnote/contract/ManagedMember" "memberName" "Ljava/lang/String;" (.ref u2)) (EU2 : Exa Z Z.heap u2 "java/lang/String") (CU2 : Fld Z Z.heap u2 "java/lang/String" "coder" "B" (.int (0 : Int32))) (VU2 : Fld Z Z.heap u2 "java/lang/String" "value" "[B" (.ref y2)) (AU2 : Arv Z Z.heap y2 ky2 .byte (9 : Int32) [(.int (99 : Int32)), (.int (114 : Int32)), (.int (101 : Int32)), (.int (97 : Int32)), (.int (116 : Int32)), (.int (101 : Int32)), (.int (100 : Int32)), (.int (65 : Int32)), (.int (116 : Int32))] (.int (0 : Int32))) (F3 : Fld Z Z.heap t3 "com/example/dispatch_note/dispatchnote/contract/ManagedMember" "memberName" "Ljava/lang/String;" (.ref u3)) (EU3 : Exa Z Z.heap u3 "java/lang/String") (CU3 : Fld Z Z.heap u3 "java/lang/String" "coder" "B" (.int (0 : Int32))) (VU3 : Fld Z Z.heap u3 "java/lang/String" "value" "[B" (.ref y3)) (AU3 : Arv Z Z.heap y3 ky3 .byte (9 : Int32) [(.int (117 : Int32)), (.int (112 : Int32)), (.int (100 : Int32)), (.int (97 : Int32)), (.int (116 : Int32)), (.int (101 : Int32)), (.int (100 : Int32)), (.int (65 : Int32)), (.int (116 : Int32))] (.int (0 : Int32))) (CS : Sta Z Z.heap "java/lang/String" "COMPACT_STRINGS" "Z" (.int cz)) (SE : Sta Z Z.heap "java/util/Optional" "EMPTY" "Ljava/util/Optional;" (.ref em)) (EE : Exa Z Z.heap em "java/util/Optional") (FE : Fld Z Z.heap em "java/util/Optional" "value" "Ljava/lang/Object;" .null) (pf0 : Exa Z h1 sS "java/lang/String") (pf1 : Fld Z h1 sS "java/lang/String" "value" "[B" (.ref wS)) (pf2 : Fld Z h1 sS "java/lang/String" "coder" "B" (.int (0 : Int32))) (pf3 : Arv Z h1 wS kS .byte NS1 vS (.int (0 : Int32))) (hcz : ¬ cz = (0 : Int32)) (codS : StrChars.Road.CodA csS 0 NS1 vS) (rgS : ∀ c ∈ csS, ¬ c < 0 ∧ ¬ (65535 : Int32) < c) (lnS : csS.length ≤ 4000) (cq2 : csS = LIT_0) :
    GoesW p e below s room_1.cells room_1.slots n0 (fun v vm h => (fun vv hh => vv = some (.int (1 : Int32))) v h ∧ CHr Z EL vmE h0 vm h) (T.setTop (mkF m 238 #[.val (.int x0), .val (.int x1), .val (.int x2), .val (.int x3), .val (.int k4), .val (.int c5), .val (.int d6), .val (.int m7), .val (.ref ca), .val (.ref sS), .val (.ref t0), .unset] [])) := by
  have zO := O.le
  have lt_sS := lt_nat pf0.lt
  have lt_wS := lt_nat pf3.lt
  show GoesW _ _ _ _ _ _ _ _ (T.setTop (mkF m 238 #[.val (.int x0), .val (.int x1), .val (.int x2), .val (.int x3), .val (.int k4), .val (.int c5), .val (.int d6), .val (.int m7), .val (.ref ca), .val (.ref sS), .val (.ref t0), .unset] []))
  refine GoesW.via (fun _ k => XS.aload X.here hx rfl (hb hby at_238) rfl rfl k) ?_
  show GoesW _ _ _ _ _ _ _ _ (T.setTop (mkF m 240 #[.val (.int x0), .val (.int x1), .val (.int x2), .val (.int x3), .val (.int k4), .val (.int c5), .val (.int d6), .val (.int m7), .val (.ref ca), .val (.ref sS), .val (.ref t0), .unset] [(.ref sS)]))
  obtain ⟨vq10, Tq10, Lq10, Xq10, qq10, nq10, stq10⟩ := callSt X hx hZ hown (named_0 l Z aw hw sS wS kS NS1 vS csS ar kz0 t0 t1 t2 t3 u0 y0 ky0 u1 y1 ky1 u2 y2 ky2 u3 y3 ky3 em cz O S0 V0 E0 CS SE F0 EU0 CU0 VU0 AU0 F1 EU1 CU1 VU1 AU1 F2 EU2 CU2 VU2 AU2 F3 EU3 CU3 VU3 AU3 pf0 pf1 pf2 pf3 hcz codS rgS lnS cq2) (W_50 hw) (W_51 hw) (W_52 hw) (W_53 hw) (by decide) e0 (by decide) (W := 0) (by decide) (by show _ + 2 ≤ 32; omega) (by show _ + 8 ≤ 5312; omega) (g := (mkF m 240 #[.val (.int x0), .val (.int x1), .val (.int x2), .val (.int x3), .val (.int k4), .val (.int c5), .val (.int d6), .val (.int m7), .val (.ref ca), .val (.ref sS), .val (.ref t0), .unset] [(.ref sS)])) rfl (by rw [hml]; rfl) (argsL := [(.ref sS)]) (rest := []) rfl (lenOf pd_17 rfl) rfl (by show 2 * 0 + _ ≤ _; exact Nat.le_of_eq rfl) (hb hby at_240)
  dsimp only at Xq10
  obtain ⟨xr_q10, rfl, pq10_0, pq10_1, pq10_2, pq10_3⟩ := qq10
  have Nq10 := Fr.app N nq10
  have zq10 := pq10_1.1
  have Oq10 := O.keep pq10_1 all0
  have Cq10 := C0.trans (CHr.keep pq10_1 all0 C0.1)
  have ltpq10_2 := lt_nat pq10_2.lt
  refine GoesW.via stq10 ?_
  show GoesW _ _ _ _ _ _ _ _ (Tq10.setTop (mkF m 243 #[.val (.int x0), .val (.int x1), .val (.int x2), .val (.int x3), .val (.int k4), .val (.int c5), .val (.int d6), .val (.int m7), .val (.ref ca), .val (.ref sS), .val (.ref t0), .unset] [(.ref xr_q10)]))
  refine GoesW.via (fun _ k => XS.aconstNull Xq10.here hx rfl (hb hby at_243) k) ?_
  show GoesW _ _ _ _ _ _ _ _ (Tq10.setTop (mkF m 244 #[.val (.int x0), .val (.int x1), .val (.int x2), .val (.int x3), .val (.int k4), .val (.int c5), .val (.int d6), .val (.int m7), .val (.ref ca), .val (.ref sS), .val (.ref t0), .unset] [.null, (.ref xr_q10)]))
  obtain ⟨vq11, Tq11, Lq11, Xq11, qq11, nq11, stq11⟩ := callVi Xq10 hx hZ hown (orElseV l Z aw hw xr_q10 t0 Oq10 pq10_3) (W_81 hw) (W_82 hw) (notFace_of_selects (args := #[]) (mvT hZ (W_84 hw))) (W_84 hw) (W_83 hw) (W_78 hw) (W_85 hw) (by decide) rfl pq10_2 (by decide) (W := 0) (by decide) (by show _ + 0 ≤ 32; omega) (by show _ + 0 ≤ 5312; omega) (g := (mkF m 244 #[.val (.int x0), .val (.int x1), .val (.int x2), .val (.int x3), .val (.int k4), .val (.int c5), .val (.int d6), .val (.int m7), .val (.ref ca), .val (.ref sS), .val (.ref t0), .unset] [.null, (.ref xr_q10)])) rfl (by rw [hml]; rfl) (a := xr_q10) (argsL := [.null]) (rest := []) rfl (lenOf pd_6 rfl) rfl (by show 2 * 0 + _ ≤ _; exact Nat.le_of_eq rfl) (hb hby at_244)
  dsimp only at Xq11
  obtain ⟨rfl, pq11_0⟩ := qq11
  have Nq11 := Fr.app Nq10 nq11
  refine GoesW.via stq11 ?_
  show GoesW _ _ _ _ _ _ _ _ (Tq11.setTop (mkF m 247 #[.val (.int x0), .val (.int x1), .val (.int x2), .val (.int x3), .val (.int k4), .val (.int c5), .val (.int d6), .val (.int m7), .val (.ref ca), .val (.ref sS), .val (.ref t0), .unset] [(.ref t0)]))
  have fq13 : Exa Z Tq10.heap t0 "com/example/dispatch_note/dispatchnote/contract/ManagedMember" := (E1.ext Oq10.2)
  obtain ⟨Tq12, Xq12, eq12, stq12⟩ := castY Xq11 hx hZ hown (W_106 hw) pq11_0 (Ins.self fq13) (g := (mkF m 247 #[.val (.int x0), .val (.int x1), .val (.int x2), .val (.int x3), .val (.int k4), .val (.int c5), .val (.int d6), .val (.int m7), .val (.ref ca), .val (.ref sS), .val (.ref t0), .unset] [(.ref t0)])) rfl rfl (hb hby at_247)
  refine GoesW.via stq12 ?_
  show GoesW _ _ _ _ _ _ _ _ (Tq12.setTop (mkF m 250 #[.val (.int x0), .val (.int x1), .val (.int x2), .val (.int x3), .val (.int k4), .val (.int c5), .val (.int d6), .val (.int m7), .val (.ref ca), .val (.ref sS), .val (.ref t0), .unset] [(.ref t0)]))
  refine GoesW.via (fun _ k => XS.astore Xq12.here hx rfl (hb hby at_250) rfl rfl (l' := #[.val (.int x0), .val (.int x1), .val (.int x2), .val (.int x3), .val (.int k4), .val (.int c5), .val (.int d6), .val (.int m7), .val (.ref ca), .val (.ref sS), .val (.ref t0), .val (.ref t0)]) rfl k) ?_
  show GoesW _ _ _ _ _ _ _ _ (Tq12.setTop (mkF m 252 #[.val (.int x0), .val (.int x1), .val (.int x2), .val (.int x3), .val (.int k4), .val (.int c5), .val (.int d6), .val (.int m7), .val (.ref ca), .val (.ref sS), .val (.ref t0), .val (.ref t0)] []))
  refine GoesW.via (fun _ k => XS.aload Xq12.here hx rfl (hb hby at_252) rfl rfl k) ?_
  show GoesW _ _ _ _ _ _ _ _ (Tq12.setTop (mkF m 254 #[.val (.int x0), .val (.int x1), .val (.int x2), .val (.int x3), .val (.int k4), .val (.int c5), .val (.int d6), .val (.int m7), .val (.ref ca), .val (.ref sS), .val (.ref t0), .val (.ref t0)] [(.ref t0)]))
  refine GoesW.via (fun _ k => XS.aload Xq12.here hx rfl (hb hby at_254) rfl rfl k) ?_
  show GoesW _ _ _ _ _ _ _ _ (Tq12.setTop (mkF m 256 #[.val (.int x0), .val (.int x1), .val (.int x2), .val (.int x3), .val (.int k4), .val (.int c5), .val (.int d6), .val (.int m7), .val (.ref ca), .val (.ref sS), .val (.ref t0), .val (.ref t0)] [(.ref t0), (.ref t0)]))
  refine GoesW.via (fun _ k => XT.acmpNo Xq12.here hx rfl (hb hby at_256) rfl rfl rfl (XT.aa_ne_f rfl) k) ?_
  show GoesW _ _ _ _ _ _ _ _ (Tq12.setTop (mkF m 259 #[.val (.int x0), .val (.int x1), .val (.int x2), .val (.int x3), .val (.int k4), .val (.int c5), .val (.int d6), .val (.int m7), .val (.ref ca), .val (.ref sS), .val (.ref t0), .val (.ref t0)] []))
  refine GoesW.via (fun _ k => XT.iconstV Xq12.here hx rfl (1 : Int32) (hb hby at_259) (by decide) k) ?_
  show GoesW _ _ _ _ _ _ _ _ (Tq12.setTop (mkF m 260 #[.val (.int x0), .val (.int x1), .val (.int x2), .val (.int x3), .val (.int k4), .val (.int c5), .val (.int d6), .val (.int m7), .val (.ref ca), .val (.ref sS), .val (.ref t0), .val (.ref t0)] [(.int (1 : Int32))]))
  refine GoesW.via (fun _ k => XS.goto Xq12.here hx rfl (pc0 := 260) (pc' := 264) rfl (hb hby at_260) (by decide) (by decide) k) ?_
  show GoesW _ _ _ _ _ _ _ _ (Tq12.setTop (mkF m 264 #[.val (.int x0), .val (.int x1), .val (.int x2), .val (.int x3), .val (.int k4), .val (.int c5), .val (.int d6), .val (.int m7), .val (.ref ca), .val (.ref sS), .val (.ref t0), .val (.ref t0)] [(.int (1 : Int32))]))
  refine goRetNW Xq12 hx hrt (by simp) hlk Nq11 hS (by rw [eq12]; omega) (by show _ ≤ 32; omega) (by show _ ≤ 5312; omega) (hb hby at_264) ?_
  intro hWm
  try rw [eq12]
  refine ⟨?_, Cq10.trans (CHv.at Xq12 hZ (ew hw) Cq10.1)⟩
  exact rfl
set_option maxRecDepth 65536 in
set_option maxHeartbeats 40000000 in
theorem law_c20 (l : Launch) (Z : State) (aw : Array Value) (hw : ∀ d ∈ tables_1, d.before aw Z = true) (x0 : Int32) (x1 : Int32) (x2 : Int32) (x3 : Int32) (k4 : Int32) (c5 : Int32) (d6 : Int32) (m7 : Int32) (ca : Nat) (sS : Nat) (wS : Nat) (kS : ClassId) (NS1 : Int32) (vS : List Value) (csS : List Int32) (ar : Nat) (kz0 : ClassId) (t0 : Nat) (t1 : Nat) (t2 : Nat) (t3 : Nat) (u0 : Nat) (y0 : Nat) (ky0 : ClassId) (u1 : Nat) (y1 : Nat) (ky1 : ClassId) (u2 : Nat) (y2 : Nat) (ky2 : ClassId) (u3 : Nat) (y3 : Nat) (ky3 : ClassId) (em : Nat) (cz : Int32) {p : Program} {e : Env} {s : State} {m : MethodId} {args : Array Value} {below : List Frame} {meth : Method} {c : Code} {T : State} {locs : List Loc} {cells slots n0 : Nat} {h0 h1 : Heap} (hx : p.tables.exec = Jvm.exec) (hby : c.code = code) (hml : c.maxLocals = 12) (hrt : meth.sig.returnType = some .boolean) (hlk : meth.locks = false) (hnm : meth.name = "law") {vm0 vmE : Vm} {k0 : Nat} (hZ : Z.Warmed39 vm0) (hown : vm0.findClass "com/example/dispatch_note/dispatchnote/contract/ManagedMemberNamedPinLaw" = some m.cls) (X : Stand p l e room_1 (s.setVm vm0) m args below meth c T locs cells slots) (e0 : T.heap = h1) (N : Fr n0 locs) (hcells : cells ≤ 12) (hslots : slots ≤ 104) (O : Old Z n0 h1) (hS : s.Since vm0 k0) (hk0 : k0 ≤ h1.size) (C0 : CHr Z EL vmE h0 vm0 h1) (S0 : Sta Z Z.heap "com/example/dispatch_note/dispatchnote/contract/ManagedMember" "$VALUES" "[Lcom/example/dispatch_note/dispatchnote/contract/ManagedMember;" (.ref ar)) (V0 : Arv Z Z.heap ar kz0 (.object "com/example/dispatch_note/dispatchnote/contract/ManagedMember") (4 : Int32) [(.ref t0), (.ref t1), (.ref t2), (.ref t3)] .null) (E0 : Exa Z Z.heap ar "[Lcom/example/dispatch_note/dispatchnote/contract/ManagedMember;") (S1 : Sta Z Z.heap "com/example/dispatch_note/dispatchnote/contract/ManagedMember" "ID" "Lcom/example/dispatch_note/dispatchnote/contract/ManagedMember;" (.ref t0)) (S2 : Sta Z Z.heap "com/example/dispatch_note/dispatchnote/contract/ManagedMember" "VERSION" "Lcom/example/dispatch_note/dispatchnote/contract/ManagedMember;" (.ref t1)) (S3 : Sta Z Z.heap "com/example/dispatch_note/dispatchnote/contract/ManagedMember" "CREATED_AT" "Lcom/example/dispatch_note/dispatchnote/contract/ManagedMember;" (.ref t2)) (S4 : Sta Z Z.heap "com/example/dispatch_note/dispatchnote/contract/ManagedMember" "UPDATED_AT" "Lcom/example/dispatch_note/dispatchnote/contract/ManagedMember;" (.ref t3)) (E1 : Exa Z Z.heap t0 "com/example/dispatch_note/dispatchnote/contract/ManagedMember") (E2 : Exa Z Z.heap t1 "com/example/dispatch_note/dispatchnote/contract/ManagedMember") (E3 : Exa Z Z.heap t2 "com/example/dispatch_note/dispatchnote/contract/ManagedMember") (E4 : Exa Z Z.heap t3 "com/example/dispatch_note/dispatchnote/contract/ManagedMember") (F0 : Fld Z Z.heap t0 "com/example/dispatch_note/dispatchnote/contract/ManagedMember" "memberName" "Ljava/lang/String;" (.ref u0)) (EU0 : Exa Z Z.heap u0 "java/lang/String") (CU0 : Fld Z Z.heap u0 "java/lang/String" "coder" "B" (.int (0 : Int32))) (VU0 : Fld Z Z.heap u0 "java/lang/String" "value" "[B" (.ref y0)) (AU0 : Arv Z Z.heap y0 ky0 .byte (2 : Int32) [(.int (105 : Int32)), (.int (100 : Int32))] (.int (0 : Int32))) (F1 : Fld Z Z.heap t1 "com/example/dispatch_note/dispatchnote/contract/ManagedMember" "memberName" "Ljava/lang/String;" (.ref u1)) (EU1 : Exa Z Z.heap u1 "java/lang/String") (CU1 : Fld Z Z.heap u1 "java/lang/String" "coder" "B" (.int (0 : Int32))) (VU1 : Fld Z Z.heap u1 "java/lang/String" "value" "[B" (.ref y1)) (AU1 : Arv Z Z.heap y1 ky1 .byte (7 : Int32) [(.int (118 : Int32)), (.int (101 : Int32)), (.int (114 : Int32)), (.int (115 : Int32)), (.int (105 : Int32)), (.int (111 : Int32)), (.int (110 : Int32))] (.int (0 : Int32))) (F2 : Fld Z Z.heap t2 "com/example/dispatch_note/dispatchnote/contract/ManagedMember" "memberName" "Ljava/lang/String;" (.ref u2)) (EU2 : Exa Z Z.heap u2 "java/lang/String") (CU2 : Fld Z Z.heap u2 "java/lang/String" "coder" "B" (.int (0 : Int32))) (VU2 : Fld Z Z.heap u2 "java/lang/String" "value" "[B" (.ref y2)) (AU2 : Arv Z Z.heap y2 ky2 .byte (9 : Int32) [(.int (99 : Int32)), (.int (114 : Int32)), (.int (101 : Int32)), (.int (97 : Int32)), (.int (116 : Int32)), (.int (101 : Int32)), (.int (100 : Int32)), (.int (65 : Int32)), (.int (116 : Int32))] (.int (0 : Int32))) (F3 : Fld Z Z.heap t3 "com/example/dispatch_note/dispatchnote/contract/ManagedMember" "memberName" "Ljava/lang/String;" (.ref u3)) (EU3 : Exa Z Z.heap u3 "java/lang/String") (CU3 : Fld Z Z.heap u3 "java/lang/String" "coder" "B" (.int (0 : Int32))) (VU3 : Fld Z Z.heap u3 "java/lang/String" "value" "[B" (.ref y3)) (AU3 : Arv Z Z.heap y3 ky3 .byte (9 : Int32) [(.int (117 : Int32)), (.int (112 : Int32)), (.int (100 : Int32)), (.int (97 : Int32)), (.int (116 : Int32)), (.int (101 : Int32)), (.int (100 : Int32)), (.int (65 : Int32)), (.int (116 : Int32))] (.int (0 : Int32))) (CS : Sta Z Z.heap "java/lang/String" "COMPACT_STRINGS" "Z" (.int cz)) (SE : Sta Z Z.heap "java/util/Optional" "EMPTY" "Ljava/util/Optional;" (.ref em)) (EE : Exa Z Z.heap em "java/util/Optional") (FE : Fld Z Z.heap em "java/util/Optional" "value" "Ljava/lang/Object;" .null) (pf0 : Exa Z h1 sS "java/lang/String") (pf1 : Fld Z h1 sS "java/lang/String" "value" "[B" (.ref wS)) (pf2 : Fld Z h1 sS "java/lang/String" "coder" "B" (.int (0 : Int32))) (pf3 : Arv Z h1 wS kS .byte NS1 vS (.int (0 : Int32))) (hcz : ¬ cz = (0 : Int32)) (codS : StrChars.Road.CodA csS 0 NS1 vS) (rgS : ∀ c ∈ csS, ¬ c < 0 ∧ ¬ (65535 : Int32) < c) (lnS : csS.length ≤ 4000) (cq2 : ¬ csS = LIT_0) (cq11 : csS = LIT_1) :
    GoesW p e below s room_1.cells room_1.slots n0 (fun v vm h => (fun vv hh => vv = some (.int (1 : Int32))) v h ∧ CHr Z EL vmE h0 vm h) (T.setTop (mkF m 194 #[.val (.int x0), .val (.int x1), .val (.int x2), .val (.int x3), .val (.int k4), .val (.int c5), .val (.int d6), .val (.int m7), .val (.ref ca), .val (.ref sS), .val .null, .unset] [(.int (1 : Int32))])) := by
  have zO := O.le
  have lt_sS := lt_nat pf0.lt
  have lt_wS := lt_nat pf3.lt
  show GoesW _ _ _ _ _ _ _ _ (T.setTop (mkF m 194 #[.val (.int x0), .val (.int x1), .val (.int x2), .val (.int x3), .val (.int k4), .val (.int c5), .val (.int d6), .val (.int m7), .val (.ref ca), .val (.ref sS), .val .null, .unset] [(.int (1 : Int32))]))
  refine GoesW.via (fun _ k => XS.ifNo X.here hx rfl (hb hby at_194) rfl (XT.i0_eq_f (by decide)) k) ?_
  show GoesW _ _ _ _ _ _ _ _ (T.setTop (mkF m 197 #[.val (.int x0), .val (.int x1), .val (.int x2), .val (.int x3), .val (.int k4), .val (.int c5), .val (.int d6), .val (.int m7), .val (.ref ca), .val (.ref sS), .val .null, .unset] []))
  have fq18 : Sta Z h1 "com/example/dispatch_note/dispatchnote/contract/ManagedMember" "VERSION" "Lcom/example/dispatch_note/dispatchnote/contract/ManagedMember;" (.ref t1) := (S2.ext O.2)
  obtain ⟨Tq17, Xq17, eq17, stq17⟩ := getS2 X hx hZ hown (host := "") (Or.inl (W_108 hw)) Via.refl e0 fq18 (g := (mkF m 197 #[.val (.int x0), .val (.int x1), .val (.int x2), .val (.int x3), .val (.int k4), .val (.int c5), .val (.int d6), .val (.int m7), .val (.ref ca), .val (.ref sS), .val .null, .unset] [])) rfl (hb hby at_197)
  refine GoesW.via stq17 ?_
  show GoesW _ _ _ _ _ _ _ _ (Tq17.setTop (mkF m 200 #[.val (.int x0), .val (.int x1), .val (.int x2), .val (.int x3), .val (.int k4), .val (.int c5), .val (.int d6), .val (.int m7), .val (.ref ca), .val (.ref sS), .val .null, .unset] [(.ref t1)]))
  refine GoesW.via (fun _ k => XS.astore Xq17.here hx rfl (hb hby at_200) rfl rfl (l' := #[.val (.int x0), .val (.int x1), .val (.int x2), .val (.int x3), .val (.int k4), .val (.int c5), .val (.int d6), .val (.int m7), .val (.ref ca), .val (.ref sS), .val (.ref t1), .unset]) rfl k) ?_
  show GoesW _ _ _ _ _ _ _ _ (Tq17.setTop (mkF m 202 #[.val (.int x0), .val (.int x1), .val (.int x2), .val (.int x3), .val (.int k4), .val (.int c5), .val (.int d6), .val (.int m7), .val (.ref ca), .val (.ref sS), .val (.ref t1), .unset] []))
  refine GoesW.via (fun _ k => XS.goto Xq17.here hx rfl (pc0 := 202) (pc' := 238) rfl (hb hby at_202) (by decide) (by decide) k) ?_
  show GoesW _ _ _ _ _ _ _ _ (Tq17.setTop (mkF m 238 #[.val (.int x0), .val (.int x1), .val (.int x2), .val (.int x3), .val (.int k4), .val (.int c5), .val (.int d6), .val (.int m7), .val (.ref ca), .val (.ref sS), .val (.ref t1), .unset] []))
  refine GoesW.via (fun _ k => XS.aload Xq17.here hx rfl (hb hby at_238) rfl rfl k) ?_
  show GoesW _ _ _ _ _ _ _ _ (Tq17.setTop (mkF m 240 #[.val (.int x0), .val (.int x1), .val (.int x2), .val (.int x3), .val (.int k4), .val (.int c5), .val (.int d6), .val (.int m7), .val (.ref ca), .val (.ref sS), .val (.ref t1), .unset] [(.ref sS)]))
  obtain ⟨vq19, Tq19, Lq19, Xq19, qq19, nq19, stq19⟩ := callSt Xq17 hx hZ hown (named_1 l Z aw hw sS wS kS NS1 vS csS ar kz0 t0 t1 t2 t3 u0 y0 ky0 u1 y1 ky1 u2 y2 ky2 u3 y3 ky3 em cz O S0 V0 E0 CS SE F0 EU0 CU0 VU0 AU0 F1 EU1 CU1 VU1 AU1 F2 EU2 CU2 VU2 AU2 F3 EU3 CU3 VU3 AU3 pf0 pf1 pf2 pf3 hcz codS rgS lnS cq11) (W_50 hw) (W_51 hw) (W_52 hw) (W_53 hw) (by decide) eq17 (by decide) (W := 0) (by decide) (by show _ + 2 ≤ 32; omega) (by show _ + 8 ≤ 5312; omega) (g := (mkF m 240 #[.val (.int x0), .val (.int x1), .val (.int x2), .val (.int x3), .val (.int k4), .val (.int c5), .val (.int d6), .val (.int m7), .val (.ref ca), .val (.ref sS), .val (.ref t1), .unset] [(.ref sS)])) rfl (by rw [hml]; rfl) (argsL := [(.ref sS)]) (rest := []) rfl (lenOf pd_17 rfl) rfl (by show 2 * 0 + _ ≤ _; exact Nat.le_of_eq rfl) (hb hby at_240)
  dsimp only at Xq19
  obtain ⟨xr_q19, rfl, pq19_0, pq19_1, pq19_2, pq19_3⟩ := qq19
  have Nq19 := Fr.app N nq19
  have zq19 := pq19_1.1
  have Oq19 := O.keep pq19_1 all0
  have Cq19 := C0.trans (CHr.keep pq19_1 all0 C0.1)
  have ltpq19_2 := lt_nat pq19_2.lt
  refine GoesW.via stq19 ?_
  show GoesW _ _ _ _ _ _ _ _ (Tq19.setTop (mkF m 243 #[.val (.int x0), .val (.int x1), .val (.int x2), .val (.int x3), .val (.int k4), .val (.int c5), .val (.int d6), .val (.int m7), .val (.ref ca), .val (.ref sS), .val (.ref t1), .unset] [(.ref xr_q19)]))
  refine GoesW.via (fun _ k => XS.aconstNull Xq19.here hx rfl (hb hby at_243) k) ?_
  show GoesW _ _ _ _ _ _ _ _ (Tq19.setTop (mkF m 244 #[.val (.int x0), .val (.int x1), .val (.int x2), .val (.int x3), .val (.int k4), .val (.int c5), .val (.int d6), .val (.int m7), .val (.ref ca), .val (.ref sS), .val (.ref t1), .unset] [.null, (.ref xr_q19)]))
  obtain ⟨vq20, Tq20, Lq20, Xq20, qq20, nq20, stq20⟩ := callVi Xq19 hx hZ hown (orElseV l Z aw hw xr_q19 t1 Oq19 pq19_3) (W_81 hw) (W_82 hw) (notFace_of_selects (args := #[]) (mvT hZ (W_84 hw))) (W_84 hw) (W_83 hw) (W_78 hw) (W_85 hw) (by decide) rfl pq19_2 (by decide) (W := 0) (by decide) (by show _ + 0 ≤ 32; omega) (by show _ + 0 ≤ 5312; omega) (g := (mkF m 244 #[.val (.int x0), .val (.int x1), .val (.int x2), .val (.int x3), .val (.int k4), .val (.int c5), .val (.int d6), .val (.int m7), .val (.ref ca), .val (.ref sS), .val (.ref t1), .unset] [.null, (.ref xr_q19)])) rfl (by rw [hml]; rfl) (a := xr_q19) (argsL := [.null]) (rest := []) rfl (lenOf pd_6 rfl) rfl (by show 2 * 0 + _ ≤ _; exact Nat.le_of_eq rfl) (hb hby at_244)
  dsimp only at Xq20
  obtain ⟨rfl, pq20_0⟩ := qq20
  have Nq20 := Fr.app Nq19 nq20
  refine GoesW.via stq20 ?_
  show GoesW _ _ _ _ _ _ _ _ (Tq20.setTop (mkF m 247 #[.val (.int x0), .val (.int x1), .val (.int x2), .val (.int x3), .val (.int k4), .val (.int c5), .val (.int d6), .val (.int m7), .val (.ref ca), .val (.ref sS), .val (.ref t1), .unset] [(.ref t1)]))
  have fq22 : Exa Z Tq19.heap t1 "com/example/dispatch_note/dispatchnote/contract/ManagedMember" := (E2.ext Oq19.2)
  obtain ⟨Tq21, Xq21, eq21, stq21⟩ := castY Xq20 hx hZ hown (W_106 hw) pq20_0 (Ins.self fq22) (g := (mkF m 247 #[.val (.int x0), .val (.int x1), .val (.int x2), .val (.int x3), .val (.int k4), .val (.int c5), .val (.int d6), .val (.int m7), .val (.ref ca), .val (.ref sS), .val (.ref t1), .unset] [(.ref t1)])) rfl rfl (hb hby at_247)
  refine GoesW.via stq21 ?_
  show GoesW _ _ _ _ _ _ _ _ (Tq21.setTop (mkF m 250 #[.val (.int x0), .val (.int x1), .val (.int x2), .val (.int x3), .val (.int k4), .val (.int c5), .val (.int d6), .val (.int m7), .val (.ref ca), .val (.ref sS), .val (.ref t1), .unset] [(.ref t1)]))
  refine GoesW.via (fun _ k => XS.astore Xq21.here hx rfl (hb hby at_250) rfl rfl (l' := #[.val (.int x0), .val (.int x1), .val (.int x2), .val (.int x3), .val (.int k4), .val (.int c5), .val (.int d6), .val (.int m7), .val (.ref ca), .val (.ref sS), .val (.ref t1), .val (.ref t1)]) rfl k) ?_
  show GoesW _ _ _ _ _ _ _ _ (Tq21.setTop (mkF m 252 #[.val (.int x0), .val (.int x1), .val (.int x2), .val (.int x3), .val (.int k4), .val (.int c5), .val (.int d6), .val (.int m7), .val (.ref ca), .val (.ref sS), .val (.ref t1), .val (.ref t1)] []))
  refine GoesW.via (fun _ k => XS.aload Xq21.here hx rfl (hb hby at_252) rfl rfl k) ?_
  show GoesW _ _ _ _ _ _ _ _ (Tq21.setTop (mkF m 254 #[.val (.int x0), .val (.int x1), .val (.int x2), .val (.int x3), .val (.int k4), .val (.int c5), .val (.int d6), .val (.int m7), .val (.ref ca), .val (.ref sS), .val (.ref t1), .val (.ref t1)] [(.ref t1)]))
  refine GoesW.via (fun _ k => XS.aload Xq21.here hx rfl (hb hby at_254) rfl rfl k) ?_
  show GoesW _ _ _ _ _ _ _ _ (Tq21.setTop (mkF m 256 #[.val (.int x0), .val (.int x1), .val (.int x2), .val (.int x3), .val (.int k4), .val (.int c5), .val (.int d6), .val (.int m7), .val (.ref ca), .val (.ref sS), .val (.ref t1), .val (.ref t1)] [(.ref t1), (.ref t1)]))
  refine GoesW.via (fun _ k => XT.acmpNo Xq21.here hx rfl (hb hby at_256) rfl rfl rfl (XT.aa_ne_f rfl) k) ?_
  show GoesW _ _ _ _ _ _ _ _ (Tq21.setTop (mkF m 259 #[.val (.int x0), .val (.int x1), .val (.int x2), .val (.int x3), .val (.int k4), .val (.int c5), .val (.int d6), .val (.int m7), .val (.ref ca), .val (.ref sS), .val (.ref t1), .val (.ref t1)] []))
  refine GoesW.via (fun _ k => XT.iconstV Xq21.here hx rfl (1 : Int32) (hb hby at_259) (by decide) k) ?_
  show GoesW _ _ _ _ _ _ _ _ (Tq21.setTop (mkF m 260 #[.val (.int x0), .val (.int x1), .val (.int x2), .val (.int x3), .val (.int k4), .val (.int c5), .val (.int d6), .val (.int m7), .val (.ref ca), .val (.ref sS), .val (.ref t1), .val (.ref t1)] [(.int (1 : Int32))]))
  refine GoesW.via (fun _ k => XS.goto Xq21.here hx rfl (pc0 := 260) (pc' := 264) rfl (hb hby at_260) (by decide) (by decide) k) ?_
  show GoesW _ _ _ _ _ _ _ _ (Tq21.setTop (mkF m 264 #[.val (.int x0), .val (.int x1), .val (.int x2), .val (.int x3), .val (.int k4), .val (.int c5), .val (.int d6), .val (.int m7), .val (.ref ca), .val (.ref sS), .val (.ref t1), .val (.ref t1)] [(.int (1 : Int32))]))
  refine goRetNW Xq21 hx hrt (by simp) hlk Nq20 hS (by rw [eq21]; omega) (by show _ ≤ 32; omega) (by show _ ≤ 5312; omega) (hb hby at_264) ?_
  intro hWm
  try rw [eq21]
  refine ⟨?_, Cq19.trans (CHv.at Xq21 hZ (ew hw) Cq19.1)⟩
  exact rfl
set_option maxRecDepth 65536 in
set_option maxHeartbeats 40000000 in
theorem law_c22 (l : Launch) (Z : State) (aw : Array Value) (hw : ∀ d ∈ tables_1, d.before aw Z = true) (x0 : Int32) (x1 : Int32) (x2 : Int32) (x3 : Int32) (k4 : Int32) (c5 : Int32) (d6 : Int32) (m7 : Int32) (ca : Nat) (sS : Nat) (wS : Nat) (kS : ClassId) (NS1 : Int32) (vS : List Value) (csS : List Int32) (ar : Nat) (kz0 : ClassId) (t0 : Nat) (t1 : Nat) (t2 : Nat) (t3 : Nat) (u0 : Nat) (y0 : Nat) (ky0 : ClassId) (u1 : Nat) (y1 : Nat) (ky1 : ClassId) (u2 : Nat) (y2 : Nat) (ky2 : ClassId) (u3 : Nat) (y3 : Nat) (ky3 : ClassId) (em : Nat) (cz : Int32) {p : Program} {e : Env} {s : State} {m : MethodId} {args : Array Value} {below : List Frame} {meth : Method} {c : Code} {T : State} {locs : List Loc} {cells slots n0 : Nat} {h0 h1 : Heap} (hx : p.tables.exec = Jvm.exec) (hby : c.code = code) (hml : c.maxLocals = 12) (hrt : meth.sig.returnType = some .boolean) (hlk : meth.locks = false) (hnm : meth.name = "law") {vm0 vmE : Vm} {k0 : Nat} (hZ : Z.Warmed39 vm0) (hown : vm0.findClass "com/example/dispatch_note/dispatchnote/contract/ManagedMemberNamedPinLaw" = some m.cls) (X : Stand p l e room_1 (s.setVm vm0) m args below meth c T locs cells slots) (e0 : T.heap = h1) (N : Fr n0 locs) (hcells : cells ≤ 14) (hslots : slots ≤ 144) (O : Old Z n0 h1) (hS : s.Since vm0 k0) (hk0 : k0 ≤ h1.size) (C0 : CHr Z EL vmE h0 vm0 h1) (S0 : Sta Z Z.heap "com/example/dispatch_note/dispatchnote/contract/ManagedMember" "$VALUES" "[Lcom/example/dispatch_note/dispatchnote/contract/ManagedMember;" (.ref ar)) (V0 : Arv Z Z.heap ar kz0 (.object "com/example/dispatch_note/dispatchnote/contract/ManagedMember") (4 : Int32) [(.ref t0), (.ref t1), (.ref t2), (.ref t3)] .null) (E0 : Exa Z Z.heap ar "[Lcom/example/dispatch_note/dispatchnote/contract/ManagedMember;") (S1 : Sta Z Z.heap "com/example/dispatch_note/dispatchnote/contract/ManagedMember" "ID" "Lcom/example/dispatch_note/dispatchnote/contract/ManagedMember;" (.ref t0)) (S2 : Sta Z Z.heap "com/example/dispatch_note/dispatchnote/contract/ManagedMember" "VERSION" "Lcom/example/dispatch_note/dispatchnote/contract/ManagedMember;" (.ref t1)) (S3 : Sta Z Z.heap "com/example/dispatch_note/dispatchnote/contract/ManagedMember" "CREATED_AT" "Lcom/example/dispatch_note/dispatchnote/contract/ManagedMember;" (.ref t2)) (S4 : Sta Z Z.heap "com/example/dispatch_note/dispatchnote/contract/ManagedMember" "UPDATED_AT" "Lcom/example/dispatch_note/dispatchnote/contract/ManagedMember;" (.ref t3)) (E1 : Exa Z Z.heap t0 "com/example/dispatch_note/dispatchnote/contract/ManagedMember") (E2 : Exa Z Z.heap t1 "com/example/dispatch_note/dispatchnote/contract/ManagedMember") (E3 : Exa Z Z.heap t2 "com/example/dispatch_note/dispatchnote/contract/ManagedMember") (E4 : Exa Z Z.heap t3 "com/example/dispatch_note/dispatchnote/contract/ManagedMember") (F0 : Fld Z Z.heap t0 "com/example/dispatch_note/dispatchnote/contract/ManagedMember" "memberName" "Ljava/lang/String;" (.ref u0)) (EU0 : Exa Z Z.heap u0 "java/lang/String") (CU0 : Fld Z Z.heap u0 "java/lang/String" "coder" "B" (.int (0 : Int32))) (VU0 : Fld Z Z.heap u0 "java/lang/String" "value" "[B" (.ref y0)) (AU0 : Arv Z Z.heap y0 ky0 .byte (2 : Int32) [(.int (105 : Int32)), (.int (100 : Int32))] (.int (0 : Int32))) (F1 : Fld Z Z.heap t1 "com/example/dispatch_note/dispatchnote/contract/ManagedMember" "memberName" "Ljava/lang/String;" (.ref u1)) (EU1 : Exa Z Z.heap u1 "java/lang/String") (CU1 : Fld Z Z.heap u1 "java/lang/String" "coder" "B" (.int (0 : Int32))) (VU1 : Fld Z Z.heap u1 "java/lang/String" "value" "[B" (.ref y1)) (AU1 : Arv Z Z.heap y1 ky1 .byte (7 : Int32) [(.int (118 : Int32)), (.int (101 : Int32)), (.int (114 : Int32)), (.int (115 : Int32)), (.int (105 : Int32)), (.int (111 : Int32)), (.int (110 : Int32))] (.int (0 : Int32))) (F2 : Fld Z Z.heap t2 "com/example/dispatch_note/dispatchnote/contract/ManagedMember" "memberName" "Ljava/lang/String;" (.ref u2)) (EU2 : Exa Z Z.heap u2 "java/lang/String") (CU2 : Fld Z Z.heap u2 "java/lang/String" "coder" "B" (.int (0 : Int32))) (VU2 : Fld Z Z.heap u2 "java/lang/String" "value" "[B" (.ref y2)) (AU2 : Arv Z Z.heap y2 ky2 .byte (9 : Int32) [(.int (99 : Int32)), (.int (114 : Int32)), (.int (101 : Int32)), (.int (97 : Int32)), (.int (116 : Int32)), (.int (101 : Int32)), (.int (100 : Int32)), (.int (65 : Int32)), (.int (116 : Int32))] (.int (0 : Int32))) (F3 : Fld Z Z.heap t3 "com/example/dispatch_note/dispatchnote/contract/ManagedMember" "memberName" "Ljava/lang/String;" (.ref u3)) (EU3 : Exa Z Z.heap u3 "java/lang/String") (CU3 : Fld Z Z.heap u3 "java/lang/String" "coder" "B" (.int (0 : Int32))) (VU3 : Fld Z Z.heap u3 "java/lang/String" "value" "[B" (.ref y3)) (AU3 : Arv Z Z.heap y3 ky3 .byte (9 : Int32) [(.int (117 : Int32)), (.int (112 : Int32)), (.int (100 : Int32)), (.int (97 : Int32)), (.int (116 : Int32)), (.int (101 : Int32)), (.int (100 : Int32)), (.int (65 : Int32)), (.int (116 : Int32))] (.int (0 : Int32))) (CS : Sta Z Z.heap "java/lang/String" "COMPACT_STRINGS" "Z" (.int cz)) (SE : Sta Z Z.heap "java/util/Optional" "EMPTY" "Ljava/util/Optional;" (.ref em)) (EE : Exa Z Z.heap em "java/util/Optional") (FE : Fld Z Z.heap em "java/util/Optional" "value" "Ljava/lang/Object;" .null) (pf0 : Exa Z h1 sS "java/lang/String") (pf1 : Fld Z h1 sS "java/lang/String" "value" "[B" (.ref wS)) (pf2 : Fld Z h1 sS "java/lang/String" "coder" "B" (.int (0 : Int32))) (pf3 : Arv Z h1 wS kS .byte NS1 vS (.int (0 : Int32))) (hcz : ¬ cz = (0 : Int32)) (codS : StrChars.Road.CodA csS 0 NS1 vS) (rgS : ∀ c ∈ csS, ¬ c < 0 ∧ ¬ (65535 : Int32) < c) (lnS : csS.length ≤ 4000) (cq2 : ¬ csS = LIT_0) (cq11 : ¬ csS = LIT_1) (cq18 : csS = LIT_2) :
    GoesW p e below s room_1.cells room_1.slots n0 (fun v vm h => (fun vv hh => vv = some (.int (1 : Int32))) v h ∧ CHr Z EL vmE h0 vm h) (T.setTop (mkF m 238 #[.val (.int x0), .val (.int x1), .val (.int x2), .val (.int x3), .val (.int k4), .val (.int c5), .val (.int d6), .val (.int m7), .val (.ref ca), .val (.ref sS), .val (.ref t2), .unset] [])) := by
  have zO := O.le
  have lt_sS := lt_nat pf0.lt
  have lt_wS := lt_nat pf3.lt
  show GoesW _ _ _ _ _ _ _ _ (T.setTop (mkF m 238 #[.val (.int x0), .val (.int x1), .val (.int x2), .val (.int x3), .val (.int k4), .val (.int c5), .val (.int d6), .val (.int m7), .val (.ref ca), .val (.ref sS), .val (.ref t2), .unset] []))
  refine GoesW.via (fun _ k => XS.aload X.here hx rfl (hb hby at_238) rfl rfl k) ?_
  show GoesW _ _ _ _ _ _ _ _ (T.setTop (mkF m 240 #[.val (.int x0), .val (.int x1), .val (.int x2), .val (.int x3), .val (.int k4), .val (.int c5), .val (.int d6), .val (.int m7), .val (.ref ca), .val (.ref sS), .val (.ref t2), .unset] [(.ref sS)]))
  obtain ⟨vq26, Tq26, Lq26, Xq26, qq26, nq26, stq26⟩ := callSt X hx hZ hown (named_2 l Z aw hw sS wS kS NS1 vS csS ar kz0 t0 t1 t2 t3 u0 y0 ky0 u1 y1 ky1 u2 y2 ky2 u3 y3 ky3 em cz O S0 V0 E0 CS SE F0 EU0 CU0 VU0 AU0 F1 EU1 CU1 VU1 AU1 F2 EU2 CU2 VU2 AU2 F3 EU3 CU3 VU3 AU3 pf0 pf1 pf2 pf3 hcz codS rgS lnS cq18) (W_50 hw) (W_51 hw) (W_52 hw) (W_53 hw) (by decide) e0 (by decide) (W := 0) (by decide) (by show _ + 2 ≤ 32; omega) (by show _ + 8 ≤ 5312; omega) (g := (mkF m 240 #[.val (.int x0), .val (.int x1), .val (.int x2), .val (.int x3), .val (.int k4), .val (.int c5), .val (.int d6), .val (.int m7), .val (.ref ca), .val (.ref sS), .val (.ref t2), .unset] [(.ref sS)])) rfl (by rw [hml]; rfl) (argsL := [(.ref sS)]) (rest := []) rfl (lenOf pd_17 rfl) rfl (by show 2 * 0 + _ ≤ _; exact Nat.le_of_eq rfl) (hb hby at_240)
  dsimp only at Xq26
  obtain ⟨xr_q26, rfl, pq26_0, pq26_1, pq26_2, pq26_3⟩ := qq26
  have Nq26 := Fr.app N nq26
  have zq26 := pq26_1.1
  have Oq26 := O.keep pq26_1 all0
  have Cq26 := C0.trans (CHr.keep pq26_1 all0 C0.1)
  have ltpq26_2 := lt_nat pq26_2.lt
  refine GoesW.via stq26 ?_
  show GoesW _ _ _ _ _ _ _ _ (Tq26.setTop (mkF m 243 #[.val (.int x0), .val (.int x1), .val (.int x2), .val (.int x3), .val (.int k4), .val (.int c5), .val (.int d6), .val (.int m7), .val (.ref ca), .val (.ref sS), .val (.ref t2), .unset] [(.ref xr_q26)]))
  refine GoesW.via (fun _ k => XS.aconstNull Xq26.here hx rfl (hb hby at_243) k) ?_
  show GoesW _ _ _ _ _ _ _ _ (Tq26.setTop (mkF m 244 #[.val (.int x0), .val (.int x1), .val (.int x2), .val (.int x3), .val (.int k4), .val (.int c5), .val (.int d6), .val (.int m7), .val (.ref ca), .val (.ref sS), .val (.ref t2), .unset] [.null, (.ref xr_q26)]))
  obtain ⟨vq27, Tq27, Lq27, Xq27, qq27, nq27, stq27⟩ := callVi Xq26 hx hZ hown (orElseV l Z aw hw xr_q26 t2 Oq26 pq26_3) (W_81 hw) (W_82 hw) (notFace_of_selects (args := #[]) (mvT hZ (W_84 hw))) (W_84 hw) (W_83 hw) (W_78 hw) (W_85 hw) (by decide) rfl pq26_2 (by decide) (W := 0) (by decide) (by show _ + 0 ≤ 32; omega) (by show _ + 0 ≤ 5312; omega) (g := (mkF m 244 #[.val (.int x0), .val (.int x1), .val (.int x2), .val (.int x3), .val (.int k4), .val (.int c5), .val (.int d6), .val (.int m7), .val (.ref ca), .val (.ref sS), .val (.ref t2), .unset] [.null, (.ref xr_q26)])) rfl (by rw [hml]; rfl) (a := xr_q26) (argsL := [.null]) (rest := []) rfl (lenOf pd_6 rfl) rfl (by show 2 * 0 + _ ≤ _; exact Nat.le_of_eq rfl) (hb hby at_244)
  dsimp only at Xq27
  obtain ⟨rfl, pq27_0⟩ := qq27
  have Nq27 := Fr.app Nq26 nq27
  refine GoesW.via stq27 ?_
  show GoesW _ _ _ _ _ _ _ _ (Tq27.setTop (mkF m 247 #[.val (.int x0), .val (.int x1), .val (.int x2), .val (.int x3), .val (.int k4), .val (.int c5), .val (.int d6), .val (.int m7), .val (.ref ca), .val (.ref sS), .val (.ref t2), .unset] [(.ref t2)]))
  have fq29 : Exa Z Tq26.heap t2 "com/example/dispatch_note/dispatchnote/contract/ManagedMember" := (E3.ext Oq26.2)
  obtain ⟨Tq28, Xq28, eq28, stq28⟩ := castY Xq27 hx hZ hown (W_106 hw) pq27_0 (Ins.self fq29) (g := (mkF m 247 #[.val (.int x0), .val (.int x1), .val (.int x2), .val (.int x3), .val (.int k4), .val (.int c5), .val (.int d6), .val (.int m7), .val (.ref ca), .val (.ref sS), .val (.ref t2), .unset] [(.ref t2)])) rfl rfl (hb hby at_247)
  refine GoesW.via stq28 ?_
  show GoesW _ _ _ _ _ _ _ _ (Tq28.setTop (mkF m 250 #[.val (.int x0), .val (.int x1), .val (.int x2), .val (.int x3), .val (.int k4), .val (.int c5), .val (.int d6), .val (.int m7), .val (.ref ca), .val (.ref sS), .val (.ref t2), .unset] [(.ref t2)]))
  refine GoesW.via (fun _ k => XS.astore Xq28.here hx rfl (hb hby at_250) rfl rfl (l' := #[.val (.int x0), .val (.int x1), .val (.int x2), .val (.int x3), .val (.int k4), .val (.int c5), .val (.int d6), .val (.int m7), .val (.ref ca), .val (.ref sS), .val (.ref t2), .val (.ref t2)]) rfl k) ?_
  show GoesW _ _ _ _ _ _ _ _ (Tq28.setTop (mkF m 252 #[.val (.int x0), .val (.int x1), .val (.int x2), .val (.int x3), .val (.int k4), .val (.int c5), .val (.int d6), .val (.int m7), .val (.ref ca), .val (.ref sS), .val (.ref t2), .val (.ref t2)] []))
  refine GoesW.via (fun _ k => XS.aload Xq28.here hx rfl (hb hby at_252) rfl rfl k) ?_
  show GoesW _ _ _ _ _ _ _ _ (Tq28.setTop (mkF m 254 #[.val (.int x0), .val (.int x1), .val (.int x2), .val (.int x3), .val (.int k4), .val (.int c5), .val (.int d6), .val (.int m7), .val (.ref ca), .val (.ref sS), .val (.ref t2), .val (.ref t2)] [(.ref t2)]))
  refine GoesW.via (fun _ k => XS.aload Xq28.here hx rfl (hb hby at_254) rfl rfl k) ?_
  show GoesW _ _ _ _ _ _ _ _ (Tq28.setTop (mkF m 256 #[.val (.int x0), .val (.int x1), .val (.int x2), .val (.int x3), .val (.int k4), .val (.int c5), .val (.int d6), .val (.int m7), .val (.ref ca), .val (.ref sS), .val (.ref t2), .val (.ref t2)] [(.ref t2), (.ref t2)]))
  refine GoesW.via (fun _ k => XT.acmpNo Xq28.here hx rfl (hb hby at_256) rfl rfl rfl (XT.aa_ne_f rfl) k) ?_
  show GoesW _ _ _ _ _ _ _ _ (Tq28.setTop (mkF m 259 #[.val (.int x0), .val (.int x1), .val (.int x2), .val (.int x3), .val (.int k4), .val (.int c5), .val (.int d6), .val (.int m7), .val (.ref ca), .val (.ref sS), .val (.ref t2), .val (.ref t2)] []))
  refine GoesW.via (fun _ k => XT.iconstV Xq28.here hx rfl (1 : Int32) (hb hby at_259) (by decide) k) ?_
  show GoesW _ _ _ _ _ _ _ _ (Tq28.setTop (mkF m 260 #[.val (.int x0), .val (.int x1), .val (.int x2), .val (.int x3), .val (.int k4), .val (.int c5), .val (.int d6), .val (.int m7), .val (.ref ca), .val (.ref sS), .val (.ref t2), .val (.ref t2)] [(.int (1 : Int32))]))
  refine GoesW.via (fun _ k => XS.goto Xq28.here hx rfl (pc0 := 260) (pc' := 264) rfl (hb hby at_260) (by decide) (by decide) k) ?_
  show GoesW _ _ _ _ _ _ _ _ (Tq28.setTop (mkF m 264 #[.val (.int x0), .val (.int x1), .val (.int x2), .val (.int x3), .val (.int k4), .val (.int c5), .val (.int d6), .val (.int m7), .val (.ref ca), .val (.ref sS), .val (.ref t2), .val (.ref t2)] [(.int (1 : Int32))]))
  refine goRetNW Xq28 hx hrt (by simp) hlk Nq27 hS (by rw [eq28]; omega) (by show _ ≤ 32; omega) (by show _ ≤ 5312; omega) (hb hby at_264) ?_
  intro hWm
  try rw [eq28]
  refine ⟨?_, Cq26.trans (CHv.at Xq28 hZ (ew hw) Cq26.1)⟩
  exact rfl
set_option maxRecDepth 65536 in
set_option maxHeartbeats 40000000 in
theorem law_c23 (l : Launch) (Z : State) (aw : Array Value) (hw : ∀ d ∈ tables_1, d.before aw Z = true) (x0 : Int32) (x1 : Int32) (x2 : Int32) (x3 : Int32) (k4 : Int32) (c5 : Int32) (d6 : Int32) (m7 : Int32) (ca : Nat) (sS : Nat) (wS : Nat) (kS : ClassId) (NS1 : Int32) (vS : List Value) (csS : List Int32) (ar : Nat) (kz0 : ClassId) (t0 : Nat) (t1 : Nat) (t2 : Nat) (t3 : Nat) (u0 : Nat) (y0 : Nat) (ky0 : ClassId) (u1 : Nat) (y1 : Nat) (ky1 : ClassId) (u2 : Nat) (y2 : Nat) (ky2 : ClassId) (u3 : Nat) (y3 : Nat) (ky3 : ClassId) (em : Nat) (cz : Int32) {p : Program} {e : Env} {s : State} {m : MethodId} {args : Array Value} {below : List Frame} {meth : Method} {c : Code} {T : State} {locs : List Loc} {cells slots n0 : Nat} {h0 h1 : Heap} (hx : p.tables.exec = Jvm.exec) (hby : c.code = code) (hml : c.maxLocals = 12) (hrt : meth.sig.returnType = some .boolean) (hlk : meth.locks = false) (hnm : meth.name = "law") {vm0 vmE : Vm} {k0 : Nat} (hZ : Z.Warmed39 vm0) (hown : vm0.findClass "com/example/dispatch_note/dispatchnote/contract/ManagedMemberNamedPinLaw" = some m.cls) (X : Stand p l e room_1 (s.setVm vm0) m args below meth c T locs cells slots) (e0 : T.heap = h1) (N : Fr n0 locs) (hcells : cells ≤ 16) (hslots : slots ≤ 184) (O : Old Z n0 h1) (hS : s.Since vm0 k0) (hk0 : k0 ≤ h1.size) (C0 : CHr Z EL vmE h0 vm0 h1) (S0 : Sta Z Z.heap "com/example/dispatch_note/dispatchnote/contract/ManagedMember" "$VALUES" "[Lcom/example/dispatch_note/dispatchnote/contract/ManagedMember;" (.ref ar)) (V0 : Arv Z Z.heap ar kz0 (.object "com/example/dispatch_note/dispatchnote/contract/ManagedMember") (4 : Int32) [(.ref t0), (.ref t1), (.ref t2), (.ref t3)] .null) (E0 : Exa Z Z.heap ar "[Lcom/example/dispatch_note/dispatchnote/contract/ManagedMember;") (S1 : Sta Z Z.heap "com/example/dispatch_note/dispatchnote/contract/ManagedMember" "ID" "Lcom/example/dispatch_note/dispatchnote/contract/ManagedMember;" (.ref t0)) (S2 : Sta Z Z.heap "com/example/dispatch_note/dispatchnote/contract/ManagedMember" "VERSION" "Lcom/example/dispatch_note/dispatchnote/contract/ManagedMember;" (.ref t1)) (S3 : Sta Z Z.heap "com/example/dispatch_note/dispatchnote/contract/ManagedMember" "CREATED_AT" "Lcom/example/dispatch_note/dispatchnote/contract/ManagedMember;" (.ref t2)) (S4 : Sta Z Z.heap "com/example/dispatch_note/dispatchnote/contract/ManagedMember" "UPDATED_AT" "Lcom/example/dispatch_note/dispatchnote/contract/ManagedMember;" (.ref t3)) (E1 : Exa Z Z.heap t0 "com/example/dispatch_note/dispatchnote/contract/ManagedMember") (E2 : Exa Z Z.heap t1 "com/example/dispatch_note/dispatchnote/contract/ManagedMember") (E3 : Exa Z Z.heap t2 "com/example/dispatch_note/dispatchnote/contract/ManagedMember") (E4 : Exa Z Z.heap t3 "com/example/dispatch_note/dispatchnote/contract/ManagedMember") (F0 : Fld Z Z.heap t0 "com/example/dispatch_note/dispatchnote/contract/ManagedMember" "memberName" "Ljava/lang/String;" (.ref u0)) (EU0 : Exa Z Z.heap u0 "java/lang/String") (CU0 : Fld Z Z.heap u0 "java/lang/String" "coder" "B" (.int (0 : Int32))) (VU0 : Fld Z Z.heap u0 "java/lang/String" "value" "[B" (.ref y0)) (AU0 : Arv Z Z.heap y0 ky0 .byte (2 : Int32) [(.int (105 : Int32)), (.int (100 : Int32))] (.int (0 : Int32))) (F1 : Fld Z Z.heap t1 "com/example/dispatch_note/dispatchnote/contract/ManagedMember" "memberName" "Ljava/lang/String;" (.ref u1)) (EU1 : Exa Z Z.heap u1 "java/lang/String") (CU1 : Fld Z Z.heap u1 "java/lang/String" "coder" "B" (.int (0 : Int32))) (VU1 : Fld Z Z.heap u1 "java/lang/String" "value" "[B" (.ref y1)) (AU1 : Arv Z Z.heap y1 ky1 .byte (7 : Int32) [(.int (118 : Int32)), (.int (101 : Int32)), (.int (114 : Int32)), (.int (115 : Int32)), (.int (105 : Int32)), (.int (111 : Int32)), (.int (110 : Int32))] (.int (0 : Int32))) (F2 : Fld Z Z.heap t2 "com/example/dispatch_note/dispatchnote/contract/ManagedMember" "memberName" "Ljava/lang/String;" (.ref u2)) (EU2 : Exa Z Z.heap u2 "java/lang/String") (CU2 : Fld Z Z.heap u2 "java/lang/String" "coder" "B" (.int (0 : Int32))) (VU2 : Fld Z Z.heap u2 "java/lang/String" "value" "[B" (.ref y2)) (AU2 : Arv Z Z.heap y2 ky2 .byte (9 : Int32) [(.int (99 : Int32)), (.int (114 : Int32)), (.int (101 : Int32)), (.int (97 : Int32)), (.int (116 : Int32)), (.int (101 : Int32)), (.int (100 : Int32)), (.int (65 : Int32)), (.int (116 : Int32))] (.int (0 : Int32))) (F3 : Fld Z Z.heap t3 "com/example/dispatch_note/dispatchnote/contract/ManagedMember" "memberName" "Ljava/lang/String;" (.ref u3)) (EU3 : Exa Z Z.heap u3 "java/lang/String") (CU3 : Fld Z Z.heap u3 "java/lang/String" "coder" "B" (.int (0 : Int32))) (VU3 : Fld Z Z.heap u3 "java/lang/String" "value" "[B" (.ref y3)) (AU3 : Arv Z Z.heap y3 ky3 .byte (9 : Int32) [(.int (117 : Int32)), (.int (112 : Int32)), (.int (100 : Int32)), (.int (97 : Int32)), (.int (116 : Int32)), (.int (101 : Int32)), (.int (100 : Int32)), (.int (65 : Int32)), (.int (116 : Int32))] (.int (0 : Int32))) (CS : Sta Z Z.heap "java/lang/String" "COMPACT_STRINGS" "Z" (.int cz)) (SE : Sta Z Z.heap "java/util/Optional" "EMPTY" "Ljava/util/Optional;" (.ref em)) (EE : Exa Z Z.heap em "java/util/Optional") (FE : Fld Z Z.heap em "java/util/Optional" "value" "Ljava/lang/Object;" .null) (pf0 : Exa Z h1 sS "java/lang/String") (pf1 : Fld Z h1 sS "java/lang/String" "value" "[B" (.ref wS)) (pf2 : Fld Z h1 sS "java/lang/String" "coder" "B" (.int (0 : Int32))) (pf3 : Arv Z h1 wS kS .byte NS1 vS (.int (0 : Int32))) (hcz : ¬ cz = (0 : Int32)) (codS : StrChars.Road.CodA csS 0 NS1 vS) (rgS : ∀ c ∈ csS, ¬ c < 0 ∧ ¬ (65535 : Int32) < c) (lnS : csS.length ≤ 4000) (cq2 : ¬ csS = LIT_0) (cq11 : ¬ csS = LIT_1) (cq18 : ¬ csS = LIT_2) (cq27 : csS = LIT_3) :
    GoesW p e below s room_1.cells room_1.slots n0 (fun v vm h => (fun vv hh => vv = some (.int (1 : Int32))) v h ∧ CHr Z EL vmE h0 vm h) (T.setTop (mkF m 230 #[.val (.int x0), .val (.int x1), .val (.int x2), .val (.int x3), .val (.int k4), .val (.int c5), .val (.int d6), .val (.int m7), .val (.ref ca), .val (.ref sS), .val .null, .unset] [(.int (1 : Int32))])) := by
  have zO := O.le
  have lt_sS := lt_nat pf0.lt
  have lt_wS := lt_nat pf3.lt
  show GoesW _ _ _ _ _ _ _ _ (T.setTop (mkF m 230 #[.val (.int x0), .val (.int x1), .val (.int x2), .val (.int x3), .val (.int k4), .val (.int c5), .val (.int d6), .val (.int m7), .val (.ref ca), .val (.ref sS), .val .null, .unset] [(.int (1 : Int32))]))
  refine GoesW.via (fun _ k => XS.ifNo X.here hx rfl (hb hby at_230) rfl (XT.i0_eq_f (by decide)) k) ?_
  show GoesW _ _ _ _ _ _ _ _ (T.setTop (mkF m 233 #[.val (.int x0), .val (.int x1), .val (.int x2), .val (.int x3), .val (.int k4), .val (.int c5), .val (.int d6), .val (.int m7), .val (.ref ca), .val (.ref sS), .val .null, .unset] []))
  have fq34 : Sta Z h1 "com/example/dispatch_note/dispatchnote/contract/ManagedMember" "UPDATED_AT" "Lcom/example/dispatch_note/dispatchnote/contract/ManagedMember;" (.ref t3) := (S4.ext O.2)
  obtain ⟨Tq33, Xq33, eq33, stq33⟩ := getS2 X hx hZ hown (host := "") (Or.inl (W_91 hw)) Via.refl e0 fq34 (g := (mkF m 233 #[.val (.int x0), .val (.int x1), .val (.int x2), .val (.int x3), .val (.int k4), .val (.int c5), .val (.int d6), .val (.int m7), .val (.ref ca), .val (.ref sS), .val .null, .unset] [])) rfl (hb hby at_233)
  refine GoesW.via stq33 ?_
  show GoesW _ _ _ _ _ _ _ _ (Tq33.setTop (mkF m 236 #[.val (.int x0), .val (.int x1), .val (.int x2), .val (.int x3), .val (.int k4), .val (.int c5), .val (.int d6), .val (.int m7), .val (.ref ca), .val (.ref sS), .val .null, .unset] [(.ref t3)]))
  refine GoesW.via (fun _ k => XS.astore Xq33.here hx rfl (hb hby at_236) rfl rfl (l' := #[.val (.int x0), .val (.int x1), .val (.int x2), .val (.int x3), .val (.int k4), .val (.int c5), .val (.int d6), .val (.int m7), .val (.ref ca), .val (.ref sS), .val (.ref t3), .unset]) rfl k) ?_
  show GoesW _ _ _ _ _ _ _ _ (Tq33.setTop (mkF m 238 #[.val (.int x0), .val (.int x1), .val (.int x2), .val (.int x3), .val (.int k4), .val (.int c5), .val (.int d6), .val (.int m7), .val (.ref ca), .val (.ref sS), .val (.ref t3), .unset] []))
  refine GoesW.via (fun _ k => XS.aload Xq33.here hx rfl (hb hby at_238) rfl rfl k) ?_
  show GoesW _ _ _ _ _ _ _ _ (Tq33.setTop (mkF m 240 #[.val (.int x0), .val (.int x1), .val (.int x2), .val (.int x3), .val (.int k4), .val (.int c5), .val (.int d6), .val (.int m7), .val (.ref ca), .val (.ref sS), .val (.ref t3), .unset] [(.ref sS)]))
  obtain ⟨vq35, Tq35, Lq35, Xq35, qq35, nq35, stq35⟩ := callSt Xq33 hx hZ hown (named_3 l Z aw hw sS wS kS NS1 vS csS ar kz0 t0 t1 t2 t3 u0 y0 ky0 u1 y1 ky1 u2 y2 ky2 u3 y3 ky3 em cz O S0 V0 E0 CS SE F0 EU0 CU0 VU0 AU0 F1 EU1 CU1 VU1 AU1 F2 EU2 CU2 VU2 AU2 F3 EU3 CU3 VU3 AU3 pf0 pf1 pf2 pf3 hcz codS rgS lnS cq27) (W_50 hw) (W_51 hw) (W_52 hw) (W_53 hw) (by decide) eq33 (by decide) (W := 0) (by decide) (by show _ + 2 ≤ 32; omega) (by show _ + 8 ≤ 5312; omega) (g := (mkF m 240 #[.val (.int x0), .val (.int x1), .val (.int x2), .val (.int x3), .val (.int k4), .val (.int c5), .val (.int d6), .val (.int m7), .val (.ref ca), .val (.ref sS), .val (.ref t3), .unset] [(.ref sS)])) rfl (by rw [hml]; rfl) (argsL := [(.ref sS)]) (rest := []) rfl (lenOf pd_17 rfl) rfl (by show 2 * 0 + _ ≤ _; exact Nat.le_of_eq rfl) (hb hby at_240)
  dsimp only at Xq35
  obtain ⟨xr_q35, rfl, pq35_0, pq35_1, pq35_2, pq35_3⟩ := qq35
  have Nq35 := Fr.app N nq35
  have zq35 := pq35_1.1
  have Oq35 := O.keep pq35_1 all0
  have Cq35 := C0.trans (CHr.keep pq35_1 all0 C0.1)
  have ltpq35_2 := lt_nat pq35_2.lt
  refine GoesW.via stq35 ?_
  show GoesW _ _ _ _ _ _ _ _ (Tq35.setTop (mkF m 243 #[.val (.int x0), .val (.int x1), .val (.int x2), .val (.int x3), .val (.int k4), .val (.int c5), .val (.int d6), .val (.int m7), .val (.ref ca), .val (.ref sS), .val (.ref t3), .unset] [(.ref xr_q35)]))
  refine GoesW.via (fun _ k => XS.aconstNull Xq35.here hx rfl (hb hby at_243) k) ?_
  show GoesW _ _ _ _ _ _ _ _ (Tq35.setTop (mkF m 244 #[.val (.int x0), .val (.int x1), .val (.int x2), .val (.int x3), .val (.int k4), .val (.int c5), .val (.int d6), .val (.int m7), .val (.ref ca), .val (.ref sS), .val (.ref t3), .unset] [.null, (.ref xr_q35)]))
  obtain ⟨vq36, Tq36, Lq36, Xq36, qq36, nq36, stq36⟩ := callVi Xq35 hx hZ hown (orElseV l Z aw hw xr_q35 t3 Oq35 pq35_3) (W_81 hw) (W_82 hw) (notFace_of_selects (args := #[]) (mvT hZ (W_84 hw))) (W_84 hw) (W_83 hw) (W_78 hw) (W_85 hw) (by decide) rfl pq35_2 (by decide) (W := 0) (by decide) (by show _ + 0 ≤ 32; omega) (by show _ + 0 ≤ 5312; omega) (g := (mkF m 244 #[.val (.int x0), .val (.int x1), .val (.int x2), .val (.int x3), .val (.int k4), .val (.int c5), .val (.int d6), .val (.int m7), .val (.ref ca), .val (.ref sS), .val (.ref t3), .unset] [.null, (.ref xr_q35)])) rfl (by rw [hml]; rfl) (a := xr_q35) (argsL := [.null]) (rest := []) rfl (lenOf pd_6 rfl) rfl (by show 2 * 0 + _ ≤ _; exact Nat.le_of_eq rfl) (hb hby at_244)
  dsimp only at Xq36
  obtain ⟨rfl, pq36_0⟩ := qq36
  have Nq36 := Fr.app Nq35 nq36
  refine GoesW.via stq36 ?_
  show GoesW _ _ _ _ _ _ _ _ (Tq36.setTop (mkF m 247 #[.val (.int x0), .val (.int x1), .val (.int x2), .val (.int x3), .val (.int k4), .val (.int c5), .val (.int d6), .val (.int m7), .val (.ref ca), .val (.ref sS), .val (.ref t3), .unset] [(.ref t3)]))
  have fq38 : Exa Z Tq35.heap t3 "com/example/dispatch_note/dispatchnote/contract/ManagedMember" := (E4.ext Oq35.2)
  obtain ⟨Tq37, Xq37, eq37, stq37⟩ := castY Xq36 hx hZ hown (W_106 hw) pq36_0 (Ins.self fq38) (g := (mkF m 247 #[.val (.int x0), .val (.int x1), .val (.int x2), .val (.int x3), .val (.int k4), .val (.int c5), .val (.int d6), .val (.int m7), .val (.ref ca), .val (.ref sS), .val (.ref t3), .unset] [(.ref t3)])) rfl rfl (hb hby at_247)
  refine GoesW.via stq37 ?_
  show GoesW _ _ _ _ _ _ _ _ (Tq37.setTop (mkF m 250 #[.val (.int x0), .val (.int x1), .val (.int x2), .val (.int x3), .val (.int k4), .val (.int c5), .val (.int d6), .val (.int m7), .val (.ref ca), .val (.ref sS), .val (.ref t3), .unset] [(.ref t3)]))
  refine GoesW.via (fun _ k => XS.astore Xq37.here hx rfl (hb hby at_250) rfl rfl (l' := #[.val (.int x0), .val (.int x1), .val (.int x2), .val (.int x3), .val (.int k4), .val (.int c5), .val (.int d6), .val (.int m7), .val (.ref ca), .val (.ref sS), .val (.ref t3), .val (.ref t3)]) rfl k) ?_
  show GoesW _ _ _ _ _ _ _ _ (Tq37.setTop (mkF m 252 #[.val (.int x0), .val (.int x1), .val (.int x2), .val (.int x3), .val (.int k4), .val (.int c5), .val (.int d6), .val (.int m7), .val (.ref ca), .val (.ref sS), .val (.ref t3), .val (.ref t3)] []))
  refine GoesW.via (fun _ k => XS.aload Xq37.here hx rfl (hb hby at_252) rfl rfl k) ?_
  show GoesW _ _ _ _ _ _ _ _ (Tq37.setTop (mkF m 254 #[.val (.int x0), .val (.int x1), .val (.int x2), .val (.int x3), .val (.int k4), .val (.int c5), .val (.int d6), .val (.int m7), .val (.ref ca), .val (.ref sS), .val (.ref t3), .val (.ref t3)] [(.ref t3)]))
  refine GoesW.via (fun _ k => XS.aload Xq37.here hx rfl (hb hby at_254) rfl rfl k) ?_
  show GoesW _ _ _ _ _ _ _ _ (Tq37.setTop (mkF m 256 #[.val (.int x0), .val (.int x1), .val (.int x2), .val (.int x3), .val (.int k4), .val (.int c5), .val (.int d6), .val (.int m7), .val (.ref ca), .val (.ref sS), .val (.ref t3), .val (.ref t3)] [(.ref t3), (.ref t3)]))
  refine GoesW.via (fun _ k => XT.acmpNo Xq37.here hx rfl (hb hby at_256) rfl rfl rfl (XT.aa_ne_f rfl) k) ?_
  show GoesW _ _ _ _ _ _ _ _ (Tq37.setTop (mkF m 259 #[.val (.int x0), .val (.int x1), .val (.int x2), .val (.int x3), .val (.int k4), .val (.int c5), .val (.int d6), .val (.int m7), .val (.ref ca), .val (.ref sS), .val (.ref t3), .val (.ref t3)] []))
  refine GoesW.via (fun _ k => XT.iconstV Xq37.here hx rfl (1 : Int32) (hb hby at_259) (by decide) k) ?_
  show GoesW _ _ _ _ _ _ _ _ (Tq37.setTop (mkF m 260 #[.val (.int x0), .val (.int x1), .val (.int x2), .val (.int x3), .val (.int k4), .val (.int c5), .val (.int d6), .val (.int m7), .val (.ref ca), .val (.ref sS), .val (.ref t3), .val (.ref t3)] [(.int (1 : Int32))]))
  refine GoesW.via (fun _ k => XS.goto Xq37.here hx rfl (pc0 := 260) (pc' := 264) rfl (hb hby at_260) (by decide) (by decide) k) ?_
  show GoesW _ _ _ _ _ _ _ _ (Tq37.setTop (mkF m 264 #[.val (.int x0), .val (.int x1), .val (.int x2), .val (.int x3), .val (.int k4), .val (.int c5), .val (.int d6), .val (.int m7), .val (.ref ca), .val (.ref sS), .val (.ref t3), .val (.ref t3)] [(.int (1 : Int32))]))
  refine goRetNW Xq37 hx hrt (by simp) hlk Nq36 hS (by rw [eq37]; omega) (by show _ ≤ 32; omega) (by show _ ≤ 5312; omega) (hb hby at_264) ?_
  intro hWm
  try rw [eq37]
  refine ⟨?_, Cq35.trans (CHv.at Xq37 hZ (ew hw) Cq35.1)⟩
  exact rfl
set_option maxRecDepth 65536 in
set_option maxHeartbeats 40000000 in
theorem law_c24 (l : Launch) (Z : State) (aw : Array Value) (hw : ∀ d ∈ tables_1, d.before aw Z = true) (x0 : Int32) (x1 : Int32) (x2 : Int32) (x3 : Int32) (k4 : Int32) (c5 : Int32) (d6 : Int32) (m7 : Int32) (ca : Nat) (sS : Nat) (wS : Nat) (kS : ClassId) (NS1 : Int32) (vS : List Value) (csS : List Int32) (ar : Nat) (kz0 : ClassId) (t0 : Nat) (t1 : Nat) (t2 : Nat) (t3 : Nat) (u0 : Nat) (y0 : Nat) (ky0 : ClassId) (u1 : Nat) (y1 : Nat) (ky1 : ClassId) (u2 : Nat) (y2 : Nat) (ky2 : ClassId) (u3 : Nat) (y3 : Nat) (ky3 : ClassId) (em : Nat) (cz : Int32) {p : Program} {e : Env} {s : State} {m : MethodId} {args : Array Value} {below : List Frame} {meth : Method} {c : Code} {T : State} {locs : List Loc} {cells slots n0 : Nat} {h0 h1 : Heap} (hx : p.tables.exec = Jvm.exec) (hby : c.code = code) (hml : c.maxLocals = 12) (hrt : meth.sig.returnType = some .boolean) (hlk : meth.locks = false) (hnm : meth.name = "law") {vm0 vmE : Vm} {k0 : Nat} (hZ : Z.Warmed39 vm0) (hown : vm0.findClass "com/example/dispatch_note/dispatchnote/contract/ManagedMemberNamedPinLaw" = some m.cls) (X : Stand p l e room_1 (s.setVm vm0) m args below meth c T locs cells slots) (e0 : T.heap = h1) (N : Fr n0 locs) (hcells : cells ≤ 16) (hslots : slots ≤ 184) (O : Old Z n0 h1) (hS : s.Since vm0 k0) (hk0 : k0 ≤ h1.size) (C0 : CHr Z EL vmE h0 vm0 h1) (S0 : Sta Z Z.heap "com/example/dispatch_note/dispatchnote/contract/ManagedMember" "$VALUES" "[Lcom/example/dispatch_note/dispatchnote/contract/ManagedMember;" (.ref ar)) (V0 : Arv Z Z.heap ar kz0 (.object "com/example/dispatch_note/dispatchnote/contract/ManagedMember") (4 : Int32) [(.ref t0), (.ref t1), (.ref t2), (.ref t3)] .null) (E0 : Exa Z Z.heap ar "[Lcom/example/dispatch_note/dispatchnote/contract/ManagedMember;") (S1 : Sta Z Z.heap "com/example/dispatch_note/dispatchnote/contract/ManagedMember" "ID" "Lcom/example/dispatch_note/dispatchnote/contract/ManagedMember;" (.ref t0)) (S2 : Sta Z Z.heap "com/example/dispatch_note/dispatchnote/contract/ManagedMember" "VERSION" "Lcom/example/dispatch_note/dispatchnote/contract/ManagedMember;" (.ref t1)) (S3 : Sta Z Z.heap "com/example/dispatch_note/dispatchnote/contract/ManagedMember" "CREATED_AT" "Lcom/example/dispatch_note/dispatchnote/contract/ManagedMember;" (.ref t2)) (S4 : Sta Z Z.heap "com/example/dispatch_note/dispatchnote/contract/ManagedMember" "UPDATED_AT" "Lcom/example/dispatch_note/dispatchnote/contract/ManagedMember;" (.ref t3)) (E1 : Exa Z Z.heap t0 "com/example/dispatch_note/dispatchnote/contract/ManagedMember") (E2 : Exa Z Z.heap t1 "com/example/dispatch_note/dispatchnote/contract/ManagedMember") (E3 : Exa Z Z.heap t2 "com/example/dispatch_note/dispatchnote/contract/ManagedMember") (E4 : Exa Z Z.heap t3 "com/example/dispatch_note/dispatchnote/contract/ManagedMember") (F0 : Fld Z Z.heap t0 "com/example/dispatch_note/dispatchnote/contract/ManagedMember" "memberName" "Ljava/lang/String;" (.ref u0)) (EU0 : Exa Z Z.heap u0 "java/lang/String") (CU0 : Fld Z Z.heap u0 "java/lang/String" "coder" "B" (.int (0 : Int32))) (VU0 : Fld Z Z.heap u0 "java/lang/String" "value" "[B" (.ref y0)) (AU0 : Arv Z Z.heap y0 ky0 .byte (2 : Int32) [(.int (105 : Int32)), (.int (100 : Int32))] (.int (0 : Int32))) (F1 : Fld Z Z.heap t1 "com/example/dispatch_note/dispatchnote/contract/ManagedMember" "memberName" "Ljava/lang/String;" (.ref u1)) (EU1 : Exa Z Z.heap u1 "java/lang/String") (CU1 : Fld Z Z.heap u1 "java/lang/String" "coder" "B" (.int (0 : Int32))) (VU1 : Fld Z Z.heap u1 "java/lang/String" "value" "[B" (.ref y1)) (AU1 : Arv Z Z.heap y1 ky1 .byte (7 : Int32) [(.int (118 : Int32)), (.int (101 : Int32)), (.int (114 : Int32)), (.int (115 : Int32)), (.int (105 : Int32)), (.int (111 : Int32)), (.int (110 : Int32))] (.int (0 : Int32))) (F2 : Fld Z Z.heap t2 "com/example/dispatch_note/dispatchnote/contract/ManagedMember" "memberName" "Ljava/lang/String;" (.ref u2)) (EU2 : Exa Z Z.heap u2 "java/lang/String") (CU2 : Fld Z Z.heap u2 "java/lang/String" "coder" "B" (.int (0 : Int32))) (VU2 : Fld Z Z.heap u2 "java/lang/String" "value" "[B" (.ref y2)) (AU2 : Arv Z Z.heap y2 ky2 .byte (9 : Int32) [(.int (99 : Int32)), (.int (114 : Int32)), (.int (101 : Int32)), (.int (97 : Int32)), (.int (116 : Int32)), (.int (101 : Int32)), (.int (100 : Int32)), (.int (65 : Int32)), (.int (116 : Int32))] (.int (0 : Int32))) (F3 : Fld Z Z.heap t3 "com/example/dispatch_note/dispatchnote/contract/ManagedMember" "memberName" "Ljava/lang/String;" (.ref u3)) (EU3 : Exa Z Z.heap u3 "java/lang/String") (CU3 : Fld Z Z.heap u3 "java/lang/String" "coder" "B" (.int (0 : Int32))) (VU3 : Fld Z Z.heap u3 "java/lang/String" "value" "[B" (.ref y3)) (AU3 : Arv Z Z.heap y3 ky3 .byte (9 : Int32) [(.int (117 : Int32)), (.int (112 : Int32)), (.int (100 : Int32)), (.int (97 : Int32)), (.int (116 : Int32)), (.int (101 : Int32)), (.int (100 : Int32)), (.int (65 : Int32)), (.int (116 : Int32))] (.int (0 : Int32))) (CS : Sta Z Z.heap "java/lang/String" "COMPACT_STRINGS" "Z" (.int cz)) (SE : Sta Z Z.heap "java/util/Optional" "EMPTY" "Ljava/util/Optional;" (.ref em)) (EE : Exa Z Z.heap em "java/util/Optional") (FE : Fld Z Z.heap em "java/util/Optional" "value" "Ljava/lang/Object;" .null) (pf0 : Exa Z h1 sS "java/lang/String") (pf1 : Fld Z h1 sS "java/lang/String" "value" "[B" (.ref wS)) (pf2 : Fld Z h1 sS "java/lang/String" "coder" "B" (.int (0 : Int32))) (pf3 : Arv Z h1 wS kS .byte NS1 vS (.int (0 : Int32))) (hcz : ¬ cz = (0 : Int32)) (codS : StrChars.Road.CodA csS 0 NS1 vS) (rgS : ∀ c ∈ csS, ¬ c < 0 ∧ ¬ (65535 : Int32) < c) (lnS : csS.length ≤ 4000) (cq2 : ¬ csS = LIT_0) (cq11 : ¬ csS = LIT_1) (cq18 : ¬ csS = LIT_2) (cq27 : ¬ csS = LIT_3) :
    GoesW p e below s room_1.cells room_1.slots n0 (fun v vm h => (fun vv hh => vv = some (.int (1 : Int32))) v h ∧ CHr Z EL vmE h0 vm h) (T.setTop (mkF m 230 #[.val (.int x0), .val (.int x1), .val (.int x2), .val (.int x3), .val (.int k4), .val (.int c5), .val (.int d6), .val (.int m7), .val (.ref ca), .val (.ref sS), .val .null, .unset] [(.int (0 : Int32))])) := by
  have zO := O.le
  have lt_sS := lt_nat pf0.lt
  have lt_wS := lt_nat pf3.lt
  show GoesW _ _ _ _ _ _ _ _ (T.setTop (mkF m 230 #[.val (.int x0), .val (.int x1), .val (.int x2), .val (.int x3), .val (.int k4), .val (.int c5), .val (.int d6), .val (.int m7), .val (.ref ca), .val (.ref sS), .val .null, .unset] [(.int (0 : Int32))]))
  refine GoesW.via (fun _ k => XS.ifYes X.here hx rfl (pc0 := 230) (pc' := 238) rfl (hb hby at_230) rfl (XT.i0_eq_t (by decide)) (by decide) (by decide) k) ?_
  show GoesW _ _ _ _ _ _ _ _ (T.setTop (mkF m 238 #[.val (.int x0), .val (.int x1), .val (.int x2), .val (.int x3), .val (.int k4), .val (.int c5), .val (.int d6), .val (.int m7), .val (.ref ca), .val (.ref sS), .val .null, .unset] []))
  refine GoesW.via (fun _ k => XS.aload X.here hx rfl (hb hby at_238) rfl rfl k) ?_
  show GoesW _ _ _ _ _ _ _ _ (T.setTop (mkF m 240 #[.val (.int x0), .val (.int x1), .val (.int x2), .val (.int x3), .val (.int k4), .val (.int c5), .val (.int d6), .val (.int m7), .val (.ref ca), .val (.ref sS), .val .null, .unset] [(.ref sS)]))
  obtain ⟨vq33, Tq33, Lq33, Xq33, qq33, nq33, stq33⟩ := callSt X hx hZ hown (named_n l Z aw hw sS wS kS NS1 vS csS ar kz0 t0 t1 t2 t3 u0 y0 ky0 u1 y1 ky1 u2 y2 ky2 u3 y3 ky3 em cz O S0 V0 E0 CS SE F0 EU0 CU0 VU0 AU0 F1 EU1 CU1 VU1 AU1 F2 EU2 CU2 VU2 AU2 F3 EU3 CU3 VU3 AU3 pf0 pf1 pf2 pf3 hcz codS rgS lnS cq2 cq11 cq18 cq27) (W_50 hw) (W_51 hw) (W_52 hw) (W_53 hw) (by decide) e0 (by decide) (W := 0) (by decide) (by show _ + 2 ≤ 32; omega) (by show _ + 8 ≤ 5312; omega) (g := (mkF m 240 #[.val (.int x0), .val (.int x1), .val (.int x2), .val (.int x3), .val (.int k4), .val (.int c5), .val (.int d6), .val (.int m7), .val (.ref ca), .val (.ref sS), .val .null, .unset] [(.ref sS)])) rfl (by rw [hml]; rfl) (argsL := [(.ref sS)]) (rest := []) rfl (lenOf pd_17 rfl) rfl (by show 2 * 0 + _ ≤ _; exact Nat.le_of_eq rfl) (hb hby at_240)
  dsimp only at Xq33
  obtain ⟨rfl, pq33_0⟩ := qq33
  have Nq33 := Fr.app N nq33
  have zq33 := pq33_0.1
  have Oq33 := O.keep pq33_0 all0
  have Cq33 := C0.trans (CHr.keep pq33_0 all0 C0.1)
  refine GoesW.via stq33 ?_
  show GoesW _ _ _ _ _ _ _ _ (Tq33.setTop (mkF m 243 #[.val (.int x0), .val (.int x1), .val (.int x2), .val (.int x3), .val (.int k4), .val (.int c5), .val (.int d6), .val (.int m7), .val (.ref ca), .val (.ref sS), .val .null, .unset] [(.ref em)]))
  refine GoesW.via (fun _ k => XS.aconstNull Xq33.here hx rfl (hb hby at_243) k) ?_
  show GoesW _ _ _ _ _ _ _ _ (Tq33.setTop (mkF m 244 #[.val (.int x0), .val (.int x1), .val (.int x2), .val (.int x3), .val (.int k4), .val (.int c5), .val (.int d6), .val (.int m7), .val (.ref ca), .val (.ref sS), .val .null, .unset] [.null, (.ref em)]))
  have fq34 : Fld Z Tq33.heap em "java/util/Optional" "value" "Ljava/lang/Object;" .null := (FE.ext Oq33.2)
  have fq36 : Exa Z Tq33.heap em "java/util/Optional" := (EE.ext Oq33.2)
  obtain ⟨vq35, Tq35, Lq35, Xq35, qq35, nq35, stq35⟩ := callVi Xq33 hx hZ hown (orElseN l Z aw hw em Oq33 fq34) (W_81 hw) (W_82 hw) (notFace_of_selects (args := #[]) (mvT hZ (W_84 hw))) (W_84 hw) (W_83 hw) (W_78 hw) (W_85 hw) (by decide) rfl fq36 (by decide) (W := 0) (by decide) (by show _ + 0 ≤ 32; omega) (by show _ + 0 ≤ 5312; omega) (g := (mkF m 244 #[.val (.int x0), .val (.int x1), .val (.int x2), .val (.int x3), .val (.int k4), .val (.int c5), .val (.int d6), .val (.int m7), .val (.ref ca), .val (.ref sS), .val .null, .unset] [.null, (.ref em)])) rfl (by rw [hml]; rfl) (a := em) (argsL := [.null]) (rest := []) rfl (lenOf pd_6 rfl) rfl (by show 2 * 0 + _ ≤ _; exact Nat.le_of_eq rfl) (hb hby at_244)
  dsimp only at Xq35
  obtain ⟨rfl, pq35_0⟩ := qq35
  have Nq35 := Fr.app Nq33 nq35
  refine GoesW.via stq35 ?_
  show GoesW _ _ _ _ _ _ _ _ (Tq35.setTop (mkF m 247 #[.val (.int x0), .val (.int x1), .val (.int x2), .val (.int x3), .val (.int k4), .val (.int c5), .val (.int d6), .val (.int m7), .val (.ref ca), .val (.ref sS), .val .null, .unset] [.null]))
  refine GoesW.via (Xq35.checkcastNull hx (g := (mkF m 247 #[.val (.int x0), .val (.int x1), .val (.int x2), .val (.int x3), .val (.int k4), .val (.int c5), .val (.int d6), .val (.int m7), .val (.ref ca), .val (.ref sS), .val .null, .unset] [.null])) rfl rfl (hb hby at_247)) ?_
  show GoesW _ _ _ _ _ _ _ _ (Tq35.setTop (mkF m 250 #[.val (.int x0), .val (.int x1), .val (.int x2), .val (.int x3), .val (.int k4), .val (.int c5), .val (.int d6), .val (.int m7), .val (.ref ca), .val (.ref sS), .val .null, .unset] [.null]))
  refine GoesW.via (fun _ k => XS.astore Xq35.here hx rfl (hb hby at_250) rfl rfl (l' := #[.val (.int x0), .val (.int x1), .val (.int x2), .val (.int x3), .val (.int k4), .val (.int c5), .val (.int d6), .val (.int m7), .val (.ref ca), .val (.ref sS), .val .null, .val .null]) rfl k) ?_
  show GoesW _ _ _ _ _ _ _ _ (Tq35.setTop (mkF m 252 #[.val (.int x0), .val (.int x1), .val (.int x2), .val (.int x3), .val (.int k4), .val (.int c5), .val (.int d6), .val (.int m7), .val (.ref ca), .val (.ref sS), .val .null, .val .null] []))
  refine GoesW.via (fun _ k => XS.aload Xq35.here hx rfl (hb hby at_252) rfl rfl k) ?_
  show GoesW _ _ _ _ _ _ _ _ (Tq35.setTop (mkF m 254 #[.val (.int x0), .val (.int x1), .val (.int x2), .val (.int x3), .val (.int k4), .val (.int c5), .val (.int d6), .val (.int m7), .val (.ref ca), .val (.ref sS), .val .null, .val .null] [.null]))
  refine GoesW.via (fun _ k => XS.aload Xq35.here hx rfl (hb hby at_254) rfl rfl k) ?_
  show GoesW _ _ _ _ _ _ _ _ (Tq35.setTop (mkF m 256 #[.val (.int x0), .val (.int x1), .val (.int x2), .val (.int x3), .val (.int k4), .val (.int c5), .val (.int d6), .val (.int m7), .val (.ref ca), .val (.ref sS), .val .null, .val .null] [.null, .null]))
  refine GoesW.via (fun _ k => XT.acmpNo Xq35.here hx rfl (hb hby at_256) rfl rfl rfl (XT.aa_ne_f rfl) k) ?_
  show GoesW _ _ _ _ _ _ _ _ (Tq35.setTop (mkF m 259 #[.val (.int x0), .val (.int x1), .val (.int x2), .val (.int x3), .val (.int k4), .val (.int c5), .val (.int d6), .val (.int m7), .val (.ref ca), .val (.ref sS), .val .null, .val .null] []))
  refine GoesW.via (fun _ k => XT.iconstV Xq35.here hx rfl (1 : Int32) (hb hby at_259) (by decide) k) ?_
  show GoesW _ _ _ _ _ _ _ _ (Tq35.setTop (mkF m 260 #[.val (.int x0), .val (.int x1), .val (.int x2), .val (.int x3), .val (.int k4), .val (.int c5), .val (.int d6), .val (.int m7), .val (.ref ca), .val (.ref sS), .val .null, .val .null] [(.int (1 : Int32))]))
  refine GoesW.via (fun _ k => XS.goto Xq35.here hx rfl (pc0 := 260) (pc' := 264) rfl (hb hby at_260) (by decide) (by decide) k) ?_
  show GoesW _ _ _ _ _ _ _ _ (Tq35.setTop (mkF m 264 #[.val (.int x0), .val (.int x1), .val (.int x2), .val (.int x3), .val (.int k4), .val (.int c5), .val (.int d6), .val (.int m7), .val (.ref ca), .val (.ref sS), .val .null, .val .null] [(.int (1 : Int32))]))
  refine goRetNW Xq35 hx hrt (by simp) hlk Nq35 hS (by rw [pq35_0]; omega) (by show _ ≤ 32; omega) (by show _ ≤ 5312; omega) (hb hby at_264) ?_
  intro hWm
  try rw [pq35_0]
  refine ⟨?_, Cq33.trans (CHv.at Xq35 hZ (ew hw) Cq33.1)⟩
  exact rfl
set_option maxRecDepth 65536 in
set_option maxHeartbeats 40000000 in
theorem law_c21 (l : Launch) (Z : State) (aw : Array Value) (hw : ∀ d ∈ tables_1, d.before aw Z = true) (x0 : Int32) (x1 : Int32) (x2 : Int32) (x3 : Int32) (k4 : Int32) (c5 : Int32) (d6 : Int32) (m7 : Int32) (ca : Nat) (sS : Nat) (wS : Nat) (kS : ClassId) (NS1 : Int32) (vS : List Value) (csS : List Int32) (ar : Nat) (kz0 : ClassId) (t0 : Nat) (t1 : Nat) (t2 : Nat) (t3 : Nat) (u0 : Nat) (y0 : Nat) (ky0 : ClassId) (u1 : Nat) (y1 : Nat) (ky1 : ClassId) (u2 : Nat) (y2 : Nat) (ky2 : ClassId) (u3 : Nat) (y3 : Nat) (ky3 : ClassId) (em : Nat) (cz : Int32) {p : Program} {e : Env} {s : State} {m : MethodId} {args : Array Value} {below : List Frame} {meth : Method} {c : Code} {T : State} {locs : List Loc} {cells slots n0 : Nat} {h0 h1 : Heap} (hx : p.tables.exec = Jvm.exec) (hby : c.code = code) (hml : c.maxLocals = 12) (hrt : meth.sig.returnType = some .boolean) (hlk : meth.locks = false) (hnm : meth.name = "law") {vm0 vmE : Vm} {k0 : Nat} (hZ : Z.Warmed39 vm0) (hown : vm0.findClass "com/example/dispatch_note/dispatchnote/contract/ManagedMemberNamedPinLaw" = some m.cls) (X : Stand p l e room_1 (s.setVm vm0) m args below meth c T locs cells slots) (e0 : T.heap = h1) (N : Fr n0 locs) (hcells : cells ≤ 12) (hslots : slots ≤ 104) (O : Old Z n0 h1) (hS : s.Since vm0 k0) (hk0 : k0 ≤ h1.size) (C0 : CHr Z EL vmE h0 vm0 h1) (S0 : Sta Z Z.heap "com/example/dispatch_note/dispatchnote/contract/ManagedMember" "$VALUES" "[Lcom/example/dispatch_note/dispatchnote/contract/ManagedMember;" (.ref ar)) (V0 : Arv Z Z.heap ar kz0 (.object "com/example/dispatch_note/dispatchnote/contract/ManagedMember") (4 : Int32) [(.ref t0), (.ref t1), (.ref t2), (.ref t3)] .null) (E0 : Exa Z Z.heap ar "[Lcom/example/dispatch_note/dispatchnote/contract/ManagedMember;") (S1 : Sta Z Z.heap "com/example/dispatch_note/dispatchnote/contract/ManagedMember" "ID" "Lcom/example/dispatch_note/dispatchnote/contract/ManagedMember;" (.ref t0)) (S2 : Sta Z Z.heap "com/example/dispatch_note/dispatchnote/contract/ManagedMember" "VERSION" "Lcom/example/dispatch_note/dispatchnote/contract/ManagedMember;" (.ref t1)) (S3 : Sta Z Z.heap "com/example/dispatch_note/dispatchnote/contract/ManagedMember" "CREATED_AT" "Lcom/example/dispatch_note/dispatchnote/contract/ManagedMember;" (.ref t2)) (S4 : Sta Z Z.heap "com/example/dispatch_note/dispatchnote/contract/ManagedMember" "UPDATED_AT" "Lcom/example/dispatch_note/dispatchnote/contract/ManagedMember;" (.ref t3)) (E1 : Exa Z Z.heap t0 "com/example/dispatch_note/dispatchnote/contract/ManagedMember") (E2 : Exa Z Z.heap t1 "com/example/dispatch_note/dispatchnote/contract/ManagedMember") (E3 : Exa Z Z.heap t2 "com/example/dispatch_note/dispatchnote/contract/ManagedMember") (E4 : Exa Z Z.heap t3 "com/example/dispatch_note/dispatchnote/contract/ManagedMember") (F0 : Fld Z Z.heap t0 "com/example/dispatch_note/dispatchnote/contract/ManagedMember" "memberName" "Ljava/lang/String;" (.ref u0)) (EU0 : Exa Z Z.heap u0 "java/lang/String") (CU0 : Fld Z Z.heap u0 "java/lang/String" "coder" "B" (.int (0 : Int32))) (VU0 : Fld Z Z.heap u0 "java/lang/String" "value" "[B" (.ref y0)) (AU0 : Arv Z Z.heap y0 ky0 .byte (2 : Int32) [(.int (105 : Int32)), (.int (100 : Int32))] (.int (0 : Int32))) (F1 : Fld Z Z.heap t1 "com/example/dispatch_note/dispatchnote/contract/ManagedMember" "memberName" "Ljava/lang/String;" (.ref u1)) (EU1 : Exa Z Z.heap u1 "java/lang/String") (CU1 : Fld Z Z.heap u1 "java/lang/String" "coder" "B" (.int (0 : Int32))) (VU1 : Fld Z Z.heap u1 "java/lang/String" "value" "[B" (.ref y1)) (AU1 : Arv Z Z.heap y1 ky1 .byte (7 : Int32) [(.int (118 : Int32)), (.int (101 : Int32)), (.int (114 : Int32)), (.int (115 : Int32)), (.int (105 : Int32)), (.int (111 : Int32)), (.int (110 : Int32))] (.int (0 : Int32))) (F2 : Fld Z Z.heap t2 "com/example/dispatch_note/dispatchnote/contract/ManagedMember" "memberName" "Ljava/lang/String;" (.ref u2)) (EU2 : Exa Z Z.heap u2 "java/lang/String") (CU2 : Fld Z Z.heap u2 "java/lang/String" "coder" "B" (.int (0 : Int32))) (VU2 : Fld Z Z.heap u2 "java/lang/String" "value" "[B" (.ref y2)) (AU2 : Arv Z Z.heap y2 ky2 .byte (9 : Int32) [(.int (99 : Int32)), (.int (114 : Int32)), (.int (101 : Int32)), (.int (97 : Int32)), (.int (116 : Int32)), (.int (101 : Int32)), (.int (100 : Int32)), (.int (65 : Int32)), (.int (116 : Int32))] (.int (0 : Int32))) (F3 : Fld Z Z.heap t3 "com/example/dispatch_note/dispatchnote/contract/ManagedMember" "memberName" "Ljava/lang/String;" (.ref u3)) (EU3 : Exa Z Z.heap u3 "java/lang/String") (CU3 : Fld Z Z.heap u3 "java/lang/String" "coder" "B" (.int (0 : Int32))) (VU3 : Fld Z Z.heap u3 "java/lang/String" "value" "[B" (.ref y3)) (AU3 : Arv Z Z.heap y3 ky3 .byte (9 : Int32) [(.int (117 : Int32)), (.int (112 : Int32)), (.int (100 : Int32)), (.int (97 : Int32)), (.int (116 : Int32)), (.int (101 : Int32)), (.int (100 : Int32)), (.int (65 : Int32)), (.int (116 : Int32))] (.int (0 : Int32))) (CS : Sta Z Z.heap "java/lang/String" "COMPACT_STRINGS" "Z" (.int cz)) (SE : Sta Z Z.heap "java/util/Optional" "EMPTY" "Ljava/util/Optional;" (.ref em)) (EE : Exa Z Z.heap em "java/util/Optional") (FE : Fld Z Z.heap em "java/util/Optional" "value" "Ljava/lang/Object;" .null) (pf0 : Exa Z h1 sS "java/lang/String") (pf1 : Fld Z h1 sS "java/lang/String" "value" "[B" (.ref wS)) (pf2 : Fld Z h1 sS "java/lang/String" "coder" "B" (.int (0 : Int32))) (pf3 : Arv Z h1 wS kS .byte NS1 vS (.int (0 : Int32))) (hcz : ¬ cz = (0 : Int32)) (codS : StrChars.Road.CodA csS 0 NS1 vS) (rgS : ∀ c ∈ csS, ¬ c < 0 ∧ ¬ (65535 : Int32) < c) (lnS : csS.length ≤ 4000) (cq2 : ¬ csS = LIT_0) (cq11 : ¬ csS = LIT_1) :
    GoesW p e below s room_1.cells room_1.slots n0 (fun v vm h => (fun vv hh => vv = some (.int (1 : Int32))) v h ∧ CHr Z EL vmE h0 vm h) (T.setTop (mkF m 194 #[.val (.int x0), .val (.int x1), .val (.int x2), .val (.int x3), .val (.int k4), .val (.int c5), .val (.int d6), .val (.int m7), .val (.ref ca), .val (.ref sS), .val .null, .unset] [(.int (0 : Int32))])) := by
  have zO := O.le
  have lt_sS := lt_nat pf0.lt
  have lt_wS := lt_nat pf3.lt
  show GoesW _ _ _ _ _ _ _ _ (T.setTop (mkF m 194 #[.val (.int x0), .val (.int x1), .val (.int x2), .val (.int x3), .val (.int k4), .val (.int c5), .val (.int d6), .val (.int m7), .val (.ref ca), .val (.ref sS), .val .null, .unset] [(.int (0 : Int32))]))
  refine GoesW.via (fun _ k => XS.ifYes X.here hx rfl (pc0 := 194) (pc' := 205) rfl (hb hby at_194) rfl (XT.i0_eq_t (by decide)) (by decide) (by decide) k) ?_
  show GoesW _ _ _ _ _ _ _ _ (T.setTop (mkF m 205 #[.val (.int x0), .val (.int x1), .val (.int x2), .val (.int x3), .val (.int k4), .val (.int c5), .val (.int d6), .val (.int m7), .val (.ref ca), .val (.ref sS), .val .null, .unset] []))
  refine GoesW.via (fun _ k => XS.aload X.here hx rfl (hb hby at_205) rfl rfl k) ?_
  show GoesW _ _ _ _ _ _ _ _ (T.setTop (mkF m 207 #[.val (.int x0), .val (.int x1), .val (.int x2), .val (.int x3), .val (.int k4), .val (.int c5), .val (.int d6), .val (.int m7), .val (.ref ca), .val (.ref sS), .val .null, .unset] [(.ref sS)]))
  obtain ⟨aq17, Tq17, hq17, kq17, wq17, kkq17, Xq17, eq17, Eq17, Sq17, hkq17, hZq17, hownq17, exq17, fcq17, fvq17, vaq17, laq17, lbq17, Rq17, -, sfq17, stq17⟩ := ldcCH X hx hZ hown (W_48 hw) (strAtoms hw) e0 hS (by omega) (ew hw) (by decide) C0.1 (vs := [(.int (99 : Int32)), (.int (114 : Int32)), (.int (101 : Int32)), (.int (97 : Int32)), (.int (116 : Int32)), (.int (101 : Int32)), (.int (100 : Int32)), (.int (65 : Int32)), (.int (116 : Int32))]) (z := (9 : Int32)) ⟨by decide +kernel, by decide +kernel⟩ (by decide) (by decide) (g := (mkF m 207 #[.val (.int x0), .val (.int x1), .val (.int x2), .val (.int x3), .val (.int k4), .val (.int c5), .val (.int d6), .val (.int m7), .val (.ref ca), .val (.ref sS), .val .null, .unset] [(.ref sS)])) rfl (hb hby at_207) (n := 36) (by decide +kernel) (by decide) (by show _ + 2 ≤ 32; omega) (by show _ + 40 ≤ 5312; omega)
  replace laq17 := lt_nat laq17
  replace lbq17 := lt_nat lbq17
  have zq17 := Eq17.1
  have Oq17 := O.ext Eq17
  have Cq17 := C0.trans Rq17
  refine GoesW.via stq17 ?_
  show GoesW _ _ _ _ _ _ _ _ (Tq17.setTop (mkF m 209 #[.val (.int x0), .val (.int x1), .val (.int x2), .val (.int x3), .val (.int k4), .val (.int c5), .val (.int d6), .val (.int m7), .val (.ref ca), .val (.ref sS), .val .null, .unset] [(.ref aq17), (.ref sS)]))
  have fq19 : Exa Z hq17 sS "java/lang/String" := (pf0.ext Eq17)
  have fq20 : Fld Z hq17 sS "java/lang/String" "value" "[B" (.ref wS) := (pf1.ext Eq17)
  have fq21 : Fld Z hq17 sS "java/lang/String" "coder" "B" (.int (0 : Int32)) := (pf2.ext Eq17)
  have fq22 : Arv Z hq17 wS kS .byte NS1 vS (.int (0 : Int32)) := (pf3.ext Eq17)
  have fq23 : Sta Z hq17 "java/lang/String" "COMPACT_STRINGS" "Z" (.int cz) := (CS.ext Oq17.2)
  obtain ⟨vq18, Tq18, Lq18, Xq18, ⟨qq18, rfl, eq18⟩, stq18⟩ := callViB (Qb := fun v h' L => ((v = some (.int 1) ∧ csS = LIT_2) ∨ (v = some (.int 0) ∧ ¬ csS = LIT_2)) ∧ L = [] ∧ h' = hq17) Xq17 hx hZq17 hownq17 (StrChars.Road.eqW (W := 0) hZq17 (hwEq hw) (kI := 4) (W_6 hw) fq19 fq20 fq21 fq22 codS rgS lnS exq17 fvq17 fcq17 vaq17 codL_2 rgL_2 (Nat.le_of_ble_eq_true rfl) fq23 hcz (by decide) (by decide)) (W_37 hw) (W_38 hw) (notFace_of_selects (args := #[]) (mvT hZq17 (W_40 hw))) (W_40 hw) (W_39 hw) (by decide) eq17 fq19 (by show _ + 0 ≤ 32; omega) (by show _ + 0 ≤ 5312; omega) (g := (mkF m 209 #[.val (.int x0), .val (.int x1), .val (.int x2), .val (.int x3), .val (.int k4), .val (.int c5), .val (.int d6), .val (.int m7), .val (.ref ca), .val (.ref sS), .val .null, .unset] [(.ref aq17), (.ref sS)])) rfl (by rw [hml]; rfl) (a := sS) (argsL := [(.ref aq17)]) (rest := []) rfl (lenOf pd_10 rfl) rfl (by show 2 * 0 + _ ≤ _; exact Nat.le_of_eq rfl) (hb hby at_209)
  have Nq18 := Fr.app N (Fr.nil n0)
  rcases qq18 with ⟨rfl, cq18⟩ | ⟨rfl, cq18⟩
  · skip
    refine GoesW.via stq18 ?_
    show GoesW _ _ _ _ _ _ _ _ (Tq18.setTop (mkF m 212 #[.val (.int x0), .val (.int x1), .val (.int x2), .val (.int x3), .val (.int k4), .val (.int c5), .val (.int d6), .val (.int m7), .val (.ref ca), .val (.ref sS), .val .null, .unset] [(.int (1 : Int32))]))
    refine GoesW.via (fun _ k => XS.ifNo Xq18.here hx rfl (hb hby at_212) rfl (XT.i0_eq_f (by decide)) k) ?_
    show GoesW _ _ _ _ _ _ _ _ (Tq18.setTop (mkF m 215 #[.val (.int x0), .val (.int x1), .val (.int x2), .val (.int x3), .val (.int k4), .val (.int c5), .val (.int d6), .val (.int m7), .val (.ref ca), .val (.ref sS), .val .null, .unset] []))
    have fq25 : Sta Z hq17 "com/example/dispatch_note/dispatchnote/contract/ManagedMember" "CREATED_AT" "Lcom/example/dispatch_note/dispatchnote/contract/ManagedMember;" (.ref t2) := (S3.ext Oq17.2)
    obtain ⟨Tq24, Xq24, eq24, stq24⟩ := getS2 Xq18 hx hZq17 hownq17 (host := "") (Or.inl (W_115 hw)) Via.refl eq18 fq25 (g := (mkF m 215 #[.val (.int x0), .val (.int x1), .val (.int x2), .val (.int x3), .val (.int k4), .val (.int c5), .val (.int d6), .val (.int m7), .val (.ref ca), .val (.ref sS), .val .null, .unset] [])) rfl (hb hby at_215)
    refine GoesW.via stq24 ?_
    show GoesW _ _ _ _ _ _ _ _ (Tq24.setTop (mkF m 218 #[.val (.int x0), .val (.int x1), .val (.int x2), .val (.int x3), .val (.int k4), .val (.int c5), .val (.int d6), .val (.int m7), .val (.ref ca), .val (.ref sS), .val .null, .unset] [(.ref t2)]))
    refine GoesW.via (fun _ k => XS.astore Xq24.here hx rfl (hb hby at_218) rfl rfl (l' := #[.val (.int x0), .val (.int x1), .val (.int x2), .val (.int x3), .val (.int k4), .val (.int c5), .val (.int d6), .val (.int m7), .val (.ref ca), .val (.ref sS), .val (.ref t2), .unset]) rfl k) ?_
    show GoesW _ _ _ _ _ _ _ _ (Tq24.setTop (mkF m 220 #[.val (.int x0), .val (.int x1), .val (.int x2), .val (.int x3), .val (.int k4), .val (.int c5), .val (.int d6), .val (.int m7), .val (.ref ca), .val (.ref sS), .val (.ref t2), .unset] []))
    refine GoesW.via (fun _ k => XS.goto Xq24.here hx rfl (pc0 := 220) (pc' := 238) rfl (hb hby at_220) (by decide) (by decide) k) ?_
    show GoesW _ _ _ _ _ _ _ _ (Tq24.setTop (mkF m 238 #[.val (.int x0), .val (.int x1), .val (.int x2), .val (.int x3), .val (.int k4), .val (.int c5), .val (.int d6), .val (.int m7), .val (.ref ca), .val (.ref sS), .val (.ref t2), .unset] []))
    exact law_c22 l Z aw hw x0 x1 x2 x3 k4 c5 d6 m7 ca sS wS kS NS1 vS csS ar kz0 t0 t1 t2 t3 u0 y0 ky0 u1 y1 ky1 u2 y2 ky2 u3 y3 ky3 em cz hx hby hml hrt hlk hnm hZq17 hownq17 Xq24 eq24 Nq18 (by omega) (by omega) Oq17 Sq17 (by omega) Cq17 S0 V0 E0 S1 S2 S3 S4 E1 E2 E3 E4 F0 EU0 CU0 VU0 AU0 F1 EU1 CU1 VU1 AU1 F2 EU2 CU2 VU2 AU2 F3 EU3 CU3 VU3 AU3 CS SE EE FE fq19 fq20 fq21 fq22 hcz codS rgS lnS cq2 cq11 cq18
  · skip
    refine GoesW.via stq18 ?_
    show GoesW _ _ _ _ _ _ _ _ (Tq18.setTop (mkF m 212 #[.val (.int x0), .val (.int x1), .val (.int x2), .val (.int x3), .val (.int k4), .val (.int c5), .val (.int d6), .val (.int m7), .val (.ref ca), .val (.ref sS), .val .null, .unset] [(.int (0 : Int32))]))
    refine GoesW.via (fun _ k => XS.ifYes Xq18.here hx rfl (pc0 := 212) (pc' := 223) rfl (hb hby at_212) rfl (XT.i0_eq_t (by decide)) (by decide) (by decide) k) ?_
    show GoesW _ _ _ _ _ _ _ _ (Tq18.setTop (mkF m 223 #[.val (.int x0), .val (.int x1), .val (.int x2), .val (.int x3), .val (.int k4), .val (.int c5), .val (.int d6), .val (.int m7), .val (.ref ca), .val (.ref sS), .val .null, .unset] []))
    refine GoesW.via (fun _ k => XS.aload Xq18.here hx rfl (hb hby at_223) rfl rfl k) ?_
    show GoesW _ _ _ _ _ _ _ _ (Tq18.setTop (mkF m 225 #[.val (.int x0), .val (.int x1), .val (.int x2), .val (.int x3), .val (.int k4), .val (.int c5), .val (.int d6), .val (.int m7), .val (.ref ca), .val (.ref sS), .val .null, .unset] [(.ref sS)]))
    obtain ⟨aq26, Tq26, hq26, kq26, wq26, kkq26, Xq26, eq26, Eq26, Sq26, hkq26, hZq26, hownq26, exq26, fcq26, fvq26, vaq26, laq26, lbq26, Rq26, -, sfq26, stq26⟩ := ldcCH Xq18 hx hZq17 hownq17 (W_49 hw) (strAtoms hw) eq18 Sq17 (by omega) (ew hw) (by decide) Cq17.1 (vs := [(.int (117 : Int32)), (.int (112 : Int32)), (.int (100 : Int32)), (.int (97 : Int32)), (.int (116 : Int32)), (.int (101 : Int32)), (.int (100 : Int32)), (.int (65 : Int32)), (.int (116 : Int32))]) (z := (9 : Int32)) ⟨by decide +kernel, by decide +kernel⟩ (by decide) (by decide) (g := (mkF m 225 #[.val (.int x0), .val (.int x1), .val (.int x2), .val (.int x3), .val (.int k4), .val (.int c5), .val (.int d6), .val (.int m7), .val (.ref ca), .val (.ref sS), .val .null, .unset] [(.ref sS)])) rfl (hb hby at_225) (n := 36) (by decide +kernel) (by decide) (by show _ + 2 ≤ 32; omega) (by show _ + 40 ≤ 5312; omega)
    replace laq26 := lt_nat laq26
    replace lbq26 := lt_nat lbq26
    have zq26 := Eq26.1
    have Oq26 := Oq17.ext Eq26
    have Cq26 := Cq17.trans Rq26
    refine GoesW.via stq26 ?_
    show GoesW _ _ _ _ _ _ _ _ (Tq26.setTop (mkF m 227 #[.val (.int x0), .val (.int x1), .val (.int x2), .val (.int x3), .val (.int k4), .val (.int c5), .val (.int d6), .val (.int m7), .val (.ref ca), .val (.ref sS), .val .null, .unset] [(.ref aq26), (.ref sS)]))
    have fq28 : Exa Z hq26 sS "java/lang/String" := (fq19.ext Eq26)
    have fq29 : Fld Z hq26 sS "java/lang/String" "value" "[B" (.ref wS) := (fq20.ext Eq26)
    have fq30 : Fld Z hq26 sS "java/lang/String" "coder" "B" (.int (0 : Int32)) := (fq21.ext Eq26)
    have fq31 : Arv Z hq26 wS kS .byte NS1 vS (.int (0 : Int32)) := (fq22.ext Eq26)
    have fq32 : Sta Z hq26 "java/lang/String" "COMPACT_STRINGS" "Z" (.int cz) := (CS.ext Oq26.2)
    obtain ⟨vq27, Tq27, Lq27, Xq27, ⟨qq27, rfl, eq27⟩, stq27⟩ := callViB (Qb := fun v h' L => ((v = some (.int 1) ∧ csS = LIT_3) ∨ (v = some (.int 0) ∧ ¬ csS = LIT_3)) ∧ L = [] ∧ h' = hq26) Xq26 hx hZq26 hownq26 (StrChars.Road.eqW (W := 0) hZq26 (hwEq hw) (kI := 4) (W_6 hw) fq28 fq29 fq30 fq31 codS rgS lnS exq26 fvq26 fcq26 vaq26 codL_3 rgL_3 (Nat.le_of_ble_eq_true rfl) fq32 hcz (by decide) (by decide)) (W_37 hw) (W_38 hw) (notFace_of_selects (args := #[]) (mvT hZq26 (W_40 hw))) (W_40 hw) (W_39 hw) (by decide) eq26 fq28 (by show _ + 0 ≤ 32; omega) (by show _ + 0 ≤ 5312; omega) (g := (mkF m 227 #[.val (.int x0), .val (.int x1), .val (.int x2), .val (.int x3), .val (.int k4), .val (.int c5), .val (.int d6), .val (.int m7), .val (.ref ca), .val (.ref sS), .val .null, .unset] [(.ref aq26), (.ref sS)])) rfl (by rw [hml]; rfl) (a := sS) (argsL := [(.ref aq26)]) (rest := []) rfl (lenOf pd_10 rfl) rfl (by show 2 * 0 + _ ≤ _; exact Nat.le_of_eq rfl) (hb hby at_227)
    have Nq27 := Fr.app Nq18 (Fr.nil n0)
    rcases qq27 with ⟨rfl, cq27⟩ | ⟨rfl, cq27⟩
    · skip
      refine GoesW.via stq27 ?_
      show GoesW _ _ _ _ _ _ _ _ (Tq27.setTop (mkF m 230 #[.val (.int x0), .val (.int x1), .val (.int x2), .val (.int x3), .val (.int k4), .val (.int c5), .val (.int d6), .val (.int m7), .val (.ref ca), .val (.ref sS), .val .null, .unset] [(.int (1 : Int32))]))
      exact law_c23 l Z aw hw x0 x1 x2 x3 k4 c5 d6 m7 ca sS wS kS NS1 vS csS ar kz0 t0 t1 t2 t3 u0 y0 ky0 u1 y1 ky1 u2 y2 ky2 u3 y3 ky3 em cz hx hby hml hrt hlk hnm hZq26 hownq26 Xq27 eq27 Nq27 (by omega) (by omega) Oq26 Sq26 (by omega) Cq26 S0 V0 E0 S1 S2 S3 S4 E1 E2 E3 E4 F0 EU0 CU0 VU0 AU0 F1 EU1 CU1 VU1 AU1 F2 EU2 CU2 VU2 AU2 F3 EU3 CU3 VU3 AU3 CS SE EE FE fq28 fq29 fq30 fq31 hcz codS rgS lnS cq2 cq11 cq18 cq27
    · skip
      refine GoesW.via stq27 ?_
      show GoesW _ _ _ _ _ _ _ _ (Tq27.setTop (mkF m 230 #[.val (.int x0), .val (.int x1), .val (.int x2), .val (.int x3), .val (.int k4), .val (.int c5), .val (.int d6), .val (.int m7), .val (.ref ca), .val (.ref sS), .val .null, .unset] [(.int (0 : Int32))]))
      exact law_c24 l Z aw hw x0 x1 x2 x3 k4 c5 d6 m7 ca sS wS kS NS1 vS csS ar kz0 t0 t1 t2 t3 u0 y0 ky0 u1 y1 ky1 u2 y2 ky2 u3 y3 ky3 em cz hx hby hml hrt hlk hnm hZq26 hownq26 Xq27 eq27 Nq27 (by omega) (by omega) Oq26 Sq26 (by omega) Cq26 S0 V0 E0 S1 S2 S3 S4 E1 E2 E3 E4 F0 EU0 CU0 VU0 AU0 F1 EU1 CU1 VU1 AU1 F2 EU2 CU2 VU2 AU2 F3 EU3 CU3 VU3 AU3 CS SE EE FE fq28 fq29 fq30 fq31 hcz codS rgS lnS cq2 cq11 cq18 cq27
set_option maxRecDepth 65536 in
set_option maxHeartbeats 40000000 in
theorem seg164 (l : Launch) (Z : State) (aw : Array Value) (hw : ∀ d ∈ tables_1, d.before aw Z = true) (x0 : Int32) (x1 : Int32) (x2 : Int32) (x3 : Int32) (k4 : Int32) (c5 : Int32) (d6 : Int32) (m7 : Int32) (ca : Nat) (sS : Nat) (wS : Nat) (kS : ClassId) (NS1 : Int32) (vS : List Value) (csS : List Int32) (ar : Nat) (kz0 : ClassId) (t0 : Nat) (t1 : Nat) (t2 : Nat) (t3 : Nat) (u0 : Nat) (y0 : Nat) (ky0 : ClassId) (u1 : Nat) (y1 : Nat) (ky1 : ClassId) (u2 : Nat) (y2 : Nat) (ky2 : ClassId) (u3 : Nat) (y3 : Nat) (ky3 : ClassId) (em : Nat) (cz : Int32) {p : Program} {e : Env} {s : State} {m : MethodId} {args : Array Value} {below : List Frame} {meth : Method} {c : Code} {T : State} {locs : List Loc} {cells slots n0 : Nat} {h0 h1 : Heap} (hx : p.tables.exec = Jvm.exec) (hby : c.code = code) (hml : c.maxLocals = 12) (hrt : meth.sig.returnType = some .boolean) (hlk : meth.locks = false) (hnm : meth.name = "law") {vm0 vmE : Vm} {k0 : Nat} (hZ : Z.Warmed39 vm0) (hown : vm0.findClass "com/example/dispatch_note/dispatchnote/contract/ManagedMemberNamedPinLaw" = some m.cls) (X : Stand p l e room_1 (s.setVm vm0) m args below meth c T locs cells slots) (e0 : T.heap = h1) (N : Fr n0 locs) (hcells : cells ≤ 8) (hslots : slots ≤ 60) (O : Old Z n0 h1) (hS : s.Since vm0 k0) (hk0 : k0 ≤ h1.size) (C0 : CHr Z EL vmE h0 vm0 h1) (S0 : Sta Z Z.heap "com/example/dispatch_note/dispatchnote/contract/ManagedMember" "$VALUES" "[Lcom/example/dispatch_note/dispatchnote/contract/ManagedMember;" (.ref ar)) (V0 : Arv Z Z.heap ar kz0 (.object "com/example/dispatch_note/dispatchnote/contract/ManagedMember") (4 : Int32) [(.ref t0), (.ref t1), (.ref t2), (.ref t3)] .null) (E0 : Exa Z Z.heap ar "[Lcom/example/dispatch_note/dispatchnote/contract/ManagedMember;") (S1 : Sta Z Z.heap "com/example/dispatch_note/dispatchnote/contract/ManagedMember" "ID" "Lcom/example/dispatch_note/dispatchnote/contract/ManagedMember;" (.ref t0)) (S2 : Sta Z Z.heap "com/example/dispatch_note/dispatchnote/contract/ManagedMember" "VERSION" "Lcom/example/dispatch_note/dispatchnote/contract/ManagedMember;" (.ref t1)) (S3 : Sta Z Z.heap "com/example/dispatch_note/dispatchnote/contract/ManagedMember" "CREATED_AT" "Lcom/example/dispatch_note/dispatchnote/contract/ManagedMember;" (.ref t2)) (S4 : Sta Z Z.heap "com/example/dispatch_note/dispatchnote/contract/ManagedMember" "UPDATED_AT" "Lcom/example/dispatch_note/dispatchnote/contract/ManagedMember;" (.ref t3)) (E1 : Exa Z Z.heap t0 "com/example/dispatch_note/dispatchnote/contract/ManagedMember") (E2 : Exa Z Z.heap t1 "com/example/dispatch_note/dispatchnote/contract/ManagedMember") (E3 : Exa Z Z.heap t2 "com/example/dispatch_note/dispatchnote/contract/ManagedMember") (E4 : Exa Z Z.heap t3 "com/example/dispatch_note/dispatchnote/contract/ManagedMember") (F0 : Fld Z Z.heap t0 "com/example/dispatch_note/dispatchnote/contract/ManagedMember" "memberName" "Ljava/lang/String;" (.ref u0)) (EU0 : Exa Z Z.heap u0 "java/lang/String") (CU0 : Fld Z Z.heap u0 "java/lang/String" "coder" "B" (.int (0 : Int32))) (VU0 : Fld Z Z.heap u0 "java/lang/String" "value" "[B" (.ref y0)) (AU0 : Arv Z Z.heap y0 ky0 .byte (2 : Int32) [(.int (105 : Int32)), (.int (100 : Int32))] (.int (0 : Int32))) (F1 : Fld Z Z.heap t1 "com/example/dispatch_note/dispatchnote/contract/ManagedMember" "memberName" "Ljava/lang/String;" (.ref u1)) (EU1 : Exa Z Z.heap u1 "java/lang/String") (CU1 : Fld Z Z.heap u1 "java/lang/String" "coder" "B" (.int (0 : Int32))) (VU1 : Fld Z Z.heap u1 "java/lang/String" "value" "[B" (.ref y1)) (AU1 : Arv Z Z.heap y1 ky1 .byte (7 : Int32) [(.int (118 : Int32)), (.int (101 : Int32)), (.int (114 : Int32)), (.int (115 : Int32)), (.int (105 : Int32)), (.int (111 : Int32)), (.int (110 : Int32))] (.int (0 : Int32))) (F2 : Fld Z Z.heap t2 "com/example/dispatch_note/dispatchnote/contract/ManagedMember" "memberName" "Ljava/lang/String;" (.ref u2)) (EU2 : Exa Z Z.heap u2 "java/lang/String") (CU2 : Fld Z Z.heap u2 "java/lang/String" "coder" "B" (.int (0 : Int32))) (VU2 : Fld Z Z.heap u2 "java/lang/String" "value" "[B" (.ref y2)) (AU2 : Arv Z Z.heap y2 ky2 .byte (9 : Int32) [(.int (99 : Int32)), (.int (114 : Int32)), (.int (101 : Int32)), (.int (97 : Int32)), (.int (116 : Int32)), (.int (101 : Int32)), (.int (100 : Int32)), (.int (65 : Int32)), (.int (116 : Int32))] (.int (0 : Int32))) (F3 : Fld Z Z.heap t3 "com/example/dispatch_note/dispatchnote/contract/ManagedMember" "memberName" "Ljava/lang/String;" (.ref u3)) (EU3 : Exa Z Z.heap u3 "java/lang/String") (CU3 : Fld Z Z.heap u3 "java/lang/String" "coder" "B" (.int (0 : Int32))) (VU3 : Fld Z Z.heap u3 "java/lang/String" "value" "[B" (.ref y3)) (AU3 : Arv Z Z.heap y3 ky3 .byte (9 : Int32) [(.int (117 : Int32)), (.int (112 : Int32)), (.int (100 : Int32)), (.int (97 : Int32)), (.int (116 : Int32)), (.int (101 : Int32)), (.int (100 : Int32)), (.int (65 : Int32)), (.int (116 : Int32))] (.int (0 : Int32))) (CS : Sta Z Z.heap "java/lang/String" "COMPACT_STRINGS" "Z" (.int cz)) (SE : Sta Z Z.heap "java/util/Optional" "EMPTY" "Ljava/util/Optional;" (.ref em)) (EE : Exa Z Z.heap em "java/util/Optional") (FE : Fld Z Z.heap em "java/util/Optional" "value" "Ljava/lang/Object;" .null) (ES : Exa Z h1 sS "java/lang/String") (VS : Fld Z h1 sS "java/lang/String" "value" "[B" (.ref wS)) (CSS : Fld Z h1 sS "java/lang/String" "coder" "B" (.int (0 : Int32))) (AS : Arv Z h1 wS kS .byte NS1 vS (.int (0 : Int32))) (hcz : ¬ cz = (0 : Int32)) (codS : StrChars.Road.CodA csS 0 NS1 vS) (rgS : ∀ c ∈ csS, ¬ c < 0 ∧ ¬ (65535 : Int32) < c) (lnS : csS.length ≤ 4000) :
    GoesW p e below s room_1.cells room_1.slots n0 (fun v vm h => (fun vv hh => vv = some (.int (1 : Int32))) v h ∧ CHr Z EL vmE h0 vm h) (T.setTop (mkF m 164 #[.val (.int x0), .val (.int x1), .val (.int x2), .val (.int x3), .val (.int k4), .val (.int c5), .val (.int d6), .val (.int m7), .val (.ref ca), .unset, .unset, .unset] [(.ref sS)])) := by
  have zO := O.le
  have lt_sS := lt_nat ES.lt
  have lt_wS := lt_nat AS.lt
  show GoesW _ _ _ _ _ _ _ _ (T.setTop (mkF m 164 #[.val (.int x0), .val (.int x1), .val (.int x2), .val (.int x3), .val (.int k4), .val (.int c5), .val (.int d6), .val (.int m7), .val (.ref ca), .unset, .unset, .unset] [(.ref sS)]))
  refine GoesW.via (fun _ k => XS.astore X.here hx rfl (hb hby at_164) rfl rfl (l' := #[.val (.int x0), .val (.int x1), .val (.int x2), .val (.int x3), .val (.int k4), .val (.int c5), .val (.int d6), .val (.int m7), .val (.ref ca), .val (.ref sS), .unset, .unset]) rfl k) ?_
  show GoesW _ _ _ _ _ _ _ _ (T.setTop (mkF m 166 #[.val (.int x0), .val (.int x1), .val (.int x2), .val (.int x3), .val (.int k4), .val (.int c5), .val (.int d6), .val (.int m7), .val (.ref ca), .val (.ref sS), .unset, .unset] []))
  refine GoesW.via (fun _ k => XS.aconstNull X.here hx rfl (hb hby at_166) k) ?_
  show GoesW _ _ _ _ _ _ _ _ (T.setTop (mkF m 167 #[.val (.int x0), .val (.int x1), .val (.int x2), .val (.int x3), .val (.int k4), .val (.int c5), .val (.int d6), .val (.int m7), .val (.ref ca), .val (.ref sS), .unset, .unset] [.null]))
  refine GoesW.via (fun _ k => XS.astore X.here hx rfl (hb hby at_167) rfl rfl (l' := #[.val (.int x0), .val (.int x1), .val (.int x2), .val (.int x3), .val (.int k4), .val (.int c5), .val (.int d6), .val (.int m7), .val (.ref ca), .val (.ref sS), .val .null, .unset]) rfl k) ?_
  show GoesW _ _ _ _ _ _ _ _ (T.setTop (mkF m 169 #[.val (.int x0), .val (.int x1), .val (.int x2), .val (.int x3), .val (.int k4), .val (.int c5), .val (.int d6), .val (.int m7), .val (.ref ca), .val (.ref sS), .val .null, .unset] []))
  refine GoesW.via (fun _ k => XS.aload X.here hx rfl (hb hby at_169) rfl rfl k) ?_
  show GoesW _ _ _ _ _ _ _ _ (T.setTop (mkF m 171 #[.val (.int x0), .val (.int x1), .val (.int x2), .val (.int x3), .val (.int k4), .val (.int c5), .val (.int d6), .val (.int m7), .val (.ref ca), .val (.ref sS), .val .null, .unset] [(.ref sS)]))
  obtain ⟨aq1, Tq1, hq1, kq1, wq1, kkq1, Xq1, eq1, Eq1, Sq1, hkq1, hZq1, hownq1, exq1, fcq1, fvq1, vaq1, laq1, lbq1, Rq1, -, sfq1, stq1⟩ := ldcCH X hx hZ hown (W_34 hw) (strAtoms hw) e0 hS (by omega) (ew hw) (by decide) C0.1 (vs := [(.int (105 : Int32)), (.int (100 : Int32))]) (z := (2 : Int32)) ⟨by decide +kernel, by decide +kernel⟩ (by decide) (by decide) (g := (mkF m 171 #[.val (.int x0), .val (.int x1), .val (.int x2), .val (.int x3), .val (.int k4), .val (.int c5), .val (.int d6), .val (.int m7), .val (.ref ca), .val (.ref sS), .val .null, .unset] [(.ref sS)])) rfl (hb hby at_171) (n := 8) (by decide +kernel) (by decide) (by show _ + 2 ≤ 32; omega) (by show _ + 12 ≤ 5312; omega)
  replace laq1 := lt_nat laq1
  replace lbq1 := lt_nat lbq1
  have zq1 := Eq1.1
  have Oq1 := O.ext Eq1
  have Cq1 := C0.trans Rq1
  refine GoesW.via stq1 ?_
  show GoesW _ _ _ _ _ _ _ _ (Tq1.setTop (mkF m 173 #[.val (.int x0), .val (.int x1), .val (.int x2), .val (.int x3), .val (.int k4), .val (.int c5), .val (.int d6), .val (.int m7), .val (.ref ca), .val (.ref sS), .val .null, .unset] [(.ref aq1), (.ref sS)]))
  have fq3 : Exa Z hq1 sS "java/lang/String" := (ES.ext Eq1)
  have fq4 : Fld Z hq1 sS "java/lang/String" "value" "[B" (.ref wS) := (VS.ext Eq1)
  have fq5 : Fld Z hq1 sS "java/lang/String" "coder" "B" (.int (0 : Int32)) := (CSS.ext Eq1)
  have fq6 : Arv Z hq1 wS kS .byte NS1 vS (.int (0 : Int32)) := (AS.ext Eq1)
  have fq7 : Sta Z hq1 "java/lang/String" "COMPACT_STRINGS" "Z" (.int cz) := (CS.ext Oq1.2)
  obtain ⟨vq2, Tq2, Lq2, Xq2, ⟨qq2, rfl, eq2⟩, stq2⟩ := callViB (Qb := fun v h' L => ((v = some (.int 1) ∧ csS = LIT_0) ∨ (v = some (.int 0) ∧ ¬ csS = LIT_0)) ∧ L = [] ∧ h' = hq1) Xq1 hx hZq1 hownq1 (StrChars.Road.eqW (W := 0) hZq1 (hwEq hw) (kI := 4) (W_6 hw) fq3 fq4 fq5 fq6 codS rgS lnS exq1 fvq1 fcq1 vaq1 codL_0 rgL_0 (Nat.le_of_ble_eq_true rfl) fq7 hcz (by decide) (by decide)) (W_37 hw) (W_38 hw) (notFace_of_selects (args := #[]) (mvT hZq1 (W_40 hw))) (W_40 hw) (W_39 hw) (by decide) eq1 fq3 (by show _ + 0 ≤ 32; omega) (by show _ + 0 ≤ 5312; omega) (g := (mkF m 173 #[.val (.int x0), .val (.int x1), .val (.int x2), .val (.int x3), .val (.int k4), .val (.int c5), .val (.int d6), .val (.int m7), .val (.ref ca), .val (.ref sS), .val .null, .unset] [(.ref aq1), (.ref sS)])) rfl (by rw [hml]; rfl) (a := sS) (argsL := [(.ref aq1)]) (rest := []) rfl (lenOf pd_10 rfl) rfl (by show 2 * 0 + _ ≤ _; exact Nat.le_of_eq rfl) (hb hby at_173)
  have Nq2 := Fr.app N (Fr.nil n0)
  rcases qq2 with ⟨rfl, cq2⟩ | ⟨rfl, cq2⟩
  · skip
    refine GoesW.via stq2 ?_
    show GoesW _ _ _ _ _ _ _ _ (Tq2.setTop (mkF m 176 #[.val (.int x0), .val (.int x1), .val (.int x2), .val (.int x3), .val (.int k4), .val (.int c5), .val (.int d6), .val (.int m7), .val (.ref ca), .val (.ref sS), .val .null, .unset] [(.int (1 : Int32))]))
    refine GoesW.via (fun _ k => XS.ifNo Xq2.here hx rfl (hb hby at_176) rfl (XT.i0_eq_f (by decide)) k) ?_
    show GoesW _ _ _ _ _ _ _ _ (Tq2.setTop (mkF m 179 #[.val (.int x0), .val (.int x1), .val (.int x2), .val (.int x3), .val (.int k4), .val (.int c5), .val (.int d6), .val (.int m7), .val (.ref ca), .val (.ref sS), .val .null, .unset] []))
    have fq9 : Sta Z hq1 "com/example/dispatch_note/dispatchnote/contract/ManagedMember" "ID" "Lcom/example/dispatch_note/dispatchnote/contract/ManagedMember;" (.ref t0) := (S1.ext Oq1.2)
    obtain ⟨Tq8, Xq8, eq8, stq8⟩ := getS2 Xq2 hx hZq1 hownq1 (host := "") (Or.inl (W_113 hw)) Via.refl eq2 fq9 (g := (mkF m 179 #[.val (.int x0), .val (.int x1), .val (.int x2), .val (.int x3), .val (.int k4), .val (.int c5), .val (.int d6), .val (.int m7), .val (.ref ca), .val (.ref sS), .val .null, .unset] [])) rfl (hb hby at_179)
    refine GoesW.via stq8 ?_
    show GoesW _ _ _ _ _ _ _ _ (Tq8.setTop (mkF m 182 #[.val (.int x0), .val (.int x1), .val (.int x2), .val (.int x3), .val (.int k4), .val (.int c5), .val (.int d6), .val (.int m7), .val (.ref ca), .val (.ref sS), .val .null, .unset] [(.ref t0)]))
    refine GoesW.via (fun _ k => XS.astore Xq8.here hx rfl (hb hby at_182) rfl rfl (l' := #[.val (.int x0), .val (.int x1), .val (.int x2), .val (.int x3), .val (.int k4), .val (.int c5), .val (.int d6), .val (.int m7), .val (.ref ca), .val (.ref sS), .val (.ref t0), .unset]) rfl k) ?_
    show GoesW _ _ _ _ _ _ _ _ (Tq8.setTop (mkF m 184 #[.val (.int x0), .val (.int x1), .val (.int x2), .val (.int x3), .val (.int k4), .val (.int c5), .val (.int d6), .val (.int m7), .val (.ref ca), .val (.ref sS), .val (.ref t0), .unset] []))
    refine GoesW.via (fun _ k => XS.goto Xq8.here hx rfl (pc0 := 184) (pc' := 238) rfl (hb hby at_184) (by decide) (by decide) k) ?_
    show GoesW _ _ _ _ _ _ _ _ (Tq8.setTop (mkF m 238 #[.val (.int x0), .val (.int x1), .val (.int x2), .val (.int x3), .val (.int k4), .val (.int c5), .val (.int d6), .val (.int m7), .val (.ref ca), .val (.ref sS), .val (.ref t0), .unset] []))
    exact law_c19 l Z aw hw x0 x1 x2 x3 k4 c5 d6 m7 ca sS wS kS NS1 vS csS ar kz0 t0 t1 t2 t3 u0 y0 ky0 u1 y1 ky1 u2 y2 ky2 u3 y3 ky3 em cz hx hby hml hrt hlk hnm hZq1 hownq1 Xq8 eq8 Nq2 (by omega) (by omega) Oq1 Sq1 (by omega) Cq1 S0 V0 E0 S1 S2 S3 S4 E1 E2 E3 E4 F0 EU0 CU0 VU0 AU0 F1 EU1 CU1 VU1 AU1 F2 EU2 CU2 VU2 AU2 F3 EU3 CU3 VU3 AU3 CS SE EE FE fq3 fq4 fq5 fq6 hcz codS rgS lnS cq2
  · skip
    refine GoesW.via stq2 ?_
    show GoesW _ _ _ _ _ _ _ _ (Tq2.setTop (mkF m 176 #[.val (.int x0), .val (.int x1), .val (.int x2), .val (.int x3), .val (.int k4), .val (.int c5), .val (.int d6), .val (.int m7), .val (.ref ca), .val (.ref sS), .val .null, .unset] [(.int (0 : Int32))]))
    refine GoesW.via (fun _ k => XS.ifYes Xq2.here hx rfl (pc0 := 176) (pc' := 187) rfl (hb hby at_176) rfl (XT.i0_eq_t (by decide)) (by decide) (by decide) k) ?_
    show GoesW _ _ _ _ _ _ _ _ (Tq2.setTop (mkF m 187 #[.val (.int x0), .val (.int x1), .val (.int x2), .val (.int x3), .val (.int k4), .val (.int c5), .val (.int d6), .val (.int m7), .val (.ref ca), .val (.ref sS), .val .null, .unset] []))
    refine GoesW.via (fun _ k => XS.aload Xq2.here hx rfl (hb hby at_187) rfl rfl k) ?_
    show GoesW _ _ _ _ _ _ _ _ (Tq2.setTop (mkF m 189 #[.val (.int x0), .val (.int x1), .val (.int x2), .val (.int x3), .val (.int k4), .val (.int c5), .val (.int d6), .val (.int m7), .val (.ref ca), .val (.ref sS), .val .null, .unset] [(.ref sS)]))
    obtain ⟨aq10, Tq10, hq10, kq10, wq10, kkq10, Xq10, eq10, Eq10, Sq10, hkq10, hZq10, hownq10, exq10, fcq10, fvq10, vaq10, laq10, lbq10, Rq10, -, sfq10, stq10⟩ := ldcCH Xq2 hx hZq1 hownq1 (W_47 hw) (strAtoms hw) eq2 Sq1 (by omega) (ew hw) (by decide) Cq1.1 (vs := [(.int (118 : Int32)), (.int (101 : Int32)), (.int (114 : Int32)), (.int (115 : Int32)), (.int (105 : Int32)), (.int (111 : Int32)), (.int (110 : Int32))]) (z := (7 : Int32)) ⟨by decide +kernel, by decide +kernel⟩ (by decide) (by decide) (g := (mkF m 189 #[.val (.int x0), .val (.int x1), .val (.int x2), .val (.int x3), .val (.int k4), .val (.int c5), .val (.int d6), .val (.int m7), .val (.ref ca), .val (.ref sS), .val .null, .unset] [(.ref sS)])) rfl (hb hby at_189) (n := 28) (by decide +kernel) (by decide) (by show _ + 2 ≤ 32; omega) (by show _ + 32 ≤ 5312; omega)
    replace laq10 := lt_nat laq10
    replace lbq10 := lt_nat lbq10
    have zq10 := Eq10.1
    have Oq10 := Oq1.ext Eq10
    have Cq10 := Cq1.trans Rq10
    refine GoesW.via stq10 ?_
    show GoesW _ _ _ _ _ _ _ _ (Tq10.setTop (mkF m 191 #[.val (.int x0), .val (.int x1), .val (.int x2), .val (.int x3), .val (.int k4), .val (.int c5), .val (.int d6), .val (.int m7), .val (.ref ca), .val (.ref sS), .val .null, .unset] [(.ref aq10), (.ref sS)]))
    have fq12 : Exa Z hq10 sS "java/lang/String" := (fq3.ext Eq10)
    have fq13 : Fld Z hq10 sS "java/lang/String" "value" "[B" (.ref wS) := (fq4.ext Eq10)
    have fq14 : Fld Z hq10 sS "java/lang/String" "coder" "B" (.int (0 : Int32)) := (fq5.ext Eq10)
    have fq15 : Arv Z hq10 wS kS .byte NS1 vS (.int (0 : Int32)) := (fq6.ext Eq10)
    have fq16 : Sta Z hq10 "java/lang/String" "COMPACT_STRINGS" "Z" (.int cz) := (CS.ext Oq10.2)
    obtain ⟨vq11, Tq11, Lq11, Xq11, ⟨qq11, rfl, eq11⟩, stq11⟩ := callViB (Qb := fun v h' L => ((v = some (.int 1) ∧ csS = LIT_1) ∨ (v = some (.int 0) ∧ ¬ csS = LIT_1)) ∧ L = [] ∧ h' = hq10) Xq10 hx hZq10 hownq10 (StrChars.Road.eqW (W := 0) hZq10 (hwEq hw) (kI := 4) (W_6 hw) fq12 fq13 fq14 fq15 codS rgS lnS exq10 fvq10 fcq10 vaq10 codL_1 rgL_1 (Nat.le_of_ble_eq_true rfl) fq16 hcz (by decide) (by decide)) (W_37 hw) (W_38 hw) (notFace_of_selects (args := #[]) (mvT hZq10 (W_40 hw))) (W_40 hw) (W_39 hw) (by decide) eq10 fq12 (by show _ + 0 ≤ 32; omega) (by show _ + 0 ≤ 5312; omega) (g := (mkF m 191 #[.val (.int x0), .val (.int x1), .val (.int x2), .val (.int x3), .val (.int k4), .val (.int c5), .val (.int d6), .val (.int m7), .val (.ref ca), .val (.ref sS), .val .null, .unset] [(.ref aq10), (.ref sS)])) rfl (by rw [hml]; rfl) (a := sS) (argsL := [(.ref aq10)]) (rest := []) rfl (lenOf pd_10 rfl) rfl (by show 2 * 0 + _ ≤ _; exact Nat.le_of_eq rfl) (hb hby at_191)
    have Nq11 := Fr.app Nq2 (Fr.nil n0)
    rcases qq11 with ⟨rfl, cq11⟩ | ⟨rfl, cq11⟩
    · skip
      refine GoesW.via stq11 ?_
      show GoesW _ _ _ _ _ _ _ _ (Tq11.setTop (mkF m 194 #[.val (.int x0), .val (.int x1), .val (.int x2), .val (.int x3), .val (.int k4), .val (.int c5), .val (.int d6), .val (.int m7), .val (.ref ca), .val (.ref sS), .val .null, .unset] [(.int (1 : Int32))]))
      exact law_c20 l Z aw hw x0 x1 x2 x3 k4 c5 d6 m7 ca sS wS kS NS1 vS csS ar kz0 t0 t1 t2 t3 u0 y0 ky0 u1 y1 ky1 u2 y2 ky2 u3 y3 ky3 em cz hx hby hml hrt hlk hnm hZq10 hownq10 Xq11 eq11 Nq11 (by omega) (by omega) Oq10 Sq10 (by omega) Cq10 S0 V0 E0 S1 S2 S3 S4 E1 E2 E3 E4 F0 EU0 CU0 VU0 AU0 F1 EU1 CU1 VU1 AU1 F2 EU2 CU2 VU2 AU2 F3 EU3 CU3 VU3 AU3 CS SE EE FE fq12 fq13 fq14 fq15 hcz codS rgS lnS cq2 cq11
    · skip
      refine GoesW.via stq11 ?_
      show GoesW _ _ _ _ _ _ _ _ (Tq11.setTop (mkF m 194 #[.val (.int x0), .val (.int x1), .val (.int x2), .val (.int x3), .val (.int k4), .val (.int c5), .val (.int d6), .val (.int m7), .val (.ref ca), .val (.ref sS), .val .null, .unset] [(.int (0 : Int32))]))
      exact law_c21 l Z aw hw x0 x1 x2 x3 k4 c5 d6 m7 ca sS wS kS NS1 vS csS ar kz0 t0 t1 t2 t3 u0 y0 ky0 u1 y1 ky1 u2 y2 ky2 u3 y3 ky3 em cz hx hby hml hrt hlk hnm hZq10 hownq10 Xq11 eq11 Nq11 (by omega) (by omega) Oq10 Sq10 (by omega) Cq10 S0 V0 E0 S1 S2 S3 S4 E1 E2 E3 E4 F0 EU0 CU0 VU0 AU0 F1 EU1 CU1 VU1 AU1 F2 EU2 CU2 VU2 AU2 F3 EU3 CU3 VU3 AU3 CS SE EE FE fq12 fq13 fq14 fq15 hcz codS rgS lnS cq2 cq11
set_option maxRecDepth 65536 in
set_option maxHeartbeats 40000000 in
theorem seg155 (l : Launch) (Z : State) (aw : Array Value) (hw : ∀ d ∈ tables_1, d.before aw Z = true) (x0 : Int32) (x1 : Int32) (x2 : Int32) (x3 : Int32) (k4 : Int32) (c5 : Int32) (d6 : Int32) (m7 : Int32) (ca : Nat) (kc : ClassId) (cs : List Int32) (nn : Nat) (ar : Nat) (kz0 : ClassId) (t0 : Nat) (t1 : Nat) (t2 : Nat) (t3 : Nat) (u0 : Nat) (y0 : Nat) (ky0 : ClassId) (u1 : Nat) (y1 : Nat) (ky1 : ClassId) (u2 : Nat) (y2 : Nat) (ky2 : ClassId) (u3 : Nat) (y3 : Nat) (ky3 : ClassId) (em : Nat) (cz : Int32) {p : Program} {e : Env} {s : State} {m : MethodId} {args : Array Value} {below : List Frame} {meth : Method} {c : Code} {T : State} {locs : List Loc} {cells slots n0 : Nat} {h0 h1 : Heap} (hx : p.tables.exec = Jvm.exec) (hby : c.code = code) (hml : c.maxLocals = 12) (hrt : meth.sig.returnType = some .boolean) (hlk : meth.locks = false) (hnm : meth.name = "law") {vm0 vmE : Vm} {k0 : Nat} (hZ : Z.Warmed39 vm0) (hown : vm0.findClass "com/example/dispatch_note/dispatchnote/contract/ManagedMemberNamedPinLaw" = some m.cls) (X : Stand p l e room_1 (s.setVm vm0) m args below meth c T locs cells slots) (e0 : T.heap = h1) (N : Fr n0 locs) (hcells : cells ≤ 1) (hslots : slots ≤ 10) (O : Old Z n0 h1) (hS : s.Since vm0 k0) (hk0 : k0 ≤ h1.size) (C0 : CHr Z EL vmE h0 vm0 h1) (S0 : Sta Z Z.heap "com/example/dispatch_note/dispatchnote/contract/ManagedMember" "$VALUES" "[Lcom/example/dispatch_note/dispatchnote/contract/ManagedMember;" (.ref ar)) (V0 : Arv Z Z.heap ar kz0 (.object "com/example/dispatch_note/dispatchnote/contract/ManagedMember") (4 : Int32) [(.ref t0), (.ref t1), (.ref t2), (.ref t3)] .null) (E0 : Exa Z Z.heap ar "[Lcom/example/dispatch_note/dispatchnote/contract/ManagedMember;") (S1 : Sta Z Z.heap "com/example/dispatch_note/dispatchnote/contract/ManagedMember" "ID" "Lcom/example/dispatch_note/dispatchnote/contract/ManagedMember;" (.ref t0)) (S2 : Sta Z Z.heap "com/example/dispatch_note/dispatchnote/contract/ManagedMember" "VERSION" "Lcom/example/dispatch_note/dispatchnote/contract/ManagedMember;" (.ref t1)) (S3 : Sta Z Z.heap "com/example/dispatch_note/dispatchnote/contract/ManagedMember" "CREATED_AT" "Lcom/example/dispatch_note/dispatchnote/contract/ManagedMember;" (.ref t2)) (S4 : Sta Z Z.heap "com/example/dispatch_note/dispatchnote/contract/ManagedMember" "UPDATED_AT" "Lcom/example/dispatch_note/dispatchnote/contract/ManagedMember;" (.ref t3)) (E1 : Exa Z Z.heap t0 "com/example/dispatch_note/dispatchnote/contract/ManagedMember") (E2 : Exa Z Z.heap t1 "com/example/dispatch_note/dispatchnote/contract/ManagedMember") (E3 : Exa Z Z.heap t2 "com/example/dispatch_note/dispatchnote/contract/ManagedMember") (E4 : Exa Z Z.heap t3 "com/example/dispatch_note/dispatchnote/contract/ManagedMember") (F0 : Fld Z Z.heap t0 "com/example/dispatch_note/dispatchnote/contract/ManagedMember" "memberName" "Ljava/lang/String;" (.ref u0)) (EU0 : Exa Z Z.heap u0 "java/lang/String") (CU0 : Fld Z Z.heap u0 "java/lang/String" "coder" "B" (.int (0 : Int32))) (VU0 : Fld Z Z.heap u0 "java/lang/String" "value" "[B" (.ref y0)) (AU0 : Arv Z Z.heap y0 ky0 .byte (2 : Int32) [(.int (105 : Int32)), (.int (100 : Int32))] (.int (0 : Int32))) (F1 : Fld Z Z.heap t1 "com/example/dispatch_note/dispatchnote/contract/ManagedMember" "memberName" "Ljava/lang/String;" (.ref u1)) (EU1 : Exa Z Z.heap u1 "java/lang/String") (CU1 : Fld Z Z.heap u1 "java/lang/String" "coder" "B" (.int (0 : Int32))) (VU1 : Fld Z Z.heap u1 "java/lang/String" "value" "[B" (.ref y1)) (AU1 : Arv Z Z.heap y1 ky1 .byte (7 : Int32) [(.int (118 : Int32)), (.int (101 : Int32)), (.int (114 : Int32)), (.int (115 : Int32)), (.int (105 : Int32)), (.int (111 : Int32)), (.int (110 : Int32))] (.int (0 : Int32))) (F2 : Fld Z Z.heap t2 "com/example/dispatch_note/dispatchnote/contract/ManagedMember" "memberName" "Ljava/lang/String;" (.ref u2)) (EU2 : Exa Z Z.heap u2 "java/lang/String") (CU2 : Fld Z Z.heap u2 "java/lang/String" "coder" "B" (.int (0 : Int32))) (VU2 : Fld Z Z.heap u2 "java/lang/String" "value" "[B" (.ref y2)) (AU2 : Arv Z Z.heap y2 ky2 .byte (9 : Int32) [(.int (99 : Int32)), (.int (114 : Int32)), (.int (101 : Int32)), (.int (97 : Int32)), (.int (116 : Int32)), (.int (101 : Int32)), (.int (100 : Int32)), (.int (65 : Int32)), (.int (116 : Int32))] (.int (0 : Int32))) (F3 : Fld Z Z.heap t3 "com/example/dispatch_note/dispatchnote/contract/ManagedMember" "memberName" "Ljava/lang/String;" (.ref u3)) (EU3 : Exa Z Z.heap u3 "java/lang/String") (CU3 : Fld Z Z.heap u3 "java/lang/String" "coder" "B" (.int (0 : Int32))) (VU3 : Fld Z Z.heap u3 "java/lang/String" "value" "[B" (.ref y3)) (AU3 : Arv Z Z.heap y3 ky3 .byte (9 : Int32) [(.int (117 : Int32)), (.int (112 : Int32)), (.int (100 : Int32)), (.int (97 : Int32)), (.int (116 : Int32)), (.int (101 : Int32)), (.int (100 : Int32)), (.int (65 : Int32)), (.int (116 : Int32))] (.int (0 : Int32))) (CS : Sta Z Z.heap "java/lang/String" "COMPACT_STRINGS" "Z" (.int cz)) (SE : Sta Z Z.heap "java/util/Optional" "EMPTY" "Ljava/util/Optional;" (.ref em)) (EE : Exa Z Z.heap em "java/util/Optional") (FE : Fld Z Z.heap em "java/util/Optional" "value" "Ljava/lang/Object;" .null) (VC : Arv Z h1 ca kc .char (Int32.ofNat nn) (cs.map Value.int) (.int (0 : Int32))) (hcz : ¬ cz = (0 : Int32)) (hq : 0 < nn ∧ nn ≤ 10 ∧ cs.length = nn ∧ ∀ c ∈ cs, ¬ c < 0 ∧ ¬ (255 : Int32) < c) :
    GoesW p e below s room_1.cells room_1.slots n0 (fun v vm h => (fun vv hh => vv = some (.int (1 : Int32))) v h ∧ CHr Z EL vmE h0 vm h) (T.setTop (mkF m 155 #[.val (.int x0), .val (.int x1), .val (.int x2), .val (.int x3), .val (.int k4), .val (.int c5), .val (.int d6), .val (.int m7), .val (.ref ca), .unset, .unset, .unset] [])) := by
  have zO := O.le
  have lt_ca := lt_nat VC.lt
  show GoesW _ _ _ _ _ _ _ _ (T.setTop (mkF m 155 #[.val (.int x0), .val (.int x1), .val (.int x2), .val (.int x3), .val (.int k4), .val (.int c5), .val (.int d6), .val (.int m7), .val (.ref ca), .unset, .unset, .unset] []))
  obtain ⟨q1, q2, q3, q4⟩ := hq
  obtain ⟨Tq1, hq1, Xq1, eq1, Eq1, Aq1, Dq1, -, stq1⟩ := newO X hx hZ hown (W_5 hw) (W_6 hw) (W_7 hw) e0 (g := (mkF m 155 #[.val (.int x0), .val (.int x1), .val (.int x2), .val (.int x3), .val (.int k4), .val (.int c5), .val (.int d6), .val (.int m7), .val (.ref ca), .unset, .unset, .unset] [])) rfl (hb hby at_155) (by show _ + 1 ≤ 32; omega) (by show _ + 4 ≤ 5312; omega)
  obtain ⟨bq1, gq1⟩ : ∃ z, z = h1.size := ⟨_, rfl⟩
  rw [← gq1] at Aq1 Dq1 stq1
  have zq1 := Eq1.1
  have Oq1 := O.ext Eq1
  have Cq1 := C0.trans (CHr.ext Eq1 C0.1)
  have lq1 := lt_nat Aq1.lt
  refine GoesW.via stq1 ?_
  show GoesW _ _ _ _ _ _ _ _ (Tq1.setTop (mkF m 158 #[.val (.int x0), .val (.int x1), .val (.int x2), .val (.int x3), .val (.int k4), .val (.int c5), .val (.int d6), .val (.int m7), .val (.ref ca), .unset, .unset, .unset] [(.ref bq1)]))
  refine GoesW.via (fun _ k => XS.dup Xq1.here hx rfl (hb hby at_158) rfl rfl k) ?_
  show GoesW _ _ _ _ _ _ _ _ (Tq1.setTop (mkF m 159 #[.val (.int x0), .val (.int x1), .val (.int x2), .val (.int x3), .val (.int k4), .val (.int c5), .val (.int d6), .val (.int m7), .val (.ref ca), .unset, .unset, .unset] [(.ref bq1), (.ref bq1)]))
  refine GoesW.via (fun _ k => XS.aload Xq1.here hx rfl (hb hby at_159) rfl rfl k) ?_
  show GoesW _ _ _ _ _ _ _ _ (Tq1.setTop (mkF m 161 #[.val (.int x0), .val (.int x1), .val (.int x2), .val (.int x3), .val (.int k4), .val (.int c5), .val (.int d6), .val (.int m7), .val (.ref ca), .unset, .unset, .unset] [(.ref ca), (.ref bq1), (.ref bq1)]))
  have fq3 : Arv Z hq1 ca kc .char (Int32.ofNat nn) (cs.map Value.int) (.int (0 : Int32)) := (VC.ext Eq1)
  have fq4 : Sta Z hq1 "java/lang/String" "COMPACT_STRINGS" "Z" (.int cz) := (CS.ext Oq1.2)
  obtain ⟨vq2, Tq2, Lq2, Xq2, ⟨rfl, nq2, Kq2, exq2, fcq2, wq2, kkq2, -, hwq2, neq2, fvq2, vaq2⟩, stq2⟩ := callSpB (Qb := fun v h' L => StrChars.Road.QV Z bq1 (Int32.ofNat nn) (cs.map fun c => c.toInt8.toInt32) hq1 n0 v h' L) Xq1 hx hZ hown (StrChars.Road.backV (W := 1) hZ (hwStr hw) (kI := 4) (W_6 hw) (cs := cs) (bs := (cs.map fun c => c.toInt8.toInt32)) (n := nn) (n0 := n0) (by omega) (by omega) Aq1 (Dq1 (Or.inr (W_33 hw)) (ty := (.array .byte)) (by decide)) (Dq1 (Or.inr (W_31 hw)) (ty := .byte) (by decide)) fq3 fq4 hcz q3 rfl q1 (by omega) q4 rfl (by decide) (by decide)) rfl (W_8 hw) (W_9 hw) (W_10 hw) (by decide) eq1 (by show _ + 1 ≤ 32; omega) (by show _ ≤ 5312; omega) (g := (mkF m 161 #[.val (.int x0), .val (.int x1), .val (.int x2), .val (.int x3), .val (.int k4), .val (.int c5), .val (.int d6), .val (.int m7), .val (.ref ca), .unset, .unset, .unset] [(.ref ca), (.ref bq1), (.ref bq1)])) rfl (by rw [hml]; rfl) (a := bq1) (argsL := [(.ref ca)]) (rest := [(.ref bq1)]) rfl (lenOf pd_18 rfl) rfl (by show 2 * 0 + _ ≤ _; exact Nat.le_of_eq rfl) (hb hby at_161)
  have Nq2 := Fr.app N nq2
  have fq5 : Safe Z EL vm0 hq1 bq1 := (Safe.ext Eq1 C0.1 (Safe.new (Nat.le_of_eq gq1.symm)))
  have zq2 := Kq2.1
  have Oq2 := Oq1.keep Kq2 (allS (by omega) all0)
  have Cq2 := Cq1.trans (CHr.keep Kq2 (allS fq5 all0) Cq1.1)
  have ltq2 := lt_nat exq2.lt
  have ltbq2 := lt_nat vaq2.lt
  refine GoesW.via stq2 ?_
  show GoesW _ _ _ _ _ _ _ _ (Tq2.setTop (mkF m 164 #[.val (.int x0), .val (.int x1), .val (.int x2), .val (.int x3), .val (.int k4), .val (.int c5), .val (.int d6), .val (.int m7), .val (.ref ca), .unset, .unset, .unset] [(.ref bq1)]))
  exact seg164 l Z aw hw x0 x1 x2 x3 k4 c5 d6 m7 ca bq1 wq2 kkq2 (Int32.ofNat nn) ((cs.map fun c => c.toInt8.toInt32).map Value.int) cs ar kz0 t0 t1 t2 t3 u0 y0 ky0 u1 y1 ky1 u2 y2 ky2 u3 y3 ky3 em cz hx hby hml hrt hlk hnm hZ hown Xq2 rfl Nq2 (by omega) (by omega) Oq2 hS (by omega) Cq2 S0 V0 E0 S1 S2 S3 S4 E1 E2 E3 E4 F0 EU0 CU0 VU0 AU0 F1 EU1 CU1 VU1 AU1 F2 EU2 CU2 VU2 AU2 F3 EU3 CU3 VU3 AU3 CS SE EE FE exq2 fvq2 fcq2 vaq2 hcz (StrChars.Road.codOf (n := nn) q3 (fun c hc => (q4 c hc).2)) (up65 q4) (by omega)
theorem ef_law (m : MethodId) (x0 : Int32) (x1 : Int32) (x2 : Int32) (x3 : Int32) : entryFrame m #[(.int x0), (.int x1), (.int x2), (.int x3)] maxLocals = mkF m 0 #[.val (.int x0), .val (.int x1), .val (.int x2), .val (.int x3), .unset, .unset, .unset, .unset, .unset, .unset, .unset, .unset] [] := by first | (simp [entryFrame, mkF, argsToLocals, Value.category, maxLocals]; done) | rfl
set_option maxRecDepth 65536 in
set_option maxHeartbeats 40000000 in
theorem law (l : Launch) (Z : State) (aw : Array Value) (hw : ∀ d ∈ tables_1, d.before aw Z = true) (x0 : Int32) (x1 : Int32) (x2 : Int32) (x3 : Int32) (ar : Nat) (kz0 : ClassId) (t0 : Nat) (t1 : Nat) (t2 : Nat) (t3 : Nat) (u0 : Nat) (y0 : Nat) (ky0 : ClassId) (u1 : Nat) (y1 : Nat) (ky1 : ClassId) (u2 : Nat) (y2 : Nat) (ky2 : ClassId) (u3 : Nat) (y3 : Nat) (ky3 : ClassId) (em : Nat) (cz : Int32) {h0 : Heap} {n0 : Nat} (O : Old Z n0 h0) (S0 : Sta Z Z.heap "com/example/dispatch_note/dispatchnote/contract/ManagedMember" "$VALUES" "[Lcom/example/dispatch_note/dispatchnote/contract/ManagedMember;" (.ref ar)) (V0 : Arv Z Z.heap ar kz0 (.object "com/example/dispatch_note/dispatchnote/contract/ManagedMember") (4 : Int32) [(.ref t0), (.ref t1), (.ref t2), (.ref t3)] .null) (E0 : Exa Z Z.heap ar "[Lcom/example/dispatch_note/dispatchnote/contract/ManagedMember;") (S1 : Sta Z Z.heap "com/example/dispatch_note/dispatchnote/contract/ManagedMember" "ID" "Lcom/example/dispatch_note/dispatchnote/contract/ManagedMember;" (.ref t0)) (S2 : Sta Z Z.heap "com/example/dispatch_note/dispatchnote/contract/ManagedMember" "VERSION" "Lcom/example/dispatch_note/dispatchnote/contract/ManagedMember;" (.ref t1)) (S3 : Sta Z Z.heap "com/example/dispatch_note/dispatchnote/contract/ManagedMember" "CREATED_AT" "Lcom/example/dispatch_note/dispatchnote/contract/ManagedMember;" (.ref t2)) (S4 : Sta Z Z.heap "com/example/dispatch_note/dispatchnote/contract/ManagedMember" "UPDATED_AT" "Lcom/example/dispatch_note/dispatchnote/contract/ManagedMember;" (.ref t3)) (E1 : Exa Z Z.heap t0 "com/example/dispatch_note/dispatchnote/contract/ManagedMember") (E2 : Exa Z Z.heap t1 "com/example/dispatch_note/dispatchnote/contract/ManagedMember") (E3 : Exa Z Z.heap t2 "com/example/dispatch_note/dispatchnote/contract/ManagedMember") (E4 : Exa Z Z.heap t3 "com/example/dispatch_note/dispatchnote/contract/ManagedMember") (F0 : Fld Z Z.heap t0 "com/example/dispatch_note/dispatchnote/contract/ManagedMember" "memberName" "Ljava/lang/String;" (.ref u0)) (EU0 : Exa Z Z.heap u0 "java/lang/String") (CU0 : Fld Z Z.heap u0 "java/lang/String" "coder" "B" (.int (0 : Int32))) (VU0 : Fld Z Z.heap u0 "java/lang/String" "value" "[B" (.ref y0)) (AU0 : Arv Z Z.heap y0 ky0 .byte (2 : Int32) [(.int (105 : Int32)), (.int (100 : Int32))] (.int (0 : Int32))) (F1 : Fld Z Z.heap t1 "com/example/dispatch_note/dispatchnote/contract/ManagedMember" "memberName" "Ljava/lang/String;" (.ref u1)) (EU1 : Exa Z Z.heap u1 "java/lang/String") (CU1 : Fld Z Z.heap u1 "java/lang/String" "coder" "B" (.int (0 : Int32))) (VU1 : Fld Z Z.heap u1 "java/lang/String" "value" "[B" (.ref y1)) (AU1 : Arv Z Z.heap y1 ky1 .byte (7 : Int32) [(.int (118 : Int32)), (.int (101 : Int32)), (.int (114 : Int32)), (.int (115 : Int32)), (.int (105 : Int32)), (.int (111 : Int32)), (.int (110 : Int32))] (.int (0 : Int32))) (F2 : Fld Z Z.heap t2 "com/example/dispatch_note/dispatchnote/contract/ManagedMember" "memberName" "Ljava/lang/String;" (.ref u2)) (EU2 : Exa Z Z.heap u2 "java/lang/String") (CU2 : Fld Z Z.heap u2 "java/lang/String" "coder" "B" (.int (0 : Int32))) (VU2 : Fld Z Z.heap u2 "java/lang/String" "value" "[B" (.ref y2)) (AU2 : Arv Z Z.heap y2 ky2 .byte (9 : Int32) [(.int (99 : Int32)), (.int (114 : Int32)), (.int (101 : Int32)), (.int (97 : Int32)), (.int (116 : Int32)), (.int (101 : Int32)), (.int (100 : Int32)), (.int (65 : Int32)), (.int (116 : Int32))] (.int (0 : Int32))) (F3 : Fld Z Z.heap t3 "com/example/dispatch_note/dispatchnote/contract/ManagedMember" "memberName" "Ljava/lang/String;" (.ref u3)) (EU3 : Exa Z Z.heap u3 "java/lang/String") (CU3 : Fld Z Z.heap u3 "java/lang/String" "coder" "B" (.int (0 : Int32))) (VU3 : Fld Z Z.heap u3 "java/lang/String" "value" "[B" (.ref y3)) (AU3 : Arv Z Z.heap y3 ky3 .byte (9 : Int32) [(.int (117 : Int32)), (.int (112 : Int32)), (.int (100 : Int32)), (.int (97 : Int32)), (.int (116 : Int32)), (.int (101 : Int32)), (.int (100 : Int32)), (.int (65 : Int32)), (.int (116 : Int32))] (.int (0 : Int32))) (CS : Sta Z Z.heap "java/lang/String" "COMPACT_STRINGS" "Z" (.int cz)) (SE : Sta Z Z.heap "java/util/Optional" "EMPTY" "Ljava/util/Optional;" (.ref em)) (EE : Exa Z Z.heap em "java/util/Optional") (FE : Fld Z Z.heap em "java/util/Optional" "value" "Ljava/lang/Object;" .null) (hcz : ¬ cz = (0 : Int32)) :
    METW l Z x code maxLocals ret room_1 #[(.int x0), (.int x1), (.int x2), (.int x3)] EL [] h0 n0 (fun vv hh => vv = some (.int (1 : Int32))) := by
  refine metOfW (plainFor_of_name pn_13) ?_
  intro p e s m below meth c T vm0 hx hby hml hrt hlk hnm hZ hown X e0 hS C0 hSL
  replace hml : c.maxLocals = 12 := hml
  replace hnm : meth.name = "law" := hnm
  replace hown : vm0.findClass "com/example/dispatch_note/dispatchnote/contract/ManagedMemberNamedPinLaw" = some m.cls := hown
  have N := Fr.nil n0
  have zO := O.le
  refine goCastW (ef_law m x0 x1 x2 x3) ?_
  show GoesW _ _ _ _ _ _ _ _ (T.setTop (mkF m 0 #[.val (.int x0), .val (.int x1), .val (.int x2), .val (.int x3), .unset, .unset, .unset, .unset, .unset, .unset, .unset, .unset] []))
  refine GoesW.via (fun _ k => XS.iloadN X.here hx rfl (hb hby at_0) rfl k) ?_
  show GoesW _ _ _ _ _ _ _ _ (T.setTop (mkF m 1 #[.val (.int x0), .val (.int x1), .val (.int x2), .val (.int x3), .unset, .unset, .unset, .unset, .unset, .unset, .unset, .unset] [(.int x0)]))
  refine GoesW.via (fun _ k => XT.iconstV X.here hx rfl (3 : Int32) (hb hby at_1) (by decide) k) ?_
  show GoesW _ _ _ _ _ _ _ _ (T.setTop (mkF m 2 #[.val (.int x0), .val (.int x1), .val (.int x2), .val (.int x3), .unset, .unset, .unset, .unset, .unset, .unset, .unset, .unset] [(.int (3 : Int32)), (.int x0)]))
  refine GoesW.via (fun _ k => XS.iand X.here hx rfl (hb hby at_2) rfl k) ?_
  show GoesW _ _ _ _ _ _ _ _ (T.setTop (mkF m 3 #[.val (.int x0), .val (.int x1), .val (.int x2), .val (.int x3), .unset, .unset, .unset, .unset, .unset, .unset, .unset, .unset] [(.int (x0 &&& (3 : Int32)))]))
  refine GoesW.via (fun _ k => XS.istore X.here hx rfl (hb hby at_3) rfl (l' := #[.val (.int x0), .val (.int x1), .val (.int x2), .val (.int x3), .val (.int (x0 &&& (3 : Int32))), .unset, .unset, .unset, .unset, .unset, .unset, .unset]) rfl k) ?_
  show GoesW _ _ _ _ _ _ _ _ (T.setTop (mkF m 5 #[.val (.int x0), .val (.int x1), .val (.int x2), .val (.int x3), .val (.int (x0 &&& (3 : Int32))), .unset, .unset, .unset, .unset, .unset, .unset, .unset] []))
  refine GoesW.via (fun _ k => XS.iloadN X.here hx rfl (hb hby at_5) rfl k) ?_
  show GoesW _ _ _ _ _ _ _ _ (T.setTop (mkF m 6 #[.val (.int x0), .val (.int x1), .val (.int x2), .val (.int x3), .val (.int (x0 &&& (3 : Int32))), .unset, .unset, .unset, .unset, .unset, .unset, .unset] [(.int x3)]))
  refine GoesW.via (fun _ k => XT.sipushV X.here hx rfl (255 : Int32) (hb hby at_6) (by decide) k) ?_
  show GoesW _ _ _ _ _ _ _ _ (T.setTop (mkF m 9 #[.val (.int x0), .val (.int x1), .val (.int x2), .val (.int x3), .val (.int (x0 &&& (3 : Int32))), .unset, .unset, .unset, .unset, .unset, .unset, .unset] [(.int (255 : Int32)), (.int x3)]))
  refine GoesW.via (fun _ k => XS.iand X.here hx rfl (hb hby at_9) rfl k) ?_
  show GoesW _ _ _ _ _ _ _ _ (T.setTop (mkF m 10 #[.val (.int x0), .val (.int x1), .val (.int x2), .val (.int x3), .val (.int (x0 &&& (3 : Int32))), .unset, .unset, .unset, .unset, .unset, .unset, .unset] [(.int (x3 &&& (255 : Int32)))]))
  refine GoesW.via (fun _ k => XT.i2c X.here hx rfl (hb hby at_10) rfl k) ?_
  show GoesW _ _ _ _ _ _ _ _ (T.setTop (mkF m 11 #[.val (.int x0), .val (.int x1), .val (.int x2), .val (.int x3), .val (.int (x0 &&& (3 : Int32))), .unset, .unset, .unset, .unset, .unset, .unset, .unset] [(.int (x3 &&& (255 : Int32)).toUInt32.toUInt16.toUInt32.toInt32)]))
  rw [show (x3 &&& (255 : Int32)).toUInt32.toUInt16.toUInt32.toInt32 = (x3 &&& (255 : Int32)) from (i2c_in (m255_in _))]
  show GoesW _ _ _ _ _ _ _ _ (T.setTop (mkF m 11 #[.val (.int x0), .val (.int x1), .val (.int x2), .val (.int x3), .val (.int (x0 &&& (3 : Int32))), .unset, .unset, .unset, .unset, .unset, .unset, .unset] [(.int (x3 &&& (255 : Int32)))]))
  refine GoesW.via (fun _ k => XS.istore X.here hx rfl (hb hby at_11) rfl (l' := #[.val (.int x0), .val (.int x1), .val (.int x2), .val (.int x3), .val (.int (x0 &&& (3 : Int32))), .val (.int (x3 &&& (255 : Int32))), .unset, .unset, .unset, .unset, .unset, .unset]) rfl k) ?_
  show GoesW _ _ _ _ _ _ _ _ (T.setTop (mkF m 13 #[.val (.int x0), .val (.int x1), .val (.int x2), .val (.int x3), .val (.int (x0 &&& (3 : Int32))), .val (.int (x3 &&& (255 : Int32))), .unset, .unset, .unset, .unset, .unset, .unset] []))
  refine GoesW.via (fun _ k => XS.iloadN X.here hx rfl (hb hby at_13) rfl k) ?_
  show GoesW _ _ _ _ _ _ _ _ (T.setTop (mkF m 14 #[.val (.int x0), .val (.int x1), .val (.int x2), .val (.int x3), .val (.int (x0 &&& (3 : Int32))), .val (.int (x3 &&& (255 : Int32))), .unset, .unset, .unset, .unset, .unset, .unset] [(.int x2)]))
  refine GoesW.via (fun _ k => XT.sipushV X.here hx rfl (255 : Int32) (hb hby at_14) (by decide) k) ?_
  show GoesW _ _ _ _ _ _ _ _ (T.setTop (mkF m 17 #[.val (.int x0), .val (.int x1), .val (.int x2), .val (.int x3), .val (.int (x0 &&& (3 : Int32))), .val (.int (x3 &&& (255 : Int32))), .unset, .unset, .unset, .unset, .unset, .unset] [(.int (255 : Int32)), (.int x2)]))
  refine GoesW.via (fun _ k => XS.iand X.here hx rfl (hb hby at_17) rfl k) ?_
  show GoesW _ _ _ _ _ _ _ _ (T.setTop (mkF m 18 #[.val (.int x0), .val (.int x1), .val (.int x2), .val (.int x3), .val (.int (x0 &&& (3 : Int32))), .val (.int (x3 &&& (255 : Int32))), .unset, .unset, .unset, .unset, .unset, .unset] [(.int (x2 &&& (255 : Int32)))]))
  refine GoesW.via (fun _ k => XT.i2c X.here hx rfl (hb hby at_18) rfl k) ?_
  show GoesW _ _ _ _ _ _ _ _ (T.setTop (mkF m 19 #[.val (.int x0), .val (.int x1), .val (.int x2), .val (.int x3), .val (.int (x0 &&& (3 : Int32))), .val (.int (x3 &&& (255 : Int32))), .unset, .unset, .unset, .unset, .unset, .unset] [(.int (x2 &&& (255 : Int32)).toUInt32.toUInt16.toUInt32.toInt32)]))
  rw [show (x2 &&& (255 : Int32)).toUInt32.toUInt16.toUInt32.toInt32 = (x2 &&& (255 : Int32)) from (i2c_in (m255_in _))]
  show GoesW _ _ _ _ _ _ _ _ (T.setTop (mkF m 19 #[.val (.int x0), .val (.int x1), .val (.int x2), .val (.int x3), .val (.int (x0 &&& (3 : Int32))), .val (.int (x3 &&& (255 : Int32))), .unset, .unset, .unset, .unset, .unset, .unset] [(.int (x2 &&& (255 : Int32)))]))
  refine GoesW.via (fun _ k => XS.istore X.here hx rfl (hb hby at_19) rfl (l' := #[.val (.int x0), .val (.int x1), .val (.int x2), .val (.int x3), .val (.int (x0 &&& (3 : Int32))), .val (.int (x3 &&& (255 : Int32))), .val (.int (x2 &&& (255 : Int32))), .unset, .unset, .unset, .unset, .unset]) rfl k) ?_
  show GoesW _ _ _ _ _ _ _ _ (T.setTop (mkF m 21 #[.val (.int x0), .val (.int x1), .val (.int x2), .val (.int x3), .val (.int (x0 &&& (3 : Int32))), .val (.int (x3 &&& (255 : Int32))), .val (.int (x2 &&& (255 : Int32))), .unset, .unset, .unset, .unset, .unset] []))
  refine GoesW.via (fun _ k => XS.iloadN X.here hx rfl (hb hby at_21) rfl k) ?_
  show GoesW _ _ _ _ _ _ _ _ (T.setTop (mkF m 22 #[.val (.int x0), .val (.int x1), .val (.int x2), .val (.int x3), .val (.int (x0 &&& (3 : Int32))), .val (.int (x3 &&& (255 : Int32))), .val (.int (x2 &&& (255 : Int32))), .unset, .unset, .unset, .unset, .unset] [(.int x1)]))
  refine GoesW.via (fun _ k => XT.bipushV X.here hx rfl (7 : Int32) (hb hby at_22) (by decide) k) ?_
  show GoesW _ _ _ _ _ _ _ _ (T.setTop (mkF m 24 #[.val (.int x0), .val (.int x1), .val (.int x2), .val (.int x3), .val (.int (x0 &&& (3 : Int32))), .val (.int (x3 &&& (255 : Int32))), .val (.int (x2 &&& (255 : Int32))), .unset, .unset, .unset, .unset, .unset] [(.int (7 : Int32)), (.int x1)]))
  refine GoesW.via (fun _ k => XS.iand X.here hx rfl (hb hby at_24) rfl k) ?_
  show GoesW _ _ _ _ _ _ _ _ (T.setTop (mkF m 25 #[.val (.int x0), .val (.int x1), .val (.int x2), .val (.int x3), .val (.int (x0 &&& (3 : Int32))), .val (.int (x3 &&& (255 : Int32))), .val (.int (x2 &&& (255 : Int32))), .unset, .unset, .unset, .unset, .unset] [(.int (x1 &&& (7 : Int32)))]))
  refine GoesW.via (fun _ k => XS.istore X.here hx rfl (hb hby at_25) rfl (l' := #[.val (.int x0), .val (.int x1), .val (.int x2), .val (.int x3), .val (.int (x0 &&& (3 : Int32))), .val (.int (x3 &&& (255 : Int32))), .val (.int (x2 &&& (255 : Int32))), .val (.int (x1 &&& (7 : Int32))), .unset, .unset, .unset, .unset]) rfl k) ?_
  show GoesW _ _ _ _ _ _ _ _ (T.setTop (mkF m 27 #[.val (.int x0), .val (.int x1), .val (.int x2), .val (.int x3), .val (.int (x0 &&& (3 : Int32))), .val (.int (x3 &&& (255 : Int32))), .val (.int (x2 &&& (255 : Int32))), .val (.int (x1 &&& (7 : Int32))), .unset, .unset, .unset, .unset] []))
  refine GoesW.via (fun _ k => XS.iload X.here hx rfl (hb hby at_27) rfl k) ?_
  show GoesW _ _ _ _ _ _ _ _ (T.setTop (mkF m 29 #[.val (.int x0), .val (.int x1), .val (.int x2), .val (.int x3), .val (.int (x0 &&& (3 : Int32))), .val (.int (x3 &&& (255 : Int32))), .val (.int (x2 &&& (255 : Int32))), .val (.int (x1 &&& (7 : Int32))), .unset, .unset, .unset, .unset] [(.int (x1 &&& (7 : Int32)))]))
  refine GoesW.via (fun _ k => XT.iconstV X.here hx rfl (1 : Int32) (hb hby at_29) (by decide) k) ?_
  show GoesW _ _ _ _ _ _ _ _ (T.setTop (mkF m 30 #[.val (.int x0), .val (.int x1), .val (.int x2), .val (.int x3), .val (.int (x0 &&& (3 : Int32))), .val (.int (x3 &&& (255 : Int32))), .val (.int (x2 &&& (255 : Int32))), .val (.int (x1 &&& (7 : Int32))), .unset, .unset, .unset, .unset] [(.int (1 : Int32)), (.int (x1 &&& (7 : Int32)))]))
  by_cases cq1 : (x1 &&& (7 : Int32)) = (1 : Int32)
  · skip
    refine GoesW.via (fun _ k => XS.icmpNo X.here hx rfl (hb hby at_30) rfl (XT.ii_ne_f cq1) k) ?_
    show GoesW _ _ _ _ _ _ _ _ (T.setTop (mkF m 33 #[.val (.int x0), .val (.int x1), .val (.int x2), .val (.int x3), .val (.int (x0 &&& (3 : Int32))), .val (.int (x3 &&& (255 : Int32))), .val (.int (x2 &&& (255 : Int32))), .val (.int (x1 &&& (7 : Int32))), .unset, .unset, .unset, .unset] []))
    refine GoesW.via (fun _ k => XS.iload X.here hx rfl (hb hby at_33) rfl k) ?_
    show GoesW _ _ _ _ _ _ _ _ (T.setTop (mkF m 35 #[.val (.int x0), .val (.int x1), .val (.int x2), .val (.int x3), .val (.int (x0 &&& (3 : Int32))), .val (.int (x3 &&& (255 : Int32))), .val (.int (x2 &&& (255 : Int32))), .val (.int (x1 &&& (7 : Int32))), .unset, .unset, .unset, .unset] [(.int (x0 &&& (3 : Int32)))]))
    obtain ⟨vq2, Tq2, Lq2, Xq2, qq2, nq2, stq2⟩ := callSt X hx hZ hown (baseC l Z aw hw (x0 &&& (3 : Int32)) O) (W_88 hw) (W_89 hw) (W_2 hw) (W_90 hw) (by decide) e0 (by decide) (W := 0) (by decide) (by decide) (by decide) (g := (mkF m 35 #[.val (.int x0), .val (.int x1), .val (.int x2), .val (.int x3), .val (.int (x0 &&& (3 : Int32))), .val (.int (x3 &&& (255 : Int32))), .val (.int (x2 &&& (255 : Int32))), .val (.int (x1 &&& (7 : Int32))), .unset, .unset, .unset, .unset] [(.int (x0 &&& (3 : Int32)))])) rfl (by rw [hml]; rfl) (argsL := [(.int (x0 &&& (3 : Int32)))]) (rest := []) rfl (lenOf pd_19 rfl) rfl (by show 2 * 0 + _ ≤ _; exact Nat.le_of_eq rfl) (hb hby at_35)
    obtain ⟨xr_q2, xkr_q2, xcs_q2, xnn_q2, rfl, pq2_0, pq2_1, pq2_2, pq2_3⟩ := qq2
    have Nq2 := Fr.app N nq2
    have zq2 := pq2_1.1
    have Oq2 := O.keep pq2_1 all0
    have Cq2 := C0.trans (CHr.keep pq2_1 all0 C0.1)
    have ltpq2_2 := lt_nat pq2_2.lt
    refine GoesW.via stq2 ?_
    show GoesW _ _ _ _ _ _ _ _ (Tq2.setTop (mkF m 38 #[.val (.int x0), .val (.int x1), .val (.int x2), .val (.int x3), .val (.int (x0 &&& (3 : Int32))), .val (.int (x3 &&& (255 : Int32))), .val (.int (x2 &&& (255 : Int32))), .val (.int (x1 &&& (7 : Int32))), .unset, .unset, .unset, .unset] [(.ref xr_q2)]))
    refine GoesW.via (fun _ k => XS.astore Xq2.here hx rfl (hb hby at_38) rfl rfl (l' := #[.val (.int x0), .val (.int x1), .val (.int x2), .val (.int x3), .val (.int (x0 &&& (3 : Int32))), .val (.int (x3 &&& (255 : Int32))), .val (.int (x2 &&& (255 : Int32))), .val (.int (x1 &&& (7 : Int32))), .val (.ref xr_q2), .unset, .unset, .unset]) rfl k) ?_
    show GoesW _ _ _ _ _ _ _ _ (Tq2.setTop (mkF m 40 #[.val (.int x0), .val (.int x1), .val (.int x2), .val (.int x3), .val (.int (x0 &&& (3 : Int32))), .val (.int (x3 &&& (255 : Int32))), .val (.int (x2 &&& (255 : Int32))), .val (.int (x1 &&& (7 : Int32))), .val (.ref xr_q2), .unset, .unset, .unset] []))
    refine GoesW.via (fun _ k => XS.aload Xq2.here hx rfl (hb hby at_40) rfl rfl k) ?_
    show GoesW _ _ _ _ _ _ _ _ (Tq2.setTop (mkF m 42 #[.val (.int x0), .val (.int x1), .val (.int x2), .val (.int x3), .val (.int (x0 &&& (3 : Int32))), .val (.int (x3 &&& (255 : Int32))), .val (.int (x2 &&& (255 : Int32))), .val (.int (x1 &&& (7 : Int32))), .val (.ref xr_q2), .unset, .unset, .unset] [(.ref xr_q2)]))
    refine GoesW.via (fun _ k => XS.iloadN Xq2.here hx rfl (hb hby at_42) rfl k) ?_
    show GoesW _ _ _ _ _ _ _ _ (Tq2.setTop (mkF m 43 #[.val (.int x0), .val (.int x1), .val (.int x2), .val (.int x3), .val (.int (x0 &&& (3 : Int32))), .val (.int (x3 &&& (255 : Int32))), .val (.int (x2 &&& (255 : Int32))), .val (.int (x1 &&& (7 : Int32))), .val (.ref xr_q2), .unset, .unset, .unset] [(.int x2), (.ref xr_q2)]))
    refine GoesW.via (fun _ k => Xq2.ldcI hx hown (mvT hZ (W_109 hw)) (g := (mkF m 43 #[.val (.int x0), .val (.int x1), .val (.int x2), .val (.int x3), .val (.int (x0 &&& (3 : Int32))), .val (.int (x3 &&& (255 : Int32))), .val (.int (x2 &&& (255 : Int32))), .val (.int (x1 &&& (7 : Int32))), .val (.ref xr_q2), .unset, .unset, .unset] [(.int x2), (.ref xr_q2)])) rfl (hb hby at_43) k) ?_
    show GoesW _ _ _ _ _ _ _ _ (Tq2.setTop (mkF m 45 #[.val (.int x0), .val (.int x1), .val (.int x2), .val (.int x3), .val (.int (x0 &&& (3 : Int32))), .val (.int (x3 &&& (255 : Int32))), .val (.int (x2 &&& (255 : Int32))), .val (.int (x1 &&& (7 : Int32))), .val (.ref xr_q2), .unset, .unset, .unset] [(.int (2147483647 : Int32)), (.int x2), (.ref xr_q2)]))
    refine GoesW.via (fun _ k => XS.iand Xq2.here hx rfl (hb hby at_45) rfl k) ?_
    show GoesW _ _ _ _ _ _ _ _ (Tq2.setTop (mkF m 46 #[.val (.int x0), .val (.int x1), .val (.int x2), .val (.int x3), .val (.int (x0 &&& (3 : Int32))), .val (.int (x3 &&& (255 : Int32))), .val (.int (x2 &&& (255 : Int32))), .val (.int (x1 &&& (7 : Int32))), .val (.ref xr_q2), .unset, .unset, .unset] [(.int (x2 &&& (2147483647 : Int32))), (.ref xr_q2)]))
    refine GoesW.via (fun _ k => XS.aload Xq2.here hx rfl (hb hby at_46) rfl rfl k) ?_
    show GoesW _ _ _ _ _ _ _ _ (Tq2.setTop (mkF m 48 #[.val (.int x0), .val (.int x1), .val (.int x2), .val (.int x3), .val (.int (x0 &&& (3 : Int32))), .val (.int (x3 &&& (255 : Int32))), .val (.int (x2 &&& (255 : Int32))), .val (.int (x1 &&& (7 : Int32))), .val (.ref xr_q2), .unset, .unset, .unset] [(.ref xr_q2), (.int (x2 &&& (2147483647 : Int32))), (.ref xr_q2)]))
    obtain ⟨clq3, Arq3, -, Sq3, Nnq3, -, -⟩ := id pq2_2
    refine GoesW.via (Xq2.arraylength hx Arq3.1 (State.isArrayOf_alike hZ.alike Arq3.2.1) (g := (mkF m 48 #[.val (.int x0), .val (.int x1), .val (.int x2), .val (.int x3), .val (.int (x0 &&& (3 : Int32))), .val (.int (x3 &&& (255 : Int32))), .val (.int (x2 &&& (255 : Int32))), .val (.int (x1 &&& (7 : Int32))), .val (.ref xr_q2), .unset, .unset, .unset] [(.ref xr_q2), (.int (x2 &&& (2147483647 : Int32))), (.ref xr_q2)])) rfl rfl (hb hby at_48)) ?_
    rw [len_of Sq3 Nnq3]
    show GoesW _ _ _ _ _ _ _ _ (Tq2.setTop (mkF m 49 #[.val (.int x0), .val (.int x1), .val (.int x2), .val (.int x3), .val (.int (x0 &&& (3 : Int32))), .val (.int (x3 &&& (255 : Int32))), .val (.int (x2 &&& (255 : Int32))), .val (.int (x1 &&& (7 : Int32))), .val (.ref xr_q2), .unset, .unset, .unset] [(.int (Int32.ofNat xnn_q2)), (.int (x2 &&& (2147483647 : Int32))), (.ref xr_q2)]))
    refine GoesW.via (fun _ k => iremM Xq2 hx rfl (hb hby at_49) rfl (ofn_nz pq2_3.1 pq2_3.2.1) k) ?_
    show GoesW _ _ _ _ _ _ _ _ (Tq2.setTop (mkF m 50 #[.val (.int x0), .val (.int x1), .val (.int x2), .val (.int x3), .val (.int (x0 &&& (3 : Int32))), .val (.int (x3 &&& (255 : Int32))), .val (.int (x2 &&& (255 : Int32))), .val (.int (x1 &&& (7 : Int32))), .val (.ref xr_q2), .unset, .unset, .unset] [(.int ((x2 &&& (2147483647 : Int32)) % (Int32.ofNat xnn_q2))), (.ref xr_q2)]))
    refine GoesW.via (fun _ k => XS.iload Xq2.here hx rfl (hb hby at_50) rfl k) ?_
    show GoesW _ _ _ _ _ _ _ _ (Tq2.setTop (mkF m 52 #[.val (.int x0), .val (.int x1), .val (.int x2), .val (.int x3), .val (.int (x0 &&& (3 : Int32))), .val (.int (x3 &&& (255 : Int32))), .val (.int (x2 &&& (255 : Int32))), .val (.int (x1 &&& (7 : Int32))), .val (.ref xr_q2), .unset, .unset, .unset] [(.int (x3 &&& (255 : Int32))), (.int ((x2 &&& (2147483647 : Int32)) % (Int32.ofNat xnn_q2))), (.ref xr_q2)]))
    obtain ⟨clq4, Arq4, qq4, Sq4, Nnq4, Hq4, Gq4⟩ := id pq2_2
    have hinq4 : ¬ (((x2 &&& (2147483647 : Int32)) % (Int32.ofNat xnn_q2)) < 0 ∨ clq4.slots.size ≤ (((x2 &&& (2147483647 : Int32)) % (Int32.ofNat xnn_q2))).toNatClampNeg) := inb_of Sq4 (ix_b x2 pq2_3.1 pq2_3.2.1).1
    obtain ⟨Tq4, hq4, Xq4, eq4, Wq4, stq4⟩ := stC Xq2 hx hZ rfl Arq4 (j := ((x2 &&& (2147483647 : Int32)) % (Int32.ofNat xnn_q2))) hinq4 (g := (mkF m 52 #[.val (.int x0), .val (.int x1), .val (.int x2), .val (.int x3), .val (.int (x0 &&& (3 : Int32))), .val (.int (x3 &&& (255 : Int32))), .val (.int (x2 &&& (255 : Int32))), .val (.int (x1 &&& (7 : Int32))), .val (.ref xr_q2), .unset, .unset, .unset] [(.int (x3 &&& (255 : Int32))), (.int ((x2 &&& (2147483647 : Int32)) % (Int32.ofNat xnn_q2))), (.ref xr_q2)])) rfl rfl (hb hby at_52)
    have Nq4 := Fr.snoc Xq4 Nq2 (by omega)
    have zq4 := Wq4.size
    have Oq4 := Oq2.wr Wq4 (by omega)
    have Cq4 := Cq2.trans (CHr.wr Wq4 (Safe.arvO hZ.alike pq2_2 (by decide)) Cq2.1)
    have Vq4 : Arv Z hq4 xr_q2 xkr_q2 .char (Int32.ofNat xnn_q2) ((xcs_q2.set (((x2 &&& (2147483647 : Int32)) % (Int32.ofNat xnn_q2))).toNatClampNeg (x3 &&& (255 : Int32))).map Value.int) (.int (0 : Int32)) := by
      have q := Arv.set Arq4 qq4 Sq4 Nnq4 Hq4 Gq4 (fits_nar_char _) Wq4 _ rfl (by rw [List.length_map, pq2_3.2.2.1]; exact (ix_b x2 pq2_3.1 pq2_3.2.1).2)
      rw [narc_in (m255_in x3)] at q
      rw [List.map_set]
      exact q
    refine GoesW.via stq4 ?_
    show GoesW _ _ _ _ _ _ _ _ (Tq4.setTop (mkF m 53 #[.val (.int x0), .val (.int x1), .val (.int x2), .val (.int x3), .val (.int (x0 &&& (3 : Int32))), .val (.int (x3 &&& (255 : Int32))), .val (.int (x2 &&& (255 : Int32))), .val (.int (x1 &&& (7 : Int32))), .val (.ref xr_q2), .unset, .unset, .unset] []))
    refine GoesW.via (fun _ k => XS.goto Xq4.here hx rfl (pc0 := 53) (pc' := 155) rfl (hb hby at_53) (by decide) (by decide) k) ?_
    show GoesW _ _ _ _ _ _ _ _ (Tq4.setTop (mkF m 155 #[.val (.int x0), .val (.int x1), .val (.int x2), .val (.int x3), .val (.int (x0 &&& (3 : Int32))), .val (.int (x3 &&& (255 : Int32))), .val (.int (x2 &&& (255 : Int32))), .val (.int (x1 &&& (7 : Int32))), .val (.ref xr_q2), .unset, .unset, .unset] []))
    exact seg155 l Z aw hw x0 x1 x2 x3 (x0 &&& (3 : Int32)) (x3 &&& (255 : Int32)) (x2 &&& (255 : Int32)) (x1 &&& (7 : Int32)) xr_q2 xkr_q2 (xcs_q2.set (((x2 &&& (2147483647 : Int32)) % (Int32.ofNat xnn_q2))).toNatClampNeg (x3 &&& (255 : Int32))) xnn_q2 ar kz0 t0 t1 t2 t3 u0 y0 ky0 u1 y1 ky1 u2 y2 ky2 u3 y3 ky3 em cz hx hby hml hrt hlk hnm hZ hown Xq4 eq4 Nq4 (by decide) (by decide) Oq4 hS (by omega) Cq4 S0 V0 E0 S1 S2 S3 S4 E1 E2 E3 E4 F0 EU0 CU0 VU0 AU0 F1 EU1 CU1 VU1 AU1 F2 EU2 CU2 VU2 AU2 F3 EU3 CU3 VU3 AU3 CS SE EE FE Vq4 hcz ⟨pq2_3.1, pq2_3.2.1, by rw [List.length_set]; exact pq2_3.2.2.1, set_in pq2_3.2.2.2 (m255_in _)⟩
  · skip
    refine GoesW.via (fun _ k => XS.icmpYes X.here hx rfl (pc0 := 30) (pc' := 56) rfl (hb hby at_30) rfl (XT.ii_ne_t cq1) (by decide) (by decide) k) ?_
    show GoesW _ _ _ _ _ _ _ _ (T.setTop (mkF m 56 #[.val (.int x0), .val (.int x1), .val (.int x2), .val (.int x3), .val (.int (x0 &&& (3 : Int32))), .val (.int (x3 &&& (255 : Int32))), .val (.int (x2 &&& (255 : Int32))), .val (.int (x1 &&& (7 : Int32))), .unset, .unset, .unset, .unset] []))
    refine GoesW.via (fun _ k => XS.iload X.here hx rfl (hb hby at_56) rfl k) ?_
    show GoesW _ _ _ _ _ _ _ _ (T.setTop (mkF m 58 #[.val (.int x0), .val (.int x1), .val (.int x2), .val (.int x3), .val (.int (x0 &&& (3 : Int32))), .val (.int (x3 &&& (255 : Int32))), .val (.int (x2 &&& (255 : Int32))), .val (.int (x1 &&& (7 : Int32))), .unset, .unset, .unset, .unset] [(.int (x1 &&& (7 : Int32)))]))
    refine GoesW.via (fun _ k => XT.iconstV X.here hx rfl (2 : Int32) (hb hby at_58) (by decide) k) ?_
    show GoesW _ _ _ _ _ _ _ _ (T.setTop (mkF m 59 #[.val (.int x0), .val (.int x1), .val (.int x2), .val (.int x3), .val (.int (x0 &&& (3 : Int32))), .val (.int (x3 &&& (255 : Int32))), .val (.int (x2 &&& (255 : Int32))), .val (.int (x1 &&& (7 : Int32))), .unset, .unset, .unset, .unset] [(.int (2 : Int32)), (.int (x1 &&& (7 : Int32)))]))
    by_cases cq5 : (x1 &&& (7 : Int32)) = (2 : Int32)
    · skip
      refine GoesW.via (fun _ k => XS.icmpNo X.here hx rfl (hb hby at_59) rfl (XT.ii_ne_f cq5) k) ?_
      show GoesW _ _ _ _ _ _ _ _ (T.setTop (mkF m 62 #[.val (.int x0), .val (.int x1), .val (.int x2), .val (.int x3), .val (.int (x0 &&& (3 : Int32))), .val (.int (x3 &&& (255 : Int32))), .val (.int (x2 &&& (255 : Int32))), .val (.int (x1 &&& (7 : Int32))), .unset, .unset, .unset, .unset] []))
      refine GoesW.via (fun _ k => XS.iload X.here hx rfl (hb hby at_62) rfl k) ?_
      show GoesW _ _ _ _ _ _ _ _ (T.setTop (mkF m 64 #[.val (.int x0), .val (.int x1), .val (.int x2), .val (.int x3), .val (.int (x0 &&& (3 : Int32))), .val (.int (x3 &&& (255 : Int32))), .val (.int (x2 &&& (255 : Int32))), .val (.int (x1 &&& (7 : Int32))), .unset, .unset, .unset, .unset] [(.int (x0 &&& (3 : Int32)))]))
      obtain ⟨vq6, Tq6, Lq6, Xq6, qq6, nq6, stq6⟩ := callSt X hx hZ hown (truncC l Z aw hw (x0 &&& (3 : Int32)) O) (W_110 hw) (W_111 hw) (W_2 hw) (W_112 hw) (by decide) e0 (by decide) (W := 0) (by decide) (by decide) (by decide) (g := (mkF m 64 #[.val (.int x0), .val (.int x1), .val (.int x2), .val (.int x3), .val (.int (x0 &&& (3 : Int32))), .val (.int (x3 &&& (255 : Int32))), .val (.int (x2 &&& (255 : Int32))), .val (.int (x1 &&& (7 : Int32))), .unset, .unset, .unset, .unset] [(.int (x0 &&& (3 : Int32)))])) rfl (by rw [hml]; rfl) (argsL := [(.int (x0 &&& (3 : Int32)))]) (rest := []) rfl (lenOf pd_19 rfl) rfl (by show 2 * 0 + _ ≤ _; exact Nat.le_of_eq rfl) (hb hby at_64)
      obtain ⟨xr_q6, xkr_q6, xcs_q6, xnn_q6, rfl, pq6_0, pq6_1, pq6_2, pq6_3⟩ := qq6
      have Nq6 := Fr.app N nq6
      have zq6 := pq6_1.1
      have Oq6 := O.keep pq6_1 all0
      have Cq6 := C0.trans (CHr.keep pq6_1 all0 C0.1)
      have ltpq6_2 := lt_nat pq6_2.lt
      refine GoesW.via stq6 ?_
      show GoesW _ _ _ _ _ _ _ _ (Tq6.setTop (mkF m 67 #[.val (.int x0), .val (.int x1), .val (.int x2), .val (.int x3), .val (.int (x0 &&& (3 : Int32))), .val (.int (x3 &&& (255 : Int32))), .val (.int (x2 &&& (255 : Int32))), .val (.int (x1 &&& (7 : Int32))), .unset, .unset, .unset, .unset] [(.ref xr_q6)]))
      refine GoesW.via (fun _ k => XS.astore Xq6.here hx rfl (hb hby at_67) rfl rfl (l' := #[.val (.int x0), .val (.int x1), .val (.int x2), .val (.int x3), .val (.int (x0 &&& (3 : Int32))), .val (.int (x3 &&& (255 : Int32))), .val (.int (x2 &&& (255 : Int32))), .val (.int (x1 &&& (7 : Int32))), .val (.ref xr_q6), .unset, .unset, .unset]) rfl k) ?_
      show GoesW _ _ _ _ _ _ _ _ (Tq6.setTop (mkF m 69 #[.val (.int x0), .val (.int x1), .val (.int x2), .val (.int x3), .val (.int (x0 &&& (3 : Int32))), .val (.int (x3 &&& (255 : Int32))), .val (.int (x2 &&& (255 : Int32))), .val (.int (x1 &&& (7 : Int32))), .val (.ref xr_q6), .unset, .unset, .unset] []))
      refine GoesW.via (fun _ k => XS.goto Xq6.here hx rfl (pc0 := 69) (pc' := 155) rfl (hb hby at_69) (by decide) (by decide) k) ?_
      show GoesW _ _ _ _ _ _ _ _ (Tq6.setTop (mkF m 155 #[.val (.int x0), .val (.int x1), .val (.int x2), .val (.int x3), .val (.int (x0 &&& (3 : Int32))), .val (.int (x3 &&& (255 : Int32))), .val (.int (x2 &&& (255 : Int32))), .val (.int (x1 &&& (7 : Int32))), .val (.ref xr_q6), .unset, .unset, .unset] []))
      exact seg155 l Z aw hw x0 x1 x2 x3 (x0 &&& (3 : Int32)) (x3 &&& (255 : Int32)) (x2 &&& (255 : Int32)) (x1 &&& (7 : Int32)) xr_q6 xkr_q6 xcs_q6 xnn_q6 ar kz0 t0 t1 t2 t3 u0 y0 ky0 u1 y1 ky1 u2 y2 ky2 u3 y3 ky3 em cz hx hby hml hrt hlk hnm hZ hown Xq6 rfl Nq6 (by decide) (by decide) Oq6 hS (by omega) Cq6 S0 V0 E0 S1 S2 S3 S4 E1 E2 E3 E4 F0 EU0 CU0 VU0 AU0 F1 EU1 CU1 VU1 AU1 F2 EU2 CU2 VU2 AU2 F3 EU3 CU3 VU3 AU3 CS SE EE FE pq6_2 hcz pq6_3
    · skip
      refine GoesW.via (fun _ k => XS.icmpYes X.here hx rfl (pc0 := 59) (pc' := 72) rfl (hb hby at_59) rfl (XT.ii_ne_t cq5) (by decide) (by decide) k) ?_
      show GoesW _ _ _ _ _ _ _ _ (T.setTop (mkF m 72 #[.val (.int x0), .val (.int x1), .val (.int x2), .val (.int x3), .val (.int (x0 &&& (3 : Int32))), .val (.int (x3 &&& (255 : Int32))), .val (.int (x2 &&& (255 : Int32))), .val (.int (x1 &&& (7 : Int32))), .unset, .unset, .unset, .unset] []))
      refine GoesW.via (fun _ k => XS.iload X.here hx rfl (hb hby at_72) rfl k) ?_
      show GoesW _ _ _ _ _ _ _ _ (T.setTop (mkF m 74 #[.val (.int x0), .val (.int x1), .val (.int x2), .val (.int x3), .val (.int (x0 &&& (3 : Int32))), .val (.int (x3 &&& (255 : Int32))), .val (.int (x2 &&& (255 : Int32))), .val (.int (x1 &&& (7 : Int32))), .unset, .unset, .unset, .unset] [(.int (x1 &&& (7 : Int32)))]))
      refine GoesW.via (fun _ k => XT.iconstV X.here hx rfl (3 : Int32) (hb hby at_74) (by decide) k) ?_
      show GoesW _ _ _ _ _ _ _ _ (T.setTop (mkF m 75 #[.val (.int x0), .val (.int x1), .val (.int x2), .val (.int x3), .val (.int (x0 &&& (3 : Int32))), .val (.int (x3 &&& (255 : Int32))), .val (.int (x2 &&& (255 : Int32))), .val (.int (x1 &&& (7 : Int32))), .unset, .unset, .unset, .unset] [(.int (3 : Int32)), (.int (x1 &&& (7 : Int32)))]))
      by_cases cq7 : (x1 &&& (7 : Int32)) = (3 : Int32)
      · skip
        refine GoesW.via (fun _ k => XS.icmpNo X.here hx rfl (hb hby at_75) rfl (XT.ii_ne_f cq7) k) ?_
        show GoesW _ _ _ _ _ _ _ _ (T.setTop (mkF m 78 #[.val (.int x0), .val (.int x1), .val (.int x2), .val (.int x3), .val (.int (x0 &&& (3 : Int32))), .val (.int (x3 &&& (255 : Int32))), .val (.int (x2 &&& (255 : Int32))), .val (.int (x1 &&& (7 : Int32))), .unset, .unset, .unset, .unset] []))
        refine GoesW.via (fun _ k => XS.iload X.here hx rfl (hb hby at_78) rfl k) ?_
        show GoesW _ _ _ _ _ _ _ _ (T.setTop (mkF m 80 #[.val (.int x0), .val (.int x1), .val (.int x2), .val (.int x3), .val (.int (x0 &&& (3 : Int32))), .val (.int (x3 &&& (255 : Int32))), .val (.int (x2 &&& (255 : Int32))), .val (.int (x1 &&& (7 : Int32))), .unset, .unset, .unset, .unset] [(.int (x0 &&& (3 : Int32)))]))
        refine GoesW.via (fun _ k => XS.iload X.here hx rfl (hb hby at_80) rfl k) ?_
        show GoesW _ _ _ _ _ _ _ _ (T.setTop (mkF m 82 #[.val (.int x0), .val (.int x1), .val (.int x2), .val (.int x3), .val (.int (x0 &&& (3 : Int32))), .val (.int (x3 &&& (255 : Int32))), .val (.int (x2 &&& (255 : Int32))), .val (.int (x1 &&& (7 : Int32))), .unset, .unset, .unset, .unset] [(.int (x3 &&& (255 : Int32))), (.int (x0 &&& (3 : Int32)))]))
        obtain ⟨vq8, Tq8, Lq8, Xq8, qq8, nq8, stq8⟩ := callSt X hx hZ hown (appC l Z aw hw (x0 &&& (3 : Int32)) (x3 &&& (255 : Int32)) O (m255_in _)) (W_0 hw) (W_1 hw) (W_2 hw) (W_3 hw) (by decide) e0 (by decide) (W := 0) (by decide) (by decide) (by decide) (g := (mkF m 82 #[.val (.int x0), .val (.int x1), .val (.int x2), .val (.int x3), .val (.int (x0 &&& (3 : Int32))), .val (.int (x3 &&& (255 : Int32))), .val (.int (x2 &&& (255 : Int32))), .val (.int (x1 &&& (7 : Int32))), .unset, .unset, .unset, .unset] [(.int (x3 &&& (255 : Int32))), (.int (x0 &&& (3 : Int32)))])) rfl (by rw [hml]; rfl) (argsL := [(.int (x0 &&& (3 : Int32))), (.int (x3 &&& (255 : Int32)))]) (rest := []) rfl (lenOf pd_20 rfl) rfl (by show 2 * 0 + _ ≤ _; exact Nat.le_of_eq rfl) (hb hby at_82)
        obtain ⟨xr_q8, xkr_q8, xcs_q8, xnn_q8, rfl, pq8_0, pq8_1, pq8_2, pq8_3⟩ := qq8
        have Nq8 := Fr.app N nq8
        have zq8 := pq8_1.1
        have Oq8 := O.keep pq8_1 all0
        have Cq8 := C0.trans (CHr.keep pq8_1 all0 C0.1)
        have ltpq8_2 := lt_nat pq8_2.lt
        refine GoesW.via stq8 ?_
        show GoesW _ _ _ _ _ _ _ _ (Tq8.setTop (mkF m 85 #[.val (.int x0), .val (.int x1), .val (.int x2), .val (.int x3), .val (.int (x0 &&& (3 : Int32))), .val (.int (x3 &&& (255 : Int32))), .val (.int (x2 &&& (255 : Int32))), .val (.int (x1 &&& (7 : Int32))), .unset, .unset, .unset, .unset] [(.ref xr_q8)]))
        refine GoesW.via (fun _ k => XS.astore Xq8.here hx rfl (hb hby at_85) rfl rfl (l' := #[.val (.int x0), .val (.int x1), .val (.int x2), .val (.int x3), .val (.int (x0 &&& (3 : Int32))), .val (.int (x3 &&& (255 : Int32))), .val (.int (x2 &&& (255 : Int32))), .val (.int (x1 &&& (7 : Int32))), .val (.ref xr_q8), .unset, .unset, .unset]) rfl k) ?_
        show GoesW _ _ _ _ _ _ _ _ (Tq8.setTop (mkF m 87 #[.val (.int x0), .val (.int x1), .val (.int x2), .val (.int x3), .val (.int (x0 &&& (3 : Int32))), .val (.int (x3 &&& (255 : Int32))), .val (.int (x2 &&& (255 : Int32))), .val (.int (x1 &&& (7 : Int32))), .val (.ref xr_q8), .unset, .unset, .unset] []))
        refine GoesW.via (fun _ k => XS.goto Xq8.here hx rfl (pc0 := 87) (pc' := 155) rfl (hb hby at_87) (by decide) (by decide) k) ?_
        show GoesW _ _ _ _ _ _ _ _ (Tq8.setTop (mkF m 155 #[.val (.int x0), .val (.int x1), .val (.int x2), .val (.int x3), .val (.int (x0 &&& (3 : Int32))), .val (.int (x3 &&& (255 : Int32))), .val (.int (x2 &&& (255 : Int32))), .val (.int (x1 &&& (7 : Int32))), .val (.ref xr_q8), .unset, .unset, .unset] []))
        exact seg155 l Z aw hw x0 x1 x2 x3 (x0 &&& (3 : Int32)) (x3 &&& (255 : Int32)) (x2 &&& (255 : Int32)) (x1 &&& (7 : Int32)) xr_q8 xkr_q8 xcs_q8 xnn_q8 ar kz0 t0 t1 t2 t3 u0 y0 ky0 u1 y1 ky1 u2 y2 ky2 u3 y3 ky3 em cz hx hby hml hrt hlk hnm hZ hown Xq8 rfl Nq8 (by decide) (by decide) Oq8 hS (by omega) Cq8 S0 V0 E0 S1 S2 S3 S4 E1 E2 E3 E4 F0 EU0 CU0 VU0 AU0 F1 EU1 CU1 VU1 AU1 F2 EU2 CU2 VU2 AU2 F3 EU3 CU3 VU3 AU3 CS SE EE FE pq8_2 hcz pq8_3
      · skip
        refine GoesW.via (fun _ k => XS.icmpYes X.here hx rfl (pc0 := 75) (pc' := 90) rfl (hb hby at_75) rfl (XT.ii_ne_t cq7) (by decide) (by decide) k) ?_
        show GoesW _ _ _ _ _ _ _ _ (T.setTop (mkF m 90 #[.val (.int x0), .val (.int x1), .val (.int x2), .val (.int x3), .val (.int (x0 &&& (3 : Int32))), .val (.int (x3 &&& (255 : Int32))), .val (.int (x2 &&& (255 : Int32))), .val (.int (x1 &&& (7 : Int32))), .unset, .unset, .unset, .unset] []))
        refine GoesW.via (fun _ k => XS.iload X.here hx rfl (hb hby at_90) rfl k) ?_
        show GoesW _ _ _ _ _ _ _ _ (T.setTop (mkF m 92 #[.val (.int x0), .val (.int x1), .val (.int x2), .val (.int x3), .val (.int (x0 &&& (3 : Int32))), .val (.int (x3 &&& (255 : Int32))), .val (.int (x2 &&& (255 : Int32))), .val (.int (x1 &&& (7 : Int32))), .unset, .unset, .unset, .unset] [(.int (x1 &&& (7 : Int32)))]))
        refine GoesW.via (fun _ k => XT.iconstV X.here hx rfl (4 : Int32) (hb hby at_92) (by decide) k) ?_
        show GoesW _ _ _ _ _ _ _ _ (T.setTop (mkF m 93 #[.val (.int x0), .val (.int x1), .val (.int x2), .val (.int x3), .val (.int (x0 &&& (3 : Int32))), .val (.int (x3 &&& (255 : Int32))), .val (.int (x2 &&& (255 : Int32))), .val (.int (x1 &&& (7 : Int32))), .unset, .unset, .unset, .unset] [(.int (4 : Int32)), (.int (x1 &&& (7 : Int32)))]))
        by_cases cq9 : (x1 &&& (7 : Int32)) = (4 : Int32)
        · skip
          refine GoesW.via (fun _ k => XS.icmpNo X.here hx rfl (hb hby at_93) rfl (XT.ii_ne_f cq9) k) ?_
          show GoesW _ _ _ _ _ _ _ _ (T.setTop (mkF m 96 #[.val (.int x0), .val (.int x1), .val (.int x2), .val (.int x3), .val (.int (x0 &&& (3 : Int32))), .val (.int (x3 &&& (255 : Int32))), .val (.int (x2 &&& (255 : Int32))), .val (.int (x1 &&& (7 : Int32))), .unset, .unset, .unset, .unset] []))
          refine GoesW.via (fun _ k => XT.iconstV X.here hx rfl (0 : Int32) (hb hby at_96) (by decide) k) ?_
          show GoesW _ _ _ _ _ _ _ _ (T.setTop (mkF m 97 #[.val (.int x0), .val (.int x1), .val (.int x2), .val (.int x3), .val (.int (x0 &&& (3 : Int32))), .val (.int (x3 &&& (255 : Int32))), .val (.int (x2 &&& (255 : Int32))), .val (.int (x1 &&& (7 : Int32))), .unset, .unset, .unset, .unset] [(.int (0 : Int32))]))
          obtain ⟨Tq10, hq10, kq10, Xq10, eq10, Eq10, Aq10, stq10⟩ := newP (aty := .char) X hx hZ (W_4 hw) e0 (g := (mkF m 97 #[.val (.int x0), .val (.int x1), .val (.int x2), .val (.int x3), .val (.int (x0 &&& (3 : Int32))), .val (.int (x3 &&& (255 : Int32))), .val (.int (x2 &&& (255 : Int32))), .val (.int (x1 &&& (7 : Int32))), .unset, .unset, .unset, .unset] [(.int (0 : Int32))])) rfl (hb hby at_97) rfl (by decide) (cap := 0) (by decide) (by decide) (by decide) (by decide)
          obtain ⟨bq10, gq10⟩ : ∃ z, z = h0.size := ⟨_, rfl⟩
          rw [← gq10] at Aq10 stq10
          have zq10 := Eq10.1
          have Oq10 := O.ext Eq10
          have Cq10 := C0.trans (CHr.ext Eq10 C0.1)
          have Vq10 : Arv Z hq10 bq10 kq10 .char (0 : Int32) [] (.int (0 : Int32)) := (Arv.new Aq10 (by decide)).pad (pad_rep [] (.int (0 : Int32)) 0)
          have lq10 := lt_nat Vq10.lt
          refine GoesW.via stq10 ?_
          show GoesW _ _ _ _ _ _ _ _ (Tq10.setTop (mkF m 99 #[.val (.int x0), .val (.int x1), .val (.int x2), .val (.int x3), .val (.int (x0 &&& (3 : Int32))), .val (.int (x3 &&& (255 : Int32))), .val (.int (x2 &&& (255 : Int32))), .val (.int (x1 &&& (7 : Int32))), .unset, .unset, .unset, .unset] [(.ref bq10)]))
          refine GoesW.via (fun _ k => XS.astore Xq10.here hx rfl (hb hby at_99) rfl rfl (l' := #[.val (.int x0), .val (.int x1), .val (.int x2), .val (.int x3), .val (.int (x0 &&& (3 : Int32))), .val (.int (x3 &&& (255 : Int32))), .val (.int (x2 &&& (255 : Int32))), .val (.int (x1 &&& (7 : Int32))), .val (.ref bq10), .unset, .unset, .unset]) rfl k) ?_
          show GoesW _ _ _ _ _ _ _ _ (Tq10.setTop (mkF m 101 #[.val (.int x0), .val (.int x1), .val (.int x2), .val (.int x3), .val (.int (x0 &&& (3 : Int32))), .val (.int (x3 &&& (255 : Int32))), .val (.int (x2 &&& (255 : Int32))), .val (.int (x1 &&& (7 : Int32))), .val (.ref bq10), .unset, .unset, .unset] []))
          refine GoesW.via (fun _ k => XS.goto Xq10.here hx rfl (pc0 := 101) (pc' := 155) rfl (hb hby at_101) (by decide) (by decide) k) ?_
          show GoesW _ _ _ _ _ _ _ _ (Tq10.setTop (mkF m 155 #[.val (.int x0), .val (.int x1), .val (.int x2), .val (.int x3), .val (.int (x0 &&& (3 : Int32))), .val (.int (x3 &&& (255 : Int32))), .val (.int (x2 &&& (255 : Int32))), .val (.int (x1 &&& (7 : Int32))), .val (.ref bq10), .unset, .unset, .unset] []))
          obtain ⟨Tq11, hq11, Xq11, eq11, Eq11, Aq11, Dq11, -, stq11⟩ := newO Xq10 hx hZ hown (W_5 hw) (W_6 hw) (W_7 hw) eq10 (g := (mkF m 155 #[.val (.int x0), .val (.int x1), .val (.int x2), .val (.int x3), .val (.int (x0 &&& (3 : Int32))), .val (.int (x3 &&& (255 : Int32))), .val (.int (x2 &&& (255 : Int32))), .val (.int (x1 &&& (7 : Int32))), .val (.ref bq10), .unset, .unset, .unset] [])) rfl (hb hby at_155) (by decide) (by decide)
          obtain ⟨bq11, gq11⟩ : ∃ z, z = hq10.size := ⟨_, rfl⟩
          rw [← gq11] at Aq11 Dq11 stq11
          have zq11 := Eq11.1
          have Oq11 := Oq10.ext Eq11
          have Cq11 := Cq10.trans (CHr.ext Eq11 Cq10.1)
          have lq11 := lt_nat Aq11.lt
          refine GoesW.via stq11 ?_
          show GoesW _ _ _ _ _ _ _ _ (Tq11.setTop (mkF m 158 #[.val (.int x0), .val (.int x1), .val (.int x2), .val (.int x3), .val (.int (x0 &&& (3 : Int32))), .val (.int (x3 &&& (255 : Int32))), .val (.int (x2 &&& (255 : Int32))), .val (.int (x1 &&& (7 : Int32))), .val (.ref bq10), .unset, .unset, .unset] [(.ref bq11)]))
          refine GoesW.via (fun _ k => XS.dup Xq11.here hx rfl (hb hby at_158) rfl rfl k) ?_
          show GoesW _ _ _ _ _ _ _ _ (Tq11.setTop (mkF m 159 #[.val (.int x0), .val (.int x1), .val (.int x2), .val (.int x3), .val (.int (x0 &&& (3 : Int32))), .val (.int (x3 &&& (255 : Int32))), .val (.int (x2 &&& (255 : Int32))), .val (.int (x1 &&& (7 : Int32))), .val (.ref bq10), .unset, .unset, .unset] [(.ref bq11), (.ref bq11)]))
          refine GoesW.via (fun _ k => XS.aload Xq11.here hx rfl (hb hby at_159) rfl rfl k) ?_
          show GoesW _ _ _ _ _ _ _ _ (Tq11.setTop (mkF m 161 #[.val (.int x0), .val (.int x1), .val (.int x2), .val (.int x3), .val (.int (x0 &&& (3 : Int32))), .val (.int (x3 &&& (255 : Int32))), .val (.int (x2 &&& (255 : Int32))), .val (.int (x1 &&& (7 : Int32))), .val (.ref bq10), .unset, .unset, .unset] [(.ref bq10), (.ref bq11), (.ref bq11)]))
          have fq12 : Arv Z hq11 bq10 kq10 .char (0 : Int32) [] (.int (0 : Int32)) := (Vq10.ext Eq11)
          have fq14 : Safe Z EL vm0 hq11 bq11 := (Safe.ext Eq11 Cq10.1 (Safe.new (Nat.le_of_eq gq11.symm)))
          obtain ⟨vq13, Tq13, Lq13, Xq13, Sq13, hZq13, hownq13, Rq13, qq13, nq13, stq13⟩ := callSpW Xq11 hx hZ hown hS (by rw [eq11]; omega) (ew hw) Cq11.1 (allS (lt_ok (by omega)) all0) (allS fq14 all0) (str_0 l Z aw hw bq11 bq10 kq10 Oq11 Aq11 (Dq11 (Or.inr (W_33 hw)) (ty := (.array .byte)) (by decide)) (Dq11 (Or.inr (W_31 hw)) (ty := .byte) (by decide)) fq12 (by omega)) rfl (W_8 hw) (W_9 hw) (W_7 hw) (W_10 hw) (by decide) eq11 (by decide) (W := 1) (by decide) (by decide) (by decide) (g := (mkF m 161 #[.val (.int x0), .val (.int x1), .val (.int x2), .val (.int x3), .val (.int (x0 &&& (3 : Int32))), .val (.int (x3 &&& (255 : Int32))), .val (.int (x2 &&& (255 : Int32))), .val (.int (x1 &&& (7 : Int32))), .val (.ref bq10), .unset, .unset, .unset] [(.ref bq10), (.ref bq11), (.ref bq11)])) rfl (by rw [hml]; rfl) (a := bq11) (argsL := [(.ref bq10)]) (rest := [(.ref bq11)]) rfl (lenOf pd_18 rfl) rfl (by show 2 * 0 + _ ≤ _; exact Nat.le_of_eq rfl) (hb hby at_161)
          obtain ⟨xb_q13, xkb_q13, rfl, pq13_0, pq13_1, pq13_2, pq13_3, pq13_4⟩ := qq13
          have Nq13 := Fr.app N nq13
          have zq13 := pq13_0.1
          have Oq13 := Oq11.keep pq13_0 (allS (by omega) all0)
          have Cq13 := Cq11.trans Rq13
          have ltpq13_1 := lt_nat pq13_1.lt
          have ltpq13_4 := lt_nat pq13_4.lt
          refine GoesW.via stq13 ?_
          show GoesW _ _ _ _ _ _ _ _ (Tq13.setTop (mkF m 164 #[.val (.int x0), .val (.int x1), .val (.int x2), .val (.int x3), .val (.int (x0 &&& (3 : Int32))), .val (.int (x3 &&& (255 : Int32))), .val (.int (x2 &&& (255 : Int32))), .val (.int (x1 &&& (7 : Int32))), .val (.ref bq10), .unset, .unset, .unset] [(.ref bq11)]))
          exact seg164 l Z aw hw x0 x1 x2 x3 (x0 &&& (3 : Int32)) (x3 &&& (255 : Int32)) (x2 &&& (255 : Int32)) (x1 &&& (7 : Int32)) bq10 bq11 xb_q13 xkb_q13 (0 : Int32) ([]) ([]) ar kz0 t0 t1 t2 t3 u0 y0 ky0 u1 y1 ky1 u2 y2 ky2 u3 y3 ky3 em cz hx hby hml hrt hlk hnm hZq13 hownq13 Xq13 rfl Nq13 (by decide) (by decide) Oq13 Sq13 (by omega) Cq13 S0 V0 E0 S1 S2 S3 S4 E1 E2 E3 E4 F0 EU0 CU0 VU0 AU0 F1 EU1 CU1 VU1 AU1 F2 EU2 CU2 VU2 AU2 F3 EU3 CU3 VU3 AU3 CS SE EE FE pq13_1 pq13_2 pq13_3 pq13_4 hcz cod0 ch0 (by decide)
        · skip
          refine GoesW.via (fun _ k => XS.icmpYes X.here hx rfl (pc0 := 93) (pc' := 104) rfl (hb hby at_93) rfl (XT.ii_ne_t cq9) (by decide) (by decide) k) ?_
          show GoesW _ _ _ _ _ _ _ _ (T.setTop (mkF m 104 #[.val (.int x0), .val (.int x1), .val (.int x2), .val (.int x3), .val (.int (x0 &&& (3 : Int32))), .val (.int (x3 &&& (255 : Int32))), .val (.int (x2 &&& (255 : Int32))), .val (.int (x1 &&& (7 : Int32))), .unset, .unset, .unset, .unset] []))
          refine GoesW.via (fun _ k => XS.iload X.here hx rfl (hb hby at_104) rfl k) ?_
          show GoesW _ _ _ _ _ _ _ _ (T.setTop (mkF m 106 #[.val (.int x0), .val (.int x1), .val (.int x2), .val (.int x3), .val (.int (x0 &&& (3 : Int32))), .val (.int (x3 &&& (255 : Int32))), .val (.int (x2 &&& (255 : Int32))), .val (.int (x1 &&& (7 : Int32))), .unset, .unset, .unset, .unset] [(.int (x1 &&& (7 : Int32)))]))
          refine GoesW.via (fun _ k => XT.iconstV X.here hx rfl (5 : Int32) (hb hby at_106) (by decide) k) ?_
          show GoesW _ _ _ _ _ _ _ _ (T.setTop (mkF m 107 #[.val (.int x0), .val (.int x1), .val (.int x2), .val (.int x3), .val (.int (x0 &&& (3 : Int32))), .val (.int (x3 &&& (255 : Int32))), .val (.int (x2 &&& (255 : Int32))), .val (.int (x1 &&& (7 : Int32))), .unset, .unset, .unset, .unset] [(.int (5 : Int32)), (.int (x1 &&& (7 : Int32)))]))
          by_cases cq15 : (x1 &&& (7 : Int32)) = (5 : Int32)
          · skip
            refine GoesW.via (fun _ k => XS.icmpNo X.here hx rfl (hb hby at_107) rfl (XT.ii_ne_f cq15) k) ?_
            show GoesW _ _ _ _ _ _ _ _ (T.setTop (mkF m 110 #[.val (.int x0), .val (.int x1), .val (.int x2), .val (.int x3), .val (.int (x0 &&& (3 : Int32))), .val (.int (x3 &&& (255 : Int32))), .val (.int (x2 &&& (255 : Int32))), .val (.int (x1 &&& (7 : Int32))), .unset, .unset, .unset, .unset] []))
            refine GoesW.via (fun _ k => XT.iconstV X.here hx rfl (1 : Int32) (hb hby at_110) (by decide) k) ?_
            show GoesW _ _ _ _ _ _ _ _ (T.setTop (mkF m 111 #[.val (.int x0), .val (.int x1), .val (.int x2), .val (.int x3), .val (.int (x0 &&& (3 : Int32))), .val (.int (x3 &&& (255 : Int32))), .val (.int (x2 &&& (255 : Int32))), .val (.int (x1 &&& (7 : Int32))), .unset, .unset, .unset, .unset] [(.int (1 : Int32))]))
            obtain ⟨Tq16, hq16, kq16, Xq16, eq16, Eq16, Aq16, stq16⟩ := newP (aty := .char) X hx hZ (W_4 hw) e0 (g := (mkF m 111 #[.val (.int x0), .val (.int x1), .val (.int x2), .val (.int x3), .val (.int (x0 &&& (3 : Int32))), .val (.int (x3 &&& (255 : Int32))), .val (.int (x2 &&& (255 : Int32))), .val (.int (x1 &&& (7 : Int32))), .unset, .unset, .unset, .unset] [(.int (1 : Int32))])) rfl (hb hby at_111) rfl (by decide) (cap := 1) (by decide) (by decide) (by decide) (by decide)
            obtain ⟨bq16, gq16⟩ : ∃ z, z = h0.size := ⟨_, rfl⟩
            rw [← gq16] at Aq16 stq16
            have zq16 := Eq16.1
            have Oq16 := O.ext Eq16
            have Cq16 := C0.trans (CHr.ext Eq16 C0.1)
            have Vq16 : Arv Z hq16 bq16 kq16 .char (1 : Int32) [(.int (0 : Int32))] (.int (0 : Int32)) := (Arv.new Aq16 (by decide)).pad (pad_rep [] (.int (0 : Int32)) 1)
            have lq16 := lt_nat Vq16.lt
            refine GoesW.via stq16 ?_
            show GoesW _ _ _ _ _ _ _ _ (Tq16.setTop (mkF m 113 #[.val (.int x0), .val (.int x1), .val (.int x2), .val (.int x3), .val (.int (x0 &&& (3 : Int32))), .val (.int (x3 &&& (255 : Int32))), .val (.int (x2 &&& (255 : Int32))), .val (.int (x1 &&& (7 : Int32))), .unset, .unset, .unset, .unset] [(.ref bq16)]))
            refine GoesW.via (fun _ k => XS.dup Xq16.here hx rfl (hb hby at_113) rfl rfl k) ?_
            show GoesW _ _ _ _ _ _ _ _ (Tq16.setTop (mkF m 114 #[.val (.int x0), .val (.int x1), .val (.int x2), .val (.int x3), .val (.int (x0 &&& (3 : Int32))), .val (.int (x3 &&& (255 : Int32))), .val (.int (x2 &&& (255 : Int32))), .val (.int (x1 &&& (7 : Int32))), .unset, .unset, .unset, .unset] [(.ref bq16), (.ref bq16)]))
            refine GoesW.via (fun _ k => XT.iconstV Xq16.here hx rfl (0 : Int32) (hb hby at_114) (by decide) k) ?_
            show GoesW _ _ _ _ _ _ _ _ (Tq16.setTop (mkF m 115 #[.val (.int x0), .val (.int x1), .val (.int x2), .val (.int x3), .val (.int (x0 &&& (3 : Int32))), .val (.int (x3 &&& (255 : Int32))), .val (.int (x2 &&& (255 : Int32))), .val (.int (x1 &&& (7 : Int32))), .unset, .unset, .unset, .unset] [(.int (0 : Int32)), (.ref bq16), (.ref bq16)]))
            refine GoesW.via (fun _ k => XS.iload Xq16.here hx rfl (hb hby at_115) rfl k) ?_
            show GoesW _ _ _ _ _ _ _ _ (Tq16.setTop (mkF m 117 #[.val (.int x0), .val (.int x1), .val (.int x2), .val (.int x3), .val (.int (x0 &&& (3 : Int32))), .val (.int (x3 &&& (255 : Int32))), .val (.int (x2 &&& (255 : Int32))), .val (.int (x1 &&& (7 : Int32))), .unset, .unset, .unset, .unset] [(.int (x3 &&& (255 : Int32))), (.int (0 : Int32)), (.ref bq16), (.ref bq16)]))
            obtain ⟨clq17, Arq17, qq17, Sq17, Nnq17, Hq17, Gq17⟩ := id Vq16
            have hinq17 : ¬ ((0 : Int32) < 0 ∨ clq17.slots.size ≤ ((0 : Int32)).toNatClampNeg) := inb_of Sq17 ⟨by decide, by decide⟩
            obtain ⟨Tq17, hq17, Xq17, eq17, Wq17, stq17⟩ := stC Xq16 hx hZ eq16 Arq17 (j := (0 : Int32)) hinq17 (g := (mkF m 117 #[.val (.int x0), .val (.int x1), .val (.int x2), .val (.int x3), .val (.int (x0 &&& (3 : Int32))), .val (.int (x3 &&& (255 : Int32))), .val (.int (x2 &&& (255 : Int32))), .val (.int (x1 &&& (7 : Int32))), .unset, .unset, .unset, .unset] [(.int (x3 &&& (255 : Int32))), (.int (0 : Int32)), (.ref bq16), (.ref bq16)])) rfl rfl (hb hby at_117)
            have Nq17 := Fr.snoc Xq17 N (by omega)
            have zq17 := Wq17.size
            have Oq17 := Oq16.wr Wq17 (by omega)
            have Cq17 := Cq16.trans (CHr.wr Wq17 (Safe.arvO hZ.alike Vq16 (by decide)) Cq16.1)
            have Vq17 : Arv Z hq17 bq16 kq16 .char (1 : Int32) [(.int (nar .char (x3 &&& (255 : Int32))))] (.int (0 : Int32)) := Arv.set Arq17 qq17 Sq17 Nnq17 Hq17 Gq17 (fits_nar_char _) Wq17 0 rfl (Nat.le_of_ble_eq_true rfl)
            refine GoesW.via stq17 ?_
            show GoesW _ _ _ _ _ _ _ _ (Tq17.setTop (mkF m 118 #[.val (.int x0), .val (.int x1), .val (.int x2), .val (.int x3), .val (.int (x0 &&& (3 : Int32))), .val (.int (x3 &&& (255 : Int32))), .val (.int (x2 &&& (255 : Int32))), .val (.int (x1 &&& (7 : Int32))), .unset, .unset, .unset, .unset] [(.ref bq16)]))
            refine GoesW.via (fun _ k => XS.astore Xq17.here hx rfl (hb hby at_118) rfl rfl (l' := #[.val (.int x0), .val (.int x1), .val (.int x2), .val (.int x3), .val (.int (x0 &&& (3 : Int32))), .val (.int (x3 &&& (255 : Int32))), .val (.int (x2 &&& (255 : Int32))), .val (.int (x1 &&& (7 : Int32))), .val (.ref bq16), .unset, .unset, .unset]) rfl k) ?_
            show GoesW _ _ _ _ _ _ _ _ (Tq17.setTop (mkF m 120 #[.val (.int x0), .val (.int x1), .val (.int x2), .val (.int x3), .val (.int (x0 &&& (3 : Int32))), .val (.int (x3 &&& (255 : Int32))), .val (.int (x2 &&& (255 : Int32))), .val (.int (x1 &&& (7 : Int32))), .val (.ref bq16), .unset, .unset, .unset] []))
            refine GoesW.via (fun _ k => XS.goto Xq17.here hx rfl (pc0 := 120) (pc' := 155) rfl (hb hby at_120) (by decide) (by decide) k) ?_
            show GoesW _ _ _ _ _ _ _ _ (Tq17.setTop (mkF m 155 #[.val (.int x0), .val (.int x1), .val (.int x2), .val (.int x3), .val (.int (x0 &&& (3 : Int32))), .val (.int (x3 &&& (255 : Int32))), .val (.int (x2 &&& (255 : Int32))), .val (.int (x1 &&& (7 : Int32))), .val (.ref bq16), .unset, .unset, .unset] []))
            have VRq18 : Arv Z hq17 bq16 kq16 .char (1 : Int32) (([(x3 &&& (255 : Int32))] : List Int32).map Value.int) (.int (0 : Int32)) := by
              have q := Vq17
              rw [narc_in (m255_in x3)] at q
              exact q
            exact seg155 l Z aw hw x0 x1 x2 x3 (x0 &&& (3 : Int32)) (x3 &&& (255 : Int32)) (x2 &&& (255 : Int32)) (x1 &&& (7 : Int32)) bq16 kq16 ([(x3 &&& (255 : Int32))]) 1 ar kz0 t0 t1 t2 t3 u0 y0 ky0 u1 y1 ky1 u2 y2 ky2 u3 y3 ky3 em cz hx hby hml hrt hlk hnm hZ hown Xq17 eq17 Nq17 (by decide) (by decide) Oq17 hS (by omega) Cq17 S0 V0 E0 S1 S2 S3 S4 E1 E2 E3 E4 F0 EU0 CU0 VU0 AU0 F1 EU1 CU1 VU1 AU1 F2 EU2 CU2 VU2 AU2 F3 EU3 CU3 VU3 AU3 CS SE EE FE VRq18 hcz ⟨by decide, by decide, rfl, (chS (m255_in _) ch0)⟩
          · skip
            refine GoesW.via (fun _ k => XS.icmpYes X.here hx rfl (pc0 := 107) (pc' := 123) rfl (hb hby at_107) rfl (XT.ii_ne_t cq15) (by decide) (by decide) k) ?_
            show GoesW _ _ _ _ _ _ _ _ (T.setTop (mkF m 123 #[.val (.int x0), .val (.int x1), .val (.int x2), .val (.int x3), .val (.int (x0 &&& (3 : Int32))), .val (.int (x3 &&& (255 : Int32))), .val (.int (x2 &&& (255 : Int32))), .val (.int (x1 &&& (7 : Int32))), .unset, .unset, .unset, .unset] []))
            refine GoesW.via (fun _ k => XS.iload X.here hx rfl (hb hby at_123) rfl k) ?_
            show GoesW _ _ _ _ _ _ _ _ (T.setTop (mkF m 125 #[.val (.int x0), .val (.int x1), .val (.int x2), .val (.int x3), .val (.int (x0 &&& (3 : Int32))), .val (.int (x3 &&& (255 : Int32))), .val (.int (x2 &&& (255 : Int32))), .val (.int (x1 &&& (7 : Int32))), .unset, .unset, .unset, .unset] [(.int (x1 &&& (7 : Int32)))]))
            refine GoesW.via (fun _ k => XT.bipushV X.here hx rfl (6 : Int32) (hb hby at_125) (by decide) k) ?_
            show GoesW _ _ _ _ _ _ _ _ (T.setTop (mkF m 127 #[.val (.int x0), .val (.int x1), .val (.int x2), .val (.int x3), .val (.int (x0 &&& (3 : Int32))), .val (.int (x3 &&& (255 : Int32))), .val (.int (x2 &&& (255 : Int32))), .val (.int (x1 &&& (7 : Int32))), .unset, .unset, .unset, .unset] [(.int (6 : Int32)), (.int (x1 &&& (7 : Int32)))]))
            by_cases cq19 : (x1 &&& (7 : Int32)) = (6 : Int32)
            · skip
              refine GoesW.via (fun _ k => XS.icmpNo X.here hx rfl (hb hby at_127) rfl (XT.ii_ne_f cq19) k) ?_
              show GoesW _ _ _ _ _ _ _ _ (T.setTop (mkF m 130 #[.val (.int x0), .val (.int x1), .val (.int x2), .val (.int x3), .val (.int (x0 &&& (3 : Int32))), .val (.int (x3 &&& (255 : Int32))), .val (.int (x2 &&& (255 : Int32))), .val (.int (x1 &&& (7 : Int32))), .unset, .unset, .unset, .unset] []))
              refine GoesW.via (fun _ k => XT.iconstV X.here hx rfl (2 : Int32) (hb hby at_130) (by decide) k) ?_
              show GoesW _ _ _ _ _ _ _ _ (T.setTop (mkF m 131 #[.val (.int x0), .val (.int x1), .val (.int x2), .val (.int x3), .val (.int (x0 &&& (3 : Int32))), .val (.int (x3 &&& (255 : Int32))), .val (.int (x2 &&& (255 : Int32))), .val (.int (x1 &&& (7 : Int32))), .unset, .unset, .unset, .unset] [(.int (2 : Int32))]))
              obtain ⟨Tq20, hq20, kq20, Xq20, eq20, Eq20, Aq20, stq20⟩ := newP (aty := .char) X hx hZ (W_4 hw) e0 (g := (mkF m 131 #[.val (.int x0), .val (.int x1), .val (.int x2), .val (.int x3), .val (.int (x0 &&& (3 : Int32))), .val (.int (x3 &&& (255 : Int32))), .val (.int (x2 &&& (255 : Int32))), .val (.int (x1 &&& (7 : Int32))), .unset, .unset, .unset, .unset] [(.int (2 : Int32))])) rfl (hb hby at_131) rfl (by decide) (cap := 2) (by decide) (by decide) (by decide) (by decide)
              obtain ⟨bq20, gq20⟩ : ∃ z, z = h0.size := ⟨_, rfl⟩
              rw [← gq20] at Aq20 stq20
              have zq20 := Eq20.1
              have Oq20 := O.ext Eq20
              have Cq20 := C0.trans (CHr.ext Eq20 C0.1)
              have Vq20 : Arv Z hq20 bq20 kq20 .char (2 : Int32) [(.int (0 : Int32)), (.int (0 : Int32))] (.int (0 : Int32)) := (Arv.new Aq20 (by decide)).pad (pad_rep [] (.int (0 : Int32)) 2)
              have lq20 := lt_nat Vq20.lt
              refine GoesW.via stq20 ?_
              show GoesW _ _ _ _ _ _ _ _ (Tq20.setTop (mkF m 133 #[.val (.int x0), .val (.int x1), .val (.int x2), .val (.int x3), .val (.int (x0 &&& (3 : Int32))), .val (.int (x3 &&& (255 : Int32))), .val (.int (x2 &&& (255 : Int32))), .val (.int (x1 &&& (7 : Int32))), .unset, .unset, .unset, .unset] [(.ref bq20)]))
              refine GoesW.via (fun _ k => XS.dup Xq20.here hx rfl (hb hby at_133) rfl rfl k) ?_
              show GoesW _ _ _ _ _ _ _ _ (Tq20.setTop (mkF m 134 #[.val (.int x0), .val (.int x1), .val (.int x2), .val (.int x3), .val (.int (x0 &&& (3 : Int32))), .val (.int (x3 &&& (255 : Int32))), .val (.int (x2 &&& (255 : Int32))), .val (.int (x1 &&& (7 : Int32))), .unset, .unset, .unset, .unset] [(.ref bq20), (.ref bq20)]))
              refine GoesW.via (fun _ k => XT.iconstV Xq20.here hx rfl (0 : Int32) (hb hby at_134) (by decide) k) ?_
              show GoesW _ _ _ _ _ _ _ _ (Tq20.setTop (mkF m 135 #[.val (.int x0), .val (.int x1), .val (.int x2), .val (.int x3), .val (.int (x0 &&& (3 : Int32))), .val (.int (x3 &&& (255 : Int32))), .val (.int (x2 &&& (255 : Int32))), .val (.int (x1 &&& (7 : Int32))), .unset, .unset, .unset, .unset] [(.int (0 : Int32)), (.ref bq20), (.ref bq20)]))
              refine GoesW.via (fun _ k => XS.iload Xq20.here hx rfl (hb hby at_135) rfl k) ?_
              show GoesW _ _ _ _ _ _ _ _ (Tq20.setTop (mkF m 137 #[.val (.int x0), .val (.int x1), .val (.int x2), .val (.int x3), .val (.int (x0 &&& (3 : Int32))), .val (.int (x3 &&& (255 : Int32))), .val (.int (x2 &&& (255 : Int32))), .val (.int (x1 &&& (7 : Int32))), .unset, .unset, .unset, .unset] [(.int (x3 &&& (255 : Int32))), (.int (0 : Int32)), (.ref bq20), (.ref bq20)]))
              obtain ⟨clq21, Arq21, qq21, Sq21, Nnq21, Hq21, Gq21⟩ := id Vq20
              have hinq21 : ¬ ((0 : Int32) < 0 ∨ clq21.slots.size ≤ ((0 : Int32)).toNatClampNeg) := inb_of Sq21 ⟨by decide, by decide⟩
              obtain ⟨Tq21, hq21, Xq21, eq21, Wq21, stq21⟩ := stC Xq20 hx hZ eq20 Arq21 (j := (0 : Int32)) hinq21 (g := (mkF m 137 #[.val (.int x0), .val (.int x1), .val (.int x2), .val (.int x3), .val (.int (x0 &&& (3 : Int32))), .val (.int (x3 &&& (255 : Int32))), .val (.int (x2 &&& (255 : Int32))), .val (.int (x1 &&& (7 : Int32))), .unset, .unset, .unset, .unset] [(.int (x3 &&& (255 : Int32))), (.int (0 : Int32)), (.ref bq20), (.ref bq20)])) rfl rfl (hb hby at_137)
              have Nq21 := Fr.snoc Xq21 N (by omega)
              have zq21 := Wq21.size
              have Oq21 := Oq20.wr Wq21 (by omega)
              have Cq21 := Cq20.trans (CHr.wr Wq21 (Safe.arvO hZ.alike Vq20 (by decide)) Cq20.1)
              have Vq21 : Arv Z hq21 bq20 kq20 .char (2 : Int32) [(.int (nar .char (x3 &&& (255 : Int32)))), (.int (0 : Int32))] (.int (0 : Int32)) := Arv.set Arq21 qq21 Sq21 Nnq21 Hq21 Gq21 (fits_nar_char _) Wq21 0 rfl (Nat.le_of_ble_eq_true rfl)
              refine GoesW.via stq21 ?_
              show GoesW _ _ _ _ _ _ _ _ (Tq21.setTop (mkF m 138 #[.val (.int x0), .val (.int x1), .val (.int x2), .val (.int x3), .val (.int (x0 &&& (3 : Int32))), .val (.int (x3 &&& (255 : Int32))), .val (.int (x2 &&& (255 : Int32))), .val (.int (x1 &&& (7 : Int32))), .unset, .unset, .unset, .unset] [(.ref bq20)]))
              refine GoesW.via (fun _ k => XS.dup Xq21.here hx rfl (hb hby at_138) rfl rfl k) ?_
              show GoesW _ _ _ _ _ _ _ _ (Tq21.setTop (mkF m 139 #[.val (.int x0), .val (.int x1), .val (.int x2), .val (.int x3), .val (.int (x0 &&& (3 : Int32))), .val (.int (x3 &&& (255 : Int32))), .val (.int (x2 &&& (255 : Int32))), .val (.int (x1 &&& (7 : Int32))), .unset, .unset, .unset, .unset] [(.ref bq20), (.ref bq20)]))
              refine GoesW.via (fun _ k => XT.iconstV Xq21.here hx rfl (1 : Int32) (hb hby at_139) (by decide) k) ?_
              show GoesW _ _ _ _ _ _ _ _ (Tq21.setTop (mkF m 140 #[.val (.int x0), .val (.int x1), .val (.int x2), .val (.int x3), .val (.int (x0 &&& (3 : Int32))), .val (.int (x3 &&& (255 : Int32))), .val (.int (x2 &&& (255 : Int32))), .val (.int (x1 &&& (7 : Int32))), .unset, .unset, .unset, .unset] [(.int (1 : Int32)), (.ref bq20), (.ref bq20)]))
              refine GoesW.via (fun _ k => XS.iload Xq21.here hx rfl (hb hby at_140) rfl k) ?_
              show GoesW _ _ _ _ _ _ _ _ (Tq21.setTop (mkF m 142 #[.val (.int x0), .val (.int x1), .val (.int x2), .val (.int x3), .val (.int (x0 &&& (3 : Int32))), .val (.int (x3 &&& (255 : Int32))), .val (.int (x2 &&& (255 : Int32))), .val (.int (x1 &&& (7 : Int32))), .unset, .unset, .unset, .unset] [(.int (x2 &&& (255 : Int32))), (.int (1 : Int32)), (.ref bq20), (.ref bq20)]))
              obtain ⟨clq22, Arq22, qq22, Sq22, Nnq22, Hq22, Gq22⟩ := id Vq21
              have hinq22 : ¬ ((1 : Int32) < 0 ∨ clq22.slots.size ≤ ((1 : Int32)).toNatClampNeg) := inb_of Sq22 ⟨by decide, by decide⟩
              obtain ⟨Tq22, hq22, Xq22, eq22, Wq22, stq22⟩ := stC Xq21 hx hZ eq21 Arq22 (j := (1 : Int32)) hinq22 (g := (mkF m 142 #[.val (.int x0), .val (.int x1), .val (.int x2), .val (.int x3), .val (.int (x0 &&& (3 : Int32))), .val (.int (x3 &&& (255 : Int32))), .val (.int (x2 &&& (255 : Int32))), .val (.int (x1 &&& (7 : Int32))), .unset, .unset, .unset, .unset] [(.int (x2 &&& (255 : Int32))), (.int (1 : Int32)), (.ref bq20), (.ref bq20)])) rfl rfl (hb hby at_142)
              have Nq22 := Fr.snoc Xq22 Nq21 (by omega)
              have zq22 := Wq22.size
              have Oq22 := Oq21.wr Wq22 (by omega)
              have Cq22 := Cq21.trans (CHr.wr Wq22 (Safe.arvO hZ.alike Vq21 (by decide)) Cq21.1)
              have Vq22 : Arv Z hq22 bq20 kq20 .char (2 : Int32) [(.int (nar .char (x3 &&& (255 : Int32)))), (.int (nar .char (x2 &&& (255 : Int32))))] (.int (0 : Int32)) := Arv.set Arq22 qq22 Sq22 Nnq22 Hq22 Gq22 (fits_nar_char _) Wq22 1 rfl (Nat.le_of_ble_eq_true rfl)
              refine GoesW.via stq22 ?_
              show GoesW _ _ _ _ _ _ _ _ (Tq22.setTop (mkF m 143 #[.val (.int x0), .val (.int x1), .val (.int x2), .val (.int x3), .val (.int (x0 &&& (3 : Int32))), .val (.int (x3 &&& (255 : Int32))), .val (.int (x2 &&& (255 : Int32))), .val (.int (x1 &&& (7 : Int32))), .unset, .unset, .unset, .unset] [(.ref bq20)]))
              refine GoesW.via (fun _ k => XS.astore Xq22.here hx rfl (hb hby at_143) rfl rfl (l' := #[.val (.int x0), .val (.int x1), .val (.int x2), .val (.int x3), .val (.int (x0 &&& (3 : Int32))), .val (.int (x3 &&& (255 : Int32))), .val (.int (x2 &&& (255 : Int32))), .val (.int (x1 &&& (7 : Int32))), .val (.ref bq20), .unset, .unset, .unset]) rfl k) ?_
              show GoesW _ _ _ _ _ _ _ _ (Tq22.setTop (mkF m 145 #[.val (.int x0), .val (.int x1), .val (.int x2), .val (.int x3), .val (.int (x0 &&& (3 : Int32))), .val (.int (x3 &&& (255 : Int32))), .val (.int (x2 &&& (255 : Int32))), .val (.int (x1 &&& (7 : Int32))), .val (.ref bq20), .unset, .unset, .unset] []))
              refine GoesW.via (fun _ k => XS.goto Xq22.here hx rfl (pc0 := 145) (pc' := 155) rfl (hb hby at_145) (by decide) (by decide) k) ?_
              show GoesW _ _ _ _ _ _ _ _ (Tq22.setTop (mkF m 155 #[.val (.int x0), .val (.int x1), .val (.int x2), .val (.int x3), .val (.int (x0 &&& (3 : Int32))), .val (.int (x3 &&& (255 : Int32))), .val (.int (x2 &&& (255 : Int32))), .val (.int (x1 &&& (7 : Int32))), .val (.ref bq20), .unset, .unset, .unset] []))
              have VRq23 : Arv Z hq22 bq20 kq20 .char (2 : Int32) (([(x3 &&& (255 : Int32)), (x2 &&& (255 : Int32))] : List Int32).map Value.int) (.int (0 : Int32)) := by
                have q := Vq22
                rw [narc_in (m255_in x3), narc_in (m255_in x2)] at q
                exact q
              exact seg155 l Z aw hw x0 x1 x2 x3 (x0 &&& (3 : Int32)) (x3 &&& (255 : Int32)) (x2 &&& (255 : Int32)) (x1 &&& (7 : Int32)) bq20 kq20 ([(x3 &&& (255 : Int32)), (x2 &&& (255 : Int32))]) 2 ar kz0 t0 t1 t2 t3 u0 y0 ky0 u1 y1 ky1 u2 y2 ky2 u3 y3 ky3 em cz hx hby hml hrt hlk hnm hZ hown Xq22 eq22 Nq22 (by decide) (by decide) Oq22 hS (by omega) Cq22 S0 V0 E0 S1 S2 S3 S4 E1 E2 E3 E4 F0 EU0 CU0 VU0 AU0 F1 EU1 CU1 VU1 AU1 F2 EU2 CU2 VU2 AU2 F3 EU3 CU3 VU3 AU3 CS SE EE FE VRq23 hcz ⟨by decide, by decide, rfl, (chS (m255_in _) (chS (m255_in _) ch0))⟩
            · skip
              refine GoesW.via (fun _ k => XS.icmpYes X.here hx rfl (pc0 := 127) (pc' := 148) rfl (hb hby at_127) rfl (XT.ii_ne_t cq19) (by decide) (by decide) k) ?_
              show GoesW _ _ _ _ _ _ _ _ (T.setTop (mkF m 148 #[.val (.int x0), .val (.int x1), .val (.int x2), .val (.int x3), .val (.int (x0 &&& (3 : Int32))), .val (.int (x3 &&& (255 : Int32))), .val (.int (x2 &&& (255 : Int32))), .val (.int (x1 &&& (7 : Int32))), .unset, .unset, .unset, .unset] []))
              refine GoesW.via (fun _ k => XS.iload X.here hx rfl (hb hby at_148) rfl k) ?_
              show GoesW _ _ _ _ _ _ _ _ (T.setTop (mkF m 150 #[.val (.int x0), .val (.int x1), .val (.int x2), .val (.int x3), .val (.int (x0 &&& (3 : Int32))), .val (.int (x3 &&& (255 : Int32))), .val (.int (x2 &&& (255 : Int32))), .val (.int (x1 &&& (7 : Int32))), .unset, .unset, .unset, .unset] [(.int (x0 &&& (3 : Int32)))]))
              obtain ⟨vq24, Tq24, Lq24, Xq24, qq24, nq24, stq24⟩ := callSt X hx hZ hown (baseC l Z aw hw (x0 &&& (3 : Int32)) O) (W_88 hw) (W_89 hw) (W_2 hw) (W_90 hw) (by decide) e0 (by decide) (W := 0) (by decide) (by decide) (by decide) (g := (mkF m 150 #[.val (.int x0), .val (.int x1), .val (.int x2), .val (.int x3), .val (.int (x0 &&& (3 : Int32))), .val (.int (x3 &&& (255 : Int32))), .val (.int (x2 &&& (255 : Int32))), .val (.int (x1 &&& (7 : Int32))), .unset, .unset, .unset, .unset] [(.int (x0 &&& (3 : Int32)))])) rfl (by rw [hml]; rfl) (argsL := [(.int (x0 &&& (3 : Int32)))]) (rest := []) rfl (lenOf pd_19 rfl) rfl (by show 2 * 0 + _ ≤ _; exact Nat.le_of_eq rfl) (hb hby at_150)
              obtain ⟨xr_q24, xkr_q24, xcs_q24, xnn_q24, rfl, pq24_0, pq24_1, pq24_2, pq24_3⟩ := qq24
              have Nq24 := Fr.app N nq24
              have zq24 := pq24_1.1
              have Oq24 := O.keep pq24_1 all0
              have Cq24 := C0.trans (CHr.keep pq24_1 all0 C0.1)
              have ltpq24_2 := lt_nat pq24_2.lt
              refine GoesW.via stq24 ?_
              show GoesW _ _ _ _ _ _ _ _ (Tq24.setTop (mkF m 153 #[.val (.int x0), .val (.int x1), .val (.int x2), .val (.int x3), .val (.int (x0 &&& (3 : Int32))), .val (.int (x3 &&& (255 : Int32))), .val (.int (x2 &&& (255 : Int32))), .val (.int (x1 &&& (7 : Int32))), .unset, .unset, .unset, .unset] [(.ref xr_q24)]))
              refine GoesW.via (fun _ k => XS.astore Xq24.here hx rfl (hb hby at_153) rfl rfl (l' := #[.val (.int x0), .val (.int x1), .val (.int x2), .val (.int x3), .val (.int (x0 &&& (3 : Int32))), .val (.int (x3 &&& (255 : Int32))), .val (.int (x2 &&& (255 : Int32))), .val (.int (x1 &&& (7 : Int32))), .val (.ref xr_q24), .unset, .unset, .unset]) rfl k) ?_
              show GoesW _ _ _ _ _ _ _ _ (Tq24.setTop (mkF m 155 #[.val (.int x0), .val (.int x1), .val (.int x2), .val (.int x3), .val (.int (x0 &&& (3 : Int32))), .val (.int (x3 &&& (255 : Int32))), .val (.int (x2 &&& (255 : Int32))), .val (.int (x1 &&& (7 : Int32))), .val (.ref xr_q24), .unset, .unset, .unset] []))
              exact seg155 l Z aw hw x0 x1 x2 x3 (x0 &&& (3 : Int32)) (x3 &&& (255 : Int32)) (x2 &&& (255 : Int32)) (x1 &&& (7 : Int32)) xr_q24 xkr_q24 xcs_q24 xnn_q24 ar kz0 t0 t1 t2 t3 u0 y0 ky0 u1 y1 ky1 u2 y2 ky2 u3 y3 ky3 em cz hx hby hml hrt hlk hnm hZ hown Xq24 rfl Nq24 (by decide) (by decide) Oq24 hS (by omega) Cq24 S0 V0 E0 S1 S2 S3 S4 E1 E2 E3 E4 F0 EU0 CU0 VU0 AU0 F1 EU1 CU1 VU1 AU1 F2 EU2 CU2 VU2 AU2 F3 EU3 CU3 VU3 AU3 CS SE EE FE pq24_2 hcz pq24_3
set_option maxRecDepth 65536 in
set_option maxHeartbeats 40000000 in
theorem comes_1 {Post : Tables → Env → Array Value → State → Outcome → State → Prop} (hpost : ∀ tb e args s v u, (limb_1_1.after args s (.returned v) u = true ∧ limb_1_2.after args s (.returned v) u = true ∧ True) → ReturnedEndW s (.returned v) u (Jvm.fieldLocs frame_1_writes args s ++ Jvm.arrayLocs frame_1_arrays args s ++ Jvm.staticLocs frame_1_statics s) 32 5312 → Post tb e args s (.returned v) u) :
    ArmFor flags0 classFile x code maxLocals ret World_1 tables_1 room_1 Calls_1 rest_1 Pre_1 Post := by
  intro l hfl _ _ p e ha hc hk s m args below hf hA hF happ hP
  obtain ⟨hcalls, hrest, hpre⟩ := hP
  obtain ⟨-, -, -, hnamed, -, -, -, hat⟩ := (Spec.applies_iff hf).mp happ
  obtain ⟨hg, hn⟩ := and_e (Cond.before_iff.mp (show (Jvm.Cond.and given_1 narrow_1).before args s = true from hpre))
  obtain ⟨hcnt, ha0⟩ := and_e hg
  obtain ⟨hk0, ha1⟩ := and_e ha0
  obtain ⟨hk1, ha2⟩ := and_e ha1
  obtain ⟨hk2, ha3⟩ := and_e ha2
  have hk3 := ha3
  obtain ⟨w0, w1, w2, w3, rfl⟩ : ∃ w0 w1 w2 w3 : Value, args = #[w0, w1, w2, w3] := by
    have hs : args.size = 4 := by simpa [Cond.value, given_1] using hcnt
    obtain ⟨L⟩ := args
    match L, hs with
    | [w0, w1, w2, w3], _ => exact ⟨w0, w1, w2, w3, rfl⟩
  have hw := fun d (hd : d ∈ tables_1) => atoms_spec (ws := Jvm.Cond.code x code maxLocals ret :: tables_1) hat d (List.mem_cons_of_mem _ hd)
  obtain ⟨hsets, hown0⟩ := atoms_of _ (rest_1_c_eq ▸ (show rest_1_c.before _ s = true from hrest))
  have hfit : Fit s := fun {y c} hc i hi => by
    obtain ⟨ha, rfl⟩ := Array.getElem?_eq_some_iff.mp hc
    have q := List.all_eq_true.mp ((Array.all_eq_true_iff_forall_mem.mp hF) _ (Array.getElem_mem ha)) i (List.mem_range.mpr hi)
    simpa [Array.getElem?_eq_getElem hi] using q
  obtain ⟨i0, ei0⟩ := is_v hk0
  obtain rfl : w0 = (.int i0) := Option.some.inj ei0
  obtain ⟨i1, ei1⟩ := is_v hk1
  obtain rfl : w1 = (.int i1) := Option.some.inj ei1
  obtain ⟨i2, ei2⟩ := is_v hk2
  obtain rfl : w2 = (.int i2) := Option.some.inj ei2
  obtain ⟨i3, ei3⟩ := is_v hk3
  obtain rfl : w3 = (.int i3) := Option.some.inj ei3
  obtain ⟨nr0, hn0⟩ := and_e hn
  obtain ⟨nr1, hn1⟩ := and_e hn0
  obtain ⟨nr2, hn2⟩ := and_e hn1
  obtain ⟨nr3, hn3⟩ := and_e hn2
  obtain ⟨nr4, hn4⟩ := and_e hn3
  obtain ⟨nr5, hn5⟩ := and_e hn4
  obtain ⟨nr6, hn6⟩ := and_e hn5
  obtain ⟨nr7, hn7⟩ := and_e hn6
  obtain ⟨nr8, hn8⟩ := and_e hn7
  obtain ⟨nr9, hn9⟩ := and_e hn8
  obtain ⟨nr10, hn10⟩ := and_e hn9
  obtain ⟨nr11, hn11⟩ := and_e hn10
  obtain ⟨nr12, hn12⟩ := and_e hn11
  obtain ⟨nr13, hn13⟩ := and_e hn12
  obtain ⟨nr14, hn14⟩ := and_e hn13
  obtain ⟨nr15, hn15⟩ := and_e hn14
  obtain ⟨nr16, hn16⟩ := and_e hn15
  obtain ⟨nr17, hn17⟩ := and_e hn16
  obtain ⟨nr18, hn18⟩ := and_e hn17
  obtain ⟨nr19, hn19⟩ := and_e hn18
  obtain ⟨nr20, hn20⟩ := and_e hn19
  obtain ⟨nr21, hn21⟩ := and_e hn20
  obtain ⟨nr22, hn22⟩ := and_e hn21
  obtain ⟨nr23, hn23⟩ := and_e hn22
  obtain ⟨nr24, hn24⟩ := and_e hn23
  obtain ⟨nr25, hn25⟩ := and_e hn24
  obtain ⟨nr26, hn26⟩ := and_e hn25
  obtain ⟨nr27, hn27⟩ := and_e hn26
  obtain ⟨nr28, hn28⟩ := and_e hn27
  obtain ⟨nr29, hn29⟩ := and_e hn28
  obtain ⟨nr30, hn30⟩ := and_e hn29
  obtain ⟨nr31, hn31⟩ := and_e hn30
  obtain ⟨nr32, hn32⟩ := and_e hn31
  obtain ⟨nr33, hn33⟩ := and_e hn32
  obtain ⟨nr34, hn34⟩ := and_e hn33
  obtain ⟨nr35, hn35⟩ := and_e hn34
  obtain ⟨nr36, hn36⟩ := and_e hn35
  obtain ⟨nr37, hn37⟩ := and_e hn36
  obtain ⟨nr38, hn38⟩ := and_e hn37
  obtain ⟨nr39, hn39⟩ := and_e hn38
  obtain ⟨nr40, hn40⟩ := and_e hn39
  obtain ⟨nr41, hn41⟩ := and_e hn40
  obtain ⟨nr42, hn42⟩ := and_e hn41
  obtain ⟨nr43, hn43⟩ := and_e hn42
  obtain ⟨nr44, hn44⟩ := and_e hn43
  obtain ⟨nr45, hn45⟩ := and_e hn44
  obtain ⟨nr46, hn46⟩ := and_e hn45
  obtain ⟨nr47, hn47⟩ := and_e hn46
  obtain ⟨nr48, hn48⟩ := and_e hn47
  obtain ⟨nr49, hn49⟩ := and_e hn48
  obtain ⟨nr50, hn50⟩ := and_e hn49
  obtain ⟨nr51, hn51⟩ := and_e hn50
  obtain ⟨nr52, hn52⟩ := and_e hn51
  have nr53 := hn52
  obtain ⟨cz, ecz⟩ := is_v (Cond.before_iff.mp (hsets _ (List.mem_of_getElem? (i := 1) rfl)))
  have CS := Sta.start ecz (Or.inl (hsets _ (List.mem_of_getElem? (i := 0) rfl)))
  have hcz : ¬ cz = (0 : Int32) := gotF (Cond.eq_ints ecz (Term.int_eval (0))) (not_v (Cond.before_iff.mp (hsets _ (List.mem_of_getElem? (i := 2) rfl))))
  obtain ⟨em, eem⟩ := exa_v (Cond.before_iff.mp (hsets _ (List.mem_of_getElem? (i := 11) rfl)))
  have SE := Sta.start eem (Or.inl (hsets _ (List.mem_of_getElem? (i := 10) rfl)))
  have EE := Exa.start eem (Cond.before_iff.mp (hsets _ (List.mem_of_getElem? (i := 11) rfl)))
  have FE := Fld.start ((fld_at eem).symm.trans (null_v (Cond.before_iff.mp (hsets _ (List.mem_of_getElem? (i := 12) rfl)))))
  obtain ⟨ar, ear⟩ := arr_v nr0
  have S0 := Sta.start ear (Or.inr ⟨(W_52 hw), (W_58 hw)⟩)
  have E0 := Exa.start ear nr1
  obtain ⟨c0, A0⟩ := Arr.start ear nr0
  obtain ⟨z1, z2⟩ := len_start ear A0 nr2
  obtain ⟨t0, et0⟩ := exa_v nr3
  have S1 := Sta.start et0 (Or.inr ⟨(W_52 hw), (W_66 hw)⟩)
  have E1 := Exa.start et0 nr3
  have el0 := (elem_in (eq_ref nr4 et0) ear rfl A0.1).2
  obtain ⟨u0, eu0⟩ := exa_v nr11
  have F0 := Fld.start ((fld_at et0).symm.trans eu0)
  have EU0 := Exa.start eu0 nr11
  have CU0 := Fld.start ((fld_at eu0).symm.trans (eq_int nr12))
  obtain ⟨y0, ey0⟩ := arr_v nr13
  have VU0 := Fld.start ((fld_at eu0).symm.trans ey0)
  obtain ⟨cy0, AY0⟩ := Arr.start ey0 nr13
  obtain ⟨w1_0, w2_0⟩ := len_start ey0 AY0 nr14
  have q0_0 := (elem_in (eq_int nr27) ey0 rfl AY0.1).2
  have q0_1 := (elem_in (eq_int nr28) ey0 rfl AY0.1).2
  have AU0 : Arv s s.heap y0 cy0.cls .byte (2 : Int32) [(.int (105 : Int32)), (.int (100 : Int32))] (.int (0 : Int32)) := Arv.start hfit AY0 w1_0 w2_0 (by decide) (by decide) ⟨q0_0, q0_1, trivial⟩
  obtain ⟨t1, et1⟩ := exa_v nr5
  have S2 := Sta.start et1 (Or.inr ⟨(W_52 hw), (W_67 hw)⟩)
  have E2 := Exa.start et1 nr5
  have el1 := (elem_in (eq_ref nr6 et1) ear rfl A0.1).2
  obtain ⟨u1, eu1⟩ := exa_v nr15
  have F1 := Fld.start ((fld_at et1).symm.trans eu1)
  have EU1 := Exa.start eu1 nr15
  have CU1 := Fld.start ((fld_at eu1).symm.trans (eq_int nr16))
  obtain ⟨y1, ey1⟩ := arr_v nr17
  have VU1 := Fld.start ((fld_at eu1).symm.trans ey1)
  obtain ⟨cy1, AY1⟩ := Arr.start ey1 nr17
  obtain ⟨w1_1, w2_1⟩ := len_start ey1 AY1 nr18
  have q1_0 := (elem_in (eq_int nr29) ey1 rfl AY1.1).2
  have q1_1 := (elem_in (eq_int nr30) ey1 rfl AY1.1).2
  have q1_2 := (elem_in (eq_int nr31) ey1 rfl AY1.1).2
  have q1_3 := (elem_in (eq_int nr32) ey1 rfl AY1.1).2
  have q1_4 := (elem_in (eq_int nr33) ey1 rfl AY1.1).2
  have q1_5 := (elem_in (eq_int nr34) ey1 rfl AY1.1).2
  have q1_6 := (elem_in (eq_int nr35) ey1 rfl AY1.1).2
  have AU1 : Arv s s.heap y1 cy1.cls .byte (7 : Int32) [(.int (118 : Int32)), (.int (101 : Int32)), (.int (114 : Int32)), (.int (115 : Int32)), (.int (105 : Int32)), (.int (111 : Int32)), (.int (110 : Int32))] (.int (0 : Int32)) := Arv.start hfit AY1 w1_1 w2_1 (by decide) (by decide) ⟨q1_0, q1_1, q1_2, q1_3, q1_4, q1_5, q1_6, trivial⟩
  obtain ⟨t2, et2⟩ := exa_v nr7
  have S3 := Sta.start et2 (Or.inr ⟨(W_52 hw), (W_68 hw)⟩)
  have E3 := Exa.start et2 nr7
  have el2 := (elem_in (eq_ref nr8 et2) ear rfl A0.1).2
  obtain ⟨u2, eu2⟩ := exa_v nr19
  have F2 := Fld.start ((fld_at et2).symm.trans eu2)
  have EU2 := Exa.start eu2 nr19
  have CU2 := Fld.start ((fld_at eu2).symm.trans (eq_int nr20))
  obtain ⟨y2, ey2⟩ := arr_v nr21
  have VU2 := Fld.start ((fld_at eu2).symm.trans ey2)
  obtain ⟨cy2, AY2⟩ := Arr.start ey2 nr21
  obtain ⟨w1_2, w2_2⟩ := len_start ey2 AY2 nr22
  have q2_0 := (elem_in (eq_int nr36) ey2 rfl AY2.1).2
  have q2_1 := (elem_in (eq_int nr37) ey2 rfl AY2.1).2
  have q2_2 := (elem_in (eq_int nr38) ey2 rfl AY2.1).2
  have q2_3 := (elem_in (eq_int nr39) ey2 rfl AY2.1).2
  have q2_4 := (elem_in (eq_int nr40) ey2 rfl AY2.1).2
  have q2_5 := (elem_in (eq_int nr41) ey2 rfl AY2.1).2
  have q2_6 := (elem_in (eq_int nr42) ey2 rfl AY2.1).2
  have q2_7 := (elem_in (eq_int nr43) ey2 rfl AY2.1).2
  have q2_8 := (elem_in (eq_int nr44) ey2 rfl AY2.1).2
  have AU2 : Arv s s.heap y2 cy2.cls .byte (9 : Int32) [(.int (99 : Int32)), (.int (114 : Int32)), (.int (101 : Int32)), (.int (97 : Int32)), (.int (116 : Int32)), (.int (101 : Int32)), (.int (100 : Int32)), (.int (65 : Int32)), (.int (116 : Int32))] (.int (0 : Int32)) := Arv.start hfit AY2 w1_2 w2_2 (by decide) (by decide) ⟨q2_0, q2_1, q2_2, q2_3, q2_4, q2_5, q2_6, q2_7, q2_8, trivial⟩
  obtain ⟨t3, et3⟩ := exa_v nr9
  have S4 := Sta.start et3 (Or.inr ⟨(W_52 hw), (W_69 hw)⟩)
  have E4 := Exa.start et3 nr9
  have el3 := (elem_in (eq_ref nr10 et3) ear rfl A0.1).2
  obtain ⟨u3, eu3⟩ := exa_v nr23
  have F3 := Fld.start ((fld_at et3).symm.trans eu3)
  have EU3 := Exa.start eu3 nr23
  have CU3 := Fld.start ((fld_at eu3).symm.trans (eq_int nr24))
  obtain ⟨y3, ey3⟩ := arr_v nr25
  have VU3 := Fld.start ((fld_at eu3).symm.trans ey3)
  obtain ⟨cy3, AY3⟩ := Arr.start ey3 nr25
  obtain ⟨w1_3, w2_3⟩ := len_start ey3 AY3 nr26
  have q3_0 := (elem_in (eq_int nr45) ey3 rfl AY3.1).2
  have q3_1 := (elem_in (eq_int nr46) ey3 rfl AY3.1).2
  have q3_2 := (elem_in (eq_int nr47) ey3 rfl AY3.1).2
  have q3_3 := (elem_in (eq_int nr48) ey3 rfl AY3.1).2
  have q3_4 := (elem_in (eq_int nr49) ey3 rfl AY3.1).2
  have q3_5 := (elem_in (eq_int nr50) ey3 rfl AY3.1).2
  have q3_6 := (elem_in (eq_int nr51) ey3 rfl AY3.1).2
  have q3_7 := (elem_in (eq_int nr52) ey3 rfl AY3.1).2
  have q3_8 := (elem_in (eq_int nr53) ey3 rfl AY3.1).2
  have AU3 : Arv s s.heap y3 cy3.cls .byte (9 : Int32) [(.int (117 : Int32)), (.int (112 : Int32)), (.int (100 : Int32)), (.int (97 : Int32)), (.int (116 : Int32)), (.int (101 : Int32)), (.int (100 : Int32)), (.int (65 : Int32)), (.int (116 : Int32))] (.int (0 : Int32)) := Arv.start hfit AY3 w1_3 w2_3 (by decide) (by decide) ⟨q3_0, q3_1, q3_2, q3_3, q3_4, q3_5, q3_6, q3_7, q3_8, trivial⟩
  have V0 : Arv s s.heap ar c0.cls (.object "com/example/dispatch_note/dispatchnote/contract/ManagedMember") (4 : Int32) [(.ref t0), (.ref t1), (.ref t2), (.ref t3)] .null := Arv.start hfit A0 z1 z2 (by decide) rfl ⟨el0, el1, el2, el3, trivial⟩
  have hch : CHv s EL s.vm s.heap := CHv.start (ew hw) hcalls.1 (hsets _ (List.mem_of_getElem? (i := 2) rfl)) (W_23 hw) (W_6 hw)
  obtain ⟨n, o, h1, h2, h3, _, L, rfl, ⟨⟨rfl, -⟩, N⟩, hq⟩ := law l s _ hw i0 i1 i2 i3 ar c0.cls t0 t1 t2 t3 u0 y0 cy0.cls u1 y1 cy1.cls u2 y2 cy2.cls u3 y3 cy3.cls em cz (Old.start s) S0 V0 E0 S1 S2 S3 S4 E1 E2 E3 E4 F0 EU0 CU0 VU0 AU0 F1 EU1 CU1 VU1 AU1 F2 EU2 CU2 VU2 AU2 F3 EU3 CU3 VU3 AU3 CS SE EE FE hcz tables_1 p e ha hc hk s m _ below hf ((Spec.applies_iff_loose hf).mp happ).1 ⟨rfl, State.Warmed39.refl s, rfl, hch, fun _ q => nomatch q⟩ trivial
  refine ⟨n, _, h1, h2, h3, hpost _ _ _ _ _ _ ⟨Cond.after_iff.mpr rfl, Cond.after_iff.mpr (eq_i res_at (Term.int_eval (1)) rfl), trivial⟩ ⟨hq.1, hq.2.1, hq.2.2.1, (hq.2.2.2.sift fun y hy => Or.inr (N y hy)).mono (by decide) (by decide)⟩⟩
theorem main_1_1 : Claimed_1_1 := comes_1 fun _ _ _ _ _ _ h hF => ⟨h.1, hF⟩
theorem main_1_2 : Claimed_1_2 := comes_1 fun _ _ _ _ _ _ h hF => ⟨h.2.1, hF⟩

end Jvm.Pilot.@@N@@
namespace Jvm.Pilot.@@N@@
open Jvm Jvm.ClassFile Sem Op Lib Jvm.Free Jvm.Stand Jvm.Pilot.@@N@@.Jvm.D
/-! MADE BY PROGRAM (witnessworld.py) out of the Statement's table words and the real class files: 24 classes; the members and pool entries that the words name. The judged class is class 1, her method 1. -/
namespace start1
open Jvm.ClassFile
def u (s : String) : CpInfo := .utf8 (stringToUtf16 s)
/-- a pool by its gaps: so many unusable entries, then the entry; so many at the end -/
def gap : Nat → List CpInfo → List CpInfo
  | 0, r => r
  | n + 1, r => .unusable :: gap n r
def poolList (es : List (Nat × CpInfo)) (last : Nat) : List CpInfo := es.foldr (fun e r => gap e.1 (e.2 :: r)) (gap last [])
def pool (es : List (Nat × CpInfo)) (last : Nat) : Array CpInfo := ⟨poolList es last⟩
def fileOf (pool : Array CpInfo) (this : Nat) (attrs : Array Attribute := #[]) (ms : Array MethodInfo := #[]) (fl : Nat := 33) (sup : Nat := 0) (ifs : Array Nat := #[]) (fds : Array FieldInfo := #[]) : ClassFile where
  minorVersion := 0
  majorVersion := 65
  constantPool := pool
  accessFlags := fl
  thisClass := this
  superClass := sup
  interfaces := ifs
  fields := fds
  methods := ms
  attributes := attrs
def plain (name : String) (sup : Option ClassId) : Class where
  name := name
  kind := .ordinary
  loader := none
  accessFlags := 33
  super := sup
  interfaces := #[]
  cf := none
  fields := #[]
  methods := #[]
  instanceTypes := #[]
  staticTypes := #[]
  resolved := #[]
  callSites := []
  init := .initialized
  statics := none
  mirror := none

def pool0 : Array CpInfo := pool [(5, u "<init>"), (0, u "()V"), (1, .class_ 10), (1, u "java/lang/Object"), (85, u "clone"), (0, u "()Ljava/lang/Object;")] 26

def k0c0 : Code := { maxStack := 0, maxLocals := 1, code := object_method_1_code, exceptionTable := #[], attributes := #[] }
def k0m0 : Method := { name := "<init>", desc := "()V", sig := { parameters := [], returnType := none }, accessFlags := 1, code := some k0c0 }
def k0m1 : Method := { name := "clone", desc := "()Ljava/lang/Object;", sig := { parameters := [], returnType := some (.object "java/lang/Object") }, accessFlags := 260, code := none }
/-- java/lang/Object -/
def k0 : Class := { plain "java/lang/Object" none with
  accessFlags := 33
  interfaces := #[]
  cf := some (fileOf pool0 8 #[] #[{ accessFlags := 1, nameIndex := 5, descriptorIndex := 6, attributes := #[] }, { accessFlags := 260, nameIndex := 96, descriptorIndex := 97, attributes := #[] }] 33 0 #[] #[])
  fields := #[]
  methods := #[k0m0, k0m1]
  instanceTypes := #[]
  staticTypes := #[]
  resolved := Array.replicate 124 none
  statics := none }

def pool1 : Array CpInfo := pool [(2, .class_ 4), (1, u "java/lang/Object"), (0, u "<init>"), (0, u "()V"), (0, .methodref 8 9), (0, .class_ 10), (0, .nameAndType 11 12), (0, u "com/example/dispatch_note/dispatchnote/contract/ManagedMemberNamedPinLaw"), (0, u "base"), (0, u "(I)[C"), (0, .integer 2147483647), (0, .methodref 8 15), (0, .nameAndType 16 12), (0, u "truncated"), (0, .methodref 8 18), (0, .nameAndType 19 20), (0, u "appended"), (0, u "(IC)[C"), (0, .class_ 22), (0, u "java/lang/String"), (0, .methodref 21 24), (0, .nameAndType 5 25), (0, u "([C)V"), (0, .string 27), (0, u "id"), (0, .methodref 21 29), (0, .nameAndType 30 31), (0, u "equals"), (0, u "(Ljava/lang/Object;)Z"), (0, .fieldref 33 34), (0, .class_ 35), (0, .nameAndType 36 37), (0, u "com/example/dispatch_note/dispatchnote/contract/ManagedMember"), (0, u "ID"), (0, u "Lcom/example/dispatch_note/dispatchnote/contract/ManagedMember;"), (0, .string 39), (0, u "version"), (0, .fieldref 33 41), (0, .nameAndType 42 37), (0, u "VERSION"), (0, .string 44), (0, u "createdAt"), (0, .fieldref 33 46), (0, .nameAndType 47 37), (0, u "CREATED_AT"), (0, .string 49), (0, u "updatedAt"), (0, .fieldref 33 51), (0, .nameAndType 52 37), (0, u "UPDATED_AT"), (0, .methodref 33 54), (0, .nameAndType 55 56), (0, u "named"), (0, u "(Ljava/lang/String;)Ljava/util/Optional;"), (0, .methodref 58 59), (0, .class_ 60), (0, .nameAndType 61 62), (0, u "java/util/Optional"), (0, u "orElse"), (0, u "(Ljava/lang/Object;)Ljava/lang/Object;"), (2, u "law"), (0, u "(IIII)Z")] 5

def k1m0 : Method := { name := "<init>", desc := "()V", sig := { parameters := [], returnType := none }, accessFlags := 1, code := none }
def k1c1 : Code := { maxStack := 4, maxLocals := 12, code := code, exceptionTable := #[], attributes := #[] }
def k1m1 : Method := { name := "law", desc := "(IIII)Z", sig := { parameters := [.int, .int, .int, .int], returnType := some .boolean }, accessFlags := 9, code := some k1c1 }
def k1c2 : Code := { maxStack := 4, maxLocals := 1, code := method_3_code, exceptionTable := #[], attributes := #[] }
def k1m2 : Method := { name := "base", desc := "(I)[C", sig := { parameters := [.int], returnType := some (.array .char) }, accessFlags := 10, code := some k1c2 }
def k1c3 : Code := { maxStack := 4, maxLocals := 1, code := method_4_code, exceptionTable := #[], attributes := #[] }
def k1m3 : Method := { name := "truncated", desc := "(I)[C", sig := { parameters := [.int], returnType := some (.array .char) }, accessFlags := 10, code := some k1c3 }
def k1c4 : Code := { maxStack := 4, maxLocals := 2, code := method_5_code, exceptionTable := #[], attributes := #[] }
def k1m4 : Method := { name := "appended", desc := "(IC)[C", sig := { parameters := [.int, .char], returnType := some (.array .char) }, accessFlags := 10, code := some k1c4 }
/-- com/example/dispatch_note/dispatchnote/contract/ManagedMemberNamedPinLaw -/
def k1 : Class := { plain "com/example/dispatch_note/dispatchnote/contract/ManagedMemberNamedPinLaw" (some 0) with
  accessFlags := 49
  interfaces := #[]
  cf := some (fileOf pool1 8 #[] #[{ accessFlags := 1, nameIndex := 5, descriptorIndex := 6, attributes := #[] }, { accessFlags := 9, nameIndex := 65, descriptorIndex := 66, attributes := #[] }, { accessFlags := 10, nameIndex := 11, descriptorIndex := 12, attributes := #[] }, { accessFlags := 10, nameIndex := 16, descriptorIndex := 12, attributes := #[] }, { accessFlags := 10, nameIndex := 19, descriptorIndex := 20, attributes := #[] }] 49 2 #[] #[])
  fields := #[]
  methods := #[k1m0, k1m1, k1m2, k1m3, k1m4]
  instanceTypes := #[]
  staticTypes := #[]
  resolved := Array.replicate 72 none
  statics := none }

def pool2 : Array CpInfo := pool [(1, .class_ 2), (0, u "java/io/Serializable"), (0, .class_ 4), (0, u "java/lang/Object")] 2

/-- java/io/Serializable -/
def k2 : Class := { plain "java/io/Serializable" (some 0) with
  accessFlags := 1537
  interfaces := #[]
  cf := some (fileOf pool2 1 #[] #[] 1537 3 #[] #[])
  fields := #[]
  methods := #[]
  instanceTypes := #[]
  staticTypes := #[]
  resolved := Array.replicate 7 none
  statics := none }

def pool3 : Array CpInfo := pool [(1, .class_ 2), (0, u "java/lang/Comparable"), (0, .class_ 4), (0, u "java/lang/Object")] 7

/-- java/lang/Comparable -/
def k3 : Class := { plain "java/lang/Comparable" (some 0) with
  accessFlags := 1537
  interfaces := #[]
  cf := some (fileOf pool3 1 #[] #[] 1537 3 #[] #[])
  fields := #[]
  methods := #[]
  instanceTypes := #[]
  staticTypes := #[]
  resolved := Array.replicate 12 none
  statics := none }

def pool4 : Array CpInfo := pool [(2, .class_ 4), (1, u "java/lang/CharSequence"), (42, .class_ 48), (0, u "java/lang/CharSequence$1CodePointIterator"), (10, .class_ 60), (0, u "java/lang/CharSequence$1CharIterator"), (5, .class_ 67), (0, u "java/lang/Object")] 63

/-- java/lang/CharSequence -/
def k4 : Class := { plain "java/lang/CharSequence" (some 0) with
  accessFlags := 1537
  interfaces := #[]
  cf := some (fileOf pool4 2 #[.nestMembers #[47, 59]] #[] 1537 66 #[] #[])
  fields := #[]
  methods := #[]
  instanceTypes := #[]
  staticTypes := #[]
  resolved := Array.replicate 131 none
  statics := none }

def pool5 : Array CpInfo := pool [(1, .class_ 2), (0, u "java/lang/constant/Constable"), (0, .class_ 4), (0, u "java/lang/Object")] 6

/-- java/lang/constant/Constable -/
def k5 : Class := { plain "java/lang/constant/Constable" (some 0) with
  accessFlags := 1537
  interfaces := #[]
  cf := some (fileOf pool5 1 #[] #[] 1537 3 #[] #[])
  fields := #[]
  methods := #[]
  instanceTypes := #[]
  staticTypes := #[]
  resolved := Array.replicate 11 none
  statics := none }

def pool6 : Array CpInfo := pool [(1, .class_ 2), (0, u "java/lang/constant/ConstantDesc"), (0, .class_ 4), (0, u "java/lang/Object")] 32

/-- java/lang/constant/ConstantDesc -/
def k6 : Class := { plain "java/lang/constant/ConstantDesc" (some 0) with
  accessFlags := 1537
  interfaces := #[]
  cf := some (fileOf pool6 1 #[] #[] 1537 3 #[] #[])
  fields := #[]
  methods := #[]
  instanceTypes := #[]
  staticTypes := #[]
  resolved := Array.replicate 37 none
  statics := none }

def pool7 : Array CpInfo := pool [(1, .methodref 2 3), (0, .class_ 4), (0, .nameAndType 5 6), (0, u "java/lang/Object"), (0, u "<init>"), (0, u "()V"), (0, .string 8), (0, u ""), (0, .fieldref 10 11), (0, .class_ 12), (0, .nameAndType 13 14), (0, u "java/lang/String"), (0, u "value"), (0, u "[B"), (0, .fieldref 10 16), (0, .nameAndType 17 18), (0, u "coder"), (0, u "B"), (2, u "hash"), (0, u "I"), (2, u "hashIsZero"), (0, u "Z"), (0, .methodref 10 28), (0, .nameAndType 5 29), (0, u "([CIILjava/lang/Void;)V"), (8, .fieldref 10 39), (0, .nameAndType 40 26), (0, u "COMPACT_STRINGS"), (1, .class_ 44), (1, u "java/lang/StringUTF16"), (0, u "compress"), (1, .methodref 42 48), (0, .nameAndType 49 50), (0, u "coderFromArrayLen"), (0, u "([BI)B"), (56, .class_ 109), (1, u "java/lang/StringLatin1"), (67, .methodref 42 178), (0, .nameAndType 45 179), (0, u "([CII)[B"), (361, .methodref 107 542), (0, .nameAndType 543 544), (0, u "equals"), (0, u "([B[B)Z"), (28, u "(Ljava/lang/Object;)Z"), (1, .class_ 576), (0, u "java/lang/CharSequence"), (22, u "CASE_INSENSITIVE_ORDER"), (0, u "Ljava/util/Comparator;"), (409, u "([C)V"), (90, u "serialPersistentFields"), (0, u "[Ljava/io/ObjectStreamField;"), (0, .class_ 1104), (0, u "java/lang/String$CaseInsensitiveComparator"), (1, .class_ 1107), (0, u "java/io/Serializable"), (0, .class_ 1109), (0, u "java/lang/Comparable"), (0, .class_ 1111), (0, u "java/lang/constant/Constable"), (0, .class_ 1113), (0, u "java/lang/constant/ConstantDesc"), (2, u "serialVersionUID"), (0, u "J"), (3, u "REPL"), (0, u "C"), (2, u "LATIN1"), (1, u "UTF16")] 323

def k7m0 : Method := { name := "<init>", desc := "()V", sig := { parameters := [], returnType := none }, accessFlags := 1, code := none }
def k7c1 : Code := { maxStack := 5, maxLocals := 2, code := jdk_42_method_3_code, exceptionTable := #[], attributes := #[] }
def k7m1 : Method := { name := "<init>", desc := "([C)V", sig := { parameters := [(.array .char)], returnType := none }, accessFlags := 1, code := some k7c1 }
def k7c2 : Code := { maxStack := 2, maxLocals := 3, code := jdk_42_method_66_code, exceptionTable := #[], attributes := #[] }
def k7m2 : Method := { name := "equals", desc := "(Ljava/lang/Object;)Z", sig := { parameters := [(.object "java/lang/Object")], returnType := some .boolean }, accessFlags := 1, code := some k7c2 }
def k7c3 : Code := { maxStack := 4, maxLocals := 6, code := jdk_42_method_149_code, exceptionTable := #[], attributes := #[] }
def k7m3 : Method := { name := "<init>", desc := "([CIILjava/lang/Void;)V", sig := { parameters := [(.array .char), .int, .int, (.object "java/lang/Void")], returnType := none }, accessFlags := 2, code := some k7c3 }
/-- java/lang/String -/
def k7 : Class := { plain "java/lang/String" (some 0) with
  accessFlags := 49
  interfaces := #[2, 3, 4, 5, 6]
  cf := some (fileOf pool7 10 #[.nestMembers #[1103]] #[{ accessFlags := 1, nameIndex := 5, descriptorIndex := 6, attributes := #[] }, { accessFlags := 1, nameIndex := 5, descriptorIndex := 1010, attributes := #[] }, { accessFlags := 1, nameIndex := 543, descriptorIndex := 573, attributes := #[] }, { accessFlags := 2, nameIndex := 5, descriptorIndex := 29, attributes := #[] }] 49 2 #[1106, 1108, 575, 1110, 1112] #[{ accessFlags := 18, nameIndex := 13, descriptorIndex := 14, attributes := #[] }, { accessFlags := 18, nameIndex := 17, descriptorIndex := 18, attributes := #[] }, { accessFlags := 2, nameIndex := 21, descriptorIndex := 22, attributes := #[] }, { accessFlags := 2, nameIndex := 25, descriptorIndex := 26, attributes := #[] }, { accessFlags := 26, nameIndex := 1116, descriptorIndex := 1117, attributes := #[] }, { accessFlags := 24, nameIndex := 40, descriptorIndex := 26, attributes := #[] }, { accessFlags := 26, nameIndex := 1101, descriptorIndex := 1102, attributes := #[] }, { accessFlags := 26, nameIndex := 1121, descriptorIndex := 1122, attributes := #[] }, { accessFlags := 25, nameIndex := 599, descriptorIndex := 600, attributes := #[] }, { accessFlags := 24, nameIndex := 1125, descriptorIndex := 18, attributes := #[] }, { accessFlags := 24, nameIndex := 1127, descriptorIndex := 18, attributes := #[] }])
  fields := #[{ name := "value", type := (.array .byte), accessFlags := 18, slot := 0, constantValue := 0 }, { name := "coder", type := .byte, accessFlags := 18, slot := 1, constantValue := 0 }, { name := "hash", type := .int, accessFlags := 2, slot := 2, constantValue := 0 }, { name := "hashIsZero", type := .boolean, accessFlags := 2, slot := 3, constantValue := 0 }, { name := "serialVersionUID", type := .long, accessFlags := 26, slot := 0, constantValue := 0 }, { name := "COMPACT_STRINGS", type := .boolean, accessFlags := 24, slot := 1, constantValue := 0 }, { name := "serialPersistentFields", type := (.array (.object "java/io/ObjectStreamField")), accessFlags := 26, slot := 2, constantValue := 0 }, { name := "REPL", type := .char, accessFlags := 26, slot := 3, constantValue := 0 }, { name := "CASE_INSENSITIVE_ORDER", type := (.object "java/util/Comparator"), accessFlags := 25, slot := 4, constantValue := 0 }, { name := "LATIN1", type := .byte, accessFlags := 24, slot := 5, constantValue := 0 }, { name := "UTF16", type := .byte, accessFlags := 24, slot := 6, constantValue := 0 }]
  methods := #[k7m0, k7m1, k7m2, k7m3]
  instanceTypes := #[(.array .byte), .byte, .int, .boolean]
  staticTypes := #[.long, .boolean, (.array (.object "java/io/ObjectStreamField")), .char, (.object "java/util/Comparator"), .byte, .byte]
  resolved := Array.replicate 1451 none
  statics := some 0 }

def pool8 : Array CpInfo := pool [(6, .class_ 8), (1, u "java/lang/Object"), (0, u "<init>"), (0, u "()V"), (1, .class_ 14), (1, u "java/lang/StringUTF16"), (31, u "$assertionsDisabled"), (0, u "Z"), (13, u "HI_BYTE_SHIFT"), (0, u "I"), (2, u "LO_BYTE_SHIFT"), (49, .methodref 12 116), (0, .nameAndType 117 118), (0, u "compress"), (0, u "([CI[BII)I"), (3, u "([CII)[B"), (138, u "coderFromArrayLen"), (0, u "([BI)B"), (106, .class_ 371), (1, u "java/lang/StringUTF16$LinesSpliterator"), (58, u "MAX_LENGTH"), (196, .class_ 628), (0, u "java/lang/StringUTF16$CodePointsSpliterator"), (0, .class_ 630), (0, u "java/lang/StringUTF16$CharsSpliterator")] 4

def k8m0 : Method := { name := "<init>", desc := "()V", sig := { parameters := [], returnType := none }, accessFlags := 0, code := none }
def k8c1 : Code := { maxStack := 2, maxLocals := 2, code := jdk_52_method_15_code, exceptionTable := #[], attributes := #[] }
def k8m1 : Method := { name := "coderFromArrayLen", desc := "([BI)B", sig := { parameters := [(.array .byte), .int], returnType := some .byte }, accessFlags := 8, code := some k8c1 }
def k8c2 : Code := { maxStack := 5, maxLocals := 6, code := jdk_52_method_16_code, exceptionTable := #[], attributes := #[] }
def k8m2 : Method := { name := "compress", desc := "([CII)[B", sig := { parameters := [(.array .char), .int, .int], returnType := some (.array .byte) }, accessFlags := 9, code := some k8c2 }
def k8c3 : Code := { maxStack := 3, maxLocals := 7, code := jdk_52_method_21_code, exceptionTable := #[], attributes := #[] }
def k8m3 : Method := { name := "compress", desc := "([CI[BII)I", sig := { parameters := [(.array .char), .int, (.array .byte), .int, .int], returnType := some .int }, accessFlags := 9, code := some k8c3 }
/-- java/lang/StringUTF16 -/
def k8 : Class := { plain "java/lang/StringUTF16" (some 0) with
  accessFlags := 48
  interfaces := #[]
  cf := some (fileOf pool8 12 #[.nestMembers #[627, 629, 369]] #[{ accessFlags := 0, nameIndex := 9, descriptorIndex := 10, attributes := #[] }, { accessFlags := 8, nameIndex := 261, descriptorIndex := 262, attributes := #[] }, { accessFlags := 9, nameIndex := 117, descriptorIndex := 122, attributes := #[] }, { accessFlags := 9, nameIndex := 117, descriptorIndex := 118, attributes := #[] }] 48 6 #[] #[{ accessFlags := 26, nameIndex := 61, descriptorIndex := 62, attributes := #[] }, { accessFlags := 26, nameIndex := 65, descriptorIndex := 62, attributes := #[] }, { accessFlags := 24, nameIndex := 430, descriptorIndex := 62, attributes := #[] }, { accessFlags := 4120, nameIndex := 46, descriptorIndex := 47, attributes := #[] }])
  fields := #[{ name := "HI_BYTE_SHIFT", type := .int, accessFlags := 26, slot := 0, constantValue := 0 }, { name := "LO_BYTE_SHIFT", type := .int, accessFlags := 26, slot := 1, constantValue := 0 }, { name := "MAX_LENGTH", type := .int, accessFlags := 24, slot := 2, constantValue := 0 }, { name := "$assertionsDisabled", type := .boolean, accessFlags := 4120, slot := 3, constantValue := 0 }]
  methods := #[k8m0, k8m1, k8m2, k8m3]
  instanceTypes := #[]
  staticTypes := #[.int, .int, .int, .boolean]
  resolved := Array.replicate 635 none
  statics := none }

def pool9 : Array CpInfo := pool [(4, .class_ 6), (1, u "java/lang/Object"), (0, u "<init>"), (0, u "()V"), (5, .class_ 16), (1, u "java/lang/StringLatin1"), (104, u "$assertionsDisabled"), (0, u "Z"), (98, .class_ 223), (1, u "java/lang/StringLatin1$LinesSpliterator"), (57, u "equals"), (0, u "([B[B)Z"), (107, .class_ 391), (0, u "java/lang/StringLatin1$CharsSpliterator")] 3

def k9m0 : Method := { name := "<init>", desc := "()V", sig := { parameters := [], returnType := none }, accessFlags := 0, code := none }
def k9c1 : Code := { maxStack := 3, maxLocals := 3, code := jdk_43_method_13_code, exceptionTable := #[], attributes := #[] }
def k9m1 : Method := { name := "equals", desc := "([B[B)Z", sig := { parameters := [(.array .byte), (.array .byte)], returnType := some .boolean }, accessFlags := 9, code := some k9c1 }
/-- java/lang/StringLatin1 -/
def k9 : Class := { plain "java/lang/StringLatin1" (some 0) with
  accessFlags := 48
  interfaces := #[]
  cf := some (fileOf pool9 14 #[.nestMembers #[390, 221]] #[{ accessFlags := 0, nameIndex := 7, descriptorIndex := 8, attributes := #[] }, { accessFlags := 9, nameIndex := 281, descriptorIndex := 282, attributes := #[] }] 48 4 #[] #[{ accessFlags := 4120, nameIndex := 121, descriptorIndex := 122, attributes := #[] }])
  fields := #[{ name := "$assertionsDisabled", type := .boolean, accessFlags := 4120, slot := 0, constantValue := 0 }]
  methods := #[k9m0, k9m1]
  instanceTypes := #[]
  staticTypes := #[.boolean]
  resolved := Array.replicate 395 none
  statics := none }

def pool10 : Array CpInfo := pool [(2, .class_ 4), (1, u "java/lang/Enum"), (0, u "name"), (0, u "Ljava/lang/String;"), (2, u "ordinal"), (0, u "I"), (1, .class_ 14), (1, u "java/lang/Object"), (4, u "hash"), (86, .class_ 108), (1, u "java/lang/Enum$EnumDesc"), (2, .class_ 112), (0, u "java/lang/constant/Constable"), (0, .class_ 114), (0, u "java/lang/Comparable"), (0, .class_ 116), (0, u "java/io/Serializable")] 87

/-- java/lang/Enum -/
def k10 : Class := { plain "java/lang/Enum" (some 0) with
  accessFlags := 1057
  interfaces := #[5, 3, 2]
  cf := some (fileOf pool10 2 #[.nestMembers #[106]] #[] 1057 12 #[111, 113, 115] #[{ accessFlags := 18, nameIndex := 5, descriptorIndex := 6, attributes := #[] }, { accessFlags := 18, nameIndex := 9, descriptorIndex := 10, attributes := #[] }, { accessFlags := 2, nameIndex := 19, descriptorIndex := 10, attributes := #[] }])
  fields := #[{ name := "name", type := (.object "java/lang/String"), accessFlags := 18, slot := 0, constantValue := 0 }, { name := "ordinal", type := .int, accessFlags := 18, slot := 1, constantValue := 0 }, { name := "hash", type := .int, accessFlags := 2, slot := 2, constantValue := 0 }]
  methods := #[]
  instanceTypes := #[(.object "java/lang/String"), .int, .int]
  staticTypes := #[]
  resolved := Array.replicate 204 none
  statics := none }

def pool11 : Array CpInfo := pool [(1, .class_ 2), (0, u "com/example/dispatch_note/dispatchnote/contract/ManagedMember"), (2, u "ID"), (0, u "Lcom/example/dispatch_note/dispatchnote/contract/ManagedMember;"), (2, u "VERSION"), (2, u "CREATED_AT"), (2, u "UPDATED_AT"), (0, .fieldref 1 17), (0, .nameAndType 18 19), (0, u "$VALUES"), (0, u "[Lcom/example/dispatch_note/dispatchnote/contract/ManagedMember;"), (0, .methodref 21 22), (0, .class_ 19), (0, .nameAndType 23 24), (0, u "clone"), (0, u "()Ljava/lang/Object;"), (1, .class_ 28), (1, u "java/lang/Enum"), (6, .fieldref 1 36), (0, .nameAndType 37 38), (0, u "memberName"), (0, u "Ljava/lang/String;"), (2, u "sortable"), (0, u "Z"), (0, .methodref 1 44), (0, .nameAndType 45 46), (0, u "values"), (0, u "()[Lcom/example/dispatch_note/dispatchnote/contract/ManagedMember;"), (0, .methodref 48 49), (0, .class_ 50), (0, .nameAndType 51 52), (0, u "java/lang/String"), (0, u "equals"), (0, u "(Ljava/lang/Object;)Z"), (0, .methodref 54 55), (0, .class_ 56), (0, .nameAndType 57 58), (0, u "java/util/Optional"), (0, u "of"), (0, u "(Ljava/lang/Object;)Ljava/util/Optional;"), (0, .methodref 54 60), (0, .nameAndType 61 62), (0, u "empty"), (0, u "()Ljava/util/Optional;"), (2, u "named"), (0, u "(Ljava/lang/String;)Ljava/util/Optional;")] 39

def k11c0 : Code := { maxStack := 1, maxLocals := 0, code := prog_4_method_1_code, exceptionTable := #[], attributes := #[] }
def k11m0 : Method := { name := "values", desc := "()[Lcom/example/dispatch_note/dispatchnote/contract/ManagedMember;", sig := { parameters := [], returnType := some (.array (.object "com/example/dispatch_note/dispatchnote/contract/ManagedMember")) }, accessFlags := 9, code := some k11c0 }
def k11c1 : Code := { maxStack := 2, maxLocals := 5, code := prog_4_method_5_code, exceptionTable := #[], attributes := #[] }
def k11m1 : Method := { name := "named", desc := "(Ljava/lang/String;)Ljava/util/Optional;", sig := { parameters := [(.object "java/lang/String")], returnType := some (.object "java/util/Optional") }, accessFlags := 8, code := some k11c1 }
/-- com/example/dispatch_note/dispatchnote/contract/ManagedMember -/
def k11 : Class := { plain "com/example/dispatch_note/dispatchnote/contract/ManagedMember" (some 10) with
  accessFlags := 16433
  interfaces := #[]
  cf := some (fileOf pool11 1 #[] #[{ accessFlags := 9, nameIndex := 45, descriptorIndex := 46, attributes := #[] }, { accessFlags := 8, nameIndex := 65, descriptorIndex := 66, attributes := #[] }] 16433 26 #[] #[{ accessFlags := 16409, nameIndex := 5, descriptorIndex := 6, attributes := #[] }, { accessFlags := 16409, nameIndex := 9, descriptorIndex := 6, attributes := #[] }, { accessFlags := 16409, nameIndex := 12, descriptorIndex := 6, attributes := #[] }, { accessFlags := 16409, nameIndex := 15, descriptorIndex := 6, attributes := #[] }, { accessFlags := 18, nameIndex := 37, descriptorIndex := 38, attributes := #[] }, { accessFlags := 18, nameIndex := 41, descriptorIndex := 42, attributes := #[] }, { accessFlags := 4122, nameIndex := 18, descriptorIndex := 19, attributes := #[] }])
  fields := #[{ name := "ID", type := (.object "com/example/dispatch_note/dispatchnote/contract/ManagedMember"), accessFlags := 16409, slot := 0, constantValue := 0 }, { name := "VERSION", type := (.object "com/example/dispatch_note/dispatchnote/contract/ManagedMember"), accessFlags := 16409, slot := 1, constantValue := 0 }, { name := "CREATED_AT", type := (.object "com/example/dispatch_note/dispatchnote/contract/ManagedMember"), accessFlags := 16409, slot := 2, constantValue := 0 }, { name := "UPDATED_AT", type := (.object "com/example/dispatch_note/dispatchnote/contract/ManagedMember"), accessFlags := 16409, slot := 3, constantValue := 0 }, { name := "memberName", type := (.object "java/lang/String"), accessFlags := 18, slot := 3, constantValue := 0 }, { name := "sortable", type := .boolean, accessFlags := 18, slot := 4, constantValue := 0 }, { name := "$VALUES", type := (.array (.object "com/example/dispatch_note/dispatchnote/contract/ManagedMember")), accessFlags := 4122, slot := 4, constantValue := 0 }]
  methods := #[k11m0, k11m1]
  instanceTypes := #[(.object "java/lang/String"), .int, .int, (.object "java/lang/String"), .boolean]
  staticTypes := #[(.object "com/example/dispatch_note/dispatchnote/contract/ManagedMember"), (.object "com/example/dispatch_note/dispatchnote/contract/ManagedMember"), (.object "com/example/dispatch_note/dispatchnote/contract/ManagedMember"), (.object "com/example/dispatch_note/dispatchnote/contract/ManagedMember"), (.array (.object "com/example/dispatch_note/dispatchnote/contract/ManagedMember"))]
  resolved := Array.replicate 106 none
  statics := some 1 }

def pool12 : Array CpInfo := pool [(1, .class_ 2), (0, u "java/lang/Cloneable"), (0, .class_ 4), (0, u "java/lang/Object")] 2

/-- java/lang/Cloneable -/
def k12 : Class := { plain "java/lang/Cloneable" (some 0) with
  accessFlags := 1537
  interfaces := #[]
  cf := some (fileOf pool12 1 #[] #[] 1537 3 #[] #[])
  fields := #[]
  methods := #[]
  instanceTypes := #[]
  staticTypes := #[]
  resolved := Array.replicate 7 none
  statics := none }

def pool13 : Array CpInfo := pool [(1, .fieldref 2 3), (0, .class_ 4), (0, .nameAndType 5 6), (0, u "java/util/Optional"), (0, u "EMPTY"), (0, u "Ljava/util/Optional;"), (0, .methodref 8 9), (0, .class_ 10), (0, .nameAndType 11 12), (0, u "java/lang/Object"), (0, u "<init>"), (0, u "()V"), (0, .fieldref 2 14), (0, .nameAndType 15 16), (0, u "value"), (0, u "Ljava/lang/Object;"), (0, .methodref 18 19), (0, .class_ 20), (0, .nameAndType 21 22), (0, u "java/util/Objects"), (0, u "requireNonNull"), (0, u "(Ljava/lang/Object;)Ljava/lang/Object;"), (0, .methodref 2 24), (0, .nameAndType 11 25), (0, u "(Ljava/lang/Object;)V"), (29, u "empty"), (0, u "()Ljava/util/Optional;"), (8, u "(Ljava/lang/Object;)Ljava/util/Optional;"), (16, u "of"), (82, u "orElse")] 21

def k13c0 : Code := { maxStack := 1, maxLocals := 1, code := jdk_32_method_1_code, exceptionTable := #[], attributes := #[] }
def k13m0 : Method := { name := "empty", desc := "()Ljava/util/Optional;", sig := { parameters := [], returnType := some (.object "java/util/Optional") }, accessFlags := 9, code := some k13c0 }
def k13c1 : Code := { maxStack := 2, maxLocals := 2, code := jdk_32_method_2_code, exceptionTable := #[], attributes := #[] }
def k13m1 : Method := { name := "<init>", desc := "(Ljava/lang/Object;)V", sig := { parameters := [(.object "java/lang/Object")], returnType := none }, accessFlags := 2, code := some k13c1 }
def k13c2 : Code := { maxStack := 3, maxLocals := 1, code := jdk_32_method_3_code, exceptionTable := #[], attributes := #[] }
def k13m2 : Method := { name := "of", desc := "(Ljava/lang/Object;)Ljava/util/Optional;", sig := { parameters := [(.object "java/lang/Object")], returnType := some (.object "java/util/Optional") }, accessFlags := 9, code := some k13c2 }
def k13c3 : Code := { maxStack := 1, maxLocals := 2, code := jdk_32_method_15_code, exceptionTable := #[], attributes := #[] }
def k13m3 : Method := { name := "orElse", desc := "(Ljava/lang/Object;)Ljava/lang/Object;", sig := { parameters := [(.object "java/lang/Object")], returnType := some (.object "java/lang/Object") }, accessFlags := 1, code := some k13c3 }
/-- java/util/Optional -/
def k13 : Class := { plain "java/util/Optional" (some 0) with
  accessFlags := 49
  interfaces := #[]
  cf := some (fileOf pool13 2 #[] #[{ accessFlags := 9, nameIndex := 55, descriptorIndex := 56, attributes := #[] }, { accessFlags := 2, nameIndex := 11, descriptorIndex := 25, attributes := #[] }, { accessFlags := 9, nameIndex := 82, descriptorIndex := 65, attributes := #[] }, { accessFlags := 1, nameIndex := 165, descriptorIndex := 22, attributes := #[] }] 49 8 #[] #[{ accessFlags := 26, nameIndex := 5, descriptorIndex := 6, attributes := #[] }, { accessFlags := 18, nameIndex := 15, descriptorIndex := 16, attributes := #[] }])
  fields := #[{ name := "EMPTY", type := (.object "java/util/Optional"), accessFlags := 26, slot := 0, constantValue := 0 }, { name := "value", type := (.object "java/lang/Object"), accessFlags := 18, slot := 0, constantValue := 0 }]
  methods := #[k13m0, k13m1, k13m2, k13m3]
  instanceTypes := #[(.object "java/lang/Object")]
  staticTypes := #[(.object "java/util/Optional")]
  resolved := Array.replicate 187 none
  statics := some 2 }

def pool14 : Array CpInfo := pool [(2, .class_ 4), (1, u "java/lang/Object"), (0, u "<init>"), (0, u "()V"), (35, .class_ 44), (1, u "java/util/Objects"), (0, u "requireNonNull"), (0, u "(Ljava/lang/Object;)Ljava/lang/Object;")] 137

def k14m0 : Method := { name := "<init>", desc := "()V", sig := { parameters := [], returnType := none }, accessFlags := 2, code := none }
def k14c1 : Code := { maxStack := 2, maxLocals := 1, code := jdk_31_method_10_code, exceptionTable := #[], attributes := #[] }
def k14m1 : Method := { name := "requireNonNull", desc := "(Ljava/lang/Object;)Ljava/lang/Object;", sig := { parameters := [(.object "java/lang/Object")], returnType := some (.object "java/lang/Object") }, accessFlags := 9, code := some k14c1 }
/-- java/util/Objects -/
def k14 : Class := { plain "java/util/Objects" (some 0) with
  accessFlags := 49
  interfaces := #[]
  cf := some (fileOf pool14 42 #[] #[{ accessFlags := 2, nameIndex := 5, descriptorIndex := 6, attributes := #[] }, { accessFlags := 9, nameIndex := 45, descriptorIndex := 46, attributes := #[] }] 49 2 #[] #[])
  fields := #[]
  methods := #[k14m0, k14m1]
  instanceTypes := #[]
  staticTypes := #[]
  resolved := Array.replicate 184 none
  statics := none }

def pool15 : Array CpInfo := pool [(2, .class_ 4), (1, u "java/lang/Object"), (0, u "<init>"), (0, u "()V"), (17, .class_ 26), (1, u "jdk/internal/util/Preconditions"), (28, .class_ 56), (0, u "jdk/internal/util/Preconditions$4"), (57, .class_ 115), (0, u "jdk/internal/util/Preconditions$1"), (7, u "SIOOBE_FORMATTER"), (0, u "Ljava/util/function/BiFunction;"), (0, .class_ 126), (0, u "jdk/internal/util/Preconditions$2"), (3, u "AIOOBE_FORMATTER"), (0, .class_ 132), (0, u "jdk/internal/util/Preconditions$3"), (3, u "IOOBE_FORMATTER")] 57

def k15m0 : Method := { name := "<init>", desc := "()V", sig := { parameters := [], returnType := none }, accessFlags := 1, code := none }
/-- jdk/internal/util/Preconditions -/
def k15 : Class := { plain "jdk/internal/util/Preconditions" (some 0) with
  accessFlags := 33
  interfaces := #[]
  cf := some (fileOf pool15 24 #[.nestMembers #[55, 131, 125, 114]] #[{ accessFlags := 1, nameIndex := 5, descriptorIndex := 6, attributes := #[] }] 33 2 #[] #[{ accessFlags := 25, nameIndex := 123, descriptorIndex := 124, attributes := #[] }, { accessFlags := 25, nameIndex := 130, descriptorIndex := 124, attributes := #[] }, { accessFlags := 25, nameIndex := 136, descriptorIndex := 124, attributes := #[] }])
  fields := #[{ name := "SIOOBE_FORMATTER", type := (.object "java/util/function/BiFunction"), accessFlags := 25, slot := 0, constantValue := 0 }, { name := "AIOOBE_FORMATTER", type := (.object "java/util/function/BiFunction"), accessFlags := 25, slot := 1, constantValue := 0 }, { name := "IOOBE_FORMATTER", type := (.object "java/util/function/BiFunction"), accessFlags := 25, slot := 2, constantValue := 0 }]
  methods := #[k15m0]
  instanceTypes := #[]
  staticTypes := #[(.object "java/util/function/BiFunction"), (.object "java/util/function/BiFunction"), (.object "java/util/function/BiFunction")]
  resolved := Array.replicate 194 none
  statics := some 3 }

def pool16 : Array CpInfo := pool [(9, u "<init>"), (6, .class_ 18), (1, u "java/lang/Object"), (0, u "()V"), (1, .class_ 23), (1, u "jdk/internal/util/ArraysSupport"), (0, u "LOG2_ARRAY_LONG_INDEX_SCALE"), (0, u "I"), (2, u "U"), (0, u "Ljdk/internal/misc/Unsafe;"), (8, u "BIG_ENDIAN"), (0, u "Z"), (8, u "LOG2_BYTE_BIT_SIZE"), (4, u "LOG2_ARRAY_INT_INDEX_SCALE"), (54, u "JLA"), (0, u "Ljdk/internal/access/JavaLangAccess;"), (11, u "LOG2_ARRAY_BOOLEAN_INDEX_SCALE"), (9, u "LOG2_ARRAY_BYTE_INDEX_SCALE"), (5, u "LOG2_ARRAY_CHAR_INDEX_SCALE"), (5, u "LOG2_ARRAY_SHORT_INDEX_SCALE"), (18, u "LOG2_ARRAY_FLOAT_INDEX_SCALE"), (24, u "LOG2_ARRAY_DOUBLE_INDEX_SCALE"), (89, u "T_BOOLEAN"), (2, u "T_CHAR"), (1, u "T_FLOAT"), (1, u "T_DOUBLE"), (1, u "T_BYTE"), (1, u "T_SHORT"), (1, u "T_INT"), (1, u "T_LONG"), (1, u "SOFT_MAX_ARRAY_LENGTH")] 83

def k16m0 : Method := { name := "<init>", desc := "()V", sig := { parameters := [], returnType := none }, accessFlags := 2, code := none }
/-- jdk/internal/util/ArraysSupport -/
def k16 : Class := { plain "jdk/internal/util/ArraysSupport" (some 0) with
  accessFlags := 33
  interfaces := #[]
  cf := some (fileOf pool16 21 #[] #[{ accessFlags := 2, nameIndex := 9, descriptorIndex := 19, attributes := #[] }] 33 16 #[] #[{ accessFlags := 24, nameIndex := 28, descriptorIndex := 29, attributes := #[] }, { accessFlags := 26, nameIndex := 38, descriptorIndex := 39, attributes := #[] }, { accessFlags := 25, nameIndex := 121, descriptorIndex := 25, attributes := #[] }, { accessFlags := 25, nameIndex := 131, descriptorIndex := 25, attributes := #[] }, { accessFlags := 25, nameIndex := 137, descriptorIndex := 25, attributes := #[] }, { accessFlags := 25, nameIndex := 143, descriptorIndex := 25, attributes := #[] }, { accessFlags := 25, nameIndex := 53, descriptorIndex := 25, attributes := #[] }, { accessFlags := 25, nameIndex := 24, descriptorIndex := 25, attributes := #[] }, { accessFlags := 25, nameIndex := 162, descriptorIndex := 25, attributes := #[] }, { accessFlags := 25, nameIndex := 187, descriptorIndex := 25, attributes := #[] }, { accessFlags := 26, nameIndex := 48, descriptorIndex := 25, attributes := #[] }, { accessFlags := 25, nameIndex := 277, descriptorIndex := 25, attributes := #[] }, { accessFlags := 25, nameIndex := 280, descriptorIndex := 25, attributes := #[] }, { accessFlags := 25, nameIndex := 282, descriptorIndex := 25, attributes := #[] }, { accessFlags := 25, nameIndex := 284, descriptorIndex := 25, attributes := #[] }, { accessFlags := 25, nameIndex := 286, descriptorIndex := 25, attributes := #[] }, { accessFlags := 25, nameIndex := 288, descriptorIndex := 25, attributes := #[] }, { accessFlags := 25, nameIndex := 290, descriptorIndex := 25, attributes := #[] }, { accessFlags := 25, nameIndex := 292, descriptorIndex := 25, attributes := #[] }, { accessFlags := 26, nameIndex := 108, descriptorIndex := 109, attributes := #[] }, { accessFlags := 25, nameIndex := 294, descriptorIndex := 25, attributes := #[] }])
  fields := #[{ name := "U", type := (.object "jdk/internal/misc/Unsafe"), accessFlags := 24, slot := 0, constantValue := 0 }, { name := "BIG_ENDIAN", type := .boolean, accessFlags := 26, slot := 1, constantValue := 0 }, { name := "LOG2_ARRAY_BOOLEAN_INDEX_SCALE", type := .int, accessFlags := 25, slot := 2, constantValue := 0 }, { name := "LOG2_ARRAY_BYTE_INDEX_SCALE", type := .int, accessFlags := 25, slot := 3, constantValue := 0 }, { name := "LOG2_ARRAY_CHAR_INDEX_SCALE", type := .int, accessFlags := 25, slot := 4, constantValue := 0 }, { name := "LOG2_ARRAY_SHORT_INDEX_SCALE", type := .int, accessFlags := 25, slot := 5, constantValue := 0 }, { name := "LOG2_ARRAY_INT_INDEX_SCALE", type := .int, accessFlags := 25, slot := 6, constantValue := 0 }, { name := "LOG2_ARRAY_LONG_INDEX_SCALE", type := .int, accessFlags := 25, slot := 7, constantValue := 0 }, { name := "LOG2_ARRAY_FLOAT_INDEX_SCALE", type := .int, accessFlags := 25, slot := 8, constantValue := 0 }, { name := "LOG2_ARRAY_DOUBLE_INDEX_SCALE", type := .int, accessFlags := 25, slot := 9, constantValue := 0 }, { name := "LOG2_BYTE_BIT_SIZE", type := .int, accessFlags := 26, slot := 10, constantValue := 0 }, { name := "T_BOOLEAN", type := .int, accessFlags := 25, slot := 11, constantValue := 0 }, { name := "T_CHAR", type := .int, accessFlags := 25, slot := 12, constantValue := 0 }, { name := "T_FLOAT", type := .int, accessFlags := 25, slot := 13, constantValue := 0 }, { name := "T_DOUBLE", type := .int, accessFlags := 25, slot := 14, constantValue := 0 }, { name := "T_BYTE", type := .int, accessFlags := 25, slot := 15, constantValue := 0 }, { name := "T_SHORT", type := .int, accessFlags := 25, slot := 16, constantValue := 0 }, { name := "T_INT", type := .int, accessFlags := 25, slot := 17, constantValue := 0 }, { name := "T_LONG", type := .int, accessFlags := 25, slot := 18, constantValue := 0 }, { name := "JLA", type := (.object "jdk/internal/access/JavaLangAccess"), accessFlags := 26, slot := 19, constantValue := 0 }, { name := "SOFT_MAX_ARRAY_LENGTH", type := .int, accessFlags := 25, slot := 20, constantValue := 0 }]
  methods := #[k16m0]
  instanceTypes := #[]
  staticTypes := #[(.object "jdk/internal/misc/Unsafe"), .boolean, .int, .int, .int, .int, .int, .int, .int, .int, .int, .int, .int, .int, .int, .int, .int, .int, .int, (.object "jdk/internal/access/JavaLangAccess"), .int]
  resolved := Array.replicate 378 none
  statics := none }

/-- the primitive byte -/
def k17 : Class := { plain "byte" none with kind := .primitive 'B', accessFlags := 0x411 }
/-- [B -/
def k18 : Class := { plain "[B" (some 0) with kind := .array 17 .byte, interfaces := #[12, 2], accessFlags := 1041 }

/-- the primitive char -/
def k19 : Class := { plain "char" none with kind := .primitive 'C', accessFlags := 0x411 }
/-- [C -/
def k20 : Class := { plain "[C" (some 0) with kind := .array 19 .char, interfaces := #[12, 2], accessFlags := 1041 }

/-- the primitive int -/
def k21 : Class := { plain "int" none with kind := .primitive 'I', accessFlags := 0x411 }
/-- [I -/
def k22 : Class := { plain "[I" (some 0) with kind := .array 21 .int, interfaces := #[12, 2], accessFlags := 1041 }

/-- [Lcom/example/dispatch_note/dispatchnote/contract/ManagedMember; -/
def k23 : Class := { plain "[Lcom/example/dispatch_note/dispatchnote/contract/ManagedMember;" (some 0) with kind := .array 11 (.object "com/example/dispatch_note/dispatchnote/contract/ManagedMember"), interfaces := #[12, 2], accessFlags := 1041 }

def heap : Heap := #[{ cls := 7, slots := #[.long 0, .int 1, .null, .int 0, .null, .int 0, .int 0], vm := .statics 7 },
  { cls := 11, slots := #[.ref 5, .ref 6, .ref 7, .ref 8, .ref 4], vm := .statics 11 },
  { cls := 13, slots := #[.ref 17], vm := .statics 13 },
  { cls := 15, slots := #[.null, .null, .null], vm := .statics 15 },
  { cls := 23, slots := #[.ref 5, .ref 6, .ref 7, .ref 8], vm := .none },
  { cls := 11, slots := #[.null, .int 0, .int 0, .ref 9, .int 0], vm := .none },
  { cls := 11, slots := #[.null, .int 1, .int 0, .ref 10, .int 0], vm := .none },
  { cls := 11, slots := #[.null, .int 2, .int 0, .ref 11, .int 0], vm := .none },
  { cls := 11, slots := #[.null, .int 3, .int 0, .ref 12, .int 0], vm := .none },
  { cls := 7, slots := #[.ref 13, .int 0, .int 0, .int 0], vm := .none },
  { cls := 7, slots := #[.ref 14, .int 0, .int 0, .int 0], vm := .none },
  { cls := 7, slots := #[.ref 15, .int 0, .int 0, .int 0], vm := .none },
  { cls := 7, slots := #[.ref 16, .int 0, .int 0, .int 0], vm := .none },
  { cls := 18, slots := #[.int 105, .int 100], vm := .none },
  { cls := 18, slots := #[.int 118, .int 101, .int 114, .int 115, .int 105, .int 111, .int 110], vm := .none },
  { cls := 18, slots := #[.int 99, .int 114, .int 101, .int 97, .int 116, .int 101, .int 100, .int 65, .int 116], vm := .none },
  { cls := 18, slots := #[.int 117, .int 112, .int 100, .int 97, .int 116, .int 101, .int 100, .int 65, .int 116], vm := .none },
  { cls := 13, slots := #[.null], vm := .none }]
def classes : Array Class := #[k0, k1, k2, k3, k4, k5, k6, k7, k8, k9, k10, k11, k12, k13, k14, k15, k16, k17, k18, k19, k20, k21, k22, k23]
def interned : List (Array UInt16 × Addr) := []
def slotsUsed : Nat := 84
def theMethod : MethodId := ⟨1, 1⟩
def args0 : Array Value := #[.int 5, .int 7, .int 9, .int 11]
def aboutOver (below : List Frame) : State where
  vm := { classes := classes, interned := interned.toArray }
  heap := heap
  slotsUsed := slotsUsed
  threads := #[{ frames := .invoking theMethod args0 :: below }]
def below0 : List Frame := [.native { method := ⟨0, 0⟩, args := #[] }]
def about1 : State := aboutOver below0
def p0 : Program := .bare "" "" ""
def e0 : Env := launch0.env 0 0 0
theorem w_frames : about1.frames = Frame.invoking theMethod args0 :: below0 := rfl
set_option maxRecDepth 65536 in
theorem w_args : argsFit about1.vm theMethod args0 = true := by decide +kernel
set_option maxRecDepth 65536 in
theorem w_heap : heapFits about1 = true := by decide +kernel
set_option maxRecDepth 65536 in
theorem w_runnable : about1.curStatus? = some .runnable := by decide +kernel
set_option maxRecDepth 65536 in
theorem w_alone : about1.alone = true := by decide +kernel
set_option maxRecDepth 65536 in
theorem w_named : about1.methodNamed? x = some theMethod := by decide +kernel
set_option maxRecDepth 65536 in
theorem w_hears : about1.hears theMethod below0 = true := by decide +kernel
set_option maxRecDepth 65536 in
theorem w_ripe : about1.ripe theMethod args0 below0 = true := by decide +kernel
theorem w_running : about1.status = .running := rfl
set_option maxRecDepth 65536 in
theorem w_room : about1.hasRoom e0.platform room_1 = true :=
  launch0.hasRoom_least _ room_1 (by decide +kernel) (by decide +kernel) (by decide +kernel) (by decide +kernel) (by decide +kernel) (by decide +kernel)
theorem allAtoms_all (ts : List Jvm.Cond) (a : Array Jvm.Value) (st : Jvm.State) : (allAtoms ts).before a st = ts.all (fun c => c.before a st) := by
  induction ts with
  | nil => rfl
  | cons c t ih =>
    show (Jvm.Cond.and c (allAtoms t)).before a st = _
    rw [Jvm.Cond.before_and, ih, List.all_cons]
def words1 : List Jvm.Cond := Jvm.Cond.code x code maxLocals ret :: tables_1
/-- a 'code' word, met by the world's own term for the bytes: nothing is compared byte by byte -/
theorem code_word {y : MethodName} {bytes : ByteArray} {mx : Nat} {rt : Option FieldType} {a : Array Value} {s : State} {m : MethodId} {meth : Method} {c : Code} (h1 : s.methodNamed? y = some m) (h2 : s.vm.method? m = some meth) (h3 : meth.code = some c) (h4 : c.code = bytes)
    (h5 : (c.maxLocals == mx && c.exceptionTable.isEmpty && decide (c.maxStack ≤ mostOperands) && decide (meth.sig.returnType = rt) && !meth.locks && decide (parseMethodDescriptor y.desc = some meth.sig)) = true) : (Jvm.Cond.code y bytes mx rt).before a s = true := by
  simp only [Bool.and_eq_true, beq_iff_eq, Bool.not_eq_true', decide_eq_true_eq] at h5
  obtain ⟨⟨⟨⟨⟨g1, g2⟩, g3⟩, g4⟩, g5⟩, g6⟩ := h5
  simp [Cond.before, Cond.holds, Cond.value, h1, h2, h3, h4, g1, g2, g3, g4, g5, g6]
def isCode : Jvm.Cond → Bool
  | .code _ _ _ _ => true
  | _ => false
theorem all_split {L : List Jvm.Cond} {P : Jvm.Cond → Bool} (h1 : L.all (fun c => isCode c || P c) = true) (h2 : ∀ c ∈ L.filter isCode, P c = true) : L.all P = true := by
  refine List.all_eq_true.mpr fun c hc => ?_
  have h := List.all_eq_true.mp h1 c hc
  rcases Bool.eq_false_or_eq_true (isCode c) with hi | hi
  · exact h2 c (List.mem_filter.mpr ⟨hc, hi⟩)
  · simpa [hi] using h
set_option maxRecDepth 65536 in
theorem w_c0 : (Jvm.Cond.code x code maxLocals ret).before args0 about1 = true := code_word (m := ⟨1, 1⟩) (meth := k1m1) (c := k1c1) (by decide +kernel) rfl rfl rfl (by decide +kernel)
set_option maxRecDepth 65536 in
theorem w_c1 : (Jvm.Cond.code ({ cls := "com/example/dispatch_note/dispatchnote/contract/ManagedMemberNamedPinLaw", name := "appended", desc := "(IC)[C" } : Jvm.MethodName) method_5_code (2 : Nat) (Option.some (Jvm.ClassFile.FieldType.array Jvm.ClassFile.FieldType.char))).before args0 about1 = true := code_word (m := ⟨1, 4⟩) (meth := k1m4) (c := k1c4) (by decide +kernel) rfl rfl rfl (by decide +kernel)
set_option maxRecDepth 65536 in
theorem w_c2 : (Jvm.Cond.code ({ cls := "java/lang/String", name := "<init>", desc := "([C)V" } : Jvm.MethodName) jdk_42_method_3_code (2 : Nat) (Option.none : Option Jvm.ClassFile.FieldType)).before args0 about1 = true := code_word (m := ⟨7, 1⟩) (meth := k7m1) (c := k7c1) (by decide +kernel) rfl rfl rfl (by decide +kernel)
set_option maxRecDepth 65536 in
theorem w_c3 : (Jvm.Cond.code ({ cls := "java/lang/String", name := "<init>", desc := "([CIILjava/lang/Void;)V" } : Jvm.MethodName) jdk_42_method_149_code (6 : Nat) (Option.none : Option Jvm.ClassFile.FieldType)).before args0 about1 = true := code_word (m := ⟨7, 3⟩) (meth := k7m3) (c := k7c3) (by decide +kernel) rfl rfl rfl (by decide +kernel)
set_option maxRecDepth 65536 in
theorem w_c4 : (Jvm.Cond.code ({ cls := "java/lang/Object", name := "<init>", desc := "()V" } : Jvm.MethodName) object_method_1_code (1 : Nat) (Option.none : Option Jvm.ClassFile.FieldType)).before args0 about1 = true := code_word (m := ⟨0, 0⟩) (meth := k0m0) (c := k0c0) (by decide +kernel) rfl rfl rfl (by decide +kernel)
set_option maxRecDepth 65536 in
theorem w_c5 : (Jvm.Cond.code ({ cls := "java/lang/StringUTF16", name := "compress", desc := "([CII)[B" } : Jvm.MethodName) jdk_52_method_16_code (6 : Nat) (Option.some (Jvm.ClassFile.FieldType.array Jvm.ClassFile.FieldType.byte))).before args0 about1 = true := code_word (m := ⟨8, 2⟩) (meth := k8m2) (c := k8c2) (by decide +kernel) rfl rfl rfl (by decide +kernel)
set_option maxRecDepth 65536 in
theorem w_c6 : (Jvm.Cond.code ({ cls := "java/lang/StringUTF16", name := "compress", desc := "([CI[BII)I" } : Jvm.MethodName) jdk_52_method_21_code (7 : Nat) (Option.some Jvm.ClassFile.FieldType.int)).before args0 about1 = true := code_word (m := ⟨8, 3⟩) (meth := k8m3) (c := k8c3) (by decide +kernel) rfl rfl rfl (by decide +kernel)
set_option maxRecDepth 65536 in
theorem w_c7 : (Jvm.Cond.code ({ cls := "java/lang/StringUTF16", name := "coderFromArrayLen", desc := "([BI)B" } : Jvm.MethodName) jdk_52_method_15_code (2 : Nat) (Option.some Jvm.ClassFile.FieldType.byte)).before args0 about1 = true := code_word (m := ⟨8, 1⟩) (meth := k8m1) (c := k8c1) (by decide +kernel) rfl rfl rfl (by decide +kernel)
set_option maxRecDepth 65536 in
theorem w_c8 : (Jvm.Cond.code ({ cls := "java/lang/String", name := "equals", desc := "(Ljava/lang/Object;)Z" } : Jvm.MethodName) jdk_42_method_66_code (3 : Nat) (Option.some Jvm.ClassFile.FieldType.boolean)).before args0 about1 = true := code_word (m := ⟨7, 2⟩) (meth := k7m2) (c := k7c2) (by decide +kernel) rfl rfl rfl (by decide +kernel)
set_option maxRecDepth 65536 in
theorem w_c9 : (Jvm.Cond.code ({ cls := "java/lang/StringLatin1", name := "equals", desc := "([B[B)Z" } : Jvm.MethodName) jdk_43_method_13_code (3 : Nat) (Option.some Jvm.ClassFile.FieldType.boolean)).before args0 about1 = true := code_word (m := ⟨9, 1⟩) (meth := k9m1) (c := k9c1) (by decide +kernel) rfl rfl rfl (by decide +kernel)
set_option maxRecDepth 65536 in
theorem w_c10 : (Jvm.Cond.code ({ cls := "com/example/dispatch_note/dispatchnote/contract/ManagedMember", name := "named", desc := "(Ljava/lang/String;)Ljava/util/Optional;" } : Jvm.MethodName) prog_4_method_5_code (5 : Nat) (Option.some (Jvm.ClassFile.FieldType.object "java/util/Optional"))).before args0 about1 = true := code_word (m := ⟨11, 1⟩) (meth := k11m1) (c := k11c1) (by decide +kernel) rfl rfl rfl (by decide +kernel)
set_option maxRecDepth 65536 in
theorem w_c11 : (Jvm.Cond.code ({ cls := "com/example/dispatch_note/dispatchnote/contract/ManagedMember", name := "values", desc := "()[Lcom/example/dispatch_note/dispatchnote/contract/ManagedMember;" } : Jvm.MethodName) prog_4_method_1_code (0 : Nat) (Option.some (Jvm.ClassFile.FieldType.array (Jvm.ClassFile.FieldType.object "com/example/dispatch_note/dispatchnote/contract/ManagedMember")))).before args0 about1 = true := code_word (m := ⟨11, 0⟩) (meth := k11m0) (c := k11c0) (by decide +kernel) rfl rfl rfl (by decide +kernel)
set_option maxRecDepth 65536 in
theorem w_c12 : (Jvm.Cond.code ({ cls := "java/util/Optional", name := "empty", desc := "()Ljava/util/Optional;" } : Jvm.MethodName) jdk_32_method_1_code (1 : Nat) (Option.some (Jvm.ClassFile.FieldType.object "java/util/Optional"))).before args0 about1 = true := code_word (m := ⟨13, 0⟩) (meth := k13m0) (c := k13c0) (by decide +kernel) rfl rfl rfl (by decide +kernel)
set_option maxRecDepth 65536 in
theorem w_c13 : (Jvm.Cond.code ({ cls := "java/util/Optional", name := "orElse", desc := "(Ljava/lang/Object;)Ljava/lang/Object;" } : Jvm.MethodName) jdk_32_method_15_code (2 : Nat) (Option.some (Jvm.ClassFile.FieldType.object "java/lang/Object"))).before args0 about1 = true := code_word (m := ⟨13, 3⟩) (meth := k13m3) (c := k13c3) (by decide +kernel) rfl rfl rfl (by decide +kernel)
set_option maxRecDepth 65536 in
theorem w_c14 : (Jvm.Cond.code ({ cls := "com/example/dispatch_note/dispatchnote/contract/ManagedMemberNamedPinLaw", name := "base", desc := "(I)[C" } : Jvm.MethodName) method_3_code (1 : Nat) (Option.some (Jvm.ClassFile.FieldType.array Jvm.ClassFile.FieldType.char))).before args0 about1 = true := code_word (m := ⟨1, 2⟩) (meth := k1m2) (c := k1c2) (by decide +kernel) rfl rfl rfl (by decide +kernel)
set_option maxRecDepth 65536 in
theorem w_c15 : (Jvm.Cond.code ({ cls := "java/util/Optional", name := "of", desc := "(Ljava/lang/Object;)Ljava/util/Optional;" } : Jvm.MethodName) jdk_32_method_3_code (1 : Nat) (Option.some (Jvm.ClassFile.FieldType.object "java/util/Optional"))).before args0 about1 = true := code_word (m := ⟨13, 2⟩) (meth := k13m2) (c := k13c2) (by decide +kernel) rfl rfl rfl (by decide +kernel)
set_option maxRecDepth 65536 in
theorem w_c16 : (Jvm.Cond.code ({ cls := "java/util/Objects", name := "requireNonNull", desc := "(Ljava/lang/Object;)Ljava/lang/Object;" } : Jvm.MethodName) jdk_31_method_10_code (1 : Nat) (Option.some (Jvm.ClassFile.FieldType.object "java/lang/Object"))).before args0 about1 = true := code_word (m := ⟨14, 1⟩) (meth := k14m1) (c := k14c1) (by decide +kernel) rfl rfl rfl (by decide +kernel)
set_option maxRecDepth 65536 in
theorem w_c17 : (Jvm.Cond.code ({ cls := "java/util/Optional", name := "<init>", desc := "(Ljava/lang/Object;)V" } : Jvm.MethodName) jdk_32_method_2_code (2 : Nat) (Option.none : Option Jvm.ClassFile.FieldType)).before args0 about1 = true := code_word (m := ⟨13, 1⟩) (meth := k13m1) (c := k13c1) (by decide +kernel) rfl rfl rfl (by decide +kernel)
set_option maxRecDepth 65536 in
theorem w_c18 : (Jvm.Cond.code ({ cls := "com/example/dispatch_note/dispatchnote/contract/ManagedMemberNamedPinLaw", name := "truncated", desc := "(I)[C" } : Jvm.MethodName) method_4_code (1 : Nat) (Option.some (Jvm.ClassFile.FieldType.array Jvm.ClassFile.FieldType.char))).before args0 about1 = true := code_word (m := ⟨1, 3⟩) (meth := k1m3) (c := k1c3) (by decide +kernel) rfl rfl rfl (by decide +kernel)
def codes1 : List Jvm.Cond := [Jvm.Cond.code x code maxLocals ret, Jvm.Cond.code ({ cls := "com/example/dispatch_note/dispatchnote/contract/ManagedMemberNamedPinLaw", name := "appended", desc := "(IC)[C" } : Jvm.MethodName) method_5_code (2 : Nat) (Option.some (Jvm.ClassFile.FieldType.array Jvm.ClassFile.FieldType.char)), Jvm.Cond.code ({ cls := "java/lang/String", name := "<init>", desc := "([C)V" } : Jvm.MethodName) jdk_42_method_3_code (2 : Nat) (Option.none : Option Jvm.ClassFile.FieldType), Jvm.Cond.code ({ cls := "java/lang/String", name := "<init>", desc := "([CIILjava/lang/Void;)V" } : Jvm.MethodName) jdk_42_method_149_code (6 : Nat) (Option.none : Option Jvm.ClassFile.FieldType), Jvm.Cond.code ({ cls := "java/lang/Object", name := "<init>", desc := "()V" } : Jvm.MethodName) object_method_1_code (1 : Nat) (Option.none : Option Jvm.ClassFile.FieldType), Jvm.Cond.code ({ cls := "java/lang/StringUTF16", name := "compress", desc := "([CII)[B" } : Jvm.MethodName) jdk_52_method_16_code (6 : Nat) (Option.some (Jvm.ClassFile.FieldType.array Jvm.ClassFile.FieldType.byte)), Jvm.Cond.code ({ cls := "java/lang/StringUTF16", name := "compress", desc := "([CI[BII)I" } : Jvm.MethodName) jdk_52_method_21_code (7 : Nat) (Option.some Jvm.ClassFile.FieldType.int), Jvm.Cond.code ({ cls := "java/lang/StringUTF16", name := "coderFromArrayLen", desc := "([BI)B" } : Jvm.MethodName) jdk_52_method_15_code (2 : Nat) (Option.some Jvm.ClassFile.FieldType.byte), Jvm.Cond.code ({ cls := "java/lang/String", name := "equals", desc := "(Ljava/lang/Object;)Z" } : Jvm.MethodName) jdk_42_method_66_code (3 : Nat) (Option.some Jvm.ClassFile.FieldType.boolean), Jvm.Cond.code ({ cls := "java/lang/StringLatin1", name := "equals", desc := "([B[B)Z" } : Jvm.MethodName) jdk_43_method_13_code (3 : Nat) (Option.some Jvm.ClassFile.FieldType.boolean), Jvm.Cond.code ({ cls := "com/example/dispatch_note/dispatchnote/contract/ManagedMember", name := "named", desc := "(Ljava/lang/String;)Ljava/util/Optional;" } : Jvm.MethodName) prog_4_method_5_code (5 : Nat) (Option.some (Jvm.ClassFile.FieldType.object "java/util/Optional")), Jvm.Cond.code ({ cls := "com/example/dispatch_note/dispatchnote/contract/ManagedMember", name := "values", desc := "()[Lcom/example/dispatch_note/dispatchnote/contract/ManagedMember;" } : Jvm.MethodName) prog_4_method_1_code (0 : Nat) (Option.some (Jvm.ClassFile.FieldType.array (Jvm.ClassFile.FieldType.object "com/example/dispatch_note/dispatchnote/contract/ManagedMember"))), Jvm.Cond.code ({ cls := "java/util/Optional", name := "empty", desc := "()Ljava/util/Optional;" } : Jvm.MethodName) jdk_32_method_1_code (1 : Nat) (Option.some (Jvm.ClassFile.FieldType.object "java/util/Optional")), Jvm.Cond.code ({ cls := "java/util/Optional", name := "orElse", desc := "(Ljava/lang/Object;)Ljava/lang/Object;" } : Jvm.MethodName) jdk_32_method_15_code (2 : Nat) (Option.some (Jvm.ClassFile.FieldType.object "java/lang/Object")), Jvm.Cond.code ({ cls := "com/example/dispatch_note/dispatchnote/contract/ManagedMemberNamedPinLaw", name := "base", desc := "(I)[C" } : Jvm.MethodName) method_3_code (1 : Nat) (Option.some (Jvm.ClassFile.FieldType.array Jvm.ClassFile.FieldType.char)), Jvm.Cond.code ({ cls := "java/util/Optional", name := "of", desc := "(Ljava/lang/Object;)Ljava/util/Optional;" } : Jvm.MethodName) jdk_32_method_3_code (1 : Nat) (Option.some (Jvm.ClassFile.FieldType.object "java/util/Optional")), Jvm.Cond.code ({ cls := "java/util/Objects", name := "requireNonNull", desc := "(Ljava/lang/Object;)Ljava/lang/Object;" } : Jvm.MethodName) jdk_31_method_10_code (1 : Nat) (Option.some (Jvm.ClassFile.FieldType.object "java/lang/Object")), Jvm.Cond.code ({ cls := "java/util/Optional", name := "<init>", desc := "(Ljava/lang/Object;)V" } : Jvm.MethodName) jdk_32_method_2_code (2 : Nat) (Option.none : Option Jvm.ClassFile.FieldType), Jvm.Cond.code ({ cls := "com/example/dispatch_note/dispatchnote/contract/ManagedMemberNamedPinLaw", name := "truncated", desc := "(I)[C" } : Jvm.MethodName) method_4_code (1 : Nat) (Option.some (Jvm.ClassFile.FieldType.array Jvm.ClassFile.FieldType.char))]
set_option maxRecDepth 65536 in
theorem codes_eq : words1.filter isCode = codes1 := rfl
theorem w_codes : ∀ c ∈ words1.filter isCode, c.before args0 about1 = true := by
  rw [codes_eq]
  intro c hc
  simp only [codes1, List.mem_cons, List.not_mem_nil, or_false] at hc
  rcases hc with rfl | rfl | rfl | rfl | rfl | rfl | rfl | rfl | rfl | rfl | rfl | rfl | rfl | rfl | rfl | rfl | rfl | rfl | rfl
  · exact w_c0
  · exact w_c1
  · exact w_c2
  · exact w_c3
  · exact w_c4
  · exact w_c5
  · exact w_c6
  · exact w_c7
  · exact w_c8
  · exact w_c9
  · exact w_c10
  · exact w_c11
  · exact w_c12
  · exact w_c13
  · exact w_c14
  · exact w_c15
  · exact w_c16
  · exact w_c17
  · exact w_c18
set_option maxRecDepth 65536 in
theorem w_t1 : (words1.take 24).all (fun c => isCode c || c.before args0 about1) = true := by decide +kernel
set_option maxRecDepth 65536 in
theorem w_t2 : ((words1.drop 24).take 24).all (fun c => isCode c || c.before args0 about1) = true := by decide +kernel
set_option maxRecDepth 65536 in
theorem w_t3 : (((words1.drop 24).drop 24).take 24).all (fun c => isCode c || c.before args0 about1) = true := by decide +kernel
set_option maxRecDepth 65536 in
theorem w_t4 : ((((words1.drop 24).drop 24).drop 24).take 24).all (fun c => isCode c || c.before args0 about1) = true := by decide +kernel
set_option maxRecDepth 65536 in
theorem w_t5 : ((((words1.drop 24).drop 24).drop 24).drop 24).all (fun c => isCode c || c.before args0 about1) = true := by decide +kernel
theorem w_tables : (allAtoms (Jvm.Cond.code x code maxLocals ret :: tables_1)).before args0 about1 = true := by
  rw [allAtoms_all]
  show words1.all (fun c => c.before args0 about1) = true
  refine all_split ?_ w_codes
  rw [← List.take_append_drop 24 words1, List.all_append, w_t1, ← List.take_append_drop 24 (words1.drop 24), List.all_append, w_t2, ← List.take_append_drop 24 ((words1.drop 24).drop 24), List.all_append, w_t3, ← List.take_append_drop 24 (((words1.drop 24).drop 24).drop 24), List.all_append, w_t4, w_t5]
  rfl
set_option maxRecDepth 65536 in
theorem w_rest : rest_1_c.before args0 about1 = true := by decide +kernel
set_option maxRecDepth 65536 in
theorem w_case : (Jvm.Cond.and given_1 narrow_1).before args0 about1 = true := by decide +kernel
set_option maxRecDepth 65536 in
theorem w_consts : constsHeld consts_1 about1 := Jvm.Lit.constsHeldB_iff.mp (by decide +kernel)
theorem w_applies : (headSpec (Jvm.Cond.code x code maxLocals ret :: tables_1) room_1).applies x e0.platform about1 = true :=
  (Spec.applies_iff w_frames).mpr ⟨w_running, w_runnable, w_alone, w_named, w_hears, w_ripe, w_room, w_tables⟩
theorem atStart : AtStart classFile x code maxLocals ret World_1 tables_1 room_1 Calls_1 rest_1 Pre_1 launch0 p0 e0 about1 theMethod args0 below0 :=
  ⟨lists_1, trivial, launch0.admits_env _ _ _, launch0.least_env, fairChoices_fair.cas, fairChoices_fair.clock, w_frames, w_args, w_heap, w_applies, ⟨w_consts, trivial⟩, w_rest, w_case⟩
end start1
theorem witness_1 : WitnessClaimed_1 := ⟨start1.p0, start1.e0, start1.about1, start1.theMethod, start1.args0, start1.below0, start1.atStart⟩
end Jvm.Pilot.@@N@@
