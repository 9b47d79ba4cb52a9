import JvmDerived
import JvmDerived.Pilot.@@N@@Statement
import JvmDerived.Pilot.@@N@@Code
set_option linter.unusedVariables false
set_option linter.unusedSimpArgs false
/-! the layer of this seat's own: a walk that ends well (Goes), contracts (MET), calls by them -/
namespace Jvm.RoadKit
open Sem ClassFile Op Lib Jvm.Stand Jvm.Free Jvm.LawKit
theorem lt_nat {a b : Nat} (h : @LT.lt Addr instLTNat a b) : @LT.lt Nat instLTNat a b := h
theorem lt_ok {a b : Nat} (h : @LT.lt Nat instLTNat a b) : @LT.lt Addr instLTNat a b := h
theorem ne_ok {a b : Nat} (h : ¬ @Eq Nat a b) : @Ne Addr a b := h
theorem ne2_nat {x a b : Nat} (h : @Ne Addr x a ∧ @Ne Addr x b) : ¬ @Eq Nat x a ∧ ¬ @Eq Nat x b := h
section OwnLayer
variable {p : Program} {l : Launch} {e : Env} {R : Room} {s : State} {m : MethodId} {args : Array Value} {below : List Frame} {meth : Method} {c : Code} {T : State} {locs : List Loc} {cells slots : Nat} {Z : State} {a0 : Array Value} {h : Heap} {kc ks n0 : Nat} {Q : Option Value → Heap → Prop} {A B : State}
/-- from S the run comes to the end of this invocation, and Q holds there -/
def Goes (p : Program) (e : Env) (below : List Frame) (s : State) (kc ks n0 : Nat) (Q : Option Value → Heap → Prop) (S : State) : Prop :=
  ∃ s₂ o, Steps p.tables e below S s₂ ∧ s₂.status = .running ∧ Ended s₂ below o ∧ ∃ v L, o = .returned v ∧ (Q v s₂.heap ∧ Fr n0 L) ∧ FrameEnd s o s₂ L kc ks
theorem Goes.via (h : ∀ t, Steps p.tables e below B t → Steps p.tables e below A t) (g : Goes p e below s kc ks n0 Q B) : Goes p e below s kc ks n0 Q A := by
  obtain ⟨s₂, o, h1, h2⟩ := g
  exact ⟨s₂, o, h _ h1, h2⟩
theorem Goes.fin (X : Stand p l e R s m args below meth c T locs cells slots) {v : Option Value} {g : JFrame} (hv : meth.sig.returnType = none → v = none) (hlk : meth.locks = false) (N : Fr n0 locs) (hc : cells ≤ kc) (hs : slots ≤ ks) (hq : Q v T.heap)
    (hr : ∀ fs, (∀ (f : JFrame) (acts : List Action), f.method = m → f.locked = none → f.entered = [] → (doReturn e (T.setTop f) acts v).1 = T.setFrames fs) → Steps p.tables e below (T.setTop g) (T.setFrames fs)) : Goes p e below s kc ks n0 Q (T.setTop g) := by
  obtain ⟨fs, hr', hrun, hended, hW, hsame⟩ := X.leave hv hlk
  exact ⟨_, _, hr fs hr', hrun, hended, _, _, rfl, ⟨hq, N⟩, ⟨_, rfl⟩, hW, hsame.mono hc hs⟩
theorem goRetN (X : Stand p l e R s m args below meth c T locs cells slots) (hx : p.tables.exec = Jvm.exec) {t : FieldType} (hrt : meth.sig.returnType = some t) (ht : t = .boolean ∨ t = .byte ∨ t = .char ∨ t = .short) (hlk : meth.locks = false) (N : Fr n0 locs) (hc : cells ≤ kc) (hs : slots ≤ ks)
    {pc : Nat} {Ls : Array Slot} {z : Int32} {rest : List Value} (hd : decode c.code pc = .ok (.ireturn, 1)) (hq : Q (some (.int (nar t z))) T.heap) : Goes p e below s kc ks n0 Q (T.setTop (mkF m pc Ls (.int z :: rest))) :=
  Goes.fin X (fun q => by rw [hrt] at q; cases q) hlk N hc hs hq fun fs hr => retN X hx (t := t) hrt ht hd hr
theorem goRetO (X : Stand p l e R s m args below meth c T locs cells slots) (hx : p.tables.exec = Jvm.exec) {t : FieldType} (hrt : meth.sig.returnType = some t) (hlk : meth.locks = false) (N : Fr n0 locs) (hc : cells ≤ kc) (hs : slots ≤ ks)
    {pc : Nat} {Ls : Array Slot} {w : Value} {i : Instr} {rest : List Value} (hn : narrow t w = w)
    (hi : (i = .ireturn ∧ (t = .int ∨ t = .boolean ∨ t = .byte ∨ t = .char ∨ t = .short) ∧ ∃ z, w = .int z) ∨ (i = .lreturn ∧ t = .long ∧ ∃ z, w = .long z) ∨ (i = .dreturn ∧ t = .double ∧ ∃ z, w = .double z) ∨ (i = .freturn ∧ t = .float ∧ ∃ z, w = .float z) ∨ (i = .areturn ∧ t.isReference = true ∧ w.isRef = true))
    (hd : decode c.code pc = .ok (i, 1)) (hq : Q (some w) T.heap) : Goes p e below s kc ks n0 Q (T.setTop (mkF m pc Ls (w :: rest))) :=
  Goes.fin X (fun q => by rw [hrt] at q; cases q) hlk N hc hs hq fun fs hr => retOut X hx hrt hn hi hd hr
theorem goRetI (X : Stand p l e R s m args below meth c T locs cells slots) (hx : p.tables.exec = Jvm.exec) (hrt : meth.sig.returnType = some .int) (hlk : meth.locks = false) (N : Fr n0 locs) (hc : cells ≤ kc) (hs : slots ≤ ks)
    {pc : Nat} {Ls : Array Slot} {z : Int32} {rest : List Value} (hd : decode c.code pc = .ok (.ireturn, 1)) (hq : Q (some (.int z)) T.heap) : Goes p e below s kc ks n0 Q (T.setTop (mkF m pc Ls (.int z :: rest))) :=
  goRetO X hx hrt hlk N hc hs rfl (Or.inl ⟨rfl, Or.inl rfl, _, rfl⟩) hd hq
theorem goRetJ (X : Stand p l e R s m args below meth c T locs cells slots) (hx : p.tables.exec = Jvm.exec) (hrt : meth.sig.returnType = some .long) (hlk : meth.locks = false) (N : Fr n0 locs) (hc : cells ≤ kc) (hs : slots ≤ ks)
    {pc : Nat} {Ls : Array Slot} {z : Int64} {rest : List Value} (hd : decode c.code pc = .ok (.lreturn, 1)) (hq : Q (some (.long z)) T.heap) : Goes p e below s kc ks n0 Q (T.setTop (mkF m pc Ls (.long z :: rest))) :=
  goRetO X hx hrt hlk N hc hs rfl (Or.inr (Or.inl ⟨rfl, rfl, _, rfl⟩)) hd hq
theorem goRetA (X : Stand p l e R s m args below meth c T locs cells slots) (hx : p.tables.exec = Jvm.exec) {t : FieldType} (hrt : meth.sig.returnType = some t) (ht : t.isReference = true) (hlk : meth.locks = false) (N : Fr n0 locs) (hc : cells ≤ kc) (hs : slots ≤ ks)
    {pc : Nat} {Ls : Array Slot} {w : Value} {rest : List Value} (hw : w.isRef = true) (hd : decode c.code pc = .ok (.areturn, 1)) (hq : Q (some w) T.heap) : Goes p e below s kc ks n0 Q (T.setTop (mkF m pc Ls (w :: rest))) :=
  goRetO X hx hrt hlk N hc hs (by cases t <;> cases w <;> first | rfl | (cases ht; done) | (cases hw; done)) (Or.inr (Or.inr (Or.inr (Or.inr ⟨rfl, ht, hw⟩)))) hd hq
theorem goRetV (X : Stand p l e R s m args below meth c T locs cells slots) (hx : p.tables.exec = Jvm.exec) (hrt : meth.sig.returnType = none) (hlk : meth.locks = false) (N : Fr n0 locs) (hc : cells ≤ kc) (hs : slots ≤ ks)
    {pc : Nat} {Ls : Array Slot} (hd : decode c.code pc = .ok (.return_, 1)) (hq : Q none T.heap) : Goes p e below s kc ks n0 Q (T.setTop (mkF m pc Ls [])) :=
  Goes.fin X (fun _ => rfl) hlk N hc hs hq fun fs hr => X.returnOut hx hrt hd hr
/-- a contract: from a heap h0, with these arguments, the invocation returns and Q holds of what it returned and of the heap -/
abbrev MET (l : Launch) (Z : State) (y : MethodName) (bytes : ByteArray) (maxL : Nat) (ret : Option FieldType) (rm : Room) (as' : Array Value) (h0 : Heap) (n0 : Nat) (Q : Option Value → Heap → Prop) : Prop :=
  ∀ ws : List Jvm.Cond, MetFree l y (head1 (Jvm.Cond.code y bytes maxL ret :: ws) rm) (fun a U => a = as' ∧ Z.Warmed39 U.vm ∧ U.heap = h0) (fun _ _ _ _ _ => True) (fun _ U o U' => ∃ v L, o = .returned v ∧ (Q v U'.heap ∧ Fr n0 L) ∧ FrameEnd U o U' L rm.cells rm.slots)
theorem metOf {y : MethodName} {bytes : ByteArray} {maxL : Nat} {ret : Option FieldType} {rm : Room} {as' : Array Value} {h0 : Heap} (hpf : plainFor y = true)
    (body : ∀ (p : Program) (e : Env) (s : State) (m : MethodId) (below : List Frame) (meth : Method) (c : Code) (T : State), p.tables.exec = Jvm.exec → c.code = bytes → c.maxLocals = maxL → meth.sig.returnType = ret → meth.locks = false → meth.name = y.name → Z.Warmed39 s.vm → s.vm.findClass y.cls = some m.cls →
      Stand p l e rm s m as' below meth c T [] 0 0 → T.heap = h0 → Goes p e below s rm.cells rm.slots n0 Q (T.setTop (entryFrame m as' maxL))) : MET l Z y bytes maxL ret rm as' h0 n0 Q := by
  intro ws
  refine MetFree.of_bodySF hpf hisR ?_
  intro p e s m args below meth c s₁ Bd hml0 hP hK
  obtain ⟨rfl, hZ, hh⟩ := hP
  exact body p e s m below meth c s₁ Bd.exec Bd.bytes hml0 Bd.returns Bd.notSynchronized (name_of_methodNamed Bd.named Bd.method).1 hZ (findClass_of_methodNamed Bd.named) (Stand.of_body Bd) (by rw [← hh, Bd.state]; rfl)
theorem goCast {g g' : JFrame} (q : g = g') (k : Goes p e below s kc ks n0 Q (T.setTop g')) : Goes p e below s kc ks n0 Q (T.setTop g) := q ▸ k
theorem iincZ {tb : Tables} [Ours tb] {target : State} {g : JFrame} (h : At T m c below) (hx : tb.exec = Jvm.exec) (hg : g.method = m) {k : Nat} {cst : Int} {x : Int32} {l' : Array Slot} (z : Int32) (hd : decode c.code g.pc = .ok (.iinc k cst, 3)) (hz : x + Int32.ofInt cst = z) (hl : g.locals[k]? = some (.val (.int x))) (hl' : storeLocals g.locals k (.int z) = some l')
    (hr : Steps tb e below (T.setTop { g with pc := g.pc + 3, locals := l' }) target) : Steps tb e below (T.setTop g) target := XS.iinc h hx hg hd hl (hz ▸ hl') hr
theorem all_getD {P : Value → Prop} {d : Value} (hd : P d) : ∀ (vs : List Value) (i : Nat), (∀ v ∈ vs, P v) → P (vs.getD i d)
  | [], i, _ => by simpa using hd
  | v :: vs, 0, q => by simpa using q v (List.mem_cons_self ..)
  | v :: vs, i + 1, q => by simpa using all_getD hd vs i fun w hw => q w (List.mem_cons_of_mem _ hw)
/-! calls by a contract -/
section Calls
variable {own C : String} {index : Nat} {y z : MethodName} {bytes : ByteArray} {maxL : Nat} {ret : Option FieldType} {rm : Room} {as' : Array Value} {Qc : Option Value → Heap → Prop} {W : Nat} {g : JFrame} {argsL rest : List Value} {a : Addr}
theorem callSt (X : Stand p l e R s m args below meth c T locs cells slots) (hx : p.tables.exec = Jvm.exec) (hZ : Z.Warmed39 s.vm) (hown : s.vm.findClass own = some m.cls) (hM : MET l Z y bytes maxL ret rm as' h n0 Qc) (w1 : (Jvm.Cond.methodLink own index y).before a0 Z = true) (w2 : (Jvm.Cond.static y).before a0 Z = true) (w3 : (Jvm.Cond.initialized y.cls).before a0 Z = true) (w4 : (Jvm.Cond.code y bytes maxL ret).before a0 Z = true)
    (hy : y.cls ≠ "java/lang/invoke/MethodHandle" ∧ y.cls ≠ "java/lang/invoke/VarHandle") (eT : T.heap = h) (hf : rm.frames + 1 ≤ R.frames) (hl : W + (maxL + 11) + rm.locals ≤ R.locals) (hc : cells + rm.cells ≤ R.cells) (hsl : slots + rm.slots ≤ R.slots)
    (hg : g.method = m) (hsize : g.locals.size = c.maxLocals) (ha : argsL.toArray = as') (hlen : ∀ sig, parseMethodDescriptor y.desc = some sig → argsL.length = sig.parameters.length) (hs : g.stack = argsL.reverse ++ rest) (hW : 2 * g.monitorRoom + (rest.map fun v => v.category).sum ≤ W) (hd : decode c.code g.pc = .ok (.invokestatic index, 3)) :
    ∃ (v : Option Value) (T' : State) (L : List Loc), Stand p l e R s m args below meth c T' (locs ++ L) (cells + rm.cells) (slots + rm.slots) ∧ Qc v T'.heap ∧ Fr n0 L ∧ ∀ t, Steps p.tables e below (T'.setTop { g with pc := g.pc + 3, stack := v.toList ++ rest }) t → Steps p.tables e below (T.setTop g) t := by
  obtain ⟨v, _, ⟨T', L', k', n'⟩, -, X', ⟨Lc, ⟨hq, hn⟩, e1, e2, e3⟩, st⟩ := Jvm.LawKit.callS X hx (y := y) hown (mvT hZ w1) (mvT hZ w2) (mvT hZ w3) (mvT hZ w4) hy (backOf (W := W) (Q := fun v h L => Qc v h ∧ Fr n0 L) (hM []) hZ w4 w3 hf hl) hg hsize hlen hs hW hd (fun _ _ => ⟨ha, eT, hc, hsl⟩)
  dsimp only [Pt.U, Pt.locs, Pt.cells, Pt.slots] at X' e1 e2 e3 st hq
  subst e1 e2 e3
  exact ⟨v, T', Lc, X', hq, hn, st⟩
theorem callSp (X : Stand p l e R s m args below meth c T locs cells slots) (hx : p.tables.exec = Jvm.exec) (hZ : Z.Warmed39 s.vm) (hown : s.vm.findClass own = some m.cls) (hM : MET l Z y bytes maxL none rm as' h n0 Qc) (hin : y.name = "<init>") (w1 : (Jvm.Cond.methodLink own index y).before a0 Z = true) (w2 : (Jvm.Cond.instanceMethod y).before a0 Z = true) (w3 : (Jvm.Cond.initialized y.cls).before a0 Z = true) (w4 : (Jvm.Cond.code y bytes maxL none).before a0 Z = true)
    (hy : y.cls ≠ "java/lang/invoke/MethodHandle" ∧ y.cls ≠ "java/lang/invoke/VarHandle") (eT : T.heap = h) (hf : rm.frames + 1 ≤ R.frames) (hl : W + (maxL + 11) + rm.locals ≤ R.locals) (hc : cells + rm.cells ≤ R.cells) (hsl : slots + rm.slots ≤ R.slots)
    (hg : g.method = m) (hsize : g.locals.size = c.maxLocals) (ha : (Value.ref a :: argsL).toArray = as') (hlen : ∀ sig, parseMethodDescriptor y.desc = some sig → argsL.length = sig.parameters.length) (hs : g.stack = argsL.reverse ++ .ref a :: rest) (hW : 2 * g.monitorRoom + (rest.map fun v => v.category).sum ≤ W) (hd : decode c.code g.pc = .ok (.invokespecial index, 3)) :
    ∃ (v : Option Value) (T' : State) (L : List Loc), Stand p l e R s m args below meth c T' (locs ++ L) (cells + rm.cells) (slots + rm.slots) ∧ Qc v T'.heap ∧ Fr n0 L ∧ ∀ t, Steps p.tables e below (T'.setTop { g with pc := g.pc + 3, stack := v.toList ++ rest }) t → Steps p.tables e below (T.setTop g) t := by
  obtain ⟨v, _, ⟨T', L', k', n'⟩, -, X', ⟨Lc, ⟨hq, hn⟩, e1, e2, e3⟩, st⟩ := X.specialBack hx (y := y) hin hown (mvT hZ w1) (mvT hZ w2) (mvT hZ w4) hy (backOf (W := W) (Q := fun v h L => Qc v h ∧ Fr n0 L) (hM []) hZ w4 w3 hf hl) hg hsize (Steps.refl _) (a := a) (argsL := argsL) (rest := rest) hlen hs hW hd (fun _ _ => ⟨ha, eT, hc, hsl⟩)
  dsimp only [Pt.U, Pt.locs, Pt.cells, Pt.slots] at X' e1 e2 e3 st hq
  subst e1 e2 e3
  exact ⟨v, T', Lc, X', hq, hn, fun t k => st.trans k⟩
theorem callVi (X : Stand p l e R s m args below meth c T locs cells slots) (hx : p.tables.exec = Jvm.exec) (hZ : Z.Warmed39 s.vm) (hown : s.vm.findClass own = some m.cls) (hM : MET l Z z bytes maxL ret rm as' h n0 Qc) (w1 : (Jvm.Cond.methodLink own index y).before a0 Z = true) (w2 : (Jvm.Cond.declares y).before a0 Z = true) (nf : NotFace s y) (w5 : (Jvm.Cond.selects C y z).before a0 Z = true) (w6 : (Jvm.Cond.instanceMethod z).before a0 Z = true) (w3 : (Jvm.Cond.initialized z.cls).before a0 Z = true) (w4 : (Jvm.Cond.code z bytes maxL ret).before a0 Z = true)
    (hy : y.cls ≠ "java/lang/invoke/MethodHandle" ∧ y.cls ≠ "java/lang/invoke/VarHandle") (eT : T.heap = h) (E : Exa Z h a C) (hf : rm.frames + 1 ≤ R.frames) (hl : W + (maxL + 11) + rm.locals ≤ R.locals) (hc : cells + rm.cells ≤ R.cells) (hsl : slots + rm.slots ≤ R.slots)
    (hg : g.method = m) (hsize : g.locals.size = c.maxLocals) (ha : (Value.ref a :: argsL).toArray = as') (hlen : ∀ sig, parseMethodDescriptor y.desc = some sig → argsL.length = sig.parameters.length) (hs : g.stack = argsL.reverse ++ .ref a :: rest) (hW : 2 * g.monitorRoom + (rest.map fun v => v.category).sum ≤ W) (hd : decode c.code g.pc = .ok (.invokevirtual index, 3)) :
    ∃ (v : Option Value) (T' : State) (L : List Loc), Stand p l e R s m args below meth c T' (locs ++ L) (cells + rm.cells) (slots + rm.slots) ∧ Qc v T'.heap ∧ Fr n0 L ∧ ∀ t, Steps p.tables e below (T'.setTop { g with pc := g.pc + 3, stack := v.toList ++ rest }) t → Steps p.tables e below (T.setTop g) t := by
  obtain ⟨cq, kq, qa, qb, qc⟩ := isOf hZ eT E
  obtain ⟨v, _, ⟨T', L', k', n'⟩, -, X', ⟨Lc, ⟨hq, hn⟩, e1, e2, e3⟩, st⟩ := X.virtualBack hx (y := y) (z := z) hown (mvT hZ w1) (mvT hZ w2) nf (mvT hZ w5) (mvT hZ w6) hy (backOf (W := W) (Q := fun v h L => Qc v h ∧ Fr n0 L) (hM []) hZ w4 w3 hf hl) qa qc hg hsize (Steps.refl _) (argsL := argsL) (rest := rest) hlen hs hW hd (fun _ _ => ⟨ha, eT, hc, hsl⟩)
  dsimp only [Pt.U, Pt.locs, Pt.cells, Pt.slots] at X' e1 e2 e3 st hq
  subst e1 e2 e3
  exact ⟨v, T', Lc, X', hq, hn, fun t k => st.trans k⟩
theorem callUp {owner : String} (X : Stand p l e R s m args below meth c T locs cells slots) (hx : p.tables.exec = Jvm.exec) (hZ : Z.Warmed39 s.vm) (hown : s.vm.findClass own = some m.cls) (hM : MET l Z z bytes maxL ret rm as' h n0 Qc) (w1 : (Jvm.Cond.methodLink own index y).before a0 Z = true) (w7 : (Jvm.Cond.sameMethod y.cls owner y.name y.desc).before a0 Z = true) (w2 : (Jvm.Cond.declares ⟨owner, y.name, y.desc⟩).before a0 Z = true) (w5 : (Jvm.Cond.selects C y z).before a0 Z = true) (w6 : (Jvm.Cond.instanceMethod z).before a0 Z = true) (w3 : (Jvm.Cond.initialized z.cls).before a0 Z = true) (w4 : (Jvm.Cond.code z bytes maxL ret).before a0 Z = true)
    (hy : owner ≠ "java/lang/invoke/MethodHandle" ∧ owner ≠ "java/lang/invoke/VarHandle") (eT : T.heap = h) (E : Exa Z h a C) (hf : rm.frames + 1 ≤ R.frames) (hl : W + (maxL + 11) + rm.locals ≤ R.locals) (hc : cells + rm.cells ≤ R.cells) (hsl : slots + rm.slots ≤ R.slots)
    (hg : g.method = m) (hsize : g.locals.size = c.maxLocals) (ha : (Value.ref a :: argsL).toArray = as') (hlen : ∀ sig, parseMethodDescriptor y.desc = some sig → argsL.length = sig.parameters.length) (hs : g.stack = argsL.reverse ++ .ref a :: rest) (hW : 2 * g.monitorRoom + (rest.map fun v => v.category).sum ≤ W) (hd : decode c.code g.pc = .ok (.invokevirtual index, 3)) :
    ∃ (v : Option Value) (T' : State) (L : List Loc), Stand p l e R s m args below meth c T' (locs ++ L) (cells + rm.cells) (slots + rm.slots) ∧ Qc v T'.heap ∧ Fr n0 L ∧ ∀ t, Steps p.tables e below (T'.setTop { g with pc := g.pc + 3, stack := v.toList ++ rest }) t → Steps p.tables e below (T.setTop g) t := by
  obtain ⟨cq, kq, qa, qb, qc⟩ := isOf hZ eT E
  obtain ⟨v, _, ⟨T', L', k', n'⟩, -, X', ⟨Lc, ⟨hq, hn⟩, e1, e2, e3⟩, st⟩ := X.virtualBackUp hx (x := y) (y := z) hown (mvT hZ w1) (mvT hZ w7) (mvT hZ w2) hy (mvT hZ w5) (mvT hZ w6) (backOf (W := W) (Q := fun v h L => Qc v h ∧ Fr n0 L) (hM []) hZ w4 w3 hf hl) qa qc hg hsize (Steps.refl _) (argsL := argsL) (rest := rest) hlen hs hW hd (fun _ _ => ⟨ha, eT, hc, hsl⟩)
  dsimp only [Pt.U, Pt.locs, Pt.cells, Pt.slots] at X' e1 e2 e3 st hq
  subst e1 e2 e3
  exact ⟨v, T', Lc, X', hq, hn, fun t k => st.trans k⟩
theorem callIf {count : Nat} (X : Stand p l e R s m args below meth c T locs cells slots) (hx : p.tables.exec = Jvm.exec) (hZ : Z.Warmed39 s.vm) (hown : s.vm.findClass own = some m.cls) (hM : MET l Z z bytes maxL ret rm as' h n0 Qc) (w1 : (Jvm.Cond.methodLink own index y).before a0 Z = true) (w2 : (Jvm.Cond.declares y).before a0 Z = true) (w7 : ∀ s' : State, Z.Warmed39 s'.vm → (Jvm.Cond.interfaceMethod y.cls y.cls y.name y.desc).before args s' = true) (w5 : (Jvm.Cond.selects C y z).before a0 Z = true) (w6 : (Jvm.Cond.instanceMethod z).before a0 Z = true) (w8 : (Jvm.Cond.publicMethod z).before a0 Z = true) (w9 : (Jvm.Cond.unhidden C y.name y.desc).before a0 Z = true) (w10 : (Jvm.Cond.castable C y.cls).before a0 Z = true) (w3 : (Jvm.Cond.initialized z.cls).before a0 Z = true) (w4 : (Jvm.Cond.code z bytes maxL ret).before a0 Z = true)
    (hy : y.cls ≠ "java/lang/invoke/MethodHandle" ∧ y.cls ≠ "java/lang/invoke/VarHandle") (eT : T.heap = h) (E : Exa Z h a C) (hf : rm.frames + 1 ≤ R.frames) (hl : W + (maxL + 11) + rm.locals ≤ R.locals) (hc : cells + rm.cells ≤ R.cells) (hsl : slots + rm.slots ≤ R.slots)
    (hg : g.method = m) (hsize : g.locals.size = c.maxLocals) (ha : (Value.ref a :: argsL).toArray = as') (hlen : ∀ sig, parseMethodDescriptor y.desc = some sig → argsL.length = sig.parameters.length) (hs : g.stack = argsL.reverse ++ .ref a :: rest) (hW : 2 * g.monitorRoom + (rest.map fun v => v.category).sum ≤ W) (hd : decode c.code g.pc = .ok (.invokeinterface index count, 5)) :
    ∃ (v : Option Value) (T' : State) (L : List Loc), Stand p l e R s m args below meth c T' (locs ++ L) (cells + rm.cells) (slots + rm.slots) ∧ Qc v T'.heap ∧ Fr n0 L ∧ ∀ t, Steps p.tables e below (T'.setTop { g with pc := g.pc + 5, stack := v.toList ++ rest }) t → Steps p.tables e below (T.setTop g) t := by
  obtain ⟨cq, kq, qa, qb, qc⟩ := isOf hZ eT E
  obtain ⟨v, _, ⟨T', L', k', n'⟩, -, X', ⟨Lc, ⟨hq, hn⟩, e1, e2, e3⟩, st⟩ := X.interfaceBack hx (xi := y) (y := z) hown (mvT hZ w1) (mvT hZ w2) (w7 s hZ) (mvT hZ w5) (mvT hZ w6) (mvT hZ w8) (mvT hZ w9) (mvT hZ w10) hy (backOf (W := W) (Q := fun v h L => Qc v h ∧ Fr n0 L) (hM []) hZ w4 w3 hf hl) qa qb qc hg hsize (Steps.refl _) (argsL := argsL) (rest := rest) hlen hs hW hd (fun _ _ => ⟨ha, eT, hc, hsl⟩)
  dsimp only [Pt.U, Pt.locs, Pt.cells, Pt.slots] at X' e1 e2 e3 st hq
  subst e1 e2 e3
  exact ⟨v, T', Lc, X', hq, hn, fun t k => st.trans k⟩
end Calls
end OwnLayer
end Jvm.RoadKit

/-! facts of the start, out of the sheet's words -/
namespace Jvm.RoadKit
open Sem ClassFile Op Lib Jvm.Stand Jvm.Free Jvm.LawKit
section OwnStart
variable {Z : State} {args : Array Value} {t : Term} {a : Addr} {c : Cell} {ty : FieldType} {n : Int32} {dv : Value} {n0 : Nat} {h h' : Heap} {ws : List Addr}
theorem Old.le (X : Old Z n0 h) : n0 ≤ h.size := X.1 ▸ X.2.1
theorem len_start (ev : t.eval args Z none [] Z = some (.ref a)) (A : Arr Z Z.heap a c ty) (hl : (Jvm.Cond.eq (.length t) (.int n)).value args Z none Z [] = some true) : c.slots.size < 2 ^ 31 ∧ c.slots.size.toInt32 = n := by
  have ha : Z.arrayAt? a = some c := A.fin (Vm.Alike.refl _)
  by_cases q : c.slots.size < 2 ^ 31
  · exact ⟨q, gotT (Cond.eq_ints (len_f ev ha q) (Term.int_eval n)) hl⟩
  · simp [Cond.value, Term.eval, ev, ha, q] at hl
theorem arv_start (hf : Fit Z) (ev : t.eval args Z none [] Z = some (.ref a)) (A : Arr Z Z.heap a c ty) (hl : (Jvm.Cond.eq (.length t) (.int n)).value args Z none Z [] = some true) : Arv Z Z.heap a c.cls ty n c.slots.toList dv := by
  obtain ⟨q1, q2⟩ := len_start ev A hl
  have hz : ¬ n < 0 := by
    rw [← q2, Int32.lt_iff_toInt_lt, len_toInt q1]
    have : (0 : Int32).toInt = 0 := by decide
    omega
  have hs : c.slots.size = n.toNatClampNeg := by
    have := len_toInt q1
    rw [q2] at this
    rw [Int32.toNatClampNeg, this]; rfl
  have g : ∀ i, i < c.slots.size → c.slots[i]? = some (c.slots.toList.getD i dv) := fun i hi => by
    simp [hi]
  refine ⟨c, A, rfl, hs, hz, g, fun i hi => ?_⟩
  have hj : ¬ ((Int32.ofNat i) < 0 ∨ c.slots.size ≤ (Int32.ofNat i).toNatClampNeg) := idx_in hi q1
  obtain ⟨v, e1, e2⟩ := elem_fit hf A hj
  have e3 : (Int32.ofNat i).toNatClampNeg = i := by
    have := len_toInt (n := i) (by omega)
    rw [Int32.toNatClampNeg, show (Int32.ofNat i).toInt = (i : Int) from this]; rfl
  rw [e3, g i hi] at e1
  cases e1
  exact e2
theorem eq_int {u : Term} {o : Option Outcome} {first : State} {idx : List Nat} (hl : (Jvm.Cond.eq u (.int n)).value args first o Z idx = some true) : u.eval args first o idx Z = some (.int n) := by
  obtain ⟨x, y, e1, e2, k1, k2⟩ := cmp_v (Or.inl hl)
  have e3 : Term.eval args first o idx Z (.int n) = some (.int n) := rfl
  cases (e3.symm.trans e2)
  obtain ⟨z, rfl⟩ := k2
  have q := gotT (Cond.eq_ints e1 e2) hl
  rw [e1, q]
theorem eq_long {n : Int64} {u : Term} {o : Option Outcome} {first : State} {idx : List Nat} (hl : (Jvm.Cond.eq u (.long n)).value args first o Z idx = some true) : u.eval args first o idx Z = some (.long n) := by
  obtain ⟨x, y, e1, e2, k1, k2⟩ := cmp_v (Or.inl hl)
  have e3 : Term.eval args first o idx Z (.long n) = some (.long n) := rfl
  cases (e3.symm.trans e2)
  obtain ⟨z, rfl⟩ := k2
  have q := gotT (eq_L e1 e2) hl
  rw [e1, q]
theorem eq_ref {x : Addr} {u w : Term} {o : Option Outcome} {first : State} {idx : List Nat} (hl : (Jvm.Cond.eq u w).value args first o Z idx = some true) (hw : w.eval args first o idx Z = some (.ref x)) : u.eval args first o idx Z = some (.ref x) := by
  obtain ⟨v, y, e1, e2, k1, k2⟩ := cmp_v (Or.inl hl)
  cases (hw.symm.trans e2)
  have q := gotT (eq_R e1 e2 k2.2 rfl) hl
  rw [e1, q]
theorem ins_keep {C : String} (F : Ins Z h a C true) (K : Keep h h' ws) : Ins Z h' a C true := by
  obtain ⟨cell, cT, h1, h2, h3⟩ := F
  obtain ⟨c', e1, e2, e3, -⟩ := K.2.2 a cell h1
  exact ⟨c', cT, e1, h2, by rw [e2, e3]; exact h3⟩
theorem arr_keep (F : Arr Z h a c ty) (K : Keep h h' ws) (q : a ∉ ws) : Arr Z h' a c ty := ⟨K.2.1 a c F.1 q, F.2⟩
end OwnStart
end Jvm.RoadKit

namespace Jvm.Pilot.@@N@@
open Jvm Jvm.ClassFile Sem Op Lib Jvm.Free Jvm.Stand Jvm.LawKit Jvm.RoadKit Bundle Jvm.Pilot.@@N@@.Jvm.D
theorem W_0 {Z : State} {aw : Array Value} (hw : ∀ d ∈ tables_1, d.before aw Z = true) : (Jvm.Cond.arrayClass Jvm.ClassFile.FieldType.long).before aw Z = true := hw _ (List.mem_of_getElem? (i := 0) rfl)
theorem W_1 {Z : State} {aw : Array Value} (hw : ∀ d ∈ tables_1, d.before aw Z = true) : (Jvm.Cond.constantLong "com/example/primevertical/primevertical/DecimalTextDigitCountPinLaw" (7 : Nat) (10 : Int64)).before aw Z = true := hw _ (List.mem_of_getElem? (i := 1) rfl)
theorem W_2 {Z : State} {aw : Array Value} (hw : ∀ d ∈ tables_1, d.before aw Z = true) : (Jvm.Cond.constantLong "com/example/primevertical/primevertical/DecimalTextDigitCountPinLaw" (9 : Nat) (100 : Int64)).before aw Z = true := hw _ (List.mem_of_getElem? (i := 2) rfl)
theorem W_3 {Z : State} {aw : Array Value} (hw : ∀ d ∈ tables_1, d.before aw Z = true) : (Jvm.Cond.constantLong "com/example/primevertical/primevertical/DecimalTextDigitCountPinLaw" (11 : Nat) (1000 : Int64)).before aw Z = true := hw _ (List.mem_of_getElem? (i := 3) rfl)
theorem W_4 {Z : State} {aw : Array Value} (hw : ∀ d ∈ tables_1, d.before aw Z = true) : (Jvm.Cond.constantLong "com/example/primevertical/primevertical/DecimalTextDigitCountPinLaw" (13 : Nat) (10000 : Int64)).before aw Z = true := hw _ (List.mem_of_getElem? (i := 4) rfl)
theorem W_5 {Z : State} {aw : Array Value} (hw : ∀ d ∈ tables_1, d.before aw Z = true) : (Jvm.Cond.constantLong "com/example/primevertical/primevertical/DecimalTextDigitCountPinLaw" (15 : Nat) (100000 : Int64)).before aw Z = true := hw _ (List.mem_of_getElem? (i := 5) rfl)
theorem W_6 {Z : State} {aw : Array Value} (hw : ∀ d ∈ tables_1, d.before aw Z = true) : (Jvm.Cond.constantLong "com/example/primevertical/primevertical/DecimalTextDigitCountPinLaw" (17 : Nat) (1000000 : Int64)).before aw Z = true := hw _ (List.mem_of_getElem? (i := 6) rfl)
theorem W_7 {Z : State} {aw : Array Value} (hw : ∀ d ∈ tables_1, d.before aw Z = true) : (Jvm.Cond.constantLong "com/example/primevertical/primevertical/DecimalTextDigitCountPinLaw" (19 : Nat) (10000000 : Int64)).before aw Z = true := hw _ (List.mem_of_getElem? (i := 7) rfl)
theorem W_8 {Z : State} {aw : Array Value} (hw : ∀ d ∈ tables_1, d.before aw Z = true) : (Jvm.Cond.constantLong "com/example/primevertical/primevertical/DecimalTextDigitCountPinLaw" (21 : Nat) (100000000 : Int64)).before aw Z = true := hw _ (List.mem_of_getElem? (i := 8) rfl)
theorem W_9 {Z : State} {aw : Array Value} (hw : ∀ d ∈ tables_1, d.before aw Z = true) : (Jvm.Cond.constantLong "com/example/primevertical/primevertical/DecimalTextDigitCountPinLaw" (23 : Nat) (1000000000 : Int64)).before aw Z = true := hw _ (List.mem_of_getElem? (i := 9) rfl)
theorem W_10 {Z : State} {aw : Array Value} (hw : ∀ d ∈ tables_1, d.before aw Z = true) : (Jvm.Cond.constantLong "com/example/primevertical/primevertical/DecimalTextDigitCountPinLaw" (25 : Nat) (10000000000 : Int64)).before aw Z = true := hw _ (List.mem_of_getElem? (i := 10) rfl)
theorem W_11 {Z : State} {aw : Array Value} (hw : ∀ d ∈ tables_1, d.before aw Z = true) : (Jvm.Cond.constantLong "com/example/primevertical/primevertical/DecimalTextDigitCountPinLaw" (27 : Nat) (100000000000 : Int64)).before aw Z = true := hw _ (List.mem_of_getElem? (i := 11) rfl)
theorem W_12 {Z : State} {aw : Array Value} (hw : ∀ d ∈ tables_1, d.before aw Z = true) : (Jvm.Cond.constantLong "com/example/primevertical/primevertical/DecimalTextDigitCountPinLaw" (29 : Nat) (1000000000000 : Int64)).before aw Z = true := hw _ (List.mem_of_getElem? (i := 12) rfl)
theorem W_13 {Z : State} {aw : Array Value} (hw : ∀ d ∈ tables_1, d.before aw Z = true) : (Jvm.Cond.constantLong "com/example/primevertical/primevertical/DecimalTextDigitCountPinLaw" (31 : Nat) (10000000000000 : Int64)).before aw Z = true := hw _ (List.mem_of_getElem? (i := 13) rfl)
theorem W_14 {Z : State} {aw : Array Value} (hw : ∀ d ∈ tables_1, d.before aw Z = true) : (Jvm.Cond.constantLong "com/example/primevertical/primevertical/DecimalTextDigitCountPinLaw" (33 : Nat) (100000000000000 : Int64)).before aw Z = true := hw _ (List.mem_of_getElem? (i := 14) rfl)
theorem W_15 {Z : State} {aw : Array Value} (hw : ∀ d ∈ tables_1, d.before aw Z = true) : (Jvm.Cond.constantLong "com/example/primevertical/primevertical/DecimalTextDigitCountPinLaw" (35 : Nat) (1000000000000000 : Int64)).before aw Z = true := hw _ (List.mem_of_getElem? (i := 15) rfl)
theorem W_16 {Z : State} {aw : Array Value} (hw : ∀ d ∈ tables_1, d.before aw Z = true) : (Jvm.Cond.constantLong "com/example/primevertical/primevertical/DecimalTextDigitCountPinLaw" (37 : Nat) (10000000000000000 : Int64)).before aw Z = true := hw _ (List.mem_of_getElem? (i := 16) rfl)
theorem W_17 {Z : State} {aw : Array Value} (hw : ∀ d ∈ tables_1, d.before aw Z = true) : (Jvm.Cond.constantLong "com/example/primevertical/primevertical/DecimalTextDigitCountPinLaw" (39 : Nat) (100000000000000000 : Int64)).before aw Z = true := hw _ (List.mem_of_getElem? (i := 17) rfl)
theorem W_18 {Z : State} {aw : Array Value} (hw : ∀ d ∈ tables_1, d.before aw Z = true) : (Jvm.Cond.constantLong "com/example/primevertical/primevertical/DecimalTextDigitCountPinLaw" (41 : Nat) (1000000000000000000 : Int64)).before aw Z = true := hw _ (List.mem_of_getElem? (i := 18) rfl)
theorem W_19 {Z : State} {aw : Array Value} (hw : ∀ d ∈ tables_1, d.before aw Z = true) : (Jvm.Cond.methodLink "com/example/primevertical/primevertical/DecimalTextDigitCountPinLaw" (47 : Nat) ({ cls := "com/example/primevertical/primevertical/DecimalText", name := "digitCount", desc := "(J)I" } : Jvm.MethodName)).before aw Z = true := hw _ (List.mem_of_getElem? (i := 19) rfl)
theorem W_20 {Z : State} {aw : Array Value} (hw : ∀ d ∈ tables_1, d.before aw Z = true) : (Jvm.Cond.static ({ cls := "com/example/primevertical/primevertical/DecimalText", name := "digitCount", desc := "(J)I" } : Jvm.MethodName)).before aw Z = true := hw _ (List.mem_of_getElem? (i := 20) rfl)
theorem W_21 {Z : State} {aw : Array Value} (hw : ∀ d ∈ tables_1, d.before aw Z = true) : (Jvm.Cond.initialized "com/example/primevertical/primevertical/DecimalText").before aw Z = true := hw _ (List.mem_of_getElem? (i := 21) rfl)
theorem W_22 {Z : State} {aw : Array Value} (hw : ∀ d ∈ tables_1, d.before aw Z = true) : (Jvm.Cond.code ({ cls := "com/example/primevertical/primevertical/DecimalText", name := "digitCount", desc := "(J)I" } : Jvm.MethodName) prog_4_method_21_code (3 : Nat) (Option.some Jvm.ClassFile.FieldType.int)).before aw Z = true := hw _ (List.mem_of_getElem? (i := 22) rfl)
theorem W_23 {Z : State} {aw : Array Value} (hw : ∀ d ∈ tables_1, d.before aw Z = true) : (Jvm.Cond.fieldLink "com/example/primevertical/primevertical/DecimalText" (272 : Nat) "com/example/primevertical/primevertical/DecimalText" "LONG_POWERS_OF_TEN" "[J").before aw Z = true := hw _ (List.mem_of_getElem? (i := 23) rfl)
theorem W_24 {Z : State} {aw : Array Value} (hw : ∀ d ∈ tables_1, d.before aw Z = true) : (Jvm.Cond.laysStatic "com/example/primevertical/primevertical/DecimalText" "LONG_POWERS_OF_TEN" "[J").before aw Z = true := hw _ (List.mem_of_getElem? (i := 24) rfl)
theorem W_25 {Z : State} {aw : Array Value} (hw : ∀ d ∈ tables_1, d.before aw Z = true) : (Jvm.Cond.constantLong "com/example/primevertical/primevertical/DecimalTextDigitCountPinLaw" (45 : Nat) (9223372036854775807 : Int64)).before aw Z = true := hw _ (List.mem_of_getElem? (i := 25) rfl)
theorem d_prog_4_method_21_code_0 : decode prog_4_method_21_code 0 = .ok (.iconst 1, 1) := by decide +kernel
theorem d_prog_4_method_21_code_1 : decode prog_4_method_21_code 1 = .ok (.istore_n 2, 1) := by decide +kernel
theorem d_prog_4_method_21_code_2 : decode prog_4_method_21_code 2 = .ok (.iload_n 2, 1) := by decide +kernel
theorem d_prog_4_method_21_code_3 : decode prog_4_method_21_code 3 = .ok (.getstatic 272, 3) := by decide +kernel
theorem d_prog_4_method_21_code_6 : decode prog_4_method_21_code 6 = .ok (.arraylength, 1) := by decide +kernel
theorem d_prog_4_method_21_code_7 : decode prog_4_method_21_code 7 = .ok (.if_icmp .ge 19, 3) := by decide +kernel
theorem d_prog_4_method_21_code_10 : decode prog_4_method_21_code 10 = .ok (.lload_n 0, 1) := by decide +kernel
theorem d_prog_4_method_21_code_11 : decode prog_4_method_21_code 11 = .ok (.getstatic 272, 3) := by decide +kernel
theorem d_prog_4_method_21_code_14 : decode prog_4_method_21_code 14 = .ok (.iload_n 2, 1) := by decide +kernel
theorem d_prog_4_method_21_code_15 : decode prog_4_method_21_code 15 = .ok (.laload, 1) := by decide +kernel
theorem d_prog_4_method_21_code_16 : decode prog_4_method_21_code 16 = .ok (.lcmp, 1) := by decide +kernel
theorem d_prog_4_method_21_code_17 : decode prog_4_method_21_code 17 = .ok (.ifCond .lt 9, 3) := by decide +kernel
theorem d_prog_4_method_21_code_26 : decode prog_4_method_21_code 26 = .ok (.iload_n 2, 1) := by decide +kernel
theorem d_prog_4_method_21_code_27 : decode prog_4_method_21_code 27 = .ok (.ireturn, 1) := by decide +kernel
theorem d_prog_4_method_21_code_20 : decode prog_4_method_21_code 20 = .ok (.iinc 2 1, 3) := by decide +kernel
theorem d_prog_4_method_21_code_23 : decode prog_4_method_21_code 23 = .ok (.goto (-21), 3) := by decide +kernel
theorem pn_0 : plainName "com/example/primevertical/primevertical/DecimalText" = true := by first | (simp [plainName, overriddenIn]; done) | decide +kernel
theorem pd_1 : parseMethodDescriptor "(J)I" = some ⟨[.long], some .int⟩ := by decide +kernel
theorem pn_2 : plainName "com/example/primevertical/primevertical/DecimalTextDigitCountPinLaw" = true := by first | (simp [plainName, overriddenIn]; done) | decide +kernel
def dig (v : Int64) : Int32 :=
  if v < (10 : Int64) then 1 else
  if v < (100 : Int64) then 2 else
  if v < (1000 : Int64) then 3 else
  if v < (10000 : Int64) then 4 else
  if v < (100000 : Int64) then 5 else
  if v < (1000000 : Int64) then 6 else
  if v < (10000000 : Int64) then 7 else
  if v < (100000000 : Int64) then 8 else
  if v < (1000000000 : Int64) then 9 else
  if v < (10000000000 : Int64) then 10 else
  if v < (100000000000 : Int64) then 11 else
  if v < (1000000000000 : Int64) then 12 else
  if v < (10000000000000 : Int64) then 13 else
  if v < (100000000000000 : Int64) then 14 else
  if v < (1000000000000000 : Int64) then 15 else
  if v < (10000000000000000 : Int64) then 16 else
  if v < (100000000000000000 : Int64) then 17 else
  if v < (1000000000000000000 : Int64) then 18 else 19
theorem dig_cases (v : Int64) : (dig v = (1 : Int32) ∧ v < (10 : Int64)) ∨ (dig v = (2 : Int32) ∧ ¬ v < (10 : Int64) ∧ v < (100 : Int64)) ∨ (dig v = (3 : Int32) ∧ ¬ v < (100 : Int64) ∧ v < (1000 : Int64)) ∨ (dig v = (4 : Int32) ∧ ¬ v < (1000 : Int64) ∧ v < (10000 : Int64)) ∨ (dig v = (5 : Int32) ∧ ¬ v < (10000 : Int64) ∧ v < (100000 : Int64)) ∨ (dig v = (6 : Int32) ∧ ¬ v < (100000 : Int64) ∧ v < (1000000 : Int64)) ∨ (dig v = (7 : Int32) ∧ ¬ v < (1000000 : Int64) ∧ v < (10000000 : Int64)) ∨ (dig v = (8 : Int32) ∧ ¬ v < (10000000 : Int64) ∧ v < (100000000 : Int64)) ∨ (dig v = (9 : Int32) ∧ ¬ v < (100000000 : Int64) ∧ v < (1000000000 : Int64)) ∨ (dig v = (10 : Int32) ∧ ¬ v < (1000000000 : Int64) ∧ v < (10000000000 : Int64)) ∨ (dig v = (11 : Int32) ∧ ¬ v < (10000000000 : Int64) ∧ v < (100000000000 : Int64)) ∨ (dig v = (12 : Int32) ∧ ¬ v < (100000000000 : Int64) ∧ v < (1000000000000 : Int64)) ∨ (dig v = (13 : Int32) ∧ ¬ v < (1000000000000 : Int64) ∧ v < (10000000000000 : Int64)) ∨ (dig v = (14 : Int32) ∧ ¬ v < (10000000000000 : Int64) ∧ v < (100000000000000 : Int64)) ∨ (dig v = (15 : Int32) ∧ ¬ v < (100000000000000 : Int64) ∧ v < (1000000000000000 : Int64)) ∨ (dig v = (16 : Int32) ∧ ¬ v < (1000000000000000 : Int64) ∧ v < (10000000000000000 : Int64)) ∨ (dig v = (17 : Int32) ∧ ¬ v < (10000000000000000 : Int64) ∧ v < (100000000000000000 : Int64)) ∨ (dig v = (18 : Int32) ∧ ¬ v < (100000000000000000 : Int64) ∧ v < (1000000000000000000 : Int64)) ∨ (dig v = (19 : Int32) ∧ ¬ v < (1000000000000000000 : Int64)) := by
  by_cases q1 : v < (10 : Int64)
  · exact Or.inl ⟨by unfold dig; rw [if_pos q1], q1⟩
  by_cases q2 : v < (100 : Int64)
  · exact Or.inr (Or.inl ⟨by unfold dig; rw [if_neg q1, if_pos q2], q1, q2⟩)
  by_cases q3 : v < (1000 : Int64)
  · exact Or.inr (Or.inr (Or.inl ⟨by unfold dig; rw [if_neg q1, if_neg q2, if_pos q3], q2, q3⟩))
  by_cases q4 : v < (10000 : Int64)
  · exact Or.inr (Or.inr (Or.inr (Or.inl ⟨by unfold dig; rw [if_neg q1, if_neg q2, if_neg q3, if_pos q4], q3, q4⟩)))
  by_cases q5 : v < (100000 : Int64)
  · exact Or.inr (Or.inr (Or.inr (Or.inr (Or.inl ⟨by unfold dig; rw [if_neg q1, if_neg q2, if_neg q3, if_neg q4, if_pos q5], q4, q5⟩))))
  by_cases q6 : v < (1000000 : Int64)
  · exact Or.inr (Or.inr (Or.inr (Or.inr (Or.inr (Or.inl ⟨by unfold dig; rw [if_neg q1, if_neg q2, if_neg q3, if_neg q4, if_neg q5, if_pos q6], q5, q6⟩)))))
  by_cases q7 : v < (10000000 : Int64)
  · exact Or.inr (Or.inr (Or.inr (Or.inr (Or.inr (Or.inr (Or.inl ⟨by unfold dig; rw [if_neg q1, if_neg q2, if_neg q3, if_neg q4, if_neg q5, if_neg q6, if_pos q7], q6, q7⟩))))))
  by_cases q8 : v < (100000000 : Int64)
  · exact Or.inr (Or.inr (Or.inr (Or.inr (Or.inr (Or.inr (Or.inr (Or.inl ⟨by unfold dig; rw [if_neg q1, if_neg q2, if_neg q3, if_neg q4, if_neg q5, if_neg q6, if_neg q7, if_pos q8], q7, q8⟩)))))))
  by_cases q9 : v < (1000000000 : Int64)
  · exact Or.inr (Or.inr (Or.inr (Or.inr (Or.inr (Or.inr (Or.inr (Or.inr (Or.inl ⟨by unfold dig; rw [if_neg q1, if_neg q2, if_neg q3, if_neg q4, if_neg q5, if_neg q6, if_neg q7, if_neg q8, if_pos q9], q8, q9⟩))))))))
  by_cases q10 : v < (10000000000 : Int64)
  · exact Or.inr (Or.inr (Or.inr (Or.inr (Or.inr (Or.inr (Or.inr (Or.inr (Or.inr (Or.inl ⟨by unfold dig; rw [if_neg q1, if_neg q2, if_neg q3, if_neg q4, if_neg q5, if_neg q6, if_neg q7, if_neg q8, if_neg q9, if_pos q10], q9, q10⟩)))))))))
  by_cases q11 : v < (100000000000 : Int64)
  · exact Or.inr (Or.inr (Or.inr (Or.inr (Or.inr (Or.inr (Or.inr (Or.inr (Or.inr (Or.inr (Or.inl ⟨by unfold dig; rw [if_neg q1, if_neg q2, if_neg q3, if_neg q4, if_neg q5, if_neg q6, if_neg q7, if_neg q8, if_neg q9, if_neg q10, if_pos q11], q10, q11⟩))))))))))
  by_cases q12 : v < (1000000000000 : Int64)
  · exact Or.inr (Or.inr (Or.inr (Or.inr (Or.inr (Or.inr (Or.inr (Or.inr (Or.inr (Or.inr (Or.inr (Or.inl ⟨by unfold dig; rw [if_neg q1, if_neg q2, if_neg q3, if_neg q4, if_neg q5, if_neg q6, if_neg q7, if_neg q8, if_neg q9, if_neg q10, if_neg q11, if_pos q12], q11, q12⟩)))))))))))
  by_cases q13 : v < (10000000000000 : Int64)
  · exact Or.inr (Or.inr (Or.inr (Or.inr (Or.inr (Or.inr (Or.inr (Or.inr (Or.inr (Or.inr (Or.inr (Or.inr (Or.inl ⟨by unfold dig; rw [if_neg q1, if_neg q2, if_neg q3, if_neg q4, if_neg q5, if_neg q6, if_neg q7, if_neg q8, if_neg q9, if_neg q10, if_neg q11, if_neg q12, if_pos q13], q12, q13⟩))))))))))))
  by_cases q14 : v < (100000000000000 : Int64)
  · exact Or.inr (Or.inr (Or.inr (Or.inr (Or.inr (Or.inr (Or.inr (Or.inr (Or.inr (Or.inr (Or.inr (Or.inr (Or.inr (Or.inl ⟨by unfold dig; rw [if_neg q1, if_neg q2, if_neg q3, if_neg q4, if_neg q5, if_neg q6, if_neg q7, if_neg q8, if_neg q9, if_neg q10, if_neg q11, if_neg q12, if_neg q13, if_pos q14], q13, q14⟩)))))))))))))
  by_cases q15 : v < (1000000000000000 : Int64)
  · exact Or.inr (Or.inr (Or.inr (Or.inr (Or.inr (Or.inr (Or.inr (Or.inr (Or.inr (Or.inr (Or.inr (Or.inr (Or.inr (Or.inr (Or.inl ⟨by unfold dig; rw [if_neg q1, if_neg q2, if_neg q3, if_neg q4, if_neg q5, if_neg q6, if_neg q7, if_neg q8, if_neg q9, if_neg q10, if_neg q11, if_neg q12, if_neg q13, if_neg q14, if_pos q15], q14, q15⟩))))))))))))))
  by_cases q16 : v < (10000000000000000 : Int64)
  · exact Or.inr (Or.inr (Or.inr (Or.inr (Or.inr (Or.inr (Or.inr (Or.inr (Or.inr (Or.inr (Or.inr (Or.inr (Or.inr (Or.inr (Or.inr (Or.inl ⟨by unfold dig; rw [if_neg q1, if_neg q2, if_neg q3, if_neg q4, if_neg q5, if_neg q6, if_neg q7, if_neg q8, if_neg q9, if_neg q10, if_neg q11, if_neg q12, if_neg q13, if_neg q14, if_neg q15, if_pos q16], q15, q16⟩)))))))))))))))
  by_cases q17 : v < (100000000000000000 : Int64)
  · exact Or.inr (Or.inr (Or.inr (Or.inr (Or.inr (Or.inr (Or.inr (Or.inr (Or.inr (Or.inr (Or.inr (Or.inr (Or.inr (Or.inr (Or.inr (Or.inr (Or.inl ⟨by unfold dig; rw [if_neg q1, if_neg q2, if_neg q3, if_neg q4, if_neg q5, if_neg q6, if_neg q7, if_neg q8, if_neg q9, if_neg q10, if_neg q11, if_neg q12, if_neg q13, if_neg q14, if_neg q15, if_neg q16, if_pos q17], q16, q17⟩))))))))))))))))
  by_cases q18 : v < (1000000000000000000 : Int64)
  · exact Or.inr (Or.inr (Or.inr (Or.inr (Or.inr (Or.inr (Or.inr (Or.inr (Or.inr (Or.inr (Or.inr (Or.inr (Or.inr (Or.inr (Or.inr (Or.inr (Or.inr (Or.inl ⟨by unfold dig; rw [if_neg q1, if_neg q2, if_neg q3, if_neg q4, if_neg q5, if_neg q6, if_neg q7, if_neg q8, if_neg q9, if_neg q10, if_neg q11, if_neg q12, if_neg q13, if_neg q14, if_neg q15, if_neg q16, if_neg q17, if_pos q18], q17, q18⟩)))))))))))))))))
  exact Or.inr (Or.inr (Or.inr (Or.inr (Or.inr (Or.inr (Or.inr (Or.inr (Or.inr (Or.inr (Or.inr (Or.inr (Or.inr (Or.inr (Or.inr (Or.inr (Or.inr (Or.inr (⟨by unfold dig; rw [if_neg q1, if_neg q2, if_neg q3, if_neg q4, if_neg q5, if_neg q6, if_neg q7, if_neg q8, if_neg q9, if_neg q10, if_neg q11, if_neg q12, if_neg q13, if_neg q14, if_neg q15, if_neg q16, if_neg q17, if_neg q18], q18⟩))))))))))))))))))
abbrev PW : List Value := [(.long (1 : Int64)), (.long (10 : Int64)), (.long (100 : Int64)), (.long (1000 : Int64)), (.long (10000 : Int64)), (.long (100000 : Int64)), (.long (1000000 : Int64)), (.long (10000000 : Int64)), (.long (100000000 : Int64)), (.long (1000000000 : Int64)), (.long (10000000000 : Int64)), (.long (100000000000 : Int64)), (.long (1000000000000 : Int64)), (.long (10000000000000 : Int64)), (.long (100000000000000 : Int64)), (.long (1000000000000000 : Int64)), (.long (10000000000000000 : Int64)), (.long (100000000000000000 : Int64)), (.long (1000000000000000000 : Int64))]
theorem ef_dcount (m : MethodId) (v : Int64) : entryFrame m #[(.long v)] 3 = mkF m 0 #[.val (.long v), .second, .unset] [] := by first | (simp [entryFrame, mkF, argsToLocals, Value.category]; done) | rfl
set_option maxRecDepth 65536 in
set_option maxHeartbeats 40000000 in
theorem dcount_c18 (l : Launch) (Z : State) (aw : Array Value) (hw : ∀ d ∈ tables_1, d.before aw Z = true) (v : Int64) (ar : Nat) (k0 : ClassId) {p : Program} {e : Env} {s : State} {m : MethodId} {args : Array Value} {below : List Frame} {meth : Method} {c : Code} {T : State} {locs : List Loc} {cells slots n0 : Nat} {h0 : Heap} (hx : p.tables.exec = Jvm.exec) (hby : c.code = prog_4_method_21_code) (hml : c.maxLocals = 3) (hrt : meth.sig.returnType = some .int) (hlk : meth.locks = false) (hnm : meth.name = "digitCount") (hZ : Z.Warmed39 s.vm) (hown : s.vm.findClass "com/example/primevertical/primevertical/DecimalText" = some m.cls) (X : Stand p l e ({ frames := 0, cells := 0, slots := 0, locals := 0 } : Room) s m args below meth c T locs cells slots) (e0 : T.heap = h0) (N : Fr n0 locs) (hcells : cells ≤ 0) (hslots : slots ≤ 0) (O : Old Z n0 h0) (S0 : Sta Z Z.heap "com/example/primevertical/primevertical/DecimalText" "LONG_POWERS_OF_TEN" "[J" (.ref ar)) (V0 : Arv Z Z.heap ar k0 .long (19 : Int32) PW (.long (0 : Int64))) (cq7 : ¬ (v < (10 : Int64))) (cq14 : ¬ (v < (100 : Int64))) (cq21 : ¬ (v < (1000 : Int64))) (cq28 : ¬ (v < (10000 : Int64))) (cq35 : ¬ (v < (100000 : Int64))) (cq42 : ¬ (v < (1000000 : Int64))) (cq49 : ¬ (v < (10000000 : Int64))) (cq56 : ¬ (v < (100000000 : Int64))) (cq63 : ¬ (v < (1000000000 : Int64))) (cq70 : ¬ (v < (10000000000 : Int64))) (cq77 : ¬ (v < (100000000000 : Int64))) (cq84 : ¬ (v < (1000000000000 : Int64))) (cq91 : ¬ (v < (10000000000000 : Int64))) (cq98 : ¬ (v < (100000000000000 : Int64))) (cq105 : ¬ (v < (1000000000000000 : Int64))) (cq112 : ¬ (v < (10000000000000000 : Int64))) (cq119 : ¬ (v < (100000000000000000 : Int64))) (cq126 : ¬ (v < (1000000000000000000 : Int64))) :
    Goes p e below s ({ frames := 0, cells := 0, slots := 0, locals := 0 } : Room).cells ({ frames := 0, cells := 0, slots := 0, locals := 0 } : Room).slots n0 (fun vv hh => vv = some (.int (dig v)) ∧ hh = h0) (T.setTop (mkF m 6 #[.val (.long v), .second, .val (.int (19 : Int32))] [(.ref ar), (.int (19 : Int32))])) := by
  have zO := O.le
  show Goes _ _ _ _ _ _ _ _ (T.setTop (mkF m 6 #[.val (.long v), .second, .val (.int (19 : Int32))] [(.ref ar), (.int (19 : Int32))]))
  have fq128 : Arv Z h0 ar k0 .long (19 : Int32) PW (.long (0 : Int64)) := (V0.ext O.2)
  obtain ⟨clq129, Arq129, -, Sq129, Nnq129, -, -⟩ := id fq128
  refine Goes.via (X.arraylength hx (by rw [e0]; exact Arq129.1) (State.isArrayOf_alike hZ.alike Arq129.2.1) (g := (mkF m 6 #[.val (.long v), .second, .val (.int (19 : Int32))] [(.ref ar), (.int (19 : Int32))])) rfl rfl (hb hby d_prog_4_method_21_code_6)) ?_
  rw [len_of Sq129 Nnq129]
  show Goes _ _ _ _ _ _ _ _ (T.setTop (mkF m 7 #[.val (.long v), .second, .val (.int (19 : Int32))] [(.int (19 : Int32)), (.int (19 : Int32))]))
  refine Goes.via (fun _ k => XS.icmpYes X.here hx rfl (pc0 := 7) (pc' := 26) rfl (hb hby d_prog_4_method_21_code_7) rfl (XT.ii_ge_t (by decide)) (by decide) (by decide) k) ?_
  show Goes _ _ _ _ _ _ _ _ (T.setTop (mkF m 26 #[.val (.long v), .second, .val (.int (19 : Int32))] []))
  refine Goes.via (fun _ k => XS.iloadN X.here hx rfl (hb hby d_prog_4_method_21_code_26) rfl k) ?_
  show Goes _ _ _ _ _ _ _ _ (T.setTop (mkF m 27 #[.val (.long v), .second, .val (.int (19 : Int32))] [(.int (19 : Int32))]))
  refine goRetI X hx hrt hlk N (by show _ ≤ 0; omega) (by show _ ≤ 0; omega) (hb hby d_prog_4_method_21_code_27) ?_
  try rw [e0]
  exact ⟨by show some (Value.int (19 : Int32)) = _; unfold dig; rw [if_neg cq7, if_neg cq14, if_neg cq21, if_neg cq28, if_neg cq35, if_neg cq42, if_neg cq49, if_neg cq56, if_neg cq63, if_neg cq70, if_neg cq77, if_neg cq84, if_neg cq91, if_neg cq98, if_neg cq105, if_neg cq112, if_neg cq119, if_neg cq126], rfl⟩
set_option maxRecDepth 65536 in
set_option maxHeartbeats 40000000 in
theorem dcount_c17 (l : Launch) (Z : State) (aw : Array Value) (hw : ∀ d ∈ tables_1, d.before aw Z = true) (v : Int64) (ar : Nat) (k0 : ClassId) {p : Program} {e : Env} {s : State} {m : MethodId} {args : Array Value} {below : List Frame} {meth : Method} {c : Code} {T : State} {locs : List Loc} {cells slots n0 : Nat} {h0 : Heap} (hx : p.tables.exec = Jvm.exec) (hby : c.code = prog_4_method_21_code) (hml : c.maxLocals = 3) (hrt : meth.sig.returnType = some .int) (hlk : meth.locks = false) (hnm : meth.name = "digitCount") (hZ : Z.Warmed39 s.vm) (hown : s.vm.findClass "com/example/primevertical/primevertical/DecimalText" = some m.cls) (X : Stand p l e ({ frames := 0, cells := 0, slots := 0, locals := 0 } : Room) s m args below meth c T locs cells slots) (e0 : T.heap = h0) (N : Fr n0 locs) (hcells : cells ≤ 0) (hslots : slots ≤ 0) (O : Old Z n0 h0) (S0 : Sta Z Z.heap "com/example/primevertical/primevertical/DecimalText" "LONG_POWERS_OF_TEN" "[J" (.ref ar)) (V0 : Arv Z Z.heap ar k0 .long (19 : Int32) PW (.long (0 : Int64))) (cq7 : ¬ (v < (10 : Int64))) (cq14 : ¬ (v < (100 : Int64))) (cq21 : ¬ (v < (1000 : Int64))) (cq28 : ¬ (v < (10000 : Int64))) (cq35 : ¬ (v < (100000 : Int64))) (cq42 : ¬ (v < (1000000 : Int64))) (cq49 : ¬ (v < (10000000 : Int64))) (cq56 : ¬ (v < (100000000 : Int64))) (cq63 : ¬ (v < (1000000000 : Int64))) (cq70 : ¬ (v < (10000000000 : Int64))) (cq77 : ¬ (v < (100000000000 : Int64))) (cq84 : ¬ (v < (1000000000000 : Int64))) (cq91 : ¬ (v < (10000000000000 : Int64))) (cq98 : ¬ (v < (100000000000000 : Int64))) (cq105 : ¬ (v < (1000000000000000 : Int64))) (cq112 : ¬ (v < (10000000000000000 : Int64))) (cq119 : ¬ (v < (100000000000000000 : Int64))) :
    Goes p e below s ({ frames := 0, cells := 0, slots := 0, locals := 0 } : Room).cells ({ frames := 0, cells := 0, slots := 0, locals := 0 } : Room).slots n0 (fun vv hh => vv = some (.int (dig v)) ∧ hh = h0) (T.setTop (mkF m 6 #[.val (.long v), .second, .val (.int (18 : Int32))] [(.ref ar), (.int (18 : Int32))])) := by
  have zO := O.le
  show Goes _ _ _ _ _ _ _ _ (T.setTop (mkF m 6 #[.val (.long v), .second, .val (.int (18 : Int32))] [(.ref ar), (.int (18 : Int32))]))
  have fq121 : Arv Z h0 ar k0 .long (19 : Int32) PW (.long (0 : Int64)) := (V0.ext O.2)
  obtain ⟨clq122, Arq122, -, Sq122, Nnq122, -, -⟩ := id fq121
  refine Goes.via (X.arraylength hx (by rw [e0]; exact Arq122.1) (State.isArrayOf_alike hZ.alike Arq122.2.1) (g := (mkF m 6 #[.val (.long v), .second, .val (.int (18 : Int32))] [(.ref ar), (.int (18 : Int32))])) rfl rfl (hb hby d_prog_4_method_21_code_6)) ?_
  rw [len_of Sq122 Nnq122]
  show Goes _ _ _ _ _ _ _ _ (T.setTop (mkF m 7 #[.val (.long v), .second, .val (.int (18 : Int32))] [(.int (19 : Int32)), (.int (18 : Int32))]))
  refine Goes.via (fun _ k => XS.icmpNo X.here hx rfl (hb hby d_prog_4_method_21_code_7) rfl (XT.ii_ge_f (by decide)) k) ?_
  show Goes _ _ _ _ _ _ _ _ (T.setTop (mkF m 10 #[.val (.long v), .second, .val (.int (18 : Int32))] []))
  refine Goes.via (fun _ k => XT.lloadN X.here hx rfl (hb hby d_prog_4_method_21_code_10) rfl k) ?_
  show Goes _ _ _ _ _ _ _ _ (T.setTop (mkF m 11 #[.val (.long v), .second, .val (.int (18 : Int32))] [(.long v)]))
  have fq124 : Sta Z h0 "com/example/primevertical/primevertical/DecimalText" "LONG_POWERS_OF_TEN" "[J" (.ref ar) := (S0.ext O.2)
  obtain ⟨Tq123, Xq123, eq123, stq123⟩ := getS2 X hx hZ hown (host := "") (Or.inl (W_23 hw)) Via.refl e0 fq124 (g := (mkF m 11 #[.val (.long v), .second, .val (.int (18 : Int32))] [(.long v)])) rfl (hb hby d_prog_4_method_21_code_11)
  refine Goes.via stq123 ?_
  show Goes _ _ _ _ _ _ _ _ (Tq123.setTop (mkF m 14 #[.val (.long v), .second, .val (.int (18 : Int32))] [(.ref ar), (.long v)]))
  refine Goes.via (fun _ k => XS.iloadN Xq123.here hx rfl (hb hby d_prog_4_method_21_code_14) rfl k) ?_
  show Goes _ _ _ _ _ _ _ _ (Tq123.setTop (mkF m 15 #[.val (.long v), .second, .val (.int (18 : Int32))] [(.int (18 : Int32)), (.ref ar), (.long v)]))
  obtain ⟨clq125, Arq125, qq125, Sq125, Nnq125, Hq125, Gq125⟩ := id fq121
  have hinq125 : ¬ ((18 : Int32) < 0 ∨ clq125.slots.size ≤ ((18 : Int32)).toNatClampNeg) := inb_of Sq125 ⟨by decide, by decide⟩
  refine Goes.via (Xq123.laload hx (j := (18 : Int32)) (v := (.long (1000000000000000000 : Int64))) (by rw [eq123]; exact Arq125.1) (State.isArrayOf_alike hZ.alike Arq125.2.1) Arq125.2.2 hinq125 (Hq125.at hinq125 rfl) (g := (mkF m 15 #[.val (.long v), .second, .val (.int (18 : Int32))] [(.int (18 : Int32)), (.ref ar), (.long v)])) rfl rfl (hb hby d_prog_4_method_21_code_15)) ?_
  show Goes _ _ _ _ _ _ _ _ (Tq123.setTop (mkF m 16 #[.val (.long v), .second, .val (.int (18 : Int32))] [(.long (1000000000000000000 : Int64)), (.long v)]))
  refine Goes.via (fun _ k => XT.lcmp Xq123.here hx rfl (hb hby d_prog_4_method_21_code_16) rfl k) ?_
  show Goes _ _ _ _ _ _ _ _ (Tq123.setTop (mkF m 17 #[.val (.long v), .second, .val (.int (18 : Int32))] [(.int (XT.cmpL v (1000000000000000000 : Int64)))]))
  by_cases cq126 : v < (1000000000000000000 : Int64)
  · skip
    refine Goes.via (fun _ k => XS.ifYes Xq123.here hx rfl (pc0 := 17) (pc' := 26) rfl (hb hby d_prog_4_method_21_code_17) rfl (XT.ll_lt_t cq126) (by decide) (by decide) k) ?_
    show Goes _ _ _ _ _ _ _ _ (Tq123.setTop (mkF m 26 #[.val (.long v), .second, .val (.int (18 : Int32))] []))
    refine Goes.via (fun _ k => XS.iloadN Xq123.here hx rfl (hb hby d_prog_4_method_21_code_26) rfl k) ?_
    show Goes _ _ _ _ _ _ _ _ (Tq123.setTop (mkF m 27 #[.val (.long v), .second, .val (.int (18 : Int32))] [(.int (18 : Int32))]))
    refine goRetI Xq123 hx hrt hlk N (by show _ ≤ 0; omega) (by show _ ≤ 0; omega) (hb hby d_prog_4_method_21_code_27) ?_
    try rw [eq123]
    exact ⟨by show some (Value.int (18 : Int32)) = _; unfold dig; rw [if_neg cq7, if_neg cq14, if_neg cq21, if_neg cq28, if_neg cq35, if_neg cq42, if_neg cq49, if_neg cq56, if_neg cq63, if_neg cq70, if_neg cq77, if_neg cq84, if_neg cq91, if_neg cq98, if_neg cq105, if_neg cq112, if_neg cq119, if_pos cq126], rfl⟩
  · skip
    refine Goes.via (fun _ k => XS.ifNo Xq123.here hx rfl (hb hby d_prog_4_method_21_code_17) rfl (XT.ll_lt_f cq126) k) ?_
    show Goes _ _ _ _ _ _ _ _ (Tq123.setTop (mkF m 20 #[.val (.long v), .second, .val (.int (18 : Int32))] []))
    refine Goes.via (fun _ k => iincZ Xq123.here hx rfl (19 : Int32) (hb hby d_prog_4_method_21_code_20) (by decide) rfl (l' := #[.val (.long v), .second, .val (.int (19 : Int32))]) rfl k) ?_
    show Goes _ _ _ _ _ _ _ _ (Tq123.setTop (mkF m 23 #[.val (.long v), .second, .val (.int (19 : Int32))] []))
    refine Goes.via (fun _ k => XS.goto Xq123.here hx rfl (pc0 := 23) (pc' := 2) rfl (hb hby d_prog_4_method_21_code_23) (by decide) (by decide) k) ?_
    show Goes _ _ _ _ _ _ _ _ (Tq123.setTop (mkF m 2 #[.val (.long v), .second, .val (.int (19 : Int32))] []))
    refine Goes.via (fun _ k => XS.iloadN Xq123.here hx rfl (hb hby d_prog_4_method_21_code_2) rfl k) ?_
    show Goes _ _ _ _ _ _ _ _ (Tq123.setTop (mkF m 3 #[.val (.long v), .second, .val (.int (19 : Int32))] [(.int (19 : Int32))]))
    obtain ⟨Tq127, Xq127, eq127, stq127⟩ := getS2 Xq123 hx hZ hown (host := "") (Or.inl (W_23 hw)) Via.refl eq123 fq124 (g := (mkF m 3 #[.val (.long v), .second, .val (.int (19 : Int32))] [(.int (19 : Int32))])) rfl (hb hby d_prog_4_method_21_code_3)
    refine Goes.via stq127 ?_
    show Goes _ _ _ _ _ _ _ _ (Tq127.setTop (mkF m 6 #[.val (.long v), .second, .val (.int (19 : Int32))] [(.ref ar), (.int (19 : Int32))]))
    exact dcount_c18 l Z aw hw v ar k0 hx hby hml hrt hlk hnm hZ hown Xq127 eq127 N (by omega) (by omega) O S0 V0 cq7 cq14 cq21 cq28 cq35 cq42 cq49 cq56 cq63 cq70 cq77 cq84 cq91 cq98 cq105 cq112 cq119 cq126
set_option maxRecDepth 65536 in
set_option maxHeartbeats 40000000 in
theorem dcount_c16 (l : Launch) (Z : State) (aw : Array Value) (hw : ∀ d ∈ tables_1, d.before aw Z = true) (v : Int64) (ar : Nat) (k0 : ClassId) {p : Program} {e : Env} {s : State} {m : MethodId} {args : Array Value} {below : List Frame} {meth : Method} {c : Code} {T : State} {locs : List Loc} {cells slots n0 : Nat} {h0 : Heap} (hx : p.tables.exec = Jvm.exec) (hby : c.code = prog_4_method_21_code) (hml : c.maxLocals = 3) (hrt : meth.sig.returnType = some .int) (hlk : meth.locks = false) (hnm : meth.name = "digitCount") (hZ : Z.Warmed39 s.vm) (hown : s.vm.findClass "com/example/primevertical/primevertical/DecimalText" = some m.cls) (X : Stand p l e ({ frames := 0, cells := 0, slots := 0, locals := 0 } : Room) s m args below meth c T locs cells slots) (e0 : T.heap = h0) (N : Fr n0 locs) (hcells : cells ≤ 0) (hslots : slots ≤ 0) (O : Old Z n0 h0) (S0 : Sta Z Z.heap "com/example/primevertical/primevertical/DecimalText" "LONG_POWERS_OF_TEN" "[J" (.ref ar)) (V0 : Arv Z Z.heap ar k0 .long (19 : Int32) PW (.long (0 : Int64))) (cq7 : ¬ (v < (10 : Int64))) (cq14 : ¬ (v < (100 : Int64))) (cq21 : ¬ (v < (1000 : Int64))) (cq28 : ¬ (v < (10000 : Int64))) (cq35 : ¬ (v < (100000 : Int64))) (cq42 : ¬ (v < (1000000 : Int64))) (cq49 : ¬ (v < (10000000 : Int64))) (cq56 : ¬ (v < (100000000 : Int64))) (cq63 : ¬ (v < (1000000000 : Int64))) (cq70 : ¬ (v < (10000000000 : Int64))) (cq77 : ¬ (v < (100000000000 : Int64))) (cq84 : ¬ (v < (1000000000000 : Int64))) (cq91 : ¬ (v < (10000000000000 : Int64))) (cq98 : ¬ (v < (100000000000000 : Int64))) (cq105 : ¬ (v < (1000000000000000 : Int64))) (cq112 : ¬ (v < (10000000000000000 : Int64))) :
    Goes p e below s ({ frames := 0, cells := 0, slots := 0, locals := 0 } : Room).cells ({ frames := 0, cells := 0, slots := 0, locals := 0 } : Room).slots n0 (fun vv hh => vv = some (.int (dig v)) ∧ hh = h0) (T.setTop (mkF m 6 #[.val (.long v), .second, .val (.int (17 : Int32))] [(.ref ar), (.int (17 : Int32))])) := by
  have zO := O.le
  show Goes _ _ _ _ _ _ _ _ (T.setTop (mkF m 6 #[.val (.long v), .second, .val (.int (17 : Int32))] [(.ref ar), (.int (17 : Int32))]))
  have fq114 : Arv Z h0 ar k0 .long (19 : Int32) PW (.long (0 : Int64)) := (V0.ext O.2)
  obtain ⟨clq115, Arq115, -, Sq115, Nnq115, -, -⟩ := id fq114
  refine Goes.via (X.arraylength hx (by rw [e0]; exact Arq115.1) (State.isArrayOf_alike hZ.alike Arq115.2.1) (g := (mkF m 6 #[.val (.long v), .second, .val (.int (17 : Int32))] [(.ref ar), (.int (17 : Int32))])) rfl rfl (hb hby d_prog_4_method_21_code_6)) ?_
  rw [len_of Sq115 Nnq115]
  show Goes _ _ _ _ _ _ _ _ (T.setTop (mkF m 7 #[.val (.long v), .second, .val (.int (17 : Int32))] [(.int (19 : Int32)), (.int (17 : Int32))]))
  refine Goes.via (fun _ k => XS.icmpNo X.here hx rfl (hb hby d_prog_4_method_21_code_7) rfl (XT.ii_ge_f (by decide)) k) ?_
  show Goes _ _ _ _ _ _ _ _ (T.setTop (mkF m 10 #[.val (.long v), .second, .val (.int (17 : Int32))] []))
  refine Goes.via (fun _ k => XT.lloadN X.here hx rfl (hb hby d_prog_4_method_21_code_10) rfl k) ?_
  show Goes _ _ _ _ _ _ _ _ (T.setTop (mkF m 11 #[.val (.long v), .second, .val (.int (17 : Int32))] [(.long v)]))
  have fq117 : Sta Z h0 "com/example/primevertical/primevertical/DecimalText" "LONG_POWERS_OF_TEN" "[J" (.ref ar) := (S0.ext O.2)
  obtain ⟨Tq116, Xq116, eq116, stq116⟩ := getS2 X hx hZ hown (host := "") (Or.inl (W_23 hw)) Via.refl e0 fq117 (g := (mkF m 11 #[.val (.long v), .second, .val (.int (17 : Int32))] [(.long v)])) rfl (hb hby d_prog_4_method_21_code_11)
  refine Goes.via stq116 ?_
  show Goes _ _ _ _ _ _ _ _ (Tq116.setTop (mkF m 14 #[.val (.long v), .second, .val (.int (17 : Int32))] [(.ref ar), (.long v)]))
  refine Goes.via (fun _ k => XS.iloadN Xq116.here hx rfl (hb hby d_prog_4_method_21_code_14) rfl k) ?_
  show Goes _ _ _ _ _ _ _ _ (Tq116.setTop (mkF m 15 #[.val (.long v), .second, .val (.int (17 : Int32))] [(.int (17 : Int32)), (.ref ar), (.long v)]))
  obtain ⟨clq118, Arq118, qq118, Sq118, Nnq118, Hq118, Gq118⟩ := id fq114
  have hinq118 : ¬ ((17 : Int32) < 0 ∨ clq118.slots.size ≤ ((17 : Int32)).toNatClampNeg) := inb_of Sq118 ⟨by decide, by decide⟩
  refine Goes.via (Xq116.laload hx (j := (17 : Int32)) (v := (.long (100000000000000000 : Int64))) (by rw [eq116]; exact Arq118.1) (State.isArrayOf_alike hZ.alike Arq118.2.1) Arq118.2.2 hinq118 (Hq118.at hinq118 rfl) (g := (mkF m 15 #[.val (.long v), .second, .val (.int (17 : Int32))] [(.int (17 : Int32)), (.ref ar), (.long v)])) rfl rfl (hb hby d_prog_4_method_21_code_15)) ?_
  show Goes _ _ _ _ _ _ _ _ (Tq116.setTop (mkF m 16 #[.val (.long v), .second, .val (.int (17 : Int32))] [(.long (100000000000000000 : Int64)), (.long v)]))
  refine Goes.via (fun _ k => XT.lcmp Xq116.here hx rfl (hb hby d_prog_4_method_21_code_16) rfl k) ?_
  show Goes _ _ _ _ _ _ _ _ (Tq116.setTop (mkF m 17 #[.val (.long v), .second, .val (.int (17 : Int32))] [(.int (XT.cmpL v (100000000000000000 : Int64)))]))
  by_cases cq119 : v < (100000000000000000 : Int64)
  · skip
    refine Goes.via (fun _ k => XS.ifYes Xq116.here hx rfl (pc0 := 17) (pc' := 26) rfl (hb hby d_prog_4_method_21_code_17) rfl (XT.ll_lt_t cq119) (by decide) (by decide) k) ?_
    show Goes _ _ _ _ _ _ _ _ (Tq116.setTop (mkF m 26 #[.val (.long v), .second, .val (.int (17 : Int32))] []))
    refine Goes.via (fun _ k => XS.iloadN Xq116.here hx rfl (hb hby d_prog_4_method_21_code_26) rfl k) ?_
    show Goes _ _ _ _ _ _ _ _ (Tq116.setTop (mkF m 27 #[.val (.long v), .second, .val (.int (17 : Int32))] [(.int (17 : Int32))]))
    refine goRetI Xq116 hx hrt hlk N (by show _ ≤ 0; omega) (by show _ ≤ 0; omega) (hb hby d_prog_4_method_21_code_27) ?_
    try rw [eq116]
    exact ⟨by show some (Value.int (17 : Int32)) = _; unfold dig; rw [if_neg cq7, if_neg cq14, if_neg cq21, if_neg cq28, if_neg cq35, if_neg cq42, if_neg cq49, if_neg cq56, if_neg cq63, if_neg cq70, if_neg cq77, if_neg cq84, if_neg cq91, if_neg cq98, if_neg cq105, if_neg cq112, if_pos cq119], rfl⟩
  · skip
    refine Goes.via (fun _ k => XS.ifNo Xq116.here hx rfl (hb hby d_prog_4_method_21_code_17) rfl (XT.ll_lt_f cq119) k) ?_
    show Goes _ _ _ _ _ _ _ _ (Tq116.setTop (mkF m 20 #[.val (.long v), .second, .val (.int (17 : Int32))] []))
    refine Goes.via (fun _ k => iincZ Xq116.here hx rfl (18 : Int32) (hb hby d_prog_4_method_21_code_20) (by decide) rfl (l' := #[.val (.long v), .second, .val (.int (18 : Int32))]) rfl k) ?_
    show Goes _ _ _ _ _ _ _ _ (Tq116.setTop (mkF m 23 #[.val (.long v), .second, .val (.int (18 : Int32))] []))
    refine Goes.via (fun _ k => XS.goto Xq116.here hx rfl (pc0 := 23) (pc' := 2) rfl (hb hby d_prog_4_method_21_code_23) (by decide) (by decide) k) ?_
    show Goes _ _ _ _ _ _ _ _ (Tq116.setTop (mkF m 2 #[.val (.long v), .second, .val (.int (18 : Int32))] []))
    refine Goes.via (fun _ k => XS.iloadN Xq116.here hx rfl (hb hby d_prog_4_method_21_code_2) rfl k) ?_
    show Goes _ _ _ _ _ _ _ _ (Tq116.setTop (mkF m 3 #[.val (.long v), .second, .val (.int (18 : Int32))] [(.int (18 : Int32))]))
    obtain ⟨Tq120, Xq120, eq120, stq120⟩ := getS2 Xq116 hx hZ hown (host := "") (Or.inl (W_23 hw)) Via.refl eq116 fq117 (g := (mkF m 3 #[.val (.long v), .second, .val (.int (18 : Int32))] [(.int (18 : Int32))])) rfl (hb hby d_prog_4_method_21_code_3)
    refine Goes.via stq120 ?_
    show Goes _ _ _ _ _ _ _ _ (Tq120.setTop (mkF m 6 #[.val (.long v), .second, .val (.int (18 : Int32))] [(.ref ar), (.int (18 : Int32))]))
    exact dcount_c17 l Z aw hw v ar k0 hx hby hml hrt hlk hnm hZ hown Xq120 eq120 N (by omega) (by omega) O S0 V0 cq7 cq14 cq21 cq28 cq35 cq42 cq49 cq56 cq63 cq70 cq77 cq84 cq91 cq98 cq105 cq112 cq119
set_option maxRecDepth 65536 in
set_option maxHeartbeats 40000000 in
theorem dcount_c15 (l : Launch) (Z : State) (aw : Array Value) (hw : ∀ d ∈ tables_1, d.before aw Z = true) (v : Int64) (ar : Nat) (k0 : ClassId) {p : Program} {e : Env} {s : State} {m : MethodId} {args : Array Value} {below : List Frame} {meth : Method} {c : Code} {T : State} {locs : List Loc} {cells slots n0 : Nat} {h0 : Heap} (hx : p.tables.exec = Jvm.exec) (hby : c.code = prog_4_method_21_code) (hml : c.maxLocals = 3) (hrt : meth.sig.returnType = some .int) (hlk : meth.locks = false) (hnm : meth.name = "digitCount") (hZ : Z.Warmed39 s.vm) (hown : s.vm.findClass "com/example/primevertical/primevertical/DecimalText" = some m.cls) (X : Stand p l e ({ frames := 0, cells := 0, slots := 0, locals := 0 } : Room) s m args below meth c T locs cells slots) (e0 : T.heap = h0) (N : Fr n0 locs) (hcells : cells ≤ 0) (hslots : slots ≤ 0) (O : Old Z n0 h0) (S0 : Sta Z Z.heap "com/example/primevertical/primevertical/DecimalText" "LONG_POWERS_OF_TEN" "[J" (.ref ar)) (V0 : Arv Z Z.heap ar k0 .long (19 : Int32) PW (.long (0 : Int64))) (cq7 : ¬ (v < (10 : Int64))) (cq14 : ¬ (v < (100 : Int64))) (cq21 : ¬ (v < (1000 : Int64))) (cq28 : ¬ (v < (10000 : Int64))) (cq35 : ¬ (v < (100000 : Int64))) (cq42 : ¬ (v < (1000000 : Int64))) (cq49 : ¬ (v < (10000000 : Int64))) (cq56 : ¬ (v < (100000000 : Int64))) (cq63 : ¬ (v < (1000000000 : Int64))) (cq70 : ¬ (v < (10000000000 : Int64))) (cq77 : ¬ (v < (100000000000 : Int64))) (cq84 : ¬ (v < (1000000000000 : Int64))) (cq91 : ¬ (v < (10000000000000 : Int64))) (cq98 : ¬ (v < (100000000000000 : Int64))) (cq105 : ¬ (v < (1000000000000000 : Int64))) :
    Goes p e below s ({ frames := 0, cells := 0, slots := 0, locals := 0 } : Room).cells ({ frames := 0, cells := 0, slots := 0, locals := 0 } : Room).slots n0 (fun vv hh => vv = some (.int (dig v)) ∧ hh = h0) (T.setTop (mkF m 6 #[.val (.long v), .second, .val (.int (16 : Int32))] [(.ref ar), (.int (16 : Int32))])) := by
  have zO := O.le
  show Goes _ _ _ _ _ _ _ _ (T.setTop (mkF m 6 #[.val (.long v), .second, .val (.int (16 : Int32))] [(.ref ar), (.int (16 : Int32))]))
  have fq107 : Arv Z h0 ar k0 .long (19 : Int32) PW (.long (0 : Int64)) := (V0.ext O.2)
  obtain ⟨clq108, Arq108, -, Sq108, Nnq108, -, -⟩ := id fq107
  refine Goes.via (X.arraylength hx (by rw [e0]; exact Arq108.1) (State.isArrayOf_alike hZ.alike Arq108.2.1) (g := (mkF m 6 #[.val (.long v), .second, .val (.int (16 : Int32))] [(.ref ar), (.int (16 : Int32))])) rfl rfl (hb hby d_prog_4_method_21_code_6)) ?_
  rw [len_of Sq108 Nnq108]
  show Goes _ _ _ _ _ _ _ _ (T.setTop (mkF m 7 #[.val (.long v), .second, .val (.int (16 : Int32))] [(.int (19 : Int32)), (.int (16 : Int32))]))
  refine Goes.via (fun _ k => XS.icmpNo X.here hx rfl (hb hby d_prog_4_method_21_code_7) rfl (XT.ii_ge_f (by decide)) k) ?_
  show Goes _ _ _ _ _ _ _ _ (T.setTop (mkF m 10 #[.val (.long v), .second, .val (.int (16 : Int32))] []))
  refine Goes.via (fun _ k => XT.lloadN X.here hx rfl (hb hby d_prog_4_method_21_code_10) rfl k) ?_
  show Goes _ _ _ _ _ _ _ _ (T.setTop (mkF m 11 #[.val (.long v), .second, .val (.int (16 : Int32))] [(.long v)]))
  have fq110 : Sta Z h0 "com/example/primevertical/primevertical/DecimalText" "LONG_POWERS_OF_TEN" "[J" (.ref ar) := (S0.ext O.2)
  obtain ⟨Tq109, Xq109, eq109, stq109⟩ := getS2 X hx hZ hown (host := "") (Or.inl (W_23 hw)) Via.refl e0 fq110 (g := (mkF m 11 #[.val (.long v), .second, .val (.int (16 : Int32))] [(.long v)])) rfl (hb hby d_prog_4_method_21_code_11)
  refine Goes.via stq109 ?_
  show Goes _ _ _ _ _ _ _ _ (Tq109.setTop (mkF m 14 #[.val (.long v), .second, .val (.int (16 : Int32))] [(.ref ar), (.long v)]))
  refine Goes.via (fun _ k => XS.iloadN Xq109.here hx rfl (hb hby d_prog_4_method_21_code_14) rfl k) ?_
  show Goes _ _ _ _ _ _ _ _ (Tq109.setTop (mkF m 15 #[.val (.long v), .second, .val (.int (16 : Int32))] [(.int (16 : Int32)), (.ref ar), (.long v)]))
  obtain ⟨clq111, Arq111, qq111, Sq111, Nnq111, Hq111, Gq111⟩ := id fq107
  have hinq111 : ¬ ((16 : Int32) < 0 ∨ clq111.slots.size ≤ ((16 : Int32)).toNatClampNeg) := inb_of Sq111 ⟨by decide, by decide⟩
  refine Goes.via (Xq109.laload hx (j := (16 : Int32)) (v := (.long (10000000000000000 : Int64))) (by rw [eq109]; exact Arq111.1) (State.isArrayOf_alike hZ.alike Arq111.2.1) Arq111.2.2 hinq111 (Hq111.at hinq111 rfl) (g := (mkF m 15 #[.val (.long v), .second, .val (.int (16 : Int32))] [(.int (16 : Int32)), (.ref ar), (.long v)])) rfl rfl (hb hby d_prog_4_method_21_code_15)) ?_
  show Goes _ _ _ _ _ _ _ _ (Tq109.setTop (mkF m 16 #[.val (.long v), .second, .val (.int (16 : Int32))] [(.long (10000000000000000 : Int64)), (.long v)]))
  refine Goes.via (fun _ k => XT.lcmp Xq109.here hx rfl (hb hby d_prog_4_method_21_code_16) rfl k) ?_
  show Goes _ _ _ _ _ _ _ _ (Tq109.setTop (mkF m 17 #[.val (.long v), .second, .val (.int (16 : Int32))] [(.int (XT.cmpL v (10000000000000000 : Int64)))]))
  by_cases cq112 : v < (10000000000000000 : Int64)
  · skip
    refine Goes.via (fun _ k => XS.ifYes Xq109.here hx rfl (pc0 := 17) (pc' := 26) rfl (hb hby d_prog_4_method_21_code_17) rfl (XT.ll_lt_t cq112) (by decide) (by decide) k) ?_
    show Goes _ _ _ _ _ _ _ _ (Tq109.setTop (mkF m 26 #[.val (.long v), .second, .val (.int (16 : Int32))] []))
    refine Goes.via (fun _ k => XS.iloadN Xq109.here hx rfl (hb hby d_prog_4_method_21_code_26) rfl k) ?_
    show Goes _ _ _ _ _ _ _ _ (Tq109.setTop (mkF m 27 #[.val (.long v), .second, .val (.int (16 : Int32))] [(.int (16 : Int32))]))
    refine goRetI Xq109 hx hrt hlk N (by show _ ≤ 0; omega) (by show _ ≤ 0; omega) (hb hby d_prog_4_method_21_code_27) ?_
    try rw [eq109]
    exact ⟨by show some (Value.int (16 : Int32)) = _; unfold dig; rw [if_neg cq7, if_neg cq14, if_neg cq21, if_neg cq28, if_neg cq35, if_neg cq42, if_neg cq49, if_neg cq56, if_neg cq63, if_neg cq70, if_neg cq77, if_neg cq84, if_neg cq91, if_neg cq98, if_neg cq105, if_pos cq112], rfl⟩
  · skip
    refine Goes.via (fun _ k => XS.ifNo Xq109.here hx rfl (hb hby d_prog_4_method_21_code_17) rfl (XT.ll_lt_f cq112) k) ?_
    show Goes _ _ _ _ _ _ _ _ (Tq109.setTop (mkF m 20 #[.val (.long v), .second, .val (.int (16 : Int32))] []))
    refine Goes.via (fun _ k => iincZ Xq109.here hx rfl (17 : Int32) (hb hby d_prog_4_method_21_code_20) (by decide) rfl (l' := #[.val (.long v), .second, .val (.int (17 : Int32))]) rfl k) ?_
    show Goes _ _ _ _ _ _ _ _ (Tq109.setTop (mkF m 23 #[.val (.long v), .second, .val (.int (17 : Int32))] []))
    refine Goes.via (fun _ k => XS.goto Xq109.here hx rfl (pc0 := 23) (pc' := 2) rfl (hb hby d_prog_4_method_21_code_23) (by decide) (by decide) k) ?_
    show Goes _ _ _ _ _ _ _ _ (Tq109.setTop (mkF m 2 #[.val (.long v), .second, .val (.int (17 : Int32))] []))
    refine Goes.via (fun _ k => XS.iloadN Xq109.here hx rfl (hb hby d_prog_4_method_21_code_2) rfl k) ?_
    show Goes _ _ _ _ _ _ _ _ (Tq109.setTop (mkF m 3 #[.val (.long v), .second, .val (.int (17 : Int32))] [(.int (17 : Int32))]))
    obtain ⟨Tq113, Xq113, eq113, stq113⟩ := getS2 Xq109 hx hZ hown (host := "") (Or.inl (W_23 hw)) Via.refl eq109 fq110 (g := (mkF m 3 #[.val (.long v), .second, .val (.int (17 : Int32))] [(.int (17 : Int32))])) rfl (hb hby d_prog_4_method_21_code_3)
    refine Goes.via stq113 ?_
    show Goes _ _ _ _ _ _ _ _ (Tq113.setTop (mkF m 6 #[.val (.long v), .second, .val (.int (17 : Int32))] [(.ref ar), (.int (17 : Int32))]))
    exact dcount_c16 l Z aw hw v ar k0 hx hby hml hrt hlk hnm hZ hown Xq113 eq113 N (by omega) (by omega) O S0 V0 cq7 cq14 cq21 cq28 cq35 cq42 cq49 cq56 cq63 cq70 cq77 cq84 cq91 cq98 cq105 cq112
set_option maxRecDepth 65536 in
set_option maxHeartbeats 40000000 in
theorem dcount_c14 (l : Launch) (Z : State) (aw : Array Value) (hw : ∀ d ∈ tables_1, d.before aw Z = true) (v : Int64) (ar : Nat) (k0 : ClassId) {p : Program} {e : Env} {s : State} {m : MethodId} {args : Array Value} {below : List Frame} {meth : Method} {c : Code} {T : State} {locs : List Loc} {cells slots n0 : Nat} {h0 : Heap} (hx : p.tables.exec = Jvm.exec) (hby : c.code = prog_4_method_21_code) (hml : c.maxLocals = 3) (hrt : meth.sig.returnType = some .int) (hlk : meth.locks = false) (hnm : meth.name = "digitCount") (hZ : Z.Warmed39 s.vm) (hown : s.vm.findClass "com/example/primevertical/primevertical/DecimalText" = some m.cls) (X : Stand p l e ({ frames := 0, cells := 0, slots := 0, locals := 0 } : Room) s m args below meth c T locs cells slots) (e0 : T.heap = h0) (N : Fr n0 locs) (hcells : cells ≤ 0) (hslots : slots ≤ 0) (O : Old Z n0 h0) (S0 : Sta Z Z.heap "com/example/primevertical/primevertical/DecimalText" "LONG_POWERS_OF_TEN" "[J" (.ref ar)) (V0 : Arv Z Z.heap ar k0 .long (19 : Int32) PW (.long (0 : Int64))) (cq7 : ¬ (v < (10 : Int64))) (cq14 : ¬ (v < (100 : Int64))) (cq21 : ¬ (v < (1000 : Int64))) (cq28 : ¬ (v < (10000 : Int64))) (cq35 : ¬ (v < (100000 : Int64))) (cq42 : ¬ (v < (1000000 : Int64))) (cq49 : ¬ (v < (10000000 : Int64))) (cq56 : ¬ (v < (100000000 : Int64))) (cq63 : ¬ (v < (1000000000 : Int64))) (cq70 : ¬ (v < (10000000000 : Int64))) (cq77 : ¬ (v < (100000000000 : Int64))) (cq84 : ¬ (v < (1000000000000 : Int64))) (cq91 : ¬ (v < (10000000000000 : Int64))) (cq98 : ¬ (v < (100000000000000 : Int64))) :
    Goes p e below s ({ frames := 0, cells := 0, slots := 0, locals := 0 } : Room).cells ({ frames := 0, cells := 0, slots := 0, locals := 0 } : Room).slots n0 (fun vv hh => vv = some (.int (dig v)) ∧ hh = h0) (T.setTop (mkF m 6 #[.val (.long v), .second, .val (.int (15 : Int32))] [(.ref ar), (.int (15 : Int32))])) := by
  have zO := O.le
  show Goes _ _ _ _ _ _ _ _ (T.setTop (mkF m 6 #[.val (.long v), .second, .val (.int (15 : Int32))] [(.ref ar), (.int (15 : Int32))]))
  have fq100 : Arv Z h0 ar k0 .long (19 : Int32) PW (.long (0 : Int64)) := (V0.ext O.2)
  obtain ⟨clq101, Arq101, -, Sq101, Nnq101, -, -⟩ := id fq100
  refine Goes.via (X.arraylength hx (by rw [e0]; exact Arq101.1) (State.isArrayOf_alike hZ.alike Arq101.2.1) (g := (mkF m 6 #[.val (.long v), .second, .val (.int (15 : Int32))] [(.ref ar), (.int (15 : Int32))])) rfl rfl (hb hby d_prog_4_method_21_code_6)) ?_
  rw [len_of Sq101 Nnq101]
  show Goes _ _ _ _ _ _ _ _ (T.setTop (mkF m 7 #[.val (.long v), .second, .val (.int (15 : Int32))] [(.int (19 : Int32)), (.int (15 : Int32))]))
  refine Goes.via (fun _ k => XS.icmpNo X.here hx rfl (hb hby d_prog_4_method_21_code_7) rfl (XT.ii_ge_f (by decide)) k) ?_
  show Goes _ _ _ _ _ _ _ _ (T.setTop (mkF m 10 #[.val (.long v), .second, .val (.int (15 : Int32))] []))
  refine Goes.via (fun _ k => XT.lloadN X.here hx rfl (hb hby d_prog_4_method_21_code_10) rfl k) ?_
  show Goes _ _ _ _ _ _ _ _ (T.setTop (mkF m 11 #[.val (.long v), .second, .val (.int (15 : Int32))] [(.long v)]))
  have fq103 : Sta Z h0 "com/example/primevertical/primevertical/DecimalText" "LONG_POWERS_OF_TEN" "[J" (.ref ar) := (S0.ext O.2)
  obtain ⟨Tq102, Xq102, eq102, stq102⟩ := getS2 X hx hZ hown (host := "") (Or.inl (W_23 hw)) Via.refl e0 fq103 (g := (mkF m 11 #[.val (.long v), .second, .val (.int (15 : Int32))] [(.long v)])) rfl (hb hby d_prog_4_method_21_code_11)
  refine Goes.via stq102 ?_
  show Goes _ _ _ _ _ _ _ _ (Tq102.setTop (mkF m 14 #[.val (.long v), .second, .val (.int (15 : Int32))] [(.ref ar), (.long v)]))
  refine Goes.via (fun _ k => XS.iloadN Xq102.here hx rfl (hb hby d_prog_4_method_21_code_14) rfl k) ?_
  show Goes _ _ _ _ _ _ _ _ (Tq102.setTop (mkF m 15 #[.val (.long v), .second, .val (.int (15 : Int32))] [(.int (15 : Int32)), (.ref ar), (.long v)]))
  obtain ⟨clq104, Arq104, qq104, Sq104, Nnq104, Hq104, Gq104⟩ := id fq100
  have hinq104 : ¬ ((15 : Int32) < 0 ∨ clq104.slots.size ≤ ((15 : Int32)).toNatClampNeg) := inb_of Sq104 ⟨by decide, by decide⟩
  refine Goes.via (Xq102.laload hx (j := (15 : Int32)) (v := (.long (1000000000000000 : Int64))) (by rw [eq102]; exact Arq104.1) (State.isArrayOf_alike hZ.alike Arq104.2.1) Arq104.2.2 hinq104 (Hq104.at hinq104 rfl) (g := (mkF m 15 #[.val (.long v), .second, .val (.int (15 : Int32))] [(.int (15 : Int32)), (.ref ar), (.long v)])) rfl rfl (hb hby d_prog_4_method_21_code_15)) ?_
  show Goes _ _ _ _ _ _ _ _ (Tq102.setTop (mkF m 16 #[.val (.long v), .second, .val (.int (15 : Int32))] [(.long (1000000000000000 : Int64)), (.long v)]))
  refine Goes.via (fun _ k => XT.lcmp Xq102.here hx rfl (hb hby d_prog_4_method_21_code_16) rfl k) ?_
  show Goes _ _ _ _ _ _ _ _ (Tq102.setTop (mkF m 17 #[.val (.long v), .second, .val (.int (15 : Int32))] [(.int (XT.cmpL v (1000000000000000 : Int64)))]))
  by_cases cq105 : v < (1000000000000000 : Int64)
  · skip
    refine Goes.via (fun _ k => XS.ifYes Xq102.here hx rfl (pc0 := 17) (pc' := 26) rfl (hb hby d_prog_4_method_21_code_17) rfl (XT.ll_lt_t cq105) (by decide) (by decide) k) ?_
    show Goes _ _ _ _ _ _ _ _ (Tq102.setTop (mkF m 26 #[.val (.long v), .second, .val (.int (15 : Int32))] []))
    refine Goes.via (fun _ k => XS.iloadN Xq102.here hx rfl (hb hby d_prog_4_method_21_code_26) rfl k) ?_
    show Goes _ _ _ _ _ _ _ _ (Tq102.setTop (mkF m 27 #[.val (.long v), .second, .val (.int (15 : Int32))] [(.int (15 : Int32))]))
    refine goRetI Xq102 hx hrt hlk N (by show _ ≤ 0; omega) (by show _ ≤ 0; omega) (hb hby d_prog_4_method_21_code_27) ?_
    try rw [eq102]
    exact ⟨by show some (Value.int (15 : Int32)) = _; unfold dig; rw [if_neg cq7, if_neg cq14, if_neg cq21, if_neg cq28, if_neg cq35, if_neg cq42, if_neg cq49, if_neg cq56, if_neg cq63, if_neg cq70, if_neg cq77, if_neg cq84, if_neg cq91, if_neg cq98, if_pos cq105], rfl⟩
  · skip
    refine Goes.via (fun _ k => XS.ifNo Xq102.here hx rfl (hb hby d_prog_4_method_21_code_17) rfl (XT.ll_lt_f cq105) k) ?_
    show Goes _ _ _ _ _ _ _ _ (Tq102.setTop (mkF m 20 #[.val (.long v), .second, .val (.int (15 : Int32))] []))
    refine Goes.via (fun _ k => iincZ Xq102.here hx rfl (16 : Int32) (hb hby d_prog_4_method_21_code_20) (by decide) rfl (l' := #[.val (.long v), .second, .val (.int (16 : Int32))]) rfl k) ?_
    show Goes _ _ _ _ _ _ _ _ (Tq102.setTop (mkF m 23 #[.val (.long v), .second, .val (.int (16 : Int32))] []))
    refine Goes.via (fun _ k => XS.goto Xq102.here hx rfl (pc0 := 23) (pc' := 2) rfl (hb hby d_prog_4_method_21_code_23) (by decide) (by decide) k) ?_
    show Goes _ _ _ _ _ _ _ _ (Tq102.setTop (mkF m 2 #[.val (.long v), .second, .val (.int (16 : Int32))] []))
    refine Goes.via (fun _ k => XS.iloadN Xq102.here hx rfl (hb hby d_prog_4_method_21_code_2) rfl k) ?_
    show Goes _ _ _ _ _ _ _ _ (Tq102.setTop (mkF m 3 #[.val (.long v), .second, .val (.int (16 : Int32))] [(.int (16 : Int32))]))
    obtain ⟨Tq106, Xq106, eq106, stq106⟩ := getS2 Xq102 hx hZ hown (host := "") (Or.inl (W_23 hw)) Via.refl eq102 fq103 (g := (mkF m 3 #[.val (.long v), .second, .val (.int (16 : Int32))] [(.int (16 : Int32))])) rfl (hb hby d_prog_4_method_21_code_3)
    refine Goes.via stq106 ?_
    show Goes _ _ _ _ _ _ _ _ (Tq106.setTop (mkF m 6 #[.val (.long v), .second, .val (.int (16 : Int32))] [(.ref ar), (.int (16 : Int32))]))
    exact dcount_c15 l Z aw hw v ar k0 hx hby hml hrt hlk hnm hZ hown Xq106 eq106 N (by omega) (by omega) O S0 V0 cq7 cq14 cq21 cq28 cq35 cq42 cq49 cq56 cq63 cq70 cq77 cq84 cq91 cq98 cq105
set_option maxRecDepth 65536 in
set_option maxHeartbeats 40000000 in
theorem dcount_c13 (l : Launch) (Z : State) (aw : Array Value) (hw : ∀ d ∈ tables_1, d.before aw Z = true) (v : Int64) (ar : Nat) (k0 : ClassId) {p : Program} {e : Env} {s : State} {m : MethodId} {args : Array Value} {below : List Frame} {meth : Method} {c : Code} {T : State} {locs : List Loc} {cells slots n0 : Nat} {h0 : Heap} (hx : p.tables.exec = Jvm.exec) (hby : c.code = prog_4_method_21_code) (hml : c.maxLocals = 3) (hrt : meth.sig.returnType = some .int) (hlk : meth.locks = false) (hnm : meth.name = "digitCount") (hZ : Z.Warmed39 s.vm) (hown : s.vm.findClass "com/example/primevertical/primevertical/DecimalText" = some m.cls) (X : Stand p l e ({ frames := 0, cells := 0, slots := 0, locals := 0 } : Room) s m args below meth c T locs cells slots) (e0 : T.heap = h0) (N : Fr n0 locs) (hcells : cells ≤ 0) (hslots : slots ≤ 0) (O : Old Z n0 h0) (S0 : Sta Z Z.heap "com/example/primevertical/primevertical/DecimalText" "LONG_POWERS_OF_TEN" "[J" (.ref ar)) (V0 : Arv Z Z.heap ar k0 .long (19 : Int32) PW (.long (0 : Int64))) (cq7 : ¬ (v < (10 : Int64))) (cq14 : ¬ (v < (100 : Int64))) (cq21 : ¬ (v < (1000 : Int64))) (cq28 : ¬ (v < (10000 : Int64))) (cq35 : ¬ (v < (100000 : Int64))) (cq42 : ¬ (v < (1000000 : Int64))) (cq49 : ¬ (v < (10000000 : Int64))) (cq56 : ¬ (v < (100000000 : Int64))) (cq63 : ¬ (v < (1000000000 : Int64))) (cq70 : ¬ (v < (10000000000 : Int64))) (cq77 : ¬ (v < (100000000000 : Int64))) (cq84 : ¬ (v < (1000000000000 : Int64))) (cq91 : ¬ (v < (10000000000000 : Int64))) :
    Goes p e below s ({ frames := 0, cells := 0, slots := 0, locals := 0 } : Room).cells ({ frames := 0, cells := 0, slots := 0, locals := 0 } : Room).slots n0 (fun vv hh => vv = some (.int (dig v)) ∧ hh = h0) (T.setTop (mkF m 6 #[.val (.long v), .second, .val (.int (14 : Int32))] [(.ref ar), (.int (14 : Int32))])) := by
  have zO := O.le
  show Goes _ _ _ _ _ _ _ _ (T.setTop (mkF m 6 #[.val (.long v), .second, .val (.int (14 : Int32))] [(.ref ar), (.int (14 : Int32))]))
  have fq93 : Arv Z h0 ar k0 .long (19 : Int32) PW (.long (0 : Int64)) := (V0.ext O.2)
  obtain ⟨clq94, Arq94, -, Sq94, Nnq94, -, -⟩ := id fq93
  refine Goes.via (X.arraylength hx (by rw [e0]; exact Arq94.1) (State.isArrayOf_alike hZ.alike Arq94.2.1) (g := (mkF m 6 #[.val (.long v), .second, .val (.int (14 : Int32))] [(.ref ar), (.int (14 : Int32))])) rfl rfl (hb hby d_prog_4_method_21_code_6)) ?_
  rw [len_of Sq94 Nnq94]
  show Goes _ _ _ _ _ _ _ _ (T.setTop (mkF m 7 #[.val (.long v), .second, .val (.int (14 : Int32))] [(.int (19 : Int32)), (.int (14 : Int32))]))
  refine Goes.via (fun _ k => XS.icmpNo X.here hx rfl (hb hby d_prog_4_method_21_code_7) rfl (XT.ii_ge_f (by decide)) k) ?_
  show Goes _ _ _ _ _ _ _ _ (T.setTop (mkF m 10 #[.val (.long v), .second, .val (.int (14 : Int32))] []))
  refine Goes.via (fun _ k => XT.lloadN X.here hx rfl (hb hby d_prog_4_method_21_code_10) rfl k) ?_
  show Goes _ _ _ _ _ _ _ _ (T.setTop (mkF m 11 #[.val (.long v), .second, .val (.int (14 : Int32))] [(.long v)]))
  have fq96 : Sta Z h0 "com/example/primevertical/primevertical/DecimalText" "LONG_POWERS_OF_TEN" "[J" (.ref ar) := (S0.ext O.2)
  obtain ⟨Tq95, Xq95, eq95, stq95⟩ := getS2 X hx hZ hown (host := "") (Or.inl (W_23 hw)) Via.refl e0 fq96 (g := (mkF m 11 #[.val (.long v), .second, .val (.int (14 : Int32))] [(.long v)])) rfl (hb hby d_prog_4_method_21_code_11)
  refine Goes.via stq95 ?_
  show Goes _ _ _ _ _ _ _ _ (Tq95.setTop (mkF m 14 #[.val (.long v), .second, .val (.int (14 : Int32))] [(.ref ar), (.long v)]))
  refine Goes.via (fun _ k => XS.iloadN Xq95.here hx rfl (hb hby d_prog_4_method_21_code_14) rfl k) ?_
  show Goes _ _ _ _ _ _ _ _ (Tq95.setTop (mkF m 15 #[.val (.long v), .second, .val (.int (14 : Int32))] [(.int (14 : Int32)), (.ref ar), (.long v)]))
  obtain ⟨clq97, Arq97, qq97, Sq97, Nnq97, Hq97, Gq97⟩ := id fq93
  have hinq97 : ¬ ((14 : Int32) < 0 ∨ clq97.slots.size ≤ ((14 : Int32)).toNatClampNeg) := inb_of Sq97 ⟨by decide, by decide⟩
  refine Goes.via (Xq95.laload hx (j := (14 : Int32)) (v := (.long (100000000000000 : Int64))) (by rw [eq95]; exact Arq97.1) (State.isArrayOf_alike hZ.alike Arq97.2.1) Arq97.2.2 hinq97 (Hq97.at hinq97 rfl) (g := (mkF m 15 #[.val (.long v), .second, .val (.int (14 : Int32))] [(.int (14 : Int32)), (.ref ar), (.long v)])) rfl rfl (hb hby d_prog_4_method_21_code_15)) ?_
  show Goes _ _ _ _ _ _ _ _ (Tq95.setTop (mkF m 16 #[.val (.long v), .second, .val (.int (14 : Int32))] [(.long (100000000000000 : Int64)), (.long v)]))
  refine Goes.via (fun _ k => XT.lcmp Xq95.here hx rfl (hb hby d_prog_4_method_21_code_16) rfl k) ?_
  show Goes _ _ _ _ _ _ _ _ (Tq95.setTop (mkF m 17 #[.val (.long v), .second, .val (.int (14 : Int32))] [(.int (XT.cmpL v (100000000000000 : Int64)))]))
  by_cases cq98 : v < (100000000000000 : Int64)
  · skip
    refine Goes.via (fun _ k => XS.ifYes Xq95.here hx rfl (pc0 := 17) (pc' := 26) rfl (hb hby d_prog_4_method_21_code_17) rfl (XT.ll_lt_t cq98) (by decide) (by decide) k) ?_
    show Goes _ _ _ _ _ _ _ _ (Tq95.setTop (mkF m 26 #[.val (.long v), .second, .val (.int (14 : Int32))] []))
    refine Goes.via (fun _ k => XS.iloadN Xq95.here hx rfl (hb hby d_prog_4_method_21_code_26) rfl k) ?_
    show Goes _ _ _ _ _ _ _ _ (Tq95.setTop (mkF m 27 #[.val (.long v), .second, .val (.int (14 : Int32))] [(.int (14 : Int32))]))
    refine goRetI Xq95 hx hrt hlk N (by show _ ≤ 0; omega) (by show _ ≤ 0; omega) (hb hby d_prog_4_method_21_code_27) ?_
    try rw [eq95]
    exact ⟨by show some (Value.int (14 : Int32)) = _; unfold dig; rw [if_neg cq7, if_neg cq14, if_neg cq21, if_neg cq28, if_neg cq35, if_neg cq42, if_neg cq49, if_neg cq56, if_neg cq63, if_neg cq70, if_neg cq77, if_neg cq84, if_neg cq91, if_pos cq98], rfl⟩
  · skip
    refine Goes.via (fun _ k => XS.ifNo Xq95.here hx rfl (hb hby d_prog_4_method_21_code_17) rfl (XT.ll_lt_f cq98) k) ?_
    show Goes _ _ _ _ _ _ _ _ (Tq95.setTop (mkF m 20 #[.val (.long v), .second, .val (.int (14 : Int32))] []))
    refine Goes.via (fun _ k => iincZ Xq95.here hx rfl (15 : Int32) (hb hby d_prog_4_method_21_code_20) (by decide) rfl (l' := #[.val (.long v), .second, .val (.int (15 : Int32))]) rfl k) ?_
    show Goes _ _ _ _ _ _ _ _ (Tq95.setTop (mkF m 23 #[.val (.long v), .second, .val (.int (15 : Int32))] []))
    refine Goes.via (fun _ k => XS.goto Xq95.here hx rfl (pc0 := 23) (pc' := 2) rfl (hb hby d_prog_4_method_21_code_23) (by decide) (by decide) k) ?_
    show Goes _ _ _ _ _ _ _ _ (Tq95.setTop (mkF m 2 #[.val (.long v), .second, .val (.int (15 : Int32))] []))
    refine Goes.via (fun _ k => XS.iloadN Xq95.here hx rfl (hb hby d_prog_4_method_21_code_2) rfl k) ?_
    show Goes _ _ _ _ _ _ _ _ (Tq95.setTop (mkF m 3 #[.val (.long v), .second, .val (.int (15 : Int32))] [(.int (15 : Int32))]))
    obtain ⟨Tq99, Xq99, eq99, stq99⟩ := getS2 Xq95 hx hZ hown (host := "") (Or.inl (W_23 hw)) Via.refl eq95 fq96 (g := (mkF m 3 #[.val (.long v), .second, .val (.int (15 : Int32))] [(.int (15 : Int32))])) rfl (hb hby d_prog_4_method_21_code_3)
    refine Goes.via stq99 ?_
    show Goes _ _ _ _ _ _ _ _ (Tq99.setTop (mkF m 6 #[.val (.long v), .second, .val (.int (15 : Int32))] [(.ref ar), (.int (15 : Int32))]))
    exact dcount_c14 l Z aw hw v ar k0 hx hby hml hrt hlk hnm hZ hown Xq99 eq99 N (by omega) (by omega) O S0 V0 cq7 cq14 cq21 cq28 cq35 cq42 cq49 cq56 cq63 cq70 cq77 cq84 cq91 cq98
set_option maxRecDepth 65536 in
set_option maxHeartbeats 40000000 in
theorem dcount_c12 (l : Launch) (Z : State) (aw : Array Value) (hw : ∀ d ∈ tables_1, d.before aw Z = true) (v : Int64) (ar : Nat) (k0 : ClassId) {p : Program} {e : Env} {s : State} {m : MethodId} {args : Array Value} {below : List Frame} {meth : Method} {c : Code} {T : State} {locs : List Loc} {cells slots n0 : Nat} {h0 : Heap} (hx : p.tables.exec = Jvm.exec) (hby : c.code = prog_4_method_21_code) (hml : c.maxLocals = 3) (hrt : meth.sig.returnType = some .int) (hlk : meth.locks = false) (hnm : meth.name = "digitCount") (hZ : Z.Warmed39 s.vm) (hown : s.vm.findClass "com/example/primevertical/primevertical/DecimalText" = some m.cls) (X : Stand p l e ({ frames := 0, cells := 0, slots := 0, locals := 0 } : Room) s m args below meth c T locs cells slots) (e0 : T.heap = h0) (N : Fr n0 locs) (hcells : cells ≤ 0) (hslots : slots ≤ 0) (O : Old Z n0 h0) (S0 : Sta Z Z.heap "com/example/primevertical/primevertical/DecimalText" "LONG_POWERS_OF_TEN" "[J" (.ref ar)) (V0 : Arv Z Z.heap ar k0 .long (19 : Int32) PW (.long (0 : Int64))) (cq7 : ¬ (v < (10 : Int64))) (cq14 : ¬ (v < (100 : Int64))) (cq21 : ¬ (v < (1000 : Int64))) (cq28 : ¬ (v < (10000 : Int64))) (cq35 : ¬ (v < (100000 : Int64))) (cq42 : ¬ (v < (1000000 : Int64))) (cq49 : ¬ (v < (10000000 : Int64))) (cq56 : ¬ (v < (100000000 : Int64))) (cq63 : ¬ (v < (1000000000 : Int64))) (cq70 : ¬ (v < (10000000000 : Int64))) (cq77 : ¬ (v < (100000000000 : Int64))) (cq84 : ¬ (v < (1000000000000 : Int64))) :
    Goes p e below s ({ frames := 0, cells := 0, slots := 0, locals := 0 } : Room).cells ({ frames := 0, cells := 0, slots := 0, locals := 0 } : Room).slots n0 (fun vv hh => vv = some (.int (dig v)) ∧ hh = h0) (T.setTop (mkF m 6 #[.val (.long v), .second, .val (.int (13 : Int32))] [(.ref ar), (.int (13 : Int32))])) := by
  have zO := O.le
  show Goes _ _ _ _ _ _ _ _ (T.setTop (mkF m 6 #[.val (.long v), .second, .val (.int (13 : Int32))] [(.ref ar), (.int (13 : Int32))]))
  have fq86 : Arv Z h0 ar k0 .long (19 : Int32) PW (.long (0 : Int64)) := (V0.ext O.2)
  obtain ⟨clq87, Arq87, -, Sq87, Nnq87, -, -⟩ := id fq86
  refine Goes.via (X.arraylength hx (by rw [e0]; exact Arq87.1) (State.isArrayOf_alike hZ.alike Arq87.2.1) (g := (mkF m 6 #[.val (.long v), .second, .val (.int (13 : Int32))] [(.ref ar), (.int (13 : Int32))])) rfl rfl (hb hby d_prog_4_method_21_code_6)) ?_
  rw [len_of Sq87 Nnq87]
  show Goes _ _ _ _ _ _ _ _ (T.setTop (mkF m 7 #[.val (.long v), .second, .val (.int (13 : Int32))] [(.int (19 : Int32)), (.int (13 : Int32))]))
  refine Goes.via (fun _ k => XS.icmpNo X.here hx rfl (hb hby d_prog_4_method_21_code_7) rfl (XT.ii_ge_f (by decide)) k) ?_
  show Goes _ _ _ _ _ _ _ _ (T.setTop (mkF m 10 #[.val (.long v), .second, .val (.int (13 : Int32))] []))
  refine Goes.via (fun _ k => XT.lloadN X.here hx rfl (hb hby d_prog_4_method_21_code_10) rfl k) ?_
  show Goes _ _ _ _ _ _ _ _ (T.setTop (mkF m 11 #[.val (.long v), .second, .val (.int (13 : Int32))] [(.long v)]))
  have fq89 : Sta Z h0 "com/example/primevertical/primevertical/DecimalText" "LONG_POWERS_OF_TEN" "[J" (.ref ar) := (S0.ext O.2)
  obtain ⟨Tq88, Xq88, eq88, stq88⟩ := getS2 X hx hZ hown (host := "") (Or.inl (W_23 hw)) Via.refl e0 fq89 (g := (mkF m 11 #[.val (.long v), .second, .val (.int (13 : Int32))] [(.long v)])) rfl (hb hby d_prog_4_method_21_code_11)
  refine Goes.via stq88 ?_
  show Goes _ _ _ _ _ _ _ _ (Tq88.setTop (mkF m 14 #[.val (.long v), .second, .val (.int (13 : Int32))] [(.ref ar), (.long v)]))
  refine Goes.via (fun _ k => XS.iloadN Xq88.here hx rfl (hb hby d_prog_4_method_21_code_14) rfl k) ?_
  show Goes _ _ _ _ _ _ _ _ (Tq88.setTop (mkF m 15 #[.val (.long v), .second, .val (.int (13 : Int32))] [(.int (13 : Int32)), (.ref ar), (.long v)]))
  obtain ⟨clq90, Arq90, qq90, Sq90, Nnq90, Hq90, Gq90⟩ := id fq86
  have hinq90 : ¬ ((13 : Int32) < 0 ∨ clq90.slots.size ≤ ((13 : Int32)).toNatClampNeg) := inb_of Sq90 ⟨by decide, by decide⟩
  refine Goes.via (Xq88.laload hx (j := (13 : Int32)) (v := (.long (10000000000000 : Int64))) (by rw [eq88]; exact Arq90.1) (State.isArrayOf_alike hZ.alike Arq90.2.1) Arq90.2.2 hinq90 (Hq90.at hinq90 rfl) (g := (mkF m 15 #[.val (.long v), .second, .val (.int (13 : Int32))] [(.int (13 : Int32)), (.ref ar), (.long v)])) rfl rfl (hb hby d_prog_4_method_21_code_15)) ?_
  show Goes _ _ _ _ _ _ _ _ (Tq88.setTop (mkF m 16 #[.val (.long v), .second, .val (.int (13 : Int32))] [(.long (10000000000000 : Int64)), (.long v)]))
  refine Goes.via (fun _ k => XT.lcmp Xq88.here hx rfl (hb hby d_prog_4_method_21_code_16) rfl k) ?_
  show Goes _ _ _ _ _ _ _ _ (Tq88.setTop (mkF m 17 #[.val (.long v), .second, .val (.int (13 : Int32))] [(.int (XT.cmpL v (10000000000000 : Int64)))]))
  by_cases cq91 : v < (10000000000000 : Int64)
  · skip
    refine Goes.via (fun _ k => XS.ifYes Xq88.here hx rfl (pc0 := 17) (pc' := 26) rfl (hb hby d_prog_4_method_21_code_17) rfl (XT.ll_lt_t cq91) (by decide) (by decide) k) ?_
    show Goes _ _ _ _ _ _ _ _ (Tq88.setTop (mkF m 26 #[.val (.long v), .second, .val (.int (13 : Int32))] []))
    refine Goes.via (fun _ k => XS.iloadN Xq88.here hx rfl (hb hby d_prog_4_method_21_code_26) rfl k) ?_
    show Goes _ _ _ _ _ _ _ _ (Tq88.setTop (mkF m 27 #[.val (.long v), .second, .val (.int (13 : Int32))] [(.int (13 : Int32))]))
    refine goRetI Xq88 hx hrt hlk N (by show _ ≤ 0; omega) (by show _ ≤ 0; omega) (hb hby d_prog_4_method_21_code_27) ?_
    try rw [eq88]
    exact ⟨by show some (Value.int (13 : Int32)) = _; unfold dig; rw [if_neg cq7, if_neg cq14, if_neg cq21, if_neg cq28, if_neg cq35, if_neg cq42, if_neg cq49, if_neg cq56, if_neg cq63, if_neg cq70, if_neg cq77, if_neg cq84, if_pos cq91], rfl⟩
  · skip
    refine Goes.via (fun _ k => XS.ifNo Xq88.here hx rfl (hb hby d_prog_4_method_21_code_17) rfl (XT.ll_lt_f cq91) k) ?_
    show Goes _ _ _ _ _ _ _ _ (Tq88.setTop (mkF m 20 #[.val (.long v), .second, .val (.int (13 : Int32))] []))
    refine Goes.via (fun _ k => iincZ Xq88.here hx rfl (14 : Int32) (hb hby d_prog_4_method_21_code_20) (by decide) rfl (l' := #[.val (.long v), .second, .val (.int (14 : Int32))]) rfl k) ?_
    show Goes _ _ _ _ _ _ _ _ (Tq88.setTop (mkF m 23 #[.val (.long v), .second, .val (.int (14 : Int32))] []))
    refine Goes.via (fun _ k => XS.goto Xq88.here hx rfl (pc0 := 23) (pc' := 2) rfl (hb hby d_prog_4_method_21_code_23) (by decide) (by decide) k) ?_
    show Goes _ _ _ _ _ _ _ _ (Tq88.setTop (mkF m 2 #[.val (.long v), .second, .val (.int (14 : Int32))] []))
    refine Goes.via (fun _ k => XS.iloadN Xq88.here hx rfl (hb hby d_prog_4_method_21_code_2) rfl k) ?_
    show Goes _ _ _ _ _ _ _ _ (Tq88.setTop (mkF m 3 #[.val (.long v), .second, .val (.int (14 : Int32))] [(.int (14 : Int32))]))
    obtain ⟨Tq92, Xq92, eq92, stq92⟩ := getS2 Xq88 hx hZ hown (host := "") (Or.inl (W_23 hw)) Via.refl eq88 fq89 (g := (mkF m 3 #[.val (.long v), .second, .val (.int (14 : Int32))] [(.int (14 : Int32))])) rfl (hb hby d_prog_4_method_21_code_3)
    refine Goes.via stq92 ?_
    show Goes _ _ _ _ _ _ _ _ (Tq92.setTop (mkF m 6 #[.val (.long v), .second, .val (.int (14 : Int32))] [(.ref ar), (.int (14 : Int32))]))
    exact dcount_c13 l Z aw hw v ar k0 hx hby hml hrt hlk hnm hZ hown Xq92 eq92 N (by omega) (by omega) O S0 V0 cq7 cq14 cq21 cq28 cq35 cq42 cq49 cq56 cq63 cq70 cq77 cq84 cq91
set_option maxRecDepth 65536 in
set_option maxHeartbeats 40000000 in
theorem dcount_c11 (l : Launch) (Z : State) (aw : Array Value) (hw : ∀ d ∈ tables_1, d.before aw Z = true) (v : Int64) (ar : Nat) (k0 : ClassId) {p : Program} {e : Env} {s : State} {m : MethodId} {args : Array Value} {below : List Frame} {meth : Method} {c : Code} {T : State} {locs : List Loc} {cells slots n0 : Nat} {h0 : Heap} (hx : p.tables.exec = Jvm.exec) (hby : c.code = prog_4_method_21_code) (hml : c.maxLocals = 3) (hrt : meth.sig.returnType = some .int) (hlk : meth.locks = false) (hnm : meth.name = "digitCount") (hZ : Z.Warmed39 s.vm) (hown : s.vm.findClass "com/example/primevertical/primevertical/DecimalText" = some m.cls) (X : Stand p l e ({ frames := 0, cells := 0, slots := 0, locals := 0 } : Room) s m args below meth c T locs cells slots) (e0 : T.heap = h0) (N : Fr n0 locs) (hcells : cells ≤ 0) (hslots : slots ≤ 0) (O : Old Z n0 h0) (S0 : Sta Z Z.heap "com/example/primevertical/primevertical/DecimalText" "LONG_POWERS_OF_TEN" "[J" (.ref ar)) (V0 : Arv Z Z.heap ar k0 .long (19 : Int32) PW (.long (0 : Int64))) (cq7 : ¬ (v < (10 : Int64))) (cq14 : ¬ (v < (100 : Int64))) (cq21 : ¬ (v < (1000 : Int64))) (cq28 : ¬ (v < (10000 : Int64))) (cq35 : ¬ (v < (100000 : Int64))) (cq42 : ¬ (v < (1000000 : Int64))) (cq49 : ¬ (v < (10000000 : Int64))) (cq56 : ¬ (v < (100000000 : Int64))) (cq63 : ¬ (v < (1000000000 : Int64))) (cq70 : ¬ (v < (10000000000 : Int64))) (cq77 : ¬ (v < (100000000000 : Int64))) :
    Goes p e below s ({ frames := 0, cells := 0, slots := 0, locals := 0 } : Room).cells ({ frames := 0, cells := 0, slots := 0, locals := 0 } : Room).slots n0 (fun vv hh => vv = some (.int (dig v)) ∧ hh = h0) (T.setTop (mkF m 6 #[.val (.long v), .second, .val (.int (12 : Int32))] [(.ref ar), (.int (12 : Int32))])) := by
  have zO := O.le
  show Goes _ _ _ _ _ _ _ _ (T.setTop (mkF m 6 #[.val (.long v), .second, .val (.int (12 : Int32))] [(.ref ar), (.int (12 : Int32))]))
  have fq79 : Arv Z h0 ar k0 .long (19 : Int32) PW (.long (0 : Int64)) := (V0.ext O.2)
  obtain ⟨clq80, Arq80, -, Sq80, Nnq80, -, -⟩ := id fq79
  refine Goes.via (X.arraylength hx (by rw [e0]; exact Arq80.1) (State.isArrayOf_alike hZ.alike Arq80.2.1) (g := (mkF m 6 #[.val (.long v), .second, .val (.int (12 : Int32))] [(.ref ar), (.int (12 : Int32))])) rfl rfl (hb hby d_prog_4_method_21_code_6)) ?_
  rw [len_of Sq80 Nnq80]
  show Goes _ _ _ _ _ _ _ _ (T.setTop (mkF m 7 #[.val (.long v), .second, .val (.int (12 : Int32))] [(.int (19 : Int32)), (.int (12 : Int32))]))
  refine Goes.via (fun _ k => XS.icmpNo X.here hx rfl (hb hby d_prog_4_method_21_code_7) rfl (XT.ii_ge_f (by decide)) k) ?_
  show Goes _ _ _ _ _ _ _ _ (T.setTop (mkF m 10 #[.val (.long v), .second, .val (.int (12 : Int32))] []))
  refine Goes.via (fun _ k => XT.lloadN X.here hx rfl (hb hby d_prog_4_method_21_code_10) rfl k) ?_
  show Goes _ _ _ _ _ _ _ _ (T.setTop (mkF m 11 #[.val (.long v), .second, .val (.int (12 : Int32))] [(.long v)]))
  have fq82 : Sta Z h0 "com/example/primevertical/primevertical/DecimalText" "LONG_POWERS_OF_TEN" "[J" (.ref ar) := (S0.ext O.2)
  obtain ⟨Tq81, Xq81, eq81, stq81⟩ := getS2 X hx hZ hown (host := "") (Or.inl (W_23 hw)) Via.refl e0 fq82 (g := (mkF m 11 #[.val (.long v), .second, .val (.int (12 : Int32))] [(.long v)])) rfl (hb hby d_prog_4_method_21_code_11)
  refine Goes.via stq81 ?_
  show Goes _ _ _ _ _ _ _ _ (Tq81.setTop (mkF m 14 #[.val (.long v), .second, .val (.int (12 : Int32))] [(.ref ar), (.long v)]))
  refine Goes.via (fun _ k => XS.iloadN Xq81.here hx rfl (hb hby d_prog_4_method_21_code_14) rfl k) ?_
  show Goes _ _ _ _ _ _ _ _ (Tq81.setTop (mkF m 15 #[.val (.long v), .second, .val (.int (12 : Int32))] [(.int (12 : Int32)), (.ref ar), (.long v)]))
  obtain ⟨clq83, Arq83, qq83, Sq83, Nnq83, Hq83, Gq83⟩ := id fq79
  have hinq83 : ¬ ((12 : Int32) < 0 ∨ clq83.slots.size ≤ ((12 : Int32)).toNatClampNeg) := inb_of Sq83 ⟨by decide, by decide⟩
  refine Goes.via (Xq81.laload hx (j := (12 : Int32)) (v := (.long (1000000000000 : Int64))) (by rw [eq81]; exact Arq83.1) (State.isArrayOf_alike hZ.alike Arq83.2.1) Arq83.2.2 hinq83 (Hq83.at hinq83 rfl) (g := (mkF m 15 #[.val (.long v), .second, .val (.int (12 : Int32))] [(.int (12 : Int32)), (.ref ar), (.long v)])) rfl rfl (hb hby d_prog_4_method_21_code_15)) ?_
  show Goes _ _ _ _ _ _ _ _ (Tq81.setTop (mkF m 16 #[.val (.long v), .second, .val (.int (12 : Int32))] [(.long (1000000000000 : Int64)), (.long v)]))
  refine Goes.via (fun _ k => XT.lcmp Xq81.here hx rfl (hb hby d_prog_4_method_21_code_16) rfl k) ?_
  show Goes _ _ _ _ _ _ _ _ (Tq81.setTop (mkF m 17 #[.val (.long v), .second, .val (.int (12 : Int32))] [(.int (XT.cmpL v (1000000000000 : Int64)))]))
  by_cases cq84 : v < (1000000000000 : Int64)
  · skip
    refine Goes.via (fun _ k => XS.ifYes Xq81.here hx rfl (pc0 := 17) (pc' := 26) rfl (hb hby d_prog_4_method_21_code_17) rfl (XT.ll_lt_t cq84) (by decide) (by decide) k) ?_
    show Goes _ _ _ _ _ _ _ _ (Tq81.setTop (mkF m 26 #[.val (.long v), .second, .val (.int (12 : Int32))] []))
    refine Goes.via (fun _ k => XS.iloadN Xq81.here hx rfl (hb hby d_prog_4_method_21_code_26) rfl k) ?_
    show Goes _ _ _ _ _ _ _ _ (Tq81.setTop (mkF m 27 #[.val (.long v), .second, .val (.int (12 : Int32))] [(.int (12 : Int32))]))
    refine goRetI Xq81 hx hrt hlk N (by show _ ≤ 0; omega) (by show _ ≤ 0; omega) (hb hby d_prog_4_method_21_code_27) ?_
    try rw [eq81]
    exact ⟨by show some (Value.int (12 : Int32)) = _; unfold dig; rw [if_neg cq7, if_neg cq14, if_neg cq21, if_neg cq28, if_neg cq35, if_neg cq42, if_neg cq49, if_neg cq56, if_neg cq63, if_neg cq70, if_neg cq77, if_pos cq84], rfl⟩
  · skip
    refine Goes.via (fun _ k => XS.ifNo Xq81.here hx rfl (hb hby d_prog_4_method_21_code_17) rfl (XT.ll_lt_f cq84) k) ?_
    show Goes _ _ _ _ _ _ _ _ (Tq81.setTop (mkF m 20 #[.val (.long v), .second, .val (.int (12 : Int32))] []))
    refine Goes.via (fun _ k => iincZ Xq81.here hx rfl (13 : Int32) (hb hby d_prog_4_method_21_code_20) (by decide) rfl (l' := #[.val (.long v), .second, .val (.int (13 : Int32))]) rfl k) ?_
    show Goes _ _ _ _ _ _ _ _ (Tq81.setTop (mkF m 23 #[.val (.long v), .second, .val (.int (13 : Int32))] []))
    refine Goes.via (fun _ k => XS.goto Xq81.here hx rfl (pc0 := 23) (pc' := 2) rfl (hb hby d_prog_4_method_21_code_23) (by decide) (by decide) k) ?_
    show Goes _ _ _ _ _ _ _ _ (Tq81.setTop (mkF m 2 #[.val (.long v), .second, .val (.int (13 : Int32))] []))
    refine Goes.via (fun _ k => XS.iloadN Xq81.here hx rfl (hb hby d_prog_4_method_21_code_2) rfl k) ?_
    show Goes _ _ _ _ _ _ _ _ (Tq81.setTop (mkF m 3 #[.val (.long v), .second, .val (.int (13 : Int32))] [(.int (13 : Int32))]))
    obtain ⟨Tq85, Xq85, eq85, stq85⟩ := getS2 Xq81 hx hZ hown (host := "") (Or.inl (W_23 hw)) Via.refl eq81 fq82 (g := (mkF m 3 #[.val (.long v), .second, .val (.int (13 : Int32))] [(.int (13 : Int32))])) rfl (hb hby d_prog_4_method_21_code_3)
    refine Goes.via stq85 ?_
    show Goes _ _ _ _ _ _ _ _ (Tq85.setTop (mkF m 6 #[.val (.long v), .second, .val (.int (13 : Int32))] [(.ref ar), (.int (13 : Int32))]))
    exact dcount_c12 l Z aw hw v ar k0 hx hby hml hrt hlk hnm hZ hown Xq85 eq85 N (by omega) (by omega) O S0 V0 cq7 cq14 cq21 cq28 cq35 cq42 cq49 cq56 cq63 cq70 cq77 cq84
set_option maxRecDepth 65536 in
set_option maxHeartbeats 40000000 in
theorem dcount_c10 (l : Launch) (Z : State) (aw : Array Value) (hw : ∀ d ∈ tables_1, d.before aw Z = true) (v : Int64) (ar : Nat) (k0 : ClassId) {p : Program} {e : Env} {s : State} {m : MethodId} {args : Array Value} {below : List Frame} {meth : Method} {c : Code} {T : State} {locs : List Loc} {cells slots n0 : Nat} {h0 : Heap} (hx : p.tables.exec = Jvm.exec) (hby : c.code = prog_4_method_21_code) (hml : c.maxLocals = 3) (hrt : meth.sig.returnType = some .int) (hlk : meth.locks = false) (hnm : meth.name = "digitCount") (hZ : Z.Warmed39 s.vm) (hown : s.vm.findClass "com/example/primevertical/primevertical/DecimalText" = some m.cls) (X : Stand p l e ({ frames := 0, cells := 0, slots := 0, locals := 0 } : Room) s m args below meth c T locs cells slots) (e0 : T.heap = h0) (N : Fr n0 locs) (hcells : cells ≤ 0) (hslots : slots ≤ 0) (O : Old Z n0 h0) (S0 : Sta Z Z.heap "com/example/primevertical/primevertical/DecimalText" "LONG_POWERS_OF_TEN" "[J" (.ref ar)) (V0 : Arv Z Z.heap ar k0 .long (19 : Int32) PW (.long (0 : Int64))) (cq7 : ¬ (v < (10 : Int64))) (cq14 : ¬ (v < (100 : Int64))) (cq21 : ¬ (v < (1000 : Int64))) (cq28 : ¬ (v < (10000 : Int64))) (cq35 : ¬ (v < (100000 : Int64))) (cq42 : ¬ (v < (1000000 : Int64))) (cq49 : ¬ (v < (10000000 : Int64))) (cq56 : ¬ (v < (100000000 : Int64))) (cq63 : ¬ (v < (1000000000 : Int64))) (cq70 : ¬ (v < (10000000000 : Int64))) :
    Goes p e below s ({ frames := 0, cells := 0, slots := 0, locals := 0 } : Room).cells ({ frames := 0, cells := 0, slots := 0, locals := 0 } : Room).slots n0 (fun vv hh => vv = some (.int (dig v)) ∧ hh = h0) (T.setTop (mkF m 6 #[.val (.long v), .second, .val (.int (11 : Int32))] [(.ref ar), (.int (11 : Int32))])) := by
  have zO := O.le
  show Goes _ _ _ _ _ _ _ _ (T.setTop (mkF m 6 #[.val (.long v), .second, .val (.int (11 : Int32))] [(.ref ar), (.int (11 : Int32))]))
  have fq72 : Arv Z h0 ar k0 .long (19 : Int32) PW (.long (0 : Int64)) := (V0.ext O.2)
  obtain ⟨clq73, Arq73, -, Sq73, Nnq73, -, -⟩ := id fq72
  refine Goes.via (X.arraylength hx (by rw [e0]; exact Arq73.1) (State.isArrayOf_alike hZ.alike Arq73.2.1) (g := (mkF m 6 #[.val (.long v), .second, .val (.int (11 : Int32))] [(.ref ar), (.int (11 : Int32))])) rfl rfl (hb hby d_prog_4_method_21_code_6)) ?_
  rw [len_of Sq73 Nnq73]
  show Goes _ _ _ _ _ _ _ _ (T.setTop (mkF m 7 #[.val (.long v), .second, .val (.int (11 : Int32))] [(.int (19 : Int32)), (.int (11 : Int32))]))
  refine Goes.via (fun _ k => XS.icmpNo X.here hx rfl (hb hby d_prog_4_method_21_code_7) rfl (XT.ii_ge_f (by decide)) k) ?_
  show Goes _ _ _ _ _ _ _ _ (T.setTop (mkF m 10 #[.val (.long v), .second, .val (.int (11 : Int32))] []))
  refine Goes.via (fun _ k => XT.lloadN X.here hx rfl (hb hby d_prog_4_method_21_code_10) rfl k) ?_
  show Goes _ _ _ _ _ _ _ _ (T.setTop (mkF m 11 #[.val (.long v), .second, .val (.int (11 : Int32))] [(.long v)]))
  have fq75 : Sta Z h0 "com/example/primevertical/primevertical/DecimalText" "LONG_POWERS_OF_TEN" "[J" (.ref ar) := (S0.ext O.2)
  obtain ⟨Tq74, Xq74, eq74, stq74⟩ := getS2 X hx hZ hown (host := "") (Or.inl (W_23 hw)) Via.refl e0 fq75 (g := (mkF m 11 #[.val (.long v), .second, .val (.int (11 : Int32))] [(.long v)])) rfl (hb hby d_prog_4_method_21_code_11)
  refine Goes.via stq74 ?_
  show Goes _ _ _ _ _ _ _ _ (Tq74.setTop (mkF m 14 #[.val (.long v), .second, .val (.int (11 : Int32))] [(.ref ar), (.long v)]))
  refine Goes.via (fun _ k => XS.iloadN Xq74.here hx rfl (hb hby d_prog_4_method_21_code_14) rfl k) ?_
  show Goes _ _ _ _ _ _ _ _ (Tq74.setTop (mkF m 15 #[.val (.long v), .second, .val (.int (11 : Int32))] [(.int (11 : Int32)), (.ref ar), (.long v)]))
  obtain ⟨clq76, Arq76, qq76, Sq76, Nnq76, Hq76, Gq76⟩ := id fq72
  have hinq76 : ¬ ((11 : Int32) < 0 ∨ clq76.slots.size ≤ ((11 : Int32)).toNatClampNeg) := inb_of Sq76 ⟨by decide, by decide⟩
  refine Goes.via (Xq74.laload hx (j := (11 : Int32)) (v := (.long (100000000000 : Int64))) (by rw [eq74]; exact Arq76.1) (State.isArrayOf_alike hZ.alike Arq76.2.1) Arq76.2.2 hinq76 (Hq76.at hinq76 rfl) (g := (mkF m 15 #[.val (.long v), .second, .val (.int (11 : Int32))] [(.int (11 : Int32)), (.ref ar), (.long v)])) rfl rfl (hb hby d_prog_4_method_21_code_15)) ?_
  show Goes _ _ _ _ _ _ _ _ (Tq74.setTop (mkF m 16 #[.val (.long v), .second, .val (.int (11 : Int32))] [(.long (100000000000 : Int64)), (.long v)]))
  refine Goes.via (fun _ k => XT.lcmp Xq74.here hx rfl (hb hby d_prog_4_method_21_code_16) rfl k) ?_
  show Goes _ _ _ _ _ _ _ _ (Tq74.setTop (mkF m 17 #[.val (.long v), .second, .val (.int (11 : Int32))] [(.int (XT.cmpL v (100000000000 : Int64)))]))
  by_cases cq77 : v < (100000000000 : Int64)
  · skip
    refine Goes.via (fun _ k => XS.ifYes Xq74.here hx rfl (pc0 := 17) (pc' := 26) rfl (hb hby d_prog_4_method_21_code_17) rfl (XT.ll_lt_t cq77) (by decide) (by decide) k) ?_
    show Goes _ _ _ _ _ _ _ _ (Tq74.setTop (mkF m 26 #[.val (.long v), .second, .val (.int (11 : Int32))] []))
    refine Goes.via (fun _ k => XS.iloadN Xq74.here hx rfl (hb hby d_prog_4_method_21_code_26) rfl k) ?_
    show Goes _ _ _ _ _ _ _ _ (Tq74.setTop (mkF m 27 #[.val (.long v), .second, .val (.int (11 : Int32))] [(.int (11 : Int32))]))
    refine goRetI Xq74 hx hrt hlk N (by show _ ≤ 0; omega) (by show _ ≤ 0; omega) (hb hby d_prog_4_method_21_code_27) ?_
    try rw [eq74]
    exact ⟨by show some (Value.int (11 : Int32)) = _; unfold dig; rw [if_neg cq7, if_neg cq14, if_neg cq21, if_neg cq28, if_neg cq35, if_neg cq42, if_neg cq49, if_neg cq56, if_neg cq63, if_neg cq70, if_pos cq77], rfl⟩
  · skip
    refine Goes.via (fun _ k => XS.ifNo Xq74.here hx rfl (hb hby d_prog_4_method_21_code_17) rfl (XT.ll_lt_f cq77) k) ?_
    show Goes _ _ _ _ _ _ _ _ (Tq74.setTop (mkF m 20 #[.val (.long v), .second, .val (.int (11 : Int32))] []))
    refine Goes.via (fun _ k => iincZ Xq74.here hx rfl (12 : Int32) (hb hby d_prog_4_method_21_code_20) (by decide) rfl (l' := #[.val (.long v), .second, .val (.int (12 : Int32))]) rfl k) ?_
    show Goes _ _ _ _ _ _ _ _ (Tq74.setTop (mkF m 23 #[.val (.long v), .second, .val (.int (12 : Int32))] []))
    refine Goes.via (fun _ k => XS.goto Xq74.here hx rfl (pc0 := 23) (pc' := 2) rfl (hb hby d_prog_4_method_21_code_23) (by decide) (by decide) k) ?_
    show Goes _ _ _ _ _ _ _ _ (Tq74.setTop (mkF m 2 #[.val (.long v), .second, .val (.int (12 : Int32))] []))
    refine Goes.via (fun _ k => XS.iloadN Xq74.here hx rfl (hb hby d_prog_4_method_21_code_2) rfl k) ?_
    show Goes _ _ _ _ _ _ _ _ (Tq74.setTop (mkF m 3 #[.val (.long v), .second, .val (.int (12 : Int32))] [(.int (12 : Int32))]))
    obtain ⟨Tq78, Xq78, eq78, stq78⟩ := getS2 Xq74 hx hZ hown (host := "") (Or.inl (W_23 hw)) Via.refl eq74 fq75 (g := (mkF m 3 #[.val (.long v), .second, .val (.int (12 : Int32))] [(.int (12 : Int32))])) rfl (hb hby d_prog_4_method_21_code_3)
    refine Goes.via stq78 ?_
    show Goes _ _ _ _ _ _ _ _ (Tq78.setTop (mkF m 6 #[.val (.long v), .second, .val (.int (12 : Int32))] [(.ref ar), (.int (12 : Int32))]))
    exact dcount_c11 l Z aw hw v ar k0 hx hby hml hrt hlk hnm hZ hown Xq78 eq78 N (by omega) (by omega) O S0 V0 cq7 cq14 cq21 cq28 cq35 cq42 cq49 cq56 cq63 cq70 cq77
set_option maxRecDepth 65536 in
set_option maxHeartbeats 40000000 in
theorem dcount_c9 (l : Launch) (Z : State) (aw : Array Value) (hw : ∀ d ∈ tables_1, d.before aw Z = true) (v : Int64) (ar : Nat) (k0 : ClassId) {p : Program} {e : Env} {s : State} {m : MethodId} {args : Array Value} {below : List Frame} {meth : Method} {c : Code} {T : State} {locs : List Loc} {cells slots n0 : Nat} {h0 : Heap} (hx : p.tables.exec = Jvm.exec) (hby : c.code = prog_4_method_21_code) (hml : c.maxLocals = 3) (hrt : meth.sig.returnType = some .int) (hlk : meth.locks = false) (hnm : meth.name = "digitCount") (hZ : Z.Warmed39 s.vm) (hown : s.vm.findClass "com/example/primevertical/primevertical/DecimalText" = some m.cls) (X : Stand p l e ({ frames := 0, cells := 0, slots := 0, locals := 0 } : Room) s m args below meth c T locs cells slots) (e0 : T.heap = h0) (N : Fr n0 locs) (hcells : cells ≤ 0) (hslots : slots ≤ 0) (O : Old Z n0 h0) (S0 : Sta Z Z.heap "com/example/primevertical/primevertical/DecimalText" "LONG_POWERS_OF_TEN" "[J" (.ref ar)) (V0 : Arv Z Z.heap ar k0 .long (19 : Int32) PW (.long (0 : Int64))) (cq7 : ¬ (v < (10 : Int64))) (cq14 : ¬ (v < (100 : Int64))) (cq21 : ¬ (v < (1000 : Int64))) (cq28 : ¬ (v < (10000 : Int64))) (cq35 : ¬ (v < (100000 : Int64))) (cq42 : ¬ (v < (1000000 : Int64))) (cq49 : ¬ (v < (10000000 : Int64))) (cq56 : ¬ (v < (100000000 : Int64))) (cq63 : ¬ (v < (1000000000 : Int64))) :
    Goes p e below s ({ frames := 0, cells := 0, slots := 0, locals := 0 } : Room).cells ({ frames := 0, cells := 0, slots := 0, locals := 0 } : Room).slots n0 (fun vv hh => vv = some (.int (dig v)) ∧ hh = h0) (T.setTop (mkF m 6 #[.val (.long v), .second, .val (.int (10 : Int32))] [(.ref ar), (.int (10 : Int32))])) := by
  have zO := O.le
  show Goes _ _ _ _ _ _ _ _ (T.setTop (mkF m 6 #[.val (.long v), .second, .val (.int (10 : Int32))] [(.ref ar), (.int (10 : Int32))]))
  have fq65 : Arv Z h0 ar k0 .long (19 : Int32) PW (.long (0 : Int64)) := (V0.ext O.2)
  obtain ⟨clq66, Arq66, -, Sq66, Nnq66, -, -⟩ := id fq65
  refine Goes.via (X.arraylength hx (by rw [e0]; exact Arq66.1) (State.isArrayOf_alike hZ.alike Arq66.2.1) (g := (mkF m 6 #[.val (.long v), .second, .val (.int (10 : Int32))] [(.ref ar), (.int (10 : Int32))])) rfl rfl (hb hby d_prog_4_method_21_code_6)) ?_
  rw [len_of Sq66 Nnq66]
  show Goes _ _ _ _ _ _ _ _ (T.setTop (mkF m 7 #[.val (.long v), .second, .val (.int (10 : Int32))] [(.int (19 : Int32)), (.int (10 : Int32))]))
  refine Goes.via (fun _ k => XS.icmpNo X.here hx rfl (hb hby d_prog_4_method_21_code_7) rfl (XT.ii_ge_f (by decide)) k) ?_
  show Goes _ _ _ _ _ _ _ _ (T.setTop (mkF m 10 #[.val (.long v), .second, .val (.int (10 : Int32))] []))
  refine Goes.via (fun _ k => XT.lloadN X.here hx rfl (hb hby d_prog_4_method_21_code_10) rfl k) ?_
  show Goes _ _ _ _ _ _ _ _ (T.setTop (mkF m 11 #[.val (.long v), .second, .val (.int (10 : Int32))] [(.long v)]))
  have fq68 : Sta Z h0 "com/example/primevertical/primevertical/DecimalText" "LONG_POWERS_OF_TEN" "[J" (.ref ar) := (S0.ext O.2)
  obtain ⟨Tq67, Xq67, eq67, stq67⟩ := getS2 X hx hZ hown (host := "") (Or.inl (W_23 hw)) Via.refl e0 fq68 (g := (mkF m 11 #[.val (.long v), .second, .val (.int (10 : Int32))] [(.long v)])) rfl (hb hby d_prog_4_method_21_code_11)
  refine Goes.via stq67 ?_
  show Goes _ _ _ _ _ _ _ _ (Tq67.setTop (mkF m 14 #[.val (.long v), .second, .val (.int (10 : Int32))] [(.ref ar), (.long v)]))
  refine Goes.via (fun _ k => XS.iloadN Xq67.here hx rfl (hb hby d_prog_4_method_21_code_14) rfl k) ?_
  show Goes _ _ _ _ _ _ _ _ (Tq67.setTop (mkF m 15 #[.val (.long v), .second, .val (.int (10 : Int32))] [(.int (10 : Int32)), (.ref ar), (.long v)]))
  obtain ⟨clq69, Arq69, qq69, Sq69, Nnq69, Hq69, Gq69⟩ := id fq65
  have hinq69 : ¬ ((10 : Int32) < 0 ∨ clq69.slots.size ≤ ((10 : Int32)).toNatClampNeg) := inb_of Sq69 ⟨by decide, by decide⟩
  refine Goes.via (Xq67.laload hx (j := (10 : Int32)) (v := (.long (10000000000 : Int64))) (by rw [eq67]; exact Arq69.1) (State.isArrayOf_alike hZ.alike Arq69.2.1) Arq69.2.2 hinq69 (Hq69.at hinq69 rfl) (g := (mkF m 15 #[.val (.long v), .second, .val (.int (10 : Int32))] [(.int (10 : Int32)), (.ref ar), (.long v)])) rfl rfl (hb hby d_prog_4_method_21_code_15)) ?_
  show Goes _ _ _ _ _ _ _ _ (Tq67.setTop (mkF m 16 #[.val (.long v), .second, .val (.int (10 : Int32))] [(.long (10000000000 : Int64)), (.long v)]))
  refine Goes.via (fun _ k => XT.lcmp Xq67.here hx rfl (hb hby d_prog_4_method_21_code_16) rfl k) ?_
  show Goes _ _ _ _ _ _ _ _ (Tq67.setTop (mkF m 17 #[.val (.long v), .second, .val (.int (10 : Int32))] [(.int (XT.cmpL v (10000000000 : Int64)))]))
  by_cases cq70 : v < (10000000000 : Int64)
  · skip
    refine Goes.via (fun _ k => XS.ifYes Xq67.here hx rfl (pc0 := 17) (pc' := 26) rfl (hb hby d_prog_4_method_21_code_17) rfl (XT.ll_lt_t cq70) (by decide) (by decide) k) ?_
    show Goes _ _ _ _ _ _ _ _ (Tq67.setTop (mkF m 26 #[.val (.long v), .second, .val (.int (10 : Int32))] []))
    refine Goes.via (fun _ k => XS.iloadN Xq67.here hx rfl (hb hby d_prog_4_method_21_code_26) rfl k) ?_
    show Goes _ _ _ _ _ _ _ _ (Tq67.setTop (mkF m 27 #[.val (.long v), .second, .val (.int (10 : Int32))] [(.int (10 : Int32))]))
    refine goRetI Xq67 hx hrt hlk N (by show _ ≤ 0; omega) (by show _ ≤ 0; omega) (hb hby d_prog_4_method_21_code_27) ?_
    try rw [eq67]
    exact ⟨by show some (Value.int (10 : Int32)) = _; unfold dig; rw [if_neg cq7, if_neg cq14, if_neg cq21, if_neg cq28, if_neg cq35, if_neg cq42, if_neg cq49, if_neg cq56, if_neg cq63, if_pos cq70], rfl⟩
  · skip
    refine Goes.via (fun _ k => XS.ifNo Xq67.here hx rfl (hb hby d_prog_4_method_21_code_17) rfl (XT.ll_lt_f cq70) k) ?_
    show Goes _ _ _ _ _ _ _ _ (Tq67.setTop (mkF m 20 #[.val (.long v), .second, .val (.int (10 : Int32))] []))
    refine Goes.via (fun _ k => iincZ Xq67.here hx rfl (11 : Int32) (hb hby d_prog_4_method_21_code_20) (by decide) rfl (l' := #[.val (.long v), .second, .val (.int (11 : Int32))]) rfl k) ?_
    show Goes _ _ _ _ _ _ _ _ (Tq67.setTop (mkF m 23 #[.val (.long v), .second, .val (.int (11 : Int32))] []))
    refine Goes.via (fun _ k => XS.goto Xq67.here hx rfl (pc0 := 23) (pc' := 2) rfl (hb hby d_prog_4_method_21_code_23) (by decide) (by decide) k) ?_
    show Goes _ _ _ _ _ _ _ _ (Tq67.setTop (mkF m 2 #[.val (.long v), .second, .val (.int (11 : Int32))] []))
    refine Goes.via (fun _ k => XS.iloadN Xq67.here hx rfl (hb hby d_prog_4_method_21_code_2) rfl k) ?_
    show Goes _ _ _ _ _ _ _ _ (Tq67.setTop (mkF m 3 #[.val (.long v), .second, .val (.int (11 : Int32))] [(.int (11 : Int32))]))
    obtain ⟨Tq71, Xq71, eq71, stq71⟩ := getS2 Xq67 hx hZ hown (host := "") (Or.inl (W_23 hw)) Via.refl eq67 fq68 (g := (mkF m 3 #[.val (.long v), .second, .val (.int (11 : Int32))] [(.int (11 : Int32))])) rfl (hb hby d_prog_4_method_21_code_3)
    refine Goes.via stq71 ?_
    show Goes _ _ _ _ _ _ _ _ (Tq71.setTop (mkF m 6 #[.val (.long v), .second, .val (.int (11 : Int32))] [(.ref ar), (.int (11 : Int32))]))
    exact dcount_c10 l Z aw hw v ar k0 hx hby hml hrt hlk hnm hZ hown Xq71 eq71 N (by omega) (by omega) O S0 V0 cq7 cq14 cq21 cq28 cq35 cq42 cq49 cq56 cq63 cq70
set_option maxRecDepth 65536 in
set_option maxHeartbeats 40000000 in
theorem dcount_c8 (l : Launch) (Z : State) (aw : Array Value) (hw : ∀ d ∈ tables_1, d.before aw Z = true) (v : Int64) (ar : Nat) (k0 : ClassId) {p : Program} {e : Env} {s : State} {m : MethodId} {args : Array Value} {below : List Frame} {meth : Method} {c : Code} {T : State} {locs : List Loc} {cells slots n0 : Nat} {h0 : Heap} (hx : p.tables.exec = Jvm.exec) (hby : c.code = prog_4_method_21_code) (hml : c.maxLocals = 3) (hrt : meth.sig.returnType = some .int) (hlk : meth.locks = false) (hnm : meth.name = "digitCount") (hZ : Z.Warmed39 s.vm) (hown : s.vm.findClass "com/example/primevertical/primevertical/DecimalText" = some m.cls) (X : Stand p l e ({ frames := 0, cells := 0, slots := 0, locals := 0 } : Room) s m args below meth c T locs cells slots) (e0 : T.heap = h0) (N : Fr n0 locs) (hcells : cells ≤ 0) (hslots : slots ≤ 0) (O : Old Z n0 h0) (S0 : Sta Z Z.heap "com/example/primevertical/primevertical/DecimalText" "LONG_POWERS_OF_TEN" "[J" (.ref ar)) (V0 : Arv Z Z.heap ar k0 .long (19 : Int32) PW (.long (0 : Int64))) (cq7 : ¬ (v < (10 : Int64))) (cq14 : ¬ (v < (100 : Int64))) (cq21 : ¬ (v < (1000 : Int64))) (cq28 : ¬ (v < (10000 : Int64))) (cq35 : ¬ (v < (100000 : Int64))) (cq42 : ¬ (v < (1000000 : Int64))) (cq49 : ¬ (v < (10000000 : Int64))) (cq56 : ¬ (v < (100000000 : Int64))) :
    Goes p e below s ({ frames := 0, cells := 0, slots := 0, locals := 0 } : Room).cells ({ frames := 0, cells := 0, slots := 0, locals := 0 } : Room).slots n0 (fun vv hh => vv = some (.int (dig v)) ∧ hh = h0) (T.setTop (mkF m 6 #[.val (.long v), .second, .val (.int (9 : Int32))] [(.ref ar), (.int (9 : Int32))])) := by
  have zO := O.le
  show Goes _ _ _ _ _ _ _ _ (T.setTop (mkF m 6 #[.val (.long v), .second, .val (.int (9 : Int32))] [(.ref ar), (.int (9 : Int32))]))
  have fq58 : Arv Z h0 ar k0 .long (19 : Int32) PW (.long (0 : Int64)) := (V0.ext O.2)
  obtain ⟨clq59, Arq59, -, Sq59, Nnq59, -, -⟩ := id fq58
  refine Goes.via (X.arraylength hx (by rw [e0]; exact Arq59.1) (State.isArrayOf_alike hZ.alike Arq59.2.1) (g := (mkF m 6 #[.val (.long v), .second, .val (.int (9 : Int32))] [(.ref ar), (.int (9 : Int32))])) rfl rfl (hb hby d_prog_4_method_21_code_6)) ?_
  rw [len_of Sq59 Nnq59]
  show Goes _ _ _ _ _ _ _ _ (T.setTop (mkF m 7 #[.val (.long v), .second, .val (.int (9 : Int32))] [(.int (19 : Int32)), (.int (9 : Int32))]))
  refine Goes.via (fun _ k => XS.icmpNo X.here hx rfl (hb hby d_prog_4_method_21_code_7) rfl (XT.ii_ge_f (by decide)) k) ?_
  show Goes _ _ _ _ _ _ _ _ (T.setTop (mkF m 10 #[.val (.long v), .second, .val (.int (9 : Int32))] []))
  refine Goes.via (fun _ k => XT.lloadN X.here hx rfl (hb hby d_prog_4_method_21_code_10) rfl k) ?_
  show Goes _ _ _ _ _ _ _ _ (T.setTop (mkF m 11 #[.val (.long v), .second, .val (.int (9 : Int32))] [(.long v)]))
  have fq61 : Sta Z h0 "com/example/primevertical/primevertical/DecimalText" "LONG_POWERS_OF_TEN" "[J" (.ref ar) := (S0.ext O.2)
  obtain ⟨Tq60, Xq60, eq60, stq60⟩ := getS2 X hx hZ hown (host := "") (Or.inl (W_23 hw)) Via.refl e0 fq61 (g := (mkF m 11 #[.val (.long v), .second, .val (.int (9 : Int32))] [(.long v)])) rfl (hb hby d_prog_4_method_21_code_11)
  refine Goes.via stq60 ?_
  show Goes _ _ _ _ _ _ _ _ (Tq60.setTop (mkF m 14 #[.val (.long v), .second, .val (.int (9 : Int32))] [(.ref ar), (.long v)]))
  refine Goes.via (fun _ k => XS.iloadN Xq60.here hx rfl (hb hby d_prog_4_method_21_code_14) rfl k) ?_
  show Goes _ _ _ _ _ _ _ _ (Tq60.setTop (mkF m 15 #[.val (.long v), .second, .val (.int (9 : Int32))] [(.int (9 : Int32)), (.ref ar), (.long v)]))
  obtain ⟨clq62, Arq62, qq62, Sq62, Nnq62, Hq62, Gq62⟩ := id fq58
  have hinq62 : ¬ ((9 : Int32) < 0 ∨ clq62.slots.size ≤ ((9 : Int32)).toNatClampNeg) := inb_of Sq62 ⟨by decide, by decide⟩
  refine Goes.via (Xq60.laload hx (j := (9 : Int32)) (v := (.long (1000000000 : Int64))) (by rw [eq60]; exact Arq62.1) (State.isArrayOf_alike hZ.alike Arq62.2.1) Arq62.2.2 hinq62 (Hq62.at hinq62 rfl) (g := (mkF m 15 #[.val (.long v), .second, .val (.int (9 : Int32))] [(.int (9 : Int32)), (.ref ar), (.long v)])) rfl rfl (hb hby d_prog_4_method_21_code_15)) ?_
  show Goes _ _ _ _ _ _ _ _ (Tq60.setTop (mkF m 16 #[.val (.long v), .second, .val (.int (9 : Int32))] [(.long (1000000000 : Int64)), (.long v)]))
  refine Goes.via (fun _ k => XT.lcmp Xq60.here hx rfl (hb hby d_prog_4_method_21_code_16) rfl k) ?_
  show Goes _ _ _ _ _ _ _ _ (Tq60.setTop (mkF m 17 #[.val (.long v), .second, .val (.int (9 : Int32))] [(.int (XT.cmpL v (1000000000 : Int64)))]))
  by_cases cq63 : v < (1000000000 : Int64)
  · skip
    refine Goes.via (fun _ k => XS.ifYes Xq60.here hx rfl (pc0 := 17) (pc' := 26) rfl (hb hby d_prog_4_method_21_code_17) rfl (XT.ll_lt_t cq63) (by decide) (by decide) k) ?_
    show Goes _ _ _ _ _ _ _ _ (Tq60.setTop (mkF m 26 #[.val (.long v), .second, .val (.int (9 : Int32))] []))
    refine Goes.via (fun _ k => XS.iloadN Xq60.here hx rfl (hb hby d_prog_4_method_21_code_26) rfl k) ?_
    show Goes _ _ _ _ _ _ _ _ (Tq60.setTop (mkF m 27 #[.val (.long v), .second, .val (.int (9 : Int32))] [(.int (9 : Int32))]))
    refine goRetI Xq60 hx hrt hlk N (by show _ ≤ 0; omega) (by show _ ≤ 0; omega) (hb hby d_prog_4_method_21_code_27) ?_
    try rw [eq60]
    exact ⟨by show some (Value.int (9 : Int32)) = _; unfold dig; rw [if_neg cq7, if_neg cq14, if_neg cq21, if_neg cq28, if_neg cq35, if_neg cq42, if_neg cq49, if_neg cq56, if_pos cq63], rfl⟩
  · skip
    refine Goes.via (fun _ k => XS.ifNo Xq60.here hx rfl (hb hby d_prog_4_method_21_code_17) rfl (XT.ll_lt_f cq63) k) ?_
    show Goes _ _ _ _ _ _ _ _ (Tq60.setTop (mkF m 20 #[.val (.long v), .second, .val (.int (9 : Int32))] []))
    refine Goes.via (fun _ k => iincZ Xq60.here hx rfl (10 : Int32) (hb hby d_prog_4_method_21_code_20) (by decide) rfl (l' := #[.val (.long v), .second, .val (.int (10 : Int32))]) rfl k) ?_
    show Goes _ _ _ _ _ _ _ _ (Tq60.setTop (mkF m 23 #[.val (.long v), .second, .val (.int (10 : Int32))] []))
    refine Goes.via (fun _ k => XS.goto Xq60.here hx rfl (pc0 := 23) (pc' := 2) rfl (hb hby d_prog_4_method_21_code_23) (by decide) (by decide) k) ?_
    show Goes _ _ _ _ _ _ _ _ (Tq60.setTop (mkF m 2 #[.val (.long v), .second, .val (.int (10 : Int32))] []))
    refine Goes.via (fun _ k => XS.iloadN Xq60.here hx rfl (hb hby d_prog_4_method_21_code_2) rfl k) ?_
    show Goes _ _ _ _ _ _ _ _ (Tq60.setTop (mkF m 3 #[.val (.long v), .second, .val (.int (10 : Int32))] [(.int (10 : Int32))]))
    obtain ⟨Tq64, Xq64, eq64, stq64⟩ := getS2 Xq60 hx hZ hown (host := "") (Or.inl (W_23 hw)) Via.refl eq60 fq61 (g := (mkF m 3 #[.val (.long v), .second, .val (.int (10 : Int32))] [(.int (10 : Int32))])) rfl (hb hby d_prog_4_method_21_code_3)
    refine Goes.via stq64 ?_
    show Goes _ _ _ _ _ _ _ _ (Tq64.setTop (mkF m 6 #[.val (.long v), .second, .val (.int (10 : Int32))] [(.ref ar), (.int (10 : Int32))]))
    exact dcount_c9 l Z aw hw v ar k0 hx hby hml hrt hlk hnm hZ hown Xq64 eq64 N (by omega) (by omega) O S0 V0 cq7 cq14 cq21 cq28 cq35 cq42 cq49 cq56 cq63
set_option maxRecDepth 65536 in
set_option maxHeartbeats 40000000 in
theorem dcount_c7 (l : Launch) (Z : State) (aw : Array Value) (hw : ∀ d ∈ tables_1, d.before aw Z = true) (v : Int64) (ar : Nat) (k0 : ClassId) {p : Program} {e : Env} {s : State} {m : MethodId} {args : Array Value} {below : List Frame} {meth : Method} {c : Code} {T : State} {locs : List Loc} {cells slots n0 : Nat} {h0 : Heap} (hx : p.tables.exec = Jvm.exec) (hby : c.code = prog_4_method_21_code) (hml : c.maxLocals = 3) (hrt : meth.sig.returnType = some .int) (hlk : meth.locks = false) (hnm : meth.name = "digitCount") (hZ : Z.Warmed39 s.vm) (hown : s.vm.findClass "com/example/primevertical/primevertical/DecimalText" = some m.cls) (X : Stand p l e ({ frames := 0, cells := 0, slots := 0, locals := 0 } : Room) s m args below meth c T locs cells slots) (e0 : T.heap = h0) (N : Fr n0 locs) (hcells : cells ≤ 0) (hslots : slots ≤ 0) (O : Old Z n0 h0) (S0 : Sta Z Z.heap "com/example/primevertical/primevertical/DecimalText" "LONG_POWERS_OF_TEN" "[J" (.ref ar)) (V0 : Arv Z Z.heap ar k0 .long (19 : Int32) PW (.long (0 : Int64))) (cq7 : ¬ (v < (10 : Int64))) (cq14 : ¬ (v < (100 : Int64))) (cq21 : ¬ (v < (1000 : Int64))) (cq28 : ¬ (v < (10000 : Int64))) (cq35 : ¬ (v < (100000 : Int64))) (cq42 : ¬ (v < (1000000 : Int64))) (cq49 : ¬ (v < (10000000 : Int64))) :
    Goes p e below s ({ frames := 0, cells := 0, slots := 0, locals := 0 } : Room).cells ({ frames := 0, cells := 0, slots := 0, locals := 0 } : Room).slots n0 (fun vv hh => vv = some (.int (dig v)) ∧ hh = h0) (T.setTop (mkF m 6 #[.val (.long v), .second, .val (.int (8 : Int32))] [(.ref ar), (.int (8 : Int32))])) := by
  have zO := O.le
  show Goes _ _ _ _ _ _ _ _ (T.setTop (mkF m 6 #[.val (.long v), .second, .val (.int (8 : Int32))] [(.ref ar), (.int (8 : Int32))]))
  have fq51 : Arv Z h0 ar k0 .long (19 : Int32) PW (.long (0 : Int64)) := (V0.ext O.2)
  obtain ⟨clq52, Arq52, -, Sq52, Nnq52, -, -⟩ := id fq51
  refine Goes.via (X.arraylength hx (by rw [e0]; exact Arq52.1) (State.isArrayOf_alike hZ.alike Arq52.2.1) (g := (mkF m 6 #[.val (.long v), .second, .val (.int (8 : Int32))] [(.ref ar), (.int (8 : Int32))])) rfl rfl (hb hby d_prog_4_method_21_code_6)) ?_
  rw [len_of Sq52 Nnq52]
  show Goes _ _ _ _ _ _ _ _ (T.setTop (mkF m 7 #[.val (.long v), .second, .val (.int (8 : Int32))] [(.int (19 : Int32)), (.int (8 : Int32))]))
  refine Goes.via (fun _ k => XS.icmpNo X.here hx rfl (hb hby d_prog_4_method_21_code_7) rfl (XT.ii_ge_f (by decide)) k) ?_
  show Goes _ _ _ _ _ _ _ _ (T.setTop (mkF m 10 #[.val (.long v), .second, .val (.int (8 : Int32))] []))
  refine Goes.via (fun _ k => XT.lloadN X.here hx rfl (hb hby d_prog_4_method_21_code_10) rfl k) ?_
  show Goes _ _ _ _ _ _ _ _ (T.setTop (mkF m 11 #[.val (.long v), .second, .val (.int (8 : Int32))] [(.long v)]))
  have fq54 : Sta Z h0 "com/example/primevertical/primevertical/DecimalText" "LONG_POWERS_OF_TEN" "[J" (.ref ar) := (S0.ext O.2)
  obtain ⟨Tq53, Xq53, eq53, stq53⟩ := getS2 X hx hZ hown (host := "") (Or.inl (W_23 hw)) Via.refl e0 fq54 (g := (mkF m 11 #[.val (.long v), .second, .val (.int (8 : Int32))] [(.long v)])) rfl (hb hby d_prog_4_method_21_code_11)
  refine Goes.via stq53 ?_
  show Goes _ _ _ _ _ _ _ _ (Tq53.setTop (mkF m 14 #[.val (.long v), .second, .val (.int (8 : Int32))] [(.ref ar), (.long v)]))
  refine Goes.via (fun _ k => XS.iloadN Xq53.here hx rfl (hb hby d_prog_4_method_21_code_14) rfl k) ?_
  show Goes _ _ _ _ _ _ _ _ (Tq53.setTop (mkF m 15 #[.val (.long v), .second, .val (.int (8 : Int32))] [(.int (8 : Int32)), (.ref ar), (.long v)]))
  obtain ⟨clq55, Arq55, qq55, Sq55, Nnq55, Hq55, Gq55⟩ := id fq51
  have hinq55 : ¬ ((8 : Int32) < 0 ∨ clq55.slots.size ≤ ((8 : Int32)).toNatClampNeg) := inb_of Sq55 ⟨by decide, by decide⟩
  refine Goes.via (Xq53.laload hx (j := (8 : Int32)) (v := (.long (100000000 : Int64))) (by rw [eq53]; exact Arq55.1) (State.isArrayOf_alike hZ.alike Arq55.2.1) Arq55.2.2 hinq55 (Hq55.at hinq55 rfl) (g := (mkF m 15 #[.val (.long v), .second, .val (.int (8 : Int32))] [(.int (8 : Int32)), (.ref ar), (.long v)])) rfl rfl (hb hby d_prog_4_method_21_code_15)) ?_
  show Goes _ _ _ _ _ _ _ _ (Tq53.setTop (mkF m 16 #[.val (.long v), .second, .val (.int (8 : Int32))] [(.long (100000000 : Int64)), (.long v)]))
  refine Goes.via (fun _ k => XT.lcmp Xq53.here hx rfl (hb hby d_prog_4_method_21_code_16) rfl k) ?_
  show Goes _ _ _ _ _ _ _ _ (Tq53.setTop (mkF m 17 #[.val (.long v), .second, .val (.int (8 : Int32))] [(.int (XT.cmpL v (100000000 : Int64)))]))
  by_cases cq56 : v < (100000000 : Int64)
  · skip
    refine Goes.via (fun _ k => XS.ifYes Xq53.here hx rfl (pc0 := 17) (pc' := 26) rfl (hb hby d_prog_4_method_21_code_17) rfl (XT.ll_lt_t cq56) (by decide) (by decide) k) ?_
    show Goes _ _ _ _ _ _ _ _ (Tq53.setTop (mkF m 26 #[.val (.long v), .second, .val (.int (8 : Int32))] []))
    refine Goes.via (fun _ k => XS.iloadN Xq53.here hx rfl (hb hby d_prog_4_method_21_code_26) rfl k) ?_
    show Goes _ _ _ _ _ _ _ _ (Tq53.setTop (mkF m 27 #[.val (.long v), .second, .val (.int (8 : Int32))] [(.int (8 : Int32))]))
    refine goRetI Xq53 hx hrt hlk N (by show _ ≤ 0; omega) (by show _ ≤ 0; omega) (hb hby d_prog_4_method_21_code_27) ?_
    try rw [eq53]
    exact ⟨by show some (Value.int (8 : Int32)) = _; unfold dig; rw [if_neg cq7, if_neg cq14, if_neg cq21, if_neg cq28, if_neg cq35, if_neg cq42, if_neg cq49, if_pos cq56], rfl⟩
  · skip
    refine Goes.via (fun _ k => XS.ifNo Xq53.here hx rfl (hb hby d_prog_4_method_21_code_17) rfl (XT.ll_lt_f cq56) k) ?_
    show Goes _ _ _ _ _ _ _ _ (Tq53.setTop (mkF m 20 #[.val (.long v), .second, .val (.int (8 : Int32))] []))
    refine Goes.via (fun _ k => iincZ Xq53.here hx rfl (9 : Int32) (hb hby d_prog_4_method_21_code_20) (by decide) rfl (l' := #[.val (.long v), .second, .val (.int (9 : Int32))]) rfl k) ?_
    show Goes _ _ _ _ _ _ _ _ (Tq53.setTop (mkF m 23 #[.val (.long v), .second, .val (.int (9 : Int32))] []))
    refine Goes.via (fun _ k => XS.goto Xq53.here hx rfl (pc0 := 23) (pc' := 2) rfl (hb hby d_prog_4_method_21_code_23) (by decide) (by decide) k) ?_
    show Goes _ _ _ _ _ _ _ _ (Tq53.setTop (mkF m 2 #[.val (.long v), .second, .val (.int (9 : Int32))] []))
    refine Goes.via (fun _ k => XS.iloadN Xq53.here hx rfl (hb hby d_prog_4_method_21_code_2) rfl k) ?_
    show Goes _ _ _ _ _ _ _ _ (Tq53.setTop (mkF m 3 #[.val (.long v), .second, .val (.int (9 : Int32))] [(.int (9 : Int32))]))
    obtain ⟨Tq57, Xq57, eq57, stq57⟩ := getS2 Xq53 hx hZ hown (host := "") (Or.inl (W_23 hw)) Via.refl eq53 fq54 (g := (mkF m 3 #[.val (.long v), .second, .val (.int (9 : Int32))] [(.int (9 : Int32))])) rfl (hb hby d_prog_4_method_21_code_3)
    refine Goes.via stq57 ?_
    show Goes _ _ _ _ _ _ _ _ (Tq57.setTop (mkF m 6 #[.val (.long v), .second, .val (.int (9 : Int32))] [(.ref ar), (.int (9 : Int32))]))
    exact dcount_c8 l Z aw hw v ar k0 hx hby hml hrt hlk hnm hZ hown Xq57 eq57 N (by omega) (by omega) O S0 V0 cq7 cq14 cq21 cq28 cq35 cq42 cq49 cq56
set_option maxRecDepth 65536 in
set_option maxHeartbeats 40000000 in
theorem dcount_c6 (l : Launch) (Z : State) (aw : Array Value) (hw : ∀ d ∈ tables_1, d.before aw Z = true) (v : Int64) (ar : Nat) (k0 : ClassId) {p : Program} {e : Env} {s : State} {m : MethodId} {args : Array Value} {below : List Frame} {meth : Method} {c : Code} {T : State} {locs : List Loc} {cells slots n0 : Nat} {h0 : Heap} (hx : p.tables.exec = Jvm.exec) (hby : c.code = prog_4_method_21_code) (hml : c.maxLocals = 3) (hrt : meth.sig.returnType = some .int) (hlk : meth.locks = false) (hnm : meth.name = "digitCount") (hZ : Z.Warmed39 s.vm) (hown : s.vm.findClass "com/example/primevertical/primevertical/DecimalText" = some m.cls) (X : Stand p l e ({ frames := 0, cells := 0, slots := 0, locals := 0 } : Room) s m args below meth c T locs cells slots) (e0 : T.heap = h0) (N : Fr n0 locs) (hcells : cells ≤ 0) (hslots : slots ≤ 0) (O : Old Z n0 h0) (S0 : Sta Z Z.heap "com/example/primevertical/primevertical/DecimalText" "LONG_POWERS_OF_TEN" "[J" (.ref ar)) (V0 : Arv Z Z.heap ar k0 .long (19 : Int32) PW (.long (0 : Int64))) (cq7 : ¬ (v < (10 : Int64))) (cq14 : ¬ (v < (100 : Int64))) (cq21 : ¬ (v < (1000 : Int64))) (cq28 : ¬ (v < (10000 : Int64))) (cq35 : ¬ (v < (100000 : Int64))) (cq42 : ¬ (v < (1000000 : Int64))) :
    Goes p e below s ({ frames := 0, cells := 0, slots := 0, locals := 0 } : Room).cells ({ frames := 0, cells := 0, slots := 0, locals := 0 } : Room).slots n0 (fun vv hh => vv = some (.int (dig v)) ∧ hh = h0) (T.setTop (mkF m 6 #[.val (.long v), .second, .val (.int (7 : Int32))] [(.ref ar), (.int (7 : Int32))])) := by
  have zO := O.le
  show Goes _ _ _ _ _ _ _ _ (T.setTop (mkF m 6 #[.val (.long v), .second, .val (.int (7 : Int32))] [(.ref ar), (.int (7 : Int32))]))
  have fq44 : Arv Z h0 ar k0 .long (19 : Int32) PW (.long (0 : Int64)) := (V0.ext O.2)
  obtain ⟨clq45, Arq45, -, Sq45, Nnq45, -, -⟩ := id fq44
  refine Goes.via (X.arraylength hx (by rw [e0]; exact Arq45.1) (State.isArrayOf_alike hZ.alike Arq45.2.1) (g := (mkF m 6 #[.val (.long v), .second, .val (.int (7 : Int32))] [(.ref ar), (.int (7 : Int32))])) rfl rfl (hb hby d_prog_4_method_21_code_6)) ?_
  rw [len_of Sq45 Nnq45]
  show Goes _ _ _ _ _ _ _ _ (T.setTop (mkF m 7 #[.val (.long v), .second, .val (.int (7 : Int32))] [(.int (19 : Int32)), (.int (7 : Int32))]))
  refine Goes.via (fun _ k => XS.icmpNo X.here hx rfl (hb hby d_prog_4_method_21_code_7) rfl (XT.ii_ge_f (by decide)) k) ?_
  show Goes _ _ _ _ _ _ _ _ (T.setTop (mkF m 10 #[.val (.long v), .second, .val (.int (7 : Int32))] []))
  refine Goes.via (fun _ k => XT.lloadN X.here hx rfl (hb hby d_prog_4_method_21_code_10) rfl k) ?_
  show Goes _ _ _ _ _ _ _ _ (T.setTop (mkF m 11 #[.val (.long v), .second, .val (.int (7 : Int32))] [(.long v)]))
  have fq47 : Sta Z h0 "com/example/primevertical/primevertical/DecimalText" "LONG_POWERS_OF_TEN" "[J" (.ref ar) := (S0.ext O.2)
  obtain ⟨Tq46, Xq46, eq46, stq46⟩ := getS2 X hx hZ hown (host := "") (Or.inl (W_23 hw)) Via.refl e0 fq47 (g := (mkF m 11 #[.val (.long v), .second, .val (.int (7 : Int32))] [(.long v)])) rfl (hb hby d_prog_4_method_21_code_11)
  refine Goes.via stq46 ?_
  show Goes _ _ _ _ _ _ _ _ (Tq46.setTop (mkF m 14 #[.val (.long v), .second, .val (.int (7 : Int32))] [(.ref ar), (.long v)]))
  refine Goes.via (fun _ k => XS.iloadN Xq46.here hx rfl (hb hby d_prog_4_method_21_code_14) rfl k) ?_
  show Goes _ _ _ _ _ _ _ _ (Tq46.setTop (mkF m 15 #[.val (.long v), .second, .val (.int (7 : Int32))] [(.int (7 : Int32)), (.ref ar), (.long v)]))
  obtain ⟨clq48, Arq48, qq48, Sq48, Nnq48, Hq48, Gq48⟩ := id fq44
  have hinq48 : ¬ ((7 : Int32) < 0 ∨ clq48.slots.size ≤ ((7 : Int32)).toNatClampNeg) := inb_of Sq48 ⟨by decide, by decide⟩
  refine Goes.via (Xq46.laload hx (j := (7 : Int32)) (v := (.long (10000000 : Int64))) (by rw [eq46]; exact Arq48.1) (State.isArrayOf_alike hZ.alike Arq48.2.1) Arq48.2.2 hinq48 (Hq48.at hinq48 rfl) (g := (mkF m 15 #[.val (.long v), .second, .val (.int (7 : Int32))] [(.int (7 : Int32)), (.ref ar), (.long v)])) rfl rfl (hb hby d_prog_4_method_21_code_15)) ?_
  show Goes _ _ _ _ _ _ _ _ (Tq46.setTop (mkF m 16 #[.val (.long v), .second, .val (.int (7 : Int32))] [(.long (10000000 : Int64)), (.long v)]))
  refine Goes.via (fun _ k => XT.lcmp Xq46.here hx rfl (hb hby d_prog_4_method_21_code_16) rfl k) ?_
  show Goes _ _ _ _ _ _ _ _ (Tq46.setTop (mkF m 17 #[.val (.long v), .second, .val (.int (7 : Int32))] [(.int (XT.cmpL v (10000000 : Int64)))]))
  by_cases cq49 : v < (10000000 : Int64)
  · skip
    refine Goes.via (fun _ k => XS.ifYes Xq46.here hx rfl (pc0 := 17) (pc' := 26) rfl (hb hby d_prog_4_method_21_code_17) rfl (XT.ll_lt_t cq49) (by decide) (by decide) k) ?_
    show Goes _ _ _ _ _ _ _ _ (Tq46.setTop (mkF m 26 #[.val (.long v), .second, .val (.int (7 : Int32))] []))
    refine Goes.via (fun _ k => XS.iloadN Xq46.here hx rfl (hb hby d_prog_4_method_21_code_26) rfl k) ?_
    show Goes _ _ _ _ _ _ _ _ (Tq46.setTop (mkF m 27 #[.val (.long v), .second, .val (.int (7 : Int32))] [(.int (7 : Int32))]))
    refine goRetI Xq46 hx hrt hlk N (by show _ ≤ 0; omega) (by show _ ≤ 0; omega) (hb hby d_prog_4_method_21_code_27) ?_
    try rw [eq46]
    exact ⟨by show some (Value.int (7 : Int32)) = _; unfold dig; rw [if_neg cq7, if_neg cq14, if_neg cq21, if_neg cq28, if_neg cq35, if_neg cq42, if_pos cq49], rfl⟩
  · skip
    refine Goes.via (fun _ k => XS.ifNo Xq46.here hx rfl (hb hby d_prog_4_method_21_code_17) rfl (XT.ll_lt_f cq49) k) ?_
    show Goes _ _ _ _ _ _ _ _ (Tq46.setTop (mkF m 20 #[.val (.long v), .second, .val (.int (7 : Int32))] []))
    refine Goes.via (fun _ k => iincZ Xq46.here hx rfl (8 : Int32) (hb hby d_prog_4_method_21_code_20) (by decide) rfl (l' := #[.val (.long v), .second, .val (.int (8 : Int32))]) rfl k) ?_
    show Goes _ _ _ _ _ _ _ _ (Tq46.setTop (mkF m 23 #[.val (.long v), .second, .val (.int (8 : Int32))] []))
    refine Goes.via (fun _ k => XS.goto Xq46.here hx rfl (pc0 := 23) (pc' := 2) rfl (hb hby d_prog_4_method_21_code_23) (by decide) (by decide) k) ?_
    show Goes _ _ _ _ _ _ _ _ (Tq46.setTop (mkF m 2 #[.val (.long v), .second, .val (.int (8 : Int32))] []))
    refine Goes.via (fun _ k => XS.iloadN Xq46.here hx rfl (hb hby d_prog_4_method_21_code_2) rfl k) ?_
    show Goes _ _ _ _ _ _ _ _ (Tq46.setTop (mkF m 3 #[.val (.long v), .second, .val (.int (8 : Int32))] [(.int (8 : Int32))]))
    obtain ⟨Tq50, Xq50, eq50, stq50⟩ := getS2 Xq46 hx hZ hown (host := "") (Or.inl (W_23 hw)) Via.refl eq46 fq47 (g := (mkF m 3 #[.val (.long v), .second, .val (.int (8 : Int32))] [(.int (8 : Int32))])) rfl (hb hby d_prog_4_method_21_code_3)
    refine Goes.via stq50 ?_
    show Goes _ _ _ _ _ _ _ _ (Tq50.setTop (mkF m 6 #[.val (.long v), .second, .val (.int (8 : Int32))] [(.ref ar), (.int (8 : Int32))]))
    exact dcount_c7 l Z aw hw v ar k0 hx hby hml hrt hlk hnm hZ hown Xq50 eq50 N (by omega) (by omega) O S0 V0 cq7 cq14 cq21 cq28 cq35 cq42 cq49
set_option maxRecDepth 65536 in
set_option maxHeartbeats 40000000 in
theorem dcount_c5 (l : Launch) (Z : State) (aw : Array Value) (hw : ∀ d ∈ tables_1, d.before aw Z = true) (v : Int64) (ar : Nat) (k0 : ClassId) {p : Program} {e : Env} {s : State} {m : MethodId} {args : Array Value} {below : List Frame} {meth : Method} {c : Code} {T : State} {locs : List Loc} {cells slots n0 : Nat} {h0 : Heap} (hx : p.tables.exec = Jvm.exec) (hby : c.code = prog_4_method_21_code) (hml : c.maxLocals = 3) (hrt : meth.sig.returnType = some .int) (hlk : meth.locks = false) (hnm : meth.name = "digitCount") (hZ : Z.Warmed39 s.vm) (hown : s.vm.findClass "com/example/primevertical/primevertical/DecimalText" = some m.cls) (X : Stand p l e ({ frames := 0, cells := 0, slots := 0, locals := 0 } : Room) s m args below meth c T locs cells slots) (e0 : T.heap = h0) (N : Fr n0 locs) (hcells : cells ≤ 0) (hslots : slots ≤ 0) (O : Old Z n0 h0) (S0 : Sta Z Z.heap "com/example/primevertical/primevertical/DecimalText" "LONG_POWERS_OF_TEN" "[J" (.ref ar)) (V0 : Arv Z Z.heap ar k0 .long (19 : Int32) PW (.long (0 : Int64))) (cq7 : ¬ (v < (10 : Int64))) (cq14 : ¬ (v < (100 : Int64))) (cq21 : ¬ (v < (1000 : Int64))) (cq28 : ¬ (v < (10000 : Int64))) (cq35 : ¬ (v < (100000 : Int64))) :
    Goes p e below s ({ frames := 0, cells := 0, slots := 0, locals := 0 } : Room).cells ({ frames := 0, cells := 0, slots := 0, locals := 0 } : Room).slots n0 (fun vv hh => vv = some (.int (dig v)) ∧ hh = h0) (T.setTop (mkF m 6 #[.val (.long v), .second, .val (.int (6 : Int32))] [(.ref ar), (.int (6 : Int32))])) := by
  have zO := O.le
  show Goes _ _ _ _ _ _ _ _ (T.setTop (mkF m 6 #[.val (.long v), .second, .val (.int (6 : Int32))] [(.ref ar), (.int (6 : Int32))]))
  have fq37 : Arv Z h0 ar k0 .long (19 : Int32) PW (.long (0 : Int64)) := (V0.ext O.2)
  obtain ⟨clq38, Arq38, -, Sq38, Nnq38, -, -⟩ := id fq37
  refine Goes.via (X.arraylength hx (by rw [e0]; exact Arq38.1) (State.isArrayOf_alike hZ.alike Arq38.2.1) (g := (mkF m 6 #[.val (.long v), .second, .val (.int (6 : Int32))] [(.ref ar), (.int (6 : Int32))])) rfl rfl (hb hby d_prog_4_method_21_code_6)) ?_
  rw [len_of Sq38 Nnq38]
  show Goes _ _ _ _ _ _ _ _ (T.setTop (mkF m 7 #[.val (.long v), .second, .val (.int (6 : Int32))] [(.int (19 : Int32)), (.int (6 : Int32))]))
  refine Goes.via (fun _ k => XS.icmpNo X.here hx rfl (hb hby d_prog_4_method_21_code_7) rfl (XT.ii_ge_f (by decide)) k) ?_
  show Goes _ _ _ _ _ _ _ _ (T.setTop (mkF m 10 #[.val (.long v), .second, .val (.int (6 : Int32))] []))
  refine Goes.via (fun _ k => XT.lloadN X.here hx rfl (hb hby d_prog_4_method_21_code_10) rfl k) ?_
  show Goes _ _ _ _ _ _ _ _ (T.setTop (mkF m 11 #[.val (.long v), .second, .val (.int (6 : Int32))] [(.long v)]))
  have fq40 : Sta Z h0 "com/example/primevertical/primevertical/DecimalText" "LONG_POWERS_OF_TEN" "[J" (.ref ar) := (S0.ext O.2)
  obtain ⟨Tq39, Xq39, eq39, stq39⟩ := getS2 X hx hZ hown (host := "") (Or.inl (W_23 hw)) Via.refl e0 fq40 (g := (mkF m 11 #[.val (.long v), .second, .val (.int (6 : Int32))] [(.long v)])) rfl (hb hby d_prog_4_method_21_code_11)
  refine Goes.via stq39 ?_
  show Goes _ _ _ _ _ _ _ _ (Tq39.setTop (mkF m 14 #[.val (.long v), .second, .val (.int (6 : Int32))] [(.ref ar), (.long v)]))
  refine Goes.via (fun _ k => XS.iloadN Xq39.here hx rfl (hb hby d_prog_4_method_21_code_14) rfl k) ?_
  show Goes _ _ _ _ _ _ _ _ (Tq39.setTop (mkF m 15 #[.val (.long v), .second, .val (.int (6 : Int32))] [(.int (6 : Int32)), (.ref ar), (.long v)]))
  obtain ⟨clq41, Arq41, qq41, Sq41, Nnq41, Hq41, Gq41⟩ := id fq37
  have hinq41 : ¬ ((6 : Int32) < 0 ∨ clq41.slots.size ≤ ((6 : Int32)).toNatClampNeg) := inb_of Sq41 ⟨by decide, by decide⟩
  refine Goes.via (Xq39.laload hx (j := (6 : Int32)) (v := (.long (1000000 : Int64))) (by rw [eq39]; exact Arq41.1) (State.isArrayOf_alike hZ.alike Arq41.2.1) Arq41.2.2 hinq41 (Hq41.at hinq41 rfl) (g := (mkF m 15 #[.val (.long v), .second, .val (.int (6 : Int32))] [(.int (6 : Int32)), (.ref ar), (.long v)])) rfl rfl (hb hby d_prog_4_method_21_code_15)) ?_
  show Goes _ _ _ _ _ _ _ _ (Tq39.setTop (mkF m 16 #[.val (.long v), .second, .val (.int (6 : Int32))] [(.long (1000000 : Int64)), (.long v)]))
  refine Goes.via (fun _ k => XT.lcmp Xq39.here hx rfl (hb hby d_prog_4_method_21_code_16) rfl k) ?_
  show Goes _ _ _ _ _ _ _ _ (Tq39.setTop (mkF m 17 #[.val (.long v), .second, .val (.int (6 : Int32))] [(.int (XT.cmpL v (1000000 : Int64)))]))
  by_cases cq42 : v < (1000000 : Int64)
  · skip
    refine Goes.via (fun _ k => XS.ifYes Xq39.here hx rfl (pc0 := 17) (pc' := 26) rfl (hb hby d_prog_4_method_21_code_17) rfl (XT.ll_lt_t cq42) (by decide) (by decide) k) ?_
    show Goes _ _ _ _ _ _ _ _ (Tq39.setTop (mkF m 26 #[.val (.long v), .second, .val (.int (6 : Int32))] []))
    refine Goes.via (fun _ k => XS.iloadN Xq39.here hx rfl (hb hby d_prog_4_method_21_code_26) rfl k) ?_
    show Goes _ _ _ _ _ _ _ _ (Tq39.setTop (mkF m 27 #[.val (.long v), .second, .val (.int (6 : Int32))] [(.int (6 : Int32))]))
    refine goRetI Xq39 hx hrt hlk N (by show _ ≤ 0; omega) (by show _ ≤ 0; omega) (hb hby d_prog_4_method_21_code_27) ?_
    try rw [eq39]
    exact ⟨by show some (Value.int (6 : Int32)) = _; unfold dig; rw [if_neg cq7, if_neg cq14, if_neg cq21, if_neg cq28, if_neg cq35, if_pos cq42], rfl⟩
  · skip
    refine Goes.via (fun _ k => XS.ifNo Xq39.here hx rfl (hb hby d_prog_4_method_21_code_17) rfl (XT.ll_lt_f cq42) k) ?_
    show Goes _ _ _ _ _ _ _ _ (Tq39.setTop (mkF m 20 #[.val (.long v), .second, .val (.int (6 : Int32))] []))
    refine Goes.via (fun _ k => iincZ Xq39.here hx rfl (7 : Int32) (hb hby d_prog_4_method_21_code_20) (by decide) rfl (l' := #[.val (.long v), .second, .val (.int (7 : Int32))]) rfl k) ?_
    show Goes _ _ _ _ _ _ _ _ (Tq39.setTop (mkF m 23 #[.val (.long v), .second, .val (.int (7 : Int32))] []))
    refine Goes.via (fun _ k => XS.goto Xq39.here hx rfl (pc0 := 23) (pc' := 2) rfl (hb hby d_prog_4_method_21_code_23) (by decide) (by decide) k) ?_
    show Goes _ _ _ _ _ _ _ _ (Tq39.setTop (mkF m 2 #[.val (.long v), .second, .val (.int (7 : Int32))] []))
    refine Goes.via (fun _ k => XS.iloadN Xq39.here hx rfl (hb hby d_prog_4_method_21_code_2) rfl k) ?_
    show Goes _ _ _ _ _ _ _ _ (Tq39.setTop (mkF m 3 #[.val (.long v), .second, .val (.int (7 : Int32))] [(.int (7 : Int32))]))
    obtain ⟨Tq43, Xq43, eq43, stq43⟩ := getS2 Xq39 hx hZ hown (host := "") (Or.inl (W_23 hw)) Via.refl eq39 fq40 (g := (mkF m 3 #[.val (.long v), .second, .val (.int (7 : Int32))] [(.int (7 : Int32))])) rfl (hb hby d_prog_4_method_21_code_3)
    refine Goes.via stq43 ?_
    show Goes _ _ _ _ _ _ _ _ (Tq43.setTop (mkF m 6 #[.val (.long v), .second, .val (.int (7 : Int32))] [(.ref ar), (.int (7 : Int32))]))
    exact dcount_c6 l Z aw hw v ar k0 hx hby hml hrt hlk hnm hZ hown Xq43 eq43 N (by omega) (by omega) O S0 V0 cq7 cq14 cq21 cq28 cq35 cq42
set_option maxRecDepth 65536 in
set_option maxHeartbeats 40000000 in
theorem dcount_c4 (l : Launch) (Z : State) (aw : Array Value) (hw : ∀ d ∈ tables_1, d.before aw Z = true) (v : Int64) (ar : Nat) (k0 : ClassId) {p : Program} {e : Env} {s : State} {m : MethodId} {args : Array Value} {below : List Frame} {meth : Method} {c : Code} {T : State} {locs : List Loc} {cells slots n0 : Nat} {h0 : Heap} (hx : p.tables.exec = Jvm.exec) (hby : c.code = prog_4_method_21_code) (hml : c.maxLocals = 3) (hrt : meth.sig.returnType = some .int) (hlk : meth.locks = false) (hnm : meth.name = "digitCount") (hZ : Z.Warmed39 s.vm) (hown : s.vm.findClass "com/example/primevertical/primevertical/DecimalText" = some m.cls) (X : Stand p l e ({ frames := 0, cells := 0, slots := 0, locals := 0 } : Room) s m args below meth c T locs cells slots) (e0 : T.heap = h0) (N : Fr n0 locs) (hcells : cells ≤ 0) (hslots : slots ≤ 0) (O : Old Z n0 h0) (S0 : Sta Z Z.heap "com/example/primevertical/primevertical/DecimalText" "LONG_POWERS_OF_TEN" "[J" (.ref ar)) (V0 : Arv Z Z.heap ar k0 .long (19 : Int32) PW (.long (0 : Int64))) (cq7 : ¬ (v < (10 : Int64))) (cq14 : ¬ (v < (100 : Int64))) (cq21 : ¬ (v < (1000 : Int64))) (cq28 : ¬ (v < (10000 : Int64))) :
    Goes p e below s ({ frames := 0, cells := 0, slots := 0, locals := 0 } : Room).cells ({ frames := 0, cells := 0, slots := 0, locals := 0 } : Room).slots n0 (fun vv hh => vv = some (.int (dig v)) ∧ hh = h0) (T.setTop (mkF m 6 #[.val (.long v), .second, .val (.int (5 : Int32))] [(.ref ar), (.int (5 : Int32))])) := by
  have zO := O.le
  show Goes _ _ _ _ _ _ _ _ (T.setTop (mkF m 6 #[.val (.long v), .second, .val (.int (5 : Int32))] [(.ref ar), (.int (5 : Int32))]))
  have fq30 : Arv Z h0 ar k0 .long (19 : Int32) PW (.long (0 : Int64)) := (V0.ext O.2)
  obtain ⟨clq31, Arq31, -, Sq31, Nnq31, -, -⟩ := id fq30
  refine Goes.via (X.arraylength hx (by rw [e0]; exact Arq31.1) (State.isArrayOf_alike hZ.alike Arq31.2.1) (g := (mkF m 6 #[.val (.long v), .second, .val (.int (5 : Int32))] [(.ref ar), (.int (5 : Int32))])) rfl rfl (hb hby d_prog_4_method_21_code_6)) ?_
  rw [len_of Sq31 Nnq31]
  show Goes _ _ _ _ _ _ _ _ (T.setTop (mkF m 7 #[.val (.long v), .second, .val (.int (5 : Int32))] [(.int (19 : Int32)), (.int (5 : Int32))]))
  refine Goes.via (fun _ k => XS.icmpNo X.here hx rfl (hb hby d_prog_4_method_21_code_7) rfl (XT.ii_ge_f (by decide)) k) ?_
  show Goes _ _ _ _ _ _ _ _ (T.setTop (mkF m 10 #[.val (.long v), .second, .val (.int (5 : Int32))] []))
  refine Goes.via (fun _ k => XT.lloadN X.here hx rfl (hb hby d_prog_4_method_21_code_10) rfl k) ?_
  show Goes _ _ _ _ _ _ _ _ (T.setTop (mkF m 11 #[.val (.long v), .second, .val (.int (5 : Int32))] [(.long v)]))
  have fq33 : Sta Z h0 "com/example/primevertical/primevertical/DecimalText" "LONG_POWERS_OF_TEN" "[J" (.ref ar) := (S0.ext O.2)
  obtain ⟨Tq32, Xq32, eq32, stq32⟩ := getS2 X hx hZ hown (host := "") (Or.inl (W_23 hw)) Via.refl e0 fq33 (g := (mkF m 11 #[.val (.long v), .second, .val (.int (5 : Int32))] [(.long v)])) rfl (hb hby d_prog_4_method_21_code_11)
  refine Goes.via stq32 ?_
  show Goes _ _ _ _ _ _ _ _ (Tq32.setTop (mkF m 14 #[.val (.long v), .second, .val (.int (5 : Int32))] [(.ref ar), (.long v)]))
  refine Goes.via (fun _ k => XS.iloadN Xq32.here hx rfl (hb hby d_prog_4_method_21_code_14) rfl k) ?_
  show Goes _ _ _ _ _ _ _ _ (Tq32.setTop (mkF m 15 #[.val (.long v), .second, .val (.int (5 : Int32))] [(.int (5 : Int32)), (.ref ar), (.long v)]))
  obtain ⟨clq34, Arq34, qq34, Sq34, Nnq34, Hq34, Gq34⟩ := id fq30
  have hinq34 : ¬ ((5 : Int32) < 0 ∨ clq34.slots.size ≤ ((5 : Int32)).toNatClampNeg) := inb_of Sq34 ⟨by decide, by decide⟩
  refine Goes.via (Xq32.laload hx (j := (5 : Int32)) (v := (.long (100000 : Int64))) (by rw [eq32]; exact Arq34.1) (State.isArrayOf_alike hZ.alike Arq34.2.1) Arq34.2.2 hinq34 (Hq34.at hinq34 rfl) (g := (mkF m 15 #[.val (.long v), .second, .val (.int (5 : Int32))] [(.int (5 : Int32)), (.ref ar), (.long v)])) rfl rfl (hb hby d_prog_4_method_21_code_15)) ?_
  show Goes _ _ _ _ _ _ _ _ (Tq32.setTop (mkF m 16 #[.val (.long v), .second, .val (.int (5 : Int32))] [(.long (100000 : Int64)), (.long v)]))
  refine Goes.via (fun _ k => XT.lcmp Xq32.here hx rfl (hb hby d_prog_4_method_21_code_16) rfl k) ?_
  show Goes _ _ _ _ _ _ _ _ (Tq32.setTop (mkF m 17 #[.val (.long v), .second, .val (.int (5 : Int32))] [(.int (XT.cmpL v (100000 : Int64)))]))
  by_cases cq35 : v < (100000 : Int64)
  · skip
    refine Goes.via (fun _ k => XS.ifYes Xq32.here hx rfl (pc0 := 17) (pc' := 26) rfl (hb hby d_prog_4_method_21_code_17) rfl (XT.ll_lt_t cq35) (by decide) (by decide) k) ?_
    show Goes _ _ _ _ _ _ _ _ (Tq32.setTop (mkF m 26 #[.val (.long v), .second, .val (.int (5 : Int32))] []))
    refine Goes.via (fun _ k => XS.iloadN Xq32.here hx rfl (hb hby d_prog_4_method_21_code_26) rfl k) ?_
    show Goes _ _ _ _ _ _ _ _ (Tq32.setTop (mkF m 27 #[.val (.long v), .second, .val (.int (5 : Int32))] [(.int (5 : Int32))]))
    refine goRetI Xq32 hx hrt hlk N (by show _ ≤ 0; omega) (by show _ ≤ 0; omega) (hb hby d_prog_4_method_21_code_27) ?_
    try rw [eq32]
    exact ⟨by show some (Value.int (5 : Int32)) = _; unfold dig; rw [if_neg cq7, if_neg cq14, if_neg cq21, if_neg cq28, if_pos cq35], rfl⟩
  · skip
    refine Goes.via (fun _ k => XS.ifNo Xq32.here hx rfl (hb hby d_prog_4_method_21_code_17) rfl (XT.ll_lt_f cq35) k) ?_
    show Goes _ _ _ _ _ _ _ _ (Tq32.setTop (mkF m 20 #[.val (.long v), .second, .val (.int (5 : Int32))] []))
    refine Goes.via (fun _ k => iincZ Xq32.here hx rfl (6 : Int32) (hb hby d_prog_4_method_21_code_20) (by decide) rfl (l' := #[.val (.long v), .second, .val (.int (6 : Int32))]) rfl k) ?_
    show Goes _ _ _ _ _ _ _ _ (Tq32.setTop (mkF m 23 #[.val (.long v), .second, .val (.int (6 : Int32))] []))
    refine Goes.via (fun _ k => XS.goto Xq32.here hx rfl (pc0 := 23) (pc' := 2) rfl (hb hby d_prog_4_method_21_code_23) (by decide) (by decide) k) ?_
    show Goes _ _ _ _ _ _ _ _ (Tq32.setTop (mkF m 2 #[.val (.long v), .second, .val (.int (6 : Int32))] []))
    refine Goes.via (fun _ k => XS.iloadN Xq32.here hx rfl (hb hby d_prog_4_method_21_code_2) rfl k) ?_
    show Goes _ _ _ _ _ _ _ _ (Tq32.setTop (mkF m 3 #[.val (.long v), .second, .val (.int (6 : Int32))] [(.int (6 : Int32))]))
    obtain ⟨Tq36, Xq36, eq36, stq36⟩ := getS2 Xq32 hx hZ hown (host := "") (Or.inl (W_23 hw)) Via.refl eq32 fq33 (g := (mkF m 3 #[.val (.long v), .second, .val (.int (6 : Int32))] [(.int (6 : Int32))])) rfl (hb hby d_prog_4_method_21_code_3)
    refine Goes.via stq36 ?_
    show Goes _ _ _ _ _ _ _ _ (Tq36.setTop (mkF m 6 #[.val (.long v), .second, .val (.int (6 : Int32))] [(.ref ar), (.int (6 : Int32))]))
    exact dcount_c5 l Z aw hw v ar k0 hx hby hml hrt hlk hnm hZ hown Xq36 eq36 N (by omega) (by omega) O S0 V0 cq7 cq14 cq21 cq28 cq35
set_option maxRecDepth 65536 in
set_option maxHeartbeats 40000000 in
theorem dcount_c3 (l : Launch) (Z : State) (aw : Array Value) (hw : ∀ d ∈ tables_1, d.before aw Z = true) (v : Int64) (ar : Nat) (k0 : ClassId) {p : Program} {e : Env} {s : State} {m : MethodId} {args : Array Value} {below : List Frame} {meth : Method} {c : Code} {T : State} {locs : List Loc} {cells slots n0 : Nat} {h0 : Heap} (hx : p.tables.exec = Jvm.exec) (hby : c.code = prog_4_method_21_code) (hml : c.maxLocals = 3) (hrt : meth.sig.returnType = some .int) (hlk : meth.locks = false) (hnm : meth.name = "digitCount") (hZ : Z.Warmed39 s.vm) (hown : s.vm.findClass "com/example/primevertical/primevertical/DecimalText" = some m.cls) (X : Stand p l e ({ frames := 0, cells := 0, slots := 0, locals := 0 } : Room) s m args below meth c T locs cells slots) (e0 : T.heap = h0) (N : Fr n0 locs) (hcells : cells ≤ 0) (hslots : slots ≤ 0) (O : Old Z n0 h0) (S0 : Sta Z Z.heap "com/example/primevertical/primevertical/DecimalText" "LONG_POWERS_OF_TEN" "[J" (.ref ar)) (V0 : Arv Z Z.heap ar k0 .long (19 : Int32) PW (.long (0 : Int64))) (cq7 : ¬ (v < (10 : Int64))) (cq14 : ¬ (v < (100 : Int64))) (cq21 : ¬ (v < (1000 : Int64))) :
    Goes p e below s ({ frames := 0, cells := 0, slots := 0, locals := 0 } : Room).cells ({ frames := 0, cells := 0, slots := 0, locals := 0 } : Room).slots n0 (fun vv hh => vv = some (.int (dig v)) ∧ hh = h0) (T.setTop (mkF m 6 #[.val (.long v), .second, .val (.int (4 : Int32))] [(.ref ar), (.int (4 : Int32))])) := by
  have zO := O.le
  show Goes _ _ _ _ _ _ _ _ (T.setTop (mkF m 6 #[.val (.long v), .second, .val (.int (4 : Int32))] [(.ref ar), (.int (4 : Int32))]))
  have fq23 : Arv Z h0 ar k0 .long (19 : Int32) PW (.long (0 : Int64)) := (V0.ext O.2)
  obtain ⟨clq24, Arq24, -, Sq24, Nnq24, -, -⟩ := id fq23
  refine Goes.via (X.arraylength hx (by rw [e0]; exact Arq24.1) (State.isArrayOf_alike hZ.alike Arq24.2.1) (g := (mkF m 6 #[.val (.long v), .second, .val (.int (4 : Int32))] [(.ref ar), (.int (4 : Int32))])) rfl rfl (hb hby d_prog_4_method_21_code_6)) ?_
  rw [len_of Sq24 Nnq24]
  show Goes _ _ _ _ _ _ _ _ (T.setTop (mkF m 7 #[.val (.long v), .second, .val (.int (4 : Int32))] [(.int (19 : Int32)), (.int (4 : Int32))]))
  refine Goes.via (fun _ k => XS.icmpNo X.here hx rfl (hb hby d_prog_4_method_21_code_7) rfl (XT.ii_ge_f (by decide)) k) ?_
  show Goes _ _ _ _ _ _ _ _ (T.setTop (mkF m 10 #[.val (.long v), .second, .val (.int (4 : Int32))] []))
  refine Goes.via (fun _ k => XT.lloadN X.here hx rfl (hb hby d_prog_4_method_21_code_10) rfl k) ?_
  show Goes _ _ _ _ _ _ _ _ (T.setTop (mkF m 11 #[.val (.long v), .second, .val (.int (4 : Int32))] [(.long v)]))
  have fq26 : Sta Z h0 "com/example/primevertical/primevertical/DecimalText" "LONG_POWERS_OF_TEN" "[J" (.ref ar) := (S0.ext O.2)
  obtain ⟨Tq25, Xq25, eq25, stq25⟩ := getS2 X hx hZ hown (host := "") (Or.inl (W_23 hw)) Via.refl e0 fq26 (g := (mkF m 11 #[.val (.long v), .second, .val (.int (4 : Int32))] [(.long v)])) rfl (hb hby d_prog_4_method_21_code_11)
  refine Goes.via stq25 ?_
  show Goes _ _ _ _ _ _ _ _ (Tq25.setTop (mkF m 14 #[.val (.long v), .second, .val (.int (4 : Int32))] [(.ref ar), (.long v)]))
  refine Goes.via (fun _ k => XS.iloadN Xq25.here hx rfl (hb hby d_prog_4_method_21_code_14) rfl k) ?_
  show Goes _ _ _ _ _ _ _ _ (Tq25.setTop (mkF m 15 #[.val (.long v), .second, .val (.int (4 : Int32))] [(.int (4 : Int32)), (.ref ar), (.long v)]))
  obtain ⟨clq27, Arq27, qq27, Sq27, Nnq27, Hq27, Gq27⟩ := id fq23
  have hinq27 : ¬ ((4 : Int32) < 0 ∨ clq27.slots.size ≤ ((4 : Int32)).toNatClampNeg) := inb_of Sq27 ⟨by decide, by decide⟩
  refine Goes.via (Xq25.laload hx (j := (4 : Int32)) (v := (.long (10000 : Int64))) (by rw [eq25]; exact Arq27.1) (State.isArrayOf_alike hZ.alike Arq27.2.1) Arq27.2.2 hinq27 (Hq27.at hinq27 rfl) (g := (mkF m 15 #[.val (.long v), .second, .val (.int (4 : Int32))] [(.int (4 : Int32)), (.ref ar), (.long v)])) rfl rfl (hb hby d_prog_4_method_21_code_15)) ?_
  show Goes _ _ _ _ _ _ _ _ (Tq25.setTop (mkF m 16 #[.val (.long v), .second, .val (.int (4 : Int32))] [(.long (10000 : Int64)), (.long v)]))
  refine Goes.via (fun _ k => XT.lcmp Xq25.here hx rfl (hb hby d_prog_4_method_21_code_16) rfl k) ?_
  show Goes _ _ _ _ _ _ _ _ (Tq25.setTop (mkF m 17 #[.val (.long v), .second, .val (.int (4 : Int32))] [(.int (XT.cmpL v (10000 : Int64)))]))
  by_cases cq28 : v < (10000 : Int64)
  · skip
    refine Goes.via (fun _ k => XS.ifYes Xq25.here hx rfl (pc0 := 17) (pc' := 26) rfl (hb hby d_prog_4_method_21_code_17) rfl (XT.ll_lt_t cq28) (by decide) (by decide) k) ?_
    show Goes _ _ _ _ _ _ _ _ (Tq25.setTop (mkF m 26 #[.val (.long v), .second, .val (.int (4 : Int32))] []))
    refine Goes.via (fun _ k => XS.iloadN Xq25.here hx rfl (hb hby d_prog_4_method_21_code_26) rfl k) ?_
    show Goes _ _ _ _ _ _ _ _ (Tq25.setTop (mkF m 27 #[.val (.long v), .second, .val (.int (4 : Int32))] [(.int (4 : Int32))]))
    refine goRetI Xq25 hx hrt hlk N (by show _ ≤ 0; omega) (by show _ ≤ 0; omega) (hb hby d_prog_4_method_21_code_27) ?_
    try rw [eq25]
    exact ⟨by show some (Value.int (4 : Int32)) = _; unfold dig; rw [if_neg cq7, if_neg cq14, if_neg cq21, if_pos cq28], rfl⟩
  · skip
    refine Goes.via (fun _ k => XS.ifNo Xq25.here hx rfl (hb hby d_prog_4_method_21_code_17) rfl (XT.ll_lt_f cq28) k) ?_
    show Goes _ _ _ _ _ _ _ _ (Tq25.setTop (mkF m 20 #[.val (.long v), .second, .val (.int (4 : Int32))] []))
    refine Goes.via (fun _ k => iincZ Xq25.here hx rfl (5 : Int32) (hb hby d_prog_4_method_21_code_20) (by decide) rfl (l' := #[.val (.long v), .second, .val (.int (5 : Int32))]) rfl k) ?_
    show Goes _ _ _ _ _ _ _ _ (Tq25.setTop (mkF m 23 #[.val (.long v), .second, .val (.int (5 : Int32))] []))
    refine Goes.via (fun _ k => XS.goto Xq25.here hx rfl (pc0 := 23) (pc' := 2) rfl (hb hby d_prog_4_method_21_code_23) (by decide) (by decide) k) ?_
    show Goes _ _ _ _ _ _ _ _ (Tq25.setTop (mkF m 2 #[.val (.long v), .second, .val (.int (5 : Int32))] []))
    refine Goes.via (fun _ k => XS.iloadN Xq25.here hx rfl (hb hby d_prog_4_method_21_code_2) rfl k) ?_
    show Goes _ _ _ _ _ _ _ _ (Tq25.setTop (mkF m 3 #[.val (.long v), .second, .val (.int (5 : Int32))] [(.int (5 : Int32))]))
    obtain ⟨Tq29, Xq29, eq29, stq29⟩ := getS2 Xq25 hx hZ hown (host := "") (Or.inl (W_23 hw)) Via.refl eq25 fq26 (g := (mkF m 3 #[.val (.long v), .second, .val (.int (5 : Int32))] [(.int (5 : Int32))])) rfl (hb hby d_prog_4_method_21_code_3)
    refine Goes.via stq29 ?_
    show Goes _ _ _ _ _ _ _ _ (Tq29.setTop (mkF m 6 #[.val (.long v), .second, .val (.int (5 : Int32))] [(.ref ar), (.int (5 : Int32))]))
    exact dcount_c4 l Z aw hw v ar k0 hx hby hml hrt hlk hnm hZ hown Xq29 eq29 N (by omega) (by omega) O S0 V0 cq7 cq14 cq21 cq28
set_option maxRecDepth 65536 in
set_option maxHeartbeats 40000000 in
theorem dcount_c2 (l : Launch) (Z : State) (aw : Array Value) (hw : ∀ d ∈ tables_1, d.before aw Z = true) (v : Int64) (ar : Nat) (k0 : ClassId) {p : Program} {e : Env} {s : State} {m : MethodId} {args : Array Value} {below : List Frame} {meth : Method} {c : Code} {T : State} {locs : List Loc} {cells slots n0 : Nat} {h0 : Heap} (hx : p.tables.exec = Jvm.exec) (hby : c.code = prog_4_method_21_code) (hml : c.maxLocals = 3) (hrt : meth.sig.returnType = some .int) (hlk : meth.locks = false) (hnm : meth.name = "digitCount") (hZ : Z.Warmed39 s.vm) (hown : s.vm.findClass "com/example/primevertical/primevertical/DecimalText" = some m.cls) (X : Stand p l e ({ frames := 0, cells := 0, slots := 0, locals := 0 } : Room) s m args below meth c T locs cells slots) (e0 : T.heap = h0) (N : Fr n0 locs) (hcells : cells ≤ 0) (hslots : slots ≤ 0) (O : Old Z n0 h0) (S0 : Sta Z Z.heap "com/example/primevertical/primevertical/DecimalText" "LONG_POWERS_OF_TEN" "[J" (.ref ar)) (V0 : Arv Z Z.heap ar k0 .long (19 : Int32) PW (.long (0 : Int64))) (cq7 : ¬ (v < (10 : Int64))) (cq14 : ¬ (v < (100 : Int64))) :
    Goes p e below s ({ frames := 0, cells := 0, slots := 0, locals := 0 } : Room).cells ({ frames := 0, cells := 0, slots := 0, locals := 0 } : Room).slots n0 (fun vv hh => vv = some (.int (dig v)) ∧ hh = h0) (T.setTop (mkF m 6 #[.val (.long v), .second, .val (.int (3 : Int32))] [(.ref ar), (.int (3 : Int32))])) := by
  have zO := O.le
  show Goes _ _ _ _ _ _ _ _ (T.setTop (mkF m 6 #[.val (.long v), .second, .val (.int (3 : Int32))] [(.ref ar), (.int (3 : Int32))]))
  have fq16 : Arv Z h0 ar k0 .long (19 : Int32) PW (.long (0 : Int64)) := (V0.ext O.2)
  obtain ⟨clq17, Arq17, -, Sq17, Nnq17, -, -⟩ := id fq16
  refine Goes.via (X.arraylength hx (by rw [e0]; exact Arq17.1) (State.isArrayOf_alike hZ.alike Arq17.2.1) (g := (mkF m 6 #[.val (.long v), .second, .val (.int (3 : Int32))] [(.ref ar), (.int (3 : Int32))])) rfl rfl (hb hby d_prog_4_method_21_code_6)) ?_
  rw [len_of Sq17 Nnq17]
  show Goes _ _ _ _ _ _ _ _ (T.setTop (mkF m 7 #[.val (.long v), .second, .val (.int (3 : Int32))] [(.int (19 : Int32)), (.int (3 : Int32))]))
  refine Goes.via (fun _ k => XS.icmpNo X.here hx rfl (hb hby d_prog_4_method_21_code_7) rfl (XT.ii_ge_f (by decide)) k) ?_
  show Goes _ _ _ _ _ _ _ _ (T.setTop (mkF m 10 #[.val (.long v), .second, .val (.int (3 : Int32))] []))
  refine Goes.via (fun _ k => XT.lloadN X.here hx rfl (hb hby d_prog_4_method_21_code_10) rfl k) ?_
  show Goes _ _ _ _ _ _ _ _ (T.setTop (mkF m 11 #[.val (.long v), .second, .val (.int (3 : Int32))] [(.long v)]))
  have fq19 : Sta Z h0 "com/example/primevertical/primevertical/DecimalText" "LONG_POWERS_OF_TEN" "[J" (.ref ar) := (S0.ext O.2)
  obtain ⟨Tq18, Xq18, eq18, stq18⟩ := getS2 X hx hZ hown (host := "") (Or.inl (W_23 hw)) Via.refl e0 fq19 (g := (mkF m 11 #[.val (.long v), .second, .val (.int (3 : Int32))] [(.long v)])) rfl (hb hby d_prog_4_method_21_code_11)
  refine Goes.via stq18 ?_
  show Goes _ _ _ _ _ _ _ _ (Tq18.setTop (mkF m 14 #[.val (.long v), .second, .val (.int (3 : Int32))] [(.ref ar), (.long v)]))
  refine Goes.via (fun _ k => XS.iloadN Xq18.here hx rfl (hb hby d_prog_4_method_21_code_14) rfl k) ?_
  show Goes _ _ _ _ _ _ _ _ (Tq18.setTop (mkF m 15 #[.val (.long v), .second, .val (.int (3 : Int32))] [(.int (3 : Int32)), (.ref ar), (.long v)]))
  obtain ⟨clq20, Arq20, qq20, Sq20, Nnq20, Hq20, Gq20⟩ := id fq16
  have hinq20 : ¬ ((3 : Int32) < 0 ∨ clq20.slots.size ≤ ((3 : Int32)).toNatClampNeg) := inb_of Sq20 ⟨by decide, by decide⟩
  refine Goes.via (Xq18.laload hx (j := (3 : Int32)) (v := (.long (1000 : Int64))) (by rw [eq18]; exact Arq20.1) (State.isArrayOf_alike hZ.alike Arq20.2.1) Arq20.2.2 hinq20 (Hq20.at hinq20 rfl) (g := (mkF m 15 #[.val (.long v), .second, .val (.int (3 : Int32))] [(.int (3 : Int32)), (.ref ar), (.long v)])) rfl rfl (hb hby d_prog_4_method_21_code_15)) ?_
  show Goes _ _ _ _ _ _ _ _ (Tq18.setTop (mkF m 16 #[.val (.long v), .second, .val (.int (3 : Int32))] [(.long (1000 : Int64)), (.long v)]))
  refine Goes.via (fun _ k => XT.lcmp Xq18.here hx rfl (hb hby d_prog_4_method_21_code_16) rfl k) ?_
  show Goes _ _ _ _ _ _ _ _ (Tq18.setTop (mkF m 17 #[.val (.long v), .second, .val (.int (3 : Int32))] [(.int (XT.cmpL v (1000 : Int64)))]))
  by_cases cq21 : v < (1000 : Int64)
  · skip
    refine Goes.via (fun _ k => XS.ifYes Xq18.here hx rfl (pc0 := 17) (pc' := 26) rfl (hb hby d_prog_4_method_21_code_17) rfl (XT.ll_lt_t cq21) (by decide) (by decide) k) ?_
    show Goes _ _ _ _ _ _ _ _ (Tq18.setTop (mkF m 26 #[.val (.long v), .second, .val (.int (3 : Int32))] []))
    refine Goes.via (fun _ k => XS.iloadN Xq18.here hx rfl (hb hby d_prog_4_method_21_code_26) rfl k) ?_
    show Goes _ _ _ _ _ _ _ _ (Tq18.setTop (mkF m 27 #[.val (.long v), .second, .val (.int (3 : Int32))] [(.int (3 : Int32))]))
    refine goRetI Xq18 hx hrt hlk N (by show _ ≤ 0; omega) (by show _ ≤ 0; omega) (hb hby d_prog_4_method_21_code_27) ?_
    try rw [eq18]
    exact ⟨by show some (Value.int (3 : Int32)) = _; unfold dig; rw [if_neg cq7, if_neg cq14, if_pos cq21], rfl⟩
  · skip
    refine Goes.via (fun _ k => XS.ifNo Xq18.here hx rfl (hb hby d_prog_4_method_21_code_17) rfl (XT.ll_lt_f cq21) k) ?_
    show Goes _ _ _ _ _ _ _ _ (Tq18.setTop (mkF m 20 #[.val (.long v), .second, .val (.int (3 : Int32))] []))
    refine Goes.via (fun _ k => iincZ Xq18.here hx rfl (4 : Int32) (hb hby d_prog_4_method_21_code_20) (by decide) rfl (l' := #[.val (.long v), .second, .val (.int (4 : Int32))]) rfl k) ?_
    show Goes _ _ _ _ _ _ _ _ (Tq18.setTop (mkF m 23 #[.val (.long v), .second, .val (.int (4 : Int32))] []))
    refine Goes.via (fun _ k => XS.goto Xq18.here hx rfl (pc0 := 23) (pc' := 2) rfl (hb hby d_prog_4_method_21_code_23) (by decide) (by decide) k) ?_
    show Goes _ _ _ _ _ _ _ _ (Tq18.setTop (mkF m 2 #[.val (.long v), .second, .val (.int (4 : Int32))] []))
    refine Goes.via (fun _ k => XS.iloadN Xq18.here hx rfl (hb hby d_prog_4_method_21_code_2) rfl k) ?_
    show Goes _ _ _ _ _ _ _ _ (Tq18.setTop (mkF m 3 #[.val (.long v), .second, .val (.int (4 : Int32))] [(.int (4 : Int32))]))
    obtain ⟨Tq22, Xq22, eq22, stq22⟩ := getS2 Xq18 hx hZ hown (host := "") (Or.inl (W_23 hw)) Via.refl eq18 fq19 (g := (mkF m 3 #[.val (.long v), .second, .val (.int (4 : Int32))] [(.int (4 : Int32))])) rfl (hb hby d_prog_4_method_21_code_3)
    refine Goes.via stq22 ?_
    show Goes _ _ _ _ _ _ _ _ (Tq22.setTop (mkF m 6 #[.val (.long v), .second, .val (.int (4 : Int32))] [(.ref ar), (.int (4 : Int32))]))
    exact dcount_c3 l Z aw hw v ar k0 hx hby hml hrt hlk hnm hZ hown Xq22 eq22 N (by omega) (by omega) O S0 V0 cq7 cq14 cq21
set_option maxRecDepth 65536 in
set_option maxHeartbeats 40000000 in
theorem dcount_c1 (l : Launch) (Z : State) (aw : Array Value) (hw : ∀ d ∈ tables_1, d.before aw Z = true) (v : Int64) (ar : Nat) (k0 : ClassId) {p : Program} {e : Env} {s : State} {m : MethodId} {args : Array Value} {below : List Frame} {meth : Method} {c : Code} {T : State} {locs : List Loc} {cells slots n0 : Nat} {h0 : Heap} (hx : p.tables.exec = Jvm.exec) (hby : c.code = prog_4_method_21_code) (hml : c.maxLocals = 3) (hrt : meth.sig.returnType = some .int) (hlk : meth.locks = false) (hnm : meth.name = "digitCount") (hZ : Z.Warmed39 s.vm) (hown : s.vm.findClass "com/example/primevertical/primevertical/DecimalText" = some m.cls) (X : Stand p l e ({ frames := 0, cells := 0, slots := 0, locals := 0 } : Room) s m args below meth c T locs cells slots) (e0 : T.heap = h0) (N : Fr n0 locs) (hcells : cells ≤ 0) (hslots : slots ≤ 0) (O : Old Z n0 h0) (S0 : Sta Z Z.heap "com/example/primevertical/primevertical/DecimalText" "LONG_POWERS_OF_TEN" "[J" (.ref ar)) (V0 : Arv Z Z.heap ar k0 .long (19 : Int32) PW (.long (0 : Int64))) (cq7 : ¬ (v < (10 : Int64))) :
    Goes p e below s ({ frames := 0, cells := 0, slots := 0, locals := 0 } : Room).cells ({ frames := 0, cells := 0, slots := 0, locals := 0 } : Room).slots n0 (fun vv hh => vv = some (.int (dig v)) ∧ hh = h0) (T.setTop (mkF m 6 #[.val (.long v), .second, .val (.int (2 : Int32))] [(.ref ar), (.int (2 : Int32))])) := by
  have zO := O.le
  show Goes _ _ _ _ _ _ _ _ (T.setTop (mkF m 6 #[.val (.long v), .second, .val (.int (2 : Int32))] [(.ref ar), (.int (2 : Int32))]))
  have fq9 : Arv Z h0 ar k0 .long (19 : Int32) PW (.long (0 : Int64)) := (V0.ext O.2)
  obtain ⟨clq10, Arq10, -, Sq10, Nnq10, -, -⟩ := id fq9
  refine Goes.via (X.arraylength hx (by rw [e0]; exact Arq10.1) (State.isArrayOf_alike hZ.alike Arq10.2.1) (g := (mkF m 6 #[.val (.long v), .second, .val (.int (2 : Int32))] [(.ref ar), (.int (2 : Int32))])) rfl rfl (hb hby d_prog_4_method_21_code_6)) ?_
  rw [len_of Sq10 Nnq10]
  show Goes _ _ _ _ _ _ _ _ (T.setTop (mkF m 7 #[.val (.long v), .second, .val (.int (2 : Int32))] [(.int (19 : Int32)), (.int (2 : Int32))]))
  refine Goes.via (fun _ k => XS.icmpNo X.here hx rfl (hb hby d_prog_4_method_21_code_7) rfl (XT.ii_ge_f (by decide)) k) ?_
  show Goes _ _ _ _ _ _ _ _ (T.setTop (mkF m 10 #[.val (.long v), .second, .val (.int (2 : Int32))] []))
  refine Goes.via (fun _ k => XT.lloadN X.here hx rfl (hb hby d_prog_4_method_21_code_10) rfl k) ?_
  show Goes _ _ _ _ _ _ _ _ (T.setTop (mkF m 11 #[.val (.long v), .second, .val (.int (2 : Int32))] [(.long v)]))
  have fq12 : Sta Z h0 "com/example/primevertical/primevertical/DecimalText" "LONG_POWERS_OF_TEN" "[J" (.ref ar) := (S0.ext O.2)
  obtain ⟨Tq11, Xq11, eq11, stq11⟩ := getS2 X hx hZ hown (host := "") (Or.inl (W_23 hw)) Via.refl e0 fq12 (g := (mkF m 11 #[.val (.long v), .second, .val (.int (2 : Int32))] [(.long v)])) rfl (hb hby d_prog_4_method_21_code_11)
  refine Goes.via stq11 ?_
  show Goes _ _ _ _ _ _ _ _ (Tq11.setTop (mkF m 14 #[.val (.long v), .second, .val (.int (2 : Int32))] [(.ref ar), (.long v)]))
  refine Goes.via (fun _ k => XS.iloadN Xq11.here hx rfl (hb hby d_prog_4_method_21_code_14) rfl k) ?_
  show Goes _ _ _ _ _ _ _ _ (Tq11.setTop (mkF m 15 #[.val (.long v), .second, .val (.int (2 : Int32))] [(.int (2 : Int32)), (.ref ar), (.long v)]))
  obtain ⟨clq13, Arq13, qq13, Sq13, Nnq13, Hq13, Gq13⟩ := id fq9
  have hinq13 : ¬ ((2 : Int32) < 0 ∨ clq13.slots.size ≤ ((2 : Int32)).toNatClampNeg) := inb_of Sq13 ⟨by decide, by decide⟩
  refine Goes.via (Xq11.laload hx (j := (2 : Int32)) (v := (.long (100 : Int64))) (by rw [eq11]; exact Arq13.1) (State.isArrayOf_alike hZ.alike Arq13.2.1) Arq13.2.2 hinq13 (Hq13.at hinq13 rfl) (g := (mkF m 15 #[.val (.long v), .second, .val (.int (2 : Int32))] [(.int (2 : Int32)), (.ref ar), (.long v)])) rfl rfl (hb hby d_prog_4_method_21_code_15)) ?_
  show Goes _ _ _ _ _ _ _ _ (Tq11.setTop (mkF m 16 #[.val (.long v), .second, .val (.int (2 : Int32))] [(.long (100 : Int64)), (.long v)]))
  refine Goes.via (fun _ k => XT.lcmp Xq11.here hx rfl (hb hby d_prog_4_method_21_code_16) rfl k) ?_
  show Goes _ _ _ _ _ _ _ _ (Tq11.setTop (mkF m 17 #[.val (.long v), .second, .val (.int (2 : Int32))] [(.int (XT.cmpL v (100 : Int64)))]))
  by_cases cq14 : v < (100 : Int64)
  · skip
    refine Goes.via (fun _ k => XS.ifYes Xq11.here hx rfl (pc0 := 17) (pc' := 26) rfl (hb hby d_prog_4_method_21_code_17) rfl (XT.ll_lt_t cq14) (by decide) (by decide) k) ?_
    show Goes _ _ _ _ _ _ _ _ (Tq11.setTop (mkF m 26 #[.val (.long v), .second, .val (.int (2 : Int32))] []))
    refine Goes.via (fun _ k => XS.iloadN Xq11.here hx rfl (hb hby d_prog_4_method_21_code_26) rfl k) ?_
    show Goes _ _ _ _ _ _ _ _ (Tq11.setTop (mkF m 27 #[.val (.long v), .second, .val (.int (2 : Int32))] [(.int (2 : Int32))]))
    refine goRetI Xq11 hx hrt hlk N (by show _ ≤ 0; omega) (by show _ ≤ 0; omega) (hb hby d_prog_4_method_21_code_27) ?_
    try rw [eq11]
    exact ⟨by show some (Value.int (2 : Int32)) = _; unfold dig; rw [if_neg cq7, if_pos cq14], rfl⟩
  · skip
    refine Goes.via (fun _ k => XS.ifNo Xq11.here hx rfl (hb hby d_prog_4_method_21_code_17) rfl (XT.ll_lt_f cq14) k) ?_
    show Goes _ _ _ _ _ _ _ _ (Tq11.setTop (mkF m 20 #[.val (.long v), .second, .val (.int (2 : Int32))] []))
    refine Goes.via (fun _ k => iincZ Xq11.here hx rfl (3 : Int32) (hb hby d_prog_4_method_21_code_20) (by decide) rfl (l' := #[.val (.long v), .second, .val (.int (3 : Int32))]) rfl k) ?_
    show Goes _ _ _ _ _ _ _ _ (Tq11.setTop (mkF m 23 #[.val (.long v), .second, .val (.int (3 : Int32))] []))
    refine Goes.via (fun _ k => XS.goto Xq11.here hx rfl (pc0 := 23) (pc' := 2) rfl (hb hby d_prog_4_method_21_code_23) (by decide) (by decide) k) ?_
    show Goes _ _ _ _ _ _ _ _ (Tq11.setTop (mkF m 2 #[.val (.long v), .second, .val (.int (3 : Int32))] []))
    refine Goes.via (fun _ k => XS.iloadN Xq11.here hx rfl (hb hby d_prog_4_method_21_code_2) rfl k) ?_
    show Goes _ _ _ _ _ _ _ _ (Tq11.setTop (mkF m 3 #[.val (.long v), .second, .val (.int (3 : Int32))] [(.int (3 : Int32))]))
    obtain ⟨Tq15, Xq15, eq15, stq15⟩ := getS2 Xq11 hx hZ hown (host := "") (Or.inl (W_23 hw)) Via.refl eq11 fq12 (g := (mkF m 3 #[.val (.long v), .second, .val (.int (3 : Int32))] [(.int (3 : Int32))])) rfl (hb hby d_prog_4_method_21_code_3)
    refine Goes.via stq15 ?_
    show Goes _ _ _ _ _ _ _ _ (Tq15.setTop (mkF m 6 #[.val (.long v), .second, .val (.int (3 : Int32))] [(.ref ar), (.int (3 : Int32))]))
    exact dcount_c2 l Z aw hw v ar k0 hx hby hml hrt hlk hnm hZ hown Xq15 eq15 N (by omega) (by omega) O S0 V0 cq7 cq14
set_option maxRecDepth 65536 in
set_option maxHeartbeats 40000000 in
theorem dcount (l : Launch) (Z : State) (aw : Array Value) (hw : ∀ d ∈ tables_1, d.before aw Z = true) (v : Int64) (ar : Nat) (k0 : ClassId) {h0 : Heap} {n0 : Nat} (O : Old Z n0 h0) (S0 : Sta Z Z.heap "com/example/primevertical/primevertical/DecimalText" "LONG_POWERS_OF_TEN" "[J" (.ref ar)) (V0 : Arv Z Z.heap ar k0 .long (19 : Int32) PW (.long (0 : Int64))) :
    MET l Z (⟨"com/example/primevertical/primevertical/DecimalText", "digitCount", "(J)I"⟩ : MethodName) prog_4_method_21_code 3 (some .int) ({ frames := 0, cells := 0, slots := 0, locals := 0 } : Room) #[(.long v)] h0 n0 (fun vv hh => vv = some (.int (dig v)) ∧ hh = h0) := by
  refine metOf (plainFor_of_name pn_0) ?_
  intro p e s m below meth c T hx hby hml hrt hlk hnm hZ hown X e0
  replace hml : c.maxLocals = 3 := hml
  replace hnm : meth.name = "digitCount" := hnm
  replace hown : s.vm.findClass "com/example/primevertical/primevertical/DecimalText" = some m.cls := hown
  have N := Fr.nil n0
  have zO := O.le
  refine goCast (ef_dcount m v) ?_
  show Goes _ _ _ _ _ _ _ _ (T.setTop (mkF m 0 #[.val (.long v), .second, .unset] []))
  refine Goes.via (fun _ k => XT.iconstV X.here hx rfl (1 : Int32) (hb hby d_prog_4_method_21_code_0) (by decide) k) ?_
  show Goes _ _ _ _ _ _ _ _ (T.setTop (mkF m 1 #[.val (.long v), .second, .unset] [(.int (1 : Int32))]))
  refine Goes.via (fun _ k => XS.istoreN X.here hx rfl (hb hby d_prog_4_method_21_code_1) rfl (l' := #[.val (.long v), .second, .val (.int (1 : Int32))]) rfl k) ?_
  show Goes _ _ _ _ _ _ _ _ (T.setTop (mkF m 2 #[.val (.long v), .second, .val (.int (1 : Int32))] []))
  refine Goes.via (fun _ k => XS.iloadN X.here hx rfl (hb hby d_prog_4_method_21_code_2) rfl k) ?_
  show Goes _ _ _ _ _ _ _ _ (T.setTop (mkF m 3 #[.val (.long v), .second, .val (.int (1 : Int32))] [(.int (1 : Int32))]))
  have fq2 : Sta Z h0 "com/example/primevertical/primevertical/DecimalText" "LONG_POWERS_OF_TEN" "[J" (.ref ar) := (S0.ext O.2)
  obtain ⟨Tq1, Xq1, eq1, stq1⟩ := getS2 X hx hZ hown (host := "") (Or.inl (W_23 hw)) Via.refl e0 fq2 (g := (mkF m 3 #[.val (.long v), .second, .val (.int (1 : Int32))] [(.int (1 : Int32))])) rfl (hb hby d_prog_4_method_21_code_3)
  refine Goes.via stq1 ?_
  show Goes _ _ _ _ _ _ _ _ (Tq1.setTop (mkF m 6 #[.val (.long v), .second, .val (.int (1 : Int32))] [(.ref ar), (.int (1 : Int32))]))
  have fq3 : Arv Z h0 ar k0 .long (19 : Int32) PW (.long (0 : Int64)) := (V0.ext O.2)
  obtain ⟨clq4, Arq4, -, Sq4, Nnq4, -, -⟩ := id fq3
  refine Goes.via (Xq1.arraylength hx (by rw [eq1]; exact Arq4.1) (State.isArrayOf_alike hZ.alike Arq4.2.1) (g := (mkF m 6 #[.val (.long v), .second, .val (.int (1 : Int32))] [(.ref ar), (.int (1 : Int32))])) rfl rfl (hb hby d_prog_4_method_21_code_6)) ?_
  rw [len_of Sq4 Nnq4]
  show Goes _ _ _ _ _ _ _ _ (Tq1.setTop (mkF m 7 #[.val (.long v), .second, .val (.int (1 : Int32))] [(.int (19 : Int32)), (.int (1 : Int32))]))
  refine Goes.via (fun _ k => XS.icmpNo Xq1.here hx rfl (hb hby d_prog_4_method_21_code_7) rfl (XT.ii_ge_f (by decide)) k) ?_
  show Goes _ _ _ _ _ _ _ _ (Tq1.setTop (mkF m 10 #[.val (.long v), .second, .val (.int (1 : Int32))] []))
  refine Goes.via (fun _ k => XT.lloadN Xq1.here hx rfl (hb hby d_prog_4_method_21_code_10) rfl k) ?_
  show Goes _ _ _ _ _ _ _ _ (Tq1.setTop (mkF m 11 #[.val (.long v), .second, .val (.int (1 : Int32))] [(.long v)]))
  obtain ⟨Tq5, Xq5, eq5, stq5⟩ := getS2 Xq1 hx hZ hown (host := "") (Or.inl (W_23 hw)) Via.refl eq1 fq2 (g := (mkF m 11 #[.val (.long v), .second, .val (.int (1 : Int32))] [(.long v)])) rfl (hb hby d_prog_4_method_21_code_11)
  refine Goes.via stq5 ?_
  show Goes _ _ _ _ _ _ _ _ (Tq5.setTop (mkF m 14 #[.val (.long v), .second, .val (.int (1 : Int32))] [(.ref ar), (.long v)]))
  refine Goes.via (fun _ k => XS.iloadN Xq5.here hx rfl (hb hby d_prog_4_method_21_code_14) rfl k) ?_
  show Goes _ _ _ _ _ _ _ _ (Tq5.setTop (mkF m 15 #[.val (.long v), .second, .val (.int (1 : Int32))] [(.int (1 : Int32)), (.ref ar), (.long v)]))
  obtain ⟨clq6, Arq6, qq6, Sq6, Nnq6, Hq6, Gq6⟩ := id fq3
  have hinq6 : ¬ ((1 : Int32) < 0 ∨ clq6.slots.size ≤ ((1 : Int32)).toNatClampNeg) := inb_of Sq6 ⟨by decide, by decide⟩
  refine Goes.via (Xq5.laload hx (j := (1 : Int32)) (v := (.long (10 : Int64))) (by rw [eq5]; exact Arq6.1) (State.isArrayOf_alike hZ.alike Arq6.2.1) Arq6.2.2 hinq6 (Hq6.at hinq6 rfl) (g := (mkF m 15 #[.val (.long v), .second, .val (.int (1 : Int32))] [(.int (1 : Int32)), (.ref ar), (.long v)])) rfl rfl (hb hby d_prog_4_method_21_code_15)) ?_
  show Goes _ _ _ _ _ _ _ _ (Tq5.setTop (mkF m 16 #[.val (.long v), .second, .val (.int (1 : Int32))] [(.long (10 : Int64)), (.long v)]))
  refine Goes.via (fun _ k => XT.lcmp Xq5.here hx rfl (hb hby d_prog_4_method_21_code_16) rfl k) ?_
  show Goes _ _ _ _ _ _ _ _ (Tq5.setTop (mkF m 17 #[.val (.long v), .second, .val (.int (1 : Int32))] [(.int (XT.cmpL v (10 : Int64)))]))
  by_cases cq7 : v < (10 : Int64)
  · skip
    refine Goes.via (fun _ k => XS.ifYes Xq5.here hx rfl (pc0 := 17) (pc' := 26) rfl (hb hby d_prog_4_method_21_code_17) rfl (XT.ll_lt_t cq7) (by decide) (by decide) k) ?_
    show Goes _ _ _ _ _ _ _ _ (Tq5.setTop (mkF m 26 #[.val (.long v), .second, .val (.int (1 : Int32))] []))
    refine Goes.via (fun _ k => XS.iloadN Xq5.here hx rfl (hb hby d_prog_4_method_21_code_26) rfl k) ?_
    show Goes _ _ _ _ _ _ _ _ (Tq5.setTop (mkF m 27 #[.val (.long v), .second, .val (.int (1 : Int32))] [(.int (1 : Int32))]))
    refine goRetI Xq5 hx hrt hlk N (by decide) (by decide) (hb hby d_prog_4_method_21_code_27) ?_
    try rw [eq5]
    exact ⟨by show some (Value.int (1 : Int32)) = _; unfold dig; rw [if_pos cq7], rfl⟩
  · skip
    refine Goes.via (fun _ k => XS.ifNo Xq5.here hx rfl (hb hby d_prog_4_method_21_code_17) rfl (XT.ll_lt_f cq7) k) ?_
    show Goes _ _ _ _ _ _ _ _ (Tq5.setTop (mkF m 20 #[.val (.long v), .second, .val (.int (1 : Int32))] []))
    refine Goes.via (fun _ k => iincZ Xq5.here hx rfl (2 : Int32) (hb hby d_prog_4_method_21_code_20) (by decide) rfl (l' := #[.val (.long v), .second, .val (.int (2 : Int32))]) rfl k) ?_
    show Goes _ _ _ _ _ _ _ _ (Tq5.setTop (mkF m 23 #[.val (.long v), .second, .val (.int (2 : Int32))] []))
    refine Goes.via (fun _ k => XS.goto Xq5.here hx rfl (pc0 := 23) (pc' := 2) rfl (hb hby d_prog_4_method_21_code_23) (by decide) (by decide) k) ?_
    show Goes _ _ _ _ _ _ _ _ (Tq5.setTop (mkF m 2 #[.val (.long v), .second, .val (.int (2 : Int32))] []))
    refine Goes.via (fun _ k => XS.iloadN Xq5.here hx rfl (hb hby d_prog_4_method_21_code_2) rfl k) ?_
    show Goes _ _ _ _ _ _ _ _ (Tq5.setTop (mkF m 3 #[.val (.long v), .second, .val (.int (2 : Int32))] [(.int (2 : Int32))]))
    obtain ⟨Tq8, Xq8, eq8, stq8⟩ := getS2 Xq5 hx hZ hown (host := "") (Or.inl (W_23 hw)) Via.refl eq5 fq2 (g := (mkF m 3 #[.val (.long v), .second, .val (.int (2 : Int32))] [(.int (2 : Int32))])) rfl (hb hby d_prog_4_method_21_code_3)
    refine Goes.via stq8 ?_
    show Goes _ _ _ _ _ _ _ _ (Tq8.setTop (mkF m 6 #[.val (.long v), .second, .val (.int (2 : Int32))] [(.ref ar), (.int (2 : Int32))]))
    exact dcount_c1 l Z aw hw v ar k0 hx hby hml hrt hlk hnm hZ hown Xq8 eq8 N (by decide) (by decide) O S0 V0 cq7
theorem ix_ok (m : Int32) : ¬ (XT.ushr m (1 : Int32)) % (19 : Int32) < 0 ∧ (XT.ushr m (1 : Int32)) % (19 : Int32) < (19 : Int32) := by
  have h1 : (XT.ushr m (1 : Int32)).toInt = (m.toInt % 4294967296) / (2 ^ 1 : Nat) := c_iushr m 1 1 (by decide) (by decide)
  have h2 := (c_irem (XT.ushr m (1 : Int32)) 19 19 (by decide)).1 (by omega)
  have e0 : (0 : Int32).toInt = 0 := by decide
  have e1 : (19 : Int32).toInt = 19 := by decide
  rw [Int32.lt_iff_toInt_lt, Int32.lt_iff_toInt_lt, h2]
  omega
set_option maxRecDepth 65536 in
set_option maxHeartbeats 40000000 in
theorem law_c19 (l : Launch) (Z : State) (aw : Array Value) (hw : ∀ d ∈ tables_1, d.before aw Z = true) (x0 : Int64) (mode : Int32) (d0 : Int32) (ar : Nat) (k0 : ClassId) (pa : Nat) (ka : ClassId) (v : Int64) (s7 : Slot) (s8 : Slot) (s9 : Slot) {p : Program} {e : Env} {s : State} {m : MethodId} {args : Array Value} {below : List Frame} {meth : Method} {c : Code} {T : State} {locs : List Loc} {cells slots n0 : Nat} {h1 : Heap} (hx : p.tables.exec = Jvm.exec) (hby : c.code = code) (hml : c.maxLocals = 10) (hrt : meth.sig.returnType = some .boolean) (hlk : meth.locks = false) (hnm : meth.name = "law") (hZ : Z.Warmed39 s.vm) (hown : s.vm.findClass "com/example/primevertical/primevertical/DecimalTextDigitCountPinLaw" = some m.cls) (X : Stand p l e room_1 s m args below meth c T locs cells slots) (e0 : T.heap = h1) (N : Fr n0 locs) (hcells : cells ≤ 1) (hslots : slots ≤ 19) (O : Old Z n0 h1) (S0 : Sta Z Z.heap "com/example/primevertical/primevertical/DecimalText" "LONG_POWERS_OF_TEN" "[J" (.ref ar)) (V0 : Arv Z Z.heap ar k0 .long (19 : Int32) PW (.long (0 : Int64))) (pf0 : Arv Z h1 pa ka .long (19 : Int32) PW (.long (0 : Int64))) (h_s7 : One s7) (H8 : ∀ z7 z8 : Int32, storeLocals #[.val (.long x0), .second, .val (.int mode), .val (.int d0), .val (.ref pa), .val (.long v), .second, .val (.int z7), s8, s9] 8 (.int z8) = some #[.val (.long x0), .second, .val (.int mode), .val (.int d0), .val (.ref pa), .val (.long v), .second, .val (.int z7), .val (.int z8), .unset]) (hi7 : v < (10 : Int64)) :
    Goes p e below s room_1.cells room_1.slots n0 (fun vv hh => vv = some (.int (1 : Int32))) (T.setTop (mkF m 178 #[.val (.long x0), .second, .val (.int mode), .val (.int d0), .val (.ref pa), .val (.long v), .second, s7, s8, s9] [(.int (1 : Int32))])) := by
  have zO := O.le
  have lt_pa := lt_nat pf0.lt
  show Goes _ _ _ _ _ _ _ _ (T.setTop (mkF m 178 #[.val (.long x0), .second, .val (.int mode), .val (.int d0), .val (.ref pa), .val (.long v), .second, s7, s8, s9] [(.int (1 : Int32))]))
  refine Goes.via (fun _ k => XS.istore X.here hx rfl (hb hby at_178) rfl (l' := #[.val (.long x0), .second, .val (.int mode), .val (.int d0), .val (.ref pa), .val (.long v), .second, .val (.int (1 : Int32)), s8, s9]) (XS.store1 rfl h_s7 rfl) k) ?_
  show Goes _ _ _ _ _ _ _ _ (T.setTop (mkF m 180 #[.val (.long x0), .second, .val (.int mode), .val (.int d0), .val (.ref pa), .val (.long v), .second, .val (.int (1 : Int32)), s8, s9] []))
  refine Goes.via (fun _ k => XS.iload X.here hx rfl (hb hby at_180) rfl k) ?_
  show Goes _ _ _ _ _ _ _ _ (T.setTop (mkF m 182 #[.val (.long x0), .second, .val (.int mode), .val (.int d0), .val (.ref pa), .val (.long v), .second, .val (.int (1 : Int32)), s8, s9] [(.int (1 : Int32))]))
  refine Goes.via (fun _ k => XT.iconstV X.here hx rfl (1 : Int32) (hb hby at_182) (by decide) k) ?_
  show Goes _ _ _ _ _ _ _ _ (T.setTop (mkF m 183 #[.val (.long x0), .second, .val (.int mode), .val (.int d0), .val (.ref pa), .val (.long v), .second, .val (.int (1 : Int32)), s8, s9] [(.int (1 : Int32)), (.int (1 : Int32))]))
  refine Goes.via (fun _ k => XS.icmpNo X.here hx rfl (hb hby at_183) rfl (XT.ii_lt_f (by decide)) k) ?_
  show Goes _ _ _ _ _ _ _ _ (T.setTop (mkF m 186 #[.val (.long x0), .second, .val (.int mode), .val (.int d0), .val (.ref pa), .val (.long v), .second, .val (.int (1 : Int32)), s8, s9] []))
  refine Goes.via (fun _ k => XS.iload X.here hx rfl (hb hby at_186) rfl k) ?_
  show Goes _ _ _ _ _ _ _ _ (T.setTop (mkF m 188 #[.val (.long x0), .second, .val (.int mode), .val (.int d0), .val (.ref pa), .val (.long v), .second, .val (.int (1 : Int32)), s8, s9] [(.int (1 : Int32))]))
  refine Goes.via (fun _ k => XT.bipushV X.here hx rfl (19 : Int32) (hb hby at_188) (by decide) k) ?_
  show Goes _ _ _ _ _ _ _ _ (T.setTop (mkF m 190 #[.val (.long x0), .second, .val (.int mode), .val (.int d0), .val (.ref pa), .val (.long v), .second, .val (.int (1 : Int32)), s8, s9] [(.int (19 : Int32)), (.int (1 : Int32))]))
  refine Goes.via (fun _ k => XS.icmpYes X.here hx rfl (pc0 := 190) (pc' := 195) rfl (hb hby at_190) rfl (XT.ii_le_t (by decide)) (by decide) (by decide) k) ?_
  show Goes _ _ _ _ _ _ _ _ (T.setTop (mkF m 195 #[.val (.long x0), .second, .val (.int mode), .val (.int d0), .val (.ref pa), .val (.long v), .second, .val (.int (1 : Int32)), s8, s9] []))
  refine Goes.via (fun _ k => XS.iload X.here hx rfl (hb hby at_195) rfl k) ?_
  show Goes _ _ _ _ _ _ _ _ (T.setTop (mkF m 197 #[.val (.long x0), .second, .val (.int mode), .val (.int d0), .val (.ref pa), .val (.long v), .second, .val (.int (1 : Int32)), s8, s9] [(.int (1 : Int32))]))
  refine Goes.via (fun _ k => XT.iconstV X.here hx rfl (1 : Int32) (hb hby at_197) (by decide) k) ?_
  show Goes _ _ _ _ _ _ _ _ (T.setTop (mkF m 198 #[.val (.long x0), .second, .val (.int mode), .val (.int d0), .val (.ref pa), .val (.long v), .second, .val (.int (1 : Int32)), s8, s9] [(.int (1 : Int32)), (.int (1 : Int32))]))
  refine Goes.via (fun _ k => XS.icmpYes X.here hx rfl (pc0 := 198) (pc' := 214) rfl (hb hby at_198) rfl (XT.ii_eq_t (by decide)) (by decide) (by decide) k) ?_
  show Goes _ _ _ _ _ _ _ _ (T.setTop (mkF m 214 #[.val (.long x0), .second, .val (.int mode), .val (.int d0), .val (.ref pa), .val (.long v), .second, .val (.int (1 : Int32)), s8, s9] []))
  refine Goes.via (fun _ k => XT.iconstV X.here hx rfl (1 : Int32) (hb hby at_214) (by decide) k) ?_
  show Goes _ _ _ _ _ _ _ _ (T.setTop (mkF m 215 #[.val (.long x0), .second, .val (.int mode), .val (.int d0), .val (.ref pa), .val (.long v), .second, .val (.int (1 : Int32)), s8, s9] [(.int (1 : Int32))]))
  refine Goes.via (fun _ k => XS.goto X.here hx rfl (pc0 := 215) (pc' := 219) rfl (hb hby at_215) (by decide) (by decide) k) ?_
  show Goes _ _ _ _ _ _ _ _ (T.setTop (mkF m 219 #[.val (.long x0), .second, .val (.int mode), .val (.int d0), .val (.ref pa), .val (.long v), .second, .val (.int (1 : Int32)), s8, s9] [(.int (1 : Int32))]))
  refine Goes.via (fun _ k => XS.istore X.here hx rfl (hb hby at_219) rfl (l' := #[.val (.long x0), .second, .val (.int mode), .val (.int d0), .val (.ref pa), .val (.long v), .second, .val (.int (1 : Int32)), .val (.int (1 : Int32)), .unset]) (H8 _ _) k) ?_
  show Goes _ _ _ _ _ _ _ _ (T.setTop (mkF m 221 #[.val (.long x0), .second, .val (.int mode), .val (.int d0), .val (.ref pa), .val (.long v), .second, .val (.int (1 : Int32)), .val (.int (1 : Int32)), .unset] []))
  refine Goes.via (fun _ k => XS.iload X.here hx rfl (hb hby at_221) rfl k) ?_
  show Goes _ _ _ _ _ _ _ _ (T.setTop (mkF m 223 #[.val (.long x0), .second, .val (.int mode), .val (.int d0), .val (.ref pa), .val (.long v), .second, .val (.int (1 : Int32)), .val (.int (1 : Int32)), .unset] [(.int (1 : Int32))]))
  refine Goes.via (fun _ k => XT.bipushV X.here hx rfl (19 : Int32) (hb hby at_223) (by decide) k) ?_
  show Goes _ _ _ _ _ _ _ _ (T.setTop (mkF m 225 #[.val (.long x0), .second, .val (.int mode), .val (.int d0), .val (.ref pa), .val (.long v), .second, .val (.int (1 : Int32)), .val (.int (1 : Int32)), .unset] [(.int (19 : Int32)), (.int (1 : Int32))]))
  refine Goes.via (fun _ k => XS.icmpNo X.here hx rfl (hb hby at_225) rfl (XT.ii_eq_f (by decide)) k) ?_
  show Goes _ _ _ _ _ _ _ _ (T.setTop (mkF m 228 #[.val (.long x0), .second, .val (.int mode), .val (.int d0), .val (.ref pa), .val (.long v), .second, .val (.int (1 : Int32)), .val (.int (1 : Int32)), .unset] []))
  refine Goes.via (fun _ k => XT.lload X.here hx rfl (hb hby at_228) rfl k) ?_
  show Goes _ _ _ _ _ _ _ _ (T.setTop (mkF m 230 #[.val (.long x0), .second, .val (.int mode), .val (.int d0), .val (.ref pa), .val (.long v), .second, .val (.int (1 : Int32)), .val (.int (1 : Int32)), .unset] [(.long v)]))
  refine Goes.via (fun _ k => XS.aload X.here hx rfl (hb hby at_230) rfl rfl k) ?_
  show Goes _ _ _ _ _ _ _ _ (T.setTop (mkF m 232 #[.val (.long x0), .second, .val (.int mode), .val (.int d0), .val (.ref pa), .val (.long v), .second, .val (.int (1 : Int32)), .val (.int (1 : Int32)), .unset] [(.ref pa), (.long v)]))
  refine Goes.via (fun _ k => XS.iload X.here hx rfl (hb hby at_232) rfl k) ?_
  show Goes _ _ _ _ _ _ _ _ (T.setTop (mkF m 234 #[.val (.long x0), .second, .val (.int mode), .val (.int d0), .val (.ref pa), .val (.long v), .second, .val (.int (1 : Int32)), .val (.int (1 : Int32)), .unset] [(.int (1 : Int32)), (.ref pa), (.long v)]))
  obtain ⟨clq2, Arq2, qq2, Sq2, Nnq2, Hq2, Gq2⟩ := id pf0
  have hinq2 : ¬ ((1 : Int32) < 0 ∨ clq2.slots.size ≤ ((1 : Int32)).toNatClampNeg) := inb_of Sq2 ⟨by decide, by decide⟩
  refine Goes.via (X.laload hx (j := (1 : Int32)) (v := (.long (10 : Int64))) (by rw [e0]; exact Arq2.1) (State.isArrayOf_alike hZ.alike Arq2.2.1) Arq2.2.2 hinq2 (Hq2.at hinq2 rfl) (g := (mkF m 234 #[.val (.long x0), .second, .val (.int mode), .val (.int d0), .val (.ref pa), .val (.long v), .second, .val (.int (1 : Int32)), .val (.int (1 : Int32)), .unset] [(.int (1 : Int32)), (.ref pa), (.long v)])) rfl rfl (hb hby at_234)) ?_
  show Goes _ _ _ _ _ _ _ _ (T.setTop (mkF m 235 #[.val (.long x0), .second, .val (.int mode), .val (.int d0), .val (.ref pa), .val (.long v), .second, .val (.int (1 : Int32)), .val (.int (1 : Int32)), .unset] [(.long (10 : Int64)), (.long v)]))
  refine Goes.via (fun _ k => XT.lcmp X.here hx rfl (hb hby at_235) rfl k) ?_
  show Goes _ _ _ _ _ _ _ _ (T.setTop (mkF m 236 #[.val (.long x0), .second, .val (.int mode), .val (.int d0), .val (.ref pa), .val (.long v), .second, .val (.int (1 : Int32)), .val (.int (1 : Int32)), .unset] [(.int (XT.cmpL v (10 : Int64)))]))
  refine Goes.via (fun _ k => XS.ifNo X.here hx rfl (hb hby at_236) rfl (XT.ll_ge_f hi7) k) ?_
  show Goes _ _ _ _ _ _ _ _ (T.setTop (mkF m 239 #[.val (.long x0), .second, .val (.int mode), .val (.int d0), .val (.ref pa), .val (.long v), .second, .val (.int (1 : Int32)), .val (.int (1 : Int32)), .unset] []))
  refine Goes.via (fun _ k => XT.iconstV X.here hx rfl (1 : Int32) (hb hby at_239) (by decide) k) ?_
  show Goes _ _ _ _ _ _ _ _ (T.setTop (mkF m 240 #[.val (.long x0), .second, .val (.int mode), .val (.int d0), .val (.ref pa), .val (.long v), .second, .val (.int (1 : Int32)), .val (.int (1 : Int32)), .unset] [(.int (1 : Int32))]))
  refine Goes.via (fun _ k => XS.goto X.here hx rfl (pc0 := 240) (pc' := 244) rfl (hb hby at_240) (by decide) (by decide) k) ?_
  show Goes _ _ _ _ _ _ _ _ (T.setTop (mkF m 244 #[.val (.long x0), .second, .val (.int mode), .val (.int d0), .val (.ref pa), .val (.long v), .second, .val (.int (1 : Int32)), .val (.int (1 : Int32)), .unset] [(.int (1 : Int32))]))
  refine Goes.via (fun _ k => XS.istore X.here hx rfl (hb hby at_244) rfl (l' := #[.val (.long x0), .second, .val (.int mode), .val (.int d0), .val (.ref pa), .val (.long v), .second, .val (.int (1 : Int32)), .val (.int (1 : Int32)), .val (.int (1 : Int32))]) rfl k) ?_
  show Goes _ _ _ _ _ _ _ _ (T.setTop (mkF m 246 #[.val (.long x0), .second, .val (.int mode), .val (.int d0), .val (.ref pa), .val (.long v), .second, .val (.int (1 : Int32)), .val (.int (1 : Int32)), .val (.int (1 : Int32))] []))
  refine Goes.via (fun _ k => XS.iload X.here hx rfl (hb hby at_246) rfl k) ?_
  show Goes _ _ _ _ _ _ _ _ (T.setTop (mkF m 248 #[.val (.long x0), .second, .val (.int mode), .val (.int d0), .val (.ref pa), .val (.long v), .second, .val (.int (1 : Int32)), .val (.int (1 : Int32)), .val (.int (1 : Int32))] [(.int (1 : Int32))]))
  refine Goes.via (fun _ k => XS.ifNo X.here hx rfl (hb hby at_248) rfl (XT.i0_eq_f (by decide)) k) ?_
  show Goes _ _ _ _ _ _ _ _ (T.setTop (mkF m 251 #[.val (.long x0), .second, .val (.int mode), .val (.int d0), .val (.ref pa), .val (.long v), .second, .val (.int (1 : Int32)), .val (.int (1 : Int32)), .val (.int (1 : Int32))] []))
  refine Goes.via (fun _ k => XS.iload X.here hx rfl (hb hby at_251) rfl k) ?_
  show Goes _ _ _ _ _ _ _ _ (T.setTop (mkF m 253 #[.val (.long x0), .second, .val (.int mode), .val (.int d0), .val (.ref pa), .val (.long v), .second, .val (.int (1 : Int32)), .val (.int (1 : Int32)), .val (.int (1 : Int32))] [(.int (1 : Int32))]))
  refine Goes.via (fun _ k => XS.ifNo X.here hx rfl (hb hby at_253) rfl (XT.i0_eq_f (by decide)) k) ?_
  show Goes _ _ _ _ _ _ _ _ (T.setTop (mkF m 256 #[.val (.long x0), .second, .val (.int mode), .val (.int d0), .val (.ref pa), .val (.long v), .second, .val (.int (1 : Int32)), .val (.int (1 : Int32)), .val (.int (1 : Int32))] []))
  refine Goes.via (fun _ k => XT.iconstV X.here hx rfl (1 : Int32) (hb hby at_256) (by decide) k) ?_
  show Goes _ _ _ _ _ _ _ _ (T.setTop (mkF m 257 #[.val (.long x0), .second, .val (.int mode), .val (.int d0), .val (.ref pa), .val (.long v), .second, .val (.int (1 : Int32)), .val (.int (1 : Int32)), .val (.int (1 : Int32))] [(.int (1 : Int32))]))
  refine Goes.via (fun _ k => XS.goto X.here hx rfl (pc0 := 257) (pc' := 261) rfl (hb hby at_257) (by decide) (by decide) k) ?_
  show Goes _ _ _ _ _ _ _ _ (T.setTop (mkF m 261 #[.val (.long x0), .second, .val (.int mode), .val (.int d0), .val (.ref pa), .val (.long v), .second, .val (.int (1 : Int32)), .val (.int (1 : Int32)), .val (.int (1 : Int32))] [(.int (1 : Int32))]))
  refine goRetN X hx hrt (by simp) hlk N (by show _ ≤ 16; omega) (by show _ ≤ 128; omega) (hb hby at_261) ?_
  try rw [e0]
  exact rfl
set_option maxRecDepth 65536 in
set_option maxHeartbeats 40000000 in
theorem law_c20 (l : Launch) (Z : State) (aw : Array Value) (hw : ∀ d ∈ tables_1, d.before aw Z = true) (x0 : Int64) (mode : Int32) (d0 : Int32) (ar : Nat) (k0 : ClassId) (pa : Nat) (ka : ClassId) (v : Int64) (s7 : Slot) (s8 : Slot) (s9 : Slot) {p : Program} {e : Env} {s : State} {m : MethodId} {args : Array Value} {below : List Frame} {meth : Method} {c : Code} {T : State} {locs : List Loc} {cells slots n0 : Nat} {h1 : Heap} (hx : p.tables.exec = Jvm.exec) (hby : c.code = code) (hml : c.maxLocals = 10) (hrt : meth.sig.returnType = some .boolean) (hlk : meth.locks = false) (hnm : meth.name = "law") (hZ : Z.Warmed39 s.vm) (hown : s.vm.findClass "com/example/primevertical/primevertical/DecimalTextDigitCountPinLaw" = some m.cls) (X : Stand p l e room_1 s m args below meth c T locs cells slots) (e0 : T.heap = h1) (N : Fr n0 locs) (hcells : cells ≤ 1) (hslots : slots ≤ 19) (O : Old Z n0 h1) (S0 : Sta Z Z.heap "com/example/primevertical/primevertical/DecimalText" "LONG_POWERS_OF_TEN" "[J" (.ref ar)) (V0 : Arv Z Z.heap ar k0 .long (19 : Int32) PW (.long (0 : Int64))) (pf0 : Arv Z h1 pa ka .long (19 : Int32) PW (.long (0 : Int64))) (h_s7 : One s7) (H8 : ∀ z7 z8 : Int32, storeLocals #[.val (.long x0), .second, .val (.int mode), .val (.int d0), .val (.ref pa), .val (.long v), .second, .val (.int z7), s8, s9] 8 (.int z8) = some #[.val (.long x0), .second, .val (.int mode), .val (.int d0), .val (.ref pa), .val (.long v), .second, .val (.int z7), .val (.int z8), .unset]) (lo7 : ¬ v < (10 : Int64)) (hi7 : v < (100 : Int64)) :
    Goes p e below s room_1.cells room_1.slots n0 (fun vv hh => vv = some (.int (1 : Int32))) (T.setTop (mkF m 178 #[.val (.long x0), .second, .val (.int mode), .val (.int d0), .val (.ref pa), .val (.long v), .second, s7, s8, s9] [(.int (2 : Int32))])) := by
  have zO := O.le
  have lt_pa := lt_nat pf0.lt
  show Goes _ _ _ _ _ _ _ _ (T.setTop (mkF m 178 #[.val (.long x0), .second, .val (.int mode), .val (.int d0), .val (.ref pa), .val (.long v), .second, s7, s8, s9] [(.int (2 : Int32))]))
  refine Goes.via (fun _ k => XS.istore X.here hx rfl (hb hby at_178) rfl (l' := #[.val (.long x0), .second, .val (.int mode), .val (.int d0), .val (.ref pa), .val (.long v), .second, .val (.int (2 : Int32)), s8, s9]) (XS.store1 rfl h_s7 rfl) k) ?_
  show Goes _ _ _ _ _ _ _ _ (T.setTop (mkF m 180 #[.val (.long x0), .second, .val (.int mode), .val (.int d0), .val (.ref pa), .val (.long v), .second, .val (.int (2 : Int32)), s8, s9] []))
  refine Goes.via (fun _ k => XS.iload X.here hx rfl (hb hby at_180) rfl k) ?_
  show Goes _ _ _ _ _ _ _ _ (T.setTop (mkF m 182 #[.val (.long x0), .second, .val (.int mode), .val (.int d0), .val (.ref pa), .val (.long v), .second, .val (.int (2 : Int32)), s8, s9] [(.int (2 : Int32))]))
  refine Goes.via (fun _ k => XT.iconstV X.here hx rfl (1 : Int32) (hb hby at_182) (by decide) k) ?_
  show Goes _ _ _ _ _ _ _ _ (T.setTop (mkF m 183 #[.val (.long x0), .second, .val (.int mode), .val (.int d0), .val (.ref pa), .val (.long v), .second, .val (.int (2 : Int32)), s8, s9] [(.int (1 : Int32)), (.int (2 : Int32))]))
  refine Goes.via (fun _ k => XS.icmpNo X.here hx rfl (hb hby at_183) rfl (XT.ii_lt_f (by decide)) k) ?_
  show Goes _ _ _ _ _ _ _ _ (T.setTop (mkF m 186 #[.val (.long x0), .second, .val (.int mode), .val (.int d0), .val (.ref pa), .val (.long v), .second, .val (.int (2 : Int32)), s8, s9] []))
  refine Goes.via (fun _ k => XS.iload X.here hx rfl (hb hby at_186) rfl k) ?_
  show Goes _ _ _ _ _ _ _ _ (T.setTop (mkF m 188 #[.val (.long x0), .second, .val (.int mode), .val (.int d0), .val (.ref pa), .val (.long v), .second, .val (.int (2 : Int32)), s8, s9] [(.int (2 : Int32))]))
  refine Goes.via (fun _ k => XT.bipushV X.here hx rfl (19 : Int32) (hb hby at_188) (by decide) k) ?_
  show Goes _ _ _ _ _ _ _ _ (T.setTop (mkF m 190 #[.val (.long x0), .second, .val (.int mode), .val (.int d0), .val (.ref pa), .val (.long v), .second, .val (.int (2 : Int32)), s8, s9] [(.int (19 : Int32)), (.int (2 : Int32))]))
  refine Goes.via (fun _ k => XS.icmpYes X.here hx rfl (pc0 := 190) (pc' := 195) rfl (hb hby at_190) rfl (XT.ii_le_t (by decide)) (by decide) (by decide) k) ?_
  show Goes _ _ _ _ _ _ _ _ (T.setTop (mkF m 195 #[.val (.long x0), .second, .val (.int mode), .val (.int d0), .val (.ref pa), .val (.long v), .second, .val (.int (2 : Int32)), s8, s9] []))
  refine Goes.via (fun _ k => XS.iload X.here hx rfl (hb hby at_195) rfl k) ?_
  show Goes _ _ _ _ _ _ _ _ (T.setTop (mkF m 197 #[.val (.long x0), .second, .val (.int mode), .val (.int d0), .val (.ref pa), .val (.long v), .second, .val (.int (2 : Int32)), s8, s9] [(.int (2 : Int32))]))
  refine Goes.via (fun _ k => XT.iconstV X.here hx rfl (1 : Int32) (hb hby at_197) (by decide) k) ?_
  show Goes _ _ _ _ _ _ _ _ (T.setTop (mkF m 198 #[.val (.long x0), .second, .val (.int mode), .val (.int d0), .val (.ref pa), .val (.long v), .second, .val (.int (2 : Int32)), s8, s9] [(.int (1 : Int32)), (.int (2 : Int32))]))
  refine Goes.via (fun _ k => XS.icmpNo X.here hx rfl (hb hby at_198) rfl (XT.ii_eq_f (by decide)) k) ?_
  show Goes _ _ _ _ _ _ _ _ (T.setTop (mkF m 201 #[.val (.long x0), .second, .val (.int mode), .val (.int d0), .val (.ref pa), .val (.long v), .second, .val (.int (2 : Int32)), s8, s9] []))
  refine Goes.via (fun _ k => XT.lload X.here hx rfl (hb hby at_201) rfl k) ?_
  show Goes _ _ _ _ _ _ _ _ (T.setTop (mkF m 203 #[.val (.long x0), .second, .val (.int mode), .val (.int d0), .val (.ref pa), .val (.long v), .second, .val (.int (2 : Int32)), s8, s9] [(.long v)]))
  refine Goes.via (fun _ k => XS.aload X.here hx rfl (hb hby at_203) rfl rfl k) ?_
  show Goes _ _ _ _ _ _ _ _ (T.setTop (mkF m 205 #[.val (.long x0), .second, .val (.int mode), .val (.int d0), .val (.ref pa), .val (.long v), .second, .val (.int (2 : Int32)), s8, s9] [(.ref pa), (.long v)]))
  refine Goes.via (fun _ k => XS.iload X.here hx rfl (hb hby at_205) rfl k) ?_
  show Goes _ _ _ _ _ _ _ _ (T.setTop (mkF m 207 #[.val (.long x0), .second, .val (.int mode), .val (.int d0), .val (.ref pa), .val (.long v), .second, .val (.int (2 : Int32)), s8, s9] [(.int (2 : Int32)), (.ref pa), (.long v)]))
  refine Goes.via (fun _ k => XT.iconstV X.here hx rfl (1 : Int32) (hb hby at_207) (by decide) k) ?_
  show Goes _ _ _ _ _ _ _ _ (T.setTop (mkF m 208 #[.val (.long x0), .second, .val (.int mode), .val (.int d0), .val (.ref pa), .val (.long v), .second, .val (.int (2 : Int32)), s8, s9] [(.int (1 : Int32)), (.int (2 : Int32)), (.ref pa), (.long v)]))
  refine Goes.via (fun _ k => XS.isub X.here hx rfl (hb hby at_208) rfl k) ?_
  rw [show ((2 : Int32) - (1 : Int32)) = (1 : Int32) from by decide]
  show Goes _ _ _ _ _ _ _ _ (T.setTop (mkF m 209 #[.val (.long x0), .second, .val (.int mode), .val (.int d0), .val (.ref pa), .val (.long v), .second, .val (.int (2 : Int32)), s8, s9] [(.int (1 : Int32)), (.ref pa), (.long v)]))
  obtain ⟨clq2, Arq2, qq2, Sq2, Nnq2, Hq2, Gq2⟩ := id pf0
  have hinq2 : ¬ ((1 : Int32) < 0 ∨ clq2.slots.size ≤ ((1 : Int32)).toNatClampNeg) := inb_of Sq2 ⟨by decide, by decide⟩
  refine Goes.via (X.laload hx (j := (1 : Int32)) (v := (.long (10 : Int64))) (by rw [e0]; exact Arq2.1) (State.isArrayOf_alike hZ.alike Arq2.2.1) Arq2.2.2 hinq2 (Hq2.at hinq2 rfl) (g := (mkF m 209 #[.val (.long x0), .second, .val (.int mode), .val (.int d0), .val (.ref pa), .val (.long v), .second, .val (.int (2 : Int32)), s8, s9] [(.int (1 : Int32)), (.ref pa), (.long v)])) rfl rfl (hb hby at_209)) ?_
  show Goes _ _ _ _ _ _ _ _ (T.setTop (mkF m 210 #[.val (.long x0), .second, .val (.int mode), .val (.int d0), .val (.ref pa), .val (.long v), .second, .val (.int (2 : Int32)), s8, s9] [(.long (10 : Int64)), (.long v)]))
  refine Goes.via (fun _ k => XT.lcmp X.here hx rfl (hb hby at_210) rfl k) ?_
  show Goes _ _ _ _ _ _ _ _ (T.setTop (mkF m 211 #[.val (.long x0), .second, .val (.int mode), .val (.int d0), .val (.ref pa), .val (.long v), .second, .val (.int (2 : Int32)), s8, s9] [(.int (XT.cmpL v (10 : Int64)))]))
  refine Goes.via (fun _ k => XS.ifNo X.here hx rfl (hb hby at_211) rfl (XT.ll_lt_f lo7) k) ?_
  show Goes _ _ _ _ _ _ _ _ (T.setTop (mkF m 214 #[.val (.long x0), .second, .val (.int mode), .val (.int d0), .val (.ref pa), .val (.long v), .second, .val (.int (2 : Int32)), s8, s9] []))
  refine Goes.via (fun _ k => XT.iconstV X.here hx rfl (1 : Int32) (hb hby at_214) (by decide) k) ?_
  show Goes _ _ _ _ _ _ _ _ (T.setTop (mkF m 215 #[.val (.long x0), .second, .val (.int mode), .val (.int d0), .val (.ref pa), .val (.long v), .second, .val (.int (2 : Int32)), s8, s9] [(.int (1 : Int32))]))
  refine Goes.via (fun _ k => XS.goto X.here hx rfl (pc0 := 215) (pc' := 219) rfl (hb hby at_215) (by decide) (by decide) k) ?_
  show Goes _ _ _ _ _ _ _ _ (T.setTop (mkF m 219 #[.val (.long x0), .second, .val (.int mode), .val (.int d0), .val (.ref pa), .val (.long v), .second, .val (.int (2 : Int32)), s8, s9] [(.int (1 : Int32))]))
  refine Goes.via (fun _ k => XS.istore X.here hx rfl (hb hby at_219) rfl (l' := #[.val (.long x0), .second, .val (.int mode), .val (.int d0), .val (.ref pa), .val (.long v), .second, .val (.int (2 : Int32)), .val (.int (1 : Int32)), .unset]) (H8 _ _) k) ?_
  show Goes _ _ _ _ _ _ _ _ (T.setTop (mkF m 221 #[.val (.long x0), .second, .val (.int mode), .val (.int d0), .val (.ref pa), .val (.long v), .second, .val (.int (2 : Int32)), .val (.int (1 : Int32)), .unset] []))
  refine Goes.via (fun _ k => XS.iload X.here hx rfl (hb hby at_221) rfl k) ?_
  show Goes _ _ _ _ _ _ _ _ (T.setTop (mkF m 223 #[.val (.long x0), .second, .val (.int mode), .val (.int d0), .val (.ref pa), .val (.long v), .second, .val (.int (2 : Int32)), .val (.int (1 : Int32)), .unset] [(.int (2 : Int32))]))
  refine Goes.via (fun _ k => XT.bipushV X.here hx rfl (19 : Int32) (hb hby at_223) (by decide) k) ?_
  show Goes _ _ _ _ _ _ _ _ (T.setTop (mkF m 225 #[.val (.long x0), .second, .val (.int mode), .val (.int d0), .val (.ref pa), .val (.long v), .second, .val (.int (2 : Int32)), .val (.int (1 : Int32)), .unset] [(.int (19 : Int32)), (.int (2 : Int32))]))
  refine Goes.via (fun _ k => XS.icmpNo X.here hx rfl (hb hby at_225) rfl (XT.ii_eq_f (by decide)) k) ?_
  show Goes _ _ _ _ _ _ _ _ (T.setTop (mkF m 228 #[.val (.long x0), .second, .val (.int mode), .val (.int d0), .val (.ref pa), .val (.long v), .second, .val (.int (2 : Int32)), .val (.int (1 : Int32)), .unset] []))
  refine Goes.via (fun _ k => XT.lload X.here hx rfl (hb hby at_228) rfl k) ?_
  show Goes _ _ _ _ _ _ _ _ (T.setTop (mkF m 230 #[.val (.long x0), .second, .val (.int mode), .val (.int d0), .val (.ref pa), .val (.long v), .second, .val (.int (2 : Int32)), .val (.int (1 : Int32)), .unset] [(.long v)]))
  refine Goes.via (fun _ k => XS.aload X.here hx rfl (hb hby at_230) rfl rfl k) ?_
  show Goes _ _ _ _ _ _ _ _ (T.setTop (mkF m 232 #[.val (.long x0), .second, .val (.int mode), .val (.int d0), .val (.ref pa), .val (.long v), .second, .val (.int (2 : Int32)), .val (.int (1 : Int32)), .unset] [(.ref pa), (.long v)]))
  refine Goes.via (fun _ k => XS.iload X.here hx rfl (hb hby at_232) rfl k) ?_
  show Goes _ _ _ _ _ _ _ _ (T.setTop (mkF m 234 #[.val (.long x0), .second, .val (.int mode), .val (.int d0), .val (.ref pa), .val (.long v), .second, .val (.int (2 : Int32)), .val (.int (1 : Int32)), .unset] [(.int (2 : Int32)), (.ref pa), (.long v)]))
  obtain ⟨clq3, Arq3, qq3, Sq3, Nnq3, Hq3, Gq3⟩ := id pf0
  have hinq3 : ¬ ((2 : Int32) < 0 ∨ clq3.slots.size ≤ ((2 : Int32)).toNatClampNeg) := inb_of Sq3 ⟨by decide, by decide⟩
  refine Goes.via (X.laload hx (j := (2 : Int32)) (v := (.long (100 : Int64))) (by rw [e0]; exact Arq3.1) (State.isArrayOf_alike hZ.alike Arq3.2.1) Arq3.2.2 hinq3 (Hq3.at hinq3 rfl) (g := (mkF m 234 #[.val (.long x0), .second, .val (.int mode), .val (.int d0), .val (.ref pa), .val (.long v), .second, .val (.int (2 : Int32)), .val (.int (1 : Int32)), .unset] [(.int (2 : Int32)), (.ref pa), (.long v)])) rfl rfl (hb hby at_234)) ?_
  show Goes _ _ _ _ _ _ _ _ (T.setTop (mkF m 235 #[.val (.long x0), .second, .val (.int mode), .val (.int d0), .val (.ref pa), .val (.long v), .second, .val (.int (2 : Int32)), .val (.int (1 : Int32)), .unset] [(.long (100 : Int64)), (.long v)]))
  refine Goes.via (fun _ k => XT.lcmp X.here hx rfl (hb hby at_235) rfl k) ?_
  show Goes _ _ _ _ _ _ _ _ (T.setTop (mkF m 236 #[.val (.long x0), .second, .val (.int mode), .val (.int d0), .val (.ref pa), .val (.long v), .second, .val (.int (2 : Int32)), .val (.int (1 : Int32)), .unset] [(.int (XT.cmpL v (100 : Int64)))]))
  refine Goes.via (fun _ k => XS.ifNo X.here hx rfl (hb hby at_236) rfl (XT.ll_ge_f hi7) k) ?_
  show Goes _ _ _ _ _ _ _ _ (T.setTop (mkF m 239 #[.val (.long x0), .second, .val (.int mode), .val (.int d0), .val (.ref pa), .val (.long v), .second, .val (.int (2 : Int32)), .val (.int (1 : Int32)), .unset] []))
  refine Goes.via (fun _ k => XT.iconstV X.here hx rfl (1 : Int32) (hb hby at_239) (by decide) k) ?_
  show Goes _ _ _ _ _ _ _ _ (T.setTop (mkF m 240 #[.val (.long x0), .second, .val (.int mode), .val (.int d0), .val (.ref pa), .val (.long v), .second, .val (.int (2 : Int32)), .val (.int (1 : Int32)), .unset] [(.int (1 : Int32))]))
  refine Goes.via (fun _ k => XS.goto X.here hx rfl (pc0 := 240) (pc' := 244) rfl (hb hby at_240) (by decide) (by decide) k) ?_
  show Goes _ _ _ _ _ _ _ _ (T.setTop (mkF m 244 #[.val (.long x0), .second, .val (.int mode), .val (.int d0), .val (.ref pa), .val (.long v), .second, .val (.int (2 : Int32)), .val (.int (1 : Int32)), .unset] [(.int (1 : Int32))]))
  refine Goes.via (fun _ k => XS.istore X.here hx rfl (hb hby at_244) rfl (l' := #[.val (.long x0), .second, .val (.int mode), .val (.int d0), .val (.ref pa), .val (.long v), .second, .val (.int (2 : Int32)), .val (.int (1 : Int32)), .val (.int (1 : Int32))]) rfl k) ?_
  show Goes _ _ _ _ _ _ _ _ (T.setTop (mkF m 246 #[.val (.long x0), .second, .val (.int mode), .val (.int d0), .val (.ref pa), .val (.long v), .second, .val (.int (2 : Int32)), .val (.int (1 : Int32)), .val (.int (1 : Int32))] []))
  refine Goes.via (fun _ k => XS.iload X.here hx rfl (hb hby at_246) rfl k) ?_
  show Goes _ _ _ _ _ _ _ _ (T.setTop (mkF m 248 #[.val (.long x0), .second, .val (.int mode), .val (.int d0), .val (.ref pa), .val (.long v), .second, .val (.int (2 : Int32)), .val (.int (1 : Int32)), .val (.int (1 : Int32))] [(.int (1 : Int32))]))
  refine Goes.via (fun _ k => XS.ifNo X.here hx rfl (hb hby at_248) rfl (XT.i0_eq_f (by decide)) k) ?_
  show Goes _ _ _ _ _ _ _ _ (T.setTop (mkF m 251 #[.val (.long x0), .second, .val (.int mode), .val (.int d0), .val (.ref pa), .val (.long v), .second, .val (.int (2 : Int32)), .val (.int (1 : Int32)), .val (.int (1 : Int32))] []))
  refine Goes.via (fun _ k => XS.iload X.here hx rfl (hb hby at_251) rfl k) ?_
  show Goes _ _ _ _ _ _ _ _ (T.setTop (mkF m 253 #[.val (.long x0), .second, .val (.int mode), .val (.int d0), .val (.ref pa), .val (.long v), .second, .val (.int (2 : Int32)), .val (.int (1 : Int32)), .val (.int (1 : Int32))] [(.int (1 : Int32))]))
  refine Goes.via (fun _ k => XS.ifNo X.here hx rfl (hb hby at_253) rfl (XT.i0_eq_f (by decide)) k) ?_
  show Goes _ _ _ _ _ _ _ _ (T.setTop (mkF m 256 #[.val (.long x0), .second, .val (.int mode), .val (.int d0), .val (.ref pa), .val (.long v), .second, .val (.int (2 : Int32)), .val (.int (1 : Int32)), .val (.int (1 : Int32))] []))
  refine Goes.via (fun _ k => XT.iconstV X.here hx rfl (1 : Int32) (hb hby at_256) (by decide) k) ?_
  show Goes _ _ _ _ _ _ _ _ (T.setTop (mkF m 257 #[.val (.long x0), .second, .val (.int mode), .val (.int d0), .val (.ref pa), .val (.long v), .second, .val (.int (2 : Int32)), .val (.int (1 : Int32)), .val (.int (1 : Int32))] [(.int (1 : Int32))]))
  refine Goes.via (fun _ k => XS.goto X.here hx rfl (pc0 := 257) (pc' := 261) rfl (hb hby at_257) (by decide) (by decide) k) ?_
  show Goes _ _ _ _ _ _ _ _ (T.setTop (mkF m 261 #[.val (.long x0), .second, .val (.int mode), .val (.int d0), .val (.ref pa), .val (.long v), .second, .val (.int (2 : Int32)), .val (.int (1 : Int32)), .val (.int (1 : Int32))] [(.int (1 : Int32))]))
  refine goRetN X hx hrt (by simp) hlk N (by show _ ≤ 16; omega) (by show _ ≤ 128; omega) (hb hby at_261) ?_
  try rw [e0]
  exact rfl
set_option maxRecDepth 65536 in
set_option maxHeartbeats 40000000 in
theorem law_c21 (l : Launch) (Z : State) (aw : Array Value) (hw : ∀ d ∈ tables_1, d.before aw Z = true) (x0 : Int64) (mode : Int32) (d0 : Int32) (ar : Nat) (k0 : ClassId) (pa : Nat) (ka : ClassId) (v : Int64) (s7 : Slot) (s8 : Slot) (s9 : Slot) {p : Program} {e : Env} {s : State} {m : MethodId} {args : Array Value} {below : List Frame} {meth : Method} {c : Code} {T : State} {locs : List Loc} {cells slots n0 : Nat} {h1 : Heap} (hx : p.tables.exec = Jvm.exec) (hby : c.code = code) (hml : c.maxLocals = 10) (hrt : meth.sig.returnType = some .boolean) (hlk : meth.locks = false) (hnm : meth.name = "law") (hZ : Z.Warmed39 s.vm) (hown : s.vm.findClass "com/example/primevertical/primevertical/DecimalTextDigitCountPinLaw" = some m.cls) (X : Stand p l e room_1 s m args below meth c T locs cells slots) (e0 : T.heap = h1) (N : Fr n0 locs) (hcells : cells ≤ 1) (hslots : slots ≤ 19) (O : Old Z n0 h1) (S0 : Sta Z Z.heap "com/example/primevertical/primevertical/DecimalText" "LONG_POWERS_OF_TEN" "[J" (.ref ar)) (V0 : Arv Z Z.heap ar k0 .long (19 : Int32) PW (.long (0 : Int64))) (pf0 : Arv Z h1 pa ka .long (19 : Int32) PW (.long (0 : Int64))) (h_s7 : One s7) (H8 : ∀ z7 z8 : Int32, storeLocals #[.val (.long x0), .second, .val (.int mode), .val (.int d0), .val (.ref pa), .val (.long v), .second, .val (.int z7), s8, s9] 8 (.int z8) = some #[.val (.long x0), .second, .val (.int mode), .val (.int d0), .val (.ref pa), .val (.long v), .second, .val (.int z7), .val (.int z8), .unset]) (lo7 : ¬ v < (100 : Int64)) (hi7 : v < (1000 : Int64)) :
    Goes p e below s room_1.cells room_1.slots n0 (fun vv hh => vv = some (.int (1 : Int32))) (T.setTop (mkF m 178 #[.val (.long x0), .second, .val (.int mode), .val (.int d0), .val (.ref pa), .val (.long v), .second, s7, s8, s9] [(.int (3 : Int32))])) := by
  have zO := O.le
  have lt_pa := lt_nat pf0.lt
  show Goes _ _ _ _ _ _ _ _ (T.setTop (mkF m 178 #[.val (.long x0), .second, .val (.int mode), .val (.int d0), .val (.ref pa), .val (.long v), .second, s7, s8, s9] [(.int (3 : Int32))]))
  refine Goes.via (fun _ k => XS.istore X.here hx rfl (hb hby at_178) rfl (l' := #[.val (.long x0), .second, .val (.int mode), .val (.int d0), .val (.ref pa), .val (.long v), .second, .val (.int (3 : Int32)), s8, s9]) (XS.store1 rfl h_s7 rfl) k) ?_
  show Goes _ _ _ _ _ _ _ _ (T.setTop (mkF m 180 #[.val (.long x0), .second, .val (.int mode), .val (.int d0), .val (.ref pa), .val (.long v), .second, .val (.int (3 : Int32)), s8, s9] []))
  refine Goes.via (fun _ k => XS.iload X.here hx rfl (hb hby at_180) rfl k) ?_
  show Goes _ _ _ _ _ _ _ _ (T.setTop (mkF m 182 #[.val (.long x0), .second, .val (.int mode), .val (.int d0), .val (.ref pa), .val (.long v), .second, .val (.int (3 : Int32)), s8, s9] [(.int (3 : Int32))]))
  refine Goes.via (fun _ k => XT.iconstV X.here hx rfl (1 : Int32) (hb hby at_182) (by decide) k) ?_
  show Goes _ _ _ _ _ _ _ _ (T.setTop (mkF m 183 #[.val (.long x0), .second, .val (.int mode), .val (.int d0), .val (.ref pa), .val (.long v), .second, .val (.int (3 : Int32)), s8, s9] [(.int (1 : Int32)), (.int (3 : Int32))]))
  refine Goes.via (fun _ k => XS.icmpNo X.here hx rfl (hb hby at_183) rfl (XT.ii_lt_f (by decide)) k) ?_
  show Goes _ _ _ _ _ _ _ _ (T.setTop (mkF m 186 #[.val (.long x0), .second, .val (.int mode), .val (.int d0), .val (.ref pa), .val (.long v), .second, .val (.int (3 : Int32)), s8, s9] []))
  refine Goes.via (fun _ k => XS.iload X.here hx rfl (hb hby at_186) rfl k) ?_
  show Goes _ _ _ _ _ _ _ _ (T.setTop (mkF m 188 #[.val (.long x0), .second, .val (.int mode), .val (.int d0), .val (.ref pa), .val (.long v), .second, .val (.int (3 : Int32)), s8, s9] [(.int (3 : Int32))]))
  refine Goes.via (fun _ k => XT.bipushV X.here hx rfl (19 : Int32) (hb hby at_188) (by decide) k) ?_
  show Goes _ _ _ _ _ _ _ _ (T.setTop (mkF m 190 #[.val (.long x0), .second, .val (.int mode), .val (.int d0), .val (.ref pa), .val (.long v), .second, .val (.int (3 : Int32)), s8, s9] [(.int (19 : Int32)), (.int (3 : Int32))]))
  refine Goes.via (fun _ k => XS.icmpYes X.here hx rfl (pc0 := 190) (pc' := 195) rfl (hb hby at_190) rfl (XT.ii_le_t (by decide)) (by decide) (by decide) k) ?_
  show Goes _ _ _ _ _ _ _ _ (T.setTop (mkF m 195 #[.val (.long x0), .second, .val (.int mode), .val (.int d0), .val (.ref pa), .val (.long v), .second, .val (.int (3 : Int32)), s8, s9] []))
  refine Goes.via (fun _ k => XS.iload X.here hx rfl (hb hby at_195) rfl k) ?_
  show Goes _ _ _ _ _ _ _ _ (T.setTop (mkF m 197 #[.val (.long x0), .second, .val (.int mode), .val (.int d0), .val (.ref pa), .val (.long v), .second, .val (.int (3 : Int32)), s8, s9] [(.int (3 : Int32))]))
  refine Goes.via (fun _ k => XT.iconstV X.here hx rfl (1 : Int32) (hb hby at_197) (by decide) k) ?_
  show Goes _ _ _ _ _ _ _ _ (T.setTop (mkF m 198 #[.val (.long x0), .second, .val (.int mode), .val (.int d0), .val (.ref pa), .val (.long v), .second, .val (.int (3 : Int32)), s8, s9] [(.int (1 : Int32)), (.int (3 : Int32))]))
  refine Goes.via (fun _ k => XS.icmpNo X.here hx rfl (hb hby at_198) rfl (XT.ii_eq_f (by decide)) k) ?_
  show Goes _ _ _ _ _ _ _ _ (T.setTop (mkF m 201 #[.val (.long x0), .second, .val (.int mode), .val (.int d0), .val (.ref pa), .val (.long v), .second, .val (.int (3 : Int32)), s8, s9] []))
  refine Goes.via (fun _ k => XT.lload X.here hx rfl (hb hby at_201) rfl k) ?_
  show Goes _ _ _ _ _ _ _ _ (T.setTop (mkF m 203 #[.val (.long x0), .second, .val (.int mode), .val (.int d0), .val (.ref pa), .val (.long v), .second, .val (.int (3 : Int32)), s8, s9] [(.long v)]))
  refine Goes.via (fun _ k => XS.aload X.here hx rfl (hb hby at_203) rfl rfl k) ?_
  show Goes _ _ _ _ _ _ _ _ (T.setTop (mkF m 205 #[.val (.long x0), .second, .val (.int mode), .val (.int d0), .val (.ref pa), .val (.long v), .second, .val (.int (3 : Int32)), s8, s9] [(.ref pa), (.long v)]))
  refine Goes.via (fun _ k => XS.iload X.here hx rfl (hb hby at_205) rfl k) ?_
  show Goes _ _ _ _ _ _ _ _ (T.setTop (mkF m 207 #[.val (.long x0), .second, .val (.int mode), .val (.int d0), .val (.ref pa), .val (.long v), .second, .val (.int (3 : Int32)), s8, s9] [(.int (3 : Int32)), (.ref pa), (.long v)]))
  refine Goes.via (fun _ k => XT.iconstV X.here hx rfl (1 : Int32) (hb hby at_207) (by decide) k) ?_
  show Goes _ _ _ _ _ _ _ _ (T.setTop (mkF m 208 #[.val (.long x0), .second, .val (.int mode), .val (.int d0), .val (.ref pa), .val (.long v), .second, .val (.int (3 : Int32)), s8, s9] [(.int (1 : Int32)), (.int (3 : Int32)), (.ref pa), (.long v)]))
  refine Goes.via (fun _ k => XS.isub X.here hx rfl (hb hby at_208) rfl k) ?_
  rw [show ((3 : Int32) - (1 : Int32)) = (2 : Int32) from by decide]
  show Goes _ _ _ _ _ _ _ _ (T.setTop (mkF m 209 #[.val (.long x0), .second, .val (.int mode), .val (.int d0), .val (.ref pa), .val (.long v), .second, .val (.int (3 : Int32)), s8, s9] [(.int (2 : Int32)), (.ref pa), (.long v)]))
  obtain ⟨clq2, Arq2, qq2, Sq2, Nnq2, Hq2, Gq2⟩ := id pf0
  have hinq2 : ¬ ((2 : Int32) < 0 ∨ clq2.slots.size ≤ ((2 : Int32)).toNatClampNeg) := inb_of Sq2 ⟨by decide, by decide⟩
  refine Goes.via (X.laload hx (j := (2 : Int32)) (v := (.long (100 : Int64))) (by rw [e0]; exact Arq2.1) (State.isArrayOf_alike hZ.alike Arq2.2.1) Arq2.2.2 hinq2 (Hq2.at hinq2 rfl) (g := (mkF m 209 #[.val (.long x0), .second, .val (.int mode), .val (.int d0), .val (.ref pa), .val (.long v), .second, .val (.int (3 : Int32)), s8, s9] [(.int (2 : Int32)), (.ref pa), (.long v)])) rfl rfl (hb hby at_209)) ?_
  show Goes _ _ _ _ _ _ _ _ (T.setTop (mkF m 210 #[.val (.long x0), .second, .val (.int mode), .val (.int d0), .val (.ref pa), .val (.long v), .second, .val (.int (3 : Int32)), s8, s9] [(.long (100 : Int64)), (.long v)]))
  refine Goes.via (fun _ k => XT.lcmp X.here hx rfl (hb hby at_210) rfl k) ?_
  show Goes _ _ _ _ _ _ _ _ (T.setTop (mkF m 211 #[.val (.long x0), .second, .val (.int mode), .val (.int d0), .val (.ref pa), .val (.long v), .second, .val (.int (3 : Int32)), s8, s9] [(.int (XT.cmpL v (100 : Int64)))]))
  refine Goes.via (fun _ k => XS.ifNo X.here hx rfl (hb hby at_211) rfl (XT.ll_lt_f lo7) k) ?_
  show Goes _ _ _ _ _ _ _ _ (T.setTop (mkF m 214 #[.val (.long x0), .second, .val (.int mode), .val (.int d0), .val (.ref pa), .val (.long v), .second, .val (.int (3 : Int32)), s8, s9] []))
  refine Goes.via (fun _ k => XT.iconstV X.here hx rfl (1 : Int32) (hb hby at_214) (by decide) k) ?_
  show Goes _ _ _ _ _ _ _ _ (T.setTop (mkF m 215 #[.val (.long x0), .second, .val (.int mode), .val (.int d0), .val (.ref pa), .val (.long v), .second, .val (.int (3 : Int32)), s8, s9] [(.int (1 : Int32))]))
  refine Goes.via (fun _ k => XS.goto X.here hx rfl (pc0 := 215) (pc' := 219) rfl (hb hby at_215) (by decide) (by decide) k) ?_
  show Goes _ _ _ _ _ _ _ _ (T.setTop (mkF m 219 #[.val (.long x0), .second, .val (.int mode), .val (.int d0), .val (.ref pa), .val (.long v), .second, .val (.int (3 : Int32)), s8, s9] [(.int (1 : Int32))]))
  refine Goes.via (fun _ k => XS.istore X.here hx rfl (hb hby at_219) rfl (l' := #[.val (.long x0), .second, .val (.int mode), .val (.int d0), .val (.ref pa), .val (.long v), .second, .val (.int (3 : Int32)), .val (.int (1 : Int32)), .unset]) (H8 _ _) k) ?_
  show Goes _ _ _ _ _ _ _ _ (T.setTop (mkF m 221 #[.val (.long x0), .second, .val (.int mode), .val (.int d0), .val (.ref pa), .val (.long v), .second, .val (.int (3 : Int32)), .val (.int (1 : Int32)), .unset] []))
  refine Goes.via (fun _ k => XS.iload X.here hx rfl (hb hby at_221) rfl k) ?_
  show Goes _ _ _ _ _ _ _ _ (T.setTop (mkF m 223 #[.val (.long x0), .second, .val (.int mode), .val (.int d0), .val (.ref pa), .val (.long v), .second, .val (.int (3 : Int32)), .val (.int (1 : Int32)), .unset] [(.int (3 : Int32))]))
  refine Goes.via (fun _ k => XT.bipushV X.here hx rfl (19 : Int32) (hb hby at_223) (by decide) k) ?_
  show Goes _ _ _ _ _ _ _ _ (T.setTop (mkF m 225 #[.val (.long x0), .second, .val (.int mode), .val (.int d0), .val (.ref pa), .val (.long v), .second, .val (.int (3 : Int32)), .val (.int (1 : Int32)), .unset] [(.int (19 : Int32)), (.int (3 : Int32))]))
  refine Goes.via (fun _ k => XS.icmpNo X.here hx rfl (hb hby at_225) rfl (XT.ii_eq_f (by decide)) k) ?_
  show Goes _ _ _ _ _ _ _ _ (T.setTop (mkF m 228 #[.val (.long x0), .second, .val (.int mode), .val (.int d0), .val (.ref pa), .val (.long v), .second, .val (.int (3 : Int32)), .val (.int (1 : Int32)), .unset] []))
  refine Goes.via (fun _ k => XT.lload X.here hx rfl (hb hby at_228) rfl k) ?_
  show Goes _ _ _ _ _ _ _ _ (T.setTop (mkF m 230 #[.val (.long x0), .second, .val (.int mode), .val (.int d0), .val (.ref pa), .val (.long v), .second, .val (.int (3 : Int32)), .val (.int (1 : Int32)), .unset] [(.long v)]))
  refine Goes.via (fun _ k => XS.aload X.here hx rfl (hb hby at_230) rfl rfl k) ?_
  show Goes _ _ _ _ _ _ _ _ (T.setTop (mkF m 232 #[.val (.long x0), .second, .val (.int mode), .val (.int d0), .val (.ref pa), .val (.long v), .second, .val (.int (3 : Int32)), .val (.int (1 : Int32)), .unset] [(.ref pa), (.long v)]))
  refine Goes.via (fun _ k => XS.iload X.here hx rfl (hb hby at_232) rfl k) ?_
  show Goes _ _ _ _ _ _ _ _ (T.setTop (mkF m 234 #[.val (.long x0), .second, .val (.int mode), .val (.int d0), .val (.ref pa), .val (.long v), .second, .val (.int (3 : Int32)), .val (.int (1 : Int32)), .unset] [(.int (3 : Int32)), (.ref pa), (.long v)]))
  obtain ⟨clq3, Arq3, qq3, Sq3, Nnq3, Hq3, Gq3⟩ := id pf0
  have hinq3 : ¬ ((3 : Int32) < 0 ∨ clq3.slots.size ≤ ((3 : Int32)).toNatClampNeg) := inb_of Sq3 ⟨by decide, by decide⟩
  refine Goes.via (X.laload hx (j := (3 : Int32)) (v := (.long (1000 : Int64))) (by rw [e0]; exact Arq3.1) (State.isArrayOf_alike hZ.alike Arq3.2.1) Arq3.2.2 hinq3 (Hq3.at hinq3 rfl) (g := (mkF m 234 #[.val (.long x0), .second, .val (.int mode), .val (.int d0), .val (.ref pa), .val (.long v), .second, .val (.int (3 : Int32)), .val (.int (1 : Int32)), .unset] [(.int (3 : Int32)), (.ref pa), (.long v)])) rfl rfl (hb hby at_234)) ?_
  show Goes _ _ _ _ _ _ _ _ (T.setTop (mkF m 235 #[.val (.long x0), .second, .val (.int mode), .val (.int d0), .val (.ref pa), .val (.long v), .second, .val (.int (3 : Int32)), .val (.int (1 : Int32)), .unset] [(.long (1000 : Int64)), (.long v)]))
  refine Goes.via (fun _ k => XT.lcmp X.here hx rfl (hb hby at_235) rfl k) ?_
  show Goes _ _ _ _ _ _ _ _ (T.setTop (mkF m 236 #[.val (.long x0), .second, .val (.int mode), .val (.int d0), .val (.ref pa), .val (.long v), .second, .val (.int (3 : Int32)), .val (.int (1 : Int32)), .unset] [(.int (XT.cmpL v (1000 : Int64)))]))
  refine Goes.via (fun _ k => XS.ifNo X.here hx rfl (hb hby at_236) rfl (XT.ll_ge_f hi7) k) ?_
  show Goes _ _ _ _ _ _ _ _ (T.setTop (mkF m 239 #[.val (.long x0), .second, .val (.int mode), .val (.int d0), .val (.ref pa), .val (.long v), .second, .val (.int (3 : Int32)), .val (.int (1 : Int32)), .unset] []))
  refine Goes.via (fun _ k => XT.iconstV X.here hx rfl (1 : Int32) (hb hby at_239) (by decide) k) ?_
  show Goes _ _ _ _ _ _ _ _ (T.setTop (mkF m 240 #[.val (.long x0), .second, .val (.int mode), .val (.int d0), .val (.ref pa), .val (.long v), .second, .val (.int (3 : Int32)), .val (.int (1 : Int32)), .unset] [(.int (1 : Int32))]))
  refine Goes.via (fun _ k => XS.goto X.here hx rfl (pc0 := 240) (pc' := 244) rfl (hb hby at_240) (by decide) (by decide) k) ?_
  show Goes _ _ _ _ _ _ _ _ (T.setTop (mkF m 244 #[.val (.long x0), .second, .val (.int mode), .val (.int d0), .val (.ref pa), .val (.long v), .second, .val (.int (3 : Int32)), .val (.int (1 : Int32)), .unset] [(.int (1 : Int32))]))
  refine Goes.via (fun _ k => XS.istore X.here hx rfl (hb hby at_244) rfl (l' := #[.val (.long x0), .second, .val (.int mode), .val (.int d0), .val (.ref pa), .val (.long v), .second, .val (.int (3 : Int32)), .val (.int (1 : Int32)), .val (.int (1 : Int32))]) rfl k) ?_
  show Goes _ _ _ _ _ _ _ _ (T.setTop (mkF m 246 #[.val (.long x0), .second, .val (.int mode), .val (.int d0), .val (.ref pa), .val (.long v), .second, .val (.int (3 : Int32)), .val (.int (1 : Int32)), .val (.int (1 : Int32))] []))
  refine Goes.via (fun _ k => XS.iload X.here hx rfl (hb hby at_246) rfl k) ?_
  show Goes _ _ _ _ _ _ _ _ (T.setTop (mkF m 248 #[.val (.long x0), .second, .val (.int mode), .val (.int d0), .val (.ref pa), .val (.long v), .second, .val (.int (3 : Int32)), .val (.int (1 : Int32)), .val (.int (1 : Int32))] [(.int (1 : Int32))]))
  refine Goes.via (fun _ k => XS.ifNo X.here hx rfl (hb hby at_248) rfl (XT.i0_eq_f (by decide)) k) ?_
  show Goes _ _ _ _ _ _ _ _ (T.setTop (mkF m 251 #[.val (.long x0), .second, .val (.int mode), .val (.int d0), .val (.ref pa), .val (.long v), .second, .val (.int (3 : Int32)), .val (.int (1 : Int32)), .val (.int (1 : Int32))] []))
  refine Goes.via (fun _ k => XS.iload X.here hx rfl (hb hby at_251) rfl k) ?_
  show Goes _ _ _ _ _ _ _ _ (T.setTop (mkF m 253 #[.val (.long x0), .second, .val (.int mode), .val (.int d0), .val (.ref pa), .val (.long v), .second, .val (.int (3 : Int32)), .val (.int (1 : Int32)), .val (.int (1 : Int32))] [(.int (1 : Int32))]))
  refine Goes.via (fun _ k => XS.ifNo X.here hx rfl (hb hby at_253) rfl (XT.i0_eq_f (by decide)) k) ?_
  show Goes _ _ _ _ _ _ _ _ (T.setTop (mkF m 256 #[.val (.long x0), .second, .val (.int mode), .val (.int d0), .val (.ref pa), .val (.long v), .second, .val (.int (3 : Int32)), .val (.int (1 : Int32)), .val (.int (1 : Int32))] []))
  refine Goes.via (fun _ k => XT.iconstV X.here hx rfl (1 : Int32) (hb hby at_256) (by decide) k) ?_
  show Goes _ _ _ _ _ _ _ _ (T.setTop (mkF m 257 #[.val (.long x0), .second, .val (.int mode), .val (.int d0), .val (.ref pa), .val (.long v), .second, .val (.int (3 : Int32)), .val (.int (1 : Int32)), .val (.int (1 : Int32))] [(.int (1 : Int32))]))
  refine Goes.via (fun _ k => XS.goto X.here hx rfl (pc0 := 257) (pc' := 261) rfl (hb hby at_257) (by decide) (by decide) k) ?_
  show Goes _ _ _ _ _ _ _ _ (T.setTop (mkF m 261 #[.val (.long x0), .second, .val (.int mode), .val (.int d0), .val (.ref pa), .val (.long v), .second, .val (.int (3 : Int32)), .val (.int (1 : Int32)), .val (.int (1 : Int32))] [(.int (1 : Int32))]))
  refine goRetN X hx hrt (by simp) hlk N (by show _ ≤ 16; omega) (by show _ ≤ 128; omega) (hb hby at_261) ?_
  try rw [e0]
  exact rfl
set_option maxRecDepth 65536 in
set_option maxHeartbeats 40000000 in
theorem law_c22 (l : Launch) (Z : State) (aw : Array Value) (hw : ∀ d ∈ tables_1, d.before aw Z = true) (x0 : Int64) (mode : Int32) (d0 : Int32) (ar : Nat) (k0 : ClassId) (pa : Nat) (ka : ClassId) (v : Int64) (s7 : Slot) (s8 : Slot) (s9 : Slot) {p : Program} {e : Env} {s : State} {m : MethodId} {args : Array Value} {below : List Frame} {meth : Method} {c : Code} {T : State} {locs : List Loc} {cells slots n0 : Nat} {h1 : Heap} (hx : p.tables.exec = Jvm.exec) (hby : c.code = code) (hml : c.maxLocals = 10) (hrt : meth.sig.returnType = some .boolean) (hlk : meth.locks = false) (hnm : meth.name = "law") (hZ : Z.Warmed39 s.vm) (hown : s.vm.findClass "com/example/primevertical/primevertical/DecimalTextDigitCountPinLaw" = some m.cls) (X : Stand p l e room_1 s m args below meth c T locs cells slots) (e0 : T.heap = h1) (N : Fr n0 locs) (hcells : cells ≤ 1) (hslots : slots ≤ 19) (O : Old Z n0 h1) (S0 : Sta Z Z.heap "com/example/primevertical/primevertical/DecimalText" "LONG_POWERS_OF_TEN" "[J" (.ref ar)) (V0 : Arv Z Z.heap ar k0 .long (19 : Int32) PW (.long (0 : Int64))) (pf0 : Arv Z h1 pa ka .long (19 : Int32) PW (.long (0 : Int64))) (h_s7 : One s7) (H8 : ∀ z7 z8 : Int32, storeLocals #[.val (.long x0), .second, .val (.int mode), .val (.int d0), .val (.ref pa), .val (.long v), .second, .val (.int z7), s8, s9] 8 (.int z8) = some #[.val (.long x0), .second, .val (.int mode), .val (.int d0), .val (.ref pa), .val (.long v), .second, .val (.int z7), .val (.int z8), .unset]) (lo7 : ¬ v < (1000 : Int64)) (hi7 : v < (10000 : Int64)) :
    Goes p e below s room_1.cells room_1.slots n0 (fun vv hh => vv = some (.int (1 : Int32))) (T.setTop (mkF m 178 #[.val (.long x0), .second, .val (.int mode), .val (.int d0), .val (.ref pa), .val (.long v), .second, s7, s8, s9] [(.int (4 : Int32))])) := by
  have zO := O.le
  have lt_pa := lt_nat pf0.lt
  show Goes _ _ _ _ _ _ _ _ (T.setTop (mkF m 178 #[.val (.long x0), .second, .val (.int mode), .val (.int d0), .val (.ref pa), .val (.long v), .second, s7, s8, s9] [(.int (4 : Int32))]))
  refine Goes.via (fun _ k => XS.istore X.here hx rfl (hb hby at_178) rfl (l' := #[.val (.long x0), .second, .val (.int mode), .val (.int d0), .val (.ref pa), .val (.long v), .second, .val (.int (4 : Int32)), s8, s9]) (XS.store1 rfl h_s7 rfl) k) ?_
  show Goes _ _ _ _ _ _ _ _ (T.setTop (mkF m 180 #[.val (.long x0), .second, .val (.int mode), .val (.int d0), .val (.ref pa), .val (.long v), .second, .val (.int (4 : Int32)), s8, s9] []))
  refine Goes.via (fun _ k => XS.iload X.here hx rfl (hb hby at_180) rfl k) ?_
  show Goes _ _ _ _ _ _ _ _ (T.setTop (mkF m 182 #[.val (.long x0), .second, .val (.int mode), .val (.int d0), .val (.ref pa), .val (.long v), .second, .val (.int (4 : Int32)), s8, s9] [(.int (4 : Int32))]))
  refine Goes.via (fun _ k => XT.iconstV X.here hx rfl (1 : Int32) (hb hby at_182) (by decide) k) ?_
  show Goes _ _ _ _ _ _ _ _ (T.setTop (mkF m 183 #[.val (.long x0), .second, .val (.int mode), .val (.int d0), .val (.ref pa), .val (.long v), .second, .val (.int (4 : Int32)), s8, s9] [(.int (1 : Int32)), (.int (4 : Int32))]))
  refine Goes.via (fun _ k => XS.icmpNo X.here hx rfl (hb hby at_183) rfl (XT.ii_lt_f (by decide)) k) ?_
  show Goes _ _ _ _ _ _ _ _ (T.setTop (mkF m 186 #[.val (.long x0), .second, .val (.int mode), .val (.int d0), .val (.ref pa), .val (.long v), .second, .val (.int (4 : Int32)), s8, s9] []))
  refine Goes.via (fun _ k => XS.iload X.here hx rfl (hb hby at_186) rfl k) ?_
  show Goes _ _ _ _ _ _ _ _ (T.setTop (mkF m 188 #[.val (.long x0), .second, .val (.int mode), .val (.int d0), .val (.ref pa), .val (.long v), .second, .val (.int (4 : Int32)), s8, s9] [(.int (4 : Int32))]))
  refine Goes.via (fun _ k => XT.bipushV X.here hx rfl (19 : Int32) (hb hby at_188) (by decide) k) ?_
  show Goes _ _ _ _ _ _ _ _ (T.setTop (mkF m 190 #[.val (.long x0), .second, .val (.int mode), .val (.int d0), .val (.ref pa), .val (.long v), .second, .val (.int (4 : Int32)), s8, s9] [(.int (19 : Int32)), (.int (4 : Int32))]))
  refine Goes.via (fun _ k => XS.icmpYes X.here hx rfl (pc0 := 190) (pc' := 195) rfl (hb hby at_190) rfl (XT.ii_le_t (by decide)) (by decide) (by decide) k) ?_
  show Goes _ _ _ _ _ _ _ _ (T.setTop (mkF m 195 #[.val (.long x0), .second, .val (.int mode), .val (.int d0), .val (.ref pa), .val (.long v), .second, .val (.int (4 : Int32)), s8, s9] []))
  refine Goes.via (fun _ k => XS.iload X.here hx rfl (hb hby at_195) rfl k) ?_
  show Goes _ _ _ _ _ _ _ _ (T.setTop (mkF m 197 #[.val (.long x0), .second, .val (.int mode), .val (.int d0), .val (.ref pa), .val (.long v), .second, .val (.int (4 : Int32)), s8, s9] [(.int (4 : Int32))]))
  refine Goes.via (fun _ k => XT.iconstV X.here hx rfl (1 : Int32) (hb hby at_197) (by decide) k) ?_
  show Goes _ _ _ _ _ _ _ _ (T.setTop (mkF m 198 #[.val (.long x0), .second, .val (.int mode), .val (.int d0), .val (.ref pa), .val (.long v), .second, .val (.int (4 : Int32)), s8, s9] [(.int (1 : Int32)), (.int (4 : Int32))]))
  refine Goes.via (fun _ k => XS.icmpNo X.here hx rfl (hb hby at_198) rfl (XT.ii_eq_f (by decide)) k) ?_
  show Goes _ _ _ _ _ _ _ _ (T.setTop (mkF m 201 #[.val (.long x0), .second, .val (.int mode), .val (.int d0), .val (.ref pa), .val (.long v), .second, .val (.int (4 : Int32)), s8, s9] []))
  refine Goes.via (fun _ k => XT.lload X.here hx rfl (hb hby at_201) rfl k) ?_
  show Goes _ _ _ _ _ _ _ _ (T.setTop (mkF m 203 #[.val (.long x0), .second, .val (.int mode), .val (.int d0), .val (.ref pa), .val (.long v), .second, .val (.int (4 : Int32)), s8, s9] [(.long v)]))
  refine Goes.via (fun _ k => XS.aload X.here hx rfl (hb hby at_203) rfl rfl k) ?_
  show Goes _ _ _ _ _ _ _ _ (T.setTop (mkF m 205 #[.val (.long x0), .second, .val (.int mode), .val (.int d0), .val (.ref pa), .val (.long v), .second, .val (.int (4 : Int32)), s8, s9] [(.ref pa), (.long v)]))
  refine Goes.via (fun _ k => XS.iload X.here hx rfl (hb hby at_205) rfl k) ?_
  show Goes _ _ _ _ _ _ _ _ (T.setTop (mkF m 207 #[.val (.long x0), .second, .val (.int mode), .val (.int d0), .val (.ref pa), .val (.long v), .second, .val (.int (4 : Int32)), s8, s9] [(.int (4 : Int32)), (.ref pa), (.long v)]))
  refine Goes.via (fun _ k => XT.iconstV X.here hx rfl (1 : Int32) (hb hby at_207) (by decide) k) ?_
  show Goes _ _ _ _ _ _ _ _ (T.setTop (mkF m 208 #[.val (.long x0), .second, .val (.int mode), .val (.int d0), .val (.ref pa), .val (.long v), .second, .val (.int (4 : Int32)), s8, s9] [(.int (1 : Int32)), (.int (4 : Int32)), (.ref pa), (.long v)]))
  refine Goes.via (fun _ k => XS.isub X.here hx rfl (hb hby at_208) rfl k) ?_
  rw [show ((4 : Int32) - (1 : Int32)) = (3 : Int32) from by decide]
  show Goes _ _ _ _ _ _ _ _ (T.setTop (mkF m 209 #[.val (.long x0), .second, .val (.int mode), .val (.int d0), .val (.ref pa), .val (.long v), .second, .val (.int (4 : Int32)), s8, s9] [(.int (3 : Int32)), (.ref pa), (.long v)]))
  obtain ⟨clq2, Arq2, qq2, Sq2, Nnq2, Hq2, Gq2⟩ := id pf0
  have hinq2 : ¬ ((3 : Int32) < 0 ∨ clq2.slots.size ≤ ((3 : Int32)).toNatClampNeg) := inb_of Sq2 ⟨by decide, by decide⟩
  refine Goes.via (X.laload hx (j := (3 : Int32)) (v := (.long (1000 : Int64))) (by rw [e0]; exact Arq2.1) (State.isArrayOf_alike hZ.alike Arq2.2.1) Arq2.2.2 hinq2 (Hq2.at hinq2 rfl) (g := (mkF m 209 #[.val (.long x0), .second, .val (.int mode), .val (.int d0), .val (.ref pa), .val (.long v), .second, .val (.int (4 : Int32)), s8, s9] [(.int (3 : Int32)), (.ref pa), (.long v)])) rfl rfl (hb hby at_209)) ?_
  show Goes _ _ _ _ _ _ _ _ (T.setTop (mkF m 210 #[.val (.long x0), .second, .val (.int mode), .val (.int d0), .val (.ref pa), .val (.long v), .second, .val (.int (4 : Int32)), s8, s9] [(.long (1000 : Int64)), (.long v)]))
  refine Goes.via (fun _ k => XT.lcmp X.here hx rfl (hb hby at_210) rfl k) ?_
  show Goes _ _ _ _ _ _ _ _ (T.setTop (mkF m 211 #[.val (.long x0), .second, .val (.int mode), .val (.int d0), .val (.ref pa), .val (.long v), .second, .val (.int (4 : Int32)), s8, s9] [(.int (XT.cmpL v (1000 : Int64)))]))
  refine Goes.via (fun _ k => XS.ifNo X.here hx rfl (hb hby at_211) rfl (XT.ll_lt_f lo7) k) ?_
  show Goes _ _ _ _ _ _ _ _ (T.setTop (mkF m 214 #[.val (.long x0), .second, .val (.int mode), .val (.int d0), .val (.ref pa), .val (.long v), .second, .val (.int (4 : Int32)), s8, s9] []))
  refine Goes.via (fun _ k => XT.iconstV X.here hx rfl (1 : Int32) (hb hby at_214) (by decide) k) ?_
  show Goes _ _ _ _ _ _ _ _ (T.setTop (mkF m 215 #[.val (.long x0), .second, .val (.int mode), .val (.int d0), .val (.ref pa), .val (.long v), .second, .val (.int (4 : Int32)), s8, s9] [(.int (1 : Int32))]))
  refine Goes.via (fun _ k => XS.goto X.here hx rfl (pc0 := 215) (pc' := 219) rfl (hb hby at_215) (by decide) (by decide) k) ?_
  show Goes _ _ _ _ _ _ _ _ (T.setTop (mkF m 219 #[.val (.long x0), .second, .val (.int mode), .val (.int d0), .val (.ref pa), .val (.long v), .second, .val (.int (4 : Int32)), s8, s9] [(.int (1 : Int32))]))
  refine Goes.via (fun _ k => XS.istore X.here hx rfl (hb hby at_219) rfl (l' := #[.val (.long x0), .second, .val (.int mode), .val (.int d0), .val (.ref pa), .val (.long v), .second, .val (.int (4 : Int32)), .val (.int (1 : Int32)), .unset]) (H8 _ _) k) ?_
  show Goes _ _ _ _ _ _ _ _ (T.setTop (mkF m 221 #[.val (.long x0), .second, .val (.int mode), .val (.int d0), .val (.ref pa), .val (.long v), .second, .val (.int (4 : Int32)), .val (.int (1 : Int32)), .unset] []))
  refine Goes.via (fun _ k => XS.iload X.here hx rfl (hb hby at_221) rfl k) ?_
  show Goes _ _ _ _ _ _ _ _ (T.setTop (mkF m 223 #[.val (.long x0), .second, .val (.int mode), .val (.int d0), .val (.ref pa), .val (.long v), .second, .val (.int (4 : Int32)), .val (.int (1 : Int32)), .unset] [(.int (4 : Int32))]))
  refine Goes.via (fun _ k => XT.bipushV X.here hx rfl (19 : Int32) (hb hby at_223) (by decide) k) ?_
  show Goes _ _ _ _ _ _ _ _ (T.setTop (mkF m 225 #[.val (.long x0), .second, .val (.int mode), .val (.int d0), .val (.ref pa), .val (.long v), .second, .val (.int (4 : Int32)), .val (.int (1 : Int32)), .unset] [(.int (19 : Int32)), (.int (4 : Int32))]))
  refine Goes.via (fun _ k => XS.icmpNo X.here hx rfl (hb hby at_225) rfl (XT.ii_eq_f (by decide)) k) ?_
  show Goes _ _ _ _ _ _ _ _ (T.setTop (mkF m 228 #[.val (.long x0), .second, .val (.int mode), .val (.int d0), .val (.ref pa), .val (.long v), .second, .val (.int (4 : Int32)), .val (.int (1 : Int32)), .unset] []))
  refine Goes.via (fun _ k => XT.lload X.here hx rfl (hb hby at_228) rfl k) ?_
  show Goes _ _ _ _ _ _ _ _ (T.setTop (mkF m 230 #[.val (.long x0), .second, .val (.int mode), .val (.int d0), .val (.ref pa), .val (.long v), .second, .val (.int (4 : Int32)), .val (.int (1 : Int32)), .unset] [(.long v)]))
  refine Goes.via (fun _ k => XS.aload X.here hx rfl (hb hby at_230) rfl rfl k) ?_
  show Goes _ _ _ _ _ _ _ _ (T.setTop (mkF m 232 #[.val (.long x0), .second, .val (.int mode), .val (.int d0), .val (.ref pa), .val (.long v), .second, .val (.int (4 : Int32)), .val (.int (1 : Int32)), .unset] [(.ref pa), (.long v)]))
  refine Goes.via (fun _ k => XS.iload X.here hx rfl (hb hby at_232) rfl k) ?_
  show Goes _ _ _ _ _ _ _ _ (T.setTop (mkF m 234 #[.val (.long x0), .second, .val (.int mode), .val (.int d0), .val (.ref pa), .val (.long v), .second, .val (.int (4 : Int32)), .val (.int (1 : Int32)), .unset] [(.int (4 : Int32)), (.ref pa), (.long v)]))
  obtain ⟨clq3, Arq3, qq3, Sq3, Nnq3, Hq3, Gq3⟩ := id pf0
  have hinq3 : ¬ ((4 : Int32) < 0 ∨ clq3.slots.size ≤ ((4 : Int32)).toNatClampNeg) := inb_of Sq3 ⟨by decide, by decide⟩
  refine Goes.via (X.laload hx (j := (4 : Int32)) (v := (.long (10000 : Int64))) (by rw [e0]; exact Arq3.1) (State.isArrayOf_alike hZ.alike Arq3.2.1) Arq3.2.2 hinq3 (Hq3.at hinq3 rfl) (g := (mkF m 234 #[.val (.long x0), .second, .val (.int mode), .val (.int d0), .val (.ref pa), .val (.long v), .second, .val (.int (4 : Int32)), .val (.int (1 : Int32)), .unset] [(.int (4 : Int32)), (.ref pa), (.long v)])) rfl rfl (hb hby at_234)) ?_
  show Goes _ _ _ _ _ _ _ _ (T.setTop (mkF m 235 #[.val (.long x0), .second, .val (.int mode), .val (.int d0), .val (.ref pa), .val (.long v), .second, .val (.int (4 : Int32)), .val (.int (1 : Int32)), .unset] [(.long (10000 : Int64)), (.long v)]))
  refine Goes.via (fun _ k => XT.lcmp X.here hx rfl (hb hby at_235) rfl k) ?_
  show Goes _ _ _ _ _ _ _ _ (T.setTop (mkF m 236 #[.val (.long x0), .second, .val (.int mode), .val (.int d0), .val (.ref pa), .val (.long v), .second, .val (.int (4 : Int32)), .val (.int (1 : Int32)), .unset] [(.int (XT.cmpL v (10000 : Int64)))]))
  refine Goes.via (fun _ k => XS.ifNo X.here hx rfl (hb hby at_236) rfl (XT.ll_ge_f hi7) k) ?_
  show Goes _ _ _ _ _ _ _ _ (T.setTop (mkF m 239 #[.val (.long x0), .second, .val (.int mode), .val (.int d0), .val (.ref pa), .val (.long v), .second, .val (.int (4 : Int32)), .val (.int (1 : Int32)), .unset] []))
  refine Goes.via (fun _ k => XT.iconstV X.here hx rfl (1 : Int32) (hb hby at_239) (by decide) k) ?_
  show Goes _ _ _ _ _ _ _ _ (T.setTop (mkF m 240 #[.val (.long x0), .second, .val (.int mode), .val (.int d0), .val (.ref pa), .val (.long v), .second, .val (.int (4 : Int32)), .val (.int (1 : Int32)), .unset] [(.int (1 : Int32))]))
  refine Goes.via (fun _ k => XS.goto X.here hx rfl (pc0 := 240) (pc' := 244) rfl (hb hby at_240) (by decide) (by decide) k) ?_
  show Goes _ _ _ _ _ _ _ _ (T.setTop (mkF m 244 #[.val (.long x0), .second, .val (.int mode), .val (.int d0), .val (.ref pa), .val (.long v), .second, .val (.int (4 : Int32)), .val (.int (1 : Int32)), .unset] [(.int (1 : Int32))]))
  refine Goes.via (fun _ k => XS.istore X.here hx rfl (hb hby at_244) rfl (l' := #[.val (.long x0), .second, .val (.int mode), .val (.int d0), .val (.ref pa), .val (.long v), .second, .val (.int (4 : Int32)), .val (.int (1 : Int32)), .val (.int (1 : Int32))]) rfl k) ?_
  show Goes _ _ _ _ _ _ _ _ (T.setTop (mkF m 246 #[.val (.long x0), .second, .val (.int mode), .val (.int d0), .val (.ref pa), .val (.long v), .second, .val (.int (4 : Int32)), .val (.int (1 : Int32)), .val (.int (1 : Int32))] []))
  refine Goes.via (fun _ k => XS.iload X.here hx rfl (hb hby at_246) rfl k) ?_
  show Goes _ _ _ _ _ _ _ _ (T.setTop (mkF m 248 #[.val (.long x0), .second, .val (.int mode), .val (.int d0), .val (.ref pa), .val (.long v), .second, .val (.int (4 : Int32)), .val (.int (1 : Int32)), .val (.int (1 : Int32))] [(.int (1 : Int32))]))
  refine Goes.via (fun _ k => XS.ifNo X.here hx rfl (hb hby at_248) rfl (XT.i0_eq_f (by decide)) k) ?_
  show Goes _ _ _ _ _ _ _ _ (T.setTop (mkF m 251 #[.val (.long x0), .second, .val (.int mode), .val (.int d0), .val (.ref pa), .val (.long v), .second, .val (.int (4 : Int32)), .val (.int (1 : Int32)), .val (.int (1 : Int32))] []))
  refine Goes.via (fun _ k => XS.iload X.here hx rfl (hb hby at_251) rfl k) ?_
  show Goes _ _ _ _ _ _ _ _ (T.setTop (mkF m 253 #[.val (.long x0), .second, .val (.int mode), .val (.int d0), .val (.ref pa), .val (.long v), .second, .val (.int (4 : Int32)), .val (.int (1 : Int32)), .val (.int (1 : Int32))] [(.int (1 : Int32))]))
  refine Goes.via (fun _ k => XS.ifNo X.here hx rfl (hb hby at_253) rfl (XT.i0_eq_f (by decide)) k) ?_
  show Goes _ _ _ _ _ _ _ _ (T.setTop (mkF m 256 #[.val (.long x0), .second, .val (.int mode), .val (.int d0), .val (.ref pa), .val (.long v), .second, .val (.int (4 : Int32)), .val (.int (1 : Int32)), .val (.int (1 : Int32))] []))
  refine Goes.via (fun _ k => XT.iconstV X.here hx rfl (1 : Int32) (hb hby at_256) (by decide) k) ?_
  show Goes _ _ _ _ _ _ _ _ (T.setTop (mkF m 257 #[.val (.long x0), .second, .val (.int mode), .val (.int d0), .val (.ref pa), .val (.long v), .second, .val (.int (4 : Int32)), .val (.int (1 : Int32)), .val (.int (1 : Int32))] [(.int (1 : Int32))]))
  refine Goes.via (fun _ k => XS.goto X.here hx rfl (pc0 := 257) (pc' := 261) rfl (hb hby at_257) (by decide) (by decide) k) ?_
  show Goes _ _ _ _ _ _ _ _ (T.setTop (mkF m 261 #[.val (.long x0), .second, .val (.int mode), .val (.int d0), .val (.ref pa), .val (.long v), .second, .val (.int (4 : Int32)), .val (.int (1 : Int32)), .val (.int (1 : Int32))] [(.int (1 : Int32))]))
  refine goRetN X hx hrt (by simp) hlk N (by show _ ≤ 16; omega) (by show _ ≤ 128; omega) (hb hby at_261) ?_
  try rw [e0]
  exact rfl
set_option maxRecDepth 65536 in
set_option maxHeartbeats 40000000 in
theorem law_c23 (l : Launch) (Z : State) (aw : Array Value) (hw : ∀ d ∈ tables_1, d.before aw Z = true) (x0 : Int64) (mode : Int32) (d0 : Int32) (ar : Nat) (k0 : ClassId) (pa : Nat) (ka : ClassId) (v : Int64) (s7 : Slot) (s8 : Slot) (s9 : Slot) {p : Program} {e : Env} {s : State} {m : MethodId} {args : Array Value} {below : List Frame} {meth : Method} {c : Code} {T : State} {locs : List Loc} {cells slots n0 : Nat} {h1 : Heap} (hx : p.tables.exec = Jvm.exec) (hby : c.code = code) (hml : c.maxLocals = 10) (hrt : meth.sig.returnType = some .boolean) (hlk : meth.locks = false) (hnm : meth.name = "law") (hZ : Z.Warmed39 s.vm) (hown : s.vm.findClass "com/example/primevertical/primevertical/DecimalTextDigitCountPinLaw" = some m.cls) (X : Stand p l e room_1 s m args below meth c T locs cells slots) (e0 : T.heap = h1) (N : Fr n0 locs) (hcells : cells ≤ 1) (hslots : slots ≤ 19) (O : Old Z n0 h1) (S0 : Sta Z Z.heap "com/example/primevertical/primevertical/DecimalText" "LONG_POWERS_OF_TEN" "[J" (.ref ar)) (V0 : Arv Z Z.heap ar k0 .long (19 : Int32) PW (.long (0 : Int64))) (pf0 : Arv Z h1 pa ka .long (19 : Int32) PW (.long (0 : Int64))) (h_s7 : One s7) (H8 : ∀ z7 z8 : Int32, storeLocals #[.val (.long x0), .second, .val (.int mode), .val (.int d0), .val (.ref pa), .val (.long v), .second, .val (.int z7), s8, s9] 8 (.int z8) = some #[.val (.long x0), .second, .val (.int mode), .val (.int d0), .val (.ref pa), .val (.long v), .second, .val (.int z7), .val (.int z8), .unset]) (lo7 : ¬ v < (10000 : Int64)) (hi7 : v < (100000 : Int64)) :
    Goes p e below s room_1.cells room_1.slots n0 (fun vv hh => vv = some (.int (1 : Int32))) (T.setTop (mkF m 178 #[.val (.long x0), .second, .val (.int mode), .val (.int d0), .val (.ref pa), .val (.long v), .second, s7, s8, s9] [(.int (5 : Int32))])) := by
  have zO := O.le
  have lt_pa := lt_nat pf0.lt
  show Goes _ _ _ _ _ _ _ _ (T.setTop (mkF m 178 #[.val (.long x0), .second, .val (.int mode), .val (.int d0), .val (.ref pa), .val (.long v), .second, s7, s8, s9] [(.int (5 : Int32))]))
  refine Goes.via (fun _ k => XS.istore X.here hx rfl (hb hby at_178) rfl (l' := #[.val (.long x0), .second, .val (.int mode), .val (.int d0), .val (.ref pa), .val (.long v), .second, .val (.int (5 : Int32)), s8, s9]) (XS.store1 rfl h_s7 rfl) k) ?_
  show Goes _ _ _ _ _ _ _ _ (T.setTop (mkF m 180 #[.val (.long x0), .second, .val (.int mode), .val (.int d0), .val (.ref pa), .val (.long v), .second, .val (.int (5 : Int32)), s8, s9] []))
  refine Goes.via (fun _ k => XS.iload X.here hx rfl (hb hby at_180) rfl k) ?_
  show Goes _ _ _ _ _ _ _ _ (T.setTop (mkF m 182 #[.val (.long x0), .second, .val (.int mode), .val (.int d0), .val (.ref pa), .val (.long v), .second, .val (.int (5 : Int32)), s8, s9] [(.int (5 : Int32))]))
  refine Goes.via (fun _ k => XT.iconstV X.here hx rfl (1 : Int32) (hb hby at_182) (by decide) k) ?_
  show Goes _ _ _ _ _ _ _ _ (T.setTop (mkF m 183 #[.val (.long x0), .second, .val (.int mode), .val (.int d0), .val (.ref pa), .val (.long v), .second, .val (.int (5 : Int32)), s8, s9] [(.int (1 : Int32)), (.int (5 : Int32))]))
  refine Goes.via (fun _ k => XS.icmpNo X.here hx rfl (hb hby at_183) rfl (XT.ii_lt_f (by decide)) k) ?_
  show Goes _ _ _ _ _ _ _ _ (T.setTop (mkF m 186 #[.val (.long x0), .second, .val (.int mode), .val (.int d0), .val (.ref pa), .val (.long v), .second, .val (.int (5 : Int32)), s8, s9] []))
  refine Goes.via (fun _ k => XS.iload X.here hx rfl (hb hby at_186) rfl k) ?_
  show Goes _ _ _ _ _ _ _ _ (T.setTop (mkF m 188 #[.val (.long x0), .second, .val (.int mode), .val (.int d0), .val (.ref pa), .val (.long v), .second, .val (.int (5 : Int32)), s8, s9] [(.int (5 : Int32))]))
  refine Goes.via (fun _ k => XT.bipushV X.here hx rfl (19 : Int32) (hb hby at_188) (by decide) k) ?_
  show Goes _ _ _ _ _ _ _ _ (T.setTop (mkF m 190 #[.val (.long x0), .second, .val (.int mode), .val (.int d0), .val (.ref pa), .val (.long v), .second, .val (.int (5 : Int32)), s8, s9] [(.int (19 : Int32)), (.int (5 : Int32))]))
  refine Goes.via (fun _ k => XS.icmpYes X.here hx rfl (pc0 := 190) (pc' := 195) rfl (hb hby at_190) rfl (XT.ii_le_t (by decide)) (by decide) (by decide) k) ?_
  show Goes _ _ _ _ _ _ _ _ (T.setTop (mkF m 195 #[.val (.long x0), .second, .val (.int mode), .val (.int d0), .val (.ref pa), .val (.long v), .second, .val (.int (5 : Int32)), s8, s9] []))
  refine Goes.via (fun _ k => XS.iload X.here hx rfl (hb hby at_195) rfl k) ?_
  show Goes _ _ _ _ _ _ _ _ (T.setTop (mkF m 197 #[.val (.long x0), .second, .val (.int mode), .val (.int d0), .val (.ref pa), .val (.long v), .second, .val (.int (5 : Int32)), s8, s9] [(.int (5 : Int32))]))
  refine Goes.via (fun _ k => XT.iconstV X.here hx rfl (1 : Int32) (hb hby at_197) (by decide) k) ?_
  show Goes _ _ _ _ _ _ _ _ (T.setTop (mkF m 198 #[.val (.long x0), .second, .val (.int mode), .val (.int d0), .val (.ref pa), .val (.long v), .second, .val (.int (5 : Int32)), s8, s9] [(.int (1 : Int32)), (.int (5 : Int32))]))
  refine Goes.via (fun _ k => XS.icmpNo X.here hx rfl (hb hby at_198) rfl (XT.ii_eq_f (by decide)) k) ?_
  show Goes _ _ _ _ _ _ _ _ (T.setTop (mkF m 201 #[.val (.long x0), .second, .val (.int mode), .val (.int d0), .val (.ref pa), .val (.long v), .second, .val (.int (5 : Int32)), s8, s9] []))
  refine Goes.via (fun _ k => XT.lload X.here hx rfl (hb hby at_201) rfl k) ?_
  show Goes _ _ _ _ _ _ _ _ (T.setTop (mkF m 203 #[.val (.long x0), .second, .val (.int mode), .val (.int d0), .val (.ref pa), .val (.long v), .second, .val (.int (5 : Int32)), s8, s9] [(.long v)]))
  refine Goes.via (fun _ k => XS.aload X.here hx rfl (hb hby at_203) rfl rfl k) ?_
  show Goes _ _ _ _ _ _ _ _ (T.setTop (mkF m 205 #[.val (.long x0), .second, .val (.int mode), .val (.int d0), .val (.ref pa), .val (.long v), .second, .val (.int (5 : Int32)), s8, s9] [(.ref pa), (.long v)]))
  refine Goes.via (fun _ k => XS.iload X.here hx rfl (hb hby at_205) rfl k) ?_
  show Goes _ _ _ _ _ _ _ _ (T.setTop (mkF m 207 #[.val (.long x0), .second, .val (.int mode), .val (.int d0), .val (.ref pa), .val (.long v), .second, .val (.int (5 : Int32)), s8, s9] [(.int (5 : Int32)), (.ref pa), (.long v)]))
  refine Goes.via (fun _ k => XT.iconstV X.here hx rfl (1 : Int32) (hb hby at_207) (by decide) k) ?_
  show Goes _ _ _ _ _ _ _ _ (T.setTop (mkF m 208 #[.val (.long x0), .second, .val (.int mode), .val (.int d0), .val (.ref pa), .val (.long v), .second, .val (.int (5 : Int32)), s8, s9] [(.int (1 : Int32)), (.int (5 : Int32)), (.ref pa), (.long v)]))
  refine Goes.via (fun _ k => XS.isub X.here hx rfl (hb hby at_208) rfl k) ?_
  rw [show ((5 : Int32) - (1 : Int32)) = (4 : Int32) from by decide]
  show Goes _ _ _ _ _ _ _ _ (T.setTop (mkF m 209 #[.val (.long x0), .second, .val (.int mode), .val (.int d0), .val (.ref pa), .val (.long v), .second, .val (.int (5 : Int32)), s8, s9] [(.int (4 : Int32)), (.ref pa), (.long v)]))
  obtain ⟨clq2, Arq2, qq2, Sq2, Nnq2, Hq2, Gq2⟩ := id pf0
  have hinq2 : ¬ ((4 : Int32) < 0 ∨ clq2.slots.size ≤ ((4 : Int32)).toNatClampNeg) := inb_of Sq2 ⟨by decide, by decide⟩
  refine Goes.via (X.laload hx (j := (4 : Int32)) (v := (.long (10000 : Int64))) (by rw [e0]; exact Arq2.1) (State.isArrayOf_alike hZ.alike Arq2.2.1) Arq2.2.2 hinq2 (Hq2.at hinq2 rfl) (g := (mkF m 209 #[.val (.long x0), .second, .val (.int mode), .val (.int d0), .val (.ref pa), .val (.long v), .second, .val (.int (5 : Int32)), s8, s9] [(.int (4 : Int32)), (.ref pa), (.long v)])) rfl rfl (hb hby at_209)) ?_
  show Goes _ _ _ _ _ _ _ _ (T.setTop (mkF m 210 #[.val (.long x0), .second, .val (.int mode), .val (.int d0), .val (.ref pa), .val (.long v), .second, .val (.int (5 : Int32)), s8, s9] [(.long (10000 : Int64)), (.long v)]))
  refine Goes.via (fun _ k => XT.lcmp X.here hx rfl (hb hby at_210) rfl k) ?_
  show Goes _ _ _ _ _ _ _ _ (T.setTop (mkF m 211 #[.val (.long x0), .second, .val (.int mode), .val (.int d0), .val (.ref pa), .val (.long v), .second, .val (.int (5 : Int32)), s8, s9] [(.int (XT.cmpL v (10000 : Int64)))]))
  refine Goes.via (fun _ k => XS.ifNo X.here hx rfl (hb hby at_211) rfl (XT.ll_lt_f lo7) k) ?_
  show Goes _ _ _ _ _ _ _ _ (T.setTop (mkF m 214 #[.val (.long x0), .second, .val (.int mode), .val (.int d0), .val (.ref pa), .val (.long v), .second, .val (.int (5 : Int32)), s8, s9] []))
  refine Goes.via (fun _ k => XT.iconstV X.here hx rfl (1 : Int32) (hb hby at_214) (by decide) k) ?_
  show Goes _ _ _ _ _ _ _ _ (T.setTop (mkF m 215 #[.val (.long x0), .second, .val (.int mode), .val (.int d0), .val (.ref pa), .val (.long v), .second, .val (.int (5 : Int32)), s8, s9] [(.int (1 : Int32))]))
  refine Goes.via (fun _ k => XS.goto X.here hx rfl (pc0 := 215) (pc' := 219) rfl (hb hby at_215) (by decide) (by decide) k) ?_
  show Goes _ _ _ _ _ _ _ _ (T.setTop (mkF m 219 #[.val (.long x0), .second, .val (.int mode), .val (.int d0), .val (.ref pa), .val (.long v), .second, .val (.int (5 : Int32)), s8, s9] [(.int (1 : Int32))]))
  refine Goes.via (fun _ k => XS.istore X.here hx rfl (hb hby at_219) rfl (l' := #[.val (.long x0), .second, .val (.int mode), .val (.int d0), .val (.ref pa), .val (.long v), .second, .val (.int (5 : Int32)), .val (.int (1 : Int32)), .unset]) (H8 _ _) k) ?_
  show Goes _ _ _ _ _ _ _ _ (T.setTop (mkF m 221 #[.val (.long x0), .second, .val (.int mode), .val (.int d0), .val (.ref pa), .val (.long v), .second, .val (.int (5 : Int32)), .val (.int (1 : Int32)), .unset] []))
  refine Goes.via (fun _ k => XS.iload X.here hx rfl (hb hby at_221) rfl k) ?_
  show Goes _ _ _ _ _ _ _ _ (T.setTop (mkF m 223 #[.val (.long x0), .second, .val (.int mode), .val (.int d0), .val (.ref pa), .val (.long v), .second, .val (.int (5 : Int32)), .val (.int (1 : Int32)), .unset] [(.int (5 : Int32))]))
  refine Goes.via (fun _ k => XT.bipushV X.here hx rfl (19 : Int32) (hb hby at_223) (by decide) k) ?_
  show Goes _ _ _ _ _ _ _ _ (T.setTop (mkF m 225 #[.val (.long x0), .second, .val (.int mode), .val (.int d0), .val (.ref pa), .val (.long v), .second, .val (.int (5 : Int32)), .val (.int (1 : Int32)), .unset] [(.int (19 : Int32)), (.int (5 : Int32))]))
  refine Goes.via (fun _ k => XS.icmpNo X.here hx rfl (hb hby at_225) rfl (XT.ii_eq_f (by decide)) k) ?_
  show Goes _ _ _ _ _ _ _ _ (T.setTop (mkF m 228 #[.val (.long x0), .second, .val (.int mode), .val (.int d0), .val (.ref pa), .val (.long v), .second, .val (.int (5 : Int32)), .val (.int (1 : Int32)), .unset] []))
  refine Goes.via (fun _ k => XT.lload X.here hx rfl (hb hby at_228) rfl k) ?_
  show Goes _ _ _ _ _ _ _ _ (T.setTop (mkF m 230 #[.val (.long x0), .second, .val (.int mode), .val (.int d0), .val (.ref pa), .val (.long v), .second, .val (.int (5 : Int32)), .val (.int (1 : Int32)), .unset] [(.long v)]))
  refine Goes.via (fun _ k => XS.aload X.here hx rfl (hb hby at_230) rfl rfl k) ?_
  show Goes _ _ _ _ _ _ _ _ (T.setTop (mkF m 232 #[.val (.long x0), .second, .val (.int mode), .val (.int d0), .val (.ref pa), .val (.long v), .second, .val (.int (5 : Int32)), .val (.int (1 : Int32)), .unset] [(.ref pa), (.long v)]))
  refine Goes.via (fun _ k => XS.iload X.here hx rfl (hb hby at_232) rfl k) ?_
  show Goes _ _ _ _ _ _ _ _ (T.setTop (mkF m 234 #[.val (.long x0), .second, .val (.int mode), .val (.int d0), .val (.ref pa), .val (.long v), .second, .val (.int (5 : Int32)), .val (.int (1 : Int32)), .unset] [(.int (5 : Int32)), (.ref pa), (.long v)]))
  obtain ⟨clq3, Arq3, qq3, Sq3, Nnq3, Hq3, Gq3⟩ := id pf0
  have hinq3 : ¬ ((5 : Int32) < 0 ∨ clq3.slots.size ≤ ((5 : Int32)).toNatClampNeg) := inb_of Sq3 ⟨by decide, by decide⟩
  refine Goes.via (X.laload hx (j := (5 : Int32)) (v := (.long (100000 : Int64))) (by rw [e0]; exact Arq3.1) (State.isArrayOf_alike hZ.alike Arq3.2.1) Arq3.2.2 hinq3 (Hq3.at hinq3 rfl) (g := (mkF m 234 #[.val (.long x0), .second, .val (.int mode), .val (.int d0), .val (.ref pa), .val (.long v), .second, .val (.int (5 : Int32)), .val (.int (1 : Int32)), .unset] [(.int (5 : Int32)), (.ref pa), (.long v)])) rfl rfl (hb hby at_234)) ?_
  show Goes _ _ _ _ _ _ _ _ (T.setTop (mkF m 235 #[.val (.long x0), .second, .val (.int mode), .val (.int d0), .val (.ref pa), .val (.long v), .second, .val (.int (5 : Int32)), .val (.int (1 : Int32)), .unset] [(.long (100000 : Int64)), (.long v)]))
  refine Goes.via (fun _ k => XT.lcmp X.here hx rfl (hb hby at_235) rfl k) ?_
  show Goes _ _ _ _ _ _ _ _ (T.setTop (mkF m 236 #[.val (.long x0), .second, .val (.int mode), .val (.int d0), .val (.ref pa), .val (.long v), .second, .val (.int (5 : Int32)), .val (.int (1 : Int32)), .unset] [(.int (XT.cmpL v (100000 : Int64)))]))
  refine Goes.via (fun _ k => XS.ifNo X.here hx rfl (hb hby at_236) rfl (XT.ll_ge_f hi7) k) ?_
  show Goes _ _ _ _ _ _ _ _ (T.setTop (mkF m 239 #[.val (.long x0), .second, .val (.int mode), .val (.int d0), .val (.ref pa), .val (.long v), .second, .val (.int (5 : Int32)), .val (.int (1 : Int32)), .unset] []))
  refine Goes.via (fun _ k => XT.iconstV X.here hx rfl (1 : Int32) (hb hby at_239) (by decide) k) ?_
  show Goes _ _ _ _ _ _ _ _ (T.setTop (mkF m 240 #[.val (.long x0), .second, .val (.int mode), .val (.int d0), .val (.ref pa), .val (.long v), .second, .val (.int (5 : Int32)), .val (.int (1 : Int32)), .unset] [(.int (1 : Int32))]))
  refine Goes.via (fun _ k => XS.goto X.here hx rfl (pc0 := 240) (pc' := 244) rfl (hb hby at_240) (by decide) (by decide) k) ?_
  show Goes _ _ _ _ _ _ _ _ (T.setTop (mkF m 244 #[.val (.long x0), .second, .val (.int mode), .val (.int d0), .val (.ref pa), .val (.long v), .second, .val (.int (5 : Int32)), .val (.int (1 : Int32)), .unset] [(.int (1 : Int32))]))
  refine Goes.via (fun _ k => XS.istore X.here hx rfl (hb hby at_244) rfl (l' := #[.val (.long x0), .second, .val (.int mode), .val (.int d0), .val (.ref pa), .val (.long v), .second, .val (.int (5 : Int32)), .val (.int (1 : Int32)), .val (.int (1 : Int32))]) rfl k) ?_
  show Goes _ _ _ _ _ _ _ _ (T.setTop (mkF m 246 #[.val (.long x0), .second, .val (.int mode), .val (.int d0), .val (.ref pa), .val (.long v), .second, .val (.int (5 : Int32)), .val (.int (1 : Int32)), .val (.int (1 : Int32))] []))
  refine Goes.via (fun _ k => XS.iload X.here hx rfl (hb hby at_246) rfl k) ?_
  show Goes _ _ _ _ _ _ _ _ (T.setTop (mkF m 248 #[.val (.long x0), .second, .val (.int mode), .val (.int d0), .val (.ref pa), .val (.long v), .second, .val (.int (5 : Int32)), .val (.int (1 : Int32)), .val (.int (1 : Int32))] [(.int (1 : Int32))]))
  refine Goes.via (fun _ k => XS.ifNo X.here hx rfl (hb hby at_248) rfl (XT.i0_eq_f (by decide)) k) ?_
  show Goes _ _ _ _ _ _ _ _ (T.setTop (mkF m 251 #[.val (.long x0), .second, .val (.int mode), .val (.int d0), .val (.ref pa), .val (.long v), .second, .val (.int (5 : Int32)), .val (.int (1 : Int32)), .val (.int (1 : Int32))] []))
  refine Goes.via (fun _ k => XS.iload X.here hx rfl (hb hby at_251) rfl k) ?_
  show Goes _ _ _ _ _ _ _ _ (T.setTop (mkF m 253 #[.val (.long x0), .second, .val (.int mode), .val (.int d0), .val (.ref pa), .val (.long v), .second, .val (.int (5 : Int32)), .val (.int (1 : Int32)), .val (.int (1 : Int32))] [(.int (1 : Int32))]))
  refine Goes.via (fun _ k => XS.ifNo X.here hx rfl (hb hby at_253) rfl (XT.i0_eq_f (by decide)) k) ?_
  show Goes _ _ _ _ _ _ _ _ (T.setTop (mkF m 256 #[.val (.long x0), .second, .val (.int mode), .val (.int d0), .val (.ref pa), .val (.long v), .second, .val (.int (5 : Int32)), .val (.int (1 : Int32)), .val (.int (1 : Int32))] []))
  refine Goes.via (fun _ k => XT.iconstV X.here hx rfl (1 : Int32) (hb hby at_256) (by decide) k) ?_
  show Goes _ _ _ _ _ _ _ _ (T.setTop (mkF m 257 #[.val (.long x0), .second, .val (.int mode), .val (.int d0), .val (.ref pa), .val (.long v), .second, .val (.int (5 : Int32)), .val (.int (1 : Int32)), .val (.int (1 : Int32))] [(.int (1 : Int32))]))
  refine Goes.via (fun _ k => XS.goto X.here hx rfl (pc0 := 257) (pc' := 261) rfl (hb hby at_257) (by decide) (by decide) k) ?_
  show Goes _ _ _ _ _ _ _ _ (T.setTop (mkF m 261 #[.val (.long x0), .second, .val (.int mode), .val (.int d0), .val (.ref pa), .val (.long v), .second, .val (.int (5 : Int32)), .val (.int (1 : Int32)), .val (.int (1 : Int32))] [(.int (1 : Int32))]))
  refine goRetN X hx hrt (by simp) hlk N (by show _ ≤ 16; omega) (by show _ ≤ 128; omega) (hb hby at_261) ?_
  try rw [e0]
  exact rfl
set_option maxRecDepth 65536 in
set_option maxHeartbeats 40000000 in
theorem law_c24 (l : Launch) (Z : State) (aw : Array Value) (hw : ∀ d ∈ tables_1, d.before aw Z = true) (x0 : Int64) (mode : Int32) (d0 : Int32) (ar : Nat) (k0 : ClassId) (pa : Nat) (ka : ClassId) (v : Int64) (s7 : Slot) (s8 : Slot) (s9 : Slot) {p : Program} {e : Env} {s : State} {m : MethodId} {args : Array Value} {below : List Frame} {meth : Method} {c : Code} {T : State} {locs : List Loc} {cells slots n0 : Nat} {h1 : Heap} (hx : p.tables.exec = Jvm.exec) (hby : c.code = code) (hml : c.maxLocals = 10) (hrt : meth.sig.returnType = some .boolean) (hlk : meth.locks = false) (hnm : meth.name = "law") (hZ : Z.Warmed39 s.vm) (hown : s.vm.findClass "com/example/primevertical/primevertical/DecimalTextDigitCountPinLaw" = some m.cls) (X : Stand p l e room_1 s m args below meth c T locs cells slots) (e0 : T.heap = h1) (N : Fr n0 locs) (hcells : cells ≤ 1) (hslots : slots ≤ 19) (O : Old Z n0 h1) (S0 : Sta Z Z.heap "com/example/primevertical/primevertical/DecimalText" "LONG_POWERS_OF_TEN" "[J" (.ref ar)) (V0 : Arv Z Z.heap ar k0 .long (19 : Int32) PW (.long (0 : Int64))) (pf0 : Arv Z h1 pa ka .long (19 : Int32) PW (.long (0 : Int64))) (h_s7 : One s7) (H8 : ∀ z7 z8 : Int32, storeLocals #[.val (.long x0), .second, .val (.int mode), .val (.int d0), .val (.ref pa), .val (.long v), .second, .val (.int z7), s8, s9] 8 (.int z8) = some #[.val (.long x0), .second, .val (.int mode), .val (.int d0), .val (.ref pa), .val (.long v), .second, .val (.int z7), .val (.int z8), .unset]) (lo7 : ¬ v < (100000 : Int64)) (hi7 : v < (1000000 : Int64)) :
    Goes p e below s room_1.cells room_1.slots n0 (fun vv hh => vv = some (.int (1 : Int32))) (T.setTop (mkF m 178 #[.val (.long x0), .second, .val (.int mode), .val (.int d0), .val (.ref pa), .val (.long v), .second, s7, s8, s9] [(.int (6 : Int32))])) := by
  have zO := O.le
  have lt_pa := lt_nat pf0.lt
  show Goes _ _ _ _ _ _ _ _ (T.setTop (mkF m 178 #[.val (.long x0), .second, .val (.int mode), .val (.int d0), .val (.ref pa), .val (.long v), .second, s7, s8, s9] [(.int (6 : Int32))]))
  refine Goes.via (fun _ k => XS.istore X.here hx rfl (hb hby at_178) rfl (l' := #[.val (.long x0), .second, .val (.int mode), .val (.int d0), .val (.ref pa), .val (.long v), .second, .val (.int (6 : Int32)), s8, s9]) (XS.store1 rfl h_s7 rfl) k) ?_
  show Goes _ _ _ _ _ _ _ _ (T.setTop (mkF m 180 #[.val (.long x0), .second, .val (.int mode), .val (.int d0), .val (.ref pa), .val (.long v), .second, .val (.int (6 : Int32)), s8, s9] []))
  refine Goes.via (fun _ k => XS.iload X.here hx rfl (hb hby at_180) rfl k) ?_
  show Goes _ _ _ _ _ _ _ _ (T.setTop (mkF m 182 #[.val (.long x0), .second, .val (.int mode), .val (.int d0), .val (.ref pa), .val (.long v), .second, .val (.int (6 : Int32)), s8, s9] [(.int (6 : Int32))]))
  refine Goes.via (fun _ k => XT.iconstV X.here hx rfl (1 : Int32) (hb hby at_182) (by decide) k) ?_
  show Goes _ _ _ _ _ _ _ _ (T.setTop (mkF m 183 #[.val (.long x0), .second, .val (.int mode), .val (.int d0), .val (.ref pa), .val (.long v), .second, .val (.int (6 : Int32)), s8, s9] [(.int (1 : Int32)), (.int (6 : Int32))]))
  refine Goes.via (fun _ k => XS.icmpNo X.here hx rfl (hb hby at_183) rfl (XT.ii_lt_f (by decide)) k) ?_
  show Goes _ _ _ _ _ _ _ _ (T.setTop (mkF m 186 #[.val (.long x0), .second, .val (.int mode), .val (.int d0), .val (.ref pa), .val (.long v), .second, .val (.int (6 : Int32)), s8, s9] []))
  refine Goes.via (fun _ k => XS.iload X.here hx rfl (hb hby at_186) rfl k) ?_
  show Goes _ _ _ _ _ _ _ _ (T.setTop (mkF m 188 #[.val (.long x0), .second, .val (.int mode), .val (.int d0), .val (.ref pa), .val (.long v), .second, .val (.int (6 : Int32)), s8, s9] [(.int (6 : Int32))]))
  refine Goes.via (fun _ k => XT.bipushV X.here hx rfl (19 : Int32) (hb hby at_188) (by decide) k) ?_
  show Goes _ _ _ _ _ _ _ _ (T.setTop (mkF m 190 #[.val (.long x0), .second, .val (.int mode), .val (.int d0), .val (.ref pa), .val (.long v), .second, .val (.int (6 : Int32)), s8, s9] [(.int (19 : Int32)), (.int (6 : Int32))]))
  refine Goes.via (fun _ k => XS.icmpYes X.here hx rfl (pc0 := 190) (pc' := 195) rfl (hb hby at_190) rfl (XT.ii_le_t (by decide)) (by decide) (by decide) k) ?_
  show Goes _ _ _ _ _ _ _ _ (T.setTop (mkF m 195 #[.val (.long x0), .second, .val (.int mode), .val (.int d0), .val (.ref pa), .val (.long v), .second, .val (.int (6 : Int32)), s8, s9] []))
  refine Goes.via (fun _ k => XS.iload X.here hx rfl (hb hby at_195) rfl k) ?_
  show Goes _ _ _ _ _ _ _ _ (T.setTop (mkF m 197 #[.val (.long x0), .second, .val (.int mode), .val (.int d0), .val (.ref pa), .val (.long v), .second, .val (.int (6 : Int32)), s8, s9] [(.int (6 : Int32))]))
  refine Goes.via (fun _ k => XT.iconstV X.here hx rfl (1 : Int32) (hb hby at_197) (by decide) k) ?_
  show Goes _ _ _ _ _ _ _ _ (T.setTop (mkF m 198 #[.val (.long x0), .second, .val (.int mode), .val (.int d0), .val (.ref pa), .val (.long v), .second, .val (.int (6 : Int32)), s8, s9] [(.int (1 : Int32)), (.int (6 : Int32))]))
  refine Goes.via (fun _ k => XS.icmpNo X.here hx rfl (hb hby at_198) rfl (XT.ii_eq_f (by decide)) k) ?_
  show Goes _ _ _ _ _ _ _ _ (T.setTop (mkF m 201 #[.val (.long x0), .second, .val (.int mode), .val (.int d0), .val (.ref pa), .val (.long v), .second, .val (.int (6 : Int32)), s8, s9] []))
  refine Goes.via (fun _ k => XT.lload X.here hx rfl (hb hby at_201) rfl k) ?_
  show Goes _ _ _ _ _ _ _ _ (T.setTop (mkF m 203 #[.val (.long x0), .second, .val (.int mode), .val (.int d0), .val (.ref pa), .val (.long v), .second, .val (.int (6 : Int32)), s8, s9] [(.long v)]))
  refine Goes.via (fun _ k => XS.aload X.here hx rfl (hb hby at_203) rfl rfl k) ?_
  show Goes _ _ _ _ _ _ _ _ (T.setTop (mkF m 205 #[.val (.long x0), .second, .val (.int mode), .val (.int d0), .val (.ref pa), .val (.long v), .second, .val (.int (6 : Int32)), s8, s9] [(.ref pa), (.long v)]))
  refine Goes.via (fun _ k => XS.iload X.here hx rfl (hb hby at_205) rfl k) ?_
  show Goes _ _ _ _ _ _ _ _ (T.setTop (mkF m 207 #[.val (.long x0), .second, .val (.int mode), .val (.int d0), .val (.ref pa), .val (.long v), .second, .val (.int (6 : Int32)), s8, s9] [(.int (6 : Int32)), (.ref pa), (.long v)]))
  refine Goes.via (fun _ k => XT.iconstV X.here hx rfl (1 : Int32) (hb hby at_207) (by decide) k) ?_
  show Goes _ _ _ _ _ _ _ _ (T.setTop (mkF m 208 #[.val (.long x0), .second, .val (.int mode), .val (.int d0), .val (.ref pa), .val (.long v), .second, .val (.int (6 : Int32)), s8, s9] [(.int (1 : Int32)), (.int (6 : Int32)), (.ref pa), (.long v)]))
  refine Goes.via (fun _ k => XS.isub X.here hx rfl (hb hby at_208) rfl k) ?_
  rw [show ((6 : Int32) - (1 : Int32)) = (5 : Int32) from by decide]
  show Goes _ _ _ _ _ _ _ _ (T.setTop (mkF m 209 #[.val (.long x0), .second, .val (.int mode), .val (.int d0), .val (.ref pa), .val (.long v), .second, .val (.int (6 : Int32)), s8, s9] [(.int (5 : Int32)), (.ref pa), (.long v)]))
  obtain ⟨clq2, Arq2, qq2, Sq2, Nnq2, Hq2, Gq2⟩ := id pf0
  have hinq2 : ¬ ((5 : Int32) < 0 ∨ clq2.slots.size ≤ ((5 : Int32)).toNatClampNeg) := inb_of Sq2 ⟨by decide, by decide⟩
  refine Goes.via (X.laload hx (j := (5 : Int32)) (v := (.long (100000 : Int64))) (by rw [e0]; exact Arq2.1) (State.isArrayOf_alike hZ.alike Arq2.2.1) Arq2.2.2 hinq2 (Hq2.at hinq2 rfl) (g := (mkF m 209 #[.val (.long x0), .second, .val (.int mode), .val (.int d0), .val (.ref pa), .val (.long v), .second, .val (.int (6 : Int32)), s8, s9] [(.int (5 : Int32)), (.ref pa), (.long v)])) rfl rfl (hb hby at_209)) ?_
  show Goes _ _ _ _ _ _ _ _ (T.setTop (mkF m 210 #[.val (.long x0), .second, .val (.int mode), .val (.int d0), .val (.ref pa), .val (.long v), .second, .val (.int (6 : Int32)), s8, s9] [(.long (100000 : Int64)), (.long v)]))
  refine Goes.via (fun _ k => XT.lcmp X.here hx rfl (hb hby at_210) rfl k) ?_
  show Goes _ _ _ _ _ _ _ _ (T.setTop (mkF m 211 #[.val (.long x0), .second, .val (.int mode), .val (.int d0), .val (.ref pa), .val (.long v), .second, .val (.int (6 : Int32)), s8, s9] [(.int (XT.cmpL v (100000 : Int64)))]))
  refine Goes.via (fun _ k => XS.ifNo X.here hx rfl (hb hby at_211) rfl (XT.ll_lt_f lo7) k) ?_
  show Goes _ _ _ _ _ _ _ _ (T.setTop (mkF m 214 #[.val (.long x0), .second, .val (.int mode), .val (.int d0), .val (.ref pa), .val (.long v), .second, .val (.int (6 : Int32)), s8, s9] []))
  refine Goes.via (fun _ k => XT.iconstV X.here hx rfl (1 : Int32) (hb hby at_214) (by decide) k) ?_
  show Goes _ _ _ _ _ _ _ _ (T.setTop (mkF m 215 #[.val (.long x0), .second, .val (.int mode), .val (.int d0), .val (.ref pa), .val (.long v), .second, .val (.int (6 : Int32)), s8, s9] [(.int (1 : Int32))]))
  refine Goes.via (fun _ k => XS.goto X.here hx rfl (pc0 := 215) (pc' := 219) rfl (hb hby at_215) (by decide) (by decide) k) ?_
  show Goes _ _ _ _ _ _ _ _ (T.setTop (mkF m 219 #[.val (.long x0), .second, .val (.int mode), .val (.int d0), .val (.ref pa), .val (.long v), .second, .val (.int (6 : Int32)), s8, s9] [(.int (1 : Int32))]))
  refine Goes.via (fun _ k => XS.istore X.here hx rfl (hb hby at_219) rfl (l' := #[.val (.long x0), .second, .val (.int mode), .val (.int d0), .val (.ref pa), .val (.long v), .second, .val (.int (6 : Int32)), .val (.int (1 : Int32)), .unset]) (H8 _ _) k) ?_
  show Goes _ _ _ _ _ _ _ _ (T.setTop (mkF m 221 #[.val (.long x0), .second, .val (.int mode), .val (.int d0), .val (.ref pa), .val (.long v), .second, .val (.int (6 : Int32)), .val (.int (1 : Int32)), .unset] []))
  refine Goes.via (fun _ k => XS.iload X.here hx rfl (hb hby at_221) rfl k) ?_
  show Goes _ _ _ _ _ _ _ _ (T.setTop (mkF m 223 #[.val (.long x0), .second, .val (.int mode), .val (.int d0), .val (.ref pa), .val (.long v), .second, .val (.int (6 : Int32)), .val (.int (1 : Int32)), .unset] [(.int (6 : Int32))]))
  refine Goes.via (fun _ k => XT.bipushV X.here hx rfl (19 : Int32) (hb hby at_223) (by decide) k) ?_
  show Goes _ _ _ _ _ _ _ _ (T.setTop (mkF m 225 #[.val (.long x0), .second, .val (.int mode), .val (.int d0), .val (.ref pa), .val (.long v), .second, .val (.int (6 : Int32)), .val (.int (1 : Int32)), .unset] [(.int (19 : Int32)), (.int (6 : Int32))]))
  refine Goes.via (fun _ k => XS.icmpNo X.here hx rfl (hb hby at_225) rfl (XT.ii_eq_f (by decide)) k) ?_
  show Goes _ _ _ _ _ _ _ _ (T.setTop (mkF m 228 #[.val (.long x0), .second, .val (.int mode), .val (.int d0), .val (.ref pa), .val (.long v), .second, .val (.int (6 : Int32)), .val (.int (1 : Int32)), .unset] []))
  refine Goes.via (fun _ k => XT.lload X.here hx rfl (hb hby at_228) rfl k) ?_
  show Goes _ _ _ _ _ _ _ _ (T.setTop (mkF m 230 #[.val (.long x0), .second, .val (.int mode), .val (.int d0), .val (.ref pa), .val (.long v), .second, .val (.int (6 : Int32)), .val (.int (1 : Int32)), .unset] [(.long v)]))
  refine Goes.via (fun _ k => XS.aload X.here hx rfl (hb hby at_230) rfl rfl k) ?_
  show Goes _ _ _ _ _ _ _ _ (T.setTop (mkF m 232 #[.val (.long x0), .second, .val (.int mode), .val (.int d0), .val (.ref pa), .val (.long v), .second, .val (.int (6 : Int32)), .val (.int (1 : Int32)), .unset] [(.ref pa), (.long v)]))
  refine Goes.via (fun _ k => XS.iload X.here hx rfl (hb hby at_232) rfl k) ?_
  show Goes _ _ _ _ _ _ _ _ (T.setTop (mkF m 234 #[.val (.long x0), .second, .val (.int mode), .val (.int d0), .val (.ref pa), .val (.long v), .second, .val (.int (6 : Int32)), .val (.int (1 : Int32)), .unset] [(.int (6 : Int32)), (.ref pa), (.long v)]))
  obtain ⟨clq3, Arq3, qq3, Sq3, Nnq3, Hq3, Gq3⟩ := id pf0
  have hinq3 : ¬ ((6 : Int32) < 0 ∨ clq3.slots.size ≤ ((6 : Int32)).toNatClampNeg) := inb_of Sq3 ⟨by decide, by decide⟩
  refine Goes.via (X.laload hx (j := (6 : Int32)) (v := (.long (1000000 : Int64))) (by rw [e0]; exact Arq3.1) (State.isArrayOf_alike hZ.alike Arq3.2.1) Arq3.2.2 hinq3 (Hq3.at hinq3 rfl) (g := (mkF m 234 #[.val (.long x0), .second, .val (.int mode), .val (.int d0), .val (.ref pa), .val (.long v), .second, .val (.int (6 : Int32)), .val (.int (1 : Int32)), .unset] [(.int (6 : Int32)), (.ref pa), (.long v)])) rfl rfl (hb hby at_234)) ?_
  show Goes _ _ _ _ _ _ _ _ (T.setTop (mkF m 235 #[.val (.long x0), .second, .val (.int mode), .val (.int d0), .val (.ref pa), .val (.long v), .second, .val (.int (6 : Int32)), .val (.int (1 : Int32)), .unset] [(.long (1000000 : Int64)), (.long v)]))
  refine Goes.via (fun _ k => XT.lcmp X.here hx rfl (hb hby at_235) rfl k) ?_
  show Goes _ _ _ _ _ _ _ _ (T.setTop (mkF m 236 #[.val (.long x0), .second, .val (.int mode), .val (.int d0), .val (.ref pa), .val (.long v), .second, .val (.int (6 : Int32)), .val (.int (1 : Int32)), .unset] [(.int (XT.cmpL v (1000000 : Int64)))]))
  refine Goes.via (fun _ k => XS.ifNo X.here hx rfl (hb hby at_236) rfl (XT.ll_ge_f hi7) k) ?_
  show Goes _ _ _ _ _ _ _ _ (T.setTop (mkF m 239 #[.val (.long x0), .second, .val (.int mode), .val (.int d0), .val (.ref pa), .val (.long v), .second, .val (.int (6 : Int32)), .val (.int (1 : Int32)), .unset] []))
  refine Goes.via (fun _ k => XT.iconstV X.here hx rfl (1 : Int32) (hb hby at_239) (by decide) k) ?_
  show Goes _ _ _ _ _ _ _ _ (T.setTop (mkF m 240 #[.val (.long x0), .second, .val (.int mode), .val (.int d0), .val (.ref pa), .val (.long v), .second, .val (.int (6 : Int32)), .val (.int (1 : Int32)), .unset] [(.int (1 : Int32))]))
  refine Goes.via (fun _ k => XS.goto X.here hx rfl (pc0 := 240) (pc' := 244) rfl (hb hby at_240) (by decide) (by decide) k) ?_
  show Goes _ _ _ _ _ _ _ _ (T.setTop (mkF m 244 #[.val (.long x0), .second, .val (.int mode), .val (.int d0), .val (.ref pa), .val (.long v), .second, .val (.int (6 : Int32)), .val (.int (1 : Int32)), .unset] [(.int (1 : Int32))]))
  refine Goes.via (fun _ k => XS.istore X.here hx rfl (hb hby at_244) rfl (l' := #[.val (.long x0), .second, .val (.int mode), .val (.int d0), .val (.ref pa), .val (.long v), .second, .val (.int (6 : Int32)), .val (.int (1 : Int32)), .val (.int (1 : Int32))]) rfl k) ?_
  show Goes _ _ _ _ _ _ _ _ (T.setTop (mkF m 246 #[.val (.long x0), .second, .val (.int mode), .val (.int d0), .val (.ref pa), .val (.long v), .second, .val (.int (6 : Int32)), .val (.int (1 : Int32)), .val (.int (1 : Int32))] []))
  refine Goes.via (fun _ k => XS.iload X.here hx rfl (hb hby at_246) rfl k) ?_
  show Goes _ _ _ _ _ _ _ _ (T.setTop (mkF m 248 #[.val (.long x0), .second, .val (.int mode), .val (.int d0), .val (.ref pa), .val (.long v), .second, .val (.int (6 : Int32)), .val (.int (1 : Int32)), .val (.int (1 : Int32))] [(.int (1 : Int32))]))
  refine Goes.via (fun _ k => XS.ifNo X.here hx rfl (hb hby at_248) rfl (XT.i0_eq_f (by decide)) k) ?_
  show Goes _ _ _ _ _ _ _ _ (T.setTop (mkF m 251 #[.val (.long x0), .second, .val (.int mode), .val (.int d0), .val (.ref pa), .val (.long v), .second, .val (.int (6 : Int32)), .val (.int (1 : Int32)), .val (.int (1 : Int32))] []))
  refine Goes.via (fun _ k => XS.iload X.here hx rfl (hb hby at_251) rfl k) ?_
  show Goes _ _ _ _ _ _ _ _ (T.setTop (mkF m 253 #[.val (.long x0), .second, .val (.int mode), .val (.int d0), .val (.ref pa), .val (.long v), .second, .val (.int (6 : Int32)), .val (.int (1 : Int32)), .val (.int (1 : Int32))] [(.int (1 : Int32))]))
  refine Goes.via (fun _ k => XS.ifNo X.here hx rfl (hb hby at_253) rfl (XT.i0_eq_f (by decide)) k) ?_
  show Goes _ _ _ _ _ _ _ _ (T.setTop (mkF m 256 #[.val (.long x0), .second, .val (.int mode), .val (.int d0), .val (.ref pa), .val (.long v), .second, .val (.int (6 : Int32)), .val (.int (1 : Int32)), .val (.int (1 : Int32))] []))
  refine Goes.via (fun _ k => XT.iconstV X.here hx rfl (1 : Int32) (hb hby at_256) (by decide) k) ?_
  show Goes _ _ _ _ _ _ _ _ (T.setTop (mkF m 257 #[.val (.long x0), .second, .val (.int mode), .val (.int d0), .val (.ref pa), .val (.long v), .second, .val (.int (6 : Int32)), .val (.int (1 : Int32)), .val (.int (1 : Int32))] [(.int (1 : Int32))]))
  refine Goes.via (fun _ k => XS.goto X.here hx rfl (pc0 := 257) (pc' := 261) rfl (hb hby at_257) (by decide) (by decide) k) ?_
  show Goes _ _ _ _ _ _ _ _ (T.setTop (mkF m 261 #[.val (.long x0), .second, .val (.int mode), .val (.int d0), .val (.ref pa), .val (.long v), .second, .val (.int (6 : Int32)), .val (.int (1 : Int32)), .val (.int (1 : Int32))] [(.int (1 : Int32))]))
  refine goRetN X hx hrt (by simp) hlk N (by show _ ≤ 16; omega) (by show _ ≤ 128; omega) (hb hby at_261) ?_
  try rw [e0]
  exact rfl
set_option maxRecDepth 65536 in
set_option maxHeartbeats 40000000 in
theorem law_c25 (l : Launch) (Z : State) (aw : Array Value) (hw : ∀ d ∈ tables_1, d.before aw Z = true) (x0 : Int64) (mode : Int32) (d0 : Int32) (ar : Nat) (k0 : ClassId) (pa : Nat) (ka : ClassId) (v : Int64) (s7 : Slot) (s8 : Slot) (s9 : Slot) {p : Program} {e : Env} {s : State} {m : MethodId} {args : Array Value} {below : List Frame} {meth : Method} {c : Code} {T : State} {locs : List Loc} {cells slots n0 : Nat} {h1 : Heap} (hx : p.tables.exec = Jvm.exec) (hby : c.code = code) (hml : c.maxLocals = 10) (hrt : meth.sig.returnType = some .boolean) (hlk : meth.locks = false) (hnm : meth.name = "law") (hZ : Z.Warmed39 s.vm) (hown : s.vm.findClass "com/example/primevertical/primevertical/DecimalTextDigitCountPinLaw" = some m.cls) (X : Stand p l e room_1 s m args below meth c T locs cells slots) (e0 : T.heap = h1) (N : Fr n0 locs) (hcells : cells ≤ 1) (hslots : slots ≤ 19) (O : Old Z n0 h1) (S0 : Sta Z Z.heap "com/example/primevertical/primevertical/DecimalText" "LONG_POWERS_OF_TEN" "[J" (.ref ar)) (V0 : Arv Z Z.heap ar k0 .long (19 : Int32) PW (.long (0 : Int64))) (pf0 : Arv Z h1 pa ka .long (19 : Int32) PW (.long (0 : Int64))) (h_s7 : One s7) (H8 : ∀ z7 z8 : Int32, storeLocals #[.val (.long x0), .second, .val (.int mode), .val (.int d0), .val (.ref pa), .val (.long v), .second, .val (.int z7), s8, s9] 8 (.int z8) = some #[.val (.long x0), .second, .val (.int mode), .val (.int d0), .val (.ref pa), .val (.long v), .second, .val (.int z7), .val (.int z8), .unset]) (lo7 : ¬ v < (1000000 : Int64)) (hi7 : v < (10000000 : Int64)) :
    Goes p e below s room_1.cells room_1.slots n0 (fun vv hh => vv = some (.int (1 : Int32))) (T.setTop (mkF m 178 #[.val (.long x0), .second, .val (.int mode), .val (.int d0), .val (.ref pa), .val (.long v), .second, s7, s8, s9] [(.int (7 : Int32))])) := by
  have zO := O.le
  have lt_pa := lt_nat pf0.lt
  show Goes _ _ _ _ _ _ _ _ (T.setTop (mkF m 178 #[.val (.long x0), .second, .val (.int mode), .val (.int d0), .val (.ref pa), .val (.long v), .second, s7, s8, s9] [(.int (7 : Int32))]))
  refine Goes.via (fun _ k => XS.istore X.here hx rfl (hb hby at_178) rfl (l' := #[.val (.long x0), .second, .val (.int mode), .val (.int d0), .val (.ref pa), .val (.long v), .second, .val (.int (7 : Int32)), s8, s9]) (XS.store1 rfl h_s7 rfl) k) ?_
  show Goes _ _ _ _ _ _ _ _ (T.setTop (mkF m 180 #[.val (.long x0), .second, .val (.int mode), .val (.int d0), .val (.ref pa), .val (.long v), .second, .val (.int (7 : Int32)), s8, s9] []))
  refine Goes.via (fun _ k => XS.iload X.here hx rfl (hb hby at_180) rfl k) ?_
  show Goes _ _ _ _ _ _ _ _ (T.setTop (mkF m 182 #[.val (.long x0), .second, .val (.int mode), .val (.int d0), .val (.ref pa), .val (.long v), .second, .val (.int (7 : Int32)), s8, s9] [(.int (7 : Int32))]))
  refine Goes.via (fun _ k => XT.iconstV X.here hx rfl (1 : Int32) (hb hby at_182) (by decide) k) ?_
  show Goes _ _ _ _ _ _ _ _ (T.setTop (mkF m 183 #[.val (.long x0), .second, .val (.int mode), .val (.int d0), .val (.ref pa), .val (.long v), .second, .val (.int (7 : Int32)), s8, s9] [(.int (1 : Int32)), (.int (7 : Int32))]))
  refine Goes.via (fun _ k => XS.icmpNo X.here hx rfl (hb hby at_183) rfl (XT.ii_lt_f (by decide)) k) ?_
  show Goes _ _ _ _ _ _ _ _ (T.setTop (mkF m 186 #[.val (.long x0), .second, .val (.int mode), .val (.int d0), .val (.ref pa), .val (.long v), .second, .val (.int (7 : Int32)), s8, s9] []))
  refine Goes.via (fun _ k => XS.iload X.here hx rfl (hb hby at_186) rfl k) ?_
  show Goes _ _ _ _ _ _ _ _ (T.setTop (mkF m 188 #[.val (.long x0), .second, .val (.int mode), .val (.int d0), .val (.ref pa), .val (.long v), .second, .val (.int (7 : Int32)), s8, s9] [(.int (7 : Int32))]))
  refine Goes.via (fun _ k => XT.bipushV X.here hx rfl (19 : Int32) (hb hby at_188) (by decide) k) ?_
  show Goes _ _ _ _ _ _ _ _ (T.setTop (mkF m 190 #[.val (.long x0), .second, .val (.int mode), .val (.int d0), .val (.ref pa), .val (.long v), .second, .val (.int (7 : Int32)), s8, s9] [(.int (19 : Int32)), (.int (7 : Int32))]))
  refine Goes.via (fun _ k => XS.icmpYes X.here hx rfl (pc0 := 190) (pc' := 195) rfl (hb hby at_190) rfl (XT.ii_le_t (by decide)) (by decide) (by decide) k) ?_
  show Goes _ _ _ _ _ _ _ _ (T.setTop (mkF m 195 #[.val (.long x0), .second, .val (.int mode), .val (.int d0), .val (.ref pa), .val (.long v), .second, .val (.int (7 : Int32)), s8, s9] []))
  refine Goes.via (fun _ k => XS.iload X.here hx rfl (hb hby at_195) rfl k) ?_
  show Goes _ _ _ _ _ _ _ _ (T.setTop (mkF m 197 #[.val (.long x0), .second, .val (.int mode), .val (.int d0), .val (.ref pa), .val (.long v), .second, .val (.int (7 : Int32)), s8, s9] [(.int (7 : Int32))]))
  refine Goes.via (fun _ k => XT.iconstV X.here hx rfl (1 : Int32) (hb hby at_197) (by decide) k) ?_
  show Goes _ _ _ _ _ _ _ _ (T.setTop (mkF m 198 #[.val (.long x0), .second, .val (.int mode), .val (.int d0), .val (.ref pa), .val (.long v), .second, .val (.int (7 : Int32)), s8, s9] [(.int (1 : Int32)), (.int (7 : Int32))]))
  refine Goes.via (fun _ k => XS.icmpNo X.here hx rfl (hb hby at_198) rfl (XT.ii_eq_f (by decide)) k) ?_
  show Goes _ _ _ _ _ _ _ _ (T.setTop (mkF m 201 #[.val (.long x0), .second, .val (.int mode), .val (.int d0), .val (.ref pa), .val (.long v), .second, .val (.int (7 : Int32)), s8, s9] []))
  refine Goes.via (fun _ k => XT.lload X.here hx rfl (hb hby at_201) rfl k) ?_
  show Goes _ _ _ _ _ _ _ _ (T.setTop (mkF m 203 #[.val (.long x0), .second, .val (.int mode), .val (.int d0), .val (.ref pa), .val (.long v), .second, .val (.int (7 : Int32)), s8, s9] [(.long v)]))
  refine Goes.via (fun _ k => XS.aload X.here hx rfl (hb hby at_203) rfl rfl k) ?_
  show Goes _ _ _ _ _ _ _ _ (T.setTop (mkF m 205 #[.val (.long x0), .second, .val (.int mode), .val (.int d0), .val (.ref pa), .val (.long v), .second, .val (.int (7 : Int32)), s8, s9] [(.ref pa), (.long v)]))
  refine Goes.via (fun _ k => XS.iload X.here hx rfl (hb hby at_205) rfl k) ?_
  show Goes _ _ _ _ _ _ _ _ (T.setTop (mkF m 207 #[.val (.long x0), .second, .val (.int mode), .val (.int d0), .val (.ref pa), .val (.long v), .second, .val (.int (7 : Int32)), s8, s9] [(.int (7 : Int32)), (.ref pa), (.long v)]))
  refine Goes.via (fun _ k => XT.iconstV X.here hx rfl (1 : Int32) (hb hby at_207) (by decide) k) ?_
  show Goes _ _ _ _ _ _ _ _ (T.setTop (mkF m 208 #[.val (.long x0), .second, .val (.int mode), .val (.int d0), .val (.ref pa), .val (.long v), .second, .val (.int (7 : Int32)), s8, s9] [(.int (1 : Int32)), (.int (7 : Int32)), (.ref pa), (.long v)]))
  refine Goes.via (fun _ k => XS.isub X.here hx rfl (hb hby at_208) rfl k) ?_
  rw [show ((7 : Int32) - (1 : Int32)) = (6 : Int32) from by decide]
  show Goes _ _ _ _ _ _ _ _ (T.setTop (mkF m 209 #[.val (.long x0), .second, .val (.int mode), .val (.int d0), .val (.ref pa), .val (.long v), .second, .val (.int (7 : Int32)), s8, s9] [(.int (6 : Int32)), (.ref pa), (.long v)]))
  obtain ⟨clq2, Arq2, qq2, Sq2, Nnq2, Hq2, Gq2⟩ := id pf0
  have hinq2 : ¬ ((6 : Int32) < 0 ∨ clq2.slots.size ≤ ((6 : Int32)).toNatClampNeg) := inb_of Sq2 ⟨by decide, by decide⟩
  refine Goes.via (X.laload hx (j := (6 : Int32)) (v := (.long (1000000 : Int64))) (by rw [e0]; exact Arq2.1) (State.isArrayOf_alike hZ.alike Arq2.2.1) Arq2.2.2 hinq2 (Hq2.at hinq2 rfl) (g := (mkF m 209 #[.val (.long x0), .second, .val (.int mode), .val (.int d0), .val (.ref pa), .val (.long v), .second, .val (.int (7 : Int32)), s8, s9] [(.int (6 : Int32)), (.ref pa), (.long v)])) rfl rfl (hb hby at_209)) ?_
  show Goes _ _ _ _ _ _ _ _ (T.setTop (mkF m 210 #[.val (.long x0), .second, .val (.int mode), .val (.int d0), .val (.ref pa), .val (.long v), .second, .val (.int (7 : Int32)), s8, s9] [(.long (1000000 : Int64)), (.long v)]))
  refine Goes.via (fun _ k => XT.lcmp X.here hx rfl (hb hby at_210) rfl k) ?_
  show Goes _ _ _ _ _ _ _ _ (T.setTop (mkF m 211 #[.val (.long x0), .second, .val (.int mode), .val (.int d0), .val (.ref pa), .val (.long v), .second, .val (.int (7 : Int32)), s8, s9] [(.int (XT.cmpL v (1000000 : Int64)))]))
  refine Goes.via (fun _ k => XS.ifNo X.here hx rfl (hb hby at_211) rfl (XT.ll_lt_f lo7) k) ?_
  show Goes _ _ _ _ _ _ _ _ (T.setTop (mkF m 214 #[.val (.long x0), .second, .val (.int mode), .val (.int d0), .val (.ref pa), .val (.long v), .second, .val (.int (7 : Int32)), s8, s9] []))
  refine Goes.via (fun _ k => XT.iconstV X.here hx rfl (1 : Int32) (hb hby at_214) (by decide) k) ?_
  show Goes _ _ _ _ _ _ _ _ (T.setTop (mkF m 215 #[.val (.long x0), .second, .val (.int mode), .val (.int d0), .val (.ref pa), .val (.long v), .second, .val (.int (7 : Int32)), s8, s9] [(.int (1 : Int32))]))
  refine Goes.via (fun _ k => XS.goto X.here hx rfl (pc0 := 215) (pc' := 219) rfl (hb hby at_215) (by decide) (by decide) k) ?_
  show Goes _ _ _ _ _ _ _ _ (T.setTop (mkF m 219 #[.val (.long x0), .second, .val (.int mode), .val (.int d0), .val (.ref pa), .val (.long v), .second, .val (.int (7 : Int32)), s8, s9] [(.int (1 : Int32))]))
  refine Goes.via (fun _ k => XS.istore X.here hx rfl (hb hby at_219) rfl (l' := #[.val (.long x0), .second, .val (.int mode), .val (.int d0), .val (.ref pa), .val (.long v), .second, .val (.int (7 : Int32)), .val (.int (1 : Int32)), .unset]) (H8 _ _) k) ?_
  show Goes _ _ _ _ _ _ _ _ (T.setTop (mkF m 221 #[.val (.long x0), .second, .val (.int mode), .val (.int d0), .val (.ref pa), .val (.long v), .second, .val (.int (7 : Int32)), .val (.int (1 : Int32)), .unset] []))
  refine Goes.via (fun _ k => XS.iload X.here hx rfl (hb hby at_221) rfl k) ?_
  show Goes _ _ _ _ _ _ _ _ (T.setTop (mkF m 223 #[.val (.long x0), .second, .val (.int mode), .val (.int d0), .val (.ref pa), .val (.long v), .second, .val (.int (7 : Int32)), .val (.int (1 : Int32)), .unset] [(.int (7 : Int32))]))
  refine Goes.via (fun _ k => XT.bipushV X.here hx rfl (19 : Int32) (hb hby at_223) (by decide) k) ?_
  show Goes _ _ _ _ _ _ _ _ (T.setTop (mkF m 225 #[.val (.long x0), .second, .val (.int mode), .val (.int d0), .val (.ref pa), .val (.long v), .second, .val (.int (7 : Int32)), .val (.int (1 : Int32)), .unset] [(.int (19 : Int32)), (.int (7 : Int32))]))
  refine Goes.via (fun _ k => XS.icmpNo X.here hx rfl (hb hby at_225) rfl (XT.ii_eq_f (by decide)) k) ?_
  show Goes _ _ _ _ _ _ _ _ (T.setTop (mkF m 228 #[.val (.long x0), .second, .val (.int mode), .val (.int d0), .val (.ref pa), .val (.long v), .second, .val (.int (7 : Int32)), .val (.int (1 : Int32)), .unset] []))
  refine Goes.via (fun _ k => XT.lload X.here hx rfl (hb hby at_228) rfl k) ?_
  show Goes _ _ _ _ _ _ _ _ (T.setTop (mkF m 230 #[.val (.long x0), .second, .val (.int mode), .val (.int d0), .val (.ref pa), .val (.long v), .second, .val (.int (7 : Int32)), .val (.int (1 : Int32)), .unset] [(.long v)]))
  refine Goes.via (fun _ k => XS.aload X.here hx rfl (hb hby at_230) rfl rfl k) ?_
  show Goes _ _ _ _ _ _ _ _ (T.setTop (mkF m 232 #[.val (.long x0), .second, .val (.int mode), .val (.int d0), .val (.ref pa), .val (.long v), .second, .val (.int (7 : Int32)), .val (.int (1 : Int32)), .unset] [(.ref pa), (.long v)]))
  refine Goes.via (fun _ k => XS.iload X.here hx rfl (hb hby at_232) rfl k) ?_
  show Goes _ _ _ _ _ _ _ _ (T.setTop (mkF m 234 #[.val (.long x0), .second, .val (.int mode), .val (.int d0), .val (.ref pa), .val (.long v), .second, .val (.int (7 : Int32)), .val (.int (1 : Int32)), .unset] [(.int (7 : Int32)), (.ref pa), (.long v)]))
  obtain ⟨clq3, Arq3, qq3, Sq3, Nnq3, Hq3, Gq3⟩ := id pf0
  have hinq3 : ¬ ((7 : Int32) < 0 ∨ clq3.slots.size ≤ ((7 : Int32)).toNatClampNeg) := inb_of Sq3 ⟨by decide, by decide⟩
  refine Goes.via (X.laload hx (j := (7 : Int32)) (v := (.long (10000000 : Int64))) (by rw [e0]; exact Arq3.1) (State.isArrayOf_alike hZ.alike Arq3.2.1) Arq3.2.2 hinq3 (Hq3.at hinq3 rfl) (g := (mkF m 234 #[.val (.long x0), .second, .val (.int mode), .val (.int d0), .val (.ref pa), .val (.long v), .second, .val (.int (7 : Int32)), .val (.int (1 : Int32)), .unset] [(.int (7 : Int32)), (.ref pa), (.long v)])) rfl rfl (hb hby at_234)) ?_
  show Goes _ _ _ _ _ _ _ _ (T.setTop (mkF m 235 #[.val (.long x0), .second, .val (.int mode), .val (.int d0), .val (.ref pa), .val (.long v), .second, .val (.int (7 : Int32)), .val (.int (1 : Int32)), .unset] [(.long (10000000 : Int64)), (.long v)]))
  refine Goes.via (fun _ k => XT.lcmp X.here hx rfl (hb hby at_235) rfl k) ?_
  show Goes _ _ _ _ _ _ _ _ (T.setTop (mkF m 236 #[.val (.long x0), .second, .val (.int mode), .val (.int d0), .val (.ref pa), .val (.long v), .second, .val (.int (7 : Int32)), .val (.int (1 : Int32)), .unset] [(.int (XT.cmpL v (10000000 : Int64)))]))
  refine Goes.via (fun _ k => XS.ifNo X.here hx rfl (hb hby at_236) rfl (XT.ll_ge_f hi7) k) ?_
  show Goes _ _ _ _ _ _ _ _ (T.setTop (mkF m 239 #[.val (.long x0), .second, .val (.int mode), .val (.int d0), .val (.ref pa), .val (.long v), .second, .val (.int (7 : Int32)), .val (.int (1 : Int32)), .unset] []))
  refine Goes.via (fun _ k => XT.iconstV X.here hx rfl (1 : Int32) (hb hby at_239) (by decide) k) ?_
  show Goes _ _ _ _ _ _ _ _ (T.setTop (mkF m 240 #[.val (.long x0), .second, .val (.int mode), .val (.int d0), .val (.ref pa), .val (.long v), .second, .val (.int (7 : Int32)), .val (.int (1 : Int32)), .unset] [(.int (1 : Int32))]))
  refine Goes.via (fun _ k => XS.goto X.here hx rfl (pc0 := 240) (pc' := 244) rfl (hb hby at_240) (by decide) (by decide) k) ?_
  show Goes _ _ _ _ _ _ _ _ (T.setTop (mkF m 244 #[.val (.long x0), .second, .val (.int mode), .val (.int d0), .val (.ref pa), .val (.long v), .second, .val (.int (7 : Int32)), .val (.int (1 : Int32)), .unset] [(.int (1 : Int32))]))
  refine Goes.via (fun _ k => XS.istore X.here hx rfl (hb hby at_244) rfl (l' := #[.val (.long x0), .second, .val (.int mode), .val (.int d0), .val (.ref pa), .val (.long v), .second, .val (.int (7 : Int32)), .val (.int (1 : Int32)), .val (.int (1 : Int32))]) rfl k) ?_
  show Goes _ _ _ _ _ _ _ _ (T.setTop (mkF m 246 #[.val (.long x0), .second, .val (.int mode), .val (.int d0), .val (.ref pa), .val (.long v), .second, .val (.int (7 : Int32)), .val (.int (1 : Int32)), .val (.int (1 : Int32))] []))
  refine Goes.via (fun _ k => XS.iload X.here hx rfl (hb hby at_246) rfl k) ?_
  show Goes _ _ _ _ _ _ _ _ (T.setTop (mkF m 248 #[.val (.long x0), .second, .val (.int mode), .val (.int d0), .val (.ref pa), .val (.long v), .second, .val (.int (7 : Int32)), .val (.int (1 : Int32)), .val (.int (1 : Int32))] [(.int (1 : Int32))]))
  refine Goes.via (fun _ k => XS.ifNo X.here hx rfl (hb hby at_248) rfl (XT.i0_eq_f (by decide)) k) ?_
  show Goes _ _ _ _ _ _ _ _ (T.setTop (mkF m 251 #[.val (.long x0), .second, .val (.int mode), .val (.int d0), .val (.ref pa), .val (.long v), .second, .val (.int (7 : Int32)), .val (.int (1 : Int32)), .val (.int (1 : Int32))] []))
  refine Goes.via (fun _ k => XS.iload X.here hx rfl (hb hby at_251) rfl k) ?_
  show Goes _ _ _ _ _ _ _ _ (T.setTop (mkF m 253 #[.val (.long x0), .second, .val (.int mode), .val (.int d0), .val (.ref pa), .val (.long v), .second, .val (.int (7 : Int32)), .val (.int (1 : Int32)), .val (.int (1 : Int32))] [(.int (1 : Int32))]))
  refine Goes.via (fun _ k => XS.ifNo X.here hx rfl (hb hby at_253) rfl (XT.i0_eq_f (by decide)) k) ?_
  show Goes _ _ _ _ _ _ _ _ (T.setTop (mkF m 256 #[.val (.long x0), .second, .val (.int mode), .val (.int d0), .val (.ref pa), .val (.long v), .second, .val (.int (7 : Int32)), .val (.int (1 : Int32)), .val (.int (1 : Int32))] []))
  refine Goes.via (fun _ k => XT.iconstV X.here hx rfl (1 : Int32) (hb hby at_256) (by decide) k) ?_
  show Goes _ _ _ _ _ _ _ _ (T.setTop (mkF m 257 #[.val (.long x0), .second, .val (.int mode), .val (.int d0), .val (.ref pa), .val (.long v), .second, .val (.int (7 : Int32)), .val (.int (1 : Int32)), .val (.int (1 : Int32))] [(.int (1 : Int32))]))
  refine Goes.via (fun _ k => XS.goto X.here hx rfl (pc0 := 257) (pc' := 261) rfl (hb hby at_257) (by decide) (by decide) k) ?_
  show Goes _ _ _ _ _ _ _ _ (T.setTop (mkF m 261 #[.val (.long x0), .second, .val (.int mode), .val (.int d0), .val (.ref pa), .val (.long v), .second, .val (.int (7 : Int32)), .val (.int (1 : Int32)), .val (.int (1 : Int32))] [(.int (1 : Int32))]))
  refine goRetN X hx hrt (by simp) hlk N (by show _ ≤ 16; omega) (by show _ ≤ 128; omega) (hb hby at_261) ?_
  try rw [e0]
  exact rfl
set_option maxRecDepth 65536 in
set_option maxHeartbeats 40000000 in
theorem law_c26 (l : Launch) (Z : State) (aw : Array Value) (hw : ∀ d ∈ tables_1, d.before aw Z = true) (x0 : Int64) (mode : Int32) (d0 : Int32) (ar : Nat) (k0 : ClassId) (pa : Nat) (ka : ClassId) (v : Int64) (s7 : Slot) (s8 : Slot) (s9 : Slot) {p : Program} {e : Env} {s : State} {m : MethodId} {args : Array Value} {below : List Frame} {meth : Method} {c : Code} {T : State} {locs : List Loc} {cells slots n0 : Nat} {h1 : Heap} (hx : p.tables.exec = Jvm.exec) (hby : c.code = code) (hml : c.maxLocals = 10) (hrt : meth.sig.returnType = some .boolean) (hlk : meth.locks = false) (hnm : meth.name = "law") (hZ : Z.Warmed39 s.vm) (hown : s.vm.findClass "com/example/primevertical/primevertical/DecimalTextDigitCountPinLaw" = some m.cls) (X : Stand p l e room_1 s m args below meth c T locs cells slots) (e0 : T.heap = h1) (N : Fr n0 locs) (hcells : cells ≤ 1) (hslots : slots ≤ 19) (O : Old Z n0 h1) (S0 : Sta Z Z.heap "com/example/primevertical/primevertical/DecimalText" "LONG_POWERS_OF_TEN" "[J" (.ref ar)) (V0 : Arv Z Z.heap ar k0 .long (19 : Int32) PW (.long (0 : Int64))) (pf0 : Arv Z h1 pa ka .long (19 : Int32) PW (.long (0 : Int64))) (h_s7 : One s7) (H8 : ∀ z7 z8 : Int32, storeLocals #[.val (.long x0), .second, .val (.int mode), .val (.int d0), .val (.ref pa), .val (.long v), .second, .val (.int z7), s8, s9] 8 (.int z8) = some #[.val (.long x0), .second, .val (.int mode), .val (.int d0), .val (.ref pa), .val (.long v), .second, .val (.int z7), .val (.int z8), .unset]) (lo7 : ¬ v < (10000000 : Int64)) (hi7 : v < (100000000 : Int64)) :
    Goes p e below s room_1.cells room_1.slots n0 (fun vv hh => vv = some (.int (1 : Int32))) (T.setTop (mkF m 178 #[.val (.long x0), .second, .val (.int mode), .val (.int d0), .val (.ref pa), .val (.long v), .second, s7, s8, s9] [(.int (8 : Int32))])) := by
  have zO := O.le
  have lt_pa := lt_nat pf0.lt
  show Goes _ _ _ _ _ _ _ _ (T.setTop (mkF m 178 #[.val (.long x0), .second, .val (.int mode), .val (.int d0), .val (.ref pa), .val (.long v), .second, s7, s8, s9] [(.int (8 : Int32))]))
  refine Goes.via (fun _ k => XS.istore X.here hx rfl (hb hby at_178) rfl (l' := #[.val (.long x0), .second, .val (.int mode), .val (.int d0), .val (.ref pa), .val (.long v), .second, .val (.int (8 : Int32)), s8, s9]) (XS.store1 rfl h_s7 rfl) k) ?_
  show Goes _ _ _ _ _ _ _ _ (T.setTop (mkF m 180 #[.val (.long x0), .second, .val (.int mode), .val (.int d0), .val (.ref pa), .val (.long v), .second, .val (.int (8 : Int32)), s8, s9] []))
  refine Goes.via (fun _ k => XS.iload X.here hx rfl (hb hby at_180) rfl k) ?_
  show Goes _ _ _ _ _ _ _ _ (T.setTop (mkF m 182 #[.val (.long x0), .second, .val (.int mode), .val (.int d0), .val (.ref pa), .val (.long v), .second, .val (.int (8 : Int32)), s8, s9] [(.int (8 : Int32))]))
  refine Goes.via (fun _ k => XT.iconstV X.here hx rfl (1 : Int32) (hb hby at_182) (by decide) k) ?_
  show Goes _ _ _ _ _ _ _ _ (T.setTop (mkF m 183 #[.val (.long x0), .second, .val (.int mode), .val (.int d0), .val (.ref pa), .val (.long v), .second, .val (.int (8 : Int32)), s8, s9] [(.int (1 : Int32)), (.int (8 : Int32))]))
  refine Goes.via (fun _ k => XS.icmpNo X.here hx rfl (hb hby at_183) rfl (XT.ii_lt_f (by decide)) k) ?_
  show Goes _ _ _ _ _ _ _ _ (T.setTop (mkF m 186 #[.val (.long x0), .second, .val (.int mode), .val (.int d0), .val (.ref pa), .val (.long v), .second, .val (.int (8 : Int32)), s8, s9] []))
  refine Goes.via (fun _ k => XS.iload X.here hx rfl (hb hby at_186) rfl k) ?_
  show Goes _ _ _ _ _ _ _ _ (T.setTop (mkF m 188 #[.val (.long x0), .second, .val (.int mode), .val (.int d0), .val (.ref pa), .val (.long v), .second, .val (.int (8 : Int32)), s8, s9] [(.int (8 : Int32))]))
  refine Goes.via (fun _ k => XT.bipushV X.here hx rfl (19 : Int32) (hb hby at_188) (by decide) k) ?_
  show Goes _ _ _ _ _ _ _ _ (T.setTop (mkF m 190 #[.val (.long x0), .second, .val (.int mode), .val (.int d0), .val (.ref pa), .val (.long v), .second, .val (.int (8 : Int32)), s8, s9] [(.int (19 : Int32)), (.int (8 : Int32))]))
  refine Goes.via (fun _ k => XS.icmpYes X.here hx rfl (pc0 := 190) (pc' := 195) rfl (hb hby at_190) rfl (XT.ii_le_t (by decide)) (by decide) (by decide) k) ?_
  show Goes _ _ _ _ _ _ _ _ (T.setTop (mkF m 195 #[.val (.long x0), .second, .val (.int mode), .val (.int d0), .val (.ref pa), .val (.long v), .second, .val (.int (8 : Int32)), s8, s9] []))
  refine Goes.via (fun _ k => XS.iload X.here hx rfl (hb hby at_195) rfl k) ?_
  show Goes _ _ _ _ _ _ _ _ (T.setTop (mkF m 197 #[.val (.long x0), .second, .val (.int mode), .val (.int d0), .val (.ref pa), .val (.long v), .second, .val (.int (8 : Int32)), s8, s9] [(.int (8 : Int32))]))
  refine Goes.via (fun _ k => XT.iconstV X.here hx rfl (1 : Int32) (hb hby at_197) (by decide) k) ?_
  show Goes _ _ _ _ _ _ _ _ (T.setTop (mkF m 198 #[.val (.long x0), .second, .val (.int mode), .val (.int d0), .val (.ref pa), .val (.long v), .second, .val (.int (8 : Int32)), s8, s9] [(.int (1 : Int32)), (.int (8 : Int32))]))
  refine Goes.via (fun _ k => XS.icmpNo X.here hx rfl (hb hby at_198) rfl (XT.ii_eq_f (by decide)) k) ?_
  show Goes _ _ _ _ _ _ _ _ (T.setTop (mkF m 201 #[.val (.long x0), .second, .val (.int mode), .val (.int d0), .val (.ref pa), .val (.long v), .second, .val (.int (8 : Int32)), s8, s9] []))
  refine Goes.via (fun _ k => XT.lload X.here hx rfl (hb hby at_201) rfl k) ?_
  show Goes _ _ _ _ _ _ _ _ (T.setTop (mkF m 203 #[.val (.long x0), .second, .val (.int mode), .val (.int d0), .val (.ref pa), .val (.long v), .second, .val (.int (8 : Int32)), s8, s9] [(.long v)]))
  refine Goes.via (fun _ k => XS.aload X.here hx rfl (hb hby at_203) rfl rfl k) ?_
  show Goes _ _ _ _ _ _ _ _ (T.setTop (mkF m 205 #[.val (.long x0), .second, .val (.int mode), .val (.int d0), .val (.ref pa), .val (.long v), .second, .val (.int (8 : Int32)), s8, s9] [(.ref pa), (.long v)]))
  refine Goes.via (fun _ k => XS.iload X.here hx rfl (hb hby at_205) rfl k) ?_
  show Goes _ _ _ _ _ _ _ _ (T.setTop (mkF m 207 #[.val (.long x0), .second, .val (.int mode), .val (.int d0), .val (.ref pa), .val (.long v), .second, .val (.int (8 : Int32)), s8, s9] [(.int (8 : Int32)), (.ref pa), (.long v)]))
  refine Goes.via (fun _ k => XT.iconstV X.here hx rfl (1 : Int32) (hb hby at_207) (by decide) k) ?_
  show Goes _ _ _ _ _ _ _ _ (T.setTop (mkF m 208 #[.val (.long x0), .second, .val (.int mode), .val (.int d0), .val (.ref pa), .val (.long v), .second, .val (.int (8 : Int32)), s8, s9] [(.int (1 : Int32)), (.int (8 : Int32)), (.ref pa), (.long v)]))
  refine Goes.via (fun _ k => XS.isub X.here hx rfl (hb hby at_208) rfl k) ?_
  rw [show ((8 : Int32) - (1 : Int32)) = (7 : Int32) from by decide]
  show Goes _ _ _ _ _ _ _ _ (T.setTop (mkF m 209 #[.val (.long x0), .second, .val (.int mode), .val (.int d0), .val (.ref pa), .val (.long v), .second, .val (.int (8 : Int32)), s8, s9] [(.int (7 : Int32)), (.ref pa), (.long v)]))
  obtain ⟨clq2, Arq2, qq2, Sq2, Nnq2, Hq2, Gq2⟩ := id pf0
  have hinq2 : ¬ ((7 : Int32) < 0 ∨ clq2.slots.size ≤ ((7 : Int32)).toNatClampNeg) := inb_of Sq2 ⟨by decide, by decide⟩
  refine Goes.via (X.laload hx (j := (7 : Int32)) (v := (.long (10000000 : Int64))) (by rw [e0]; exact Arq2.1) (State.isArrayOf_alike hZ.alike Arq2.2.1) Arq2.2.2 hinq2 (Hq2.at hinq2 rfl) (g := (mkF m 209 #[.val (.long x0), .second, .val (.int mode), .val (.int d0), .val (.ref pa), .val (.long v), .second, .val (.int (8 : Int32)), s8, s9] [(.int (7 : Int32)), (.ref pa), (.long v)])) rfl rfl (hb hby at_209)) ?_
  show Goes _ _ _ _ _ _ _ _ (T.setTop (mkF m 210 #[.val (.long x0), .second, .val (.int mode), .val (.int d0), .val (.ref pa), .val (.long v), .second, .val (.int (8 : Int32)), s8, s9] [(.long (10000000 : Int64)), (.long v)]))
  refine Goes.via (fun _ k => XT.lcmp X.here hx rfl (hb hby at_210) rfl k) ?_
  show Goes _ _ _ _ _ _ _ _ (T.setTop (mkF m 211 #[.val (.long x0), .second, .val (.int mode), .val (.int d0), .val (.ref pa), .val (.long v), .second, .val (.int (8 : Int32)), s8, s9] [(.int (XT.cmpL v (10000000 : Int64)))]))
  refine Goes.via (fun _ k => XS.ifNo X.here hx rfl (hb hby at_211) rfl (XT.ll_lt_f lo7) k) ?_
  show Goes _ _ _ _ _ _ _ _ (T.setTop (mkF m 214 #[.val (.long x0), .second, .val (.int mode), .val (.int d0), .val (.ref pa), .val (.long v), .second, .val (.int (8 : Int32)), s8, s9] []))
  refine Goes.via (fun _ k => XT.iconstV X.here hx rfl (1 : Int32) (hb hby at_214) (by decide) k) ?_
  show Goes _ _ _ _ _ _ _ _ (T.setTop (mkF m 215 #[.val (.long x0), .second, .val (.int mode), .val (.int d0), .val (.ref pa), .val (.long v), .second, .val (.int (8 : Int32)), s8, s9] [(.int (1 : Int32))]))
  refine Goes.via (fun _ k => XS.goto X.here hx rfl (pc0 := 215) (pc' := 219) rfl (hb hby at_215) (by decide) (by decide) k) ?_
  show Goes _ _ _ _ _ _ _ _ (T.setTop (mkF m 219 #[.val (.long x0), .second, .val (.int mode), .val (.int d0), .val (.ref pa), .val (.long v), .second, .val (.int (8 : Int32)), s8, s9] [(.int (1 : Int32))]))
  refine Goes.via (fun _ k => XS.istore X.here hx rfl (hb hby at_219) rfl (l' := #[.val (.long x0), .second, .val (.int mode), .val (.int d0), .val (.ref pa), .val (.long v), .second, .val (.int (8 : Int32)), .val (.int (1 : Int32)), .unset]) (H8 _ _) k) ?_
  show Goes _ _ _ _ _ _ _ _ (T.setTop (mkF m 221 #[.val (.long x0), .second, .val (.int mode), .val (.int d0), .val (.ref pa), .val (.long v), .second, .val (.int (8 : Int32)), .val (.int (1 : Int32)), .unset] []))
  refine Goes.via (fun _ k => XS.iload X.here hx rfl (hb hby at_221) rfl k) ?_
  show Goes _ _ _ _ _ _ _ _ (T.setTop (mkF m 223 #[.val (.long x0), .second, .val (.int mode), .val (.int d0), .val (.ref pa), .val (.long v), .second, .val (.int (8 : Int32)), .val (.int (1 : Int32)), .unset] [(.int (8 : Int32))]))
  refine Goes.via (fun _ k => XT.bipushV X.here hx rfl (19 : Int32) (hb hby at_223) (by decide) k) ?_
  show Goes _ _ _ _ _ _ _ _ (T.setTop (mkF m 225 #[.val (.long x0), .second, .val (.int mode), .val (.int d0), .val (.ref pa), .val (.long v), .second, .val (.int (8 : Int32)), .val (.int (1 : Int32)), .unset] [(.int (19 : Int32)), (.int (8 : Int32))]))
  refine Goes.via (fun _ k => XS.icmpNo X.here hx rfl (hb hby at_225) rfl (XT.ii_eq_f (by decide)) k) ?_
  show Goes _ _ _ _ _ _ _ _ (T.setTop (mkF m 228 #[.val (.long x0), .second, .val (.int mode), .val (.int d0), .val (.ref pa), .val (.long v), .second, .val (.int (8 : Int32)), .val (.int (1 : Int32)), .unset] []))
  refine Goes.via (fun _ k => XT.lload X.here hx rfl (hb hby at_228) rfl k) ?_
  show Goes _ _ _ _ _ _ _ _ (T.setTop (mkF m 230 #[.val (.long x0), .second, .val (.int mode), .val (.int d0), .val (.ref pa), .val (.long v), .second, .val (.int (8 : Int32)), .val (.int (1 : Int32)), .unset] [(.long v)]))
  refine Goes.via (fun _ k => XS.aload X.here hx rfl (hb hby at_230) rfl rfl k) ?_
  show Goes _ _ _ _ _ _ _ _ (T.setTop (mkF m 232 #[.val (.long x0), .second, .val (.int mode), .val (.int d0), .val (.ref pa), .val (.long v), .second, .val (.int (8 : Int32)), .val (.int (1 : Int32)), .unset] [(.ref pa), (.long v)]))
  refine Goes.via (fun _ k => XS.iload X.here hx rfl (hb hby at_232) rfl k) ?_
  show Goes _ _ _ _ _ _ _ _ (T.setTop (mkF m 234 #[.val (.long x0), .second, .val (.int mode), .val (.int d0), .val (.ref pa), .val (.long v), .second, .val (.int (8 : Int32)), .val (.int (1 : Int32)), .unset] [(.int (8 : Int32)), (.ref pa), (.long v)]))
  obtain ⟨clq3, Arq3, qq3, Sq3, Nnq3, Hq3, Gq3⟩ := id pf0
  have hinq3 : ¬ ((8 : Int32) < 0 ∨ clq3.slots.size ≤ ((8 : Int32)).toNatClampNeg) := inb_of Sq3 ⟨by decide, by decide⟩
  refine Goes.via (X.laload hx (j := (8 : Int32)) (v := (.long (100000000 : Int64))) (by rw [e0]; exact Arq3.1) (State.isArrayOf_alike hZ.alike Arq3.2.1) Arq3.2.2 hinq3 (Hq3.at hinq3 rfl) (g := (mkF m 234 #[.val (.long x0), .second, .val (.int mode), .val (.int d0), .val (.ref pa), .val (.long v), .second, .val (.int (8 : Int32)), .val (.int (1 : Int32)), .unset] [(.int (8 : Int32)), (.ref pa), (.long v)])) rfl rfl (hb hby at_234)) ?_
  show Goes _ _ _ _ _ _ _ _ (T.setTop (mkF m 235 #[.val (.long x0), .second, .val (.int mode), .val (.int d0), .val (.ref pa), .val (.long v), .second, .val (.int (8 : Int32)), .val (.int (1 : Int32)), .unset] [(.long (100000000 : Int64)), (.long v)]))
  refine Goes.via (fun _ k => XT.lcmp X.here hx rfl (hb hby at_235) rfl k) ?_
  show Goes _ _ _ _ _ _ _ _ (T.setTop (mkF m 236 #[.val (.long x0), .second, .val (.int mode), .val (.int d0), .val (.ref pa), .val (.long v), .second, .val (.int (8 : Int32)), .val (.int (1 : Int32)), .unset] [(.int (XT.cmpL v (100000000 : Int64)))]))
  refine Goes.via (fun _ k => XS.ifNo X.here hx rfl (hb hby at_236) rfl (XT.ll_ge_f hi7) k) ?_
  show Goes _ _ _ _ _ _ _ _ (T.setTop (mkF m 239 #[.val (.long x0), .second, .val (.int mode), .val (.int d0), .val (.ref pa), .val (.long v), .second, .val (.int (8 : Int32)), .val (.int (1 : Int32)), .unset] []))
  refine Goes.via (fun _ k => XT.iconstV X.here hx rfl (1 : Int32) (hb hby at_239) (by decide) k) ?_
  show Goes _ _ _ _ _ _ _ _ (T.setTop (mkF m 240 #[.val (.long x0), .second, .val (.int mode), .val (.int d0), .val (.ref pa), .val (.long v), .second, .val (.int (8 : Int32)), .val (.int (1 : Int32)), .unset] [(.int (1 : Int32))]))
  refine Goes.via (fun _ k => XS.goto X.here hx rfl (pc0 := 240) (pc' := 244) rfl (hb hby at_240) (by decide) (by decide) k) ?_
  show Goes _ _ _ _ _ _ _ _ (T.setTop (mkF m 244 #[.val (.long x0), .second, .val (.int mode), .val (.int d0), .val (.ref pa), .val (.long v), .second, .val (.int (8 : Int32)), .val (.int (1 : Int32)), .unset] [(.int (1 : Int32))]))
  refine Goes.via (fun _ k => XS.istore X.here hx rfl (hb hby at_244) rfl (l' := #[.val (.long x0), .second, .val (.int mode), .val (.int d0), .val (.ref pa), .val (.long v), .second, .val (.int (8 : Int32)), .val (.int (1 : Int32)), .val (.int (1 : Int32))]) rfl k) ?_
  show Goes _ _ _ _ _ _ _ _ (T.setTop (mkF m 246 #[.val (.long x0), .second, .val (.int mode), .val (.int d0), .val (.ref pa), .val (.long v), .second, .val (.int (8 : Int32)), .val (.int (1 : Int32)), .val (.int (1 : Int32))] []))
  refine Goes.via (fun _ k => XS.iload X.here hx rfl (hb hby at_246) rfl k) ?_
  show Goes _ _ _ _ _ _ _ _ (T.setTop (mkF m 248 #[.val (.long x0), .second, .val (.int mode), .val (.int d0), .val (.ref pa), .val (.long v), .second, .val (.int (8 : Int32)), .val (.int (1 : Int32)), .val (.int (1 : Int32))] [(.int (1 : Int32))]))
  refine Goes.via (fun _ k => XS.ifNo X.here hx rfl (hb hby at_248) rfl (XT.i0_eq_f (by decide)) k) ?_
  show Goes _ _ _ _ _ _ _ _ (T.setTop (mkF m 251 #[.val (.long x0), .second, .val (.int mode), .val (.int d0), .val (.ref pa), .val (.long v), .second, .val (.int (8 : Int32)), .val (.int (1 : Int32)), .val (.int (1 : Int32))] []))
  refine Goes.via (fun _ k => XS.iload X.here hx rfl (hb hby at_251) rfl k) ?_
  show Goes _ _ _ _ _ _ _ _ (T.setTop (mkF m 253 #[.val (.long x0), .second, .val (.int mode), .val (.int d0), .val (.ref pa), .val (.long v), .second, .val (.int (8 : Int32)), .val (.int (1 : Int32)), .val (.int (1 : Int32))] [(.int (1 : Int32))]))
  refine Goes.via (fun _ k => XS.ifNo X.here hx rfl (hb hby at_253) rfl (XT.i0_eq_f (by decide)) k) ?_
  show Goes _ _ _ _ _ _ _ _ (T.setTop (mkF m 256 #[.val (.long x0), .second, .val (.int mode), .val (.int d0), .val (.ref pa), .val (.long v), .second, .val (.int (8 : Int32)), .val (.int (1 : Int32)), .val (.int (1 : Int32))] []))
  refine Goes.via (fun _ k => XT.iconstV X.here hx rfl (1 : Int32) (hb hby at_256) (by decide) k) ?_
  show Goes _ _ _ _ _ _ _ _ (T.setTop (mkF m 257 #[.val (.long x0), .second, .val (.int mode), .val (.int d0), .val (.ref pa), .val (.long v), .second, .val (.int (8 : Int32)), .val (.int (1 : Int32)), .val (.int (1 : Int32))] [(.int (1 : Int32))]))
  refine Goes.via (fun _ k => XS.goto X.here hx rfl (pc0 := 257) (pc' := 261) rfl (hb hby at_257) (by decide) (by decide) k) ?_
  show Goes _ _ _ _ _ _ _ _ (T.setTop (mkF m 261 #[.val (.long x0), .second, .val (.int mode), .val (.int d0), .val (.ref pa), .val (.long v), .second, .val (.int (8 : Int32)), .val (.int (1 : Int32)), .val (.int (1 : Int32))] [(.int (1 : Int32))]))
  refine goRetN X hx hrt (by simp) hlk N (by show _ ≤ 16; omega) (by show _ ≤ 128; omega) (hb hby at_261) ?_
  try rw [e0]
  exact rfl
set_option maxRecDepth 65536 in
set_option maxHeartbeats 40000000 in
theorem law_c27 (l : Launch) (Z : State) (aw : Array Value) (hw : ∀ d ∈ tables_1, d.before aw Z = true) (x0 : Int64) (mode : Int32) (d0 : Int32) (ar : Nat) (k0 : ClassId) (pa : Nat) (ka : ClassId) (v : Int64) (s7 : Slot) (s8 : Slot) (s9 : Slot) {p : Program} {e : Env} {s : State} {m : MethodId} {args : Array Value} {below : List Frame} {meth : Method} {c : Code} {T : State} {locs : List Loc} {cells slots n0 : Nat} {h1 : Heap} (hx : p.tables.exec = Jvm.exec) (hby : c.code = code) (hml : c.maxLocals = 10) (hrt : meth.sig.returnType = some .boolean) (hlk : meth.locks = false) (hnm : meth.name = "law") (hZ : Z.Warmed39 s.vm) (hown : s.vm.findClass "com/example/primevertical/primevertical/DecimalTextDigitCountPinLaw" = some m.cls) (X : Stand p l e room_1 s m args below meth c T locs cells slots) (e0 : T.heap = h1) (N : Fr n0 locs) (hcells : cells ≤ 1) (hslots : slots ≤ 19) (O : Old Z n0 h1) (S0 : Sta Z Z.heap "com/example/primevertical/primevertical/DecimalText" "LONG_POWERS_OF_TEN" "[J" (.ref ar)) (V0 : Arv Z Z.heap ar k0 .long (19 : Int32) PW (.long (0 : Int64))) (pf0 : Arv Z h1 pa ka .long (19 : Int32) PW (.long (0 : Int64))) (h_s7 : One s7) (H8 : ∀ z7 z8 : Int32, storeLocals #[.val (.long x0), .second, .val (.int mode), .val (.int d0), .val (.ref pa), .val (.long v), .second, .val (.int z7), s8, s9] 8 (.int z8) = some #[.val (.long x0), .second, .val (.int mode), .val (.int d0), .val (.ref pa), .val (.long v), .second, .val (.int z7), .val (.int z8), .unset]) (lo7 : ¬ v < (100000000 : Int64)) (hi7 : v < (1000000000 : Int64)) :
    Goes p e below s room_1.cells room_1.slots n0 (fun vv hh => vv = some (.int (1 : Int32))) (T.setTop (mkF m 178 #[.val (.long x0), .second, .val (.int mode), .val (.int d0), .val (.ref pa), .val (.long v), .second, s7, s8, s9] [(.int (9 : Int32))])) := by
  have zO := O.le
  have lt_pa := lt_nat pf0.lt
  show Goes _ _ _ _ _ _ _ _ (T.setTop (mkF m 178 #[.val (.long x0), .second, .val (.int mode), .val (.int d0), .val (.ref pa), .val (.long v), .second, s7, s8, s9] [(.int (9 : Int32))]))
  refine Goes.via (fun _ k => XS.istore X.here hx rfl (hb hby at_178) rfl (l' := #[.val (.long x0), .second, .val (.int mode), .val (.int d0), .val (.ref pa), .val (.long v), .second, .val (.int (9 : Int32)), s8, s9]) (XS.store1 rfl h_s7 rfl) k) ?_
  show Goes _ _ _ _ _ _ _ _ (T.setTop (mkF m 180 #[.val (.long x0), .second, .val (.int mode), .val (.int d0), .val (.ref pa), .val (.long v), .second, .val (.int (9 : Int32)), s8, s9] []))
  refine Goes.via (fun _ k => XS.iload X.here hx rfl (hb hby at_180) rfl k) ?_
  show Goes _ _ _ _ _ _ _ _ (T.setTop (mkF m 182 #[.val (.long x0), .second, .val (.int mode), .val (.int d0), .val (.ref pa), .val (.long v), .second, .val (.int (9 : Int32)), s8, s9] [(.int (9 : Int32))]))
  refine Goes.via (fun _ k => XT.iconstV X.here hx rfl (1 : Int32) (hb hby at_182) (by decide) k) ?_
  show Goes _ _ _ _ _ _ _ _ (T.setTop (mkF m 183 #[.val (.long x0), .second, .val (.int mode), .val (.int d0), .val (.ref pa), .val (.long v), .second, .val (.int (9 : Int32)), s8, s9] [(.int (1 : Int32)), (.int (9 : Int32))]))
  refine Goes.via (fun _ k => XS.icmpNo X.here hx rfl (hb hby at_183) rfl (XT.ii_lt_f (by decide)) k) ?_
  show Goes _ _ _ _ _ _ _ _ (T.setTop (mkF m 186 #[.val (.long x0), .second, .val (.int mode), .val (.int d0), .val (.ref pa), .val (.long v), .second, .val (.int (9 : Int32)), s8, s9] []))
  refine Goes.via (fun _ k => XS.iload X.here hx rfl (hb hby at_186) rfl k) ?_
  show Goes _ _ _ _ _ _ _ _ (T.setTop (mkF m 188 #[.val (.long x0), .second, .val (.int mode), .val (.int d0), .val (.ref pa), .val (.long v), .second, .val (.int (9 : Int32)), s8, s9] [(.int (9 : Int32))]))
  refine Goes.via (fun _ k => XT.bipushV X.here hx rfl (19 : Int32) (hb hby at_188) (by decide) k) ?_
  show Goes _ _ _ _ _ _ _ _ (T.setTop (mkF m 190 #[.val (.long x0), .second, .val (.int mode), .val (.int d0), .val (.ref pa), .val (.long v), .second, .val (.int (9 : Int32)), s8, s9] [(.int (19 : Int32)), (.int (9 : Int32))]))
  refine Goes.via (fun _ k => XS.icmpYes X.here hx rfl (pc0 := 190) (pc' := 195) rfl (hb hby at_190) rfl (XT.ii_le_t (by decide)) (by decide) (by decide) k) ?_
  show Goes _ _ _ _ _ _ _ _ (T.setTop (mkF m 195 #[.val (.long x0), .second, .val (.int mode), .val (.int d0), .val (.ref pa), .val (.long v), .second, .val (.int (9 : Int32)), s8, s9] []))
  refine Goes.via (fun _ k => XS.iload X.here hx rfl (hb hby at_195) rfl k) ?_
  show Goes _ _ _ _ _ _ _ _ (T.setTop (mkF m 197 #[.val (.long x0), .second, .val (.int mode), .val (.int d0), .val (.ref pa), .val (.long v), .second, .val (.int (9 : Int32)), s8, s9] [(.int (9 : Int32))]))
  refine Goes.via (fun _ k => XT.iconstV X.here hx rfl (1 : Int32) (hb hby at_197) (by decide) k) ?_
  show Goes _ _ _ _ _ _ _ _ (T.setTop (mkF m 198 #[.val (.long x0), .second, .val (.int mode), .val (.int d0), .val (.ref pa), .val (.long v), .second, .val (.int (9 : Int32)), s8, s9] [(.int (1 : Int32)), (.int (9 : Int32))]))
  refine Goes.via (fun _ k => XS.icmpNo X.here hx rfl (hb hby at_198) rfl (XT.ii_eq_f (by decide)) k) ?_
  show Goes _ _ _ _ _ _ _ _ (T.setTop (mkF m 201 #[.val (.long x0), .second, .val (.int mode), .val (.int d0), .val (.ref pa), .val (.long v), .second, .val (.int (9 : Int32)), s8, s9] []))
  refine Goes.via (fun _ k => XT.lload X.here hx rfl (hb hby at_201) rfl k) ?_
  show Goes _ _ _ _ _ _ _ _ (T.setTop (mkF m 203 #[.val (.long x0), .second, .val (.int mode), .val (.int d0), .val (.ref pa), .val (.long v), .second, .val (.int (9 : Int32)), s8, s9] [(.long v)]))
  refine Goes.via (fun _ k => XS.aload X.here hx rfl (hb hby at_203) rfl rfl k) ?_
  show Goes _ _ _ _ _ _ _ _ (T.setTop (mkF m 205 #[.val (.long x0), .second, .val (.int mode), .val (.int d0), .val (.ref pa), .val (.long v), .second, .val (.int (9 : Int32)), s8, s9] [(.ref pa), (.long v)]))
  refine Goes.via (fun _ k => XS.iload X.here hx rfl (hb hby at_205) rfl k) ?_
  show Goes _ _ _ _ _ _ _ _ (T.setTop (mkF m 207 #[.val (.long x0), .second, .val (.int mode), .val (.int d0), .val (.ref pa), .val (.long v), .second, .val (.int (9 : Int32)), s8, s9] [(.int (9 : Int32)), (.ref pa), (.long v)]))
  refine Goes.via (fun _ k => XT.iconstV X.here hx rfl (1 : Int32) (hb hby at_207) (by decide) k) ?_
  show Goes _ _ _ _ _ _ _ _ (T.setTop (mkF m 208 #[.val (.long x0), .second, .val (.int mode), .val (.int d0), .val (.ref pa), .val (.long v), .second, .val (.int (9 : Int32)), s8, s9] [(.int (1 : Int32)), (.int (9 : Int32)), (.ref pa), (.long v)]))
  refine Goes.via (fun _ k => XS.isub X.here hx rfl (hb hby at_208) rfl k) ?_
  rw [show ((9 : Int32) - (1 : Int32)) = (8 : Int32) from by decide]
  show Goes _ _ _ _ _ _ _ _ (T.setTop (mkF m 209 #[.val (.long x0), .second, .val (.int mode), .val (.int d0), .val (.ref pa), .val (.long v), .second, .val (.int (9 : Int32)), s8, s9] [(.int (8 : Int32)), (.ref pa), (.long v)]))
  obtain ⟨clq2, Arq2, qq2, Sq2, Nnq2, Hq2, Gq2⟩ := id pf0
  have hinq2 : ¬ ((8 : Int32) < 0 ∨ clq2.slots.size ≤ ((8 : Int32)).toNatClampNeg) := inb_of Sq2 ⟨by decide, by decide⟩
  refine Goes.via (X.laload hx (j := (8 : Int32)) (v := (.long (100000000 : Int64))) (by rw [e0]; exact Arq2.1) (State.isArrayOf_alike hZ.alike Arq2.2.1) Arq2.2.2 hinq2 (Hq2.at hinq2 rfl) (g := (mkF m 209 #[.val (.long x0), .second, .val (.int mode), .val (.int d0), .val (.ref pa), .val (.long v), .second, .val (.int (9 : Int32)), s8, s9] [(.int (8 : Int32)), (.ref pa), (.long v)])) rfl rfl (hb hby at_209)) ?_
  show Goes _ _ _ _ _ _ _ _ (T.setTop (mkF m 210 #[.val (.long x0), .second, .val (.int mode), .val (.int d0), .val (.ref pa), .val (.long v), .second, .val (.int (9 : Int32)), s8, s9] [(.long (100000000 : Int64)), (.long v)]))
  refine Goes.via (fun _ k => XT.lcmp X.here hx rfl (hb hby at_210) rfl k) ?_
  show Goes _ _ _ _ _ _ _ _ (T.setTop (mkF m 211 #[.val (.long x0), .second, .val (.int mode), .val (.int d0), .val (.ref pa), .val (.long v), .second, .val (.int (9 : Int32)), s8, s9] [(.int (XT.cmpL v (100000000 : Int64)))]))
  refine Goes.via (fun _ k => XS.ifNo X.here hx rfl (hb hby at_211) rfl (XT.ll_lt_f lo7) k) ?_
  show Goes _ _ _ _ _ _ _ _ (T.setTop (mkF m 214 #[.val (.long x0), .second, .val (.int mode), .val (.int d0), .val (.ref pa), .val (.long v), .second, .val (.int (9 : Int32)), s8, s9] []))
  refine Goes.via (fun _ k => XT.iconstV X.here hx rfl (1 : Int32) (hb hby at_214) (by decide) k) ?_
  show Goes _ _ _ _ _ _ _ _ (T.setTop (mkF m 215 #[.val (.long x0), .second, .val (.int mode), .val (.int d0), .val (.ref pa), .val (.long v), .second, .val (.int (9 : Int32)), s8, s9] [(.int (1 : Int32))]))
  refine Goes.via (fun _ k => XS.goto X.here hx rfl (pc0 := 215) (pc' := 219) rfl (hb hby at_215) (by decide) (by decide) k) ?_
  show Goes _ _ _ _ _ _ _ _ (T.setTop (mkF m 219 #[.val (.long x0), .second, .val (.int mode), .val (.int d0), .val (.ref pa), .val (.long v), .second, .val (.int (9 : Int32)), s8, s9] [(.int (1 : Int32))]))
  refine Goes.via (fun _ k => XS.istore X.here hx rfl (hb hby at_219) rfl (l' := #[.val (.long x0), .second, .val (.int mode), .val (.int d0), .val (.ref pa), .val (.long v), .second, .val (.int (9 : Int32)), .val (.int (1 : Int32)), .unset]) (H8 _ _) k) ?_
  show Goes _ _ _ _ _ _ _ _ (T.setTop (mkF m 221 #[.val (.long x0), .second, .val (.int mode), .val (.int d0), .val (.ref pa), .val (.long v), .second, .val (.int (9 : Int32)), .val (.int (1 : Int32)), .unset] []))
  refine Goes.via (fun _ k => XS.iload X.here hx rfl (hb hby at_221) rfl k) ?_
  show Goes _ _ _ _ _ _ _ _ (T.setTop (mkF m 223 #[.val (.long x0), .second, .val (.int mode), .val (.int d0), .val (.ref pa), .val (.long v), .second, .val (.int (9 : Int32)), .val (.int (1 : Int32)), .unset] [(.int (9 : Int32))]))
  refine Goes.via (fun _ k => XT.bipushV X.here hx rfl (19 : Int32) (hb hby at_223) (by decide) k) ?_
  show Goes _ _ _ _ _ _ _ _ (T.setTop (mkF m 225 #[.val (.long x0), .second, .val (.int mode), .val (.int d0), .val (.ref pa), .val (.long v), .second, .val (.int (9 : Int32)), .val (.int (1 : Int32)), .unset] [(.int (19 : Int32)), (.int (9 : Int32))]))
  refine Goes.via (fun _ k => XS.icmpNo X.here hx rfl (hb hby at_225) rfl (XT.ii_eq_f (by decide)) k) ?_
  show Goes _ _ _ _ _ _ _ _ (T.setTop (mkF m 228 #[.val (.long x0), .second, .val (.int mode), .val (.int d0), .val (.ref pa), .val (.long v), .second, .val (.int (9 : Int32)), .val (.int (1 : Int32)), .unset] []))
  refine Goes.via (fun _ k => XT.lload X.here hx rfl (hb hby at_228) rfl k) ?_
  show Goes _ _ _ _ _ _ _ _ (T.setTop (mkF m 230 #[.val (.long x0), .second, .val (.int mode), .val (.int d0), .val (.ref pa), .val (.long v), .second, .val (.int (9 : Int32)), .val (.int (1 : Int32)), .unset] [(.long v)]))
  refine Goes.via (fun _ k => XS.aload X.here hx rfl (hb hby at_230) rfl rfl k) ?_
  show Goes _ _ _ _ _ _ _ _ (T.setTop (mkF m 232 #[.val (.long x0), .second, .val (.int mode), .val (.int d0), .val (.ref pa), .val (.long v), .second, .val (.int (9 : Int32)), .val (.int (1 : Int32)), .unset] [(.ref pa), (.long v)]))
  refine Goes.via (fun _ k => XS.iload X.here hx rfl (hb hby at_232) rfl k) ?_
  show Goes _ _ _ _ _ _ _ _ (T.setTop (mkF m 234 #[.val (.long x0), .second, .val (.int mode), .val (.int d0), .val (.ref pa), .val (.long v), .second, .val (.int (9 : Int32)), .val (.int (1 : Int32)), .unset] [(.int (9 : Int32)), (.ref pa), (.long v)]))
  obtain ⟨clq3, Arq3, qq3, Sq3, Nnq3, Hq3, Gq3⟩ := id pf0
  have hinq3 : ¬ ((9 : Int32) < 0 ∨ clq3.slots.size ≤ ((9 : Int32)).toNatClampNeg) := inb_of Sq3 ⟨by decide, by decide⟩
  refine Goes.via (X.laload hx (j := (9 : Int32)) (v := (.long (1000000000 : Int64))) (by rw [e0]; exact Arq3.1) (State.isArrayOf_alike hZ.alike Arq3.2.1) Arq3.2.2 hinq3 (Hq3.at hinq3 rfl) (g := (mkF m 234 #[.val (.long x0), .second, .val (.int mode), .val (.int d0), .val (.ref pa), .val (.long v), .second, .val (.int (9 : Int32)), .val (.int (1 : Int32)), .unset] [(.int (9 : Int32)), (.ref pa), (.long v)])) rfl rfl (hb hby at_234)) ?_
  show Goes _ _ _ _ _ _ _ _ (T.setTop (mkF m 235 #[.val (.long x0), .second, .val (.int mode), .val (.int d0), .val (.ref pa), .val (.long v), .second, .val (.int (9 : Int32)), .val (.int (1 : Int32)), .unset] [(.long (1000000000 : Int64)), (.long v)]))
  refine Goes.via (fun _ k => XT.lcmp X.here hx rfl (hb hby at_235) rfl k) ?_
  show Goes _ _ _ _ _ _ _ _ (T.setTop (mkF m 236 #[.val (.long x0), .second, .val (.int mode), .val (.int d0), .val (.ref pa), .val (.long v), .second, .val (.int (9 : Int32)), .val (.int (1 : Int32)), .unset] [(.int (XT.cmpL v (1000000000 : Int64)))]))
  refine Goes.via (fun _ k => XS.ifNo X.here hx rfl (hb hby at_236) rfl (XT.ll_ge_f hi7) k) ?_
  show Goes _ _ _ _ _ _ _ _ (T.setTop (mkF m 239 #[.val (.long x0), .second, .val (.int mode), .val (.int d0), .val (.ref pa), .val (.long v), .second, .val (.int (9 : Int32)), .val (.int (1 : Int32)), .unset] []))
  refine Goes.via (fun _ k => XT.iconstV X.here hx rfl (1 : Int32) (hb hby at_239) (by decide) k) ?_
  show Goes _ _ _ _ _ _ _ _ (T.setTop (mkF m 240 #[.val (.long x0), .second, .val (.int mode), .val (.int d0), .val (.ref pa), .val (.long v), .second, .val (.int (9 : Int32)), .val (.int (1 : Int32)), .unset] [(.int (1 : Int32))]))
  refine Goes.via (fun _ k => XS.goto X.here hx rfl (pc0 := 240) (pc' := 244) rfl (hb hby at_240) (by decide) (by decide) k) ?_
  show Goes _ _ _ _ _ _ _ _ (T.setTop (mkF m 244 #[.val (.long x0), .second, .val (.int mode), .val (.int d0), .val (.ref pa), .val (.long v), .second, .val (.int (9 : Int32)), .val (.int (1 : Int32)), .unset] [(.int (1 : Int32))]))
  refine Goes.via (fun _ k => XS.istore X.here hx rfl (hb hby at_244) rfl (l' := #[.val (.long x0), .second, .val (.int mode), .val (.int d0), .val (.ref pa), .val (.long v), .second, .val (.int (9 : Int32)), .val (.int (1 : Int32)), .val (.int (1 : Int32))]) rfl k) ?_
  show Goes _ _ _ _ _ _ _ _ (T.setTop (mkF m 246 #[.val (.long x0), .second, .val (.int mode), .val (.int d0), .val (.ref pa), .val (.long v), .second, .val (.int (9 : Int32)), .val (.int (1 : Int32)), .val (.int (1 : Int32))] []))
  refine Goes.via (fun _ k => XS.iload X.here hx rfl (hb hby at_246) rfl k) ?_
  show Goes _ _ _ _ _ _ _ _ (T.setTop (mkF m 248 #[.val (.long x0), .second, .val (.int mode), .val (.int d0), .val (.ref pa), .val (.long v), .second, .val (.int (9 : Int32)), .val (.int (1 : Int32)), .val (.int (1 : Int32))] [(.int (1 : Int32))]))
  refine Goes.via (fun _ k => XS.ifNo X.here hx rfl (hb hby at_248) rfl (XT.i0_eq_f (by decide)) k) ?_
  show Goes _ _ _ _ _ _ _ _ (T.setTop (mkF m 251 #[.val (.long x0), .second, .val (.int mode), .val (.int d0), .val (.ref pa), .val (.long v), .second, .val (.int (9 : Int32)), .val (.int (1 : Int32)), .val (.int (1 : Int32))] []))
  refine Goes.via (fun _ k => XS.iload X.here hx rfl (hb hby at_251) rfl k) ?_
  show Goes _ _ _ _ _ _ _ _ (T.setTop (mkF m 253 #[.val (.long x0), .second, .val (.int mode), .val (.int d0), .val (.ref pa), .val (.long v), .second, .val (.int (9 : Int32)), .val (.int (1 : Int32)), .val (.int (1 : Int32))] [(.int (1 : Int32))]))
  refine Goes.via (fun _ k => XS.ifNo X.here hx rfl (hb hby at_253) rfl (XT.i0_eq_f (by decide)) k) ?_
  show Goes _ _ _ _ _ _ _ _ (T.setTop (mkF m 256 #[.val (.long x0), .second, .val (.int mode), .val (.int d0), .val (.ref pa), .val (.long v), .second, .val (.int (9 : Int32)), .val (.int (1 : Int32)), .val (.int (1 : Int32))] []))
  refine Goes.via (fun _ k => XT.iconstV X.here hx rfl (1 : Int32) (hb hby at_256) (by decide) k) ?_
  show Goes _ _ _ _ _ _ _ _ (T.setTop (mkF m 257 #[.val (.long x0), .second, .val (.int mode), .val (.int d0), .val (.ref pa), .val (.long v), .second, .val (.int (9 : Int32)), .val (.int (1 : Int32)), .val (.int (1 : Int32))] [(.int (1 : Int32))]))
  refine Goes.via (fun _ k => XS.goto X.here hx rfl (pc0 := 257) (pc' := 261) rfl (hb hby at_257) (by decide) (by decide) k) ?_
  show Goes _ _ _ _ _ _ _ _ (T.setTop (mkF m 261 #[.val (.long x0), .second, .val (.int mode), .val (.int d0), .val (.ref pa), .val (.long v), .second, .val (.int (9 : Int32)), .val (.int (1 : Int32)), .val (.int (1 : Int32))] [(.int (1 : Int32))]))
  refine goRetN X hx hrt (by simp) hlk N (by show _ ≤ 16; omega) (by show _ ≤ 128; omega) (hb hby at_261) ?_
  try rw [e0]
  exact rfl
set_option maxRecDepth 65536 in
set_option maxHeartbeats 40000000 in
theorem law_c28 (l : Launch) (Z : State) (aw : Array Value) (hw : ∀ d ∈ tables_1, d.before aw Z = true) (x0 : Int64) (mode : Int32) (d0 : Int32) (ar : Nat) (k0 : ClassId) (pa : Nat) (ka : ClassId) (v : Int64) (s7 : Slot) (s8 : Slot) (s9 : Slot) {p : Program} {e : Env} {s : State} {m : MethodId} {args : Array Value} {below : List Frame} {meth : Method} {c : Code} {T : State} {locs : List Loc} {cells slots n0 : Nat} {h1 : Heap} (hx : p.tables.exec = Jvm.exec) (hby : c.code = code) (hml : c.maxLocals = 10) (hrt : meth.sig.returnType = some .boolean) (hlk : meth.locks = false) (hnm : meth.name = "law") (hZ : Z.Warmed39 s.vm) (hown : s.vm.findClass "com/example/primevertical/primevertical/DecimalTextDigitCountPinLaw" = some m.cls) (X : Stand p l e room_1 s m args below meth c T locs cells slots) (e0 : T.heap = h1) (N : Fr n0 locs) (hcells : cells ≤ 1) (hslots : slots ≤ 19) (O : Old Z n0 h1) (S0 : Sta Z Z.heap "com/example/primevertical/primevertical/DecimalText" "LONG_POWERS_OF_TEN" "[J" (.ref ar)) (V0 : Arv Z Z.heap ar k0 .long (19 : Int32) PW (.long (0 : Int64))) (pf0 : Arv Z h1 pa ka .long (19 : Int32) PW (.long (0 : Int64))) (h_s7 : One s7) (H8 : ∀ z7 z8 : Int32, storeLocals #[.val (.long x0), .second, .val (.int mode), .val (.int d0), .val (.ref pa), .val (.long v), .second, .val (.int z7), s8, s9] 8 (.int z8) = some #[.val (.long x0), .second, .val (.int mode), .val (.int d0), .val (.ref pa), .val (.long v), .second, .val (.int z7), .val (.int z8), .unset]) (lo7 : ¬ v < (1000000000 : Int64)) (hi7 : v < (10000000000 : Int64)) :
    Goes p e below s room_1.cells room_1.slots n0 (fun vv hh => vv = some (.int (1 : Int32))) (T.setTop (mkF m 178 #[.val (.long x0), .second, .val (.int mode), .val (.int d0), .val (.ref pa), .val (.long v), .second, s7, s8, s9] [(.int (10 : Int32))])) := by
  have zO := O.le
  have lt_pa := lt_nat pf0.lt
  show Goes _ _ _ _ _ _ _ _ (T.setTop (mkF m 178 #[.val (.long x0), .second, .val (.int mode), .val (.int d0), .val (.ref pa), .val (.long v), .second, s7, s8, s9] [(.int (10 : Int32))]))
  refine Goes.via (fun _ k => XS.istore X.here hx rfl (hb hby at_178) rfl (l' := #[.val (.long x0), .second, .val (.int mode), .val (.int d0), .val (.ref pa), .val (.long v), .second, .val (.int (10 : Int32)), s8, s9]) (XS.store1 rfl h_s7 rfl) k) ?_
  show Goes _ _ _ _ _ _ _ _ (T.setTop (mkF m 180 #[.val (.long x0), .second, .val (.int mode), .val (.int d0), .val (.ref pa), .val (.long v), .second, .val (.int (10 : Int32)), s8, s9] []))
  refine Goes.via (fun _ k => XS.iload X.here hx rfl (hb hby at_180) rfl k) ?_
  show Goes _ _ _ _ _ _ _ _ (T.setTop (mkF m 182 #[.val (.long x0), .second, .val (.int mode), .val (.int d0), .val (.ref pa), .val (.long v), .second, .val (.int (10 : Int32)), s8, s9] [(.int (10 : Int32))]))
  refine Goes.via (fun _ k => XT.iconstV X.here hx rfl (1 : Int32) (hb hby at_182) (by decide) k) ?_
  show Goes _ _ _ _ _ _ _ _ (T.setTop (mkF m 183 #[.val (.long x0), .second, .val (.int mode), .val (.int d0), .val (.ref pa), .val (.long v), .second, .val (.int (10 : Int32)), s8, s9] [(.int (1 : Int32)), (.int (10 : Int32))]))
  refine Goes.via (fun _ k => XS.icmpNo X.here hx rfl (hb hby at_183) rfl (XT.ii_lt_f (by decide)) k) ?_
  show Goes _ _ _ _ _ _ _ _ (T.setTop (mkF m 186 #[.val (.long x0), .second, .val (.int mode), .val (.int d0), .val (.ref pa), .val (.long v), .second, .val (.int (10 : Int32)), s8, s9] []))
  refine Goes.via (fun _ k => XS.iload X.here hx rfl (hb hby at_186) rfl k) ?_
  show Goes _ _ _ _ _ _ _ _ (T.setTop (mkF m 188 #[.val (.long x0), .second, .val (.int mode), .val (.int d0), .val (.ref pa), .val (.long v), .second, .val (.int (10 : Int32)), s8, s9] [(.int (10 : Int32))]))
  refine Goes.via (fun _ k => XT.bipushV X.here hx rfl (19 : Int32) (hb hby at_188) (by decide) k) ?_
  show Goes _ _ _ _ _ _ _ _ (T.setTop (mkF m 190 #[.val (.long x0), .second, .val (.int mode), .val (.int d0), .val (.ref pa), .val (.long v), .second, .val (.int (10 : Int32)), s8, s9] [(.int (19 : Int32)), (.int (10 : Int32))]))
  refine Goes.via (fun _ k => XS.icmpYes X.here hx rfl (pc0 := 190) (pc' := 195) rfl (hb hby at_190) rfl (XT.ii_le_t (by decide)) (by decide) (by decide) k) ?_
  show Goes _ _ _ _ _ _ _ _ (T.setTop (mkF m 195 #[.val (.long x0), .second, .val (.int mode), .val (.int d0), .val (.ref pa), .val (.long v), .second, .val (.int (10 : Int32)), s8, s9] []))
  refine Goes.via (fun _ k => XS.iload X.here hx rfl (hb hby at_195) rfl k) ?_
  show Goes _ _ _ _ _ _ _ _ (T.setTop (mkF m 197 #[.val (.long x0), .second, .val (.int mode), .val (.int d0), .val (.ref pa), .val (.long v), .second, .val (.int (10 : Int32)), s8, s9] [(.int (10 : Int32))]))
  refine Goes.via (fun _ k => XT.iconstV X.here hx rfl (1 : Int32) (hb hby at_197) (by decide) k) ?_
  show Goes _ _ _ _ _ _ _ _ (T.setTop (mkF m 198 #[.val (.long x0), .second, .val (.int mode), .val (.int d0), .val (.ref pa), .val (.long v), .second, .val (.int (10 : Int32)), s8, s9] [(.int (1 : Int32)), (.int (10 : Int32))]))
  refine Goes.via (fun _ k => XS.icmpNo X.here hx rfl (hb hby at_198) rfl (XT.ii_eq_f (by decide)) k) ?_
  show Goes _ _ _ _ _ _ _ _ (T.setTop (mkF m 201 #[.val (.long x0), .second, .val (.int mode), .val (.int d0), .val (.ref pa), .val (.long v), .second, .val (.int (10 : Int32)), s8, s9] []))
  refine Goes.via (fun _ k => XT.lload X.here hx rfl (hb hby at_201) rfl k) ?_
  show Goes _ _ _ _ _ _ _ _ (T.setTop (mkF m 203 #[.val (.long x0), .second, .val (.int mode), .val (.int d0), .val (.ref pa), .val (.long v), .second, .val (.int (10 : Int32)), s8, s9] [(.long v)]))
  refine Goes.via (fun _ k => XS.aload X.here hx rfl (hb hby at_203) rfl rfl k) ?_
  show Goes _ _ _ _ _ _ _ _ (T.setTop (mkF m 205 #[.val (.long x0), .second, .val (.int mode), .val (.int d0), .val (.ref pa), .val (.long v), .second, .val (.int (10 : Int32)), s8, s9] [(.ref pa), (.long v)]))
  refine Goes.via (fun _ k => XS.iload X.here hx rfl (hb hby at_205) rfl k) ?_
  show Goes _ _ _ _ _ _ _ _ (T.setTop (mkF m 207 #[.val (.long x0), .second, .val (.int mode), .val (.int d0), .val (.ref pa), .val (.long v), .second, .val (.int (10 : Int32)), s8, s9] [(.int (10 : Int32)), (.ref pa), (.long v)]))
  refine Goes.via (fun _ k => XT.iconstV X.here hx rfl (1 : Int32) (hb hby at_207) (by decide) k) ?_
  show Goes _ _ _ _ _ _ _ _ (T.setTop (mkF m 208 #[.val (.long x0), .second, .val (.int mode), .val (.int d0), .val (.ref pa), .val (.long v), .second, .val (.int (10 : Int32)), s8, s9] [(.int (1 : Int32)), (.int (10 : Int32)), (.ref pa), (.long v)]))
  refine Goes.via (fun _ k => XS.isub X.here hx rfl (hb hby at_208) rfl k) ?_
  rw [show ((10 : Int32) - (1 : Int32)) = (9 : Int32) from by decide]
  show Goes _ _ _ _ _ _ _ _ (T.setTop (mkF m 209 #[.val (.long x0), .second, .val (.int mode), .val (.int d0), .val (.ref pa), .val (.long v), .second, .val (.int (10 : Int32)), s8, s9] [(.int (9 : Int32)), (.ref pa), (.long v)]))
  obtain ⟨clq2, Arq2, qq2, Sq2, Nnq2, Hq2, Gq2⟩ := id pf0
  have hinq2 : ¬ ((9 : Int32) < 0 ∨ clq2.slots.size ≤ ((9 : Int32)).toNatClampNeg) := inb_of Sq2 ⟨by decide, by decide⟩
  refine Goes.via (X.laload hx (j := (9 : Int32)) (v := (.long (1000000000 : Int64))) (by rw [e0]; exact Arq2.1) (State.isArrayOf_alike hZ.alike Arq2.2.1) Arq2.2.2 hinq2 (Hq2.at hinq2 rfl) (g := (mkF m 209 #[.val (.long x0), .second, .val (.int mode), .val (.int d0), .val (.ref pa), .val (.long v), .second, .val (.int (10 : Int32)), s8, s9] [(.int (9 : Int32)), (.ref pa), (.long v)])) rfl rfl (hb hby at_209)) ?_
  show Goes _ _ _ _ _ _ _ _ (T.setTop (mkF m 210 #[.val (.long x0), .second, .val (.int mode), .val (.int d0), .val (.ref pa), .val (.long v), .second, .val (.int (10 : Int32)), s8, s9] [(.long (1000000000 : Int64)), (.long v)]))
  refine Goes.via (fun _ k => XT.lcmp X.here hx rfl (hb hby at_210) rfl k) ?_
  show Goes _ _ _ _ _ _ _ _ (T.setTop (mkF m 211 #[.val (.long x0), .second, .val (.int mode), .val (.int d0), .val (.ref pa), .val (.long v), .second, .val (.int (10 : Int32)), s8, s9] [(.int (XT.cmpL v (1000000000 : Int64)))]))
  refine Goes.via (fun _ k => XS.ifNo X.here hx rfl (hb hby at_211) rfl (XT.ll_lt_f lo7) k) ?_
  show Goes _ _ _ _ _ _ _ _ (T.setTop (mkF m 214 #[.val (.long x0), .second, .val (.int mode), .val (.int d0), .val (.ref pa), .val (.long v), .second, .val (.int (10 : Int32)), s8, s9] []))
  refine Goes.via (fun _ k => XT.iconstV X.here hx rfl (1 : Int32) (hb hby at_214) (by decide) k) ?_
  show Goes _ _ _ _ _ _ _ _ (T.setTop (mkF m 215 #[.val (.long x0), .second, .val (.int mode), .val (.int d0), .val (.ref pa), .val (.long v), .second, .val (.int (10 : Int32)), s8, s9] [(.int (1 : Int32))]))
  refine Goes.via (fun _ k => XS.goto X.here hx rfl (pc0 := 215) (pc' := 219) rfl (hb hby at_215) (by decide) (by decide) k) ?_
  show Goes _ _ _ _ _ _ _ _ (T.setTop (mkF m 219 #[.val (.long x0), .second, .val (.int mode), .val (.int d0), .val (.ref pa), .val (.long v), .second, .val (.int (10 : Int32)), s8, s9] [(.int (1 : Int32))]))
  refine Goes.via (fun _ k => XS.istore X.here hx rfl (hb hby at_219) rfl (l' := #[.val (.long x0), .second, .val (.int mode), .val (.int d0), .val (.ref pa), .val (.long v), .second, .val (.int (10 : Int32)), .val (.int (1 : Int32)), .unset]) (H8 _ _) k) ?_
  show Goes _ _ _ _ _ _ _ _ (T.setTop (mkF m 221 #[.val (.long x0), .second, .val (.int mode), .val (.int d0), .val (.ref pa), .val (.long v), .second, .val (.int (10 : Int32)), .val (.int (1 : Int32)), .unset] []))
  refine Goes.via (fun _ k => XS.iload X.here hx rfl (hb hby at_221) rfl k) ?_
  show Goes _ _ _ _ _ _ _ _ (T.setTop (mkF m 223 #[.val (.long x0), .second, .val (.int mode), .val (.int d0), .val (.ref pa), .val (.long v), .second, .val (.int (10 : Int32)), .val (.int (1 : Int32)), .unset] [(.int (10 : Int32))]))
  refine Goes.via (fun _ k => XT.bipushV X.here hx rfl (19 : Int32) (hb hby at_223) (by decide) k) ?_
  show Goes _ _ _ _ _ _ _ _ (T.setTop (mkF m 225 #[.val (.long x0), .second, .val (.int mode), .val (.int d0), .val (.ref pa), .val (.long v), .second, .val (.int (10 : Int32)), .val (.int (1 : Int32)), .unset] [(.int (19 : Int32)), (.int (10 : Int32))]))
  refine Goes.via (fun _ k => XS.icmpNo X.here hx rfl (hb hby at_225) rfl (XT.ii_eq_f (by decide)) k) ?_
  show Goes _ _ _ _ _ _ _ _ (T.setTop (mkF m 228 #[.val (.long x0), .second, .val (.int mode), .val (.int d0), .val (.ref pa), .val (.long v), .second, .val (.int (10 : Int32)), .val (.int (1 : Int32)), .unset] []))
  refine Goes.via (fun _ k => XT.lload X.here hx rfl (hb hby at_228) rfl k) ?_
  show Goes _ _ _ _ _ _ _ _ (T.setTop (mkF m 230 #[.val (.long x0), .second, .val (.int mode), .val (.int d0), .val (.ref pa), .val (.long v), .second, .val (.int (10 : Int32)), .val (.int (1 : Int32)), .unset] [(.long v)]))
  refine Goes.via (fun _ k => XS.aload X.here hx rfl (hb hby at_230) rfl rfl k) ?_
  show Goes _ _ _ _ _ _ _ _ (T.setTop (mkF m 232 #[.val (.long x0), .second, .val (.int mode), .val (.int d0), .val (.ref pa), .val (.long v), .second, .val (.int (10 : Int32)), .val (.int (1 : Int32)), .unset] [(.ref pa), (.long v)]))
  refine Goes.via (fun _ k => XS.iload X.here hx rfl (hb hby at_232) rfl k) ?_
  show Goes _ _ _ _ _ _ _ _ (T.setTop (mkF m 234 #[.val (.long x0), .second, .val (.int mode), .val (.int d0), .val (.ref pa), .val (.long v), .second, .val (.int (10 : Int32)), .val (.int (1 : Int32)), .unset] [(.int (10 : Int32)), (.ref pa), (.long v)]))
  obtain ⟨clq3, Arq3, qq3, Sq3, Nnq3, Hq3, Gq3⟩ := id pf0
  have hinq3 : ¬ ((10 : Int32) < 0 ∨ clq3.slots.size ≤ ((10 : Int32)).toNatClampNeg) := inb_of Sq3 ⟨by decide, by decide⟩
  refine Goes.via (X.laload hx (j := (10 : Int32)) (v := (.long (10000000000 : Int64))) (by rw [e0]; exact Arq3.1) (State.isArrayOf_alike hZ.alike Arq3.2.1) Arq3.2.2 hinq3 (Hq3.at hinq3 rfl) (g := (mkF m 234 #[.val (.long x0), .second, .val (.int mode), .val (.int d0), .val (.ref pa), .val (.long v), .second, .val (.int (10 : Int32)), .val (.int (1 : Int32)), .unset] [(.int (10 : Int32)), (.ref pa), (.long v)])) rfl rfl (hb hby at_234)) ?_
  show Goes _ _ _ _ _ _ _ _ (T.setTop (mkF m 235 #[.val (.long x0), .second, .val (.int mode), .val (.int d0), .val (.ref pa), .val (.long v), .second, .val (.int (10 : Int32)), .val (.int (1 : Int32)), .unset] [(.long (10000000000 : Int64)), (.long v)]))
  refine Goes.via (fun _ k => XT.lcmp X.here hx rfl (hb hby at_235) rfl k) ?_
  show Goes _ _ _ _ _ _ _ _ (T.setTop (mkF m 236 #[.val (.long x0), .second, .val (.int mode), .val (.int d0), .val (.ref pa), .val (.long v), .second, .val (.int (10 : Int32)), .val (.int (1 : Int32)), .unset] [(.int (XT.cmpL v (10000000000 : Int64)))]))
  refine Goes.via (fun _ k => XS.ifNo X.here hx rfl (hb hby at_236) rfl (XT.ll_ge_f hi7) k) ?_
  show Goes _ _ _ _ _ _ _ _ (T.setTop (mkF m 239 #[.val (.long x0), .second, .val (.int mode), .val (.int d0), .val (.ref pa), .val (.long v), .second, .val (.int (10 : Int32)), .val (.int (1 : Int32)), .unset] []))
  refine Goes.via (fun _ k => XT.iconstV X.here hx rfl (1 : Int32) (hb hby at_239) (by decide) k) ?_
  show Goes _ _ _ _ _ _ _ _ (T.setTop (mkF m 240 #[.val (.long x0), .second, .val (.int mode), .val (.int d0), .val (.ref pa), .val (.long v), .second, .val (.int (10 : Int32)), .val (.int (1 : Int32)), .unset] [(.int (1 : Int32))]))
  refine Goes.via (fun _ k => XS.goto X.here hx rfl (pc0 := 240) (pc' := 244) rfl (hb hby at_240) (by decide) (by decide) k) ?_
  show Goes _ _ _ _ _ _ _ _ (T.setTop (mkF m 244 #[.val (.long x0), .second, .val (.int mode), .val (.int d0), .val (.ref pa), .val (.long v), .second, .val (.int (10 : Int32)), .val (.int (1 : Int32)), .unset] [(.int (1 : Int32))]))
  refine Goes.via (fun _ k => XS.istore X.here hx rfl (hb hby at_244) rfl (l' := #[.val (.long x0), .second, .val (.int mode), .val (.int d0), .val (.ref pa), .val (.long v), .second, .val (.int (10 : Int32)), .val (.int (1 : Int32)), .val (.int (1 : Int32))]) rfl k) ?_
  show Goes _ _ _ _ _ _ _ _ (T.setTop (mkF m 246 #[.val (.long x0), .second, .val (.int mode), .val (.int d0), .val (.ref pa), .val (.long v), .second, .val (.int (10 : Int32)), .val (.int (1 : Int32)), .val (.int (1 : Int32))] []))
  refine Goes.via (fun _ k => XS.iload X.here hx rfl (hb hby at_246) rfl k) ?_
  show Goes _ _ _ _ _ _ _ _ (T.setTop (mkF m 248 #[.val (.long x0), .second, .val (.int mode), .val (.int d0), .val (.ref pa), .val (.long v), .second, .val (.int (10 : Int32)), .val (.int (1 : Int32)), .val (.int (1 : Int32))] [(.int (1 : Int32))]))
  refine Goes.via (fun _ k => XS.ifNo X.here hx rfl (hb hby at_248) rfl (XT.i0_eq_f (by decide)) k) ?_
  show Goes _ _ _ _ _ _ _ _ (T.setTop (mkF m 251 #[.val (.long x0), .second, .val (.int mode), .val (.int d0), .val (.ref pa), .val (.long v), .second, .val (.int (10 : Int32)), .val (.int (1 : Int32)), .val (.int (1 : Int32))] []))
  refine Goes.via (fun _ k => XS.iload X.here hx rfl (hb hby at_251) rfl k) ?_
  show Goes _ _ _ _ _ _ _ _ (T.setTop (mkF m 253 #[.val (.long x0), .second, .val (.int mode), .val (.int d0), .val (.ref pa), .val (.long v), .second, .val (.int (10 : Int32)), .val (.int (1 : Int32)), .val (.int (1 : Int32))] [(.int (1 : Int32))]))
  refine Goes.via (fun _ k => XS.ifNo X.here hx rfl (hb hby at_253) rfl (XT.i0_eq_f (by decide)) k) ?_
  show Goes _ _ _ _ _ _ _ _ (T.setTop (mkF m 256 #[.val (.long x0), .second, .val (.int mode), .val (.int d0), .val (.ref pa), .val (.long v), .second, .val (.int (10 : Int32)), .val (.int (1 : Int32)), .val (.int (1 : Int32))] []))
  refine Goes.via (fun _ k => XT.iconstV X.here hx rfl (1 : Int32) (hb hby at_256) (by decide) k) ?_
  show Goes _ _ _ _ _ _ _ _ (T.setTop (mkF m 257 #[.val (.long x0), .second, .val (.int mode), .val (.int d0), .val (.ref pa), .val (.long v), .second, .val (.int (10 : Int32)), .val (.int (1 : Int32)), .val (.int (1 : Int32))] [(.int (1 : Int32))]))
  refine Goes.via (fun _ k => XS.goto X.here hx rfl (pc0 := 257) (pc' := 261) rfl (hb hby at_257) (by decide) (by decide) k) ?_
  show Goes _ _ _ _ _ _ _ _ (T.setTop (mkF m 261 #[.val (.long x0), .second, .val (.int mode), .val (.int d0), .val (.ref pa), .val (.long v), .second, .val (.int (10 : Int32)), .val (.int (1 : Int32)), .val (.int (1 : Int32))] [(.int (1 : Int32))]))
  refine goRetN X hx hrt (by simp) hlk N (by show _ ≤ 16; omega) (by show _ ≤ 128; omega) (hb hby at_261) ?_
  try rw [e0]
  exact rfl
set_option maxRecDepth 65536 in
set_option maxHeartbeats 40000000 in
theorem law_c29 (l : Launch) (Z : State) (aw : Array Value) (hw : ∀ d ∈ tables_1, d.before aw Z = true) (x0 : Int64) (mode : Int32) (d0 : Int32) (ar : Nat) (k0 : ClassId) (pa : Nat) (ka : ClassId) (v : Int64) (s7 : Slot) (s8 : Slot) (s9 : Slot) {p : Program} {e : Env} {s : State} {m : MethodId} {args : Array Value} {below : List Frame} {meth : Method} {c : Code} {T : State} {locs : List Loc} {cells slots n0 : Nat} {h1 : Heap} (hx : p.tables.exec = Jvm.exec) (hby : c.code = code) (hml : c.maxLocals = 10) (hrt : meth.sig.returnType = some .boolean) (hlk : meth.locks = false) (hnm : meth.name = "law") (hZ : Z.Warmed39 s.vm) (hown : s.vm.findClass "com/example/primevertical/primevertical/DecimalTextDigitCountPinLaw" = some m.cls) (X : Stand p l e room_1 s m args below meth c T locs cells slots) (e0 : T.heap = h1) (N : Fr n0 locs) (hcells : cells ≤ 1) (hslots : slots ≤ 19) (O : Old Z n0 h1) (S0 : Sta Z Z.heap "com/example/primevertical/primevertical/DecimalText" "LONG_POWERS_OF_TEN" "[J" (.ref ar)) (V0 : Arv Z Z.heap ar k0 .long (19 : Int32) PW (.long (0 : Int64))) (pf0 : Arv Z h1 pa ka .long (19 : Int32) PW (.long (0 : Int64))) (h_s7 : One s7) (H8 : ∀ z7 z8 : Int32, storeLocals #[.val (.long x0), .second, .val (.int mode), .val (.int d0), .val (.ref pa), .val (.long v), .second, .val (.int z7), s8, s9] 8 (.int z8) = some #[.val (.long x0), .second, .val (.int mode), .val (.int d0), .val (.ref pa), .val (.long v), .second, .val (.int z7), .val (.int z8), .unset]) (lo7 : ¬ v < (10000000000 : Int64)) (hi7 : v < (100000000000 : Int64)) :
    Goes p e below s room_1.cells room_1.slots n0 (fun vv hh => vv = some (.int (1 : Int32))) (T.setTop (mkF m 178 #[.val (.long x0), .second, .val (.int mode), .val (.int d0), .val (.ref pa), .val (.long v), .second, s7, s8, s9] [(.int (11 : Int32))])) := by
  have zO := O.le
  have lt_pa := lt_nat pf0.lt
  show Goes _ _ _ _ _ _ _ _ (T.setTop (mkF m 178 #[.val (.long x0), .second, .val (.int mode), .val (.int d0), .val (.ref pa), .val (.long v), .second, s7, s8, s9] [(.int (11 : Int32))]))
  refine Goes.via (fun _ k => XS.istore X.here hx rfl (hb hby at_178) rfl (l' := #[.val (.long x0), .second, .val (.int mode), .val (.int d0), .val (.ref pa), .val (.long v), .second, .val (.int (11 : Int32)), s8, s9]) (XS.store1 rfl h_s7 rfl) k) ?_
  show Goes _ _ _ _ _ _ _ _ (T.setTop (mkF m 180 #[.val (.long x0), .second, .val (.int mode), .val (.int d0), .val (.ref pa), .val (.long v), .second, .val (.int (11 : Int32)), s8, s9] []))
  refine Goes.via (fun _ k => XS.iload X.here hx rfl (hb hby at_180) rfl k) ?_
  show Goes _ _ _ _ _ _ _ _ (T.setTop (mkF m 182 #[.val (.long x0), .second, .val (.int mode), .val (.int d0), .val (.ref pa), .val (.long v), .second, .val (.int (11 : Int32)), s8, s9] [(.int (11 : Int32))]))
  refine Goes.via (fun _ k => XT.iconstV X.here hx rfl (1 : Int32) (hb hby at_182) (by decide) k) ?_
  show Goes _ _ _ _ _ _ _ _ (T.setTop (mkF m 183 #[.val (.long x0), .second, .val (.int mode), .val (.int d0), .val (.ref pa), .val (.long v), .second, .val (.int (11 : Int32)), s8, s9] [(.int (1 : Int32)), (.int (11 : Int32))]))
  refine Goes.via (fun _ k => XS.icmpNo X.here hx rfl (hb hby at_183) rfl (XT.ii_lt_f (by decide)) k) ?_
  show Goes _ _ _ _ _ _ _ _ (T.setTop (mkF m 186 #[.val (.long x0), .second, .val (.int mode), .val (.int d0), .val (.ref pa), .val (.long v), .second, .val (.int (11 : Int32)), s8, s9] []))
  refine Goes.via (fun _ k => XS.iload X.here hx rfl (hb hby at_186) rfl k) ?_
  show Goes _ _ _ _ _ _ _ _ (T.setTop (mkF m 188 #[.val (.long x0), .second, .val (.int mode), .val (.int d0), .val (.ref pa), .val (.long v), .second, .val (.int (11 : Int32)), s8, s9] [(.int (11 : Int32))]))
  refine Goes.via (fun _ k => XT.bipushV X.here hx rfl (19 : Int32) (hb hby at_188) (by decide) k) ?_
  show Goes _ _ _ _ _ _ _ _ (T.setTop (mkF m 190 #[.val (.long x0), .second, .val (.int mode), .val (.int d0), .val (.ref pa), .val (.long v), .second, .val (.int (11 : Int32)), s8, s9] [(.int (19 : Int32)), (.int (11 : Int32))]))
  refine Goes.via (fun _ k => XS.icmpYes X.here hx rfl (pc0 := 190) (pc' := 195) rfl (hb hby at_190) rfl (XT.ii_le_t (by decide)) (by decide) (by decide) k) ?_
  show Goes _ _ _ _ _ _ _ _ (T.setTop (mkF m 195 #[.val (.long x0), .second, .val (.int mode), .val (.int d0), .val (.ref pa), .val (.long v), .second, .val (.int (11 : Int32)), s8, s9] []))
  refine Goes.via (fun _ k => XS.iload X.here hx rfl (hb hby at_195) rfl k) ?_
  show Goes _ _ _ _ _ _ _ _ (T.setTop (mkF m 197 #[.val (.long x0), .second, .val (.int mode), .val (.int d0), .val (.ref pa), .val (.long v), .second, .val (.int (11 : Int32)), s8, s9] [(.int (11 : Int32))]))
  refine Goes.via (fun _ k => XT.iconstV X.here hx rfl (1 : Int32) (hb hby at_197) (by decide) k) ?_
  show Goes _ _ _ _ _ _ _ _ (T.setTop (mkF m 198 #[.val (.long x0), .second, .val (.int mode), .val (.int d0), .val (.ref pa), .val (.long v), .second, .val (.int (11 : Int32)), s8, s9] [(.int (1 : Int32)), (.int (11 : Int32))]))
  refine Goes.via (fun _ k => XS.icmpNo X.here hx rfl (hb hby at_198) rfl (XT.ii_eq_f (by decide)) k) ?_
  show Goes _ _ _ _ _ _ _ _ (T.setTop (mkF m 201 #[.val (.long x0), .second, .val (.int mode), .val (.int d0), .val (.ref pa), .val (.long v), .second, .val (.int (11 : Int32)), s8, s9] []))
  refine Goes.via (fun _ k => XT.lload X.here hx rfl (hb hby at_201) rfl k) ?_
  show Goes _ _ _ _ _ _ _ _ (T.setTop (mkF m 203 #[.val (.long x0), .second, .val (.int mode), .val (.int d0), .val (.ref pa), .val (.long v), .second, .val (.int (11 : Int32)), s8, s9] [(.long v)]))
  refine Goes.via (fun _ k => XS.aload X.here hx rfl (hb hby at_203) rfl rfl k) ?_
  show Goes _ _ _ _ _ _ _ _ (T.setTop (mkF m 205 #[.val (.long x0), .second, .val (.int mode), .val (.int d0), .val (.ref pa), .val (.long v), .second, .val (.int (11 : Int32)), s8, s9] [(.ref pa), (.long v)]))
  refine Goes.via (fun _ k => XS.iload X.here hx rfl (hb hby at_205) rfl k) ?_
  show Goes _ _ _ _ _ _ _ _ (T.setTop (mkF m 207 #[.val (.long x0), .second, .val (.int mode), .val (.int d0), .val (.ref pa), .val (.long v), .second, .val (.int (11 : Int32)), s8, s9] [(.int (11 : Int32)), (.ref pa), (.long v)]))
  refine Goes.via (fun _ k => XT.iconstV X.here hx rfl (1 : Int32) (hb hby at_207) (by decide) k) ?_
  show Goes _ _ _ _ _ _ _ _ (T.setTop (mkF m 208 #[.val (.long x0), .second, .val (.int mode), .val (.int d0), .val (.ref pa), .val (.long v), .second, .val (.int (11 : Int32)), s8, s9] [(.int (1 : Int32)), (.int (11 : Int32)), (.ref pa), (.long v)]))
  refine Goes.via (fun _ k => XS.isub X.here hx rfl (hb hby at_208) rfl k) ?_
  rw [show ((11 : Int32) - (1 : Int32)) = (10 : Int32) from by decide]
  show Goes _ _ _ _ _ _ _ _ (T.setTop (mkF m 209 #[.val (.long x0), .second, .val (.int mode), .val (.int d0), .val (.ref pa), .val (.long v), .second, .val (.int (11 : Int32)), s8, s9] [(.int (10 : Int32)), (.ref pa), (.long v)]))
  obtain ⟨clq2, Arq2, qq2, Sq2, Nnq2, Hq2, Gq2⟩ := id pf0
  have hinq2 : ¬ ((10 : Int32) < 0 ∨ clq2.slots.size ≤ ((10 : Int32)).toNatClampNeg) := inb_of Sq2 ⟨by decide, by decide⟩
  refine Goes.via (X.laload hx (j := (10 : Int32)) (v := (.long (10000000000 : Int64))) (by rw [e0]; exact Arq2.1) (State.isArrayOf_alike hZ.alike Arq2.2.1) Arq2.2.2 hinq2 (Hq2.at hinq2 rfl) (g := (mkF m 209 #[.val (.long x0), .second, .val (.int mode), .val (.int d0), .val (.ref pa), .val (.long v), .second, .val (.int (11 : Int32)), s8, s9] [(.int (10 : Int32)), (.ref pa), (.long v)])) rfl rfl (hb hby at_209)) ?_
  show Goes _ _ _ _ _ _ _ _ (T.setTop (mkF m 210 #[.val (.long x0), .second, .val (.int mode), .val (.int d0), .val (.ref pa), .val (.long v), .second, .val (.int (11 : Int32)), s8, s9] [(.long (10000000000 : Int64)), (.long v)]))
  refine Goes.via (fun _ k => XT.lcmp X.here hx rfl (hb hby at_210) rfl k) ?_
  show Goes _ _ _ _ _ _ _ _ (T.setTop (mkF m 211 #[.val (.long x0), .second, .val (.int mode), .val (.int d0), .val (.ref pa), .val (.long v), .second, .val (.int (11 : Int32)), s8, s9] [(.int (XT.cmpL v (10000000000 : Int64)))]))
  refine Goes.via (fun _ k => XS.ifNo X.here hx rfl (hb hby at_211) rfl (XT.ll_lt_f lo7) k) ?_
  show Goes _ _ _ _ _ _ _ _ (T.setTop (mkF m 214 #[.val (.long x0), .second, .val (.int mode), .val (.int d0), .val (.ref pa), .val (.long v), .second, .val (.int (11 : Int32)), s8, s9] []))
  refine Goes.via (fun _ k => XT.iconstV X.here hx rfl (1 : Int32) (hb hby at_214) (by decide) k) ?_
  show Goes _ _ _ _ _ _ _ _ (T.setTop (mkF m 215 #[.val (.long x0), .second, .val (.int mode), .val (.int d0), .val (.ref pa), .val (.long v), .second, .val (.int (11 : Int32)), s8, s9] [(.int (1 : Int32))]))
  refine Goes.via (fun _ k => XS.goto X.here hx rfl (pc0 := 215) (pc' := 219) rfl (hb hby at_215) (by decide) (by decide) k) ?_
  show Goes _ _ _ _ _ _ _ _ (T.setTop (mkF m 219 #[.val (.long x0), .second, .val (.int mode), .val (.int d0), .val (.ref pa), .val (.long v), .second, .val (.int (11 : Int32)), s8, s9] [(.int (1 : Int32))]))
  refine Goes.via (fun _ k => XS.istore X.here hx rfl (hb hby at_219) rfl (l' := #[.val (.long x0), .second, .val (.int mode), .val (.int d0), .val (.ref pa), .val (.long v), .second, .val (.int (11 : Int32)), .val (.int (1 : Int32)), .unset]) (H8 _ _) k) ?_
  show Goes _ _ _ _ _ _ _ _ (T.setTop (mkF m 221 #[.val (.long x0), .second, .val (.int mode), .val (.int d0), .val (.ref pa), .val (.long v), .second, .val (.int (11 : Int32)), .val (.int (1 : Int32)), .unset] []))
  refine Goes.via (fun _ k => XS.iload X.here hx rfl (hb hby at_221) rfl k) ?_
  show Goes _ _ _ _ _ _ _ _ (T.setTop (mkF m 223 #[.val (.long x0), .second, .val (.int mode), .val (.int d0), .val (.ref pa), .val (.long v), .second, .val (.int (11 : Int32)), .val (.int (1 : Int32)), .unset] [(.int (11 : Int32))]))
  refine Goes.via (fun _ k => XT.bipushV X.here hx rfl (19 : Int32) (hb hby at_223) (by decide) k) ?_
  show Goes _ _ _ _ _ _ _ _ (T.setTop (mkF m 225 #[.val (.long x0), .second, .val (.int mode), .val (.int d0), .val (.ref pa), .val (.long v), .second, .val (.int (11 : Int32)), .val (.int (1 : Int32)), .unset] [(.int (19 : Int32)), (.int (11 : Int32))]))
  refine Goes.via (fun _ k => XS.icmpNo X.here hx rfl (hb hby at_225) rfl (XT.ii_eq_f (by decide)) k) ?_
  show Goes _ _ _ _ _ _ _ _ (T.setTop (mkF m 228 #[.val (.long x0), .second, .val (.int mode), .val (.int d0), .val (.ref pa), .val (.long v), .second, .val (.int (11 : Int32)), .val (.int (1 : Int32)), .unset] []))
  refine Goes.via (fun _ k => XT.lload X.here hx rfl (hb hby at_228) rfl k) ?_
  show Goes _ _ _ _ _ _ _ _ (T.setTop (mkF m 230 #[.val (.long x0), .second, .val (.int mode), .val (.int d0), .val (.ref pa), .val (.long v), .second, .val (.int (11 : Int32)), .val (.int (1 : Int32)), .unset] [(.long v)]))
  refine Goes.via (fun _ k => XS.aload X.here hx rfl (hb hby at_230) rfl rfl k) ?_
  show Goes _ _ _ _ _ _ _ _ (T.setTop (mkF m 232 #[.val (.long x0), .second, .val (.int mode), .val (.int d0), .val (.ref pa), .val (.long v), .second, .val (.int (11 : Int32)), .val (.int (1 : Int32)), .unset] [(.ref pa), (.long v)]))
  refine Goes.via (fun _ k => XS.iload X.here hx rfl (hb hby at_232) rfl k) ?_
  show Goes _ _ _ _ _ _ _ _ (T.setTop (mkF m 234 #[.val (.long x0), .second, .val (.int mode), .val (.int d0), .val (.ref pa), .val (.long v), .second, .val (.int (11 : Int32)), .val (.int (1 : Int32)), .unset] [(.int (11 : Int32)), (.ref pa), (.long v)]))
  obtain ⟨clq3, Arq3, qq3, Sq3, Nnq3, Hq3, Gq3⟩ := id pf0
  have hinq3 : ¬ ((11 : Int32) < 0 ∨ clq3.slots.size ≤ ((11 : Int32)).toNatClampNeg) := inb_of Sq3 ⟨by decide, by decide⟩
  refine Goes.via (X.laload hx (j := (11 : Int32)) (v := (.long (100000000000 : Int64))) (by rw [e0]; exact Arq3.1) (State.isArrayOf_alike hZ.alike Arq3.2.1) Arq3.2.2 hinq3 (Hq3.at hinq3 rfl) (g := (mkF m 234 #[.val (.long x0), .second, .val (.int mode), .val (.int d0), .val (.ref pa), .val (.long v), .second, .val (.int (11 : Int32)), .val (.int (1 : Int32)), .unset] [(.int (11 : Int32)), (.ref pa), (.long v)])) rfl rfl (hb hby at_234)) ?_
  show Goes _ _ _ _ _ _ _ _ (T.setTop (mkF m 235 #[.val (.long x0), .second, .val (.int mode), .val (.int d0), .val (.ref pa), .val (.long v), .second, .val (.int (11 : Int32)), .val (.int (1 : Int32)), .unset] [(.long (100000000000 : Int64)), (.long v)]))
  refine Goes.via (fun _ k => XT.lcmp X.here hx rfl (hb hby at_235) rfl k) ?_
  show Goes _ _ _ _ _ _ _ _ (T.setTop (mkF m 236 #[.val (.long x0), .second, .val (.int mode), .val (.int d0), .val (.ref pa), .val (.long v), .second, .val (.int (11 : Int32)), .val (.int (1 : Int32)), .unset] [(.int (XT.cmpL v (100000000000 : Int64)))]))
  refine Goes.via (fun _ k => XS.ifNo X.here hx rfl (hb hby at_236) rfl (XT.ll_ge_f hi7) k) ?_
  show Goes _ _ _ _ _ _ _ _ (T.setTop (mkF m 239 #[.val (.long x0), .second, .val (.int mode), .val (.int d0), .val (.ref pa), .val (.long v), .second, .val (.int (11 : Int32)), .val (.int (1 : Int32)), .unset] []))
  refine Goes.via (fun _ k => XT.iconstV X.here hx rfl (1 : Int32) (hb hby at_239) (by decide) k) ?_
  show Goes _ _ _ _ _ _ _ _ (T.setTop (mkF m 240 #[.val (.long x0), .second, .val (.int mode), .val (.int d0), .val (.ref pa), .val (.long v), .second, .val (.int (11 : Int32)), .val (.int (1 : Int32)), .unset] [(.int (1 : Int32))]))
  refine Goes.via (fun _ k => XS.goto X.here hx rfl (pc0 := 240) (pc' := 244) rfl (hb hby at_240) (by decide) (by decide) k) ?_
  show Goes _ _ _ _ _ _ _ _ (T.setTop (mkF m 244 #[.val (.long x0), .second, .val (.int mode), .val (.int d0), .val (.ref pa), .val (.long v), .second, .val (.int (11 : Int32)), .val (.int (1 : Int32)), .unset] [(.int (1 : Int32))]))
  refine Goes.via (fun _ k => XS.istore X.here hx rfl (hb hby at_244) rfl (l' := #[.val (.long x0), .second, .val (.int mode), .val (.int d0), .val (.ref pa), .val (.long v), .second, .val (.int (11 : Int32)), .val (.int (1 : Int32)), .val (.int (1 : Int32))]) rfl k) ?_
  show Goes _ _ _ _ _ _ _ _ (T.setTop (mkF m 246 #[.val (.long x0), .second, .val (.int mode), .val (.int d0), .val (.ref pa), .val (.long v), .second, .val (.int (11 : Int32)), .val (.int (1 : Int32)), .val (.int (1 : Int32))] []))
  refine Goes.via (fun _ k => XS.iload X.here hx rfl (hb hby at_246) rfl k) ?_
  show Goes _ _ _ _ _ _ _ _ (T.setTop (mkF m 248 #[.val (.long x0), .second, .val (.int mode), .val (.int d0), .val (.ref pa), .val (.long v), .second, .val (.int (11 : Int32)), .val (.int (1 : Int32)), .val (.int (1 : Int32))] [(.int (1 : Int32))]))
  refine Goes.via (fun _ k => XS.ifNo X.here hx rfl (hb hby at_248) rfl (XT.i0_eq_f (by decide)) k) ?_
  show Goes _ _ _ _ _ _ _ _ (T.setTop (mkF m 251 #[.val (.long x0), .second, .val (.int mode), .val (.int d0), .val (.ref pa), .val (.long v), .second, .val (.int (11 : Int32)), .val (.int (1 : Int32)), .val (.int (1 : Int32))] []))
  refine Goes.via (fun _ k => XS.iload X.here hx rfl (hb hby at_251) rfl k) ?_
  show Goes _ _ _ _ _ _ _ _ (T.setTop (mkF m 253 #[.val (.long x0), .second, .val (.int mode), .val (.int d0), .val (.ref pa), .val (.long v), .second, .val (.int (11 : Int32)), .val (.int (1 : Int32)), .val (.int (1 : Int32))] [(.int (1 : Int32))]))
  refine Goes.via (fun _ k => XS.ifNo X.here hx rfl (hb hby at_253) rfl (XT.i0_eq_f (by decide)) k) ?_
  show Goes _ _ _ _ _ _ _ _ (T.setTop (mkF m 256 #[.val (.long x0), .second, .val (.int mode), .val (.int d0), .val (.ref pa), .val (.long v), .second, .val (.int (11 : Int32)), .val (.int (1 : Int32)), .val (.int (1 : Int32))] []))
  refine Goes.via (fun _ k => XT.iconstV X.here hx rfl (1 : Int32) (hb hby at_256) (by decide) k) ?_
  show Goes _ _ _ _ _ _ _ _ (T.setTop (mkF m 257 #[.val (.long x0), .second, .val (.int mode), .val (.int d0), .val (.ref pa), .val (.long v), .second, .val (.int (11 : Int32)), .val (.int (1 : Int32)), .val (.int (1 : Int32))] [(.int (1 : Int32))]))
  refine Goes.via (fun _ k => XS.goto X.here hx rfl (pc0 := 257) (pc' := 261) rfl (hb hby at_257) (by decide) (by decide) k) ?_
  show Goes _ _ _ _ _ _ _ _ (T.setTop (mkF m 261 #[.val (.long x0), .second, .val (.int mode), .val (.int d0), .val (.ref pa), .val (.long v), .second, .val (.int (11 : Int32)), .val (.int (1 : Int32)), .val (.int (1 : Int32))] [(.int (1 : Int32))]))
  refine goRetN X hx hrt (by simp) hlk N (by show _ ≤ 16; omega) (by show _ ≤ 128; omega) (hb hby at_261) ?_
  try rw [e0]
  exact rfl
set_option maxRecDepth 65536 in
set_option maxHeartbeats 40000000 in
theorem law_c30 (l : Launch) (Z : State) (aw : Array Value) (hw : ∀ d ∈ tables_1, d.before aw Z = true) (x0 : Int64) (mode : Int32) (d0 : Int32) (ar : Nat) (k0 : ClassId) (pa : Nat) (ka : ClassId) (v : Int64) (s7 : Slot) (s8 : Slot) (s9 : Slot) {p : Program} {e : Env} {s : State} {m : MethodId} {args : Array Value} {below : List Frame} {meth : Method} {c : Code} {T : State} {locs : List Loc} {cells slots n0 : Nat} {h1 : Heap} (hx : p.tables.exec = Jvm.exec) (hby : c.code = code) (hml : c.maxLocals = 10) (hrt : meth.sig.returnType = some .boolean) (hlk : meth.locks = false) (hnm : meth.name = "law") (hZ : Z.Warmed39 s.vm) (hown : s.vm.findClass "com/example/primevertical/primevertical/DecimalTextDigitCountPinLaw" = some m.cls) (X : Stand p l e room_1 s m args below meth c T locs cells slots) (e0 : T.heap = h1) (N : Fr n0 locs) (hcells : cells ≤ 1) (hslots : slots ≤ 19) (O : Old Z n0 h1) (S0 : Sta Z Z.heap "com/example/primevertical/primevertical/DecimalText" "LONG_POWERS_OF_TEN" "[J" (.ref ar)) (V0 : Arv Z Z.heap ar k0 .long (19 : Int32) PW (.long (0 : Int64))) (pf0 : Arv Z h1 pa ka .long (19 : Int32) PW (.long (0 : Int64))) (h_s7 : One s7) (H8 : ∀ z7 z8 : Int32, storeLocals #[.val (.long x0), .second, .val (.int mode), .val (.int d0), .val (.ref pa), .val (.long v), .second, .val (.int z7), s8, s9] 8 (.int z8) = some #[.val (.long x0), .second, .val (.int mode), .val (.int d0), .val (.ref pa), .val (.long v), .second, .val (.int z7), .val (.int z8), .unset]) (lo7 : ¬ v < (100000000000 : Int64)) (hi7 : v < (1000000000000 : Int64)) :
    Goes p e below s room_1.cells room_1.slots n0 (fun vv hh => vv = some (.int (1 : Int32))) (T.setTop (mkF m 178 #[.val (.long x0), .second, .val (.int mode), .val (.int d0), .val (.ref pa), .val (.long v), .second, s7, s8, s9] [(.int (12 : Int32))])) := by
  have zO := O.le
  have lt_pa := lt_nat pf0.lt
  show Goes _ _ _ _ _ _ _ _ (T.setTop (mkF m 178 #[.val (.long x0), .second, .val (.int mode), .val (.int d0), .val (.ref pa), .val (.long v), .second, s7, s8, s9] [(.int (12 : Int32))]))
  refine Goes.via (fun _ k => XS.istore X.here hx rfl (hb hby at_178) rfl (l' := #[.val (.long x0), .second, .val (.int mode), .val (.int d0), .val (.ref pa), .val (.long v), .second, .val (.int (12 : Int32)), s8, s9]) (XS.store1 rfl h_s7 rfl) k) ?_
  show Goes _ _ _ _ _ _ _ _ (T.setTop (mkF m 180 #[.val (.long x0), .second, .val (.int mode), .val (.int d0), .val (.ref pa), .val (.long v), .second, .val (.int (12 : Int32)), s8, s9] []))
  refine Goes.via (fun _ k => XS.iload X.here hx rfl (hb hby at_180) rfl k) ?_
  show Goes _ _ _ _ _ _ _ _ (T.setTop (mkF m 182 #[.val (.long x0), .second, .val (.int mode), .val (.int d0), .val (.ref pa), .val (.long v), .second, .val (.int (12 : Int32)), s8, s9] [(.int (12 : Int32))]))
  refine Goes.via (fun _ k => XT.iconstV X.here hx rfl (1 : Int32) (hb hby at_182) (by decide) k) ?_
  show Goes _ _ _ _ _ _ _ _ (T.setTop (mkF m 183 #[.val (.long x0), .second, .val (.int mode), .val (.int d0), .val (.ref pa), .val (.long v), .second, .val (.int (12 : Int32)), s8, s9] [(.int (1 : Int32)), (.int (12 : Int32))]))
  refine Goes.via (fun _ k => XS.icmpNo X.here hx rfl (hb hby at_183) rfl (XT.ii_lt_f (by decide)) k) ?_
  show Goes _ _ _ _ _ _ _ _ (T.setTop (mkF m 186 #[.val (.long x0), .second, .val (.int mode), .val (.int d0), .val (.ref pa), .val (.long v), .second, .val (.int (12 : Int32)), s8, s9] []))
  refine Goes.via (fun _ k => XS.iload X.here hx rfl (hb hby at_186) rfl k) ?_
  show Goes _ _ _ _ _ _ _ _ (T.setTop (mkF m 188 #[.val (.long x0), .second, .val (.int mode), .val (.int d0), .val (.ref pa), .val (.long v), .second, .val (.int (12 : Int32)), s8, s9] [(.int (12 : Int32))]))
  refine Goes.via (fun _ k => XT.bipushV X.here hx rfl (19 : Int32) (hb hby at_188) (by decide) k) ?_
  show Goes _ _ _ _ _ _ _ _ (T.setTop (mkF m 190 #[.val (.long x0), .second, .val (.int mode), .val (.int d0), .val (.ref pa), .val (.long v), .second, .val (.int (12 : Int32)), s8, s9] [(.int (19 : Int32)), (.int (12 : Int32))]))
  refine Goes.via (fun _ k => XS.icmpYes X.here hx rfl (pc0 := 190) (pc' := 195) rfl (hb hby at_190) rfl (XT.ii_le_t (by decide)) (by decide) (by decide) k) ?_
  show Goes _ _ _ _ _ _ _ _ (T.setTop (mkF m 195 #[.val (.long x0), .second, .val (.int mode), .val (.int d0), .val (.ref pa), .val (.long v), .second, .val (.int (12 : Int32)), s8, s9] []))
  refine Goes.via (fun _ k => XS.iload X.here hx rfl (hb hby at_195) rfl k) ?_
  show Goes _ _ _ _ _ _ _ _ (T.setTop (mkF m 197 #[.val (.long x0), .second, .val (.int mode), .val (.int d0), .val (.ref pa), .val (.long v), .second, .val (.int (12 : Int32)), s8, s9] [(.int (12 : Int32))]))
  refine Goes.via (fun _ k => XT.iconstV X.here hx rfl (1 : Int32) (hb hby at_197) (by decide) k) ?_
  show Goes _ _ _ _ _ _ _ _ (T.setTop (mkF m 198 #[.val (.long x0), .second, .val (.int mode), .val (.int d0), .val (.ref pa), .val (.long v), .second, .val (.int (12 : Int32)), s8, s9] [(.int (1 : Int32)), (.int (12 : Int32))]))
  refine Goes.via (fun _ k => XS.icmpNo X.here hx rfl (hb hby at_198) rfl (XT.ii_eq_f (by decide)) k) ?_
  show Goes _ _ _ _ _ _ _ _ (T.setTop (mkF m 201 #[.val (.long x0), .second, .val (.int mode), .val (.int d0), .val (.ref pa), .val (.long v), .second, .val (.int (12 : Int32)), s8, s9] []))
  refine Goes.via (fun _ k => XT.lload X.here hx rfl (hb hby at_201) rfl k) ?_
  show Goes _ _ _ _ _ _ _ _ (T.setTop (mkF m 203 #[.val (.long x0), .second, .val (.int mode), .val (.int d0), .val (.ref pa), .val (.long v), .second, .val (.int (12 : Int32)), s8, s9] [(.long v)]))
  refine Goes.via (fun _ k => XS.aload X.here hx rfl (hb hby at_203) rfl rfl k) ?_
  show Goes _ _ _ _ _ _ _ _ (T.setTop (mkF m 205 #[.val (.long x0), .second, .val (.int mode), .val (.int d0), .val (.ref pa), .val (.long v), .second, .val (.int (12 : Int32)), s8, s9] [(.ref pa), (.long v)]))
  refine Goes.via (fun _ k => XS.iload X.here hx rfl (hb hby at_205) rfl k) ?_
  show Goes _ _ _ _ _ _ _ _ (T.setTop (mkF m 207 #[.val (.long x0), .second, .val (.int mode), .val (.int d0), .val (.ref pa), .val (.long v), .second, .val (.int (12 : Int32)), s8, s9] [(.int (12 : Int32)), (.ref pa), (.long v)]))
  refine Goes.via (fun _ k => XT.iconstV X.here hx rfl (1 : Int32) (hb hby at_207) (by decide) k) ?_
  show Goes _ _ _ _ _ _ _ _ (T.setTop (mkF m 208 #[.val (.long x0), .second, .val (.int mode), .val (.int d0), .val (.ref pa), .val (.long v), .second, .val (.int (12 : Int32)), s8, s9] [(.int (1 : Int32)), (.int (12 : Int32)), (.ref pa), (.long v)]))
  refine Goes.via (fun _ k => XS.isub X.here hx rfl (hb hby at_208) rfl k) ?_
  rw [show ((12 : Int32) - (1 : Int32)) = (11 : Int32) from by decide]
  show Goes _ _ _ _ _ _ _ _ (T.setTop (mkF m 209 #[.val (.long x0), .second, .val (.int mode), .val (.int d0), .val (.ref pa), .val (.long v), .second, .val (.int (12 : Int32)), s8, s9] [(.int (11 : Int32)), (.ref pa), (.long v)]))
  obtain ⟨clq2, Arq2, qq2, Sq2, Nnq2, Hq2, Gq2⟩ := id pf0
  have hinq2 : ¬ ((11 : Int32) < 0 ∨ clq2.slots.size ≤ ((11 : Int32)).toNatClampNeg) := inb_of Sq2 ⟨by decide, by decide⟩
  refine Goes.via (X.laload hx (j := (11 : Int32)) (v := (.long (100000000000 : Int64))) (by rw [e0]; exact Arq2.1) (State.isArrayOf_alike hZ.alike Arq2.2.1) Arq2.2.2 hinq2 (Hq2.at hinq2 rfl) (g := (mkF m 209 #[.val (.long x0), .second, .val (.int mode), .val (.int d0), .val (.ref pa), .val (.long v), .second, .val (.int (12 : Int32)), s8, s9] [(.int (11 : Int32)), (.ref pa), (.long v)])) rfl rfl (hb hby at_209)) ?_
  show Goes _ _ _ _ _ _ _ _ (T.setTop (mkF m 210 #[.val (.long x0), .second, .val (.int mode), .val (.int d0), .val (.ref pa), .val (.long v), .second, .val (.int (12 : Int32)), s8, s9] [(.long (100000000000 : Int64)), (.long v)]))
  refine Goes.via (fun _ k => XT.lcmp X.here hx rfl (hb hby at_210) rfl k) ?_
  show Goes _ _ _ _ _ _ _ _ (T.setTop (mkF m 211 #[.val (.long x0), .second, .val (.int mode), .val (.int d0), .val (.ref pa), .val (.long v), .second, .val (.int (12 : Int32)), s8, s9] [(.int (XT.cmpL v (100000000000 : Int64)))]))
  refine Goes.via (fun _ k => XS.ifNo X.here hx rfl (hb hby at_211) rfl (XT.ll_lt_f lo7) k) ?_
  show Goes _ _ _ _ _ _ _ _ (T.setTop (mkF m 214 #[.val (.long x0), .second, .val (.int mode), .val (.int d0), .val (.ref pa), .val (.long v), .second, .val (.int (12 : Int32)), s8, s9] []))
  refine Goes.via (fun _ k => XT.iconstV X.here hx rfl (1 : Int32) (hb hby at_214) (by decide) k) ?_
  show Goes _ _ _ _ _ _ _ _ (T.setTop (mkF m 215 #[.val (.long x0), .second, .val (.int mode), .val (.int d0), .val (.ref pa), .val (.long v), .second, .val (.int (12 : Int32)), s8, s9] [(.int (1 : Int32))]))
  refine Goes.via (fun _ k => XS.goto X.here hx rfl (pc0 := 215) (pc' := 219) rfl (hb hby at_215) (by decide) (by decide) k) ?_
  show Goes _ _ _ _ _ _ _ _ (T.setTop (mkF m 219 #[.val (.long x0), .second, .val (.int mode), .val (.int d0), .val (.ref pa), .val (.long v), .second, .val (.int (12 : Int32)), s8, s9] [(.int (1 : Int32))]))
  refine Goes.via (fun _ k => XS.istore X.here hx rfl (hb hby at_219) rfl (l' := #[.val (.long x0), .second, .val (.int mode), .val (.int d0), .val (.ref pa), .val (.long v), .second, .val (.int (12 : Int32)), .val (.int (1 : Int32)), .unset]) (H8 _ _) k) ?_
  show Goes _ _ _ _ _ _ _ _ (T.setTop (mkF m 221 #[.val (.long x0), .second, .val (.int mode), .val (.int d0), .val (.ref pa), .val (.long v), .second, .val (.int (12 : Int32)), .val (.int (1 : Int32)), .unset] []))
  refine Goes.via (fun _ k => XS.iload X.here hx rfl (hb hby at_221) rfl k) ?_
  show Goes _ _ _ _ _ _ _ _ (T.setTop (mkF m 223 #[.val (.long x0), .second, .val (.int mode), .val (.int d0), .val (.ref pa), .val (.long v), .second, .val (.int (12 : Int32)), .val (.int (1 : Int32)), .unset] [(.int (12 : Int32))]))
  refine Goes.via (fun _ k => XT.bipushV X.here hx rfl (19 : Int32) (hb hby at_223) (by decide) k) ?_
  show Goes _ _ _ _ _ _ _ _ (T.setTop (mkF m 225 #[.val (.long x0), .second, .val (.int mode), .val (.int d0), .val (.ref pa), .val (.long v), .second, .val (.int (12 : Int32)), .val (.int (1 : Int32)), .unset] [(.int (19 : Int32)), (.int (12 : Int32))]))
  refine Goes.via (fun _ k => XS.icmpNo X.here hx rfl (hb hby at_225) rfl (XT.ii_eq_f (by decide)) k) ?_
  show Goes _ _ _ _ _ _ _ _ (T.setTop (mkF m 228 #[.val (.long x0), .second, .val (.int mode), .val (.int d0), .val (.ref pa), .val (.long v), .second, .val (.int (12 : Int32)), .val (.int (1 : Int32)), .unset] []))
  refine Goes.via (fun _ k => XT.lload X.here hx rfl (hb hby at_228) rfl k) ?_
  show Goes _ _ _ _ _ _ _ _ (T.setTop (mkF m 230 #[.val (.long x0), .second, .val (.int mode), .val (.int d0), .val (.ref pa), .val (.long v), .second, .val (.int (12 : Int32)), .val (.int (1 : Int32)), .unset] [(.long v)]))
  refine Goes.via (fun _ k => XS.aload X.here hx rfl (hb hby at_230) rfl rfl k) ?_
  show Goes _ _ _ _ _ _ _ _ (T.setTop (mkF m 232 #[.val (.long x0), .second, .val (.int mode), .val (.int d0), .val (.ref pa), .val (.long v), .second, .val (.int (12 : Int32)), .val (.int (1 : Int32)), .unset] [(.ref pa), (.long v)]))
  refine Goes.via (fun _ k => XS.iload X.here hx rfl (hb hby at_232) rfl k) ?_
  show Goes _ _ _ _ _ _ _ _ (T.setTop (mkF m 234 #[.val (.long x0), .second, .val (.int mode), .val (.int d0), .val (.ref pa), .val (.long v), .second, .val (.int (12 : Int32)), .val (.int (1 : Int32)), .unset] [(.int (12 : Int32)), (.ref pa), (.long v)]))
  obtain ⟨clq3, Arq3, qq3, Sq3, Nnq3, Hq3, Gq3⟩ := id pf0
  have hinq3 : ¬ ((12 : Int32) < 0 ∨ clq3.slots.size ≤ ((12 : Int32)).toNatClampNeg) := inb_of Sq3 ⟨by decide, by decide⟩
  refine Goes.via (X.laload hx (j := (12 : Int32)) (v := (.long (1000000000000 : Int64))) (by rw [e0]; exact Arq3.1) (State.isArrayOf_alike hZ.alike Arq3.2.1) Arq3.2.2 hinq3 (Hq3.at hinq3 rfl) (g := (mkF m 234 #[.val (.long x0), .second, .val (.int mode), .val (.int d0), .val (.ref pa), .val (.long v), .second, .val (.int (12 : Int32)), .val (.int (1 : Int32)), .unset] [(.int (12 : Int32)), (.ref pa), (.long v)])) rfl rfl (hb hby at_234)) ?_
  show Goes _ _ _ _ _ _ _ _ (T.setTop (mkF m 235 #[.val (.long x0), .second, .val (.int mode), .val (.int d0), .val (.ref pa), .val (.long v), .second, .val (.int (12 : Int32)), .val (.int (1 : Int32)), .unset] [(.long (1000000000000 : Int64)), (.long v)]))
  refine Goes.via (fun _ k => XT.lcmp X.here hx rfl (hb hby at_235) rfl k) ?_
  show Goes _ _ _ _ _ _ _ _ (T.setTop (mkF m 236 #[.val (.long x0), .second, .val (.int mode), .val (.int d0), .val (.ref pa), .val (.long v), .second, .val (.int (12 : Int32)), .val (.int (1 : Int32)), .unset] [(.int (XT.cmpL v (1000000000000 : Int64)))]))
  refine Goes.via (fun _ k => XS.ifNo X.here hx rfl (hb hby at_236) rfl (XT.ll_ge_f hi7) k) ?_
  show Goes _ _ _ _ _ _ _ _ (T.setTop (mkF m 239 #[.val (.long x0), .second, .val (.int mode), .val (.int d0), .val (.ref pa), .val (.long v), .second, .val (.int (12 : Int32)), .val (.int (1 : Int32)), .unset] []))
  refine Goes.via (fun _ k => XT.iconstV X.here hx rfl (1 : Int32) (hb hby at_239) (by decide) k) ?_
  show Goes _ _ _ _ _ _ _ _ (T.setTop (mkF m 240 #[.val (.long x0), .second, .val (.int mode), .val (.int d0), .val (.ref pa), .val (.long v), .second, .val (.int (12 : Int32)), .val (.int (1 : Int32)), .unset] [(.int (1 : Int32))]))
  refine Goes.via (fun _ k => XS.goto X.here hx rfl (pc0 := 240) (pc' := 244) rfl (hb hby at_240) (by decide) (by decide) k) ?_
  show Goes _ _ _ _ _ _ _ _ (T.setTop (mkF m 244 #[.val (.long x0), .second, .val (.int mode), .val (.int d0), .val (.ref pa), .val (.long v), .second, .val (.int (12 : Int32)), .val (.int (1 : Int32)), .unset] [(.int (1 : Int32))]))
  refine Goes.via (fun _ k => XS.istore X.here hx rfl (hb hby at_244) rfl (l' := #[.val (.long x0), .second, .val (.int mode), .val (.int d0), .val (.ref pa), .val (.long v), .second, .val (.int (12 : Int32)), .val (.int (1 : Int32)), .val (.int (1 : Int32))]) rfl k) ?_
  show Goes _ _ _ _ _ _ _ _ (T.setTop (mkF m 246 #[.val (.long x0), .second, .val (.int mode), .val (.int d0), .val (.ref pa), .val (.long v), .second, .val (.int (12 : Int32)), .val (.int (1 : Int32)), .val (.int (1 : Int32))] []))
  refine Goes.via (fun _ k => XS.iload X.here hx rfl (hb hby at_246) rfl k) ?_
  show Goes _ _ _ _ _ _ _ _ (T.setTop (mkF m 248 #[.val (.long x0), .second, .val (.int mode), .val (.int d0), .val (.ref pa), .val (.long v), .second, .val (.int (12 : Int32)), .val (.int (1 : Int32)), .val (.int (1 : Int32))] [(.int (1 : Int32))]))
  refine Goes.via (fun _ k => XS.ifNo X.here hx rfl (hb hby at_248) rfl (XT.i0_eq_f (by decide)) k) ?_
  show Goes _ _ _ _ _ _ _ _ (T.setTop (mkF m 251 #[.val (.long x0), .second, .val (.int mode), .val (.int d0), .val (.ref pa), .val (.long v), .second, .val (.int (12 : Int32)), .val (.int (1 : Int32)), .val (.int (1 : Int32))] []))
  refine Goes.via (fun _ k => XS.iload X.here hx rfl (hb hby at_251) rfl k) ?_
  show Goes _ _ _ _ _ _ _ _ (T.setTop (mkF m 253 #[.val (.long x0), .second, .val (.int mode), .val (.int d0), .val (.ref pa), .val (.long v), .second, .val (.int (12 : Int32)), .val (.int (1 : Int32)), .val (.int (1 : Int32))] [(.int (1 : Int32))]))
  refine Goes.via (fun _ k => XS.ifNo X.here hx rfl (hb hby at_253) rfl (XT.i0_eq_f (by decide)) k) ?_
  show Goes _ _ _ _ _ _ _ _ (T.setTop (mkF m 256 #[.val (.long x0), .second, .val (.int mode), .val (.int d0), .val (.ref pa), .val (.long v), .second, .val (.int (12 : Int32)), .val (.int (1 : Int32)), .val (.int (1 : Int32))] []))
  refine Goes.via (fun _ k => XT.iconstV X.here hx rfl (1 : Int32) (hb hby at_256) (by decide) k) ?_
  show Goes _ _ _ _ _ _ _ _ (T.setTop (mkF m 257 #[.val (.long x0), .second, .val (.int mode), .val (.int d0), .val (.ref pa), .val (.long v), .second, .val (.int (12 : Int32)), .val (.int (1 : Int32)), .val (.int (1 : Int32))] [(.int (1 : Int32))]))
  refine Goes.via (fun _ k => XS.goto X.here hx rfl (pc0 := 257) (pc' := 261) rfl (hb hby at_257) (by decide) (by decide) k) ?_
  show Goes _ _ _ _ _ _ _ _ (T.setTop (mkF m 261 #[.val (.long x0), .second, .val (.int mode), .val (.int d0), .val (.ref pa), .val (.long v), .second, .val (.int (12 : Int32)), .val (.int (1 : Int32)), .val (.int (1 : Int32))] [(.int (1 : Int32))]))
  refine goRetN X hx hrt (by simp) hlk N (by show _ ≤ 16; omega) (by show _ ≤ 128; omega) (hb hby at_261) ?_
  try rw [e0]
  exact rfl
set_option maxRecDepth 65536 in
set_option maxHeartbeats 40000000 in
theorem law_c31 (l : Launch) (Z : State) (aw : Array Value) (hw : ∀ d ∈ tables_1, d.before aw Z = true) (x0 : Int64) (mode : Int32) (d0 : Int32) (ar : Nat) (k0 : ClassId) (pa : Nat) (ka : ClassId) (v : Int64) (s7 : Slot) (s8 : Slot) (s9 : Slot) {p : Program} {e : Env} {s : State} {m : MethodId} {args : Array Value} {below : List Frame} {meth : Method} {c : Code} {T : State} {locs : List Loc} {cells slots n0 : Nat} {h1 : Heap} (hx : p.tables.exec = Jvm.exec) (hby : c.code = code) (hml : c.maxLocals = 10) (hrt : meth.sig.returnType = some .boolean) (hlk : meth.locks = false) (hnm : meth.name = "law") (hZ : Z.Warmed39 s.vm) (hown : s.vm.findClass "com/example/primevertical/primevertical/DecimalTextDigitCountPinLaw" = some m.cls) (X : Stand p l e room_1 s m args below meth c T locs cells slots) (e0 : T.heap = h1) (N : Fr n0 locs) (hcells : cells ≤ 1) (hslots : slots ≤ 19) (O : Old Z n0 h1) (S0 : Sta Z Z.heap "com/example/primevertical/primevertical/DecimalText" "LONG_POWERS_OF_TEN" "[J" (.ref ar)) (V0 : Arv Z Z.heap ar k0 .long (19 : Int32) PW (.long (0 : Int64))) (pf0 : Arv Z h1 pa ka .long (19 : Int32) PW (.long (0 : Int64))) (h_s7 : One s7) (H8 : ∀ z7 z8 : Int32, storeLocals #[.val (.long x0), .second, .val (.int mode), .val (.int d0), .val (.ref pa), .val (.long v), .second, .val (.int z7), s8, s9] 8 (.int z8) = some #[.val (.long x0), .second, .val (.int mode), .val (.int d0), .val (.ref pa), .val (.long v), .second, .val (.int z7), .val (.int z8), .unset]) (lo7 : ¬ v < (1000000000000 : Int64)) (hi7 : v < (10000000000000 : Int64)) :
    Goes p e below s room_1.cells room_1.slots n0 (fun vv hh => vv = some (.int (1 : Int32))) (T.setTop (mkF m 178 #[.val (.long x0), .second, .val (.int mode), .val (.int d0), .val (.ref pa), .val (.long v), .second, s7, s8, s9] [(.int (13 : Int32))])) := by
  have zO := O.le
  have lt_pa := lt_nat pf0.lt
  show Goes _ _ _ _ _ _ _ _ (T.setTop (mkF m 178 #[.val (.long x0), .second, .val (.int mode), .val (.int d0), .val (.ref pa), .val (.long v), .second, s7, s8, s9] [(.int (13 : Int32))]))
  refine Goes.via (fun _ k => XS.istore X.here hx rfl (hb hby at_178) rfl (l' := #[.val (.long x0), .second, .val (.int mode), .val (.int d0), .val (.ref pa), .val (.long v), .second, .val (.int (13 : Int32)), s8, s9]) (XS.store1 rfl h_s7 rfl) k) ?_
  show Goes _ _ _ _ _ _ _ _ (T.setTop (mkF m 180 #[.val (.long x0), .second, .val (.int mode), .val (.int d0), .val (.ref pa), .val (.long v), .second, .val (.int (13 : Int32)), s8, s9] []))
  refine Goes.via (fun _ k => XS.iload X.here hx rfl (hb hby at_180) rfl k) ?_
  show Goes _ _ _ _ _ _ _ _ (T.setTop (mkF m 182 #[.val (.long x0), .second, .val (.int mode), .val (.int d0), .val (.ref pa), .val (.long v), .second, .val (.int (13 : Int32)), s8, s9] [(.int (13 : Int32))]))
  refine Goes.via (fun _ k => XT.iconstV X.here hx rfl (1 : Int32) (hb hby at_182) (by decide) k) ?_
  show Goes _ _ _ _ _ _ _ _ (T.setTop (mkF m 183 #[.val (.long x0), .second, .val (.int mode), .val (.int d0), .val (.ref pa), .val (.long v), .second, .val (.int (13 : Int32)), s8, s9] [(.int (1 : Int32)), (.int (13 : Int32))]))
  refine Goes.via (fun _ k => XS.icmpNo X.here hx rfl (hb hby at_183) rfl (XT.ii_lt_f (by decide)) k) ?_
  show Goes _ _ _ _ _ _ _ _ (T.setTop (mkF m 186 #[.val (.long x0), .second, .val (.int mode), .val (.int d0), .val (.ref pa), .val (.long v), .second, .val (.int (13 : Int32)), s8, s9] []))
  refine Goes.via (fun _ k => XS.iload X.here hx rfl (hb hby at_186) rfl k) ?_
  show Goes _ _ _ _ _ _ _ _ (T.setTop (mkF m 188 #[.val (.long x0), .second, .val (.int mode), .val (.int d0), .val (.ref pa), .val (.long v), .second, .val (.int (13 : Int32)), s8, s9] [(.int (13 : Int32))]))
  refine Goes.via (fun _ k => XT.bipushV X.here hx rfl (19 : Int32) (hb hby at_188) (by decide) k) ?_
  show Goes _ _ _ _ _ _ _ _ (T.setTop (mkF m 190 #[.val (.long x0), .second, .val (.int mode), .val (.int d0), .val (.ref pa), .val (.long v), .second, .val (.int (13 : Int32)), s8, s9] [(.int (19 : Int32)), (.int (13 : Int32))]))
  refine Goes.via (fun _ k => XS.icmpYes X.here hx rfl (pc0 := 190) (pc' := 195) rfl (hb hby at_190) rfl (XT.ii_le_t (by decide)) (by decide) (by decide) k) ?_
  show Goes _ _ _ _ _ _ _ _ (T.setTop (mkF m 195 #[.val (.long x0), .second, .val (.int mode), .val (.int d0), .val (.ref pa), .val (.long v), .second, .val (.int (13 : Int32)), s8, s9] []))
  refine Goes.via (fun _ k => XS.iload X.here hx rfl (hb hby at_195) rfl k) ?_
  show Goes _ _ _ _ _ _ _ _ (T.setTop (mkF m 197 #[.val (.long x0), .second, .val (.int mode), .val (.int d0), .val (.ref pa), .val (.long v), .second, .val (.int (13 : Int32)), s8, s9] [(.int (13 : Int32))]))
  refine Goes.via (fun _ k => XT.iconstV X.here hx rfl (1 : Int32) (hb hby at_197) (by decide) k) ?_
  show Goes _ _ _ _ _ _ _ _ (T.setTop (mkF m 198 #[.val (.long x0), .second, .val (.int mode), .val (.int d0), .val (.ref pa), .val (.long v), .second, .val (.int (13 : Int32)), s8, s9] [(.int (1 : Int32)), (.int (13 : Int32))]))
  refine Goes.via (fun _ k => XS.icmpNo X.here hx rfl (hb hby at_198) rfl (XT.ii_eq_f (by decide)) k) ?_
  show Goes _ _ _ _ _ _ _ _ (T.setTop (mkF m 201 #[.val (.long x0), .second, .val (.int mode), .val (.int d0), .val (.ref pa), .val (.long v), .second, .val (.int (13 : Int32)), s8, s9] []))
  refine Goes.via (fun _ k => XT.lload X.here hx rfl (hb hby at_201) rfl k) ?_
  show Goes _ _ _ _ _ _ _ _ (T.setTop (mkF m 203 #[.val (.long x0), .second, .val (.int mode), .val (.int d0), .val (.ref pa), .val (.long v), .second, .val (.int (13 : Int32)), s8, s9] [(.long v)]))
  refine Goes.via (fun _ k => XS.aload X.here hx rfl (hb hby at_203) rfl rfl k) ?_
  show Goes _ _ _ _ _ _ _ _ (T.setTop (mkF m 205 #[.val (.long x0), .second, .val (.int mode), .val (.int d0), .val (.ref pa), .val (.long v), .second, .val (.int (13 : Int32)), s8, s9] [(.ref pa), (.long v)]))
  refine Goes.via (fun _ k => XS.iload X.here hx rfl (hb hby at_205) rfl k) ?_
  show Goes _ _ _ _ _ _ _ _ (T.setTop (mkF m 207 #[.val (.long x0), .second, .val (.int mode), .val (.int d0), .val (.ref pa), .val (.long v), .second, .val (.int (13 : Int32)), s8, s9] [(.int (13 : Int32)), (.ref pa), (.long v)]))
  refine Goes.via (fun _ k => XT.iconstV X.here hx rfl (1 : Int32) (hb hby at_207) (by decide) k) ?_
  show Goes _ _ _ _ _ _ _ _ (T.setTop (mkF m 208 #[.val (.long x0), .second, .val (.int mode), .val (.int d0), .val (.ref pa), .val (.long v), .second, .val (.int (13 : Int32)), s8, s9] [(.int (1 : Int32)), (.int (13 : Int32)), (.ref pa), (.long v)]))
  refine Goes.via (fun _ k => XS.isub X.here hx rfl (hb hby at_208) rfl k) ?_
  rw [show ((13 : Int32) - (1 : Int32)) = (12 : Int32) from by decide]
  show Goes _ _ _ _ _ _ _ _ (T.setTop (mkF m 209 #[.val (.long x0), .second, .val (.int mode), .val (.int d0), .val (.ref pa), .val (.long v), .second, .val (.int (13 : Int32)), s8, s9] [(.int (12 : Int32)), (.ref pa), (.long v)]))
  obtain ⟨clq2, Arq2, qq2, Sq2, Nnq2, Hq2, Gq2⟩ := id pf0
  have hinq2 : ¬ ((12 : Int32) < 0 ∨ clq2.slots.size ≤ ((12 : Int32)).toNatClampNeg) := inb_of Sq2 ⟨by decide, by decide⟩
  refine Goes.via (X.laload hx (j := (12 : Int32)) (v := (.long (1000000000000 : Int64))) (by rw [e0]; exact Arq2.1) (State.isArrayOf_alike hZ.alike Arq2.2.1) Arq2.2.2 hinq2 (Hq2.at hinq2 rfl) (g := (mkF m 209 #[.val (.long x0), .second, .val (.int mode), .val (.int d0), .val (.ref pa), .val (.long v), .second, .val (.int (13 : Int32)), s8, s9] [(.int (12 : Int32)), (.ref pa), (.long v)])) rfl rfl (hb hby at_209)) ?_
  show Goes _ _ _ _ _ _ _ _ (T.setTop (mkF m 210 #[.val (.long x0), .second, .val (.int mode), .val (.int d0), .val (.ref pa), .val (.long v), .second, .val (.int (13 : Int32)), s8, s9] [(.long (1000000000000 : Int64)), (.long v)]))
  refine Goes.via (fun _ k => XT.lcmp X.here hx rfl (hb hby at_210) rfl k) ?_
  show Goes _ _ _ _ _ _ _ _ (T.setTop (mkF m 211 #[.val (.long x0), .second, .val (.int mode), .val (.int d0), .val (.ref pa), .val (.long v), .second, .val (.int (13 : Int32)), s8, s9] [(.int (XT.cmpL v (1000000000000 : Int64)))]))
  refine Goes.via (fun _ k => XS.ifNo X.here hx rfl (hb hby at_211) rfl (XT.ll_lt_f lo7) k) ?_
  show Goes _ _ _ _ _ _ _ _ (T.setTop (mkF m 214 #[.val (.long x0), .second, .val (.int mode), .val (.int d0), .val (.ref pa), .val (.long v), .second, .val (.int (13 : Int32)), s8, s9] []))
  refine Goes.via (fun _ k => XT.iconstV X.here hx rfl (1 : Int32) (hb hby at_214) (by decide) k) ?_
  show Goes _ _ _ _ _ _ _ _ (T.setTop (mkF m 215 #[.val (.long x0), .second, .val (.int mode), .val (.int d0), .val (.ref pa), .val (.long v), .second, .val (.int (13 : Int32)), s8, s9] [(.int (1 : Int32))]))
  refine Goes.via (fun _ k => XS.goto X.here hx rfl (pc0 := 215) (pc' := 219) rfl (hb hby at_215) (by decide) (by decide) k) ?_
  show Goes _ _ _ _ _ _ _ _ (T.setTop (mkF m 219 #[.val (.long x0), .second, .val (.int mode), .val (.int d0), .val (.ref pa), .val (.long v), .second, .val (.int (13 : Int32)), s8, s9] [(.int (1 : Int32))]))
  refine Goes.via (fun _ k => XS.istore X.here hx rfl (hb hby at_219) rfl (l' := #[.val (.long x0), .second, .val (.int mode), .val (.int d0), .val (.ref pa), .val (.long v), .second, .val (.int (13 : Int32)), .val (.int (1 : Int32)), .unset]) (H8 _ _) k) ?_
  show Goes _ _ _ _ _ _ _ _ (T.setTop (mkF m 221 #[.val (.long x0), .second, .val (.int mode), .val (.int d0), .val (.ref pa), .val (.long v), .second, .val (.int (13 : Int32)), .val (.int (1 : Int32)), .unset] []))
  refine Goes.via (fun _ k => XS.iload X.here hx rfl (hb hby at_221) rfl k) ?_
  show Goes _ _ _ _ _ _ _ _ (T.setTop (mkF m 223 #[.val (.long x0), .second, .val (.int mode), .val (.int d0), .val (.ref pa), .val (.long v), .second, .val (.int (13 : Int32)), .val (.int (1 : Int32)), .unset] [(.int (13 : Int32))]))
  refine Goes.via (fun _ k => XT.bipushV X.here hx rfl (19 : Int32) (hb hby at_223) (by decide) k) ?_
  show Goes _ _ _ _ _ _ _ _ (T.setTop (mkF m 225 #[.val (.long x0), .second, .val (.int mode), .val (.int d0), .val (.ref pa), .val (.long v), .second, .val (.int (13 : Int32)), .val (.int (1 : Int32)), .unset] [(.int (19 : Int32)), (.int (13 : Int32))]))
  refine Goes.via (fun _ k => XS.icmpNo X.here hx rfl (hb hby at_225) rfl (XT.ii_eq_f (by decide)) k) ?_
  show Goes _ _ _ _ _ _ _ _ (T.setTop (mkF m 228 #[.val (.long x0), .second, .val (.int mode), .val (.int d0), .val (.ref pa), .val (.long v), .second, .val (.int (13 : Int32)), .val (.int (1 : Int32)), .unset] []))
  refine Goes.via (fun _ k => XT.lload X.here hx rfl (hb hby at_228) rfl k) ?_
  show Goes _ _ _ _ _ _ _ _ (T.setTop (mkF m 230 #[.val (.long x0), .second, .val (.int mode), .val (.int d0), .val (.ref pa), .val (.long v), .second, .val (.int (13 : Int32)), .val (.int (1 : Int32)), .unset] [(.long v)]))
  refine Goes.via (fun _ k => XS.aload X.here hx rfl (hb hby at_230) rfl rfl k) ?_
  show Goes _ _ _ _ _ _ _ _ (T.setTop (mkF m 232 #[.val (.long x0), .second, .val (.int mode), .val (.int d0), .val (.ref pa), .val (.long v), .second, .val (.int (13 : Int32)), .val (.int (1 : Int32)), .unset] [(.ref pa), (.long v)]))
  refine Goes.via (fun _ k => XS.iload X.here hx rfl (hb hby at_232) rfl k) ?_
  show Goes _ _ _ _ _ _ _ _ (T.setTop (mkF m 234 #[.val (.long x0), .second, .val (.int mode), .val (.int d0), .val (.ref pa), .val (.long v), .second, .val (.int (13 : Int32)), .val (.int (1 : Int32)), .unset] [(.int (13 : Int32)), (.ref pa), (.long v)]))
  obtain ⟨clq3, Arq3, qq3, Sq3, Nnq3, Hq3, Gq3⟩ := id pf0
  have hinq3 : ¬ ((13 : Int32) < 0 ∨ clq3.slots.size ≤ ((13 : Int32)).toNatClampNeg) := inb_of Sq3 ⟨by decide, by decide⟩
  refine Goes.via (X.laload hx (j := (13 : Int32)) (v := (.long (10000000000000 : Int64))) (by rw [e0]; exact Arq3.1) (State.isArrayOf_alike hZ.alike Arq3.2.1) Arq3.2.2 hinq3 (Hq3.at hinq3 rfl) (g := (mkF m 234 #[.val (.long x0), .second, .val (.int mode), .val (.int d0), .val (.ref pa), .val (.long v), .second, .val (.int (13 : Int32)), .val (.int (1 : Int32)), .unset] [(.int (13 : Int32)), (.ref pa), (.long v)])) rfl rfl (hb hby at_234)) ?_
  show Goes _ _ _ _ _ _ _ _ (T.setTop (mkF m 235 #[.val (.long x0), .second, .val (.int mode), .val (.int d0), .val (.ref pa), .val (.long v), .second, .val (.int (13 : Int32)), .val (.int (1 : Int32)), .unset] [(.long (10000000000000 : Int64)), (.long v)]))
  refine Goes.via (fun _ k => XT.lcmp X.here hx rfl (hb hby at_235) rfl k) ?_
  show Goes _ _ _ _ _ _ _ _ (T.setTop (mkF m 236 #[.val (.long x0), .second, .val (.int mode), .val (.int d0), .val (.ref pa), .val (.long v), .second, .val (.int (13 : Int32)), .val (.int (1 : Int32)), .unset] [(.int (XT.cmpL v (10000000000000 : Int64)))]))
  refine Goes.via (fun _ k => XS.ifNo X.here hx rfl (hb hby at_236) rfl (XT.ll_ge_f hi7) k) ?_
  show Goes _ _ _ _ _ _ _ _ (T.setTop (mkF m 239 #[.val (.long x0), .second, .val (.int mode), .val (.int d0), .val (.ref pa), .val (.long v), .second, .val (.int (13 : Int32)), .val (.int (1 : Int32)), .unset] []))
  refine Goes.via (fun _ k => XT.iconstV X.here hx rfl (1 : Int32) (hb hby at_239) (by decide) k) ?_
  show Goes _ _ _ _ _ _ _ _ (T.setTop (mkF m 240 #[.val (.long x0), .second, .val (.int mode), .val (.int d0), .val (.ref pa), .val (.long v), .second, .val (.int (13 : Int32)), .val (.int (1 : Int32)), .unset] [(.int (1 : Int32))]))
  refine Goes.via (fun _ k => XS.goto X.here hx rfl (pc0 := 240) (pc' := 244) rfl (hb hby at_240) (by decide) (by decide) k) ?_
  show Goes _ _ _ _ _ _ _ _ (T.setTop (mkF m 244 #[.val (.long x0), .second, .val (.int mode), .val (.int d0), .val (.ref pa), .val (.long v), .second, .val (.int (13 : Int32)), .val (.int (1 : Int32)), .unset] [(.int (1 : Int32))]))
  refine Goes.via (fun _ k => XS.istore X.here hx rfl (hb hby at_244) rfl (l' := #[.val (.long x0), .second, .val (.int mode), .val (.int d0), .val (.ref pa), .val (.long v), .second, .val (.int (13 : Int32)), .val (.int (1 : Int32)), .val (.int (1 : Int32))]) rfl k) ?_
  show Goes _ _ _ _ _ _ _ _ (T.setTop (mkF m 246 #[.val (.long x0), .second, .val (.int mode), .val (.int d0), .val (.ref pa), .val (.long v), .second, .val (.int (13 : Int32)), .val (.int (1 : Int32)), .val (.int (1 : Int32))] []))
  refine Goes.via (fun _ k => XS.iload X.here hx rfl (hb hby at_246) rfl k) ?_
  show Goes _ _ _ _ _ _ _ _ (T.setTop (mkF m 248 #[.val (.long x0), .second, .val (.int mode), .val (.int d0), .val (.ref pa), .val (.long v), .second, .val (.int (13 : Int32)), .val (.int (1 : Int32)), .val (.int (1 : Int32))] [(.int (1 : Int32))]))
  refine Goes.via (fun _ k => XS.ifNo X.here hx rfl (hb hby at_248) rfl (XT.i0_eq_f (by decide)) k) ?_
  show Goes _ _ _ _ _ _ _ _ (T.setTop (mkF m 251 #[.val (.long x0), .second, .val (.int mode), .val (.int d0), .val (.ref pa), .val (.long v), .second, .val (.int (13 : Int32)), .val (.int (1 : Int32)), .val (.int (1 : Int32))] []))
  refine Goes.via (fun _ k => XS.iload X.here hx rfl (hb hby at_251) rfl k) ?_
  show Goes _ _ _ _ _ _ _ _ (T.setTop (mkF m 253 #[.val (.long x0), .second, .val (.int mode), .val (.int d0), .val (.ref pa), .val (.long v), .second, .val (.int (13 : Int32)), .val (.int (1 : Int32)), .val (.int (1 : Int32))] [(.int (1 : Int32))]))
  refine Goes.via (fun _ k => XS.ifNo X.here hx rfl (hb hby at_253) rfl (XT.i0_eq_f (by decide)) k) ?_
  show Goes _ _ _ _ _ _ _ _ (T.setTop (mkF m 256 #[.val (.long x0), .second, .val (.int mode), .val (.int d0), .val (.ref pa), .val (.long v), .second, .val (.int (13 : Int32)), .val (.int (1 : Int32)), .val (.int (1 : Int32))] []))
  refine Goes.via (fun _ k => XT.iconstV X.here hx rfl (1 : Int32) (hb hby at_256) (by decide) k) ?_
  show Goes _ _ _ _ _ _ _ _ (T.setTop (mkF m 257 #[.val (.long x0), .second, .val (.int mode), .val (.int d0), .val (.ref pa), .val (.long v), .second, .val (.int (13 : Int32)), .val (.int (1 : Int32)), .val (.int (1 : Int32))] [(.int (1 : Int32))]))
  refine Goes.via (fun _ k => XS.goto X.here hx rfl (pc0 := 257) (pc' := 261) rfl (hb hby at_257) (by decide) (by decide) k) ?_
  show Goes _ _ _ _ _ _ _ _ (T.setTop (mkF m 261 #[.val (.long x0), .second, .val (.int mode), .val (.int d0), .val (.ref pa), .val (.long v), .second, .val (.int (13 : Int32)), .val (.int (1 : Int32)), .val (.int (1 : Int32))] [(.int (1 : Int32))]))
  refine goRetN X hx hrt (by simp) hlk N (by show _ ≤ 16; omega) (by show _ ≤ 128; omega) (hb hby at_261) ?_
  try rw [e0]
  exact rfl
set_option maxRecDepth 65536 in
set_option maxHeartbeats 40000000 in
theorem law_c32 (l : Launch) (Z : State) (aw : Array Value) (hw : ∀ d ∈ tables_1, d.before aw Z = true) (x0 : Int64) (mode : Int32) (d0 : Int32) (ar : Nat) (k0 : ClassId) (pa : Nat) (ka : ClassId) (v : Int64) (s7 : Slot) (s8 : Slot) (s9 : Slot) {p : Program} {e : Env} {s : State} {m : MethodId} {args : Array Value} {below : List Frame} {meth : Method} {c : Code} {T : State} {locs : List Loc} {cells slots n0 : Nat} {h1 : Heap} (hx : p.tables.exec = Jvm.exec) (hby : c.code = code) (hml : c.maxLocals = 10) (hrt : meth.sig.returnType = some .boolean) (hlk : meth.locks = false) (hnm : meth.name = "law") (hZ : Z.Warmed39 s.vm) (hown : s.vm.findClass "com/example/primevertical/primevertical/DecimalTextDigitCountPinLaw" = some m.cls) (X : Stand p l e room_1 s m args below meth c T locs cells slots) (e0 : T.heap = h1) (N : Fr n0 locs) (hcells : cells ≤ 1) (hslots : slots ≤ 19) (O : Old Z n0 h1) (S0 : Sta Z Z.heap "com/example/primevertical/primevertical/DecimalText" "LONG_POWERS_OF_TEN" "[J" (.ref ar)) (V0 : Arv Z Z.heap ar k0 .long (19 : Int32) PW (.long (0 : Int64))) (pf0 : Arv Z h1 pa ka .long (19 : Int32) PW (.long (0 : Int64))) (h_s7 : One s7) (H8 : ∀ z7 z8 : Int32, storeLocals #[.val (.long x0), .second, .val (.int mode), .val (.int d0), .val (.ref pa), .val (.long v), .second, .val (.int z7), s8, s9] 8 (.int z8) = some #[.val (.long x0), .second, .val (.int mode), .val (.int d0), .val (.ref pa), .val (.long v), .second, .val (.int z7), .val (.int z8), .unset]) (lo7 : ¬ v < (10000000000000 : Int64)) (hi7 : v < (100000000000000 : Int64)) :
    Goes p e below s room_1.cells room_1.slots n0 (fun vv hh => vv = some (.int (1 : Int32))) (T.setTop (mkF m 178 #[.val (.long x0), .second, .val (.int mode), .val (.int d0), .val (.ref pa), .val (.long v), .second, s7, s8, s9] [(.int (14 : Int32))])) := by
  have zO := O.le
  have lt_pa := lt_nat pf0.lt
  show Goes _ _ _ _ _ _ _ _ (T.setTop (mkF m 178 #[.val (.long x0), .second, .val (.int mode), .val (.int d0), .val (.ref pa), .val (.long v), .second, s7, s8, s9] [(.int (14 : Int32))]))
  refine Goes.via (fun _ k => XS.istore X.here hx rfl (hb hby at_178) rfl (l' := #[.val (.long x0), .second, .val (.int mode), .val (.int d0), .val (.ref pa), .val (.long v), .second, .val (.int (14 : Int32)), s8, s9]) (XS.store1 rfl h_s7 rfl) k) ?_
  show Goes _ _ _ _ _ _ _ _ (T.setTop (mkF m 180 #[.val (.long x0), .second, .val (.int mode), .val (.int d0), .val (.ref pa), .val (.long v), .second, .val (.int (14 : Int32)), s8, s9] []))
  refine Goes.via (fun _ k => XS.iload X.here hx rfl (hb hby at_180) rfl k) ?_
  show Goes _ _ _ _ _ _ _ _ (T.setTop (mkF m 182 #[.val (.long x0), .second, .val (.int mode), .val (.int d0), .val (.ref pa), .val (.long v), .second, .val (.int (14 : Int32)), s8, s9] [(.int (14 : Int32))]))
  refine Goes.via (fun _ k => XT.iconstV X.here hx rfl (1 : Int32) (hb hby at_182) (by decide) k) ?_
  show Goes _ _ _ _ _ _ _ _ (T.setTop (mkF m 183 #[.val (.long x0), .second, .val (.int mode), .val (.int d0), .val (.ref pa), .val (.long v), .second, .val (.int (14 : Int32)), s8, s9] [(.int (1 : Int32)), (.int (14 : Int32))]))
  refine Goes.via (fun _ k => XS.icmpNo X.here hx rfl (hb hby at_183) rfl (XT.ii_lt_f (by decide)) k) ?_
  show Goes _ _ _ _ _ _ _ _ (T.setTop (mkF m 186 #[.val (.long x0), .second, .val (.int mode), .val (.int d0), .val (.ref pa), .val (.long v), .second, .val (.int (14 : Int32)), s8, s9] []))
  refine Goes.via (fun _ k => XS.iload X.here hx rfl (hb hby at_186) rfl k) ?_
  show Goes _ _ _ _ _ _ _ _ (T.setTop (mkF m 188 #[.val (.long x0), .second, .val (.int mode), .val (.int d0), .val (.ref pa), .val (.long v), .second, .val (.int (14 : Int32)), s8, s9] [(.int (14 : Int32))]))
  refine Goes.via (fun _ k => XT.bipushV X.here hx rfl (19 : Int32) (hb hby at_188) (by decide) k) ?_
  show Goes _ _ _ _ _ _ _ _ (T.setTop (mkF m 190 #[.val (.long x0), .second, .val (.int mode), .val (.int d0), .val (.ref pa), .val (.long v), .second, .val (.int (14 : Int32)), s8, s9] [(.int (19 : Int32)), (.int (14 : Int32))]))
  refine Goes.via (fun _ k => XS.icmpYes X.here hx rfl (pc0 := 190) (pc' := 195) rfl (hb hby at_190) rfl (XT.ii_le_t (by decide)) (by decide) (by decide) k) ?_
  show Goes _ _ _ _ _ _ _ _ (T.setTop (mkF m 195 #[.val (.long x0), .second, .val (.int mode), .val (.int d0), .val (.ref pa), .val (.long v), .second, .val (.int (14 : Int32)), s8, s9] []))
  refine Goes.via (fun _ k => XS.iload X.here hx rfl (hb hby at_195) rfl k) ?_
  show Goes _ _ _ _ _ _ _ _ (T.setTop (mkF m 197 #[.val (.long x0), .second, .val (.int mode), .val (.int d0), .val (.ref pa), .val (.long v), .second, .val (.int (14 : Int32)), s8, s9] [(.int (14 : Int32))]))
  refine Goes.via (fun _ k => XT.iconstV X.here hx rfl (1 : Int32) (hb hby at_197) (by decide) k) ?_
  show Goes _ _ _ _ _ _ _ _ (T.setTop (mkF m 198 #[.val (.long x0), .second, .val (.int mode), .val (.int d0), .val (.ref pa), .val (.long v), .second, .val (.int (14 : Int32)), s8, s9] [(.int (1 : Int32)), (.int (14 : Int32))]))
  refine Goes.via (fun _ k => XS.icmpNo X.here hx rfl (hb hby at_198) rfl (XT.ii_eq_f (by decide)) k) ?_
  show Goes _ _ _ _ _ _ _ _ (T.setTop (mkF m 201 #[.val (.long x0), .second, .val (.int mode), .val (.int d0), .val (.ref pa), .val (.long v), .second, .val (.int (14 : Int32)), s8, s9] []))
  refine Goes.via (fun _ k => XT.lload X.here hx rfl (hb hby at_201) rfl k) ?_
  show Goes _ _ _ _ _ _ _ _ (T.setTop (mkF m 203 #[.val (.long x0), .second, .val (.int mode), .val (.int d0), .val (.ref pa), .val (.long v), .second, .val (.int (14 : Int32)), s8, s9] [(.long v)]))
  refine Goes.via (fun _ k => XS.aload X.here hx rfl (hb hby at_203) rfl rfl k) ?_
  show Goes _ _ _ _ _ _ _ _ (T.setTop (mkF m 205 #[.val (.long x0), .second, .val (.int mode), .val (.int d0), .val (.ref pa), .val (.long v), .second, .val (.int (14 : Int32)), s8, s9] [(.ref pa), (.long v)]))
  refine Goes.via (fun _ k => XS.iload X.here hx rfl (hb hby at_205) rfl k) ?_
  show Goes _ _ _ _ _ _ _ _ (T.setTop (mkF m 207 #[.val (.long x0), .second, .val (.int mode), .val (.int d0), .val (.ref pa), .val (.long v), .second, .val (.int (14 : Int32)), s8, s9] [(.int (14 : Int32)), (.ref pa), (.long v)]))
  refine Goes.via (fun _ k => XT.iconstV X.here hx rfl (1 : Int32) (hb hby at_207) (by decide) k) ?_
  show Goes _ _ _ _ _ _ _ _ (T.setTop (mkF m 208 #[.val (.long x0), .second, .val (.int mode), .val (.int d0), .val (.ref pa), .val (.long v), .second, .val (.int (14 : Int32)), s8, s9] [(.int (1 : Int32)), (.int (14 : Int32)), (.ref pa), (.long v)]))
  refine Goes.via (fun _ k => XS.isub X.here hx rfl (hb hby at_208) rfl k) ?_
  rw [show ((14 : Int32) - (1 : Int32)) = (13 : Int32) from by decide]
  show Goes _ _ _ _ _ _ _ _ (T.setTop (mkF m 209 #[.val (.long x0), .second, .val (.int mode), .val (.int d0), .val (.ref pa), .val (.long v), .second, .val (.int (14 : Int32)), s8, s9] [(.int (13 : Int32)), (.ref pa), (.long v)]))
  obtain ⟨clq2, Arq2, qq2, Sq2, Nnq2, Hq2, Gq2⟩ := id pf0
  have hinq2 : ¬ ((13 : Int32) < 0 ∨ clq2.slots.size ≤ ((13 : Int32)).toNatClampNeg) := inb_of Sq2 ⟨by decide, by decide⟩
  refine Goes.via (X.laload hx (j := (13 : Int32)) (v := (.long (10000000000000 : Int64))) (by rw [e0]; exact Arq2.1) (State.isArrayOf_alike hZ.alike Arq2.2.1) Arq2.2.2 hinq2 (Hq2.at hinq2 rfl) (g := (mkF m 209 #[.val (.long x0), .second, .val (.int mode), .val (.int d0), .val (.ref pa), .val (.long v), .second, .val (.int (14 : Int32)), s8, s9] [(.int (13 : Int32)), (.ref pa), (.long v)])) rfl rfl (hb hby at_209)) ?_
  show Goes _ _ _ _ _ _ _ _ (T.setTop (mkF m 210 #[.val (.long x0), .second, .val (.int mode), .val (.int d0), .val (.ref pa), .val (.long v), .second, .val (.int (14 : Int32)), s8, s9] [(.long (10000000000000 : Int64)), (.long v)]))
  refine Goes.via (fun _ k => XT.lcmp X.here hx rfl (hb hby at_210) rfl k) ?_
  show Goes _ _ _ _ _ _ _ _ (T.setTop (mkF m 211 #[.val (.long x0), .second, .val (.int mode), .val (.int d0), .val (.ref pa), .val (.long v), .second, .val (.int (14 : Int32)), s8, s9] [(.int (XT.cmpL v (10000000000000 : Int64)))]))
  refine Goes.via (fun _ k => XS.ifNo X.here hx rfl (hb hby at_211) rfl (XT.ll_lt_f lo7) k) ?_
  show Goes _ _ _ _ _ _ _ _ (T.setTop (mkF m 214 #[.val (.long x0), .second, .val (.int mode), .val (.int d0), .val (.ref pa), .val (.long v), .second, .val (.int (14 : Int32)), s8, s9] []))
  refine Goes.via (fun _ k => XT.iconstV X.here hx rfl (1 : Int32) (hb hby at_214) (by decide) k) ?_
  show Goes _ _ _ _ _ _ _ _ (T.setTop (mkF m 215 #[.val (.long x0), .second, .val (.int mode), .val (.int d0), .val (.ref pa), .val (.long v), .second, .val (.int (14 : Int32)), s8, s9] [(.int (1 : Int32))]))
  refine Goes.via (fun _ k => XS.goto X.here hx rfl (pc0 := 215) (pc' := 219) rfl (hb hby at_215) (by decide) (by decide) k) ?_
  show Goes _ _ _ _ _ _ _ _ (T.setTop (mkF m 219 #[.val (.long x0), .second, .val (.int mode), .val (.int d0), .val (.ref pa), .val (.long v), .second, .val (.int (14 : Int32)), s8, s9] [(.int (1 : Int32))]))
  refine Goes.via (fun _ k => XS.istore X.here hx rfl (hb hby at_219) rfl (l' := #[.val (.long x0), .second, .val (.int mode), .val (.int d0), .val (.ref pa), .val (.long v), .second, .val (.int (14 : Int32)), .val (.int (1 : Int32)), .unset]) (H8 _ _) k) ?_
  show Goes _ _ _ _ _ _ _ _ (T.setTop (mkF m 221 #[.val (.long x0), .second, .val (.int mode), .val (.int d0), .val (.ref pa), .val (.long v), .second, .val (.int (14 : Int32)), .val (.int (1 : Int32)), .unset] []))
  refine Goes.via (fun _ k => XS.iload X.here hx rfl (hb hby at_221) rfl k) ?_
  show Goes _ _ _ _ _ _ _ _ (T.setTop (mkF m 223 #[.val (.long x0), .second, .val (.int mode), .val (.int d0), .val (.ref pa), .val (.long v), .second, .val (.int (14 : Int32)), .val (.int (1 : Int32)), .unset] [(.int (14 : Int32))]))
  refine Goes.via (fun _ k => XT.bipushV X.here hx rfl (19 : Int32) (hb hby at_223) (by decide) k) ?_
  show Goes _ _ _ _ _ _ _ _ (T.setTop (mkF m 225 #[.val (.long x0), .second, .val (.int mode), .val (.int d0), .val (.ref pa), .val (.long v), .second, .val (.int (14 : Int32)), .val (.int (1 : Int32)), .unset] [(.int (19 : Int32)), (.int (14 : Int32))]))
  refine Goes.via (fun _ k => XS.icmpNo X.here hx rfl (hb hby at_225) rfl (XT.ii_eq_f (by decide)) k) ?_
  show Goes _ _ _ _ _ _ _ _ (T.setTop (mkF m 228 #[.val (.long x0), .second, .val (.int mode), .val (.int d0), .val (.ref pa), .val (.long v), .second, .val (.int (14 : Int32)), .val (.int (1 : Int32)), .unset] []))
  refine Goes.via (fun _ k => XT.lload X.here hx rfl (hb hby at_228) rfl k) ?_
  show Goes _ _ _ _ _ _ _ _ (T.setTop (mkF m 230 #[.val (.long x0), .second, .val (.int mode), .val (.int d0), .val (.ref pa), .val (.long v), .second, .val (.int (14 : Int32)), .val (.int (1 : Int32)), .unset] [(.long v)]))
  refine Goes.via (fun _ k => XS.aload X.here hx rfl (hb hby at_230) rfl rfl k) ?_
  show Goes _ _ _ _ _ _ _ _ (T.setTop (mkF m 232 #[.val (.long x0), .second, .val (.int mode), .val (.int d0), .val (.ref pa), .val (.long v), .second, .val (.int (14 : Int32)), .val (.int (1 : Int32)), .unset] [(.ref pa), (.long v)]))
  refine Goes.via (fun _ k => XS.iload X.here hx rfl (hb hby at_232) rfl k) ?_
  show Goes _ _ _ _ _ _ _ _ (T.setTop (mkF m 234 #[.val (.long x0), .second, .val (.int mode), .val (.int d0), .val (.ref pa), .val (.long v), .second, .val (.int (14 : Int32)), .val (.int (1 : Int32)), .unset] [(.int (14 : Int32)), (.ref pa), (.long v)]))
  obtain ⟨clq3, Arq3, qq3, Sq3, Nnq3, Hq3, Gq3⟩ := id pf0
  have hinq3 : ¬ ((14 : Int32) < 0 ∨ clq3.slots.size ≤ ((14 : Int32)).toNatClampNeg) := inb_of Sq3 ⟨by decide, by decide⟩
  refine Goes.via (X.laload hx (j := (14 : Int32)) (v := (.long (100000000000000 : Int64))) (by rw [e0]; exact Arq3.1) (State.isArrayOf_alike hZ.alike Arq3.2.1) Arq3.2.2 hinq3 (Hq3.at hinq3 rfl) (g := (mkF m 234 #[.val (.long x0), .second, .val (.int mode), .val (.int d0), .val (.ref pa), .val (.long v), .second, .val (.int (14 : Int32)), .val (.int (1 : Int32)), .unset] [(.int (14 : Int32)), (.ref pa), (.long v)])) rfl rfl (hb hby at_234)) ?_
  show Goes _ _ _ _ _ _ _ _ (T.setTop (mkF m 235 #[.val (.long x0), .second, .val (.int mode), .val (.int d0), .val (.ref pa), .val (.long v), .second, .val (.int (14 : Int32)), .val (.int (1 : Int32)), .unset] [(.long (100000000000000 : Int64)), (.long v)]))
  refine Goes.via (fun _ k => XT.lcmp X.here hx rfl (hb hby at_235) rfl k) ?_
  show Goes _ _ _ _ _ _ _ _ (T.setTop (mkF m 236 #[.val (.long x0), .second, .val (.int mode), .val (.int d0), .val (.ref pa), .val (.long v), .second, .val (.int (14 : Int32)), .val (.int (1 : Int32)), .unset] [(.int (XT.cmpL v (100000000000000 : Int64)))]))
  refine Goes.via (fun _ k => XS.ifNo X.here hx rfl (hb hby at_236) rfl (XT.ll_ge_f hi7) k) ?_
  show Goes _ _ _ _ _ _ _ _ (T.setTop (mkF m 239 #[.val (.long x0), .second, .val (.int mode), .val (.int d0), .val (.ref pa), .val (.long v), .second, .val (.int (14 : Int32)), .val (.int (1 : Int32)), .unset] []))
  refine Goes.via (fun _ k => XT.iconstV X.here hx rfl (1 : Int32) (hb hby at_239) (by decide) k) ?_
  show Goes _ _ _ _ _ _ _ _ (T.setTop (mkF m 240 #[.val (.long x0), .second, .val (.int mode), .val (.int d0), .val (.ref pa), .val (.long v), .second, .val (.int (14 : Int32)), .val (.int (1 : Int32)), .unset] [(.int (1 : Int32))]))
  refine Goes.via (fun _ k => XS.goto X.here hx rfl (pc0 := 240) (pc' := 244) rfl (hb hby at_240) (by decide) (by decide) k) ?_
  show Goes _ _ _ _ _ _ _ _ (T.setTop (mkF m 244 #[.val (.long x0), .second, .val (.int mode), .val (.int d0), .val (.ref pa), .val (.long v), .second, .val (.int (14 : Int32)), .val (.int (1 : Int32)), .unset] [(.int (1 : Int32))]))
  refine Goes.via (fun _ k => XS.istore X.here hx rfl (hb hby at_244) rfl (l' := #[.val (.long x0), .second, .val (.int mode), .val (.int d0), .val (.ref pa), .val (.long v), .second, .val (.int (14 : Int32)), .val (.int (1 : Int32)), .val (.int (1 : Int32))]) rfl k) ?_
  show Goes _ _ _ _ _ _ _ _ (T.setTop (mkF m 246 #[.val (.long x0), .second, .val (.int mode), .val (.int d0), .val (.ref pa), .val (.long v), .second, .val (.int (14 : Int32)), .val (.int (1 : Int32)), .val (.int (1 : Int32))] []))
  refine Goes.via (fun _ k => XS.iload X.here hx rfl (hb hby at_246) rfl k) ?_
  show Goes _ _ _ _ _ _ _ _ (T.setTop (mkF m 248 #[.val (.long x0), .second, .val (.int mode), .val (.int d0), .val (.ref pa), .val (.long v), .second, .val (.int (14 : Int32)), .val (.int (1 : Int32)), .val (.int (1 : Int32))] [(.int (1 : Int32))]))
  refine Goes.via (fun _ k => XS.ifNo X.here hx rfl (hb hby at_248) rfl (XT.i0_eq_f (by decide)) k) ?_
  show Goes _ _ _ _ _ _ _ _ (T.setTop (mkF m 251 #[.val (.long x0), .second, .val (.int mode), .val (.int d0), .val (.ref pa), .val (.long v), .second, .val (.int (14 : Int32)), .val (.int (1 : Int32)), .val (.int (1 : Int32))] []))
  refine Goes.via (fun _ k => XS.iload X.here hx rfl (hb hby at_251) rfl k) ?_
  show Goes _ _ _ _ _ _ _ _ (T.setTop (mkF m 253 #[.val (.long x0), .second, .val (.int mode), .val (.int d0), .val (.ref pa), .val (.long v), .second, .val (.int (14 : Int32)), .val (.int (1 : Int32)), .val (.int (1 : Int32))] [(.int (1 : Int32))]))
  refine Goes.via (fun _ k => XS.ifNo X.here hx rfl (hb hby at_253) rfl (XT.i0_eq_f (by decide)) k) ?_
  show Goes _ _ _ _ _ _ _ _ (T.setTop (mkF m 256 #[.val (.long x0), .second, .val (.int mode), .val (.int d0), .val (.ref pa), .val (.long v), .second, .val (.int (14 : Int32)), .val (.int (1 : Int32)), .val (.int (1 : Int32))] []))
  refine Goes.via (fun _ k => XT.iconstV X.here hx rfl (1 : Int32) (hb hby at_256) (by decide) k) ?_
  show Goes _ _ _ _ _ _ _ _ (T.setTop (mkF m 257 #[.val (.long x0), .second, .val (.int mode), .val (.int d0), .val (.ref pa), .val (.long v), .second, .val (.int (14 : Int32)), .val (.int (1 : Int32)), .val (.int (1 : Int32))] [(.int (1 : Int32))]))
  refine Goes.via (fun _ k => XS.goto X.here hx rfl (pc0 := 257) (pc' := 261) rfl (hb hby at_257) (by decide) (by decide) k) ?_
  show Goes _ _ _ _ _ _ _ _ (T.setTop (mkF m 261 #[.val (.long x0), .second, .val (.int mode), .val (.int d0), .val (.ref pa), .val (.long v), .second, .val (.int (14 : Int32)), .val (.int (1 : Int32)), .val (.int (1 : Int32))] [(.int (1 : Int32))]))
  refine goRetN X hx hrt (by simp) hlk N (by show _ ≤ 16; omega) (by show _ ≤ 128; omega) (hb hby at_261) ?_
  try rw [e0]
  exact rfl
set_option maxRecDepth 65536 in
set_option maxHeartbeats 40000000 in
theorem law_c33 (l : Launch) (Z : State) (aw : Array Value) (hw : ∀ d ∈ tables_1, d.before aw Z = true) (x0 : Int64) (mode : Int32) (d0 : Int32) (ar : Nat) (k0 : ClassId) (pa : Nat) (ka : ClassId) (v : Int64) (s7 : Slot) (s8 : Slot) (s9 : Slot) {p : Program} {e : Env} {s : State} {m : MethodId} {args : Array Value} {below : List Frame} {meth : Method} {c : Code} {T : State} {locs : List Loc} {cells slots n0 : Nat} {h1 : Heap} (hx : p.tables.exec = Jvm.exec) (hby : c.code = code) (hml : c.maxLocals = 10) (hrt : meth.sig.returnType = some .boolean) (hlk : meth.locks = false) (hnm : meth.name = "law") (hZ : Z.Warmed39 s.vm) (hown : s.vm.findClass "com/example/primevertical/primevertical/DecimalTextDigitCountPinLaw" = some m.cls) (X : Stand p l e room_1 s m args below meth c T locs cells slots) (e0 : T.heap = h1) (N : Fr n0 locs) (hcells : cells ≤ 1) (hslots : slots ≤ 19) (O : Old Z n0 h1) (S0 : Sta Z Z.heap "com/example/primevertical/primevertical/DecimalText" "LONG_POWERS_OF_TEN" "[J" (.ref ar)) (V0 : Arv Z Z.heap ar k0 .long (19 : Int32) PW (.long (0 : Int64))) (pf0 : Arv Z h1 pa ka .long (19 : Int32) PW (.long (0 : Int64))) (h_s7 : One s7) (H8 : ∀ z7 z8 : Int32, storeLocals #[.val (.long x0), .second, .val (.int mode), .val (.int d0), .val (.ref pa), .val (.long v), .second, .val (.int z7), s8, s9] 8 (.int z8) = some #[.val (.long x0), .second, .val (.int mode), .val (.int d0), .val (.ref pa), .val (.long v), .second, .val (.int z7), .val (.int z8), .unset]) (lo7 : ¬ v < (100000000000000 : Int64)) (hi7 : v < (1000000000000000 : Int64)) :
    Goes p e below s room_1.cells room_1.slots n0 (fun vv hh => vv = some (.int (1 : Int32))) (T.setTop (mkF m 178 #[.val (.long x0), .second, .val (.int mode), .val (.int d0), .val (.ref pa), .val (.long v), .second, s7, s8, s9] [(.int (15 : Int32))])) := by
  have zO := O.le
  have lt_pa := lt_nat pf0.lt
  show Goes _ _ _ _ _ _ _ _ (T.setTop (mkF m 178 #[.val (.long x0), .second, .val (.int mode), .val (.int d0), .val (.ref pa), .val (.long v), .second, s7, s8, s9] [(.int (15 : Int32))]))
  refine Goes.via (fun _ k => XS.istore X.here hx rfl (hb hby at_178) rfl (l' := #[.val (.long x0), .second, .val (.int mode), .val (.int d0), .val (.ref pa), .val (.long v), .second, .val (.int (15 : Int32)), s8, s9]) (XS.store1 rfl h_s7 rfl) k) ?_
  show Goes _ _ _ _ _ _ _ _ (T.setTop (mkF m 180 #[.val (.long x0), .second, .val (.int mode), .val (.int d0), .val (.ref pa), .val (.long v), .second, .val (.int (15 : Int32)), s8, s9] []))
  refine Goes.via (fun _ k => XS.iload X.here hx rfl (hb hby at_180) rfl k) ?_
  show Goes _ _ _ _ _ _ _ _ (T.setTop (mkF m 182 #[.val (.long x0), .second, .val (.int mode), .val (.int d0), .val (.ref pa), .val (.long v), .second, .val (.int (15 : Int32)), s8, s9] [(.int (15 : Int32))]))
  refine Goes.via (fun _ k => XT.iconstV X.here hx rfl (1 : Int32) (hb hby at_182) (by decide) k) ?_
  show Goes _ _ _ _ _ _ _ _ (T.setTop (mkF m 183 #[.val (.long x0), .second, .val (.int mode), .val (.int d0), .val (.ref pa), .val (.long v), .second, .val (.int (15 : Int32)), s8, s9] [(.int (1 : Int32)), (.int (15 : Int32))]))
  refine Goes.via (fun _ k => XS.icmpNo X.here hx rfl (hb hby at_183) rfl (XT.ii_lt_f (by decide)) k) ?_
  show Goes _ _ _ _ _ _ _ _ (T.setTop (mkF m 186 #[.val (.long x0), .second, .val (.int mode), .val (.int d0), .val (.ref pa), .val (.long v), .second, .val (.int (15 : Int32)), s8, s9] []))
  refine Goes.via (fun _ k => XS.iload X.here hx rfl (hb hby at_186) rfl k) ?_
  show Goes _ _ _ _ _ _ _ _ (T.setTop (mkF m 188 #[.val (.long x0), .second, .val (.int mode), .val (.int d0), .val (.ref pa), .val (.long v), .second, .val (.int (15 : Int32)), s8, s9] [(.int (15 : Int32))]))
  refine Goes.via (fun _ k => XT.bipushV X.here hx rfl (19 : Int32) (hb hby at_188) (by decide) k) ?_
  show Goes _ _ _ _ _ _ _ _ (T.setTop (mkF m 190 #[.val (.long x0), .second, .val (.int mode), .val (.int d0), .val (.ref pa), .val (.long v), .second, .val (.int (15 : Int32)), s8, s9] [(.int (19 : Int32)), (.int (15 : Int32))]))
  refine Goes.via (fun _ k => XS.icmpYes X.here hx rfl (pc0 := 190) (pc' := 195) rfl (hb hby at_190) rfl (XT.ii_le_t (by decide)) (by decide) (by decide) k) ?_
  show Goes _ _ _ _ _ _ _ _ (T.setTop (mkF m 195 #[.val (.long x0), .second, .val (.int mode), .val (.int d0), .val (.ref pa), .val (.long v), .second, .val (.int (15 : Int32)), s8, s9] []))
  refine Goes.via (fun _ k => XS.iload X.here hx rfl (hb hby at_195) rfl k) ?_
  show Goes _ _ _ _ _ _ _ _ (T.setTop (mkF m 197 #[.val (.long x0), .second, .val (.int mode), .val (.int d0), .val (.ref pa), .val (.long v), .second, .val (.int (15 : Int32)), s8, s9] [(.int (15 : Int32))]))
  refine Goes.via (fun _ k => XT.iconstV X.here hx rfl (1 : Int32) (hb hby at_197) (by decide) k) ?_
  show Goes _ _ _ _ _ _ _ _ (T.setTop (mkF m 198 #[.val (.long x0), .second, .val (.int mode), .val (.int d0), .val (.ref pa), .val (.long v), .second, .val (.int (15 : Int32)), s8, s9] [(.int (1 : Int32)), (.int (15 : Int32))]))
  refine Goes.via (fun _ k => XS.icmpNo X.here hx rfl (hb hby at_198) rfl (XT.ii_eq_f (by decide)) k) ?_
  show Goes _ _ _ _ _ _ _ _ (T.setTop (mkF m 201 #[.val (.long x0), .second, .val (.int mode), .val (.int d0), .val (.ref pa), .val (.long v), .second, .val (.int (15 : Int32)), s8, s9] []))
  refine Goes.via (fun _ k => XT.lload X.here hx rfl (hb hby at_201) rfl k) ?_
  show Goes _ _ _ _ _ _ _ _ (T.setTop (mkF m 203 #[.val (.long x0), .second, .val (.int mode), .val (.int d0), .val (.ref pa), .val (.long v), .second, .val (.int (15 : Int32)), s8, s9] [(.long v)]))
  refine Goes.via (fun _ k => XS.aload X.here hx rfl (hb hby at_203) rfl rfl k) ?_
  show Goes _ _ _ _ _ _ _ _ (T.setTop (mkF m 205 #[.val (.long x0), .second, .val (.int mode), .val (.int d0), .val (.ref pa), .val (.long v), .second, .val (.int (15 : Int32)), s8, s9] [(.ref pa), (.long v)]))
  refine Goes.via (fun _ k => XS.iload X.here hx rfl (hb hby at_205) rfl k) ?_
  show Goes _ _ _ _ _ _ _ _ (T.setTop (mkF m 207 #[.val (.long x0), .second, .val (.int mode), .val (.int d0), .val (.ref pa), .val (.long v), .second, .val (.int (15 : Int32)), s8, s9] [(.int (15 : Int32)), (.ref pa), (.long v)]))
  refine Goes.via (fun _ k => XT.iconstV X.here hx rfl (1 : Int32) (hb hby at_207) (by decide) k) ?_
  show Goes _ _ _ _ _ _ _ _ (T.setTop (mkF m 208 #[.val (.long x0), .second, .val (.int mode), .val (.int d0), .val (.ref pa), .val (.long v), .second, .val (.int (15 : Int32)), s8, s9] [(.int (1 : Int32)), (.int (15 : Int32)), (.ref pa), (.long v)]))
  refine Goes.via (fun _ k => XS.isub X.here hx rfl (hb hby at_208) rfl k) ?_
  rw [show ((15 : Int32) - (1 : Int32)) = (14 : Int32) from by decide]
  show Goes _ _ _ _ _ _ _ _ (T.setTop (mkF m 209 #[.val (.long x0), .second, .val (.int mode), .val (.int d0), .val (.ref pa), .val (.long v), .second, .val (.int (15 : Int32)), s8, s9] [(.int (14 : Int32)), (.ref pa), (.long v)]))
  obtain ⟨clq2, Arq2, qq2, Sq2, Nnq2, Hq2, Gq2⟩ := id pf0
  have hinq2 : ¬ ((14 : Int32) < 0 ∨ clq2.slots.size ≤ ((14 : Int32)).toNatClampNeg) := inb_of Sq2 ⟨by decide, by decide⟩
  refine Goes.via (X.laload hx (j := (14 : Int32)) (v := (.long (100000000000000 : Int64))) (by rw [e0]; exact Arq2.1) (State.isArrayOf_alike hZ.alike Arq2.2.1) Arq2.2.2 hinq2 (Hq2.at hinq2 rfl) (g := (mkF m 209 #[.val (.long x0), .second, .val (.int mode), .val (.int d0), .val (.ref pa), .val (.long v), .second, .val (.int (15 : Int32)), s8, s9] [(.int (14 : Int32)), (.ref pa), (.long v)])) rfl rfl (hb hby at_209)) ?_
  show Goes _ _ _ _ _ _ _ _ (T.setTop (mkF m 210 #[.val (.long x0), .second, .val (.int mode), .val (.int d0), .val (.ref pa), .val (.long v), .second, .val (.int (15 : Int32)), s8, s9] [(.long (100000000000000 : Int64)), (.long v)]))
  refine Goes.via (fun _ k => XT.lcmp X.here hx rfl (hb hby at_210) rfl k) ?_
  show Goes _ _ _ _ _ _ _ _ (T.setTop (mkF m 211 #[.val (.long x0), .second, .val (.int mode), .val (.int d0), .val (.ref pa), .val (.long v), .second, .val (.int (15 : Int32)), s8, s9] [(.int (XT.cmpL v (100000000000000 : Int64)))]))
  refine Goes.via (fun _ k => XS.ifNo X.here hx rfl (hb hby at_211) rfl (XT.ll_lt_f lo7) k) ?_
  show Goes _ _ _ _ _ _ _ _ (T.setTop (mkF m 214 #[.val (.long x0), .second, .val (.int mode), .val (.int d0), .val (.ref pa), .val (.long v), .second, .val (.int (15 : Int32)), s8, s9] []))
  refine Goes.via (fun _ k => XT.iconstV X.here hx rfl (1 : Int32) (hb hby at_214) (by decide) k) ?_
  show Goes _ _ _ _ _ _ _ _ (T.setTop (mkF m 215 #[.val (.long x0), .second, .val (.int mode), .val (.int d0), .val (.ref pa), .val (.long v), .second, .val (.int (15 : Int32)), s8, s9] [(.int (1 : Int32))]))
  refine Goes.via (fun _ k => XS.goto X.here hx rfl (pc0 := 215) (pc' := 219) rfl (hb hby at_215) (by decide) (by decide) k) ?_
  show Goes _ _ _ _ _ _ _ _ (T.setTop (mkF m 219 #[.val (.long x0), .second, .val (.int mode), .val (.int d0), .val (.ref pa), .val (.long v), .second, .val (.int (15 : Int32)), s8, s9] [(.int (1 : Int32))]))
  refine Goes.via (fun _ k => XS.istore X.here hx rfl (hb hby at_219) rfl (l' := #[.val (.long x0), .second, .val (.int mode), .val (.int d0), .val (.ref pa), .val (.long v), .second, .val (.int (15 : Int32)), .val (.int (1 : Int32)), .unset]) (H8 _ _) k) ?_
  show Goes _ _ _ _ _ _ _ _ (T.setTop (mkF m 221 #[.val (.long x0), .second, .val (.int mode), .val (.int d0), .val (.ref pa), .val (.long v), .second, .val (.int (15 : Int32)), .val (.int (1 : Int32)), .unset] []))
  refine Goes.via (fun _ k => XS.iload X.here hx rfl (hb hby at_221) rfl k) ?_
  show Goes _ _ _ _ _ _ _ _ (T.setTop (mkF m 223 #[.val (.long x0), .second, .val (.int mode), .val (.int d0), .val (.ref pa), .val (.long v), .second, .val (.int (15 : Int32)), .val (.int (1 : Int32)), .unset] [(.int (15 : Int32))]))
  refine Goes.via (fun _ k => XT.bipushV X.here hx rfl (19 : Int32) (hb hby at_223) (by decide) k) ?_
  show Goes _ _ _ _ _ _ _ _ (T.setTop (mkF m 225 #[.val (.long x0), .second, .val (.int mode), .val (.int d0), .val (.ref pa), .val (.long v), .second, .val (.int (15 : Int32)), .val (.int (1 : Int32)), .unset] [(.int (19 : Int32)), (.int (15 : Int32))]))
  refine Goes.via (fun _ k => XS.icmpNo X.here hx rfl (hb hby at_225) rfl (XT.ii_eq_f (by decide)) k) ?_
  show Goes _ _ _ _ _ _ _ _ (T.setTop (mkF m 228 #[.val (.long x0), .second, .val (.int mode), .val (.int d0), .val (.ref pa), .val (.long v), .second, .val (.int (15 : Int32)), .val (.int (1 : Int32)), .unset] []))
  refine Goes.via (fun _ k => XT.lload X.here hx rfl (hb hby at_228) rfl k) ?_
  show Goes _ _ _ _ _ _ _ _ (T.setTop (mkF m 230 #[.val (.long x0), .second, .val (.int mode), .val (.int d0), .val (.ref pa), .val (.long v), .second, .val (.int (15 : Int32)), .val (.int (1 : Int32)), .unset] [(.long v)]))
  refine Goes.via (fun _ k => XS.aload X.here hx rfl (hb hby at_230) rfl rfl k) ?_
  show Goes _ _ _ _ _ _ _ _ (T.setTop (mkF m 232 #[.val (.long x0), .second, .val (.int mode), .val (.int d0), .val (.ref pa), .val (.long v), .second, .val (.int (15 : Int32)), .val (.int (1 : Int32)), .unset] [(.ref pa), (.long v)]))
  refine Goes.via (fun _ k => XS.iload X.here hx rfl (hb hby at_232) rfl k) ?_
  show Goes _ _ _ _ _ _ _ _ (T.setTop (mkF m 234 #[.val (.long x0), .second, .val (.int mode), .val (.int d0), .val (.ref pa), .val (.long v), .second, .val (.int (15 : Int32)), .val (.int (1 : Int32)), .unset] [(.int (15 : Int32)), (.ref pa), (.long v)]))
  obtain ⟨clq3, Arq3, qq3, Sq3, Nnq3, Hq3, Gq3⟩ := id pf0
  have hinq3 : ¬ ((15 : Int32) < 0 ∨ clq3.slots.size ≤ ((15 : Int32)).toNatClampNeg) := inb_of Sq3 ⟨by decide, by decide⟩
  refine Goes.via (X.laload hx (j := (15 : Int32)) (v := (.long (1000000000000000 : Int64))) (by rw [e0]; exact Arq3.1) (State.isArrayOf_alike hZ.alike Arq3.2.1) Arq3.2.2 hinq3 (Hq3.at hinq3 rfl) (g := (mkF m 234 #[.val (.long x0), .second, .val (.int mode), .val (.int d0), .val (.ref pa), .val (.long v), .second, .val (.int (15 : Int32)), .val (.int (1 : Int32)), .unset] [(.int (15 : Int32)), (.ref pa), (.long v)])) rfl rfl (hb hby at_234)) ?_
  show Goes _ _ _ _ _ _ _ _ (T.setTop (mkF m 235 #[.val (.long x0), .second, .val (.int mode), .val (.int d0), .val (.ref pa), .val (.long v), .second, .val (.int (15 : Int32)), .val (.int (1 : Int32)), .unset] [(.long (1000000000000000 : Int64)), (.long v)]))
  refine Goes.via (fun _ k => XT.lcmp X.here hx rfl (hb hby at_235) rfl k) ?_
  show Goes _ _ _ _ _ _ _ _ (T.setTop (mkF m 236 #[.val (.long x0), .second, .val (.int mode), .val (.int d0), .val (.ref pa), .val (.long v), .second, .val (.int (15 : Int32)), .val (.int (1 : Int32)), .unset] [(.int (XT.cmpL v (1000000000000000 : Int64)))]))
  refine Goes.via (fun _ k => XS.ifNo X.here hx rfl (hb hby at_236) rfl (XT.ll_ge_f hi7) k) ?_
  show Goes _ _ _ _ _ _ _ _ (T.setTop (mkF m 239 #[.val (.long x0), .second, .val (.int mode), .val (.int d0), .val (.ref pa), .val (.long v), .second, .val (.int (15 : Int32)), .val (.int (1 : Int32)), .unset] []))
  refine Goes.via (fun _ k => XT.iconstV X.here hx rfl (1 : Int32) (hb hby at_239) (by decide) k) ?_
  show Goes _ _ _ _ _ _ _ _ (T.setTop (mkF m 240 #[.val (.long x0), .second, .val (.int mode), .val (.int d0), .val (.ref pa), .val (.long v), .second, .val (.int (15 : Int32)), .val (.int (1 : Int32)), .unset] [(.int (1 : Int32))]))
  refine Goes.via (fun _ k => XS.goto X.here hx rfl (pc0 := 240) (pc' := 244) rfl (hb hby at_240) (by decide) (by decide) k) ?_
  show Goes _ _ _ _ _ _ _ _ (T.setTop (mkF m 244 #[.val (.long x0), .second, .val (.int mode), .val (.int d0), .val (.ref pa), .val (.long v), .second, .val (.int (15 : Int32)), .val (.int (1 : Int32)), .unset] [(.int (1 : Int32))]))
  refine Goes.via (fun _ k => XS.istore X.here hx rfl (hb hby at_244) rfl (l' := #[.val (.long x0), .second, .val (.int mode), .val (.int d0), .val (.ref pa), .val (.long v), .second, .val (.int (15 : Int32)), .val (.int (1 : Int32)), .val (.int (1 : Int32))]) rfl k) ?_
  show Goes _ _ _ _ _ _ _ _ (T.setTop (mkF m 246 #[.val (.long x0), .second, .val (.int mode), .val (.int d0), .val (.ref pa), .val (.long v), .second, .val (.int (15 : Int32)), .val (.int (1 : Int32)), .val (.int (1 : Int32))] []))
  refine Goes.via (fun _ k => XS.iload X.here hx rfl (hb hby at_246) rfl k) ?_
  show Goes _ _ _ _ _ _ _ _ (T.setTop (mkF m 248 #[.val (.long x0), .second, .val (.int mode), .val (.int d0), .val (.ref pa), .val (.long v), .second, .val (.int (15 : Int32)), .val (.int (1 : Int32)), .val (.int (1 : Int32))] [(.int (1 : Int32))]))
  refine Goes.via (fun _ k => XS.ifNo X.here hx rfl (hb hby at_248) rfl (XT.i0_eq_f (by decide)) k) ?_
  show Goes _ _ _ _ _ _ _ _ (T.setTop (mkF m 251 #[.val (.long x0), .second, .val (.int mode), .val (.int d0), .val (.ref pa), .val (.long v), .second, .val (.int (15 : Int32)), .val (.int (1 : Int32)), .val (.int (1 : Int32))] []))
  refine Goes.via (fun _ k => XS.iload X.here hx rfl (hb hby at_251) rfl k) ?_
  show Goes _ _ _ _ _ _ _ _ (T.setTop (mkF m 253 #[.val (.long x0), .second, .val (.int mode), .val (.int d0), .val (.ref pa), .val (.long v), .second, .val (.int (15 : Int32)), .val (.int (1 : Int32)), .val (.int (1 : Int32))] [(.int (1 : Int32))]))
  refine Goes.via (fun _ k => XS.ifNo X.here hx rfl (hb hby at_253) rfl (XT.i0_eq_f (by decide)) k) ?_
  show Goes _ _ _ _ _ _ _ _ (T.setTop (mkF m 256 #[.val (.long x0), .second, .val (.int mode), .val (.int d0), .val (.ref pa), .val (.long v), .second, .val (.int (15 : Int32)), .val (.int (1 : Int32)), .val (.int (1 : Int32))] []))
  refine Goes.via (fun _ k => XT.iconstV X.here hx rfl (1 : Int32) (hb hby at_256) (by decide) k) ?_
  show Goes _ _ _ _ _ _ _ _ (T.setTop (mkF m 257 #[.val (.long x0), .second, .val (.int mode), .val (.int d0), .val (.ref pa), .val (.long v), .second, .val (.int (15 : Int32)), .val (.int (1 : Int32)), .val (.int (1 : Int32))] [(.int (1 : Int32))]))
  refine Goes.via (fun _ k => XS.goto X.here hx rfl (pc0 := 257) (pc' := 261) rfl (hb hby at_257) (by decide) (by decide) k) ?_
  show Goes _ _ _ _ _ _ _ _ (T.setTop (mkF m 261 #[.val (.long x0), .second, .val (.int mode), .val (.int d0), .val (.ref pa), .val (.long v), .second, .val (.int (15 : Int32)), .val (.int (1 : Int32)), .val (.int (1 : Int32))] [(.int (1 : Int32))]))
  refine goRetN X hx hrt (by simp) hlk N (by show _ ≤ 16; omega) (by show _ ≤ 128; omega) (hb hby at_261) ?_
  try rw [e0]
  exact rfl
set_option maxRecDepth 65536 in
set_option maxHeartbeats 40000000 in
theorem law_c34 (l : Launch) (Z : State) (aw : Array Value) (hw : ∀ d ∈ tables_1, d.before aw Z = true) (x0 : Int64) (mode : Int32) (d0 : Int32) (ar : Nat) (k0 : ClassId) (pa : Nat) (ka : ClassId) (v : Int64) (s7 : Slot) (s8 : Slot) (s9 : Slot) {p : Program} {e : Env} {s : State} {m : MethodId} {args : Array Value} {below : List Frame} {meth : Method} {c : Code} {T : State} {locs : List Loc} {cells slots n0 : Nat} {h1 : Heap} (hx : p.tables.exec = Jvm.exec) (hby : c.code = code) (hml : c.maxLocals = 10) (hrt : meth.sig.returnType = some .boolean) (hlk : meth.locks = false) (hnm : meth.name = "law") (hZ : Z.Warmed39 s.vm) (hown : s.vm.findClass "com/example/primevertical/primevertical/DecimalTextDigitCountPinLaw" = some m.cls) (X : Stand p l e room_1 s m args below meth c T locs cells slots) (e0 : T.heap = h1) (N : Fr n0 locs) (hcells : cells ≤ 1) (hslots : slots ≤ 19) (O : Old Z n0 h1) (S0 : Sta Z Z.heap "com/example/primevertical/primevertical/DecimalText" "LONG_POWERS_OF_TEN" "[J" (.ref ar)) (V0 : Arv Z Z.heap ar k0 .long (19 : Int32) PW (.long (0 : Int64))) (pf0 : Arv Z h1 pa ka .long (19 : Int32) PW (.long (0 : Int64))) (h_s7 : One s7) (H8 : ∀ z7 z8 : Int32, storeLocals #[.val (.long x0), .second, .val (.int mode), .val (.int d0), .val (.ref pa), .val (.long v), .second, .val (.int z7), s8, s9] 8 (.int z8) = some #[.val (.long x0), .second, .val (.int mode), .val (.int d0), .val (.ref pa), .val (.long v), .second, .val (.int z7), .val (.int z8), .unset]) (lo7 : ¬ v < (1000000000000000 : Int64)) (hi7 : v < (10000000000000000 : Int64)) :
    Goes p e below s room_1.cells room_1.slots n0 (fun vv hh => vv = some (.int (1 : Int32))) (T.setTop (mkF m 178 #[.val (.long x0), .second, .val (.int mode), .val (.int d0), .val (.ref pa), .val (.long v), .second, s7, s8, s9] [(.int (16 : Int32))])) := by
  have zO := O.le
  have lt_pa := lt_nat pf0.lt
  show Goes _ _ _ _ _ _ _ _ (T.setTop (mkF m 178 #[.val (.long x0), .second, .val (.int mode), .val (.int d0), .val (.ref pa), .val (.long v), .second, s7, s8, s9] [(.int (16 : Int32))]))
  refine Goes.via (fun _ k => XS.istore X.here hx rfl (hb hby at_178) rfl (l' := #[.val (.long x0), .second, .val (.int mode), .val (.int d0), .val (.ref pa), .val (.long v), .second, .val (.int (16 : Int32)), s8, s9]) (XS.store1 rfl h_s7 rfl) k) ?_
  show Goes _ _ _ _ _ _ _ _ (T.setTop (mkF m 180 #[.val (.long x0), .second, .val (.int mode), .val (.int d0), .val (.ref pa), .val (.long v), .second, .val (.int (16 : Int32)), s8, s9] []))
  refine Goes.via (fun _ k => XS.iload X.here hx rfl (hb hby at_180) rfl k) ?_
  show Goes _ _ _ _ _ _ _ _ (T.setTop (mkF m 182 #[.val (.long x0), .second, .val (.int mode), .val (.int d0), .val (.ref pa), .val (.long v), .second, .val (.int (16 : Int32)), s8, s9] [(.int (16 : Int32))]))
  refine Goes.via (fun _ k => XT.iconstV X.here hx rfl (1 : Int32) (hb hby at_182) (by decide) k) ?_
  show Goes _ _ _ _ _ _ _ _ (T.setTop (mkF m 183 #[.val (.long x0), .second, .val (.int mode), .val (.int d0), .val (.ref pa), .val (.long v), .second, .val (.int (16 : Int32)), s8, s9] [(.int (1 : Int32)), (.int (16 : Int32))]))
  refine Goes.via (fun _ k => XS.icmpNo X.here hx rfl (hb hby at_183) rfl (XT.ii_lt_f (by decide)) k) ?_
  show Goes _ _ _ _ _ _ _ _ (T.setTop (mkF m 186 #[.val (.long x0), .second, .val (.int mode), .val (.int d0), .val (.ref pa), .val (.long v), .second, .val (.int (16 : Int32)), s8, s9] []))
  refine Goes.via (fun _ k => XS.iload X.here hx rfl (hb hby at_186) rfl k) ?_
  show Goes _ _ _ _ _ _ _ _ (T.setTop (mkF m 188 #[.val (.long x0), .second, .val (.int mode), .val (.int d0), .val (.ref pa), .val (.long v), .second, .val (.int (16 : Int32)), s8, s9] [(.int (16 : Int32))]))
  refine Goes.via (fun _ k => XT.bipushV X.here hx rfl (19 : Int32) (hb hby at_188) (by decide) k) ?_
  show Goes _ _ _ _ _ _ _ _ (T.setTop (mkF m 190 #[.val (.long x0), .second, .val (.int mode), .val (.int d0), .val (.ref pa), .val (.long v), .second, .val (.int (16 : Int32)), s8, s9] [(.int (19 : Int32)), (.int (16 : Int32))]))
  refine Goes.via (fun _ k => XS.icmpYes X.here hx rfl (pc0 := 190) (pc' := 195) rfl (hb hby at_190) rfl (XT.ii_le_t (by decide)) (by decide) (by decide) k) ?_
  show Goes _ _ _ _ _ _ _ _ (T.setTop (mkF m 195 #[.val (.long x0), .second, .val (.int mode), .val (.int d0), .val (.ref pa), .val (.long v), .second, .val (.int (16 : Int32)), s8, s9] []))
  refine Goes.via (fun _ k => XS.iload X.here hx rfl (hb hby at_195) rfl k) ?_
  show Goes _ _ _ _ _ _ _ _ (T.setTop (mkF m 197 #[.val (.long x0), .second, .val (.int mode), .val (.int d0), .val (.ref pa), .val (.long v), .second, .val (.int (16 : Int32)), s8, s9] [(.int (16 : Int32))]))
  refine Goes.via (fun _ k => XT.iconstV X.here hx rfl (1 : Int32) (hb hby at_197) (by decide) k) ?_
  show Goes _ _ _ _ _ _ _ _ (T.setTop (mkF m 198 #[.val (.long x0), .second, .val (.int mode), .val (.int d0), .val (.ref pa), .val (.long v), .second, .val (.int (16 : Int32)), s8, s9] [(.int (1 : Int32)), (.int (16 : Int32))]))
  refine Goes.via (fun _ k => XS.icmpNo X.here hx rfl (hb hby at_198) rfl (XT.ii_eq_f (by decide)) k) ?_
  show Goes _ _ _ _ _ _ _ _ (T.setTop (mkF m 201 #[.val (.long x0), .second, .val (.int mode), .val (.int d0), .val (.ref pa), .val (.long v), .second, .val (.int (16 : Int32)), s8, s9] []))
  refine Goes.via (fun _ k => XT.lload X.here hx rfl (hb hby at_201) rfl k) ?_
  show Goes _ _ _ _ _ _ _ _ (T.setTop (mkF m 203 #[.val (.long x0), .second, .val (.int mode), .val (.int d0), .val (.ref pa), .val (.long v), .second, .val (.int (16 : Int32)), s8, s9] [(.long v)]))
  refine Goes.via (fun _ k => XS.aload X.here hx rfl (hb hby at_203) rfl rfl k) ?_
  show Goes _ _ _ _ _ _ _ _ (T.setTop (mkF m 205 #[.val (.long x0), .second, .val (.int mode), .val (.int d0), .val (.ref pa), .val (.long v), .second, .val (.int (16 : Int32)), s8, s9] [(.ref pa), (.long v)]))
  refine Goes.via (fun _ k => XS.iload X.here hx rfl (hb hby at_205) rfl k) ?_
  show Goes _ _ _ _ _ _ _ _ (T.setTop (mkF m 207 #[.val (.long x0), .second, .val (.int mode), .val (.int d0), .val (.ref pa), .val (.long v), .second, .val (.int (16 : Int32)), s8, s9] [(.int (16 : Int32)), (.ref pa), (.long v)]))
  refine Goes.via (fun _ k => XT.iconstV X.here hx rfl (1 : Int32) (hb hby at_207) (by decide) k) ?_
  show Goes _ _ _ _ _ _ _ _ (T.setTop (mkF m 208 #[.val (.long x0), .second, .val (.int mode), .val (.int d0), .val (.ref pa), .val (.long v), .second, .val (.int (16 : Int32)), s8, s9] [(.int (1 : Int32)), (.int (16 : Int32)), (.ref pa), (.long v)]))
  refine Goes.via (fun _ k => XS.isub X.here hx rfl (hb hby at_208) rfl k) ?_
  rw [show ((16 : Int32) - (1 : Int32)) = (15 : Int32) from by decide]
  show Goes _ _ _ _ _ _ _ _ (T.setTop (mkF m 209 #[.val (.long x0), .second, .val (.int mode), .val (.int d0), .val (.ref pa), .val (.long v), .second, .val (.int (16 : Int32)), s8, s9] [(.int (15 : Int32)), (.ref pa), (.long v)]))
  obtain ⟨clq2, Arq2, qq2, Sq2, Nnq2, Hq2, Gq2⟩ := id pf0
  have hinq2 : ¬ ((15 : Int32) < 0 ∨ clq2.slots.size ≤ ((15 : Int32)).toNatClampNeg) := inb_of Sq2 ⟨by decide, by decide⟩
  refine Goes.via (X.laload hx (j := (15 : Int32)) (v := (.long (1000000000000000 : Int64))) (by rw [e0]; exact Arq2.1) (State.isArrayOf_alike hZ.alike Arq2.2.1) Arq2.2.2 hinq2 (Hq2.at hinq2 rfl) (g := (mkF m 209 #[.val (.long x0), .second, .val (.int mode), .val (.int d0), .val (.ref pa), .val (.long v), .second, .val (.int (16 : Int32)), s8, s9] [(.int (15 : Int32)), (.ref pa), (.long v)])) rfl rfl (hb hby at_209)) ?_
  show Goes _ _ _ _ _ _ _ _ (T.setTop (mkF m 210 #[.val (.long x0), .second, .val (.int mode), .val (.int d0), .val (.ref pa), .val (.long v), .second, .val (.int (16 : Int32)), s8, s9] [(.long (1000000000000000 : Int64)), (.long v)]))
  refine Goes.via (fun _ k => XT.lcmp X.here hx rfl (hb hby at_210) rfl k) ?_
  show Goes _ _ _ _ _ _ _ _ (T.setTop (mkF m 211 #[.val (.long x0), .second, .val (.int mode), .val (.int d0), .val (.ref pa), .val (.long v), .second, .val (.int (16 : Int32)), s8, s9] [(.int (XT.cmpL v (1000000000000000 : Int64)))]))
  refine Goes.via (fun _ k => XS.ifNo X.here hx rfl (hb hby at_211) rfl (XT.ll_lt_f lo7) k) ?_
  show Goes _ _ _ _ _ _ _ _ (T.setTop (mkF m 214 #[.val (.long x0), .second, .val (.int mode), .val (.int d0), .val (.ref pa), .val (.long v), .second, .val (.int (16 : Int32)), s8, s9] []))
  refine Goes.via (fun _ k => XT.iconstV X.here hx rfl (1 : Int32) (hb hby at_214) (by decide) k) ?_
  show Goes _ _ _ _ _ _ _ _ (T.setTop (mkF m 215 #[.val (.long x0), .second, .val (.int mode), .val (.int d0), .val (.ref pa), .val (.long v), .second, .val (.int (16 : Int32)), s8, s9] [(.int (1 : Int32))]))
  refine Goes.via (fun _ k => XS.goto X.here hx rfl (pc0 := 215) (pc' := 219) rfl (hb hby at_215) (by decide) (by decide) k) ?_
  show Goes _ _ _ _ _ _ _ _ (T.setTop (mkF m 219 #[.val (.long x0), .second, .val (.int mode), .val (.int d0), .val (.ref pa), .val (.long v), .second, .val (.int (16 : Int32)), s8, s9] [(.int (1 : Int32))]))
  refine Goes.via (fun _ k => XS.istore X.here hx rfl (hb hby at_219) rfl (l' := #[.val (.long x0), .second, .val (.int mode), .val (.int d0), .val (.ref pa), .val (.long v), .second, .val (.int (16 : Int32)), .val (.int (1 : Int32)), .unset]) (H8 _ _) k) ?_
  show Goes _ _ _ _ _ _ _ _ (T.setTop (mkF m 221 #[.val (.long x0), .second, .val (.int mode), .val (.int d0), .val (.ref pa), .val (.long v), .second, .val (.int (16 : Int32)), .val (.int (1 : Int32)), .unset] []))
  refine Goes.via (fun _ k => XS.iload X.here hx rfl (hb hby at_221) rfl k) ?_
  show Goes _ _ _ _ _ _ _ _ (T.setTop (mkF m 223 #[.val (.long x0), .second, .val (.int mode), .val (.int d0), .val (.ref pa), .val (.long v), .second, .val (.int (16 : Int32)), .val (.int (1 : Int32)), .unset] [(.int (16 : Int32))]))
  refine Goes.via (fun _ k => XT.bipushV X.here hx rfl (19 : Int32) (hb hby at_223) (by decide) k) ?_
  show Goes _ _ _ _ _ _ _ _ (T.setTop (mkF m 225 #[.val (.long x0), .second, .val (.int mode), .val (.int d0), .val (.ref pa), .val (.long v), .second, .val (.int (16 : Int32)), .val (.int (1 : Int32)), .unset] [(.int (19 : Int32)), (.int (16 : Int32))]))
  refine Goes.via (fun _ k => XS.icmpNo X.here hx rfl (hb hby at_225) rfl (XT.ii_eq_f (by decide)) k) ?_
  show Goes _ _ _ _ _ _ _ _ (T.setTop (mkF m 228 #[.val (.long x0), .second, .val (.int mode), .val (.int d0), .val (.ref pa), .val (.long v), .second, .val (.int (16 : Int32)), .val (.int (1 : Int32)), .unset] []))
  refine Goes.via (fun _ k => XT.lload X.here hx rfl (hb hby at_228) rfl k) ?_
  show Goes _ _ _ _ _ _ _ _ (T.setTop (mkF m 230 #[.val (.long x0), .second, .val (.int mode), .val (.int d0), .val (.ref pa), .val (.long v), .second, .val (.int (16 : Int32)), .val (.int (1 : Int32)), .unset] [(.long v)]))
  refine Goes.via (fun _ k => XS.aload X.here hx rfl (hb hby at_230) rfl rfl k) ?_
  show Goes _ _ _ _ _ _ _ _ (T.setTop (mkF m 232 #[.val (.long x0), .second, .val (.int mode), .val (.int d0), .val (.ref pa), .val (.long v), .second, .val (.int (16 : Int32)), .val (.int (1 : Int32)), .unset] [(.ref pa), (.long v)]))
  refine Goes.via (fun _ k => XS.iload X.here hx rfl (hb hby at_232) rfl k) ?_
  show Goes _ _ _ _ _ _ _ _ (T.setTop (mkF m 234 #[.val (.long x0), .second, .val (.int mode), .val (.int d0), .val (.ref pa), .val (.long v), .second, .val (.int (16 : Int32)), .val (.int (1 : Int32)), .unset] [(.int (16 : Int32)), (.ref pa), (.long v)]))
  obtain ⟨clq3, Arq3, qq3, Sq3, Nnq3, Hq3, Gq3⟩ := id pf0
  have hinq3 : ¬ ((16 : Int32) < 0 ∨ clq3.slots.size ≤ ((16 : Int32)).toNatClampNeg) := inb_of Sq3 ⟨by decide, by decide⟩
  refine Goes.via (X.laload hx (j := (16 : Int32)) (v := (.long (10000000000000000 : Int64))) (by rw [e0]; exact Arq3.1) (State.isArrayOf_alike hZ.alike Arq3.2.1) Arq3.2.2 hinq3 (Hq3.at hinq3 rfl) (g := (mkF m 234 #[.val (.long x0), .second, .val (.int mode), .val (.int d0), .val (.ref pa), .val (.long v), .second, .val (.int (16 : Int32)), .val (.int (1 : Int32)), .unset] [(.int (16 : Int32)), (.ref pa), (.long v)])) rfl rfl (hb hby at_234)) ?_
  show Goes _ _ _ _ _ _ _ _ (T.setTop (mkF m 235 #[.val (.long x0), .second, .val (.int mode), .val (.int d0), .val (.ref pa), .val (.long v), .second, .val (.int (16 : Int32)), .val (.int (1 : Int32)), .unset] [(.long (10000000000000000 : Int64)), (.long v)]))
  refine Goes.via (fun _ k => XT.lcmp X.here hx rfl (hb hby at_235) rfl k) ?_
  show Goes _ _ _ _ _ _ _ _ (T.setTop (mkF m 236 #[.val (.long x0), .second, .val (.int mode), .val (.int d0), .val (.ref pa), .val (.long v), .second, .val (.int (16 : Int32)), .val (.int (1 : Int32)), .unset] [(.int (XT.cmpL v (10000000000000000 : Int64)))]))
  refine Goes.via (fun _ k => XS.ifNo X.here hx rfl (hb hby at_236) rfl (XT.ll_ge_f hi7) k) ?_
  show Goes _ _ _ _ _ _ _ _ (T.setTop (mkF m 239 #[.val (.long x0), .second, .val (.int mode), .val (.int d0), .val (.ref pa), .val (.long v), .second, .val (.int (16 : Int32)), .val (.int (1 : Int32)), .unset] []))
  refine Goes.via (fun _ k => XT.iconstV X.here hx rfl (1 : Int32) (hb hby at_239) (by decide) k) ?_
  show Goes _ _ _ _ _ _ _ _ (T.setTop (mkF m 240 #[.val (.long x0), .second, .val (.int mode), .val (.int d0), .val (.ref pa), .val (.long v), .second, .val (.int (16 : Int32)), .val (.int (1 : Int32)), .unset] [(.int (1 : Int32))]))
  refine Goes.via (fun _ k => XS.goto X.here hx rfl (pc0 := 240) (pc' := 244) rfl (hb hby at_240) (by decide) (by decide) k) ?_
  show Goes _ _ _ _ _ _ _ _ (T.setTop (mkF m 244 #[.val (.long x0), .second, .val (.int mode), .val (.int d0), .val (.ref pa), .val (.long v), .second, .val (.int (16 : Int32)), .val (.int (1 : Int32)), .unset] [(.int (1 : Int32))]))
  refine Goes.via (fun _ k => XS.istore X.here hx rfl (hb hby at_244) rfl (l' := #[.val (.long x0), .second, .val (.int mode), .val (.int d0), .val (.ref pa), .val (.long v), .second, .val (.int (16 : Int32)), .val (.int (1 : Int32)), .val (.int (1 : Int32))]) rfl k) ?_
  show Goes _ _ _ _ _ _ _ _ (T.setTop (mkF m 246 #[.val (.long x0), .second, .val (.int mode), .val (.int d0), .val (.ref pa), .val (.long v), .second, .val (.int (16 : Int32)), .val (.int (1 : Int32)), .val (.int (1 : Int32))] []))
  refine Goes.via (fun _ k => XS.iload X.here hx rfl (hb hby at_246) rfl k) ?_
  show Goes _ _ _ _ _ _ _ _ (T.setTop (mkF m 248 #[.val (.long x0), .second, .val (.int mode), .val (.int d0), .val (.ref pa), .val (.long v), .second, .val (.int (16 : Int32)), .val (.int (1 : Int32)), .val (.int (1 : Int32))] [(.int (1 : Int32))]))
  refine Goes.via (fun _ k => XS.ifNo X.here hx rfl (hb hby at_248) rfl (XT.i0_eq_f (by decide)) k) ?_
  show Goes _ _ _ _ _ _ _ _ (T.setTop (mkF m 251 #[.val (.long x0), .second, .val (.int mode), .val (.int d0), .val (.ref pa), .val (.long v), .second, .val (.int (16 : Int32)), .val (.int (1 : Int32)), .val (.int (1 : Int32))] []))
  refine Goes.via (fun _ k => XS.iload X.here hx rfl (hb hby at_251) rfl k) ?_
  show Goes _ _ _ _ _ _ _ _ (T.setTop (mkF m 253 #[.val (.long x0), .second, .val (.int mode), .val (.int d0), .val (.ref pa), .val (.long v), .second, .val (.int (16 : Int32)), .val (.int (1 : Int32)), .val (.int (1 : Int32))] [(.int (1 : Int32))]))
  refine Goes.via (fun _ k => XS.ifNo X.here hx rfl (hb hby at_253) rfl (XT.i0_eq_f (by decide)) k) ?_
  show Goes _ _ _ _ _ _ _ _ (T.setTop (mkF m 256 #[.val (.long x0), .second, .val (.int mode), .val (.int d0), .val (.ref pa), .val (.long v), .second, .val (.int (16 : Int32)), .val (.int (1 : Int32)), .val (.int (1 : Int32))] []))
  refine Goes.via (fun _ k => XT.iconstV X.here hx rfl (1 : Int32) (hb hby at_256) (by decide) k) ?_
  show Goes _ _ _ _ _ _ _ _ (T.setTop (mkF m 257 #[.val (.long x0), .second, .val (.int mode), .val (.int d0), .val (.ref pa), .val (.long v), .second, .val (.int (16 : Int32)), .val (.int (1 : Int32)), .val (.int (1 : Int32))] [(.int (1 : Int32))]))
  refine Goes.via (fun _ k => XS.goto X.here hx rfl (pc0 := 257) (pc' := 261) rfl (hb hby at_257) (by decide) (by decide) k) ?_
  show Goes _ _ _ _ _ _ _ _ (T.setTop (mkF m 261 #[.val (.long x0), .second, .val (.int mode), .val (.int d0), .val (.ref pa), .val (.long v), .second, .val (.int (16 : Int32)), .val (.int (1 : Int32)), .val (.int (1 : Int32))] [(.int (1 : Int32))]))
  refine goRetN X hx hrt (by simp) hlk N (by show _ ≤ 16; omega) (by show _ ≤ 128; omega) (hb hby at_261) ?_
  try rw [e0]
  exact rfl
set_option maxRecDepth 65536 in
set_option maxHeartbeats 40000000 in
theorem law_c35 (l : Launch) (Z : State) (aw : Array Value) (hw : ∀ d ∈ tables_1, d.before aw Z = true) (x0 : Int64) (mode : Int32) (d0 : Int32) (ar : Nat) (k0 : ClassId) (pa : Nat) (ka : ClassId) (v : Int64) (s7 : Slot) (s8 : Slot) (s9 : Slot) {p : Program} {e : Env} {s : State} {m : MethodId} {args : Array Value} {below : List Frame} {meth : Method} {c : Code} {T : State} {locs : List Loc} {cells slots n0 : Nat} {h1 : Heap} (hx : p.tables.exec = Jvm.exec) (hby : c.code = code) (hml : c.maxLocals = 10) (hrt : meth.sig.returnType = some .boolean) (hlk : meth.locks = false) (hnm : meth.name = "law") (hZ : Z.Warmed39 s.vm) (hown : s.vm.findClass "com/example/primevertical/primevertical/DecimalTextDigitCountPinLaw" = some m.cls) (X : Stand p l e room_1 s m args below meth c T locs cells slots) (e0 : T.heap = h1) (N : Fr n0 locs) (hcells : cells ≤ 1) (hslots : slots ≤ 19) (O : Old Z n0 h1) (S0 : Sta Z Z.heap "com/example/primevertical/primevertical/DecimalText" "LONG_POWERS_OF_TEN" "[J" (.ref ar)) (V0 : Arv Z Z.heap ar k0 .long (19 : Int32) PW (.long (0 : Int64))) (pf0 : Arv Z h1 pa ka .long (19 : Int32) PW (.long (0 : Int64))) (h_s7 : One s7) (H8 : ∀ z7 z8 : Int32, storeLocals #[.val (.long x0), .second, .val (.int mode), .val (.int d0), .val (.ref pa), .val (.long v), .second, .val (.int z7), s8, s9] 8 (.int z8) = some #[.val (.long x0), .second, .val (.int mode), .val (.int d0), .val (.ref pa), .val (.long v), .second, .val (.int z7), .val (.int z8), .unset]) (lo7 : ¬ v < (10000000000000000 : Int64)) (hi7 : v < (100000000000000000 : Int64)) :
    Goes p e below s room_1.cells room_1.slots n0 (fun vv hh => vv = some (.int (1 : Int32))) (T.setTop (mkF m 178 #[.val (.long x0), .second, .val (.int mode), .val (.int d0), .val (.ref pa), .val (.long v), .second, s7, s8, s9] [(.int (17 : Int32))])) := by
  have zO := O.le
  have lt_pa := lt_nat pf0.lt
  show Goes _ _ _ _ _ _ _ _ (T.setTop (mkF m 178 #[.val (.long x0), .second, .val (.int mode), .val (.int d0), .val (.ref pa), .val (.long v), .second, s7, s8, s9] [(.int (17 : Int32))]))
  refine Goes.via (fun _ k => XS.istore X.here hx rfl (hb hby at_178) rfl (l' := #[.val (.long x0), .second, .val (.int mode), .val (.int d0), .val (.ref pa), .val (.long v), .second, .val (.int (17 : Int32)), s8, s9]) (XS.store1 rfl h_s7 rfl) k) ?_
  show Goes _ _ _ _ _ _ _ _ (T.setTop (mkF m 180 #[.val (.long x0), .second, .val (.int mode), .val (.int d0), .val (.ref pa), .val (.long v), .second, .val (.int (17 : Int32)), s8, s9] []))
  refine Goes.via (fun _ k => XS.iload X.here hx rfl (hb hby at_180) rfl k) ?_
  show Goes _ _ _ _ _ _ _ _ (T.setTop (mkF m 182 #[.val (.long x0), .second, .val (.int mode), .val (.int d0), .val (.ref pa), .val (.long v), .second, .val (.int (17 : Int32)), s8, s9] [(.int (17 : Int32))]))
  refine Goes.via (fun _ k => XT.iconstV X.here hx rfl (1 : Int32) (hb hby at_182) (by decide) k) ?_
  show Goes _ _ _ _ _ _ _ _ (T.setTop (mkF m 183 #[.val (.long x0), .second, .val (.int mode), .val (.int d0), .val (.ref pa), .val (.long v), .second, .val (.int (17 : Int32)), s8, s9] [(.int (1 : Int32)), (.int (17 : Int32))]))
  refine Goes.via (fun _ k => XS.icmpNo X.here hx rfl (hb hby at_183) rfl (XT.ii_lt_f (by decide)) k) ?_
  show Goes _ _ _ _ _ _ _ _ (T.setTop (mkF m 186 #[.val (.long x0), .second, .val (.int mode), .val (.int d0), .val (.ref pa), .val (.long v), .second, .val (.int (17 : Int32)), s8, s9] []))
  refine Goes.via (fun _ k => XS.iload X.here hx rfl (hb hby at_186) rfl k) ?_
  show Goes _ _ _ _ _ _ _ _ (T.setTop (mkF m 188 #[.val (.long x0), .second, .val (.int mode), .val (.int d0), .val (.ref pa), .val (.long v), .second, .val (.int (17 : Int32)), s8, s9] [(.int (17 : Int32))]))
  refine Goes.via (fun _ k => XT.bipushV X.here hx rfl (19 : Int32) (hb hby at_188) (by decide) k) ?_
  show Goes _ _ _ _ _ _ _ _ (T.setTop (mkF m 190 #[.val (.long x0), .second, .val (.int mode), .val (.int d0), .val (.ref pa), .val (.long v), .second, .val (.int (17 : Int32)), s8, s9] [(.int (19 : Int32)), (.int (17 : Int32))]))
  refine Goes.via (fun _ k => XS.icmpYes X.here hx rfl (pc0 := 190) (pc' := 195) rfl (hb hby at_190) rfl (XT.ii_le_t (by decide)) (by decide) (by decide) k) ?_
  show Goes _ _ _ _ _ _ _ _ (T.setTop (mkF m 195 #[.val (.long x0), .second, .val (.int mode), .val (.int d0), .val (.ref pa), .val (.long v), .second, .val (.int (17 : Int32)), s8, s9] []))
  refine Goes.via (fun _ k => XS.iload X.here hx rfl (hb hby at_195) rfl k) ?_
  show Goes _ _ _ _ _ _ _ _ (T.setTop (mkF m 197 #[.val (.long x0), .second, .val (.int mode), .val (.int d0), .val (.ref pa), .val (.long v), .second, .val (.int (17 : Int32)), s8, s9] [(.int (17 : Int32))]))
  refine Goes.via (fun _ k => XT.iconstV X.here hx rfl (1 : Int32) (hb hby at_197) (by decide) k) ?_
  show Goes _ _ _ _ _ _ _ _ (T.setTop (mkF m 198 #[.val (.long x0), .second, .val (.int mode), .val (.int d0), .val (.ref pa), .val (.long v), .second, .val (.int (17 : Int32)), s8, s9] [(.int (1 : Int32)), (.int (17 : Int32))]))
  refine Goes.via (fun _ k => XS.icmpNo X.here hx rfl (hb hby at_198) rfl (XT.ii_eq_f (by decide)) k) ?_
  show Goes _ _ _ _ _ _ _ _ (T.setTop (mkF m 201 #[.val (.long x0), .second, .val (.int mode), .val (.int d0), .val (.ref pa), .val (.long v), .second, .val (.int (17 : Int32)), s8, s9] []))
  refine Goes.via (fun _ k => XT.lload X.here hx rfl (hb hby at_201) rfl k) ?_
  show Goes _ _ _ _ _ _ _ _ (T.setTop (mkF m 203 #[.val (.long x0), .second, .val (.int mode), .val (.int d0), .val (.ref pa), .val (.long v), .second, .val (.int (17 : Int32)), s8, s9] [(.long v)]))
  refine Goes.via (fun _ k => XS.aload X.here hx rfl (hb hby at_203) rfl rfl k) ?_
  show Goes _ _ _ _ _ _ _ _ (T.setTop (mkF m 205 #[.val (.long x0), .second, .val (.int mode), .val (.int d0), .val (.ref pa), .val (.long v), .second, .val (.int (17 : Int32)), s8, s9] [(.ref pa), (.long v)]))
  refine Goes.via (fun _ k => XS.iload X.here hx rfl (hb hby at_205) rfl k) ?_
  show Goes _ _ _ _ _ _ _ _ (T.setTop (mkF m 207 #[.val (.long x0), .second, .val (.int mode), .val (.int d0), .val (.ref pa), .val (.long v), .second, .val (.int (17 : Int32)), s8, s9] [(.int (17 : Int32)), (.ref pa), (.long v)]))
  refine Goes.via (fun _ k => XT.iconstV X.here hx rfl (1 : Int32) (hb hby at_207) (by decide) k) ?_
  show Goes _ _ _ _ _ _ _ _ (T.setTop (mkF m 208 #[.val (.long x0), .second, .val (.int mode), .val (.int d0), .val (.ref pa), .val (.long v), .second, .val (.int (17 : Int32)), s8, s9] [(.int (1 : Int32)), (.int (17 : Int32)), (.ref pa), (.long v)]))
  refine Goes.via (fun _ k => XS.isub X.here hx rfl (hb hby at_208) rfl k) ?_
  rw [show ((17 : Int32) - (1 : Int32)) = (16 : Int32) from by decide]
  show Goes _ _ _ _ _ _ _ _ (T.setTop (mkF m 209 #[.val (.long x0), .second, .val (.int mode), .val (.int d0), .val (.ref pa), .val (.long v), .second, .val (.int (17 : Int32)), s8, s9] [(.int (16 : Int32)), (.ref pa), (.long v)]))
  obtain ⟨clq2, Arq2, qq2, Sq2, Nnq2, Hq2, Gq2⟩ := id pf0
  have hinq2 : ¬ ((16 : Int32) < 0 ∨ clq2.slots.size ≤ ((16 : Int32)).toNatClampNeg) := inb_of Sq2 ⟨by decide, by decide⟩
  refine Goes.via (X.laload hx (j := (16 : Int32)) (v := (.long (10000000000000000 : Int64))) (by rw [e0]; exact Arq2.1) (State.isArrayOf_alike hZ.alike Arq2.2.1) Arq2.2.2 hinq2 (Hq2.at hinq2 rfl) (g := (mkF m 209 #[.val (.long x0), .second, .val (.int mode), .val (.int d0), .val (.ref pa), .val (.long v), .second, .val (.int (17 : Int32)), s8, s9] [(.int (16 : Int32)), (.ref pa), (.long v)])) rfl rfl (hb hby at_209)) ?_
  show Goes _ _ _ _ _ _ _ _ (T.setTop (mkF m 210 #[.val (.long x0), .second, .val (.int mode), .val (.int d0), .val (.ref pa), .val (.long v), .second, .val (.int (17 : Int32)), s8, s9] [(.long (10000000000000000 : Int64)), (.long v)]))
  refine Goes.via (fun _ k => XT.lcmp X.here hx rfl (hb hby at_210) rfl k) ?_
  show Goes _ _ _ _ _ _ _ _ (T.setTop (mkF m 211 #[.val (.long x0), .second, .val (.int mode), .val (.int d0), .val (.ref pa), .val (.long v), .second, .val (.int (17 : Int32)), s8, s9] [(.int (XT.cmpL v (10000000000000000 : Int64)))]))
  refine Goes.via (fun _ k => XS.ifNo X.here hx rfl (hb hby at_211) rfl (XT.ll_lt_f lo7) k) ?_
  show Goes _ _ _ _ _ _ _ _ (T.setTop (mkF m 214 #[.val (.long x0), .second, .val (.int mode), .val (.int d0), .val (.ref pa), .val (.long v), .second, .val (.int (17 : Int32)), s8, s9] []))
  refine Goes.via (fun _ k => XT.iconstV X.here hx rfl (1 : Int32) (hb hby at_214) (by decide) k) ?_
  show Goes _ _ _ _ _ _ _ _ (T.setTop (mkF m 215 #[.val (.long x0), .second, .val (.int mode), .val (.int d0), .val (.ref pa), .val (.long v), .second, .val (.int (17 : Int32)), s8, s9] [(.int (1 : Int32))]))
  refine Goes.via (fun _ k => XS.goto X.here hx rfl (pc0 := 215) (pc' := 219) rfl (hb hby at_215) (by decide) (by decide) k) ?_
  show Goes _ _ _ _ _ _ _ _ (T.setTop (mkF m 219 #[.val (.long x0), .second, .val (.int mode), .val (.int d0), .val (.ref pa), .val (.long v), .second, .val (.int (17 : Int32)), s8, s9] [(.int (1 : Int32))]))
  refine Goes.via (fun _ k => XS.istore X.here hx rfl (hb hby at_219) rfl (l' := #[.val (.long x0), .second, .val (.int mode), .val (.int d0), .val (.ref pa), .val (.long v), .second, .val (.int (17 : Int32)), .val (.int (1 : Int32)), .unset]) (H8 _ _) k) ?_
  show Goes _ _ _ _ _ _ _ _ (T.setTop (mkF m 221 #[.val (.long x0), .second, .val (.int mode), .val (.int d0), .val (.ref pa), .val (.long v), .second, .val (.int (17 : Int32)), .val (.int (1 : Int32)), .unset] []))
  refine Goes.via (fun _ k => XS.iload X.here hx rfl (hb hby at_221) rfl k) ?_
  show Goes _ _ _ _ _ _ _ _ (T.setTop (mkF m 223 #[.val (.long x0), .second, .val (.int mode), .val (.int d0), .val (.ref pa), .val (.long v), .second, .val (.int (17 : Int32)), .val (.int (1 : Int32)), .unset] [(.int (17 : Int32))]))
  refine Goes.via (fun _ k => XT.bipushV X.here hx rfl (19 : Int32) (hb hby at_223) (by decide) k) ?_
  show Goes _ _ _ _ _ _ _ _ (T.setTop (mkF m 225 #[.val (.long x0), .second, .val (.int mode), .val (.int d0), .val (.ref pa), .val (.long v), .second, .val (.int (17 : Int32)), .val (.int (1 : Int32)), .unset] [(.int (19 : Int32)), (.int (17 : Int32))]))
  refine Goes.via (fun _ k => XS.icmpNo X.here hx rfl (hb hby at_225) rfl (XT.ii_eq_f (by decide)) k) ?_
  show Goes _ _ _ _ _ _ _ _ (T.setTop (mkF m 228 #[.val (.long x0), .second, .val (.int mode), .val (.int d0), .val (.ref pa), .val (.long v), .second, .val (.int (17 : Int32)), .val (.int (1 : Int32)), .unset] []))
  refine Goes.via (fun _ k => XT.lload X.here hx rfl (hb hby at_228) rfl k) ?_
  show Goes _ _ _ _ _ _ _ _ (T.setTop (mkF m 230 #[.val (.long x0), .second, .val (.int mode), .val (.int d0), .val (.ref pa), .val (.long v), .second, .val (.int (17 : Int32)), .val (.int (1 : Int32)), .unset] [(.long v)]))
  refine Goes.via (fun _ k => XS.aload X.here hx rfl (hb hby at_230) rfl rfl k) ?_
  show Goes _ _ _ _ _ _ _ _ (T.setTop (mkF m 232 #[.val (.long x0), .second, .val (.int mode), .val (.int d0), .val (.ref pa), .val (.long v), .second, .val (.int (17 : Int32)), .val (.int (1 : Int32)), .unset] [(.ref pa), (.long v)]))
  refine Goes.via (fun _ k => XS.iload X.here hx rfl (hb hby at_232) rfl k) ?_
  show Goes _ _ _ _ _ _ _ _ (T.setTop (mkF m 234 #[.val (.long x0), .second, .val (.int mode), .val (.int d0), .val (.ref pa), .val (.long v), .second, .val (.int (17 : Int32)), .val (.int (1 : Int32)), .unset] [(.int (17 : Int32)), (.ref pa), (.long v)]))
  obtain ⟨clq3, Arq3, qq3, Sq3, Nnq3, Hq3, Gq3⟩ := id pf0
  have hinq3 : ¬ ((17 : Int32) < 0 ∨ clq3.slots.size ≤ ((17 : Int32)).toNatClampNeg) := inb_of Sq3 ⟨by decide, by decide⟩
  refine Goes.via (X.laload hx (j := (17 : Int32)) (v := (.long (100000000000000000 : Int64))) (by rw [e0]; exact Arq3.1) (State.isArrayOf_alike hZ.alike Arq3.2.1) Arq3.2.2 hinq3 (Hq3.at hinq3 rfl) (g := (mkF m 234 #[.val (.long x0), .second, .val (.int mode), .val (.int d0), .val (.ref pa), .val (.long v), .second, .val (.int (17 : Int32)), .val (.int (1 : Int32)), .unset] [(.int (17 : Int32)), (.ref pa), (.long v)])) rfl rfl (hb hby at_234)) ?_
  show Goes _ _ _ _ _ _ _ _ (T.setTop (mkF m 235 #[.val (.long x0), .second, .val (.int mode), .val (.int d0), .val (.ref pa), .val (.long v), .second, .val (.int (17 : Int32)), .val (.int (1 : Int32)), .unset] [(.long (100000000000000000 : Int64)), (.long v)]))
  refine Goes.via (fun _ k => XT.lcmp X.here hx rfl (hb hby at_235) rfl k) ?_
  show Goes _ _ _ _ _ _ _ _ (T.setTop (mkF m 236 #[.val (.long x0), .second, .val (.int mode), .val (.int d0), .val (.ref pa), .val (.long v), .second, .val (.int (17 : Int32)), .val (.int (1 : Int32)), .unset] [(.int (XT.cmpL v (100000000000000000 : Int64)))]))
  refine Goes.via (fun _ k => XS.ifNo X.here hx rfl (hb hby at_236) rfl (XT.ll_ge_f hi7) k) ?_
  show Goes _ _ _ _ _ _ _ _ (T.setTop (mkF m 239 #[.val (.long x0), .second, .val (.int mode), .val (.int d0), .val (.ref pa), .val (.long v), .second, .val (.int (17 : Int32)), .val (.int (1 : Int32)), .unset] []))
  refine Goes.via (fun _ k => XT.iconstV X.here hx rfl (1 : Int32) (hb hby at_239) (by decide) k) ?_
  show Goes _ _ _ _ _ _ _ _ (T.setTop (mkF m 240 #[.val (.long x0), .second, .val (.int mode), .val (.int d0), .val (.ref pa), .val (.long v), .second, .val (.int (17 : Int32)), .val (.int (1 : Int32)), .unset] [(.int (1 : Int32))]))
  refine Goes.via (fun _ k => XS.goto X.here hx rfl (pc0 := 240) (pc' := 244) rfl (hb hby at_240) (by decide) (by decide) k) ?_
  show Goes _ _ _ _ _ _ _ _ (T.setTop (mkF m 244 #[.val (.long x0), .second, .val (.int mode), .val (.int d0), .val (.ref pa), .val (.long v), .second, .val (.int (17 : Int32)), .val (.int (1 : Int32)), .unset] [(.int (1 : Int32))]))
  refine Goes.via (fun _ k => XS.istore X.here hx rfl (hb hby at_244) rfl (l' := #[.val (.long x0), .second, .val (.int mode), .val (.int d0), .val (.ref pa), .val (.long v), .second, .val (.int (17 : Int32)), .val (.int (1 : Int32)), .val (.int (1 : Int32))]) rfl k) ?_
  show Goes _ _ _ _ _ _ _ _ (T.setTop (mkF m 246 #[.val (.long x0), .second, .val (.int mode), .val (.int d0), .val (.ref pa), .val (.long v), .second, .val (.int (17 : Int32)), .val (.int (1 : Int32)), .val (.int (1 : Int32))] []))
  refine Goes.via (fun _ k => XS.iload X.here hx rfl (hb hby at_246) rfl k) ?_
  show Goes _ _ _ _ _ _ _ _ (T.setTop (mkF m 248 #[.val (.long x0), .second, .val (.int mode), .val (.int d0), .val (.ref pa), .val (.long v), .second, .val (.int (17 : Int32)), .val (.int (1 : Int32)), .val (.int (1 : Int32))] [(.int (1 : Int32))]))
  refine Goes.via (fun _ k => XS.ifNo X.here hx rfl (hb hby at_248) rfl (XT.i0_eq_f (by decide)) k) ?_
  show Goes _ _ _ _ _ _ _ _ (T.setTop (mkF m 251 #[.val (.long x0), .second, .val (.int mode), .val (.int d0), .val (.ref pa), .val (.long v), .second, .val (.int (17 : Int32)), .val (.int (1 : Int32)), .val (.int (1 : Int32))] []))
  refine Goes.via (fun _ k => XS.iload X.here hx rfl (hb hby at_251) rfl k) ?_
  show Goes _ _ _ _ _ _ _ _ (T.setTop (mkF m 253 #[.val (.long x0), .second, .val (.int mode), .val (.int d0), .val (.ref pa), .val (.long v), .second, .val (.int (17 : Int32)), .val (.int (1 : Int32)), .val (.int (1 : Int32))] [(.int (1 : Int32))]))
  refine Goes.via (fun _ k => XS.ifNo X.here hx rfl (hb hby at_253) rfl (XT.i0_eq_f (by decide)) k) ?_
  show Goes _ _ _ _ _ _ _ _ (T.setTop (mkF m 256 #[.val (.long x0), .second, .val (.int mode), .val (.int d0), .val (.ref pa), .val (.long v), .second, .val (.int (17 : Int32)), .val (.int (1 : Int32)), .val (.int (1 : Int32))] []))
  refine Goes.via (fun _ k => XT.iconstV X.here hx rfl (1 : Int32) (hb hby at_256) (by decide) k) ?_
  show Goes _ _ _ _ _ _ _ _ (T.setTop (mkF m 257 #[.val (.long x0), .second, .val (.int mode), .val (.int d0), .val (.ref pa), .val (.long v), .second, .val (.int (17 : Int32)), .val (.int (1 : Int32)), .val (.int (1 : Int32))] [(.int (1 : Int32))]))
  refine Goes.via (fun _ k => XS.goto X.here hx rfl (pc0 := 257) (pc' := 261) rfl (hb hby at_257) (by decide) (by decide) k) ?_
  show Goes _ _ _ _ _ _ _ _ (T.setTop (mkF m 261 #[.val (.long x0), .second, .val (.int mode), .val (.int d0), .val (.ref pa), .val (.long v), .second, .val (.int (17 : Int32)), .val (.int (1 : Int32)), .val (.int (1 : Int32))] [(.int (1 : Int32))]))
  refine goRetN X hx hrt (by simp) hlk N (by show _ ≤ 16; omega) (by show _ ≤ 128; omega) (hb hby at_261) ?_
  try rw [e0]
  exact rfl
set_option maxRecDepth 65536 in
set_option maxHeartbeats 40000000 in
theorem law_c36 (l : Launch) (Z : State) (aw : Array Value) (hw : ∀ d ∈ tables_1, d.before aw Z = true) (x0 : Int64) (mode : Int32) (d0 : Int32) (ar : Nat) (k0 : ClassId) (pa : Nat) (ka : ClassId) (v : Int64) (s7 : Slot) (s8 : Slot) (s9 : Slot) {p : Program} {e : Env} {s : State} {m : MethodId} {args : Array Value} {below : List Frame} {meth : Method} {c : Code} {T : State} {locs : List Loc} {cells slots n0 : Nat} {h1 : Heap} (hx : p.tables.exec = Jvm.exec) (hby : c.code = code) (hml : c.maxLocals = 10) (hrt : meth.sig.returnType = some .boolean) (hlk : meth.locks = false) (hnm : meth.name = "law") (hZ : Z.Warmed39 s.vm) (hown : s.vm.findClass "com/example/primevertical/primevertical/DecimalTextDigitCountPinLaw" = some m.cls) (X : Stand p l e room_1 s m args below meth c T locs cells slots) (e0 : T.heap = h1) (N : Fr n0 locs) (hcells : cells ≤ 1) (hslots : slots ≤ 19) (O : Old Z n0 h1) (S0 : Sta Z Z.heap "com/example/primevertical/primevertical/DecimalText" "LONG_POWERS_OF_TEN" "[J" (.ref ar)) (V0 : Arv Z Z.heap ar k0 .long (19 : Int32) PW (.long (0 : Int64))) (pf0 : Arv Z h1 pa ka .long (19 : Int32) PW (.long (0 : Int64))) (h_s7 : One s7) (H8 : ∀ z7 z8 : Int32, storeLocals #[.val (.long x0), .second, .val (.int mode), .val (.int d0), .val (.ref pa), .val (.long v), .second, .val (.int z7), s8, s9] 8 (.int z8) = some #[.val (.long x0), .second, .val (.int mode), .val (.int d0), .val (.ref pa), .val (.long v), .second, .val (.int z7), .val (.int z8), .unset]) (lo7 : ¬ v < (100000000000000000 : Int64)) (hi7 : v < (1000000000000000000 : Int64)) :
    Goes p e below s room_1.cells room_1.slots n0 (fun vv hh => vv = some (.int (1 : Int32))) (T.setTop (mkF m 178 #[.val (.long x0), .second, .val (.int mode), .val (.int d0), .val (.ref pa), .val (.long v), .second, s7, s8, s9] [(.int (18 : Int32))])) := by
  have zO := O.le
  have lt_pa := lt_nat pf0.lt
  show Goes _ _ _ _ _ _ _ _ (T.setTop (mkF m 178 #[.val (.long x0), .second, .val (.int mode), .val (.int d0), .val (.ref pa), .val (.long v), .second, s7, s8, s9] [(.int (18 : Int32))]))
  refine Goes.via (fun _ k => XS.istore X.here hx rfl (hb hby at_178) rfl (l' := #[.val (.long x0), .second, .val (.int mode), .val (.int d0), .val (.ref pa), .val (.long v), .second, .val (.int (18 : Int32)), s8, s9]) (XS.store1 rfl h_s7 rfl) k) ?_
  show Goes _ _ _ _ _ _ _ _ (T.setTop (mkF m 180 #[.val (.long x0), .second, .val (.int mode), .val (.int d0), .val (.ref pa), .val (.long v), .second, .val (.int (18 : Int32)), s8, s9] []))
  refine Goes.via (fun _ k => XS.iload X.here hx rfl (hb hby at_180) rfl k) ?_
  show Goes _ _ _ _ _ _ _ _ (T.setTop (mkF m 182 #[.val (.long x0), .second, .val (.int mode), .val (.int d0), .val (.ref pa), .val (.long v), .second, .val (.int (18 : Int32)), s8, s9] [(.int (18 : Int32))]))
  refine Goes.via (fun _ k => XT.iconstV X.here hx rfl (1 : Int32) (hb hby at_182) (by decide) k) ?_
  show Goes _ _ _ _ _ _ _ _ (T.setTop (mkF m 183 #[.val (.long x0), .second, .val (.int mode), .val (.int d0), .val (.ref pa), .val (.long v), .second, .val (.int (18 : Int32)), s8, s9] [(.int (1 : Int32)), (.int (18 : Int32))]))
  refine Goes.via (fun _ k => XS.icmpNo X.here hx rfl (hb hby at_183) rfl (XT.ii_lt_f (by decide)) k) ?_
  show Goes _ _ _ _ _ _ _ _ (T.setTop (mkF m 186 #[.val (.long x0), .second, .val (.int mode), .val (.int d0), .val (.ref pa), .val (.long v), .second, .val (.int (18 : Int32)), s8, s9] []))
  refine Goes.via (fun _ k => XS.iload X.here hx rfl (hb hby at_186) rfl k) ?_
  show Goes _ _ _ _ _ _ _ _ (T.setTop (mkF m 188 #[.val (.long x0), .second, .val (.int mode), .val (.int d0), .val (.ref pa), .val (.long v), .second, .val (.int (18 : Int32)), s8, s9] [(.int (18 : Int32))]))
  refine Goes.via (fun _ k => XT.bipushV X.here hx rfl (19 : Int32) (hb hby at_188) (by decide) k) ?_
  show Goes _ _ _ _ _ _ _ _ (T.setTop (mkF m 190 #[.val (.long x0), .second, .val (.int mode), .val (.int d0), .val (.ref pa), .val (.long v), .second, .val (.int (18 : Int32)), s8, s9] [(.int (19 : Int32)), (.int (18 : Int32))]))
  refine Goes.via (fun _ k => XS.icmpYes X.here hx rfl (pc0 := 190) (pc' := 195) rfl (hb hby at_190) rfl (XT.ii_le_t (by decide)) (by decide) (by decide) k) ?_
  show Goes _ _ _ _ _ _ _ _ (T.setTop (mkF m 195 #[.val (.long x0), .second, .val (.int mode), .val (.int d0), .val (.ref pa), .val (.long v), .second, .val (.int (18 : Int32)), s8, s9] []))
  refine Goes.via (fun _ k => XS.iload X.here hx rfl (hb hby at_195) rfl k) ?_
  show Goes _ _ _ _ _ _ _ _ (T.setTop (mkF m 197 #[.val (.long x0), .second, .val (.int mode), .val (.int d0), .val (.ref pa), .val (.long v), .second, .val (.int (18 : Int32)), s8, s9] [(.int (18 : Int32))]))
  refine Goes.via (fun _ k => XT.iconstV X.here hx rfl (1 : Int32) (hb hby at_197) (by decide) k) ?_
  show Goes _ _ _ _ _ _ _ _ (T.setTop (mkF m 198 #[.val (.long x0), .second, .val (.int mode), .val (.int d0), .val (.ref pa), .val (.long v), .second, .val (.int (18 : Int32)), s8, s9] [(.int (1 : Int32)), (.int (18 : Int32))]))
  refine Goes.via (fun _ k => XS.icmpNo X.here hx rfl (hb hby at_198) rfl (XT.ii_eq_f (by decide)) k) ?_
  show Goes _ _ _ _ _ _ _ _ (T.setTop (mkF m 201 #[.val (.long x0), .second, .val (.int mode), .val (.int d0), .val (.ref pa), .val (.long v), .second, .val (.int (18 : Int32)), s8, s9] []))
  refine Goes.via (fun _ k => XT.lload X.here hx rfl (hb hby at_201) rfl k) ?_
  show Goes _ _ _ _ _ _ _ _ (T.setTop (mkF m 203 #[.val (.long x0), .second, .val (.int mode), .val (.int d0), .val (.ref pa), .val (.long v), .second, .val (.int (18 : Int32)), s8, s9] [(.long v)]))
  refine Goes.via (fun _ k => XS.aload X.here hx rfl (hb hby at_203) rfl rfl k) ?_
  show Goes _ _ _ _ _ _ _ _ (T.setTop (mkF m 205 #[.val (.long x0), .second, .val (.int mode), .val (.int d0), .val (.ref pa), .val (.long v), .second, .val (.int (18 : Int32)), s8, s9] [(.ref pa), (.long v)]))
  refine Goes.via (fun _ k => XS.iload X.here hx rfl (hb hby at_205) rfl k) ?_
  show Goes _ _ _ _ _ _ _ _ (T.setTop (mkF m 207 #[.val (.long x0), .second, .val (.int mode), .val (.int d0), .val (.ref pa), .val (.long v), .second, .val (.int (18 : Int32)), s8, s9] [(.int (18 : Int32)), (.ref pa), (.long v)]))
  refine Goes.via (fun _ k => XT.iconstV X.here hx rfl (1 : Int32) (hb hby at_207) (by decide) k) ?_
  show Goes _ _ _ _ _ _ _ _ (T.setTop (mkF m 208 #[.val (.long x0), .second, .val (.int mode), .val (.int d0), .val (.ref pa), .val (.long v), .second, .val (.int (18 : Int32)), s8, s9] [(.int (1 : Int32)), (.int (18 : Int32)), (.ref pa), (.long v)]))
  refine Goes.via (fun _ k => XS.isub X.here hx rfl (hb hby at_208) rfl k) ?_
  rw [show ((18 : Int32) - (1 : Int32)) = (17 : Int32) from by decide]
  show Goes _ _ _ _ _ _ _ _ (T.setTop (mkF m 209 #[.val (.long x0), .second, .val (.int mode), .val (.int d0), .val (.ref pa), .val (.long v), .second, .val (.int (18 : Int32)), s8, s9] [(.int (17 : Int32)), (.ref pa), (.long v)]))
  obtain ⟨clq2, Arq2, qq2, Sq2, Nnq2, Hq2, Gq2⟩ := id pf0
  have hinq2 : ¬ ((17 : Int32) < 0 ∨ clq2.slots.size ≤ ((17 : Int32)).toNatClampNeg) := inb_of Sq2 ⟨by decide, by decide⟩
  refine Goes.via (X.laload hx (j := (17 : Int32)) (v := (.long (100000000000000000 : Int64))) (by rw [e0]; exact Arq2.1) (State.isArrayOf_alike hZ.alike Arq2.2.1) Arq2.2.2 hinq2 (Hq2.at hinq2 rfl) (g := (mkF m 209 #[.val (.long x0), .second, .val (.int mode), .val (.int d0), .val (.ref pa), .val (.long v), .second, .val (.int (18 : Int32)), s8, s9] [(.int (17 : Int32)), (.ref pa), (.long v)])) rfl rfl (hb hby at_209)) ?_
  show Goes _ _ _ _ _ _ _ _ (T.setTop (mkF m 210 #[.val (.long x0), .second, .val (.int mode), .val (.int d0), .val (.ref pa), .val (.long v), .second, .val (.int (18 : Int32)), s8, s9] [(.long (100000000000000000 : Int64)), (.long v)]))
  refine Goes.via (fun _ k => XT.lcmp X.here hx rfl (hb hby at_210) rfl k) ?_
  show Goes _ _ _ _ _ _ _ _ (T.setTop (mkF m 211 #[.val (.long x0), .second, .val (.int mode), .val (.int d0), .val (.ref pa), .val (.long v), .second, .val (.int (18 : Int32)), s8, s9] [(.int (XT.cmpL v (100000000000000000 : Int64)))]))
  refine Goes.via (fun _ k => XS.ifNo X.here hx rfl (hb hby at_211) rfl (XT.ll_lt_f lo7) k) ?_
  show Goes _ _ _ _ _ _ _ _ (T.setTop (mkF m 214 #[.val (.long x0), .second, .val (.int mode), .val (.int d0), .val (.ref pa), .val (.long v), .second, .val (.int (18 : Int32)), s8, s9] []))
  refine Goes.via (fun _ k => XT.iconstV X.here hx rfl (1 : Int32) (hb hby at_214) (by decide) k) ?_
  show Goes _ _ _ _ _ _ _ _ (T.setTop (mkF m 215 #[.val (.long x0), .second, .val (.int mode), .val (.int d0), .val (.ref pa), .val (.long v), .second, .val (.int (18 : Int32)), s8, s9] [(.int (1 : Int32))]))
  refine Goes.via (fun _ k => XS.goto X.here hx rfl (pc0 := 215) (pc' := 219) rfl (hb hby at_215) (by decide) (by decide) k) ?_
  show Goes _ _ _ _ _ _ _ _ (T.setTop (mkF m 219 #[.val (.long x0), .second, .val (.int mode), .val (.int d0), .val (.ref pa), .val (.long v), .second, .val (.int (18 : Int32)), s8, s9] [(.int (1 : Int32))]))
  refine Goes.via (fun _ k => XS.istore X.here hx rfl (hb hby at_219) rfl (l' := #[.val (.long x0), .second, .val (.int mode), .val (.int d0), .val (.ref pa), .val (.long v), .second, .val (.int (18 : Int32)), .val (.int (1 : Int32)), .unset]) (H8 _ _) k) ?_
  show Goes _ _ _ _ _ _ _ _ (T.setTop (mkF m 221 #[.val (.long x0), .second, .val (.int mode), .val (.int d0), .val (.ref pa), .val (.long v), .second, .val (.int (18 : Int32)), .val (.int (1 : Int32)), .unset] []))
  refine Goes.via (fun _ k => XS.iload X.here hx rfl (hb hby at_221) rfl k) ?_
  show Goes _ _ _ _ _ _ _ _ (T.setTop (mkF m 223 #[.val (.long x0), .second, .val (.int mode), .val (.int d0), .val (.ref pa), .val (.long v), .second, .val (.int (18 : Int32)), .val (.int (1 : Int32)), .unset] [(.int (18 : Int32))]))
  refine Goes.via (fun _ k => XT.bipushV X.here hx rfl (19 : Int32) (hb hby at_223) (by decide) k) ?_
  show Goes _ _ _ _ _ _ _ _ (T.setTop (mkF m 225 #[.val (.long x0), .second, .val (.int mode), .val (.int d0), .val (.ref pa), .val (.long v), .second, .val (.int (18 : Int32)), .val (.int (1 : Int32)), .unset] [(.int (19 : Int32)), (.int (18 : Int32))]))
  refine Goes.via (fun _ k => XS.icmpNo X.here hx rfl (hb hby at_225) rfl (XT.ii_eq_f (by decide)) k) ?_
  show Goes _ _ _ _ _ _ _ _ (T.setTop (mkF m 228 #[.val (.long x0), .second, .val (.int mode), .val (.int d0), .val (.ref pa), .val (.long v), .second, .val (.int (18 : Int32)), .val (.int (1 : Int32)), .unset] []))
  refine Goes.via (fun _ k => XT.lload X.here hx rfl (hb hby at_228) rfl k) ?_
  show Goes _ _ _ _ _ _ _ _ (T.setTop (mkF m 230 #[.val (.long x0), .second, .val (.int mode), .val (.int d0), .val (.ref pa), .val (.long v), .second, .val (.int (18 : Int32)), .val (.int (1 : Int32)), .unset] [(.long v)]))
  refine Goes.via (fun _ k => XS.aload X.here hx rfl (hb hby at_230) rfl rfl k) ?_
  show Goes _ _ _ _ _ _ _ _ (T.setTop (mkF m 232 #[.val (.long x0), .second, .val (.int mode), .val (.int d0), .val (.ref pa), .val (.long v), .second, .val (.int (18 : Int32)), .val (.int (1 : Int32)), .unset] [(.ref pa), (.long v)]))
  refine Goes.via (fun _ k => XS.iload X.here hx rfl (hb hby at_232) rfl k) ?_
  show Goes _ _ _ _ _ _ _ _ (T.setTop (mkF m 234 #[.val (.long x0), .second, .val (.int mode), .val (.int d0), .val (.ref pa), .val (.long v), .second, .val (.int (18 : Int32)), .val (.int (1 : Int32)), .unset] [(.int (18 : Int32)), (.ref pa), (.long v)]))
  obtain ⟨clq3, Arq3, qq3, Sq3, Nnq3, Hq3, Gq3⟩ := id pf0
  have hinq3 : ¬ ((18 : Int32) < 0 ∨ clq3.slots.size ≤ ((18 : Int32)).toNatClampNeg) := inb_of Sq3 ⟨by decide, by decide⟩
  refine Goes.via (X.laload hx (j := (18 : Int32)) (v := (.long (1000000000000000000 : Int64))) (by rw [e0]; exact Arq3.1) (State.isArrayOf_alike hZ.alike Arq3.2.1) Arq3.2.2 hinq3 (Hq3.at hinq3 rfl) (g := (mkF m 234 #[.val (.long x0), .second, .val (.int mode), .val (.int d0), .val (.ref pa), .val (.long v), .second, .val (.int (18 : Int32)), .val (.int (1 : Int32)), .unset] [(.int (18 : Int32)), (.ref pa), (.long v)])) rfl rfl (hb hby at_234)) ?_
  show Goes _ _ _ _ _ _ _ _ (T.setTop (mkF m 235 #[.val (.long x0), .second, .val (.int mode), .val (.int d0), .val (.ref pa), .val (.long v), .second, .val (.int (18 : Int32)), .val (.int (1 : Int32)), .unset] [(.long (1000000000000000000 : Int64)), (.long v)]))
  refine Goes.via (fun _ k => XT.lcmp X.here hx rfl (hb hby at_235) rfl k) ?_
  show Goes _ _ _ _ _ _ _ _ (T.setTop (mkF m 236 #[.val (.long x0), .second, .val (.int mode), .val (.int d0), .val (.ref pa), .val (.long v), .second, .val (.int (18 : Int32)), .val (.int (1 : Int32)), .unset] [(.int (XT.cmpL v (1000000000000000000 : Int64)))]))
  refine Goes.via (fun _ k => XS.ifNo X.here hx rfl (hb hby at_236) rfl (XT.ll_ge_f hi7) k) ?_
  show Goes _ _ _ _ _ _ _ _ (T.setTop (mkF m 239 #[.val (.long x0), .second, .val (.int mode), .val (.int d0), .val (.ref pa), .val (.long v), .second, .val (.int (18 : Int32)), .val (.int (1 : Int32)), .unset] []))
  refine Goes.via (fun _ k => XT.iconstV X.here hx rfl (1 : Int32) (hb hby at_239) (by decide) k) ?_
  show Goes _ _ _ _ _ _ _ _ (T.setTop (mkF m 240 #[.val (.long x0), .second, .val (.int mode), .val (.int d0), .val (.ref pa), .val (.long v), .second, .val (.int (18 : Int32)), .val (.int (1 : Int32)), .unset] [(.int (1 : Int32))]))
  refine Goes.via (fun _ k => XS.goto X.here hx rfl (pc0 := 240) (pc' := 244) rfl (hb hby at_240) (by decide) (by decide) k) ?_
  show Goes _ _ _ _ _ _ _ _ (T.setTop (mkF m 244 #[.val (.long x0), .second, .val (.int mode), .val (.int d0), .val (.ref pa), .val (.long v), .second, .val (.int (18 : Int32)), .val (.int (1 : Int32)), .unset] [(.int (1 : Int32))]))
  refine Goes.via (fun _ k => XS.istore X.here hx rfl (hb hby at_244) rfl (l' := #[.val (.long x0), .second, .val (.int mode), .val (.int d0), .val (.ref pa), .val (.long v), .second, .val (.int (18 : Int32)), .val (.int (1 : Int32)), .val (.int (1 : Int32))]) rfl k) ?_
  show Goes _ _ _ _ _ _ _ _ (T.setTop (mkF m 246 #[.val (.long x0), .second, .val (.int mode), .val (.int d0), .val (.ref pa), .val (.long v), .second, .val (.int (18 : Int32)), .val (.int (1 : Int32)), .val (.int (1 : Int32))] []))
  refine Goes.via (fun _ k => XS.iload X.here hx rfl (hb hby at_246) rfl k) ?_
  show Goes _ _ _ _ _ _ _ _ (T.setTop (mkF m 248 #[.val (.long x0), .second, .val (.int mode), .val (.int d0), .val (.ref pa), .val (.long v), .second, .val (.int (18 : Int32)), .val (.int (1 : Int32)), .val (.int (1 : Int32))] [(.int (1 : Int32))]))
  refine Goes.via (fun _ k => XS.ifNo X.here hx rfl (hb hby at_248) rfl (XT.i0_eq_f (by decide)) k) ?_
  show Goes _ _ _ _ _ _ _ _ (T.setTop (mkF m 251 #[.val (.long x0), .second, .val (.int mode), .val (.int d0), .val (.ref pa), .val (.long v), .second, .val (.int (18 : Int32)), .val (.int (1 : Int32)), .val (.int (1 : Int32))] []))
  refine Goes.via (fun _ k => XS.iload X.here hx rfl (hb hby at_251) rfl k) ?_
  show Goes _ _ _ _ _ _ _ _ (T.setTop (mkF m 253 #[.val (.long x0), .second, .val (.int mode), .val (.int d0), .val (.ref pa), .val (.long v), .second, .val (.int (18 : Int32)), .val (.int (1 : Int32)), .val (.int (1 : Int32))] [(.int (1 : Int32))]))
  refine Goes.via (fun _ k => XS.ifNo X.here hx rfl (hb hby at_253) rfl (XT.i0_eq_f (by decide)) k) ?_
  show Goes _ _ _ _ _ _ _ _ (T.setTop (mkF m 256 #[.val (.long x0), .second, .val (.int mode), .val (.int d0), .val (.ref pa), .val (.long v), .second, .val (.int (18 : Int32)), .val (.int (1 : Int32)), .val (.int (1 : Int32))] []))
  refine Goes.via (fun _ k => XT.iconstV X.here hx rfl (1 : Int32) (hb hby at_256) (by decide) k) ?_
  show Goes _ _ _ _ _ _ _ _ (T.setTop (mkF m 257 #[.val (.long x0), .second, .val (.int mode), .val (.int d0), .val (.ref pa), .val (.long v), .second, .val (.int (18 : Int32)), .val (.int (1 : Int32)), .val (.int (1 : Int32))] [(.int (1 : Int32))]))
  refine Goes.via (fun _ k => XS.goto X.here hx rfl (pc0 := 257) (pc' := 261) rfl (hb hby at_257) (by decide) (by decide) k) ?_
  show Goes _ _ _ _ _ _ _ _ (T.setTop (mkF m 261 #[.val (.long x0), .second, .val (.int mode), .val (.int d0), .val (.ref pa), .val (.long v), .second, .val (.int (18 : Int32)), .val (.int (1 : Int32)), .val (.int (1 : Int32))] [(.int (1 : Int32))]))
  refine goRetN X hx hrt (by simp) hlk N (by show _ ≤ 16; omega) (by show _ ≤ 128; omega) (hb hby at_261) ?_
  try rw [e0]
  exact rfl
set_option maxRecDepth 65536 in
set_option maxHeartbeats 40000000 in
theorem law_c37 (l : Launch) (Z : State) (aw : Array Value) (hw : ∀ d ∈ tables_1, d.before aw Z = true) (x0 : Int64) (mode : Int32) (d0 : Int32) (ar : Nat) (k0 : ClassId) (pa : Nat) (ka : ClassId) (v : Int64) (s7 : Slot) (s8 : Slot) (s9 : Slot) {p : Program} {e : Env} {s : State} {m : MethodId} {args : Array Value} {below : List Frame} {meth : Method} {c : Code} {T : State} {locs : List Loc} {cells slots n0 : Nat} {h1 : Heap} (hx : p.tables.exec = Jvm.exec) (hby : c.code = code) (hml : c.maxLocals = 10) (hrt : meth.sig.returnType = some .boolean) (hlk : meth.locks = false) (hnm : meth.name = "law") (hZ : Z.Warmed39 s.vm) (hown : s.vm.findClass "com/example/primevertical/primevertical/DecimalTextDigitCountPinLaw" = some m.cls) (X : Stand p l e room_1 s m args below meth c T locs cells slots) (e0 : T.heap = h1) (N : Fr n0 locs) (hcells : cells ≤ 1) (hslots : slots ≤ 19) (O : Old Z n0 h1) (S0 : Sta Z Z.heap "com/example/primevertical/primevertical/DecimalText" "LONG_POWERS_OF_TEN" "[J" (.ref ar)) (V0 : Arv Z Z.heap ar k0 .long (19 : Int32) PW (.long (0 : Int64))) (pf0 : Arv Z h1 pa ka .long (19 : Int32) PW (.long (0 : Int64))) (h_s7 : One s7) (H8 : ∀ z7 z8 : Int32, storeLocals #[.val (.long x0), .second, .val (.int mode), .val (.int d0), .val (.ref pa), .val (.long v), .second, .val (.int z7), s8, s9] 8 (.int z8) = some #[.val (.long x0), .second, .val (.int mode), .val (.int d0), .val (.ref pa), .val (.long v), .second, .val (.int z7), .val (.int z8), .unset]) (lo7 : ¬ v < (1000000000000000000 : Int64)) :
    Goes p e below s room_1.cells room_1.slots n0 (fun vv hh => vv = some (.int (1 : Int32))) (T.setTop (mkF m 178 #[.val (.long x0), .second, .val (.int mode), .val (.int d0), .val (.ref pa), .val (.long v), .second, s7, s8, s9] [(.int (19 : Int32))])) := by
  have zO := O.le
  have lt_pa := lt_nat pf0.lt
  show Goes _ _ _ _ _ _ _ _ (T.setTop (mkF m 178 #[.val (.long x0), .second, .val (.int mode), .val (.int d0), .val (.ref pa), .val (.long v), .second, s7, s8, s9] [(.int (19 : Int32))]))
  refine Goes.via (fun _ k => XS.istore X.here hx rfl (hb hby at_178) rfl (l' := #[.val (.long x0), .second, .val (.int mode), .val (.int d0), .val (.ref pa), .val (.long v), .second, .val (.int (19 : Int32)), s8, s9]) (XS.store1 rfl h_s7 rfl) k) ?_
  show Goes _ _ _ _ _ _ _ _ (T.setTop (mkF m 180 #[.val (.long x0), .second, .val (.int mode), .val (.int d0), .val (.ref pa), .val (.long v), .second, .val (.int (19 : Int32)), s8, s9] []))
  refine Goes.via (fun _ k => XS.iload X.here hx rfl (hb hby at_180) rfl k) ?_
  show Goes _ _ _ _ _ _ _ _ (T.setTop (mkF m 182 #[.val (.long x0), .second, .val (.int mode), .val (.int d0), .val (.ref pa), .val (.long v), .second, .val (.int (19 : Int32)), s8, s9] [(.int (19 : Int32))]))
  refine Goes.via (fun _ k => XT.iconstV X.here hx rfl (1 : Int32) (hb hby at_182) (by decide) k) ?_
  show Goes _ _ _ _ _ _ _ _ (T.setTop (mkF m 183 #[.val (.long x0), .second, .val (.int mode), .val (.int d0), .val (.ref pa), .val (.long v), .second, .val (.int (19 : Int32)), s8, s9] [(.int (1 : Int32)), (.int (19 : Int32))]))
  refine Goes.via (fun _ k => XS.icmpNo X.here hx rfl (hb hby at_183) rfl (XT.ii_lt_f (by decide)) k) ?_
  show Goes _ _ _ _ _ _ _ _ (T.setTop (mkF m 186 #[.val (.long x0), .second, .val (.int mode), .val (.int d0), .val (.ref pa), .val (.long v), .second, .val (.int (19 : Int32)), s8, s9] []))
  refine Goes.via (fun _ k => XS.iload X.here hx rfl (hb hby at_186) rfl k) ?_
  show Goes _ _ _ _ _ _ _ _ (T.setTop (mkF m 188 #[.val (.long x0), .second, .val (.int mode), .val (.int d0), .val (.ref pa), .val (.long v), .second, .val (.int (19 : Int32)), s8, s9] [(.int (19 : Int32))]))
  refine Goes.via (fun _ k => XT.bipushV X.here hx rfl (19 : Int32) (hb hby at_188) (by decide) k) ?_
  show Goes _ _ _ _ _ _ _ _ (T.setTop (mkF m 190 #[.val (.long x0), .second, .val (.int mode), .val (.int d0), .val (.ref pa), .val (.long v), .second, .val (.int (19 : Int32)), s8, s9] [(.int (19 : Int32)), (.int (19 : Int32))]))
  refine Goes.via (fun _ k => XS.icmpYes X.here hx rfl (pc0 := 190) (pc' := 195) rfl (hb hby at_190) rfl (XT.ii_le_t (by decide)) (by decide) (by decide) k) ?_
  show Goes _ _ _ _ _ _ _ _ (T.setTop (mkF m 195 #[.val (.long x0), .second, .val (.int mode), .val (.int d0), .val (.ref pa), .val (.long v), .second, .val (.int (19 : Int32)), s8, s9] []))
  refine Goes.via (fun _ k => XS.iload X.here hx rfl (hb hby at_195) rfl k) ?_
  show Goes _ _ _ _ _ _ _ _ (T.setTop (mkF m 197 #[.val (.long x0), .second, .val (.int mode), .val (.int d0), .val (.ref pa), .val (.long v), .second, .val (.int (19 : Int32)), s8, s9] [(.int (19 : Int32))]))
  refine Goes.via (fun _ k => XT.iconstV X.here hx rfl (1 : Int32) (hb hby at_197) (by decide) k) ?_
  show Goes _ _ _ _ _ _ _ _ (T.setTop (mkF m 198 #[.val (.long x0), .second, .val (.int mode), .val (.int d0), .val (.ref pa), .val (.long v), .second, .val (.int (19 : Int32)), s8, s9] [(.int (1 : Int32)), (.int (19 : Int32))]))
  refine Goes.via (fun _ k => XS.icmpNo X.here hx rfl (hb hby at_198) rfl (XT.ii_eq_f (by decide)) k) ?_
  show Goes _ _ _ _ _ _ _ _ (T.setTop (mkF m 201 #[.val (.long x0), .second, .val (.int mode), .val (.int d0), .val (.ref pa), .val (.long v), .second, .val (.int (19 : Int32)), s8, s9] []))
  refine Goes.via (fun _ k => XT.lload X.here hx rfl (hb hby at_201) rfl k) ?_
  show Goes _ _ _ _ _ _ _ _ (T.setTop (mkF m 203 #[.val (.long x0), .second, .val (.int mode), .val (.int d0), .val (.ref pa), .val (.long v), .second, .val (.int (19 : Int32)), s8, s9] [(.long v)]))
  refine Goes.via (fun _ k => XS.aload X.here hx rfl (hb hby at_203) rfl rfl k) ?_
  show Goes _ _ _ _ _ _ _ _ (T.setTop (mkF m 205 #[.val (.long x0), .second, .val (.int mode), .val (.int d0), .val (.ref pa), .val (.long v), .second, .val (.int (19 : Int32)), s8, s9] [(.ref pa), (.long v)]))
  refine Goes.via (fun _ k => XS.iload X.here hx rfl (hb hby at_205) rfl k) ?_
  show Goes _ _ _ _ _ _ _ _ (T.setTop (mkF m 207 #[.val (.long x0), .second, .val (.int mode), .val (.int d0), .val (.ref pa), .val (.long v), .second, .val (.int (19 : Int32)), s8, s9] [(.int (19 : Int32)), (.ref pa), (.long v)]))
  refine Goes.via (fun _ k => XT.iconstV X.here hx rfl (1 : Int32) (hb hby at_207) (by decide) k) ?_
  show Goes _ _ _ _ _ _ _ _ (T.setTop (mkF m 208 #[.val (.long x0), .second, .val (.int mode), .val (.int d0), .val (.ref pa), .val (.long v), .second, .val (.int (19 : Int32)), s8, s9] [(.int (1 : Int32)), (.int (19 : Int32)), (.ref pa), (.long v)]))
  refine Goes.via (fun _ k => XS.isub X.here hx rfl (hb hby at_208) rfl k) ?_
  rw [show ((19 : Int32) - (1 : Int32)) = (18 : Int32) from by decide]
  show Goes _ _ _ _ _ _ _ _ (T.setTop (mkF m 209 #[.val (.long x0), .second, .val (.int mode), .val (.int d0), .val (.ref pa), .val (.long v), .second, .val (.int (19 : Int32)), s8, s9] [(.int (18 : Int32)), (.ref pa), (.long v)]))
  obtain ⟨clq2, Arq2, qq2, Sq2, Nnq2, Hq2, Gq2⟩ := id pf0
  have hinq2 : ¬ ((18 : Int32) < 0 ∨ clq2.slots.size ≤ ((18 : Int32)).toNatClampNeg) := inb_of Sq2 ⟨by decide, by decide⟩
  refine Goes.via (X.laload hx (j := (18 : Int32)) (v := (.long (1000000000000000000 : Int64))) (by rw [e0]; exact Arq2.1) (State.isArrayOf_alike hZ.alike Arq2.2.1) Arq2.2.2 hinq2 (Hq2.at hinq2 rfl) (g := (mkF m 209 #[.val (.long x0), .second, .val (.int mode), .val (.int d0), .val (.ref pa), .val (.long v), .second, .val (.int (19 : Int32)), s8, s9] [(.int (18 : Int32)), (.ref pa), (.long v)])) rfl rfl (hb hby at_209)) ?_
  show Goes _ _ _ _ _ _ _ _ (T.setTop (mkF m 210 #[.val (.long x0), .second, .val (.int mode), .val (.int d0), .val (.ref pa), .val (.long v), .second, .val (.int (19 : Int32)), s8, s9] [(.long (1000000000000000000 : Int64)), (.long v)]))
  refine Goes.via (fun _ k => XT.lcmp X.here hx rfl (hb hby at_210) rfl k) ?_
  show Goes _ _ _ _ _ _ _ _ (T.setTop (mkF m 211 #[.val (.long x0), .second, .val (.int mode), .val (.int d0), .val (.ref pa), .val (.long v), .second, .val (.int (19 : Int32)), s8, s9] [(.int (XT.cmpL v (1000000000000000000 : Int64)))]))
  refine Goes.via (fun _ k => XS.ifNo X.here hx rfl (hb hby at_211) rfl (XT.ll_lt_f lo7) k) ?_
  show Goes _ _ _ _ _ _ _ _ (T.setTop (mkF m 214 #[.val (.long x0), .second, .val (.int mode), .val (.int d0), .val (.ref pa), .val (.long v), .second, .val (.int (19 : Int32)), s8, s9] []))
  refine Goes.via (fun _ k => XT.iconstV X.here hx rfl (1 : Int32) (hb hby at_214) (by decide) k) ?_
  show Goes _ _ _ _ _ _ _ _ (T.setTop (mkF m 215 #[.val (.long x0), .second, .val (.int mode), .val (.int d0), .val (.ref pa), .val (.long v), .second, .val (.int (19 : Int32)), s8, s9] [(.int (1 : Int32))]))
  refine Goes.via (fun _ k => XS.goto X.here hx rfl (pc0 := 215) (pc' := 219) rfl (hb hby at_215) (by decide) (by decide) k) ?_
  show Goes _ _ _ _ _ _ _ _ (T.setTop (mkF m 219 #[.val (.long x0), .second, .val (.int mode), .val (.int d0), .val (.ref pa), .val (.long v), .second, .val (.int (19 : Int32)), s8, s9] [(.int (1 : Int32))]))
  refine Goes.via (fun _ k => XS.istore X.here hx rfl (hb hby at_219) rfl (l' := #[.val (.long x0), .second, .val (.int mode), .val (.int d0), .val (.ref pa), .val (.long v), .second, .val (.int (19 : Int32)), .val (.int (1 : Int32)), .unset]) (H8 _ _) k) ?_
  show Goes _ _ _ _ _ _ _ _ (T.setTop (mkF m 221 #[.val (.long x0), .second, .val (.int mode), .val (.int d0), .val (.ref pa), .val (.long v), .second, .val (.int (19 : Int32)), .val (.int (1 : Int32)), .unset] []))
  refine Goes.via (fun _ k => XS.iload X.here hx rfl (hb hby at_221) rfl k) ?_
  show Goes _ _ _ _ _ _ _ _ (T.setTop (mkF m 223 #[.val (.long x0), .second, .val (.int mode), .val (.int d0), .val (.ref pa), .val (.long v), .second, .val (.int (19 : Int32)), .val (.int (1 : Int32)), .unset] [(.int (19 : Int32))]))
  refine Goes.via (fun _ k => XT.bipushV X.here hx rfl (19 : Int32) (hb hby at_223) (by decide) k) ?_
  show Goes _ _ _ _ _ _ _ _ (T.setTop (mkF m 225 #[.val (.long x0), .second, .val (.int mode), .val (.int d0), .val (.ref pa), .val (.long v), .second, .val (.int (19 : Int32)), .val (.int (1 : Int32)), .unset] [(.int (19 : Int32)), (.int (19 : Int32))]))
  refine Goes.via (fun _ k => XS.icmpYes X.here hx rfl (pc0 := 225) (pc' := 239) rfl (hb hby at_225) rfl (XT.ii_eq_t (by decide)) (by decide) (by decide) k) ?_
  show Goes _ _ _ _ _ _ _ _ (T.setTop (mkF m 239 #[.val (.long x0), .second, .val (.int mode), .val (.int d0), .val (.ref pa), .val (.long v), .second, .val (.int (19 : Int32)), .val (.int (1 : Int32)), .unset] []))
  refine Goes.via (fun _ k => XT.iconstV X.here hx rfl (1 : Int32) (hb hby at_239) (by decide) k) ?_
  show Goes _ _ _ _ _ _ _ _ (T.setTop (mkF m 240 #[.val (.long x0), .second, .val (.int mode), .val (.int d0), .val (.ref pa), .val (.long v), .second, .val (.int (19 : Int32)), .val (.int (1 : Int32)), .unset] [(.int (1 : Int32))]))
  refine Goes.via (fun _ k => XS.goto X.here hx rfl (pc0 := 240) (pc' := 244) rfl (hb hby at_240) (by decide) (by decide) k) ?_
  show Goes _ _ _ _ _ _ _ _ (T.setTop (mkF m 244 #[.val (.long x0), .second, .val (.int mode), .val (.int d0), .val (.ref pa), .val (.long v), .second, .val (.int (19 : Int32)), .val (.int (1 : Int32)), .unset] [(.int (1 : Int32))]))
  refine Goes.via (fun _ k => XS.istore X.here hx rfl (hb hby at_244) rfl (l' := #[.val (.long x0), .second, .val (.int mode), .val (.int d0), .val (.ref pa), .val (.long v), .second, .val (.int (19 : Int32)), .val (.int (1 : Int32)), .val (.int (1 : Int32))]) rfl k) ?_
  show Goes _ _ _ _ _ _ _ _ (T.setTop (mkF m 246 #[.val (.long x0), .second, .val (.int mode), .val (.int d0), .val (.ref pa), .val (.long v), .second, .val (.int (19 : Int32)), .val (.int (1 : Int32)), .val (.int (1 : Int32))] []))
  refine Goes.via (fun _ k => XS.iload X.here hx rfl (hb hby at_246) rfl k) ?_
  show Goes _ _ _ _ _ _ _ _ (T.setTop (mkF m 248 #[.val (.long x0), .second, .val (.int mode), .val (.int d0), .val (.ref pa), .val (.long v), .second, .val (.int (19 : Int32)), .val (.int (1 : Int32)), .val (.int (1 : Int32))] [(.int (1 : Int32))]))
  refine Goes.via (fun _ k => XS.ifNo X.here hx rfl (hb hby at_248) rfl (XT.i0_eq_f (by decide)) k) ?_
  show Goes _ _ _ _ _ _ _ _ (T.setTop (mkF m 251 #[.val (.long x0), .second, .val (.int mode), .val (.int d0), .val (.ref pa), .val (.long v), .second, .val (.int (19 : Int32)), .val (.int (1 : Int32)), .val (.int (1 : Int32))] []))
  refine Goes.via (fun _ k => XS.iload X.here hx rfl (hb hby at_251) rfl k) ?_
  show Goes _ _ _ _ _ _ _ _ (T.setTop (mkF m 253 #[.val (.long x0), .second, .val (.int mode), .val (.int d0), .val (.ref pa), .val (.long v), .second, .val (.int (19 : Int32)), .val (.int (1 : Int32)), .val (.int (1 : Int32))] [(.int (1 : Int32))]))
  refine Goes.via (fun _ k => XS.ifNo X.here hx rfl (hb hby at_253) rfl (XT.i0_eq_f (by decide)) k) ?_
  show Goes _ _ _ _ _ _ _ _ (T.setTop (mkF m 256 #[.val (.long x0), .second, .val (.int mode), .val (.int d0), .val (.ref pa), .val (.long v), .second, .val (.int (19 : Int32)), .val (.int (1 : Int32)), .val (.int (1 : Int32))] []))
  refine Goes.via (fun _ k => XT.iconstV X.here hx rfl (1 : Int32) (hb hby at_256) (by decide) k) ?_
  show Goes _ _ _ _ _ _ _ _ (T.setTop (mkF m 257 #[.val (.long x0), .second, .val (.int mode), .val (.int d0), .val (.ref pa), .val (.long v), .second, .val (.int (19 : Int32)), .val (.int (1 : Int32)), .val (.int (1 : Int32))] [(.int (1 : Int32))]))
  refine Goes.via (fun _ k => XS.goto X.here hx rfl (pc0 := 257) (pc' := 261) rfl (hb hby at_257) (by decide) (by decide) k) ?_
  show Goes _ _ _ _ _ _ _ _ (T.setTop (mkF m 261 #[.val (.long x0), .second, .val (.int mode), .val (.int d0), .val (.ref pa), .val (.long v), .second, .val (.int (19 : Int32)), .val (.int (1 : Int32)), .val (.int (1 : Int32))] [(.int (1 : Int32))]))
  refine goRetN X hx hrt (by simp) hlk N (by show _ ≤ 16; omega) (by show _ ≤ 128; omega) (hb hby at_261) ?_
  try rw [e0]
  exact rfl
set_option maxRecDepth 65536 in
set_option maxHeartbeats 40000000 in
theorem seg173 (l : Launch) (Z : State) (aw : Array Value) (hw : ∀ d ∈ tables_1, d.before aw Z = true) (x0 : Int64) (mode : Int32) (d0 : Int32) (ar : Nat) (k0 : ClassId) (pa : Nat) (ka : ClassId) (v : Int64) (s7 : Slot) (s8 : Slot) (s9 : Slot) {p : Program} {e : Env} {s : State} {m : MethodId} {args : Array Value} {below : List Frame} {meth : Method} {c : Code} {T : State} {locs : List Loc} {cells slots n0 : Nat} {h1 : Heap} (hx : p.tables.exec = Jvm.exec) (hby : c.code = code) (hml : c.maxLocals = 10) (hrt : meth.sig.returnType = some .boolean) (hlk : meth.locks = false) (hnm : meth.name = "law") (hZ : Z.Warmed39 s.vm) (hown : s.vm.findClass "com/example/primevertical/primevertical/DecimalTextDigitCountPinLaw" = some m.cls) (X : Stand p l e room_1 s m args below meth c T locs cells slots) (e0 : T.heap = h1) (N : Fr n0 locs) (hcells : cells ≤ 1) (hslots : slots ≤ 19) (O : Old Z n0 h1) (S0 : Sta Z Z.heap "com/example/primevertical/primevertical/DecimalText" "LONG_POWERS_OF_TEN" "[J" (.ref ar)) (V0 : Arv Z Z.heap ar k0 .long (19 : Int32) PW (.long (0 : Int64))) (VP : Arv Z h1 pa ka .long (19 : Int32) PW (.long (0 : Int64))) (h_s7 : One s7) (H8 : ∀ z7 z8 : Int32, storeLocals #[.val (.long x0), .second, .val (.int mode), .val (.int d0), .val (.ref pa), .val (.long v), .second, .val (.int z7), s8, s9] 8 (.int z8) = some #[.val (.long x0), .second, .val (.int mode), .val (.int d0), .val (.ref pa), .val (.long v), .second, .val (.int z7), .val (.int z8), .unset]) :
    Goes p e below s room_1.cells room_1.slots n0 (fun vv hh => vv = some (.int (1 : Int32))) (T.setTop (mkF m 173 #[.val (.long x0), .second, .val (.int mode), .val (.int d0), .val (.ref pa), .val (.long v), .second, s7, s8, s9] [])) := by
  have zO := O.le
  have lt_pa := lt_nat VP.lt
  show Goes _ _ _ _ _ _ _ _ (T.setTop (mkF m 173 #[.val (.long x0), .second, .val (.int mode), .val (.int d0), .val (.ref pa), .val (.long v), .second, s7, s8, s9] []))
  refine Goes.via (fun _ k => XT.lload X.here hx rfl (hb hby at_173) rfl k) ?_
  show Goes _ _ _ _ _ _ _ _ (T.setTop (mkF m 175 #[.val (.long x0), .second, .val (.int mode), .val (.int d0), .val (.ref pa), .val (.long v), .second, s7, s8, s9] [(.long v)]))
  obtain ⟨vq1, Tq1, Lq1, Xq1, qq1, nq1, stq1⟩ := callSt X hx hZ hown (dcount l Z aw hw v ar k0 O S0 V0) (W_19 hw) (W_20 hw) (W_21 hw) (W_22 hw) (by decide) e0 (by decide) (W := 0) (by decide) (by show _ + 0 ≤ 16; omega) (by show _ + 0 ≤ 128; omega) (g := (mkF m 175 #[.val (.long x0), .second, .val (.int mode), .val (.int d0), .val (.ref pa), .val (.long v), .second, s7, s8, s9] [(.long v)])) rfl (by rw [hml]; rfl) (argsL := [(.long v)]) (rest := []) rfl (lenOf pd_1 rfl) rfl (by show 2 * 0 + _ ≤ _; exact Nat.le_of_eq rfl) (hb hby at_175)
  dsimp only at Xq1
  obtain ⟨rfl, pq1_0⟩ := qq1
  have Nq1 := Fr.app N nq1
  refine Goes.via stq1 ?_
  show Goes _ _ _ _ _ _ _ _ (Tq1.setTop (mkF m 178 #[.val (.long x0), .second, .val (.int mode), .val (.int d0), .val (.ref pa), .val (.long v), .second, s7, s8, s9] [(.int (dig v))]))
  rcases dig_cases v with ⟨d7, hi7⟩ | ⟨d7, lo7, hi7⟩ | ⟨d7, lo7, hi7⟩ | ⟨d7, lo7, hi7⟩ | ⟨d7, lo7, hi7⟩ | ⟨d7, lo7, hi7⟩ | ⟨d7, lo7, hi7⟩ | ⟨d7, lo7, hi7⟩ | ⟨d7, lo7, hi7⟩ | ⟨d7, lo7, hi7⟩ | ⟨d7, lo7, hi7⟩ | ⟨d7, lo7, hi7⟩ | ⟨d7, lo7, hi7⟩ | ⟨d7, lo7, hi7⟩ | ⟨d7, lo7, hi7⟩ | ⟨d7, lo7, hi7⟩ | ⟨d7, lo7, hi7⟩ | ⟨d7, lo7, hi7⟩ | ⟨d7, lo7⟩
  · skip
    rw [d7]
    show Goes _ _ _ _ _ _ _ _ (Tq1.setTop (mkF m 178 #[.val (.long x0), .second, .val (.int mode), .val (.int d0), .val (.ref pa), .val (.long v), .second, s7, s8, s9] [(.int (1 : Int32))]))
    exact law_c19 l Z aw hw x0 mode d0 ar k0 pa ka v s7 s8 s9 hx hby hml hrt hlk hnm hZ hown Xq1 pq1_0 Nq1 (by omega) (by omega) O S0 V0 VP h_s7 H8 hi7
  · skip
    rw [d7]
    show Goes _ _ _ _ _ _ _ _ (Tq1.setTop (mkF m 178 #[.val (.long x0), .second, .val (.int mode), .val (.int d0), .val (.ref pa), .val (.long v), .second, s7, s8, s9] [(.int (2 : Int32))]))
    exact law_c20 l Z aw hw x0 mode d0 ar k0 pa ka v s7 s8 s9 hx hby hml hrt hlk hnm hZ hown Xq1 pq1_0 Nq1 (by omega) (by omega) O S0 V0 VP h_s7 H8 lo7 hi7
  · skip
    rw [d7]
    show Goes _ _ _ _ _ _ _ _ (Tq1.setTop (mkF m 178 #[.val (.long x0), .second, .val (.int mode), .val (.int d0), .val (.ref pa), .val (.long v), .second, s7, s8, s9] [(.int (3 : Int32))]))
    exact law_c21 l Z aw hw x0 mode d0 ar k0 pa ka v s7 s8 s9 hx hby hml hrt hlk hnm hZ hown Xq1 pq1_0 Nq1 (by omega) (by omega) O S0 V0 VP h_s7 H8 lo7 hi7
  · skip
    rw [d7]
    show Goes _ _ _ _ _ _ _ _ (Tq1.setTop (mkF m 178 #[.val (.long x0), .second, .val (.int mode), .val (.int d0), .val (.ref pa), .val (.long v), .second, s7, s8, s9] [(.int (4 : Int32))]))
    exact law_c22 l Z aw hw x0 mode d0 ar k0 pa ka v s7 s8 s9 hx hby hml hrt hlk hnm hZ hown Xq1 pq1_0 Nq1 (by omega) (by omega) O S0 V0 VP h_s7 H8 lo7 hi7
  · skip
    rw [d7]
    show Goes _ _ _ _ _ _ _ _ (Tq1.setTop (mkF m 178 #[.val (.long x0), .second, .val (.int mode), .val (.int d0), .val (.ref pa), .val (.long v), .second, s7, s8, s9] [(.int (5 : Int32))]))
    exact law_c23 l Z aw hw x0 mode d0 ar k0 pa ka v s7 s8 s9 hx hby hml hrt hlk hnm hZ hown Xq1 pq1_0 Nq1 (by omega) (by omega) O S0 V0 VP h_s7 H8 lo7 hi7
  · skip
    rw [d7]
    show Goes _ _ _ _ _ _ _ _ (Tq1.setTop (mkF m 178 #[.val (.long x0), .second, .val (.int mode), .val (.int d0), .val (.ref pa), .val (.long v), .second, s7, s8, s9] [(.int (6 : Int32))]))
    exact law_c24 l Z aw hw x0 mode d0 ar k0 pa ka v s7 s8 s9 hx hby hml hrt hlk hnm hZ hown Xq1 pq1_0 Nq1 (by omega) (by omega) O S0 V0 VP h_s7 H8 lo7 hi7
  · skip
    rw [d7]
    show Goes _ _ _ _ _ _ _ _ (Tq1.setTop (mkF m 178 #[.val (.long x0), .second, .val (.int mode), .val (.int d0), .val (.ref pa), .val (.long v), .second, s7, s8, s9] [(.int (7 : Int32))]))
    exact law_c25 l Z aw hw x0 mode d0 ar k0 pa ka v s7 s8 s9 hx hby hml hrt hlk hnm hZ hown Xq1 pq1_0 Nq1 (by omega) (by omega) O S0 V0 VP h_s7 H8 lo7 hi7
  · skip
    rw [d7]
    show Goes _ _ _ _ _ _ _ _ (Tq1.setTop (mkF m 178 #[.val (.long x0), .second, .val (.int mode), .val (.int d0), .val (.ref pa), .val (.long v), .second, s7, s8, s9] [(.int (8 : Int32))]))
    exact law_c26 l Z aw hw x0 mode d0 ar k0 pa ka v s7 s8 s9 hx hby hml hrt hlk hnm hZ hown Xq1 pq1_0 Nq1 (by omega) (by omega) O S0 V0 VP h_s7 H8 lo7 hi7
  · skip
    rw [d7]
    show Goes _ _ _ _ _ _ _ _ (Tq1.setTop (mkF m 178 #[.val (.long x0), .second, .val (.int mode), .val (.int d0), .val (.ref pa), .val (.long v), .second, s7, s8, s9] [(.int (9 : Int32))]))
    exact law_c27 l Z aw hw x0 mode d0 ar k0 pa ka v s7 s8 s9 hx hby hml hrt hlk hnm hZ hown Xq1 pq1_0 Nq1 (by omega) (by omega) O S0 V0 VP h_s7 H8 lo7 hi7
  · skip
    rw [d7]
    show Goes _ _ _ _ _ _ _ _ (Tq1.setTop (mkF m 178 #[.val (.long x0), .second, .val (.int mode), .val (.int d0), .val (.ref pa), .val (.long v), .second, s7, s8, s9] [(.int (10 : Int32))]))
    exact law_c28 l Z aw hw x0 mode d0 ar k0 pa ka v s7 s8 s9 hx hby hml hrt hlk hnm hZ hown Xq1 pq1_0 Nq1 (by omega) (by omega) O S0 V0 VP h_s7 H8 lo7 hi7
  · skip
    rw [d7]
    show Goes _ _ _ _ _ _ _ _ (Tq1.setTop (mkF m 178 #[.val (.long x0), .second, .val (.int mode), .val (.int d0), .val (.ref pa), .val (.long v), .second, s7, s8, s9] [(.int (11 : Int32))]))
    exact law_c29 l Z aw hw x0 mode d0 ar k0 pa ka v s7 s8 s9 hx hby hml hrt hlk hnm hZ hown Xq1 pq1_0 Nq1 (by omega) (by omega) O S0 V0 VP h_s7 H8 lo7 hi7
  · skip
    rw [d7]
    show Goes _ _ _ _ _ _ _ _ (Tq1.setTop (mkF m 178 #[.val (.long x0), .second, .val (.int mode), .val (.int d0), .val (.ref pa), .val (.long v), .second, s7, s8, s9] [(.int (12 : Int32))]))
    exact law_c30 l Z aw hw x0 mode d0 ar k0 pa ka v s7 s8 s9 hx hby hml hrt hlk hnm hZ hown Xq1 pq1_0 Nq1 (by omega) (by omega) O S0 V0 VP h_s7 H8 lo7 hi7
  · skip
    rw [d7]
    show Goes _ _ _ _ _ _ _ _ (Tq1.setTop (mkF m 178 #[.val (.long x0), .second, .val (.int mode), .val (.int d0), .val (.ref pa), .val (.long v), .second, s7, s8, s9] [(.int (13 : Int32))]))
    exact law_c31 l Z aw hw x0 mode d0 ar k0 pa ka v s7 s8 s9 hx hby hml hrt hlk hnm hZ hown Xq1 pq1_0 Nq1 (by omega) (by omega) O S0 V0 VP h_s7 H8 lo7 hi7
  · skip
    rw [d7]
    show Goes _ _ _ _ _ _ _ _ (Tq1.setTop (mkF m 178 #[.val (.long x0), .second, .val (.int mode), .val (.int d0), .val (.ref pa), .val (.long v), .second, s7, s8, s9] [(.int (14 : Int32))]))
    exact law_c32 l Z aw hw x0 mode d0 ar k0 pa ka v s7 s8 s9 hx hby hml hrt hlk hnm hZ hown Xq1 pq1_0 Nq1 (by omega) (by omega) O S0 V0 VP h_s7 H8 lo7 hi7
  · skip
    rw [d7]
    show Goes _ _ _ _ _ _ _ _ (Tq1.setTop (mkF m 178 #[.val (.long x0), .second, .val (.int mode), .val (.int d0), .val (.ref pa), .val (.long v), .second, s7, s8, s9] [(.int (15 : Int32))]))
    exact law_c33 l Z aw hw x0 mode d0 ar k0 pa ka v s7 s8 s9 hx hby hml hrt hlk hnm hZ hown Xq1 pq1_0 Nq1 (by omega) (by omega) O S0 V0 VP h_s7 H8 lo7 hi7
  · skip
    rw [d7]
    show Goes _ _ _ _ _ _ _ _ (Tq1.setTop (mkF m 178 #[.val (.long x0), .second, .val (.int mode), .val (.int d0), .val (.ref pa), .val (.long v), .second, s7, s8, s9] [(.int (16 : Int32))]))
    exact law_c34 l Z aw hw x0 mode d0 ar k0 pa ka v s7 s8 s9 hx hby hml hrt hlk hnm hZ hown Xq1 pq1_0 Nq1 (by omega) (by omega) O S0 V0 VP h_s7 H8 lo7 hi7
  · skip
    rw [d7]
    show Goes _ _ _ _ _ _ _ _ (Tq1.setTop (mkF m 178 #[.val (.long x0), .second, .val (.int mode), .val (.int d0), .val (.ref pa), .val (.long v), .second, s7, s8, s9] [(.int (17 : Int32))]))
    exact law_c35 l Z aw hw x0 mode d0 ar k0 pa ka v s7 s8 s9 hx hby hml hrt hlk hnm hZ hown Xq1 pq1_0 Nq1 (by omega) (by omega) O S0 V0 VP h_s7 H8 lo7 hi7
  · skip
    rw [d7]
    show Goes _ _ _ _ _ _ _ _ (Tq1.setTop (mkF m 178 #[.val (.long x0), .second, .val (.int mode), .val (.int d0), .val (.ref pa), .val (.long v), .second, s7, s8, s9] [(.int (18 : Int32))]))
    exact law_c36 l Z aw hw x0 mode d0 ar k0 pa ka v s7 s8 s9 hx hby hml hrt hlk hnm hZ hown Xq1 pq1_0 Nq1 (by omega) (by omega) O S0 V0 VP h_s7 H8 lo7 hi7
  · skip
    rw [d7]
    show Goes _ _ _ _ _ _ _ _ (Tq1.setTop (mkF m 178 #[.val (.long x0), .second, .val (.int mode), .val (.int d0), .val (.ref pa), .val (.long v), .second, s7, s8, s9] [(.int (19 : Int32))]))
    exact law_c37 l Z aw hw x0 mode d0 ar k0 pa ka v s7 s8 s9 hx hby hml hrt hlk hnm hZ hown Xq1 pq1_0 Nq1 (by omega) (by omega) O S0 V0 VP h_s7 H8 lo7
theorem ef_law (m : MethodId) (x0 : Int64) (mode : Int32) (d0 : Int32) : entryFrame m #[(.long x0), (.int mode), (.int d0)] maxLocals = mkF m 0 #[.val (.long x0), .second, .val (.int mode), .val (.int d0), .unset, .unset, .unset, .unset, .unset, .unset] [] := by first | (simp [entryFrame, mkF, argsToLocals, Value.category, maxLocals]; done) | rfl
set_option maxRecDepth 65536 in
set_option maxHeartbeats 40000000 in
theorem law_c39 (l : Launch) (Z : State) (aw : Array Value) (hw : ∀ d ∈ tables_1, d.before aw Z = true) (x0 : Int64) (mode : Int32) (d0 : Int32) (ar : Nat) (k0 : ClassId) (bq1 : Nat) (kq1 : ClassId) {p : Program} {e : Env} {s : State} {m : MethodId} {args : Array Value} {below : List Frame} {meth : Method} {c : Code} {T : State} {locs : List Loc} {cells slots n0 : Nat} {h1 : Heap} (hx : p.tables.exec = Jvm.exec) (hby : c.code = code) (hml : c.maxLocals = 10) (hrt : meth.sig.returnType = some .boolean) (hlk : meth.locks = false) (hnm : meth.name = "law") (hZ : Z.Warmed39 s.vm) (hown : s.vm.findClass "com/example/primevertical/primevertical/DecimalTextDigitCountPinLaw" = some m.cls) (X : Stand p l e room_1 s m args below meth c T locs cells slots) (e0 : T.heap = h1) (N : Fr n0 locs) (hcells : cells ≤ 1) (hslots : slots ≤ 19) (O : Old Z n0 h1) (S0 : Sta Z Z.heap "com/example/primevertical/primevertical/DecimalText" "LONG_POWERS_OF_TEN" "[J" (.ref ar)) (V0 : Arv Z Z.heap ar k0 .long (19 : Int32) PW (.long (0 : Int64))) (pf0 : Arv Z h1 bq1 kq1 .long (19 : Int32) PW (.long (0 : Int64))) (cq21 : (mode &&& (1 : Int32)) = (0 : Int32)) (cn1 : n0 ≤ bq1) :
    Goes p e below s room_1.cells room_1.slots n0 (fun vv hh => vv = some (.int (1 : Int32))) (T.setTop (mkF m 152 #[.val (.long x0), .second, .val (.int mode), .val (.int d0), .val (.ref bq1), .unset, .unset, .unset, .unset, .unset] [(.int (19 : Int32)), (.int (XT.ushr mode (1 : Int32)))])) := by
  have zO := O.le
  have lt_bq1 := lt_nat pf0.lt
  show Goes _ _ _ _ _ _ _ _ (T.setTop (mkF m 152 #[.val (.long x0), .second, .val (.int mode), .val (.int d0), .val (.ref bq1), .unset, .unset, .unset, .unset, .unset] [(.int (19 : Int32)), (.int (XT.ushr mode (1 : Int32)))]))
  refine Goes.via (fun _ k => iremM X hx rfl (hb hby at_152) rfl (by decide) k) ?_
  show Goes _ _ _ _ _ _ _ _ (T.setTop (mkF m 153 #[.val (.long x0), .second, .val (.int mode), .val (.int d0), .val (.ref bq1), .unset, .unset, .unset, .unset, .unset] [(.int ((XT.ushr mode (1 : Int32)) % (19 : Int32)))]))
  refine Goes.via (fun _ k => XS.istore X.here hx rfl (hb hby at_153) rfl (l' := #[.val (.long x0), .second, .val (.int mode), .val (.int d0), .val (.ref bq1), .unset, .unset, .val (.int ((XT.ushr mode (1 : Int32)) % (19 : Int32))), .unset, .unset]) rfl k) ?_
  show Goes _ _ _ _ _ _ _ _ (T.setTop (mkF m 155 #[.val (.long x0), .second, .val (.int mode), .val (.int d0), .val (.ref bq1), .unset, .unset, .val (.int ((XT.ushr mode (1 : Int32)) % (19 : Int32))), .unset, .unset] []))
  refine Goes.via (fun _ k => XS.iloadN X.here hx rfl (hb hby at_155) rfl k) ?_
  show Goes _ _ _ _ _ _ _ _ (T.setTop (mkF m 156 #[.val (.long x0), .second, .val (.int mode), .val (.int d0), .val (.ref bq1), .unset, .unset, .val (.int ((XT.ushr mode (1 : Int32)) % (19 : Int32))), .unset, .unset] [(.int d0)]))
  refine Goes.via (fun _ k => XT.iconstV X.here hx rfl (3 : Int32) (hb hby at_156) (by decide) k) ?_
  show Goes _ _ _ _ _ _ _ _ (T.setTop (mkF m 157 #[.val (.long x0), .second, .val (.int mode), .val (.int d0), .val (.ref bq1), .unset, .unset, .val (.int ((XT.ushr mode (1 : Int32)) % (19 : Int32))), .unset, .unset] [(.int (3 : Int32)), (.int d0)]))
  refine Goes.via (fun _ k => XS.iand X.here hx rfl (hb hby at_157) rfl k) ?_
  show Goes _ _ _ _ _ _ _ _ (T.setTop (mkF m 158 #[.val (.long x0), .second, .val (.int mode), .val (.int d0), .val (.ref bq1), .unset, .unset, .val (.int ((XT.ushr mode (1 : Int32)) % (19 : Int32))), .unset, .unset] [(.int (d0 &&& (3 : Int32)))]))
  refine Goes.via (fun _ k => XT.iconstV X.here hx rfl (1 : Int32) (hb hby at_158) (by decide) k) ?_
  show Goes _ _ _ _ _ _ _ _ (T.setTop (mkF m 159 #[.val (.long x0), .second, .val (.int mode), .val (.int d0), .val (.ref bq1), .unset, .unset, .val (.int ((XT.ushr mode (1 : Int32)) % (19 : Int32))), .unset, .unset] [(.int (1 : Int32)), (.int (d0 &&& (3 : Int32)))]))
  refine Goes.via (fun _ k => XS.isub X.here hx rfl (hb hby at_159) rfl k) ?_
  show Goes _ _ _ _ _ _ _ _ (T.setTop (mkF m 160 #[.val (.long x0), .second, .val (.int mode), .val (.int d0), .val (.ref bq1), .unset, .unset, .val (.int ((XT.ushr mode (1 : Int32)) % (19 : Int32))), .unset, .unset] [(.int ((d0 &&& (3 : Int32)) - (1 : Int32)))]))
  refine Goes.via (fun _ k => XT.i2l X.here hx rfl (hb hby at_160) rfl k) ?_
  show Goes _ _ _ _ _ _ _ _ (T.setTop (mkF m 161 #[.val (.long x0), .second, .val (.int mode), .val (.int d0), .val (.ref bq1), .unset, .unset, .val (.int ((XT.ushr mode (1 : Int32)) % (19 : Int32))), .unset, .unset] [(.long ((d0 &&& (3 : Int32)) - (1 : Int32)).toInt64)]))
  refine Goes.via (fun _ k => XT.lstore X.here hx rfl (hb hby at_161) rfl (l' := #[.val (.long x0), .second, .val (.int mode), .val (.int d0), .val (.ref bq1), .unset, .unset, .val (.int ((XT.ushr mode (1 : Int32)) % (19 : Int32))), .val (.long ((d0 &&& (3 : Int32)) - (1 : Int32)).toInt64), .second]) rfl k) ?_
  show Goes _ _ _ _ _ _ _ _ (T.setTop (mkF m 163 #[.val (.long x0), .second, .val (.int mode), .val (.int d0), .val (.ref bq1), .unset, .unset, .val (.int ((XT.ushr mode (1 : Int32)) % (19 : Int32))), .val (.long ((d0 &&& (3 : Int32)) - (1 : Int32)).toInt64), .second] []))
  refine Goes.via (fun _ k => XS.aload X.here hx rfl (hb hby at_163) rfl rfl k) ?_
  show Goes _ _ _ _ _ _ _ _ (T.setTop (mkF m 165 #[.val (.long x0), .second, .val (.int mode), .val (.int d0), .val (.ref bq1), .unset, .unset, .val (.int ((XT.ushr mode (1 : Int32)) % (19 : Int32))), .val (.long ((d0 &&& (3 : Int32)) - (1 : Int32)).toInt64), .second] [(.ref bq1)]))
  refine Goes.via (fun _ k => XS.iload X.here hx rfl (hb hby at_165) rfl k) ?_
  show Goes _ _ _ _ _ _ _ _ (T.setTop (mkF m 167 #[.val (.long x0), .second, .val (.int mode), .val (.int d0), .val (.ref bq1), .unset, .unset, .val (.int ((XT.ushr mode (1 : Int32)) % (19 : Int32))), .val (.long ((d0 &&& (3 : Int32)) - (1 : Int32)).toInt64), .second] [(.int ((XT.ushr mode (1 : Int32)) % (19 : Int32))), (.ref bq1)]))
  obtain ⟨clq22, Arq22, qq22, Sq22, Nnq22, Hq22, Gq22⟩ := id pf0
  have hinq22 : ¬ (((XT.ushr mode (1 : Int32)) % (19 : Int32)) < 0 ∨ clq22.slots.size ≤ (((XT.ushr mode (1 : Int32)) % (19 : Int32))).toNatClampNeg) := inb_of Sq22 (ix_ok mode)
  obtain ⟨yq22, eyq22⟩ : ∃ y, PW.getD (((XT.ushr mode (1 : Int32)) % (19 : Int32))).toNatClampNeg (.long (0 : Int64)) = .long y := all_getD (P := fun v => ∃ y, v = Value.long y) ⟨_, rfl⟩ _ _ (by simp [PW])
  refine Goes.via (X.laload hx (j := ((XT.ushr mode (1 : Int32)) % (19 : Int32))) (v := (.long yq22)) (by rw [e0]; exact Arq22.1) (State.isArrayOf_alike hZ.alike Arq22.2.1) Arq22.2.2 hinq22 (Hq22.at hinq22 eyq22) (g := (mkF m 167 #[.val (.long x0), .second, .val (.int mode), .val (.int d0), .val (.ref bq1), .unset, .unset, .val (.int ((XT.ushr mode (1 : Int32)) % (19 : Int32))), .val (.long ((d0 &&& (3 : Int32)) - (1 : Int32)).toInt64), .second] [(.int ((XT.ushr mode (1 : Int32)) % (19 : Int32))), (.ref bq1)])) rfl rfl (hb hby at_167)) ?_
  show Goes _ _ _ _ _ _ _ _ (T.setTop (mkF m 168 #[.val (.long x0), .second, .val (.int mode), .val (.int d0), .val (.ref bq1), .unset, .unset, .val (.int ((XT.ushr mode (1 : Int32)) % (19 : Int32))), .val (.long ((d0 &&& (3 : Int32)) - (1 : Int32)).toInt64), .second] [(.long yq22)]))
  refine Goes.via (fun _ k => XT.lload X.here hx rfl (hb hby at_168) rfl k) ?_
  show Goes _ _ _ _ _ _ _ _ (T.setTop (mkF m 170 #[.val (.long x0), .second, .val (.int mode), .val (.int d0), .val (.ref bq1), .unset, .unset, .val (.int ((XT.ushr mode (1 : Int32)) % (19 : Int32))), .val (.long ((d0 &&& (3 : Int32)) - (1 : Int32)).toInt64), .second] [(.long ((d0 &&& (3 : Int32)) - (1 : Int32)).toInt64), (.long yq22)]))
  refine Goes.via (fun _ k => XT.ladd X.here hx rfl (hb hby at_170) rfl k) ?_
  show Goes _ _ _ _ _ _ _ _ (T.setTop (mkF m 171 #[.val (.long x0), .second, .val (.int mode), .val (.int d0), .val (.ref bq1), .unset, .unset, .val (.int ((XT.ushr mode (1 : Int32)) % (19 : Int32))), .val (.long ((d0 &&& (3 : Int32)) - (1 : Int32)).toInt64), .second] [(.long (yq22 + ((d0 &&& (3 : Int32)) - (1 : Int32)).toInt64))]))
  refine Goes.via (fun _ k => XT.lstore X.here hx rfl (hb hby at_171) rfl (l' := #[.val (.long x0), .second, .val (.int mode), .val (.int d0), .val (.ref bq1), .val (.long (yq22 + ((d0 &&& (3 : Int32)) - (1 : Int32)).toInt64)), .second, .val (.int ((XT.ushr mode (1 : Int32)) % (19 : Int32))), .val (.long ((d0 &&& (3 : Int32)) - (1 : Int32)).toInt64), .second]) rfl k) ?_
  show Goes _ _ _ _ _ _ _ _ (T.setTop (mkF m 173 #[.val (.long x0), .second, .val (.int mode), .val (.int d0), .val (.ref bq1), .val (.long (yq22 + ((d0 &&& (3 : Int32)) - (1 : Int32)).toInt64)), .second, .val (.int ((XT.ushr mode (1 : Int32)) % (19 : Int32))), .val (.long ((d0 &&& (3 : Int32)) - (1 : Int32)).toInt64), .second] []))
  exact seg173 l Z aw hw x0 mode d0 ar k0 bq1 kq1 (yq22 + ((d0 &&& (3 : Int32)) - (1 : Int32)).toInt64) (.val (.int ((XT.ushr mode (1 : Int32)) % (19 : Int32)))) (.val (.long ((d0 &&& (3 : Int32)) - (1 : Int32)).toInt64)) (.second) hx hby hml hrt hlk hnm hZ hown X e0 N (by omega) (by omega) O S0 V0 pf0 (Or.inr ⟨_, rfl, rfl⟩) (fun _ _ => rfl)
set_option maxRecDepth 65536 in
set_option maxHeartbeats 40000000 in
theorem law_c40 (l : Launch) (Z : State) (aw : Array Value) (hw : ∀ d ∈ tables_1, d.before aw Z = true) (x0 : Int64) (mode : Int32) (d0 : Int32) (ar : Nat) (k0 : ClassId) (bq1 : Nat) (kq1 : ClassId) {p : Program} {e : Env} {s : State} {m : MethodId} {args : Array Value} {below : List Frame} {meth : Method} {c : Code} {T : State} {locs : List Loc} {cells slots n0 : Nat} {h1 : Heap} (hx : p.tables.exec = Jvm.exec) (hby : c.code = code) (hml : c.maxLocals = 10) (hrt : meth.sig.returnType = some .boolean) (hlk : meth.locks = false) (hnm : meth.name = "law") (hZ : Z.Warmed39 s.vm) (hown : s.vm.findClass "com/example/primevertical/primevertical/DecimalTextDigitCountPinLaw" = some m.cls) (X : Stand p l e room_1 s m args below meth c T locs cells slots) (e0 : T.heap = h1) (N : Fr n0 locs) (hcells : cells ≤ 1) (hslots : slots ≤ 19) (O : Old Z n0 h1) (S0 : Sta Z Z.heap "com/example/primevertical/primevertical/DecimalText" "LONG_POWERS_OF_TEN" "[J" (.ref ar)) (V0 : Arv Z Z.heap ar k0 .long (19 : Int32) PW (.long (0 : Int64))) (pf0 : Arv Z h1 bq1 kq1 .long (19 : Int32) PW (.long (0 : Int64))) (cq21 : ¬ ((mode &&& (1 : Int32)) = (0 : Int32))) (cn1 : n0 ≤ bq1) :
    Goes p e below s room_1.cells room_1.slots n0 (fun vv hh => vv = some (.int (1 : Int32))) (T.setTop (mkF m 144 #[.val (.long x0), .second, .val (.int mode), .val (.int d0), .val (.ref bq1), .val (.long (x0 &&& (9223372036854775807 : Int64))), .second, .unset, .unset, .unset] [])) := by
  have zO := O.le
  have lt_bq1 := lt_nat pf0.lt
  show Goes _ _ _ _ _ _ _ _ (T.setTop (mkF m 144 #[.val (.long x0), .second, .val (.int mode), .val (.int d0), .val (.ref bq1), .val (.long (x0 &&& (9223372036854775807 : Int64))), .second, .unset, .unset, .unset] []))
  refine Goes.via (fun _ k => XS.goto X.here hx rfl (pc0 := 144) (pc' := 173) rfl (hb hby at_144) (by decide) (by decide) k) ?_
  show Goes _ _ _ _ _ _ _ _ (T.setTop (mkF m 173 #[.val (.long x0), .second, .val (.int mode), .val (.int d0), .val (.ref bq1), .val (.long (x0 &&& (9223372036854775807 : Int64))), .second, .unset, .unset, .unset] []))
  exact seg173 l Z aw hw x0 mode d0 ar k0 bq1 kq1 (x0 &&& (9223372036854775807 : Int64)) (.unset) (.unset) (.unset) hx hby hml hrt hlk hnm hZ hown X e0 N (by omega) (by omega) O S0 V0 pf0 (Or.inl rfl) (fun _ _ => rfl)
set_option maxRecDepth 65536 in
set_option maxHeartbeats 40000000 in
theorem law_c38 (l : Launch) (Z : State) (aw : Array Value) (hw : ∀ d ∈ tables_1, d.before aw Z = true) (x0 : Int64) (mode : Int32) (d0 : Int32) (ar : Nat) (k0 : ClassId) (bq1 : Nat) (kq1 : ClassId) {p : Program} {e : Env} {s : State} {m : MethodId} {args : Array Value} {below : List Frame} {meth : Method} {c : Code} {T : State} {locs : List Loc} {cells slots n0 : Nat} {h1 : Heap} (hx : p.tables.exec = Jvm.exec) (hby : c.code = code) (hml : c.maxLocals = 10) (hrt : meth.sig.returnType = some .boolean) (hlk : meth.locks = false) (hnm : meth.name = "law") (hZ : Z.Warmed39 s.vm) (hown : s.vm.findClass "com/example/primevertical/primevertical/DecimalTextDigitCountPinLaw" = some m.cls) (X : Stand p l e room_1 s m args below meth c T locs cells slots) (e0 : T.heap = h1) (N : Fr n0 locs) (hcells : cells ≤ 1) (hslots : slots ≤ 19) (O : Old Z n0 h1) (S0 : Sta Z Z.heap "com/example/primevertical/primevertical/DecimalText" "LONG_POWERS_OF_TEN" "[J" (.ref ar)) (V0 : Arv Z Z.heap ar k0 .long (19 : Int32) PW (.long (0 : Int64))) (pf0 : Arv Z h1 bq1 kq1 .long (19 : Int32) [(.long (1 : Int64)), (.long (10 : Int64)), (.long (100 : Int64)), (.long (1000 : Int64)), (.long (10000 : Int64)), (.long (100000 : Int64)), (.long (1000000 : Int64)), (.long (10000000 : Int64)), (.long (100000000 : Int64)), (.long (1000000000 : Int64)), (.long (10000000000 : Int64)), (.long (100000000000 : Int64)), (.long (1000000000000 : Int64)), (.long (10000000000000 : Int64)), (.long (0 : Int64)), (.long (0 : Int64)), (.long (0 : Int64)), (.long (0 : Int64)), (.long (0 : Int64))] (.long (0 : Int64))) (cn1 : n0 ≤ bq1) :
    Goes p e below s room_1.cells room_1.slots n0 (fun vv hh => vv = some (.int (1 : Int32))) (T.setTop (mkF m 97 #[.val (.long x0), .second, .val (.int mode), .val (.int d0), .unset, .unset, .unset, .unset, .unset, .unset] [(.int (14 : Int32)), (.ref bq1), (.ref bq1)])) := by
  have zO := O.le
  have lt_bq1 := lt_nat pf0.lt
  show Goes _ _ _ _ _ _ _ _ (T.setTop (mkF m 97 #[.val (.long x0), .second, .val (.int mode), .val (.int d0), .unset, .unset, .unset, .unset, .unset, .unset] [(.int (14 : Int32)), (.ref bq1), (.ref bq1)]))
  refine Goes.via (fun _ k => X.ldc2J hx hown (mvT hZ (W_14 hw)) (g := (mkF m 97 #[.val (.long x0), .second, .val (.int mode), .val (.int d0), .unset, .unset, .unset, .unset, .unset, .unset] [(.int (14 : Int32)), (.ref bq1), (.ref bq1)])) rfl (hb hby at_97) k) ?_
  show Goes _ _ _ _ _ _ _ _ (T.setTop (mkF m 100 #[.val (.long x0), .second, .val (.int mode), .val (.int d0), .unset, .unset, .unset, .unset, .unset, .unset] [(.long (100000000000000 : Int64)), (.int (14 : Int32)), (.ref bq1), (.ref bq1)]))
  obtain ⟨clq16, Arq16, qq16, Sq16, Nnq16, Hq16, Gq16⟩ := id pf0
  have hinq16 : ¬ ((14 : Int32) < 0 ∨ clq16.slots.size ≤ ((14 : Int32)).toNatClampNeg) := inb_of Sq16 ⟨by decide, by decide⟩
  obtain ⟨Tq16, hq16, Xq16, eq16, Wq16, stq16⟩ := stJ X hx hZ e0 Arq16 (j := (14 : Int32)) hinq16 (g := (mkF m 100 #[.val (.long x0), .second, .val (.int mode), .val (.int d0), .unset, .unset, .unset, .unset, .unset, .unset] [(.long (100000000000000 : Int64)), (.int (14 : Int32)), (.ref bq1), (.ref bq1)])) rfl rfl (hb hby at_100)
  have Nq16 := Fr.snoc Xq16 N (by omega)
  have zq16 := Wq16.size
  have Oq16 := O.wr Wq16 (by omega)
  have Vq16 : Arv Z hq16 bq1 kq1 .long (19 : Int32) [(.long (1 : Int64)), (.long (10 : Int64)), (.long (100 : Int64)), (.long (1000 : Int64)), (.long (10000 : Int64)), (.long (100000 : Int64)), (.long (1000000 : Int64)), (.long (10000000 : Int64)), (.long (100000000 : Int64)), (.long (1000000000 : Int64)), (.long (10000000000 : Int64)), (.long (100000000000 : Int64)), (.long (1000000000000 : Int64)), (.long (10000000000000 : Int64)), (.long (100000000000000 : Int64)), (.long (0 : Int64)), (.long (0 : Int64)), (.long (0 : Int64)), (.long (0 : Int64))] (.long (0 : Int64)) := Arv.set Arq16 qq16 Sq16 Nnq16 Hq16 Gq16 rfl Wq16 14 rfl (Nat.le_of_ble_eq_true rfl)
  refine Goes.via stq16 ?_
  show Goes _ _ _ _ _ _ _ _ (Tq16.setTop (mkF m 101 #[.val (.long x0), .second, .val (.int mode), .val (.int d0), .unset, .unset, .unset, .unset, .unset, .unset] [(.ref bq1)]))
  refine Goes.via (fun _ k => XS.dup Xq16.here hx rfl (hb hby at_101) rfl rfl k) ?_
  show Goes _ _ _ _ _ _ _ _ (Tq16.setTop (mkF m 102 #[.val (.long x0), .second, .val (.int mode), .val (.int d0), .unset, .unset, .unset, .unset, .unset, .unset] [(.ref bq1), (.ref bq1)]))
  refine Goes.via (fun _ k => XT.bipushV Xq16.here hx rfl (15 : Int32) (hb hby at_102) (by decide) k) ?_
  show Goes _ _ _ _ _ _ _ _ (Tq16.setTop (mkF m 104 #[.val (.long x0), .second, .val (.int mode), .val (.int d0), .unset, .unset, .unset, .unset, .unset, .unset] [(.int (15 : Int32)), (.ref bq1), (.ref bq1)]))
  refine Goes.via (fun _ k => Xq16.ldc2J hx hown (mvT hZ (W_15 hw)) (g := (mkF m 104 #[.val (.long x0), .second, .val (.int mode), .val (.int d0), .unset, .unset, .unset, .unset, .unset, .unset] [(.int (15 : Int32)), (.ref bq1), (.ref bq1)])) rfl (hb hby at_104) k) ?_
  show Goes _ _ _ _ _ _ _ _ (Tq16.setTop (mkF m 107 #[.val (.long x0), .second, .val (.int mode), .val (.int d0), .unset, .unset, .unset, .unset, .unset, .unset] [(.long (1000000000000000 : Int64)), (.int (15 : Int32)), (.ref bq1), (.ref bq1)]))
  obtain ⟨clq17, Arq17, qq17, Sq17, Nnq17, Hq17, Gq17⟩ := id Vq16
  have hinq17 : ¬ ((15 : Int32) < 0 ∨ clq17.slots.size ≤ ((15 : Int32)).toNatClampNeg) := inb_of Sq17 ⟨by decide, by decide⟩
  obtain ⟨Tq17, hq17, Xq17, eq17, Wq17, stq17⟩ := stJ Xq16 hx hZ eq16 Arq17 (j := (15 : Int32)) hinq17 (g := (mkF m 107 #[.val (.long x0), .second, .val (.int mode), .val (.int d0), .unset, .unset, .unset, .unset, .unset, .unset] [(.long (1000000000000000 : Int64)), (.int (15 : Int32)), (.ref bq1), (.ref bq1)])) rfl rfl (hb hby at_107)
  have Nq17 := Fr.snoc Xq17 Nq16 (by omega)
  have zq17 := Wq17.size
  have Oq17 := Oq16.wr Wq17 (by omega)
  have Vq17 : Arv Z hq17 bq1 kq1 .long (19 : Int32) [(.long (1 : Int64)), (.long (10 : Int64)), (.long (100 : Int64)), (.long (1000 : Int64)), (.long (10000 : Int64)), (.long (100000 : Int64)), (.long (1000000 : Int64)), (.long (10000000 : Int64)), (.long (100000000 : Int64)), (.long (1000000000 : Int64)), (.long (10000000000 : Int64)), (.long (100000000000 : Int64)), (.long (1000000000000 : Int64)), (.long (10000000000000 : Int64)), (.long (100000000000000 : Int64)), (.long (1000000000000000 : Int64)), (.long (0 : Int64)), (.long (0 : Int64)), (.long (0 : Int64))] (.long (0 : Int64)) := Arv.set Arq17 qq17 Sq17 Nnq17 Hq17 Gq17 rfl Wq17 15 rfl (Nat.le_of_ble_eq_true rfl)
  refine Goes.via stq17 ?_
  show Goes _ _ _ _ _ _ _ _ (Tq17.setTop (mkF m 108 #[.val (.long x0), .second, .val (.int mode), .val (.int d0), .unset, .unset, .unset, .unset, .unset, .unset] [(.ref bq1)]))
  refine Goes.via (fun _ k => XS.dup Xq17.here hx rfl (hb hby at_108) rfl rfl k) ?_
  show Goes _ _ _ _ _ _ _ _ (Tq17.setTop (mkF m 109 #[.val (.long x0), .second, .val (.int mode), .val (.int d0), .unset, .unset, .unset, .unset, .unset, .unset] [(.ref bq1), (.ref bq1)]))
  refine Goes.via (fun _ k => XT.bipushV Xq17.here hx rfl (16 : Int32) (hb hby at_109) (by decide) k) ?_
  show Goes _ _ _ _ _ _ _ _ (Tq17.setTop (mkF m 111 #[.val (.long x0), .second, .val (.int mode), .val (.int d0), .unset, .unset, .unset, .unset, .unset, .unset] [(.int (16 : Int32)), (.ref bq1), (.ref bq1)]))
  refine Goes.via (fun _ k => Xq17.ldc2J hx hown (mvT hZ (W_16 hw)) (g := (mkF m 111 #[.val (.long x0), .second, .val (.int mode), .val (.int d0), .unset, .unset, .unset, .unset, .unset, .unset] [(.int (16 : Int32)), (.ref bq1), (.ref bq1)])) rfl (hb hby at_111) k) ?_
  show Goes _ _ _ _ _ _ _ _ (Tq17.setTop (mkF m 114 #[.val (.long x0), .second, .val (.int mode), .val (.int d0), .unset, .unset, .unset, .unset, .unset, .unset] [(.long (10000000000000000 : Int64)), (.int (16 : Int32)), (.ref bq1), (.ref bq1)]))
  obtain ⟨clq18, Arq18, qq18, Sq18, Nnq18, Hq18, Gq18⟩ := id Vq17
  have hinq18 : ¬ ((16 : Int32) < 0 ∨ clq18.slots.size ≤ ((16 : Int32)).toNatClampNeg) := inb_of Sq18 ⟨by decide, by decide⟩
  obtain ⟨Tq18, hq18, Xq18, eq18, Wq18, stq18⟩ := stJ Xq17 hx hZ eq17 Arq18 (j := (16 : Int32)) hinq18 (g := (mkF m 114 #[.val (.long x0), .second, .val (.int mode), .val (.int d0), .unset, .unset, .unset, .unset, .unset, .unset] [(.long (10000000000000000 : Int64)), (.int (16 : Int32)), (.ref bq1), (.ref bq1)])) rfl rfl (hb hby at_114)
  have Nq18 := Fr.snoc Xq18 Nq17 (by omega)
  have zq18 := Wq18.size
  have Oq18 := Oq17.wr Wq18 (by omega)
  have Vq18 : Arv Z hq18 bq1 kq1 .long (19 : Int32) [(.long (1 : Int64)), (.long (10 : Int64)), (.long (100 : Int64)), (.long (1000 : Int64)), (.long (10000 : Int64)), (.long (100000 : Int64)), (.long (1000000 : Int64)), (.long (10000000 : Int64)), (.long (100000000 : Int64)), (.long (1000000000 : Int64)), (.long (10000000000 : Int64)), (.long (100000000000 : Int64)), (.long (1000000000000 : Int64)), (.long (10000000000000 : Int64)), (.long (100000000000000 : Int64)), (.long (1000000000000000 : Int64)), (.long (10000000000000000 : Int64)), (.long (0 : Int64)), (.long (0 : Int64))] (.long (0 : Int64)) := Arv.set Arq18 qq18 Sq18 Nnq18 Hq18 Gq18 rfl Wq18 16 rfl (Nat.le_of_ble_eq_true rfl)
  refine Goes.via stq18 ?_
  show Goes _ _ _ _ _ _ _ _ (Tq18.setTop (mkF m 115 #[.val (.long x0), .second, .val (.int mode), .val (.int d0), .unset, .unset, .unset, .unset, .unset, .unset] [(.ref bq1)]))
  refine Goes.via (fun _ k => XS.dup Xq18.here hx rfl (hb hby at_115) rfl rfl k) ?_
  show Goes _ _ _ _ _ _ _ _ (Tq18.setTop (mkF m 116 #[.val (.long x0), .second, .val (.int mode), .val (.int d0), .unset, .unset, .unset, .unset, .unset, .unset] [(.ref bq1), (.ref bq1)]))
  refine Goes.via (fun _ k => XT.bipushV Xq18.here hx rfl (17 : Int32) (hb hby at_116) (by decide) k) ?_
  show Goes _ _ _ _ _ _ _ _ (Tq18.setTop (mkF m 118 #[.val (.long x0), .second, .val (.int mode), .val (.int d0), .unset, .unset, .unset, .unset, .unset, .unset] [(.int (17 : Int32)), (.ref bq1), (.ref bq1)]))
  refine Goes.via (fun _ k => Xq18.ldc2J hx hown (mvT hZ (W_17 hw)) (g := (mkF m 118 #[.val (.long x0), .second, .val (.int mode), .val (.int d0), .unset, .unset, .unset, .unset, .unset, .unset] [(.int (17 : Int32)), (.ref bq1), (.ref bq1)])) rfl (hb hby at_118) k) ?_
  show Goes _ _ _ _ _ _ _ _ (Tq18.setTop (mkF m 121 #[.val (.long x0), .second, .val (.int mode), .val (.int d0), .unset, .unset, .unset, .unset, .unset, .unset] [(.long (100000000000000000 : Int64)), (.int (17 : Int32)), (.ref bq1), (.ref bq1)]))
  obtain ⟨clq19, Arq19, qq19, Sq19, Nnq19, Hq19, Gq19⟩ := id Vq18
  have hinq19 : ¬ ((17 : Int32) < 0 ∨ clq19.slots.size ≤ ((17 : Int32)).toNatClampNeg) := inb_of Sq19 ⟨by decide, by decide⟩
  obtain ⟨Tq19, hq19, Xq19, eq19, Wq19, stq19⟩ := stJ Xq18 hx hZ eq18 Arq19 (j := (17 : Int32)) hinq19 (g := (mkF m 121 #[.val (.long x0), .second, .val (.int mode), .val (.int d0), .unset, .unset, .unset, .unset, .unset, .unset] [(.long (100000000000000000 : Int64)), (.int (17 : Int32)), (.ref bq1), (.ref bq1)])) rfl rfl (hb hby at_121)
  have Nq19 := Fr.snoc Xq19 Nq18 (by omega)
  have zq19 := Wq19.size
  have Oq19 := Oq18.wr Wq19 (by omega)
  have Vq19 : Arv Z hq19 bq1 kq1 .long (19 : Int32) [(.long (1 : Int64)), (.long (10 : Int64)), (.long (100 : Int64)), (.long (1000 : Int64)), (.long (10000 : Int64)), (.long (100000 : Int64)), (.long (1000000 : Int64)), (.long (10000000 : Int64)), (.long (100000000 : Int64)), (.long (1000000000 : Int64)), (.long (10000000000 : Int64)), (.long (100000000000 : Int64)), (.long (1000000000000 : Int64)), (.long (10000000000000 : Int64)), (.long (100000000000000 : Int64)), (.long (1000000000000000 : Int64)), (.long (10000000000000000 : Int64)), (.long (100000000000000000 : Int64)), (.long (0 : Int64))] (.long (0 : Int64)) := Arv.set Arq19 qq19 Sq19 Nnq19 Hq19 Gq19 rfl Wq19 17 rfl (Nat.le_of_ble_eq_true rfl)
  refine Goes.via stq19 ?_
  show Goes _ _ _ _ _ _ _ _ (Tq19.setTop (mkF m 122 #[.val (.long x0), .second, .val (.int mode), .val (.int d0), .unset, .unset, .unset, .unset, .unset, .unset] [(.ref bq1)]))
  refine Goes.via (fun _ k => XS.dup Xq19.here hx rfl (hb hby at_122) rfl rfl k) ?_
  show Goes _ _ _ _ _ _ _ _ (Tq19.setTop (mkF m 123 #[.val (.long x0), .second, .val (.int mode), .val (.int d0), .unset, .unset, .unset, .unset, .unset, .unset] [(.ref bq1), (.ref bq1)]))
  refine Goes.via (fun _ k => XT.bipushV Xq19.here hx rfl (18 : Int32) (hb hby at_123) (by decide) k) ?_
  show Goes _ _ _ _ _ _ _ _ (Tq19.setTop (mkF m 125 #[.val (.long x0), .second, .val (.int mode), .val (.int d0), .unset, .unset, .unset, .unset, .unset, .unset] [(.int (18 : Int32)), (.ref bq1), (.ref bq1)]))
  refine Goes.via (fun _ k => Xq19.ldc2J hx hown (mvT hZ (W_18 hw)) (g := (mkF m 125 #[.val (.long x0), .second, .val (.int mode), .val (.int d0), .unset, .unset, .unset, .unset, .unset, .unset] [(.int (18 : Int32)), (.ref bq1), (.ref bq1)])) rfl (hb hby at_125) k) ?_
  show Goes _ _ _ _ _ _ _ _ (Tq19.setTop (mkF m 128 #[.val (.long x0), .second, .val (.int mode), .val (.int d0), .unset, .unset, .unset, .unset, .unset, .unset] [(.long (1000000000000000000 : Int64)), (.int (18 : Int32)), (.ref bq1), (.ref bq1)]))
  obtain ⟨clq20, Arq20, qq20, Sq20, Nnq20, Hq20, Gq20⟩ := id Vq19
  have hinq20 : ¬ ((18 : Int32) < 0 ∨ clq20.slots.size ≤ ((18 : Int32)).toNatClampNeg) := inb_of Sq20 ⟨by decide, by decide⟩
  obtain ⟨Tq20, hq20, Xq20, eq20, Wq20, stq20⟩ := stJ Xq19 hx hZ eq19 Arq20 (j := (18 : Int32)) hinq20 (g := (mkF m 128 #[.val (.long x0), .second, .val (.int mode), .val (.int d0), .unset, .unset, .unset, .unset, .unset, .unset] [(.long (1000000000000000000 : Int64)), (.int (18 : Int32)), (.ref bq1), (.ref bq1)])) rfl rfl (hb hby at_128)
  have Nq20 := Fr.snoc Xq20 Nq19 (by omega)
  have zq20 := Wq20.size
  have Oq20 := Oq19.wr Wq20 (by omega)
  have Vq20 : Arv Z hq20 bq1 kq1 .long (19 : Int32) [(.long (1 : Int64)), (.long (10 : Int64)), (.long (100 : Int64)), (.long (1000 : Int64)), (.long (10000 : Int64)), (.long (100000 : Int64)), (.long (1000000 : Int64)), (.long (10000000 : Int64)), (.long (100000000 : Int64)), (.long (1000000000 : Int64)), (.long (10000000000 : Int64)), (.long (100000000000 : Int64)), (.long (1000000000000 : Int64)), (.long (10000000000000 : Int64)), (.long (100000000000000 : Int64)), (.long (1000000000000000 : Int64)), (.long (10000000000000000 : Int64)), (.long (100000000000000000 : Int64)), (.long (1000000000000000000 : Int64))] (.long (0 : Int64)) := Arv.set Arq20 qq20 Sq20 Nnq20 Hq20 Gq20 rfl Wq20 18 rfl (Nat.le_of_ble_eq_true rfl)
  refine Goes.via stq20 ?_
  show Goes _ _ _ _ _ _ _ _ (Tq20.setTop (mkF m 129 #[.val (.long x0), .second, .val (.int mode), .val (.int d0), .unset, .unset, .unset, .unset, .unset, .unset] [(.ref bq1)]))
  refine Goes.via (fun _ k => XS.astore Xq20.here hx rfl (hb hby at_129) rfl rfl (l' := #[.val (.long x0), .second, .val (.int mode), .val (.int d0), .val (.ref bq1), .unset, .unset, .unset, .unset, .unset]) rfl k) ?_
  show Goes _ _ _ _ _ _ _ _ (Tq20.setTop (mkF m 131 #[.val (.long x0), .second, .val (.int mode), .val (.int d0), .val (.ref bq1), .unset, .unset, .unset, .unset, .unset] []))
  have VP : Arv Z hq20 bq1 kq1 .long (19 : Int32) PW (.long (0 : Int64)) := Vq20
  refine Goes.via (fun _ k => XS.iloadN Xq20.here hx rfl (hb hby at_131) rfl k) ?_
  show Goes _ _ _ _ _ _ _ _ (Tq20.setTop (mkF m 132 #[.val (.long x0), .second, .val (.int mode), .val (.int d0), .val (.ref bq1), .unset, .unset, .unset, .unset, .unset] [(.int mode)]))
  refine Goes.via (fun _ k => XT.iconstV Xq20.here hx rfl (1 : Int32) (hb hby at_132) (by decide) k) ?_
  show Goes _ _ _ _ _ _ _ _ (Tq20.setTop (mkF m 133 #[.val (.long x0), .second, .val (.int mode), .val (.int d0), .val (.ref bq1), .unset, .unset, .unset, .unset, .unset] [(.int (1 : Int32)), (.int mode)]))
  refine Goes.via (fun _ k => XS.iand Xq20.here hx rfl (hb hby at_133) rfl k) ?_
  show Goes _ _ _ _ _ _ _ _ (Tq20.setTop (mkF m 134 #[.val (.long x0), .second, .val (.int mode), .val (.int d0), .val (.ref bq1), .unset, .unset, .unset, .unset, .unset] [(.int (mode &&& (1 : Int32)))]))
  by_cases cq21 : (mode &&& (1 : Int32)) = (0 : Int32)
  · skip
    refine Goes.via (fun _ k => XS.ifYes Xq20.here hx rfl (pc0 := 134) (pc' := 147) rfl (hb hby at_134) rfl (XT.i0_eq_t cq21) (by decide) (by decide) k) ?_
    show Goes _ _ _ _ _ _ _ _ (Tq20.setTop (mkF m 147 #[.val (.long x0), .second, .val (.int mode), .val (.int d0), .val (.ref bq1), .unset, .unset, .unset, .unset, .unset] []))
    refine Goes.via (fun _ k => XS.iloadN Xq20.here hx rfl (hb hby at_147) rfl k) ?_
    show Goes _ _ _ _ _ _ _ _ (Tq20.setTop (mkF m 148 #[.val (.long x0), .second, .val (.int mode), .val (.int d0), .val (.ref bq1), .unset, .unset, .unset, .unset, .unset] [(.int mode)]))
    refine Goes.via (fun _ k => XT.iconstV Xq20.here hx rfl (1 : Int32) (hb hby at_148) (by decide) k) ?_
    show Goes _ _ _ _ _ _ _ _ (Tq20.setTop (mkF m 149 #[.val (.long x0), .second, .val (.int mode), .val (.int d0), .val (.ref bq1), .unset, .unset, .unset, .unset, .unset] [(.int (1 : Int32)), (.int mode)]))
    refine Goes.via (fun _ k => XT.iushr Xq20.here hx rfl (hb hby at_149) rfl k) ?_
    show Goes _ _ _ _ _ _ _ _ (Tq20.setTop (mkF m 150 #[.val (.long x0), .second, .val (.int mode), .val (.int d0), .val (.ref bq1), .unset, .unset, .unset, .unset, .unset] [(.int (XT.ushr mode (1 : Int32)))]))
    refine Goes.via (fun _ k => XT.bipushV Xq20.here hx rfl (19 : Int32) (hb hby at_150) (by decide) k) ?_
    show Goes _ _ _ _ _ _ _ _ (Tq20.setTop (mkF m 152 #[.val (.long x0), .second, .val (.int mode), .val (.int d0), .val (.ref bq1), .unset, .unset, .unset, .unset, .unset] [(.int (19 : Int32)), (.int (XT.ushr mode (1 : Int32)))]))
    exact law_c39 l Z aw hw x0 mode d0 ar k0 bq1 kq1 hx hby hml hrt hlk hnm hZ hown Xq20 eq20 Nq20 (by omega) (by omega) Oq20 S0 V0 VP cq21 (by omega)
  · skip
    refine Goes.via (fun _ k => XS.ifNo Xq20.here hx rfl (hb hby at_134) rfl (XT.i0_eq_f cq21) k) ?_
    show Goes _ _ _ _ _ _ _ _ (Tq20.setTop (mkF m 137 #[.val (.long x0), .second, .val (.int mode), .val (.int d0), .val (.ref bq1), .unset, .unset, .unset, .unset, .unset] []))
    refine Goes.via (fun _ k => XT.lloadN Xq20.here hx rfl (hb hby at_137) rfl k) ?_
    show Goes _ _ _ _ _ _ _ _ (Tq20.setTop (mkF m 138 #[.val (.long x0), .second, .val (.int mode), .val (.int d0), .val (.ref bq1), .unset, .unset, .unset, .unset, .unset] [(.long x0)]))
    refine Goes.via (fun _ k => Xq20.ldc2J hx hown (mvT hZ (W_25 hw)) (g := (mkF m 138 #[.val (.long x0), .second, .val (.int mode), .val (.int d0), .val (.ref bq1), .unset, .unset, .unset, .unset, .unset] [(.long x0)])) rfl (hb hby at_138) k) ?_
    show Goes _ _ _ _ _ _ _ _ (Tq20.setTop (mkF m 141 #[.val (.long x0), .second, .val (.int mode), .val (.int d0), .val (.ref bq1), .unset, .unset, .unset, .unset, .unset] [(.long (9223372036854775807 : Int64)), (.long x0)]))
    refine Goes.via (fun _ k => XT.land Xq20.here hx rfl (hb hby at_141) rfl k) ?_
    show Goes _ _ _ _ _ _ _ _ (Tq20.setTop (mkF m 142 #[.val (.long x0), .second, .val (.int mode), .val (.int d0), .val (.ref bq1), .unset, .unset, .unset, .unset, .unset] [(.long (x0 &&& (9223372036854775807 : Int64)))]))
    refine Goes.via (fun _ k => XT.lstore Xq20.here hx rfl (hb hby at_142) rfl (l' := #[.val (.long x0), .second, .val (.int mode), .val (.int d0), .val (.ref bq1), .val (.long (x0 &&& (9223372036854775807 : Int64))), .second, .unset, .unset, .unset]) rfl k) ?_
    show Goes _ _ _ _ _ _ _ _ (Tq20.setTop (mkF m 144 #[.val (.long x0), .second, .val (.int mode), .val (.int d0), .val (.ref bq1), .val (.long (x0 &&& (9223372036854775807 : Int64))), .second, .unset, .unset, .unset] []))
    exact law_c40 l Z aw hw x0 mode d0 ar k0 bq1 kq1 hx hby hml hrt hlk hnm hZ hown Xq20 eq20 Nq20 (by omega) (by omega) Oq20 S0 V0 VP cq21 (by omega)
set_option maxRecDepth 65536 in
set_option maxHeartbeats 40000000 in
theorem law (l : Launch) (Z : State) (aw : Array Value) (hw : ∀ d ∈ tables_1, d.before aw Z = true) (x0 : Int64) (mode : Int32) (d0 : Int32) (ar : Nat) (k0 : ClassId) {h0 : Heap} {n0 : Nat} (O : Old Z n0 h0) (S0 : Sta Z Z.heap "com/example/primevertical/primevertical/DecimalText" "LONG_POWERS_OF_TEN" "[J" (.ref ar)) (V0 : Arv Z Z.heap ar k0 .long (19 : Int32) PW (.long (0 : Int64))) :
    MET l Z x code maxLocals ret room_1 #[(.long x0), (.int mode), (.int d0)] h0 n0 (fun vv hh => vv = some (.int (1 : Int32))) := by
  refine metOf (plainFor_of_name pn_2) ?_
  intro p e s m below meth c T hx hby hml hrt hlk hnm hZ hown X e0
  replace hml : c.maxLocals = 10 := hml
  replace hnm : meth.name = "law" := hnm
  replace hown : s.vm.findClass "com/example/primevertical/primevertical/DecimalTextDigitCountPinLaw" = some m.cls := hown
  have N := Fr.nil n0
  have zO := O.le
  refine goCast (ef_law m x0 mode d0) ?_
  show Goes _ _ _ _ _ _ _ _ (T.setTop (mkF m 0 #[.val (.long x0), .second, .val (.int mode), .val (.int d0), .unset, .unset, .unset, .unset, .unset, .unset] []))
  refine Goes.via (fun _ k => XT.bipushV X.here hx rfl (19 : Int32) (hb hby at_0) (by decide) k) ?_
  show Goes _ _ _ _ _ _ _ _ (T.setTop (mkF m 2 #[.val (.long x0), .second, .val (.int mode), .val (.int d0), .unset, .unset, .unset, .unset, .unset, .unset] [(.int (19 : Int32))]))
  obtain ⟨Tq1, hq1, kq1, Xq1, eq1, Eq1, Aq1, stq1⟩ := newP (aty := .long) X hx hZ (W_0 hw) e0 (g := (mkF m 2 #[.val (.long x0), .second, .val (.int mode), .val (.int d0), .unset, .unset, .unset, .unset, .unset, .unset] [(.int (19 : Int32))])) rfl (hb hby at_2) rfl (by decide) (cap := 19) (by decide) (by decide) (by decide) (by decide)
  obtain ⟨bq1, gq1⟩ : ∃ z, z = h0.size := ⟨_, rfl⟩
  rw [← gq1] at Aq1 stq1
  have zq1 := Eq1.1
  have Oq1 := O.ext Eq1
  have Vq1 : Arv Z hq1 bq1 kq1 .long (19 : Int32) [(.long (0 : Int64)), (.long (0 : Int64)), (.long (0 : Int64)), (.long (0 : Int64)), (.long (0 : Int64)), (.long (0 : Int64)), (.long (0 : Int64)), (.long (0 : Int64)), (.long (0 : Int64)), (.long (0 : Int64)), (.long (0 : Int64)), (.long (0 : Int64)), (.long (0 : Int64)), (.long (0 : Int64)), (.long (0 : Int64)), (.long (0 : Int64)), (.long (0 : Int64)), (.long (0 : Int64)), (.long (0 : Int64))] (.long (0 : Int64)) := (Arv.new Aq1 (by decide)).pad (pad_rep [] (.long (0 : Int64)) 19)
  have lq1 := lt_nat Vq1.lt
  refine Goes.via stq1 ?_
  show Goes _ _ _ _ _ _ _ _ (Tq1.setTop (mkF m 4 #[.val (.long x0), .second, .val (.int mode), .val (.int d0), .unset, .unset, .unset, .unset, .unset, .unset] [(.ref bq1)]))
  refine Goes.via (fun _ k => XS.dup Xq1.here hx rfl (hb hby at_4) rfl rfl k) ?_
  show Goes _ _ _ _ _ _ _ _ (Tq1.setTop (mkF m 5 #[.val (.long x0), .second, .val (.int mode), .val (.int d0), .unset, .unset, .unset, .unset, .unset, .unset] [(.ref bq1), (.ref bq1)]))
  refine Goes.via (fun _ k => XT.iconstV Xq1.here hx rfl (0 : Int32) (hb hby at_5) (by decide) k) ?_
  show Goes _ _ _ _ _ _ _ _ (Tq1.setTop (mkF m 6 #[.val (.long x0), .second, .val (.int mode), .val (.int d0), .unset, .unset, .unset, .unset, .unset, .unset] [(.int (0 : Int32)), (.ref bq1), (.ref bq1)]))
  refine Goes.via (fun _ k => XT.lconstV Xq1.here hx rfl (1 : Int64) (hb hby at_6) (by decide) k) ?_
  show Goes _ _ _ _ _ _ _ _ (Tq1.setTop (mkF m 7 #[.val (.long x0), .second, .val (.int mode), .val (.int d0), .unset, .unset, .unset, .unset, .unset, .unset] [(.long (1 : Int64)), (.int (0 : Int32)), (.ref bq1), (.ref bq1)]))
  obtain ⟨clq2, Arq2, qq2, Sq2, Nnq2, Hq2, Gq2⟩ := id Vq1
  have hinq2 : ¬ ((0 : Int32) < 0 ∨ clq2.slots.size ≤ ((0 : Int32)).toNatClampNeg) := inb_of Sq2 ⟨by decide, by decide⟩
  obtain ⟨Tq2, hq2, Xq2, eq2, Wq2, stq2⟩ := stJ Xq1 hx hZ eq1 Arq2 (j := (0 : Int32)) hinq2 (g := (mkF m 7 #[.val (.long x0), .second, .val (.int mode), .val (.int d0), .unset, .unset, .unset, .unset, .unset, .unset] [(.long (1 : Int64)), (.int (0 : Int32)), (.ref bq1), (.ref bq1)])) rfl rfl (hb hby at_7)
  have Nq2 := Fr.snoc Xq2 N (by omega)
  have zq2 := Wq2.size
  have Oq2 := Oq1.wr Wq2 (by omega)
  have Vq2 : Arv Z hq2 bq1 kq1 .long (19 : Int32) [(.long (1 : Int64)), (.long (0 : Int64)), (.long (0 : Int64)), (.long (0 : Int64)), (.long (0 : Int64)), (.long (0 : Int64)), (.long (0 : Int64)), (.long (0 : Int64)), (.long (0 : Int64)), (.long (0 : Int64)), (.long (0 : Int64)), (.long (0 : Int64)), (.long (0 : Int64)), (.long (0 : Int64)), (.long (0 : Int64)), (.long (0 : Int64)), (.long (0 : Int64)), (.long (0 : Int64)), (.long (0 : Int64))] (.long (0 : Int64)) := Arv.set Arq2 qq2 Sq2 Nnq2 Hq2 Gq2 rfl Wq2 0 rfl (Nat.le_of_ble_eq_true rfl)
  refine Goes.via stq2 ?_
  show Goes _ _ _ _ _ _ _ _ (Tq2.setTop (mkF m 8 #[.val (.long x0), .second, .val (.int mode), .val (.int d0), .unset, .unset, .unset, .unset, .unset, .unset] [(.ref bq1)]))
  refine Goes.via (fun _ k => XS.dup Xq2.here hx rfl (hb hby at_8) rfl rfl k) ?_
  show Goes _ _ _ _ _ _ _ _ (Tq2.setTop (mkF m 9 #[.val (.long x0), .second, .val (.int mode), .val (.int d0), .unset, .unset, .unset, .unset, .unset, .unset] [(.ref bq1), (.ref bq1)]))
  refine Goes.via (fun _ k => XT.iconstV Xq2.here hx rfl (1 : Int32) (hb hby at_9) (by decide) k) ?_
  show Goes _ _ _ _ _ _ _ _ (Tq2.setTop (mkF m 10 #[.val (.long x0), .second, .val (.int mode), .val (.int d0), .unset, .unset, .unset, .unset, .unset, .unset] [(.int (1 : Int32)), (.ref bq1), (.ref bq1)]))
  refine Goes.via (fun _ k => Xq2.ldc2J hx hown (mvT hZ (W_1 hw)) (g := (mkF m 10 #[.val (.long x0), .second, .val (.int mode), .val (.int d0), .unset, .unset, .unset, .unset, .unset, .unset] [(.int (1 : Int32)), (.ref bq1), (.ref bq1)])) rfl (hb hby at_10) k) ?_
  show Goes _ _ _ _ _ _ _ _ (Tq2.setTop (mkF m 13 #[.val (.long x0), .second, .val (.int mode), .val (.int d0), .unset, .unset, .unset, .unset, .unset, .unset] [(.long (10 : Int64)), (.int (1 : Int32)), (.ref bq1), (.ref bq1)]))
  obtain ⟨clq3, Arq3, qq3, Sq3, Nnq3, Hq3, Gq3⟩ := id Vq2
  have hinq3 : ¬ ((1 : Int32) < 0 ∨ clq3.slots.size ≤ ((1 : Int32)).toNatClampNeg) := inb_of Sq3 ⟨by decide, by decide⟩
  obtain ⟨Tq3, hq3, Xq3, eq3, Wq3, stq3⟩ := stJ Xq2 hx hZ eq2 Arq3 (j := (1 : Int32)) hinq3 (g := (mkF m 13 #[.val (.long x0), .second, .val (.int mode), .val (.int d0), .unset, .unset, .unset, .unset, .unset, .unset] [(.long (10 : Int64)), (.int (1 : Int32)), (.ref bq1), (.ref bq1)])) rfl rfl (hb hby at_13)
  have Nq3 := Fr.snoc Xq3 Nq2 (by omega)
  have zq3 := Wq3.size
  have Oq3 := Oq2.wr Wq3 (by omega)
  have Vq3 : Arv Z hq3 bq1 kq1 .long (19 : Int32) [(.long (1 : Int64)), (.long (10 : Int64)), (.long (0 : Int64)), (.long (0 : Int64)), (.long (0 : Int64)), (.long (0 : Int64)), (.long (0 : Int64)), (.long (0 : Int64)), (.long (0 : Int64)), (.long (0 : Int64)), (.long (0 : Int64)), (.long (0 : Int64)), (.long (0 : Int64)), (.long (0 : Int64)), (.long (0 : Int64)), (.long (0 : Int64)), (.long (0 : Int64)), (.long (0 : Int64)), (.long (0 : Int64))] (.long (0 : Int64)) := Arv.set Arq3 qq3 Sq3 Nnq3 Hq3 Gq3 rfl Wq3 1 rfl (Nat.le_of_ble_eq_true rfl)
  refine Goes.via stq3 ?_
  show Goes _ _ _ _ _ _ _ _ (Tq3.setTop (mkF m 14 #[.val (.long x0), .second, .val (.int mode), .val (.int d0), .unset, .unset, .unset, .unset, .unset, .unset] [(.ref bq1)]))
  refine Goes.via (fun _ k => XS.dup Xq3.here hx rfl (hb hby at_14) rfl rfl k) ?_
  show Goes _ _ _ _ _ _ _ _ (Tq3.setTop (mkF m 15 #[.val (.long x0), .second, .val (.int mode), .val (.int d0), .unset, .unset, .unset, .unset, .unset, .unset] [(.ref bq1), (.ref bq1)]))
  refine Goes.via (fun _ k => XT.iconstV Xq3.here hx rfl (2 : Int32) (hb hby at_15) (by decide) k) ?_
  show Goes _ _ _ _ _ _ _ _ (Tq3.setTop (mkF m 16 #[.val (.long x0), .second, .val (.int mode), .val (.int d0), .unset, .unset, .unset, .unset, .unset, .unset] [(.int (2 : Int32)), (.ref bq1), (.ref bq1)]))
  refine Goes.via (fun _ k => Xq3.ldc2J hx hown (mvT hZ (W_2 hw)) (g := (mkF m 16 #[.val (.long x0), .second, .val (.int mode), .val (.int d0), .unset, .unset, .unset, .unset, .unset, .unset] [(.int (2 : Int32)), (.ref bq1), (.ref bq1)])) rfl (hb hby at_16) k) ?_
  show Goes _ _ _ _ _ _ _ _ (Tq3.setTop (mkF m 19 #[.val (.long x0), .second, .val (.int mode), .val (.int d0), .unset, .unset, .unset, .unset, .unset, .unset] [(.long (100 : Int64)), (.int (2 : Int32)), (.ref bq1), (.ref bq1)]))
  obtain ⟨clq4, Arq4, qq4, Sq4, Nnq4, Hq4, Gq4⟩ := id Vq3
  have hinq4 : ¬ ((2 : Int32) < 0 ∨ clq4.slots.size ≤ ((2 : Int32)).toNatClampNeg) := inb_of Sq4 ⟨by decide, by decide⟩
  obtain ⟨Tq4, hq4, Xq4, eq4, Wq4, stq4⟩ := stJ Xq3 hx hZ eq3 Arq4 (j := (2 : Int32)) hinq4 (g := (mkF m 19 #[.val (.long x0), .second, .val (.int mode), .val (.int d0), .unset, .unset, .unset, .unset, .unset, .unset] [(.long (100 : Int64)), (.int (2 : Int32)), (.ref bq1), (.ref bq1)])) rfl rfl (hb hby at_19)
  have Nq4 := Fr.snoc Xq4 Nq3 (by omega)
  have zq4 := Wq4.size
  have Oq4 := Oq3.wr Wq4 (by omega)
  have Vq4 : Arv Z hq4 bq1 kq1 .long (19 : Int32) [(.long (1 : Int64)), (.long (10 : Int64)), (.long (100 : Int64)), (.long (0 : Int64)), (.long (0 : Int64)), (.long (0 : Int64)), (.long (0 : Int64)), (.long (0 : Int64)), (.long (0 : Int64)), (.long (0 : Int64)), (.long (0 : Int64)), (.long (0 : Int64)), (.long (0 : Int64)), (.long (0 : Int64)), (.long (0 : Int64)), (.long (0 : Int64)), (.long (0 : Int64)), (.long (0 : Int64)), (.long (0 : Int64))] (.long (0 : Int64)) := Arv.set Arq4 qq4 Sq4 Nnq4 Hq4 Gq4 rfl Wq4 2 rfl (Nat.le_of_ble_eq_true rfl)
  refine Goes.via stq4 ?_
  show Goes _ _ _ _ _ _ _ _ (Tq4.setTop (mkF m 20 #[.val (.long x0), .second, .val (.int mode), .val (.int d0), .unset, .unset, .unset, .unset, .unset, .unset] [(.ref bq1)]))
  refine Goes.via (fun _ k => XS.dup Xq4.here hx rfl (hb hby at_20) rfl rfl k) ?_
  show Goes _ _ _ _ _ _ _ _ (Tq4.setTop (mkF m 21 #[.val (.long x0), .second, .val (.int mode), .val (.int d0), .unset, .unset, .unset, .unset, .unset, .unset] [(.ref bq1), (.ref bq1)]))
  refine Goes.via (fun _ k => XT.iconstV Xq4.here hx rfl (3 : Int32) (hb hby at_21) (by decide) k) ?_
  show Goes _ _ _ _ _ _ _ _ (Tq4.setTop (mkF m 22 #[.val (.long x0), .second, .val (.int mode), .val (.int d0), .unset, .unset, .unset, .unset, .unset, .unset] [(.int (3 : Int32)), (.ref bq1), (.ref bq1)]))
  refine Goes.via (fun _ k => Xq4.ldc2J hx hown (mvT hZ (W_3 hw)) (g := (mkF m 22 #[.val (.long x0), .second, .val (.int mode), .val (.int d0), .unset, .unset, .unset, .unset, .unset, .unset] [(.int (3 : Int32)), (.ref bq1), (.ref bq1)])) rfl (hb hby at_22) k) ?_
  show Goes _ _ _ _ _ _ _ _ (Tq4.setTop (mkF m 25 #[.val (.long x0), .second, .val (.int mode), .val (.int d0), .unset, .unset, .unset, .unset, .unset, .unset] [(.long (1000 : Int64)), (.int (3 : Int32)), (.ref bq1), (.ref bq1)]))
  obtain ⟨clq5, Arq5, qq5, Sq5, Nnq5, Hq5, Gq5⟩ := id Vq4
  have hinq5 : ¬ ((3 : Int32) < 0 ∨ clq5.slots.size ≤ ((3 : Int32)).toNatClampNeg) := inb_of Sq5 ⟨by decide, by decide⟩
  obtain ⟨Tq5, hq5, Xq5, eq5, Wq5, stq5⟩ := stJ Xq4 hx hZ eq4 Arq5 (j := (3 : Int32)) hinq5 (g := (mkF m 25 #[.val (.long x0), .second, .val (.int mode), .val (.int d0), .unset, .unset, .unset, .unset, .unset, .unset] [(.long (1000 : Int64)), (.int (3 : Int32)), (.ref bq1), (.ref bq1)])) rfl rfl (hb hby at_25)
  have Nq5 := Fr.snoc Xq5 Nq4 (by omega)
  have zq5 := Wq5.size
  have Oq5 := Oq4.wr Wq5 (by omega)
  have Vq5 : Arv Z hq5 bq1 kq1 .long (19 : Int32) [(.long (1 : Int64)), (.long (10 : Int64)), (.long (100 : Int64)), (.long (1000 : Int64)), (.long (0 : Int64)), (.long (0 : Int64)), (.long (0 : Int64)), (.long (0 : Int64)), (.long (0 : Int64)), (.long (0 : Int64)), (.long (0 : Int64)), (.long (0 : Int64)), (.long (0 : Int64)), (.long (0 : Int64)), (.long (0 : Int64)), (.long (0 : Int64)), (.long (0 : Int64)), (.long (0 : Int64)), (.long (0 : Int64))] (.long (0 : Int64)) := Arv.set Arq5 qq5 Sq5 Nnq5 Hq5 Gq5 rfl Wq5 3 rfl (Nat.le_of_ble_eq_true rfl)
  refine Goes.via stq5 ?_
  show Goes _ _ _ _ _ _ _ _ (Tq5.setTop (mkF m 26 #[.val (.long x0), .second, .val (.int mode), .val (.int d0), .unset, .unset, .unset, .unset, .unset, .unset] [(.ref bq1)]))
  refine Goes.via (fun _ k => XS.dup Xq5.here hx rfl (hb hby at_26) rfl rfl k) ?_
  show Goes _ _ _ _ _ _ _ _ (Tq5.setTop (mkF m 27 #[.val (.long x0), .second, .val (.int mode), .val (.int d0), .unset, .unset, .unset, .unset, .unset, .unset] [(.ref bq1), (.ref bq1)]))
  refine Goes.via (fun _ k => XT.iconstV Xq5.here hx rfl (4 : Int32) (hb hby at_27) (by decide) k) ?_
  show Goes _ _ _ _ _ _ _ _ (Tq5.setTop (mkF m 28 #[.val (.long x0), .second, .val (.int mode), .val (.int d0), .unset, .unset, .unset, .unset, .unset, .unset] [(.int (4 : Int32)), (.ref bq1), (.ref bq1)]))
  refine Goes.via (fun _ k => Xq5.ldc2J hx hown (mvT hZ (W_4 hw)) (g := (mkF m 28 #[.val (.long x0), .second, .val (.int mode), .val (.int d0), .unset, .unset, .unset, .unset, .unset, .unset] [(.int (4 : Int32)), (.ref bq1), (.ref bq1)])) rfl (hb hby at_28) k) ?_
  show Goes _ _ _ _ _ _ _ _ (Tq5.setTop (mkF m 31 #[.val (.long x0), .second, .val (.int mode), .val (.int d0), .unset, .unset, .unset, .unset, .unset, .unset] [(.long (10000 : Int64)), (.int (4 : Int32)), (.ref bq1), (.ref bq1)]))
  obtain ⟨clq6, Arq6, qq6, Sq6, Nnq6, Hq6, Gq6⟩ := id Vq5
  have hinq6 : ¬ ((4 : Int32) < 0 ∨ clq6.slots.size ≤ ((4 : Int32)).toNatClampNeg) := inb_of Sq6 ⟨by decide, by decide⟩
  obtain ⟨Tq6, hq6, Xq6, eq6, Wq6, stq6⟩ := stJ Xq5 hx hZ eq5 Arq6 (j := (4 : Int32)) hinq6 (g := (mkF m 31 #[.val (.long x0), .second, .val (.int mode), .val (.int d0), .unset, .unset, .unset, .unset, .unset, .unset] [(.long (10000 : Int64)), (.int (4 : Int32)), (.ref bq1), (.ref bq1)])) rfl rfl (hb hby at_31)
  have Nq6 := Fr.snoc Xq6 Nq5 (by omega)
  have zq6 := Wq6.size
  have Oq6 := Oq5.wr Wq6 (by omega)
  have Vq6 : Arv Z hq6 bq1 kq1 .long (19 : Int32) [(.long (1 : Int64)), (.long (10 : Int64)), (.long (100 : Int64)), (.long (1000 : Int64)), (.long (10000 : Int64)), (.long (0 : Int64)), (.long (0 : Int64)), (.long (0 : Int64)), (.long (0 : Int64)), (.long (0 : Int64)), (.long (0 : Int64)), (.long (0 : Int64)), (.long (0 : Int64)), (.long (0 : Int64)), (.long (0 : Int64)), (.long (0 : Int64)), (.long (0 : Int64)), (.long (0 : Int64)), (.long (0 : Int64))] (.long (0 : Int64)) := Arv.set Arq6 qq6 Sq6 Nnq6 Hq6 Gq6 rfl Wq6 4 rfl (Nat.le_of_ble_eq_true rfl)
  refine Goes.via stq6 ?_
  show Goes _ _ _ _ _ _ _ _ (Tq6.setTop (mkF m 32 #[.val (.long x0), .second, .val (.int mode), .val (.int d0), .unset, .unset, .unset, .unset, .unset, .unset] [(.ref bq1)]))
  refine Goes.via (fun _ k => XS.dup Xq6.here hx rfl (hb hby at_32) rfl rfl k) ?_
  show Goes _ _ _ _ _ _ _ _ (Tq6.setTop (mkF m 33 #[.val (.long x0), .second, .val (.int mode), .val (.int d0), .unset, .unset, .unset, .unset, .unset, .unset] [(.ref bq1), (.ref bq1)]))
  refine Goes.via (fun _ k => XT.iconstV Xq6.here hx rfl (5 : Int32) (hb hby at_33) (by decide) k) ?_
  show Goes _ _ _ _ _ _ _ _ (Tq6.setTop (mkF m 34 #[.val (.long x0), .second, .val (.int mode), .val (.int d0), .unset, .unset, .unset, .unset, .unset, .unset] [(.int (5 : Int32)), (.ref bq1), (.ref bq1)]))
  refine Goes.via (fun _ k => Xq6.ldc2J hx hown (mvT hZ (W_5 hw)) (g := (mkF m 34 #[.val (.long x0), .second, .val (.int mode), .val (.int d0), .unset, .unset, .unset, .unset, .unset, .unset] [(.int (5 : Int32)), (.ref bq1), (.ref bq1)])) rfl (hb hby at_34) k) ?_
  show Goes _ _ _ _ _ _ _ _ (Tq6.setTop (mkF m 37 #[.val (.long x0), .second, .val (.int mode), .val (.int d0), .unset, .unset, .unset, .unset, .unset, .unset] [(.long (100000 : Int64)), (.int (5 : Int32)), (.ref bq1), (.ref bq1)]))
  obtain ⟨clq7, Arq7, qq7, Sq7, Nnq7, Hq7, Gq7⟩ := id Vq6
  have hinq7 : ¬ ((5 : Int32) < 0 ∨ clq7.slots.size ≤ ((5 : Int32)).toNatClampNeg) := inb_of Sq7 ⟨by decide, by decide⟩
  obtain ⟨Tq7, hq7, Xq7, eq7, Wq7, stq7⟩ := stJ Xq6 hx hZ eq6 Arq7 (j := (5 : Int32)) hinq7 (g := (mkF m 37 #[.val (.long x0), .second, .val (.int mode), .val (.int d0), .unset, .unset, .unset, .unset, .unset, .unset] [(.long (100000 : Int64)), (.int (5 : Int32)), (.ref bq1), (.ref bq1)])) rfl rfl (hb hby at_37)
  have Nq7 := Fr.snoc Xq7 Nq6 (by omega)
  have zq7 := Wq7.size
  have Oq7 := Oq6.wr Wq7 (by omega)
  have Vq7 : Arv Z hq7 bq1 kq1 .long (19 : Int32) [(.long (1 : Int64)), (.long (10 : Int64)), (.long (100 : Int64)), (.long (1000 : Int64)), (.long (10000 : Int64)), (.long (100000 : Int64)), (.long (0 : Int64)), (.long (0 : Int64)), (.long (0 : Int64)), (.long (0 : Int64)), (.long (0 : Int64)), (.long (0 : Int64)), (.long (0 : Int64)), (.long (0 : Int64)), (.long (0 : Int64)), (.long (0 : Int64)), (.long (0 : Int64)), (.long (0 : Int64)), (.long (0 : Int64))] (.long (0 : Int64)) := Arv.set Arq7 qq7 Sq7 Nnq7 Hq7 Gq7 rfl Wq7 5 rfl (Nat.le_of_ble_eq_true rfl)
  refine Goes.via stq7 ?_
  show Goes _ _ _ _ _ _ _ _ (Tq7.setTop (mkF m 38 #[.val (.long x0), .second, .val (.int mode), .val (.int d0), .unset, .unset, .unset, .unset, .unset, .unset] [(.ref bq1)]))
  refine Goes.via (fun _ k => XS.dup Xq7.here hx rfl (hb hby at_38) rfl rfl k) ?_
  show Goes _ _ _ _ _ _ _ _ (Tq7.setTop (mkF m 39 #[.val (.long x0), .second, .val (.int mode), .val (.int d0), .unset, .unset, .unset, .unset, .unset, .unset] [(.ref bq1), (.ref bq1)]))
  refine Goes.via (fun _ k => XT.bipushV Xq7.here hx rfl (6 : Int32) (hb hby at_39) (by decide) k) ?_
  show Goes _ _ _ _ _ _ _ _ (Tq7.setTop (mkF m 41 #[.val (.long x0), .second, .val (.int mode), .val (.int d0), .unset, .unset, .unset, .unset, .unset, .unset] [(.int (6 : Int32)), (.ref bq1), (.ref bq1)]))
  refine Goes.via (fun _ k => Xq7.ldc2J hx hown (mvT hZ (W_6 hw)) (g := (mkF m 41 #[.val (.long x0), .second, .val (.int mode), .val (.int d0), .unset, .unset, .unset, .unset, .unset, .unset] [(.int (6 : Int32)), (.ref bq1), (.ref bq1)])) rfl (hb hby at_41) k) ?_
  show Goes _ _ _ _ _ _ _ _ (Tq7.setTop (mkF m 44 #[.val (.long x0), .second, .val (.int mode), .val (.int d0), .unset, .unset, .unset, .unset, .unset, .unset] [(.long (1000000 : Int64)), (.int (6 : Int32)), (.ref bq1), (.ref bq1)]))
  obtain ⟨clq8, Arq8, qq8, Sq8, Nnq8, Hq8, Gq8⟩ := id Vq7
  have hinq8 : ¬ ((6 : Int32) < 0 ∨ clq8.slots.size ≤ ((6 : Int32)).toNatClampNeg) := inb_of Sq8 ⟨by decide, by decide⟩
  obtain ⟨Tq8, hq8, Xq8, eq8, Wq8, stq8⟩ := stJ Xq7 hx hZ eq7 Arq8 (j := (6 : Int32)) hinq8 (g := (mkF m 44 #[.val (.long x0), .second, .val (.int mode), .val (.int d0), .unset, .unset, .unset, .unset, .unset, .unset] [(.long (1000000 : Int64)), (.int (6 : Int32)), (.ref bq1), (.ref bq1)])) rfl rfl (hb hby at_44)
  have Nq8 := Fr.snoc Xq8 Nq7 (by omega)
  have zq8 := Wq8.size
  have Oq8 := Oq7.wr Wq8 (by omega)
  have Vq8 : Arv Z hq8 bq1 kq1 .long (19 : Int32) [(.long (1 : Int64)), (.long (10 : Int64)), (.long (100 : Int64)), (.long (1000 : Int64)), (.long (10000 : Int64)), (.long (100000 : Int64)), (.long (1000000 : Int64)), (.long (0 : Int64)), (.long (0 : Int64)), (.long (0 : Int64)), (.long (0 : Int64)), (.long (0 : Int64)), (.long (0 : Int64)), (.long (0 : Int64)), (.long (0 : Int64)), (.long (0 : Int64)), (.long (0 : Int64)), (.long (0 : Int64)), (.long (0 : Int64))] (.long (0 : Int64)) := Arv.set Arq8 qq8 Sq8 Nnq8 Hq8 Gq8 rfl Wq8 6 rfl (Nat.le_of_ble_eq_true rfl)
  refine Goes.via stq8 ?_
  show Goes _ _ _ _ _ _ _ _ (Tq8.setTop (mkF m 45 #[.val (.long x0), .second, .val (.int mode), .val (.int d0), .unset, .unset, .unset, .unset, .unset, .unset] [(.ref bq1)]))
  refine Goes.via (fun _ k => XS.dup Xq8.here hx rfl (hb hby at_45) rfl rfl k) ?_
  show Goes _ _ _ _ _ _ _ _ (Tq8.setTop (mkF m 46 #[.val (.long x0), .second, .val (.int mode), .val (.int d0), .unset, .unset, .unset, .unset, .unset, .unset] [(.ref bq1), (.ref bq1)]))
  refine Goes.via (fun _ k => XT.bipushV Xq8.here hx rfl (7 : Int32) (hb hby at_46) (by decide) k) ?_
  show Goes _ _ _ _ _ _ _ _ (Tq8.setTop (mkF m 48 #[.val (.long x0), .second, .val (.int mode), .val (.int d0), .unset, .unset, .unset, .unset, .unset, .unset] [(.int (7 : Int32)), (.ref bq1), (.ref bq1)]))
  refine Goes.via (fun _ k => Xq8.ldc2J hx hown (mvT hZ (W_7 hw)) (g := (mkF m 48 #[.val (.long x0), .second, .val (.int mode), .val (.int d0), .unset, .unset, .unset, .unset, .unset, .unset] [(.int (7 : Int32)), (.ref bq1), (.ref bq1)])) rfl (hb hby at_48) k) ?_
  show Goes _ _ _ _ _ _ _ _ (Tq8.setTop (mkF m 51 #[.val (.long x0), .second, .val (.int mode), .val (.int d0), .unset, .unset, .unset, .unset, .unset, .unset] [(.long (10000000 : Int64)), (.int (7 : Int32)), (.ref bq1), (.ref bq1)]))
  obtain ⟨clq9, Arq9, qq9, Sq9, Nnq9, Hq9, Gq9⟩ := id Vq8
  have hinq9 : ¬ ((7 : Int32) < 0 ∨ clq9.slots.size ≤ ((7 : Int32)).toNatClampNeg) := inb_of Sq9 ⟨by decide, by decide⟩
  obtain ⟨Tq9, hq9, Xq9, eq9, Wq9, stq9⟩ := stJ Xq8 hx hZ eq8 Arq9 (j := (7 : Int32)) hinq9 (g := (mkF m 51 #[.val (.long x0), .second, .val (.int mode), .val (.int d0), .unset, .unset, .unset, .unset, .unset, .unset] [(.long (10000000 : Int64)), (.int (7 : Int32)), (.ref bq1), (.ref bq1)])) rfl rfl (hb hby at_51)
  have Nq9 := Fr.snoc Xq9 Nq8 (by omega)
  have zq9 := Wq9.size
  have Oq9 := Oq8.wr Wq9 (by omega)
  have Vq9 : Arv Z hq9 bq1 kq1 .long (19 : Int32) [(.long (1 : Int64)), (.long (10 : Int64)), (.long (100 : Int64)), (.long (1000 : Int64)), (.long (10000 : Int64)), (.long (100000 : Int64)), (.long (1000000 : Int64)), (.long (10000000 : Int64)), (.long (0 : Int64)), (.long (0 : Int64)), (.long (0 : Int64)), (.long (0 : Int64)), (.long (0 : Int64)), (.long (0 : Int64)), (.long (0 : Int64)), (.long (0 : Int64)), (.long (0 : Int64)), (.long (0 : Int64)), (.long (0 : Int64))] (.long (0 : Int64)) := Arv.set Arq9 qq9 Sq9 Nnq9 Hq9 Gq9 rfl Wq9 7 rfl (Nat.le_of_ble_eq_true rfl)
  refine Goes.via stq9 ?_
  show Goes _ _ _ _ _ _ _ _ (Tq9.setTop (mkF m 52 #[.val (.long x0), .second, .val (.int mode), .val (.int d0), .unset, .unset, .unset, .unset, .unset, .unset] [(.ref bq1)]))
  refine Goes.via (fun _ k => XS.dup Xq9.here hx rfl (hb hby at_52) rfl rfl k) ?_
  show Goes _ _ _ _ _ _ _ _ (Tq9.setTop (mkF m 53 #[.val (.long x0), .second, .val (.int mode), .val (.int d0), .unset, .unset, .unset, .unset, .unset, .unset] [(.ref bq1), (.ref bq1)]))
  refine Goes.via (fun _ k => XT.bipushV Xq9.here hx rfl (8 : Int32) (hb hby at_53) (by decide) k) ?_
  show Goes _ _ _ _ _ _ _ _ (Tq9.setTop (mkF m 55 #[.val (.long x0), .second, .val (.int mode), .val (.int d0), .unset, .unset, .unset, .unset, .unset, .unset] [(.int (8 : Int32)), (.ref bq1), (.ref bq1)]))
  refine Goes.via (fun _ k => Xq9.ldc2J hx hown (mvT hZ (W_8 hw)) (g := (mkF m 55 #[.val (.long x0), .second, .val (.int mode), .val (.int d0), .unset, .unset, .unset, .unset, .unset, .unset] [(.int (8 : Int32)), (.ref bq1), (.ref bq1)])) rfl (hb hby at_55) k) ?_
  show Goes _ _ _ _ _ _ _ _ (Tq9.setTop (mkF m 58 #[.val (.long x0), .second, .val (.int mode), .val (.int d0), .unset, .unset, .unset, .unset, .unset, .unset] [(.long (100000000 : Int64)), (.int (8 : Int32)), (.ref bq1), (.ref bq1)]))
  obtain ⟨clq10, Arq10, qq10, Sq10, Nnq10, Hq10, Gq10⟩ := id Vq9
  have hinq10 : ¬ ((8 : Int32) < 0 ∨ clq10.slots.size ≤ ((8 : Int32)).toNatClampNeg) := inb_of Sq10 ⟨by decide, by decide⟩
  obtain ⟨Tq10, hq10, Xq10, eq10, Wq10, stq10⟩ := stJ Xq9 hx hZ eq9 Arq10 (j := (8 : Int32)) hinq10 (g := (mkF m 58 #[.val (.long x0), .second, .val (.int mode), .val (.int d0), .unset, .unset, .unset, .unset, .unset, .unset] [(.long (100000000 : Int64)), (.int (8 : Int32)), (.ref bq1), (.ref bq1)])) rfl rfl (hb hby at_58)
  have Nq10 := Fr.snoc Xq10 Nq9 (by omega)
  have zq10 := Wq10.size
  have Oq10 := Oq9.wr Wq10 (by omega)
  have Vq10 : Arv Z hq10 bq1 kq1 .long (19 : Int32) [(.long (1 : Int64)), (.long (10 : Int64)), (.long (100 : Int64)), (.long (1000 : Int64)), (.long (10000 : Int64)), (.long (100000 : Int64)), (.long (1000000 : Int64)), (.long (10000000 : Int64)), (.long (100000000 : Int64)), (.long (0 : Int64)), (.long (0 : Int64)), (.long (0 : Int64)), (.long (0 : Int64)), (.long (0 : Int64)), (.long (0 : Int64)), (.long (0 : Int64)), (.long (0 : Int64)), (.long (0 : Int64)), (.long (0 : Int64))] (.long (0 : Int64)) := Arv.set Arq10 qq10 Sq10 Nnq10 Hq10 Gq10 rfl Wq10 8 rfl (Nat.le_of_ble_eq_true rfl)
  refine Goes.via stq10 ?_
  show Goes _ _ _ _ _ _ _ _ (Tq10.setTop (mkF m 59 #[.val (.long x0), .second, .val (.int mode), .val (.int d0), .unset, .unset, .unset, .unset, .unset, .unset] [(.ref bq1)]))
  refine Goes.via (fun _ k => XS.dup Xq10.here hx rfl (hb hby at_59) rfl rfl k) ?_
  show Goes _ _ _ _ _ _ _ _ (Tq10.setTop (mkF m 60 #[.val (.long x0), .second, .val (.int mode), .val (.int d0), .unset, .unset, .unset, .unset, .unset, .unset] [(.ref bq1), (.ref bq1)]))
  refine Goes.via (fun _ k => XT.bipushV Xq10.here hx rfl (9 : Int32) (hb hby at_60) (by decide) k) ?_
  show Goes _ _ _ _ _ _ _ _ (Tq10.setTop (mkF m 62 #[.val (.long x0), .second, .val (.int mode), .val (.int d0), .unset, .unset, .unset, .unset, .unset, .unset] [(.int (9 : Int32)), (.ref bq1), (.ref bq1)]))
  refine Goes.via (fun _ k => Xq10.ldc2J hx hown (mvT hZ (W_9 hw)) (g := (mkF m 62 #[.val (.long x0), .second, .val (.int mode), .val (.int d0), .unset, .unset, .unset, .unset, .unset, .unset] [(.int (9 : Int32)), (.ref bq1), (.ref bq1)])) rfl (hb hby at_62) k) ?_
  show Goes _ _ _ _ _ _ _ _ (Tq10.setTop (mkF m 65 #[.val (.long x0), .second, .val (.int mode), .val (.int d0), .unset, .unset, .unset, .unset, .unset, .unset] [(.long (1000000000 : Int64)), (.int (9 : Int32)), (.ref bq1), (.ref bq1)]))
  obtain ⟨clq11, Arq11, qq11, Sq11, Nnq11, Hq11, Gq11⟩ := id Vq10
  have hinq11 : ¬ ((9 : Int32) < 0 ∨ clq11.slots.size ≤ ((9 : Int32)).toNatClampNeg) := inb_of Sq11 ⟨by decide, by decide⟩
  obtain ⟨Tq11, hq11, Xq11, eq11, Wq11, stq11⟩ := stJ Xq10 hx hZ eq10 Arq11 (j := (9 : Int32)) hinq11 (g := (mkF m 65 #[.val (.long x0), .second, .val (.int mode), .val (.int d0), .unset, .unset, .unset, .unset, .unset, .unset] [(.long (1000000000 : Int64)), (.int (9 : Int32)), (.ref bq1), (.ref bq1)])) rfl rfl (hb hby at_65)
  have Nq11 := Fr.snoc Xq11 Nq10 (by omega)
  have zq11 := Wq11.size
  have Oq11 := Oq10.wr Wq11 (by omega)
  have Vq11 : Arv Z hq11 bq1 kq1 .long (19 : Int32) [(.long (1 : Int64)), (.long (10 : Int64)), (.long (100 : Int64)), (.long (1000 : Int64)), (.long (10000 : Int64)), (.long (100000 : Int64)), (.long (1000000 : Int64)), (.long (10000000 : Int64)), (.long (100000000 : Int64)), (.long (1000000000 : Int64)), (.long (0 : Int64)), (.long (0 : Int64)), (.long (0 : Int64)), (.long (0 : Int64)), (.long (0 : Int64)), (.long (0 : Int64)), (.long (0 : Int64)), (.long (0 : Int64)), (.long (0 : Int64))] (.long (0 : Int64)) := Arv.set Arq11 qq11 Sq11 Nnq11 Hq11 Gq11 rfl Wq11 9 rfl (Nat.le_of_ble_eq_true rfl)
  refine Goes.via stq11 ?_
  show Goes _ _ _ _ _ _ _ _ (Tq11.setTop (mkF m 66 #[.val (.long x0), .second, .val (.int mode), .val (.int d0), .unset, .unset, .unset, .unset, .unset, .unset] [(.ref bq1)]))
  refine Goes.via (fun _ k => XS.dup Xq11.here hx rfl (hb hby at_66) rfl rfl k) ?_
  show Goes _ _ _ _ _ _ _ _ (Tq11.setTop (mkF m 67 #[.val (.long x0), .second, .val (.int mode), .val (.int d0), .unset, .unset, .unset, .unset, .unset, .unset] [(.ref bq1), (.ref bq1)]))
  refine Goes.via (fun _ k => XT.bipushV Xq11.here hx rfl (10 : Int32) (hb hby at_67) (by decide) k) ?_
  show Goes _ _ _ _ _ _ _ _ (Tq11.setTop (mkF m 69 #[.val (.long x0), .second, .val (.int mode), .val (.int d0), .unset, .unset, .unset, .unset, .unset, .unset] [(.int (10 : Int32)), (.ref bq1), (.ref bq1)]))
  refine Goes.via (fun _ k => Xq11.ldc2J hx hown (mvT hZ (W_10 hw)) (g := (mkF m 69 #[.val (.long x0), .second, .val (.int mode), .val (.int d0), .unset, .unset, .unset, .unset, .unset, .unset] [(.int (10 : Int32)), (.ref bq1), (.ref bq1)])) rfl (hb hby at_69) k) ?_
  show Goes _ _ _ _ _ _ _ _ (Tq11.setTop (mkF m 72 #[.val (.long x0), .second, .val (.int mode), .val (.int d0), .unset, .unset, .unset, .unset, .unset, .unset] [(.long (10000000000 : Int64)), (.int (10 : Int32)), (.ref bq1), (.ref bq1)]))
  obtain ⟨clq12, Arq12, qq12, Sq12, Nnq12, Hq12, Gq12⟩ := id Vq11
  have hinq12 : ¬ ((10 : Int32) < 0 ∨ clq12.slots.size ≤ ((10 : Int32)).toNatClampNeg) := inb_of Sq12 ⟨by decide, by decide⟩
  obtain ⟨Tq12, hq12, Xq12, eq12, Wq12, stq12⟩ := stJ Xq11 hx hZ eq11 Arq12 (j := (10 : Int32)) hinq12 (g := (mkF m 72 #[.val (.long x0), .second, .val (.int mode), .val (.int d0), .unset, .unset, .unset, .unset, .unset, .unset] [(.long (10000000000 : Int64)), (.int (10 : Int32)), (.ref bq1), (.ref bq1)])) rfl rfl (hb hby at_72)
  have Nq12 := Fr.snoc Xq12 Nq11 (by omega)
  have zq12 := Wq12.size
  have Oq12 := Oq11.wr Wq12 (by omega)
  have Vq12 : Arv Z hq12 bq1 kq1 .long (19 : Int32) [(.long (1 : Int64)), (.long (10 : Int64)), (.long (100 : Int64)), (.long (1000 : Int64)), (.long (10000 : Int64)), (.long (100000 : Int64)), (.long (1000000 : Int64)), (.long (10000000 : Int64)), (.long (100000000 : Int64)), (.long (1000000000 : Int64)), (.long (10000000000 : Int64)), (.long (0 : Int64)), (.long (0 : Int64)), (.long (0 : Int64)), (.long (0 : Int64)), (.long (0 : Int64)), (.long (0 : Int64)), (.long (0 : Int64)), (.long (0 : Int64))] (.long (0 : Int64)) := Arv.set Arq12 qq12 Sq12 Nnq12 Hq12 Gq12 rfl Wq12 10 rfl (Nat.le_of_ble_eq_true rfl)
  refine Goes.via stq12 ?_
  show Goes _ _ _ _ _ _ _ _ (Tq12.setTop (mkF m 73 #[.val (.long x0), .second, .val (.int mode), .val (.int d0), .unset, .unset, .unset, .unset, .unset, .unset] [(.ref bq1)]))
  refine Goes.via (fun _ k => XS.dup Xq12.here hx rfl (hb hby at_73) rfl rfl k) ?_
  show Goes _ _ _ _ _ _ _ _ (Tq12.setTop (mkF m 74 #[.val (.long x0), .second, .val (.int mode), .val (.int d0), .unset, .unset, .unset, .unset, .unset, .unset] [(.ref bq1), (.ref bq1)]))
  refine Goes.via (fun _ k => XT.bipushV Xq12.here hx rfl (11 : Int32) (hb hby at_74) (by decide) k) ?_
  show Goes _ _ _ _ _ _ _ _ (Tq12.setTop (mkF m 76 #[.val (.long x0), .second, .val (.int mode), .val (.int d0), .unset, .unset, .unset, .unset, .unset, .unset] [(.int (11 : Int32)), (.ref bq1), (.ref bq1)]))
  refine Goes.via (fun _ k => Xq12.ldc2J hx hown (mvT hZ (W_11 hw)) (g := (mkF m 76 #[.val (.long x0), .second, .val (.int mode), .val (.int d0), .unset, .unset, .unset, .unset, .unset, .unset] [(.int (11 : Int32)), (.ref bq1), (.ref bq1)])) rfl (hb hby at_76) k) ?_
  show Goes _ _ _ _ _ _ _ _ (Tq12.setTop (mkF m 79 #[.val (.long x0), .second, .val (.int mode), .val (.int d0), .unset, .unset, .unset, .unset, .unset, .unset] [(.long (100000000000 : Int64)), (.int (11 : Int32)), (.ref bq1), (.ref bq1)]))
  obtain ⟨clq13, Arq13, qq13, Sq13, Nnq13, Hq13, Gq13⟩ := id Vq12
  have hinq13 : ¬ ((11 : Int32) < 0 ∨ clq13.slots.size ≤ ((11 : Int32)).toNatClampNeg) := inb_of Sq13 ⟨by decide, by decide⟩
  obtain ⟨Tq13, hq13, Xq13, eq13, Wq13, stq13⟩ := stJ Xq12 hx hZ eq12 Arq13 (j := (11 : Int32)) hinq13 (g := (mkF m 79 #[.val (.long x0), .second, .val (.int mode), .val (.int d0), .unset, .unset, .unset, .unset, .unset, .unset] [(.long (100000000000 : Int64)), (.int (11 : Int32)), (.ref bq1), (.ref bq1)])) rfl rfl (hb hby at_79)
  have Nq13 := Fr.snoc Xq13 Nq12 (by omega)
  have zq13 := Wq13.size
  have Oq13 := Oq12.wr Wq13 (by omega)
  have Vq13 : Arv Z hq13 bq1 kq1 .long (19 : Int32) [(.long (1 : Int64)), (.long (10 : Int64)), (.long (100 : Int64)), (.long (1000 : Int64)), (.long (10000 : Int64)), (.long (100000 : Int64)), (.long (1000000 : Int64)), (.long (10000000 : Int64)), (.long (100000000 : Int64)), (.long (1000000000 : Int64)), (.long (10000000000 : Int64)), (.long (100000000000 : Int64)), (.long (0 : Int64)), (.long (0 : Int64)), (.long (0 : Int64)), (.long (0 : Int64)), (.long (0 : Int64)), (.long (0 : Int64)), (.long (0 : Int64))] (.long (0 : Int64)) := Arv.set Arq13 qq13 Sq13 Nnq13 Hq13 Gq13 rfl Wq13 11 rfl (Nat.le_of_ble_eq_true rfl)
  refine Goes.via stq13 ?_
  show Goes _ _ _ _ _ _ _ _ (Tq13.setTop (mkF m 80 #[.val (.long x0), .second, .val (.int mode), .val (.int d0), .unset, .unset, .unset, .unset, .unset, .unset] [(.ref bq1)]))
  refine Goes.via (fun _ k => XS.dup Xq13.here hx rfl (hb hby at_80) rfl rfl k) ?_
  show Goes _ _ _ _ _ _ _ _ (Tq13.setTop (mkF m 81 #[.val (.long x0), .second, .val (.int mode), .val (.int d0), .unset, .unset, .unset, .unset, .unset, .unset] [(.ref bq1), (.ref bq1)]))
  refine Goes.via (fun _ k => XT.bipushV Xq13.here hx rfl (12 : Int32) (hb hby at_81) (by decide) k) ?_
  show Goes _ _ _ _ _ _ _ _ (Tq13.setTop (mkF m 83 #[.val (.long x0), .second, .val (.int mode), .val (.int d0), .unset, .unset, .unset, .unset, .unset, .unset] [(.int (12 : Int32)), (.ref bq1), (.ref bq1)]))
  refine Goes.via (fun _ k => Xq13.ldc2J hx hown (mvT hZ (W_12 hw)) (g := (mkF m 83 #[.val (.long x0), .second, .val (.int mode), .val (.int d0), .unset, .unset, .unset, .unset, .unset, .unset] [(.int (12 : Int32)), (.ref bq1), (.ref bq1)])) rfl (hb hby at_83) k) ?_
  show Goes _ _ _ _ _ _ _ _ (Tq13.setTop (mkF m 86 #[.val (.long x0), .second, .val (.int mode), .val (.int d0), .unset, .unset, .unset, .unset, .unset, .unset] [(.long (1000000000000 : Int64)), (.int (12 : Int32)), (.ref bq1), (.ref bq1)]))
  obtain ⟨clq14, Arq14, qq14, Sq14, Nnq14, Hq14, Gq14⟩ := id Vq13
  have hinq14 : ¬ ((12 : Int32) < 0 ∨ clq14.slots.size ≤ ((12 : Int32)).toNatClampNeg) := inb_of Sq14 ⟨by decide, by decide⟩
  obtain ⟨Tq14, hq14, Xq14, eq14, Wq14, stq14⟩ := stJ Xq13 hx hZ eq13 Arq14 (j := (12 : Int32)) hinq14 (g := (mkF m 86 #[.val (.long x0), .second, .val (.int mode), .val (.int d0), .unset, .unset, .unset, .unset, .unset, .unset] [(.long (1000000000000 : Int64)), (.int (12 : Int32)), (.ref bq1), (.ref bq1)])) rfl rfl (hb hby at_86)
  have Nq14 := Fr.snoc Xq14 Nq13 (by omega)
  have zq14 := Wq14.size
  have Oq14 := Oq13.wr Wq14 (by omega)
  have Vq14 : Arv Z hq14 bq1 kq1 .long (19 : Int32) [(.long (1 : Int64)), (.long (10 : Int64)), (.long (100 : Int64)), (.long (1000 : Int64)), (.long (10000 : Int64)), (.long (100000 : Int64)), (.long (1000000 : Int64)), (.long (10000000 : Int64)), (.long (100000000 : Int64)), (.long (1000000000 : Int64)), (.long (10000000000 : Int64)), (.long (100000000000 : Int64)), (.long (1000000000000 : Int64)), (.long (0 : Int64)), (.long (0 : Int64)), (.long (0 : Int64)), (.long (0 : Int64)), (.long (0 : Int64)), (.long (0 : Int64))] (.long (0 : Int64)) := Arv.set Arq14 qq14 Sq14 Nnq14 Hq14 Gq14 rfl Wq14 12 rfl (Nat.le_of_ble_eq_true rfl)
  refine Goes.via stq14 ?_
  show Goes _ _ _ _ _ _ _ _ (Tq14.setTop (mkF m 87 #[.val (.long x0), .second, .val (.int mode), .val (.int d0), .unset, .unset, .unset, .unset, .unset, .unset] [(.ref bq1)]))
  refine Goes.via (fun _ k => XS.dup Xq14.here hx rfl (hb hby at_87) rfl rfl k) ?_
  show Goes _ _ _ _ _ _ _ _ (Tq14.setTop (mkF m 88 #[.val (.long x0), .second, .val (.int mode), .val (.int d0), .unset, .unset, .unset, .unset, .unset, .unset] [(.ref bq1), (.ref bq1)]))
  refine Goes.via (fun _ k => XT.bipushV Xq14.here hx rfl (13 : Int32) (hb hby at_88) (by decide) k) ?_
  show Goes _ _ _ _ _ _ _ _ (Tq14.setTop (mkF m 90 #[.val (.long x0), .second, .val (.int mode), .val (.int d0), .unset, .unset, .unset, .unset, .unset, .unset] [(.int (13 : Int32)), (.ref bq1), (.ref bq1)]))
  refine Goes.via (fun _ k => Xq14.ldc2J hx hown (mvT hZ (W_13 hw)) (g := (mkF m 90 #[.val (.long x0), .second, .val (.int mode), .val (.int d0), .unset, .unset, .unset, .unset, .unset, .unset] [(.int (13 : Int32)), (.ref bq1), (.ref bq1)])) rfl (hb hby at_90) k) ?_
  show Goes _ _ _ _ _ _ _ _ (Tq14.setTop (mkF m 93 #[.val (.long x0), .second, .val (.int mode), .val (.int d0), .unset, .unset, .unset, .unset, .unset, .unset] [(.long (10000000000000 : Int64)), (.int (13 : Int32)), (.ref bq1), (.ref bq1)]))
  obtain ⟨clq15, Arq15, qq15, Sq15, Nnq15, Hq15, Gq15⟩ := id Vq14
  have hinq15 : ¬ ((13 : Int32) < 0 ∨ clq15.slots.size ≤ ((13 : Int32)).toNatClampNeg) := inb_of Sq15 ⟨by decide, by decide⟩
  obtain ⟨Tq15, hq15, Xq15, eq15, Wq15, stq15⟩ := stJ Xq14 hx hZ eq14 Arq15 (j := (13 : Int32)) hinq15 (g := (mkF m 93 #[.val (.long x0), .second, .val (.int mode), .val (.int d0), .unset, .unset, .unset, .unset, .unset, .unset] [(.long (10000000000000 : Int64)), (.int (13 : Int32)), (.ref bq1), (.ref bq1)])) rfl rfl (hb hby at_93)
  have Nq15 := Fr.snoc Xq15 Nq14 (by omega)
  have zq15 := Wq15.size
  have Oq15 := Oq14.wr Wq15 (by omega)
  have Vq15 : Arv Z hq15 bq1 kq1 .long (19 : Int32) [(.long (1 : Int64)), (.long (10 : Int64)), (.long (100 : Int64)), (.long (1000 : Int64)), (.long (10000 : Int64)), (.long (100000 : Int64)), (.long (1000000 : Int64)), (.long (10000000 : Int64)), (.long (100000000 : Int64)), (.long (1000000000 : Int64)), (.long (10000000000 : Int64)), (.long (100000000000 : Int64)), (.long (1000000000000 : Int64)), (.long (10000000000000 : Int64)), (.long (0 : Int64)), (.long (0 : Int64)), (.long (0 : Int64)), (.long (0 : Int64)), (.long (0 : Int64))] (.long (0 : Int64)) := Arv.set Arq15 qq15 Sq15 Nnq15 Hq15 Gq15 rfl Wq15 13 rfl (Nat.le_of_ble_eq_true rfl)
  refine Goes.via stq15 ?_
  show Goes _ _ _ _ _ _ _ _ (Tq15.setTop (mkF m 94 #[.val (.long x0), .second, .val (.int mode), .val (.int d0), .unset, .unset, .unset, .unset, .unset, .unset] [(.ref bq1)]))
  refine Goes.via (fun _ k => XS.dup Xq15.here hx rfl (hb hby at_94) rfl rfl k) ?_
  show Goes _ _ _ _ _ _ _ _ (Tq15.setTop (mkF m 95 #[.val (.long x0), .second, .val (.int mode), .val (.int d0), .unset, .unset, .unset, .unset, .unset, .unset] [(.ref bq1), (.ref bq1)]))
  refine Goes.via (fun _ k => XT.bipushV Xq15.here hx rfl (14 : Int32) (hb hby at_95) (by decide) k) ?_
  show Goes _ _ _ _ _ _ _ _ (Tq15.setTop (mkF m 97 #[.val (.long x0), .second, .val (.int mode), .val (.int d0), .unset, .unset, .unset, .unset, .unset, .unset] [(.int (14 : Int32)), (.ref bq1), (.ref bq1)]))
  exact law_c38 l Z aw hw x0 mode d0 ar k0 bq1 kq1 hx hby hml hrt hlk hnm hZ hown Xq15 eq15 Nq15 (by decide) (by decide) Oq15 S0 V0 Vq15 (by omega)
set_option maxRecDepth 65536 in
set_option maxHeartbeats 40000000 in
theorem comes_1 {Post : Tables → Env → Array Value → State → Outcome → State → Prop} (hpost : ∀ tb e args s v u, (limb_1_1.after args s (.returned v) u = true ∧ limb_1_2.after args s (.returned v) u = true ∧ True) → FrameEnd s (.returned v) u (Jvm.fieldLocs frame_1_writes args s ++ Jvm.arrayLocs frame_1_arrays args s ++ Jvm.staticLocs frame_1_statics s) 16 128 → Post tb e args s (.returned v) u) :
    ArmFor flags0 classFile x code maxLocals ret World_1 tables_1 room_1 Calls_1 rest_1 Pre_1 Post := by
  intro l hfl _ _ p e ha hc hk s m args below hf hA hF happ hP
  obtain ⟨hcalls, hrest, hpre⟩ := hP
  obtain ⟨-, -, -, hnamed, -, -, -, hat⟩ := (Spec.applies_iff hf).mp happ
  obtain ⟨hg, hn⟩ := and_e (Cond.before_iff.mp (show (Jvm.Cond.and given_1 narrow_1).before args s = true from hpre))
  obtain ⟨hcnt, ha0⟩ := and_e hg
  obtain ⟨hk0, ha1⟩ := and_e ha0
  obtain ⟨hk1, ha2⟩ := and_e ha1
  have hk2 := ha2
  obtain ⟨w0, w1, w2, rfl⟩ : ∃ w0 w1 w2 : Value, args = #[w0, w1, w2] := by
    have hs : args.size = 3 := by simpa [Cond.value, given_1] using hcnt
    obtain ⟨L⟩ := args
    match L, hs with
    | [w0, w1, w2], _ => exact ⟨w0, w1, w2, rfl⟩
  have hw := fun d (hd : d ∈ tables_1) => atoms_spec (ws := Jvm.Cond.code x code maxLocals ret :: tables_1) hat d (List.mem_cons_of_mem _ hd)
  have hfit : Fit s := fun {y c} hc i hi => by
    obtain ⟨ha, rfl⟩ := Array.getElem?_eq_some_iff.mp hc
    have q := List.all_eq_true.mp ((Array.all_eq_true_iff_forall_mem.mp hF) _ (Array.getElem_mem ha)) i (List.mem_range.mpr hi)
    simpa [Array.getElem?_eq_getElem hi] using q
  obtain ⟨i0, ei0⟩ := isL_v hk0
  obtain rfl : w0 = (.long i0) := Option.some.inj ei0
  obtain ⟨i1, ei1⟩ := is_v hk1
  obtain rfl : w1 = (.int i1) := Option.some.inj ei1
  obtain ⟨i2, ei2⟩ := is_v hk2
  obtain rfl : w2 = (.int i2) := Option.some.inj ei2
  obtain ⟨nr0, hn0⟩ := and_e hn
  obtain ⟨nr1, hn1⟩ := and_e hn0
  obtain ⟨nr2, hn2⟩ := and_e hn1
  obtain ⟨nr3, hn3⟩ := and_e hn2
  obtain ⟨nr4, hn4⟩ := and_e hn3
  obtain ⟨nr5, hn5⟩ := and_e hn4
  obtain ⟨nr6, hn6⟩ := and_e hn5
  obtain ⟨nr7, hn7⟩ := and_e hn6
  obtain ⟨nr8, hn8⟩ := and_e hn7
  obtain ⟨nr9, hn9⟩ := and_e hn8
  obtain ⟨nr10, hn10⟩ := and_e hn9
  obtain ⟨nr11, hn11⟩ := and_e hn10
  obtain ⟨nr12, hn12⟩ := and_e hn11
  obtain ⟨nr13, hn13⟩ := and_e hn12
  obtain ⟨nr14, hn14⟩ := and_e hn13
  obtain ⟨nr15, hn15⟩ := and_e hn14
  obtain ⟨nr16, hn16⟩ := and_e hn15
  obtain ⟨nr17, hn17⟩ := and_e hn16
  obtain ⟨nr18, hn18⟩ := and_e hn17
  obtain ⟨nr19, hn19⟩ := and_e hn18
  have nr20 := hn19
  obtain ⟨ar, ear⟩ := arr_v nr0
  have S0 := Sta.start ear (Or.inr ⟨(W_21 hw), (W_24 hw)⟩)
  obtain ⟨c0, A0⟩ := Arr.start ear nr0
  obtain ⟨z1, z2⟩ := len_start ear A0 nr1
  have el0 := (elem_in (eq_long nr2) ear rfl A0.1).2
  have el1 := (elem_in (eq_long nr3) ear rfl A0.1).2
  have el2 := (elem_in (eq_long nr4) ear rfl A0.1).2
  have el3 := (elem_in (eq_long nr5) ear rfl A0.1).2
  have el4 := (elem_in (eq_long nr6) ear rfl A0.1).2
  have el5 := (elem_in (eq_long nr7) ear rfl A0.1).2
  have el6 := (elem_in (eq_long nr8) ear rfl A0.1).2
  have el7 := (elem_in (eq_long nr9) ear rfl A0.1).2
  have el8 := (elem_in (eq_long nr10) ear rfl A0.1).2
  have el9 := (elem_in (eq_long nr11) ear rfl A0.1).2
  have el10 := (elem_in (eq_long nr12) ear rfl A0.1).2
  have el11 := (elem_in (eq_long nr13) ear rfl A0.1).2
  have el12 := (elem_in (eq_long nr14) ear rfl A0.1).2
  have el13 := (elem_in (eq_long nr15) ear rfl A0.1).2
  have el14 := (elem_in (eq_long nr16) ear rfl A0.1).2
  have el15 := (elem_in (eq_long nr17) ear rfl A0.1).2
  have el16 := (elem_in (eq_long nr18) ear rfl A0.1).2
  have el17 := (elem_in (eq_long nr19) ear rfl A0.1).2
  have el18 := (elem_in (eq_long nr20) ear rfl A0.1).2
  have V0 : Arv s s.heap ar c0.cls .long (19 : Int32) PW (.long (0 : Int64)) := Arv.start hfit A0 z1 z2 (by decide) (by decide) ⟨el0, el1, el2, el3, el4, el5, el6, el7, el8, el9, el10, el11, el12, el13, el14, el15, el16, el17, el18, trivial⟩
  obtain ⟨n, o, h1, h2, h3, _, L, rfl, ⟨rfl, N⟩, hq⟩ := law l s _ hw i0 i1 i2 ar c0.cls (Old.start s) S0 V0 tables_1 p e ha hc hk s m _ below hf ((Spec.applies_iff_loose hf).mp happ).1 ⟨rfl, State.Warmed39.refl s, rfl⟩ trivial
  refine ⟨n, _, h1, h2, h3, hpost _ _ _ _ _ _ ⟨Cond.after_iff.mpr rfl, Cond.after_iff.mpr (eq_i res_at (Term.int_eval (1)) rfl), trivial⟩ ⟨hq.1, hq.2.1, (hq.2.2.sift fun y hy => Or.inr (N y hy)).mono (by decide) (by decide)⟩⟩
theorem main_1_1 : Claimed_1_1 := comes_1 fun _ _ _ _ _ _ h hF => ⟨h.1, hF⟩
theorem main_1_2 : Claimed_1_2 := comes_1 fun _ _ _ _ _ _ h hF => ⟨h.2.1, hF⟩

end Jvm.Pilot.@@N@@
namespace Jvm.Pilot.@@N@@
open Jvm Jvm.ClassFile Sem Op Lib Jvm.Free Jvm.Stand Jvm.Pilot.@@N@@.Jvm.D
/-! MADE BY PROGRAM (witnessworld.py) out of the Statement's table words and the real class files: 11 classes; the members and pool entries that the words name. The judged class is class 1, her method 1. -/
namespace start1
open Jvm.ClassFile
def u (s : String) : CpInfo := .utf8 (stringToUtf16 s)
/-- a pool by its gaps: so many unusable entries, then the entry; so many at the end -/
def gap : Nat → List CpInfo → List CpInfo
  | 0, r => r
  | n + 1, r => .unusable :: gap n r
def poolList (es : List (Nat × CpInfo)) (last : Nat) : List CpInfo := es.foldr (fun e r => gap e.1 (e.2 :: r)) (gap last [])
def pool (es : List (Nat × CpInfo)) (last : Nat) : Array CpInfo := ⟨poolList es last⟩
def fileOf (pool : Array CpInfo) (this : Nat) (attrs : Array Attribute := #[]) (ms : Array MethodInfo := #[]) (fl : Nat := 33) (sup : Nat := 0) (ifs : Array Nat := #[]) (fds : Array FieldInfo := #[]) : ClassFile where
  minorVersion := 0
  majorVersion := 65
  constantPool := pool
  accessFlags := fl
  thisClass := this
  superClass := sup
  interfaces := ifs
  fields := fds
  methods := ms
  attributes := attrs
def plain (name : String) (sup : Option ClassId) : Class where
  name := name
  kind := .ordinary
  loader := none
  accessFlags := 33
  super := sup
  interfaces := #[]
  cf := none
  fields := #[]
  methods := #[]
  instanceTypes := #[]
  staticTypes := #[]
  resolved := #[]
  callSites := []
  init := .initialized
  statics := none
  mirror := none

def pool0 : Array CpInfo := pool [(5, u "<init>"), (0, u "()V"), (1, .class_ 10), (1, u "java/lang/Object")] 113

def k0m0 : Method := { name := "<init>", desc := "()V", sig := { parameters := [], returnType := none }, accessFlags := 1, code := none }
/-- java/lang/Object -/
def k0 : Class := { plain "java/lang/Object" none with
  accessFlags := 33
  interfaces := #[]
  cf := some (fileOf pool0 8 #[] #[{ accessFlags := 1, nameIndex := 5, descriptorIndex := 6, attributes := #[] }] 33 0 #[] #[])
  fields := #[]
  methods := #[k0m0]
  instanceTypes := #[]
  staticTypes := #[]
  resolved := Array.replicate 124 none
  statics := none }

def pool1 : Array CpInfo := pool [(2, .class_ 4), (1, u "java/lang/Object"), (0, u "<init>"), (0, u "()V"), (0, .long 10), (1, .long 100), (1, .long 1000), (1, .long 10000), (1, .long 100000), (1, .long 1000000), (1, .long 10000000), (1, .long 100000000), (1, .long 1000000000), (1, .long 10000000000), (1, .long 100000000000), (1, .long 1000000000000), (1, .long 10000000000000), (1, .long 100000000000000), (1, .long 1000000000000000), (1, .long 10000000000000000), (1, .long 100000000000000000), (1, .long 1000000000000000000), (3, .long 9223372036854775807), (1, .methodref 48 49), (0, .class_ 50), (0, .nameAndType 51 52), (0, u "com/example/primevertical/primevertical/DecimalText"), (0, u "digitCount"), (0, u "(J)I"), (0, .class_ 54), (0, u "com/example/primevertical/primevertical/DecimalTextDigitCountPinLaw"), (2, u "law"), (0, u "(JII)Z")] 5

def k1m0 : Method := { name := "<init>", desc := "()V", sig := { parameters := [], returnType := none }, accessFlags := 2, code := none }
def k1c1 : Code := { maxStack := 5, maxLocals := 10, code := code, exceptionTable := #[], attributes := #[] }
def k1m1 : Method := { name := "law", desc := "(JII)Z", sig := { parameters := [.long, .int, .int], returnType := some .boolean }, accessFlags := 9, code := some k1c1 }
/-- com/example/primevertical/primevertical/DecimalTextDigitCountPinLaw -/
def k1 : Class := { plain "com/example/primevertical/primevertical/DecimalTextDigitCountPinLaw" (some 0) with
  accessFlags := 49
  interfaces := #[]
  cf := some (fileOf pool1 53 #[] #[{ accessFlags := 2, nameIndex := 5, descriptorIndex := 6, attributes := #[] }, { accessFlags := 9, nameIndex := 57, descriptorIndex := 58, attributes := #[] }] 49 2 #[] #[])
  fields := #[]
  methods := #[k1m0, k1m1]
  instanceTypes := #[]
  staticTypes := #[]
  resolved := Array.replicate 64 none
  statics := none }

def pool2 : Array CpInfo := pool [(1, .class_ 2), (0, u "com/example/primevertical/primevertical/DecimalText"), (1, .class_ 6), (1, u "java/lang/Object"), (0, u "<init>"), (0, u "()V"), (96, u "EXACT_POWERS_OF_TEN"), (0, u "[D"), (13, u "(J)I"), (1, .class_ 124), (1, u "com/example/primevertical/primevertical/DecimalText$PowerOfTen"), (97, u "POWERS_OF_FIVE"), (0, u "[J"), (24, u "digitCount"), (23, .fieldref 1 273), (0, .nameAndType 274 223), (0, u "LONG_POWERS_OF_TEN"), (4, u "DIGIT_PAIRS"), (0, u "[B"), (4, u "POWERS"), (0, u "[Lcom/example/primevertical/primevertical/DecimalText$PowerOfTen;"), (29, u "DIGITS_15"), (0, u "Ljava/math/MathContext;"), (2, u "DIGITS_16"), (16, u "DIGITS_17"), (14, u "MAX_LENGTH"), (0, u "I"), (2, u "SIGNIFICAND_BITS"), (1, u "HIDDEN_BIT"), (0, u "J"), (0, u "FRACTION_MASK"), (0, u "BIASED_EXPONENT_MASK"), (1, u "EXPONENT_BIAS"), (1, u "LOG10_2"), (0, u "D"), (0, u "LOG10_THREE_QUARTERS"), (0, u "MIN_POWER"), (1, u "MAX_POWER"), (1, u "MAX_KEPT_DIGITS"), (1, u "MAX_EXPONENT_DIGITS")] 33

def k2m0 : Method := { name := "<init>", desc := "()V", sig := { parameters := [], returnType := none }, accessFlags := 2, code := none }
def k2c1 : Code := { maxStack := 4, maxLocals := 3, code := prog_4_method_21_code, exceptionTable := #[], attributes := #[] }
def k2m1 : Method := { name := "digitCount", desc := "(J)I", sig := { parameters := [.long], returnType := some .int }, accessFlags := 8, code := some k2c1 }
/-- com/example/primevertical/primevertical/DecimalText -/
def k2 : Class := { plain "com/example/primevertical/primevertical/DecimalText" (some 0) with
  accessFlags := 49
  interfaces := #[]
  cf := some (fileOf pool2 1 #[.nestMembers #[122]] #[{ accessFlags := 2, nameIndex := 7, descriptorIndex := 8, attributes := #[] }, { accessFlags := 8, nameIndex := 248, descriptorIndex := 120, attributes := #[] }] 49 4 #[] #[{ accessFlags := 25, nameIndex := 352, descriptorIndex := 353, attributes := #[] }, { accessFlags := 26, nameIndex := 356, descriptorIndex := 353, attributes := #[] }, { accessFlags := 26, nameIndex := 358, descriptorIndex := 359, attributes := #[] }, { accessFlags := 26, nameIndex := 360, descriptorIndex := 359, attributes := #[] }, { accessFlags := 26, nameIndex := 361, descriptorIndex := 353, attributes := #[] }, { accessFlags := 26, nameIndex := 363, descriptorIndex := 353, attributes := #[] }, { accessFlags := 26, nameIndex := 365, descriptorIndex := 366, attributes := #[] }, { accessFlags := 26, nameIndex := 367, descriptorIndex := 366, attributes := #[] }, { accessFlags := 26, nameIndex := 368, descriptorIndex := 353, attributes := #[] }, { accessFlags := 26, nameIndex := 370, descriptorIndex := 353, attributes := #[] }, { accessFlags := 26, nameIndex := 285, descriptorIndex := 286, attributes := #[] }, { accessFlags := 26, nameIndex := 105, descriptorIndex := 106, attributes := #[] }, { accessFlags := 26, nameIndex := 372, descriptorIndex := 353, attributes := #[] }, { accessFlags := 26, nameIndex := 374, descriptorIndex := 353, attributes := #[] }, { accessFlags := 24, nameIndex := 274, descriptorIndex := 223, attributes := #[] }, { accessFlags := 26, nameIndex := 279, descriptorIndex := 280, attributes := #[] }, { accessFlags := 26, nameIndex := 222, descriptorIndex := 223, attributes := #[] }, { accessFlags := 26, nameIndex := 316, descriptorIndex := 317, attributes := #[] }, { accessFlags := 26, nameIndex := 320, descriptorIndex := 317, attributes := #[] }, { accessFlags := 26, nameIndex := 337, descriptorIndex := 317, attributes := #[] }])
  fields := #[{ name := "MAX_LENGTH", type := .int, accessFlags := 25, slot := 0, constantValue := 0 }, { name := "SIGNIFICAND_BITS", type := .int, accessFlags := 26, slot := 1, constantValue := 0 }, { name := "HIDDEN_BIT", type := .long, accessFlags := 26, slot := 2, constantValue := 0 }, { name := "FRACTION_MASK", type := .long, accessFlags := 26, slot := 3, constantValue := 0 }, { name := "BIASED_EXPONENT_MASK", type := .int, accessFlags := 26, slot := 4, constantValue := 0 }, { name := "EXPONENT_BIAS", type := .int, accessFlags := 26, slot := 5, constantValue := 0 }, { name := "LOG10_2", type := .double, accessFlags := 26, slot := 6, constantValue := 0 }, { name := "LOG10_THREE_QUARTERS", type := .double, accessFlags := 26, slot := 7, constantValue := 0 }, { name := "MIN_POWER", type := .int, accessFlags := 26, slot := 8, constantValue := 0 }, { name := "MAX_POWER", type := .int, accessFlags := 26, slot := 9, constantValue := 0 }, { name := "POWERS", type := (.array (.object "com/example/primevertical/primevertical/DecimalText$PowerOfTen")), accessFlags := 26, slot := 10, constantValue := 0 }, { name := "EXACT_POWERS_OF_TEN", type := (.array .double), accessFlags := 26, slot := 11, constantValue := 0 }, { name := "MAX_KEPT_DIGITS", type := .int, accessFlags := 26, slot := 12, constantValue := 0 }, { name := "MAX_EXPONENT_DIGITS", type := .int, accessFlags := 26, slot := 13, constantValue := 0 }, { name := "LONG_POWERS_OF_TEN", type := (.array .long), accessFlags := 24, slot := 14, constantValue := 0 }, { name := "DIGIT_PAIRS", type := (.array .byte), accessFlags := 26, slot := 15, constantValue := 0 }, { name := "POWERS_OF_FIVE", type := (.array .long), accessFlags := 26, slot := 16, constantValue := 0 }, { name := "DIGITS_15", type := (.object "java/math/MathContext"), accessFlags := 26, slot := 17, constantValue := 0 }, { name := "DIGITS_16", type := (.object "java/math/MathContext"), accessFlags := 26, slot := 18, constantValue := 0 }, { name := "DIGITS_17", type := (.object "java/math/MathContext"), accessFlags := 26, slot := 19, constantValue := 0 }]
  methods := #[k2m0, k2m1]
  instanceTypes := #[]
  staticTypes := #[.int, .int, .long, .long, .int, .int, .double, .double, .int, .int, (.array (.object "com/example/primevertical/primevertical/DecimalText$PowerOfTen")), (.array .double), .int, .int, (.array .long), (.array .byte), (.array .long), (.object "java/math/MathContext"), (.object "java/math/MathContext"), (.object "java/math/MathContext")]
  resolved := Array.replicate 408 none
  statics := some 0 }

def pool3 : Array CpInfo := pool [(1, u "java/lang/Cloneable"), (0, .class_ 1), (0, u "java/lang/Object"), (0, .class_ 3)] 3

/-- java/lang/Cloneable -/
def k3 : Class := { plain "java/lang/Cloneable" (some 0) with
  accessFlags := 1537
  interfaces := #[]
  cf := some (fileOf pool3 2 #[] #[] 1537 4 #[] #[])
  fields := #[]
  methods := #[]
  instanceTypes := #[]
  staticTypes := #[]
  resolved := Array.replicate 8 none
  statics := none }

def pool4 : Array CpInfo := pool [(1, u "java/io/Serializable"), (0, .class_ 1), (0, u "java/lang/Object"), (0, .class_ 3)] 3

/-- java/io/Serializable -/
def k4 : Class := { plain "java/io/Serializable" (some 0) with
  accessFlags := 1537
  interfaces := #[]
  cf := some (fileOf pool4 2 #[] #[] 1537 4 #[] #[])
  fields := #[]
  methods := #[]
  instanceTypes := #[]
  staticTypes := #[]
  resolved := Array.replicate 8 none
  statics := none }

/-- the primitive byte -/
def k5 : Class := { plain "byte" none with kind := .primitive 'B', accessFlags := 0x411 }
/-- [B -/
def k6 : Class := { plain "[B" (some 0) with kind := .array 5 .byte, interfaces := #[3, 4], accessFlags := 1041 }

/-- the primitive int -/
def k7 : Class := { plain "int" none with kind := .primitive 'I', accessFlags := 0x411 }
/-- [I -/
def k8 : Class := { plain "[I" (some 0) with kind := .array 7 .int, interfaces := #[3, 4], accessFlags := 1041 }

/-- the primitive long -/
def k9 : Class := { plain "long" none with kind := .primitive 'J', accessFlags := 0x411 }
/-- [J -/
def k10 : Class := { plain "[J" (some 0) with kind := .array 9 .long, interfaces := #[3, 4], accessFlags := 1041 }

def heap : Heap := #[{ cls := 2, slots := #[.int 0, .int 0, .long 0, .long 0, .int 0, .int 0, .double 0, .double 0, .int 0, .int 0, .null, .null, .int 0, .int 0, .ref 1, .null, .null, .null, .null, .null], vm := .statics 2 },
  { cls := 10, slots := #[.long 1, .long 10, .long 100, .long 1000, .long 10000, .long 100000, .long 1000000, .long 10000000, .long 100000000, .long 1000000000, .long 10000000000, .long 100000000000, .long 1000000000000, .long 10000000000000, .long 100000000000000, .long 1000000000000000, .long 10000000000000000, .long 100000000000000000, .long 1000000000000000000], vm := .none }]
def classes : Array Class := #[k0, k1, k2, k3, k4, k5, k6, k7, k8, k9, k10]
def interned : List (Array UInt16 × Addr) := []
def slotsUsed : Nat := 39
def theMethod : MethodId := ⟨1, 1⟩
def args0 : Array Value := #[.long 5, .int 3, .int 4]
def aboutOver (below : List Frame) : State where
  vm := { classes := classes, interned := interned.toArray }
  heap := heap
  slotsUsed := slotsUsed
  threads := #[{ frames := .invoking theMethod args0 :: below }]
def below0 : List Frame := [.native { method := ⟨0, 0⟩, args := #[] }]
def about1 : State := aboutOver below0
def p0 : Program := .bare "" "" ""
def e0 : Env := launch0.env 0 0 0
theorem w_frames : about1.frames = Frame.invoking theMethod args0 :: below0 := rfl
set_option maxRecDepth 65536 in
theorem w_args : argsFit about1.vm theMethod args0 = true := by decide +kernel
set_option maxRecDepth 65536 in
theorem w_heap : heapFits about1 = true := by decide +kernel
set_option maxRecDepth 65536 in
theorem w_runnable : about1.curStatus? = some .runnable := by decide +kernel
set_option maxRecDepth 65536 in
theorem w_alone : about1.alone = true := by decide +kernel
set_option maxRecDepth 65536 in
theorem w_named : about1.methodNamed? x = some theMethod := by decide +kernel
set_option maxRecDepth 65536 in
theorem w_hears : about1.hears theMethod below0 = true := by decide +kernel
set_option maxRecDepth 65536 in
theorem w_ripe : about1.ripe theMethod args0 below0 = true := by decide +kernel
theorem w_running : about1.status = .running := rfl
set_option maxRecDepth 65536 in
theorem w_room : about1.hasRoom e0.platform room_1 = true :=
  launch0.hasRoom_least _ room_1 (by decide +kernel) (by decide +kernel) (by decide +kernel) (by decide +kernel) (by decide +kernel) (by decide +kernel)
theorem allAtoms_all (ts : List Jvm.Cond) (a : Array Jvm.Value) (st : Jvm.State) : (allAtoms ts).before a st = ts.all (fun c => c.before a st) := by
  induction ts with
  | nil => rfl
  | cons c t ih =>
    show (Jvm.Cond.and c (allAtoms t)).before a st = _
    rw [Jvm.Cond.before_and, ih, List.all_cons]
def words1 : List Jvm.Cond := Jvm.Cond.code x code maxLocals ret :: tables_1
/-- a 'code' word, met by the world's own term for the bytes: nothing is compared byte by byte -/
theorem code_word {y : MethodName} {bytes : ByteArray} {mx : Nat} {rt : Option FieldType} {a : Array Value} {s : State} {m : MethodId} {meth : Method} {c : Code} (h1 : s.methodNamed? y = some m) (h2 : s.vm.method? m = some meth) (h3 : meth.code = some c) (h4 : c.code = bytes)
    (h5 : (c.maxLocals == mx && c.exceptionTable.isEmpty && decide (c.maxStack ≤ mostOperands) && decide (meth.sig.returnType = rt) && !meth.locks && decide (parseMethodDescriptor y.desc = some meth.sig)) = true) : (Jvm.Cond.code y bytes mx rt).before a s = true := by
  simp only [Bool.and_eq_true, beq_iff_eq, Bool.not_eq_true', decide_eq_true_eq] at h5
  obtain ⟨⟨⟨⟨⟨g1, g2⟩, g3⟩, g4⟩, g5⟩, g6⟩ := h5
  simp [Cond.before, Cond.holds, Cond.value, h1, h2, h3, h4, g1, g2, g3, g4, g5, g6]
def isCode : Jvm.Cond → Bool
  | .code _ _ _ _ => true
  | _ => false
theorem all_split {L : List Jvm.Cond} {P : Jvm.Cond → Bool} (h1 : L.all (fun c => isCode c || P c) = true) (h2 : ∀ c ∈ L.filter isCode, P c = true) : L.all P = true := by
  refine List.all_eq_true.mpr fun c hc => ?_
  have h := List.all_eq_true.mp h1 c hc
  rcases Bool.eq_false_or_eq_true (isCode c) with hi | hi
  · exact h2 c (List.mem_filter.mpr ⟨hc, hi⟩)
  · simpa [hi] using h
set_option maxRecDepth 65536 in
theorem w_c0 : (Jvm.Cond.code x code maxLocals ret).before args0 about1 = true := code_word (m := ⟨1, 1⟩) (meth := k1m1) (c := k1c1) (by decide +kernel) rfl rfl rfl (by decide +kernel)
set_option maxRecDepth 65536 in
theorem w_c1 : (Jvm.Cond.code ({ cls := "com/example/primevertical/primevertical/DecimalText", name := "digitCount", desc := "(J)I" } : Jvm.MethodName) prog_4_method_21_code (3 : Nat) (Option.some Jvm.ClassFile.FieldType.int)).before args0 about1 = true := code_word (m := ⟨2, 1⟩) (meth := k2m1) (c := k2c1) (by decide +kernel) rfl rfl rfl (by decide +kernel)
def codes1 : List Jvm.Cond := [Jvm.Cond.code x code maxLocals ret, Jvm.Cond.code ({ cls := "com/example/primevertical/primevertical/DecimalText", name := "digitCount", desc := "(J)I" } : Jvm.MethodName) prog_4_method_21_code (3 : Nat) (Option.some Jvm.ClassFile.FieldType.int)]
set_option maxRecDepth 65536 in
theorem codes_eq : words1.filter isCode = codes1 := rfl
theorem w_codes : ∀ c ∈ words1.filter isCode, c.before args0 about1 = true := by
  rw [codes_eq]
  intro c hc
  simp only [codes1, List.mem_cons, List.not_mem_nil, or_false] at hc
  rcases hc with rfl | rfl
  · exact w_c0
  · exact w_c1
set_option maxRecDepth 65536 in
theorem w_t1 : (words1.take 24).all (fun c => isCode c || c.before args0 about1) = true := by decide +kernel
set_option maxRecDepth 65536 in
theorem w_t2 : (words1.drop 24).all (fun c => isCode c || c.before args0 about1) = true := by decide +kernel
theorem w_tables : (allAtoms (Jvm.Cond.code x code maxLocals ret :: tables_1)).before args0 about1 = true := by
  rw [allAtoms_all]
  show words1.all (fun c => c.before args0 about1) = true
  refine all_split ?_ w_codes
  rw [← List.take_append_drop 24 words1, List.all_append, w_t1, w_t2]
  rfl
set_option maxRecDepth 65536 in
theorem w_case : (Jvm.Cond.and given_1 narrow_1).before args0 about1 = true := by decide +kernel
theorem w_applies : (headSpec (Jvm.Cond.code x code maxLocals ret :: tables_1) room_1).applies x e0.platform about1 = true :=
  (Spec.applies_iff w_frames).mpr ⟨w_running, w_runnable, w_alone, w_named, w_hears, w_ripe, w_room, w_tables⟩
theorem atStart : AtStart classFile x code maxLocals ret World_1 tables_1 room_1 Calls_1 rest_1 Pre_1 launch0 p0 e0 about1 theMethod args0 below0 :=
  ⟨lists_1, trivial, launch0.admits_env _ _ _, launch0.least_env, fairChoices_fair.cas, fairChoices_fair.clock, w_frames, w_args, w_heap, w_applies, trivial, trivial, w_case⟩
end start1
theorem witness_1 : WitnessClaimed_1 := ⟨start1.p0, start1.e0, start1.about1, start1.theMethod, start1.args0, start1.below0, start1.atStart⟩
end Jvm.Pilot.@@N@@
