import JvmDerived
import JvmDerived.Pilot.@@N@@Statement
import JvmDerived.Pilot.@@N@@Code
set_option linter.unusedVariables false
set_option linter.unusedSimpArgs false
namespace Jvm.Pilot.@@N@@
open Jvm Jvm.ClassFile Sem Op Lib Jvm.Free Jvm.Stand Jvm.LawKit Jvm.RoadKit Bundle Jvm.Pilot.@@N@@.Jvm.D
/-! own: the walk in continuation form: 'from the state A the body ends, and then Q' -/
def OwnWk (p : Program) (e : Env) (below : List Frame) (P : Option Value → State → List Loc → Prop) (A : State) : Prop :=
  ∃ s₂ v L, Steps p.tables e below A s₂ ∧ s₂.status = .running ∧ Ended s₂ below (.returned v) ∧ P v s₂ L
abbrev OwnP (s : State) (Q : Option Value → Heap → List Loc → Prop) (k n : Nat) : Option Value → State → List Loc → Prop := fun v t L => Q v t.heap L ∧ FrameEnd s (.returned v) t L k n
def OwnMet (l : Launch) (y : MethodName) (bytes : ByteArray) (maxL : Nat) (ret : Option FieldType) (ws : List Jvm.Cond) (rm : Room) (Z : State) (as' : Array Value) (h0 : Heap) (Q : Option Value → Heap → List Loc → Prop) : Prop :=
  MetFree l y (head1 (Jvm.Cond.code y bytes maxL ret :: ws) rm) (fun a U => a = as' ∧ Z.Warmed39 U.vm ∧ U.heap = h0) (fun _ _ _ _ _ => True)
    (fun _ U o U' => ∃ v L, o = .returned v ∧ Q v U'.heap L ∧ FrameEnd U o U' L rm.cells rm.slots)
def OAr (Z : State) (h : Heap) (a : Addr) (ty : FieldType) (vs : List Value) : Prop := ∃ c : Cell, Arr Z h a c ty ∧ c.slots = vs.toArray
theorem OAr.ext {Z : State} {h h' : Heap} {a : Addr} {ty : FieldType} {vs : List Value} (A : OAr Z h a ty vs) (E : Ext h h') : OAr Z h' a ty vs := by
  obtain ⟨c, A, e⟩ := A; exact ⟨c, A.ext E, e⟩
theorem OAr.other {Z : State} {h h' : Heap} {a b : Addr} {ty : FieldType} {vs : List Value} {sl : Nat} {v : Value} (A : OAr Z h b ty vs) (W : Wr h h' a sl v) (q : b ≠ a) : OAr Z h' b ty vs := by
  obtain ⟨c, A, e⟩ := A; exact ⟨c, A.other W q, e⟩
theorem OAr.keep {Z : State} {h h' : Heap} {a : Addr} {ty : FieldType} {vs : List Value} {ws : List Addr} (A : OAr Z h a ty vs) (K : Keep h h' ws) (q : a ∉ ws) : OAr Z h' a ty vs := by
  obtain ⟨c, A, e⟩ := A; exact ⟨c, ⟨K.2.1 a c A.1 q, A.2⟩, e⟩
theorem OAr.lt {Z : State} {h : Heap} {a : Addr} {ty : FieldType} {vs : List Value} (A : OAr Z h a ty vs) : a < h.size := by
  obtain ⟨c, A, e⟩ := A; exact A.lt
theorem OAr.set {Z : State} {h h' : Heap} {a : Addr} {ty : FieldType} {vs : List Value} {sl : Nat} {v : Value} (A : OAr Z h a ty vs) (W : Wr h h' a sl v) : OAr Z h' a ty (vs.set sl v) := by
  obtain ⟨c, A, e⟩ := A
  refine ⟨_, A.same W, ?_⟩
  show c.slots.setIfInBounds sl v = _
  rw [e]; simp
theorem own_plE {Z : State} {h : Heap} {a : Addr} {C : String} (E : Exa Z h a C) : ∀ c : Cell, h[a]? = some c → c.vm.isStatics = false := fun c hc => by
  obtain ⟨c', k, h1, -, -, h4, -⟩ := E; cases h1.symm.trans hc; exact h4
theorem own_plV {Z : State} {h : Heap} {a : Addr} {ty : FieldType} {vs : List Value} (A : OAr Z h a ty vs) : ∀ c : Cell, h[a]? = some c → c.vm.isStatics = false := fun c hc => by
  obtain ⟨c', A, -⟩ := A; cases A.1.symm.trans hc; exact A.plain
theorem own_sta_keep {Z : State} {h h' : Heap} {ws : List Addr} {O f d : String} {v : Value} (F : Sta Z h O f d v) (K : Keep h h' ws) (q : ∀ x ∈ ws, ∀ c : Cell, h[x]? = some c → c.vm.isStatics = false) : Sta Z h' O f d v := by
  obtain ⟨cf, i, k, f, st, cell, h1, h2, h3, h4, h5, h6, h7⟩ := F
  refine ⟨cf, i, k, f, st, cell, h1, h2, h3, h4, K.2.1 st cell h5 (fun m => ?_), h6, h7⟩
  have := q st m cell h5
  rw [h6] at this; cases this
theorem own_ins_keep {Z : State} {h h' : Heap} {ws : List Addr} {a : Addr} {C : String} {b : Bool} (F : Ins Z h a C b) (K : Keep h h' ws) : Ins Z h' a C b := by
  obtain ⟨cell, cT, h1, h2, h3⟩ := F
  obtain ⟨c', q, r1, r2, -⟩ := K.2.2 a cell h1
  exact ⟨c', cT, q, h2, by rw [r1, r2]; exact h3⟩
section Own
variable {p : Program} {l : Launch} {e : Env} {R : Room} {s : State} {m : MethodId} {args : Array Value} {below : List Frame} {meth : Method} {c : Code} {T : State} {locs : List Loc} {cells slots : Nat}
  {P : Option Value → State → List Loc → Prop} {Q : Option Value → Heap → List Loc → Prop} {k n : Nat} {Z : State} {a0 : Array Value} {h : Heap} {g : JFrame} {rest : List Value}
theorem own_go {A B : State} (st : ∀ t, Steps p.tables e below B t → Steps p.tables e below A t) (h : OwnWk p e below P B) : OwnWk p e below P A := by
  obtain ⟨s₂, v, L, h1, r⟩ := h; exact ⟨s₂, v, L, st _ h1, r⟩
theorem own_met {y : MethodName} {bytes : ByteArray} {maxL : Nat} {ret : Option FieldType} {ws : List Jvm.Cond} {rm : Room} {as' : Array Value} {h0 : Heap} (hpl : plainFor y = true)
    (body : ∀ (p : Program) (e : Env) (s : State) (m : MethodId) (below : List Frame) (meth : Method) (c : Code) (s₁ : State), p.tables.exec = Jvm.exec → c.code = bytes → c.maxLocals = maxL → s.vm.findClass y.cls = some m.cls → meth.name = y.name → meth.sig.returnType = ret → meth.locks = false → Z.Warmed39 s.vm →
      Stand p l e rm s m as' below meth c s₁ [] 0 0 → s₁.heap = h0 → OwnWk p e below (OwnP s Q rm.cells rm.slots) (s₁.setTop (entryFrame m as' maxL))) : OwnMet l y bytes maxL ret ws rm Z as' h0 Q := by
  refine MetFree.of_bodySF hpl hisR ?_
  intro p e s m args below meth c s₁ Bd hml0 hP hK
  obtain ⟨rfl, hZ, hh⟩ := hP
  obtain ⟨s₂, v, L, h1, h2, h3, h4, h5⟩ := body p e s m below meth c s₁ Bd.exec Bd.bytes hml0 (findClass_of_methodNamed Bd.named) (name_of_methodNamed Bd.named Bd.method).1 Bd.returns (BodyLoose.notSynchronized Bd) hZ (Stand.of_body Bd) (by rw [← hh, Bd.state]; rfl)
  exact ⟨s₂, _, h1, h2, h3, v, L, rfl, h4, h5⟩
theorem own_out0 {A : State} {v : Option Value} (X : Stand p l e R s m args below meth c T locs cells slots) (hlk : meth.locks = false) (hv : meth.sig.returnType = none → v = none)
    (st : ∀ fs, (∀ (f : JFrame) (acts : List Action), f.method = m → f.locked = none → f.entered = [] → (doReturn e (T.setTop f) acts v).1 = T.setFrames fs) → Steps p.tables e below A (T.setFrames fs))
    (hq : ∀ t : State, t.heap = T.heap → FrameEnd s (.returned v) t locs cells slots → P v t locs) : OwnWk p e below P A := by
  obtain ⟨fs, hr, hrun, hended, hW, hsame⟩ := X.leave (v := v) hv hlk
  exact ⟨_, v, locs, st fs hr, hrun, hended, hq _ rfl ⟨⟨v, rfl⟩, hW, hsame⟩⟩
theorem own_out {A : State} {v : Option Value} (X : Stand p l e R s m args below meth c T locs cells slots) (hlk : meth.locks = false) (hv : meth.sig.returnType = none → v = none)
    (st : ∀ fs, (∀ (f : JFrame) (acts : List Action), f.method = m → f.locked = none → f.entered = [] → (doReturn e (T.setTop f) acts v).1 = T.setFrames fs) → Steps p.tables e below A (T.setFrames fs))
    (hc : cells ≤ k) (hs : slots ≤ n) (hq : Q v T.heap locs) : OwnWk p e below (OwnP s Q k n) A :=
  own_out0 X hlk hv st fun t ht hF => ⟨by rw [ht]; exact hq, hF.1, hF.2.1, hF.2.2.mono hc hs⟩
theorem own_retI (X : Stand p l e R s m args below meth c T locs cells slots) (hx : p.tables.exec = Jvm.exec) (hlk : meth.locks = false) (hret : meth.sig.returnType = some .int) {pc : Nat} {Ls : Array Slot} {z : Int32} (hd : decode c.code pc = .ok (.ireturn, 1)) (hc : cells ≤ k) (hs : slots ≤ n)
    (hq : Q (some (.int z)) T.heap locs) : OwnWk p e below (OwnP s Q k n) (T.setTop (mkF m pc Ls (.int z :: rest))) :=
  own_out X hlk (fun q => by rw [hret] at q; cases q) (fun fs hr => retOut X hx hret rfl (Or.inl ⟨rfl, Or.inl rfl, z, rfl⟩) hd hr) hc hs hq
theorem own_retZ (X : Stand p l e R s m args below meth c T locs cells slots) (hx : p.tables.exec = Jvm.exec) (hlk : meth.locks = false) {t : FieldType} (hret : meth.sig.returnType = some t) (ht : t = .boolean ∨ t = .byte ∨ t = .char ∨ t = .short) {pc : Nat} {Ls : Array Slot} {z z' : Int32} (hz : nar t z = z') (hd : decode c.code pc = .ok (.ireturn, 1)) (hc : cells ≤ k) (hs : slots ≤ n)
    (hq : Q (some (.int z')) T.heap locs) : OwnWk p e below (OwnP s Q k n) (T.setTop (mkF m pc Ls (.int z :: rest))) := by
  subst hz
  exact own_out X hlk (fun q => by rw [hret] at q; cases q) (fun fs hr => retN X hx hret ht hd hr) hc hs hq
theorem own_retJ (X : Stand p l e R s m args below meth c T locs cells slots) (hx : p.tables.exec = Jvm.exec) (hlk : meth.locks = false) (hret : meth.sig.returnType = some .long) {pc : Nat} {Ls : Array Slot} {z : Int64} (hd : decode c.code pc = .ok (.lreturn, 1)) (hc : cells ≤ k) (hs : slots ≤ n)
    (hq : Q (some (.long z)) T.heap locs) : OwnWk p e below (OwnP s Q k n) (T.setTop (mkF m pc Ls (.long z :: rest))) :=
  own_out X hlk (fun q => by rw [hret] at q; cases q) (fun fs hr => retOut X hx hret rfl (Or.inr (Or.inl ⟨rfl, rfl, z, rfl⟩)) hd hr) hc hs hq
theorem own_retA (X : Stand p l e R s m args below meth c T locs cells slots) (hx : p.tables.exec = Jvm.exec) (hlk : meth.locks = false) {t : FieldType} (hret : meth.sig.returnType = some t) (ht : t.isReference = true) {pc : Nat} {Ls : Array Slot} {v : Value} (hv : v.isRef = true) (hn : narrow t v = v) (hd : decode c.code pc = .ok (.areturn, 1)) (hc : cells ≤ k) (hs : slots ≤ n)
    (hq : Q (some v) T.heap locs) : OwnWk p e below (OwnP s Q k n) (T.setTop (mkF m pc Ls (v :: rest))) :=
  own_out X hlk (fun q => by rw [hret] at q; cases q) (fun fs hr => retOut X hx hret hn (Or.inr (Or.inr (Or.inr (Or.inr ⟨rfl, ht, hv⟩)))) hd hr) hc hs hq
theorem own_retV (X : Stand p l e R s m args below meth c T locs cells slots) (hx : p.tables.exec = Jvm.exec) (hlk : meth.locks = false) (hret : meth.sig.returnType = none) {pc : Nat} {Ls : Array Slot} (hd : decode c.code pc = .ok (.return_, 1)) (hc : cells ≤ k) (hs : slots ≤ n)
    (hq : Q none T.heap locs) : OwnWk p e below (OwnP s Q k n) (T.setTop (mkF m pc Ls [])) :=
  own_out X hlk (fun _ => rfl) (fun fs hr => X.returnOut hx hret hd hr) hc hs hq
/-! calls by a contract -/
variable {own C : String} {idx cnt : Nat} {y z : MethodName} {bytes : ByteArray} {maxL : Nat} {ret : Option FieldType} {rm : Room} {Q' : Option Value → Heap → List Loc → Prop} {W : Nat} {argsL : List Value} {a b : Addr}
theorem OwnMet.back {len : Nat} {as' : Array Value} (hM : OwnMet l y bytes maxL ret [] rm Z as' h Q') (hZ : Z.Warmed39 s.vm) (wc : (Jvm.Cond.code y bytes maxL ret).before a0 Z = true) (wz : (Jvm.Cond.initialized y.cls).before a0 Z = true) (hf : rm.frames + 1 ≤ R.frames) (hl : W + (maxL + 11) + rm.locals ≤ R.locals) :
    Back l R p e below s args y len W (fun A a => a = as' ∧ A.U.heap = h ∧ A.cells + rm.cells ≤ R.cells ∧ A.slots + rm.slots ≤ R.slots)
      (fun A _ v B => ∃ L, Q' v B.U.heap L ∧ B.locs = A.locs ++ L ∧ B.cells = A.cells + rm.cells ∧ B.slots = A.slots + rm.slots) := backOf (Q := Q') hM hZ wc wz hf hl
theorem own_callS (X : Stand p l e R s m args below meth c T locs cells slots) (hx : p.tables.exec = Jvm.exec) (hZ : Z.Warmed39 s.vm) (hown : s.vm.findClass own = some m.cls)
    (w1 : (Jvm.Cond.methodLink own idx y).before a0 Z = true) (w2 : (Jvm.Cond.static y).before a0 Z = true) (w3 : (Jvm.Cond.initialized y.cls).before a0 Z = true) (w4 : (Jvm.Cond.code y bytes maxL ret).before a0 Z = true)
    (hy : y.cls ≠ "java/lang/invoke/MethodHandle" ∧ y.cls ≠ "java/lang/invoke/VarHandle") (hM : OwnMet l y bytes maxL ret [] rm Z argsL.toArray h Q') (eT : T.heap = h)
    (hf : rm.frames + 1 ≤ R.frames) (hl : W + (maxL + 11) + rm.locals ≤ R.locals) (hc : cells + rm.cells ≤ R.cells) (hs : slots + rm.slots ≤ R.slots)
    (hg : g.method = m) (hsize : g.locals.size = c.maxLocals) (hlen : ∀ sig, parseMethodDescriptor y.desc = some sig → argsL.length = sig.parameters.length) (hstack : g.stack = argsL.reverse ++ rest)
    (hW : 2 * g.monitorRoom + (rest.map fun v => v.category).sum ≤ W) (hd : decode c.code g.pc = .ok (.invokestatic idx, 3))
    (K : ∀ v T' h' L, Stand p l e R s m args below meth c T' (locs ++ L) (cells + rm.cells) (slots + rm.slots) → T'.heap = h' → Q' v h' L → OwnWk p e below P (T'.setTop { g with pc := g.pc + 3, stack := v.toList ++ rest })) :
    OwnWk p e below P (T.setTop g) := by
  obtain ⟨v, vm₁, ⟨T', L', k', n'⟩, -, X', ⟨L, hQ, e1, e2, e3⟩, st⟩ := Jvm.LawKit.callS X hx hown (mvT hZ w1) (mvT hZ w2) (mvT hZ w3) (mvT hZ w4) hy (hM.back hZ w4 w3 hf hl) hg hsize hlen hstack hW hd (fun _ _ => ⟨rfl, eT, hc, hs⟩)
  dsimp only [Pt.U, Pt.locs, Pt.cells, Pt.slots] at X' e1 e2 e3 st hQ
  subst e1 e2 e3
  exact own_go st (K v T' _ L X' rfl hQ)
theorem own_callC (X : Stand p l e R s m args below meth c T locs cells slots) (hx : p.tables.exec = Jvm.exec) (hZ : Z.Warmed39 s.vm) (hown : s.vm.findClass own = some m.cls) (hy1 : y.name = "<init>")
    (w1 : (Jvm.Cond.methodLink own idx y).before a0 Z = true) (w2 : (Jvm.Cond.instanceMethod y).before a0 Z = true) (w3 : (Jvm.Cond.initialized y.cls).before a0 Z = true) (w4 : (Jvm.Cond.code y bytes maxL none).before a0 Z = true)
    (hy : y.cls ≠ "java/lang/invoke/MethodHandle" ∧ y.cls ≠ "java/lang/invoke/VarHandle") (hM : OwnMet l y bytes maxL none [] rm Z (.ref a :: argsL).toArray h Q') (eT : T.heap = h)
    (hf : rm.frames + 1 ≤ R.frames) (hl : W + (maxL + 11) + rm.locals ≤ R.locals) (hc : cells + rm.cells ≤ R.cells) (hs : slots + rm.slots ≤ R.slots)
    (hg : g.method = m) (hsize : g.locals.size = c.maxLocals) (hlen : ∀ sig, parseMethodDescriptor y.desc = some sig → argsL.length = sig.parameters.length) (hstack : g.stack = argsL.reverse ++ .ref a :: rest)
    (hW : 2 * g.monitorRoom + (rest.map fun v => v.category).sum ≤ W) (hd : decode c.code g.pc = .ok (.invokespecial idx, 3))
    (K : ∀ v T' h' L, Stand p l e R s m args below meth c T' (locs ++ L) (cells + rm.cells) (slots + rm.slots) → T'.heap = h' → Q' v h' L → OwnWk p e below P (T'.setTop { g with pc := g.pc + 3, stack := v.toList ++ rest })) :
    OwnWk p e below P (T.setTop g) := by
  obtain ⟨v, vm₁, ⟨T', L', k', n'⟩, -, X', ⟨L, hQ, e1, e2, e3⟩, st⟩ := X.specialBack hx hy1 hown (mvT hZ w1) (mvT hZ w2) (mvT hZ w4) hy (hM.back hZ w4 w3 hf hl) hg hsize (Steps.refl _) hlen hstack hW hd (fun _ _ => ⟨rfl, eT, hc, hs⟩)
  dsimp only [Pt.U, Pt.locs, Pt.cells, Pt.slots] at X' e1 e2 e3 st hQ
  subst e1 e2 e3
  exact own_go (fun t q => st.trans q) (K v T' _ L X' rfl hQ)
theorem own_callV (X : Stand p l e R s m args below meth c T locs cells slots) (hx : p.tables.exec = Jvm.exec) (hZ : Z.Warmed39 s.vm) (hown : s.vm.findClass own = some m.cls)
    (w1 : (Jvm.Cond.methodLink own idx y).before a0 Z = true) (w2 : (Jvm.Cond.declares y).before a0 Z = true) (nf : NotFace s y) (w5 : (Jvm.Cond.selects C y z).before a0 Z = true) (w6 : (Jvm.Cond.instanceMethod z).before a0 Z = true) (w3 : (Jvm.Cond.initialized z.cls).before a0 Z = true) (w4 : (Jvm.Cond.code z bytes maxL ret).before a0 Z = true)
    (hy : y.cls ≠ "java/lang/invoke/MethodHandle" ∧ y.cls ≠ "java/lang/invoke/VarHandle") (E : Exa Z h a C) (hM : OwnMet l z bytes maxL ret [] rm Z (.ref a :: argsL).toArray h Q') (eT : T.heap = h)
    (hf : rm.frames + 1 ≤ R.frames) (hl : W + (maxL + 11) + rm.locals ≤ R.locals) (hc : cells + rm.cells ≤ R.cells) (hs : slots + rm.slots ≤ R.slots)
    (hg : g.method = m) (hsize : g.locals.size = c.maxLocals) (hlen : ∀ sig, parseMethodDescriptor y.desc = some sig → argsL.length = sig.parameters.length) (hstack : g.stack = argsL.reverse ++ .ref a :: rest)
    (hW : 2 * g.monitorRoom + (rest.map fun v => v.category).sum ≤ W) (hd : decode c.code g.pc = .ok (.invokevirtual idx, 3))
    (K : ∀ v T' h' L, Stand p l e R s m args below meth c T' (locs ++ L) (cells + rm.cells) (slots + rm.slots) → T'.heap = h' → Q' v h' L → OwnWk p e below P (T'.setTop { g with pc := g.pc + 3, stack := v.toList ++ rest })) :
    OwnWk p e below P (T.setTop g) := by
  obtain ⟨cq, kq, q1, q2, q3⟩ := isOf hZ eT E
  obtain ⟨v, vm₁, ⟨T', L', k', n'⟩, -, X', ⟨L, hQ, e1, e2, e3⟩, st⟩ := X.virtualBack hx hown (mvT hZ w1) (mvT hZ w2) nf (mvT hZ w5) (mvT hZ w6) hy (hM.back hZ w4 w3 hf hl) q1 q3 hg hsize (Steps.refl _) hlen hstack hW hd (fun _ _ => ⟨rfl, eT, hc, hs⟩)
  dsimp only [Pt.U, Pt.locs, Pt.cells, Pt.slots] at X' e1 e2 e3 st hQ
  subst e1 e2 e3
  exact own_go (fun t q => st.trans q) (K v T' _ L X' rfl hQ)
theorem own_callI (X : Stand p l e R s m args below meth c T locs cells slots) (hx : p.tables.exec = Jvm.exec) (hZ : Z.Warmed39 s.vm) (hown : s.vm.findClass own = some m.cls)
    (w1 : (Jvm.Cond.methodLink own idx y).before a0 Z = true) (w2 : (Jvm.Cond.declares y).before a0 Z = true) (w7 : (Jvm.Cond.interfaceMethod y.cls y.cls y.name y.desc).before args s = true) (w5 : (Jvm.Cond.selects C y z).before a0 Z = true) (w6 : (Jvm.Cond.instanceMethod z).before a0 Z = true)
    (w8 : (Jvm.Cond.publicMethod z).before a0 Z = true) (w9 : (Jvm.Cond.unhidden C y.name y.desc).before a0 Z = true) (w10 : (Jvm.Cond.castable C y.cls).before a0 Z = true) (w3 : (Jvm.Cond.initialized z.cls).before a0 Z = true) (w4 : (Jvm.Cond.code z bytes maxL ret).before a0 Z = true)
    (hy : y.cls ≠ "java/lang/invoke/MethodHandle" ∧ y.cls ≠ "java/lang/invoke/VarHandle") (E : Exa Z h a C) (hM : OwnMet l z bytes maxL ret [] rm Z (.ref a :: argsL).toArray h Q') (eT : T.heap = h)
    (hf : rm.frames + 1 ≤ R.frames) (hl : W + (maxL + 11) + rm.locals ≤ R.locals) (hc : cells + rm.cells ≤ R.cells) (hs : slots + rm.slots ≤ R.slots)
    (hg : g.method = m) (hsize : g.locals.size = c.maxLocals) (hlen : ∀ sig, parseMethodDescriptor y.desc = some sig → argsL.length = sig.parameters.length) (hstack : g.stack = argsL.reverse ++ .ref a :: rest)
    (hW : 2 * g.monitorRoom + (rest.map fun v => v.category).sum ≤ W) (hd : decode c.code g.pc = .ok (.invokeinterface idx cnt, 5))
    (K : ∀ v T' h' L, Stand p l e R s m args below meth c T' (locs ++ L) (cells + rm.cells) (slots + rm.slots) → T'.heap = h' → Q' v h' L → OwnWk p e below P (T'.setTop { g with pc := g.pc + 5, stack := v.toList ++ rest })) :
    OwnWk p e below P (T.setTop g) := by
  obtain ⟨cq, kq, q1, q2, q3⟩ := isOf hZ eT E
  obtain ⟨v, vm₁, ⟨T', L', k', n'⟩, -, X', ⟨L, hQ, e1, e2, e3⟩, st⟩ := X.interfaceBack hx hown (mvT hZ w1) (mvT hZ w2) w7 (mvT hZ w5) (mvT hZ w6) (mvT hZ w8) (mvT hZ w9) (mvT hZ w10) hy (hM.back hZ w4 w3 hf hl) q1 q2 q3 hg hsize (Steps.refl _) hlen hstack hW hd (fun _ _ => ⟨rfl, eT, hc, hs⟩)
  dsimp only [Pt.U, Pt.locs, Pt.cells, Pt.slots] at X' e1 e2 e3 st hQ
  subst e1 e2 e3
  exact own_go (fun t q => st.trans q) (K v T' _ L X' rfl hQ)
theorem own_callP (X : Stand p l e R s m args below meth c T locs cells slots) (hx : p.tables.exec = Jvm.exec) (hZ : Z.Warmed39 s.vm) (hown : s.vm.findClass own = some m.cls)
    (w1 : (Jvm.Cond.methodLink own idx y).before a0 Z = true) (w2 : (Jvm.Cond.instanceMethod y).before a0 Z = true) (w5 : (Jvm.Cond.selects y.cls y y).before a0 Z = true) (w6 : (Jvm.Cond.privateMethod y).before a0 Z = true) (w3 : (Jvm.Cond.initialized y.cls).before a0 Z = true) (w4 : (Jvm.Cond.code y bytes maxL ret).before a0 Z = true)
    (hy : y.cls ≠ "java/lang/invoke/MethodHandle" ∧ y.cls ≠ "java/lang/invoke/VarHandle") (E : Exa Z h a C) (hM : OwnMet l y bytes maxL ret [] rm Z (.ref a :: argsL).toArray h Q') (eT : T.heap = h)
    (hf : rm.frames + 1 ≤ R.frames) (hl : W + (maxL + 11) + rm.locals ≤ R.locals) (hc : cells + rm.cells ≤ R.cells) (hs : slots + rm.slots ≤ R.slots)
    (hg : g.method = m) (hsize : g.locals.size = c.maxLocals) (hlen : ∀ sig, parseMethodDescriptor y.desc = some sig → argsL.length = sig.parameters.length) (hstack : g.stack = argsL.reverse ++ .ref a :: rest)
    (hW : 2 * g.monitorRoom + (rest.map fun v => v.category).sum ≤ W) (hd : decode c.code g.pc = .ok (.invokevirtual idx, 3))
    (K : ∀ v T' h' L, Stand p l e R s m args below meth c T' (locs ++ L) (cells + rm.cells) (slots + rm.slots) → T'.heap = h' → Q' v h' L → OwnWk p e below P (T'.setTop { g with pc := g.pc + 3, stack := v.toList ++ rest })) :
    OwnWk p e below P (T.setTop g) := by
  obtain ⟨cq, q, q'⟩ := E.cell
  obtain ⟨v, vm₁, ⟨T', L', k', n'⟩, -, X', ⟨L, hQ, e1, e2, e3⟩, st⟩ := X.privateBack hx hown (mvT hZ w1) (mvT hZ w2) (mvT hZ w5) (Cond.privateMethod_at (mvP hZ w6 (args := #[]))) (mvT hZ w4) hy (hM.back hZ w4 w3 hf hl) hg hsize (Steps.refl _) (by rw [eT]; exact q) q' hlen hstack hW hd (fun _ _ => ⟨rfl, eT, hc, hs⟩)
  dsimp only [Pt.U, Pt.locs, Pt.cells, Pt.slots] at X' e1 e2 e3 st hQ
  subst e1 e2 e3
  exact own_go (fun t q => st.trans q) (K v T' _ L X' rfl hQ)
/-! arrays by their lists -/
variable {vs : List Value} {ty : FieldType} {j : Int32} {v : Value}
theorem own_in (c : Cell) (e : c.slots = vs.toArray) (h0 : ¬ j < 0) (hj : j.toNatClampNeg < vs.length) : ¬ (j < 0 ∨ c.slots.size ≤ j.toNatClampNeg) := by
  rw [e]; simp only [List.size_toArray]
  rintro (q | q)
  · exact h0 q
  · omega
theorem own_len (X : Stand p l e R s m args below meth c T locs cells slots) (hx : p.tables.exec = Jvm.exec) (hZ : Z.Warmed39 s.vm) (eT : T.heap = h) (A : OAr Z h a ty vs) (hg : g.method = m) (hs : g.stack = .ref a :: rest) (hd : decode c.code g.pc = .ok (.arraylength, 1)) {N : Int32} (hN : vs.length.toInt32 = N)
    (K : OwnWk p e below P (T.setTop { g with pc := g.pc + 1, stack := .int N :: rest })) : OwnWk p e below P (T.setTop g) := by
  obtain ⟨cl, A, ec⟩ := A
  refine own_go (fun t q => X.arraylength hx (by rw [eT]; exact A.1) (State.isArrayOf_alike hZ.alike A.2.1) hg hs hd _ q) ?_
  rw [ec, List.size_toArray, hN]; exact K
theorem own_ldI (X : Stand p l e R s m args below meth c T locs cells slots) (hx : p.tables.exec = Jvm.exec) (hZ : Z.Warmed39 s.vm) (eT : T.heap = h) (A : OAr Z h a .int vs) (hg : g.method = m) (hs : g.stack = .int j :: .ref a :: rest) (hd : decode c.code g.pc = .ok (.iaload, 1)) (h0 : ¬ j < 0) (hj : vs[j.toNatClampNeg]? = some v)
    (K : OwnWk p e below P (T.setTop { g with pc := g.pc + 1, stack := v :: rest })) : OwnWk p e below P (T.setTop g) := by
  obtain ⟨cl, A, ec⟩ := A
  exact own_go (fun t q => X.iaload hx (by rw [eT]; exact A.1) (State.isArrayOf_alike hZ.alike A.2.1) A.2.2 (own_in cl ec h0 (List.getElem?_eq_some_iff.mp hj).1) (by rw [ec]; simpa using hj) hg hs hd _ q) K
theorem own_ldJ (X : Stand p l e R s m args below meth c T locs cells slots) (hx : p.tables.exec = Jvm.exec) (hZ : Z.Warmed39 s.vm) (eT : T.heap = h) (A : OAr Z h a .long vs) (hg : g.method = m) (hs : g.stack = .int j :: .ref a :: rest) (hd : decode c.code g.pc = .ok (.laload, 1)) (h0 : ¬ j < 0) (hj : vs[j.toNatClampNeg]? = some v)
    (K : OwnWk p e below P (T.setTop { g with pc := g.pc + 1, stack := v :: rest })) : OwnWk p e below P (T.setTop g) := by
  obtain ⟨cl, A, ec⟩ := A
  exact own_go (fun t q => X.laload hx (by rw [eT]; exact A.1) (State.isArrayOf_alike hZ.alike A.2.1) A.2.2 (own_in cl ec h0 (List.getElem?_eq_some_iff.mp hj).1) (by rw [ec]; simpa using hj) hg hs hd _ q) K
theorem own_ldA (X : Stand p l e R s m args below meth c T locs cells slots) (hx : p.tables.exec = Jvm.exec) (hZ : Z.Warmed39 s.vm) (eT : T.heap = h) (A : OAr Z h a ty vs) (hty : ty.isReference = true) (hg : g.method = m) (hs : g.stack = .int j :: .ref a :: rest) (hd : decode c.code g.pc = .ok (.aaload, 1)) (h0 : ¬ j < 0) (hj : vs[j.toNatClampNeg]? = some v)
    (K : OwnWk p e below P (T.setTop { g with pc := g.pc + 1, stack := v :: rest })) : OwnWk p e below P (T.setTop g) := by
  obtain ⟨cl, A, ec⟩ := A
  exact own_go (fun t q => X.aaload hx (by rw [eT]; exact A.1) (State.isArrayOf_alike hZ.alike A.2.1) hty A.2.2 (own_in cl ec h0 (List.getElem?_eq_some_iff.mp hj).1) (by rw [ec]; simpa using hj) hg hs hd _ q) K
theorem own_stI (X : Stand p l e R s m args below meth c T locs cells slots) (hx : p.tables.exec = Jvm.exec) (hZ : Z.Warmed39 s.vm) (eT : T.heap = h) (A : OAr Z h a .int vs) {x : Int32} (hg : g.method = m) (hs : g.stack = .int x :: .int j :: .ref a :: rest) (hd : decode c.code g.pc = .ok (.iastore, 1)) (h0 : ¬ j < 0) (hj : j.toNatClampNeg < vs.length)
    (K : ∀ T' h', Stand p l e R s m args below meth c T' (locs ++ [⟨a, j.toNatClampNeg⟩]) cells slots → T'.heap = h' → Wr h h' a j.toNatClampNeg (.int x) → OAr Z h' a .int (vs.set j.toNatClampNeg (.int x)) → OwnWk p e below P (T'.setTop { g with pc := g.pc + 1, stack := rest })) : OwnWk p e below P (T.setTop g) := by
  obtain ⟨cl, A', ec⟩ := A
  obtain ⟨T', h', X', e', W', st⟩ := stI X hx hZ eT A' (j := j) (own_in cl ec h0 hj) hg hs hd
  exact own_go st (K T' h' X' e' W' (OAr.set ⟨cl, A', ec⟩ W'))
theorem own_stJ (X : Stand p l e R s m args below meth c T locs cells slots) (hx : p.tables.exec = Jvm.exec) (hZ : Z.Warmed39 s.vm) (eT : T.heap = h) (A : OAr Z h a .long vs) {x : Int64} (hg : g.method = m) (hs : g.stack = .long x :: .int j :: .ref a :: rest) (hd : decode c.code g.pc = .ok (.lastore, 1)) (h0 : ¬ j < 0) (hj : j.toNatClampNeg < vs.length)
    (K : ∀ T' h', Stand p l e R s m args below meth c T' (locs ++ [⟨a, j.toNatClampNeg⟩]) cells slots → T'.heap = h' → Wr h h' a j.toNatClampNeg (.long x) → OAr Z h' a .long (vs.set j.toNatClampNeg (.long x)) → OwnWk p e below P (T'.setTop { g with pc := g.pc + 1, stack := rest })) : OwnWk p e below P (T.setTop g) := by
  obtain ⟨cl, A', ec⟩ := A
  obtain ⟨T', h', X', e', W', st⟩ := stJ X hx hZ eT A' (j := j) (own_in cl ec h0 hj) hg hs hd
  exact own_go st (K T' h' X' e' W' (OAr.set ⟨cl, A', ec⟩ W'))
theorem own_newP {aty : ArrayType} (X : Stand p l e R s m args below meth c T locs cells slots) (hx : p.tables.exec = Jvm.exec) (hZ : Z.Warmed39 s.vm) (w : (Jvm.Cond.arrayClass (newarray.typeOf aty)).before a0 Z = true) (eT : T.heap = h) (hg : g.method = m) (hd : decode c.code g.pc = .ok (.newarray aty, 2)) {N : Int32} (hs : g.stack = .int N :: rest)
    (hn : ¬ N < 0) {cap : Nat} (hcap : N.toNatClampNeg ≤ cap) (hb : cap * 8 ≤ 536870912) (hc : cells + 1 ≤ R.cells) (hl : slots + cap ≤ R.slots)
    (K : ∀ T' h' b, Stand p l e R s m args below meth c T' locs (cells + 1) (slots + cap) → T'.heap = h' → b = h.size → Ext h h' → OAr Z h' b (newarray.typeOf aty) (List.replicate N.toNatClampNeg (defaultValue (newarray.typeOf aty))) → OwnWk p e below P (T'.setTop { g with pc := g.pc + 2, stack := .ref b :: rest })) : OwnWk p e below P (T.setTop g) := by
  obtain ⟨T', h', cA, X', e', E', A', st⟩ := newP X hx hZ w eT hg hd hs hn hcap hb hc hl
  exact own_go st (K T' h' _ X' e' rfl E' ⟨_, A', by simp [newA]⟩)
theorem own_newPE {aty : ArrayType} {ad : String} (X : Stand p l e R s m args below meth c T locs cells slots) (hx : p.tables.exec = Jvm.exec) (hZ : Z.Warmed39 s.vm) (w : (Jvm.Cond.arrayClass (newarray.typeOf aty)).before a0 Z = true) (eT : T.heap = h) (hg : g.method = m) (hd : decode c.code g.pc = .ok (.newarray aty, 2)) {N : Int32} (hs : g.stack = .int N :: rest)
    (hn : ¬ N < 0) {cap : Nat} (hcap : N.toNatClampNeg ≤ cap) (hb : cap * 8 ≤ 536870912) (hc : cells + 1 ≤ R.cells) (hl : slots + cap ≤ R.slots) (had : "[" ++ (newarray.typeOf aty).toString = ad)
    (K : ∀ T' h' b, Stand p l e R s m args below meth c T' locs (cells + 1) (slots + cap) → T'.heap = h' → b = h.size → Ext h h' → OAr Z h' b (newarray.typeOf aty) (List.replicate N.toNatClampNeg (defaultValue (newarray.typeOf aty))) → Exa Z h' b ad → OwnWk p e below P (T'.setTop { g with pc := g.pc + 2, stack := .ref b :: rest })) : OwnWk p e below P (T.setTop g) := by
  obtain ⟨T', h', cA, X', e', E', A', Ex, st⟩ := newPE X hx hZ w eT hg hd hs hn hcap hb hc hl had
  exact own_go st (K T' h' _ X' e' rfl E' ⟨_, A', by simp [newA]⟩ Ex)
theorem own_clone {ad : String} (X : Stand p l e R s m args below meth c T locs cells slots) (hx : p.tables.exec = Jvm.exec) (hZ : Z.Warmed39 s.vm) (hown : s.vm.findClass own = some m.cls)
    (w1 : (Jvm.Cond.methodLink own idx ⟨ad, "clone", "()Ljava/lang/Object;"⟩).before a0 Z = true) (w2 : (Jvm.Cond.sameMethod ad "java/lang/Object" "clone" "()Ljava/lang/Object;").before a0 Z = true) (w3 : (Jvm.Cond.native ⟨"java/lang/Object", "clone", "()Ljava/lang/Object;"⟩).before a0 Z = true)
    (w4 : (Jvm.Cond.instanceMethod ⟨"java/lang/Object", "clone", "()Ljava/lang/Object;"⟩).before a0 Z = true) (w5 : (Jvm.Cond.selects ad ⟨ad, "clone", "()Ljava/lang/Object;"⟩ ⟨"java/lang/Object", "clone", "()Ljava/lang/Object;"⟩).before a0 Z = true) (w6 : (Jvm.Cond.castable ad "java/lang/Cloneable").before a0 Z = true)
    (eT : T.heap = h) (A : OAr Z h a ty vs) (E : Exa Z h a ad) (F : ∀ v ∈ vs, fits ty v = true) (hg : g.method = m) (hsize : g.locals.size = c.maxLocals) (hs : g.stack = .ref a :: rest) (hd : decode c.code g.pc = .ok (.invokevirtual idx, 3))
    (hf : 1 ≤ R.frames) {cap : Nat} (hW : 2 * g.monitorRoom + (rest.map fun v => v.category).sum ≤ W) (hl : W + 14 ≤ R.locals) (hcap : vs.length ≤ cap) (hc : cells + 1 ≤ R.cells) (hsl : slots + cap ≤ R.slots)
    (K : ∀ T' h' b, Stand p l e R s m args below meth c T' locs (cells + 1) (slots + cap) → T'.heap = h' → b = h.size → Ext h h' → OAr Z h' b ty vs → Exa Z h' b ad → OwnWk p e below P (T'.setTop { g with pc := g.pc + 3, stack := .ref b :: rest })) : OwnWk p e below P (T.setTop g) := by
  obtain ⟨cl, A, ec⟩ := A
  have FC : FitC Z cl := fitC_of A fun i hi v hv => by
    rw [ec] at hv
    exact F v (List.mem_of_getElem? (by simpa using hv))
  obtain ⟨T', h', X', e', E', A', Ex, st⟩ := cloneA X hx hZ hown w1 w2 w3 w4 w5 w6 eT A E FC hg hsize hs hd hf hW hl (by rw [ec]; simpa using hcap) hc hsl
  exact own_go st (K T' h' _ X' e' rfl E' ⟨_, A', ec⟩ Ex)
end Own
/-! comparisons of longs -/
theorem own_tri (x y : Int64) : x < y ∨ x = y ∨ y < x := by
  rcases Int.lt_trichotomy x.toInt y.toInt with h | h | h
  · exact Or.inl (Int64.lt_iff_toInt_lt.mpr h)
  · exact Or.inr (Or.inl (Int64.toInt_inj.mp h))
  · exact Or.inr (Or.inr (Int64.lt_iff_toInt_lt.mpr h))
theorem own_lc_lt {x y : Int64} : (lcmpW x y < 0) ↔ x < y := by
  unfold lcmpW
  rcases own_tri x y with h | h | h
  · have h1 : ¬ x > y := Int64.lt_asymm h
    have h2 : ¬ x = y := Int64.ne_of_lt h
    simp [h1, h2, h]
  · subst h; simp
  · have h1 : ¬ x < y := Int64.lt_asymm h
    simp [h, h1]
theorem own_lc_gt {x y : Int64} : (0 < lcmpW x y) ↔ y < x := by
  unfold lcmpW
  rcases own_tri x y with h | h | h
  · have h1 : ¬ x > y := Int64.lt_asymm h
    have h2 : ¬ x = y := Int64.ne_of_lt h
    have h3 : ¬ y < x := h1
    simp [h1, h2, h3]
  · subst h; simp
  · simp [h]
theorem own_lc_eq {x y : Int64} : (lcmpW x y = 0) ↔ x = y := by
  unfold lcmpW
  rcases own_tri x y with h | h | h
  · have h1 : ¬ x > y := Int64.lt_asymm h
    have h2 : ¬ x = y := Int64.ne_of_lt h
    simp [h1, h2]
  · subst h; simp
  · have h2 : ¬ x = y := (Int64.ne_of_lt h).symm
    simp [h, h2]
def own_words (u : Int32) : Int64 := ((u.toUInt32 >>> ((6 : Int32) &&& 31).toUInt32).toInt32).toInt64 + (if (u &&& (63 : Int32)) = 0 then 0 else 1)
def own_bytes (u : Int32) (r : Int64) : Int64 := ((256 : Int64) + ((8 : Int64) * u.toInt64)) + ((((8 : Int64) * (((u + (64 : Int32)) - (1 : Int32)) / (64 : Int32)).toInt64) + (16 : Int64)) * r)
theorem own_nat_int {n : Nat} (h : n < 2 ^ 31) : (Int32.ofNat n).toInt = (n : Int) := by
  rw [Int32.toInt_ofNat']; simp only [Int32.size, Int.bmod]; omega
theorem own_key {n : Nat} (h : n ≤ 2147483584) : (((Int32.ofNat n + (64 : Int32)) - (1 : Int32)) / (64 : Int32)).toInt64 = own_words (Int32.ofNat n) := by
  have e1 : (Int32.ofNat n + (64 : Int32)) - (1 : Int32) = Int32.ofNat (n + 63) := by
    apply Int32.toInt_inj.mp
    rw [Int32.toInt_sub, Int32.toInt_add, own_nat_int (by omega), own_nat_int (by omega)]
    have a : (64 : Int32).toInt = 64 := rfl
    have b : (1 : Int32).toInt = 1 := rfl
    rw [a, b]; simp only [Int.bmod]; omega
  have e2 : (Int32.ofNat (n + 63) / (64 : Int32)).toInt = ((n + 63) / 64 : Nat) := by
    rw [Int32.toInt_div, own_nat_int (by omega)]
    have a : (64 : Int32).toInt = 64 := rfl
    rw [a, Int.tdiv_eq_ediv_of_nonneg (by omega)]; simp only [Int.bmod]; omega
  have u1 : (Int32.ofNat n).toUInt32.toNat = n := by
    show (BitVec.ofNat 32 n).toNat = n
    simp; omega
  have e3 : (((Int32.ofNat n).toUInt32 >>> ((6 : Int32) &&& 31).toUInt32).toInt32).toInt = (n / 64 : Nat) := by
    have q : ((Int32.ofNat n).toUInt32 >>> ((6 : Int32) &&& 31).toUInt32).toNat = n / 64 := by
      rw [UInt32.toNat_shiftRight, u1]
      have : ((6 : Int32) &&& 31).toUInt32.toNat % 32 = 6 := by decide
      rw [this, Nat.shiftRight_eq_div_pow]
    have q2 : (((Int32.ofNat n).toUInt32 >>> ((6 : Int32) &&& 31).toUInt32).toInt32) = Int32.ofNat (n / 64) := by
      apply Int32.toBitVec_inj.mp; apply BitVec.eq_of_toNat_eq
      show ((Int32.ofNat n).toUInt32 >>> ((6 : Int32) &&& 31).toUInt32).toNat = (BitVec.ofNat 32 (n / 64)).toNat
      rw [q]; simp; omega
    rw [q2, own_nat_int (by omega)]
  have e4 : ((Int32.ofNat n &&& (63 : Int32)) = 0) ↔ n % 64 = 0 := by
    have q : (Int32.ofNat n &&& (63 : Int32)).toBitVec.toNat = n % 64 := by
      rw [Int32.toBitVec_and, BitVec.toNat_and]
      show (BitVec.ofNat 32 n).toNat &&& 63 = n % 64
      have : (BitVec.ofNat 32 n).toNat = n := by simp; omega
      rw [this]; exact Nat.and_two_pow_sub_one_eq_mod n 6
    constructor
    · intro z; rw [z] at q; exact q.symm
    · intro z; apply Int32.toBitVec_inj.mp; apply BitVec.eq_of_toNat_eq; rw [q, z]; rfl
  rw [e1]
  apply Int64.toInt_inj.mp
  rw [Int32.toInt_toInt64, e2]
  unfold own_words
  by_cases z : n % 64 = 0
  · rw [if_pos (e4.mpr z), Int64.toInt_add, Int32.toInt_toInt64, e3]
    have a : (0 : Int64).toInt = 0 := rfl
    rw [a]; simp only [Int.bmod]; omega
  · rw [if_neg (fun q => z (e4.mp q)), Int64.toInt_add, Int32.toInt_toInt64, e3]
    have a : (1 : Int64).toInt = 1 := rfl
    rw [a]; simp only [Int.bmod]; omega
theorem own_range (u : Int32) : ∃ n : Nat, n ≤ 2147483584 ∧ (u &&& (2147483647 : Int32)) % (2147483585 : Int32) = Int32.ofNat n := by
  have h0 : (u &&& (2147483647 : Int32)).toBitVec.toNat < 2 ^ 31 := by
    rw [Int32.toBitVec_and, BitVec.toNat_and]
    exact Nat.lt_of_le_of_lt Nat.and_le_right (by decide)
  obtain ⟨k, hk⟩ : ∃ k, k = (u &&& (2147483647 : Int32)).toBitVec.toNat := ⟨_, rfl⟩
  rw [← hk] at h0
  have e : (u &&& (2147483647 : Int32)) = Int32.ofNat k := by
    apply Int32.toBitVec_inj.mp; apply BitVec.eq_of_toNat_eq; rw [← hk]
    show k = (BitVec.ofNat 32 k).toNat
    simp; omega
  refine ⟨k % 2147483585, by omega, ?_⟩
  rw [e]
  apply Int32.toInt_inj.mp
  rw [Int32.toInt_mod, own_nat_int h0, own_nat_int (by omega)]
  have a : (2147483585 : Int32).toInt = 2147483585 := rfl
  rw [a, Int.tmod_eq_emod_of_nonneg (by omega)]; omega
theorem own_law (u : Int32) (r : Int64) (d : Int32) (h : d = ((u &&& (2147483647 : Int32)) % (2147483585 : Int32))) :
    own_bytes d r = (((((256 : Int64) + ((8 : Int64) * (d.toInt64))) + (((8 : Int64) * (own_words d)) * r)) + ((8 : Int64) * r)) + ((8 : Int64) * r)) := by
  obtain ⟨n, hn, e⟩ := own_range u
  rw [e] at h; subst h
  unfold own_bytes
  rw [own_key hn]
  generalize own_words (Int32.ofNat n) = w
  generalize (Int32.ofNat n).toInt64 = D
  rw [Int64.add_mul, show (16 : Int64) = 8 + 8 from rfl, Int64.add_mul]
  simp only [Int64.add_assoc]
theorem pn_pn_1 : plainName "com/example/enrichd/enrichd/store/ChunkIndexBytesPinLaw" = true := by first | (simp [plainName, overriddenIn]; done) | decide +kernel
theorem pn_1 : plainFor (⟨"com/example/enrichd/enrichd/store/ChunkIndexBytesPinLaw", "wordsOf", "(I)J"⟩ : MethodName) = true := plainFor_of_name pn_pn_1
theorem d1_0 : decode method_2_code 0 = .ok (.iload_n 0, 1) := by decide +kernel
theorem d1_1 : decode method_2_code 1 = .ok (.bipush 6, 2) := by decide +kernel
theorem d1_3 : decode method_2_code 3 = .ok (.iushr, 1) := by decide +kernel
theorem d1_4 : decode method_2_code 4 = .ok (.i2l, 1) := by decide +kernel
theorem d1_5 : decode method_2_code 5 = .ok (.lstore_n 1, 1) := by decide +kernel
theorem d1_6 : decode method_2_code 6 = .ok (.iload_n 0, 1) := by decide +kernel
theorem d1_7 : decode method_2_code 7 = .ok (.bipush 63, 2) := by decide +kernel
theorem d1_9 : decode method_2_code 9 = .ok (.iand, 1) := by decide +kernel
theorem d1_10 : decode method_2_code 10 = .ok (.ifCond .eq 7, 3) := by decide +kernel
theorem d1_17 : decode method_2_code 17 = .ok (.lconst 0, 1) := by decide +kernel
theorem d1_18 : decode method_2_code 18 = .ok (.lstore_n 3, 1) := by decide +kernel
theorem d1_19 : decode method_2_code 19 = .ok (.lload_n 1, 1) := by decide +kernel
theorem d1_20 : decode method_2_code 20 = .ok (.lload_n 3, 1) := by decide +kernel
theorem d1_21 : decode method_2_code 21 = .ok (.ladd, 1) := by decide +kernel
theorem d1_22 : decode method_2_code 22 = .ok (.lreturn, 1) := by decide +kernel
theorem d1_13 : decode method_2_code 13 = .ok (.lconst 1, 1) := by decide +kernel
theorem d1_14 : decode method_2_code 14 = .ok (.goto 4, 3) := by decide +kernel
theorem ef_rm1 (m : MethodId) (x0 : Int32) : entryFrame m #[(.int x0)] 5 = mkF m 0 #[.val (.int x0), .unset, .unset, .unset, .unset] [] := by first | (simp [entryFrame, mkF, argsToLocals, Value.category]; done) | rfl
def Q_rm1 (Z : State) (u : Int32) (h0 : Heap) (n0 : Nat) (v : Option Value) (h : Heap) (L : List Loc) : Prop := v = some (.long (own_words u)) ∧ Fr n0 L ∧ h = h0
set_option maxRecDepth 65536 in
set_option maxHeartbeats 40000000 in
theorem rm1 (l : Launch) (Z : State) (a0 : Array Value) (hw : ∀ d ∈ tables_1, d.before a0 Z = true) (u : Int32) (h0 : Heap) (n0 : Nat) (Z0 : n0 ≤ h0.size)  :
    OwnMet l (⟨"com/example/enrichd/enrichd/store/ChunkIndexBytesPinLaw", "wordsOf", "(I)J"⟩ : MethodName) method_2_code 5 (some .long) [] ({ frames := 0, cells := 0, slots := 0, locals := 0 } : Room) Z #[(.int u)] h0 (Q_rm1 Z u h0 n0) := by
  refine own_met pn_1 (fun p e s m below meth c s₁ hx hby hml hown hnm hret hlk hZ X0 e0 => ?_)
  have hown : s.vm.findClass "com/example/enrichd/enrichd/store/ChunkIndexBytesPinLaw" = some m.cls := hown
  have N0 := Fr.nil n0
  rw [ef_rm1]
  show OwnWk _ _ _ _ (s₁.setTop (mkF m 0 #[.val (.int u), .unset, .unset, .unset, .unset] []))
  refine own_go (fun t k => XS.iloadN X0.here hx rfl (hb hby d1_0) rfl  k) ?_
  show OwnWk _ _ _ _ (s₁.setTop (mkF m 1 #[.val (.int u), .unset, .unset, .unset, .unset] [(.int u)]))
  refine own_go (fun t k => XS.bipush X0.here hx rfl (hb hby d1_1) k) ?_
  show OwnWk _ _ _ _ (s₁.setTop (mkF m 3 #[.val (.int u), .unset, .unset, .unset, .unset] [(.int (6 : Int32)), (.int u)]))
  refine own_go (fun t k => XS.iushr X0.here hx rfl (hb hby d1_3) rfl k) ?_
  show OwnWk _ _ _ _ (s₁.setTop (mkF m 4 #[.val (.int u), .unset, .unset, .unset, .unset] [(.int ((u.toUInt32 >>> ((6 : Int32) &&& 31).toUInt32).toInt32))]))
  refine own_go (fun t k => XS.i2l X0.here hx rfl (hb hby d1_4) rfl k) ?_
  show OwnWk _ _ _ _ (s₁.setTop (mkF m 5 #[.val (.int u), .unset, .unset, .unset, .unset] [(.long (((u.toUInt32 >>> ((6 : Int32) &&& 31).toUInt32).toInt32).toInt64))]))
  refine own_go (fun t k => XS.lstoreN X0.here hx rfl (hb hby d1_5) rfl (l' := #[.val (.int u), .val (.long (((u.toUInt32 >>> ((6 : Int32) &&& 31).toUInt32).toInt32).toInt64)), .second, .unset, .unset]) rfl k) ?_
  show OwnWk _ _ _ _ (s₁.setTop (mkF m 6 #[.val (.int u), .val (.long (((u.toUInt32 >>> ((6 : Int32) &&& 31).toUInt32).toInt32).toInt64)), .second, .unset, .unset] []))
  refine own_go (fun t k => XS.iloadN X0.here hx rfl (hb hby d1_6) rfl  k) ?_
  show OwnWk _ _ _ _ (s₁.setTop (mkF m 7 #[.val (.int u), .val (.long (((u.toUInt32 >>> ((6 : Int32) &&& 31).toUInt32).toInt32).toInt64)), .second, .unset, .unset] [(.int u)]))
  refine own_go (fun t k => XS.bipush X0.here hx rfl (hb hby d1_7) k) ?_
  show OwnWk _ _ _ _ (s₁.setTop (mkF m 9 #[.val (.int u), .val (.long (((u.toUInt32 >>> ((6 : Int32) &&& 31).toUInt32).toInt32).toInt64)), .second, .unset, .unset] [(.int (63 : Int32)), (.int u)]))
  refine own_go (fun t k => XS.iand X0.here hx rfl (hb hby d1_9) rfl k) ?_
  show OwnWk _ _ _ _ (s₁.setTop (mkF m 10 #[.val (.int u), .val (.long (((u.toUInt32 >>> ((6 : Int32) &&& 31).toUInt32).toInt32).toInt64)), .second, .unset, .unset] [(.int (u &&& (63 : Int32)))]))
  by_cases hc1 : (u &&& (63 : Int32)) = (0 : Int32)
  ·
    refine own_go (fun t k => XS.ifYes X0.here hx rfl (pc0 := 10) (pc' := 17) rfl (hb hby d1_10) rfl ((if0 _ _).trans (teq hc1).1) (by decide) (by decide) k) ?_
    show OwnWk _ _ _ _ (s₁.setTop (mkF m 17 #[.val (.int u), .val (.long (((u.toUInt32 >>> ((6 : Int32) &&& 31).toUInt32).toInt32).toInt64)), .second, .unset, .unset] []))
    refine own_go (fun t k => XS.lconst X0.here hx rfl (hb hby d1_17) k) ?_
    show OwnWk _ _ _ _ (s₁.setTop (mkF m 18 #[.val (.int u), .val (.long (((u.toUInt32 >>> ((6 : Int32) &&& 31).toUInt32).toInt32).toInt64)), .second, .unset, .unset] [(.long (0 : Int64))]))
    refine own_go (fun t k => XS.lstoreN X0.here hx rfl (hb hby d1_18) rfl (l' := #[.val (.int u), .val (.long (((u.toUInt32 >>> ((6 : Int32) &&& 31).toUInt32).toInt32).toInt64)), .second, .val (.long (0 : Int64)), .second]) rfl k) ?_
    show OwnWk _ _ _ _ (s₁.setTop (mkF m 19 #[.val (.int u), .val (.long (((u.toUInt32 >>> ((6 : Int32) &&& 31).toUInt32).toInt32).toInt64)), .second, .val (.long (0 : Int64)), .second] []))
    refine own_go (fun t k => XS.lloadN X0.here hx rfl (hb hby d1_19) rfl  k) ?_
    show OwnWk _ _ _ _ (s₁.setTop (mkF m 20 #[.val (.int u), .val (.long (((u.toUInt32 >>> ((6 : Int32) &&& 31).toUInt32).toInt32).toInt64)), .second, .val (.long (0 : Int64)), .second] [(.long (((u.toUInt32 >>> ((6 : Int32) &&& 31).toUInt32).toInt32).toInt64))]))
    refine own_go (fun t k => XS.lloadN X0.here hx rfl (hb hby d1_20) rfl  k) ?_
    show OwnWk _ _ _ _ (s₁.setTop (mkF m 21 #[.val (.int u), .val (.long (((u.toUInt32 >>> ((6 : Int32) &&& 31).toUInt32).toInt32).toInt64)), .second, .val (.long (0 : Int64)), .second] [(.long (0 : Int64)), (.long (((u.toUInt32 >>> ((6 : Int32) &&& 31).toUInt32).toInt32).toInt64))]))
    refine own_go (fun t k => XS.ladd X0.here hx rfl (hb hby d1_21) rfl k) ?_
    show OwnWk _ _ _ _ (s₁.setTop (mkF m 22 #[.val (.int u), .val (.long (((u.toUInt32 >>> ((6 : Int32) &&& 31).toUInt32).toInt32).toInt64)), .second, .val (.long (0 : Int64)), .second] [(.long ((((u.toUInt32 >>> ((6 : Int32) &&& 31).toUInt32).toInt32).toInt64) + (0 : Int64)))]))
    exact own_retJ X0 hx hlk hret (hb hby d1_22) (by decide) (by decide) (by rw [e0]; exact ⟨by simp [own_words, hc1], N0, rfl⟩)
  ·
    refine own_go (fun t k => XS.ifNo X0.here hx rfl (hb hby d1_10) rfl ((if0 _ _).trans (feq hc1).1) k) ?_
    show OwnWk _ _ _ _ (s₁.setTop (mkF m 13 #[.val (.int u), .val (.long (((u.toUInt32 >>> ((6 : Int32) &&& 31).toUInt32).toInt32).toInt64)), .second, .unset, .unset] []))
    refine own_go (fun t k => XS.lconst X0.here hx rfl (hb hby d1_13) k) ?_
    show OwnWk _ _ _ _ (s₁.setTop (mkF m 14 #[.val (.int u), .val (.long (((u.toUInt32 >>> ((6 : Int32) &&& 31).toUInt32).toInt32).toInt64)), .second, .unset, .unset] [(.long (1 : Int64))]))
    refine own_go (fun t k => XS.goto X0.here hx rfl (pc0 := 14) (pc' := 18) rfl (hb hby d1_14) (by decide) (by decide) k) ?_
    show OwnWk _ _ _ _ (s₁.setTop (mkF m 18 #[.val (.int u), .val (.long (((u.toUInt32 >>> ((6 : Int32) &&& 31).toUInt32).toInt32).toInt64)), .second, .unset, .unset] [(.long (1 : Int64))]))
    refine own_go (fun t k => XS.lstoreN X0.here hx rfl (hb hby d1_18) rfl (l' := #[.val (.int u), .val (.long (((u.toUInt32 >>> ((6 : Int32) &&& 31).toUInt32).toInt32).toInt64)), .second, .val (.long (1 : Int64)), .second]) rfl k) ?_
    show OwnWk _ _ _ _ (s₁.setTop (mkF m 19 #[.val (.int u), .val (.long (((u.toUInt32 >>> ((6 : Int32) &&& 31).toUInt32).toInt32).toInt64)), .second, .val (.long (1 : Int64)), .second] []))
    refine own_go (fun t k => XS.lloadN X0.here hx rfl (hb hby d1_19) rfl  k) ?_
    show OwnWk _ _ _ _ (s₁.setTop (mkF m 20 #[.val (.int u), .val (.long (((u.toUInt32 >>> ((6 : Int32) &&& 31).toUInt32).toInt32).toInt64)), .second, .val (.long (1 : Int64)), .second] [(.long (((u.toUInt32 >>> ((6 : Int32) &&& 31).toUInt32).toInt32).toInt64))]))
    refine own_go (fun t k => XS.lloadN X0.here hx rfl (hb hby d1_20) rfl  k) ?_
    show OwnWk _ _ _ _ (s₁.setTop (mkF m 21 #[.val (.int u), .val (.long (((u.toUInt32 >>> ((6 : Int32) &&& 31).toUInt32).toInt32).toInt64)), .second, .val (.long (1 : Int64)), .second] [(.long (1 : Int64)), (.long (((u.toUInt32 >>> ((6 : Int32) &&& 31).toUInt32).toInt32).toInt64))]))
    refine own_go (fun t k => XS.ladd X0.here hx rfl (hb hby d1_21) rfl k) ?_
    show OwnWk _ _ _ _ (s₁.setTop (mkF m 22 #[.val (.int u), .val (.long (((u.toUInt32 >>> ((6 : Int32) &&& 31).toUInt32).toInt32).toInt64)), .second, .val (.long (1 : Int64)), .second] [(.long ((((u.toUInt32 >>> ((6 : Int32) &&& 31).toUInt32).toInt32).toInt64) + (1 : Int64)))]))
    exact own_retJ X0 hx hlk hret (hb hby d1_22) (by decide) (by decide) (by rw [e0]; exact ⟨by simp [own_words, hc1], N0, rfl⟩)
theorem pn_pn_2 : plainName "com/example/enrichd/enrichd/store/ChunkIndex" = true := by first | (simp [plainName, overriddenIn]; done) | decide +kernel
theorem pn_2 : plainFor (⟨"com/example/enrichd/enrichd/store/ChunkIndex", "bytes", "(IJ)J"⟩ : MethodName) = true := plainFor_of_name pn_pn_2
theorem d2_0 : decode prog_95_method_12_code 0 = .ok (.iload_n 0, 1) := by decide +kernel
theorem d2_1 : decode prog_95_method_12_code 1 = .ok (.bipush 64, 2) := by decide +kernel
theorem d2_3 : decode prog_95_method_12_code 3 = .ok (.iadd, 1) := by decide +kernel
theorem d2_4 : decode prog_95_method_12_code 4 = .ok (.iconst 1, 1) := by decide +kernel
theorem d2_5 : decode prog_95_method_12_code 5 = .ok (.isub, 1) := by decide +kernel
theorem d2_6 : decode prog_95_method_12_code 6 = .ok (.bipush 64, 2) := by decide +kernel
theorem d2_8 : decode prog_95_method_12_code 8 = .ok (.idiv, 1) := by decide +kernel
theorem d2_9 : decode prog_95_method_12_code 9 = .ok (.i2l, 1) := by decide +kernel
theorem d2_10 : decode prog_95_method_12_code 10 = .ok (.lstore_n 3, 1) := by decide +kernel
theorem d2_11 : decode prog_95_method_12_code 11 = .ok (.ldc2_w 110, 3) := by decide +kernel
theorem d2_14 : decode prog_95_method_12_code 14 = .ok (.ldc2_w 108, 3) := by decide +kernel
theorem d2_17 : decode prog_95_method_12_code 17 = .ok (.iload_n 0, 1) := by decide +kernel
theorem d2_18 : decode prog_95_method_12_code 18 = .ok (.i2l, 1) := by decide +kernel
theorem d2_19 : decode prog_95_method_12_code 19 = .ok (.lmul, 1) := by decide +kernel
theorem d2_20 : decode prog_95_method_12_code 20 = .ok (.ladd, 1) := by decide +kernel
theorem d2_21 : decode prog_95_method_12_code 21 = .ok (.ldc2_w 108, 3) := by decide +kernel
theorem d2_24 : decode prog_95_method_12_code 24 = .ok (.lload_n 3, 1) := by decide +kernel
theorem d2_25 : decode prog_95_method_12_code 25 = .ok (.lmul, 1) := by decide +kernel
theorem d2_26 : decode prog_95_method_12_code 26 = .ok (.ldc2_w 114, 3) := by decide +kernel
theorem d2_29 : decode prog_95_method_12_code 29 = .ok (.ladd, 1) := by decide +kernel
theorem d2_30 : decode prog_95_method_12_code 30 = .ok (.lload_n 1, 1) := by decide +kernel
theorem d2_31 : decode prog_95_method_12_code 31 = .ok (.lmul, 1) := by decide +kernel
theorem d2_32 : decode prog_95_method_12_code 32 = .ok (.ladd, 1) := by decide +kernel
theorem d2_33 : decode prog_95_method_12_code 33 = .ok (.lreturn, 1) := by decide +kernel
theorem ef_rm2 (m : MethodId) (x0 : Int32) (x1 : Int64) : entryFrame m #[(.int x0), (.long x1)] 5 = mkF m 0 #[.val (.int x0), .val (.long x1), .second, .unset, .unset] [] := by first | (simp [entryFrame, mkF, argsToLocals, Value.category]; done) | rfl
def Q_rm2 (Z : State) (u : Int32) (r : Int64) (h0 : Heap) (n0 : Nat) (v : Option Value) (h : Heap) (L : List Loc) : Prop := v = some (.long (own_bytes u r)) ∧ Fr n0 L ∧ h = h0
set_option maxRecDepth 65536 in
set_option maxHeartbeats 40000000 in
theorem rm2 (l : Launch) (Z : State) (a0 : Array Value) (hw : ∀ d ∈ tables_1, d.before a0 Z = true) (u : Int32) (r : Int64) (h0 : Heap) (n0 : Nat) (Z0 : n0 ≤ h0.size)  :
    OwnMet l (⟨"com/example/enrichd/enrichd/store/ChunkIndex", "bytes", "(IJ)J"⟩ : MethodName) prog_95_method_12_code 5 (some .long) [] ({ frames := 0, cells := 0, slots := 0, locals := 0 } : Room) Z #[(.int u), (.long r)] h0 (Q_rm2 Z u r h0 n0) := by
  refine own_met pn_2 (fun p e s m below meth c s₁ hx hby hml hown hnm hret hlk hZ X0 e0 => ?_)
  have hown : s.vm.findClass "com/example/enrichd/enrichd/store/ChunkIndex" = some m.cls := hown
  have N0 := Fr.nil n0
  rw [ef_rm2]
  show OwnWk _ _ _ _ (s₁.setTop (mkF m 0 #[.val (.int u), .val (.long r), .second, .unset, .unset] []))
  refine own_go (fun t k => XS.iloadN X0.here hx rfl (hb hby d2_0) rfl  k) ?_
  show OwnWk _ _ _ _ (s₁.setTop (mkF m 1 #[.val (.int u), .val (.long r), .second, .unset, .unset] [(.int u)]))
  refine own_go (fun t k => XS.bipush X0.here hx rfl (hb hby d2_1) k) ?_
  show OwnWk _ _ _ _ (s₁.setTop (mkF m 3 #[.val (.int u), .val (.long r), .second, .unset, .unset] [(.int (64 : Int32)), (.int u)]))
  refine own_go (fun t k => XS.iadd X0.here hx rfl (hb hby d2_3) rfl k) ?_
  show OwnWk _ _ _ _ (s₁.setTop (mkF m 4 #[.val (.int u), .val (.long r), .second, .unset, .unset] [(.int (u + (64 : Int32)))]))
  refine own_go (fun t k => XS.iconst X0.here hx rfl (hb hby d2_4) k) ?_
  show OwnWk _ _ _ _ (s₁.setTop (mkF m 5 #[.val (.int u), .val (.long r), .second, .unset, .unset] [(.int (1 : Int32)), (.int (u + (64 : Int32)))]))
  refine own_go (fun t k => XS.isub X0.here hx rfl (hb hby d2_5) rfl k) ?_
  show OwnWk _ _ _ _ (s₁.setTop (mkF m 6 #[.val (.int u), .val (.long r), .second, .unset, .unset] [(.int ((u + (64 : Int32)) - (1 : Int32)))]))
  refine own_go (fun t k => XS.bipush X0.here hx rfl (hb hby d2_6) k) ?_
  show OwnWk _ _ _ _ (s₁.setTop (mkF m 8 #[.val (.int u), .val (.long r), .second, .unset, .unset] [(.int (64 : Int32)), (.int ((u + (64 : Int32)) - (1 : Int32)))]))
  refine own_go (fun t k => XS.idiv X0.here hx rfl (hb hby d2_8) rfl (by decide) k) ?_
  show OwnWk _ _ _ _ (s₁.setTop (mkF m 9 #[.val (.int u), .val (.long r), .second, .unset, .unset] [(.int (((u + (64 : Int32)) - (1 : Int32)) / (64 : Int32)))]))
  refine own_go (fun t k => XS.i2l X0.here hx rfl (hb hby d2_9) rfl k) ?_
  show OwnWk _ _ _ _ (s₁.setTop (mkF m 10 #[.val (.int u), .val (.long r), .second, .unset, .unset] [(.long ((((u + (64 : Int32)) - (1 : Int32)) / (64 : Int32)).toInt64))]))
  refine own_go (fun t k => XS.lstoreN X0.here hx rfl (hb hby d2_10) rfl (l' := #[.val (.int u), .val (.long r), .second, .val (.long ((((u + (64 : Int32)) - (1 : Int32)) / (64 : Int32)).toInt64)), .second]) rfl k) ?_
  show OwnWk _ _ _ _ (s₁.setTop (mkF m 11 #[.val (.int u), .val (.long r), .second, .val (.long ((((u + (64 : Int32)) - (1 : Int32)) / (64 : Int32)).toInt64)), .second] []))
  refine own_go (X0.ldc2Long hx hown (mvT hZ (hw _ (List.mem_of_getElem? (i := 12) rfl))) (g := (mkF m 11 #[.val (.int u), .val (.long r), .second, .val (.long ((((u + (64 : Int32)) - (1 : Int32)) / (64 : Int32)).toInt64)), .second] [])) rfl (hb hby d2_11)) ?_
  show OwnWk _ _ _ _ (s₁.setTop (mkF m 14 #[.val (.int u), .val (.long r), .second, .val (.long ((((u + (64 : Int32)) - (1 : Int32)) / (64 : Int32)).toInt64)), .second] [(.long (256 : Int64))]))
  refine own_go (X0.ldc2Long hx hown (mvT hZ (hw _ (List.mem_of_getElem? (i := 13) rfl))) (g := (mkF m 14 #[.val (.int u), .val (.long r), .second, .val (.long ((((u + (64 : Int32)) - (1 : Int32)) / (64 : Int32)).toInt64)), .second] [(.long (256 : Int64))])) rfl (hb hby d2_14)) ?_
  show OwnWk _ _ _ _ (s₁.setTop (mkF m 17 #[.val (.int u), .val (.long r), .second, .val (.long ((((u + (64 : Int32)) - (1 : Int32)) / (64 : Int32)).toInt64)), .second] [(.long (8 : Int64)), (.long (256 : Int64))]))
  refine own_go (fun t k => XS.iloadN X0.here hx rfl (hb hby d2_17) rfl  k) ?_
  show OwnWk _ _ _ _ (s₁.setTop (mkF m 18 #[.val (.int u), .val (.long r), .second, .val (.long ((((u + (64 : Int32)) - (1 : Int32)) / (64 : Int32)).toInt64)), .second] [(.int u), (.long (8 : Int64)), (.long (256 : Int64))]))
  refine own_go (fun t k => XS.i2l X0.here hx rfl (hb hby d2_18) rfl k) ?_
  show OwnWk _ _ _ _ (s₁.setTop (mkF m 19 #[.val (.int u), .val (.long r), .second, .val (.long ((((u + (64 : Int32)) - (1 : Int32)) / (64 : Int32)).toInt64)), .second] [(.long (u.toInt64)), (.long (8 : Int64)), (.long (256 : Int64))]))
  refine own_go (fun t k => XS.lmul X0.here hx rfl (hb hby d2_19) rfl k) ?_
  show OwnWk _ _ _ _ (s₁.setTop (mkF m 20 #[.val (.int u), .val (.long r), .second, .val (.long ((((u + (64 : Int32)) - (1 : Int32)) / (64 : Int32)).toInt64)), .second] [(.long ((8 : Int64) * (u.toInt64))), (.long (256 : Int64))]))
  refine own_go (fun t k => XS.ladd X0.here hx rfl (hb hby d2_20) rfl k) ?_
  show OwnWk _ _ _ _ (s₁.setTop (mkF m 21 #[.val (.int u), .val (.long r), .second, .val (.long ((((u + (64 : Int32)) - (1 : Int32)) / (64 : Int32)).toInt64)), .second] [(.long ((256 : Int64) + ((8 : Int64) * (u.toInt64))))]))
  refine own_go (X0.ldc2Long hx hown (mvT hZ (hw _ (List.mem_of_getElem? (i := 13) rfl))) (g := (mkF m 21 #[.val (.int u), .val (.long r), .second, .val (.long ((((u + (64 : Int32)) - (1 : Int32)) / (64 : Int32)).toInt64)), .second] [(.long ((256 : Int64) + ((8 : Int64) * (u.toInt64))))])) rfl (hb hby d2_21)) ?_
  show OwnWk _ _ _ _ (s₁.setTop (mkF m 24 #[.val (.int u), .val (.long r), .second, .val (.long ((((u + (64 : Int32)) - (1 : Int32)) / (64 : Int32)).toInt64)), .second] [(.long (8 : Int64)), (.long ((256 : Int64) + ((8 : Int64) * (u.toInt64))))]))
  refine own_go (fun t k => XS.lloadN X0.here hx rfl (hb hby d2_24) rfl  k) ?_
  show OwnWk _ _ _ _ (s₁.setTop (mkF m 25 #[.val (.int u), .val (.long r), .second, .val (.long ((((u + (64 : Int32)) - (1 : Int32)) / (64 : Int32)).toInt64)), .second] [(.long ((((u + (64 : Int32)) - (1 : Int32)) / (64 : Int32)).toInt64)), (.long (8 : Int64)), (.long ((256 : Int64) + ((8 : Int64) * (u.toInt64))))]))
  refine own_go (fun t k => XS.lmul X0.here hx rfl (hb hby d2_25) rfl k) ?_
  show OwnWk _ _ _ _ (s₁.setTop (mkF m 26 #[.val (.int u), .val (.long r), .second, .val (.long ((((u + (64 : Int32)) - (1 : Int32)) / (64 : Int32)).toInt64)), .second] [(.long ((8 : Int64) * ((((u + (64 : Int32)) - (1 : Int32)) / (64 : Int32)).toInt64))), (.long ((256 : Int64) + ((8 : Int64) * (u.toInt64))))]))
  refine own_go (X0.ldc2Long hx hown (mvT hZ (hw _ (List.mem_of_getElem? (i := 14) rfl))) (g := (mkF m 26 #[.val (.int u), .val (.long r), .second, .val (.long ((((u + (64 : Int32)) - (1 : Int32)) / (64 : Int32)).toInt64)), .second] [(.long ((8 : Int64) * ((((u + (64 : Int32)) - (1 : Int32)) / (64 : Int32)).toInt64))), (.long ((256 : Int64) + ((8 : Int64) * (u.toInt64))))])) rfl (hb hby d2_26)) ?_
  show OwnWk _ _ _ _ (s₁.setTop (mkF m 29 #[.val (.int u), .val (.long r), .second, .val (.long ((((u + (64 : Int32)) - (1 : Int32)) / (64 : Int32)).toInt64)), .second] [(.long (16 : Int64)), (.long ((8 : Int64) * ((((u + (64 : Int32)) - (1 : Int32)) / (64 : Int32)).toInt64))), (.long ((256 : Int64) + ((8 : Int64) * (u.toInt64))))]))
  refine own_go (fun t k => XS.ladd X0.here hx rfl (hb hby d2_29) rfl k) ?_
  show OwnWk _ _ _ _ (s₁.setTop (mkF m 30 #[.val (.int u), .val (.long r), .second, .val (.long ((((u + (64 : Int32)) - (1 : Int32)) / (64 : Int32)).toInt64)), .second] [(.long (((8 : Int64) * ((((u + (64 : Int32)) - (1 : Int32)) / (64 : Int32)).toInt64)) + (16 : Int64))), (.long ((256 : Int64) + ((8 : Int64) * (u.toInt64))))]))
  refine own_go (fun t k => XS.lloadN X0.here hx rfl (hb hby d2_30) rfl  k) ?_
  show OwnWk _ _ _ _ (s₁.setTop (mkF m 31 #[.val (.int u), .val (.long r), .second, .val (.long ((((u + (64 : Int32)) - (1 : Int32)) / (64 : Int32)).toInt64)), .second] [(.long r), (.long (((8 : Int64) * ((((u + (64 : Int32)) - (1 : Int32)) / (64 : Int32)).toInt64)) + (16 : Int64))), (.long ((256 : Int64) + ((8 : Int64) * (u.toInt64))))]))
  refine own_go (fun t k => XS.lmul X0.here hx rfl (hb hby d2_31) rfl k) ?_
  show OwnWk _ _ _ _ (s₁.setTop (mkF m 32 #[.val (.int u), .val (.long r), .second, .val (.long ((((u + (64 : Int32)) - (1 : Int32)) / (64 : Int32)).toInt64)), .second] [(.long ((((8 : Int64) * ((((u + (64 : Int32)) - (1 : Int32)) / (64 : Int32)).toInt64)) + (16 : Int64)) * r)), (.long ((256 : Int64) + ((8 : Int64) * (u.toInt64))))]))
  refine own_go (fun t k => XS.ladd X0.here hx rfl (hb hby d2_32) rfl k) ?_
  show OwnWk _ _ _ _ (s₁.setTop (mkF m 33 #[.val (.int u), .val (.long r), .second, .val (.long ((((u + (64 : Int32)) - (1 : Int32)) / (64 : Int32)).toInt64)), .second] [(.long (((256 : Int64) + ((8 : Int64) * (u.toInt64))) + ((((8 : Int64) * ((((u + (64 : Int32)) - (1 : Int32)) / (64 : Int32)).toInt64)) + (16 : Int64)) * r)))]))
  exact own_retJ X0 hx hlk hret (hb hby d2_33) (by decide) (by decide) (by rw [e0]; exact ⟨rfl, N0, rfl⟩)
theorem pn_pn_0 : plainName "com/example/enrichd/enrichd/store/ChunkIndexBytesPinLaw" = true := by first | (simp [plainName, overriddenIn]; done) | decide +kernel
theorem pn_0 : plainFor x = true := plainFor_of_name pn_pn_0
theorem pd_0 : parseMethodDescriptor "(I)J" = some ⟨[.int], some .long⟩ := by decide +kernel
theorem pd_1 : parseMethodDescriptor "(IJ)J" = some ⟨[.int, .long], some .long⟩ := by decide +kernel
theorem ef_rm0 (m : MethodId) (x0 : Int32) (x1 : Int64) : entryFrame m #[(.int x0), (.long x1)] maxLocals = mkF m 0 #[.val (.int x0), .val (.long x1), .second, .unset, .unset, .unset, .unset, .unset, .unset, .unset, .unset, .unset, .unset, .unset, .unset, .unset, .unset, .unset, .unset, .unset] [] := by first | (simp [entryFrame, mkF, argsToLocals, Value.category, maxLocals]; done) | rfl
def Q_rm0 (Z : State) (u : Int32) (r : Int64) (h0 : Heap) (n0 : Nat) (v : Option Value) (h : Heap) (L : List Loc) : Prop := v = some (.int 1) ∧ Fr n0 L
set_option maxRecDepth 65536 in
set_option maxHeartbeats 40000000 in
theorem rm0 (l : Launch) (Z : State) (a0 : Array Value) (hw : ∀ d ∈ tables_1, d.before a0 Z = true) (u : Int32) (r : Int64) (h0 : Heap) (n0 : Nat) (Z0 : n0 ≤ h0.size)  :
    OwnMet l x code maxLocals ret tables_1 room_1 Z #[(.int u), (.long r)] h0 (Q_rm0 Z u r h0 n0) := by
  refine own_met pn_0 (fun p e s m below meth c s₁ hx hby hml hown hnm hret hlk hZ X0 e0 => ?_)
  have hml : c.maxLocals = 20 := hml
  have hret : meth.sig.returnType = some .boolean := hret
  have hown : s.vm.findClass "com/example/enrichd/enrichd/store/ChunkIndexBytesPinLaw" = some m.cls := hown
  have N0 := Fr.nil n0
  rw [ef_rm0]
  show OwnWk _ _ _ _ (s₁.setTop (mkF m 0 #[.val (.int u), .val (.long r), .second, .unset, .unset, .unset, .unset, .unset, .unset, .unset, .unset, .unset, .unset, .unset, .unset, .unset, .unset, .unset, .unset, .unset] []))
  refine own_go (fun t k => XS.iloadN X0.here hx rfl (hb hby at_0) rfl  k) ?_
  show OwnWk _ _ _ _ (s₁.setTop (mkF m 1 #[.val (.int u), .val (.long r), .second, .unset, .unset, .unset, .unset, .unset, .unset, .unset, .unset, .unset, .unset, .unset, .unset, .unset, .unset, .unset, .unset, .unset] [(.int u)]))
  refine own_go (X0.ldcInt hx hown (mvT hZ (hw _ (List.mem_of_getElem? (i := 0) rfl))) (g := (mkF m 1 #[.val (.int u), .val (.long r), .second, .unset, .unset, .unset, .unset, .unset, .unset, .unset, .unset, .unset, .unset, .unset, .unset, .unset, .unset, .unset, .unset, .unset] [(.int u)])) rfl (hb hby at_1)) ?_
  show OwnWk _ _ _ _ (s₁.setTop (mkF m 3 #[.val (.int u), .val (.long r), .second, .unset, .unset, .unset, .unset, .unset, .unset, .unset, .unset, .unset, .unset, .unset, .unset, .unset, .unset, .unset, .unset, .unset] [(.int (2147483647 : Int32)), (.int u)]))
  refine own_go (fun t k => XS.iand X0.here hx rfl (hb hby at_3) rfl k) ?_
  show OwnWk _ _ _ _ (s₁.setTop (mkF m 4 #[.val (.int u), .val (.long r), .second, .unset, .unset, .unset, .unset, .unset, .unset, .unset, .unset, .unset, .unset, .unset, .unset, .unset, .unset, .unset, .unset, .unset] [(.int (u &&& (2147483647 : Int32)))]))
  refine own_go (X0.ldcInt hx hown (mvT hZ (hw _ (List.mem_of_getElem? (i := 1) rfl))) (g := (mkF m 4 #[.val (.int u), .val (.long r), .second, .unset, .unset, .unset, .unset, .unset, .unset, .unset, .unset, .unset, .unset, .unset, .unset, .unset, .unset, .unset, .unset, .unset] [(.int (u &&& (2147483647 : Int32)))])) rfl (hb hby at_4)) ?_
  show OwnWk _ _ _ _ (s₁.setTop (mkF m 6 #[.val (.int u), .val (.long r), .second, .unset, .unset, .unset, .unset, .unset, .unset, .unset, .unset, .unset, .unset, .unset, .unset, .unset, .unset, .unset, .unset, .unset] [(.int (2147483585 : Int32)), (.int (u &&& (2147483647 : Int32)))]))
  refine own_go (fun t k => Jvm.RoadKit.iremM X0 hx rfl (hb hby at_6) rfl (by decide) k) ?_
  show OwnWk _ _ _ _ (s₁.setTop (mkF m 7 #[.val (.int u), .val (.long r), .second, .unset, .unset, .unset, .unset, .unset, .unset, .unset, .unset, .unset, .unset, .unset, .unset, .unset, .unset, .unset, .unset, .unset] [(.int ((u &&& (2147483647 : Int32)) % (2147483585 : Int32)))]))
  obtain ⟨d, h_d⟩ : ∃ z : Int32, z = ((u &&& (2147483647 : Int32)) % (2147483585 : Int32)) := ⟨_, rfl⟩
  rw [← h_d]
  refine own_go (fun t k => XS.istoreN X0.here hx rfl (hb hby at_7) rfl (l' := #[.val (.int u), .val (.long r), .second, .val (.int d), .unset, .unset, .unset, .unset, .unset, .unset, .unset, .unset, .unset, .unset, .unset, .unset, .unset, .unset, .unset, .unset]) rfl k) ?_
  show OwnWk _ _ _ _ (s₁.setTop (mkF m 8 #[.val (.int u), .val (.long r), .second, .val (.int d), .unset, .unset, .unset, .unset, .unset, .unset, .unset, .unset, .unset, .unset, .unset, .unset, .unset, .unset, .unset, .unset] []))
  refine own_go (fun t k => XS.iloadN X0.here hx rfl (hb hby at_8) rfl  k) ?_
  show OwnWk _ _ _ _ (s₁.setTop (mkF m 9 #[.val (.int u), .val (.long r), .second, .val (.int d), .unset, .unset, .unset, .unset, .unset, .unset, .unset, .unset, .unset, .unset, .unset, .unset, .unset, .unset, .unset, .unset] [(.int d)]))
  refine own_callS X0 hx hZ (y := (⟨"com/example/enrichd/enrichd/store/ChunkIndexBytesPinLaw", "wordsOf", "(I)J"⟩ : MethodName)) hown (hw _ (List.mem_of_getElem? (i := 2) rfl)) (hw _ (List.mem_of_getElem? (i := 3) rfl)) (hw _ (List.mem_of_getElem? (i := 4) rfl)) (hw _ (List.mem_of_getElem? (i := 5) rfl)) (by decide) (argsL := [(.int d)]) (rest := []) (rm := ({ frames := 0, cells := 0, slots := 0, locals := 0 } : Room)) (h := h0) (rm1 l Z a0 hw d h0 n0 Z0) e0 (W := 0) (by decide) (by decide) (by decide) (by decide) (g := (mkF m 9 #[.val (.int u), .val (.long r), .second, .val (.int d), .unset, .unset, .unset, .unset, .unset, .unset, .unset, .unset, .unset, .unset, .unset, .unset, .unset, .unset, .unset, .unset] [(.int d)])) rfl (by rw [hml]; rfl) (lenOf pd_0 rfl) rfl (by show 2 * 0 + _ ≤ _; exact Nat.le_of_eq rfl) (hb hby at_9) (fun v1 T1 h1 L1 X1 e1 hQ1 => ?_)
  obtain ⟨rfl, Nq1, q1⟩ := hQ1
  have N1 := Fr.app N0 Nq1
  rw [q1] at e1
  show OwnWk _ _ _ _ (T1.setTop (mkF m 12 #[.val (.int u), .val (.long r), .second, .val (.int d), .unset, .unset, .unset, .unset, .unset, .unset, .unset, .unset, .unset, .unset, .unset, .unset, .unset, .unset, .unset, .unset] [(.long (own_words d))]))
  refine own_go (fun t k => XS.lstore X1.here hx rfl (hb hby at_12) rfl (l' := #[.val (.int u), .val (.long r), .second, .val (.int d), .val (.long (own_words d)), .second, .unset, .unset, .unset, .unset, .unset, .unset, .unset, .unset, .unset, .unset, .unset, .unset, .unset, .unset]) rfl k) ?_
  show OwnWk _ _ _ _ (T1.setTop (mkF m 14 #[.val (.int u), .val (.long r), .second, .val (.int d), .val (.long (own_words d)), .second, .unset, .unset, .unset, .unset, .unset, .unset, .unset, .unset, .unset, .unset, .unset, .unset, .unset, .unset] []))
  refine own_go (X1.ldc2Long hx hown (mvT hZ (hw _ (List.mem_of_getElem? (i := 6) rfl))) (g := (mkF m 14 #[.val (.int u), .val (.long r), .second, .val (.int d), .val (.long (own_words d)), .second, .unset, .unset, .unset, .unset, .unset, .unset, .unset, .unset, .unset, .unset, .unset, .unset, .unset, .unset] [])) rfl (hb hby at_14)) ?_
  show OwnWk _ _ _ _ (T1.setTop (mkF m 17 #[.val (.int u), .val (.long r), .second, .val (.int d), .val (.long (own_words d)), .second, .unset, .unset, .unset, .unset, .unset, .unset, .unset, .unset, .unset, .unset, .unset, .unset, .unset, .unset] [(.long (256 : Int64))]))
  refine own_go (fun t k => XS.lstore X1.here hx rfl (hb hby at_17) rfl (l' := #[.val (.int u), .val (.long r), .second, .val (.int d), .val (.long (own_words d)), .second, .val (.long (256 : Int64)), .second, .unset, .unset, .unset, .unset, .unset, .unset, .unset, .unset, .unset, .unset, .unset, .unset]) rfl k) ?_
  show OwnWk _ _ _ _ (T1.setTop (mkF m 19 #[.val (.int u), .val (.long r), .second, .val (.int d), .val (.long (own_words d)), .second, .val (.long (256 : Int64)), .second, .unset, .unset, .unset, .unset, .unset, .unset, .unset, .unset, .unset, .unset, .unset, .unset] []))
  refine own_go (X1.ldc2Long hx hown (mvT hZ (hw _ (List.mem_of_getElem? (i := 7) rfl))) (g := (mkF m 19 #[.val (.int u), .val (.long r), .second, .val (.int d), .val (.long (own_words d)), .second, .val (.long (256 : Int64)), .second, .unset, .unset, .unset, .unset, .unset, .unset, .unset, .unset, .unset, .unset, .unset, .unset] [])) rfl (hb hby at_19)) ?_
  show OwnWk _ _ _ _ (T1.setTop (mkF m 22 #[.val (.int u), .val (.long r), .second, .val (.int d), .val (.long (own_words d)), .second, .val (.long (256 : Int64)), .second, .unset, .unset, .unset, .unset, .unset, .unset, .unset, .unset, .unset, .unset, .unset, .unset] [(.long (8 : Int64))]))
  refine own_go (fun t k => XS.iloadN X1.here hx rfl (hb hby at_22) rfl  k) ?_
  show OwnWk _ _ _ _ (T1.setTop (mkF m 23 #[.val (.int u), .val (.long r), .second, .val (.int d), .val (.long (own_words d)), .second, .val (.long (256 : Int64)), .second, .unset, .unset, .unset, .unset, .unset, .unset, .unset, .unset, .unset, .unset, .unset, .unset] [(.int d), (.long (8 : Int64))]))
  refine own_go (fun t k => XS.i2l X1.here hx rfl (hb hby at_23) rfl k) ?_
  show OwnWk _ _ _ _ (T1.setTop (mkF m 24 #[.val (.int u), .val (.long r), .second, .val (.int d), .val (.long (own_words d)), .second, .val (.long (256 : Int64)), .second, .unset, .unset, .unset, .unset, .unset, .unset, .unset, .unset, .unset, .unset, .unset, .unset] [(.long (d.toInt64)), (.long (8 : Int64))]))
  refine own_go (fun t k => XS.lmul X1.here hx rfl (hb hby at_24) rfl k) ?_
  show OwnWk _ _ _ _ (T1.setTop (mkF m 25 #[.val (.int u), .val (.long r), .second, .val (.int d), .val (.long (own_words d)), .second, .val (.long (256 : Int64)), .second, .unset, .unset, .unset, .unset, .unset, .unset, .unset, .unset, .unset, .unset, .unset, .unset] [(.long ((8 : Int64) * (d.toInt64)))]))
  refine own_go (fun t k => XS.lstore X1.here hx rfl (hb hby at_25) rfl (l' := #[.val (.int u), .val (.long r), .second, .val (.int d), .val (.long (own_words d)), .second, .val (.long (256 : Int64)), .second, .val (.long ((8 : Int64) * (d.toInt64))), .second, .unset, .unset, .unset, .unset, .unset, .unset, .unset, .unset, .unset, .unset]) rfl k) ?_
  show OwnWk _ _ _ _ (T1.setTop (mkF m 27 #[.val (.int u), .val (.long r), .second, .val (.int d), .val (.long (own_words d)), .second, .val (.long (256 : Int64)), .second, .val (.long ((8 : Int64) * (d.toInt64))), .second, .unset, .unset, .unset, .unset, .unset, .unset, .unset, .unset, .unset, .unset] []))
  refine own_go (X1.ldc2Long hx hown (mvT hZ (hw _ (List.mem_of_getElem? (i := 7) rfl))) (g := (mkF m 27 #[.val (.int u), .val (.long r), .second, .val (.int d), .val (.long (own_words d)), .second, .val (.long (256 : Int64)), .second, .val (.long ((8 : Int64) * (d.toInt64))), .second, .unset, .unset, .unset, .unset, .unset, .unset, .unset, .unset, .unset, .unset] [])) rfl (hb hby at_27)) ?_
  show OwnWk _ _ _ _ (T1.setTop (mkF m 30 #[.val (.int u), .val (.long r), .second, .val (.int d), .val (.long (own_words d)), .second, .val (.long (256 : Int64)), .second, .val (.long ((8 : Int64) * (d.toInt64))), .second, .unset, .unset, .unset, .unset, .unset, .unset, .unset, .unset, .unset, .unset] [(.long (8 : Int64))]))
  refine own_go (fun t k => XS.lload X1.here hx rfl (hb hby at_30) rfl  k) ?_
  show OwnWk _ _ _ _ (T1.setTop (mkF m 32 #[.val (.int u), .val (.long r), .second, .val (.int d), .val (.long (own_words d)), .second, .val (.long (256 : Int64)), .second, .val (.long ((8 : Int64) * (d.toInt64))), .second, .unset, .unset, .unset, .unset, .unset, .unset, .unset, .unset, .unset, .unset] [(.long (own_words d)), (.long (8 : Int64))]))
  refine own_go (fun t k => XS.lmul X1.here hx rfl (hb hby at_32) rfl k) ?_
  show OwnWk _ _ _ _ (T1.setTop (mkF m 33 #[.val (.int u), .val (.long r), .second, .val (.int d), .val (.long (own_words d)), .second, .val (.long (256 : Int64)), .second, .val (.long ((8 : Int64) * (d.toInt64))), .second, .unset, .unset, .unset, .unset, .unset, .unset, .unset, .unset, .unset, .unset] [(.long ((8 : Int64) * (own_words d)))]))
  refine own_go (fun t k => XS.lstore X1.here hx rfl (hb hby at_33) rfl (l' := #[.val (.int u), .val (.long r), .second, .val (.int d), .val (.long (own_words d)), .second, .val (.long (256 : Int64)), .second, .val (.long ((8 : Int64) * (d.toInt64))), .second, .val (.long ((8 : Int64) * (own_words d))), .second, .unset, .unset, .unset, .unset, .unset, .unset, .unset, .unset]) rfl k) ?_
  show OwnWk _ _ _ _ (T1.setTop (mkF m 35 #[.val (.int u), .val (.long r), .second, .val (.int d), .val (.long (own_words d)), .second, .val (.long (256 : Int64)), .second, .val (.long ((8 : Int64) * (d.toInt64))), .second, .val (.long ((8 : Int64) * (own_words d))), .second, .unset, .unset, .unset, .unset, .unset, .unset, .unset, .unset] []))
  refine own_go (X1.ldc2Long hx hown (mvT hZ (hw _ (List.mem_of_getElem? (i := 7) rfl))) (g := (mkF m 35 #[.val (.int u), .val (.long r), .second, .val (.int d), .val (.long (own_words d)), .second, .val (.long (256 : Int64)), .second, .val (.long ((8 : Int64) * (d.toInt64))), .second, .val (.long ((8 : Int64) * (own_words d))), .second, .unset, .unset, .unset, .unset, .unset, .unset, .unset, .unset] [])) rfl (hb hby at_35)) ?_
  show OwnWk _ _ _ _ (T1.setTop (mkF m 38 #[.val (.int u), .val (.long r), .second, .val (.int d), .val (.long (own_words d)), .second, .val (.long (256 : Int64)), .second, .val (.long ((8 : Int64) * (d.toInt64))), .second, .val (.long ((8 : Int64) * (own_words d))), .second, .unset, .unset, .unset, .unset, .unset, .unset, .unset, .unset] [(.long (8 : Int64))]))
  refine own_go (fun t k => XS.lstore X1.here hx rfl (hb hby at_38) rfl (l' := #[.val (.int u), .val (.long r), .second, .val (.int d), .val (.long (own_words d)), .second, .val (.long (256 : Int64)), .second, .val (.long ((8 : Int64) * (d.toInt64))), .second, .val (.long ((8 : Int64) * (own_words d))), .second, .val (.long (8 : Int64)), .second, .unset, .unset, .unset, .unset, .unset, .unset]) rfl k) ?_
  show OwnWk _ _ _ _ (T1.setTop (mkF m 40 #[.val (.int u), .val (.long r), .second, .val (.int d), .val (.long (own_words d)), .second, .val (.long (256 : Int64)), .second, .val (.long ((8 : Int64) * (d.toInt64))), .second, .val (.long ((8 : Int64) * (own_words d))), .second, .val (.long (8 : Int64)), .second, .unset, .unset, .unset, .unset, .unset, .unset] []))
  refine own_go (X1.ldc2Long hx hown (mvT hZ (hw _ (List.mem_of_getElem? (i := 7) rfl))) (g := (mkF m 40 #[.val (.int u), .val (.long r), .second, .val (.int d), .val (.long (own_words d)), .second, .val (.long (256 : Int64)), .second, .val (.long ((8 : Int64) * (d.toInt64))), .second, .val (.long ((8 : Int64) * (own_words d))), .second, .val (.long (8 : Int64)), .second, .unset, .unset, .unset, .unset, .unset, .unset] [])) rfl (hb hby at_40)) ?_
  show OwnWk _ _ _ _ (T1.setTop (mkF m 43 #[.val (.int u), .val (.long r), .second, .val (.int d), .val (.long (own_words d)), .second, .val (.long (256 : Int64)), .second, .val (.long ((8 : Int64) * (d.toInt64))), .second, .val (.long ((8 : Int64) * (own_words d))), .second, .val (.long (8 : Int64)), .second, .unset, .unset, .unset, .unset, .unset, .unset] [(.long (8 : Int64))]))
  refine own_go (fun t k => XS.lstore X1.here hx rfl (hb hby at_43) rfl (l' := #[.val (.int u), .val (.long r), .second, .val (.int d), .val (.long (own_words d)), .second, .val (.long (256 : Int64)), .second, .val (.long ((8 : Int64) * (d.toInt64))), .second, .val (.long ((8 : Int64) * (own_words d))), .second, .val (.long (8 : Int64)), .second, .val (.long (8 : Int64)), .second, .unset, .unset, .unset, .unset]) rfl k) ?_
  show OwnWk _ _ _ _ (T1.setTop (mkF m 45 #[.val (.int u), .val (.long r), .second, .val (.int d), .val (.long (own_words d)), .second, .val (.long (256 : Int64)), .second, .val (.long ((8 : Int64) * (d.toInt64))), .second, .val (.long ((8 : Int64) * (own_words d))), .second, .val (.long (8 : Int64)), .second, .val (.long (8 : Int64)), .second, .unset, .unset, .unset, .unset] []))
  refine own_go (fun t k => XS.lload X1.here hx rfl (hb hby at_45) rfl  k) ?_
  show OwnWk _ _ _ _ (T1.setTop (mkF m 47 #[.val (.int u), .val (.long r), .second, .val (.int d), .val (.long (own_words d)), .second, .val (.long (256 : Int64)), .second, .val (.long ((8 : Int64) * (d.toInt64))), .second, .val (.long ((8 : Int64) * (own_words d))), .second, .val (.long (8 : Int64)), .second, .val (.long (8 : Int64)), .second, .unset, .unset, .unset, .unset] [(.long (256 : Int64))]))
  refine own_go (fun t k => XS.lload X1.here hx rfl (hb hby at_47) rfl  k) ?_
  show OwnWk _ _ _ _ (T1.setTop (mkF m 49 #[.val (.int u), .val (.long r), .second, .val (.int d), .val (.long (own_words d)), .second, .val (.long (256 : Int64)), .second, .val (.long ((8 : Int64) * (d.toInt64))), .second, .val (.long ((8 : Int64) * (own_words d))), .second, .val (.long (8 : Int64)), .second, .val (.long (8 : Int64)), .second, .unset, .unset, .unset, .unset] [(.long ((8 : Int64) * (d.toInt64))), (.long (256 : Int64))]))
  refine own_go (fun t k => XS.ladd X1.here hx rfl (hb hby at_49) rfl k) ?_
  show OwnWk _ _ _ _ (T1.setTop (mkF m 50 #[.val (.int u), .val (.long r), .second, .val (.int d), .val (.long (own_words d)), .second, .val (.long (256 : Int64)), .second, .val (.long ((8 : Int64) * (d.toInt64))), .second, .val (.long ((8 : Int64) * (own_words d))), .second, .val (.long (8 : Int64)), .second, .val (.long (8 : Int64)), .second, .unset, .unset, .unset, .unset] [(.long ((256 : Int64) + ((8 : Int64) * (d.toInt64))))]))
  refine own_go (fun t k => XS.lload X1.here hx rfl (hb hby at_50) rfl  k) ?_
  show OwnWk _ _ _ _ (T1.setTop (mkF m 52 #[.val (.int u), .val (.long r), .second, .val (.int d), .val (.long (own_words d)), .second, .val (.long (256 : Int64)), .second, .val (.long ((8 : Int64) * (d.toInt64))), .second, .val (.long ((8 : Int64) * (own_words d))), .second, .val (.long (8 : Int64)), .second, .val (.long (8 : Int64)), .second, .unset, .unset, .unset, .unset] [(.long ((8 : Int64) * (own_words d))), (.long ((256 : Int64) + ((8 : Int64) * (d.toInt64))))]))
  refine own_go (fun t k => XS.lloadN X1.here hx rfl (hb hby at_52) rfl  k) ?_
  show OwnWk _ _ _ _ (T1.setTop (mkF m 53 #[.val (.int u), .val (.long r), .second, .val (.int d), .val (.long (own_words d)), .second, .val (.long (256 : Int64)), .second, .val (.long ((8 : Int64) * (d.toInt64))), .second, .val (.long ((8 : Int64) * (own_words d))), .second, .val (.long (8 : Int64)), .second, .val (.long (8 : Int64)), .second, .unset, .unset, .unset, .unset] [(.long r), (.long ((8 : Int64) * (own_words d))), (.long ((256 : Int64) + ((8 : Int64) * (d.toInt64))))]))
  refine own_go (fun t k => XS.lmul X1.here hx rfl (hb hby at_53) rfl k) ?_
  show OwnWk _ _ _ _ (T1.setTop (mkF m 54 #[.val (.int u), .val (.long r), .second, .val (.int d), .val (.long (own_words d)), .second, .val (.long (256 : Int64)), .second, .val (.long ((8 : Int64) * (d.toInt64))), .second, .val (.long ((8 : Int64) * (own_words d))), .second, .val (.long (8 : Int64)), .second, .val (.long (8 : Int64)), .second, .unset, .unset, .unset, .unset] [(.long (((8 : Int64) * (own_words d)) * r)), (.long ((256 : Int64) + ((8 : Int64) * (d.toInt64))))]))
  refine own_go (fun t k => XS.ladd X1.here hx rfl (hb hby at_54) rfl k) ?_
  show OwnWk _ _ _ _ (T1.setTop (mkF m 55 #[.val (.int u), .val (.long r), .second, .val (.int d), .val (.long (own_words d)), .second, .val (.long (256 : Int64)), .second, .val (.long ((8 : Int64) * (d.toInt64))), .second, .val (.long ((8 : Int64) * (own_words d))), .second, .val (.long (8 : Int64)), .second, .val (.long (8 : Int64)), .second, .unset, .unset, .unset, .unset] [(.long (((256 : Int64) + ((8 : Int64) * (d.toInt64))) + (((8 : Int64) * (own_words d)) * r)))]))
  refine own_go (fun t k => XS.lload X1.here hx rfl (hb hby at_55) rfl  k) ?_
  show OwnWk _ _ _ _ (T1.setTop (mkF m 57 #[.val (.int u), .val (.long r), .second, .val (.int d), .val (.long (own_words d)), .second, .val (.long (256 : Int64)), .second, .val (.long ((8 : Int64) * (d.toInt64))), .second, .val (.long ((8 : Int64) * (own_words d))), .second, .val (.long (8 : Int64)), .second, .val (.long (8 : Int64)), .second, .unset, .unset, .unset, .unset] [(.long (8 : Int64)), (.long (((256 : Int64) + ((8 : Int64) * (d.toInt64))) + (((8 : Int64) * (own_words d)) * r)))]))
  refine own_go (fun t k => XS.lloadN X1.here hx rfl (hb hby at_57) rfl  k) ?_
  show OwnWk _ _ _ _ (T1.setTop (mkF m 58 #[.val (.int u), .val (.long r), .second, .val (.int d), .val (.long (own_words d)), .second, .val (.long (256 : Int64)), .second, .val (.long ((8 : Int64) * (d.toInt64))), .second, .val (.long ((8 : Int64) * (own_words d))), .second, .val (.long (8 : Int64)), .second, .val (.long (8 : Int64)), .second, .unset, .unset, .unset, .unset] [(.long r), (.long (8 : Int64)), (.long (((256 : Int64) + ((8 : Int64) * (d.toInt64))) + (((8 : Int64) * (own_words d)) * r)))]))
  refine own_go (fun t k => XS.lmul X1.here hx rfl (hb hby at_58) rfl k) ?_
  show OwnWk _ _ _ _ (T1.setTop (mkF m 59 #[.val (.int u), .val (.long r), .second, .val (.int d), .val (.long (own_words d)), .second, .val (.long (256 : Int64)), .second, .val (.long ((8 : Int64) * (d.toInt64))), .second, .val (.long ((8 : Int64) * (own_words d))), .second, .val (.long (8 : Int64)), .second, .val (.long (8 : Int64)), .second, .unset, .unset, .unset, .unset] [(.long ((8 : Int64) * r)), (.long (((256 : Int64) + ((8 : Int64) * (d.toInt64))) + (((8 : Int64) * (own_words d)) * r)))]))
  refine own_go (fun t k => XS.ladd X1.here hx rfl (hb hby at_59) rfl k) ?_
  show OwnWk _ _ _ _ (T1.setTop (mkF m 60 #[.val (.int u), .val (.long r), .second, .val (.int d), .val (.long (own_words d)), .second, .val (.long (256 : Int64)), .second, .val (.long ((8 : Int64) * (d.toInt64))), .second, .val (.long ((8 : Int64) * (own_words d))), .second, .val (.long (8 : Int64)), .second, .val (.long (8 : Int64)), .second, .unset, .unset, .unset, .unset] [(.long ((((256 : Int64) + ((8 : Int64) * (d.toInt64))) + (((8 : Int64) * (own_words d)) * r)) + ((8 : Int64) * r)))]))
  refine own_go (fun t k => XS.lload X1.here hx rfl (hb hby at_60) rfl  k) ?_
  show OwnWk _ _ _ _ (T1.setTop (mkF m 62 #[.val (.int u), .val (.long r), .second, .val (.int d), .val (.long (own_words d)), .second, .val (.long (256 : Int64)), .second, .val (.long ((8 : Int64) * (d.toInt64))), .second, .val (.long ((8 : Int64) * (own_words d))), .second, .val (.long (8 : Int64)), .second, .val (.long (8 : Int64)), .second, .unset, .unset, .unset, .unset] [(.long (8 : Int64)), (.long ((((256 : Int64) + ((8 : Int64) * (d.toInt64))) + (((8 : Int64) * (own_words d)) * r)) + ((8 : Int64) * r)))]))
  refine own_go (fun t k => XS.lloadN X1.here hx rfl (hb hby at_62) rfl  k) ?_
  show OwnWk _ _ _ _ (T1.setTop (mkF m 63 #[.val (.int u), .val (.long r), .second, .val (.int d), .val (.long (own_words d)), .second, .val (.long (256 : Int64)), .second, .val (.long ((8 : Int64) * (d.toInt64))), .second, .val (.long ((8 : Int64) * (own_words d))), .second, .val (.long (8 : Int64)), .second, .val (.long (8 : Int64)), .second, .unset, .unset, .unset, .unset] [(.long r), (.long (8 : Int64)), (.long ((((256 : Int64) + ((8 : Int64) * (d.toInt64))) + (((8 : Int64) * (own_words d)) * r)) + ((8 : Int64) * r)))]))
  refine own_go (fun t k => XS.lmul X1.here hx rfl (hb hby at_63) rfl k) ?_
  show OwnWk _ _ _ _ (T1.setTop (mkF m 64 #[.val (.int u), .val (.long r), .second, .val (.int d), .val (.long (own_words d)), .second, .val (.long (256 : Int64)), .second, .val (.long ((8 : Int64) * (d.toInt64))), .second, .val (.long ((8 : Int64) * (own_words d))), .second, .val (.long (8 : Int64)), .second, .val (.long (8 : Int64)), .second, .unset, .unset, .unset, .unset] [(.long ((8 : Int64) * r)), (.long ((((256 : Int64) + ((8 : Int64) * (d.toInt64))) + (((8 : Int64) * (own_words d)) * r)) + ((8 : Int64) * r)))]))
  refine own_go (fun t k => XS.ladd X1.here hx rfl (hb hby at_64) rfl k) ?_
  show OwnWk _ _ _ _ (T1.setTop (mkF m 65 #[.val (.int u), .val (.long r), .second, .val (.int d), .val (.long (own_words d)), .second, .val (.long (256 : Int64)), .second, .val (.long ((8 : Int64) * (d.toInt64))), .second, .val (.long ((8 : Int64) * (own_words d))), .second, .val (.long (8 : Int64)), .second, .val (.long (8 : Int64)), .second, .unset, .unset, .unset, .unset] [(.long (((((256 : Int64) + ((8 : Int64) * (d.toInt64))) + (((8 : Int64) * (own_words d)) * r)) + ((8 : Int64) * r)) + ((8 : Int64) * r)))]))
  refine own_go (fun t k => XS.lstore X1.here hx rfl (hb hby at_65) rfl (l' := #[.val (.int u), .val (.long r), .second, .val (.int d), .val (.long (own_words d)), .second, .val (.long (256 : Int64)), .second, .val (.long ((8 : Int64) * (d.toInt64))), .second, .val (.long ((8 : Int64) * (own_words d))), .second, .val (.long (8 : Int64)), .second, .val (.long (8 : Int64)), .second, .val (.long (((((256 : Int64) + ((8 : Int64) * (d.toInt64))) + (((8 : Int64) * (own_words d)) * r)) + ((8 : Int64) * r)) + ((8 : Int64) * r))), .second, .unset, .unset]) rfl k) ?_
  show OwnWk _ _ _ _ (T1.setTop (mkF m 67 #[.val (.int u), .val (.long r), .second, .val (.int d), .val (.long (own_words d)), .second, .val (.long (256 : Int64)), .second, .val (.long ((8 : Int64) * (d.toInt64))), .second, .val (.long ((8 : Int64) * (own_words d))), .second, .val (.long (8 : Int64)), .second, .val (.long (8 : Int64)), .second, .val (.long (((((256 : Int64) + ((8 : Int64) * (d.toInt64))) + (((8 : Int64) * (own_words d)) * r)) + ((8 : Int64) * r)) + ((8 : Int64) * r))), .second, .unset, .unset] []))
  refine own_go (fun t k => XS.iloadN X1.here hx rfl (hb hby at_67) rfl  k) ?_
  show OwnWk _ _ _ _ (T1.setTop (mkF m 68 #[.val (.int u), .val (.long r), .second, .val (.int d), .val (.long (own_words d)), .second, .val (.long (256 : Int64)), .second, .val (.long ((8 : Int64) * (d.toInt64))), .second, .val (.long ((8 : Int64) * (own_words d))), .second, .val (.long (8 : Int64)), .second, .val (.long (8 : Int64)), .second, .val (.long (((((256 : Int64) + ((8 : Int64) * (d.toInt64))) + (((8 : Int64) * (own_words d)) * r)) + ((8 : Int64) * r)) + ((8 : Int64) * r))), .second, .unset, .unset] [(.int d)]))
  refine own_go (fun t k => XS.lloadN X1.here hx rfl (hb hby at_68) rfl  k) ?_
  show OwnWk _ _ _ _ (T1.setTop (mkF m 69 #[.val (.int u), .val (.long r), .second, .val (.int d), .val (.long (own_words d)), .second, .val (.long (256 : Int64)), .second, .val (.long ((8 : Int64) * (d.toInt64))), .second, .val (.long ((8 : Int64) * (own_words d))), .second, .val (.long (8 : Int64)), .second, .val (.long (8 : Int64)), .second, .val (.long (((((256 : Int64) + ((8 : Int64) * (d.toInt64))) + (((8 : Int64) * (own_words d)) * r)) + ((8 : Int64) * r)) + ((8 : Int64) * r))), .second, .unset, .unset] [(.long r), (.int d)]))
  refine own_callS X1 hx hZ (y := (⟨"com/example/enrichd/enrichd/store/ChunkIndex", "bytes", "(IJ)J"⟩ : MethodName)) hown (hw _ (List.mem_of_getElem? (i := 8) rfl)) (hw _ (List.mem_of_getElem? (i := 9) rfl)) (hw _ (List.mem_of_getElem? (i := 10) rfl)) (hw _ (List.mem_of_getElem? (i := 11) rfl)) (by decide) (argsL := [(.int d), (.long r)]) (rest := []) (rm := ({ frames := 0, cells := 0, slots := 0, locals := 0 } : Room)) (h := h0) (rm2 l Z a0 hw d r h0 n0 Z0) e1 (W := 0) (by decide) (by decide) (by decide) (by decide) (g := (mkF m 69 #[.val (.int u), .val (.long r), .second, .val (.int d), .val (.long (own_words d)), .second, .val (.long (256 : Int64)), .second, .val (.long ((8 : Int64) * (d.toInt64))), .second, .val (.long ((8 : Int64) * (own_words d))), .second, .val (.long (8 : Int64)), .second, .val (.long (8 : Int64)), .second, .val (.long (((((256 : Int64) + ((8 : Int64) * (d.toInt64))) + (((8 : Int64) * (own_words d)) * r)) + ((8 : Int64) * r)) + ((8 : Int64) * r))), .second, .unset, .unset] [(.long r), (.int d)])) rfl (by rw [hml]; rfl) (lenOf pd_1 rfl) rfl (by show 2 * 0 + _ ≤ _; exact Nat.le_of_eq rfl) (hb hby at_69) (fun v2 T2 h2 L2 X2 e2 hQ2 => ?_)
  obtain ⟨rfl, Nq2, q2⟩ := hQ2
  have N2 := Fr.app N1 Nq2
  rw [q2] at e2
  show OwnWk _ _ _ _ (T2.setTop (mkF m 72 #[.val (.int u), .val (.long r), .second, .val (.int d), .val (.long (own_words d)), .second, .val (.long (256 : Int64)), .second, .val (.long ((8 : Int64) * (d.toInt64))), .second, .val (.long ((8 : Int64) * (own_words d))), .second, .val (.long (8 : Int64)), .second, .val (.long (8 : Int64)), .second, .val (.long (((((256 : Int64) + ((8 : Int64) * (d.toInt64))) + (((8 : Int64) * (own_words d)) * r)) + ((8 : Int64) * r)) + ((8 : Int64) * r))), .second, .unset, .unset] [(.long (own_bytes d r))]))
  refine own_go (fun t k => XS.lstore X2.here hx rfl (hb hby at_72) rfl (l' := #[.val (.int u), .val (.long r), .second, .val (.int d), .val (.long (own_words d)), .second, .val (.long (256 : Int64)), .second, .val (.long ((8 : Int64) * (d.toInt64))), .second, .val (.long ((8 : Int64) * (own_words d))), .second, .val (.long (8 : Int64)), .second, .val (.long (8 : Int64)), .second, .val (.long (((((256 : Int64) + ((8 : Int64) * (d.toInt64))) + (((8 : Int64) * (own_words d)) * r)) + ((8 : Int64) * r)) + ((8 : Int64) * r))), .second, .val (.long (own_bytes d r)), .second]) rfl k) ?_
  show OwnWk _ _ _ _ (T2.setTop (mkF m 74 #[.val (.int u), .val (.long r), .second, .val (.int d), .val (.long (own_words d)), .second, .val (.long (256 : Int64)), .second, .val (.long ((8 : Int64) * (d.toInt64))), .second, .val (.long ((8 : Int64) * (own_words d))), .second, .val (.long (8 : Int64)), .second, .val (.long (8 : Int64)), .second, .val (.long (((((256 : Int64) + ((8 : Int64) * (d.toInt64))) + (((8 : Int64) * (own_words d)) * r)) + ((8 : Int64) * r)) + ((8 : Int64) * r))), .second, .val (.long (own_bytes d r)), .second] []))
  refine own_go (fun t k => XS.lload X2.here hx rfl (hb hby at_74) rfl  k) ?_
  show OwnWk _ _ _ _ (T2.setTop (mkF m 76 #[.val (.int u), .val (.long r), .second, .val (.int d), .val (.long (own_words d)), .second, .val (.long (256 : Int64)), .second, .val (.long ((8 : Int64) * (d.toInt64))), .second, .val (.long ((8 : Int64) * (own_words d))), .second, .val (.long (8 : Int64)), .second, .val (.long (8 : Int64)), .second, .val (.long (((((256 : Int64) + ((8 : Int64) * (d.toInt64))) + (((8 : Int64) * (own_words d)) * r)) + ((8 : Int64) * r)) + ((8 : Int64) * r))), .second, .val (.long (own_bytes d r)), .second] [(.long (own_bytes d r))]))
  refine own_go (fun t k => XS.lload X2.here hx rfl (hb hby at_76) rfl  k) ?_
  show OwnWk _ _ _ _ (T2.setTop (mkF m 78 #[.val (.int u), .val (.long r), .second, .val (.int d), .val (.long (own_words d)), .second, .val (.long (256 : Int64)), .second, .val (.long ((8 : Int64) * (d.toInt64))), .second, .val (.long ((8 : Int64) * (own_words d))), .second, .val (.long (8 : Int64)), .second, .val (.long (8 : Int64)), .second, .val (.long (((((256 : Int64) + ((8 : Int64) * (d.toInt64))) + (((8 : Int64) * (own_words d)) * r)) + ((8 : Int64) * r)) + ((8 : Int64) * r))), .second, .val (.long (own_bytes d r)), .second] [(.long (((((256 : Int64) + ((8 : Int64) * (d.toInt64))) + (((8 : Int64) * (own_words d)) * r)) + ((8 : Int64) * r)) + ((8 : Int64) * r))), (.long (own_bytes d r))]))
  refine own_go (fun t k => XS.lcmp X2.here hx rfl (hb hby at_78) rfl k) ?_
  show OwnWk _ _ _ _ (T2.setTop (mkF m 79 #[.val (.int u), .val (.long r), .second, .val (.int d), .val (.long (own_words d)), .second, .val (.long (256 : Int64)), .second, .val (.long ((8 : Int64) * (d.toInt64))), .second, .val (.long ((8 : Int64) * (own_words d))), .second, .val (.long (8 : Int64)), .second, .val (.long (8 : Int64)), .second, .val (.long (((((256 : Int64) + ((8 : Int64) * (d.toInt64))) + (((8 : Int64) * (own_words d)) * r)) + ((8 : Int64) * r)) + ((8 : Int64) * r))), .second, .val (.long (own_bytes d r)), .second] [(.int (lcmpW (own_bytes d r) (((((256 : Int64) + ((8 : Int64) * (d.toInt64))) + (((8 : Int64) * (own_words d)) * r)) + ((8 : Int64) * r)) + ((8 : Int64) * r))))]))
  refine own_go (fun t k => XS.ifNo X2.here hx rfl (hb hby at_79) rfl ((if0 _ _).trans (teq (own_lc_eq.mpr (own_law u r d h_d))).2) k) ?_
  show OwnWk _ _ _ _ (T2.setTop (mkF m 82 #[.val (.int u), .val (.long r), .second, .val (.int d), .val (.long (own_words d)), .second, .val (.long (256 : Int64)), .second, .val (.long ((8 : Int64) * (d.toInt64))), .second, .val (.long ((8 : Int64) * (own_words d))), .second, .val (.long (8 : Int64)), .second, .val (.long (8 : Int64)), .second, .val (.long (((((256 : Int64) + ((8 : Int64) * (d.toInt64))) + (((8 : Int64) * (own_words d)) * r)) + ((8 : Int64) * r)) + ((8 : Int64) * r))), .second, .val (.long (own_bytes d r)), .second] []))
  refine own_go (fun t k => XS.iconst X2.here hx rfl (hb hby at_82) k) ?_
  show OwnWk _ _ _ _ (T2.setTop (mkF m 83 #[.val (.int u), .val (.long r), .second, .val (.int d), .val (.long (own_words d)), .second, .val (.long (256 : Int64)), .second, .val (.long ((8 : Int64) * (d.toInt64))), .second, .val (.long ((8 : Int64) * (own_words d))), .second, .val (.long (8 : Int64)), .second, .val (.long (8 : Int64)), .second, .val (.long (((((256 : Int64) + ((8 : Int64) * (d.toInt64))) + (((8 : Int64) * (own_words d)) * r)) + ((8 : Int64) * r)) + ((8 : Int64) * r))), .second, .val (.long (own_bytes d r)), .second] [(.int (1 : Int32))]))
  refine own_go (fun t k => XS.goto X2.here hx rfl (pc0 := 83) (pc' := 87) rfl (hb hby at_83) (by decide) (by decide) k) ?_
  show OwnWk _ _ _ _ (T2.setTop (mkF m 87 #[.val (.int u), .val (.long r), .second, .val (.int d), .val (.long (own_words d)), .second, .val (.long (256 : Int64)), .second, .val (.long ((8 : Int64) * (d.toInt64))), .second, .val (.long ((8 : Int64) * (own_words d))), .second, .val (.long (8 : Int64)), .second, .val (.long (8 : Int64)), .second, .val (.long (((((256 : Int64) + ((8 : Int64) * (d.toInt64))) + (((8 : Int64) * (own_words d)) * r)) + ((8 : Int64) * r)) + ((8 : Int64) * r))), .second, .val (.long (own_bytes d r)), .second] [(.int (1 : Int32))]))
  exact own_retZ X2 hx hlk hret (by simp) (z' := (1 : Int32)) rfl (hb hby at_87) (by decide) (by decide) (by rw [e2]; exact ⟨rfl, N2⟩)
set_option maxRecDepth 65536 in
set_option maxHeartbeats 40000000 in
theorem comes_1 {Post : Tables → Env → Array Value → State → Outcome → State → Prop} (hpost : ∀ tb e args s v u, (limb_1_1.after args s (.returned v) u = true ∧ limb_1_2.after args s (.returned v) u = true) → FrameEnd s (.returned v) u (Jvm.fieldLocs frame_1_writes args s ++ Jvm.arrayLocs frame_1_arrays args s ++ Jvm.staticLocs frame_1_statics s) 0 0 → Post tb e args s (.returned v) u) :
    ArmFor flags0 classFile x code maxLocals ret World_1 tables_1 room_1 Calls_1 rest_1 Pre_1 Post := by
  intro l hfl _ _ p e ha hc hk s m args below hf hA hF happ hP
  obtain ⟨hcalls, hrest, hpre⟩ := hP
  obtain ⟨-, -, -, hnamed, -, -, -, hat⟩ := (Spec.applies_iff hf).mp happ
  obtain ⟨hg, hn⟩ := and_e (Cond.before_iff.mp (show (Jvm.Cond.and given_1 narrow_1).before args s = true from hpre))
  obtain ⟨g0, r0⟩ := and_e hg
  obtain ⟨g1, r1⟩ := and_e r0
  obtain ⟨w0, w1, rfl⟩ : ∃ w0 w1 : Value, args = #[w0, w1] := by
    have hs : args.size = 2 := by simpa [Cond.value, given_1] using g0
    obtain ⟨L⟩ := args
    match L, hs with
    | [w0, w1], _ => exact ⟨w0, w1, rfl⟩
  have hw := fun d (hd : d ∈ tables_1) => atoms_spec (ws := Jvm.Cond.code x code maxLocals ret :: tables_1) hat d (List.mem_cons_of_mem _ hd)
  obtain ⟨i0, ei0⟩ := is_v g1
  obtain rfl : w0 = (.int i0) := Option.some.inj ei0
  obtain ⟨i1, ei1⟩ := isL_v r1
  obtain rfl : w1 = (.long i1) := Option.some.inj ei1
  obtain ⟨n, o, h1, h2, h3, _, L, rfl, ⟨rfl, N⟩, hq⟩ := rm0 l s _ hw i0 i1 s.heap s.heap.size (Nat.le_refl _)  p e ha hc hk s m _ below hf ((Spec.applies_iff_loose hf).mp happ).1 ⟨rfl, State.Warmed39.refl s, rfl⟩ trivial
  refine ⟨n, _, h1, h2, h3, hpost _ _ _ _ _ _ ⟨Cond.after_iff.mpr rfl, Cond.after_iff.mpr (eq_i res_at (Term.int_eval (1)) rfl)⟩ ⟨hq.1, hq.2.1, (hq.2.2.sift fun y hy => Or.inr (N y hy)).mono (by decide) (by decide)⟩⟩
theorem main_1_1 : Claimed_1_1 := comes_1 fun _ _ _ _ _ _ h hF => ⟨h.1, hF⟩
theorem main_1_2 : Claimed_1_2 := comes_1 fun _ _ _ _ _ _ h hF => ⟨h.2, hF⟩
end Jvm.Pilot.@@N@@
namespace Jvm.Pilot.@@N@@
open Jvm Jvm.ClassFile Sem Op Lib Jvm.Free Jvm.Stand Jvm.Pilot.@@N@@.Jvm.D
/-! MADE BY PROGRAM (witnessworld.py) out of the Statement's table words and the real class files: 9 classes; the members and pool entries that the words name. The judged class is class 1, her method 2. -/
namespace start1
open Jvm.ClassFile
def u (s : String) : CpInfo := .utf8 (stringToUtf16 s)
/-- a pool by its gaps: so many unusable entries, then the entry; so many at the end -/
def gap : Nat → List CpInfo → List CpInfo
  | 0, r => r
  | n + 1, r => .unusable :: gap n r
def poolList (es : List (Nat × CpInfo)) (last : Nat) : List CpInfo := es.foldr (fun e r => gap e.1 (e.2 :: r)) (gap last [])
def pool (es : List (Nat × CpInfo)) (last : Nat) : Array CpInfo := ⟨poolList es last⟩
def fileOf (pool : Array CpInfo) (this : Nat) (attrs : Array Attribute := #[]) (ms : Array MethodInfo := #[]) (fl : Nat := 33) (sup : Nat := 0) (ifs : Array Nat := #[]) (fds : Array FieldInfo := #[]) : ClassFile where
  minorVersion := 0
  majorVersion := 65
  constantPool := pool
  accessFlags := fl
  thisClass := this
  superClass := sup
  interfaces := ifs
  fields := fds
  methods := ms
  attributes := attrs
def plain (name : String) (sup : Option ClassId) : Class where
  name := name
  kind := .ordinary
  loader := none
  accessFlags := 33
  super := sup
  interfaces := #[]
  cf := none
  fields := #[]
  methods := #[]
  instanceTypes := #[]
  staticTypes := #[]
  resolved := #[]
  callSites := []
  init := .initialized
  statics := none
  mirror := none

def pool0 : Array CpInfo := pool [(5, u "<init>"), (0, u "()V"), (1, .class_ 10), (1, u "java/lang/Object")] 113

def k0m0 : Method := { name := "<init>", desc := "()V", sig := { parameters := [], returnType := none }, accessFlags := 1, code := none }
/-- java/lang/Object -/
def k0 : Class := { plain "java/lang/Object" none with
  accessFlags := 33
  interfaces := #[]
  cf := some (fileOf pool0 8 #[] #[{ accessFlags := 1, nameIndex := 5, descriptorIndex := 6, attributes := #[] }] 33 0 #[] #[])
  fields := #[]
  methods := #[k0m0]
  instanceTypes := #[]
  staticTypes := #[]
  resolved := Array.replicate 124 none
  statics := none }

def pool1 : Array CpInfo := pool [(2, .class_ 4), (1, u "java/lang/Object"), (0, u "<init>"), (0, u "()V"), (0, .integer 2147483647), (2, .integer 2147483585), (0, .methodref 12 13), (0, .class_ 14), (0, .nameAndType 15 16), (0, u "com/example/enrichd/enrichd/store/ChunkIndexBytesPinLaw"), (0, u "wordsOf"), (0, u "(I)J"), (0, .long 256), (1, .long 8), (1, .methodref 22 23), (0, .class_ 24), (0, .nameAndType 25 26), (0, u "com/example/enrichd/enrichd/store/ChunkIndex"), (0, u "bytes"), (0, u "(IJ)J"), (3, u "law"), (0, u "(IJ)Z")] 2

def k1m0 : Method := { name := "<init>", desc := "()V", sig := { parameters := [], returnType := none }, accessFlags := 2, code := none }
def k1c1 : Code := { maxStack := 4, maxLocals := 5, code := method_2_code, exceptionTable := #[], attributes := #[] }
def k1m1 : Method := { name := "wordsOf", desc := "(I)J", sig := { parameters := [.int], returnType := some .long }, accessFlags := 10, code := some k1c1 }
def k1c2 : Code := { maxStack := 6, maxLocals := 20, code := code, exceptionTable := #[], attributes := #[] }
def k1m2 : Method := { name := "law", desc := "(IJ)Z", sig := { parameters := [.int, .long], returnType := some .boolean }, accessFlags := 9, code := some k1c2 }
/-- com/example/enrichd/enrichd/store/ChunkIndexBytesPinLaw -/
def k1 : Class := { plain "com/example/enrichd/enrichd/store/ChunkIndexBytesPinLaw" (some 0) with
  accessFlags := 49
  interfaces := #[]
  cf := some (fileOf pool1 12 #[] #[{ accessFlags := 2, nameIndex := 5, descriptorIndex := 6, attributes := #[] }, { accessFlags := 10, nameIndex := 15, descriptorIndex := 16, attributes := #[] }, { accessFlags := 9, nameIndex := 30, descriptorIndex := 31, attributes := #[] }] 49 2 #[] #[])
  fields := #[]
  methods := #[k1m0, k1m1, k1m2]
  instanceTypes := #[]
  staticTypes := #[]
  resolved := Array.replicate 34 none
  statics := none }

def pool2 : Array CpInfo := pool [(8, .class_ 10), (1, u "java/lang/Object"), (3, .class_ 16), (1, u "com/example/enrichd/enrichd/store/ChunkIndex"), (0, u "sketch"), (0, u "Lcom/example/enrichd/enrichd/core/SignSketch;"), (2, u "table"), (0, u "Lcom/example/enrichd/enrichd/store/ChunkIndex$Table;"), (2, u "slots"), (0, u "I"), (2, u "bounds"), (0, u "Lcom/example/enrichd/enrichd/core/SignSketch$Bounds;"), (2, u "dead"), (0, u "[J"), (2, u "deadSlots"), (2, u "deadOwnerBytes"), (0, u "J"), (0, .class_ 43), (0, u "com/example/enrichd/enrichd/store/ChunkIndex$Change"), (18, .class_ 64), (1, u "com/example/enrichd/enrichd/store/ChunkIndex$Table"), (41, u "bytes"), (0, u "(IJ)J"), (0, .long 8), (1, .long 256), (3, .long 16), (4, u "INDEX_BYTES"), (1, u "SLOT_BYTES"), (0, u "GROWTH_DIVISOR")] 36

def k2c0 : Code := { maxStack := 6, maxLocals := 5, code := prog_95_method_12_code, exceptionTable := #[], attributes := #[] }
def k2m0 : Method := { name := "bytes", desc := "(IJ)J", sig := { parameters := [.int, .long], returnType := some .long }, accessFlags := 8, code := some k2c0 }
/-- com/example/enrichd/enrichd/store/ChunkIndex -/
def k2 : Class := { plain "com/example/enrichd/enrichd/store/ChunkIndex" (some 0) with
  accessFlags := 48
  interfaces := #[]
  cf := some (fileOf pool2 14 #[.nestMembers #[42, 62]] #[{ accessFlags := 8, nameIndex := 106, descriptorIndex := 107, attributes := #[] }] 48 8 #[] #[{ accessFlags := 26, nameIndex := 119, descriptorIndex := 41, attributes := #[] }, { accessFlags := 26, nameIndex := 121, descriptorIndex := 41, attributes := #[] }, { accessFlags := 26, nameIndex := 122, descriptorIndex := 26, attributes := #[] }, { accessFlags := 18, nameIndex := 17, descriptorIndex := 18, attributes := #[] }, { accessFlags := 18, nameIndex := 21, descriptorIndex := 22, attributes := #[] }, { accessFlags := 18, nameIndex := 25, descriptorIndex := 26, attributes := #[] }, { accessFlags := 18, nameIndex := 29, descriptorIndex := 30, attributes := #[] }, { accessFlags := 18, nameIndex := 33, descriptorIndex := 34, attributes := #[] }, { accessFlags := 18, nameIndex := 37, descriptorIndex := 26, attributes := #[] }, { accessFlags := 18, nameIndex := 40, descriptorIndex := 41, attributes := #[] }])
  fields := #[{ name := "INDEX_BYTES", type := .long, accessFlags := 26, slot := 0, constantValue := 0 }, { name := "SLOT_BYTES", type := .long, accessFlags := 26, slot := 1, constantValue := 0 }, { name := "GROWTH_DIVISOR", type := .int, accessFlags := 26, slot := 2, constantValue := 0 }, { name := "sketch", type := (.object "com/example/enrichd/enrichd/core/SignSketch"), accessFlags := 18, slot := 0, constantValue := 0 }, { name := "table", type := (.object "com/example/enrichd/enrichd/store/ChunkIndex$Table"), accessFlags := 18, slot := 1, constantValue := 0 }, { name := "slots", type := .int, accessFlags := 18, slot := 2, constantValue := 0 }, { name := "bounds", type := (.object "com/example/enrichd/enrichd/core/SignSketch$Bounds"), accessFlags := 18, slot := 3, constantValue := 0 }, { name := "dead", type := (.array .long), accessFlags := 18, slot := 4, constantValue := 0 }, { name := "deadSlots", type := .int, accessFlags := 18, slot := 5, constantValue := 0 }, { name := "deadOwnerBytes", type := .long, accessFlags := 18, slot := 6, constantValue := 0 }]
  methods := #[k2m0]
  instanceTypes := #[(.object "com/example/enrichd/enrichd/core/SignSketch"), (.object "com/example/enrichd/enrichd/store/ChunkIndex$Table"), .int, (.object "com/example/enrichd/enrichd/core/SignSketch$Bounds"), (.array .long), .int, .long]
  staticTypes := #[.long, .long, .int]
  resolved := Array.replicate 159 none
  statics := none }

def pool3 : Array CpInfo := pool [(1, u "java/lang/Cloneable"), (0, .class_ 1), (0, u "java/lang/Object"), (0, .class_ 3)] 3

/-- java/lang/Cloneable -/
def k3 : Class := { plain "java/lang/Cloneable" (some 0) with
  accessFlags := 1537
  interfaces := #[]
  cf := some (fileOf pool3 2 #[] #[] 1537 4 #[] #[])
  fields := #[]
  methods := #[]
  instanceTypes := #[]
  staticTypes := #[]
  resolved := Array.replicate 8 none
  statics := none }

def pool4 : Array CpInfo := pool [(1, u "java/io/Serializable"), (0, .class_ 1), (0, u "java/lang/Object"), (0, .class_ 3)] 3

/-- java/io/Serializable -/
def k4 : Class := { plain "java/io/Serializable" (some 0) with
  accessFlags := 1537
  interfaces := #[]
  cf := some (fileOf pool4 2 #[] #[] 1537 4 #[] #[])
  fields := #[]
  methods := #[]
  instanceTypes := #[]
  staticTypes := #[]
  resolved := Array.replicate 8 none
  statics := none }

/-- the primitive byte -/
def k5 : Class := { plain "byte" none with kind := .primitive 'B', accessFlags := 0x411 }
/-- [B -/
def k6 : Class := { plain "[B" (some 0) with kind := .array 5 .byte, interfaces := #[3, 4], accessFlags := 1041 }

/-- the primitive int -/
def k7 : Class := { plain "int" none with kind := .primitive 'I', accessFlags := 0x411 }
/-- [I -/
def k8 : Class := { plain "[I" (some 0) with kind := .array 7 .int, interfaces := #[3, 4], accessFlags := 1041 }

def heap : Heap := #[]
def classes : Array Class := #[k0, k1, k2, k3, k4, k5, k6, k7, k8]
def interned : List (Array UInt16 × Addr) := []
def slotsUsed : Nat := 0
def theMethod : MethodId := ⟨1, 2⟩
def args0 : Array Value := #[.int 5, .long 7]
def aboutOver (below : List Frame) : State where
  vm := { classes := classes, interned := interned.toArray }
  heap := heap
  slotsUsed := slotsUsed
  threads := #[{ frames := .invoking theMethod args0 :: below }]
def below0 : List Frame := [.native { method := ⟨0, 0⟩, args := #[] }]
def about1 : State := aboutOver below0
def p0 : Program := .bare "" "" ""
def e0 : Env := launch0.env 0 0 0
theorem w_frames : about1.frames = Frame.invoking theMethod args0 :: below0 := rfl
set_option maxRecDepth 65536 in
theorem w_args : argsFit about1.vm theMethod args0 = true := by decide +kernel
set_option maxRecDepth 65536 in
theorem w_heap : heapFits about1 = true := by decide +kernel
set_option maxRecDepth 65536 in
theorem w_runnable : about1.curStatus? = some .runnable := by decide +kernel
set_option maxRecDepth 65536 in
theorem w_alone : about1.alone = true := by decide +kernel
set_option maxRecDepth 65536 in
theorem w_named : about1.methodNamed? x = some theMethod := by decide +kernel
set_option maxRecDepth 65536 in
theorem w_hears : about1.hears theMethod below0 = true := by decide +kernel
set_option maxRecDepth 65536 in
theorem w_ripe : about1.ripe theMethod args0 below0 = true := by decide +kernel
theorem w_running : about1.status = .running := rfl
set_option maxRecDepth 65536 in
theorem w_room : about1.hasRoom e0.platform room_1 = true :=
  launch0.hasRoom_least _ room_1 (by decide +kernel) (by decide +kernel) (by decide +kernel) (by decide +kernel) (by decide +kernel) (by decide +kernel)
theorem allAtoms_all (ts : List Jvm.Cond) (a : Array Jvm.Value) (st : Jvm.State) : (allAtoms ts).before a st = ts.all (fun c => c.before a st) := by
  induction ts with
  | nil => rfl
  | cons c t ih =>
    show (Jvm.Cond.and c (allAtoms t)).before a st = _
    rw [Jvm.Cond.before_and, ih, List.all_cons]
def words1 : List Jvm.Cond := Jvm.Cond.code x code maxLocals ret :: tables_1
/-- a 'code' word, met by the world's own term for the bytes: nothing is compared byte by byte -/
theorem code_word {y : MethodName} {bytes : ByteArray} {mx : Nat} {rt : Option FieldType} {a : Array Value} {s : State} {m : MethodId} {meth : Method} {c : Code} (h1 : s.methodNamed? y = some m) (h2 : s.vm.method? m = some meth) (h3 : meth.code = some c) (h4 : c.code = bytes)
    (h5 : (c.maxLocals == mx && c.exceptionTable.isEmpty && decide (c.maxStack ≤ mostOperands) && decide (meth.sig.returnType = rt) && !meth.locks && decide (parseMethodDescriptor y.desc = some meth.sig)) = true) : (Jvm.Cond.code y bytes mx rt).before a s = true := by
  simp only [Bool.and_eq_true, beq_iff_eq, Bool.not_eq_true', decide_eq_true_eq] at h5
  obtain ⟨⟨⟨⟨⟨g1, g2⟩, g3⟩, g4⟩, g5⟩, g6⟩ := h5
  simp [Cond.before, Cond.holds, Cond.value, h1, h2, h3, h4, g1, g2, g3, g4, g5, g6]
def isCode : Jvm.Cond → Bool
  | .code _ _ _ _ => true
  | _ => false
theorem all_split {L : List Jvm.Cond} {P : Jvm.Cond → Bool} (h1 : L.all (fun c => isCode c || P c) = true) (h2 : ∀ c ∈ L.filter isCode, P c = true) : L.all P = true := by
  refine List.all_eq_true.mpr fun c hc => ?_
  have h := List.all_eq_true.mp h1 c hc
  rcases Bool.eq_false_or_eq_true (isCode c) with hi | hi
  · exact h2 c (List.mem_filter.mpr ⟨hc, hi⟩)
  · simpa [hi] using h
set_option maxRecDepth 65536 in
theorem w_c0 : (Jvm.Cond.code x code maxLocals ret).before args0 about1 = true := code_word (m := ⟨1, 2⟩) (meth := k1m2) (c := k1c2) (by decide +kernel) rfl rfl rfl (by decide +kernel)
set_option maxRecDepth 65536 in
theorem w_c1 : (Jvm.Cond.code ({ cls := "com/example/enrichd/enrichd/store/ChunkIndexBytesPinLaw", name := "wordsOf", desc := "(I)J" } : Jvm.MethodName) method_2_code (5 : Nat) (Option.some Jvm.ClassFile.FieldType.long)).before args0 about1 = true := code_word (m := ⟨1, 1⟩) (meth := k1m1) (c := k1c1) (by decide +kernel) rfl rfl rfl (by decide +kernel)
set_option maxRecDepth 65536 in
theorem w_c2 : (Jvm.Cond.code ({ cls := "com/example/enrichd/enrichd/store/ChunkIndex", name := "bytes", desc := "(IJ)J" } : Jvm.MethodName) prog_95_method_12_code (5 : Nat) (Option.some Jvm.ClassFile.FieldType.long)).before args0 about1 = true := code_word (m := ⟨2, 0⟩) (meth := k2m0) (c := k2c0) (by decide +kernel) rfl rfl rfl (by decide +kernel)
def codes1 : List Jvm.Cond := [Jvm.Cond.code x code maxLocals ret, Jvm.Cond.code ({ cls := "com/example/enrichd/enrichd/store/ChunkIndexBytesPinLaw", name := "wordsOf", desc := "(I)J" } : Jvm.MethodName) method_2_code (5 : Nat) (Option.some Jvm.ClassFile.FieldType.long), Jvm.Cond.code ({ cls := "com/example/enrichd/enrichd/store/ChunkIndex", name := "bytes", desc := "(IJ)J" } : Jvm.MethodName) prog_95_method_12_code (5 : Nat) (Option.some Jvm.ClassFile.FieldType.long)]
set_option maxRecDepth 65536 in
theorem codes_eq : words1.filter isCode = codes1 := rfl
theorem w_codes : ∀ c ∈ words1.filter isCode, c.before args0 about1 = true := by
  rw [codes_eq]
  intro c hc
  simp only [codes1, List.mem_cons, List.not_mem_nil, or_false] at hc
  rcases hc with rfl | rfl | rfl
  · exact w_c0
  · exact w_c1
  · exact w_c2
set_option maxRecDepth 65536 in
theorem w_t1 : words1.all (fun c => isCode c || c.before args0 about1) = true := by decide +kernel
theorem w_tables : (allAtoms (Jvm.Cond.code x code maxLocals ret :: tables_1)).before args0 about1 = true := by
  rw [allAtoms_all]
  show words1.all (fun c => c.before args0 about1) = true
  refine all_split ?_ w_codes
  rw [w_t1]
set_option maxRecDepth 65536 in
theorem w_case : (Jvm.Cond.and given_1 narrow_1).before args0 about1 = true := by decide +kernel
theorem w_applies : (headSpec (Jvm.Cond.code x code maxLocals ret :: tables_1) room_1).applies x e0.platform about1 = true :=
  (Spec.applies_iff w_frames).mpr ⟨w_running, w_runnable, w_alone, w_named, w_hears, w_ripe, w_room, w_tables⟩
theorem atStart : AtStart classFile x code maxLocals ret World_1 tables_1 room_1 Calls_1 rest_1 Pre_1 launch0 p0 e0 about1 theMethod args0 below0 :=
  ⟨lists_1, trivial, launch0.admits_env _ _ _, launch0.least_env, fairChoices_fair.cas, fairChoices_fair.clock, w_frames, w_args, w_heap, w_applies, trivial, trivial, w_case⟩
end start1
theorem witness_1 : WitnessClaimed_1 := ⟨start1.p0, start1.e0, start1.about1, start1.theMethod, start1.args0, start1.below0, start1.atStart⟩
end Jvm.Pilot.@@N@@
