import JvmDerived
import JvmDerived.Pilot.@@N@@Statement
import JvmDerived.Pilot.@@N@@Code
set_option linter.unusedVariables false
set_option linter.unusedSimpArgs false
namespace Jvm.Pilot.@@N@@
open Jvm Jvm.ClassFile Sem Op Lib Jvm.Free Jvm.Stand Jvm.LawKit Jvm.RoadKit Bundle Jvm.Pilot.@@N@@.Jvm.D
/-! own: the walk in continuation form: 'from the state A the body ends, and then Q' -/
def OwnWk (p : Program) (e : Env) (below : List Frame) (P : Option Value → State → List Loc → Prop) (A : State) : Prop :=
  ∃ s₂ v L, Steps p.tables e below A s₂ ∧ s₂.status = .running ∧ Ended s₂ below (.returned v) ∧ P v s₂ L
abbrev OwnP (s : State) (Q : Option Value → Heap → List Loc → Prop) (k n : Nat) : Option Value → State → List Loc → Prop := fun v t L => Q v t.heap L ∧ FrameEnd s (.returned v) t L k n
def OwnMet (l : Launch) (y : MethodName) (bytes : ByteArray) (maxL : Nat) (ret : Option FieldType) (ws : List Jvm.Cond) (rm : Room) (Z : State) (as' : Array Value) (h0 : Heap) (Q : Option Value → Heap → List Loc → Prop) : Prop :=
  MetFree l y (head1 (Jvm.Cond.code y bytes maxL ret :: ws) rm) (fun a U => a = as' ∧ Z.Warmed39 U.vm ∧ U.heap = h0) (fun _ _ _ _ _ => True)
    (fun _ U o U' => ∃ v L, o = .returned v ∧ Q v U'.heap L ∧ FrameEnd U o U' L rm.cells rm.slots)
def OAr (Z : State) (h : Heap) (a : Addr) (ty : FieldType) (vs : List Value) : Prop := ∃ c : Cell, Arr Z h a c ty ∧ c.slots = vs.toArray
theorem OAr.ext {Z : State} {h h' : Heap} {a : Addr} {ty : FieldType} {vs : List Value} (A : OAr Z h a ty vs) (E : Ext h h') : OAr Z h' a ty vs := by
  obtain ⟨c, A, e⟩ := A; exact ⟨c, A.ext E, e⟩
theorem OAr.other {Z : State} {h h' : Heap} {a b : Addr} {ty : FieldType} {vs : List Value} {sl : Nat} {v : Value} (A : OAr Z h b ty vs) (W : Wr h h' a sl v) (q : b ≠ a) : OAr Z h' b ty vs := by
  obtain ⟨c, A, e⟩ := A; exact ⟨c, A.other W q, e⟩
theorem OAr.keep {Z : State} {h h' : Heap} {a : Addr} {ty : FieldType} {vs : List Value} {ws : List Addr} (A : OAr Z h a ty vs) (K : Keep h h' ws) (q : a ∉ ws) : OAr Z h' a ty vs := by
  obtain ⟨c, A, e⟩ := A; exact ⟨c, ⟨K.2.1 a c A.1 q, A.2⟩, e⟩
theorem OAr.lt {Z : State} {h : Heap} {a : Addr} {ty : FieldType} {vs : List Value} (A : OAr Z h a ty vs) : a < h.size := by
  obtain ⟨c, A, e⟩ := A; exact A.lt
theorem OAr.set {Z : State} {h h' : Heap} {a : Addr} {ty : FieldType} {vs : List Value} {sl : Nat} {v : Value} (A : OAr Z h a ty vs) (W : Wr h h' a sl v) : OAr Z h' a ty (vs.set sl v) := by
  obtain ⟨c, A, e⟩ := A
  refine ⟨_, A.same W, ?_⟩
  show c.slots.setIfInBounds sl v = _
  rw [e]; simp
theorem own_plE {Z : State} {h : Heap} {a : Addr} {C : String} (E : Exa Z h a C) : ∀ c : Cell, h[a]? = some c → c.vm.isStatics = false := fun c hc => by
  obtain ⟨c', k, h1, -, -, h4, -⟩ := E; cases h1.symm.trans hc; exact h4
theorem own_plV {Z : State} {h : Heap} {a : Addr} {ty : FieldType} {vs : List Value} (A : OAr Z h a ty vs) : ∀ c : Cell, h[a]? = some c → c.vm.isStatics = false := fun c hc => by
  obtain ⟨c', A, -⟩ := A; cases A.1.symm.trans hc; exact A.plain
theorem own_sta_keep {Z : State} {h h' : Heap} {ws : List Addr} {O f d : String} {v : Value} (F : Sta Z h O f d v) (K : Keep h h' ws) (q : ∀ x ∈ ws, ∀ c : Cell, h[x]? = some c → c.vm.isStatics = false) : Sta Z h' O f d v := by
  obtain ⟨cf, i, k, f, st, cell, h1, h2, h3, h4, h5, h6, h7⟩ := F
  refine ⟨cf, i, k, f, st, cell, h1, h2, h3, h4, K.2.1 st cell h5 (fun m => ?_), h6, h7⟩
  have := q st m cell h5
  rw [h6] at this; cases this
theorem own_ins_keep {Z : State} {h h' : Heap} {ws : List Addr} {a : Addr} {C : String} {b : Bool} (F : Ins Z h a C b) (K : Keep h h' ws) : Ins Z h' a C b := by
  obtain ⟨cell, cT, h1, h2, h3⟩ := F
  obtain ⟨c', q, r1, r2, -⟩ := K.2.2 a cell h1
  exact ⟨c', cT, q, h2, by rw [r1, r2]; exact h3⟩
section Own
variable {p : Program} {l : Launch} {e : Env} {R : Room} {s : State} {m : MethodId} {args : Array Value} {below : List Frame} {meth : Method} {c : Code} {T : State} {locs : List Loc} {cells slots : Nat}
  {P : Option Value → State → List Loc → Prop} {Q : Option Value → Heap → List Loc → Prop} {k n : Nat} {Z : State} {a0 : Array Value} {h : Heap} {g : JFrame} {rest : List Value}
theorem own_go {A B : State} (st : ∀ t, Steps p.tables e below B t → Steps p.tables e below A t) (h : OwnWk p e below P B) : OwnWk p e below P A := by
  obtain ⟨s₂, v, L, h1, r⟩ := h; exact ⟨s₂, v, L, st _ h1, r⟩
theorem own_met {y : MethodName} {bytes : ByteArray} {maxL : Nat} {ret : Option FieldType} {ws : List Jvm.Cond} {rm : Room} {as' : Array Value} {h0 : Heap} (hpl : plainFor y = true)
    (body : ∀ (p : Program) (e : Env) (s : State) (m : MethodId) (below : List Frame) (meth : Method) (c : Code) (s₁ : State), p.tables.exec = Jvm.exec → c.code = bytes → c.maxLocals = maxL → s.vm.findClass y.cls = some m.cls → meth.name = y.name → meth.sig.returnType = ret → meth.locks = false → Z.Warmed39 s.vm →
      Stand p l e rm s m as' below meth c s₁ [] 0 0 → s₁.heap = h0 → OwnWk p e below (OwnP s Q rm.cells rm.slots) (s₁.setTop (entryFrame m as' maxL))) : OwnMet l y bytes maxL ret ws rm Z as' h0 Q := by
  refine MetFree.of_bodySF hpl hisR ?_
  intro p e s m args below meth c s₁ Bd hml0 hP hK
  obtain ⟨rfl, hZ, hh⟩ := hP
  obtain ⟨s₂, v, L, h1, h2, h3, h4, h5⟩ := body p e s m below meth c s₁ Bd.exec Bd.bytes hml0 (findClass_of_methodNamed Bd.named) (name_of_methodNamed Bd.named Bd.method).1 Bd.returns (BodyLoose.notSynchronized Bd) hZ (Stand.of_body Bd) (by rw [← hh, Bd.state]; rfl)
  exact ⟨s₂, _, h1, h2, h3, v, L, rfl, h4, h5⟩
theorem own_out0 {A : State} {v : Option Value} (X : Stand p l e R s m args below meth c T locs cells slots) (hlk : meth.locks = false) (hv : meth.sig.returnType = none → v = none)
    (st : ∀ fs, (∀ (f : JFrame) (acts : List Action), f.method = m → f.locked = none → f.entered = [] → (doReturn e (T.setTop f) acts v).1 = T.setFrames fs) → Steps p.tables e below A (T.setFrames fs))
    (hq : ∀ t : State, t.heap = T.heap → FrameEnd s (.returned v) t locs cells slots → P v t locs) : OwnWk p e below P A := by
  obtain ⟨fs, hr, hrun, hended, hW, hsame⟩ := X.leave (v := v) hv hlk
  exact ⟨_, v, locs, st fs hr, hrun, hended, hq _ rfl ⟨⟨v, rfl⟩, hW, hsame⟩⟩
theorem own_out {A : State} {v : Option Value} (X : Stand p l e R s m args below meth c T locs cells slots) (hlk : meth.locks = false) (hv : meth.sig.returnType = none → v = none)
    (st : ∀ fs, (∀ (f : JFrame) (acts : List Action), f.method = m → f.locked = none → f.entered = [] → (doReturn e (T.setTop f) acts v).1 = T.setFrames fs) → Steps p.tables e below A (T.setFrames fs))
    (hc : cells ≤ k) (hs : slots ≤ n) (hq : Q v T.heap locs) : OwnWk p e below (OwnP s Q k n) A :=
  own_out0 X hlk hv st fun t ht hF => ⟨by rw [ht]; exact hq, hF.1, hF.2.1, hF.2.2.mono hc hs⟩
theorem own_retI (X : Stand p l e R s m args below meth c T locs cells slots) (hx : p.tables.exec = Jvm.exec) (hlk : meth.locks = false) (hret : meth.sig.returnType = some .int) {pc : Nat} {Ls : Array Slot} {z : Int32} (hd : decode c.code pc = .ok (.ireturn, 1)) (hc : cells ≤ k) (hs : slots ≤ n)
    (hq : Q (some (.int z)) T.heap locs) : OwnWk p e below (OwnP s Q k n) (T.setTop (mkF m pc Ls (.int z :: rest))) :=
  own_out X hlk (fun q => by rw [hret] at q; cases q) (fun fs hr => retOut X hx hret rfl (Or.inl ⟨rfl, Or.inl rfl, z, rfl⟩) hd hr) hc hs hq
theorem own_retZ (X : Stand p l e R s m args below meth c T locs cells slots) (hx : p.tables.exec = Jvm.exec) (hlk : meth.locks = false) {t : FieldType} (hret : meth.sig.returnType = some t) (ht : t = .boolean ∨ t = .byte ∨ t = .char ∨ t = .short) {pc : Nat} {Ls : Array Slot} {z z' : Int32} (hz : nar t z = z') (hd : decode c.code pc = .ok (.ireturn, 1)) (hc : cells ≤ k) (hs : slots ≤ n)
    (hq : Q (some (.int z')) T.heap locs) : OwnWk p e below (OwnP s Q k n) (T.setTop (mkF m pc Ls (.int z :: rest))) := by
  subst hz
  exact own_out X hlk (fun q => by rw [hret] at q; cases q) (fun fs hr => retN X hx hret ht hd hr) hc hs hq
theorem own_retJ (X : Stand p l e R s m args below meth c T locs cells slots) (hx : p.tables.exec = Jvm.exec) (hlk : meth.locks = false) (hret : meth.sig.returnType = some .long) {pc : Nat} {Ls : Array Slot} {z : Int64} (hd : decode c.code pc = .ok (.lreturn, 1)) (hc : cells ≤ k) (hs : slots ≤ n)
    (hq : Q (some (.long z)) T.heap locs) : OwnWk p e below (OwnP s Q k n) (T.setTop (mkF m pc Ls (.long z :: rest))) :=
  own_out X hlk (fun q => by rw [hret] at q; cases q) (fun fs hr => retOut X hx hret rfl (Or.inr (Or.inl ⟨rfl, rfl, z, rfl⟩)) hd hr) hc hs hq
theorem own_retA (X : Stand p l e R s m args below meth c T locs cells slots) (hx : p.tables.exec = Jvm.exec) (hlk : meth.locks = false) {t : FieldType} (hret : meth.sig.returnType = some t) (ht : t.isReference = true) {pc : Nat} {Ls : Array Slot} {v : Value} (hv : v.isRef = true) (hn : narrow t v = v) (hd : decode c.code pc = .ok (.areturn, 1)) (hc : cells ≤ k) (hs : slots ≤ n)
    (hq : Q (some v) T.heap locs) : OwnWk p e below (OwnP s Q k n) (T.setTop (mkF m pc Ls (v :: rest))) :=
  own_out X hlk (fun q => by rw [hret] at q; cases q) (fun fs hr => retOut X hx hret hn (Or.inr (Or.inr (Or.inr (Or.inr ⟨rfl, ht, hv⟩)))) hd hr) hc hs hq
theorem own_retV (X : Stand p l e R s m args below meth c T locs cells slots) (hx : p.tables.exec = Jvm.exec) (hlk : meth.locks = false) (hret : meth.sig.returnType = none) {pc : Nat} {Ls : Array Slot} (hd : decode c.code pc = .ok (.return_, 1)) (hc : cells ≤ k) (hs : slots ≤ n)
    (hq : Q none T.heap locs) : OwnWk p e below (OwnP s Q k n) (T.setTop (mkF m pc Ls [])) :=
  own_out X hlk (fun _ => rfl) (fun fs hr => X.returnOut hx hret hd hr) hc hs hq
/-! calls by a contract -/
variable {own C : String} {idx cnt : Nat} {y z : MethodName} {bytes : ByteArray} {maxL : Nat} {ret : Option FieldType} {rm : Room} {Q' : Option Value → Heap → List Loc → Prop} {W : Nat} {argsL : List Value} {a b : Addr}
theorem OwnMet.back {len : Nat} {as' : Array Value} (hM : OwnMet l y bytes maxL ret [] rm Z as' h Q') (hZ : Z.Warmed39 s.vm) (wc : (Jvm.Cond.code y bytes maxL ret).before a0 Z = true) (wz : (Jvm.Cond.initialized y.cls).before a0 Z = true) (hf : rm.frames + 1 ≤ R.frames) (hl : W + (maxL + 11) + rm.locals ≤ R.locals) :
    Back l R p e below s args y len W (fun A a => a = as' ∧ A.U.heap = h ∧ A.cells + rm.cells ≤ R.cells ∧ A.slots + rm.slots ≤ R.slots)
      (fun A _ v B => ∃ L, Q' v B.U.heap L ∧ B.locs = A.locs ++ L ∧ B.cells = A.cells + rm.cells ∧ B.slots = A.slots + rm.slots) := backOf (Q := Q') hM hZ wc wz hf hl
theorem own_callS (X : Stand p l e R s m args below meth c T locs cells slots) (hx : p.tables.exec = Jvm.exec) (hZ : Z.Warmed39 s.vm) (hown : s.vm.findClass own = some m.cls)
    (w1 : (Jvm.Cond.methodLink own idx y).before a0 Z = true) (w2 : (Jvm.Cond.static y).before a0 Z = true) (w3 : (Jvm.Cond.initialized y.cls).before a0 Z = true) (w4 : (Jvm.Cond.code y bytes maxL ret).before a0 Z = true)
    (hy : y.cls ≠ "java/lang/invoke/MethodHandle" ∧ y.cls ≠ "java/lang/invoke/VarHandle") (hM : OwnMet l y bytes maxL ret [] rm Z argsL.toArray h Q') (eT : T.heap = h)
    (hf : rm.frames + 1 ≤ R.frames) (hl : W + (maxL + 11) + rm.locals ≤ R.locals) (hc : cells + rm.cells ≤ R.cells) (hs : slots + rm.slots ≤ R.slots)
    (hg : g.method = m) (hsize : g.locals.size = c.maxLocals) (hlen : ∀ sig, parseMethodDescriptor y.desc = some sig → argsL.length = sig.parameters.length) (hstack : g.stack = argsL.reverse ++ rest)
    (hW : 2 * g.monitorRoom + (rest.map fun v => v.category).sum ≤ W) (hd : decode c.code g.pc = .ok (.invokestatic idx, 3))
    (K : ∀ v T' h' L, Stand p l e R s m args below meth c T' (locs ++ L) (cells + rm.cells) (slots + rm.slots) → T'.heap = h' → Q' v h' L → OwnWk p e below P (T'.setTop { g with pc := g.pc + 3, stack := v.toList ++ rest })) :
    OwnWk p e below P (T.setTop g) := by
  obtain ⟨v, vm₁, ⟨T', L', k', n'⟩, -, X', ⟨L, hQ, e1, e2, e3⟩, st⟩ := Jvm.LawKit.callS X hx hown (mvT hZ w1) (mvT hZ w2) (mvT hZ w3) (mvT hZ w4) hy (hM.back hZ w4 w3 hf hl) hg hsize hlen hstack hW hd (fun _ _ => ⟨rfl, eT, hc, hs⟩)
  dsimp only [Pt.U, Pt.locs, Pt.cells, Pt.slots] at X' e1 e2 e3 st hQ
  subst e1 e2 e3
  exact own_go st (K v T' _ L X' rfl hQ)
theorem own_callC (X : Stand p l e R s m args below meth c T locs cells slots) (hx : p.tables.exec = Jvm.exec) (hZ : Z.Warmed39 s.vm) (hown : s.vm.findClass own = some m.cls) (hy1 : y.name = "<init>")
    (w1 : (Jvm.Cond.methodLink own idx y).before a0 Z = true) (w2 : (Jvm.Cond.instanceMethod y).before a0 Z = true) (w3 : (Jvm.Cond.initialized y.cls).before a0 Z = true) (w4 : (Jvm.Cond.code y bytes maxL none).before a0 Z = true)
    (hy : y.cls ≠ "java/lang/invoke/MethodHandle" ∧ y.cls ≠ "java/lang/invoke/VarHandle") (hM : OwnMet l y bytes maxL none [] rm Z (.ref a :: argsL).toArray h Q') (eT : T.heap = h)
    (hf : rm.frames + 1 ≤ R.frames) (hl : W + (maxL + 11) + rm.locals ≤ R.locals) (hc : cells + rm.cells ≤ R.cells) (hs : slots + rm.slots ≤ R.slots)
    (hg : g.method = m) (hsize : g.locals.size = c.maxLocals) (hlen : ∀ sig, parseMethodDescriptor y.desc = some sig → argsL.length = sig.parameters.length) (hstack : g.stack = argsL.reverse ++ .ref a :: rest)
    (hW : 2 * g.monitorRoom + (rest.map fun v => v.category).sum ≤ W) (hd : decode c.code g.pc = .ok (.invokespecial idx, 3))
    (K : ∀ v T' h' L, Stand p l e R s m args below meth c T' (locs ++ L) (cells + rm.cells) (slots + rm.slots) → T'.heap = h' → Q' v h' L → OwnWk p e below P (T'.setTop { g with pc := g.pc + 3, stack := v.toList ++ rest })) :
    OwnWk p e below P (T.setTop g) := by
  obtain ⟨v, vm₁, ⟨T', L', k', n'⟩, -, X', ⟨L, hQ, e1, e2, e3⟩, st⟩ := X.specialBack hx hy1 hown (mvT hZ w1) (mvT hZ w2) (mvT hZ w4) hy (hM.back hZ w4 w3 hf hl) hg hsize (Steps.refl _) hlen hstack hW hd (fun _ _ => ⟨rfl, eT, hc, hs⟩)
  dsimp only [Pt.U, Pt.locs, Pt.cells, Pt.slots] at X' e1 e2 e3 st hQ
  subst e1 e2 e3
  exact own_go (fun t q => st.trans q) (K v T' _ L X' rfl hQ)
theorem own_callV (X : Stand p l e R s m args below meth c T locs cells slots) (hx : p.tables.exec = Jvm.exec) (hZ : Z.Warmed39 s.vm) (hown : s.vm.findClass own = some m.cls)
    (w1 : (Jvm.Cond.methodLink own idx y).before a0 Z = true) (w2 : (Jvm.Cond.declares y).before a0 Z = true) (nf : NotFace s y) (w5 : (Jvm.Cond.selects C y z).before a0 Z = true) (w6 : (Jvm.Cond.instanceMethod z).before a0 Z = true) (w3 : (Jvm.Cond.initialized z.cls).before a0 Z = true) (w4 : (Jvm.Cond.code z bytes maxL ret).before a0 Z = true)
    (hy : y.cls ≠ "java/lang/invoke/MethodHandle" ∧ y.cls ≠ "java/lang/invoke/VarHandle") (E : Exa Z h a C) (hM : OwnMet l z bytes maxL ret [] rm Z (.ref a :: argsL).toArray h Q') (eT : T.heap = h)
    (hf : rm.frames + 1 ≤ R.frames) (hl : W + (maxL + 11) + rm.locals ≤ R.locals) (hc : cells + rm.cells ≤ R.cells) (hs : slots + rm.slots ≤ R.slots)
    (hg : g.method = m) (hsize : g.locals.size = c.maxLocals) (hlen : ∀ sig, parseMethodDescriptor y.desc = some sig → argsL.length = sig.parameters.length) (hstack : g.stack = argsL.reverse ++ .ref a :: rest)
    (hW : 2 * g.monitorRoom + (rest.map fun v => v.category).sum ≤ W) (hd : decode c.code g.pc = .ok (.invokevirtual idx, 3))
    (K : ∀ v T' h' L, Stand p l e R s m args below meth c T' (locs ++ L) (cells + rm.cells) (slots + rm.slots) → T'.heap = h' → Q' v h' L → OwnWk p e below P (T'.setTop { g with pc := g.pc + 3, stack := v.toList ++ rest })) :
    OwnWk p e below P (T.setTop g) := by
  obtain ⟨cq, kq, q1, q2, q3⟩ := isOf hZ eT E
  obtain ⟨v, vm₁, ⟨T', L', k', n'⟩, -, X', ⟨L, hQ, e1, e2, e3⟩, st⟩ := X.virtualBack hx hown (mvT hZ w1) (mvT hZ w2) nf (mvT hZ w5) (mvT hZ w6) hy (hM.back hZ w4 w3 hf hl) q1 q3 hg hsize (Steps.refl _) hlen hstack hW hd (fun _ _ => ⟨rfl, eT, hc, hs⟩)
  dsimp only [Pt.U, Pt.locs, Pt.cells, Pt.slots] at X' e1 e2 e3 st hQ
  subst e1 e2 e3
  exact own_go (fun t q => st.trans q) (K v T' _ L X' rfl hQ)
theorem own_callI (X : Stand p l e R s m args below meth c T locs cells slots) (hx : p.tables.exec = Jvm.exec) (hZ : Z.Warmed39 s.vm) (hown : s.vm.findClass own = some m.cls)
    (w1 : (Jvm.Cond.methodLink own idx y).before a0 Z = true) (w2 : (Jvm.Cond.declares y).before a0 Z = true) (w7 : (Jvm.Cond.interfaceMethod y.cls y.cls y.name y.desc).before args s = true) (w5 : (Jvm.Cond.selects C y z).before a0 Z = true) (w6 : (Jvm.Cond.instanceMethod z).before a0 Z = true)
    (w8 : (Jvm.Cond.publicMethod z).before a0 Z = true) (w9 : (Jvm.Cond.unhidden C y.name y.desc).before a0 Z = true) (w10 : (Jvm.Cond.castable C y.cls).before a0 Z = true) (w3 : (Jvm.Cond.initialized z.cls).before a0 Z = true) (w4 : (Jvm.Cond.code z bytes maxL ret).before a0 Z = true)
    (hy : y.cls ≠ "java/lang/invoke/MethodHandle" ∧ y.cls ≠ "java/lang/invoke/VarHandle") (E : Exa Z h a C) (hM : OwnMet l z bytes maxL ret [] rm Z (.ref a :: argsL).toArray h Q') (eT : T.heap = h)
    (hf : rm.frames + 1 ≤ R.frames) (hl : W + (maxL + 11) + rm.locals ≤ R.locals) (hc : cells + rm.cells ≤ R.cells) (hs : slots + rm.slots ≤ R.slots)
    (hg : g.method = m) (hsize : g.locals.size = c.maxLocals) (hlen : ∀ sig, parseMethodDescriptor y.desc = some sig → argsL.length = sig.parameters.length) (hstack : g.stack = argsL.reverse ++ .ref a :: rest)
    (hW : 2 * g.monitorRoom + (rest.map fun v => v.category).sum ≤ W) (hd : decode c.code g.pc = .ok (.invokeinterface idx cnt, 5))
    (K : ∀ v T' h' L, Stand p l e R s m args below meth c T' (locs ++ L) (cells + rm.cells) (slots + rm.slots) → T'.heap = h' → Q' v h' L → OwnWk p e below P (T'.setTop { g with pc := g.pc + 5, stack := v.toList ++ rest })) :
    OwnWk p e below P (T.setTop g) := by
  obtain ⟨cq, kq, q1, q2, q3⟩ := isOf hZ eT E
  obtain ⟨v, vm₁, ⟨T', L', k', n'⟩, -, X', ⟨L, hQ, e1, e2, e3⟩, st⟩ := X.interfaceBack hx hown (mvT hZ w1) (mvT hZ w2) w7 (mvT hZ w5) (mvT hZ w6) (mvT hZ w8) (mvT hZ w9) (mvT hZ w10) hy (hM.back hZ w4 w3 hf hl) q1 q2 q3 hg hsize (Steps.refl _) hlen hstack hW hd (fun _ _ => ⟨rfl, eT, hc, hs⟩)
  dsimp only [Pt.U, Pt.locs, Pt.cells, Pt.slots] at X' e1 e2 e3 st hQ
  subst e1 e2 e3
  exact own_go (fun t q => st.trans q) (K v T' _ L X' rfl hQ)
theorem own_callP (X : Stand p l e R s m args below meth c T locs cells slots) (hx : p.tables.exec = Jvm.exec) (hZ : Z.Warmed39 s.vm) (hown : s.vm.findClass own = some m.cls)
    (w1 : (Jvm.Cond.methodLink own idx y).before a0 Z = true) (w2 : (Jvm.Cond.instanceMethod y).before a0 Z = true) (w5 : (Jvm.Cond.selects y.cls y y).before a0 Z = true) (w6 : (Jvm.Cond.privateMethod y).before a0 Z = true) (w3 : (Jvm.Cond.initialized y.cls).before a0 Z = true) (w4 : (Jvm.Cond.code y bytes maxL ret).before a0 Z = true)
    (hy : y.cls ≠ "java/lang/invoke/MethodHandle" ∧ y.cls ≠ "java/lang/invoke/VarHandle") (E : Exa Z h a C) (hM : OwnMet l y bytes maxL ret [] rm Z (.ref a :: argsL).toArray h Q') (eT : T.heap = h)
    (hf : rm.frames + 1 ≤ R.frames) (hl : W + (maxL + 11) + rm.locals ≤ R.locals) (hc : cells + rm.cells ≤ R.cells) (hs : slots + rm.slots ≤ R.slots)
    (hg : g.method = m) (hsize : g.locals.size = c.maxLocals) (hlen : ∀ sig, parseMethodDescriptor y.desc = some sig → argsL.length = sig.parameters.length) (hstack : g.stack = argsL.reverse ++ .ref a :: rest)
    (hW : 2 * g.monitorRoom + (rest.map fun v => v.category).sum ≤ W) (hd : decode c.code g.pc = .ok (.invokevirtual idx, 3))
    (K : ∀ v T' h' L, Stand p l e R s m args below meth c T' (locs ++ L) (cells + rm.cells) (slots + rm.slots) → T'.heap = h' → Q' v h' L → OwnWk p e below P (T'.setTop { g with pc := g.pc + 3, stack := v.toList ++ rest })) :
    OwnWk p e below P (T.setTop g) := by
  obtain ⟨cq, q, q'⟩ := E.cell
  obtain ⟨v, vm₁, ⟨T', L', k', n'⟩, -, X', ⟨L, hQ, e1, e2, e3⟩, st⟩ := X.privateBack hx hown (mvT hZ w1) (mvT hZ w2) (mvT hZ w5) (Cond.privateMethod_at (mvP hZ w6 (args := #[]))) (mvT hZ w4) hy (hM.back hZ w4 w3 hf hl) hg hsize (Steps.refl _) (by rw [eT]; exact q) q' hlen hstack hW hd (fun _ _ => ⟨rfl, eT, hc, hs⟩)
  dsimp only [Pt.U, Pt.locs, Pt.cells, Pt.slots] at X' e1 e2 e3 st hQ
  subst e1 e2 e3
  exact own_go (fun t q => st.trans q) (K v T' _ L X' rfl hQ)
/-! arrays by their lists -/
variable {vs : List Value} {ty : FieldType} {j : Int32} {v : Value}
theorem own_in (c : Cell) (e : c.slots = vs.toArray) (h0 : ¬ j < 0) (hj : j.toNatClampNeg < vs.length) : ¬ (j < 0 ∨ c.slots.size ≤ j.toNatClampNeg) := by
  rw [e]; simp only [List.size_toArray]
  rintro (q | q)
  · exact h0 q
  · omega
theorem own_len (X : Stand p l e R s m args below meth c T locs cells slots) (hx : p.tables.exec = Jvm.exec) (hZ : Z.Warmed39 s.vm) (eT : T.heap = h) (A : OAr Z h a ty vs) (hg : g.method = m) (hs : g.stack = .ref a :: rest) (hd : decode c.code g.pc = .ok (.arraylength, 1)) {N : Int32} (hN : vs.length.toInt32 = N)
    (K : OwnWk p e below P (T.setTop { g with pc := g.pc + 1, stack := .int N :: rest })) : OwnWk p e below P (T.setTop g) := by
  obtain ⟨cl, A, ec⟩ := A
  refine own_go (fun t q => X.arraylength hx (by rw [eT]; exact A.1) (State.isArrayOf_alike hZ.alike A.2.1) hg hs hd _ q) ?_
  rw [ec, List.size_toArray, hN]; exact K
theorem own_ldI (X : Stand p l e R s m args below meth c T locs cells slots) (hx : p.tables.exec = Jvm.exec) (hZ : Z.Warmed39 s.vm) (eT : T.heap = h) (A : OAr Z h a .int vs) (hg : g.method = m) (hs : g.stack = .int j :: .ref a :: rest) (hd : decode c.code g.pc = .ok (.iaload, 1)) (h0 : ¬ j < 0) (hj : vs[j.toNatClampNeg]? = some v)
    (K : OwnWk p e below P (T.setTop { g with pc := g.pc + 1, stack := v :: rest })) : OwnWk p e below P (T.setTop g) := by
  obtain ⟨cl, A, ec⟩ := A
  exact own_go (fun t q => X.iaload hx (by rw [eT]; exact A.1) (State.isArrayOf_alike hZ.alike A.2.1) A.2.2 (own_in cl ec h0 (List.getElem?_eq_some_iff.mp hj).1) (by rw [ec]; simpa using hj) hg hs hd _ q) K
theorem own_ldJ (X : Stand p l e R s m args below meth c T locs cells slots) (hx : p.tables.exec = Jvm.exec) (hZ : Z.Warmed39 s.vm) (eT : T.heap = h) (A : OAr Z h a .long vs) (hg : g.method = m) (hs : g.stack = .int j :: .ref a :: rest) (hd : decode c.code g.pc = .ok (.laload, 1)) (h0 : ¬ j < 0) (hj : vs[j.toNatClampNeg]? = some v)
    (K : OwnWk p e below P (T.setTop { g with pc := g.pc + 1, stack := v :: rest })) : OwnWk p e below P (T.setTop g) := by
  obtain ⟨cl, A, ec⟩ := A
  exact own_go (fun t q => X.laload hx (by rw [eT]; exact A.1) (State.isArrayOf_alike hZ.alike A.2.1) A.2.2 (own_in cl ec h0 (List.getElem?_eq_some_iff.mp hj).1) (by rw [ec]; simpa using hj) hg hs hd _ q) K
theorem own_ldA (X : Stand p l e R s m args below meth c T locs cells slots) (hx : p.tables.exec = Jvm.exec) (hZ : Z.Warmed39 s.vm) (eT : T.heap = h) (A : OAr Z h a ty vs) (hty : ty.isReference = true) (hg : g.method = m) (hs : g.stack = .int j :: .ref a :: rest) (hd : decode c.code g.pc = .ok (.aaload, 1)) (h0 : ¬ j < 0) (hj : vs[j.toNatClampNeg]? = some v)
    (K : OwnWk p e below P (T.setTop { g with pc := g.pc + 1, stack := v :: rest })) : OwnWk p e below P (T.setTop g) := by
  obtain ⟨cl, A, ec⟩ := A
  exact own_go (fun t q => X.aaload hx (by rw [eT]; exact A.1) (State.isArrayOf_alike hZ.alike A.2.1) hty A.2.2 (own_in cl ec h0 (List.getElem?_eq_some_iff.mp hj).1) (by rw [ec]; simpa using hj) hg hs hd _ q) K
theorem own_stI (X : Stand p l e R s m args below meth c T locs cells slots) (hx : p.tables.exec = Jvm.exec) (hZ : Z.Warmed39 s.vm) (eT : T.heap = h) (A : OAr Z h a .int vs) {x : Int32} (hg : g.method = m) (hs : g.stack = .int x :: .int j :: .ref a :: rest) (hd : decode c.code g.pc = .ok (.iastore, 1)) (h0 : ¬ j < 0) (hj : j.toNatClampNeg < vs.length)
    (K : ∀ T' h', Stand p l e R s m args below meth c T' (locs ++ [⟨a, j.toNatClampNeg⟩]) cells slots → T'.heap = h' → Wr h h' a j.toNatClampNeg (.int x) → OAr Z h' a .int (vs.set j.toNatClampNeg (.int x)) → OwnWk p e below P (T'.setTop { g with pc := g.pc + 1, stack := rest })) : OwnWk p e below P (T.setTop g) := by
  obtain ⟨cl, A', ec⟩ := A
  obtain ⟨T', h', X', e', W', st⟩ := stI X hx hZ eT A' (j := j) (own_in cl ec h0 hj) hg hs hd
  exact own_go st (K T' h' X' e' W' (OAr.set ⟨cl, A', ec⟩ W'))
theorem own_stJ (X : Stand p l e R s m args below meth c T locs cells slots) (hx : p.tables.exec = Jvm.exec) (hZ : Z.Warmed39 s.vm) (eT : T.heap = h) (A : OAr Z h a .long vs) {x : Int64} (hg : g.method = m) (hs : g.stack = .long x :: .int j :: .ref a :: rest) (hd : decode c.code g.pc = .ok (.lastore, 1)) (h0 : ¬ j < 0) (hj : j.toNatClampNeg < vs.length)
    (K : ∀ T' h', Stand p l e R s m args below meth c T' (locs ++ [⟨a, j.toNatClampNeg⟩]) cells slots → T'.heap = h' → Wr h h' a j.toNatClampNeg (.long x) → OAr Z h' a .long (vs.set j.toNatClampNeg (.long x)) → OwnWk p e below P (T'.setTop { g with pc := g.pc + 1, stack := rest })) : OwnWk p e below P (T.setTop g) := by
  obtain ⟨cl, A', ec⟩ := A
  obtain ⟨T', h', X', e', W', st⟩ := stJ X hx hZ eT A' (j := j) (own_in cl ec h0 hj) hg hs hd
  exact own_go st (K T' h' X' e' W' (OAr.set ⟨cl, A', ec⟩ W'))
theorem own_newP {aty : ArrayType} (X : Stand p l e R s m args below meth c T locs cells slots) (hx : p.tables.exec = Jvm.exec) (hZ : Z.Warmed39 s.vm) (w : (Jvm.Cond.arrayClass (newarray.typeOf aty)).before a0 Z = true) (eT : T.heap = h) (hg : g.method = m) (hd : decode c.code g.pc = .ok (.newarray aty, 2)) {N : Int32} (hs : g.stack = .int N :: rest)
    (hn : ¬ N < 0) {cap : Nat} (hcap : N.toNatClampNeg ≤ cap) (hb : cap * 8 ≤ 536870912) (hc : cells + 1 ≤ R.cells) (hl : slots + cap ≤ R.slots)
    (K : ∀ T' h' b, Stand p l e R s m args below meth c T' locs (cells + 1) (slots + cap) → T'.heap = h' → b = h.size → Ext h h' → OAr Z h' b (newarray.typeOf aty) (List.replicate N.toNatClampNeg (defaultValue (newarray.typeOf aty))) → OwnWk p e below P (T'.setTop { g with pc := g.pc + 2, stack := .ref b :: rest })) : OwnWk p e below P (T.setTop g) := by
  obtain ⟨T', h', cA, X', e', E', A', st⟩ := newP X hx hZ w eT hg hd hs hn hcap hb hc hl
  exact own_go st (K T' h' _ X' e' rfl E' ⟨_, A', by simp [newA]⟩)
theorem own_newPE {aty : ArrayType} {ad : String} (X : Stand p l e R s m args below meth c T locs cells slots) (hx : p.tables.exec = Jvm.exec) (hZ : Z.Warmed39 s.vm) (w : (Jvm.Cond.arrayClass (newarray.typeOf aty)).before a0 Z = true) (eT : T.heap = h) (hg : g.method = m) (hd : decode c.code g.pc = .ok (.newarray aty, 2)) {N : Int32} (hs : g.stack = .int N :: rest)
    (hn : ¬ N < 0) {cap : Nat} (hcap : N.toNatClampNeg ≤ cap) (hb : cap * 8 ≤ 536870912) (hc : cells + 1 ≤ R.cells) (hl : slots + cap ≤ R.slots) (had : "[" ++ (newarray.typeOf aty).toString = ad)
    (K : ∀ T' h' b, Stand p l e R s m args below meth c T' locs (cells + 1) (slots + cap) → T'.heap = h' → b = h.size → Ext h h' → OAr Z h' b (newarray.typeOf aty) (List.replicate N.toNatClampNeg (defaultValue (newarray.typeOf aty))) → Exa Z h' b ad → OwnWk p e below P (T'.setTop { g with pc := g.pc + 2, stack := .ref b :: rest })) : OwnWk p e below P (T.setTop g) := by
  obtain ⟨T', h', cA, X', e', E', A', Ex, st⟩ := newPE X hx hZ w eT hg hd hs hn hcap hb hc hl had
  exact own_go st (K T' h' _ X' e' rfl E' ⟨_, A', by simp [newA]⟩ Ex)
theorem own_clone {ad : String} (X : Stand p l e R s m args below meth c T locs cells slots) (hx : p.tables.exec = Jvm.exec) (hZ : Z.Warmed39 s.vm) (hown : s.vm.findClass own = some m.cls)
    (w1 : (Jvm.Cond.methodLink own idx ⟨ad, "clone", "()Ljava/lang/Object;"⟩).before a0 Z = true) (w2 : (Jvm.Cond.sameMethod ad "java/lang/Object" "clone" "()Ljava/lang/Object;").before a0 Z = true) (w3 : (Jvm.Cond.native ⟨"java/lang/Object", "clone", "()Ljava/lang/Object;"⟩).before a0 Z = true)
    (w4 : (Jvm.Cond.instanceMethod ⟨"java/lang/Object", "clone", "()Ljava/lang/Object;"⟩).before a0 Z = true) (w5 : (Jvm.Cond.selects ad ⟨ad, "clone", "()Ljava/lang/Object;"⟩ ⟨"java/lang/Object", "clone", "()Ljava/lang/Object;"⟩).before a0 Z = true) (w6 : (Jvm.Cond.castable ad "java/lang/Cloneable").before a0 Z = true)
    (eT : T.heap = h) (A : OAr Z h a ty vs) (E : Exa Z h a ad) (F : ∀ v ∈ vs, fits ty v = true) (hg : g.method = m) (hsize : g.locals.size = c.maxLocals) (hs : g.stack = .ref a :: rest) (hd : decode c.code g.pc = .ok (.invokevirtual idx, 3))
    (hf : 1 ≤ R.frames) {cap : Nat} (hW : 2 * g.monitorRoom + (rest.map fun v => v.category).sum ≤ W) (hl : W + 14 ≤ R.locals) (hcap : vs.length ≤ cap) (hc : cells + 1 ≤ R.cells) (hsl : slots + cap ≤ R.slots)
    (K : ∀ T' h' b, Stand p l e R s m args below meth c T' locs (cells + 1) (slots + cap) → T'.heap = h' → b = h.size → Ext h h' → OAr Z h' b ty vs → Exa Z h' b ad → OwnWk p e below P (T'.setTop { g with pc := g.pc + 3, stack := .ref b :: rest })) : OwnWk p e below P (T.setTop g) := by
  obtain ⟨cl, A, ec⟩ := A
  have FC : FitC Z cl := fitC_of A fun i hi v hv => by
    rw [ec] at hv
    exact F v (List.mem_of_getElem? (by simpa using hv))
  obtain ⟨T', h', X', e', E', A', Ex, st⟩ := cloneA X hx hZ hown w1 w2 w3 w4 w5 w6 eT A E FC hg hsize hs hd hf hW hl (by rw [ec]; simpa using hcap) hc hsl
  exact own_go st (K T' h' _ X' e' rfl E' ⟨_, A', ec⟩ Ex)
end Own
/-! comparisons of longs -/
theorem own_tri (x y : Int64) : x < y ∨ x = y ∨ y < x := by
  rcases Int.lt_trichotomy x.toInt y.toInt with h | h | h
  · exact Or.inl (Int64.lt_iff_toInt_lt.mpr h)
  · exact Or.inr (Or.inl (Int64.toInt_inj.mp h))
  · exact Or.inr (Or.inr (Int64.lt_iff_toInt_lt.mpr h))
theorem own_lc_lt {x y : Int64} : (lcmpW x y < 0) ↔ x < y := by
  unfold lcmpW
  rcases own_tri x y with h | h | h
  · have h1 : ¬ x > y := Int64.lt_asymm h
    have h2 : ¬ x = y := Int64.ne_of_lt h
    simp [h1, h2, h]
  · subst h; simp
  · have h1 : ¬ x < y := Int64.lt_asymm h
    simp [h, h1]
theorem own_lc_gt {x y : Int64} : (0 < lcmpW x y) ↔ y < x := by
  unfold lcmpW
  rcases own_tri x y with h | h | h
  · have h1 : ¬ x > y := Int64.lt_asymm h
    have h2 : ¬ x = y := Int64.ne_of_lt h
    have h3 : ¬ y < x := h1
    simp [h1, h2, h3]
  · subst h; simp
  · simp [h]
theorem own_lc_eq {x y : Int64} : (lcmpW x y = 0) ↔ x = y := by
  unfold lcmpW
  rcases own_tri x y with h | h | h
  · have h1 : ¬ x > y := Int64.lt_asymm h
    have h2 : ¬ x = y := Int64.ne_of_lt h
    simp [h1, h2]
  · subst h; simp
  · have h2 : ¬ x = y := (Int64.ne_of_lt h).symm
    simp [h, h2]
theorem own_n_int {i : Nat} (h : i < 2 ^ 31) : (Int32.ofNat i).toInt = (i : Int) := by
  rw [Int32.toInt_ofNat']
  simp only [Int32.size, Int.bmod]
  omega
theorem own_n_nat {i : Nat} (h : i < 2 ^ 31) : (Int32.ofNat i).toNatClampNeg = i := by
  simp only [Int32.toNatClampNeg, own_n_int h]; omega
theorem own_n_nn {i : Nat} (h : i < 2 ^ 31) : ¬ Int32.ofNat i < 0 := by
  rw [Int32.lt_iff_toInt_lt, own_n_int h]; have : (0 : Int32).toInt = 0 := rfl
  omega
theorem own_n_lt {i j : Nat} (hi : i < 2 ^ 31) (hj : j < 2 ^ 31) : Int32.ofNat i < Int32.ofNat j ↔ i < j := by
  rw [Int32.lt_iff_toInt_lt, own_n_int hi, own_n_int hj]; omega
theorem own_n_succ {i : Nat} : Int32.ofNat i + (1 : Int32) = Int32.ofNat (i + 1) := by
  rw [Int32.ofNat_add]; rfl
theorem own_n_len (xs : List Int32) : (xs.map Value.int).length.toInt32 = Int32.ofNat xs.length := by rw [List.length_map]
theorem own_n_at {xs : List Int32} {i : Nat} {x : Int32} (h : i < 2 ^ 31) (hx : xs[i]? = some x) : (xs.map Value.int)[(Int32.ofNat i).toNatClampNeg]? = some (.int x) := by
  rw [own_n_nat h, List.getElem?_map, hx]; rfl
theorem own_drop {α : Type} {xs : List α} {i : Nat} {x : α} (h : xs[i]? = some x) : xs.drop i = x :: xs.drop (i + 1) := by
  obtain ⟨hi, rfl⟩ := List.getElem?_eq_some_iff.mp h
  exact List.drop_eq_getElem_cons hi
theorem own_get {α : Type} {xs : List α} {i : Nat} (h : i < xs.length) : ∃ x, xs[i]? = some x := ⟨xs[i], List.getElem?_eq_getElem h⟩
theorem own_and3 (u : Int32) : (u &&& 3) = 0 ∨ (u &&& 3) = 1 ∨ (u &&& 3) = 2 ∨ (u &&& 3) = 3 := by
  have h : (u &&& 3).toBitVec.toNat < 4 := by
    simp only [Int32.toBitVec_and, BitVec.toNat_and]
    exact Nat.lt_of_le_of_lt Nat.and_le_right (by decide)
  have e : ∀ k : Nat, k < 4 → (u &&& 3).toBitVec.toNat = k → (u &&& 3) = Int32.ofNat k := fun k hk q => by
    apply Int32.toBitVec_inj.mp; apply BitVec.eq_of_toNat_eq; rw [q]; simp [Int32.toBitVec, Int32.ofNat]; omega
  have c : (u &&& 3).toBitVec.toNat = 0 ∨ (u &&& 3).toBitVec.toNat = 1 ∨ (u &&& 3).toBitVec.toNat = 2 ∨ (u &&& 3).toBitVec.toNat = 3 := by omega
  rcases c with c | c | c | c
  · exact Or.inl (e 0 (by decide) c)
  · exact Or.inr (Or.inl (e 1 (by decide) c))
  · exact Or.inr (Or.inr (Or.inl (e 2 (by decide) c)))
  · exact Or.inr (Or.inr (Or.inr (e 3 (by decide) c)))
theorem own_three {u n : Int32} (h : n = (u &&& (3 : Int32))) (h0 : ¬ n = 0) (h1 : ¬ n = 1) (h2 : ¬ n = 2) : n = 3 := by
  subst h
  rcases own_and3 u with q | q | q | q
  · exact absurd q h0
  · exact absurd q h1
  · exact absurd q h2
  · exact q
def own_all : List Int32 → Int32 → Int32
  | [], acc => acc
  | x :: xs, acc => own_all xs (acc &&& (if x = 1 then 1 else 0))
theorem own_st5 {z0 z1 z2 z3 z4 : Value} {s5 : Slot} {v : Int32} (h : One s5) : storeLocals #[.val z0, .val z1, .val z2, .val z3, .val z4, s5] 5 (.int v) = some #[.val z0, .val z1, .val z2, .val z3, .val z4, .val (.int v)] := by
  rcases h with rfl | ⟨w, rfl, hw⟩
  · rfl
  · cases w <;> first | rfl | (simp [Value.category] at hw)
theorem pn_pn_2 : plainName "java/lang/Record" = true := by first | (simp [plainName, overriddenIn]; done) | decide +kernel
theorem pn_2 : plainFor (⟨"java/lang/Record", "<init>", "()V"⟩ : MethodName) = true := plainFor_of_name pn_pn_2
theorem d2_0 : decode jdk_30_method_1_code 0 = .ok (.aload_n 0, 1) := by decide +kernel
theorem d2_1 : decode jdk_30_method_1_code 1 = .ok (.invokespecial 1, 3) := by decide +kernel
theorem d2_4 : decode jdk_30_method_1_code 4 = .ok (.return_, 1) := by decide +kernel
theorem ef_rm2 (m : MethodId) (x0 : Addr) : entryFrame m #[(.ref x0)] 1 = mkF m 0 #[.val (.ref x0)] [] := by first | (simp [entryFrame, mkF, argsToLocals, Value.category]; done) | rfl
def Q_rm2 (Z : State) (a : Addr) (h0 : Heap) (n0 : Nat) (v : Option Value) (h : Heap) (L : List Loc) : Prop := v = none ∧ Fr n0 L ∧ h = h0
set_option maxRecDepth 65536 in
set_option maxHeartbeats 40000000 in
theorem rm2 (l : Launch) (Z : State) (a0 : Array Value) (hw : ∀ d ∈ tables_1, d.before a0 Z = true) (a : Addr) (h0 : Heap) (n0 : Nat) (Z0 : n0 ≤ h0.size)  :
    OwnMet l (⟨"java/lang/Record", "<init>", "()V"⟩ : MethodName) jdk_30_method_1_code 1 none [] ({ frames := 1, cells := 0, slots := 0, locals := 12 } : Room) Z #[(.ref a)] h0 (Q_rm2 Z a h0 n0) := by
  refine own_met pn_2 (fun p e s m below meth c s₁ hx hby hml hown hnm hret hlk hZ X0 e0 => ?_)
  have hown : s.vm.findClass "java/lang/Record" = some m.cls := hown
  have N0 := Fr.nil n0
  rw [ef_rm2]
  show OwnWk _ _ _ _ (s₁.setTop (mkF m 0 #[.val (.ref a)] []))
  refine own_go (fun t k => XS.aloadN X0.here hx rfl (hb hby d2_0) rfl rfl  k) ?_
  show OwnWk _ _ _ _ (s₁.setTop (mkF m 1 #[.val (.ref a)] [(.ref a)]))
  obtain ⟨T1, X1, e1, st1⟩ := initO X0 hx hZ hown (hw _ (List.mem_of_getElem? (i := 12) rfl)) (hw _ (List.mem_of_getElem? (i := 13) rfl)) (hw _ (List.mem_of_getElem? (i := 14) rfl)) e0 (g := (mkF m 1 #[.val (.ref a)] [(.ref a)])) rfl (by rw [hml]; rfl) rfl (hb hby d2_1) (by decide) (W := 0) (by show 2 * 0 + _ ≤ _; exact Nat.le_of_eq rfl) (by decide)
  refine own_go st1 ?_
  show OwnWk _ _ _ _ (T1.setTop (mkF m 4 #[.val (.ref a)] []))
  exact own_retV X1 hx hlk hret (hb hby d2_4) (by decide) (by decide) (by rw [e1]; exact ⟨rfl, N0, rfl⟩)
theorem pn_pn_1 : plainName "com/example/encircle/encircle/layout/Wiring$Regions" = true := by first | (simp [plainName, overriddenIn]; done) | decide +kernel
theorem pn_1 : plainFor (⟨"com/example/encircle/encircle/layout/Wiring$Regions", "<init>", "([I[II)V"⟩ : MethodName) = true := plainFor_of_name pn_pn_1
theorem d1_0 : decode prog_35_method_1_code 0 = .ok (.aload_n 0, 1) := by decide +kernel
theorem d1_1 : decode prog_35_method_1_code 1 = .ok (.invokespecial 1, 3) := by decide +kernel
theorem pd_0 : parseMethodDescriptor "()V" = some ⟨[], none⟩ := by decide +kernel
theorem d1_4 : decode prog_35_method_1_code 4 = .ok (.aload_n 0, 1) := by decide +kernel
theorem d1_5 : decode prog_35_method_1_code 5 = .ok (.aload_n 1, 1) := by decide +kernel
theorem d1_6 : decode prog_35_method_1_code 6 = .ok (.putfield 7, 3) := by decide +kernel
theorem d1_9 : decode prog_35_method_1_code 9 = .ok (.aload_n 0, 1) := by decide +kernel
theorem d1_10 : decode prog_35_method_1_code 10 = .ok (.aload_n 2, 1) := by decide +kernel
theorem d1_11 : decode prog_35_method_1_code 11 = .ok (.putfield 13, 3) := by decide +kernel
theorem d1_14 : decode prog_35_method_1_code 14 = .ok (.aload_n 0, 1) := by decide +kernel
theorem d1_15 : decode prog_35_method_1_code 15 = .ok (.iload_n 3, 1) := by decide +kernel
theorem d1_16 : decode prog_35_method_1_code 16 = .ok (.putfield 16, 3) := by decide +kernel
theorem d1_19 : decode prog_35_method_1_code 19 = .ok (.return_, 1) := by decide +kernel
theorem ef_rm1 (m : MethodId) (x0 : Addr) (x1 : Addr) (x2 : Addr) (x3 : Int32) : entryFrame m #[(.ref x0), (.ref x1), (.ref x2), (.int x3)] 4 = mkF m 0 #[.val (.ref x0), .val (.ref x1), .val (.ref x2), .val (.int x3)] [] := by first | (simp [entryFrame, mkF, argsToLocals, Value.category]; done) | rfl
def Q_rm1 (Z : State) (a t1 t2 : Addr) (r : Int32) (h0 : Heap) (n0 : Nat) (v : Option Value) (h : Heap) (L : List Loc) : Prop := v = none ∧ Fr n0 L ∧ Keep h0 h [a] ∧ Fld Z h a "com/example/encircle/encircle/layout/Wiring$Regions" "shown" "[I" (.ref t1)
set_option maxRecDepth 65536 in
set_option maxHeartbeats 40000000 in
theorem rm1 (l : Launch) (Z : State) (a0 : Array Value) (hw : ∀ d ∈ tables_1, d.before a0 Z = true) (a t1 t2 : Addr) (r : Int32) (h0 : Heap) (n0 : Nat) (Z0 : n0 ≤ h0.size) (E_a : Exa Z h0 a "com/example/encircle/encircle/layout/Wiring$Regions") (g_a : n0 ≤ a) (F_0 : Fld Z h0 a "com/example/encircle/encircle/layout/Wiring$Regions" "shown" "[I" .null) (F_1 : Fld Z h0 a "com/example/encircle/encircle/layout/Wiring$Regions" "begun" "[I" .null) (F_2 : Fld Z h0 a "com/example/encircle/encircle/layout/Wiring$Regions" "regions" "I" (.int (0 : Int32))) :
    OwnMet l (⟨"com/example/encircle/encircle/layout/Wiring$Regions", "<init>", "([I[II)V"⟩ : MethodName) prog_35_method_1_code 4 none [] ({ frames := 2, cells := 0, slots := 0, locals := 24 } : Room) Z #[(.ref a), (.ref t1), (.ref t2), (.int r)] h0 (Q_rm1 Z a t1 t2 r h0 n0) := by
  refine own_met pn_1 (fun p e s m below meth c s₁ hx hby hml hown hnm hret hlk hZ X0 e0 => ?_)
  have hown : s.vm.findClass "com/example/encircle/encircle/layout/Wiring$Regions" = some m.cls := hown
  have N0 := Fr.nil n0
  have K0 := Keep.refl h0 [a]
  rw [ef_rm1]
  show OwnWk _ _ _ _ (s₁.setTop (mkF m 0 #[.val (.ref a), .val (.ref t1), .val (.ref t2), .val (.int r)] []))
  refine own_go (fun t k => XS.aloadN X0.here hx rfl (hb hby d1_0) rfl rfl  k) ?_
  show OwnWk _ _ _ _ (s₁.setTop (mkF m 1 #[.val (.ref a), .val (.ref t1), .val (.ref t2), .val (.int r)] [(.ref a)]))
  refine own_callC X0 hx hZ (y := (⟨"java/lang/Record", "<init>", "()V"⟩ : MethodName)) hown rfl (hw _ (List.mem_of_getElem? (i := 7) rfl)) (hw _ (List.mem_of_getElem? (i := 8) rfl)) (hw _ (List.mem_of_getElem? (i := 10) rfl)) (hw _ (List.mem_of_getElem? (i := 11) rfl)) (by decide) (a := a) (argsL := []) (rest := []) (rm := ({ frames := 1, cells := 0, slots := 0, locals := 12 } : Room)) (h := h0) (rm2 l Z a0 hw a h0 n0 Z0) e0 (W := 0) (by decide) (by decide) (by decide) (by decide) (g := (mkF m 1 #[.val (.ref a), .val (.ref t1), .val (.ref t2), .val (.int r)] [(.ref a)])) rfl (by rw [hml]; rfl) (lenOf pd_0 rfl) rfl (by show 2 * 0 + _ ≤ _; exact Nat.le_of_eq rfl) (hb hby d1_1) (fun v1 T1 h1 L1 X1 e1 hQ1 => ?_)
  obtain ⟨rfl, Nq1, q1⟩ := hQ1
  have N1 := Fr.app N0 Nq1
  rw [q1] at e1
  show OwnWk _ _ _ _ (T1.setTop (mkF m 4 #[.val (.ref a), .val (.ref t1), .val (.ref t2), .val (.int r)] []))
  refine own_go (fun t k => XS.aloadN X1.here hx rfl (hb hby d1_4) rfl rfl  k) ?_
  show OwnWk _ _ _ _ (T1.setTop (mkF m 5 #[.val (.ref a), .val (.ref t1), .val (.ref t2), .val (.int r)] [(.ref a)]))
  refine own_go (fun t k => XS.aloadN X1.here hx rfl (hb hby d1_5) rfl rfl  k) ?_
  show OwnWk _ _ _ _ (T1.setTop (mkF m 6 #[.val (.ref a), .val (.ref t1), .val (.ref t2), .val (.int r)] [(.ref t1), (.ref a)]))
  obtain ⟨T2, h2, X2, e2, W2, st2⟩ := putF X1 hx hZ hown (host := "") (Or.inl (hw _ (List.mem_of_getElem? (i := 15) rfl))) Via.refl e1 F_0 E_a (Or.inr ⟨(hw _ (List.mem_of_getElem? (i := 16) rfl)), rfl, hnm⟩) (hw _ (List.mem_of_getElem? (i := 2) rfl)) (v := (.ref t1)) (ty := (.array .int)) (by decide) rfl rfl (g := (mkF m 6 #[.val (.ref a), .val (.ref t1), .val (.ref t2), .val (.int r)] [(.ref t1), (.ref a)])) rfl rfl (hb hby d1_6)
  refine own_go st2 ?_
  have N2 := Fr.snoc X2 N1 g_a
  have Fw2 := Fld.same W2 F_0
  have F3 := Exa.wr W2 E_a
  have F4 := Fld.other W2 F_1 (Or.inr (slot_ne (Or.inr (hw _ (List.mem_of_getElem? (i := 18) rfl))) (Or.inr (hw _ (List.mem_of_getElem? (i := 16) rfl))) (by decide) (t := (.array .int)) (t' := (.array .int)) (by decide) (by decide)))
  have F5 := Fld.other W2 F_2 (Or.inr (slot_ne (Or.inr (hw _ (List.mem_of_getElem? (i := 20) rfl))) (Or.inr (hw _ (List.mem_of_getElem? (i := 16) rfl))) (by decide) (t := .int) (t' := (.array .int)) (by decide) (by decide)))
  have Z6 := Nat.le_trans Z0 (Keep.of_wr W2).1
  have K7 := Keep.wr K0 W2 (Or.inl (List.mem_of_getElem? (i := 0) rfl))
  show OwnWk _ _ _ _ (T2.setTop (mkF m 9 #[.val (.ref a), .val (.ref t1), .val (.ref t2), .val (.int r)] []))
  refine own_go (fun t k => XS.aloadN X2.here hx rfl (hb hby d1_9) rfl rfl  k) ?_
  show OwnWk _ _ _ _ (T2.setTop (mkF m 10 #[.val (.ref a), .val (.ref t1), .val (.ref t2), .val (.int r)] [(.ref a)]))
  refine own_go (fun t k => XS.aloadN X2.here hx rfl (hb hby d1_10) rfl rfl  k) ?_
  show OwnWk _ _ _ _ (T2.setTop (mkF m 11 #[.val (.ref a), .val (.ref t1), .val (.ref t2), .val (.int r)] [(.ref t2), (.ref a)]))
  obtain ⟨T8, h8, X8, e8, W8, st8⟩ := putF X2 hx hZ hown (host := "") (Or.inl (hw _ (List.mem_of_getElem? (i := 17) rfl))) Via.refl e2 F4 F3 (Or.inr ⟨(hw _ (List.mem_of_getElem? (i := 18) rfl)), rfl, hnm⟩) (hw _ (List.mem_of_getElem? (i := 2) rfl)) (v := (.ref t2)) (ty := (.array .int)) (by decide) rfl rfl (g := (mkF m 11 #[.val (.ref a), .val (.ref t1), .val (.ref t2), .val (.int r)] [(.ref t2), (.ref a)])) rfl rfl (hb hby d1_11)
  refine own_go st8 ?_
  have N8 := Fr.snoc X8 N2 g_a
  have Fw8 := Fld.same W8 F4
  have F9 := Exa.wr W8 F3
  have F10 := Fld.other W8 F5 (Or.inr (slot_ne (Or.inr (hw _ (List.mem_of_getElem? (i := 20) rfl))) (Or.inr (hw _ (List.mem_of_getElem? (i := 18) rfl))) (by decide) (t := .int) (t' := (.array .int)) (by decide) (by decide)))
  have F11 := Fld.other W8 Fw2 (Or.inr (slot_ne (Or.inr (hw _ (List.mem_of_getElem? (i := 16) rfl))) (Or.inr (hw _ (List.mem_of_getElem? (i := 18) rfl))) (by decide) (t := (.array .int)) (t' := (.array .int)) (by decide) (by decide)))
  have Z12 := Nat.le_trans Z6 (Keep.of_wr W8).1
  have K13 := Keep.wr K7 W8 (Or.inl (List.mem_of_getElem? (i := 0) rfl))
  show OwnWk _ _ _ _ (T8.setTop (mkF m 14 #[.val (.ref a), .val (.ref t1), .val (.ref t2), .val (.int r)] []))
  refine own_go (fun t k => XS.aloadN X8.here hx rfl (hb hby d1_14) rfl rfl  k) ?_
  show OwnWk _ _ _ _ (T8.setTop (mkF m 15 #[.val (.ref a), .val (.ref t1), .val (.ref t2), .val (.int r)] [(.ref a)]))
  refine own_go (fun t k => XS.iloadN X8.here hx rfl (hb hby d1_15) rfl  k) ?_
  show OwnWk _ _ _ _ (T8.setTop (mkF m 16 #[.val (.ref a), .val (.ref t1), .val (.ref t2), .val (.int r)] [(.int r), (.ref a)]))
  obtain ⟨T14, h14, X14, e14, W14, st14⟩ := putF X8 hx hZ hown (host := "") (Or.inl (hw _ (List.mem_of_getElem? (i := 19) rfl))) Via.refl e8 F10 F9 (Or.inr ⟨(hw _ (List.mem_of_getElem? (i := 20) rfl)), rfl, hnm⟩) (hw _ (List.mem_of_getElem? (i := 2) rfl)) (v := (.int r)) (ty := .int) (by decide) rfl rfl (g := (mkF m 16 #[.val (.ref a), .val (.ref t1), .val (.ref t2), .val (.int r)] [(.int r), (.ref a)])) rfl rfl (hb hby d1_16)
  refine own_go st14 ?_
  have N14 := Fr.snoc X14 N8 g_a
  have Fw14 := Fld.same W14 F10
  have F15 := Exa.wr W14 F9
  have F16 := Fld.other W14 F11 (Or.inr (slot_ne (Or.inr (hw _ (List.mem_of_getElem? (i := 16) rfl))) (Or.inr (hw _ (List.mem_of_getElem? (i := 20) rfl))) (by decide) (t := (.array .int)) (t' := .int) (by decide) (by decide)))
  have F17 := Fld.other W14 Fw8 (Or.inr (slot_ne (Or.inr (hw _ (List.mem_of_getElem? (i := 18) rfl))) (Or.inr (hw _ (List.mem_of_getElem? (i := 20) rfl))) (by decide) (t := (.array .int)) (t' := .int) (by decide) (by decide)))
  have Z18 := Nat.le_trans Z12 (Keep.of_wr W14).1
  have K19 := Keep.wr K13 W14 (Or.inl (List.mem_of_getElem? (i := 0) rfl))
  show OwnWk _ _ _ _ (T14.setTop (mkF m 19 #[.val (.ref a), .val (.ref t1), .val (.ref t2), .val (.int r)] []))
  exact own_retV X14 hx hlk hret (hb hby d1_19) (by decide) (by decide) (by rw [e14]; exact ⟨rfl, N14, K19, F16⟩)
theorem pn_pn_4 : plainName "com/example/encircle/encircle/layout/Wiring$Regions" = true := by first | (simp [plainName, overriddenIn]; done) | decide +kernel
theorem pn_4 : plainFor (⟨"com/example/encircle/encircle/layout/Wiring$Regions", "everyZoneOnce", "()Z"⟩ : MethodName) = true := plainFor_of_name pn_pn_4
theorem d4_0 : decode prog_35_method_2_code 0 = .ok (.iconst 1, 1) := by decide +kernel
theorem d4_1 : decode prog_35_method_2_code 1 = .ok (.istore_n 1, 1) := by decide +kernel
theorem d4_2 : decode prog_35_method_2_code 2 = .ok (.aload_n 0, 1) := by decide +kernel
theorem d4_3 : decode prog_35_method_2_code 3 = .ok (.getfield 7, 3) := by decide +kernel
theorem d4_6 : decode prog_35_method_2_code 6 = .ok (.astore_n 2, 1) := by decide +kernel
theorem d4_7 : decode prog_35_method_2_code 7 = .ok (.aload_n 2, 1) := by decide +kernel
theorem d4_8 : decode prog_35_method_2_code 8 = .ok (.arraylength, 1) := by decide +kernel
theorem d4_9 : decode prog_35_method_2_code 9 = .ok (.istore_n 3, 1) := by decide +kernel
theorem d4_10 : decode prog_35_method_2_code 10 = .ok (.iconst 0, 1) := by decide +kernel
theorem d4_11 : decode prog_35_method_2_code 11 = .ok (.istore 4, 2) := by decide +kernel
theorem d4_13 : decode prog_35_method_2_code 13 = .ok (.iload 4, 2) := by decide +kernel
theorem d4_15 : decode prog_35_method_2_code 15 = .ok (.iload_n 3, 1) := by decide +kernel
theorem d4_16 : decode prog_35_method_2_code 16 = .ok (.if_icmp .ge 29, 3) := by decide +kernel
theorem d4_45 : decode prog_35_method_2_code 45 = .ok (.iload_n 1, 1) := by decide +kernel
theorem d4_46 : decode prog_35_method_2_code 46 = .ok (.ireturn, 1) := by decide +kernel
theorem d4_19 : decode prog_35_method_2_code 19 = .ok (.aload_n 2, 1) := by decide +kernel
theorem d4_20 : decode prog_35_method_2_code 20 = .ok (.iload 4, 2) := by decide +kernel
theorem d4_22 : decode prog_35_method_2_code 22 = .ok (.iaload, 1) := by decide +kernel
theorem d4_23 : decode prog_35_method_2_code 23 = .ok (.istore 5, 2) := by decide +kernel
theorem d4_25 : decode prog_35_method_2_code 25 = .ok (.iload_n 1, 1) := by decide +kernel
theorem d4_26 : decode prog_35_method_2_code 26 = .ok (.iload 5, 2) := by decide +kernel
theorem d4_28 : decode prog_35_method_2_code 28 = .ok (.iconst 1, 1) := by decide +kernel
theorem d4_29 : decode prog_35_method_2_code 29 = .ok (.if_icmp .ne 7, 3) := by decide +kernel
theorem d4_32 : decode prog_35_method_2_code 32 = .ok (.iconst 1, 1) := by decide +kernel
theorem d4_33 : decode prog_35_method_2_code 33 = .ok (.goto 4, 3) := by decide +kernel
theorem d4_37 : decode prog_35_method_2_code 37 = .ok (.iand, 1) := by decide +kernel
theorem d4_38 : decode prog_35_method_2_code 38 = .ok (.istore_n 1, 1) := by decide +kernel
theorem d4_39 : decode prog_35_method_2_code 39 = .ok (.iinc 4 1, 3) := by decide +kernel
theorem d4_42 : decode prog_35_method_2_code 42 = .ok (.goto (-29), 3) := by decide +kernel
theorem d4_36 : decode prog_35_method_2_code 36 = .ok (.iconst 0, 1) := by decide +kernel
theorem ef_rm4 (m : MethodId) (x0 : Addr) : entryFrame m #[(.ref x0)] 6 = mkF m 0 #[.val (.ref x0), .unset, .unset, .unset, .unset, .unset] [] := by first | (simp [entryFrame, mkF, argsToLocals, Value.category]; done) | rfl
def Q_rm4 (Z : State) (a t1 : Addr) (xs : List Int32) (h0 : Heap) (n0 : Nat) (v : Option Value) (h : Heap) (L : List Loc) : Prop := v = some (.int (nar .boolean (own_all xs 1))) ∧ Fr n0 L ∧ h = h0
set_option maxRecDepth 65536 in
set_option maxHeartbeats 40000000 in
theorem rm4 (l : Launch) (Z : State) (a0 : Array Value) (hw : ∀ d ∈ tables_1, d.before a0 Z = true) (a t1 : Addr) (xs : List Int32) (h0 : Heap) (n0 : Nat) (Z0 : n0 ≤ h0.size) (F_a : Fld Z h0 a "com/example/encircle/encircle/layout/Wiring$Regions" "shown" "[I" (.ref t1)) (V_a : OAr Z h0 t1 .int (xs.map .int)) (h31 : xs.length < 2 ^ 31) :
    OwnMet l (⟨"com/example/encircle/encircle/layout/Wiring$Regions", "everyZoneOnce", "()Z"⟩ : MethodName) prog_35_method_2_code 6 (some .boolean) [] ({ frames := 0, cells := 0, slots := 0, locals := 0 } : Room) Z #[(.ref a)] h0 (Q_rm4 Z a t1 xs h0 n0) := by
  refine own_met pn_4 (fun p e s m below meth c s₁ hx hby hml hown hnm hret hlk hZ X0 e0 => ?_)
  have hown : s.vm.findClass "com/example/encircle/encircle/layout/Wiring$Regions" = some m.cls := hown
  have N0 := Fr.nil n0
  rw [ef_rm4]
  show OwnWk _ _ _ _ (s₁.setTop (mkF m 0 #[.val (.ref a), .unset, .unset, .unset, .unset, .unset] []))
  refine own_go (fun t k => XS.iconst X0.here hx rfl (hb hby d4_0) k) ?_
  show OwnWk _ _ _ _ (s₁.setTop (mkF m 1 #[.val (.ref a), .unset, .unset, .unset, .unset, .unset] [(.int (1 : Int32))]))
  refine own_go (fun t k => XS.istoreN X0.here hx rfl (hb hby d4_1) rfl (l' := #[.val (.ref a), .val (.int (1 : Int32)), .unset, .unset, .unset, .unset]) rfl k) ?_
  show OwnWk _ _ _ _ (s₁.setTop (mkF m 2 #[.val (.ref a), .val (.int (1 : Int32)), .unset, .unset, .unset, .unset] []))
  refine own_go (fun t k => XS.aloadN X0.here hx rfl (hb hby d4_2) rfl rfl  k) ?_
  show OwnWk _ _ _ _ (s₁.setTop (mkF m 3 #[.val (.ref a), .val (.int (1 : Int32)), .unset, .unset, .unset, .unset] [(.ref a)]))
  obtain ⟨T1, X1, e1, st1⟩ := getF X0 hx hZ hown (host := "") (Or.inl (hw _ (List.mem_of_getElem? (i := 15) rfl))) Via.refl e0 F_a (g := (mkF m 3 #[.val (.ref a), .val (.int (1 : Int32)), .unset, .unset, .unset, .unset] [(.ref a)])) rfl rfl (hb hby d4_3)
  refine own_go st1 ?_
  show OwnWk _ _ _ _ (T1.setTop (mkF m 6 #[.val (.ref a), .val (.int (1 : Int32)), .unset, .unset, .unset, .unset] [(.ref t1)]))
  refine own_go (fun t k => XS.astoreN X1.here hx rfl (hb hby d4_6) rfl rfl (l' := #[.val (.ref a), .val (.int (1 : Int32)), .val (.ref t1), .unset, .unset, .unset]) rfl k) ?_
  show OwnWk _ _ _ _ (T1.setTop (mkF m 7 #[.val (.ref a), .val (.int (1 : Int32)), .val (.ref t1), .unset, .unset, .unset] []))
  refine own_go (fun t k => XS.aloadN X1.here hx rfl (hb hby d4_7) rfl rfl  k) ?_
  show OwnWk _ _ _ _ (T1.setTop (mkF m 8 #[.val (.ref a), .val (.int (1 : Int32)), .val (.ref t1), .unset, .unset, .unset] [(.ref t1)]))
  refine own_len X1 hx hZ e1 V_a (g := (mkF m 8 #[.val (.ref a), .val (.int (1 : Int32)), .val (.ref t1), .unset, .unset, .unset] [(.ref t1)])) rfl rfl (hb hby d4_8) (N := (Int32.ofNat xs.length)) (own_n_len xs) ?_
  show OwnWk _ _ _ _ (T1.setTop (mkF m 9 #[.val (.ref a), .val (.int (1 : Int32)), .val (.ref t1), .unset, .unset, .unset] [(.int (Int32.ofNat xs.length))]))
  refine own_go (fun t k => XS.istoreN X1.here hx rfl (hb hby d4_9) rfl (l' := #[.val (.ref a), .val (.int (1 : Int32)), .val (.ref t1), .val (.int (Int32.ofNat xs.length)), .unset, .unset]) rfl k) ?_
  show OwnWk _ _ _ _ (T1.setTop (mkF m 10 #[.val (.ref a), .val (.int (1 : Int32)), .val (.ref t1), .val (.int (Int32.ofNat xs.length)), .unset, .unset] []))
  refine own_go (fun t k => XS.iconst X1.here hx rfl (hb hby d4_10) k) ?_
  show OwnWk _ _ _ _ (T1.setTop (mkF m 11 #[.val (.ref a), .val (.int (1 : Int32)), .val (.ref t1), .val (.int (Int32.ofNat xs.length)), .unset, .unset] [(.int (0 : Int32))]))
  refine own_go (fun t k => XS.istore X1.here hx rfl (hb hby d4_11) rfl (l' := #[.val (.ref a), .val (.int (1 : Int32)), .val (.ref t1), .val (.int (Int32.ofNat xs.length)), .val (.int (0 : Int32)), .unset]) rfl k) ?_
  show OwnWk _ _ _ _ (T1.setTop (mkF m 13 #[.val (.ref a), .val (.int (1 : Int32)), .val (.ref t1), .val (.int (Int32.ofNat xs.length)), .val (.int (0 : Int32)), .unset] []))
  have LP : ∀ (k i : Nat) (acc : Int32) (s5 : Slot), i + k = xs.length → One s5 → own_all (xs.drop i) acc = own_all xs 1 →
      OwnWk p e below (OwnP s (Q_rm4 Z a t1 xs h0 n0) ({ frames := 0, cells := 0, slots := 0, locals := 0 } : Room).cells ({ frames := 0, cells := 0, slots := 0, locals := 0 } : Room).slots) (T1.setTop (mkF m 13 #[.val (.ref a), .val (.int acc), .val (.ref t1), .val (.int (Int32.ofNat xs.length)), .val (.int (Int32.ofNat i)), s5] [])) := by
    intro k
    induction k with
    | zero =>
      intro i acc s5 hi h5 hc
      have hi31 : i < 2 ^ 31 := by omega
      refine own_go (fun t k => XS.iload X1.here hx rfl (hb hby d4_13) rfl  k) ?_
      show OwnWk _ _ _ _ (T1.setTop (mkF m 15 #[.val (.ref a), .val (.int acc), .val (.ref t1), .val (.int (Int32.ofNat xs.length)), .val (.int (Int32.ofNat i)), s5] [(.int (Int32.ofNat i))]))
      refine own_go (fun t k => XS.iloadN X1.here hx rfl (hb hby d4_15) rfl  k) ?_
      show OwnWk _ _ _ _ (T1.setTop (mkF m 16 #[.val (.ref a), .val (.int acc), .val (.ref t1), .val (.int (Int32.ofNat xs.length)), .val (.int (Int32.ofNat i)), s5] [(.int (Int32.ofNat xs.length)), (.int (Int32.ofNat i))]))
      refine own_go (fun t k => XS.icmpYes X1.here hx rfl (pc0 := 16) (pc' := 45) rfl (hb hby d4_16) rfl (flt (fun q => by have := (own_n_lt hi31 h31).mp q; omega)).2.1 (by decide) (by decide) k) ?_
      show OwnWk _ _ _ _ (T1.setTop (mkF m 45 #[.val (.ref a), .val (.int acc), .val (.ref t1), .val (.int (Int32.ofNat xs.length)), .val (.int (Int32.ofNat i)), s5] []))
      refine own_go (fun t k => XS.iloadN X1.here hx rfl (hb hby d4_45) rfl  k) ?_
      show OwnWk _ _ _ _ (T1.setTop (mkF m 46 #[.val (.ref a), .val (.int acc), .val (.ref t1), .val (.int (Int32.ofNat xs.length)), .val (.int (Int32.ofNat i)), s5] [(.int acc)]))
      exact own_retZ X1 hx hlk hret (by simp) rfl (hb hby d4_46) (by decide) (by decide) (by rw [e1]; exact ⟨by rw [← hc, List.drop_of_length_le (by omega)]; rfl, N0, rfl⟩)
    | succ k ih =>
      intro i acc s5 hi h5 hc
      have hi31 : i < 2 ^ 31 := by omega
      obtain ⟨x, hxi⟩ := own_get (xs := xs) (i := i) (by omega)
      rw [own_drop hxi] at hc
      show OwnWk _ _ _ _ (T1.setTop (mkF m 13 #[.val (.ref a), .val (.int acc), .val (.ref t1), .val (.int (Int32.ofNat xs.length)), .val (.int (Int32.ofNat i)), s5] []))
      refine own_go (fun t k => XS.iload X1.here hx rfl (hb hby d4_13) rfl  k) ?_
      show OwnWk _ _ _ _ (T1.setTop (mkF m 15 #[.val (.ref a), .val (.int acc), .val (.ref t1), .val (.int (Int32.ofNat xs.length)), .val (.int (Int32.ofNat i)), s5] [(.int (Int32.ofNat i))]))
      refine own_go (fun t k => XS.iloadN X1.here hx rfl (hb hby d4_15) rfl  k) ?_
      show OwnWk _ _ _ _ (T1.setTop (mkF m 16 #[.val (.ref a), .val (.int acc), .val (.ref t1), .val (.int (Int32.ofNat xs.length)), .val (.int (Int32.ofNat i)), s5] [(.int (Int32.ofNat xs.length)), (.int (Int32.ofNat i))]))
      refine own_go (fun t k => XS.icmpNo X1.here hx rfl (hb hby d4_16) rfl (tlt ((own_n_lt hi31 h31).mpr (by omega))).2.1 k) ?_
      show OwnWk _ _ _ _ (T1.setTop (mkF m 19 #[.val (.ref a), .val (.int acc), .val (.ref t1), .val (.int (Int32.ofNat xs.length)), .val (.int (Int32.ofNat i)), s5] []))
      refine own_go (fun t k => XS.aloadN X1.here hx rfl (hb hby d4_19) rfl rfl  k) ?_
      show OwnWk _ _ _ _ (T1.setTop (mkF m 20 #[.val (.ref a), .val (.int acc), .val (.ref t1), .val (.int (Int32.ofNat xs.length)), .val (.int (Int32.ofNat i)), s5] [(.ref t1)]))
      refine own_go (fun t k => XS.iload X1.here hx rfl (hb hby d4_20) rfl  k) ?_
      show OwnWk _ _ _ _ (T1.setTop (mkF m 22 #[.val (.ref a), .val (.int acc), .val (.ref t1), .val (.int (Int32.ofNat xs.length)), .val (.int (Int32.ofNat i)), s5] [(.int (Int32.ofNat i)), (.ref t1)]))
      refine own_ldI X1 hx hZ e1 V_a (g := (mkF m 22 #[.val (.ref a), .val (.int acc), .val (.ref t1), .val (.int (Int32.ofNat xs.length)), .val (.int (Int32.ofNat i)), s5] [(.int (Int32.ofNat i)), (.ref t1)])) rfl rfl (hb hby d4_22) (v := (.int x)) (own_n_nn hi31) (own_n_at hi31 hxi) ?_
      show OwnWk _ _ _ _ (T1.setTop (mkF m 23 #[.val (.ref a), .val (.int acc), .val (.ref t1), .val (.int (Int32.ofNat xs.length)), .val (.int (Int32.ofNat i)), s5] [(.int x)]))
      refine own_go (fun t k => XS.istore X1.here hx rfl (hb hby d4_23) rfl (l' := #[.val (.ref a), .val (.int acc), .val (.ref t1), .val (.int (Int32.ofNat xs.length)), .val (.int (Int32.ofNat i)), .val (.int x)]) (own_st5 h5) k) ?_
      show OwnWk _ _ _ _ (T1.setTop (mkF m 25 #[.val (.ref a), .val (.int acc), .val (.ref t1), .val (.int (Int32.ofNat xs.length)), .val (.int (Int32.ofNat i)), .val (.int x)] []))
      refine own_go (fun t k => XS.iloadN X1.here hx rfl (hb hby d4_25) rfl  k) ?_
      show OwnWk _ _ _ _ (T1.setTop (mkF m 26 #[.val (.ref a), .val (.int acc), .val (.ref t1), .val (.int (Int32.ofNat xs.length)), .val (.int (Int32.ofNat i)), .val (.int x)] [(.int acc)]))
      refine own_go (fun t k => XS.iload X1.here hx rfl (hb hby d4_26) rfl  k) ?_
      show OwnWk _ _ _ _ (T1.setTop (mkF m 28 #[.val (.ref a), .val (.int acc), .val (.ref t1), .val (.int (Int32.ofNat xs.length)), .val (.int (Int32.ofNat i)), .val (.int x)] [(.int x), (.int acc)]))
      refine own_go (fun t k => XS.iconst X1.here hx rfl (hb hby d4_28) k) ?_
      show OwnWk _ _ _ _ (T1.setTop (mkF m 29 #[.val (.ref a), .val (.int acc), .val (.ref t1), .val (.int (Int32.ofNat xs.length)), .val (.int (Int32.ofNat i)), .val (.int x)] [(.int (1 : Int32)), (.int x), (.int acc)]))
      by_cases hc2 : x = (1 : Int32)
      ·
        refine own_go (fun t k => XS.icmpNo X1.here hx rfl (hb hby d4_29) rfl (teq hc2).2 k) ?_
        show OwnWk _ _ _ _ (T1.setTop (mkF m 32 #[.val (.ref a), .val (.int acc), .val (.ref t1), .val (.int (Int32.ofNat xs.length)), .val (.int (Int32.ofNat i)), .val (.int x)] [(.int acc)]))
        refine own_go (fun t k => XS.iconst X1.here hx rfl (hb hby d4_32) k) ?_
        show OwnWk _ _ _ _ (T1.setTop (mkF m 33 #[.val (.ref a), .val (.int acc), .val (.ref t1), .val (.int (Int32.ofNat xs.length)), .val (.int (Int32.ofNat i)), .val (.int x)] [(.int (1 : Int32)), (.int acc)]))
        refine own_go (fun t k => XS.goto X1.here hx rfl (pc0 := 33) (pc' := 37) rfl (hb hby d4_33) (by decide) (by decide) k) ?_
        show OwnWk _ _ _ _ (T1.setTop (mkF m 37 #[.val (.ref a), .val (.int acc), .val (.ref t1), .val (.int (Int32.ofNat xs.length)), .val (.int (Int32.ofNat i)), .val (.int x)] [(.int (1 : Int32)), (.int acc)]))
        refine own_go (fun t k => XS.iand X1.here hx rfl (hb hby d4_37) rfl k) ?_
        show OwnWk _ _ _ _ (T1.setTop (mkF m 38 #[.val (.ref a), .val (.int acc), .val (.ref t1), .val (.int (Int32.ofNat xs.length)), .val (.int (Int32.ofNat i)), .val (.int x)] [(.int (acc &&& (1 : Int32)))]))
        refine own_go (fun t k => XS.istoreN X1.here hx rfl (hb hby d4_38) rfl (l' := #[.val (.ref a), .val (.int (acc &&& (1 : Int32))), .val (.ref t1), .val (.int (Int32.ofNat xs.length)), .val (.int (Int32.ofNat i)), .val (.int x)]) rfl k) ?_
        show OwnWk _ _ _ _ (T1.setTop (mkF m 39 #[.val (.ref a), .val (.int (acc &&& (1 : Int32))), .val (.ref t1), .val (.int (Int32.ofNat xs.length)), .val (.int (Int32.ofNat i)), .val (.int x)] []))
        refine own_go (fun t k => XS.iinc X1.here hx rfl (hb hby d4_39) rfl (l' := #[.val (.ref a), .val (.int (acc &&& (1 : Int32))), .val (.ref t1), .val (.int (Int32.ofNat xs.length)), .val (.int ((Int32.ofNat i) + (1 : Int32))), .val (.int x)]) rfl k) ?_
        show OwnWk _ _ _ _ (T1.setTop (mkF m 42 #[.val (.ref a), .val (.int (acc &&& (1 : Int32))), .val (.ref t1), .val (.int (Int32.ofNat xs.length)), .val (.int ((Int32.ofNat i) + (1 : Int32))), .val (.int x)] []))
        refine own_go (fun t k => XS.goto X1.here hx rfl (pc0 := 42) (pc' := 13) rfl (hb hby d4_42) (by decide) (by decide) k) ?_
        show OwnWk _ _ _ _ (T1.setTop (mkF m 13 #[.val (.ref a), .val (.int (acc &&& (1 : Int32))), .val (.ref t1), .val (.int (Int32.ofNat xs.length)), .val (.int ((Int32.ofNat i) + (1 : Int32))), .val (.int x)] []))
        rw [own_n_succ]
        exact ih (i + 1) _ _ (by omega) (One.val rfl) (by rw [← hc]; simp [own_all, hc2])
      ·
        refine own_go (fun t k => XS.icmpYes X1.here hx rfl (pc0 := 29) (pc' := 36) rfl (hb hby d4_29) rfl (feq hc2).2 (by decide) (by decide) k) ?_
        show OwnWk _ _ _ _ (T1.setTop (mkF m 36 #[.val (.ref a), .val (.int acc), .val (.ref t1), .val (.int (Int32.ofNat xs.length)), .val (.int (Int32.ofNat i)), .val (.int x)] [(.int acc)]))
        refine own_go (fun t k => XS.iconst X1.here hx rfl (hb hby d4_36) k) ?_
        show OwnWk _ _ _ _ (T1.setTop (mkF m 37 #[.val (.ref a), .val (.int acc), .val (.ref t1), .val (.int (Int32.ofNat xs.length)), .val (.int (Int32.ofNat i)), .val (.int x)] [(.int (0 : Int32)), (.int acc)]))
        refine own_go (fun t k => XS.iand X1.here hx rfl (hb hby d4_37) rfl k) ?_
        show OwnWk _ _ _ _ (T1.setTop (mkF m 38 #[.val (.ref a), .val (.int acc), .val (.ref t1), .val (.int (Int32.ofNat xs.length)), .val (.int (Int32.ofNat i)), .val (.int x)] [(.int (acc &&& (0 : Int32)))]))
        refine own_go (fun t k => XS.istoreN X1.here hx rfl (hb hby d4_38) rfl (l' := #[.val (.ref a), .val (.int (acc &&& (0 : Int32))), .val (.ref t1), .val (.int (Int32.ofNat xs.length)), .val (.int (Int32.ofNat i)), .val (.int x)]) rfl k) ?_
        show OwnWk _ _ _ _ (T1.setTop (mkF m 39 #[.val (.ref a), .val (.int (acc &&& (0 : Int32))), .val (.ref t1), .val (.int (Int32.ofNat xs.length)), .val (.int (Int32.ofNat i)), .val (.int x)] []))
        refine own_go (fun t k => XS.iinc X1.here hx rfl (hb hby d4_39) rfl (l' := #[.val (.ref a), .val (.int (acc &&& (0 : Int32))), .val (.ref t1), .val (.int (Int32.ofNat xs.length)), .val (.int ((Int32.ofNat i) + (1 : Int32))), .val (.int x)]) rfl k) ?_
        show OwnWk _ _ _ _ (T1.setTop (mkF m 42 #[.val (.ref a), .val (.int (acc &&& (0 : Int32))), .val (.ref t1), .val (.int (Int32.ofNat xs.length)), .val (.int ((Int32.ofNat i) + (1 : Int32))), .val (.int x)] []))
        refine own_go (fun t k => XS.goto X1.here hx rfl (pc0 := 42) (pc' := 13) rfl (hb hby d4_42) (by decide) (by decide) k) ?_
        show OwnWk _ _ _ _ (T1.setTop (mkF m 13 #[.val (.ref a), .val (.int (acc &&& (0 : Int32))), .val (.ref t1), .val (.int (Int32.ofNat xs.length)), .val (.int ((Int32.ofNat i) + (1 : Int32))), .val (.int x)] []))
        rw [own_n_succ]
        exact ih (i + 1) _ _ (by omega) (One.val rfl) (by rw [← hc]; simp [own_all, hc2])
  exact LP xs.length 0 1 _ (by omega) One.u rfl
theorem pn_pn_0 : plainName "com/example/encircle/encircle/layout/RegionsEveryZoneOncePinLaw" = true := by first | (simp [plainName, overriddenIn]; done) | decide +kernel
theorem pn_0 : plainFor x = true := plainFor_of_name pn_pn_0
theorem pd_1 : parseMethodDescriptor "([I[II)V" = some ⟨[(.array .int), (.array .int), .int], none⟩ := by decide +kernel
theorem pd_2 : parseMethodDescriptor "()Z" = some ⟨[], some .boolean⟩ := by decide +kernel
theorem ef_rm0 (m : MethodId) (x0 : Int32) (x1 : Int32) (x2 : Int32) (x3 : Int32) (x4 : Int32) (x5 : Int32) : entryFrame m #[(.int x0), (.int x1), (.int x2), (.int x3), (.int x4), (.int x5)] maxLocals = mkF m 0 #[.val (.int x0), .val (.int x1), .val (.int x2), .val (.int x3), .val (.int x4), .val (.int x5), .unset, .unset, .unset, .unset, .unset] [] := by first | (simp [entryFrame, mkF, argsToLocals, Value.category, maxLocals]; done) | rfl
def Q_rm0 (Z : State) (ln x0 x1 x2 fb rg : Int32) (h0 : Heap) (n0 : Nat) (v : Option Value) (h : Heap) (L : List Loc) : Prop := v = some (.int 1) ∧ Fr n0 L
set_option maxRecDepth 65536 in
set_option maxHeartbeats 40000000 in
theorem rm0 (l : Launch) (Z : State) (a0 : Array Value) (hw : ∀ d ∈ tables_1, d.before a0 Z = true) (ln x0 x1 x2 fb rg : Int32) (h0 : Heap) (n0 : Nat) (Z0 : n0 ≤ h0.size)  :
    OwnMet l x code maxLocals ret tables_1 room_1 Z #[(.int ln), (.int x0), (.int x1), (.int x2), (.int fb), (.int rg)] h0 (Q_rm0 Z ln x0 x1 x2 fb rg h0 n0) := by
  refine own_met pn_0 (fun p e s m below meth c s₁ hx hby hml hown hnm hret hlk hZ X0 e0 => ?_)
  have hml : c.maxLocals = 11 := hml
  have hret : meth.sig.returnType = some .boolean := hret
  have hown : s.vm.findClass "com/example/encircle/encircle/layout/RegionsEveryZoneOncePinLaw" = some m.cls := hown
  have N0 := Fr.nil n0
  rw [ef_rm0]
  show OwnWk _ _ _ _ (s₁.setTop (mkF m 0 #[.val (.int ln), .val (.int x0), .val (.int x1), .val (.int x2), .val (.int fb), .val (.int rg), .unset, .unset, .unset, .unset, .unset] []))
  refine own_go (fun t k => XS.iloadN X0.here hx rfl (hb hby at_0) rfl  k) ?_
  show OwnWk _ _ _ _ (s₁.setTop (mkF m 1 #[.val (.int ln), .val (.int x0), .val (.int x1), .val (.int x2), .val (.int fb), .val (.int rg), .unset, .unset, .unset, .unset, .unset] [(.int ln)]))
  refine own_go (fun t k => XS.iconst X0.here hx rfl (hb hby at_1) k) ?_
  show OwnWk _ _ _ _ (s₁.setTop (mkF m 2 #[.val (.int ln), .val (.int x0), .val (.int x1), .val (.int x2), .val (.int fb), .val (.int rg), .unset, .unset, .unset, .unset, .unset] [(.int (3 : Int32)), (.int ln)]))
  refine own_go (fun t k => XS.iand X0.here hx rfl (hb hby at_2) rfl k) ?_
  show OwnWk _ _ _ _ (s₁.setTop (mkF m 3 #[.val (.int ln), .val (.int x0), .val (.int x1), .val (.int x2), .val (.int fb), .val (.int rg), .unset, .unset, .unset, .unset, .unset] [(.int (ln &&& (3 : Int32)))]))
  obtain ⟨n1, h_n1⟩ : ∃ z : Int32, z = (ln &&& (3 : Int32)) := ⟨_, rfl⟩
  rw [← h_n1]
  refine own_go (fun t k => XS.istore X0.here hx rfl (hb hby at_3) rfl (l' := #[.val (.int ln), .val (.int x0), .val (.int x1), .val (.int x2), .val (.int fb), .val (.int rg), .val (.int n1), .unset, .unset, .unset, .unset]) rfl k) ?_
  show OwnWk _ _ _ _ (s₁.setTop (mkF m 5 #[.val (.int ln), .val (.int x0), .val (.int x1), .val (.int x2), .val (.int fb), .val (.int rg), .val (.int n1), .unset, .unset, .unset, .unset] []))
  refine own_go (fun t k => XS.iload X0.here hx rfl (hb hby at_5) rfl  k) ?_
  show OwnWk _ _ _ _ (s₁.setTop (mkF m 7 #[.val (.int ln), .val (.int x0), .val (.int x1), .val (.int x2), .val (.int fb), .val (.int rg), .val (.int n1), .unset, .unset, .unset, .unset] [(.int n1)]))
  by_cases hc1 : n1 = (0 : Int32)
  ·
    refine own_go (fun t k => XS.ifNo X0.here hx rfl (hb hby at_7) rfl ((if0 _ _).trans (teq hc1).2) k) ?_
    show OwnWk _ _ _ _ (s₁.setTop (mkF m 10 #[.val (.int ln), .val (.int x0), .val (.int x1), .val (.int x2), .val (.int fb), .val (.int rg), .val (.int n1), .unset, .unset, .unset, .unset] []))
    subst hc1
    show OwnWk _ _ _ _ (s₁.setTop (mkF m 10 #[.val (.int ln), .val (.int x0), .val (.int x1), .val (.int x2), .val (.int fb), .val (.int rg), .val (.int (0 : Int32)), .unset, .unset, .unset, .unset] []))
    refine own_go (fun t k => XS.iconst X0.here hx rfl (hb hby at_10) k) ?_
    show OwnWk _ _ _ _ (s₁.setTop (mkF m 11 #[.val (.int ln), .val (.int x0), .val (.int x1), .val (.int x2), .val (.int fb), .val (.int rg), .val (.int (0 : Int32)), .unset, .unset, .unset, .unset] [(.int (0 : Int32))]))
    refine own_newP X0 hx hZ (aty := .int) (hw _ (List.mem_of_getElem? (i := 0) rfl)) e0 (g := (mkF m 11 #[.val (.int ln), .val (.int x0), .val (.int x1), .val (.int x2), .val (.int fb), .val (.int rg), .val (.int (0 : Int32)), .unset, .unset, .unset, .unset] [(.int (0 : Int32))])) rfl (hb hby at_11) rfl (by decide) (cap := 0) (by decide) (by decide) (by decide) (by decide) (fun T2 h2 b2 X2 e2 g2 E2 V2 => ?_)
    have ge3 : n0 ≤ b2 := Nat.le_trans Z0 (Nat.le_of_eq g2.symm)
    have Z4 := Nat.le_trans Z0 E2.1
    have V2b : OAr Z h2 b2 .int [] := V2
    show OwnWk _ _ _ _ (T2.setTop (mkF m 13 #[.val (.int ln), .val (.int x0), .val (.int x1), .val (.int x2), .val (.int fb), .val (.int rg), .val (.int (0 : Int32)), .unset, .unset, .unset, .unset] [(.ref b2)]))
    refine own_go (fun t k => XS.astore X2.here hx rfl (hb hby at_13) rfl rfl (l' := #[.val (.int ln), .val (.int x0), .val (.int x1), .val (.int x2), .val (.int fb), .val (.int rg), .val (.int (0 : Int32)), .val (.ref b2), .unset, .unset, .unset]) rfl k) ?_
    show OwnWk _ _ _ _ (T2.setTop (mkF m 15 #[.val (.int ln), .val (.int x0), .val (.int x1), .val (.int x2), .val (.int fb), .val (.int rg), .val (.int (0 : Int32)), .val (.ref b2), .unset, .unset, .unset] []))
    refine own_go (fun t k => XS.goto X2.here hx rfl (pc0 := 15) (pc' := 75) rfl (hb hby at_15) (by decide) (by decide) k) ?_
    show OwnWk _ _ _ _ (T2.setTop (mkF m 75 #[.val (.int ln), .val (.int x0), .val (.int x1), .val (.int x2), .val (.int fb), .val (.int rg), .val (.int (0 : Int32)), .val (.ref b2), .unset, .unset, .unset] []))
    refine own_go (fun t k => XS.iload X2.here hx rfl (hb hby at_75) rfl  k) ?_
    show OwnWk _ _ _ _ (T2.setTop (mkF m 77 #[.val (.int ln), .val (.int x0), .val (.int x1), .val (.int x2), .val (.int fb), .val (.int rg), .val (.int (0 : Int32)), .val (.ref b2), .unset, .unset, .unset] [(.int (0 : Int32))]))
    refine own_go (fun t k => XS.ifNo X2.here hx rfl (hb hby at_77) rfl ((if0 _ _).trans (teq (by decide : (0 : Int32) = (0 : Int32))).2) k) ?_
    show OwnWk _ _ _ _ (T2.setTop (mkF m 80 #[.val (.int ln), .val (.int x0), .val (.int x1), .val (.int x2), .val (.int fb), .val (.int rg), .val (.int (0 : Int32)), .val (.ref b2), .unset, .unset, .unset] []))
    refine own_go (fun t k => XS.iconst X2.here hx rfl (hb hby at_80) k) ?_
    show OwnWk _ _ _ _ (T2.setTop (mkF m 81 #[.val (.int ln), .val (.int x0), .val (.int x1), .val (.int x2), .val (.int fb), .val (.int rg), .val (.int (0 : Int32)), .val (.ref b2), .unset, .unset, .unset] [(.int (0 : Int32))]))
    refine own_newP X2 hx hZ (aty := .int) (hw _ (List.mem_of_getElem? (i := 0) rfl)) e2 (g := (mkF m 81 #[.val (.int ln), .val (.int x0), .val (.int x1), .val (.int x2), .val (.int fb), .val (.int rg), .val (.int (0 : Int32)), .val (.ref b2), .unset, .unset, .unset] [(.int (0 : Int32))])) rfl (hb hby at_81) rfl (by decide) (cap := 0) (by decide) (by decide) (by decide) (by decide) (fun T5 h5 b5 X5 e5 g5 E5 V5 => ?_)
    have ne6 : b2 ≠ b5 := Nat.ne_of_lt (Nat.lt_of_lt_of_le V2b.lt (Nat.le_of_eq g5.symm))
    have ge7 : n0 ≤ b5 := Nat.le_trans Z4 (Nat.le_of_eq g5.symm)
    have F8 := OAr.ext V2b E5
    have Z9 := Nat.le_trans Z4 E5.1
    have V5b : OAr Z h5 b5 .int [] := V5
    show OwnWk _ _ _ _ (T5.setTop (mkF m 83 #[.val (.int ln), .val (.int x0), .val (.int x1), .val (.int x2), .val (.int fb), .val (.int rg), .val (.int (0 : Int32)), .val (.ref b2), .unset, .unset, .unset] [(.ref b5)]))
    refine own_go (fun t k => XS.astore X5.here hx rfl (hb hby at_83) rfl rfl (l' := #[.val (.int ln), .val (.int x0), .val (.int x1), .val (.int x2), .val (.int fb), .val (.int rg), .val (.int (0 : Int32)), .val (.ref b2), .val (.ref b5), .unset, .unset]) rfl k) ?_
    show OwnWk _ _ _ _ (T5.setTop (mkF m 85 #[.val (.int ln), .val (.int x0), .val (.int x1), .val (.int x2), .val (.int fb), .val (.int rg), .val (.int (0 : Int32)), .val (.ref b2), .val (.ref b5), .unset, .unset] []))
    refine own_go (fun t k => XS.goto X5.here hx rfl (pc0 := 85) (pc' := 149) rfl (hb hby at_85) (by decide) (by decide) k) ?_
    show OwnWk _ _ _ _ (T5.setTop (mkF m 149 #[.val (.int ln), .val (.int x0), .val (.int x1), .val (.int x2), .val (.int fb), .val (.int rg), .val (.int (0 : Int32)), .val (.ref b2), .val (.ref b5), .unset, .unset] []))
    obtain ⟨T10, h10, X10, e10, E10, A10, D10, -, st10⟩ := newO X5 hx hZ hown (hw _ (List.mem_of_getElem? (i := 1) rfl)) (hw _ (List.mem_of_getElem? (i := 2) rfl)) (hw _ (List.mem_of_getElem? (i := 3) rfl)) e5 (g := (mkF m 149 #[.val (.int ln), .val (.int x0), .val (.int x1), .val (.int x2), .val (.int fb), .val (.int rg), .val (.int (0 : Int32)), .val (.ref b2), .val (.ref b5), .unset, .unset] [])) rfl (hb hby at_149) (by decide) (by decide)
    obtain ⟨b10, g10⟩ : ∃ z, z = h5.size := ⟨_, rfl⟩
    rw [← g10] at A10 D10 st10
    refine own_go st10 ?_
    have ne11 : b2 ≠ b10 := Nat.ne_of_lt (Nat.lt_of_lt_of_le F8.lt (Nat.le_of_eq g10.symm))
    have ne12 : b5 ≠ b10 := Nat.ne_of_lt (Nat.lt_of_lt_of_le V5b.lt (Nat.le_of_eq g10.symm))
    have ge13 : n0 ≤ b10 := Nat.le_trans Z9 (Nat.le_of_eq g10.symm)
    have F14 := OAr.ext F8 E10
    have F15 := OAr.ext V5b E10
    have Z16 := Nat.le_trans Z9 E10.1
    have F17 : Fld Z h10 b10 "com/example/encircle/encircle/layout/Wiring$Regions" "shown" "[I" .null := D10 (Or.inr (hw _ (List.mem_of_getElem? (i := 16) rfl))) (ty := (.array .int)) (by decide)
    have F18 : Fld Z h10 b10 "com/example/encircle/encircle/layout/Wiring$Regions" "begun" "[I" .null := D10 (Or.inr (hw _ (List.mem_of_getElem? (i := 18) rfl))) (ty := (.array .int)) (by decide)
    have F19 : Fld Z h10 b10 "com/example/encircle/encircle/layout/Wiring$Regions" "regions" "I" (.int (0 : Int32)) := D10 (Or.inr (hw _ (List.mem_of_getElem? (i := 20) rfl))) (ty := .int) (by decide)
    show OwnWk _ _ _ _ (T10.setTop (mkF m 152 #[.val (.int ln), .val (.int x0), .val (.int x1), .val (.int x2), .val (.int fb), .val (.int rg), .val (.int (0 : Int32)), .val (.ref b2), .val (.ref b5), .unset, .unset] [(.ref b10)]))
    refine own_go (fun t k => XS.dup X10.here hx rfl (hb hby at_152) rfl rfl k) ?_
    show OwnWk _ _ _ _ (T10.setTop (mkF m 153 #[.val (.int ln), .val (.int x0), .val (.int x1), .val (.int x2), .val (.int fb), .val (.int rg), .val (.int (0 : Int32)), .val (.ref b2), .val (.ref b5), .unset, .unset] [(.ref b10), (.ref b10)]))
    refine own_go (fun t k => XS.aload X10.here hx rfl (hb hby at_153) rfl rfl  k) ?_
    show OwnWk _ _ _ _ (T10.setTop (mkF m 155 #[.val (.int ln), .val (.int x0), .val (.int x1), .val (.int x2), .val (.int fb), .val (.int rg), .val (.int (0 : Int32)), .val (.ref b2), .val (.ref b5), .unset, .unset] [(.ref b2), (.ref b10), (.ref b10)]))
    refine own_go (fun t k => XS.aload X10.here hx rfl (hb hby at_155) rfl rfl  k) ?_
    show OwnWk _ _ _ _ (T10.setTop (mkF m 157 #[.val (.int ln), .val (.int x0), .val (.int x1), .val (.int x2), .val (.int fb), .val (.int rg), .val (.int (0 : Int32)), .val (.ref b2), .val (.ref b5), .unset, .unset] [(.ref b5), (.ref b2), (.ref b10), (.ref b10)]))
    refine own_go (fun t k => XS.iload X10.here hx rfl (hb hby at_157) rfl  k) ?_
    show OwnWk _ _ _ _ (T10.setTop (mkF m 159 #[.val (.int ln), .val (.int x0), .val (.int x1), .val (.int x2), .val (.int fb), .val (.int rg), .val (.int (0 : Int32)), .val (.ref b2), .val (.ref b5), .unset, .unset] [(.int rg), (.ref b5), (.ref b2), (.ref b10), (.ref b10)]))
    refine own_callC X10 hx hZ (y := (⟨"com/example/encircle/encircle/layout/Wiring$Regions", "<init>", "([I[II)V"⟩ : MethodName)) hown rfl (hw _ (List.mem_of_getElem? (i := 4) rfl)) (hw _ (List.mem_of_getElem? (i := 5) rfl)) (hw _ (List.mem_of_getElem? (i := 3) rfl)) (hw _ (List.mem_of_getElem? (i := 6) rfl)) (by decide) (a := b10) (argsL := [(.ref b2), (.ref b5), (.int rg)]) (rest := [(.ref b10)]) (rm := ({ frames := 2, cells := 0, slots := 0, locals := 24 } : Room)) (h := h10) (rm1 l Z a0 hw b10 b2 b5 rg h10 n0 Z16 A10 ge13 F17 F18 F19) e10 (W := 1) (by decide) (by decide) (by decide) (by decide) (g := (mkF m 159 #[.val (.int ln), .val (.int x0), .val (.int x1), .val (.int x2), .val (.int fb), .val (.int rg), .val (.int (0 : Int32)), .val (.ref b2), .val (.ref b5), .unset, .unset] [(.int rg), (.ref b5), (.ref b2), (.ref b10), (.ref b10)])) rfl (by rw [hml]; rfl) (lenOf pd_1 rfl) rfl (by show 2 * 0 + _ ≤ _; exact Nat.le_of_eq rfl) (hb hby at_159) (fun v20 T20 h20 L20 X20 e20 hQ20 => ?_)
    obtain ⟨rfl, Nq20, Kq20, Fq20⟩ := hQ20
    have N20 := Fr.app N0 Nq20
    have F21 := OAr.keep F14 Kq20 (ninS ne11 nin0)
    have F22 := OAr.keep F15 Kq20 (ninS ne12 nin0)
    have F23 := Exa.keep A10 Kq20
    have Z24 := Nat.le_trans Z16 Kq20.1
    show OwnWk _ _ _ _ (T20.setTop (mkF m 162 #[.val (.int ln), .val (.int x0), .val (.int x1), .val (.int x2), .val (.int fb), .val (.int rg), .val (.int (0 : Int32)), .val (.ref b2), .val (.ref b5), .unset, .unset] [(.ref b10)]))
    refine own_go (fun t k => XS.astore X20.here hx rfl (hb hby at_162) rfl rfl (l' := #[.val (.int ln), .val (.int x0), .val (.int x1), .val (.int x2), .val (.int fb), .val (.int rg), .val (.int (0 : Int32)), .val (.ref b2), .val (.ref b5), .val (.ref b10), .unset]) rfl k) ?_
    show OwnWk _ _ _ _ (T20.setTop (mkF m 164 #[.val (.int ln), .val (.int x0), .val (.int x1), .val (.int x2), .val (.int fb), .val (.int rg), .val (.int (0 : Int32)), .val (.ref b2), .val (.ref b5), .val (.ref b10), .unset] []))
    refine own_go (fun t k => XS.iload X20.here hx rfl (hb hby at_164) rfl  k) ?_
    show OwnWk _ _ _ _ (T20.setTop (mkF m 166 #[.val (.int ln), .val (.int x0), .val (.int x1), .val (.int x2), .val (.int fb), .val (.int rg), .val (.int (0 : Int32)), .val (.ref b2), .val (.ref b5), .val (.ref b10), .unset] [(.int (0 : Int32))]))
    refine own_go (fun t k => XS.iconst X20.here hx rfl (hb hby at_166) k) ?_
    show OwnWk _ _ _ _ (T20.setTop (mkF m 167 #[.val (.int ln), .val (.int x0), .val (.int x1), .val (.int x2), .val (.int fb), .val (.int rg), .val (.int (0 : Int32)), .val (.ref b2), .val (.ref b5), .val (.ref b10), .unset] [(.int (1 : Int32)), (.int (0 : Int32))]))
    refine own_go (fun t k => XS.icmpYes X20.here hx rfl (pc0 := 167) (pc' := 175) rfl (hb hby at_167) rfl (tlt (by decide : (0 : Int32) < (1 : Int32))).1 (by decide) (by decide) k) ?_
    show OwnWk _ _ _ _ (T20.setTop (mkF m 175 #[.val (.int ln), .val (.int x0), .val (.int x1), .val (.int x2), .val (.int fb), .val (.int rg), .val (.int (0 : Int32)), .val (.ref b2), .val (.ref b5), .val (.ref b10), .unset] []))
    refine own_go (fun t k => XS.iload X20.here hx rfl (hb hby at_175) rfl  k) ?_
    show OwnWk _ _ _ _ (T20.setTop (mkF m 177 #[.val (.int ln), .val (.int x0), .val (.int x1), .val (.int x2), .val (.int fb), .val (.int rg), .val (.int (0 : Int32)), .val (.ref b2), .val (.ref b5), .val (.ref b10), .unset] [(.int (0 : Int32))]))
    refine own_go (fun t k => XS.iconst X20.here hx rfl (hb hby at_177) k) ?_
    show OwnWk _ _ _ _ (T20.setTop (mkF m 178 #[.val (.int ln), .val (.int x0), .val (.int x1), .val (.int x2), .val (.int fb), .val (.int rg), .val (.int (0 : Int32)), .val (.ref b2), .val (.ref b5), .val (.ref b10), .unset] [(.int (2 : Int32)), (.int (0 : Int32))]))
    refine own_go (fun t k => XS.icmpYes X20.here hx rfl (pc0 := 178) (pc' := 186) rfl (hb hby at_178) rfl (tlt (by decide : (0 : Int32) < (2 : Int32))).1 (by decide) (by decide) k) ?_
    show OwnWk _ _ _ _ (T20.setTop (mkF m 186 #[.val (.int ln), .val (.int x0), .val (.int x1), .val (.int x2), .val (.int fb), .val (.int rg), .val (.int (0 : Int32)), .val (.ref b2), .val (.ref b5), .val (.ref b10), .unset] []))
    refine own_go (fun t k => XS.iload X20.here hx rfl (hb hby at_186) rfl  k) ?_
    show OwnWk _ _ _ _ (T20.setTop (mkF m 188 #[.val (.int ln), .val (.int x0), .val (.int x1), .val (.int x2), .val (.int fb), .val (.int rg), .val (.int (0 : Int32)), .val (.ref b2), .val (.ref b5), .val (.ref b10), .unset] [(.int (0 : Int32))]))
    refine own_go (fun t k => XS.iconst X20.here hx rfl (hb hby at_188) k) ?_
    show OwnWk _ _ _ _ (T20.setTop (mkF m 189 #[.val (.int ln), .val (.int x0), .val (.int x1), .val (.int x2), .val (.int fb), .val (.int rg), .val (.int (0 : Int32)), .val (.ref b2), .val (.ref b5), .val (.ref b10), .unset] [(.int (3 : Int32)), (.int (0 : Int32))]))
    refine own_go (fun t k => XS.icmpYes X20.here hx rfl (pc0 := 189) (pc' := 197) rfl (hb hby at_189) rfl (tlt (by decide : (0 : Int32) < (3 : Int32))).1 (by decide) (by decide) k) ?_
    show OwnWk _ _ _ _ (T20.setTop (mkF m 197 #[.val (.int ln), .val (.int x0), .val (.int x1), .val (.int x2), .val (.int fb), .val (.int rg), .val (.int (0 : Int32)), .val (.ref b2), .val (.ref b5), .val (.ref b10), .unset] []))
    refine own_go (fun t k => XS.iconst X20.here hx rfl (hb hby at_197) k) ?_
    show OwnWk _ _ _ _ (T20.setTop (mkF m 198 #[.val (.int ln), .val (.int x0), .val (.int x1), .val (.int x2), .val (.int fb), .val (.int rg), .val (.int (0 : Int32)), .val (.ref b2), .val (.ref b5), .val (.ref b10), .unset] [(.int (1 : Int32))]))
    refine own_go (fun t k => XS.goto X20.here hx rfl (pc0 := 198) (pc' := 202) rfl (hb hby at_198) (by decide) (by decide) k) ?_
    show OwnWk _ _ _ _ (T20.setTop (mkF m 202 #[.val (.int ln), .val (.int x0), .val (.int x1), .val (.int x2), .val (.int fb), .val (.int rg), .val (.int (0 : Int32)), .val (.ref b2), .val (.ref b5), .val (.ref b10), .unset] [(.int (1 : Int32))]))
    refine own_go (fun t k => XS.istore X20.here hx rfl (hb hby at_202) rfl (l' := #[.val (.int ln), .val (.int x0), .val (.int x1), .val (.int x2), .val (.int fb), .val (.int rg), .val (.int (0 : Int32)), .val (.ref b2), .val (.ref b5), .val (.ref b10), .val (.int (1 : Int32))]) rfl k) ?_
    show OwnWk _ _ _ _ (T20.setTop (mkF m 204 #[.val (.int ln), .val (.int x0), .val (.int x1), .val (.int x2), .val (.int fb), .val (.int rg), .val (.int (0 : Int32)), .val (.ref b2), .val (.ref b5), .val (.ref b10), .val (.int (1 : Int32))] []))
    refine own_go (fun t k => XS.aload X20.here hx rfl (hb hby at_204) rfl rfl  k) ?_
    show OwnWk _ _ _ _ (T20.setTop (mkF m 206 #[.val (.int ln), .val (.int x0), .val (.int x1), .val (.int x2), .val (.int fb), .val (.int rg), .val (.int (0 : Int32)), .val (.ref b2), .val (.ref b5), .val (.ref b10), .val (.int (1 : Int32))] [(.ref b10)]))
    refine own_callV X20 hx hZ (y := (⟨"com/example/encircle/encircle/layout/Wiring$Regions", "everyZoneOnce", "()Z"⟩ : MethodName)) (z := (⟨"com/example/encircle/encircle/layout/Wiring$Regions", "everyZoneOnce", "()Z"⟩ : MethodName)) hown (hw _ (List.mem_of_getElem? (i := 21) rfl)) (hw _ (List.mem_of_getElem? (i := 22) rfl)) (notFace_of_selects (args := #[]) (mvT hZ (hw _ (List.mem_of_getElem? (i := 24) rfl)))) (hw _ (List.mem_of_getElem? (i := 24) rfl)) (hw _ (List.mem_of_getElem? (i := 23) rfl)) (hw _ (List.mem_of_getElem? (i := 3) rfl)) (hw _ (List.mem_of_getElem? (i := 25) rfl)) (by decide) (a := b10) F23 (argsL := []) (rest := []) (rm := ({ frames := 0, cells := 0, slots := 0, locals := 0 } : Room)) (h := h20) (rm4 l Z a0 hw b10 b2 [] h20 n0 Z24 Fq20 F21 (by simp)) e20 (W := 0) (by decide) (by decide) (by decide) (by decide) (g := (mkF m 206 #[.val (.int ln), .val (.int x0), .val (.int x1), .val (.int x2), .val (.int fb), .val (.int rg), .val (.int (0 : Int32)), .val (.ref b2), .val (.ref b5), .val (.ref b10), .val (.int (1 : Int32))] [(.ref b10)])) rfl (by rw [hml]; rfl) (lenOf pd_2 rfl) rfl (by show 2 * 0 + _ ≤ _; exact Nat.le_of_eq rfl) (hb hby at_206) (fun v25 T25 h25 L25 X25 e25 hQ25 => ?_)
    obtain ⟨rfl, Nq25, q25⟩ := hQ25
    have N25 := Fr.app N20 Nq25
    rw [q25] at e25
    show OwnWk _ _ _ _ (T25.setTop (mkF m 209 #[.val (.int ln), .val (.int x0), .val (.int x1), .val (.int x2), .val (.int fb), .val (.int rg), .val (.int (0 : Int32)), .val (.ref b2), .val (.ref b5), .val (.ref b10), .val (.int (1 : Int32))] [(.int (nar .boolean (own_all [] 1)))]))
    refine own_go (fun t k => XS.iload X25.here hx rfl (hb hby at_209) rfl  k) ?_
    show OwnWk _ _ _ _ (T25.setTop (mkF m 211 #[.val (.int ln), .val (.int x0), .val (.int x1), .val (.int x2), .val (.int fb), .val (.int rg), .val (.int (0 : Int32)), .val (.ref b2), .val (.ref b5), .val (.ref b10), .val (.int (1 : Int32))] [(.int (1 : Int32)), (.int (nar .boolean (own_all [] 1)))]))
    refine own_go (fun t k => XS.icmpNo X25.here hx rfl (hb hby at_211) rfl (teq (by simp [own_all, nar])).2 k) ?_
    show OwnWk _ _ _ _ (T25.setTop (mkF m 214 #[.val (.int ln), .val (.int x0), .val (.int x1), .val (.int x2), .val (.int fb), .val (.int rg), .val (.int (0 : Int32)), .val (.ref b2), .val (.ref b5), .val (.ref b10), .val (.int (1 : Int32))] []))
    refine own_go (fun t k => XS.iconst X25.here hx rfl (hb hby at_214) k) ?_
    show OwnWk _ _ _ _ (T25.setTop (mkF m 215 #[.val (.int ln), .val (.int x0), .val (.int x1), .val (.int x2), .val (.int fb), .val (.int rg), .val (.int (0 : Int32)), .val (.ref b2), .val (.ref b5), .val (.ref b10), .val (.int (1 : Int32))] [(.int (1 : Int32))]))
    refine own_go (fun t k => XS.goto X25.here hx rfl (pc0 := 215) (pc' := 219) rfl (hb hby at_215) (by decide) (by decide) k) ?_
    show OwnWk _ _ _ _ (T25.setTop (mkF m 219 #[.val (.int ln), .val (.int x0), .val (.int x1), .val (.int x2), .val (.int fb), .val (.int rg), .val (.int (0 : Int32)), .val (.ref b2), .val (.ref b5), .val (.ref b10), .val (.int (1 : Int32))] [(.int (1 : Int32))]))
    exact own_retZ X25 hx hlk hret (by simp) (z' := (1 : Int32)) rfl (hb hby at_219) (by decide) (by decide) (by rw [e25]; exact ⟨rfl, N25⟩)
  ·
    refine own_go (fun t k => XS.ifYes X0.here hx rfl (pc0 := 7) (pc' := 18) rfl (hb hby at_7) rfl ((if0 _ _).trans (feq hc1).2) (by decide) (by decide) k) ?_
    show OwnWk _ _ _ _ (s₁.setTop (mkF m 18 #[.val (.int ln), .val (.int x0), .val (.int x1), .val (.int x2), .val (.int fb), .val (.int rg), .val (.int n1), .unset, .unset, .unset, .unset] []))
    refine own_go (fun t k => XS.iload X0.here hx rfl (hb hby at_18) rfl  k) ?_
    show OwnWk _ _ _ _ (s₁.setTop (mkF m 20 #[.val (.int ln), .val (.int x0), .val (.int x1), .val (.int x2), .val (.int fb), .val (.int rg), .val (.int n1), .unset, .unset, .unset, .unset] [(.int n1)]))
    refine own_go (fun t k => XS.iconst X0.here hx rfl (hb hby at_20) k) ?_
    show OwnWk _ _ _ _ (s₁.setTop (mkF m 21 #[.val (.int ln), .val (.int x0), .val (.int x1), .val (.int x2), .val (.int fb), .val (.int rg), .val (.int n1), .unset, .unset, .unset, .unset] [(.int (1 : Int32)), (.int n1)]))
    by_cases hc26 : n1 = (1 : Int32)
    ·
      refine own_go (fun t k => XS.icmpNo X0.here hx rfl (hb hby at_21) rfl (teq hc26).2 k) ?_
      show OwnWk _ _ _ _ (s₁.setTop (mkF m 24 #[.val (.int ln), .val (.int x0), .val (.int x1), .val (.int x2), .val (.int fb), .val (.int rg), .val (.int n1), .unset, .unset, .unset, .unset] []))
      subst hc26
      show OwnWk _ _ _ _ (s₁.setTop (mkF m 24 #[.val (.int ln), .val (.int x0), .val (.int x1), .val (.int x2), .val (.int fb), .val (.int rg), .val (.int (1 : Int32)), .unset, .unset, .unset, .unset] []))
      refine own_go (fun t k => XS.iconst X0.here hx rfl (hb hby at_24) k) ?_
      show OwnWk _ _ _ _ (s₁.setTop (mkF m 25 #[.val (.int ln), .val (.int x0), .val (.int x1), .val (.int x2), .val (.int fb), .val (.int rg), .val (.int (1 : Int32)), .unset, .unset, .unset, .unset] [(.int (1 : Int32))]))
      refine own_newP X0 hx hZ (aty := .int) (hw _ (List.mem_of_getElem? (i := 0) rfl)) e0 (g := (mkF m 25 #[.val (.int ln), .val (.int x0), .val (.int x1), .val (.int x2), .val (.int fb), .val (.int rg), .val (.int (1 : Int32)), .unset, .unset, .unset, .unset] [(.int (1 : Int32))])) rfl (hb hby at_25) rfl (by decide) (cap := 1) (by decide) (by decide) (by decide) (by decide) (fun T27 h27 b27 X27 e27 g27 E27 V27 => ?_)
      have ge28 : n0 ≤ b27 := Nat.le_trans Z0 (Nat.le_of_eq g27.symm)
      have Z29 := Nat.le_trans Z0 E27.1
      have V27b : OAr Z h27 b27 .int [(.int (0 : Int32))] := V27
      show OwnWk _ _ _ _ (T27.setTop (mkF m 27 #[.val (.int ln), .val (.int x0), .val (.int x1), .val (.int x2), .val (.int fb), .val (.int rg), .val (.int (1 : Int32)), .unset, .unset, .unset, .unset] [(.ref b27)]))
      refine own_go (fun t k => XS.dup X27.here hx rfl (hb hby at_27) rfl rfl k) ?_
      show OwnWk _ _ _ _ (T27.setTop (mkF m 28 #[.val (.int ln), .val (.int x0), .val (.int x1), .val (.int x2), .val (.int fb), .val (.int rg), .val (.int (1 : Int32)), .unset, .unset, .unset, .unset] [(.ref b27), (.ref b27)]))
      refine own_go (fun t k => XS.iconst X27.here hx rfl (hb hby at_28) k) ?_
      show OwnWk _ _ _ _ (T27.setTop (mkF m 29 #[.val (.int ln), .val (.int x0), .val (.int x1), .val (.int x2), .val (.int fb), .val (.int rg), .val (.int (1 : Int32)), .unset, .unset, .unset, .unset] [(.int (0 : Int32)), (.ref b27), (.ref b27)]))
      refine own_go (fun t k => XS.iloadN X27.here hx rfl (hb hby at_29) rfl  k) ?_
      show OwnWk _ _ _ _ (T27.setTop (mkF m 30 #[.val (.int ln), .val (.int x0), .val (.int x1), .val (.int x2), .val (.int fb), .val (.int rg), .val (.int (1 : Int32)), .unset, .unset, .unset, .unset] [(.int x0), (.int (0 : Int32)), (.ref b27), (.ref b27)]))
      refine own_stI X27 hx hZ e27 V27b (g := (mkF m 30 #[.val (.int ln), .val (.int x0), .val (.int x1), .val (.int x2), .val (.int fb), .val (.int rg), .val (.int (1 : Int32)), .unset, .unset, .unset, .unset] [(.int x0), (.int (0 : Int32)), (.ref b27), (.ref b27)])) rfl rfl (hb hby at_30) (by decide) (Nat.le_of_ble_eq_true rfl) (fun T30 h30 X30 e30 W30 V30 => ?_)
      have N30 := Fr.snoc X30 N0 ge28
      have Z31 := Nat.le_trans Z29 (Keep.of_wr W30).1
      show OwnWk _ _ _ _ (T30.setTop (mkF m 31 #[.val (.int ln), .val (.int x0), .val (.int x1), .val (.int x2), .val (.int fb), .val (.int rg), .val (.int (1 : Int32)), .unset, .unset, .unset, .unset] [(.ref b27)]))
      refine own_go (fun t k => XS.astore X30.here hx rfl (hb hby at_31) rfl rfl (l' := #[.val (.int ln), .val (.int x0), .val (.int x1), .val (.int x2), .val (.int fb), .val (.int rg), .val (.int (1 : Int32)), .val (.ref b27), .unset, .unset, .unset]) rfl k) ?_
      show OwnWk _ _ _ _ (T30.setTop (mkF m 33 #[.val (.int ln), .val (.int x0), .val (.int x1), .val (.int x2), .val (.int fb), .val (.int rg), .val (.int (1 : Int32)), .val (.ref b27), .unset, .unset, .unset] []))
      refine own_go (fun t k => XS.goto X30.here hx rfl (pc0 := 33) (pc' := 75) rfl (hb hby at_33) (by decide) (by decide) k) ?_
      show OwnWk _ _ _ _ (T30.setTop (mkF m 75 #[.val (.int ln), .val (.int x0), .val (.int x1), .val (.int x2), .val (.int fb), .val (.int rg), .val (.int (1 : Int32)), .val (.ref b27), .unset, .unset, .unset] []))
      refine own_go (fun t k => XS.iload X30.here hx rfl (hb hby at_75) rfl  k) ?_
      show OwnWk _ _ _ _ (T30.setTop (mkF m 77 #[.val (.int ln), .val (.int x0), .val (.int x1), .val (.int x2), .val (.int fb), .val (.int rg), .val (.int (1 : Int32)), .val (.ref b27), .unset, .unset, .unset] [(.int (1 : Int32))]))
      refine own_go (fun t k => XS.ifYes X30.here hx rfl (pc0 := 77) (pc' := 88) rfl (hb hby at_77) rfl ((if0 _ _).trans (feq (by decide : ¬ ((1 : Int32) = (0 : Int32)))).2) (by decide) (by decide) k) ?_
      show OwnWk _ _ _ _ (T30.setTop (mkF m 88 #[.val (.int ln), .val (.int x0), .val (.int x1), .val (.int x2), .val (.int fb), .val (.int rg), .val (.int (1 : Int32)), .val (.ref b27), .unset, .unset, .unset] []))
      refine own_go (fun t k => XS.iload X30.here hx rfl (hb hby at_88) rfl  k) ?_
      show OwnWk _ _ _ _ (T30.setTop (mkF m 90 #[.val (.int ln), .val (.int x0), .val (.int x1), .val (.int x2), .val (.int fb), .val (.int rg), .val (.int (1 : Int32)), .val (.ref b27), .unset, .unset, .unset] [(.int (1 : Int32))]))
      refine own_go (fun t k => XS.iconst X30.here hx rfl (hb hby at_90) k) ?_
      show OwnWk _ _ _ _ (T30.setTop (mkF m 91 #[.val (.int ln), .val (.int x0), .val (.int x1), .val (.int x2), .val (.int fb), .val (.int rg), .val (.int (1 : Int32)), .val (.ref b27), .unset, .unset, .unset] [(.int (1 : Int32)), (.int (1 : Int32))]))
      refine own_go (fun t k => XS.icmpNo X30.here hx rfl (hb hby at_91) rfl (teq (by decide : (1 : Int32) = (1 : Int32))).2 k) ?_
      show OwnWk _ _ _ _ (T30.setTop (mkF m 94 #[.val (.int ln), .val (.int x0), .val (.int x1), .val (.int x2), .val (.int fb), .val (.int rg), .val (.int (1 : Int32)), .val (.ref b27), .unset, .unset, .unset] []))
      refine own_go (fun t k => XS.iconst X30.here hx rfl (hb hby at_94) k) ?_
      show OwnWk _ _ _ _ (T30.setTop (mkF m 95 #[.val (.int ln), .val (.int x0), .val (.int x1), .val (.int x2), .val (.int fb), .val (.int rg), .val (.int (1 : Int32)), .val (.ref b27), .unset, .unset, .unset] [(.int (1 : Int32))]))
      refine own_newP X30 hx hZ (aty := .int) (hw _ (List.mem_of_getElem? (i := 0) rfl)) e30 (g := (mkF m 95 #[.val (.int ln), .val (.int x0), .val (.int x1), .val (.int x2), .val (.int fb), .val (.int rg), .val (.int (1 : Int32)), .val (.ref b27), .unset, .unset, .unset] [(.int (1 : Int32))])) rfl (hb hby at_95) rfl (by decide) (cap := 1) (by decide) (by decide) (by decide) (by decide) (fun T32 h32 b32 X32 e32 g32 E32 V32 => ?_)
      have ne33 : b27 ≠ b32 := Nat.ne_of_lt (Nat.lt_of_lt_of_le V30.lt (Nat.le_of_eq g32.symm))
      have ge34 : n0 ≤ b32 := Nat.le_trans Z31 (Nat.le_of_eq g32.symm)
      have F35 := OAr.ext V30 E32
      have Z36 := Nat.le_trans Z31 E32.1
      have V32b : OAr Z h32 b32 .int [(.int (0 : Int32))] := V32
      show OwnWk _ _ _ _ (T32.setTop (mkF m 97 #[.val (.int ln), .val (.int x0), .val (.int x1), .val (.int x2), .val (.int fb), .val (.int rg), .val (.int (1 : Int32)), .val (.ref b27), .unset, .unset, .unset] [(.ref b32)]))
      refine own_go (fun t k => XS.dup X32.here hx rfl (hb hby at_97) rfl rfl k) ?_
      show OwnWk _ _ _ _ (T32.setTop (mkF m 98 #[.val (.int ln), .val (.int x0), .val (.int x1), .val (.int x2), .val (.int fb), .val (.int rg), .val (.int (1 : Int32)), .val (.ref b27), .unset, .unset, .unset] [(.ref b32), (.ref b32)]))
      refine own_go (fun t k => XS.iconst X32.here hx rfl (hb hby at_98) k) ?_
      show OwnWk _ _ _ _ (T32.setTop (mkF m 99 #[.val (.int ln), .val (.int x0), .val (.int x1), .val (.int x2), .val (.int fb), .val (.int rg), .val (.int (1 : Int32)), .val (.ref b27), .unset, .unset, .unset] [(.int (0 : Int32)), (.ref b32), (.ref b32)]))
      refine own_go (fun t k => XS.iload X32.here hx rfl (hb hby at_99) rfl  k) ?_
      show OwnWk _ _ _ _ (T32.setTop (mkF m 101 #[.val (.int ln), .val (.int x0), .val (.int x1), .val (.int x2), .val (.int fb), .val (.int rg), .val (.int (1 : Int32)), .val (.ref b27), .unset, .unset, .unset] [(.int fb), (.int (0 : Int32)), (.ref b32), (.ref b32)]))
      refine own_stI X32 hx hZ e32 V32b (g := (mkF m 101 #[.val (.int ln), .val (.int x0), .val (.int x1), .val (.int x2), .val (.int fb), .val (.int rg), .val (.int (1 : Int32)), .val (.ref b27), .unset, .unset, .unset] [(.int fb), (.int (0 : Int32)), (.ref b32), (.ref b32)])) rfl rfl (hb hby at_101) (by decide) (Nat.le_of_ble_eq_true rfl) (fun T37 h37 X37 e37 W37 V37 => ?_)
      have N37 := Fr.snoc X37 N30 ge34
      have F38 := OAr.other F35 W37 ne33
      have Z39 := Nat.le_trans Z36 (Keep.of_wr W37).1
      show OwnWk _ _ _ _ (T37.setTop (mkF m 102 #[.val (.int ln), .val (.int x0), .val (.int x1), .val (.int x2), .val (.int fb), .val (.int rg), .val (.int (1 : Int32)), .val (.ref b27), .unset, .unset, .unset] [(.ref b32)]))
      refine own_go (fun t k => XS.astore X37.here hx rfl (hb hby at_102) rfl rfl (l' := #[.val (.int ln), .val (.int x0), .val (.int x1), .val (.int x2), .val (.int fb), .val (.int rg), .val (.int (1 : Int32)), .val (.ref b27), .val (.ref b32), .unset, .unset]) rfl k) ?_
      show OwnWk _ _ _ _ (T37.setTop (mkF m 104 #[.val (.int ln), .val (.int x0), .val (.int x1), .val (.int x2), .val (.int fb), .val (.int rg), .val (.int (1 : Int32)), .val (.ref b27), .val (.ref b32), .unset, .unset] []))
      refine own_go (fun t k => XS.goto X37.here hx rfl (pc0 := 104) (pc' := 149) rfl (hb hby at_104) (by decide) (by decide) k) ?_
      show OwnWk _ _ _ _ (T37.setTop (mkF m 149 #[.val (.int ln), .val (.int x0), .val (.int x1), .val (.int x2), .val (.int fb), .val (.int rg), .val (.int (1 : Int32)), .val (.ref b27), .val (.ref b32), .unset, .unset] []))
      obtain ⟨T40, h40, X40, e40, E40, A40, D40, -, st40⟩ := newO X37 hx hZ hown (hw _ (List.mem_of_getElem? (i := 1) rfl)) (hw _ (List.mem_of_getElem? (i := 2) rfl)) (hw _ (List.mem_of_getElem? (i := 3) rfl)) e37 (g := (mkF m 149 #[.val (.int ln), .val (.int x0), .val (.int x1), .val (.int x2), .val (.int fb), .val (.int rg), .val (.int (1 : Int32)), .val (.ref b27), .val (.ref b32), .unset, .unset] [])) rfl (hb hby at_149) (by decide) (by decide)
      obtain ⟨b40, g40⟩ : ∃ z, z = h37.size := ⟨_, rfl⟩
      rw [← g40] at A40 D40 st40
      refine own_go st40 ?_
      have ne41 : b27 ≠ b40 := Nat.ne_of_lt (Nat.lt_of_lt_of_le F38.lt (Nat.le_of_eq g40.symm))
      have ne42 : b32 ≠ b40 := Nat.ne_of_lt (Nat.lt_of_lt_of_le V37.lt (Nat.le_of_eq g40.symm))
      have ge43 : n0 ≤ b40 := Nat.le_trans Z39 (Nat.le_of_eq g40.symm)
      have F44 := OAr.ext F38 E40
      have F45 := OAr.ext V37 E40
      have Z46 := Nat.le_trans Z39 E40.1
      have F47 : Fld Z h40 b40 "com/example/encircle/encircle/layout/Wiring$Regions" "shown" "[I" .null := D40 (Or.inr (hw _ (List.mem_of_getElem? (i := 16) rfl))) (ty := (.array .int)) (by decide)
      have F48 : Fld Z h40 b40 "com/example/encircle/encircle/layout/Wiring$Regions" "begun" "[I" .null := D40 (Or.inr (hw _ (List.mem_of_getElem? (i := 18) rfl))) (ty := (.array .int)) (by decide)
      have F49 : Fld Z h40 b40 "com/example/encircle/encircle/layout/Wiring$Regions" "regions" "I" (.int (0 : Int32)) := D40 (Or.inr (hw _ (List.mem_of_getElem? (i := 20) rfl))) (ty := .int) (by decide)
      show OwnWk _ _ _ _ (T40.setTop (mkF m 152 #[.val (.int ln), .val (.int x0), .val (.int x1), .val (.int x2), .val (.int fb), .val (.int rg), .val (.int (1 : Int32)), .val (.ref b27), .val (.ref b32), .unset, .unset] [(.ref b40)]))
      refine own_go (fun t k => XS.dup X40.here hx rfl (hb hby at_152) rfl rfl k) ?_
      show OwnWk _ _ _ _ (T40.setTop (mkF m 153 #[.val (.int ln), .val (.int x0), .val (.int x1), .val (.int x2), .val (.int fb), .val (.int rg), .val (.int (1 : Int32)), .val (.ref b27), .val (.ref b32), .unset, .unset] [(.ref b40), (.ref b40)]))
      refine own_go (fun t k => XS.aload X40.here hx rfl (hb hby at_153) rfl rfl  k) ?_
      show OwnWk _ _ _ _ (T40.setTop (mkF m 155 #[.val (.int ln), .val (.int x0), .val (.int x1), .val (.int x2), .val (.int fb), .val (.int rg), .val (.int (1 : Int32)), .val (.ref b27), .val (.ref b32), .unset, .unset] [(.ref b27), (.ref b40), (.ref b40)]))
      refine own_go (fun t k => XS.aload X40.here hx rfl (hb hby at_155) rfl rfl  k) ?_
      show OwnWk _ _ _ _ (T40.setTop (mkF m 157 #[.val (.int ln), .val (.int x0), .val (.int x1), .val (.int x2), .val (.int fb), .val (.int rg), .val (.int (1 : Int32)), .val (.ref b27), .val (.ref b32), .unset, .unset] [(.ref b32), (.ref b27), (.ref b40), (.ref b40)]))
      refine own_go (fun t k => XS.iload X40.here hx rfl (hb hby at_157) rfl  k) ?_
      show OwnWk _ _ _ _ (T40.setTop (mkF m 159 #[.val (.int ln), .val (.int x0), .val (.int x1), .val (.int x2), .val (.int fb), .val (.int rg), .val (.int (1 : Int32)), .val (.ref b27), .val (.ref b32), .unset, .unset] [(.int rg), (.ref b32), (.ref b27), (.ref b40), (.ref b40)]))
      refine own_callC X40 hx hZ (y := (⟨"com/example/encircle/encircle/layout/Wiring$Regions", "<init>", "([I[II)V"⟩ : MethodName)) hown rfl (hw _ (List.mem_of_getElem? (i := 4) rfl)) (hw _ (List.mem_of_getElem? (i := 5) rfl)) (hw _ (List.mem_of_getElem? (i := 3) rfl)) (hw _ (List.mem_of_getElem? (i := 6) rfl)) (by decide) (a := b40) (argsL := [(.ref b27), (.ref b32), (.int rg)]) (rest := [(.ref b40)]) (rm := ({ frames := 2, cells := 0, slots := 0, locals := 24 } : Room)) (h := h40) (rm1 l Z a0 hw b40 b27 b32 rg h40 n0 Z46 A40 ge43 F47 F48 F49) e40 (W := 1) (by decide) (by decide) (by decide) (by decide) (g := (mkF m 159 #[.val (.int ln), .val (.int x0), .val (.int x1), .val (.int x2), .val (.int fb), .val (.int rg), .val (.int (1 : Int32)), .val (.ref b27), .val (.ref b32), .unset, .unset] [(.int rg), (.ref b32), (.ref b27), (.ref b40), (.ref b40)])) rfl (by rw [hml]; rfl) (lenOf pd_1 rfl) rfl (by show 2 * 0 + _ ≤ _; exact Nat.le_of_eq rfl) (hb hby at_159) (fun v50 T50 h50 L50 X50 e50 hQ50 => ?_)
      obtain ⟨rfl, Nq50, Kq50, Fq50⟩ := hQ50
      have N50 := Fr.app N37 Nq50
      have F51 := OAr.keep F44 Kq50 (ninS ne41 nin0)
      have F52 := OAr.keep F45 Kq50 (ninS ne42 nin0)
      have F53 := Exa.keep A40 Kq50
      have Z54 := Nat.le_trans Z46 Kq50.1
      show OwnWk _ _ _ _ (T50.setTop (mkF m 162 #[.val (.int ln), .val (.int x0), .val (.int x1), .val (.int x2), .val (.int fb), .val (.int rg), .val (.int (1 : Int32)), .val (.ref b27), .val (.ref b32), .unset, .unset] [(.ref b40)]))
      refine own_go (fun t k => XS.astore X50.here hx rfl (hb hby at_162) rfl rfl (l' := #[.val (.int ln), .val (.int x0), .val (.int x1), .val (.int x2), .val (.int fb), .val (.int rg), .val (.int (1 : Int32)), .val (.ref b27), .val (.ref b32), .val (.ref b40), .unset]) rfl k) ?_
      show OwnWk _ _ _ _ (T50.setTop (mkF m 164 #[.val (.int ln), .val (.int x0), .val (.int x1), .val (.int x2), .val (.int fb), .val (.int rg), .val (.int (1 : Int32)), .val (.ref b27), .val (.ref b32), .val (.ref b40), .unset] []))
      refine own_go (fun t k => XS.iload X50.here hx rfl (hb hby at_164) rfl  k) ?_
      show OwnWk _ _ _ _ (T50.setTop (mkF m 166 #[.val (.int ln), .val (.int x0), .val (.int x1), .val (.int x2), .val (.int fb), .val (.int rg), .val (.int (1 : Int32)), .val (.ref b27), .val (.ref b32), .val (.ref b40), .unset] [(.int (1 : Int32))]))
      refine own_go (fun t k => XS.iconst X50.here hx rfl (hb hby at_166) k) ?_
      show OwnWk _ _ _ _ (T50.setTop (mkF m 167 #[.val (.int ln), .val (.int x0), .val (.int x1), .val (.int x2), .val (.int fb), .val (.int rg), .val (.int (1 : Int32)), .val (.ref b27), .val (.ref b32), .val (.ref b40), .unset] [(.int (1 : Int32)), (.int (1 : Int32))]))
      refine own_go (fun t k => XS.icmpNo X50.here hx rfl (hb hby at_167) rfl (flt (by decide : ¬ ((1 : Int32) < (1 : Int32)))).1 k) ?_
      show OwnWk _ _ _ _ (T50.setTop (mkF m 170 #[.val (.int ln), .val (.int x0), .val (.int x1), .val (.int x2), .val (.int fb), .val (.int rg), .val (.int (1 : Int32)), .val (.ref b27), .val (.ref b32), .val (.ref b40), .unset] []))
      refine own_go (fun t k => XS.iloadN X50.here hx rfl (hb hby at_170) rfl  k) ?_
      show OwnWk _ _ _ _ (T50.setTop (mkF m 171 #[.val (.int ln), .val (.int x0), .val (.int x1), .val (.int x2), .val (.int fb), .val (.int rg), .val (.int (1 : Int32)), .val (.ref b27), .val (.ref b32), .val (.ref b40), .unset] [(.int x0)]))
      refine own_go (fun t k => XS.iconst X50.here hx rfl (hb hby at_171) k) ?_
      show OwnWk _ _ _ _ (T50.setTop (mkF m 172 #[.val (.int ln), .val (.int x0), .val (.int x1), .val (.int x2), .val (.int fb), .val (.int rg), .val (.int (1 : Int32)), .val (.ref b27), .val (.ref b32), .val (.ref b40), .unset] [(.int (1 : Int32)), (.int x0)]))
      by_cases hc55 : x0 = (1 : Int32)
      ·
        refine own_go (fun t k => XS.icmpNo X50.here hx rfl (hb hby at_172) rfl (teq hc55).2 k) ?_
        show OwnWk _ _ _ _ (T50.setTop (mkF m 175 #[.val (.int ln), .val (.int x0), .val (.int x1), .val (.int x2), .val (.int fb), .val (.int rg), .val (.int (1 : Int32)), .val (.ref b27), .val (.ref b32), .val (.ref b40), .unset] []))
        refine own_go (fun t k => XS.iload X50.here hx rfl (hb hby at_175) rfl  k) ?_
        show OwnWk _ _ _ _ (T50.setTop (mkF m 177 #[.val (.int ln), .val (.int x0), .val (.int x1), .val (.int x2), .val (.int fb), .val (.int rg), .val (.int (1 : Int32)), .val (.ref b27), .val (.ref b32), .val (.ref b40), .unset] [(.int (1 : Int32))]))
        refine own_go (fun t k => XS.iconst X50.here hx rfl (hb hby at_177) k) ?_
        show OwnWk _ _ _ _ (T50.setTop (mkF m 178 #[.val (.int ln), .val (.int x0), .val (.int x1), .val (.int x2), .val (.int fb), .val (.int rg), .val (.int (1 : Int32)), .val (.ref b27), .val (.ref b32), .val (.ref b40), .unset] [(.int (2 : Int32)), (.int (1 : Int32))]))
        refine own_go (fun t k => XS.icmpYes X50.here hx rfl (pc0 := 178) (pc' := 186) rfl (hb hby at_178) rfl (tlt (by decide : (1 : Int32) < (2 : Int32))).1 (by decide) (by decide) k) ?_
        show OwnWk _ _ _ _ (T50.setTop (mkF m 186 #[.val (.int ln), .val (.int x0), .val (.int x1), .val (.int x2), .val (.int fb), .val (.int rg), .val (.int (1 : Int32)), .val (.ref b27), .val (.ref b32), .val (.ref b40), .unset] []))
        refine own_go (fun t k => XS.iload X50.here hx rfl (hb hby at_186) rfl  k) ?_
        show OwnWk _ _ _ _ (T50.setTop (mkF m 188 #[.val (.int ln), .val (.int x0), .val (.int x1), .val (.int x2), .val (.int fb), .val (.int rg), .val (.int (1 : Int32)), .val (.ref b27), .val (.ref b32), .val (.ref b40), .unset] [(.int (1 : Int32))]))
        refine own_go (fun t k => XS.iconst X50.here hx rfl (hb hby at_188) k) ?_
        show OwnWk _ _ _ _ (T50.setTop (mkF m 189 #[.val (.int ln), .val (.int x0), .val (.int x1), .val (.int x2), .val (.int fb), .val (.int rg), .val (.int (1 : Int32)), .val (.ref b27), .val (.ref b32), .val (.ref b40), .unset] [(.int (3 : Int32)), (.int (1 : Int32))]))
        refine own_go (fun t k => XS.icmpYes X50.here hx rfl (pc0 := 189) (pc' := 197) rfl (hb hby at_189) rfl (tlt (by decide : (1 : Int32) < (3 : Int32))).1 (by decide) (by decide) k) ?_
        show OwnWk _ _ _ _ (T50.setTop (mkF m 197 #[.val (.int ln), .val (.int x0), .val (.int x1), .val (.int x2), .val (.int fb), .val (.int rg), .val (.int (1 : Int32)), .val (.ref b27), .val (.ref b32), .val (.ref b40), .unset] []))
        refine own_go (fun t k => XS.iconst X50.here hx rfl (hb hby at_197) k) ?_
        show OwnWk _ _ _ _ (T50.setTop (mkF m 198 #[.val (.int ln), .val (.int x0), .val (.int x1), .val (.int x2), .val (.int fb), .val (.int rg), .val (.int (1 : Int32)), .val (.ref b27), .val (.ref b32), .val (.ref b40), .unset] [(.int (1 : Int32))]))
        refine own_go (fun t k => XS.goto X50.here hx rfl (pc0 := 198) (pc' := 202) rfl (hb hby at_198) (by decide) (by decide) k) ?_
        show OwnWk _ _ _ _ (T50.setTop (mkF m 202 #[.val (.int ln), .val (.int x0), .val (.int x1), .val (.int x2), .val (.int fb), .val (.int rg), .val (.int (1 : Int32)), .val (.ref b27), .val (.ref b32), .val (.ref b40), .unset] [(.int (1 : Int32))]))
        refine own_go (fun t k => XS.istore X50.here hx rfl (hb hby at_202) rfl (l' := #[.val (.int ln), .val (.int x0), .val (.int x1), .val (.int x2), .val (.int fb), .val (.int rg), .val (.int (1 : Int32)), .val (.ref b27), .val (.ref b32), .val (.ref b40), .val (.int (1 : Int32))]) rfl k) ?_
        show OwnWk _ _ _ _ (T50.setTop (mkF m 204 #[.val (.int ln), .val (.int x0), .val (.int x1), .val (.int x2), .val (.int fb), .val (.int rg), .val (.int (1 : Int32)), .val (.ref b27), .val (.ref b32), .val (.ref b40), .val (.int (1 : Int32))] []))
        refine own_go (fun t k => XS.aload X50.here hx rfl (hb hby at_204) rfl rfl  k) ?_
        show OwnWk _ _ _ _ (T50.setTop (mkF m 206 #[.val (.int ln), .val (.int x0), .val (.int x1), .val (.int x2), .val (.int fb), .val (.int rg), .val (.int (1 : Int32)), .val (.ref b27), .val (.ref b32), .val (.ref b40), .val (.int (1 : Int32))] [(.ref b40)]))
        refine own_callV X50 hx hZ (y := (⟨"com/example/encircle/encircle/layout/Wiring$Regions", "everyZoneOnce", "()Z"⟩ : MethodName)) (z := (⟨"com/example/encircle/encircle/layout/Wiring$Regions", "everyZoneOnce", "()Z"⟩ : MethodName)) hown (hw _ (List.mem_of_getElem? (i := 21) rfl)) (hw _ (List.mem_of_getElem? (i := 22) rfl)) (notFace_of_selects (args := #[]) (mvT hZ (hw _ (List.mem_of_getElem? (i := 24) rfl)))) (hw _ (List.mem_of_getElem? (i := 24) rfl)) (hw _ (List.mem_of_getElem? (i := 23) rfl)) (hw _ (List.mem_of_getElem? (i := 3) rfl)) (hw _ (List.mem_of_getElem? (i := 25) rfl)) (by decide) (a := b40) F53 (argsL := []) (rest := []) (rm := ({ frames := 0, cells := 0, slots := 0, locals := 0 } : Room)) (h := h50) (rm4 l Z a0 hw b40 b27 [x0] h50 n0 Z54 Fq50 F51 (by simp)) e50 (W := 0) (by decide) (by decide) (by decide) (by decide) (g := (mkF m 206 #[.val (.int ln), .val (.int x0), .val (.int x1), .val (.int x2), .val (.int fb), .val (.int rg), .val (.int (1 : Int32)), .val (.ref b27), .val (.ref b32), .val (.ref b40), .val (.int (1 : Int32))] [(.ref b40)])) rfl (by rw [hml]; rfl) (lenOf pd_2 rfl) rfl (by show 2 * 0 + _ ≤ _; exact Nat.le_of_eq rfl) (hb hby at_206) (fun v56 T56 h56 L56 X56 e56 hQ56 => ?_)
        obtain ⟨rfl, Nq56, q56⟩ := hQ56
        have N56 := Fr.app N50 Nq56
        rw [q56] at e56
        show OwnWk _ _ _ _ (T56.setTop (mkF m 209 #[.val (.int ln), .val (.int x0), .val (.int x1), .val (.int x2), .val (.int fb), .val (.int rg), .val (.int (1 : Int32)), .val (.ref b27), .val (.ref b32), .val (.ref b40), .val (.int (1 : Int32))] [(.int (nar .boolean (own_all [x0] 1)))]))
        refine own_go (fun t k => XS.iload X56.here hx rfl (hb hby at_209) rfl  k) ?_
        show OwnWk _ _ _ _ (T56.setTop (mkF m 211 #[.val (.int ln), .val (.int x0), .val (.int x1), .val (.int x2), .val (.int fb), .val (.int rg), .val (.int (1 : Int32)), .val (.ref b27), .val (.ref b32), .val (.ref b40), .val (.int (1 : Int32))] [(.int (1 : Int32)), (.int (nar .boolean (own_all [x0] 1)))]))
        refine own_go (fun t k => XS.icmpNo X56.here hx rfl (hb hby at_211) rfl (teq (by simp [own_all, nar, hc55])).2 k) ?_
        show OwnWk _ _ _ _ (T56.setTop (mkF m 214 #[.val (.int ln), .val (.int x0), .val (.int x1), .val (.int x2), .val (.int fb), .val (.int rg), .val (.int (1 : Int32)), .val (.ref b27), .val (.ref b32), .val (.ref b40), .val (.int (1 : Int32))] []))
        refine own_go (fun t k => XS.iconst X56.here hx rfl (hb hby at_214) k) ?_
        show OwnWk _ _ _ _ (T56.setTop (mkF m 215 #[.val (.int ln), .val (.int x0), .val (.int x1), .val (.int x2), .val (.int fb), .val (.int rg), .val (.int (1 : Int32)), .val (.ref b27), .val (.ref b32), .val (.ref b40), .val (.int (1 : Int32))] [(.int (1 : Int32))]))
        refine own_go (fun t k => XS.goto X56.here hx rfl (pc0 := 215) (pc' := 219) rfl (hb hby at_215) (by decide) (by decide) k) ?_
        show OwnWk _ _ _ _ (T56.setTop (mkF m 219 #[.val (.int ln), .val (.int x0), .val (.int x1), .val (.int x2), .val (.int fb), .val (.int rg), .val (.int (1 : Int32)), .val (.ref b27), .val (.ref b32), .val (.ref b40), .val (.int (1 : Int32))] [(.int (1 : Int32))]))
        exact own_retZ X56 hx hlk hret (by simp) (z' := (1 : Int32)) rfl (hb hby at_219) (by decide) (by decide) (by rw [e56]; exact ⟨rfl, N56⟩)
      ·
        refine own_go (fun t k => XS.icmpYes X50.here hx rfl (pc0 := 172) (pc' := 201) rfl (hb hby at_172) rfl (feq hc55).2 (by decide) (by decide) k) ?_
        show OwnWk _ _ _ _ (T50.setTop (mkF m 201 #[.val (.int ln), .val (.int x0), .val (.int x1), .val (.int x2), .val (.int fb), .val (.int rg), .val (.int (1 : Int32)), .val (.ref b27), .val (.ref b32), .val (.ref b40), .unset] []))
        refine own_go (fun t k => XS.iconst X50.here hx rfl (hb hby at_201) k) ?_
        show OwnWk _ _ _ _ (T50.setTop (mkF m 202 #[.val (.int ln), .val (.int x0), .val (.int x1), .val (.int x2), .val (.int fb), .val (.int rg), .val (.int (1 : Int32)), .val (.ref b27), .val (.ref b32), .val (.ref b40), .unset] [(.int (0 : Int32))]))
        refine own_go (fun t k => XS.istore X50.here hx rfl (hb hby at_202) rfl (l' := #[.val (.int ln), .val (.int x0), .val (.int x1), .val (.int x2), .val (.int fb), .val (.int rg), .val (.int (1 : Int32)), .val (.ref b27), .val (.ref b32), .val (.ref b40), .val (.int (0 : Int32))]) rfl k) ?_
        show OwnWk _ _ _ _ (T50.setTop (mkF m 204 #[.val (.int ln), .val (.int x0), .val (.int x1), .val (.int x2), .val (.int fb), .val (.int rg), .val (.int (1 : Int32)), .val (.ref b27), .val (.ref b32), .val (.ref b40), .val (.int (0 : Int32))] []))
        refine own_go (fun t k => XS.aload X50.here hx rfl (hb hby at_204) rfl rfl  k) ?_
        show OwnWk _ _ _ _ (T50.setTop (mkF m 206 #[.val (.int ln), .val (.int x0), .val (.int x1), .val (.int x2), .val (.int fb), .val (.int rg), .val (.int (1 : Int32)), .val (.ref b27), .val (.ref b32), .val (.ref b40), .val (.int (0 : Int32))] [(.ref b40)]))
        refine own_callV X50 hx hZ (y := (⟨"com/example/encircle/encircle/layout/Wiring$Regions", "everyZoneOnce", "()Z"⟩ : MethodName)) (z := (⟨"com/example/encircle/encircle/layout/Wiring$Regions", "everyZoneOnce", "()Z"⟩ : MethodName)) hown (hw _ (List.mem_of_getElem? (i := 21) rfl)) (hw _ (List.mem_of_getElem? (i := 22) rfl)) (notFace_of_selects (args := #[]) (mvT hZ (hw _ (List.mem_of_getElem? (i := 24) rfl)))) (hw _ (List.mem_of_getElem? (i := 24) rfl)) (hw _ (List.mem_of_getElem? (i := 23) rfl)) (hw _ (List.mem_of_getElem? (i := 3) rfl)) (hw _ (List.mem_of_getElem? (i := 25) rfl)) (by decide) (a := b40) F53 (argsL := []) (rest := []) (rm := ({ frames := 0, cells := 0, slots := 0, locals := 0 } : Room)) (h := h50) (rm4 l Z a0 hw b40 b27 [x0] h50 n0 Z54 Fq50 F51 (by simp)) e50 (W := 0) (by decide) (by decide) (by decide) (by decide) (g := (mkF m 206 #[.val (.int ln), .val (.int x0), .val (.int x1), .val (.int x2), .val (.int fb), .val (.int rg), .val (.int (1 : Int32)), .val (.ref b27), .val (.ref b32), .val (.ref b40), .val (.int (0 : Int32))] [(.ref b40)])) rfl (by rw [hml]; rfl) (lenOf pd_2 rfl) rfl (by show 2 * 0 + _ ≤ _; exact Nat.le_of_eq rfl) (hb hby at_206) (fun v57 T57 h57 L57 X57 e57 hQ57 => ?_)
        obtain ⟨rfl, Nq57, q57⟩ := hQ57
        have N57 := Fr.app N50 Nq57
        rw [q57] at e57
        show OwnWk _ _ _ _ (T57.setTop (mkF m 209 #[.val (.int ln), .val (.int x0), .val (.int x1), .val (.int x2), .val (.int fb), .val (.int rg), .val (.int (1 : Int32)), .val (.ref b27), .val (.ref b32), .val (.ref b40), .val (.int (0 : Int32))] [(.int (nar .boolean (own_all [x0] 1)))]))
        refine own_go (fun t k => XS.iload X57.here hx rfl (hb hby at_209) rfl  k) ?_
        show OwnWk _ _ _ _ (T57.setTop (mkF m 211 #[.val (.int ln), .val (.int x0), .val (.int x1), .val (.int x2), .val (.int fb), .val (.int rg), .val (.int (1 : Int32)), .val (.ref b27), .val (.ref b32), .val (.ref b40), .val (.int (0 : Int32))] [(.int (0 : Int32)), (.int (nar .boolean (own_all [x0] 1)))]))
        refine own_go (fun t k => XS.icmpNo X57.here hx rfl (hb hby at_211) rfl (teq (by simp [own_all, nar, hc55])).2 k) ?_
        show OwnWk _ _ _ _ (T57.setTop (mkF m 214 #[.val (.int ln), .val (.int x0), .val (.int x1), .val (.int x2), .val (.int fb), .val (.int rg), .val (.int (1 : Int32)), .val (.ref b27), .val (.ref b32), .val (.ref b40), .val (.int (0 : Int32))] []))
        refine own_go (fun t k => XS.iconst X57.here hx rfl (hb hby at_214) k) ?_
        show OwnWk _ _ _ _ (T57.setTop (mkF m 215 #[.val (.int ln), .val (.int x0), .val (.int x1), .val (.int x2), .val (.int fb), .val (.int rg), .val (.int (1 : Int32)), .val (.ref b27), .val (.ref b32), .val (.ref b40), .val (.int (0 : Int32))] [(.int (1 : Int32))]))
        refine own_go (fun t k => XS.goto X57.here hx rfl (pc0 := 215) (pc' := 219) rfl (hb hby at_215) (by decide) (by decide) k) ?_
        show OwnWk _ _ _ _ (T57.setTop (mkF m 219 #[.val (.int ln), .val (.int x0), .val (.int x1), .val (.int x2), .val (.int fb), .val (.int rg), .val (.int (1 : Int32)), .val (.ref b27), .val (.ref b32), .val (.ref b40), .val (.int (0 : Int32))] [(.int (1 : Int32))]))
        exact own_retZ X57 hx hlk hret (by simp) (z' := (1 : Int32)) rfl (hb hby at_219) (by decide) (by decide) (by rw [e57]; exact ⟨rfl, N57⟩)
    ·
      refine own_go (fun t k => XS.icmpYes X0.here hx rfl (pc0 := 21) (pc' := 36) rfl (hb hby at_21) rfl (feq hc26).2 (by decide) (by decide) k) ?_
      show OwnWk _ _ _ _ (s₁.setTop (mkF m 36 #[.val (.int ln), .val (.int x0), .val (.int x1), .val (.int x2), .val (.int fb), .val (.int rg), .val (.int n1), .unset, .unset, .unset, .unset] []))
      refine own_go (fun t k => XS.iload X0.here hx rfl (hb hby at_36) rfl  k) ?_
      show OwnWk _ _ _ _ (s₁.setTop (mkF m 38 #[.val (.int ln), .val (.int x0), .val (.int x1), .val (.int x2), .val (.int fb), .val (.int rg), .val (.int n1), .unset, .unset, .unset, .unset] [(.int n1)]))
      refine own_go (fun t k => XS.iconst X0.here hx rfl (hb hby at_38) k) ?_
      show OwnWk _ _ _ _ (s₁.setTop (mkF m 39 #[.val (.int ln), .val (.int x0), .val (.int x1), .val (.int x2), .val (.int fb), .val (.int rg), .val (.int n1), .unset, .unset, .unset, .unset] [(.int (2 : Int32)), (.int n1)]))
      by_cases hc58 : n1 = (2 : Int32)
      ·
        refine own_go (fun t k => XS.icmpNo X0.here hx rfl (hb hby at_39) rfl (teq hc58).2 k) ?_
        show OwnWk _ _ _ _ (s₁.setTop (mkF m 42 #[.val (.int ln), .val (.int x0), .val (.int x1), .val (.int x2), .val (.int fb), .val (.int rg), .val (.int n1), .unset, .unset, .unset, .unset] []))
        subst hc58
        show OwnWk _ _ _ _ (s₁.setTop (mkF m 42 #[.val (.int ln), .val (.int x0), .val (.int x1), .val (.int x2), .val (.int fb), .val (.int rg), .val (.int (2 : Int32)), .unset, .unset, .unset, .unset] []))
        refine own_go (fun t k => XS.iconst X0.here hx rfl (hb hby at_42) k) ?_
        show OwnWk _ _ _ _ (s₁.setTop (mkF m 43 #[.val (.int ln), .val (.int x0), .val (.int x1), .val (.int x2), .val (.int fb), .val (.int rg), .val (.int (2 : Int32)), .unset, .unset, .unset, .unset] [(.int (2 : Int32))]))
        refine own_newP X0 hx hZ (aty := .int) (hw _ (List.mem_of_getElem? (i := 0) rfl)) e0 (g := (mkF m 43 #[.val (.int ln), .val (.int x0), .val (.int x1), .val (.int x2), .val (.int fb), .val (.int rg), .val (.int (2 : Int32)), .unset, .unset, .unset, .unset] [(.int (2 : Int32))])) rfl (hb hby at_43) rfl (by decide) (cap := 2) (by decide) (by decide) (by decide) (by decide) (fun T59 h59 b59 X59 e59 g59 E59 V59 => ?_)
        have ge60 : n0 ≤ b59 := Nat.le_trans Z0 (Nat.le_of_eq g59.symm)
        have Z61 := Nat.le_trans Z0 E59.1
        have V59b : OAr Z h59 b59 .int [(.int (0 : Int32)), (.int (0 : Int32))] := V59
        show OwnWk _ _ _ _ (T59.setTop (mkF m 45 #[.val (.int ln), .val (.int x0), .val (.int x1), .val (.int x2), .val (.int fb), .val (.int rg), .val (.int (2 : Int32)), .unset, .unset, .unset, .unset] [(.ref b59)]))
        refine own_go (fun t k => XS.dup X59.here hx rfl (hb hby at_45) rfl rfl k) ?_
        show OwnWk _ _ _ _ (T59.setTop (mkF m 46 #[.val (.int ln), .val (.int x0), .val (.int x1), .val (.int x2), .val (.int fb), .val (.int rg), .val (.int (2 : Int32)), .unset, .unset, .unset, .unset] [(.ref b59), (.ref b59)]))
        refine own_go (fun t k => XS.iconst X59.here hx rfl (hb hby at_46) k) ?_
        show OwnWk _ _ _ _ (T59.setTop (mkF m 47 #[.val (.int ln), .val (.int x0), .val (.int x1), .val (.int x2), .val (.int fb), .val (.int rg), .val (.int (2 : Int32)), .unset, .unset, .unset, .unset] [(.int (0 : Int32)), (.ref b59), (.ref b59)]))
        refine own_go (fun t k => XS.iloadN X59.here hx rfl (hb hby at_47) rfl  k) ?_
        show OwnWk _ _ _ _ (T59.setTop (mkF m 48 #[.val (.int ln), .val (.int x0), .val (.int x1), .val (.int x2), .val (.int fb), .val (.int rg), .val (.int (2 : Int32)), .unset, .unset, .unset, .unset] [(.int x0), (.int (0 : Int32)), (.ref b59), (.ref b59)]))
        refine own_stI X59 hx hZ e59 V59b (g := (mkF m 48 #[.val (.int ln), .val (.int x0), .val (.int x1), .val (.int x2), .val (.int fb), .val (.int rg), .val (.int (2 : Int32)), .unset, .unset, .unset, .unset] [(.int x0), (.int (0 : Int32)), (.ref b59), (.ref b59)])) rfl rfl (hb hby at_48) (by decide) (Nat.le_of_ble_eq_true rfl) (fun T62 h62 X62 e62 W62 V62 => ?_)
        have N62 := Fr.snoc X62 N0 ge60
        have Z63 := Nat.le_trans Z61 (Keep.of_wr W62).1
        show OwnWk _ _ _ _ (T62.setTop (mkF m 49 #[.val (.int ln), .val (.int x0), .val (.int x1), .val (.int x2), .val (.int fb), .val (.int rg), .val (.int (2 : Int32)), .unset, .unset, .unset, .unset] [(.ref b59)]))
        refine own_go (fun t k => XS.dup X62.here hx rfl (hb hby at_49) rfl rfl k) ?_
        show OwnWk _ _ _ _ (T62.setTop (mkF m 50 #[.val (.int ln), .val (.int x0), .val (.int x1), .val (.int x2), .val (.int fb), .val (.int rg), .val (.int (2 : Int32)), .unset, .unset, .unset, .unset] [(.ref b59), (.ref b59)]))
        refine own_go (fun t k => XS.iconst X62.here hx rfl (hb hby at_50) k) ?_
        show OwnWk _ _ _ _ (T62.setTop (mkF m 51 #[.val (.int ln), .val (.int x0), .val (.int x1), .val (.int x2), .val (.int fb), .val (.int rg), .val (.int (2 : Int32)), .unset, .unset, .unset, .unset] [(.int (1 : Int32)), (.ref b59), (.ref b59)]))
        refine own_go (fun t k => XS.iloadN X62.here hx rfl (hb hby at_51) rfl  k) ?_
        show OwnWk _ _ _ _ (T62.setTop (mkF m 52 #[.val (.int ln), .val (.int x0), .val (.int x1), .val (.int x2), .val (.int fb), .val (.int rg), .val (.int (2 : Int32)), .unset, .unset, .unset, .unset] [(.int x1), (.int (1 : Int32)), (.ref b59), (.ref b59)]))
        refine own_stI X62 hx hZ e62 V62 (g := (mkF m 52 #[.val (.int ln), .val (.int x0), .val (.int x1), .val (.int x2), .val (.int fb), .val (.int rg), .val (.int (2 : Int32)), .unset, .unset, .unset, .unset] [(.int x1), (.int (1 : Int32)), (.ref b59), (.ref b59)])) rfl rfl (hb hby at_52) (by decide) (Nat.le_of_ble_eq_true rfl) (fun T64 h64 X64 e64 W64 V64 => ?_)
        have N64 := Fr.snoc X64 N62 ge60
        have Z65 := Nat.le_trans Z63 (Keep.of_wr W64).1
        show OwnWk _ _ _ _ (T64.setTop (mkF m 53 #[.val (.int ln), .val (.int x0), .val (.int x1), .val (.int x2), .val (.int fb), .val (.int rg), .val (.int (2 : Int32)), .unset, .unset, .unset, .unset] [(.ref b59)]))
        refine own_go (fun t k => XS.astore X64.here hx rfl (hb hby at_53) rfl rfl (l' := #[.val (.int ln), .val (.int x0), .val (.int x1), .val (.int x2), .val (.int fb), .val (.int rg), .val (.int (2 : Int32)), .val (.ref b59), .unset, .unset, .unset]) rfl k) ?_
        show OwnWk _ _ _ _ (T64.setTop (mkF m 55 #[.val (.int ln), .val (.int x0), .val (.int x1), .val (.int x2), .val (.int fb), .val (.int rg), .val (.int (2 : Int32)), .val (.ref b59), .unset, .unset, .unset] []))
        refine own_go (fun t k => XS.goto X64.here hx rfl (pc0 := 55) (pc' := 75) rfl (hb hby at_55) (by decide) (by decide) k) ?_
        show OwnWk _ _ _ _ (T64.setTop (mkF m 75 #[.val (.int ln), .val (.int x0), .val (.int x1), .val (.int x2), .val (.int fb), .val (.int rg), .val (.int (2 : Int32)), .val (.ref b59), .unset, .unset, .unset] []))
        refine own_go (fun t k => XS.iload X64.here hx rfl (hb hby at_75) rfl  k) ?_
        show OwnWk _ _ _ _ (T64.setTop (mkF m 77 #[.val (.int ln), .val (.int x0), .val (.int x1), .val (.int x2), .val (.int fb), .val (.int rg), .val (.int (2 : Int32)), .val (.ref b59), .unset, .unset, .unset] [(.int (2 : Int32))]))
        refine own_go (fun t k => XS.ifYes X64.here hx rfl (pc0 := 77) (pc' := 88) rfl (hb hby at_77) rfl ((if0 _ _).trans (feq (by decide : ¬ ((2 : Int32) = (0 : Int32)))).2) (by decide) (by decide) k) ?_
        show OwnWk _ _ _ _ (T64.setTop (mkF m 88 #[.val (.int ln), .val (.int x0), .val (.int x1), .val (.int x2), .val (.int fb), .val (.int rg), .val (.int (2 : Int32)), .val (.ref b59), .unset, .unset, .unset] []))
        refine own_go (fun t k => XS.iload X64.here hx rfl (hb hby at_88) rfl  k) ?_
        show OwnWk _ _ _ _ (T64.setTop (mkF m 90 #[.val (.int ln), .val (.int x0), .val (.int x1), .val (.int x2), .val (.int fb), .val (.int rg), .val (.int (2 : Int32)), .val (.ref b59), .unset, .unset, .unset] [(.int (2 : Int32))]))
        refine own_go (fun t k => XS.iconst X64.here hx rfl (hb hby at_90) k) ?_
        show OwnWk _ _ _ _ (T64.setTop (mkF m 91 #[.val (.int ln), .val (.int x0), .val (.int x1), .val (.int x2), .val (.int fb), .val (.int rg), .val (.int (2 : Int32)), .val (.ref b59), .unset, .unset, .unset] [(.int (1 : Int32)), (.int (2 : Int32))]))
        refine own_go (fun t k => XS.icmpYes X64.here hx rfl (pc0 := 91) (pc' := 107) rfl (hb hby at_91) rfl (feq (by decide : ¬ ((2 : Int32) = (1 : Int32)))).2 (by decide) (by decide) k) ?_
        show OwnWk _ _ _ _ (T64.setTop (mkF m 107 #[.val (.int ln), .val (.int x0), .val (.int x1), .val (.int x2), .val (.int fb), .val (.int rg), .val (.int (2 : Int32)), .val (.ref b59), .unset, .unset, .unset] []))
        refine own_go (fun t k => XS.iload X64.here hx rfl (hb hby at_107) rfl  k) ?_
        show OwnWk _ _ _ _ (T64.setTop (mkF m 109 #[.val (.int ln), .val (.int x0), .val (.int x1), .val (.int x2), .val (.int fb), .val (.int rg), .val (.int (2 : Int32)), .val (.ref b59), .unset, .unset, .unset] [(.int (2 : Int32))]))
        refine own_go (fun t k => XS.iconst X64.here hx rfl (hb hby at_109) k) ?_
        show OwnWk _ _ _ _ (T64.setTop (mkF m 110 #[.val (.int ln), .val (.int x0), .val (.int x1), .val (.int x2), .val (.int fb), .val (.int rg), .val (.int (2 : Int32)), .val (.ref b59), .unset, .unset, .unset] [(.int (2 : Int32)), (.int (2 : Int32))]))
        refine own_go (fun t k => XS.icmpNo X64.here hx rfl (hb hby at_110) rfl (teq (by decide : (2 : Int32) = (2 : Int32))).2 k) ?_
        show OwnWk _ _ _ _ (T64.setTop (mkF m 113 #[.val (.int ln), .val (.int x0), .val (.int x1), .val (.int x2), .val (.int fb), .val (.int rg), .val (.int (2 : Int32)), .val (.ref b59), .unset, .unset, .unset] []))
        refine own_go (fun t k => XS.iconst X64.here hx rfl (hb hby at_113) k) ?_
        show OwnWk _ _ _ _ (T64.setTop (mkF m 114 #[.val (.int ln), .val (.int x0), .val (.int x1), .val (.int x2), .val (.int fb), .val (.int rg), .val (.int (2 : Int32)), .val (.ref b59), .unset, .unset, .unset] [(.int (2 : Int32))]))
        refine own_newP X64 hx hZ (aty := .int) (hw _ (List.mem_of_getElem? (i := 0) rfl)) e64 (g := (mkF m 114 #[.val (.int ln), .val (.int x0), .val (.int x1), .val (.int x2), .val (.int fb), .val (.int rg), .val (.int (2 : Int32)), .val (.ref b59), .unset, .unset, .unset] [(.int (2 : Int32))])) rfl (hb hby at_114) rfl (by decide) (cap := 2) (by decide) (by decide) (by decide) (by decide) (fun T66 h66 b66 X66 e66 g66 E66 V66 => ?_)
        have ne67 : b59 ≠ b66 := Nat.ne_of_lt (Nat.lt_of_lt_of_le V64.lt (Nat.le_of_eq g66.symm))
        have ge68 : n0 ≤ b66 := Nat.le_trans Z65 (Nat.le_of_eq g66.symm)
        have F69 := OAr.ext V64 E66
        have Z70 := Nat.le_trans Z65 E66.1
        have V66b : OAr Z h66 b66 .int [(.int (0 : Int32)), (.int (0 : Int32))] := V66
        show OwnWk _ _ _ _ (T66.setTop (mkF m 116 #[.val (.int ln), .val (.int x0), .val (.int x1), .val (.int x2), .val (.int fb), .val (.int rg), .val (.int (2 : Int32)), .val (.ref b59), .unset, .unset, .unset] [(.ref b66)]))
        refine own_go (fun t k => XS.dup X66.here hx rfl (hb hby at_116) rfl rfl k) ?_
        show OwnWk _ _ _ _ (T66.setTop (mkF m 117 #[.val (.int ln), .val (.int x0), .val (.int x1), .val (.int x2), .val (.int fb), .val (.int rg), .val (.int (2 : Int32)), .val (.ref b59), .unset, .unset, .unset] [(.ref b66), (.ref b66)]))
        refine own_go (fun t k => XS.iconst X66.here hx rfl (hb hby at_117) k) ?_
        show OwnWk _ _ _ _ (T66.setTop (mkF m 118 #[.val (.int ln), .val (.int x0), .val (.int x1), .val (.int x2), .val (.int fb), .val (.int rg), .val (.int (2 : Int32)), .val (.ref b59), .unset, .unset, .unset] [(.int (0 : Int32)), (.ref b66), (.ref b66)]))
        refine own_go (fun t k => XS.iload X66.here hx rfl (hb hby at_118) rfl  k) ?_
        show OwnWk _ _ _ _ (T66.setTop (mkF m 120 #[.val (.int ln), .val (.int x0), .val (.int x1), .val (.int x2), .val (.int fb), .val (.int rg), .val (.int (2 : Int32)), .val (.ref b59), .unset, .unset, .unset] [(.int fb), (.int (0 : Int32)), (.ref b66), (.ref b66)]))
        refine own_stI X66 hx hZ e66 V66b (g := (mkF m 120 #[.val (.int ln), .val (.int x0), .val (.int x1), .val (.int x2), .val (.int fb), .val (.int rg), .val (.int (2 : Int32)), .val (.ref b59), .unset, .unset, .unset] [(.int fb), (.int (0 : Int32)), (.ref b66), (.ref b66)])) rfl rfl (hb hby at_120) (by decide) (Nat.le_of_ble_eq_true rfl) (fun T71 h71 X71 e71 W71 V71 => ?_)
        have N71 := Fr.snoc X71 N64 ge68
        have F72 := OAr.other F69 W71 ne67
        have Z73 := Nat.le_trans Z70 (Keep.of_wr W71).1
        show OwnWk _ _ _ _ (T71.setTop (mkF m 121 #[.val (.int ln), .val (.int x0), .val (.int x1), .val (.int x2), .val (.int fb), .val (.int rg), .val (.int (2 : Int32)), .val (.ref b59), .unset, .unset, .unset] [(.ref b66)]))
        refine own_go (fun t k => XS.dup X71.here hx rfl (hb hby at_121) rfl rfl k) ?_
        show OwnWk _ _ _ _ (T71.setTop (mkF m 122 #[.val (.int ln), .val (.int x0), .val (.int x1), .val (.int x2), .val (.int fb), .val (.int rg), .val (.int (2 : Int32)), .val (.ref b59), .unset, .unset, .unset] [(.ref b66), (.ref b66)]))
        refine own_go (fun t k => XS.iconst X71.here hx rfl (hb hby at_122) k) ?_
        show OwnWk _ _ _ _ (T71.setTop (mkF m 123 #[.val (.int ln), .val (.int x0), .val (.int x1), .val (.int x2), .val (.int fb), .val (.int rg), .val (.int (2 : Int32)), .val (.ref b59), .unset, .unset, .unset] [(.int (1 : Int32)), (.ref b66), (.ref b66)]))
        refine own_go (fun t k => XS.iconst X71.here hx rfl (hb hby at_123) k) ?_
        show OwnWk _ _ _ _ (T71.setTop (mkF m 124 #[.val (.int ln), .val (.int x0), .val (.int x1), .val (.int x2), .val (.int fb), .val (.int rg), .val (.int (2 : Int32)), .val (.ref b59), .unset, .unset, .unset] [(.int (-1 : Int32)), (.int (1 : Int32)), (.ref b66), (.ref b66)]))
        refine own_stI X71 hx hZ e71 V71 (g := (mkF m 124 #[.val (.int ln), .val (.int x0), .val (.int x1), .val (.int x2), .val (.int fb), .val (.int rg), .val (.int (2 : Int32)), .val (.ref b59), .unset, .unset, .unset] [(.int (-1 : Int32)), (.int (1 : Int32)), (.ref b66), (.ref b66)])) rfl rfl (hb hby at_124) (by decide) (Nat.le_of_ble_eq_true rfl) (fun T74 h74 X74 e74 W74 V74 => ?_)
        have N74 := Fr.snoc X74 N71 ge68
        have F75 := OAr.other F72 W74 ne67
        have Z76 := Nat.le_trans Z73 (Keep.of_wr W74).1
        show OwnWk _ _ _ _ (T74.setTop (mkF m 125 #[.val (.int ln), .val (.int x0), .val (.int x1), .val (.int x2), .val (.int fb), .val (.int rg), .val (.int (2 : Int32)), .val (.ref b59), .unset, .unset, .unset] [(.ref b66)]))
        refine own_go (fun t k => XS.astore X74.here hx rfl (hb hby at_125) rfl rfl (l' := #[.val (.int ln), .val (.int x0), .val (.int x1), .val (.int x2), .val (.int fb), .val (.int rg), .val (.int (2 : Int32)), .val (.ref b59), .val (.ref b66), .unset, .unset]) rfl k) ?_
        show OwnWk _ _ _ _ (T74.setTop (mkF m 127 #[.val (.int ln), .val (.int x0), .val (.int x1), .val (.int x2), .val (.int fb), .val (.int rg), .val (.int (2 : Int32)), .val (.ref b59), .val (.ref b66), .unset, .unset] []))
        refine own_go (fun t k => XS.goto X74.here hx rfl (pc0 := 127) (pc' := 149) rfl (hb hby at_127) (by decide) (by decide) k) ?_
        show OwnWk _ _ _ _ (T74.setTop (mkF m 149 #[.val (.int ln), .val (.int x0), .val (.int x1), .val (.int x2), .val (.int fb), .val (.int rg), .val (.int (2 : Int32)), .val (.ref b59), .val (.ref b66), .unset, .unset] []))
        obtain ⟨T77, h77, X77, e77, E77, A77, D77, -, st77⟩ := newO X74 hx hZ hown (hw _ (List.mem_of_getElem? (i := 1) rfl)) (hw _ (List.mem_of_getElem? (i := 2) rfl)) (hw _ (List.mem_of_getElem? (i := 3) rfl)) e74 (g := (mkF m 149 #[.val (.int ln), .val (.int x0), .val (.int x1), .val (.int x2), .val (.int fb), .val (.int rg), .val (.int (2 : Int32)), .val (.ref b59), .val (.ref b66), .unset, .unset] [])) rfl (hb hby at_149) (by decide) (by decide)
        obtain ⟨b77, g77⟩ : ∃ z, z = h74.size := ⟨_, rfl⟩
        rw [← g77] at A77 D77 st77
        refine own_go st77 ?_
        have ne78 : b59 ≠ b77 := Nat.ne_of_lt (Nat.lt_of_lt_of_le F75.lt (Nat.le_of_eq g77.symm))
        have ne79 : b66 ≠ b77 := Nat.ne_of_lt (Nat.lt_of_lt_of_le V74.lt (Nat.le_of_eq g77.symm))
        have ge80 : n0 ≤ b77 := Nat.le_trans Z76 (Nat.le_of_eq g77.symm)
        have F81 := OAr.ext F75 E77
        have F82 := OAr.ext V74 E77
        have Z83 := Nat.le_trans Z76 E77.1
        have F84 : Fld Z h77 b77 "com/example/encircle/encircle/layout/Wiring$Regions" "shown" "[I" .null := D77 (Or.inr (hw _ (List.mem_of_getElem? (i := 16) rfl))) (ty := (.array .int)) (by decide)
        have F85 : Fld Z h77 b77 "com/example/encircle/encircle/layout/Wiring$Regions" "begun" "[I" .null := D77 (Or.inr (hw _ (List.mem_of_getElem? (i := 18) rfl))) (ty := (.array .int)) (by decide)
        have F86 : Fld Z h77 b77 "com/example/encircle/encircle/layout/Wiring$Regions" "regions" "I" (.int (0 : Int32)) := D77 (Or.inr (hw _ (List.mem_of_getElem? (i := 20) rfl))) (ty := .int) (by decide)
        show OwnWk _ _ _ _ (T77.setTop (mkF m 152 #[.val (.int ln), .val (.int x0), .val (.int x1), .val (.int x2), .val (.int fb), .val (.int rg), .val (.int (2 : Int32)), .val (.ref b59), .val (.ref b66), .unset, .unset] [(.ref b77)]))
        refine own_go (fun t k => XS.dup X77.here hx rfl (hb hby at_152) rfl rfl k) ?_
        show OwnWk _ _ _ _ (T77.setTop (mkF m 153 #[.val (.int ln), .val (.int x0), .val (.int x1), .val (.int x2), .val (.int fb), .val (.int rg), .val (.int (2 : Int32)), .val (.ref b59), .val (.ref b66), .unset, .unset] [(.ref b77), (.ref b77)]))
        refine own_go (fun t k => XS.aload X77.here hx rfl (hb hby at_153) rfl rfl  k) ?_
        show OwnWk _ _ _ _ (T77.setTop (mkF m 155 #[.val (.int ln), .val (.int x0), .val (.int x1), .val (.int x2), .val (.int fb), .val (.int rg), .val (.int (2 : Int32)), .val (.ref b59), .val (.ref b66), .unset, .unset] [(.ref b59), (.ref b77), (.ref b77)]))
        refine own_go (fun t k => XS.aload X77.here hx rfl (hb hby at_155) rfl rfl  k) ?_
        show OwnWk _ _ _ _ (T77.setTop (mkF m 157 #[.val (.int ln), .val (.int x0), .val (.int x1), .val (.int x2), .val (.int fb), .val (.int rg), .val (.int (2 : Int32)), .val (.ref b59), .val (.ref b66), .unset, .unset] [(.ref b66), (.ref b59), (.ref b77), (.ref b77)]))
        refine own_go (fun t k => XS.iload X77.here hx rfl (hb hby at_157) rfl  k) ?_
        show OwnWk _ _ _ _ (T77.setTop (mkF m 159 #[.val (.int ln), .val (.int x0), .val (.int x1), .val (.int x2), .val (.int fb), .val (.int rg), .val (.int (2 : Int32)), .val (.ref b59), .val (.ref b66), .unset, .unset] [(.int rg), (.ref b66), (.ref b59), (.ref b77), (.ref b77)]))
        refine own_callC X77 hx hZ (y := (⟨"com/example/encircle/encircle/layout/Wiring$Regions", "<init>", "([I[II)V"⟩ : MethodName)) hown rfl (hw _ (List.mem_of_getElem? (i := 4) rfl)) (hw _ (List.mem_of_getElem? (i := 5) rfl)) (hw _ (List.mem_of_getElem? (i := 3) rfl)) (hw _ (List.mem_of_getElem? (i := 6) rfl)) (by decide) (a := b77) (argsL := [(.ref b59), (.ref b66), (.int rg)]) (rest := [(.ref b77)]) (rm := ({ frames := 2, cells := 0, slots := 0, locals := 24 } : Room)) (h := h77) (rm1 l Z a0 hw b77 b59 b66 rg h77 n0 Z83 A77 ge80 F84 F85 F86) e77 (W := 1) (by decide) (by decide) (by decide) (by decide) (g := (mkF m 159 #[.val (.int ln), .val (.int x0), .val (.int x1), .val (.int x2), .val (.int fb), .val (.int rg), .val (.int (2 : Int32)), .val (.ref b59), .val (.ref b66), .unset, .unset] [(.int rg), (.ref b66), (.ref b59), (.ref b77), (.ref b77)])) rfl (by rw [hml]; rfl) (lenOf pd_1 rfl) rfl (by show 2 * 0 + _ ≤ _; exact Nat.le_of_eq rfl) (hb hby at_159) (fun v87 T87 h87 L87 X87 e87 hQ87 => ?_)
        obtain ⟨rfl, Nq87, Kq87, Fq87⟩ := hQ87
        have N87 := Fr.app N74 Nq87
        have F88 := OAr.keep F81 Kq87 (ninS ne78 nin0)
        have F89 := OAr.keep F82 Kq87 (ninS ne79 nin0)
        have F90 := Exa.keep A77 Kq87
        have Z91 := Nat.le_trans Z83 Kq87.1
        show OwnWk _ _ _ _ (T87.setTop (mkF m 162 #[.val (.int ln), .val (.int x0), .val (.int x1), .val (.int x2), .val (.int fb), .val (.int rg), .val (.int (2 : Int32)), .val (.ref b59), .val (.ref b66), .unset, .unset] [(.ref b77)]))
        refine own_go (fun t k => XS.astore X87.here hx rfl (hb hby at_162) rfl rfl (l' := #[.val (.int ln), .val (.int x0), .val (.int x1), .val (.int x2), .val (.int fb), .val (.int rg), .val (.int (2 : Int32)), .val (.ref b59), .val (.ref b66), .val (.ref b77), .unset]) rfl k) ?_
        show OwnWk _ _ _ _ (T87.setTop (mkF m 164 #[.val (.int ln), .val (.int x0), .val (.int x1), .val (.int x2), .val (.int fb), .val (.int rg), .val (.int (2 : Int32)), .val (.ref b59), .val (.ref b66), .val (.ref b77), .unset] []))
        refine own_go (fun t k => XS.iload X87.here hx rfl (hb hby at_164) rfl  k) ?_
        show OwnWk _ _ _ _ (T87.setTop (mkF m 166 #[.val (.int ln), .val (.int x0), .val (.int x1), .val (.int x2), .val (.int fb), .val (.int rg), .val (.int (2 : Int32)), .val (.ref b59), .val (.ref b66), .val (.ref b77), .unset] [(.int (2 : Int32))]))
        refine own_go (fun t k => XS.iconst X87.here hx rfl (hb hby at_166) k) ?_
        show OwnWk _ _ _ _ (T87.setTop (mkF m 167 #[.val (.int ln), .val (.int x0), .val (.int x1), .val (.int x2), .val (.int fb), .val (.int rg), .val (.int (2 : Int32)), .val (.ref b59), .val (.ref b66), .val (.ref b77), .unset] [(.int (1 : Int32)), (.int (2 : Int32))]))
        refine own_go (fun t k => XS.icmpNo X87.here hx rfl (hb hby at_167) rfl (flt (by decide : ¬ ((2 : Int32) < (1 : Int32)))).1 k) ?_
        show OwnWk _ _ _ _ (T87.setTop (mkF m 170 #[.val (.int ln), .val (.int x0), .val (.int x1), .val (.int x2), .val (.int fb), .val (.int rg), .val (.int (2 : Int32)), .val (.ref b59), .val (.ref b66), .val (.ref b77), .unset] []))
        refine own_go (fun t k => XS.iloadN X87.here hx rfl (hb hby at_170) rfl  k) ?_
        show OwnWk _ _ _ _ (T87.setTop (mkF m 171 #[.val (.int ln), .val (.int x0), .val (.int x1), .val (.int x2), .val (.int fb), .val (.int rg), .val (.int (2 : Int32)), .val (.ref b59), .val (.ref b66), .val (.ref b77), .unset] [(.int x0)]))
        refine own_go (fun t k => XS.iconst X87.here hx rfl (hb hby at_171) k) ?_
        show OwnWk _ _ _ _ (T87.setTop (mkF m 172 #[.val (.int ln), .val (.int x0), .val (.int x1), .val (.int x2), .val (.int fb), .val (.int rg), .val (.int (2 : Int32)), .val (.ref b59), .val (.ref b66), .val (.ref b77), .unset] [(.int (1 : Int32)), (.int x0)]))
        by_cases hc92 : x0 = (1 : Int32)
        ·
          refine own_go (fun t k => XS.icmpNo X87.here hx rfl (hb hby at_172) rfl (teq hc92).2 k) ?_
          show OwnWk _ _ _ _ (T87.setTop (mkF m 175 #[.val (.int ln), .val (.int x0), .val (.int x1), .val (.int x2), .val (.int fb), .val (.int rg), .val (.int (2 : Int32)), .val (.ref b59), .val (.ref b66), .val (.ref b77), .unset] []))
          refine own_go (fun t k => XS.iload X87.here hx rfl (hb hby at_175) rfl  k) ?_
          show OwnWk _ _ _ _ (T87.setTop (mkF m 177 #[.val (.int ln), .val (.int x0), .val (.int x1), .val (.int x2), .val (.int fb), .val (.int rg), .val (.int (2 : Int32)), .val (.ref b59), .val (.ref b66), .val (.ref b77), .unset] [(.int (2 : Int32))]))
          refine own_go (fun t k => XS.iconst X87.here hx rfl (hb hby at_177) k) ?_
          show OwnWk _ _ _ _ (T87.setTop (mkF m 178 #[.val (.int ln), .val (.int x0), .val (.int x1), .val (.int x2), .val (.int fb), .val (.int rg), .val (.int (2 : Int32)), .val (.ref b59), .val (.ref b66), .val (.ref b77), .unset] [(.int (2 : Int32)), (.int (2 : Int32))]))
          refine own_go (fun t k => XS.icmpNo X87.here hx rfl (hb hby at_178) rfl (flt (by decide : ¬ ((2 : Int32) < (2 : Int32)))).1 k) ?_
          show OwnWk _ _ _ _ (T87.setTop (mkF m 181 #[.val (.int ln), .val (.int x0), .val (.int x1), .val (.int x2), .val (.int fb), .val (.int rg), .val (.int (2 : Int32)), .val (.ref b59), .val (.ref b66), .val (.ref b77), .unset] []))
          refine own_go (fun t k => XS.iloadN X87.here hx rfl (hb hby at_181) rfl  k) ?_
          show OwnWk _ _ _ _ (T87.setTop (mkF m 182 #[.val (.int ln), .val (.int x0), .val (.int x1), .val (.int x2), .val (.int fb), .val (.int rg), .val (.int (2 : Int32)), .val (.ref b59), .val (.ref b66), .val (.ref b77), .unset] [(.int x1)]))
          refine own_go (fun t k => XS.iconst X87.here hx rfl (hb hby at_182) k) ?_
          show OwnWk _ _ _ _ (T87.setTop (mkF m 183 #[.val (.int ln), .val (.int x0), .val (.int x1), .val (.int x2), .val (.int fb), .val (.int rg), .val (.int (2 : Int32)), .val (.ref b59), .val (.ref b66), .val (.ref b77), .unset] [(.int (1 : Int32)), (.int x1)]))
          by_cases hc93 : x1 = (1 : Int32)
          ·
            refine own_go (fun t k => XS.icmpNo X87.here hx rfl (hb hby at_183) rfl (teq hc93).2 k) ?_
            show OwnWk _ _ _ _ (T87.setTop (mkF m 186 #[.val (.int ln), .val (.int x0), .val (.int x1), .val (.int x2), .val (.int fb), .val (.int rg), .val (.int (2 : Int32)), .val (.ref b59), .val (.ref b66), .val (.ref b77), .unset] []))
            refine own_go (fun t k => XS.iload X87.here hx rfl (hb hby at_186) rfl  k) ?_
            show OwnWk _ _ _ _ (T87.setTop (mkF m 188 #[.val (.int ln), .val (.int x0), .val (.int x1), .val (.int x2), .val (.int fb), .val (.int rg), .val (.int (2 : Int32)), .val (.ref b59), .val (.ref b66), .val (.ref b77), .unset] [(.int (2 : Int32))]))
            refine own_go (fun t k => XS.iconst X87.here hx rfl (hb hby at_188) k) ?_
            show OwnWk _ _ _ _ (T87.setTop (mkF m 189 #[.val (.int ln), .val (.int x0), .val (.int x1), .val (.int x2), .val (.int fb), .val (.int rg), .val (.int (2 : Int32)), .val (.ref b59), .val (.ref b66), .val (.ref b77), .unset] [(.int (3 : Int32)), (.int (2 : Int32))]))
            refine own_go (fun t k => XS.icmpYes X87.here hx rfl (pc0 := 189) (pc' := 197) rfl (hb hby at_189) rfl (tlt (by decide : (2 : Int32) < (3 : Int32))).1 (by decide) (by decide) k) ?_
            show OwnWk _ _ _ _ (T87.setTop (mkF m 197 #[.val (.int ln), .val (.int x0), .val (.int x1), .val (.int x2), .val (.int fb), .val (.int rg), .val (.int (2 : Int32)), .val (.ref b59), .val (.ref b66), .val (.ref b77), .unset] []))
            refine own_go (fun t k => XS.iconst X87.here hx rfl (hb hby at_197) k) ?_
            show OwnWk _ _ _ _ (T87.setTop (mkF m 198 #[.val (.int ln), .val (.int x0), .val (.int x1), .val (.int x2), .val (.int fb), .val (.int rg), .val (.int (2 : Int32)), .val (.ref b59), .val (.ref b66), .val (.ref b77), .unset] [(.int (1 : Int32))]))
            refine own_go (fun t k => XS.goto X87.here hx rfl (pc0 := 198) (pc' := 202) rfl (hb hby at_198) (by decide) (by decide) k) ?_
            show OwnWk _ _ _ _ (T87.setTop (mkF m 202 #[.val (.int ln), .val (.int x0), .val (.int x1), .val (.int x2), .val (.int fb), .val (.int rg), .val (.int (2 : Int32)), .val (.ref b59), .val (.ref b66), .val (.ref b77), .unset] [(.int (1 : Int32))]))
            refine own_go (fun t k => XS.istore X87.here hx rfl (hb hby at_202) rfl (l' := #[.val (.int ln), .val (.int x0), .val (.int x1), .val (.int x2), .val (.int fb), .val (.int rg), .val (.int (2 : Int32)), .val (.ref b59), .val (.ref b66), .val (.ref b77), .val (.int (1 : Int32))]) rfl k) ?_
            show OwnWk _ _ _ _ (T87.setTop (mkF m 204 #[.val (.int ln), .val (.int x0), .val (.int x1), .val (.int x2), .val (.int fb), .val (.int rg), .val (.int (2 : Int32)), .val (.ref b59), .val (.ref b66), .val (.ref b77), .val (.int (1 : Int32))] []))
            refine own_go (fun t k => XS.aload X87.here hx rfl (hb hby at_204) rfl rfl  k) ?_
            show OwnWk _ _ _ _ (T87.setTop (mkF m 206 #[.val (.int ln), .val (.int x0), .val (.int x1), .val (.int x2), .val (.int fb), .val (.int rg), .val (.int (2 : Int32)), .val (.ref b59), .val (.ref b66), .val (.ref b77), .val (.int (1 : Int32))] [(.ref b77)]))
            refine own_callV X87 hx hZ (y := (⟨"com/example/encircle/encircle/layout/Wiring$Regions", "everyZoneOnce", "()Z"⟩ : MethodName)) (z := (⟨"com/example/encircle/encircle/layout/Wiring$Regions", "everyZoneOnce", "()Z"⟩ : MethodName)) hown (hw _ (List.mem_of_getElem? (i := 21) rfl)) (hw _ (List.mem_of_getElem? (i := 22) rfl)) (notFace_of_selects (args := #[]) (mvT hZ (hw _ (List.mem_of_getElem? (i := 24) rfl)))) (hw _ (List.mem_of_getElem? (i := 24) rfl)) (hw _ (List.mem_of_getElem? (i := 23) rfl)) (hw _ (List.mem_of_getElem? (i := 3) rfl)) (hw _ (List.mem_of_getElem? (i := 25) rfl)) (by decide) (a := b77) F90 (argsL := []) (rest := []) (rm := ({ frames := 0, cells := 0, slots := 0, locals := 0 } : Room)) (h := h87) (rm4 l Z a0 hw b77 b59 [x0, x1] h87 n0 Z91 Fq87 F88 (by simp)) e87 (W := 0) (by decide) (by decide) (by decide) (by decide) (g := (mkF m 206 #[.val (.int ln), .val (.int x0), .val (.int x1), .val (.int x2), .val (.int fb), .val (.int rg), .val (.int (2 : Int32)), .val (.ref b59), .val (.ref b66), .val (.ref b77), .val (.int (1 : Int32))] [(.ref b77)])) rfl (by rw [hml]; rfl) (lenOf pd_2 rfl) rfl (by show 2 * 0 + _ ≤ _; exact Nat.le_of_eq rfl) (hb hby at_206) (fun v94 T94 h94 L94 X94 e94 hQ94 => ?_)
            obtain ⟨rfl, Nq94, q94⟩ := hQ94
            have N94 := Fr.app N87 Nq94
            rw [q94] at e94
            show OwnWk _ _ _ _ (T94.setTop (mkF m 209 #[.val (.int ln), .val (.int x0), .val (.int x1), .val (.int x2), .val (.int fb), .val (.int rg), .val (.int (2 : Int32)), .val (.ref b59), .val (.ref b66), .val (.ref b77), .val (.int (1 : Int32))] [(.int (nar .boolean (own_all [x0, x1] 1)))]))
            refine own_go (fun t k => XS.iload X94.here hx rfl (hb hby at_209) rfl  k) ?_
            show OwnWk _ _ _ _ (T94.setTop (mkF m 211 #[.val (.int ln), .val (.int x0), .val (.int x1), .val (.int x2), .val (.int fb), .val (.int rg), .val (.int (2 : Int32)), .val (.ref b59), .val (.ref b66), .val (.ref b77), .val (.int (1 : Int32))] [(.int (1 : Int32)), (.int (nar .boolean (own_all [x0, x1] 1)))]))
            refine own_go (fun t k => XS.icmpNo X94.here hx rfl (hb hby at_211) rfl (teq (by simp [own_all, nar, hc92, hc93])).2 k) ?_
            show OwnWk _ _ _ _ (T94.setTop (mkF m 214 #[.val (.int ln), .val (.int x0), .val (.int x1), .val (.int x2), .val (.int fb), .val (.int rg), .val (.int (2 : Int32)), .val (.ref b59), .val (.ref b66), .val (.ref b77), .val (.int (1 : Int32))] []))
            refine own_go (fun t k => XS.iconst X94.here hx rfl (hb hby at_214) k) ?_
            show OwnWk _ _ _ _ (T94.setTop (mkF m 215 #[.val (.int ln), .val (.int x0), .val (.int x1), .val (.int x2), .val (.int fb), .val (.int rg), .val (.int (2 : Int32)), .val (.ref b59), .val (.ref b66), .val (.ref b77), .val (.int (1 : Int32))] [(.int (1 : Int32))]))
            refine own_go (fun t k => XS.goto X94.here hx rfl (pc0 := 215) (pc' := 219) rfl (hb hby at_215) (by decide) (by decide) k) ?_
            show OwnWk _ _ _ _ (T94.setTop (mkF m 219 #[.val (.int ln), .val (.int x0), .val (.int x1), .val (.int x2), .val (.int fb), .val (.int rg), .val (.int (2 : Int32)), .val (.ref b59), .val (.ref b66), .val (.ref b77), .val (.int (1 : Int32))] [(.int (1 : Int32))]))
            exact own_retZ X94 hx hlk hret (by simp) (z' := (1 : Int32)) rfl (hb hby at_219) (by decide) (by decide) (by rw [e94]; exact ⟨rfl, N94⟩)
          ·
            refine own_go (fun t k => XS.icmpYes X87.here hx rfl (pc0 := 183) (pc' := 201) rfl (hb hby at_183) rfl (feq hc93).2 (by decide) (by decide) k) ?_
            show OwnWk _ _ _ _ (T87.setTop (mkF m 201 #[.val (.int ln), .val (.int x0), .val (.int x1), .val (.int x2), .val (.int fb), .val (.int rg), .val (.int (2 : Int32)), .val (.ref b59), .val (.ref b66), .val (.ref b77), .unset] []))
            refine own_go (fun t k => XS.iconst X87.here hx rfl (hb hby at_201) k) ?_
            show OwnWk _ _ _ _ (T87.setTop (mkF m 202 #[.val (.int ln), .val (.int x0), .val (.int x1), .val (.int x2), .val (.int fb), .val (.int rg), .val (.int (2 : Int32)), .val (.ref b59), .val (.ref b66), .val (.ref b77), .unset] [(.int (0 : Int32))]))
            refine own_go (fun t k => XS.istore X87.here hx rfl (hb hby at_202) rfl (l' := #[.val (.int ln), .val (.int x0), .val (.int x1), .val (.int x2), .val (.int fb), .val (.int rg), .val (.int (2 : Int32)), .val (.ref b59), .val (.ref b66), .val (.ref b77), .val (.int (0 : Int32))]) rfl k) ?_
            show OwnWk _ _ _ _ (T87.setTop (mkF m 204 #[.val (.int ln), .val (.int x0), .val (.int x1), .val (.int x2), .val (.int fb), .val (.int rg), .val (.int (2 : Int32)), .val (.ref b59), .val (.ref b66), .val (.ref b77), .val (.int (0 : Int32))] []))
            refine own_go (fun t k => XS.aload X87.here hx rfl (hb hby at_204) rfl rfl  k) ?_
            show OwnWk _ _ _ _ (T87.setTop (mkF m 206 #[.val (.int ln), .val (.int x0), .val (.int x1), .val (.int x2), .val (.int fb), .val (.int rg), .val (.int (2 : Int32)), .val (.ref b59), .val (.ref b66), .val (.ref b77), .val (.int (0 : Int32))] [(.ref b77)]))
            refine own_callV X87 hx hZ (y := (⟨"com/example/encircle/encircle/layout/Wiring$Regions", "everyZoneOnce", "()Z"⟩ : MethodName)) (z := (⟨"com/example/encircle/encircle/layout/Wiring$Regions", "everyZoneOnce", "()Z"⟩ : MethodName)) hown (hw _ (List.mem_of_getElem? (i := 21) rfl)) (hw _ (List.mem_of_getElem? (i := 22) rfl)) (notFace_of_selects (args := #[]) (mvT hZ (hw _ (List.mem_of_getElem? (i := 24) rfl)))) (hw _ (List.mem_of_getElem? (i := 24) rfl)) (hw _ (List.mem_of_getElem? (i := 23) rfl)) (hw _ (List.mem_of_getElem? (i := 3) rfl)) (hw _ (List.mem_of_getElem? (i := 25) rfl)) (by decide) (a := b77) F90 (argsL := []) (rest := []) (rm := ({ frames := 0, cells := 0, slots := 0, locals := 0 } : Room)) (h := h87) (rm4 l Z a0 hw b77 b59 [x0, x1] h87 n0 Z91 Fq87 F88 (by simp)) e87 (W := 0) (by decide) (by decide) (by decide) (by decide) (g := (mkF m 206 #[.val (.int ln), .val (.int x0), .val (.int x1), .val (.int x2), .val (.int fb), .val (.int rg), .val (.int (2 : Int32)), .val (.ref b59), .val (.ref b66), .val (.ref b77), .val (.int (0 : Int32))] [(.ref b77)])) rfl (by rw [hml]; rfl) (lenOf pd_2 rfl) rfl (by show 2 * 0 + _ ≤ _; exact Nat.le_of_eq rfl) (hb hby at_206) (fun v95 T95 h95 L95 X95 e95 hQ95 => ?_)
            obtain ⟨rfl, Nq95, q95⟩ := hQ95
            have N95 := Fr.app N87 Nq95
            rw [q95] at e95
            show OwnWk _ _ _ _ (T95.setTop (mkF m 209 #[.val (.int ln), .val (.int x0), .val (.int x1), .val (.int x2), .val (.int fb), .val (.int rg), .val (.int (2 : Int32)), .val (.ref b59), .val (.ref b66), .val (.ref b77), .val (.int (0 : Int32))] [(.int (nar .boolean (own_all [x0, x1] 1)))]))
            refine own_go (fun t k => XS.iload X95.here hx rfl (hb hby at_209) rfl  k) ?_
            show OwnWk _ _ _ _ (T95.setTop (mkF m 211 #[.val (.int ln), .val (.int x0), .val (.int x1), .val (.int x2), .val (.int fb), .val (.int rg), .val (.int (2 : Int32)), .val (.ref b59), .val (.ref b66), .val (.ref b77), .val (.int (0 : Int32))] [(.int (0 : Int32)), (.int (nar .boolean (own_all [x0, x1] 1)))]))
            refine own_go (fun t k => XS.icmpNo X95.here hx rfl (hb hby at_211) rfl (teq (by simp [own_all, nar, hc92, hc93])).2 k) ?_
            show OwnWk _ _ _ _ (T95.setTop (mkF m 214 #[.val (.int ln), .val (.int x0), .val (.int x1), .val (.int x2), .val (.int fb), .val (.int rg), .val (.int (2 : Int32)), .val (.ref b59), .val (.ref b66), .val (.ref b77), .val (.int (0 : Int32))] []))
            refine own_go (fun t k => XS.iconst X95.here hx rfl (hb hby at_214) k) ?_
            show OwnWk _ _ _ _ (T95.setTop (mkF m 215 #[.val (.int ln), .val (.int x0), .val (.int x1), .val (.int x2), .val (.int fb), .val (.int rg), .val (.int (2 : Int32)), .val (.ref b59), .val (.ref b66), .val (.ref b77), .val (.int (0 : Int32))] [(.int (1 : Int32))]))
            refine own_go (fun t k => XS.goto X95.here hx rfl (pc0 := 215) (pc' := 219) rfl (hb hby at_215) (by decide) (by decide) k) ?_
            show OwnWk _ _ _ _ (T95.setTop (mkF m 219 #[.val (.int ln), .val (.int x0), .val (.int x1), .val (.int x2), .val (.int fb), .val (.int rg), .val (.int (2 : Int32)), .val (.ref b59), .val (.ref b66), .val (.ref b77), .val (.int (0 : Int32))] [(.int (1 : Int32))]))
            exact own_retZ X95 hx hlk hret (by simp) (z' := (1 : Int32)) rfl (hb hby at_219) (by decide) (by decide) (by rw [e95]; exact ⟨rfl, N95⟩)
        ·
          refine own_go (fun t k => XS.icmpYes X87.here hx rfl (pc0 := 172) (pc' := 201) rfl (hb hby at_172) rfl (feq hc92).2 (by decide) (by decide) k) ?_
          show OwnWk _ _ _ _ (T87.setTop (mkF m 201 #[.val (.int ln), .val (.int x0), .val (.int x1), .val (.int x2), .val (.int fb), .val (.int rg), .val (.int (2 : Int32)), .val (.ref b59), .val (.ref b66), .val (.ref b77), .unset] []))
          refine own_go (fun t k => XS.iconst X87.here hx rfl (hb hby at_201) k) ?_
          show OwnWk _ _ _ _ (T87.setTop (mkF m 202 #[.val (.int ln), .val (.int x0), .val (.int x1), .val (.int x2), .val (.int fb), .val (.int rg), .val (.int (2 : Int32)), .val (.ref b59), .val (.ref b66), .val (.ref b77), .unset] [(.int (0 : Int32))]))
          refine own_go (fun t k => XS.istore X87.here hx rfl (hb hby at_202) rfl (l' := #[.val (.int ln), .val (.int x0), .val (.int x1), .val (.int x2), .val (.int fb), .val (.int rg), .val (.int (2 : Int32)), .val (.ref b59), .val (.ref b66), .val (.ref b77), .val (.int (0 : Int32))]) rfl k) ?_
          show OwnWk _ _ _ _ (T87.setTop (mkF m 204 #[.val (.int ln), .val (.int x0), .val (.int x1), .val (.int x2), .val (.int fb), .val (.int rg), .val (.int (2 : Int32)), .val (.ref b59), .val (.ref b66), .val (.ref b77), .val (.int (0 : Int32))] []))
          refine own_go (fun t k => XS.aload X87.here hx rfl (hb hby at_204) rfl rfl  k) ?_
          show OwnWk _ _ _ _ (T87.setTop (mkF m 206 #[.val (.int ln), .val (.int x0), .val (.int x1), .val (.int x2), .val (.int fb), .val (.int rg), .val (.int (2 : Int32)), .val (.ref b59), .val (.ref b66), .val (.ref b77), .val (.int (0 : Int32))] [(.ref b77)]))
          refine own_callV X87 hx hZ (y := (⟨"com/example/encircle/encircle/layout/Wiring$Regions", "everyZoneOnce", "()Z"⟩ : MethodName)) (z := (⟨"com/example/encircle/encircle/layout/Wiring$Regions", "everyZoneOnce", "()Z"⟩ : MethodName)) hown (hw _ (List.mem_of_getElem? (i := 21) rfl)) (hw _ (List.mem_of_getElem? (i := 22) rfl)) (notFace_of_selects (args := #[]) (mvT hZ (hw _ (List.mem_of_getElem? (i := 24) rfl)))) (hw _ (List.mem_of_getElem? (i := 24) rfl)) (hw _ (List.mem_of_getElem? (i := 23) rfl)) (hw _ (List.mem_of_getElem? (i := 3) rfl)) (hw _ (List.mem_of_getElem? (i := 25) rfl)) (by decide) (a := b77) F90 (argsL := []) (rest := []) (rm := ({ frames := 0, cells := 0, slots := 0, locals := 0 } : Room)) (h := h87) (rm4 l Z a0 hw b77 b59 [x0, x1] h87 n0 Z91 Fq87 F88 (by simp)) e87 (W := 0) (by decide) (by decide) (by decide) (by decide) (g := (mkF m 206 #[.val (.int ln), .val (.int x0), .val (.int x1), .val (.int x2), .val (.int fb), .val (.int rg), .val (.int (2 : Int32)), .val (.ref b59), .val (.ref b66), .val (.ref b77), .val (.int (0 : Int32))] [(.ref b77)])) rfl (by rw [hml]; rfl) (lenOf pd_2 rfl) rfl (by show 2 * 0 + _ ≤ _; exact Nat.le_of_eq rfl) (hb hby at_206) (fun v96 T96 h96 L96 X96 e96 hQ96 => ?_)
          obtain ⟨rfl, Nq96, q96⟩ := hQ96
          have N96 := Fr.app N87 Nq96
          rw [q96] at e96
          show OwnWk _ _ _ _ (T96.setTop (mkF m 209 #[.val (.int ln), .val (.int x0), .val (.int x1), .val (.int x2), .val (.int fb), .val (.int rg), .val (.int (2 : Int32)), .val (.ref b59), .val (.ref b66), .val (.ref b77), .val (.int (0 : Int32))] [(.int (nar .boolean (own_all [x0, x1] 1)))]))
          refine own_go (fun t k => XS.iload X96.here hx rfl (hb hby at_209) rfl  k) ?_
          show OwnWk _ _ _ _ (T96.setTop (mkF m 211 #[.val (.int ln), .val (.int x0), .val (.int x1), .val (.int x2), .val (.int fb), .val (.int rg), .val (.int (2 : Int32)), .val (.ref b59), .val (.ref b66), .val (.ref b77), .val (.int (0 : Int32))] [(.int (0 : Int32)), (.int (nar .boolean (own_all [x0, x1] 1)))]))
          refine own_go (fun t k => XS.icmpNo X96.here hx rfl (hb hby at_211) rfl (teq (by simp [own_all, nar, hc92])).2 k) ?_
          show OwnWk _ _ _ _ (T96.setTop (mkF m 214 #[.val (.int ln), .val (.int x0), .val (.int x1), .val (.int x2), .val (.int fb), .val (.int rg), .val (.int (2 : Int32)), .val (.ref b59), .val (.ref b66), .val (.ref b77), .val (.int (0 : Int32))] []))
          refine own_go (fun t k => XS.iconst X96.here hx rfl (hb hby at_214) k) ?_
          show OwnWk _ _ _ _ (T96.setTop (mkF m 215 #[.val (.int ln), .val (.int x0), .val (.int x1), .val (.int x2), .val (.int fb), .val (.int rg), .val (.int (2 : Int32)), .val (.ref b59), .val (.ref b66), .val (.ref b77), .val (.int (0 : Int32))] [(.int (1 : Int32))]))
          refine own_go (fun t k => XS.goto X96.here hx rfl (pc0 := 215) (pc' := 219) rfl (hb hby at_215) (by decide) (by decide) k) ?_
          show OwnWk _ _ _ _ (T96.setTop (mkF m 219 #[.val (.int ln), .val (.int x0), .val (.int x1), .val (.int x2), .val (.int fb), .val (.int rg), .val (.int (2 : Int32)), .val (.ref b59), .val (.ref b66), .val (.ref b77), .val (.int (0 : Int32))] [(.int (1 : Int32))]))
          exact own_retZ X96 hx hlk hret (by simp) (z' := (1 : Int32)) rfl (hb hby at_219) (by decide) (by decide) (by rw [e96]; exact ⟨rfl, N96⟩)
      ·
        refine own_go (fun t k => XS.icmpYes X0.here hx rfl (pc0 := 39) (pc' := 58) rfl (hb hby at_39) rfl (feq hc58).2 (by decide) (by decide) k) ?_
        show OwnWk _ _ _ _ (s₁.setTop (mkF m 58 #[.val (.int ln), .val (.int x0), .val (.int x1), .val (.int x2), .val (.int fb), .val (.int rg), .val (.int n1), .unset, .unset, .unset, .unset] []))
        have hn3 : n1 = 3 := own_three h_n1 hc1 hc26 hc58
        subst hn3
        show OwnWk _ _ _ _ (s₁.setTop (mkF m 58 #[.val (.int ln), .val (.int x0), .val (.int x1), .val (.int x2), .val (.int fb), .val (.int rg), .val (.int (3 : Int32)), .unset, .unset, .unset, .unset] []))
        refine own_go (fun t k => XS.iconst X0.here hx rfl (hb hby at_58) k) ?_
        show OwnWk _ _ _ _ (s₁.setTop (mkF m 59 #[.val (.int ln), .val (.int x0), .val (.int x1), .val (.int x2), .val (.int fb), .val (.int rg), .val (.int (3 : Int32)), .unset, .unset, .unset, .unset] [(.int (3 : Int32))]))
        refine own_newP X0 hx hZ (aty := .int) (hw _ (List.mem_of_getElem? (i := 0) rfl)) e0 (g := (mkF m 59 #[.val (.int ln), .val (.int x0), .val (.int x1), .val (.int x2), .val (.int fb), .val (.int rg), .val (.int (3 : Int32)), .unset, .unset, .unset, .unset] [(.int (3 : Int32))])) rfl (hb hby at_59) rfl (by decide) (cap := 3) (by decide) (by decide) (by decide) (by decide) (fun T97 h97 b97 X97 e97 g97 E97 V97 => ?_)
        have ge98 : n0 ≤ b97 := Nat.le_trans Z0 (Nat.le_of_eq g97.symm)
        have Z99 := Nat.le_trans Z0 E97.1
        have V97b : OAr Z h97 b97 .int [(.int (0 : Int32)), (.int (0 : Int32)), (.int (0 : Int32))] := V97
        show OwnWk _ _ _ _ (T97.setTop (mkF m 61 #[.val (.int ln), .val (.int x0), .val (.int x1), .val (.int x2), .val (.int fb), .val (.int rg), .val (.int (3 : Int32)), .unset, .unset, .unset, .unset] [(.ref b97)]))
        refine own_go (fun t k => XS.dup X97.here hx rfl (hb hby at_61) rfl rfl k) ?_
        show OwnWk _ _ _ _ (T97.setTop (mkF m 62 #[.val (.int ln), .val (.int x0), .val (.int x1), .val (.int x2), .val (.int fb), .val (.int rg), .val (.int (3 : Int32)), .unset, .unset, .unset, .unset] [(.ref b97), (.ref b97)]))
        refine own_go (fun t k => XS.iconst X97.here hx rfl (hb hby at_62) k) ?_
        show OwnWk _ _ _ _ (T97.setTop (mkF m 63 #[.val (.int ln), .val (.int x0), .val (.int x1), .val (.int x2), .val (.int fb), .val (.int rg), .val (.int (3 : Int32)), .unset, .unset, .unset, .unset] [(.int (0 : Int32)), (.ref b97), (.ref b97)]))
        refine own_go (fun t k => XS.iloadN X97.here hx rfl (hb hby at_63) rfl  k) ?_
        show OwnWk _ _ _ _ (T97.setTop (mkF m 64 #[.val (.int ln), .val (.int x0), .val (.int x1), .val (.int x2), .val (.int fb), .val (.int rg), .val (.int (3 : Int32)), .unset, .unset, .unset, .unset] [(.int x0), (.int (0 : Int32)), (.ref b97), (.ref b97)]))
        refine own_stI X97 hx hZ e97 V97b (g := (mkF m 64 #[.val (.int ln), .val (.int x0), .val (.int x1), .val (.int x2), .val (.int fb), .val (.int rg), .val (.int (3 : Int32)), .unset, .unset, .unset, .unset] [(.int x0), (.int (0 : Int32)), (.ref b97), (.ref b97)])) rfl rfl (hb hby at_64) (by decide) (Nat.le_of_ble_eq_true rfl) (fun T100 h100 X100 e100 W100 V100 => ?_)
        have N100 := Fr.snoc X100 N0 ge98
        have Z101 := Nat.le_trans Z99 (Keep.of_wr W100).1
        show OwnWk _ _ _ _ (T100.setTop (mkF m 65 #[.val (.int ln), .val (.int x0), .val (.int x1), .val (.int x2), .val (.int fb), .val (.int rg), .val (.int (3 : Int32)), .unset, .unset, .unset, .unset] [(.ref b97)]))
        refine own_go (fun t k => XS.dup X100.here hx rfl (hb hby at_65) rfl rfl k) ?_
        show OwnWk _ _ _ _ (T100.setTop (mkF m 66 #[.val (.int ln), .val (.int x0), .val (.int x1), .val (.int x2), .val (.int fb), .val (.int rg), .val (.int (3 : Int32)), .unset, .unset, .unset, .unset] [(.ref b97), (.ref b97)]))
        refine own_go (fun t k => XS.iconst X100.here hx rfl (hb hby at_66) k) ?_
        show OwnWk _ _ _ _ (T100.setTop (mkF m 67 #[.val (.int ln), .val (.int x0), .val (.int x1), .val (.int x2), .val (.int fb), .val (.int rg), .val (.int (3 : Int32)), .unset, .unset, .unset, .unset] [(.int (1 : Int32)), (.ref b97), (.ref b97)]))
        refine own_go (fun t k => XS.iloadN X100.here hx rfl (hb hby at_67) rfl  k) ?_
        show OwnWk _ _ _ _ (T100.setTop (mkF m 68 #[.val (.int ln), .val (.int x0), .val (.int x1), .val (.int x2), .val (.int fb), .val (.int rg), .val (.int (3 : Int32)), .unset, .unset, .unset, .unset] [(.int x1), (.int (1 : Int32)), (.ref b97), (.ref b97)]))
        refine own_stI X100 hx hZ e100 V100 (g := (mkF m 68 #[.val (.int ln), .val (.int x0), .val (.int x1), .val (.int x2), .val (.int fb), .val (.int rg), .val (.int (3 : Int32)), .unset, .unset, .unset, .unset] [(.int x1), (.int (1 : Int32)), (.ref b97), (.ref b97)])) rfl rfl (hb hby at_68) (by decide) (Nat.le_of_ble_eq_true rfl) (fun T102 h102 X102 e102 W102 V102 => ?_)
        have N102 := Fr.snoc X102 N100 ge98
        have Z103 := Nat.le_trans Z101 (Keep.of_wr W102).1
        show OwnWk _ _ _ _ (T102.setTop (mkF m 69 #[.val (.int ln), .val (.int x0), .val (.int x1), .val (.int x2), .val (.int fb), .val (.int rg), .val (.int (3 : Int32)), .unset, .unset, .unset, .unset] [(.ref b97)]))
        refine own_go (fun t k => XS.dup X102.here hx rfl (hb hby at_69) rfl rfl k) ?_
        show OwnWk _ _ _ _ (T102.setTop (mkF m 70 #[.val (.int ln), .val (.int x0), .val (.int x1), .val (.int x2), .val (.int fb), .val (.int rg), .val (.int (3 : Int32)), .unset, .unset, .unset, .unset] [(.ref b97), (.ref b97)]))
        refine own_go (fun t k => XS.iconst X102.here hx rfl (hb hby at_70) k) ?_
        show OwnWk _ _ _ _ (T102.setTop (mkF m 71 #[.val (.int ln), .val (.int x0), .val (.int x1), .val (.int x2), .val (.int fb), .val (.int rg), .val (.int (3 : Int32)), .unset, .unset, .unset, .unset] [(.int (2 : Int32)), (.ref b97), (.ref b97)]))
        refine own_go (fun t k => XS.iloadN X102.here hx rfl (hb hby at_71) rfl  k) ?_
        show OwnWk _ _ _ _ (T102.setTop (mkF m 72 #[.val (.int ln), .val (.int x0), .val (.int x1), .val (.int x2), .val (.int fb), .val (.int rg), .val (.int (3 : Int32)), .unset, .unset, .unset, .unset] [(.int x2), (.int (2 : Int32)), (.ref b97), (.ref b97)]))
        refine own_stI X102 hx hZ e102 V102 (g := (mkF m 72 #[.val (.int ln), .val (.int x0), .val (.int x1), .val (.int x2), .val (.int fb), .val (.int rg), .val (.int (3 : Int32)), .unset, .unset, .unset, .unset] [(.int x2), (.int (2 : Int32)), (.ref b97), (.ref b97)])) rfl rfl (hb hby at_72) (by decide) (Nat.le_of_ble_eq_true rfl) (fun T104 h104 X104 e104 W104 V104 => ?_)
        have N104 := Fr.snoc X104 N102 ge98
        have Z105 := Nat.le_trans Z103 (Keep.of_wr W104).1
        show OwnWk _ _ _ _ (T104.setTop (mkF m 73 #[.val (.int ln), .val (.int x0), .val (.int x1), .val (.int x2), .val (.int fb), .val (.int rg), .val (.int (3 : Int32)), .unset, .unset, .unset, .unset] [(.ref b97)]))
        refine own_go (fun t k => XS.astore X104.here hx rfl (hb hby at_73) rfl rfl (l' := #[.val (.int ln), .val (.int x0), .val (.int x1), .val (.int x2), .val (.int fb), .val (.int rg), .val (.int (3 : Int32)), .val (.ref b97), .unset, .unset, .unset]) rfl k) ?_
        show OwnWk _ _ _ _ (T104.setTop (mkF m 75 #[.val (.int ln), .val (.int x0), .val (.int x1), .val (.int x2), .val (.int fb), .val (.int rg), .val (.int (3 : Int32)), .val (.ref b97), .unset, .unset, .unset] []))
        refine own_go (fun t k => XS.iload X104.here hx rfl (hb hby at_75) rfl  k) ?_
        show OwnWk _ _ _ _ (T104.setTop (mkF m 77 #[.val (.int ln), .val (.int x0), .val (.int x1), .val (.int x2), .val (.int fb), .val (.int rg), .val (.int (3 : Int32)), .val (.ref b97), .unset, .unset, .unset] [(.int (3 : Int32))]))
        refine own_go (fun t k => XS.ifYes X104.here hx rfl (pc0 := 77) (pc' := 88) rfl (hb hby at_77) rfl ((if0 _ _).trans (feq (by decide : ¬ ((3 : Int32) = (0 : Int32)))).2) (by decide) (by decide) k) ?_
        show OwnWk _ _ _ _ (T104.setTop (mkF m 88 #[.val (.int ln), .val (.int x0), .val (.int x1), .val (.int x2), .val (.int fb), .val (.int rg), .val (.int (3 : Int32)), .val (.ref b97), .unset, .unset, .unset] []))
        refine own_go (fun t k => XS.iload X104.here hx rfl (hb hby at_88) rfl  k) ?_
        show OwnWk _ _ _ _ (T104.setTop (mkF m 90 #[.val (.int ln), .val (.int x0), .val (.int x1), .val (.int x2), .val (.int fb), .val (.int rg), .val (.int (3 : Int32)), .val (.ref b97), .unset, .unset, .unset] [(.int (3 : Int32))]))
        refine own_go (fun t k => XS.iconst X104.here hx rfl (hb hby at_90) k) ?_
        show OwnWk _ _ _ _ (T104.setTop (mkF m 91 #[.val (.int ln), .val (.int x0), .val (.int x1), .val (.int x2), .val (.int fb), .val (.int rg), .val (.int (3 : Int32)), .val (.ref b97), .unset, .unset, .unset] [(.int (1 : Int32)), (.int (3 : Int32))]))
        refine own_go (fun t k => XS.icmpYes X104.here hx rfl (pc0 := 91) (pc' := 107) rfl (hb hby at_91) rfl (feq (by decide : ¬ ((3 : Int32) = (1 : Int32)))).2 (by decide) (by decide) k) ?_
        show OwnWk _ _ _ _ (T104.setTop (mkF m 107 #[.val (.int ln), .val (.int x0), .val (.int x1), .val (.int x2), .val (.int fb), .val (.int rg), .val (.int (3 : Int32)), .val (.ref b97), .unset, .unset, .unset] []))
        refine own_go (fun t k => XS.iload X104.here hx rfl (hb hby at_107) rfl  k) ?_
        show OwnWk _ _ _ _ (T104.setTop (mkF m 109 #[.val (.int ln), .val (.int x0), .val (.int x1), .val (.int x2), .val (.int fb), .val (.int rg), .val (.int (3 : Int32)), .val (.ref b97), .unset, .unset, .unset] [(.int (3 : Int32))]))
        refine own_go (fun t k => XS.iconst X104.here hx rfl (hb hby at_109) k) ?_
        show OwnWk _ _ _ _ (T104.setTop (mkF m 110 #[.val (.int ln), .val (.int x0), .val (.int x1), .val (.int x2), .val (.int fb), .val (.int rg), .val (.int (3 : Int32)), .val (.ref b97), .unset, .unset, .unset] [(.int (2 : Int32)), (.int (3 : Int32))]))
        refine own_go (fun t k => XS.icmpYes X104.here hx rfl (pc0 := 110) (pc' := 130) rfl (hb hby at_110) rfl (feq (by decide : ¬ ((3 : Int32) = (2 : Int32)))).2 (by decide) (by decide) k) ?_
        show OwnWk _ _ _ _ (T104.setTop (mkF m 130 #[.val (.int ln), .val (.int x0), .val (.int x1), .val (.int x2), .val (.int fb), .val (.int rg), .val (.int (3 : Int32)), .val (.ref b97), .unset, .unset, .unset] []))
        refine own_go (fun t k => XS.iconst X104.here hx rfl (hb hby at_130) k) ?_
        show OwnWk _ _ _ _ (T104.setTop (mkF m 131 #[.val (.int ln), .val (.int x0), .val (.int x1), .val (.int x2), .val (.int fb), .val (.int rg), .val (.int (3 : Int32)), .val (.ref b97), .unset, .unset, .unset] [(.int (3 : Int32))]))
        refine own_newP X104 hx hZ (aty := .int) (hw _ (List.mem_of_getElem? (i := 0) rfl)) e104 (g := (mkF m 131 #[.val (.int ln), .val (.int x0), .val (.int x1), .val (.int x2), .val (.int fb), .val (.int rg), .val (.int (3 : Int32)), .val (.ref b97), .unset, .unset, .unset] [(.int (3 : Int32))])) rfl (hb hby at_131) rfl (by decide) (cap := 3) (by decide) (by decide) (by decide) (by decide) (fun T106 h106 b106 X106 e106 g106 E106 V106 => ?_)
        have ne107 : b97 ≠ b106 := Nat.ne_of_lt (Nat.lt_of_lt_of_le V104.lt (Nat.le_of_eq g106.symm))
        have ge108 : n0 ≤ b106 := Nat.le_trans Z105 (Nat.le_of_eq g106.symm)
        have F109 := OAr.ext V104 E106
        have Z110 := Nat.le_trans Z105 E106.1
        have V106b : OAr Z h106 b106 .int [(.int (0 : Int32)), (.int (0 : Int32)), (.int (0 : Int32))] := V106
        show OwnWk _ _ _ _ (T106.setTop (mkF m 133 #[.val (.int ln), .val (.int x0), .val (.int x1), .val (.int x2), .val (.int fb), .val (.int rg), .val (.int (3 : Int32)), .val (.ref b97), .unset, .unset, .unset] [(.ref b106)]))
        refine own_go (fun t k => XS.dup X106.here hx rfl (hb hby at_133) rfl rfl k) ?_
        show OwnWk _ _ _ _ (T106.setTop (mkF m 134 #[.val (.int ln), .val (.int x0), .val (.int x1), .val (.int x2), .val (.int fb), .val (.int rg), .val (.int (3 : Int32)), .val (.ref b97), .unset, .unset, .unset] [(.ref b106), (.ref b106)]))
        refine own_go (fun t k => XS.iconst X106.here hx rfl (hb hby at_134) k) ?_
        show OwnWk _ _ _ _ (T106.setTop (mkF m 135 #[.val (.int ln), .val (.int x0), .val (.int x1), .val (.int x2), .val (.int fb), .val (.int rg), .val (.int (3 : Int32)), .val (.ref b97), .unset, .unset, .unset] [(.int (0 : Int32)), (.ref b106), (.ref b106)]))
        refine own_go (fun t k => XS.iload X106.here hx rfl (hb hby at_135) rfl  k) ?_
        show OwnWk _ _ _ _ (T106.setTop (mkF m 137 #[.val (.int ln), .val (.int x0), .val (.int x1), .val (.int x2), .val (.int fb), .val (.int rg), .val (.int (3 : Int32)), .val (.ref b97), .unset, .unset, .unset] [(.int fb), (.int (0 : Int32)), (.ref b106), (.ref b106)]))
        refine own_stI X106 hx hZ e106 V106b (g := (mkF m 137 #[.val (.int ln), .val (.int x0), .val (.int x1), .val (.int x2), .val (.int fb), .val (.int rg), .val (.int (3 : Int32)), .val (.ref b97), .unset, .unset, .unset] [(.int fb), (.int (0 : Int32)), (.ref b106), (.ref b106)])) rfl rfl (hb hby at_137) (by decide) (Nat.le_of_ble_eq_true rfl) (fun T111 h111 X111 e111 W111 V111 => ?_)
        have N111 := Fr.snoc X111 N104 ge108
        have F112 := OAr.other F109 W111 ne107
        have Z113 := Nat.le_trans Z110 (Keep.of_wr W111).1
        show OwnWk _ _ _ _ (T111.setTop (mkF m 138 #[.val (.int ln), .val (.int x0), .val (.int x1), .val (.int x2), .val (.int fb), .val (.int rg), .val (.int (3 : Int32)), .val (.ref b97), .unset, .unset, .unset] [(.ref b106)]))
        refine own_go (fun t k => XS.dup X111.here hx rfl (hb hby at_138) rfl rfl k) ?_
        show OwnWk _ _ _ _ (T111.setTop (mkF m 139 #[.val (.int ln), .val (.int x0), .val (.int x1), .val (.int x2), .val (.int fb), .val (.int rg), .val (.int (3 : Int32)), .val (.ref b97), .unset, .unset, .unset] [(.ref b106), (.ref b106)]))
        refine own_go (fun t k => XS.iconst X111.here hx rfl (hb hby at_139) k) ?_
        show OwnWk _ _ _ _ (T111.setTop (mkF m 140 #[.val (.int ln), .val (.int x0), .val (.int x1), .val (.int x2), .val (.int fb), .val (.int rg), .val (.int (3 : Int32)), .val (.ref b97), .unset, .unset, .unset] [(.int (1 : Int32)), (.ref b106), (.ref b106)]))
        refine own_go (fun t k => XS.iconst X111.here hx rfl (hb hby at_140) k) ?_
        show OwnWk _ _ _ _ (T111.setTop (mkF m 141 #[.val (.int ln), .val (.int x0), .val (.int x1), .val (.int x2), .val (.int fb), .val (.int rg), .val (.int (3 : Int32)), .val (.ref b97), .unset, .unset, .unset] [(.int (-1 : Int32)), (.int (1 : Int32)), (.ref b106), (.ref b106)]))
        refine own_stI X111 hx hZ e111 V111 (g := (mkF m 141 #[.val (.int ln), .val (.int x0), .val (.int x1), .val (.int x2), .val (.int fb), .val (.int rg), .val (.int (3 : Int32)), .val (.ref b97), .unset, .unset, .unset] [(.int (-1 : Int32)), (.int (1 : Int32)), (.ref b106), (.ref b106)])) rfl rfl (hb hby at_141) (by decide) (Nat.le_of_ble_eq_true rfl) (fun T114 h114 X114 e114 W114 V114 => ?_)
        have N114 := Fr.snoc X114 N111 ge108
        have F115 := OAr.other F112 W114 ne107
        have Z116 := Nat.le_trans Z113 (Keep.of_wr W114).1
        show OwnWk _ _ _ _ (T114.setTop (mkF m 142 #[.val (.int ln), .val (.int x0), .val (.int x1), .val (.int x2), .val (.int fb), .val (.int rg), .val (.int (3 : Int32)), .val (.ref b97), .unset, .unset, .unset] [(.ref b106)]))
        refine own_go (fun t k => XS.dup X114.here hx rfl (hb hby at_142) rfl rfl k) ?_
        show OwnWk _ _ _ _ (T114.setTop (mkF m 143 #[.val (.int ln), .val (.int x0), .val (.int x1), .val (.int x2), .val (.int fb), .val (.int rg), .val (.int (3 : Int32)), .val (.ref b97), .unset, .unset, .unset] [(.ref b106), (.ref b106)]))
        refine own_go (fun t k => XS.iconst X114.here hx rfl (hb hby at_143) k) ?_
        show OwnWk _ _ _ _ (T114.setTop (mkF m 144 #[.val (.int ln), .val (.int x0), .val (.int x1), .val (.int x2), .val (.int fb), .val (.int rg), .val (.int (3 : Int32)), .val (.ref b97), .unset, .unset, .unset] [(.int (2 : Int32)), (.ref b106), (.ref b106)]))
        refine own_go (fun t k => XS.iload X114.here hx rfl (hb hby at_144) rfl  k) ?_
        show OwnWk _ _ _ _ (T114.setTop (mkF m 146 #[.val (.int ln), .val (.int x0), .val (.int x1), .val (.int x2), .val (.int fb), .val (.int rg), .val (.int (3 : Int32)), .val (.ref b97), .unset, .unset, .unset] [(.int rg), (.int (2 : Int32)), (.ref b106), (.ref b106)]))
        refine own_stI X114 hx hZ e114 V114 (g := (mkF m 146 #[.val (.int ln), .val (.int x0), .val (.int x1), .val (.int x2), .val (.int fb), .val (.int rg), .val (.int (3 : Int32)), .val (.ref b97), .unset, .unset, .unset] [(.int rg), (.int (2 : Int32)), (.ref b106), (.ref b106)])) rfl rfl (hb hby at_146) (by decide) (Nat.le_of_ble_eq_true rfl) (fun T117 h117 X117 e117 W117 V117 => ?_)
        have N117 := Fr.snoc X117 N114 ge108
        have F118 := OAr.other F115 W117 ne107
        have Z119 := Nat.le_trans Z116 (Keep.of_wr W117).1
        show OwnWk _ _ _ _ (T117.setTop (mkF m 147 #[.val (.int ln), .val (.int x0), .val (.int x1), .val (.int x2), .val (.int fb), .val (.int rg), .val (.int (3 : Int32)), .val (.ref b97), .unset, .unset, .unset] [(.ref b106)]))
        refine own_go (fun t k => XS.astore X117.here hx rfl (hb hby at_147) rfl rfl (l' := #[.val (.int ln), .val (.int x0), .val (.int x1), .val (.int x2), .val (.int fb), .val (.int rg), .val (.int (3 : Int32)), .val (.ref b97), .val (.ref b106), .unset, .unset]) rfl k) ?_
        show OwnWk _ _ _ _ (T117.setTop (mkF m 149 #[.val (.int ln), .val (.int x0), .val (.int x1), .val (.int x2), .val (.int fb), .val (.int rg), .val (.int (3 : Int32)), .val (.ref b97), .val (.ref b106), .unset, .unset] []))
        obtain ⟨T120, h120, X120, e120, E120, A120, D120, -, st120⟩ := newO X117 hx hZ hown (hw _ (List.mem_of_getElem? (i := 1) rfl)) (hw _ (List.mem_of_getElem? (i := 2) rfl)) (hw _ (List.mem_of_getElem? (i := 3) rfl)) e117 (g := (mkF m 149 #[.val (.int ln), .val (.int x0), .val (.int x1), .val (.int x2), .val (.int fb), .val (.int rg), .val (.int (3 : Int32)), .val (.ref b97), .val (.ref b106), .unset, .unset] [])) rfl (hb hby at_149) (by decide) (by decide)
        obtain ⟨b120, g120⟩ : ∃ z, z = h117.size := ⟨_, rfl⟩
        rw [← g120] at A120 D120 st120
        refine own_go st120 ?_
        have ne121 : b97 ≠ b120 := Nat.ne_of_lt (Nat.lt_of_lt_of_le F118.lt (Nat.le_of_eq g120.symm))
        have ne122 : b106 ≠ b120 := Nat.ne_of_lt (Nat.lt_of_lt_of_le V117.lt (Nat.le_of_eq g120.symm))
        have ge123 : n0 ≤ b120 := Nat.le_trans Z119 (Nat.le_of_eq g120.symm)
        have F124 := OAr.ext F118 E120
        have F125 := OAr.ext V117 E120
        have Z126 := Nat.le_trans Z119 E120.1
        have F127 : Fld Z h120 b120 "com/example/encircle/encircle/layout/Wiring$Regions" "shown" "[I" .null := D120 (Or.inr (hw _ (List.mem_of_getElem? (i := 16) rfl))) (ty := (.array .int)) (by decide)
        have F128 : Fld Z h120 b120 "com/example/encircle/encircle/layout/Wiring$Regions" "begun" "[I" .null := D120 (Or.inr (hw _ (List.mem_of_getElem? (i := 18) rfl))) (ty := (.array .int)) (by decide)
        have F129 : Fld Z h120 b120 "com/example/encircle/encircle/layout/Wiring$Regions" "regions" "I" (.int (0 : Int32)) := D120 (Or.inr (hw _ (List.mem_of_getElem? (i := 20) rfl))) (ty := .int) (by decide)
        show OwnWk _ _ _ _ (T120.setTop (mkF m 152 #[.val (.int ln), .val (.int x0), .val (.int x1), .val (.int x2), .val (.int fb), .val (.int rg), .val (.int (3 : Int32)), .val (.ref b97), .val (.ref b106), .unset, .unset] [(.ref b120)]))
        refine own_go (fun t k => XS.dup X120.here hx rfl (hb hby at_152) rfl rfl k) ?_
        show OwnWk _ _ _ _ (T120.setTop (mkF m 153 #[.val (.int ln), .val (.int x0), .val (.int x1), .val (.int x2), .val (.int fb), .val (.int rg), .val (.int (3 : Int32)), .val (.ref b97), .val (.ref b106), .unset, .unset] [(.ref b120), (.ref b120)]))
        refine own_go (fun t k => XS.aload X120.here hx rfl (hb hby at_153) rfl rfl  k) ?_
        show OwnWk _ _ _ _ (T120.setTop (mkF m 155 #[.val (.int ln), .val (.int x0), .val (.int x1), .val (.int x2), .val (.int fb), .val (.int rg), .val (.int (3 : Int32)), .val (.ref b97), .val (.ref b106), .unset, .unset] [(.ref b97), (.ref b120), (.ref b120)]))
        refine own_go (fun t k => XS.aload X120.here hx rfl (hb hby at_155) rfl rfl  k) ?_
        show OwnWk _ _ _ _ (T120.setTop (mkF m 157 #[.val (.int ln), .val (.int x0), .val (.int x1), .val (.int x2), .val (.int fb), .val (.int rg), .val (.int (3 : Int32)), .val (.ref b97), .val (.ref b106), .unset, .unset] [(.ref b106), (.ref b97), (.ref b120), (.ref b120)]))
        refine own_go (fun t k => XS.iload X120.here hx rfl (hb hby at_157) rfl  k) ?_
        show OwnWk _ _ _ _ (T120.setTop (mkF m 159 #[.val (.int ln), .val (.int x0), .val (.int x1), .val (.int x2), .val (.int fb), .val (.int rg), .val (.int (3 : Int32)), .val (.ref b97), .val (.ref b106), .unset, .unset] [(.int rg), (.ref b106), (.ref b97), (.ref b120), (.ref b120)]))
        refine own_callC X120 hx hZ (y := (⟨"com/example/encircle/encircle/layout/Wiring$Regions", "<init>", "([I[II)V"⟩ : MethodName)) hown rfl (hw _ (List.mem_of_getElem? (i := 4) rfl)) (hw _ (List.mem_of_getElem? (i := 5) rfl)) (hw _ (List.mem_of_getElem? (i := 3) rfl)) (hw _ (List.mem_of_getElem? (i := 6) rfl)) (by decide) (a := b120) (argsL := [(.ref b97), (.ref b106), (.int rg)]) (rest := [(.ref b120)]) (rm := ({ frames := 2, cells := 0, slots := 0, locals := 24 } : Room)) (h := h120) (rm1 l Z a0 hw b120 b97 b106 rg h120 n0 Z126 A120 ge123 F127 F128 F129) e120 (W := 1) (by decide) (by decide) (by decide) (by decide) (g := (mkF m 159 #[.val (.int ln), .val (.int x0), .val (.int x1), .val (.int x2), .val (.int fb), .val (.int rg), .val (.int (3 : Int32)), .val (.ref b97), .val (.ref b106), .unset, .unset] [(.int rg), (.ref b106), (.ref b97), (.ref b120), (.ref b120)])) rfl (by rw [hml]; rfl) (lenOf pd_1 rfl) rfl (by show 2 * 0 + _ ≤ _; exact Nat.le_of_eq rfl) (hb hby at_159) (fun v130 T130 h130 L130 X130 e130 hQ130 => ?_)
        obtain ⟨rfl, Nq130, Kq130, Fq130⟩ := hQ130
        have N130 := Fr.app N117 Nq130
        have F131 := OAr.keep F124 Kq130 (ninS ne121 nin0)
        have F132 := OAr.keep F125 Kq130 (ninS ne122 nin0)
        have F133 := Exa.keep A120 Kq130
        have Z134 := Nat.le_trans Z126 Kq130.1
        show OwnWk _ _ _ _ (T130.setTop (mkF m 162 #[.val (.int ln), .val (.int x0), .val (.int x1), .val (.int x2), .val (.int fb), .val (.int rg), .val (.int (3 : Int32)), .val (.ref b97), .val (.ref b106), .unset, .unset] [(.ref b120)]))
        refine own_go (fun t k => XS.astore X130.here hx rfl (hb hby at_162) rfl rfl (l' := #[.val (.int ln), .val (.int x0), .val (.int x1), .val (.int x2), .val (.int fb), .val (.int rg), .val (.int (3 : Int32)), .val (.ref b97), .val (.ref b106), .val (.ref b120), .unset]) rfl k) ?_
        show OwnWk _ _ _ _ (T130.setTop (mkF m 164 #[.val (.int ln), .val (.int x0), .val (.int x1), .val (.int x2), .val (.int fb), .val (.int rg), .val (.int (3 : Int32)), .val (.ref b97), .val (.ref b106), .val (.ref b120), .unset] []))
        refine own_go (fun t k => XS.iload X130.here hx rfl (hb hby at_164) rfl  k) ?_
        show OwnWk _ _ _ _ (T130.setTop (mkF m 166 #[.val (.int ln), .val (.int x0), .val (.int x1), .val (.int x2), .val (.int fb), .val (.int rg), .val (.int (3 : Int32)), .val (.ref b97), .val (.ref b106), .val (.ref b120), .unset] [(.int (3 : Int32))]))
        refine own_go (fun t k => XS.iconst X130.here hx rfl (hb hby at_166) k) ?_
        show OwnWk _ _ _ _ (T130.setTop (mkF m 167 #[.val (.int ln), .val (.int x0), .val (.int x1), .val (.int x2), .val (.int fb), .val (.int rg), .val (.int (3 : Int32)), .val (.ref b97), .val (.ref b106), .val (.ref b120), .unset] [(.int (1 : Int32)), (.int (3 : Int32))]))
        refine own_go (fun t k => XS.icmpNo X130.here hx rfl (hb hby at_167) rfl (flt (by decide : ¬ ((3 : Int32) < (1 : Int32)))).1 k) ?_
        show OwnWk _ _ _ _ (T130.setTop (mkF m 170 #[.val (.int ln), .val (.int x0), .val (.int x1), .val (.int x2), .val (.int fb), .val (.int rg), .val (.int (3 : Int32)), .val (.ref b97), .val (.ref b106), .val (.ref b120), .unset] []))
        refine own_go (fun t k => XS.iloadN X130.here hx rfl (hb hby at_170) rfl  k) ?_
        show OwnWk _ _ _ _ (T130.setTop (mkF m 171 #[.val (.int ln), .val (.int x0), .val (.int x1), .val (.int x2), .val (.int fb), .val (.int rg), .val (.int (3 : Int32)), .val (.ref b97), .val (.ref b106), .val (.ref b120), .unset] [(.int x0)]))
        refine own_go (fun t k => XS.iconst X130.here hx rfl (hb hby at_171) k) ?_
        show OwnWk _ _ _ _ (T130.setTop (mkF m 172 #[.val (.int ln), .val (.int x0), .val (.int x1), .val (.int x2), .val (.int fb), .val (.int rg), .val (.int (3 : Int32)), .val (.ref b97), .val (.ref b106), .val (.ref b120), .unset] [(.int (1 : Int32)), (.int x0)]))
        by_cases hc135 : x0 = (1 : Int32)
        ·
          refine own_go (fun t k => XS.icmpNo X130.here hx rfl (hb hby at_172) rfl (teq hc135).2 k) ?_
          show OwnWk _ _ _ _ (T130.setTop (mkF m 175 #[.val (.int ln), .val (.int x0), .val (.int x1), .val (.int x2), .val (.int fb), .val (.int rg), .val (.int (3 : Int32)), .val (.ref b97), .val (.ref b106), .val (.ref b120), .unset] []))
          refine own_go (fun t k => XS.iload X130.here hx rfl (hb hby at_175) rfl  k) ?_
          show OwnWk _ _ _ _ (T130.setTop (mkF m 177 #[.val (.int ln), .val (.int x0), .val (.int x1), .val (.int x2), .val (.int fb), .val (.int rg), .val (.int (3 : Int32)), .val (.ref b97), .val (.ref b106), .val (.ref b120), .unset] [(.int (3 : Int32))]))
          refine own_go (fun t k => XS.iconst X130.here hx rfl (hb hby at_177) k) ?_
          show OwnWk _ _ _ _ (T130.setTop (mkF m 178 #[.val (.int ln), .val (.int x0), .val (.int x1), .val (.int x2), .val (.int fb), .val (.int rg), .val (.int (3 : Int32)), .val (.ref b97), .val (.ref b106), .val (.ref b120), .unset] [(.int (2 : Int32)), (.int (3 : Int32))]))
          refine own_go (fun t k => XS.icmpNo X130.here hx rfl (hb hby at_178) rfl (flt (by decide : ¬ ((3 : Int32) < (2 : Int32)))).1 k) ?_
          show OwnWk _ _ _ _ (T130.setTop (mkF m 181 #[.val (.int ln), .val (.int x0), .val (.int x1), .val (.int x2), .val (.int fb), .val (.int rg), .val (.int (3 : Int32)), .val (.ref b97), .val (.ref b106), .val (.ref b120), .unset] []))
          refine own_go (fun t k => XS.iloadN X130.here hx rfl (hb hby at_181) rfl  k) ?_
          show OwnWk _ _ _ _ (T130.setTop (mkF m 182 #[.val (.int ln), .val (.int x0), .val (.int x1), .val (.int x2), .val (.int fb), .val (.int rg), .val (.int (3 : Int32)), .val (.ref b97), .val (.ref b106), .val (.ref b120), .unset] [(.int x1)]))
          refine own_go (fun t k => XS.iconst X130.here hx rfl (hb hby at_182) k) ?_
          show OwnWk _ _ _ _ (T130.setTop (mkF m 183 #[.val (.int ln), .val (.int x0), .val (.int x1), .val (.int x2), .val (.int fb), .val (.int rg), .val (.int (3 : Int32)), .val (.ref b97), .val (.ref b106), .val (.ref b120), .unset] [(.int (1 : Int32)), (.int x1)]))
          by_cases hc136 : x1 = (1 : Int32)
          ·
            refine own_go (fun t k => XS.icmpNo X130.here hx rfl (hb hby at_183) rfl (teq hc136).2 k) ?_
            show OwnWk _ _ _ _ (T130.setTop (mkF m 186 #[.val (.int ln), .val (.int x0), .val (.int x1), .val (.int x2), .val (.int fb), .val (.int rg), .val (.int (3 : Int32)), .val (.ref b97), .val (.ref b106), .val (.ref b120), .unset] []))
            refine own_go (fun t k => XS.iload X130.here hx rfl (hb hby at_186) rfl  k) ?_
            show OwnWk _ _ _ _ (T130.setTop (mkF m 188 #[.val (.int ln), .val (.int x0), .val (.int x1), .val (.int x2), .val (.int fb), .val (.int rg), .val (.int (3 : Int32)), .val (.ref b97), .val (.ref b106), .val (.ref b120), .unset] [(.int (3 : Int32))]))
            refine own_go (fun t k => XS.iconst X130.here hx rfl (hb hby at_188) k) ?_
            show OwnWk _ _ _ _ (T130.setTop (mkF m 189 #[.val (.int ln), .val (.int x0), .val (.int x1), .val (.int x2), .val (.int fb), .val (.int rg), .val (.int (3 : Int32)), .val (.ref b97), .val (.ref b106), .val (.ref b120), .unset] [(.int (3 : Int32)), (.int (3 : Int32))]))
            refine own_go (fun t k => XS.icmpNo X130.here hx rfl (hb hby at_189) rfl (flt (by decide : ¬ ((3 : Int32) < (3 : Int32)))).1 k) ?_
            show OwnWk _ _ _ _ (T130.setTop (mkF m 192 #[.val (.int ln), .val (.int x0), .val (.int x1), .val (.int x2), .val (.int fb), .val (.int rg), .val (.int (3 : Int32)), .val (.ref b97), .val (.ref b106), .val (.ref b120), .unset] []))
            refine own_go (fun t k => XS.iloadN X130.here hx rfl (hb hby at_192) rfl  k) ?_
            show OwnWk _ _ _ _ (T130.setTop (mkF m 193 #[.val (.int ln), .val (.int x0), .val (.int x1), .val (.int x2), .val (.int fb), .val (.int rg), .val (.int (3 : Int32)), .val (.ref b97), .val (.ref b106), .val (.ref b120), .unset] [(.int x2)]))
            refine own_go (fun t k => XS.iconst X130.here hx rfl (hb hby at_193) k) ?_
            show OwnWk _ _ _ _ (T130.setTop (mkF m 194 #[.val (.int ln), .val (.int x0), .val (.int x1), .val (.int x2), .val (.int fb), .val (.int rg), .val (.int (3 : Int32)), .val (.ref b97), .val (.ref b106), .val (.ref b120), .unset] [(.int (1 : Int32)), (.int x2)]))
            by_cases hc137 : x2 = (1 : Int32)
            ·
              refine own_go (fun t k => XS.icmpNo X130.here hx rfl (hb hby at_194) rfl (teq hc137).2 k) ?_
              show OwnWk _ _ _ _ (T130.setTop (mkF m 197 #[.val (.int ln), .val (.int x0), .val (.int x1), .val (.int x2), .val (.int fb), .val (.int rg), .val (.int (3 : Int32)), .val (.ref b97), .val (.ref b106), .val (.ref b120), .unset] []))
              refine own_go (fun t k => XS.iconst X130.here hx rfl (hb hby at_197) k) ?_
              show OwnWk _ _ _ _ (T130.setTop (mkF m 198 #[.val (.int ln), .val (.int x0), .val (.int x1), .val (.int x2), .val (.int fb), .val (.int rg), .val (.int (3 : Int32)), .val (.ref b97), .val (.ref b106), .val (.ref b120), .unset] [(.int (1 : Int32))]))
              refine own_go (fun t k => XS.goto X130.here hx rfl (pc0 := 198) (pc' := 202) rfl (hb hby at_198) (by decide) (by decide) k) ?_
              show OwnWk _ _ _ _ (T130.setTop (mkF m 202 #[.val (.int ln), .val (.int x0), .val (.int x1), .val (.int x2), .val (.int fb), .val (.int rg), .val (.int (3 : Int32)), .val (.ref b97), .val (.ref b106), .val (.ref b120), .unset] [(.int (1 : Int32))]))
              refine own_go (fun t k => XS.istore X130.here hx rfl (hb hby at_202) rfl (l' := #[.val (.int ln), .val (.int x0), .val (.int x1), .val (.int x2), .val (.int fb), .val (.int rg), .val (.int (3 : Int32)), .val (.ref b97), .val (.ref b106), .val (.ref b120), .val (.int (1 : Int32))]) rfl k) ?_
              show OwnWk _ _ _ _ (T130.setTop (mkF m 204 #[.val (.int ln), .val (.int x0), .val (.int x1), .val (.int x2), .val (.int fb), .val (.int rg), .val (.int (3 : Int32)), .val (.ref b97), .val (.ref b106), .val (.ref b120), .val (.int (1 : Int32))] []))
              refine own_go (fun t k => XS.aload X130.here hx rfl (hb hby at_204) rfl rfl  k) ?_
              show OwnWk _ _ _ _ (T130.setTop (mkF m 206 #[.val (.int ln), .val (.int x0), .val (.int x1), .val (.int x2), .val (.int fb), .val (.int rg), .val (.int (3 : Int32)), .val (.ref b97), .val (.ref b106), .val (.ref b120), .val (.int (1 : Int32))] [(.ref b120)]))
              refine own_callV X130 hx hZ (y := (⟨"com/example/encircle/encircle/layout/Wiring$Regions", "everyZoneOnce", "()Z"⟩ : MethodName)) (z := (⟨"com/example/encircle/encircle/layout/Wiring$Regions", "everyZoneOnce", "()Z"⟩ : MethodName)) hown (hw _ (List.mem_of_getElem? (i := 21) rfl)) (hw _ (List.mem_of_getElem? (i := 22) rfl)) (notFace_of_selects (args := #[]) (mvT hZ (hw _ (List.mem_of_getElem? (i := 24) rfl)))) (hw _ (List.mem_of_getElem? (i := 24) rfl)) (hw _ (List.mem_of_getElem? (i := 23) rfl)) (hw _ (List.mem_of_getElem? (i := 3) rfl)) (hw _ (List.mem_of_getElem? (i := 25) rfl)) (by decide) (a := b120) F133 (argsL := []) (rest := []) (rm := ({ frames := 0, cells := 0, slots := 0, locals := 0 } : Room)) (h := h130) (rm4 l Z a0 hw b120 b97 [x0, x1, x2] h130 n0 Z134 Fq130 F131 (by simp)) e130 (W := 0) (by decide) (by decide) (by decide) (by decide) (g := (mkF m 206 #[.val (.int ln), .val (.int x0), .val (.int x1), .val (.int x2), .val (.int fb), .val (.int rg), .val (.int (3 : Int32)), .val (.ref b97), .val (.ref b106), .val (.ref b120), .val (.int (1 : Int32))] [(.ref b120)])) rfl (by rw [hml]; rfl) (lenOf pd_2 rfl) rfl (by show 2 * 0 + _ ≤ _; exact Nat.le_of_eq rfl) (hb hby at_206) (fun v138 T138 h138 L138 X138 e138 hQ138 => ?_)
              obtain ⟨rfl, Nq138, q138⟩ := hQ138
              have N138 := Fr.app N130 Nq138
              rw [q138] at e138
              show OwnWk _ _ _ _ (T138.setTop (mkF m 209 #[.val (.int ln), .val (.int x0), .val (.int x1), .val (.int x2), .val (.int fb), .val (.int rg), .val (.int (3 : Int32)), .val (.ref b97), .val (.ref b106), .val (.ref b120), .val (.int (1 : Int32))] [(.int (nar .boolean (own_all [x0, x1, x2] 1)))]))
              refine own_go (fun t k => XS.iload X138.here hx rfl (hb hby at_209) rfl  k) ?_
              show OwnWk _ _ _ _ (T138.setTop (mkF m 211 #[.val (.int ln), .val (.int x0), .val (.int x1), .val (.int x2), .val (.int fb), .val (.int rg), .val (.int (3 : Int32)), .val (.ref b97), .val (.ref b106), .val (.ref b120), .val (.int (1 : Int32))] [(.int (1 : Int32)), (.int (nar .boolean (own_all [x0, x1, x2] 1)))]))
              refine own_go (fun t k => XS.icmpNo X138.here hx rfl (hb hby at_211) rfl (teq (by simp [own_all, nar, hc135, hc136, hc137])).2 k) ?_
              show OwnWk _ _ _ _ (T138.setTop (mkF m 214 #[.val (.int ln), .val (.int x0), .val (.int x1), .val (.int x2), .val (.int fb), .val (.int rg), .val (.int (3 : Int32)), .val (.ref b97), .val (.ref b106), .val (.ref b120), .val (.int (1 : Int32))] []))
              refine own_go (fun t k => XS.iconst X138.here hx rfl (hb hby at_214) k) ?_
              show OwnWk _ _ _ _ (T138.setTop (mkF m 215 #[.val (.int ln), .val (.int x0), .val (.int x1), .val (.int x2), .val (.int fb), .val (.int rg), .val (.int (3 : Int32)), .val (.ref b97), .val (.ref b106), .val (.ref b120), .val (.int (1 : Int32))] [(.int (1 : Int32))]))
              refine own_go (fun t k => XS.goto X138.here hx rfl (pc0 := 215) (pc' := 219) rfl (hb hby at_215) (by decide) (by decide) k) ?_
              show OwnWk _ _ _ _ (T138.setTop (mkF m 219 #[.val (.int ln), .val (.int x0), .val (.int x1), .val (.int x2), .val (.int fb), .val (.int rg), .val (.int (3 : Int32)), .val (.ref b97), .val (.ref b106), .val (.ref b120), .val (.int (1 : Int32))] [(.int (1 : Int32))]))
              exact own_retZ X138 hx hlk hret (by simp) (z' := (1 : Int32)) rfl (hb hby at_219) (by decide) (by decide) (by rw [e138]; exact ⟨rfl, N138⟩)
            ·
              refine own_go (fun t k => XS.icmpYes X130.here hx rfl (pc0 := 194) (pc' := 201) rfl (hb hby at_194) rfl (feq hc137).2 (by decide) (by decide) k) ?_
              show OwnWk _ _ _ _ (T130.setTop (mkF m 201 #[.val (.int ln), .val (.int x0), .val (.int x1), .val (.int x2), .val (.int fb), .val (.int rg), .val (.int (3 : Int32)), .val (.ref b97), .val (.ref b106), .val (.ref b120), .unset] []))
              refine own_go (fun t k => XS.iconst X130.here hx rfl (hb hby at_201) k) ?_
              show OwnWk _ _ _ _ (T130.setTop (mkF m 202 #[.val (.int ln), .val (.int x0), .val (.int x1), .val (.int x2), .val (.int fb), .val (.int rg), .val (.int (3 : Int32)), .val (.ref b97), .val (.ref b106), .val (.ref b120), .unset] [(.int (0 : Int32))]))
              refine own_go (fun t k => XS.istore X130.here hx rfl (hb hby at_202) rfl (l' := #[.val (.int ln), .val (.int x0), .val (.int x1), .val (.int x2), .val (.int fb), .val (.int rg), .val (.int (3 : Int32)), .val (.ref b97), .val (.ref b106), .val (.ref b120), .val (.int (0 : Int32))]) rfl k) ?_
              show OwnWk _ _ _ _ (T130.setTop (mkF m 204 #[.val (.int ln), .val (.int x0), .val (.int x1), .val (.int x2), .val (.int fb), .val (.int rg), .val (.int (3 : Int32)), .val (.ref b97), .val (.ref b106), .val (.ref b120), .val (.int (0 : Int32))] []))
              refine own_go (fun t k => XS.aload X130.here hx rfl (hb hby at_204) rfl rfl  k) ?_
              show OwnWk _ _ _ _ (T130.setTop (mkF m 206 #[.val (.int ln), .val (.int x0), .val (.int x1), .val (.int x2), .val (.int fb), .val (.int rg), .val (.int (3 : Int32)), .val (.ref b97), .val (.ref b106), .val (.ref b120), .val (.int (0 : Int32))] [(.ref b120)]))
              refine own_callV X130 hx hZ (y := (⟨"com/example/encircle/encircle/layout/Wiring$Regions", "everyZoneOnce", "()Z"⟩ : MethodName)) (z := (⟨"com/example/encircle/encircle/layout/Wiring$Regions", "everyZoneOnce", "()Z"⟩ : MethodName)) hown (hw _ (List.mem_of_getElem? (i := 21) rfl)) (hw _ (List.mem_of_getElem? (i := 22) rfl)) (notFace_of_selects (args := #[]) (mvT hZ (hw _ (List.mem_of_getElem? (i := 24) rfl)))) (hw _ (List.mem_of_getElem? (i := 24) rfl)) (hw _ (List.mem_of_getElem? (i := 23) rfl)) (hw _ (List.mem_of_getElem? (i := 3) rfl)) (hw _ (List.mem_of_getElem? (i := 25) rfl)) (by decide) (a := b120) F133 (argsL := []) (rest := []) (rm := ({ frames := 0, cells := 0, slots := 0, locals := 0 } : Room)) (h := h130) (rm4 l Z a0 hw b120 b97 [x0, x1, x2] h130 n0 Z134 Fq130 F131 (by simp)) e130 (W := 0) (by decide) (by decide) (by decide) (by decide) (g := (mkF m 206 #[.val (.int ln), .val (.int x0), .val (.int x1), .val (.int x2), .val (.int fb), .val (.int rg), .val (.int (3 : Int32)), .val (.ref b97), .val (.ref b106), .val (.ref b120), .val (.int (0 : Int32))] [(.ref b120)])) rfl (by rw [hml]; rfl) (lenOf pd_2 rfl) rfl (by show 2 * 0 + _ ≤ _; exact Nat.le_of_eq rfl) (hb hby at_206) (fun v139 T139 h139 L139 X139 e139 hQ139 => ?_)
              obtain ⟨rfl, Nq139, q139⟩ := hQ139
              have N139 := Fr.app N130 Nq139
              rw [q139] at e139
              show OwnWk _ _ _ _ (T139.setTop (mkF m 209 #[.val (.int ln), .val (.int x0), .val (.int x1), .val (.int x2), .val (.int fb), .val (.int rg), .val (.int (3 : Int32)), .val (.ref b97), .val (.ref b106), .val (.ref b120), .val (.int (0 : Int32))] [(.int (nar .boolean (own_all [x0, x1, x2] 1)))]))
              refine own_go (fun t k => XS.iload X139.here hx rfl (hb hby at_209) rfl  k) ?_
              show OwnWk _ _ _ _ (T139.setTop (mkF m 211 #[.val (.int ln), .val (.int x0), .val (.int x1), .val (.int x2), .val (.int fb), .val (.int rg), .val (.int (3 : Int32)), .val (.ref b97), .val (.ref b106), .val (.ref b120), .val (.int (0 : Int32))] [(.int (0 : Int32)), (.int (nar .boolean (own_all [x0, x1, x2] 1)))]))
              refine own_go (fun t k => XS.icmpNo X139.here hx rfl (hb hby at_211) rfl (teq (by simp [own_all, nar, hc135, hc136, hc137])).2 k) ?_
              show OwnWk _ _ _ _ (T139.setTop (mkF m 214 #[.val (.int ln), .val (.int x0), .val (.int x1), .val (.int x2), .val (.int fb), .val (.int rg), .val (.int (3 : Int32)), .val (.ref b97), .val (.ref b106), .val (.ref b120), .val (.int (0 : Int32))] []))
              refine own_go (fun t k => XS.iconst X139.here hx rfl (hb hby at_214) k) ?_
              show OwnWk _ _ _ _ (T139.setTop (mkF m 215 #[.val (.int ln), .val (.int x0), .val (.int x1), .val (.int x2), .val (.int fb), .val (.int rg), .val (.int (3 : Int32)), .val (.ref b97), .val (.ref b106), .val (.ref b120), .val (.int (0 : Int32))] [(.int (1 : Int32))]))
              refine own_go (fun t k => XS.goto X139.here hx rfl (pc0 := 215) (pc' := 219) rfl (hb hby at_215) (by decide) (by decide) k) ?_
              show OwnWk _ _ _ _ (T139.setTop (mkF m 219 #[.val (.int ln), .val (.int x0), .val (.int x1), .val (.int x2), .val (.int fb), .val (.int rg), .val (.int (3 : Int32)), .val (.ref b97), .val (.ref b106), .val (.ref b120), .val (.int (0 : Int32))] [(.int (1 : Int32))]))
              exact own_retZ X139 hx hlk hret (by simp) (z' := (1 : Int32)) rfl (hb hby at_219) (by decide) (by decide) (by rw [e139]; exact ⟨rfl, N139⟩)
          ·
            refine own_go (fun t k => XS.icmpYes X130.here hx rfl (pc0 := 183) (pc' := 201) rfl (hb hby at_183) rfl (feq hc136).2 (by decide) (by decide) k) ?_
            show OwnWk _ _ _ _ (T130.setTop (mkF m 201 #[.val (.int ln), .val (.int x0), .val (.int x1), .val (.int x2), .val (.int fb), .val (.int rg), .val (.int (3 : Int32)), .val (.ref b97), .val (.ref b106), .val (.ref b120), .unset] []))
            refine own_go (fun t k => XS.iconst X130.here hx rfl (hb hby at_201) k) ?_
            show OwnWk _ _ _ _ (T130.setTop (mkF m 202 #[.val (.int ln), .val (.int x0), .val (.int x1), .val (.int x2), .val (.int fb), .val (.int rg), .val (.int (3 : Int32)), .val (.ref b97), .val (.ref b106), .val (.ref b120), .unset] [(.int (0 : Int32))]))
            refine own_go (fun t k => XS.istore X130.here hx rfl (hb hby at_202) rfl (l' := #[.val (.int ln), .val (.int x0), .val (.int x1), .val (.int x2), .val (.int fb), .val (.int rg), .val (.int (3 : Int32)), .val (.ref b97), .val (.ref b106), .val (.ref b120), .val (.int (0 : Int32))]) rfl k) ?_
            show OwnWk _ _ _ _ (T130.setTop (mkF m 204 #[.val (.int ln), .val (.int x0), .val (.int x1), .val (.int x2), .val (.int fb), .val (.int rg), .val (.int (3 : Int32)), .val (.ref b97), .val (.ref b106), .val (.ref b120), .val (.int (0 : Int32))] []))
            refine own_go (fun t k => XS.aload X130.here hx rfl (hb hby at_204) rfl rfl  k) ?_
            show OwnWk _ _ _ _ (T130.setTop (mkF m 206 #[.val (.int ln), .val (.int x0), .val (.int x1), .val (.int x2), .val (.int fb), .val (.int rg), .val (.int (3 : Int32)), .val (.ref b97), .val (.ref b106), .val (.ref b120), .val (.int (0 : Int32))] [(.ref b120)]))
            refine own_callV X130 hx hZ (y := (⟨"com/example/encircle/encircle/layout/Wiring$Regions", "everyZoneOnce", "()Z"⟩ : MethodName)) (z := (⟨"com/example/encircle/encircle/layout/Wiring$Regions", "everyZoneOnce", "()Z"⟩ : MethodName)) hown (hw _ (List.mem_of_getElem? (i := 21) rfl)) (hw _ (List.mem_of_getElem? (i := 22) rfl)) (notFace_of_selects (args := #[]) (mvT hZ (hw _ (List.mem_of_getElem? (i := 24) rfl)))) (hw _ (List.mem_of_getElem? (i := 24) rfl)) (hw _ (List.mem_of_getElem? (i := 23) rfl)) (hw _ (List.mem_of_getElem? (i := 3) rfl)) (hw _ (List.mem_of_getElem? (i := 25) rfl)) (by decide) (a := b120) F133 (argsL := []) (rest := []) (rm := ({ frames := 0, cells := 0, slots := 0, locals := 0 } : Room)) (h := h130) (rm4 l Z a0 hw b120 b97 [x0, x1, x2] h130 n0 Z134 Fq130 F131 (by simp)) e130 (W := 0) (by decide) (by decide) (by decide) (by decide) (g := (mkF m 206 #[.val (.int ln), .val (.int x0), .val (.int x1), .val (.int x2), .val (.int fb), .val (.int rg), .val (.int (3 : Int32)), .val (.ref b97), .val (.ref b106), .val (.ref b120), .val (.int (0 : Int32))] [(.ref b120)])) rfl (by rw [hml]; rfl) (lenOf pd_2 rfl) rfl (by show 2 * 0 + _ ≤ _; exact Nat.le_of_eq rfl) (hb hby at_206) (fun v140 T140 h140 L140 X140 e140 hQ140 => ?_)
            obtain ⟨rfl, Nq140, q140⟩ := hQ140
            have N140 := Fr.app N130 Nq140
            rw [q140] at e140
            show OwnWk _ _ _ _ (T140.setTop (mkF m 209 #[.val (.int ln), .val (.int x0), .val (.int x1), .val (.int x2), .val (.int fb), .val (.int rg), .val (.int (3 : Int32)), .val (.ref b97), .val (.ref b106), .val (.ref b120), .val (.int (0 : Int32))] [(.int (nar .boolean (own_all [x0, x1, x2] 1)))]))
            refine own_go (fun t k => XS.iload X140.here hx rfl (hb hby at_209) rfl  k) ?_
            show OwnWk _ _ _ _ (T140.setTop (mkF m 211 #[.val (.int ln), .val (.int x0), .val (.int x1), .val (.int x2), .val (.int fb), .val (.int rg), .val (.int (3 : Int32)), .val (.ref b97), .val (.ref b106), .val (.ref b120), .val (.int (0 : Int32))] [(.int (0 : Int32)), (.int (nar .boolean (own_all [x0, x1, x2] 1)))]))
            refine own_go (fun t k => XS.icmpNo X140.here hx rfl (hb hby at_211) rfl (teq (by simp [own_all, nar, hc135, hc136])).2 k) ?_
            show OwnWk _ _ _ _ (T140.setTop (mkF m 214 #[.val (.int ln), .val (.int x0), .val (.int x1), .val (.int x2), .val (.int fb), .val (.int rg), .val (.int (3 : Int32)), .val (.ref b97), .val (.ref b106), .val (.ref b120), .val (.int (0 : Int32))] []))
            refine own_go (fun t k => XS.iconst X140.here hx rfl (hb hby at_214) k) ?_
            show OwnWk _ _ _ _ (T140.setTop (mkF m 215 #[.val (.int ln), .val (.int x0), .val (.int x1), .val (.int x2), .val (.int fb), .val (.int rg), .val (.int (3 : Int32)), .val (.ref b97), .val (.ref b106), .val (.ref b120), .val (.int (0 : Int32))] [(.int (1 : Int32))]))
            refine own_go (fun t k => XS.goto X140.here hx rfl (pc0 := 215) (pc' := 219) rfl (hb hby at_215) (by decide) (by decide) k) ?_
            show OwnWk _ _ _ _ (T140.setTop (mkF m 219 #[.val (.int ln), .val (.int x0), .val (.int x1), .val (.int x2), .val (.int fb), .val (.int rg), .val (.int (3 : Int32)), .val (.ref b97), .val (.ref b106), .val (.ref b120), .val (.int (0 : Int32))] [(.int (1 : Int32))]))
            exact own_retZ X140 hx hlk hret (by simp) (z' := (1 : Int32)) rfl (hb hby at_219) (by decide) (by decide) (by rw [e140]; exact ⟨rfl, N140⟩)
        ·
          refine own_go (fun t k => XS.icmpYes X130.here hx rfl (pc0 := 172) (pc' := 201) rfl (hb hby at_172) rfl (feq hc135).2 (by decide) (by decide) k) ?_
          show OwnWk _ _ _ _ (T130.setTop (mkF m 201 #[.val (.int ln), .val (.int x0), .val (.int x1), .val (.int x2), .val (.int fb), .val (.int rg), .val (.int (3 : Int32)), .val (.ref b97), .val (.ref b106), .val (.ref b120), .unset] []))
          refine own_go (fun t k => XS.iconst X130.here hx rfl (hb hby at_201) k) ?_
          show OwnWk _ _ _ _ (T130.setTop (mkF m 202 #[.val (.int ln), .val (.int x0), .val (.int x1), .val (.int x2), .val (.int fb), .val (.int rg), .val (.int (3 : Int32)), .val (.ref b97), .val (.ref b106), .val (.ref b120), .unset] [(.int (0 : Int32))]))
          refine own_go (fun t k => XS.istore X130.here hx rfl (hb hby at_202) rfl (l' := #[.val (.int ln), .val (.int x0), .val (.int x1), .val (.int x2), .val (.int fb), .val (.int rg), .val (.int (3 : Int32)), .val (.ref b97), .val (.ref b106), .val (.ref b120), .val (.int (0 : Int32))]) rfl k) ?_
          show OwnWk _ _ _ _ (T130.setTop (mkF m 204 #[.val (.int ln), .val (.int x0), .val (.int x1), .val (.int x2), .val (.int fb), .val (.int rg), .val (.int (3 : Int32)), .val (.ref b97), .val (.ref b106), .val (.ref b120), .val (.int (0 : Int32))] []))
          refine own_go (fun t k => XS.aload X130.here hx rfl (hb hby at_204) rfl rfl  k) ?_
          show OwnWk _ _ _ _ (T130.setTop (mkF m 206 #[.val (.int ln), .val (.int x0), .val (.int x1), .val (.int x2), .val (.int fb), .val (.int rg), .val (.int (3 : Int32)), .val (.ref b97), .val (.ref b106), .val (.ref b120), .val (.int (0 : Int32))] [(.ref b120)]))
          refine own_callV X130 hx hZ (y := (⟨"com/example/encircle/encircle/layout/Wiring$Regions", "everyZoneOnce", "()Z"⟩ : MethodName)) (z := (⟨"com/example/encircle/encircle/layout/Wiring$Regions", "everyZoneOnce", "()Z"⟩ : MethodName)) hown (hw _ (List.mem_of_getElem? (i := 21) rfl)) (hw _ (List.mem_of_getElem? (i := 22) rfl)) (notFace_of_selects (args := #[]) (mvT hZ (hw _ (List.mem_of_getElem? (i := 24) rfl)))) (hw _ (List.mem_of_getElem? (i := 24) rfl)) (hw _ (List.mem_of_getElem? (i := 23) rfl)) (hw _ (List.mem_of_getElem? (i := 3) rfl)) (hw _ (List.mem_of_getElem? (i := 25) rfl)) (by decide) (a := b120) F133 (argsL := []) (rest := []) (rm := ({ frames := 0, cells := 0, slots := 0, locals := 0 } : Room)) (h := h130) (rm4 l Z a0 hw b120 b97 [x0, x1, x2] h130 n0 Z134 Fq130 F131 (by simp)) e130 (W := 0) (by decide) (by decide) (by decide) (by decide) (g := (mkF m 206 #[.val (.int ln), .val (.int x0), .val (.int x1), .val (.int x2), .val (.int fb), .val (.int rg), .val (.int (3 : Int32)), .val (.ref b97), .val (.ref b106), .val (.ref b120), .val (.int (0 : Int32))] [(.ref b120)])) rfl (by rw [hml]; rfl) (lenOf pd_2 rfl) rfl (by show 2 * 0 + _ ≤ _; exact Nat.le_of_eq rfl) (hb hby at_206) (fun v141 T141 h141 L141 X141 e141 hQ141 => ?_)
          obtain ⟨rfl, Nq141, q141⟩ := hQ141
          have N141 := Fr.app N130 Nq141
          rw [q141] at e141
          show OwnWk _ _ _ _ (T141.setTop (mkF m 209 #[.val (.int ln), .val (.int x0), .val (.int x1), .val (.int x2), .val (.int fb), .val (.int rg), .val (.int (3 : Int32)), .val (.ref b97), .val (.ref b106), .val (.ref b120), .val (.int (0 : Int32))] [(.int (nar .boolean (own_all [x0, x1, x2] 1)))]))
          refine own_go (fun t k => XS.iload X141.here hx rfl (hb hby at_209) rfl  k) ?_
          show OwnWk _ _ _ _ (T141.setTop (mkF m 211 #[.val (.int ln), .val (.int x0), .val (.int x1), .val (.int x2), .val (.int fb), .val (.int rg), .val (.int (3 : Int32)), .val (.ref b97), .val (.ref b106), .val (.ref b120), .val (.int (0 : Int32))] [(.int (0 : Int32)), (.int (nar .boolean (own_all [x0, x1, x2] 1)))]))
          refine own_go (fun t k => XS.icmpNo X141.here hx rfl (hb hby at_211) rfl (teq (by simp [own_all, nar, hc135])).2 k) ?_
          show OwnWk _ _ _ _ (T141.setTop (mkF m 214 #[.val (.int ln), .val (.int x0), .val (.int x1), .val (.int x2), .val (.int fb), .val (.int rg), .val (.int (3 : Int32)), .val (.ref b97), .val (.ref b106), .val (.ref b120), .val (.int (0 : Int32))] []))
          refine own_go (fun t k => XS.iconst X141.here hx rfl (hb hby at_214) k) ?_
          show OwnWk _ _ _ _ (T141.setTop (mkF m 215 #[.val (.int ln), .val (.int x0), .val (.int x1), .val (.int x2), .val (.int fb), .val (.int rg), .val (.int (3 : Int32)), .val (.ref b97), .val (.ref b106), .val (.ref b120), .val (.int (0 : Int32))] [(.int (1 : Int32))]))
          refine own_go (fun t k => XS.goto X141.here hx rfl (pc0 := 215) (pc' := 219) rfl (hb hby at_215) (by decide) (by decide) k) ?_
          show OwnWk _ _ _ _ (T141.setTop (mkF m 219 #[.val (.int ln), .val (.int x0), .val (.int x1), .val (.int x2), .val (.int fb), .val (.int rg), .val (.int (3 : Int32)), .val (.ref b97), .val (.ref b106), .val (.ref b120), .val (.int (0 : Int32))] [(.int (1 : Int32))]))
          exact own_retZ X141 hx hlk hret (by simp) (z' := (1 : Int32)) rfl (hb hby at_219) (by decide) (by decide) (by rw [e141]; exact ⟨rfl, N141⟩)
set_option maxRecDepth 65536 in
set_option maxHeartbeats 40000000 in
theorem comes_1 {Post : Tables → Env → Array Value → State → Outcome → State → Prop} (hpost : ∀ tb e args s v u, (limb_1_1.after args s (.returned v) u = true ∧ limb_1_2.after args s (.returned v) u = true) → FrameEnd s (.returned v) u (Jvm.fieldLocs frame_1_writes args s ++ Jvm.arrayLocs frame_1_arrays args s ++ Jvm.staticLocs frame_1_statics s) 16 128 → Post tb e args s (.returned v) u) :
    ArmFor flags0 classFile x code maxLocals ret World_1 tables_1 room_1 Calls_1 rest_1 Pre_1 Post := by
  intro l hfl _ _ p e ha hc hk s m args below hf hA hF happ hP
  obtain ⟨hcalls, hrest, hpre⟩ := hP
  obtain ⟨-, -, -, hnamed, -, -, -, hat⟩ := (Spec.applies_iff hf).mp happ
  obtain ⟨hg, hn⟩ := and_e (Cond.before_iff.mp (show (Jvm.Cond.and given_1 narrow_1).before args s = true from hpre))
  obtain ⟨g0, r0⟩ := and_e hg
  obtain ⟨g1, r1⟩ := and_e r0
  obtain ⟨g2, r2⟩ := and_e r1
  obtain ⟨g3, r3⟩ := and_e r2
  obtain ⟨g4, r4⟩ := and_e r3
  obtain ⟨g5, r5⟩ := and_e r4
  obtain ⟨w0, w1, w2, w3, w4, w5, rfl⟩ : ∃ w0 w1 w2 w3 w4 w5 : Value, args = #[w0, w1, w2, w3, w4, w5] := by
    have hs : args.size = 6 := by simpa [Cond.value, given_1] using g0
    obtain ⟨L⟩ := args
    match L, hs with
    | [w0, w1, w2, w3, w4, w5], _ => exact ⟨w0, w1, w2, w3, w4, w5, rfl⟩
  have hw := fun d (hd : d ∈ tables_1) => atoms_spec (ws := Jvm.Cond.code x code maxLocals ret :: tables_1) hat d (List.mem_cons_of_mem _ hd)
  obtain ⟨i0, ei0⟩ := is_v g1
  obtain rfl : w0 = (.int i0) := Option.some.inj ei0
  obtain ⟨i1, ei1⟩ := is_v g2
  obtain rfl : w1 = (.int i1) := Option.some.inj ei1
  obtain ⟨i2, ei2⟩ := is_v g3
  obtain rfl : w2 = (.int i2) := Option.some.inj ei2
  obtain ⟨i3, ei3⟩ := is_v g4
  obtain rfl : w3 = (.int i3) := Option.some.inj ei3
  obtain ⟨i4, ei4⟩ := is_v g5
  obtain rfl : w4 = (.int i4) := Option.some.inj ei4
  obtain ⟨i5, ei5⟩ := is_v r5
  obtain rfl : w5 = (.int i5) := Option.some.inj ei5
  obtain ⟨n, o, h1, h2, h3, _, L, rfl, ⟨rfl, N⟩, hq⟩ := rm0 l s _ hw i0 i1 i2 i3 i4 i5 s.heap s.heap.size (Nat.le_refl _)  p e ha hc hk s m _ below hf ((Spec.applies_iff_loose hf).mp happ).1 ⟨rfl, State.Warmed39.refl s, rfl⟩ trivial
  refine ⟨n, _, h1, h2, h3, hpost _ _ _ _ _ _ ⟨Cond.after_iff.mpr rfl, Cond.after_iff.mpr (eq_i res_at (Term.int_eval (1)) rfl)⟩ ⟨hq.1, hq.2.1, (hq.2.2.sift fun y hy => Or.inr (N y hy)).mono (by decide) (by decide)⟩⟩
theorem main_1_1 : Claimed_1_1 := comes_1 fun _ _ _ _ _ _ h hF => ⟨h.1, hF⟩
theorem main_1_2 : Claimed_1_2 := comes_1 fun _ _ _ _ _ _ h hF => ⟨h.2, hF⟩
end Jvm.Pilot.@@N@@
namespace Jvm.Pilot.@@N@@
open Jvm Jvm.ClassFile Sem Op Lib Jvm.Free Jvm.Stand Jvm.Pilot.@@N@@.Jvm.D
/-! MADE BY PROGRAM (witnessworld.py) out of the Statement's table words and the real class files: 10 classes; the members and pool entries that the words name. The judged class is class 1, her method 1. -/
namespace start1
open Jvm.ClassFile
def u (s : String) : CpInfo := .utf8 (stringToUtf16 s)
/-- a pool by its gaps: so many unusable entries, then the entry; so many at the end -/
def gap : Nat → List CpInfo → List CpInfo
  | 0, r => r
  | n + 1, r => .unusable :: gap n r
def poolList (es : List (Nat × CpInfo)) (last : Nat) : List CpInfo := es.foldr (fun e r => gap e.1 (e.2 :: r)) (gap last [])
def pool (es : List (Nat × CpInfo)) (last : Nat) : Array CpInfo := ⟨poolList es last⟩
def fileOf (pool : Array CpInfo) (this : Nat) (attrs : Array Attribute := #[]) (ms : Array MethodInfo := #[]) (fl : Nat := 33) (sup : Nat := 0) (ifs : Array Nat := #[]) (fds : Array FieldInfo := #[]) : ClassFile where
  minorVersion := 0
  majorVersion := 65
  constantPool := pool
  accessFlags := fl
  thisClass := this
  superClass := sup
  interfaces := ifs
  fields := fds
  methods := ms
  attributes := attrs
def plain (name : String) (sup : Option ClassId) : Class where
  name := name
  kind := .ordinary
  loader := none
  accessFlags := 33
  super := sup
  interfaces := #[]
  cf := none
  fields := #[]
  methods := #[]
  instanceTypes := #[]
  staticTypes := #[]
  resolved := #[]
  callSites := []
  init := .initialized
  statics := none
  mirror := none

def pool0 : Array CpInfo := pool [(5, u "<init>"), (0, u "()V"), (1, .class_ 10), (1, u "java/lang/Object")] 113

def k0c0 : Code := { maxStack := 0, maxLocals := 1, code := object_method_1_code, exceptionTable := #[], attributes := #[] }
def k0m0 : Method := { name := "<init>", desc := "()V", sig := { parameters := [], returnType := none }, accessFlags := 1, code := some k0c0 }
/-- java/lang/Object -/
def k0 : Class := { plain "java/lang/Object" none with
  accessFlags := 33
  interfaces := #[]
  cf := some (fileOf pool0 8 #[] #[{ accessFlags := 1, nameIndex := 5, descriptorIndex := 6, attributes := #[] }] 33 0 #[] #[])
  fields := #[]
  methods := #[k0m0]
  instanceTypes := #[]
  staticTypes := #[]
  resolved := Array.replicate 124 none
  statics := none }

def pool1 : Array CpInfo := pool [(2, .class_ 4), (1, u "java/lang/Object"), (0, u "<init>"), (0, u "()V"), (0, .class_ 8), (0, u "com/example/encircle/encircle/layout/Wiring$Regions"), (0, .methodref 7 10), (0, .nameAndType 5 11), (0, u "([I[II)V"), (0, .methodref 7 13), (0, .nameAndType 14 15), (0, u "everyZoneOnce"), (0, u "()Z"), (0, .class_ 17), (0, u "com/example/encircle/encircle/layout/RegionsEveryZoneOncePinLaw"), (2, u "law"), (0, u "(IIIIII)Z")] 9

def k1m0 : Method := { name := "<init>", desc := "()V", sig := { parameters := [], returnType := none }, accessFlags := 1, code := none }
def k1c1 : Code := { maxStack := 5, maxLocals := 11, code := code, exceptionTable := #[], attributes := #[] }
def k1m1 : Method := { name := "law", desc := "(IIIIII)Z", sig := { parameters := [.int, .int, .int, .int, .int, .int], returnType := some .boolean }, accessFlags := 9, code := some k1c1 }
/-- com/example/encircle/encircle/layout/RegionsEveryZoneOncePinLaw -/
def k1 : Class := { plain "com/example/encircle/encircle/layout/RegionsEveryZoneOncePinLaw" (some 0) with
  accessFlags := 49
  interfaces := #[]
  cf := some (fileOf pool1 16 #[] #[{ accessFlags := 1, nameIndex := 5, descriptorIndex := 6, attributes := #[] }, { accessFlags := 9, nameIndex := 20, descriptorIndex := 21, attributes := #[] }] 49 2 #[] #[])
  fields := #[]
  methods := #[k1m0, k1m1]
  instanceTypes := #[]
  staticTypes := #[]
  resolved := Array.replicate 31 none
  statics := none }

def pool2 : Array CpInfo := pool [(1, .methodref 2 3), (0, .class_ 4), (0, .nameAndType 5 6), (0, u "java/lang/Object"), (0, u "<init>"), (0, u "()V"), (0, .class_ 8), (0, u "java/lang/Record")] 13

def k2c0 : Code := { maxStack := 1, maxLocals := 1, code := jdk_30_method_1_code, exceptionTable := #[], attributes := #[] }
def k2m0 : Method := { name := "<init>", desc := "()V", sig := { parameters := [], returnType := none }, accessFlags := 4, code := some k2c0 }
/-- java/lang/Record -/
def k2 : Class := { plain "java/lang/Record" (some 0) with
  accessFlags := 1057
  interfaces := #[]
  cf := some (fileOf pool2 7 #[] #[{ accessFlags := 4, nameIndex := 5, descriptorIndex := 6, attributes := #[] }] 1057 2 #[] #[])
  fields := #[]
  methods := #[k2m0]
  instanceTypes := #[]
  staticTypes := #[]
  resolved := Array.replicate 22 none
  statics := none }

def pool3 : Array CpInfo := pool [(1, .methodref 2 3), (0, .class_ 4), (0, .nameAndType 5 6), (0, u "java/lang/Record"), (0, u "<init>"), (0, u "()V"), (0, .fieldref 8 9), (0, .class_ 10), (0, .nameAndType 11 12), (0, u "com/example/encircle/encircle/layout/Wiring$Regions"), (0, u "shown"), (0, u "[I"), (0, .fieldref 8 14), (0, .nameAndType 15 12), (0, u "begun"), (0, .fieldref 8 17), (0, .nameAndType 18 19), (0, u "regions"), (0, u "I"), (12, u "([I[II)V"), (3, u "everyZoneOnce"), (0, u "()Z"), (9, .class_ 48), (0, u "com/example/encircle/encircle/layout/Wiring")] 21

def k3c0 : Code := { maxStack := 2, maxLocals := 4, code := prog_35_method_1_code, exceptionTable := #[], attributes := #[] }
def k3m0 : Method := { name := "<init>", desc := "([I[II)V", sig := { parameters := [(.array .int), (.array .int), .int], returnType := none }, accessFlags := 0, code := some k3c0 }
def k3c1 : Code := { maxStack := 3, maxLocals := 6, code := prog_35_method_2_code, exceptionTable := #[], attributes := #[] }
def k3m1 : Method := { name := "everyZoneOnce", desc := "()Z", sig := { parameters := [], returnType := some .boolean }, accessFlags := 0, code := some k3c1 }
/-- com/example/encircle/encircle/layout/Wiring$Regions -/
def k3 : Class := { plain "com/example/encircle/encircle/layout/Wiring$Regions" (some 2) with
  accessFlags := 48
  interfaces := #[]
  cf := some (fileOf pool3 8 #[.nestHost 47] #[{ accessFlags := 0, nameIndex := 5, descriptorIndex := 32, attributes := #[] }, { accessFlags := 0, nameIndex := 36, descriptorIndex := 37, attributes := #[] }] 48 2 #[] #[{ accessFlags := 18, nameIndex := 11, descriptorIndex := 12, attributes := #[] }, { accessFlags := 18, nameIndex := 15, descriptorIndex := 12, attributes := #[] }, { accessFlags := 18, nameIndex := 18, descriptorIndex := 19, attributes := #[] }])
  fields := #[{ name := "shown", type := (.array .int), accessFlags := 18, slot := 0, constantValue := 0 }, { name := "begun", type := (.array .int), accessFlags := 18, slot := 1, constantValue := 0 }, { name := "regions", type := .int, accessFlags := 18, slot := 2, constantValue := 0 }]
  methods := #[k3m0, k3m1]
  instanceTypes := #[(.array .int), (.array .int), .int]
  staticTypes := #[]
  resolved := Array.replicate 70 none
  statics := none }

def pool4 : Array CpInfo := pool [(1, u "java/lang/Cloneable"), (0, .class_ 1), (0, u "java/lang/Object"), (0, .class_ 3)] 3

/-- java/lang/Cloneable -/
def k4 : Class := { plain "java/lang/Cloneable" (some 0) with
  accessFlags := 1537
  interfaces := #[]
  cf := some (fileOf pool4 2 #[] #[] 1537 4 #[] #[])
  fields := #[]
  methods := #[]
  instanceTypes := #[]
  staticTypes := #[]
  resolved := Array.replicate 8 none
  statics := none }

def pool5 : Array CpInfo := pool [(1, u "java/io/Serializable"), (0, .class_ 1), (0, u "java/lang/Object"), (0, .class_ 3)] 3

/-- java/io/Serializable -/
def k5 : Class := { plain "java/io/Serializable" (some 0) with
  accessFlags := 1537
  interfaces := #[]
  cf := some (fileOf pool5 2 #[] #[] 1537 4 #[] #[])
  fields := #[]
  methods := #[]
  instanceTypes := #[]
  staticTypes := #[]
  resolved := Array.replicate 8 none
  statics := none }

/-- the primitive byte -/
def k6 : Class := { plain "byte" none with kind := .primitive 'B', accessFlags := 0x411 }
/-- [B -/
def k7 : Class := { plain "[B" (some 0) with kind := .array 6 .byte, interfaces := #[4, 5], accessFlags := 1041 }

/-- the primitive int -/
def k8 : Class := { plain "int" none with kind := .primitive 'I', accessFlags := 0x411 }
/-- [I -/
def k9 : Class := { plain "[I" (some 0) with kind := .array 8 .int, interfaces := #[4, 5], accessFlags := 1041 }

def heap : Heap := #[]
def classes : Array Class := #[k0, k1, k2, k3, k4, k5, k6, k7, k8, k9]
def interned : List (Array UInt16 × Addr) := []
def slotsUsed : Nat := 0
def theMethod : MethodId := ⟨1, 1⟩
def args0 : Array Value := #[.int 3, .int 1, .int 1, .int 1, .int 0, .int 2]
def aboutOver (below : List Frame) : State where
  vm := { classes := classes, interned := interned.toArray }
  heap := heap
  slotsUsed := slotsUsed
  threads := #[{ frames := .invoking theMethod args0 :: below }]
def below0 : List Frame := [.native { method := ⟨0, 0⟩, args := #[] }]
def about1 : State := aboutOver below0
def p0 : Program := .bare "" "" ""
def e0 : Env := launch0.env 0 0 0
theorem w_frames : about1.frames = Frame.invoking theMethod args0 :: below0 := rfl
set_option maxRecDepth 65536 in
theorem w_args : argsFit about1.vm theMethod args0 = true := by decide +kernel
set_option maxRecDepth 65536 in
theorem w_heap : heapFits about1 = true := by decide +kernel
set_option maxRecDepth 65536 in
theorem w_runnable : about1.curStatus? = some .runnable := by decide +kernel
set_option maxRecDepth 65536 in
theorem w_alone : about1.alone = true := by decide +kernel
set_option maxRecDepth 65536 in
theorem w_named : about1.methodNamed? x = some theMethod := by decide +kernel
set_option maxRecDepth 65536 in
theorem w_hears : about1.hears theMethod below0 = true := by decide +kernel
set_option maxRecDepth 65536 in
theorem w_ripe : about1.ripe theMethod args0 below0 = true := by decide +kernel
theorem w_running : about1.status = .running := rfl
set_option maxRecDepth 65536 in
theorem w_room : about1.hasRoom e0.platform room_1 = true :=
  launch0.hasRoom_least _ room_1 (by decide +kernel) (by decide +kernel) (by decide +kernel) (by decide +kernel) (by decide +kernel) (by decide +kernel)
theorem allAtoms_all (ts : List Jvm.Cond) (a : Array Jvm.Value) (st : Jvm.State) : (allAtoms ts).before a st = ts.all (fun c => c.before a st) := by
  induction ts with
  | nil => rfl
  | cons c t ih =>
    show (Jvm.Cond.and c (allAtoms t)).before a st = _
    rw [Jvm.Cond.before_and, ih, List.all_cons]
def words1 : List Jvm.Cond := Jvm.Cond.code x code maxLocals ret :: tables_1
/-- a 'code' word, met by the world's own term for the bytes: nothing is compared byte by byte -/
theorem code_word {y : MethodName} {bytes : ByteArray} {mx : Nat} {rt : Option FieldType} {a : Array Value} {s : State} {m : MethodId} {meth : Method} {c : Code} (h1 : s.methodNamed? y = some m) (h2 : s.vm.method? m = some meth) (h3 : meth.code = some c) (h4 : c.code = bytes)
    (h5 : (c.maxLocals == mx && c.exceptionTable.isEmpty && decide (c.maxStack ≤ mostOperands) && decide (meth.sig.returnType = rt) && !meth.locks && decide (parseMethodDescriptor y.desc = some meth.sig)) = true) : (Jvm.Cond.code y bytes mx rt).before a s = true := by
  simp only [Bool.and_eq_true, beq_iff_eq, Bool.not_eq_true', decide_eq_true_eq] at h5
  obtain ⟨⟨⟨⟨⟨g1, g2⟩, g3⟩, g4⟩, g5⟩, g6⟩ := h5
  simp [Cond.before, Cond.holds, Cond.value, h1, h2, h3, h4, g1, g2, g3, g4, g5, g6]
def isCode : Jvm.Cond → Bool
  | .code _ _ _ _ => true
  | _ => false
theorem all_split {L : List Jvm.Cond} {P : Jvm.Cond → Bool} (h1 : L.all (fun c => isCode c || P c) = true) (h2 : ∀ c ∈ L.filter isCode, P c = true) : L.all P = true := by
  refine List.all_eq_true.mpr fun c hc => ?_
  have h := List.all_eq_true.mp h1 c hc
  rcases Bool.eq_false_or_eq_true (isCode c) with hi | hi
  · exact h2 c (List.mem_filter.mpr ⟨hc, hi⟩)
  · simpa [hi] using h
set_option maxRecDepth 65536 in
theorem w_c0 : (Jvm.Cond.code x code maxLocals ret).before args0 about1 = true := code_word (m := ⟨1, 1⟩) (meth := k1m1) (c := k1c1) (by decide +kernel) rfl rfl rfl (by decide +kernel)
set_option maxRecDepth 65536 in
theorem w_c1 : (Jvm.Cond.code ({ cls := "com/example/encircle/encircle/layout/Wiring$Regions", name := "<init>", desc := "([I[II)V" } : Jvm.MethodName) prog_35_method_1_code (4 : Nat) (Option.none : Option Jvm.ClassFile.FieldType)).before args0 about1 = true := code_word (m := ⟨3, 0⟩) (meth := k3m0) (c := k3c0) (by decide +kernel) rfl rfl rfl (by decide +kernel)
set_option maxRecDepth 65536 in
theorem w_c2 : (Jvm.Cond.code ({ cls := "java/lang/Record", name := "<init>", desc := "()V" } : Jvm.MethodName) jdk_30_method_1_code (1 : Nat) (Option.none : Option Jvm.ClassFile.FieldType)).before args0 about1 = true := code_word (m := ⟨2, 0⟩) (meth := k2m0) (c := k2c0) (by decide +kernel) rfl rfl rfl (by decide +kernel)
set_option maxRecDepth 65536 in
theorem w_c3 : (Jvm.Cond.code ({ cls := "java/lang/Object", name := "<init>", desc := "()V" } : Jvm.MethodName) object_method_1_code (1 : Nat) (Option.none : Option Jvm.ClassFile.FieldType)).before args0 about1 = true := code_word (m := ⟨0, 0⟩) (meth := k0m0) (c := k0c0) (by decide +kernel) rfl rfl rfl (by decide +kernel)
set_option maxRecDepth 65536 in
theorem w_c4 : (Jvm.Cond.code ({ cls := "com/example/encircle/encircle/layout/Wiring$Regions", name := "everyZoneOnce", desc := "()Z" } : Jvm.MethodName) prog_35_method_2_code (6 : Nat) (Option.some Jvm.ClassFile.FieldType.boolean)).before args0 about1 = true := code_word (m := ⟨3, 1⟩) (meth := k3m1) (c := k3c1) (by decide +kernel) rfl rfl rfl (by decide +kernel)
def codes1 : List Jvm.Cond := [Jvm.Cond.code x code maxLocals ret, Jvm.Cond.code ({ cls := "com/example/encircle/encircle/layout/Wiring$Regions", name := "<init>", desc := "([I[II)V" } : Jvm.MethodName) prog_35_method_1_code (4 : Nat) (Option.none : Option Jvm.ClassFile.FieldType), Jvm.Cond.code ({ cls := "java/lang/Record", name := "<init>", desc := "()V" } : Jvm.MethodName) jdk_30_method_1_code (1 : Nat) (Option.none : Option Jvm.ClassFile.FieldType), Jvm.Cond.code ({ cls := "java/lang/Object", name := "<init>", desc := "()V" } : Jvm.MethodName) object_method_1_code (1 : Nat) (Option.none : Option Jvm.ClassFile.FieldType), Jvm.Cond.code ({ cls := "com/example/encircle/encircle/layout/Wiring$Regions", name := "everyZoneOnce", desc := "()Z" } : Jvm.MethodName) prog_35_method_2_code (6 : Nat) (Option.some Jvm.ClassFile.FieldType.boolean)]
set_option maxRecDepth 65536 in
theorem codes_eq : words1.filter isCode = codes1 := rfl
theorem w_codes : ∀ c ∈ words1.filter isCode, c.before args0 about1 = true := by
  rw [codes_eq]
  intro c hc
  simp only [codes1, List.mem_cons, List.not_mem_nil, or_false] at hc
  rcases hc with rfl | rfl | rfl | rfl | rfl
  · exact w_c0
  · exact w_c1
  · exact w_c2
  · exact w_c3
  · exact w_c4
set_option maxRecDepth 65536 in
theorem w_t1 : (words1.take 24).all (fun c => isCode c || c.before args0 about1) = true := by decide +kernel
set_option maxRecDepth 65536 in
theorem w_t2 : (words1.drop 24).all (fun c => isCode c || c.before args0 about1) = true := by decide +kernel
theorem w_tables : (allAtoms (Jvm.Cond.code x code maxLocals ret :: tables_1)).before args0 about1 = true := by
  rw [allAtoms_all]
  show words1.all (fun c => c.before args0 about1) = true
  refine all_split ?_ w_codes
  rw [← List.take_append_drop 24 words1, List.all_append, w_t1, w_t2]
  rfl
set_option maxRecDepth 65536 in
theorem w_case : (Jvm.Cond.and given_1 narrow_1).before args0 about1 = true := by decide +kernel
theorem w_applies : (headSpec (Jvm.Cond.code x code maxLocals ret :: tables_1) room_1).applies x e0.platform about1 = true :=
  (Spec.applies_iff w_frames).mpr ⟨w_running, w_runnable, w_alone, w_named, w_hears, w_ripe, w_room, w_tables⟩
theorem atStart : AtStart classFile x code maxLocals ret World_1 tables_1 room_1 Calls_1 rest_1 Pre_1 launch0 p0 e0 about1 theMethod args0 below0 :=
  ⟨lists_1, trivial, launch0.admits_env _ _ _, launch0.least_env, fairChoices_fair.cas, fairChoices_fair.clock, w_frames, w_args, w_heap, w_applies, trivial, trivial, w_case⟩
end start1
theorem witness_1 : WitnessClaimed_1 := ⟨start1.p0, start1.e0, start1.about1, start1.theMethod, start1.args0, start1.below0, start1.atStart⟩
end Jvm.Pilot.@@N@@
