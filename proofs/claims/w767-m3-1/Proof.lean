import JvmDerived
import JvmDerived.Pilot.@@N@@Statement
import JvmDerived.Pilot.@@N@@Code
set_option linter.unusedVariables false
set_option linter.unusedSimpArgs false
namespace Jvm.Pilot.@@N@@
open Jvm Jvm.ClassFile Sem Op Lib Jvm.Free Jvm.Stand Jvm.LawKit Jvm.RoadKit Bundle Jvm.Pilot.@@N@@.Jvm.D
/-! own: the walk in continuation form: 'from the state A the body ends, and then Q' -/
def OwnWk (p : Program) (e : Env) (below : List Frame) (P : Option Value → State → List Loc → Prop) (A : State) : Prop :=
  ∃ s₂ v L, Steps p.tables e below A s₂ ∧ s₂.status = .running ∧ Ended s₂ below (.returned v) ∧ P v s₂ L
abbrev OwnP (s : State) (Q : Option Value → Heap → List Loc → Prop) (k n : Nat) : Option Value → State → List Loc → Prop := fun v t L => Q v t.heap L ∧ FrameEnd s (.returned v) t L k n
def OwnMet (l : Launch) (y : MethodName) (bytes : ByteArray) (maxL : Nat) (ret : Option FieldType) (ws : List Jvm.Cond) (rm : Room) (Z : State) (as' : Array Value) (h0 : Heap) (Q : Option Value → Heap → List Loc → Prop) : Prop :=
  MetFree l y (head1 (Jvm.Cond.code y bytes maxL ret :: ws) rm) (fun a U => a = as' ∧ Z.Warmed39 U.vm ∧ U.heap = h0) (fun _ _ _ _ _ => True)
    (fun _ U o U' => ∃ v L, o = .returned v ∧ Q v U'.heap L ∧ FrameEnd U o U' L rm.cells rm.slots)
def OAr (Z : State) (h : Heap) (a : Addr) (ty : FieldType) (vs : List Value) : Prop := ∃ c : Cell, Arr Z h a c ty ∧ c.slots = vs.toArray
theorem OAr.ext {Z : State} {h h' : Heap} {a : Addr} {ty : FieldType} {vs : List Value} (A : OAr Z h a ty vs) (E : Ext h h') : OAr Z h' a ty vs := by
  obtain ⟨c, A, e⟩ := A; exact ⟨c, A.ext E, e⟩
theorem OAr.other {Z : State} {h h' : Heap} {a b : Addr} {ty : FieldType} {vs : List Value} {sl : Nat} {v : Value} (A : OAr Z h b ty vs) (W : Wr h h' a sl v) (q : b ≠ a) : OAr Z h' b ty vs := by
  obtain ⟨c, A, e⟩ := A; exact ⟨c, A.other W q, e⟩
theorem OAr.keep {Z : State} {h h' : Heap} {a : Addr} {ty : FieldType} {vs : List Value} {ws : List Addr} (A : OAr Z h a ty vs) (K : Keep h h' ws) (q : a ∉ ws) : OAr Z h' a ty vs := by
  obtain ⟨c, A, e⟩ := A; exact ⟨c, ⟨K.2.1 a c A.1 q, A.2⟩, e⟩
theorem OAr.lt {Z : State} {h : Heap} {a : Addr} {ty : FieldType} {vs : List Value} (A : OAr Z h a ty vs) : a < h.size := by
  obtain ⟨c, A, e⟩ := A; exact A.lt
theorem OAr.set {Z : State} {h h' : Heap} {a : Addr} {ty : FieldType} {vs : List Value} {sl : Nat} {v : Value} (A : OAr Z h a ty vs) (W : Wr h h' a sl v) : OAr Z h' a ty (vs.set sl v) := by
  obtain ⟨c, A, e⟩ := A
  refine ⟨_, A.same W, ?_⟩
  show c.slots.setIfInBounds sl v = _
  rw [e]; simp
theorem own_plE {Z : State} {h : Heap} {a : Addr} {C : String} (E : Exa Z h a C) : ∀ c : Cell, h[a]? = some c → c.vm.isStatics = false := fun c hc => by
  obtain ⟨c', k, h1, -, -, h4, -⟩ := E; cases h1.symm.trans hc; exact h4
theorem own_plV {Z : State} {h : Heap} {a : Addr} {ty : FieldType} {vs : List Value} (A : OAr Z h a ty vs) : ∀ c : Cell, h[a]? = some c → c.vm.isStatics = false := fun c hc => by
  obtain ⟨c', A, -⟩ := A; cases A.1.symm.trans hc; exact A.plain
theorem own_sta_keep {Z : State} {h h' : Heap} {ws : List Addr} {O f d : String} {v : Value} (F : Sta Z h O f d v) (K : Keep h h' ws) (q : ∀ x ∈ ws, ∀ c : Cell, h[x]? = some c → c.vm.isStatics = false) : Sta Z h' O f d v := by
  obtain ⟨cf, i, k, f, st, cell, h1, h2, h3, h4, h5, h6, h7⟩ := F
  refine ⟨cf, i, k, f, st, cell, h1, h2, h3, h4, K.2.1 st cell h5 (fun m => ?_), h6, h7⟩
  have := q st m cell h5
  rw [h6] at this; cases this
theorem own_ins_keep {Z : State} {h h' : Heap} {ws : List Addr} {a : Addr} {C : String} {b : Bool} (F : Ins Z h a C b) (K : Keep h h' ws) : Ins Z h' a C b := by
  obtain ⟨cell, cT, h1, h2, h3⟩ := F
  obtain ⟨c', q, r1, r2, -⟩ := K.2.2 a cell h1
  exact ⟨c', cT, q, h2, by rw [r1, r2]; exact h3⟩
section Own
variable {p : Program} {l : Launch} {e : Env} {R : Room} {s : State} {m : MethodId} {args : Array Value} {below : List Frame} {meth : Method} {c : Code} {T : State} {locs : List Loc} {cells slots : Nat}
  {P : Option Value → State → List Loc → Prop} {Q : Option Value → Heap → List Loc → Prop} {k n : Nat} {Z : State} {a0 : Array Value} {h : Heap} {g : JFrame} {rest : List Value}
theorem own_go {A B : State} (st : ∀ t, Steps p.tables e below B t → Steps p.tables e below A t) (h : OwnWk p e below P B) : OwnWk p e below P A := by
  obtain ⟨s₂, v, L, h1, r⟩ := h; exact ⟨s₂, v, L, st _ h1, r⟩
theorem own_met {y : MethodName} {bytes : ByteArray} {maxL : Nat} {ret : Option FieldType} {ws : List Jvm.Cond} {rm : Room} {as' : Array Value} {h0 : Heap} (hpl : plainFor y = true)
    (body : ∀ (p : Program) (e : Env) (s : State) (m : MethodId) (below : List Frame) (meth : Method) (c : Code) (s₁ : State), p.tables.exec = Jvm.exec → c.code = bytes → c.maxLocals = maxL → s.vm.findClass y.cls = some m.cls → meth.name = y.name → meth.sig.returnType = ret → meth.locks = false → Z.Warmed39 s.vm →
      Stand p l e rm s m as' below meth c s₁ [] 0 0 → s₁.heap = h0 → OwnWk p e below (OwnP s Q rm.cells rm.slots) (s₁.setTop (entryFrame m as' maxL))) : OwnMet l y bytes maxL ret ws rm Z as' h0 Q := by
  refine MetFree.of_bodySF hpl hisR ?_
  intro p e s m args below meth c s₁ Bd hml0 hP hK
  obtain ⟨rfl, hZ, hh⟩ := hP
  obtain ⟨s₂, v, L, h1, h2, h3, h4, h5⟩ := body p e s m below meth c s₁ Bd.exec Bd.bytes hml0 (findClass_of_methodNamed Bd.named) (name_of_methodNamed Bd.named Bd.method).1 Bd.returns (BodyLoose.notSynchronized Bd) hZ (Stand.of_body Bd) (by rw [← hh, Bd.state]; rfl)
  exact ⟨s₂, _, h1, h2, h3, v, L, rfl, h4, h5⟩
theorem own_out0 {A : State} {v : Option Value} (X : Stand p l e R s m args below meth c T locs cells slots) (hlk : meth.locks = false) (hv : meth.sig.returnType = none → v = none)
    (st : ∀ fs, (∀ (f : JFrame) (acts : List Action), f.method = m → f.locked = none → f.entered = [] → (doReturn e (T.setTop f) acts v).1 = T.setFrames fs) → Steps p.tables e below A (T.setFrames fs))
    (hq : ∀ t : State, t.heap = T.heap → FrameEnd s (.returned v) t locs cells slots → P v t locs) : OwnWk p e below P A := by
  obtain ⟨fs, hr, hrun, hended, hW, hsame⟩ := X.leave (v := v) hv hlk
  exact ⟨_, v, locs, st fs hr, hrun, hended, hq _ rfl ⟨⟨v, rfl⟩, hW, hsame⟩⟩
theorem own_out {A : State} {v : Option Value} (X : Stand p l e R s m args below meth c T locs cells slots) (hlk : meth.locks = false) (hv : meth.sig.returnType = none → v = none)
    (st : ∀ fs, (∀ (f : JFrame) (acts : List Action), f.method = m → f.locked = none → f.entered = [] → (doReturn e (T.setTop f) acts v).1 = T.setFrames fs) → Steps p.tables e below A (T.setFrames fs))
    (hc : cells ≤ k) (hs : slots ≤ n) (hq : Q v T.heap locs) : OwnWk p e below (OwnP s Q k n) A :=
  own_out0 X hlk hv st fun t ht hF => ⟨by rw [ht]; exact hq, hF.1, hF.2.1, hF.2.2.mono hc hs⟩
theorem own_retI (X : Stand p l e R s m args below meth c T locs cells slots) (hx : p.tables.exec = Jvm.exec) (hlk : meth.locks = false) (hret : meth.sig.returnType = some .int) {pc : Nat} {Ls : Array Slot} {z : Int32} (hd : decode c.code pc = .ok (.ireturn, 1)) (hc : cells ≤ k) (hs : slots ≤ n)
    (hq : Q (some (.int z)) T.heap locs) : OwnWk p e below (OwnP s Q k n) (T.setTop (mkF m pc Ls (.int z :: rest))) :=
  own_out X hlk (fun q => by rw [hret] at q; cases q) (fun fs hr => retOut X hx hret rfl (Or.inl ⟨rfl, Or.inl rfl, z, rfl⟩) hd hr) hc hs hq
theorem own_retZ (X : Stand p l e R s m args below meth c T locs cells slots) (hx : p.tables.exec = Jvm.exec) (hlk : meth.locks = false) {t : FieldType} (hret : meth.sig.returnType = some t) (ht : t = .boolean ∨ t = .byte ∨ t = .char ∨ t = .short) {pc : Nat} {Ls : Array Slot} {z z' : Int32} (hz : nar t z = z') (hd : decode c.code pc = .ok (.ireturn, 1)) (hc : cells ≤ k) (hs : slots ≤ n)
    (hq : Q (some (.int z')) T.heap locs) : OwnWk p e below (OwnP s Q k n) (T.setTop (mkF m pc Ls (.int z :: rest))) := by
  subst hz
  exact own_out X hlk (fun q => by rw [hret] at q; cases q) (fun fs hr => retN X hx hret ht hd hr) hc hs hq
theorem own_retJ (X : Stand p l e R s m args below meth c T locs cells slots) (hx : p.tables.exec = Jvm.exec) (hlk : meth.locks = false) (hret : meth.sig.returnType = some .long) {pc : Nat} {Ls : Array Slot} {z : Int64} (hd : decode c.code pc = .ok (.lreturn, 1)) (hc : cells ≤ k) (hs : slots ≤ n)
    (hq : Q (some (.long z)) T.heap locs) : OwnWk p e below (OwnP s Q k n) (T.setTop (mkF m pc Ls (.long z :: rest))) :=
  own_out X hlk (fun q => by rw [hret] at q; cases q) (fun fs hr => retOut X hx hret rfl (Or.inr (Or.inl ⟨rfl, rfl, z, rfl⟩)) hd hr) hc hs hq
theorem own_retA (X : Stand p l e R s m args below meth c T locs cells slots) (hx : p.tables.exec = Jvm.exec) (hlk : meth.locks = false) {t : FieldType} (hret : meth.sig.returnType = some t) (ht : t.isReference = true) {pc : Nat} {Ls : Array Slot} {v : Value} (hv : v.isRef = true) (hn : narrow t v = v) (hd : decode c.code pc = .ok (.areturn, 1)) (hc : cells ≤ k) (hs : slots ≤ n)
    (hq : Q (some v) T.heap locs) : OwnWk p e below (OwnP s Q k n) (T.setTop (mkF m pc Ls (v :: rest))) :=
  own_out X hlk (fun q => by rw [hret] at q; cases q) (fun fs hr => retOut X hx hret hn (Or.inr (Or.inr (Or.inr (Or.inr ⟨rfl, ht, hv⟩)))) hd hr) hc hs hq
theorem own_retV (X : Stand p l e R s m args below meth c T locs cells slots) (hx : p.tables.exec = Jvm.exec) (hlk : meth.locks = false) (hret : meth.sig.returnType = none) {pc : Nat} {Ls : Array Slot} (hd : decode c.code pc = .ok (.return_, 1)) (hc : cells ≤ k) (hs : slots ≤ n)
    (hq : Q none T.heap locs) : OwnWk p e below (OwnP s Q k n) (T.setTop (mkF m pc Ls [])) :=
  own_out X hlk (fun _ => rfl) (fun fs hr => X.returnOut hx hret hd hr) hc hs hq
/-! calls by a contract -/
variable {own C : String} {idx cnt : Nat} {y z : MethodName} {bytes : ByteArray} {maxL : Nat} {ret : Option FieldType} {rm : Room} {Q' : Option Value → Heap → List Loc → Prop} {W : Nat} {argsL : List Value} {a b : Addr}
theorem OwnMet.back {len : Nat} {as' : Array Value} (hM : OwnMet l y bytes maxL ret [] rm Z as' h Q') (hZ : Z.Warmed39 s.vm) (wc : (Jvm.Cond.code y bytes maxL ret).before a0 Z = true) (wz : (Jvm.Cond.initialized y.cls).before a0 Z = true) (hf : rm.frames + 1 ≤ R.frames) (hl : W + (maxL + 11) + rm.locals ≤ R.locals) :
    Back l R p e below s args y len W (fun A a => a = as' ∧ A.U.heap = h ∧ A.cells + rm.cells ≤ R.cells ∧ A.slots + rm.slots ≤ R.slots)
      (fun A _ v B => ∃ L, Q' v B.U.heap L ∧ B.locs = A.locs ++ L ∧ B.cells = A.cells + rm.cells ∧ B.slots = A.slots + rm.slots) := backOf (Q := Q') hM hZ wc wz hf hl
theorem own_callS (X : Stand p l e R s m args below meth c T locs cells slots) (hx : p.tables.exec = Jvm.exec) (hZ : Z.Warmed39 s.vm) (hown : s.vm.findClass own = some m.cls)
    (w1 : (Jvm.Cond.methodLink own idx y).before a0 Z = true) (w2 : (Jvm.Cond.static y).before a0 Z = true) (w3 : (Jvm.Cond.initialized y.cls).before a0 Z = true) (w4 : (Jvm.Cond.code y bytes maxL ret).before a0 Z = true)
    (hy : y.cls ≠ "java/lang/invoke/MethodHandle" ∧ y.cls ≠ "java/lang/invoke/VarHandle") (hM : OwnMet l y bytes maxL ret [] rm Z argsL.toArray h Q') (eT : T.heap = h)
    (hf : rm.frames + 1 ≤ R.frames) (hl : W + (maxL + 11) + rm.locals ≤ R.locals) (hc : cells + rm.cells ≤ R.cells) (hs : slots + rm.slots ≤ R.slots)
    (hg : g.method = m) (hsize : g.locals.size = c.maxLocals) (hlen : ∀ sig, parseMethodDescriptor y.desc = some sig → argsL.length = sig.parameters.length) (hstack : g.stack = argsL.reverse ++ rest)
    (hW : 2 * g.monitorRoom + (rest.map fun v => v.category).sum ≤ W) (hd : decode c.code g.pc = .ok (.invokestatic idx, 3))
    (K : ∀ v T' h' L, Stand p l e R s m args below meth c T' (locs ++ L) (cells + rm.cells) (slots + rm.slots) → T'.heap = h' → Q' v h' L → OwnWk p e below P (T'.setTop { g with pc := g.pc + 3, stack := v.toList ++ rest })) :
    OwnWk p e below P (T.setTop g) := by
  obtain ⟨v, vm₁, ⟨T', L', k', n'⟩, -, X', ⟨L, hQ, e1, e2, e3⟩, st⟩ := Jvm.LawKit.callS X hx hown (mvT hZ w1) (mvT hZ w2) (mvT hZ w3) (mvT hZ w4) hy (hM.back hZ w4 w3 hf hl) hg hsize hlen hstack hW hd (fun _ _ => ⟨rfl, eT, hc, hs⟩)
  dsimp only [Pt.U, Pt.locs, Pt.cells, Pt.slots] at X' e1 e2 e3 st hQ
  subst e1 e2 e3
  exact own_go st (K v T' _ L X' rfl hQ)
theorem own_callC (X : Stand p l e R s m args below meth c T locs cells slots) (hx : p.tables.exec = Jvm.exec) (hZ : Z.Warmed39 s.vm) (hown : s.vm.findClass own = some m.cls) (hy1 : y.name = "<init>")
    (w1 : (Jvm.Cond.methodLink own idx y).before a0 Z = true) (w2 : (Jvm.Cond.instanceMethod y).before a0 Z = true) (w3 : (Jvm.Cond.initialized y.cls).before a0 Z = true) (w4 : (Jvm.Cond.code y bytes maxL none).before a0 Z = true)
    (hy : y.cls ≠ "java/lang/invoke/MethodHandle" ∧ y.cls ≠ "java/lang/invoke/VarHandle") (hM : OwnMet l y bytes maxL none [] rm Z (.ref a :: argsL).toArray h Q') (eT : T.heap = h)
    (hf : rm.frames + 1 ≤ R.frames) (hl : W + (maxL + 11) + rm.locals ≤ R.locals) (hc : cells + rm.cells ≤ R.cells) (hs : slots + rm.slots ≤ R.slots)
    (hg : g.method = m) (hsize : g.locals.size = c.maxLocals) (hlen : ∀ sig, parseMethodDescriptor y.desc = some sig → argsL.length = sig.parameters.length) (hstack : g.stack = argsL.reverse ++ .ref a :: rest)
    (hW : 2 * g.monitorRoom + (rest.map fun v => v.category).sum ≤ W) (hd : decode c.code g.pc = .ok (.invokespecial idx, 3))
    (K : ∀ v T' h' L, Stand p l e R s m args below meth c T' (locs ++ L) (cells + rm.cells) (slots + rm.slots) → T'.heap = h' → Q' v h' L → OwnWk p e below P (T'.setTop { g with pc := g.pc + 3, stack := v.toList ++ rest })) :
    OwnWk p e below P (T.setTop g) := by
  obtain ⟨v, vm₁, ⟨T', L', k', n'⟩, -, X', ⟨L, hQ, e1, e2, e3⟩, st⟩ := X.specialBack hx hy1 hown (mvT hZ w1) (mvT hZ w2) (mvT hZ w4) hy (hM.back hZ w4 w3 hf hl) hg hsize (Steps.refl _) hlen hstack hW hd (fun _ _ => ⟨rfl, eT, hc, hs⟩)
  dsimp only [Pt.U, Pt.locs, Pt.cells, Pt.slots] at X' e1 e2 e3 st hQ
  subst e1 e2 e3
  exact own_go (fun t q => st.trans q) (K v T' _ L X' rfl hQ)
theorem own_callV (X : Stand p l e R s m args below meth c T locs cells slots) (hx : p.tables.exec = Jvm.exec) (hZ : Z.Warmed39 s.vm) (hown : s.vm.findClass own = some m.cls)
    (w1 : (Jvm.Cond.methodLink own idx y).before a0 Z = true) (w2 : (Jvm.Cond.declares y).before a0 Z = true) (nf : NotFace s y) (w5 : (Jvm.Cond.selects C y z).before a0 Z = true) (w6 : (Jvm.Cond.instanceMethod z).before a0 Z = true) (w3 : (Jvm.Cond.initialized z.cls).before a0 Z = true) (w4 : (Jvm.Cond.code z bytes maxL ret).before a0 Z = true)
    (hy : y.cls ≠ "java/lang/invoke/MethodHandle" ∧ y.cls ≠ "java/lang/invoke/VarHandle") (E : Exa Z h a C) (hM : OwnMet l z bytes maxL ret [] rm Z (.ref a :: argsL).toArray h Q') (eT : T.heap = h)
    (hf : rm.frames + 1 ≤ R.frames) (hl : W + (maxL + 11) + rm.locals ≤ R.locals) (hc : cells + rm.cells ≤ R.cells) (hs : slots + rm.slots ≤ R.slots)
    (hg : g.method = m) (hsize : g.locals.size = c.maxLocals) (hlen : ∀ sig, parseMethodDescriptor y.desc = some sig → argsL.length = sig.parameters.length) (hstack : g.stack = argsL.reverse ++ .ref a :: rest)
    (hW : 2 * g.monitorRoom + (rest.map fun v => v.category).sum ≤ W) (hd : decode c.code g.pc = .ok (.invokevirtual idx, 3))
    (K : ∀ v T' h' L, Stand p l e R s m args below meth c T' (locs ++ L) (cells + rm.cells) (slots + rm.slots) → T'.heap = h' → Q' v h' L → OwnWk p e below P (T'.setTop { g with pc := g.pc + 3, stack := v.toList ++ rest })) :
    OwnWk p e below P (T.setTop g) := by
  obtain ⟨cq, kq, q1, q2, q3⟩ := isOf hZ eT E
  obtain ⟨v, vm₁, ⟨T', L', k', n'⟩, -, X', ⟨L, hQ, e1, e2, e3⟩, st⟩ := X.virtualBack hx hown (mvT hZ w1) (mvT hZ w2) nf (mvT hZ w5) (mvT hZ w6) hy (hM.back hZ w4 w3 hf hl) q1 q3 hg hsize (Steps.refl _) hlen hstack hW hd (fun _ _ => ⟨rfl, eT, hc, hs⟩)
  dsimp only [Pt.U, Pt.locs, Pt.cells, Pt.slots] at X' e1 e2 e3 st hQ
  subst e1 e2 e3
  exact own_go (fun t q => st.trans q) (K v T' _ L X' rfl hQ)
theorem own_callI (X : Stand p l e R s m args below meth c T locs cells slots) (hx : p.tables.exec = Jvm.exec) (hZ : Z.Warmed39 s.vm) (hown : s.vm.findClass own = some m.cls)
    (w1 : (Jvm.Cond.methodLink own idx y).before a0 Z = true) (w2 : (Jvm.Cond.declares y).before a0 Z = true) (w7 : (Jvm.Cond.interfaceMethod y.cls y.cls y.name y.desc).before args s = true) (w5 : (Jvm.Cond.selects C y z).before a0 Z = true) (w6 : (Jvm.Cond.instanceMethod z).before a0 Z = true)
    (w8 : (Jvm.Cond.publicMethod z).before a0 Z = true) (w9 : (Jvm.Cond.unhidden C y.name y.desc).before a0 Z = true) (w10 : (Jvm.Cond.castable C y.cls).before a0 Z = true) (w3 : (Jvm.Cond.initialized z.cls).before a0 Z = true) (w4 : (Jvm.Cond.code z bytes maxL ret).before a0 Z = true)
    (hy : y.cls ≠ "java/lang/invoke/MethodHandle" ∧ y.cls ≠ "java/lang/invoke/VarHandle") (E : Exa Z h a C) (hM : OwnMet l z bytes maxL ret [] rm Z (.ref a :: argsL).toArray h Q') (eT : T.heap = h)
    (hf : rm.frames + 1 ≤ R.frames) (hl : W + (maxL + 11) + rm.locals ≤ R.locals) (hc : cells + rm.cells ≤ R.cells) (hs : slots + rm.slots ≤ R.slots)
    (hg : g.method = m) (hsize : g.locals.size = c.maxLocals) (hlen : ∀ sig, parseMethodDescriptor y.desc = some sig → argsL.length = sig.parameters.length) (hstack : g.stack = argsL.reverse ++ .ref a :: rest)
    (hW : 2 * g.monitorRoom + (rest.map fun v => v.category).sum ≤ W) (hd : decode c.code g.pc = .ok (.invokeinterface idx cnt, 5))
    (K : ∀ v T' h' L, Stand p l e R s m args below meth c T' (locs ++ L) (cells + rm.cells) (slots + rm.slots) → T'.heap = h' → Q' v h' L → OwnWk p e below P (T'.setTop { g with pc := g.pc + 5, stack := v.toList ++ rest })) :
    OwnWk p e below P (T.setTop g) := by
  obtain ⟨cq, kq, q1, q2, q3⟩ := isOf hZ eT E
  obtain ⟨v, vm₁, ⟨T', L', k', n'⟩, -, X', ⟨L, hQ, e1, e2, e3⟩, st⟩ := X.interfaceBack hx hown (mvT hZ w1) (mvT hZ w2) w7 (mvT hZ w5) (mvT hZ w6) (mvT hZ w8) (mvT hZ w9) (mvT hZ w10) hy (hM.back hZ w4 w3 hf hl) q1 q2 q3 hg hsize (Steps.refl _) hlen hstack hW hd (fun _ _ => ⟨rfl, eT, hc, hs⟩)
  dsimp only [Pt.U, Pt.locs, Pt.cells, Pt.slots] at X' e1 e2 e3 st hQ
  subst e1 e2 e3
  exact own_go (fun t q => st.trans q) (K v T' _ L X' rfl hQ)
theorem own_callP (X : Stand p l e R s m args below meth c T locs cells slots) (hx : p.tables.exec = Jvm.exec) (hZ : Z.Warmed39 s.vm) (hown : s.vm.findClass own = some m.cls)
    (w1 : (Jvm.Cond.methodLink own idx y).before a0 Z = true) (w2 : (Jvm.Cond.instanceMethod y).before a0 Z = true) (w5 : (Jvm.Cond.selects y.cls y y).before a0 Z = true) (w6 : (Jvm.Cond.privateMethod y).before a0 Z = true) (w3 : (Jvm.Cond.initialized y.cls).before a0 Z = true) (w4 : (Jvm.Cond.code y bytes maxL ret).before a0 Z = true)
    (hy : y.cls ≠ "java/lang/invoke/MethodHandle" ∧ y.cls ≠ "java/lang/invoke/VarHandle") (E : Exa Z h a C) (hM : OwnMet l y bytes maxL ret [] rm Z (.ref a :: argsL).toArray h Q') (eT : T.heap = h)
    (hf : rm.frames + 1 ≤ R.frames) (hl : W + (maxL + 11) + rm.locals ≤ R.locals) (hc : cells + rm.cells ≤ R.cells) (hs : slots + rm.slots ≤ R.slots)
    (hg : g.method = m) (hsize : g.locals.size = c.maxLocals) (hlen : ∀ sig, parseMethodDescriptor y.desc = some sig → argsL.length = sig.parameters.length) (hstack : g.stack = argsL.reverse ++ .ref a :: rest)
    (hW : 2 * g.monitorRoom + (rest.map fun v => v.category).sum ≤ W) (hd : decode c.code g.pc = .ok (.invokevirtual idx, 3))
    (K : ∀ v T' h' L, Stand p l e R s m args below meth c T' (locs ++ L) (cells + rm.cells) (slots + rm.slots) → T'.heap = h' → Q' v h' L → OwnWk p e below P (T'.setTop { g with pc := g.pc + 3, stack := v.toList ++ rest })) :
    OwnWk p e below P (T.setTop g) := by
  obtain ⟨cq, q, q'⟩ := E.cell
  obtain ⟨v, vm₁, ⟨T', L', k', n'⟩, -, X', ⟨L, hQ, e1, e2, e3⟩, st⟩ := X.privateBack hx hown (mvT hZ w1) (mvT hZ w2) (mvT hZ w5) (Cond.privateMethod_at (mvP hZ w6 (args := #[]))) (mvT hZ w4) hy (hM.back hZ w4 w3 hf hl) hg hsize (Steps.refl _) (by rw [eT]; exact q) q' hlen hstack hW hd (fun _ _ => ⟨rfl, eT, hc, hs⟩)
  dsimp only [Pt.U, Pt.locs, Pt.cells, Pt.slots] at X' e1 e2 e3 st hQ
  subst e1 e2 e3
  exact own_go (fun t q => st.trans q) (K v T' _ L X' rfl hQ)
/-! arrays by their lists -/
variable {vs : List Value} {ty : FieldType} {j : Int32} {v : Value}
theorem own_in (c : Cell) (e : c.slots = vs.toArray) (h0 : ¬ j < 0) (hj : j.toNatClampNeg < vs.length) : ¬ (j < 0 ∨ c.slots.size ≤ j.toNatClampNeg) := by
  rw [e]; simp only [List.size_toArray]
  rintro (q | q)
  · exact h0 q
  · omega
theorem own_len (X : Stand p l e R s m args below meth c T locs cells slots) (hx : p.tables.exec = Jvm.exec) (hZ : Z.Warmed39 s.vm) (eT : T.heap = h) (A : OAr Z h a ty vs) (hg : g.method = m) (hs : g.stack = .ref a :: rest) (hd : decode c.code g.pc = .ok (.arraylength, 1)) {N : Int32} (hN : vs.length.toInt32 = N)
    (K : OwnWk p e below P (T.setTop { g with pc := g.pc + 1, stack := .int N :: rest })) : OwnWk p e below P (T.setTop g) := by
  obtain ⟨cl, A, ec⟩ := A
  refine own_go (fun t q => X.arraylength hx (by rw [eT]; exact A.1) (State.isArrayOf_alike hZ.alike A.2.1) hg hs hd _ q) ?_
  rw [ec, List.size_toArray, hN]; exact K
theorem own_ldI (X : Stand p l e R s m args below meth c T locs cells slots) (hx : p.tables.exec = Jvm.exec) (hZ : Z.Warmed39 s.vm) (eT : T.heap = h) (A : OAr Z h a .int vs) (hg : g.method = m) (hs : g.stack = .int j :: .ref a :: rest) (hd : decode c.code g.pc = .ok (.iaload, 1)) (h0 : ¬ j < 0) (hj : vs[j.toNatClampNeg]? = some v)
    (K : OwnWk p e below P (T.setTop { g with pc := g.pc + 1, stack := v :: rest })) : OwnWk p e below P (T.setTop g) := by
  obtain ⟨cl, A, ec⟩ := A
  exact own_go (fun t q => X.iaload hx (by rw [eT]; exact A.1) (State.isArrayOf_alike hZ.alike A.2.1) A.2.2 (own_in cl ec h0 (List.getElem?_eq_some_iff.mp hj).1) (by rw [ec]; simpa using hj) hg hs hd _ q) K
theorem own_ldJ (X : Stand p l e R s m args below meth c T locs cells slots) (hx : p.tables.exec = Jvm.exec) (hZ : Z.Warmed39 s.vm) (eT : T.heap = h) (A : OAr Z h a .long vs) (hg : g.method = m) (hs : g.stack = .int j :: .ref a :: rest) (hd : decode c.code g.pc = .ok (.laload, 1)) (h0 : ¬ j < 0) (hj : vs[j.toNatClampNeg]? = some v)
    (K : OwnWk p e below P (T.setTop { g with pc := g.pc + 1, stack := v :: rest })) : OwnWk p e below P (T.setTop g) := by
  obtain ⟨cl, A, ec⟩ := A
  exact own_go (fun t q => X.laload hx (by rw [eT]; exact A.1) (State.isArrayOf_alike hZ.alike A.2.1) A.2.2 (own_in cl ec h0 (List.getElem?_eq_some_iff.mp hj).1) (by rw [ec]; simpa using hj) hg hs hd _ q) K
theorem own_ldA (X : Stand p l e R s m args below meth c T locs cells slots) (hx : p.tables.exec = Jvm.exec) (hZ : Z.Warmed39 s.vm) (eT : T.heap = h) (A : OAr Z h a ty vs) (hty : ty.isReference = true) (hg : g.method = m) (hs : g.stack = .int j :: .ref a :: rest) (hd : decode c.code g.pc = .ok (.aaload, 1)) (h0 : ¬ j < 0) (hj : vs[j.toNatClampNeg]? = some v)
    (K : OwnWk p e below P (T.setTop { g with pc := g.pc + 1, stack := v :: rest })) : OwnWk p e below P (T.setTop g) := by
  obtain ⟨cl, A, ec⟩ := A
  exact own_go (fun t q => X.aaload hx (by rw [eT]; exact A.1) (State.isArrayOf_alike hZ.alike A.2.1) hty A.2.2 (own_in cl ec h0 (List.getElem?_eq_some_iff.mp hj).1) (by rw [ec]; simpa using hj) hg hs hd _ q) K
theorem own_stI (X : Stand p l e R s m args below meth c T locs cells slots) (hx : p.tables.exec = Jvm.exec) (hZ : Z.Warmed39 s.vm) (eT : T.heap = h) (A : OAr Z h a .int vs) {x : Int32} (hg : g.method = m) (hs : g.stack = .int x :: .int j :: .ref a :: rest) (hd : decode c.code g.pc = .ok (.iastore, 1)) (h0 : ¬ j < 0) (hj : j.toNatClampNeg < vs.length)
    (K : ∀ T' h', Stand p l e R s m args below meth c T' (locs ++ [⟨a, j.toNatClampNeg⟩]) cells slots → T'.heap = h' → Wr h h' a j.toNatClampNeg (.int x) → OAr Z h' a .int (vs.set j.toNatClampNeg (.int x)) → OwnWk p e below P (T'.setTop { g with pc := g.pc + 1, stack := rest })) : OwnWk p e below P (T.setTop g) := by
  obtain ⟨cl, A', ec⟩ := A
  obtain ⟨T', h', X', e', W', st⟩ := stI X hx hZ eT A' (j := j) (own_in cl ec h0 hj) hg hs hd
  exact own_go st (K T' h' X' e' W' (OAr.set ⟨cl, A', ec⟩ W'))
theorem own_stJ (X : Stand p l e R s m args below meth c T locs cells slots) (hx : p.tables.exec = Jvm.exec) (hZ : Z.Warmed39 s.vm) (eT : T.heap = h) (A : OAr Z h a .long vs) {x : Int64} (hg : g.method = m) (hs : g.stack = .long x :: .int j :: .ref a :: rest) (hd : decode c.code g.pc = .ok (.lastore, 1)) (h0 : ¬ j < 0) (hj : j.toNatClampNeg < vs.length)
    (K : ∀ T' h', Stand p l e R s m args below meth c T' (locs ++ [⟨a, j.toNatClampNeg⟩]) cells slots → T'.heap = h' → Wr h h' a j.toNatClampNeg (.long x) → OAr Z h' a .long (vs.set j.toNatClampNeg (.long x)) → OwnWk p e below P (T'.setTop { g with pc := g.pc + 1, stack := rest })) : OwnWk p e below P (T.setTop g) := by
  obtain ⟨cl, A', ec⟩ := A
  obtain ⟨T', h', X', e', W', st⟩ := stJ X hx hZ eT A' (j := j) (own_in cl ec h0 hj) hg hs hd
  exact own_go st (K T' h' X' e' W' (OAr.set ⟨cl, A', ec⟩ W'))
theorem own_newP {aty : ArrayType} (X : Stand p l e R s m args below meth c T locs cells slots) (hx : p.tables.exec = Jvm.exec) (hZ : Z.Warmed39 s.vm) (w : (Jvm.Cond.arrayClass (newarray.typeOf aty)).before a0 Z = true) (eT : T.heap = h) (hg : g.method = m) (hd : decode c.code g.pc = .ok (.newarray aty, 2)) {N : Int32} (hs : g.stack = .int N :: rest)
    (hn : ¬ N < 0) {cap : Nat} (hcap : N.toNatClampNeg ≤ cap) (hb : cap * 8 ≤ 536870912) (hc : cells + 1 ≤ R.cells) (hl : slots + cap ≤ R.slots)
    (K : ∀ T' h' b, Stand p l e R s m args below meth c T' locs (cells + 1) (slots + cap) → T'.heap = h' → b = h.size → Ext h h' → OAr Z h' b (newarray.typeOf aty) (List.replicate N.toNatClampNeg (defaultValue (newarray.typeOf aty))) → OwnWk p e below P (T'.setTop { g with pc := g.pc + 2, stack := .ref b :: rest })) : OwnWk p e below P (T.setTop g) := by
  obtain ⟨T', h', cA, X', e', E', A', st⟩ := newP X hx hZ w eT hg hd hs hn hcap hb hc hl
  exact own_go st (K T' h' _ X' e' rfl E' ⟨_, A', by simp [newA]⟩)
theorem own_newPE {aty : ArrayType} {ad : String} (X : Stand p l e R s m args below meth c T locs cells slots) (hx : p.tables.exec = Jvm.exec) (hZ : Z.Warmed39 s.vm) (w : (Jvm.Cond.arrayClass (newarray.typeOf aty)).before a0 Z = true) (eT : T.heap = h) (hg : g.method = m) (hd : decode c.code g.pc = .ok (.newarray aty, 2)) {N : Int32} (hs : g.stack = .int N :: rest)
    (hn : ¬ N < 0) {cap : Nat} (hcap : N.toNatClampNeg ≤ cap) (hb : cap * 8 ≤ 536870912) (hc : cells + 1 ≤ R.cells) (hl : slots + cap ≤ R.slots) (had : "[" ++ (newarray.typeOf aty).toString = ad)
    (K : ∀ T' h' b, Stand p l e R s m args below meth c T' locs (cells + 1) (slots + cap) → T'.heap = h' → b = h.size → Ext h h' → OAr Z h' b (newarray.typeOf aty) (List.replicate N.toNatClampNeg (defaultValue (newarray.typeOf aty))) → Exa Z h' b ad → OwnWk p e below P (T'.setTop { g with pc := g.pc + 2, stack := .ref b :: rest })) : OwnWk p e below P (T.setTop g) := by
  obtain ⟨T', h', cA, X', e', E', A', Ex, st⟩ := newPE X hx hZ w eT hg hd hs hn hcap hb hc hl had
  exact own_go st (K T' h' _ X' e' rfl E' ⟨_, A', by simp [newA]⟩ Ex)
theorem own_clone {ad : String} (X : Stand p l e R s m args below meth c T locs cells slots) (hx : p.tables.exec = Jvm.exec) (hZ : Z.Warmed39 s.vm) (hown : s.vm.findClass own = some m.cls)
    (w1 : (Jvm.Cond.methodLink own idx ⟨ad, "clone", "()Ljava/lang/Object;"⟩).before a0 Z = true) (w2 : (Jvm.Cond.sameMethod ad "java/lang/Object" "clone" "()Ljava/lang/Object;").before a0 Z = true) (w3 : (Jvm.Cond.native ⟨"java/lang/Object", "clone", "()Ljava/lang/Object;"⟩).before a0 Z = true)
    (w4 : (Jvm.Cond.instanceMethod ⟨"java/lang/Object", "clone", "()Ljava/lang/Object;"⟩).before a0 Z = true) (w5 : (Jvm.Cond.selects ad ⟨ad, "clone", "()Ljava/lang/Object;"⟩ ⟨"java/lang/Object", "clone", "()Ljava/lang/Object;"⟩).before a0 Z = true) (w6 : (Jvm.Cond.castable ad "java/lang/Cloneable").before a0 Z = true)
    (eT : T.heap = h) (A : OAr Z h a ty vs) (E : Exa Z h a ad) (F : ∀ v ∈ vs, fits ty v = true) (hg : g.method = m) (hsize : g.locals.size = c.maxLocals) (hs : g.stack = .ref a :: rest) (hd : decode c.code g.pc = .ok (.invokevirtual idx, 3))
    (hf : 1 ≤ R.frames) {cap : Nat} (hW : 2 * g.monitorRoom + (rest.map fun v => v.category).sum ≤ W) (hl : W + 14 ≤ R.locals) (hcap : vs.length ≤ cap) (hc : cells + 1 ≤ R.cells) (hsl : slots + cap ≤ R.slots)
    (K : ∀ T' h' b, Stand p l e R s m args below meth c T' locs (cells + 1) (slots + cap) → T'.heap = h' → b = h.size → Ext h h' → OAr Z h' b ty vs → Exa Z h' b ad → OwnWk p e below P (T'.setTop { g with pc := g.pc + 3, stack := .ref b :: rest })) : OwnWk p e below P (T.setTop g) := by
  obtain ⟨cl, A, ec⟩ := A
  have FC : FitC Z cl := fitC_of A fun i hi v hv => by
    rw [ec] at hv
    exact F v (List.mem_of_getElem? (by simpa using hv))
  obtain ⟨T', h', X', e', E', A', Ex, st⟩ := cloneA X hx hZ hown w1 w2 w3 w4 w5 w6 eT A E FC hg hsize hs hd hf hW hl (by rw [ec]; simpa using hcap) hc hsl
  exact own_go st (K T' h' _ X' e' rfl E' ⟨_, A', ec⟩ Ex)
end Own
/-! comparisons of longs -/
theorem own_tri (x y : Int64) : x < y ∨ x = y ∨ y < x := by
  rcases Int.lt_trichotomy x.toInt y.toInt with h | h | h
  · exact Or.inl (Int64.lt_iff_toInt_lt.mpr h)
  · exact Or.inr (Or.inl (Int64.toInt_inj.mp h))
  · exact Or.inr (Or.inr (Int64.lt_iff_toInt_lt.mpr h))
theorem own_lc_lt {x y : Int64} : (lcmpW x y < 0) ↔ x < y := by
  unfold lcmpW
  rcases own_tri x y with h | h | h
  · have h1 : ¬ x > y := Int64.lt_asymm h
    have h2 : ¬ x = y := Int64.ne_of_lt h
    simp [h1, h2, h]
  · subst h; simp
  · have h1 : ¬ x < y := Int64.lt_asymm h
    simp [h, h1]
theorem own_lc_gt {x y : Int64} : (0 < lcmpW x y) ↔ y < x := by
  unfold lcmpW
  rcases own_tri x y with h | h | h
  · have h1 : ¬ x > y := Int64.lt_asymm h
    have h2 : ¬ x = y := Int64.ne_of_lt h
    have h3 : ¬ y < x := h1
    simp [h1, h2, h3]
  · subst h; simp
  · simp [h]
theorem own_lc_eq {x y : Int64} : (lcmpW x y = 0) ↔ x = y := by
  unfold lcmpW
  rcases own_tri x y with h | h | h
  · have h1 : ¬ x > y := Int64.lt_asymm h
    have h2 : ¬ x = y := Int64.ne_of_lt h
    simp [h1, h2]
  · subst h; simp
  · have h2 : ¬ x = y := (Int64.ne_of_lt h).symm
    simp [h, h2]
theorem wq {a0 : Array Value} {Z : State} (hw : ∀ d ∈ tables_1, d.before a0 Z = true) (i : Nat) {d : Jvm.Cond} (h : tables_1[i]? = some d) : d.before a0 Z = true := hw d (List.mem_of_getElem? h)
theorem own_gF {p : Program} {l : Launch} {e : Env} {R : Room} {s : State} {m : MethodId} {args : Array Value} {below : List Frame} {meth : Method} {c : Code} {T : State} {locs : List Loc} {cells slots : Nat} {P : Option Value → State → List Loc → Prop} {Z : State} {a0 : Array Value} {h : Heap} {g : JFrame} {rest : List Value} {own R0 O n d : String} {idx : Nat} {a : Addr} {v : Value}
    (X : Stand p l e R s m args below meth c T locs cells slots) (hx : p.tables.exec = Jvm.exec) (hZ : Z.Warmed39 s.vm) (hown : s.vm.findClass own = some m.cls) (w : (Jvm.Cond.fieldLink own idx R0 n d).before a0 Z = true) (via : Via Z R0 O n d) (eT : T.heap = h) (F : Fld Z h a O n d v) (hg : g.method = m) (hs : g.stack = .ref a :: rest) (hd : decode c.code g.pc = .ok (.getfield idx, 3))
    (K : ∀ T', Stand p l e R s m args below meth c T' locs cells slots → T'.heap = h → OwnWk p e below P (T'.setTop { g with pc := g.pc + 3, stack := v :: rest })) : OwnWk p e below P (T.setTop g) := by
  obtain ⟨T', X', e', st⟩ := getF X hx hZ hown (host := "") (Or.inl w) via eT F hg hs hd
  exact own_go st (K T' X' e')
abbrev vI (n : Int32) : Slot := .val (.int n)
abbrev vJ (n : Int64) : Slot := .val (.long n)
abbrev vR (a : Addr) : Slot := .val (.ref a)
abbrev vD (u : UInt64) : Slot := .val (.double u)
abbrev uX : Slot := .unset
abbrev sX : Slot := .second
theorem own_nl {a b n : Nat} (h : a < n) (g : n ≤ b) : a ≠ b := Nat.ne_of_lt (Nat.lt_of_lt_of_le h g)
abbrev yN1 : MethodName := (⟨"com/example/encircle/encircle/layout/ZoneKeysFirstPinLaw", "bits", "(I)Ljava/util/BitSet;"⟩ : MethodName)
abbrev yN2 : MethodName := (⟨"java/util/BitSet", "<init>", "()V"⟩ : MethodName)
abbrev yN3 : MethodName := (⟨"java/lang/Object", "<init>", "()V"⟩ : MethodName)
abbrev yN4 : MethodName := (⟨"java/util/BitSet", "initWords", "(I)V"⟩ : MethodName)
abbrev yN5 : MethodName := (⟨"java/util/BitSet", "wordIndex", "(I)I"⟩ : MethodName)
abbrev yN6 : MethodName := (⟨"java/util/ArrayList", "<init>", "()V"⟩ : MethodName)
abbrev yN7 : MethodName := (⟨"java/util/AbstractList", "<init>", "()V"⟩ : MethodName)
abbrev yN8 : MethodName := (⟨"java/util/AbstractCollection", "<init>", "()V"⟩ : MethodName)
abbrev yN9 : MethodName := (⟨"java/util/ArrayList", "add", "(Ljava/lang/Object;)Z"⟩ : MethodName)
abbrev yN10 : MethodName := (⟨"java/util/ArrayList", "add", "(Ljava/lang/Object;[Ljava/lang/Object;I)V"⟩ : MethodName)
abbrev yN11 : MethodName := (⟨"java/util/ArrayList", "grow", "()[Ljava/lang/Object;"⟩ : MethodName)
abbrev yN12 : MethodName := (⟨"java/util/ArrayList", "grow", "(I)[Ljava/lang/Object;"⟩ : MethodName)
abbrev yN13 : MethodName := (⟨"java/lang/Math", "max", "(II)I"⟩ : MethodName)
abbrev yN14 : MethodName := (⟨"com/example/encircle/encircle/layout/ZoneKeys", "<init>", "(ILjava/util/List;)V"⟩ : MethodName)
abbrev yN15 : MethodName := (⟨"java/util/ArrayList", "size", "()I"⟩ : MethodName)
abbrev yN16 : MethodName := (⟨"java/util/ArrayList", "get", "(I)Ljava/lang/Object;"⟩ : MethodName)
abbrev yN17 : MethodName := (⟨"java/util/Objects", "checkIndex", "(II)I"⟩ : MethodName)
abbrev yN18 : MethodName := (⟨"jdk/internal/util/Preconditions", "checkIndex", "(IILjava/util/function/BiFunction;)I"⟩ : MethodName)
abbrev yN19 : MethodName := (⟨"java/util/ArrayList", "elementData", "(I)Ljava/lang/Object;"⟩ : MethodName)
abbrev yN20 : MethodName := (⟨"java/util/BitSet", "nextSetBit", "(I)I"⟩ : MethodName)
abbrev yN21 : MethodName := (⟨"java/util/BitSet", "checkInvariants", "()V"⟩ : MethodName)
abbrev yN22 : MethodName := (⟨"java/util/BitSet", "cardinality", "()I"⟩ : MethodName)
abbrev yN23 : MethodName := (⟨"java/lang/Integer", "highestOneBit", "(I)I"⟩ : MethodName)
abbrev yN24 : MethodName := (⟨"java/lang/Integer", "numberOfLeadingZeros", "(I)I"⟩ : MethodName)
abbrev yN25 : MethodName := (⟨"java/util/Arrays", "fill", "([II)V"⟩ : MethodName)
abbrev yN26 : MethodName := (⟨"com/example/encircle/encircle/layout/ZoneKeys", "slot", "(J)I"⟩ : MethodName)
abbrev yN27 : MethodName := (⟨"com/example/encircle/encircle/layout/ZoneKeys", "key", "(I)J"⟩ : MethodName)
abbrev yN28 : MethodName := (⟨"com/example/encircle/encircle/layout/ZoneKeysFirstPinLaw", "sumOf", "(IJJJJ)J"⟩ : MethodName)
abbrev yN29 : MethodName := (⟨"com/example/encircle/encircle/layout/ZoneKeys", "first", "(J)I"⟩ : MethodName)
abbrev yN30 : MethodName := (⟨"java/util/BitSet", "set", "(I)V"⟩ : MethodName)
abbrev yN31 : MethodName := (⟨"java/util/BitSet", "expandTo", "(I)V"⟩ : MethodName)
abbrev yN32 : MethodName := (⟨"java/util/BitSet", "ensureCapacity", "(I)V"⟩ : MethodName)
abbrev yN33 : MethodName := (⟨"java/lang/Long", "numberOfTrailingZeros", "(J)I"⟩ : MethodName)
abbrev yN34 : MethodName := (⟨"java/lang/Integer", "numberOfTrailingZeros", "(I)I"⟩ : MethodName)
abbrev yN35 : MethodName := (⟨"java/lang/Long", "bitCount", "(J)I"⟩ : MethodName)
def own_max (u r : Int32) : Int32 := if u < r then r else u
/-! own: arrays of references -/
def OOv (Z : State) (h : Heap) (a : Addr) (C : String) : Prop := ∃ c : Cell, h[a]? = some c ∧ Ovr Z c.cls C
theorem OOv.ext {Z : State} {h h' : Heap} {a : Addr} {C : String} (E : Ext h h') (A : OOv Z h a C) : OOv Z h' a C := by
  obtain ⟨c, h1, h2⟩ := A; exact ⟨c, E.2 _ _ h1, h2⟩
theorem OOv.wr {Z : State} {h h' : Heap} {a b : Addr} {C : String} {sl : Nat} {v : Value} (W : Wr h h' a sl v) (A : OOv Z h b C) : OOv Z h' b C := by
  obtain ⟨c, h1, h2⟩ := A
  obtain ⟨c', e1, e2, -⟩ := wr_at W h1
  exact ⟨c', e1, by rw [e2]; exact h2⟩
theorem OOv.keep {Z : State} {h h' : Heap} {a : Addr} {C : String} {ws : List Addr} (A : OOv Z h a C) (K : Keep h h' ws) : OOv Z h' a C := by
  obtain ⟨c, h1, h2⟩ := A
  obtain ⟨c', q, r1, -⟩ := K.2.2 a c h1
  exact ⟨c', q, by rw [r1]; exact h2⟩
section OwnRef
variable {p : Program} {l : Launch} {e : Env} {R : Room} {s : State} {m : MethodId} {args : Array Value} {below : List Frame} {meth : Method} {c : Code} {T : State} {locs : List Loc} {cells slots : Nat}
  {P : Option Value → State → List Loc → Prop} {Z : State} {a0 : Array Value} {h : Heap} {g : JFrame} {rest : List Value} {own C : String} {idx : Nat} {a y : Addr} {vs : List Value} {j : Int32}
theorem own_stR (X : Stand p l e R s m args below meth c T locs cells slots) (hx : p.tables.exec = Jvm.exec) (hZ : Z.Warmed39 s.vm) (eT : T.heap = h) (A : OAr Z h a (.object C) vs) (O : OOv Z h a C) (I : Ins Z h y C true) (hg : g.method = m) (hs : g.stack = .ref y :: .int j :: .ref a :: rest) (hd : decode c.code g.pc = .ok (.aastore, 1)) (h0 : ¬ j < 0) (hj : j.toNatClampNeg < vs.length)
    (K : ∀ T' h', Stand p l e R s m args below meth c T' (locs ++ [⟨a, j.toNatClampNeg⟩]) cells slots → T'.heap = h' → Wr h h' a j.toNatClampNeg (.ref y) → OAr Z h' a (.object C) (vs.set j.toNatClampNeg (.ref y)) → OwnWk p e below P (T'.setTop { g with pc := g.pc + 1, stack := rest })) : OwnWk p e below P (T.setTop g) := by
  obtain ⟨cl, A', ec⟩ := A
  obtain ⟨c2, h1, h2⟩ := O
  cases A'.1.symm.trans h1
  obtain ⟨T', h', X', e', W', st⟩ := stR X hx hZ eT A' (j := j) (own_in cl ec h0 hj) rfl (Sto.ofV A' rfl h2 I) hg hs hd
  exact own_go st (K T' h' X' e' W' (OAr.set ⟨cl, A', ec⟩ W'))
theorem own_newR {ad : String} (X : Stand p l e R s m args below meth c T locs cells slots) (hx : p.tables.exec = Jvm.exec) (hZ : Z.Warmed39 s.vm) (hown : s.vm.findClass own = some m.cls) (w1 : (Jvm.Cond.classLink own idx C).before a0 Z = true) (w2 : (Jvm.Cond.arrayOver (.object C)).before a0 Z = true) (eT : T.heap = h) (hg : g.method = m) (hd : decode c.code g.pc = .ok (.anewarray idx, 3)) {N : Int32} (hs : g.stack = .int N :: rest)
    (hn : ¬ N < 0) {cap : Nat} (hcap : N.toNatClampNeg ≤ cap) (hb : cap * 8 ≤ 536870912) (hc : cells + 1 ≤ R.cells) (hl : slots + cap ≤ R.slots) (had : "[" ++ (FieldType.object C).toString = ad)
    (K : ∀ T' h' b, Stand p l e R s m args below meth c T' locs (cells + 1) (slots + cap) → T'.heap = h' → b = h.size → Ext h h' → OAr Z h' b (.object C) (List.replicate N.toNatClampNeg .null) → Exa Z h' b ad → OOv Z h' b C → OwnWk p e below P (T'.setTop { g with pc := g.pc + 3, stack := .ref b :: rest })) : OwnWk p e below P (T.setTop g) := by
  obtain ⟨T', h', cA, X', e', E', A', Ex, Ov, st⟩ := newRE X hx hZ hown w1 w2 eT hg hd hs hn hcap hb hc hl had
  exact own_go st (K T' h' _ X' e' rfl E' ⟨_, A', by simp [newA, defaultValue]⟩ Ex ⟨_, A'.1, Ov⟩)
end OwnRef
/-! own: one place of an old array -/
def OEl (Z : State) (h : Heap) (a : Addr) (ty : FieldType) (i : Nat) (v : Value) : Prop := ∃ c : Cell, Arr Z h a c ty ∧ c.slots[i]? = some v
theorem OEl.ext {Z : State} {h h' : Heap} {a : Addr} {ty : FieldType} {i : Nat} {v : Value} (E : Ext h h') (A : OEl Z h a ty i v) : OEl Z h' a ty i v := by
  obtain ⟨c, A, e⟩ := A; exact ⟨c, A.ext E, e⟩
theorem own_ldEl {p : Program} {l : Launch} {e : Env} {R : Room} {s : State} {m : MethodId} {args : Array Value} {below : List Frame} {meth : Method} {c : Code} {T : State} {locs : List Loc} {cells slots : Nat} {P : Option Value → State → List Loc → Prop} {Z : State} {h : Heap} {g : JFrame} {rest : List Value} {a : Addr} {j : Int32} {ty : FieldType} {v : Value} {i : Nat}
    (X : Stand p l e R s m args below meth c T locs cells slots) (hx : p.tables.exec = Jvm.exec) (hZ : Z.Warmed39 s.vm) (eT : T.heap = h) (A : OEl Z h a ty i v) (hty : ty.isReference = true) (hg : g.method = m) (hs : g.stack = .int j :: .ref a :: rest) (hd : decode c.code g.pc = .ok (.aaload, 1)) (h0 : ¬ j < 0) (hj : j.toNatClampNeg = i)
    (K : OwnWk p e below P (T.setTop { g with pc := g.pc + 1, stack := v :: rest })) : OwnWk p e below P (T.setTop g) := by
  obtain ⟨cl, A, ec⟩ := A
  subst hj
  have hlt := (Array.getElem?_eq_some_iff.mp ec).1
  exact own_go (fun t q => X.aaload hx (by rw [eT]; exact A.1) (State.isArrayOf_alike hZ.alike A.2.1) hty A.2.2 (fun q => by rcases q with q | q; exact h0 q; omega) ec hg hs hd _ q) K
theorem own_n_int {i : Nat} (h : i < 2 ^ 31) : (Int32.ofNat i).toInt = (i : Int) := by
  rw [Int32.toInt_ofNat']
  simp only [Int32.size, Int.bmod]
  omega
theorem own_n_nat {i : Nat} (h : i < 2 ^ 31) : (Int32.ofNat i).toNatClampNeg = i := by
  simp only [Int32.toNatClampNeg, own_n_int h]; omega
theorem own_n_nn {i : Nat} (h : i < 2 ^ 31) : ¬ Int32.ofNat i < 0 := by
  rw [Int32.lt_iff_toInt_lt, own_n_int h]; have : (0 : Int32).toInt = 0 := rfl
  omega
theorem own_n_lt {i j : Nat} (hi : i < 2 ^ 31) (hj : j < 2 ^ 31) : Int32.ofNat i < Int32.ofNat j ↔ i < j := by
  rw [Int32.lt_iff_toInt_lt, own_n_int hi, own_n_int hj]; omega
theorem own_n_succ {i : Nat} : Int32.ofNat i + (1 : Int32) = Int32.ofNat (i + 1) := by
  rw [Int32.ofNat_add]; rfl
theorem own_n_len (xs : List Int32) : (xs.map Value.int).length.toInt32 = Int32.ofNat xs.length := by rw [List.length_map]
theorem own_n_at {xs : List Int32} {i : Nat} {x : Int32} (h : i < 2 ^ 31) (hx : xs[i]? = some x) : (xs.map Value.int)[(Int32.ofNat i).toNatClampNeg]? = some (.int x) := by
  rw [own_n_nat h, List.getElem?_map, hx]; rfl
theorem own_drop {α : Type} {xs : List α} {i : Nat} {x : α} (h : xs[i]? = some x) : xs.drop i = x :: xs.drop (i + 1) := by
  obtain ⟨hi, rfl⟩ := List.getElem?_eq_some_iff.mp h
  exact List.drop_eq_getElem_cons hi
theorem own_get {α : Type} {xs : List α} {i : Nat} (h : i < xs.length) : ∃ x, xs[i]? = some x := ⟨xs[i], List.getElem?_eq_getElem h⟩
def own_iv (ns : List Nat) : List Value := ns.map fun n => .int (Int32.ofNat n)
theorem own_getD {α : Type} {xs : List α} {i : Nat} {d : α} (h : i < xs.length) : xs[i]? = some (xs.getD i d) := by
  rw [List.getD_eq_getElem?_getD, List.getElem?_eq_getElem h]; rfl
theorem own_and_nat (u : Int32) (k : Nat) (hk : k < 2 ^ 31) : ∃ n, n ≤ k ∧ (u &&& Int32.ofNat k) = Int32.ofNat n := by
  obtain ⟨n, hn⟩ : ∃ n, n = (u &&& Int32.ofNat k).toBitVec.toNat := ⟨_, rfl⟩
  have h0 : n ≤ k := by
    rw [hn, Int32.toBitVec_and, BitVec.toNat_and]
    refine Nat.le_trans Nat.and_le_right ?_
    show (BitVec.ofNat 32 k).toNat ≤ k
    simp; omega
  refine ⟨n, h0, ?_⟩
  apply Int32.toBitVec_inj.mp; apply BitVec.eq_of_toNat_eq; rw [← hn]
  show n = (BitVec.ofNat 32 n).toNat
  simp; omega
theorem own_rem_nat {n k : Nat} (hn : n < 2 ^ 31) (hk : 0 < k) (hk2 : k < 2 ^ 31) : Int32.ofNat n % Int32.ofNat k = Int32.ofNat (n % k) := by
  apply Int32.toInt_inj.mp
  have := Nat.mod_lt n hk
  rw [Int32.toInt_mod, own_n_int hn, own_n_int hk2, own_n_int (by omega), Int.tmod_eq_emod_of_nonneg (by omega)]
  norm_cast
theorem own_draw (u : Int32) (k m : Nat) (hk : k < 2 ^ 31) (hm : 0 < m) (hm2 : m < 2 ^ 31) : ∃ n, n < m ∧ (u &&& Int32.ofNat k) % Int32.ofNat m = Int32.ofNat n := by
  obtain ⟨n, h1, h2⟩ := own_and_nat u k hk
  exact ⟨n % m, Nat.mod_lt n hm, by rw [h2, own_rem_nat (by omega) hm hm2]⟩
theorem own_cast {Z : State} {h : Heap} {a : Addr} {ty : FieldType} {vs ws : List Value} (e : vs = ws) (V : OAr Z h a ty vs) : OAr Z h a ty ws := e ▸ V
/-! own: linear probing -/
def own_hm (S : Nat) (u : Int64) : Nat := (u.toInt32.toInt % (S : Int)).toNat
def own_st (SS : List Int64) (ZZ : List Nat) (u : Int64) (P : Nat) : Prop := ZZ.getD P 0 = 0 ∨ SS.getD P 0 = u
def own_fd (S : Nat) (SS : List Int64) (ZZ : List Nat) (u : Int64) (P : Nat) : Prop := ∃ k, k < S ∧ P = (own_hm S u + k) % S ∧ own_st SS ZZ u P ∧ ∀ j, j < k → ¬ own_st SS ZZ u ((own_hm S u + j) % S)
theorem own_hm_lt {S : Nat} (hS : 0 < S) (u : Int64) : own_hm S u < S := by
  have h1 : 0 ≤ u.toInt32.toInt % (S : Int) := Int.emod_nonneg _ (by omega)
  have h2 : u.toInt32.toInt % (S : Int) < (S : Int) := Int.emod_lt_of_pos _ (by omega)
  unfold own_hm; omega
theorem own_fd_lt {S : Nat} {SS : List Int64} {ZZ : List Nat} {u : Int64} {P : Nat} (h : own_fd S SS ZZ u P) : P < S := by
  obtain ⟨k, h1, h2, -⟩ := h; rw [h2]; exact Nat.mod_lt _ (by omega)
theorem own_fd_uniq {S : Nat} {SS : List Int64} {ZZ : List Nat} {u : Int64} {P R : Nat} (h : own_fd S SS ZZ u P) (g : own_fd S SS ZZ u R) : P = R := by
  obtain ⟨k, h1, h2, h3, h4⟩ := h
  obtain ⟨i, g1, g2, g3, g4⟩ := g
  rcases Nat.lt_trichotomy k i with q | q | q
  · exact absurd (h2 ▸ h3) (g4 k q)
  · rw [h2, g2, q]
  · exact absurd (g2 ▸ g3) (h4 i q)
theorem own_modne {S a j k : Nat} (h : j < k) (hk : k < S) (ha : a < S) : (a + j) % S ≠ (a + k) % S := by
  intro q
  rcases Nat.lt_or_ge (a + j) S with g1 | g1 <;> rcases Nat.lt_or_ge (a + k) S with g2 | g2
  · rw [Nat.mod_eq_of_lt g1, Nat.mod_eq_of_lt g2] at q; omega
  · rw [Nat.mod_eq_of_lt g1, Nat.mod_eq_sub_mod g2, Nat.mod_eq_of_lt (by omega)] at q; omega
  · omega
  · rw [Nat.mod_eq_sub_mod g1, Nat.mod_eq_sub_mod g2, Nat.mod_eq_of_lt (by omega), Nat.mod_eq_of_lt (by omega)] at q; omega
/-- the table holds, for the sum s, E s (0: none); at most c slots are taken -/
def own_inv (S c : Nat) (SS : List Int64) (ZZ : List Nat) (E : Int64 → Nat) : Prop :=
  SS.length = S ∧ ZZ.length = S ∧ (∀ p, p < S → ZZ.getD p 0 ≠ 0 → own_fd S SS ZZ (SS.getD p 0) p) ∧ (∀ s p, own_fd S SS ZZ s p → ZZ.getD p 0 = E s) ∧ S - c ≤ ZZ.count 0 ∧ ∀ p, ZZ.getD p 0 < 6
section OwnInv
variable {S c : Nat} {SS : List Int64} {ZZ : List Nat} {E : Int64 → Nat}
theorem own_inv.ls (I : own_inv S c SS ZZ E) : SS.length = S := I.1
theorem own_inv.lz (I : own_inv S c SS ZZ E) : ZZ.length = S := I.2.1
theorem own_inv.wf (I : own_inv S c SS ZZ E) : ∀ p, p < S → ZZ.getD p 0 ≠ 0 → own_fd S SS ZZ (SS.getD p 0) p := I.2.2.1
theorem own_inv.sp (I : own_inv S c SS ZZ E) : ∀ s p, own_fd S SS ZZ s p → ZZ.getD p 0 = E s := I.2.2.2.1
theorem own_inv.fr (I : own_inv S c SS ZZ E) : S - c ≤ ZZ.count 0 := I.2.2.2.2.1
theorem own_inv.sm (I : own_inv S c SS ZZ E) : ∀ p, ZZ.getD p 0 < 6 := I.2.2.2.2.2
end OwnInv
theorem own_inv_free {S c : Nat} {SS : List Int64} {ZZ : List Nat} {E : Int64 → Nat} (I : own_inv S c SS ZZ E) (h : c < S) : ∃ p, p < S ∧ ZZ.getD p 0 = 0 := by
  have h1 : 0 < ZZ.count 0 := by have := I.fr; omega
  obtain ⟨i, hi, e⟩ := List.getElem_of_mem (List.count_pos_iff.mp h1)
  exact ⟨i, by rw [← I.lz]; exact hi, by rw [List.getD_eq_getElem?_getD, List.getElem?_eq_getElem hi, e]; rfl⟩
theorem own_getset {α : Type} {l : List α} {p q : Nat} {x d : α} : (l.set p x).getD q d = if q = p ∧ p < l.length then x else l.getD q d := by
  rw [List.getD_eq_getElem?_getD, List.getD_eq_getElem?_getD, List.getElem?_set]
  by_cases h : p = q
  · subst h
    by_cases g : p < l.length
    · simp [g]
    · simp [g]
  · have : ¬ q = p := fun z => h z.symm
    simp [h, this]
theorem own_cntset {l : List Nat} {p x : Nat} : l.count 0 ≤ (l.set p x).count 0 + 1 := by
  induction l generalizing p with
  | nil => simp
  | cons a l ih =>
    cases p with
    | zero => simp only [List.set_cons_zero, List.count_cons]; split <;> split <;> omega
    | succ p => simp only [List.set_cons_succ, List.count_cons]; have := ih (p := p); omega
theorem own_ins {S c z : Nat} {SS : List Int64} {ZZ : List Nat} {E : Int64 → Nat} {v : Int64} {P : Nat} (hS : 0 < S) (I : own_inv S c SS ZZ E) (F : own_fd S SS ZZ v P) (hz : z < 5) :
    own_inv S (c + 1) (SS.set P v) (ZZ.set P (z + 1)) (fun s => if s = v then z + 1 else E s) := by
  have hP := own_fd_lt F
  have gS (q : Nat) : (SS.set P v).getD q 0 = if q = P then v else SS.getD q 0 := by rw [own_getset, I.ls]; simp [hP]
  have gZ (q : Nat) : (ZZ.set P (z + 1)).getD q 0 = if q = P then z + 1 else ZZ.getD q 0 := by rw [own_getset, I.lz]; simp [hP]
  have hv := own_hm_lt hS v
  -- what stops at another slot than P stops as before
  have same (u : Int64) (q : Nat) (h : q ≠ P) : own_st (SS.set P v) (ZZ.set P (z + 1)) u q ↔ own_st SS ZZ u q := by unfold own_st; rw [gS, gZ, if_neg h, if_neg h]
  have atP (u : Int64) : own_st (SS.set P v) (ZZ.set P (z + 1)) u P ↔ v = u := by unfold own_st; rw [gS, gZ, if_pos rfl, if_pos rfl]; constructor; (rintro (h | h); omega; exact h); exact Or.inr
  have fv : own_fd S (SS.set P v) (ZZ.set P (z + 1)) v P := by
    obtain ⟨k, h1, h2, h3, h4⟩ := F
    refine ⟨k, h1, h2, (atP v).mpr rfl, fun j hj => ?_⟩
    have : (own_hm S v + j) % S ≠ P := by rw [h2]; exact own_modne hj h1 hv
    rw [same v _ this]; exact h4 j hj
  -- an old taken slot is found as before
  have old (q : Nat) (hq : q < S) (h0 : ZZ.getD q 0 ≠ 0) (hne : q ≠ P) (hsv : SS.getD q 0 ≠ v) : own_fd S (SS.set P v) (ZZ.set P (z + 1)) (SS.getD q 0) q := by
    obtain ⟨k, h1, h2, h3, h4⟩ := I.wf q hq h0
    refine ⟨k, h1, h2, (same _ _ hne).mpr h3, fun j hj => ?_⟩
    by_cases g : (own_hm S (SS.getD q 0) + j) % S = P
    · rw [g, atP]; exact fun w => hsv w.symm
    · rw [same _ _ g]; exact h4 j hj
  -- a taken slot with v's sum is P
  have isP (q : Nat) (hq : q < S) (h0 : ZZ.getD q 0 ≠ 0) (hsv : SS.getD q 0 = v) : q = P := own_fd_uniq (hsv ▸ I.wf q hq h0) F
  refine ⟨by rw [List.length_set]; exact I.ls, by rw [List.length_set]; exact I.lz, fun q hq h0 => ?_, fun s p Fp => ?_, ?_, fun q => ?_⟩
  · by_cases hne : q = P
    · rw [gS, if_pos hne, hne]; exact fv
    · rw [gZ, if_neg hne] at h0; rw [gS, if_neg hne]
      exact old q hq h0 hne (fun w => hne (isP q hq h0 w))
  · show _ = if s = v then z + 1 else E s
    by_cases hs : s = v
    · subst hs
      rw [if_pos rfl, own_fd_uniq Fp fv, gZ, if_pos rfl]
    · rw [if_neg hs]
      have hp := own_fd_lt Fp
      obtain ⟨k, h1, h2, h3, h4⟩ := Fp
      have hne : p ≠ P := fun w => by rw [w, atP] at h3; exact hs h3.symm
      rw [same s p hne] at h3
      rw [gZ, if_neg hne]
      by_cases hfree : own_st SS ZZ s P ∧ ∃ j, j < k ∧ (own_hm S s + j) % S = P
      · -- P stood free on the road to s: then s stands nowhere
        obtain ⟨hst, j, hj, hjP⟩ := hfree
        have Fs : own_fd S SS ZZ s P := ⟨j, by omega, hjP.symm, hst, fun i hi => by
          have ne : (own_hm S s + i) % S ≠ P := by rw [← hjP]; exact own_modne hi (by omega) (own_hm_lt hS s)
          have := h4 i (by omega); rwa [same s _ ne] at this⟩
        have e0 := I.sp s P Fs
        have hP0 : ZZ.getD P 0 = 0 := by
          rcases Nat.eq_zero_or_pos (ZZ.getD P 0) with g | g
          · exact g
          · exfalso
            rcases hst with w | w
            · omega
            · -- P is taken with the sum s, and found for v: so s = v
              have Fw := I.wf P hP (by omega)
              rw [w] at Fw
              rcases F with ⟨kk, f1, f2, f3, f4⟩
              rcases f3 with w2 | w2
              · omega
              · exact hs (w.symm.trans w2)
        rw [← e0, hP0]
        rcases Nat.eq_zero_or_pos (ZZ.getD p 0) with g | g
        · exact g
        · exfalso
          rcases h3 with w | w
          · omega
          · exact hne (own_fd_uniq (w ▸ I.wf p hp (by omega)) Fs)
      · refine I.sp s p ⟨k, h1, h2, h3, fun j hj => ?_⟩
        by_cases g : (own_hm S s + j) % S = P
        · rw [g]; exact fun w => hfree ⟨w, j, hj, g⟩
        · have := h4 j hj; rwa [same s _ g] at this
  · have := own_cntset (l := ZZ) (p := P) (x := z + 1); have := I.fr; omega
  · rw [gZ]; split
    · omega
    · exact I.sm q
theorem own_inv0 {S : Nat} : own_inv S 0 (List.replicate S 0) (List.replicate S 0) (fun _ => 0) := by
  have g (p : Nat) : (List.replicate S 0).getD p 0 = 0 := by rw [List.getD_eq_getElem?_getD, List.getElem?_replicate]; split <;> rfl
  refine ⟨List.length_replicate, List.length_replicate, fun p _ h => absurd (g p) h, fun s p _ => g p, by rw [List.count_replicate]; simp, fun p => by rw [g]; decide⟩
def own_wu (M : Nat) : Int32 := if M = 0 then 0 else 1
theorem own_wu0 {M : Nat} (h : M = 0) : own_wu M = 0 := if_pos h
theorem own_wu1 {M : Nat} (h : ¬ M = 0) : own_wu M = 1 := if_neg h
def own_s0 (M : Nat) (k0 : Int64) : Int64 := if (Int32.ofNat M &&& (1 : Int32)) = (0 : Int32) then 0 else 0 ^^^ k0
def own_s1 (M : Nat) (k0 k1 : Int64) : Int64 := if (Int32.ofNat M &&& (2 : Int32)) = (0 : Int32) then own_s0 M k0 else own_s0 M k0 ^^^ k1
def own_s2 (M : Nat) (k0 k1 k2 : Int64) : Int64 := if (Int32.ofNat M &&& (4 : Int32)) = (0 : Int32) then own_s1 M k0 k1 else own_s1 M k0 k1 ^^^ k2
def own_sumM (M : Nat) (k0 k1 k2 k3 : Int64) : Int64 := if (Int32.ofNat M &&& (8 : Int32)) = (0 : Int32) then own_s2 M k0 k1 k2 else own_s2 M k0 k1 k2 ^^^ k3
theorem own_w6 : ∀ i < 5, (Int32.ofNat i) >>> ((6 : Int32) &&& 31) = (0 : Int32) := by decide +kernel
theorem own_or : ∀ i < 4, ∀ N < 2 ^ i, (Int64.ofNat N ||| ((1 : Int64) <<< ((Int32.ofNat i) &&& 0x3f).toInt64)) = Int64.ofNat (N + 2 ^ i) := by decide +kernel
theorem own_bn : ∀ M < 16, ∀ i < 4, (Int32.ofNat M &&& Int32.ofNat (2 ^ i)) = (0 : Int32) → M % 2 ^ (i + 1) = M % 2 ^ i := by decide +kernel
theorem own_by : ∀ M < 16, ∀ i < 4, ¬ (Int32.ofNat M &&& Int32.ofNat (2 ^ i)) = (0 : Int32) → M % 2 ^ (i + 1) = M % 2 ^ i + 2 ^ i := by decide +kernel
theorem own_wup {N i : Nat} : own_wu (N + 2 ^ i) = 1 := if_neg (by have := Nat.two_pow_pos i; omega)
theorem own_m1 {M : Nat} : M % 2 ^ 0 = 0 := Nat.mod_one M
def own_tz (D : Nat) : Nat := if D % 2 = 1 then 0 else if D % 4 = 2 then 1 else if D % 8 = 4 then 2 else 3
theorem own_ntJ : ∀ D < 16, 0 < D → (((Int32.ofNat D ^^^ (-1 : Int32)) &&& (Int32.ofNat D - (1 : Int32))) = (0 : Int32) ∧ own_tz D = 0) ∨ (((Int32.ofNat D ^^^ (-1 : Int32)) &&& (Int32.ofNat D - (1 : Int32))) = (1 : Int32) ∧ own_tz D = 1) ∨ (((Int32.ofNat D ^^^ (-1 : Int32)) &&& (Int32.ofNat D - (1 : Int32))) = (3 : Int32) ∧ own_tz D = 2) ∨ (((Int32.ofNat D ^^^ (-1 : Int32)) &&& (Int32.ofNat D - (1 : Int32))) = (7 : Int32) ∧ own_tz D = 3) := by decide +kernel
theorem own_lo16 : ∀ D < 16, (Int64.ofNat D).toInt32 = Int32.ofNat D := by decide +kernel
theorem own_i016 : ∀ D < 16, 0 < D → ¬ Int32.ofNat D = (0 : Int32) := by decide +kernel
theorem own_l016 : ∀ D < 16, Int64.ofNat D = (0 : Int64) → D = 0 := by decide +kernel
def own_nsb (M I : Nat) : Int32 := if M / 2 ^ I * 2 ^ I = 0 then -1 else (0 : Int32) + Int32.ofNat (own_tz (M / 2 ^ I * 2 ^ I))
theorem own_wd : ∀ M < 16, ∀ I < 5, ((Int64.ofNat M) &&& ((-1 : Int64) <<< ((Int32.ofNat I) &&& 0x3f).toInt64)) = Int64.ofNat (M / 2 ^ I * 2 ^ I) := by decide +kernel
theorem own_wd16 {M I : Nat} (h : M < 16) : M / 2 ^ I * 2 ^ I < 16 := Nat.lt_of_le_of_lt (Nat.div_mul_le_self _ _) h
theorem own_nsb0 : ∀ I < 5, own_nsb 0 I = -1 := by decide +kernel
theorem own_nsy : ∀ M < 16, ∀ j < 4, ¬ (Int32.ofNat M &&& Int32.ofNat (2 ^ j)) = (0 : Int32) → own_nsb M j = Int32.ofNat j := by decide +kernel
theorem own_nsn : ∀ M < 16, ∀ j < 4, (Int32.ofNat M &&& Int32.ofNat (2 ^ j)) = (0 : Int32) → own_nsb M j = own_nsb M (j + 1) := by decide +kernel
theorem own_ns4 : ∀ M < 16, own_nsb M 4 = -1 := by decide +kernel
theorem own_hmI {u : Int64} {k : Nat} (hk : k < 4) : u.toInt32 &&& Int32.ofNat (2 ^ k - 1) = Int32.ofNat (own_hm (2 ^ k) u) := by
  generalize ha : u.toInt32 = a
  have hm : own_hm (2 ^ k) u = (a.toInt % ((2 ^ k : Nat) : Int)).toNat := by unfold own_hm; rw [ha]
  have hp : 2 ^ k < 2 ^ 4 := Nat.pow_lt_pow_right (by decide) hk
  have e : (a &&& Int32.ofNat (2 ^ k - 1)).toBitVec.toNat = a.toBitVec.toNat % 2 ^ k := by
    show (a.toBitVec &&& BitVec.ofNat 32 (2 ^ k - 1)).toNat = _
    rw [BitVec.toNat_and, BitVec.toNat_ofNat, Nat.mod_eq_of_lt (by omega)]; exact Nat.and_two_pow_sub_one_eq_mod _ k
  have e2 : a.toInt % ((2 ^ k : Nat) : Int) = ((a.toBitVec.toNat % 2 ^ k : Nat) : Int) := by
    show a.toBitVec.toInt % _ = _
    rw [BitVec.toInt_eq_toNat_bmod, Int.bmod_def]
    rcases (by omega : k = 0 ∨ k = 1 ∨ k = 2 ∨ k = 3) with rfl | rfl | rfl | rfl <;> split <;> omega
  apply Int32.toBitVec_inj.mp; apply BitVec.eq_of_toNat_eq
  rw [e, hm, e2]
  show _ = (BitVec.ofNat 32 _).toNat
  have hb := Nat.mod_lt a.toBitVec.toNat (Nat.two_pow_pos k)
  generalize a.toBitVec.toNat % 2 ^ k = w at *
  rw [BitVec.toNat_ofNat, Int.toNat_natCast, Nat.mod_eq_of_lt (by omega)]
theorem own_nx : ∀ k < 4, ∀ P < 2 ^ k, (Int32.ofNat P + (1 : Int32)) &&& Int32.ofNat (2 ^ k - 1) = Int32.ofNat ((P + 1) % 2 ^ k) := by decide +kernel
theorem own_zz0 : ∀ n < 6, Int32.ofNat n = (0 : Int32) → n = 0 := by decide +kernel

/-- the loop of 'slot' comes to its end: not all slots are passed -/
theorem own_full {S : Nat} {SS : List Int64} {ZZ : List Nat} {u : Int64} (hS : 0 < S) (hf : ∃ p, p < S ∧ ZZ.getD p 0 = 0) (h : ∀ j, j < S → ¬ own_st SS ZZ u ((own_hm S u + j) % S)) : False := by
  obtain ⟨p, hp, h0⟩ := hf
  have hh := own_hm_lt hS u
  refine h ((p + S - own_hm S u) % S) (Nat.mod_lt _ hS) (Or.inl ?_)
  have e : (own_hm S u + (p + S - own_hm S u) % S) % S = p := by
    rw [Nat.add_mod_mod, show own_hm S u + (p + S - own_hm S u) = p + S by omega, Nat.add_mod_right, Nat.mod_eq_of_lt hp]
  rw [e]; exact h0
theorem own_step {S a j P : Nat} (h : P = (a + j) % S) : (P + 1) % S = (a + (j + 1)) % S := by
  rw [h, Nat.mod_add_mod]; rfl
theorem own_alls {Q : Nat → Prop} {j : Nat} (h : ∀ i, i < j → Q i) (hj : Q j) : ∀ i, i < j + 1 → Q i := fun i hi => by
  rcases Nat.lt_or_eq_of_le (Nat.le_of_lt_succ hi) with g | g
  · exact h i g
  · exact g ▸ hj
def own_jw (l : List Int64) : List Value := l.map Value.long
theorem own_jw_at {l : List Int64} {P : Nat} (h : P < l.length) (hp : P < 2 ^ 31) : (own_jw l)[(Int32.ofNat P).toNatClampNeg]? = some (.long (l.getD P 0)) := by
  rw [own_n_nat hp]; unfold own_jw; rw [List.getElem?_map, own_getD (d := 0) h]; rfl
theorem own_jw_in {l : List Int64} {P : Nat} (h : P < l.length) (hp : P < 2 ^ 31) : (Int32.ofNat P).toNatClampNeg < (own_jw l).length := by
  rw [own_n_nat hp]; unfold own_jw; rw [List.length_map]; exact h
theorem own_jw_set {l : List Int64} {P : Nat} {a : Int64} (hp : P < 2 ^ 31) : (own_jw l).set (Int32.ofNat P).toNatClampNeg (.long a) = own_jw (l.set P a) := by
  rw [own_n_nat hp]; unfold own_jw; rw [List.map_set]
theorem own_iw_at {l : List Nat} {P : Nat} (h : P < l.length) (hp : P < 2 ^ 31) : (own_iv l)[(Int32.ofNat P).toNatClampNeg]? = some (.int (Int32.ofNat (l.getD P 0))) := by
  rw [own_n_nat hp]; unfold own_iv; rw [List.getElem?_map, own_getD (d := 0) h]; rfl
theorem own_iw_in {l : List Nat} {P : Nat} (h : P < l.length) (hp : P < 2 ^ 31) : (Int32.ofNat P).toNatClampNeg < (own_iv l).length := by
  rw [own_n_nat hp]; unfold own_iv; rw [List.length_map]; exact h
theorem own_iw_set {l : List Nat} {P a : Nat} (hp : P < 2 ^ 31) : (own_iv l).set (Int32.ofNat P).toNatClampNeg (.int (Int32.ofNat a)) = own_iv (l.set P a) := by
  rw [own_n_nat hp]; unfold own_iv; rw [List.map_set]
theorem own_jw_len {l : List Int64} {S : Nat} (h : l.length = S) : (own_jw l).length.toInt32 = Int32.ofNat S := by
  unfold own_jw; rw [List.length_map, h]
theorem own_jz_at {l : List Int64} {P : Nat} {a : Int64} (h : P < l.length) (hp : P < 2 ^ 31) : (own_jw (l.set P a))[(Int32.ofNat P).toNatClampNeg]? = some (.long a) := by
  rw [own_jw_at (by rw [List.length_set]; exact h) hp, own_getset, if_pos ⟨rfl, h⟩]
theorem own_jz_set {l : List Int64} {P : Nat} {a b : Int64} (hp : P < 2 ^ 31) : (own_jw (l.set P a)).set (Int32.ofNat P).toNatClampNeg (.long b) = own_jw (l.set P b) := by
  rw [own_jw_set hp, List.set_set]
theorem own_jz_in {l : List Int64} {P : Nat} {a : Int64} (h : P < l.length) (hp : P < 2 ^ 31) : (Int32.ofNat P).toNatClampNeg < (own_jw (l.set P a)).length := own_jw_in (by rw [List.length_set]; exact h) hp
/-! own: the constructor's lists, for any number of zones -/
def own_f (Ms : Nat → Nat) (k0 k1 k2 k3 : Int64) (z : Nat) : Int64 := own_sumM (Ms z) k0 k1 k2 k3
def own_vs (f : Nat → Int64) (n i : Nat) : List Int64 := (List.range n).map fun j => if j < i then f j else 0
theorem own_vs_len {f : Nat → Int64} {n i : Nat} : (own_vs f n i).length = n := by unfold own_vs; rw [List.length_map, List.length_range]
theorem own_vs_get {f : Nat → Int64} {n i j : Nat} : (own_vs f n i)[j]? = if j < n then some (if j < i then f j else 0) else none := by
  unfold own_vs; rw [List.getElem?_map]
  by_cases h : j < n
  · rw [List.getElem?_range h, if_pos h]; rfl
  · rw [List.getElem?_eq_none (by rw [List.length_range]; omega), if_neg h]; rfl
theorem own_vs_at {f : Nat → Int64} {n j : Nat} (h : j < n) : (own_vs f n n).getD j 0 = f j := by
  rw [List.getD_eq_getElem?_getD, own_vs_get, if_pos h, if_pos h]; rfl
theorem own_vs_0 {f : Nat → Int64} {n : Nat} : own_vs f n 0 = List.replicate n 0 := by
  apply List.ext_getElem?; intro j
  rw [own_vs_get, List.getElem?_replicate]; simp
theorem own_vs_z {f : Nat → Int64} {n i : Nat} : own_vs f n i = (own_vs f n i).set i 0 := by
  apply List.ext_getElem?; intro j
  rw [List.getElem?_set, own_vs_len]
  by_cases h : i = j
  · subst h; rw [if_pos rfl, own_vs_get]; by_cases g : i < n
    · rw [if_pos g, if_pos g, if_neg (Nat.lt_irrefl i)]
    · rw [if_neg g, if_neg g]
  · rw [if_neg h]
theorem own_vs_s {f : Nat → Int64} {n i : Nat} : (own_vs f n i).set i (f i) = own_vs f n (i + 1) := by
  apply List.ext_getElem?; intro j
  rw [List.getElem?_set, own_vs_len, own_vs_get, own_vs_get]
  by_cases h : i = j
  · subst h; rw [if_pos rfl]; by_cases g : i < n
    · rw [if_pos g, if_pos g, if_pos (Nat.lt_succ_self i)]
    · rw [if_neg g, if_neg g]
  · rw [if_neg h]
    have : (j < i ↔ j < i + 1) := by omega
    simp only [this]
def own_Ez (f : Nat → Int64) : Nat → Nat → Int64 → Nat
  | _, 0, _ => 0
  | z, d + 1, s => if s = f z then z + 1 else own_Ez f (z + 1) d s
theorem own_Ez0 {f : Nat → Int64} {z : Nat} : own_Ez f z 0 = fun _ => 0 := rfl
theorem own_Ezs {f : Nat → Int64} {z d : Nat} : own_Ez f z (d + 1) = fun s => if s = f z then z + 1 else own_Ez f (z + 1) d s := rfl
def own_k (n : Nat) : Nat := if n ≤ 1 then 1 else if n = 2 then 2 else 3
theorem own_k4 {n : Nat} : own_k n < 4 := by unfold own_k; split <;> (try split) <;> decide
theorem own_nS : ∀ n < 5, n < 2 ^ own_k n := by decide +kernel
theorem own_S8 {n : Nat} : 2 ^ own_k n ≤ 8 := by unfold own_k; split <;> (try split) <;> decide
def own_q (n : Nat) : Nat := n * 4 - 1
theorem own_S1 : ∀ k < 4, Int32.ofNat (2 ^ k) - (1 : Int32) = Int32.ofNat (2 ^ k - 1) := by decide +kernel
theorem own_zm {z : Nat} : Int32.ofNat (z + 1) - (1 : Int32) = Int32.ofNat z := by
  rw [Int32.ofNat_add]; show Int32.ofNat z + 1 - 1 = _; rw [Int32.add_sub_cancel]
theorem own_zd {z : Nat} : Int32.ofNat z + (-1 : Int32) = Int32.ofNat z - (1 : Int32) := by rw [Int32.sub_eq_add_neg]
theorem own_zneg : Int32.ofNat 0 - (1 : Int32) < (0 : Int32) := by decide
def own_kw (l : List Int32) : List Value := l.map Value.int
theorem own_kw_in {l : List Int32} {P : Nat} (h : P < l.length) (hp : P < 2 ^ 31) : (Int32.ofNat P).toNatClampNeg < (own_kw l).length := by
  rw [own_n_nat hp]; unfold own_kw; rw [List.length_map]; exact h
theorem own_kw_set {l : List Int32} {P : Nat} {a : Int32} (hp : P < 2 ^ 31) : (own_kw l).set (Int32.ofNat P).toNatClampNeg (.int a) = own_kw (l.set P a) := by
  rw [own_n_nat hp]; unfold own_kw; rw [List.map_set]
theorem own_kw_len {l : List Int32} {S : Nat} (h : l.length = S) : (own_kw l).length.toInt32 = Int32.ofNat S := by
  unfold own_kw; rw [List.length_map, h]
theorem own_iv_len {l : List Nat} {S : Nat} (h : l.length = S) : (own_iv l).length.toInt32 = Int32.ofNat S := by
  unfold own_iv; rw [List.length_map, h]
theorem own_rpJ {n : Nat} (hn : n < 2 ^ 31) : List.replicate (Int32.ofNat n).toNatClampNeg (Value.long 0) = own_jw (List.replicate n 0) := by
  rw [own_n_nat hn]; unfold own_jw; rw [List.map_replicate]
theorem own_rpI {n : Nat} (hn : n < 2 ^ 31) : List.replicate (Int32.ofNat n).toNatClampNeg (Value.int 0) = own_iv (List.replicate n 0) := by
  rw [own_n_nat hn]; unfold own_iv; rw [List.map_replicate]; rfl
theorem own_rpK {n : Nat} (hn : n < 2 ^ 31) : List.replicate (Int32.ofNat n).toNatClampNeg (Value.int 0) = own_kw (List.replicate n 0) := by
  rw [own_n_nat hn]; unfold own_kw; rw [List.map_replicate]
theorem own_mq : ∀ n < 5, 0 < n → (own_max (1 : Int32) (Int32.ofNat n)) * (4 : Int32) - (1 : Int32) = Int32.ofNat (own_q n) := by decide +kernel
theorem own_invE {S c n d : Nat} {SS : List Int64} {ZZ : List Nat} {f : Nat → Int64} (I : own_inv S c SS ZZ (fun s => if s = f d then d + 1 else own_Ez f (d + 1) (n - (d + 1)) s)) (h : d < n) : own_inv S c SS ZZ (own_Ez f d (n - d)) := by
  have e : n - d = n - (d + 1) + 1 := by omega
  rw [e, own_Ezs]; exact I
def own_p4 {α : Type} (a b c d : α) (k : Nat) : α := match k with | 0 => a | 1 => b | 2 => c | _ => d
theorem own_a1 {Q : Nat → Prop} (h0 : Q 0) : ∀ k, k < 1 → Q k := fun k hk => by
  obtain rfl : k = 0 := by omega
  exact h0
theorem own_a2 {Q : Nat → Prop} (h0 : Q 0) (h1 : Q 1) : ∀ k, k < 2 → Q k := fun k hk => by
  rcases (by omega : k < 1 ∨ k = 1) with h | rfl
  · exact own_a1 h0 k h
  · exact h1
theorem own_a3 {Q : Nat → Prop} (h0 : Q 0) (h1 : Q 1) (h2 : Q 2) : ∀ k, k < 3 → Q k := fun k hk => by
  rcases (by omega : k < 2 ∨ k = 2) with h | rfl
  · exact own_a2 h0 h1 k h
  · exact h2
theorem own_a4 {Q : Nat → Prop} (h0 : Q 0) (h1 : Q 1) (h2 : Q 2) (h3 : Q 3) : ∀ k, k < 4 → Q k := fun k hk => by
  rcases (by omega : k < 3 ∨ k = 3) with h | rfl
  · exact own_a3 h0 h1 h2 k h
  · exact h3
/-! own: arrays of arrays, a private method's call, doubles -/
theorem own_selP {Z : State} {a0 : Array Value} {y : MethodName} {n : Nat} (w1 : (Jvm.Cond.instantiable y.cls n).before a0 Z = true) (w2 : (Jvm.Cond.privateMethod y).before a0 Z = true) (w3 : (Jvm.Cond.instanceMethod y).before a0 Z = true) (hy : y.cls ≠ "java/lang/invoke/MethodHandle" ∧ y.cls ≠ "java/lang/invoke/VarHandle") : (Jvm.Cond.selects y.cls y y).before a0 Z = true := by
  obtain ⟨c, k, h1, h2, h3, h4, -, -⟩ := Jvm.Cond.instantiable_spec w1
  exact selects_self_of_private h1 h2 (Bool.or_eq_false_iff.mp h4).1 (Jvm.Cond.privateMethod_at w2) w3 hy
theorem pn_pn_21 : plainName "java/util/BitSet" = true := by first | (simp [plainName, overriddenIn]; done) | decide +kernel
theorem pn_21 : plainFor yN21 = true := plainFor_of_name pn_pn_21
abbrev tB21 : List (Nat × Instr × Nat) := [(0, .getstatic 3, 3), (3, .ifCond .ne 34, 3), (6, .aload_n 0, 1), (7, .getfield 7, 3), (10, .ifCond .eq 27, 3), (13, .aload_n 0, 1), (14, .getfield 11, 3), (17, .aload_n 0, 1), (18, .getfield 7, 3), (21, .iconst 1, 1), (22, .isub, 1), (23, .laload, 1), (24, .lconst 0, 1), (25, .lcmp, 1), (26, .ifCond .ne 11, 3), (29, .new 15, 3), (32, .dup, 1), (33, .invokespecial 17, 3), (36, .athrow, 1), (37, .getstatic 3, 3), (40, .ifCond .ne 30, 3), (43, .aload_n 0, 1), (44, .getfield 7, 3), (47, .ifCond .lt 15, 3), (50, .aload_n 0, 1), (51, .getfield 7, 3), (54, .aload_n 0, 1), (55, .getfield 11, 3), (58, .arraylength, 1), (59, .if_icmp .le 11, 3), (62, .new 15, 3), (65, .dup, 1), (66, .invokespecial 17, 3), (69, .athrow, 1), (70, .getstatic 3, 3), (73, .ifCond .ne 37, 3), (76, .aload_n 0, 1), (77, .getfield 7, 3), (80, .aload_n 0, 1), (81, .getfield 11, 3), (84, .arraylength, 1), (85, .if_icmp .eq 25, 3), (88, .aload_n 0, 1), (89, .getfield 11, 3), (92, .aload_n 0, 1), (93, .getfield 7, 3), (96, .laload, 1), (97, .lconst 0, 1), (98, .lcmp, 1), (99, .ifCond .eq 11, 3), (102, .new 15, 3), (105, .dup, 1), (106, .invokespecial 17, 3), (109, .athrow, 1), (110, .return_, 1)]
theorem dB21 (k : Fin 55) : decode jdk_92_method_2_code (tB21.getD k (0, .nop, 1)).1 = .ok (tB21.getD k (0, .nop, 1)).2 := by revert k; decide +kernel
theorem ef_chk (m : MethodId) (x0 : Addr) : entryFrame m #[(.ref x0)] 1 = mkF m 0 #[vR x0] [] := by first | (simp [entryFrame, mkF, argsToLocals, Value.category]; done) | rfl
def Q_chk (Z : State) (dce : Addr) (bs : Addr) (h0 : Heap) (n0 : Nat) (v : Option Value) (h : Heap) (L : List Loc) : Prop := v = none ∧ Fr n0 L ∧ h = h0
set_option maxRecDepth 65536 in
set_option maxHeartbeats 40000000 in
theorem chk (l : Launch) (Z : State) (a0 : Array Value) (hw : ∀ d ∈ tables_1, d.before a0 Z = true) (dce : Addr) (bs : Addr) (h0 : Heap) (n0 : Nat) (Z0 : n0 ≤ h0.size) (O0 : Old Z n0 h0) (S_d : Sta Z Z.heap "java/util/ArrayList" "DEFAULTCAPACITY_EMPTY_ELEMENTDATA" "[Ljava/lang/Object;" (.ref dce)) (V_d : OAr Z Z.heap dce (.object "java/lang/Object") []) (S_a : Sta Z Z.heap "java/util/BitSet" "$assertionsDisabled" "Z" (.int (1 : Int32)))  :
    OwnMet l yN21 jdk_92_method_2_code 1 none [] ({ frames := 0, cells := 0, slots := 0, locals := 0 } : Room) Z #[(.ref bs)] h0 (Q_chk Z dce bs h0 n0) := by
 refine own_met pn_21 (fun p e s m below meth c s₁ hx hby hml hown hnm hret hlk hZ X0 e0 => ?_)
 have hown : s.vm.findClass "java/util/BitSet" = some m.cls := hown
 have N0 := Fr.nil n0
 rw [ef_chk]
 show OwnWk _ _ _ _ (s₁.setTop (mkF m 0 #[vR bs] []))
 obtain ⟨T1, X1, e1, st1⟩ := getS2 X0 hx hZ hown (host := "") (Or.inl (wq hw 144 rfl)) Via.refl e0 (Sta.ext O0.2 S_a) (g := (mkF m 0 #[vR bs] [])) rfl (hb hby (dB21 0))
 refine own_go st1 ?_
 show OwnWk _ _ _ _ (T1.setTop (mkF m 3 #[vR bs] [(.int (1 : Int32))]))
 refine own_go (fun tgt kst => XS.ifYes X1.here hx rfl (pc0 := 3) (pc' := 37) rfl (hb hby (dB21 1)) rfl ((if0 _ _).trans (feq (by decide : ¬ ((1 : Int32) = (0 : Int32)))).2) (by decide) (by decide) kst) ?_
 obtain ⟨T2, X2, e2, st2⟩ := getS2 X1 hx hZ hown (host := "") (Or.inl (wq hw 144 rfl)) Via.refl e1 (Sta.ext O0.2 S_a) (g := (mkF m 37 #[vR bs] [])) rfl (hb hby (dB21 19))
 refine own_go st2 ?_
 show OwnWk _ _ _ _ (T2.setTop (mkF m 40 #[vR bs] [(.int (1 : Int32))]))
 refine own_go (fun tgt kst => XS.ifYes X2.here hx rfl (pc0 := 40) (pc' := 70) rfl (hb hby (dB21 20)) rfl ((if0 _ _).trans (feq (by decide : ¬ ((1 : Int32) = (0 : Int32)))).2) (by decide) (by decide) kst) ?_
 obtain ⟨T3, X3, e3, st3⟩ := getS2 X2 hx hZ hown (host := "") (Or.inl (wq hw 144 rfl)) Via.refl e2 (Sta.ext O0.2 S_a) (g := (mkF m 70 #[vR bs] [])) rfl (hb hby (dB21 34))
 refine own_go st3 ?_
 show OwnWk _ _ _ _ (T3.setTop (mkF m 73 #[vR bs] [(.int (1 : Int32))]))
 refine own_go (fun tgt kst => XS.ifYes X3.here hx rfl (pc0 := 73) (pc' := 110) rfl (hb hby (dB21 35)) rfl ((if0 _ _).trans (feq (by decide : ¬ ((1 : Int32) = (0 : Int32)))).2) (by decide) (by decide) kst) ?_
 show OwnWk _ _ _ _ (T3.setTop (mkF m 110 #[vR bs] []))
 exact own_retV X3 hx hlk hret (hb hby (dB21 54)) (by decide) (by decide) (by rw [e3]; exact ⟨rfl, N0, rfl⟩)
theorem pn_pn_5 : plainName "java/util/BitSet" = true := by first | (simp [plainName, overriddenIn]; done) | decide +kernel
theorem pn_5 : plainFor yN5 = true := plainFor_of_name pn_pn_5
abbrev tB5 : List (Nat × Instr × Nat) := [(0, .iload_n 0, 1), (1, .bipush 6, 2), (3, .ishr, 1), (4, .ireturn, 1)]
theorem dB5 (k : Fin 4) : decode jdk_92_method_1_code (tB5.getD k (0, .nop, 1)).1 = .ok (tB5.getD k (0, .nop, 1)).2 := by revert k; decide +kernel
theorem ef_rm5 (m : MethodId) (x0 : Int32) : entryFrame m #[(.int x0)] 1 = mkF m 0 #[vI x0] [] := by first | (simp [entryFrame, mkF, argsToLocals, Value.category]; done) | rfl
def Q_rm5 (Z : State) (a : Int32) (h0 : Heap) (n0 : Nat) (v : Option Value) (h : Heap) (L : List Loc) : Prop := v = some (.int (a >>> ((6 : Int32) &&& 31))) ∧ Fr n0 L ∧ h = h0
set_option maxRecDepth 65536 in
set_option maxHeartbeats 40000000 in
theorem rm5 (l : Launch) (Z : State) (a0 : Array Value) (hw : ∀ d ∈ tables_1, d.before a0 Z = true) (a : Int32) (h0 : Heap) (n0 : Nat) (Z0 : n0 ≤ h0.size)  :
    OwnMet l yN5 jdk_92_method_1_code 1 (some .int) [] ({ frames := 0, cells := 0, slots := 0, locals := 0 } : Room) Z #[(.int a)] h0 (Q_rm5 Z a h0 n0) := by
 refine own_met pn_5 (fun p e s m below meth c s₁ hx hby hml hown hnm hret hlk hZ X0 e0 => ?_)
 have hown : s.vm.findClass "java/util/BitSet" = some m.cls := hown
 have N0 := Fr.nil n0
 rw [ef_rm5]
 show OwnWk _ _ _ _ (s₁.setTop (mkF m 0 #[vI a] []))
 refine own_go (fun tgt kst => XS.iloadN X0.here hx rfl (hb hby (dB5 0)) rfl  kst) ?_
 refine own_go (fun tgt kst => XS.bipush X0.here hx rfl (hb hby (dB5 1)) kst) ?_
 refine own_go (fun tgt kst => XS.ishr X0.here hx rfl (hb hby (dB5 2)) rfl kst) ?_
 show OwnWk _ _ _ _ (s₁.setTop (mkF m 4 #[vI a] [(.int (a >>> ((6 : Int32) &&& 31)))]))
 exact own_retI X0 hx hlk hret (hb hby (dB5 3)) (by decide) (by decide) (by rw [e0]; exact ⟨rfl, N0, rfl⟩)
theorem pn_pn_4 : plainName "java/util/BitSet" = true := by first | (simp [plainName, overriddenIn]; done) | decide +kernel
theorem pn_4 : plainFor yN4 = true := plainFor_of_name pn_pn_4
abbrev tB4 : List (Nat × Instr × Nat) := [(0, .aload_n 0, 1), (1, .iload_n 1, 1), (2, .iconst 1, 1), (3, .isub, 1), (4, .invokestatic 52, 3), (7, .iconst 1, 1), (8, .iadd, 1), (9, .newarray .long, 2), (11, .putfield 11, 3), (14, .return_, 1)]
theorem dB4 (k : Fin 10) : decode jdk_92_method_6_code (tB4.getD k (0, .nop, 1)).1 = .ok (tB4.getD k (0, .nop, 1)).2 := by revert k; decide +kernel
theorem pd_0 : parseMethodDescriptor "(I)I" = some ⟨[.int], some .int⟩ := by decide +kernel
theorem ef_inw (m : MethodId) (x0 : Addr) (x1 : Int32) : entryFrame m #[(.ref x0), (.int x1)] 2 = mkF m 0 #[vR x0, vI x1] [] := by first | (simp [entryFrame, mkF, argsToLocals, Value.category]; done) | rfl
def Q_inw (Z : State) (dce : Addr) (bs : Addr) (h0 : Heap) (n0 : Nat) (v : Option Value) (h : Heap) (L : List Loc) : Prop := v = none ∧ Fr n0 L ∧ Keep h0 h [bs] ∧ ∃ wa : Addr, h0.size ≤ wa ∧ Fld Z h bs "java/util/BitSet" "words" "[J" (.ref wa) ∧ Fld Z h bs "java/util/BitSet" "wordsInUse" "I" (.int (0 : Int32)) ∧ Fld Z h bs "java/util/BitSet" "sizeIsSticky" "Z" (.int (0 : Int32)) ∧ OAr Z h wa .long [(.long (0 : Int64))]
set_option maxRecDepth 65536 in
set_option maxHeartbeats 40000000 in
theorem inw (l : Launch) (Z : State) (a0 : Array Value) (hw : ∀ d ∈ tables_1, d.before a0 Z = true) (dce : Addr) (bs : Addr) (h0 : Heap) (n0 : Nat) (Z0 : n0 ≤ h0.size) (O0 : Old Z n0 h0) (S_d : Sta Z Z.heap "java/util/ArrayList" "DEFAULTCAPACITY_EMPTY_ELEMENTDATA" "[Ljava/lang/Object;" (.ref dce)) (V_d : OAr Z Z.heap dce (.object "java/lang/Object") []) (S_a : Sta Z Z.heap "java/util/BitSet" "$assertionsDisabled" "Z" (.int (1 : Int32))) (pf0 : Exa Z h0 bs "java/util/BitSet") (pf1 : Fld Z h0 bs "java/util/BitSet" "words" "[J" .null) (pf2 : Fld Z h0 bs "java/util/BitSet" "wordsInUse" "I" (.int (0 : Int32))) (pf3 : Fld Z h0 bs "java/util/BitSet" "sizeIsSticky" "Z" (.int (0 : Int32))) (gn0 : n0 ≤ bs) :
    OwnMet l yN4 jdk_92_method_6_code 2 none [] ({ frames := 1, cells := 1, slots := 1, locals := 13 } : Room) Z #[(.ref bs), (.int (64 : Int32))] h0 (Q_inw Z dce bs h0 n0) := by
 refine own_met pn_4 (fun p e s m below meth c s₁ hx hby hml hown hnm hret hlk hZ X0 e0 => ?_)
 have hown : s.vm.findClass "java/util/BitSet" = some m.cls := hown
 have N0 := Fr.nil n0
 have K0 := Keep.refl h0 [bs]
 rw [ef_inw]
 show OwnWk _ _ _ _ (s₁.setTop (mkF m 0 #[vR bs, vI (64 : Int32)] []))
 refine own_go (fun tgt kst => XS.aloadN X0.here hx rfl (hb hby (dB4 0)) rfl rfl  kst) ?_
 refine own_go (fun tgt kst => XS.iloadN X0.here hx rfl (hb hby (dB4 1)) rfl  kst) ?_
 refine own_go (fun tgt kst => XS.iconst X0.here hx rfl (hb hby (dB4 2)) kst) ?_
 refine own_go (fun tgt kst => XS.isub X0.here hx rfl (hb hby (dB4 3)) rfl kst) ?_
 show OwnWk _ _ _ _ (s₁.setTop (mkF m 4 #[vR bs, vI (64 : Int32)] [(.int (63 : Int32)), (.ref bs)]))
 refine own_callS X0 hx hZ (y := yN5) hown (wq hw 23 rfl) (wq hw 24 rfl) (wq hw 7 rfl) (wq hw 25 rfl) (by decide) (argsL := [(.int (63 : Int32))]) (rest := [(.ref bs)])  (h := h0) (rm5 l Z a0 hw (63 : Int32) h0 n0 Z0) e0 (W := 1) (by decide) (by decide) (by decide) (by decide) rfl (by rw [hml]; rfl) (lenOf pd_0 rfl) rfl (by show 2 * 0 + _ ≤ _; exact Nat.le_of_eq rfl) (hb hby (dB4 4)) (fun v1 T1 h1 L1 X1 e1 hQ1 => ?_)
 obtain ⟨rfl, Nq1, q1⟩ := hQ1
 have N1 := Fr.app N0 Nq1
 rw [q1] at e1
 show OwnWk _ _ _ _ (T1.setTop (mkF m 7 #[vR bs, vI (64 : Int32)] [(.int (0 : Int32)), (.ref bs)]))
 refine own_go (fun tgt kst => XS.iconst X1.here hx rfl (hb hby (dB4 5)) kst) ?_
 refine own_go (fun tgt kst => XS.iadd X1.here hx rfl (hb hby (dB4 6)) rfl kst) ?_
 refine own_newP X1 hx hZ (aty := .long) (wq hw 26 rfl) e1 rfl (hb hby (dB4 7)) rfl (by decide) (cap := 1) (by decide) (by decide) (by decide) (by decide) (fun T2 h2 b2 X2 e2 g2 E2 V2 => ?_)
 have ne3 := own_nl pf0.lt (Nat.le_of_eq g2.symm)
 have ge4 : n0 ≤ b2 := Nat.le_trans Z0 (Nat.le_of_eq g2.symm)
 have sz5 : h0.size ≤ b2 := Nat.le_trans K0.1 (Nat.le_of_eq g2.symm)
 have F6 := Exa.ext E2 pf0
 have F7 := Fld.ext E2 pf1
 have F8 := Fld.ext E2 pf2
 have F9 := Fld.ext E2 pf3
 have F10 := Old.ext O0 E2
 have Z11 := Nat.le_trans Z0 E2.1
 have K12 := Keep.ext K0 E2
 have V2b : OAr Z h2 b2 .long [(.long (0 : Int64))] := V2
 show OwnWk _ _ _ _ (T2.setTop (mkF m 11 #[vR bs, vI (64 : Int32)] [(.ref b2), (.ref bs)]))
 obtain ⟨T13, h13, X13, e13, W13, st13⟩ := putF X2 hx hZ hown (host := "") (Or.inl (wq hw 27 rfl)) Via.refl e2 F7 F6 (Or.inl (wq hw 28 rfl)) (wq hw 6 rfl) (v := (.ref b2)) (ty := (.array .long)) (by decide) rfl rfl (g := (mkF m 11 #[vR bs, vI (64 : Int32)] [(.ref b2), (.ref bs)])) rfl rfl (hb hby (dB4 8))
 refine own_go st13 ?_
 have N13 := Fr.snoc X13 N1 gn0
 have Fw13 := Fld.same W13 F7
 have F14 := Exa.wr W13 F6
 have F15 := Fld.other W13 F8 (Or.inr (slot_ne (Or.inl (wq hw 15 rfl)) (Or.inl (wq hw 28 rfl)) (by decide) (t := .int) (t' := (.array .long)) (by decide) (by decide)))
 have F16 := Fld.other W13 F9 (Or.inr (slot_ne (Or.inl (wq hw 17 rfl)) (Or.inl (wq hw 28 rfl)) (by decide) (t := .boolean) (t' := (.array .long)) (by decide) (by decide)))
 have F17 := Old.wr F10 W13 gn0
 have F18 := OAr.other V2b W13 (Ne.symm ne3)
 have Z19 := Nat.le_trans Z11 (Keep.of_wr W13).1
 have K20 := Keep.wr K12 W13 (Or.inl (List.mem_of_getElem? (i := 0) rfl))
 show OwnWk _ _ _ _ (T13.setTop (mkF m 14 #[vR bs, vI (64 : Int32)] []))
 exact own_retV X13 hx hlk hret (hb hby (dB4 9)) (by decide) (by decide) (by rw [e13]; exact ⟨rfl, N13, K20, b2, sz5, Fw13, F15, F16, F18⟩)
theorem pn_pn_2 : plainName "java/util/BitSet" = true := by first | (simp [plainName, overriddenIn]; done) | decide +kernel
theorem pn_2 : plainFor yN2 = true := plainFor_of_name pn_pn_2
abbrev tB2 : List (Nat × Instr × Nat) := [(0, .aload_n 0, 1), (1, .invokespecial 21, 3), (4, .aload_n 0, 1), (5, .iconst 0, 1), (6, .putfield 7, 3), (9, .aload_n 0, 1), (10, .iconst 0, 1), (11, .putfield 24, 3), (14, .aload_n 0, 1), (15, .bipush 64, 2), (17, .invokevirtual 27, 3), (20, .aload_n 0, 1), (21, .iconst 0, 1), (22, .putfield 24, 3), (25, .return_, 1)]
theorem dB2 (k : Fin 15) : decode jdk_92_method_4_code (tB2.getD k (0, .nop, 1)).1 = .ok (tB2.getD k (0, .nop, 1)).2 := by revert k; decide +kernel
theorem pd_1 : parseMethodDescriptor "(I)V" = some ⟨[.int], none⟩ := by decide +kernel
theorem ef_bsI (m : MethodId) (x0 : Addr) : entryFrame m #[(.ref x0)] 1 = mkF m 0 #[vR x0] [] := by first | (simp [entryFrame, mkF, argsToLocals, Value.category]; done) | rfl
def Q_bsI (Z : State) (dce : Addr) (bs : Addr) (h0 : Heap) (n0 : Nat) (v : Option Value) (h : Heap) (L : List Loc) : Prop := v = none ∧ Fr n0 L ∧ Keep h0 h [bs] ∧ ∃ wa : Addr, h0.size ≤ wa ∧ Fld Z h bs "java/util/BitSet" "words" "[J" (.ref wa) ∧ Fld Z h bs "java/util/BitSet" "wordsInUse" "I" (.int (0 : Int32)) ∧ OAr Z h wa .long [(.long (0 : Int64))]
set_option maxRecDepth 65536 in
set_option maxHeartbeats 40000000 in
theorem bsI (l : Launch) (Z : State) (a0 : Array Value) (hw : ∀ d ∈ tables_1, d.before a0 Z = true) (dce : Addr) (bs : Addr) (h0 : Heap) (n0 : Nat) (Z0 : n0 ≤ h0.size) (O0 : Old Z n0 h0) (S_d : Sta Z Z.heap "java/util/ArrayList" "DEFAULTCAPACITY_EMPTY_ELEMENTDATA" "[Ljava/lang/Object;" (.ref dce)) (V_d : OAr Z Z.heap dce (.object "java/lang/Object") []) (S_a : Sta Z Z.heap "java/util/BitSet" "$assertionsDisabled" "Z" (.int (1 : Int32))) (pf0 : Exa Z h0 bs "java/util/BitSet") (pf1 : Fld Z h0 bs "java/util/BitSet" "words" "[J" .null) (pf2 : Fld Z h0 bs "java/util/BitSet" "wordsInUse" "I" (.int (0 : Int32))) (pf3 : Fld Z h0 bs "java/util/BitSet" "sizeIsSticky" "Z" (.int (0 : Int32))) (gn0 : n0 ≤ bs) :
    OwnMet l yN2 jdk_92_method_4_code 1 none [] ({ frames := 2, cells := 1, slots := 1, locals := 26 } : Room) Z #[(.ref bs)] h0 (Q_bsI Z dce bs h0 n0) := by
 refine own_met pn_2 (fun p e s m below meth c s₁ hx hby hml hown hnm hret hlk hZ X0 e0 => ?_)
 have hown : s.vm.findClass "java/util/BitSet" = some m.cls := hown
 have N0 := Fr.nil n0
 have K0 := Keep.refl h0 [bs]
 rw [ef_bsI]
 show OwnWk _ _ _ _ (s₁.setTop (mkF m 0 #[vR bs] []))
 refine own_go (fun tgt kst => XS.aloadN X0.here hx rfl (hb hby (dB2 0)) rfl rfl  kst) ?_
 show OwnWk _ _ _ _ (s₁.setTop (mkF m 1 #[vR bs] [(.ref bs)]))
 obtain ⟨T1, X1, e1, st1⟩ := initO X0 hx hZ hown (wq hw 11 rfl) (wq hw 12 rfl) (wq hw 13 rfl) e0 (g := (mkF m 1 #[vR bs] [(.ref bs)])) rfl (by rw [hml]; rfl) rfl (hb hby (dB2 1)) (by decide) (W := 0) (by show 2 * 0 + _ ≤ _; exact Nat.le_of_eq rfl) (by decide)
 refine own_go st1 ?_
 show OwnWk _ _ _ _ (T1.setTop (mkF m 4 #[vR bs] []))
 refine own_go (fun tgt kst => XS.aloadN X1.here hx rfl (hb hby (dB2 2)) rfl rfl  kst) ?_
 refine own_go (fun tgt kst => XS.iconst X1.here hx rfl (hb hby (dB2 3)) kst) ?_
 obtain ⟨T2, h2, X2, e2, W2, st2⟩ := putF X1 hx hZ hown (host := "") (Or.inl (wq hw 14 rfl)) Via.refl e1 pf2 pf0 (Or.inl (wq hw 15 rfl)) (wq hw 6 rfl) (v := (.int (0 : Int32))) (ty := .int) (by decide) rfl rfl (g := (mkF m 6 #[vR bs] [(.int (0 : Int32)), (.ref bs)])) rfl rfl (hb hby (dB2 4))
 refine own_go st2 ?_
 have N2 := Fr.snoc X2 N0 gn0
 have Fw2 := Fld.same W2 pf2
 have F3 := Exa.wr W2 pf0
 have F4 := Fld.other W2 pf1 (Or.inr (slot_ne (Or.inl (wq hw 28 rfl)) (Or.inl (wq hw 15 rfl)) (by decide) (t := (.array .long)) (t' := .int) (by decide) (by decide)))
 have F5 := Fld.other W2 pf3 (Or.inr (slot_ne (Or.inl (wq hw 17 rfl)) (Or.inl (wq hw 15 rfl)) (by decide) (t := .boolean) (t' := .int) (by decide) (by decide)))
 have F6 := Old.wr O0 W2 gn0
 have Z7 := Nat.le_trans Z0 (Keep.of_wr W2).1
 have K8 := Keep.wr K0 W2 (Or.inl (List.mem_of_getElem? (i := 0) rfl))
 show OwnWk _ _ _ _ (T2.setTop (mkF m 9 #[vR bs] []))
 refine own_go (fun tgt kst => XS.aloadN X2.here hx rfl (hb hby (dB2 5)) rfl rfl  kst) ?_
 refine own_go (fun tgt kst => XS.iconst X2.here hx rfl (hb hby (dB2 6)) kst) ?_
 obtain ⟨T9, h9, X9, e9, W9, st9⟩ := putFN X2 hx hZ hown (wq hw 16 rfl) Via.refl e2 F5 F3 (Or.inl (wq hw 17 rfl)) (wq hw 6 rfl) (ty := .boolean) (v' := (.int (0 : Int32))) (by decide) rfl rfl (g := (mkF m 11 #[vR bs] [(.int (0 : Int32)), (.ref bs)])) rfl rfl (hb hby (dB2 7))
 refine own_go st9 ?_
 have N9 := Fr.snoc X9 N2 gn0
 have Fw9 := Fld.same W9 F5
 have F10 := Exa.wr W9 F3
 have F11 := Fld.other W9 F4 (Or.inr (slot_ne (Or.inl (wq hw 28 rfl)) (Or.inl (wq hw 17 rfl)) (by decide) (t := (.array .long)) (t' := .boolean) (by decide) (by decide)))
 have F12 := Old.wr F6 W9 gn0
 have F13 := Fld.other W9 Fw2 (Or.inr (slot_ne (Or.inl (wq hw 15 rfl)) (Or.inl (wq hw 17 rfl)) (by decide) (t := .int) (t' := .boolean) (by decide) (by decide)))
 have Z14 := Nat.le_trans Z7 (Keep.of_wr W9).1
 have K15 := Keep.wr K8 W9 (Or.inl (List.mem_of_getElem? (i := 0) rfl))
 show OwnWk _ _ _ _ (T9.setTop (mkF m 14 #[vR bs] []))
 refine own_go (fun tgt kst => XS.aloadN X9.here hx rfl (hb hby (dB2 8)) rfl rfl  kst) ?_
 refine own_go (fun tgt kst => XS.bipush X9.here hx rfl (hb hby (dB2 9)) kst) ?_
 show OwnWk _ _ _ _ (T9.setTop (mkF m 17 #[vR bs] [(.int (64 : Int32)), (.ref bs)]))
 have lt16 : bs < h9.size := F10.lt
 refine own_callP X9 hx hZ (y := yN4) hown (wq hw 18 rfl) (wq hw 19 rfl) (wq hw 21 rfl) (wq hw 20 rfl) (wq hw 7 rfl) (wq hw 22 rfl) (by decide) (a := bs) F10 (argsL := [(.int (64 : Int32))]) (rest := [])  (h := h9) (inw l Z a0 hw dce bs h9 n0 Z14 F12 S_d V_d S_a F10 F11 F13 Fw9 gn0) e9 (W := 0) (by decide) (by decide) (by decide) (by decide) rfl (by rw [hml]; rfl) (lenOf pd_1 rfl) rfl (by show 2 * 0 + _ ≤ _; exact Nat.le_of_eq rfl) (hb hby (dB2 10)) (fun v17 T17 h17 L17 X17 e17 hQ17 => ?_)
 obtain ⟨rfl, Nq17, Kq17, wa17_, sw17, Fw17, Fu17, Fy17, Vw17⟩ := hQ17
 have N17 := Fr.app N9 Nq17
 have F18 := Exa.keep F10 Kq17
 have F19 := Old.keep F12 Kq17 (allS gn0 all0)
 have Z20 := Nat.le_trans Z14 Kq17.1
 have K21 := Keep.trans K15 Kq17 (allS (Or.inl (List.mem_of_getElem? (i := 0) rfl)) all0)
 have ne22 := own_nl lt16 sw17
 have ga23 : n0 ≤ wa17_ := Nat.le_trans Z14 sw17
 have sa24 : h0.size ≤ wa17_ := Nat.le_trans K15.1 sw17
 show OwnWk _ _ _ _ (T17.setTop (mkF m 20 #[vR bs] []))
 refine own_go (fun tgt kst => XS.aloadN X17.here hx rfl (hb hby (dB2 11)) rfl rfl  kst) ?_
 refine own_go (fun tgt kst => XS.iconst X17.here hx rfl (hb hby (dB2 12)) kst) ?_
 obtain ⟨T25, h25, X25, e25, W25, st25⟩ := putFN X17 hx hZ hown (wq hw 16 rfl) Via.refl e17 Fy17 F18 (Or.inl (wq hw 17 rfl)) (wq hw 6 rfl) (ty := .boolean) (v' := (.int (0 : Int32))) (by decide) rfl rfl (g := (mkF m 22 #[vR bs] [(.int (0 : Int32)), (.ref bs)])) rfl rfl (hb hby (dB2 13))
 refine own_go st25 ?_
 have N25 := Fr.snoc X25 N17 gn0
 have Fw25 := Fld.same W25 Fy17
 have F26 := Exa.wr W25 F18
 have F27 := Old.wr F19 W25 gn0
 have F28 := Fld.other W25 Fw17 (Or.inr (slot_ne (Or.inl (wq hw 28 rfl)) (Or.inl (wq hw 17 rfl)) (by decide) (t := (.array .long)) (t' := .boolean) (by decide) (by decide)))
 have F29 := Fld.other W25 Fu17 (Or.inr (slot_ne (Or.inl (wq hw 15 rfl)) (Or.inl (wq hw 17 rfl)) (by decide) (t := .int) (t' := .boolean) (by decide) (by decide)))
 have F30 := OAr.other Vw17 W25 (Ne.symm ne22)
 have Z31 := Nat.le_trans Z20 (Keep.of_wr W25).1
 have K32 := Keep.wr K21 W25 (Or.inl (List.mem_of_getElem? (i := 0) rfl))
 show OwnWk _ _ _ _ (T25.setTop (mkF m 25 #[vR bs] []))
 exact own_retV X25 hx hlk hret (hb hby (dB2 14)) (by decide) (by decide) (by rw [e25]; exact ⟨rfl, N25, K32, wa17_, sa24, F28, F29, F30⟩)
theorem pn_pn_32 : plainName "java/util/BitSet" = true := by first | (simp [plainName, overriddenIn]; done) | decide +kernel
theorem pn_32 : plainFor yN32 = true := plainFor_of_name pn_pn_32
abbrev tB32 : List (Nat × Instr × Nat) := [(0, .aload_n 0, 1), (1, .getfield 11, 3), (4, .arraylength, 1), (5, .iload_n 1, 1), (6, .if_icmp .ge 32, 3), (9, .iconst 2, 1), (10, .aload_n 0, 1), (11, .getfield 11, 3), (14, .arraylength, 1), (15, .imul, 1), (16, .iload_n 1, 1), (17, .invokestatic 133, 3), (20, .istore_n 2, 1), (21, .aload_n 0, 1), (22, .aload_n 0, 1), (23, .getfield 11, 3), (26, .iload_n 2, 1), (27, .invokestatic 59, 3), (30, .putfield 11, 3), (33, .aload_n 0, 1), (34, .iconst 0, 1), (35, .putfield 24, 3), (38, .return_, 1)]
theorem dB32 (k : Fin 23) : decode jdk_92_method_14_code (tB32.getD k (0, .nop, 1)).1 = .ok (tB32.getD k (0, .nop, 1)).2 := by revert k; decide +kernel
theorem ef_enc (m : MethodId) (x0 : Addr) (x1 : Int32) : entryFrame m #[(.ref x0), (.int x1)] 3 = mkF m 0 #[vR x0, vI x1, .unset] [] := by first | (simp [entryFrame, mkF, argsToLocals, Value.category]; done) | rfl
def Q_enc (Z : State) (bs wa : Addr) (W_ : Int64) (h0 : Heap) (n0 : Nat) (v : Option Value) (h : Heap) (L : List Loc) : Prop := v = none ∧ Fr n0 L ∧ h = h0
set_option maxRecDepth 65536 in
set_option maxHeartbeats 40000000 in
theorem enc (l : Launch) (Z : State) (a0 : Array Value) (hw : ∀ d ∈ tables_1, d.before a0 Z = true) (bs wa : Addr) (W_ : Int64) (h0 : Heap) (n0 : Nat) (Z0 : n0 ≤ h0.size) (pf0 : Fld Z h0 bs "java/util/BitSet" "words" "[J" (.ref wa)) (pf1 : OAr Z h0 wa .long [(.long W_)]) :
    OwnMet l yN32 jdk_92_method_14_code 3 none [] ({ frames := 0, cells := 0, slots := 0, locals := 0 } : Room) Z #[(.ref bs), (.int (1 : Int32))] h0 (Q_enc Z bs wa W_ h0 n0) := by
 refine own_met pn_32 (fun p e s m below meth c s₁ hx hby hml hown hnm hret hlk hZ X0 e0 => ?_)
 have hown : s.vm.findClass "java/util/BitSet" = some m.cls := hown
 have N0 := Fr.nil n0
 rw [ef_enc]
 show OwnWk _ _ _ _ (s₁.setTop (mkF m 0 #[vR bs, vI (1 : Int32), uX] []))
 refine own_go (fun tgt kst => XS.aloadN X0.here hx rfl (hb hby (dB32 0)) rfl rfl  kst) ?_
 refine own_gF X0 hx hZ hown (wq hw 27 rfl) Via.refl e0 pf0 rfl rfl (hb hby (dB32 1)) fun T1 X1 e1 => ?_
 refine own_len X1 hx hZ e1 pf1 rfl rfl (hb hby (dB32 2)) (N := (1 : Int32)) rfl ?_
 refine own_go (fun tgt kst => XS.iloadN X1.here hx rfl (hb hby (dB32 3)) rfl  kst) ?_
 refine own_go (fun tgt kst => XS.icmpYes X1.here hx rfl (pc0 := 6) (pc' := 38) rfl (hb hby (dB32 4)) rfl (flt (by decide : ¬ ((1 : Int32) < (1 : Int32)))).2.1 (by decide) (by decide) kst) ?_
 show OwnWk _ _ _ _ (T1.setTop (mkF m 38 #[vR bs, vI (1 : Int32), uX] []))
 exact own_retV X1 hx hlk hret (hb hby (dB32 22)) (by decide) (by decide) (by rw [e1]; exact ⟨rfl, N0, rfl⟩)
theorem pn_pn_31 : plainName "java/util/BitSet" = true := by first | (simp [plainName, overriddenIn]; done) | decide +kernel
theorem pn_31 : plainFor yN31 = true := plainFor_of_name pn_pn_31
abbrev tB31 : List (Nat × Instr × Nat) := [(0, .iload_n 1, 1), (1, .iconst 1, 1), (2, .iadd, 1), (3, .istore_n 2, 1), (4, .aload_n 0, 1), (5, .getfield 7, 3), (8, .iload_n 2, 1), (9, .if_icmp .ge 13, 3), (12, .aload_n 0, 1), (13, .iload_n 2, 1), (14, .invokevirtual 139, 3), (17, .aload_n 0, 1), (18, .iload_n 2, 1), (19, .putfield 7, 3), (22, .return_, 1)]
theorem dB31 (k : Fin 15) : decode jdk_92_method_15_code (tB31.getD k (0, .nop, 1)).1 = .ok (tB31.getD k (0, .nop, 1)).2 := by revert k; decide +kernel
theorem ef_exp0 (m : MethodId) (x0 : Addr) (x1 : Int32) : entryFrame m #[(.ref x0), (.int x1)] 3 = mkF m 0 #[vR x0, vI x1, .unset] [] := by first | (simp [entryFrame, mkF, argsToLocals, Value.category]; done) | rfl
def Q_exp0 (Z : State) (bs wa : Addr) (W_ : Int64) (h0 : Heap) (n0 : Nat) (v : Option Value) (h : Heap) (L : List Loc) : Prop := v = none ∧ Fr n0 L ∧ Keep h0 h [bs] ∧ Fld Z h bs "java/util/BitSet" "words" "[J" (.ref wa) ∧ Fld Z h bs "java/util/BitSet" "wordsInUse" "I" (.int (1 : Int32))
set_option maxRecDepth 65536 in
set_option maxHeartbeats 40000000 in
theorem exp0 (l : Launch) (Z : State) (a0 : Array Value) (hw : ∀ d ∈ tables_1, d.before a0 Z = true) (bs wa : Addr) (W_ : Int64) (h0 : Heap) (n0 : Nat) (Z0 : n0 ≤ h0.size) (pf0 : Exa Z h0 bs "java/util/BitSet") (pf1 : Fld Z h0 bs "java/util/BitSet" "words" "[J" (.ref wa)) (pf2 : Fld Z h0 bs "java/util/BitSet" "wordsInUse" "I" (.int (0 : Int32))) (pf3 : OAr Z h0 wa .long [(.long W_)]) (dn0 : bs ≠ wa) (gn0 : n0 ≤ bs) :
    OwnMet l yN31 jdk_92_method_15_code 3 none [] ({ frames := 1, cells := 0, slots := 0, locals := 14 } : Room) Z #[(.ref bs), (.int (0 : Int32))] h0 (Q_exp0 Z bs wa W_ h0 n0) := by
 refine own_met pn_31 (fun p e s m below meth c s₁ hx hby hml hown hnm hret hlk hZ X0 e0 => ?_)
 have hown : s.vm.findClass "java/util/BitSet" = some m.cls := hown
 have N0 := Fr.nil n0
 have K0 := Keep.refl h0 [bs]
 rw [ef_exp0]
 show OwnWk _ _ _ _ (s₁.setTop (mkF m 0 #[vR bs, vI (0 : Int32), uX] []))
 refine own_go (fun tgt kst => XS.iloadN X0.here hx rfl (hb hby (dB31 0)) rfl  kst) ?_
 refine own_go (fun tgt kst => XS.iconst X0.here hx rfl (hb hby (dB31 1)) kst) ?_
 refine own_go (fun tgt kst => XS.iadd X0.here hx rfl (hb hby (dB31 2)) rfl kst) ?_
 refine own_go (fun tgt kst => XS.istoreN X0.here hx rfl (hb hby (dB31 3)) rfl (l' := #[vR bs, vI (0 : Int32), vI (1 : Int32)]) rfl kst) ?_
 refine own_go (fun tgt kst => XS.aloadN X0.here hx rfl (hb hby (dB31 4)) rfl rfl  kst) ?_
 refine own_gF X0 hx hZ hown (wq hw 14 rfl) Via.refl e0 pf2 rfl rfl (hb hby (dB31 5)) fun T1 X1 e1 => ?_
 refine own_go (fun tgt kst => XS.iloadN X1.here hx rfl (hb hby (dB31 6)) rfl  kst) ?_
 refine own_go (fun tgt kst => XS.icmpNo X1.here hx rfl (hb hby (dB31 7)) rfl (tlt (by decide : (0 : Int32) < (1 : Int32))).2.1 kst) ?_
 refine own_go (fun tgt kst => XS.aloadN X1.here hx rfl (hb hby (dB31 8)) rfl rfl  kst) ?_
 refine own_go (fun tgt kst => XS.iloadN X1.here hx rfl (hb hby (dB31 9)) rfl  kst) ?_
 show OwnWk _ _ _ _ (T1.setTop (mkF m 14 #[vR bs, vI (0 : Int32), vI (1 : Int32)] [(.int (1 : Int32)), (.ref bs)]))
 refine own_callP X1 hx hZ (y := yN32) hown (wq hw 197 rfl) (wq hw 198 rfl) (wq hw 200 rfl) (wq hw 199 rfl) (wq hw 7 rfl) (wq hw 201 rfl) (by decide) (a := bs) pf0 (argsL := [(.int (1 : Int32))]) (rest := [])  (h := h0) (enc l Z a0 hw bs wa W_ h0 n0 Z0 pf1 pf3) e1 (W := 0) (by decide) (by decide) (by decide) (by decide) rfl (by rw [hml]; rfl) (lenOf pd_1 rfl) rfl (by show 2 * 0 + _ ≤ _; exact Nat.le_of_eq rfl) (hb hby (dB31 10)) (fun v2 T2 h2 L2 X2 e2 hQ2 => ?_)
 obtain ⟨rfl, Nq2, q2⟩ := hQ2
 have N2 := Fr.app N0 Nq2
 rw [q2] at e2
 show OwnWk _ _ _ _ (T2.setTop (mkF m 17 #[vR bs, vI (0 : Int32), vI (1 : Int32)] []))
 refine own_go (fun tgt kst => XS.aloadN X2.here hx rfl (hb hby (dB31 11)) rfl rfl  kst) ?_
 refine own_go (fun tgt kst => XS.iloadN X2.here hx rfl (hb hby (dB31 12)) rfl  kst) ?_
 obtain ⟨T3, h3, X3, e3, W3, st3⟩ := putF X2 hx hZ hown (host := "") (Or.inl (wq hw 14 rfl)) Via.refl e2 pf2 pf0 (Or.inl (wq hw 15 rfl)) (wq hw 6 rfl) (v := (.int (1 : Int32))) (ty := .int) (by decide) rfl rfl (g := (mkF m 19 #[vR bs, vI (0 : Int32), vI (1 : Int32)] [(.int (1 : Int32)), (.ref bs)])) rfl rfl (hb hby (dB31 13))
 refine own_go st3 ?_
 have N3 := Fr.snoc X3 N2 gn0
 have Fw3 := Fld.same W3 pf2
 have F4 := Exa.wr W3 pf0
 have F5 := Fld.other W3 pf1 (Or.inr (slot_ne (Or.inl (wq hw 28 rfl)) (Or.inl (wq hw 15 rfl)) (by decide) (t := (.array .long)) (t' := .int) (by decide) (by decide)))
 have F6 := OAr.other pf3 W3 (Ne.symm dn0)
 have Z7 := Nat.le_trans Z0 (Keep.of_wr W3).1
 have K8 := Keep.wr K0 W3 (Or.inl (List.mem_of_getElem? (i := 0) rfl))
 show OwnWk _ _ _ _ (T3.setTop (mkF m 22 #[vR bs, vI (0 : Int32), vI (1 : Int32)] []))
 exact own_retV X3 hx hlk hret (hb hby (dB31 14)) (by decide) (by decide) (by rw [e3]; exact ⟨rfl, N3, K8, F5, Fw3⟩)
theorem ef_exp1 (m : MethodId) (x0 : Addr) (x1 : Int32) : entryFrame m #[(.ref x0), (.int x1)] 3 = mkF m 0 #[vR x0, vI x1, .unset] [] := by first | (simp [entryFrame, mkF, argsToLocals, Value.category]; done) | rfl
def Q_exp1 (Z : State) (bs wa : Addr) (W_ : Int64) (h0 : Heap) (n0 : Nat) (v : Option Value) (h : Heap) (L : List Loc) : Prop := v = none ∧ Fr n0 L ∧ h = h0
set_option maxRecDepth 65536 in
set_option maxHeartbeats 40000000 in
theorem exp1 (l : Launch) (Z : State) (a0 : Array Value) (hw : ∀ d ∈ tables_1, d.before a0 Z = true) (bs wa : Addr) (W_ : Int64) (h0 : Heap) (n0 : Nat) (Z0 : n0 ≤ h0.size) (pf0 : Exa Z h0 bs "java/util/BitSet") (pf1 : Fld Z h0 bs "java/util/BitSet" "words" "[J" (.ref wa)) (pf2 : Fld Z h0 bs "java/util/BitSet" "wordsInUse" "I" (.int (1 : Int32))) (pf3 : OAr Z h0 wa .long [(.long W_)]) :
    OwnMet l yN31 jdk_92_method_15_code 3 none [] ({ frames := 0, cells := 0, slots := 0, locals := 0 } : Room) Z #[(.ref bs), (.int (0 : Int32))] h0 (Q_exp1 Z bs wa W_ h0 n0) := by
 refine own_met pn_31 (fun p e s m below meth c s₁ hx hby hml hown hnm hret hlk hZ X0 e0 => ?_)
 have hown : s.vm.findClass "java/util/BitSet" = some m.cls := hown
 have N0 := Fr.nil n0
 rw [ef_exp1]
 show OwnWk _ _ _ _ (s₁.setTop (mkF m 0 #[vR bs, vI (0 : Int32), uX] []))
 refine own_go (fun tgt kst => XS.iloadN X0.here hx rfl (hb hby (dB31 0)) rfl  kst) ?_
 refine own_go (fun tgt kst => XS.iconst X0.here hx rfl (hb hby (dB31 1)) kst) ?_
 refine own_go (fun tgt kst => XS.iadd X0.here hx rfl (hb hby (dB31 2)) rfl kst) ?_
 refine own_go (fun tgt kst => XS.istoreN X0.here hx rfl (hb hby (dB31 3)) rfl (l' := #[vR bs, vI (0 : Int32), vI (1 : Int32)]) rfl kst) ?_
 refine own_go (fun tgt kst => XS.aloadN X0.here hx rfl (hb hby (dB31 4)) rfl rfl  kst) ?_
 refine own_gF X0 hx hZ hown (wq hw 14 rfl) Via.refl e0 pf2 rfl rfl (hb hby (dB31 5)) fun T1 X1 e1 => ?_
 refine own_go (fun tgt kst => XS.iloadN X1.here hx rfl (hb hby (dB31 6)) rfl  kst) ?_
 refine own_go (fun tgt kst => XS.icmpYes X1.here hx rfl (pc0 := 9) (pc' := 22) rfl (hb hby (dB31 7)) rfl (flt (by decide : ¬ ((1 : Int32) < (1 : Int32)))).2.1 (by decide) (by decide) kst) ?_
 show OwnWk _ _ _ _ (T1.setTop (mkF m 22 #[vR bs, vI (0 : Int32), vI (1 : Int32)] []))
 exact own_retV X1 hx hlk hret (hb hby (dB31 14)) (by decide) (by decide) (by rw [e1]; exact ⟨rfl, N0, rfl⟩)
theorem pn_pn_30 : plainName "java/util/BitSet" = true := by first | (simp [plainName, overriddenIn]; done) | decide +kernel
theorem pn_30 : plainFor yN30 = true := plainFor_of_name pn_pn_30
abbrev tB30 : List (Nat × Instr × Nat) := [(0, .iload_n 1, 1), (1, .ifCond .ge 30, 3), (4, .new 142, 3), (7, .dup, 1), (8, .new 33, 3), (11, .dup, 1), (12, .invokespecial 35, 3), (15, .ldc 153, 2), (17, .invokevirtual 38, 3), (20, .iload_n 1, 1), (21, .invokevirtual 42, 3), (24, .invokevirtual 45, 3), (27, .invokespecial 146, 3), (30, .athrow, 1), (31, .iload_n 1, 1), (32, .invokestatic 52, 3), (35, .istore_n 2, 1), (36, .aload_n 0, 1), (37, .iload_n 2, 1), (38, .invokevirtual 155, 3), (41, .aload_n 0, 1), (42, .getfield 11, 3), (45, .iload_n 2, 1), (46, .dup2, 1), (47, .laload, 1), (48, .lconst 1, 1), (49, .iload_n 1, 1), (50, .lshl, 1), (51, .lor, 1), (52, .lastore, 1), (53, .aload_n 0, 1), (54, .invokevirtual 56, 3), (57, .return_, 1)]
theorem dB30 (k : Fin 33) : decode jdk_92_method_19_code (tB30.getD k (0, .nop, 1)).1 = .ok (tB30.getD k (0, .nop, 1)).2 := by revert k; decide +kernel
theorem pd_2 : parseMethodDescriptor "()V" = some ⟨[], none⟩ := by decide +kernel
theorem ef_setB (m : MethodId) (x0 : Addr) (x1 : Int32) : entryFrame m #[(.ref x0), (.int x1)] 3 = mkF m 0 #[vR x0, vI x1, .unset] [] := by first | (simp [entryFrame, mkF, argsToLocals, Value.category]; done) | rfl
def Q_setB (Z : State) (dce : Addr) (bs wa : Addr) (i N_ : Nat) (h0 : Heap) (n0 : Nat) (v : Option Value) (h : Heap) (L : List Loc) : Prop := v = none ∧ Fr n0 L ∧ Keep h0 h [bs, wa] ∧ Fld Z h bs "java/util/BitSet" "words" "[J" (.ref wa) ∧ Fld Z h bs "java/util/BitSet" "wordsInUse" "I" (.int (own_wu (N_ + 2 ^ i))) ∧ OAr Z h wa .long [(.long (Int64.ofNat (N_ + 2 ^ i)))]
set_option maxRecDepth 65536 in
set_option maxHeartbeats 40000000 in
theorem setB (l : Launch) (Z : State) (a0 : Array Value) (hw : ∀ d ∈ tables_1, d.before a0 Z = true) (dce : Addr) (bs wa : Addr) (i N_ : Nat) (h0 : Heap) (n0 : Nat) (Z0 : n0 ≤ h0.size) (O0 : Old Z n0 h0) (S_d : Sta Z Z.heap "java/util/ArrayList" "DEFAULTCAPACITY_EMPTY_ELEMENTDATA" "[Ljava/lang/Object;" (.ref dce)) (V_d : OAr Z Z.heap dce (.object "java/lang/Object") []) (S_a : Sta Z Z.heap "java/util/BitSet" "$assertionsDisabled" "Z" (.int (1 : Int32))) (pf0 : Exa Z h0 bs "java/util/BitSet") (pf1 : Fld Z h0 bs "java/util/BitSet" "words" "[J" (.ref wa)) (pf2 : Fld Z h0 bs "java/util/BitSet" "wordsInUse" "I" (.int (own_wu N_))) (pf3 : OAr Z h0 wa .long [(.long (Int64.ofNat N_))]) (dn0 : bs ≠ wa) (gn0 : n0 ≤ bs) (gn1 : n0 ≤ wa) (hi : i < 4) (hN : N_ < 2 ^ i) :
    OwnMet l yN30 jdk_92_method_19_code 3 none [] ({ frames := 2, cells := 0, slots := 0, locals := 28 } : Room) Z #[(.ref bs), (.int (Int32.ofNat i))] h0 (Q_setB Z dce bs wa i N_ h0 n0) := by
 refine own_met pn_30 (fun p e s m below meth c s₁ hx hby hml hown hnm hret hlk hZ X0 e0 => ?_)
 have hown : s.vm.findClass "java/util/BitSet" = some m.cls := hown
 have N0 := Fr.nil n0
 have K0 := Keep.refl h0 [bs, wa]
 rw [ef_setB]
 show OwnWk _ _ _ _ (s₁.setTop (mkF m 0 #[vR bs, vI (Int32.ofNat i), uX] []))
 by_cases hM0 : N_ = 0
 ·
  have Fu1 : Fld Z h0 bs "java/util/BitSet" "wordsInUse" "I" (.int (0 : Int32)) := own_wu0 hM0 ▸ pf2
  show OwnWk _ _ _ _ (s₁.setTop (mkF m 0 #[vR bs, vI (Int32.ofNat i), uX] []))
  refine own_go (fun tgt kst => XS.iloadN X0.here hx rfl (hb hby (dB30 0)) rfl  kst) ?_
  show OwnWk _ _ _ _ (s₁.setTop (mkF m 1 #[vR bs, vI (Int32.ofNat i), uX] [(.int (Int32.ofNat i))]))
  refine own_go (fun tgt kst => XS.ifYes X0.here hx rfl (pc0 := 1) (pc' := 31) rfl (hb hby (dB30 1)) rfl ((if0 _ _).trans (flt (own_n_nn (by omega))).2.1) (by decide) (by decide) kst) ?_
  show OwnWk _ _ _ _ (s₁.setTop (mkF m 31 #[vR bs, vI (Int32.ofNat i), uX] []))
  refine own_go (fun tgt kst => XS.iloadN X0.here hx rfl (hb hby (dB30 14)) rfl  kst) ?_
  show OwnWk _ _ _ _ (s₁.setTop (mkF m 32 #[vR bs, vI (Int32.ofNat i), uX] [(.int (Int32.ofNat i))]))
  refine own_callS X0 hx hZ (y := yN5) hown (wq hw 23 rfl) (wq hw 24 rfl) (wq hw 7 rfl) (wq hw 25 rfl) (by decide) (argsL := [(.int (Int32.ofNat i))]) (rest := [])  (h := h0) (rm5 l Z a0 hw (Int32.ofNat i) h0 n0 Z0) e0 (W := 0) (by decide) (by decide) (by decide) (by decide) rfl (by rw [hml]; rfl) (lenOf pd_0 rfl) rfl (by show 2 * 0 + _ ≤ _; exact Nat.le_of_eq rfl) (hb hby (dB30 15)) (fun v2 T2 h2 L2 X2 e2 hQ2 => ?_)
  obtain ⟨rfl, Nq2, q2⟩ := hQ2
  have N2 := Fr.app N0 Nq2
  rw [q2] at e2
  show OwnWk _ _ _ _ (T2.setTop (mkF m 35 #[vR bs, vI (Int32.ofNat i), uX] [(.int ((Int32.ofNat i) >>> ((6 : Int32) &&& 31)))]))
  rw [own_w6 i (Nat.lt_succ_of_lt hi)]
  show OwnWk _ _ _ _ (T2.setTop (mkF m 35 #[vR bs, vI (Int32.ofNat i), uX] [(.int (0 : Int32))]))
  refine own_go (fun tgt kst => XS.istoreN X2.here hx rfl (hb hby (dB30 16)) rfl (l' := #[vR bs, vI (Int32.ofNat i), vI (0 : Int32)]) rfl kst) ?_
  refine own_go (fun tgt kst => XS.aloadN X2.here hx rfl (hb hby (dB30 17)) rfl rfl  kst) ?_
  refine own_go (fun tgt kst => XS.iloadN X2.here hx rfl (hb hby (dB30 18)) rfl  kst) ?_
  show OwnWk _ _ _ _ (T2.setTop (mkF m 38 #[vR bs, vI (Int32.ofNat i), vI (0 : Int32)] [(.int (0 : Int32)), (.ref bs)]))
  refine own_callP X2 hx hZ (y := yN31) hown (wq hw 192 rfl) (wq hw 193 rfl) (wq hw 195 rfl) (wq hw 194 rfl) (wq hw 7 rfl) (wq hw 196 rfl) (by decide) (a := bs) pf0 (argsL := [(.int (0 : Int32))]) (rest := [])  (h := h0) (exp0 l Z a0 hw bs wa (Int64.ofNat N_) h0 n0 Z0 pf0 pf1 Fu1 pf3 dn0 gn0) e2 (W := 0) (by decide) (by decide) (by decide) (by decide) rfl (by rw [hml]; rfl) (lenOf pd_1 rfl) rfl (by show 2 * 0 + _ ≤ _; exact Nat.le_of_eq rfl) (hb hby (dB30 19)) (fun v3 T3 h3 L3 X3 e3 hQ3 => ?_)
  obtain ⟨rfl, Nq3, Kq3, Fw3, Fu3⟩ := hQ3
  have N3 := Fr.app N2 Nq3
  have F4 := Exa.keep pf0 Kq3
  have F5 := OAr.keep pf3 Kq3 (ninS (Ne.symm dn0) nin0)
  have F6 := Old.keep O0 Kq3 (allS gn0 all0)
  have Z7 := Nat.le_trans Z0 Kq3.1
  have K8 := Keep.trans K0 Kq3 (allS (Or.inl (List.mem_of_getElem? (i := 0) rfl)) all0)
  show OwnWk _ _ _ _ (T3.setTop (mkF m 41 #[vR bs, vI (Int32.ofNat i), vI (0 : Int32)] []))
  refine own_go (fun tgt kst => XS.aloadN X3.here hx rfl (hb hby (dB30 20)) rfl rfl  kst) ?_
  refine own_gF X3 hx hZ hown (wq hw 27 rfl) Via.refl e3 Fw3 rfl rfl (hb hby (dB30 21)) fun T9 X9 e9 => ?_
  refine own_go (fun tgt kst => XS.iloadN X9.here hx rfl (hb hby (dB30 22)) rfl  kst) ?_
  refine own_go (fun tgt kst => Jvm.Free.XT.dup2 X9.here hx rfl (hb hby (dB30 23)) rfl rfl rfl kst) ?_
  refine own_ldJ X9 hx hZ e9 F5 rfl rfl (hb hby (dB30 24)) (v := (.long (Int64.ofNat N_))) (by decide) rfl ?_
  refine own_go (fun tgt kst => XS.lconst X9.here hx rfl (hb hby (dB30 25)) kst) ?_
  refine own_go (fun tgt kst => XS.iloadN X9.here hx rfl (hb hby (dB30 26)) rfl  kst) ?_
  show OwnWk _ _ _ _ (T9.setTop (mkF m 50 #[vR bs, vI (Int32.ofNat i), vI (0 : Int32)] [(.int (Int32.ofNat i)), (.long (1 : Int64)), (.long (Int64.ofNat N_)), (.int (0 : Int32)), (.ref wa)]))
  refine own_go (fun tgt kst => XS.lshl X9.here hx rfl (hb hby (dB30 27)) rfl kst) ?_
  refine own_go (fun tgt kst => XS.lor X9.here hx rfl (hb hby (dB30 28)) rfl kst) ?_
  show OwnWk _ _ _ _ (T9.setTop (mkF m 52 #[vR bs, vI (Int32.ofNat i), vI (0 : Int32)] [(.long ((Int64.ofNat N_) ||| ((1 : Int64) <<< ((Int32.ofNat i) &&& 0x3f).toInt64))), (.int (0 : Int32)), (.ref wa)]))
  rw [own_or i hi N_ hN]
  show OwnWk _ _ _ _ (T9.setTop (mkF m 52 #[vR bs, vI (Int32.ofNat i), vI (0 : Int32)] [(.long (Int64.ofNat (N_ + 2 ^ i))), (.int (0 : Int32)), (.ref wa)]))
  refine own_stJ X9 hx hZ e9 F5 rfl rfl (hb hby (dB30 29)) (by decide) (Nat.le_of_ble_eq_true rfl) (fun T10 h10 X10 e10 W10 V10 => ?_)
  have N10 := Fr.snoc X10 N3 gn1
  have F11 := Exa.wr W10 F4
  have F12 := Old.wr F6 W10 gn1
  have F13 := Fld.other W10 Fw3 (Or.inl dn0)
  have F14 := Fld.other W10 Fu3 (Or.inl dn0)
  have Z15 := Nat.le_trans Z7 (Keep.of_wr W10).1
  have K16 := Keep.wr K8 W10 (Or.inl (List.mem_of_getElem? (i := 1) rfl))
  refine own_go (fun tgt kst => XS.aloadN X10.here hx rfl (hb hby (dB30 30)) rfl rfl  kst) ?_
  show OwnWk _ _ _ _ (T10.setTop (mkF m 54 #[vR bs, vI (Int32.ofNat i), vI (0 : Int32)] [(.ref bs)]))
  refine own_callP X10 hx hZ (y := yN21) hown (wq hw 139 rfl) (wq hw 140 rfl) (wq hw 142 rfl) (wq hw 141 rfl) (wq hw 7 rfl) (wq hw 143 rfl) (by decide) (a := bs) F11 (argsL := []) (rest := [])  (h := h10) (chk l Z a0 hw dce bs h10 n0 Z15 F12 S_d V_d S_a) e10 (W := 0) (by decide) (by decide) (by decide) (by decide) rfl (by rw [hml]; rfl) (lenOf pd_2 rfl) rfl (by show 2 * 0 + _ ≤ _; exact Nat.le_of_eq rfl) (hb hby (dB30 31)) (fun v17 T17 h17 L17 X17 e17 hQ17 => ?_)
  obtain ⟨rfl, Nq17, q17⟩ := hQ17
  have N17 := Fr.app N10 Nq17
  rw [q17] at e17
  show OwnWk _ _ _ _ (T17.setTop (mkF m 57 #[vR bs, vI (Int32.ofNat i), vI (0 : Int32)] []))
  have Fz : Fld Z h10 bs "java/util/BitSet" "wordsInUse" "I" (.int (own_wu (N_ + 2 ^ i))) := own_wup.symm ▸ F14
  exact own_retV X17 hx hlk hret (hb hby (dB30 32)) (by decide) (by decide) (by rw [e17]; exact ⟨rfl, N17, K16, F13, Fz, V10⟩)
 ·
  have Fu18 : Fld Z h0 bs "java/util/BitSet" "wordsInUse" "I" (.int (1 : Int32)) := own_wu1 hM0 ▸ pf2
  show OwnWk _ _ _ _ (s₁.setTop (mkF m 0 #[vR bs, vI (Int32.ofNat i), uX] []))
  refine own_go (fun tgt kst => XS.iloadN X0.here hx rfl (hb hby (dB30 0)) rfl  kst) ?_
  show OwnWk _ _ _ _ (s₁.setTop (mkF m 1 #[vR bs, vI (Int32.ofNat i), uX] [(.int (Int32.ofNat i))]))
  refine own_go (fun tgt kst => XS.ifYes X0.here hx rfl (pc0 := 1) (pc' := 31) rfl (hb hby (dB30 1)) rfl ((if0 _ _).trans (flt (own_n_nn (by omega))).2.1) (by decide) (by decide) kst) ?_
  show OwnWk _ _ _ _ (s₁.setTop (mkF m 31 #[vR bs, vI (Int32.ofNat i), uX] []))
  refine own_go (fun tgt kst => XS.iloadN X0.here hx rfl (hb hby (dB30 14)) rfl  kst) ?_
  show OwnWk _ _ _ _ (s₁.setTop (mkF m 32 #[vR bs, vI (Int32.ofNat i), uX] [(.int (Int32.ofNat i))]))
  refine own_callS X0 hx hZ (y := yN5) hown (wq hw 23 rfl) (wq hw 24 rfl) (wq hw 7 rfl) (wq hw 25 rfl) (by decide) (argsL := [(.int (Int32.ofNat i))]) (rest := [])  (h := h0) (rm5 l Z a0 hw (Int32.ofNat i) h0 n0 Z0) e0 (W := 0) (by decide) (by decide) (by decide) (by decide) rfl (by rw [hml]; rfl) (lenOf pd_0 rfl) rfl (by show 2 * 0 + _ ≤ _; exact Nat.le_of_eq rfl) (hb hby (dB30 15)) (fun v19 T19 h19 L19 X19 e19 hQ19 => ?_)
  obtain ⟨rfl, Nq19, q19⟩ := hQ19
  have N19 := Fr.app N0 Nq19
  rw [q19] at e19
  show OwnWk _ _ _ _ (T19.setTop (mkF m 35 #[vR bs, vI (Int32.ofNat i), uX] [(.int ((Int32.ofNat i) >>> ((6 : Int32) &&& 31)))]))
  rw [own_w6 i (Nat.lt_succ_of_lt hi)]
  show OwnWk _ _ _ _ (T19.setTop (mkF m 35 #[vR bs, vI (Int32.ofNat i), uX] [(.int (0 : Int32))]))
  refine own_go (fun tgt kst => XS.istoreN X19.here hx rfl (hb hby (dB30 16)) rfl (l' := #[vR bs, vI (Int32.ofNat i), vI (0 : Int32)]) rfl kst) ?_
  refine own_go (fun tgt kst => XS.aloadN X19.here hx rfl (hb hby (dB30 17)) rfl rfl  kst) ?_
  refine own_go (fun tgt kst => XS.iloadN X19.here hx rfl (hb hby (dB30 18)) rfl  kst) ?_
  show OwnWk _ _ _ _ (T19.setTop (mkF m 38 #[vR bs, vI (Int32.ofNat i), vI (0 : Int32)] [(.int (0 : Int32)), (.ref bs)]))
  refine own_callP X19 hx hZ (y := yN31) hown (wq hw 192 rfl) (wq hw 193 rfl) (wq hw 195 rfl) (wq hw 194 rfl) (wq hw 7 rfl) (wq hw 196 rfl) (by decide) (a := bs) pf0 (argsL := [(.int (0 : Int32))]) (rest := [])  (h := h0) (exp1 l Z a0 hw bs wa (Int64.ofNat N_) h0 n0 Z0 pf0 pf1 Fu18 pf3) e19 (W := 0) (by decide) (by decide) (by decide) (by decide) rfl (by rw [hml]; rfl) (lenOf pd_1 rfl) rfl (by show 2 * 0 + _ ≤ _; exact Nat.le_of_eq rfl) (hb hby (dB30 19)) (fun v20 T20 h20 L20 X20 e20 hQ20 => ?_)
  obtain ⟨rfl, Nq20, q20⟩ := hQ20
  have N20 := Fr.app N19 Nq20
  rw [q20] at e20
  show OwnWk _ _ _ _ (T20.setTop (mkF m 41 #[vR bs, vI (Int32.ofNat i), vI (0 : Int32)] []))
  refine own_go (fun tgt kst => XS.aloadN X20.here hx rfl (hb hby (dB30 20)) rfl rfl  kst) ?_
  refine own_gF X20 hx hZ hown (wq hw 27 rfl) Via.refl e20 pf1 rfl rfl (hb hby (dB30 21)) fun T21 X21 e21 => ?_
  refine own_go (fun tgt kst => XS.iloadN X21.here hx rfl (hb hby (dB30 22)) rfl  kst) ?_
  refine own_go (fun tgt kst => Jvm.Free.XT.dup2 X21.here hx rfl (hb hby (dB30 23)) rfl rfl rfl kst) ?_
  refine own_ldJ X21 hx hZ e21 pf3 rfl rfl (hb hby (dB30 24)) (v := (.long (Int64.ofNat N_))) (by decide) rfl ?_
  refine own_go (fun tgt kst => XS.lconst X21.here hx rfl (hb hby (dB30 25)) kst) ?_
  refine own_go (fun tgt kst => XS.iloadN X21.here hx rfl (hb hby (dB30 26)) rfl  kst) ?_
  show OwnWk _ _ _ _ (T21.setTop (mkF m 50 #[vR bs, vI (Int32.ofNat i), vI (0 : Int32)] [(.int (Int32.ofNat i)), (.long (1 : Int64)), (.long (Int64.ofNat N_)), (.int (0 : Int32)), (.ref wa)]))
  refine own_go (fun tgt kst => XS.lshl X21.here hx rfl (hb hby (dB30 27)) rfl kst) ?_
  refine own_go (fun tgt kst => XS.lor X21.here hx rfl (hb hby (dB30 28)) rfl kst) ?_
  show OwnWk _ _ _ _ (T21.setTop (mkF m 52 #[vR bs, vI (Int32.ofNat i), vI (0 : Int32)] [(.long ((Int64.ofNat N_) ||| ((1 : Int64) <<< ((Int32.ofNat i) &&& 0x3f).toInt64))), (.int (0 : Int32)), (.ref wa)]))
  rw [own_or i hi N_ hN]
  show OwnWk _ _ _ _ (T21.setTop (mkF m 52 #[vR bs, vI (Int32.ofNat i), vI (0 : Int32)] [(.long (Int64.ofNat (N_ + 2 ^ i))), (.int (0 : Int32)), (.ref wa)]))
  refine own_stJ X21 hx hZ e21 pf3 rfl rfl (hb hby (dB30 29)) (by decide) (Nat.le_of_ble_eq_true rfl) (fun T22 h22 X22 e22 W22 V22 => ?_)
  have N22 := Fr.snoc X22 N20 gn1
  have F23 := Exa.wr W22 pf0
  have F24 := Fld.other W22 pf1 (Or.inl dn0)
  have F25 := Old.wr O0 W22 gn1
  have F26 := Fld.other W22 Fu18 (Or.inl dn0)
  have Z27 := Nat.le_trans Z0 (Keep.of_wr W22).1
  have K28 := Keep.wr K0 W22 (Or.inl (List.mem_of_getElem? (i := 1) rfl))
  refine own_go (fun tgt kst => XS.aloadN X22.here hx rfl (hb hby (dB30 30)) rfl rfl  kst) ?_
  show OwnWk _ _ _ _ (T22.setTop (mkF m 54 #[vR bs, vI (Int32.ofNat i), vI (0 : Int32)] [(.ref bs)]))
  refine own_callP X22 hx hZ (y := yN21) hown (wq hw 139 rfl) (wq hw 140 rfl) (wq hw 142 rfl) (wq hw 141 rfl) (wq hw 7 rfl) (wq hw 143 rfl) (by decide) (a := bs) F23 (argsL := []) (rest := [])  (h := h22) (chk l Z a0 hw dce bs h22 n0 Z27 F25 S_d V_d S_a) e22 (W := 0) (by decide) (by decide) (by decide) (by decide) rfl (by rw [hml]; rfl) (lenOf pd_2 rfl) rfl (by show 2 * 0 + _ ≤ _; exact Nat.le_of_eq rfl) (hb hby (dB30 31)) (fun v29 T29 h29 L29 X29 e29 hQ29 => ?_)
  obtain ⟨rfl, Nq29, q29⟩ := hQ29
  have N29 := Fr.app N22 Nq29
  rw [q29] at e29
  show OwnWk _ _ _ _ (T29.setTop (mkF m 57 #[vR bs, vI (Int32.ofNat i), vI (0 : Int32)] []))
  have Fz : Fld Z h22 bs "java/util/BitSet" "wordsInUse" "I" (.int (own_wu (N_ + 2 ^ i))) := own_wup.symm ▸ F26
  exact own_retV X29 hx hlk hret (hb hby (dB30 32)) (by decide) (by decide) (by rw [e29]; exact ⟨rfl, N29, K28, F24, Fz, V22⟩)
theorem pn_pn_1 : plainName "com/example/encircle/encircle/layout/ZoneKeysFirstPinLaw" = true := by first | (simp [plainName, overriddenIn]; done) | decide +kernel
theorem pn_1 : plainFor yN1 = true := plainFor_of_name pn_pn_1
abbrev tB1 : List (Nat × Instr × Nat) := [(0, .new 38, 3), (3, .dup, 1), (4, .invokespecial 40, 3), (7, .astore_n 1, 1), (8, .iload_n 0, 1), (9, .iconst 1, 1), (10, .iand, 1), (11, .ifCond .eq 8, 3), (14, .aload_n 1, 1), (15, .iconst 0, 1), (16, .invokevirtual 41, 3), (19, .iload_n 0, 1), (20, .iconst 2, 1), (21, .iand, 1), (22, .ifCond .eq 8, 3), (25, .aload_n 1, 1), (26, .iconst 1, 1), (27, .invokevirtual 41, 3), (30, .iload_n 0, 1), (31, .iconst 4, 1), (32, .iand, 1), (33, .ifCond .eq 8, 3), (36, .aload_n 1, 1), (37, .iconst 2, 1), (38, .invokevirtual 41, 3), (41, .iload_n 0, 1), (42, .bipush 8, 2), (44, .iand, 1), (45, .ifCond .eq 8, 3), (48, .aload_n 1, 1), (49, .iconst 3, 1), (50, .invokevirtual 41, 3), (53, .aload_n 1, 1), (54, .areturn, 1)]
theorem dB1 (k : Fin 34) : decode method_3_code (tB1.getD k (0, .nop, 1)).1 = .ok (tB1.getD k (0, .nop, 1)).2 := by revert k; decide +kernel
theorem ef_bts (m : MethodId) (x0 : Int32) : entryFrame m #[(.int x0)] 2 = mkF m 0 #[vI x0, .unset] [] := by first | (simp [entryFrame, mkF, argsToLocals, Value.category]; done) | rfl
def Q_bts (Z : State) (dce : Addr) (M : Nat) (h0 : Heap) (n0 : Nat) (v : Option Value) (h : Heap) (L : List Loc) : Prop := ∃ bs wa : Addr, v = some (.ref bs) ∧ Fr n0 L ∧ Keep h0 h [] ∧ h0.size ≤ bs ∧ h0.size ≤ wa ∧ bs ≠ wa ∧ Exa Z h bs "java/util/BitSet" ∧ Fld Z h bs "java/util/BitSet" "words" "[J" (.ref wa) ∧ Fld Z h bs "java/util/BitSet" "wordsInUse" "I" (.int (own_wu M)) ∧ OAr Z h wa .long [(.long (Int64.ofNat M))]
set_option maxRecDepth 65536 in
set_option maxHeartbeats 40000000 in
theorem bts (l : Launch) (Z : State) (a0 : Array Value) (hw : ∀ d ∈ tables_1, d.before a0 Z = true) (dce : Addr) (M : Nat) (h0 : Heap) (n0 : Nat) (Z0 : n0 ≤ h0.size) (O0 : Old Z n0 h0) (S_d : Sta Z Z.heap "java/util/ArrayList" "DEFAULTCAPACITY_EMPTY_ELEMENTDATA" "[Ljava/lang/Object;" (.ref dce)) (V_d : OAr Z Z.heap dce (.object "java/lang/Object") []) (S_a : Sta Z Z.heap "java/util/BitSet" "$assertionsDisabled" "Z" (.int (1 : Int32))) (hM : M < 16) :
    OwnMet l yN1 method_3_code 2 (some (.object "java/util/BitSet")) [] ({ frames := 3, cells := 2, slots := 4, locals := 42 } : Room) Z #[(.int (Int32.ofNat M))] h0 (Q_bts Z dce M h0 n0) := by
 refine own_met pn_1 (fun p e s m below meth c s₁ hx hby hml hown hnm hret hlk hZ X0 e0 => ?_)
 have hown : s.vm.findClass "com/example/encircle/encircle/layout/ZoneKeysFirstPinLaw" = some m.cls := hown
 have N0 := Fr.nil n0
 have K0 := Keep.refl h0 []
 rw [ef_bts]
 show OwnWk _ _ _ _ (s₁.setTop (mkF m 0 #[vI (Int32.ofNat M), uX] []))
 obtain ⟨T1, h1, X1, e1, E1, A1, D1, -, st1⟩ := newO X0 hx hZ hown (wq hw 5 rfl) (wq hw 6 rfl) (wq hw 7 rfl) e0 (g := (mkF m 0 #[vI (Int32.ofNat M), uX] [])) rfl (hb hby (dB1 0)) (by decide) (by decide)
 obtain ⟨b1, g1⟩ : ∃ z, z = h0.size := ⟨_, rfl⟩
 rw [← g1] at A1 D1 st1
 refine own_go st1 ?_
 have ge2 : n0 ≤ b1 := Nat.le_trans Z0 (Nat.le_of_eq g1.symm)
 have sz3 : h0.size ≤ b1 := Nat.le_trans K0.1 (Nat.le_of_eq g1.symm)
 have F4 := Old.ext O0 E1
 have Z5 := Nat.le_trans Z0 E1.1
 have K6 := Keep.ext K0 E1
 have F7 : Fld Z h1 b1 "java/util/BitSet" "wordsInUse" "I" (.int (0 : Int32)) := D1 (Or.inl (wq hw 15 rfl)) (ty := .int) (by decide)
 have F8 : Fld Z h1 b1 "java/util/BitSet" "sizeIsSticky" "Z" (.int (0 : Int32)) := D1 (Or.inl (wq hw 17 rfl)) (ty := .boolean) (by decide)
 have F9 : Fld Z h1 b1 "java/util/BitSet" "words" "[J" .null := D1 (Or.inl (wq hw 28 rfl)) (ty := (.array .long)) (by decide)
 show OwnWk _ _ _ _ (T1.setTop (mkF m 3 #[vI (Int32.ofNat M), uX] [(.ref b1)]))
 refine own_go (fun tgt kst => XS.dup X1.here hx rfl (hb hby (dB1 1)) rfl rfl kst) ?_
 show OwnWk _ _ _ _ (T1.setTop (mkF m 4 #[vI (Int32.ofNat M), uX] [(.ref b1), (.ref b1)]))
 have lt10 : b1 < h1.size := A1.lt
 refine own_callC X1 hx hZ (y := yN2) hown rfl (wq hw 8 rfl) (wq hw 9 rfl) (wq hw 7 rfl) (wq hw 10 rfl) (by decide) (a := b1) (argsL := []) (rest := [(.ref b1)])  (h := h1) (bsI l Z a0 hw dce b1 h1 n0 Z5 F4 S_d V_d S_a A1 F9 F7 F8 ge2) e1 (W := 1) (by decide) (by decide) (by decide) (by decide) rfl (by rw [hml]; rfl) (lenOf pd_2 rfl) rfl (by show 2 * 0 + _ ≤ _; exact Nat.le_of_eq rfl) (hb hby (dB1 2)) (fun v11 T11 h11 L11 X11 e11 hQ11 => ?_)
 obtain ⟨rfl, Nq11, Kq11, wa11_, sw11, Fw11, Fu11, Vw11⟩ := hQ11
 have N11 := Fr.app N0 Nq11
 have F12 := Old.keep F4 Kq11 (allS ge2 all0)
 have F13 := Exa.keep A1 Kq11
 have Z14 := Nat.le_trans Z5 Kq11.1
 have K15 := Keep.trans K6 Kq11 (allS (Or.inr sz3) all0)
 have ne16 := own_nl lt10 sw11
 have ga17 : n0 ≤ wa11_ := Nat.le_trans Z5 sw11
 have sa18 : h0.size ≤ wa11_ := Nat.le_trans K6.1 sw11
 show OwnWk _ _ _ _ (T11.setTop (mkF m 7 #[vI (Int32.ofNat M), uX] [(.ref b1)]))
 refine own_go (fun tgt kst => XS.astoreN X11.here hx rfl (hb hby (dB1 3)) rfl rfl (l' := #[vI (Int32.ofNat M), vR b1]) rfl kst) ?_
 show OwnWk _ _ _ _ (T11.setTop (mkF m 8 #[vI (Int32.ofNat M), vR b1] []))
 have B4 : ∀ (T_ : State) (h_ : Heap) (L_ : List Loc), Stand p l e ({ frames := 3, cells := 2, slots := 4, locals := 42 } : Room) s m #[(.int (Int32.ofNat M))] below meth c T_ L_ 2 4 → T_.heap = h_ → Fr n0 L_ → n0 ≤ h_.size → Keep h0 h_ [] → Old Z n0 h_ → Exa Z h_ b1 "java/util/BitSet" → Fld Z h_ b1 "java/util/BitSet" "words" "[J" (.ref wa11_) → Fld Z h_ b1 "java/util/BitSet" "wordsInUse" "I" (.int (own_wu (M % 2 ^ 4))) → OAr Z h_ wa11_ .long [(.long (Int64.ofNat (M % 2 ^ 4)))] →
     OwnWk p e below (OwnP s (Q_bts Z dce M h0 n0) ({ frames := 3, cells := 2, slots := 4, locals := 42 } : Room).cells ({ frames := 3, cells := 2, slots := 4, locals := 42 } : Room).slots) (T_.setTop (mkF m 53 #[vI (Int32.ofNat M), vR b1] [])) := by
  intro  T_19 h_19 L_19  X_19 e_19 N_19 Z_19 K_19 O_19 f_019 f_119 f_219 f_319
  show OwnWk _ _ _ _ (T_19.setTop (mkF m 53 #[vI (Int32.ofNat M), vR b1] []))
  refine own_go (fun tgt kst => XS.aloadN X_19.here hx rfl (hb hby (dB1 32)) rfl rfl  kst) ?_
  show OwnWk _ _ _ _ (T_19.setTop (mkF m 54 #[vI (Int32.ofNat M), vR b1] [(.ref b1)]))
  have Fh20 : Fld Z h_19 b1 "java/util/BitSet" "wordsInUse" "I" (.int (own_wu M)) := (Nat.mod_eq_of_lt hM : M % 2 ^ 4 = M) ▸ f_219
  have Fh21 : OAr Z h_19 wa11_ .long [(.long (Int64.ofNat M))] := (Nat.mod_eq_of_lt hM : M % 2 ^ 4 = M) ▸ f_319
  exact own_retA X_19 hx hlk hret rfl rfl rfl (hb hby (dB1 33)) (by decide) (by decide) (by rw [e_19]; exact ⟨b1, wa11_, rfl, N_19, K_19, sz3, sa18, ne16, f_019, f_119, Fh20, Fh21⟩)
 have B3 : ∀ (T_ : State) (h_ : Heap) (L_ : List Loc), Stand p l e ({ frames := 3, cells := 2, slots := 4, locals := 42 } : Room) s m #[(.int (Int32.ofNat M))] below meth c T_ L_ 2 4 → T_.heap = h_ → Fr n0 L_ → n0 ≤ h_.size → Keep h0 h_ [] → Old Z n0 h_ → Exa Z h_ b1 "java/util/BitSet" → Fld Z h_ b1 "java/util/BitSet" "words" "[J" (.ref wa11_) → Fld Z h_ b1 "java/util/BitSet" "wordsInUse" "I" (.int (own_wu (M % 2 ^ 3))) → OAr Z h_ wa11_ .long [(.long (Int64.ofNat (M % 2 ^ 3)))] →
     OwnWk p e below (OwnP s (Q_bts Z dce M h0 n0) ({ frames := 3, cells := 2, slots := 4, locals := 42 } : Room).cells ({ frames := 3, cells := 2, slots := 4, locals := 42 } : Room).slots) (T_.setTop (mkF m 41 #[vI (Int32.ofNat M), vR b1] [])) := by
  intro  T_22 h_22 L_22  X_22 e_22 N_22 Z_22 K_22 O_22 f_022 f_122 f_222 f_322
  show OwnWk _ _ _ _ (T_22.setTop (mkF m 41 #[vI (Int32.ofNat M), vR b1] []))
  refine own_go (fun tgt kst => XS.iloadN X_22.here hx rfl (hb hby (dB1 25)) rfl  kst) ?_
  refine own_go (fun tgt kst => XS.bipush X_22.here hx rfl (hb hby (dB1 26)) kst) ?_
  refine own_go (fun tgt kst => XS.iand X_22.here hx rfl (hb hby (dB1 27)) rfl kst) ?_
  show OwnWk _ _ _ _ (T_22.setTop (mkF m 45 #[vI (Int32.ofNat M), vR b1] [(.int ((Int32.ofNat M) &&& (8 : Int32)))]))
  by_cases hc23 : ((Int32.ofNat M) &&& (8 : Int32)) = (0 : Int32)
  ·
   refine own_go (fun tgt kst => XS.ifYes X_22.here hx rfl (pc0 := 45) (pc' := 53) rfl (hb hby (dB1 28)) rfl ((if0 _ _).trans (teq hc23).1) (by decide) (by decide) kst) ?_
   show OwnWk _ _ _ _ (T_22.setTop (mkF m 53 #[vI (Int32.ofNat M), vR b1] []))
   have hm := own_bn M hM 3 (by decide) hc23
   have Fh24 : Fld Z h_22 b1 "java/util/BitSet" "wordsInUse" "I" (.int (own_wu (M % 2 ^ 4))) := hm.symm ▸ f_222
   have Fh25 : OAr Z h_22 wa11_ .long [(.long (Int64.ofNat (M % 2 ^ 4)))] := hm.symm ▸ f_322
   exact B4  _ _ _  X_22 e_22 N_22 Z_22 K_22 O_22 f_022 f_122 Fh24 Fh25
  ·
   refine own_go (fun tgt kst => XS.ifNo X_22.here hx rfl (hb hby (dB1 28)) rfl ((if0 _ _).trans (feq hc23).1) kst) ?_
   show OwnWk _ _ _ _ (T_22.setTop (mkF m 48 #[vI (Int32.ofNat M), vR b1] []))
   have hm := own_by M hM 3 (by decide) hc23
   refine own_go (fun tgt kst => XS.aloadN X_22.here hx rfl (hb hby (dB1 29)) rfl rfl  kst) ?_
   refine own_go (fun tgt kst => XS.iconst X_22.here hx rfl (hb hby (dB1 30)) kst) ?_
   show OwnWk _ _ _ _ (T_22.setTop (mkF m 50 #[vI (Int32.ofNat M), vR b1] [(.int (3 : Int32)), (.ref b1)]))
   show OwnWk _ _ _ _ (T_22.setTop (mkF m 50 #[vI (Int32.ofNat M), vR b1] [(.int (Int32.ofNat 3)), (.ref b1)]))
   refine own_callV X_22 hx hZ (y := yN30) (z := yN30) hown (wq hw 187 rfl) (wq hw 188 rfl) (notFace_of_selects (args := #[]) (mvT hZ (wq hw 190 rfl))) (wq hw 190 rfl) (wq hw 189 rfl) (wq hw 7 rfl) (wq hw 191 rfl) (by decide) (a := b1) f_022 (argsL := [(.int (Int32.ofNat 3))]) (rest := [])  (h := h_22) (setB l Z a0 hw dce b1 wa11_ 3 (M % 2 ^ 3) h_22 n0 Z_22 O_22 S_d V_d S_a f_022 f_122 f_222 f_322 ne16 ge2 ga17 (by decide) (Nat.mod_lt _ (by decide))) e_22 (W := 0) (by decide) (by decide) (by decide) (by decide) rfl (by rw [hml]; rfl) (lenOf pd_1 rfl) rfl (by show 2 * 0 + _ ≤ _; exact Nat.le_of_eq rfl) (hb hby (dB1 31)) (fun v26 T26 h26 L26 X26 e26 hQ26 => ?_)
   obtain ⟨rfl, Nq26, Kq26, Fw26, Fu26, Vw26⟩ := hQ26
   have N26 := Fr.app N_22 Nq26
   have F27 := Exa.keep f_022 Kq26
   have F28 := Old.keep O_22 Kq26 (allS ge2 (allS ga17 all0))
   have Z29 := Nat.le_trans Z_22 Kq26.1
   have K30 := Keep.trans K_22 Kq26 (allS (Or.inr sz3) (allS (Or.inr sa18) all0))
   show OwnWk _ _ _ _ (T26.setTop (mkF m 53 #[vI (Int32.ofNat M), vR b1] []))
   have Fh31 : Fld Z h26 b1 "java/util/BitSet" "wordsInUse" "I" (.int (own_wu (M % 2 ^ 4))) := hm.symm ▸ Fu26
   have Fh32 : OAr Z h26 wa11_ .long [(.long (Int64.ofNat (M % 2 ^ 4)))] := hm.symm ▸ Vw26
   exact B4  _ _ _  X26 e26 N26 Z29 K30 F28 F27 Fw26 Fh31 Fh32
 have B2 : ∀ (T_ : State) (h_ : Heap) (L_ : List Loc), Stand p l e ({ frames := 3, cells := 2, slots := 4, locals := 42 } : Room) s m #[(.int (Int32.ofNat M))] below meth c T_ L_ 2 4 → T_.heap = h_ → Fr n0 L_ → n0 ≤ h_.size → Keep h0 h_ [] → Old Z n0 h_ → Exa Z h_ b1 "java/util/BitSet" → Fld Z h_ b1 "java/util/BitSet" "words" "[J" (.ref wa11_) → Fld Z h_ b1 "java/util/BitSet" "wordsInUse" "I" (.int (own_wu (M % 2 ^ 2))) → OAr Z h_ wa11_ .long [(.long (Int64.ofNat (M % 2 ^ 2)))] →
     OwnWk p e below (OwnP s (Q_bts Z dce M h0 n0) ({ frames := 3, cells := 2, slots := 4, locals := 42 } : Room).cells ({ frames := 3, cells := 2, slots := 4, locals := 42 } : Room).slots) (T_.setTop (mkF m 30 #[vI (Int32.ofNat M), vR b1] [])) := by
  intro  T_33 h_33 L_33  X_33 e_33 N_33 Z_33 K_33 O_33 f_033 f_133 f_233 f_333
  show OwnWk _ _ _ _ (T_33.setTop (mkF m 30 #[vI (Int32.ofNat M), vR b1] []))
  refine own_go (fun tgt kst => XS.iloadN X_33.here hx rfl (hb hby (dB1 18)) rfl  kst) ?_
  refine own_go (fun tgt kst => XS.iconst X_33.here hx rfl (hb hby (dB1 19)) kst) ?_
  refine own_go (fun tgt kst => XS.iand X_33.here hx rfl (hb hby (dB1 20)) rfl kst) ?_
  show OwnWk _ _ _ _ (T_33.setTop (mkF m 33 #[vI (Int32.ofNat M), vR b1] [(.int ((Int32.ofNat M) &&& (4 : Int32)))]))
  by_cases hc34 : ((Int32.ofNat M) &&& (4 : Int32)) = (0 : Int32)
  ·
   refine own_go (fun tgt kst => XS.ifYes X_33.here hx rfl (pc0 := 33) (pc' := 41) rfl (hb hby (dB1 21)) rfl ((if0 _ _).trans (teq hc34).1) (by decide) (by decide) kst) ?_
   show OwnWk _ _ _ _ (T_33.setTop (mkF m 41 #[vI (Int32.ofNat M), vR b1] []))
   have hm := own_bn M hM 2 (by decide) hc34
   have Fh35 : Fld Z h_33 b1 "java/util/BitSet" "wordsInUse" "I" (.int (own_wu (M % 2 ^ 3))) := hm.symm ▸ f_233
   have Fh36 : OAr Z h_33 wa11_ .long [(.long (Int64.ofNat (M % 2 ^ 3)))] := hm.symm ▸ f_333
   exact B3  _ _ _  X_33 e_33 N_33 Z_33 K_33 O_33 f_033 f_133 Fh35 Fh36
  ·
   refine own_go (fun tgt kst => XS.ifNo X_33.here hx rfl (hb hby (dB1 21)) rfl ((if0 _ _).trans (feq hc34).1) kst) ?_
   show OwnWk _ _ _ _ (T_33.setTop (mkF m 36 #[vI (Int32.ofNat M), vR b1] []))
   have hm := own_by M hM 2 (by decide) hc34
   refine own_go (fun tgt kst => XS.aloadN X_33.here hx rfl (hb hby (dB1 22)) rfl rfl  kst) ?_
   refine own_go (fun tgt kst => XS.iconst X_33.here hx rfl (hb hby (dB1 23)) kst) ?_
   show OwnWk _ _ _ _ (T_33.setTop (mkF m 38 #[vI (Int32.ofNat M), vR b1] [(.int (2 : Int32)), (.ref b1)]))
   show OwnWk _ _ _ _ (T_33.setTop (mkF m 38 #[vI (Int32.ofNat M), vR b1] [(.int (Int32.ofNat 2)), (.ref b1)]))
   refine own_callV X_33 hx hZ (y := yN30) (z := yN30) hown (wq hw 187 rfl) (wq hw 188 rfl) (notFace_of_selects (args := #[]) (mvT hZ (wq hw 190 rfl))) (wq hw 190 rfl) (wq hw 189 rfl) (wq hw 7 rfl) (wq hw 191 rfl) (by decide) (a := b1) f_033 (argsL := [(.int (Int32.ofNat 2))]) (rest := [])  (h := h_33) (setB l Z a0 hw dce b1 wa11_ 2 (M % 2 ^ 2) h_33 n0 Z_33 O_33 S_d V_d S_a f_033 f_133 f_233 f_333 ne16 ge2 ga17 (by decide) (Nat.mod_lt _ (by decide))) e_33 (W := 0) (by decide) (by decide) (by decide) (by decide) rfl (by rw [hml]; rfl) (lenOf pd_1 rfl) rfl (by show 2 * 0 + _ ≤ _; exact Nat.le_of_eq rfl) (hb hby (dB1 24)) (fun v37 T37 h37 L37 X37 e37 hQ37 => ?_)
   obtain ⟨rfl, Nq37, Kq37, Fw37, Fu37, Vw37⟩ := hQ37
   have N37 := Fr.app N_33 Nq37
   have F38 := Exa.keep f_033 Kq37
   have F39 := Old.keep O_33 Kq37 (allS ge2 (allS ga17 all0))
   have Z40 := Nat.le_trans Z_33 Kq37.1
   have K41 := Keep.trans K_33 Kq37 (allS (Or.inr sz3) (allS (Or.inr sa18) all0))
   show OwnWk _ _ _ _ (T37.setTop (mkF m 41 #[vI (Int32.ofNat M), vR b1] []))
   have Fh42 : Fld Z h37 b1 "java/util/BitSet" "wordsInUse" "I" (.int (own_wu (M % 2 ^ 3))) := hm.symm ▸ Fu37
   have Fh43 : OAr Z h37 wa11_ .long [(.long (Int64.ofNat (M % 2 ^ 3)))] := hm.symm ▸ Vw37
   exact B3  _ _ _  X37 e37 N37 Z40 K41 F39 F38 Fw37 Fh42 Fh43
 have B1 : ∀ (T_ : State) (h_ : Heap) (L_ : List Loc), Stand p l e ({ frames := 3, cells := 2, slots := 4, locals := 42 } : Room) s m #[(.int (Int32.ofNat M))] below meth c T_ L_ 2 4 → T_.heap = h_ → Fr n0 L_ → n0 ≤ h_.size → Keep h0 h_ [] → Old Z n0 h_ → Exa Z h_ b1 "java/util/BitSet" → Fld Z h_ b1 "java/util/BitSet" "words" "[J" (.ref wa11_) → Fld Z h_ b1 "java/util/BitSet" "wordsInUse" "I" (.int (own_wu (M % 2 ^ 1))) → OAr Z h_ wa11_ .long [(.long (Int64.ofNat (M % 2 ^ 1)))] →
     OwnWk p e below (OwnP s (Q_bts Z dce M h0 n0) ({ frames := 3, cells := 2, slots := 4, locals := 42 } : Room).cells ({ frames := 3, cells := 2, slots := 4, locals := 42 } : Room).slots) (T_.setTop (mkF m 19 #[vI (Int32.ofNat M), vR b1] [])) := by
  intro  T_44 h_44 L_44  X_44 e_44 N_44 Z_44 K_44 O_44 f_044 f_144 f_244 f_344
  show OwnWk _ _ _ _ (T_44.setTop (mkF m 19 #[vI (Int32.ofNat M), vR b1] []))
  refine own_go (fun tgt kst => XS.iloadN X_44.here hx rfl (hb hby (dB1 11)) rfl  kst) ?_
  refine own_go (fun tgt kst => XS.iconst X_44.here hx rfl (hb hby (dB1 12)) kst) ?_
  refine own_go (fun tgt kst => XS.iand X_44.here hx rfl (hb hby (dB1 13)) rfl kst) ?_
  show OwnWk _ _ _ _ (T_44.setTop (mkF m 22 #[vI (Int32.ofNat M), vR b1] [(.int ((Int32.ofNat M) &&& (2 : Int32)))]))
  by_cases hc45 : ((Int32.ofNat M) &&& (2 : Int32)) = (0 : Int32)
  ·
   refine own_go (fun tgt kst => XS.ifYes X_44.here hx rfl (pc0 := 22) (pc' := 30) rfl (hb hby (dB1 14)) rfl ((if0 _ _).trans (teq hc45).1) (by decide) (by decide) kst) ?_
   show OwnWk _ _ _ _ (T_44.setTop (mkF m 30 #[vI (Int32.ofNat M), vR b1] []))
   have hm := own_bn M hM 1 (by decide) hc45
   have Fh46 : Fld Z h_44 b1 "java/util/BitSet" "wordsInUse" "I" (.int (own_wu (M % 2 ^ 2))) := hm.symm ▸ f_244
   have Fh47 : OAr Z h_44 wa11_ .long [(.long (Int64.ofNat (M % 2 ^ 2)))] := hm.symm ▸ f_344
   exact B2  _ _ _  X_44 e_44 N_44 Z_44 K_44 O_44 f_044 f_144 Fh46 Fh47
  ·
   refine own_go (fun tgt kst => XS.ifNo X_44.here hx rfl (hb hby (dB1 14)) rfl ((if0 _ _).trans (feq hc45).1) kst) ?_
   show OwnWk _ _ _ _ (T_44.setTop (mkF m 25 #[vI (Int32.ofNat M), vR b1] []))
   have hm := own_by M hM 1 (by decide) hc45
   refine own_go (fun tgt kst => XS.aloadN X_44.here hx rfl (hb hby (dB1 15)) rfl rfl  kst) ?_
   refine own_go (fun tgt kst => XS.iconst X_44.here hx rfl (hb hby (dB1 16)) kst) ?_
   show OwnWk _ _ _ _ (T_44.setTop (mkF m 27 #[vI (Int32.ofNat M), vR b1] [(.int (1 : Int32)), (.ref b1)]))
   show OwnWk _ _ _ _ (T_44.setTop (mkF m 27 #[vI (Int32.ofNat M), vR b1] [(.int (Int32.ofNat 1)), (.ref b1)]))
   refine own_callV X_44 hx hZ (y := yN30) (z := yN30) hown (wq hw 187 rfl) (wq hw 188 rfl) (notFace_of_selects (args := #[]) (mvT hZ (wq hw 190 rfl))) (wq hw 190 rfl) (wq hw 189 rfl) (wq hw 7 rfl) (wq hw 191 rfl) (by decide) (a := b1) f_044 (argsL := [(.int (Int32.ofNat 1))]) (rest := [])  (h := h_44) (setB l Z a0 hw dce b1 wa11_ 1 (M % 2 ^ 1) h_44 n0 Z_44 O_44 S_d V_d S_a f_044 f_144 f_244 f_344 ne16 ge2 ga17 (by decide) (Nat.mod_lt _ (by decide))) e_44 (W := 0) (by decide) (by decide) (by decide) (by decide) rfl (by rw [hml]; rfl) (lenOf pd_1 rfl) rfl (by show 2 * 0 + _ ≤ _; exact Nat.le_of_eq rfl) (hb hby (dB1 17)) (fun v48 T48 h48 L48 X48 e48 hQ48 => ?_)
   obtain ⟨rfl, Nq48, Kq48, Fw48, Fu48, Vw48⟩ := hQ48
   have N48 := Fr.app N_44 Nq48
   have F49 := Exa.keep f_044 Kq48
   have F50 := Old.keep O_44 Kq48 (allS ge2 (allS ga17 all0))
   have Z51 := Nat.le_trans Z_44 Kq48.1
   have K52 := Keep.trans K_44 Kq48 (allS (Or.inr sz3) (allS (Or.inr sa18) all0))
   show OwnWk _ _ _ _ (T48.setTop (mkF m 30 #[vI (Int32.ofNat M), vR b1] []))
   have Fh53 : Fld Z h48 b1 "java/util/BitSet" "wordsInUse" "I" (.int (own_wu (M % 2 ^ 2))) := hm.symm ▸ Fu48
   have Fh54 : OAr Z h48 wa11_ .long [(.long (Int64.ofNat (M % 2 ^ 2)))] := hm.symm ▸ Vw48
   exact B2  _ _ _  X48 e48 N48 Z51 K52 F50 F49 Fw48 Fh53 Fh54
 have B0 : ∀ (T_ : State) (h_ : Heap) (L_ : List Loc), Stand p l e ({ frames := 3, cells := 2, slots := 4, locals := 42 } : Room) s m #[(.int (Int32.ofNat M))] below meth c T_ L_ 2 4 → T_.heap = h_ → Fr n0 L_ → n0 ≤ h_.size → Keep h0 h_ [] → Old Z n0 h_ → Exa Z h_ b1 "java/util/BitSet" → Fld Z h_ b1 "java/util/BitSet" "words" "[J" (.ref wa11_) → Fld Z h_ b1 "java/util/BitSet" "wordsInUse" "I" (.int (own_wu (M % 2 ^ 0))) → OAr Z h_ wa11_ .long [(.long (Int64.ofNat (M % 2 ^ 0)))] →
     OwnWk p e below (OwnP s (Q_bts Z dce M h0 n0) ({ frames := 3, cells := 2, slots := 4, locals := 42 } : Room).cells ({ frames := 3, cells := 2, slots := 4, locals := 42 } : Room).slots) (T_.setTop (mkF m 8 #[vI (Int32.ofNat M), vR b1] [])) := by
  intro  T_55 h_55 L_55  X_55 e_55 N_55 Z_55 K_55 O_55 f_055 f_155 f_255 f_355
  show OwnWk _ _ _ _ (T_55.setTop (mkF m 8 #[vI (Int32.ofNat M), vR b1] []))
  refine own_go (fun tgt kst => XS.iloadN X_55.here hx rfl (hb hby (dB1 4)) rfl  kst) ?_
  refine own_go (fun tgt kst => XS.iconst X_55.here hx rfl (hb hby (dB1 5)) kst) ?_
  refine own_go (fun tgt kst => XS.iand X_55.here hx rfl (hb hby (dB1 6)) rfl kst) ?_
  show OwnWk _ _ _ _ (T_55.setTop (mkF m 11 #[vI (Int32.ofNat M), vR b1] [(.int ((Int32.ofNat M) &&& (1 : Int32)))]))
  by_cases hc56 : ((Int32.ofNat M) &&& (1 : Int32)) = (0 : Int32)
  ·
   refine own_go (fun tgt kst => XS.ifYes X_55.here hx rfl (pc0 := 11) (pc' := 19) rfl (hb hby (dB1 7)) rfl ((if0 _ _).trans (teq hc56).1) (by decide) (by decide) kst) ?_
   show OwnWk _ _ _ _ (T_55.setTop (mkF m 19 #[vI (Int32.ofNat M), vR b1] []))
   have hm := own_bn M hM 0 (by decide) hc56
   have Fh57 : Fld Z h_55 b1 "java/util/BitSet" "wordsInUse" "I" (.int (own_wu (M % 2 ^ 1))) := hm.symm ▸ f_255
   have Fh58 : OAr Z h_55 wa11_ .long [(.long (Int64.ofNat (M % 2 ^ 1)))] := hm.symm ▸ f_355
   exact B1  _ _ _  X_55 e_55 N_55 Z_55 K_55 O_55 f_055 f_155 Fh57 Fh58
  ·
   refine own_go (fun tgt kst => XS.ifNo X_55.here hx rfl (hb hby (dB1 7)) rfl ((if0 _ _).trans (feq hc56).1) kst) ?_
   show OwnWk _ _ _ _ (T_55.setTop (mkF m 14 #[vI (Int32.ofNat M), vR b1] []))
   have hm := own_by M hM 0 (by decide) hc56
   refine own_go (fun tgt kst => XS.aloadN X_55.here hx rfl (hb hby (dB1 8)) rfl rfl  kst) ?_
   refine own_go (fun tgt kst => XS.iconst X_55.here hx rfl (hb hby (dB1 9)) kst) ?_
   show OwnWk _ _ _ _ (T_55.setTop (mkF m 16 #[vI (Int32.ofNat M), vR b1] [(.int (0 : Int32)), (.ref b1)]))
   show OwnWk _ _ _ _ (T_55.setTop (mkF m 16 #[vI (Int32.ofNat M), vR b1] [(.int (Int32.ofNat 0)), (.ref b1)]))
   refine own_callV X_55 hx hZ (y := yN30) (z := yN30) hown (wq hw 187 rfl) (wq hw 188 rfl) (notFace_of_selects (args := #[]) (mvT hZ (wq hw 190 rfl))) (wq hw 190 rfl) (wq hw 189 rfl) (wq hw 7 rfl) (wq hw 191 rfl) (by decide) (a := b1) f_055 (argsL := [(.int (Int32.ofNat 0))]) (rest := [])  (h := h_55) (setB l Z a0 hw dce b1 wa11_ 0 (M % 2 ^ 0) h_55 n0 Z_55 O_55 S_d V_d S_a f_055 f_155 f_255 f_355 ne16 ge2 ga17 (by decide) (Nat.mod_lt _ (by decide))) e_55 (W := 0) (by decide) (by decide) (by decide) (by decide) rfl (by rw [hml]; rfl) (lenOf pd_1 rfl) rfl (by show 2 * 0 + _ ≤ _; exact Nat.le_of_eq rfl) (hb hby (dB1 10)) (fun v59 T59 h59 L59 X59 e59 hQ59 => ?_)
   obtain ⟨rfl, Nq59, Kq59, Fw59, Fu59, Vw59⟩ := hQ59
   have N59 := Fr.app N_55 Nq59
   have F60 := Exa.keep f_055 Kq59
   have F61 := Old.keep O_55 Kq59 (allS ge2 (allS ga17 all0))
   have Z62 := Nat.le_trans Z_55 Kq59.1
   have K63 := Keep.trans K_55 Kq59 (allS (Or.inr sz3) (allS (Or.inr sa18) all0))
   show OwnWk _ _ _ _ (T59.setTop (mkF m 19 #[vI (Int32.ofNat M), vR b1] []))
   have Fh64 : Fld Z h59 b1 "java/util/BitSet" "wordsInUse" "I" (.int (own_wu (M % 2 ^ 1))) := hm.symm ▸ Fu59
   have Fh65 : OAr Z h59 wa11_ .long [(.long (Int64.ofNat (M % 2 ^ 1)))] := hm.symm ▸ Vw59
   exact B1  _ _ _  X59 e59 N59 Z62 K63 F61 F60 Fw59 Fh64 Fh65
 have Fh66 : Fld Z h11 b1 "java/util/BitSet" "wordsInUse" "I" (.int (own_wu (M % 2 ^ 0))) := by rw [own_m1]; exact Fu11
 have Fh67 : OAr Z h11 wa11_ .long [(.long (Int64.ofNat (M % 2 ^ 0)))] := by rw [own_m1]; exact Vw11
 show OwnWk _ _ _ _ (T11.setTop (mkF m 8 #[vI (Int32.ofNat M), vR b1] []))
 exact B0  _ _ _  X11 e11 N11 Z14 K15 F12 F13 Fw11 Fh66 Fh67
theorem pn_pn_34 : plainName "java/lang/Integer" = true := by first | (simp [plainName, overriddenIn]; done) | decide +kernel
theorem pn_34 : plainFor yN34 = true := plainFor_of_name pn_pn_34
abbrev tB34 : List (Nat × Instr × Nat) := [(0, .iload_n 0, 1), (1, .iconst (-1), 1), (2, .ixor, 1), (3, .iload_n 0, 1), (4, .iconst 1, 1), (5, .isub, 1), (6, .iand, 1), (7, .istore_n 0, 1), (8, .iload_n 0, 1), (9, .ifCond .gt 8, 3), (12, .iload_n 0, 1), (13, .bipush 32, 2), (15, .iand, 1), (16, .ireturn, 1), (17, .iconst 1, 1), (18, .istore_n 1, 1), (19, .iload_n 0, 1), (20, .ldc_w 264, 3), (23, .if_icmp .le 11, 3), (26, .iinc 1 16, 3), (29, .iload_n 0, 1), (30, .bipush 16, 2), (32, .iushr, 1), (33, .istore_n 0, 1), (34, .iload_n 0, 1), (35, .sipush 256, 3), (38, .if_icmp .le 11, 3), (41, .iinc 1 8, 3), (44, .iload_n 0, 1), (45, .bipush 8, 2), (47, .iushr, 1), (48, .istore_n 0, 1), (49, .iload_n 0, 1), (50, .bipush 16, 2), (52, .if_icmp .le 10, 3), (55, .iinc 1 4, 3), (58, .iload_n 0, 1), (59, .iconst 4, 1), (60, .iushr, 1), (61, .istore_n 0, 1), (62, .iload_n 0, 1), (63, .iconst 4, 1), (64, .if_icmp .le 10, 3), (67, .iinc 1 2, 3), (70, .iload_n 0, 1), (71, .iconst 2, 1), (72, .iushr, 1), (73, .istore_n 0, 1), (74, .iload_n 1, 1), (75, .iload_n 0, 1), (76, .iconst 1, 1), (77, .iushr, 1), (78, .iadd, 1), (79, .ireturn, 1)]
theorem dB34 (k : Fin 54) : decode jdk_33_method_48_code (tB34.getD k (0, .nop, 1)).1 = .ok (tB34.getD k (0, .nop, 1)).2 := by revert k; decide +kernel
theorem ef_ntzI (m : MethodId) (x0 : Int32) : entryFrame m #[(.int x0)] 2 = mkF m 0 #[vI x0, .unset] [] := by first | (simp [entryFrame, mkF, argsToLocals, Value.category]; done) | rfl
def Q_ntzI (Z : State) (D : Nat) (h0 : Heap) (n0 : Nat) (v : Option Value) (h : Heap) (L : List Loc) : Prop := v = some (.int (Int32.ofNat (own_tz D))) ∧ Fr n0 L ∧ h = h0
set_option maxRecDepth 65536 in
set_option maxHeartbeats 40000000 in
theorem ntzI (l : Launch) (Z : State) (a0 : Array Value) (hw : ∀ d ∈ tables_1, d.before a0 Z = true) (D : Nat) (h0 : Heap) (n0 : Nat) (Z0 : n0 ≤ h0.size) (hD : D < 16) (hD0 : 0 < D) :
    OwnMet l yN34 jdk_33_method_48_code 2 (some .int) [] ({ frames := 0, cells := 0, slots := 0, locals := 0 } : Room) Z #[(.int (Int32.ofNat D))] h0 (Q_ntzI Z D h0 n0) := by
 refine own_met pn_34 (fun p e s m below meth c s₁ hx hby hml hown hnm hret hlk hZ X0 e0 => ?_)
 have hown : s.vm.findClass "java/lang/Integer" = some m.cls := hown
 have N0 := Fr.nil n0
 rw [ef_ntzI]
 show OwnWk _ _ _ _ (s₁.setTop (mkF m 0 #[vI (Int32.ofNat D), uX] []))
 refine own_go (fun tgt kst => XS.iloadN X0.here hx rfl (hb hby (dB34 0)) rfl  kst) ?_
 refine own_go (fun tgt kst => XS.iconst X0.here hx rfl (hb hby (dB34 1)) kst) ?_
 refine own_go (fun tgt kst => XS.ixor X0.here hx rfl (hb hby (dB34 2)) rfl kst) ?_
 refine own_go (fun tgt kst => XS.iloadN X0.here hx rfl (hb hby (dB34 3)) rfl  kst) ?_
 refine own_go (fun tgt kst => XS.iconst X0.here hx rfl (hb hby (dB34 4)) kst) ?_
 refine own_go (fun tgt kst => XS.isub X0.here hx rfl (hb hby (dB34 5)) rfl kst) ?_
 show OwnWk _ _ _ _ (s₁.setTop (mkF m 6 #[vI (Int32.ofNat D), uX] [(.int ((Int32.ofNat D) - (1 : Int32))), (.int ((Int32.ofNat D) ^^^ (-1 : Int32)))]))
 refine own_go (fun tgt kst => XS.iand X0.here hx rfl (hb hby (dB34 6)) rfl kst) ?_
 show OwnWk _ _ _ _ (s₁.setTop (mkF m 7 #[vI (Int32.ofNat D), uX] [(.int (((Int32.ofNat D) ^^^ (-1 : Int32)) &&& ((Int32.ofNat D) - (1 : Int32))))]))
 rcases own_ntJ D hD hD0 with ⟨hJ, hT⟩ | ⟨hJ, hT⟩ | ⟨hJ, hT⟩ | ⟨hJ, hT⟩
 ·
  rw [hJ]
  show OwnWk _ _ _ _ (s₁.setTop (mkF m 7 #[vI (Int32.ofNat D), uX] [(.int (0 : Int32))]))
  refine own_go (fun tgt kst => XS.istoreN X0.here hx rfl (hb hby (dB34 7)) rfl (l' := #[vI (0 : Int32), uX]) rfl kst) ?_
  refine own_go (fun tgt kst => XS.iloadN X0.here hx rfl (hb hby (dB34 8)) rfl  kst) ?_
  refine own_go (fun tgt kst => XS.ifNo X0.here hx rfl (hb hby (dB34 9)) rfl ((if0 _ _).trans (flt (by decide : ¬ ((0 : Int32) < (0 : Int32)))).2.2.1) kst) ?_
  refine own_go (fun tgt kst => XS.iloadN X0.here hx rfl (hb hby (dB34 10)) rfl  kst) ?_
  refine own_go (fun tgt kst => XS.bipush X0.here hx rfl (hb hby (dB34 11)) kst) ?_
  refine own_go (fun tgt kst => XS.iand X0.here hx rfl (hb hby (dB34 12)) rfl kst) ?_
  show OwnWk _ _ _ _ (s₁.setTop (mkF m 16 #[vI (0 : Int32), uX] [(.int (0 : Int32))]))
  exact own_retI X0 hx hlk hret (hb hby (dB34 13)) (by decide) (by decide) (by rw [e0]; exact ⟨by rw [hT]; rfl, N0, rfl⟩)
 ·
  rw [hJ]
  show OwnWk _ _ _ _ (s₁.setTop (mkF m 7 #[vI (Int32.ofNat D), uX] [(.int (1 : Int32))]))
  refine own_go (fun tgt kst => XS.istoreN X0.here hx rfl (hb hby (dB34 7)) rfl (l' := #[vI (1 : Int32), uX]) rfl kst) ?_
  refine own_go (fun tgt kst => XS.iloadN X0.here hx rfl (hb hby (dB34 8)) rfl  kst) ?_
  refine own_go (fun tgt kst => XS.ifYes X0.here hx rfl (pc0 := 9) (pc' := 17) rfl (hb hby (dB34 9)) rfl ((if0 _ _).trans (tlt (by decide : (0 : Int32) < (1 : Int32))).2.2.1) (by decide) (by decide) kst) ?_
  refine own_go (fun tgt kst => XS.iconst X0.here hx rfl (hb hby (dB34 14)) kst) ?_
  refine own_go (fun tgt kst => XS.istoreN X0.here hx rfl (hb hby (dB34 15)) rfl (l' := #[vI (1 : Int32), vI (1 : Int32)]) rfl kst) ?_
  refine own_go (fun tgt kst => XS.iloadN X0.here hx rfl (hb hby (dB34 16)) rfl  kst) ?_
  show OwnWk _ _ _ _ (s₁.setTop (mkF m 20 #[vI (1 : Int32), vI (1 : Int32)] [(.int (1 : Int32))]))
  refine own_go (X0.ldcwInt hx hown (mvT hZ (wq hw 159 rfl)) (g := (mkF m 20 #[vI (1 : Int32), vI (1 : Int32)] [(.int (1 : Int32))])) rfl (hb hby (dB34 17))) ?_
  refine own_go (fun tgt kst => XS.icmpYes X0.here hx rfl (pc0 := 23) (pc' := 34) rfl (hb hby (dB34 18)) rfl (flt (by decide : ¬ ((65536 : Int32) < (1 : Int32)))).2.2.2 (by decide) (by decide) kst) ?_
  refine own_go (fun tgt kst => XS.iloadN X0.here hx rfl (hb hby (dB34 24)) rfl  kst) ?_
  refine own_go (fun tgt kst => XS.sipush X0.here hx rfl (hb hby (dB34 25)) kst) ?_
  refine own_go (fun tgt kst => XS.icmpYes X0.here hx rfl (pc0 := 38) (pc' := 49) rfl (hb hby (dB34 26)) rfl (flt (by decide : ¬ ((256 : Int32) < (1 : Int32)))).2.2.2 (by decide) (by decide) kst) ?_
  refine own_go (fun tgt kst => XS.iloadN X0.here hx rfl (hb hby (dB34 32)) rfl  kst) ?_
  show OwnWk _ _ _ _ (s₁.setTop (mkF m 50 #[vI (1 : Int32), vI (1 : Int32)] [(.int (1 : Int32))]))
  refine own_go (fun tgt kst => XS.bipush X0.here hx rfl (hb hby (dB34 33)) kst) ?_
  refine own_go (fun tgt kst => XS.icmpYes X0.here hx rfl (pc0 := 52) (pc' := 62) rfl (hb hby (dB34 34)) rfl (flt (by decide : ¬ ((16 : Int32) < (1 : Int32)))).2.2.2 (by decide) (by decide) kst) ?_
  refine own_go (fun tgt kst => XS.iloadN X0.here hx rfl (hb hby (dB34 40)) rfl  kst) ?_
  refine own_go (fun tgt kst => XS.iconst X0.here hx rfl (hb hby (dB34 41)) kst) ?_
  refine own_go (fun tgt kst => XS.icmpYes X0.here hx rfl (pc0 := 64) (pc' := 74) rfl (hb hby (dB34 42)) rfl (flt (by decide : ¬ ((4 : Int32) < (1 : Int32)))).2.2.2 (by decide) (by decide) kst) ?_
  refine own_go (fun tgt kst => XS.iloadN X0.here hx rfl (hb hby (dB34 48)) rfl  kst) ?_
  show OwnWk _ _ _ _ (s₁.setTop (mkF m 75 #[vI (1 : Int32), vI (1 : Int32)] [(.int (1 : Int32))]))
  refine own_go (fun tgt kst => XS.iloadN X0.here hx rfl (hb hby (dB34 49)) rfl  kst) ?_
  refine own_go (fun tgt kst => XS.iconst X0.here hx rfl (hb hby (dB34 50)) kst) ?_
  refine own_go (fun tgt kst => XS.iushr X0.here hx rfl (hb hby (dB34 51)) rfl kst) ?_
  refine own_go (fun tgt kst => XS.iadd X0.here hx rfl (hb hby (dB34 52)) rfl kst) ?_
  show OwnWk _ _ _ _ (s₁.setTop (mkF m 79 #[vI (1 : Int32), vI (1 : Int32)] [(.int ((1 : Int32) + (((1 : Int32).toUInt32 >>> ((1 : Int32) &&& 31).toUInt32).toInt32)))]))
  exact own_retI X0 hx hlk hret (hb hby (dB34 53)) (by decide) (by decide) (by rw [e0]; exact ⟨by rw [hT]; rfl, N0, rfl⟩)
 ·
  rw [hJ]
  show OwnWk _ _ _ _ (s₁.setTop (mkF m 7 #[vI (Int32.ofNat D), uX] [(.int (3 : Int32))]))
  refine own_go (fun tgt kst => XS.istoreN X0.here hx rfl (hb hby (dB34 7)) rfl (l' := #[vI (3 : Int32), uX]) rfl kst) ?_
  refine own_go (fun tgt kst => XS.iloadN X0.here hx rfl (hb hby (dB34 8)) rfl  kst) ?_
  refine own_go (fun tgt kst => XS.ifYes X0.here hx rfl (pc0 := 9) (pc' := 17) rfl (hb hby (dB34 9)) rfl ((if0 _ _).trans (tlt (by decide : (0 : Int32) < (3 : Int32))).2.2.1) (by decide) (by decide) kst) ?_
  refine own_go (fun tgt kst => XS.iconst X0.here hx rfl (hb hby (dB34 14)) kst) ?_
  refine own_go (fun tgt kst => XS.istoreN X0.here hx rfl (hb hby (dB34 15)) rfl (l' := #[vI (3 : Int32), vI (1 : Int32)]) rfl kst) ?_
  refine own_go (fun tgt kst => XS.iloadN X0.here hx rfl (hb hby (dB34 16)) rfl  kst) ?_
  show OwnWk _ _ _ _ (s₁.setTop (mkF m 20 #[vI (3 : Int32), vI (1 : Int32)] [(.int (3 : Int32))]))
  refine own_go (X0.ldcwInt hx hown (mvT hZ (wq hw 159 rfl)) (g := (mkF m 20 #[vI (3 : Int32), vI (1 : Int32)] [(.int (3 : Int32))])) rfl (hb hby (dB34 17))) ?_
  refine own_go (fun tgt kst => XS.icmpYes X0.here hx rfl (pc0 := 23) (pc' := 34) rfl (hb hby (dB34 18)) rfl (flt (by decide : ¬ ((65536 : Int32) < (3 : Int32)))).2.2.2 (by decide) (by decide) kst) ?_
  refine own_go (fun tgt kst => XS.iloadN X0.here hx rfl (hb hby (dB34 24)) rfl  kst) ?_
  refine own_go (fun tgt kst => XS.sipush X0.here hx rfl (hb hby (dB34 25)) kst) ?_
  refine own_go (fun tgt kst => XS.icmpYes X0.here hx rfl (pc0 := 38) (pc' := 49) rfl (hb hby (dB34 26)) rfl (flt (by decide : ¬ ((256 : Int32) < (3 : Int32)))).2.2.2 (by decide) (by decide) kst) ?_
  refine own_go (fun tgt kst => XS.iloadN X0.here hx rfl (hb hby (dB34 32)) rfl  kst) ?_
  show OwnWk _ _ _ _ (s₁.setTop (mkF m 50 #[vI (3 : Int32), vI (1 : Int32)] [(.int (3 : Int32))]))
  refine own_go (fun tgt kst => XS.bipush X0.here hx rfl (hb hby (dB34 33)) kst) ?_
  refine own_go (fun tgt kst => XS.icmpYes X0.here hx rfl (pc0 := 52) (pc' := 62) rfl (hb hby (dB34 34)) rfl (flt (by decide : ¬ ((16 : Int32) < (3 : Int32)))).2.2.2 (by decide) (by decide) kst) ?_
  refine own_go (fun tgt kst => XS.iloadN X0.here hx rfl (hb hby (dB34 40)) rfl  kst) ?_
  refine own_go (fun tgt kst => XS.iconst X0.here hx rfl (hb hby (dB34 41)) kst) ?_
  refine own_go (fun tgt kst => XS.icmpYes X0.here hx rfl (pc0 := 64) (pc' := 74) rfl (hb hby (dB34 42)) rfl (flt (by decide : ¬ ((4 : Int32) < (3 : Int32)))).2.2.2 (by decide) (by decide) kst) ?_
  refine own_go (fun tgt kst => XS.iloadN X0.here hx rfl (hb hby (dB34 48)) rfl  kst) ?_
  show OwnWk _ _ _ _ (s₁.setTop (mkF m 75 #[vI (3 : Int32), vI (1 : Int32)] [(.int (1 : Int32))]))
  refine own_go (fun tgt kst => XS.iloadN X0.here hx rfl (hb hby (dB34 49)) rfl  kst) ?_
  refine own_go (fun tgt kst => XS.iconst X0.here hx rfl (hb hby (dB34 50)) kst) ?_
  refine own_go (fun tgt kst => XS.iushr X0.here hx rfl (hb hby (dB34 51)) rfl kst) ?_
  refine own_go (fun tgt kst => XS.iadd X0.here hx rfl (hb hby (dB34 52)) rfl kst) ?_
  show OwnWk _ _ _ _ (s₁.setTop (mkF m 79 #[vI (3 : Int32), vI (1 : Int32)] [(.int ((1 : Int32) + (((3 : Int32).toUInt32 >>> ((1 : Int32) &&& 31).toUInt32).toInt32)))]))
  exact own_retI X0 hx hlk hret (hb hby (dB34 53)) (by decide) (by decide) (by rw [e0]; exact ⟨by rw [hT]; rfl, N0, rfl⟩)
 ·
  rw [hJ]
  show OwnWk _ _ _ _ (s₁.setTop (mkF m 7 #[vI (Int32.ofNat D), uX] [(.int (7 : Int32))]))
  refine own_go (fun tgt kst => XS.istoreN X0.here hx rfl (hb hby (dB34 7)) rfl (l' := #[vI (7 : Int32), uX]) rfl kst) ?_
  refine own_go (fun tgt kst => XS.iloadN X0.here hx rfl (hb hby (dB34 8)) rfl  kst) ?_
  refine own_go (fun tgt kst => XS.ifYes X0.here hx rfl (pc0 := 9) (pc' := 17) rfl (hb hby (dB34 9)) rfl ((if0 _ _).trans (tlt (by decide : (0 : Int32) < (7 : Int32))).2.2.1) (by decide) (by decide) kst) ?_
  refine own_go (fun tgt kst => XS.iconst X0.here hx rfl (hb hby (dB34 14)) kst) ?_
  refine own_go (fun tgt kst => XS.istoreN X0.here hx rfl (hb hby (dB34 15)) rfl (l' := #[vI (7 : Int32), vI (1 : Int32)]) rfl kst) ?_
  refine own_go (fun tgt kst => XS.iloadN X0.here hx rfl (hb hby (dB34 16)) rfl  kst) ?_
  show OwnWk _ _ _ _ (s₁.setTop (mkF m 20 #[vI (7 : Int32), vI (1 : Int32)] [(.int (7 : Int32))]))
  refine own_go (X0.ldcwInt hx hown (mvT hZ (wq hw 159 rfl)) (g := (mkF m 20 #[vI (7 : Int32), vI (1 : Int32)] [(.int (7 : Int32))])) rfl (hb hby (dB34 17))) ?_
  refine own_go (fun tgt kst => XS.icmpYes X0.here hx rfl (pc0 := 23) (pc' := 34) rfl (hb hby (dB34 18)) rfl (flt (by decide : ¬ ((65536 : Int32) < (7 : Int32)))).2.2.2 (by decide) (by decide) kst) ?_
  refine own_go (fun tgt kst => XS.iloadN X0.here hx rfl (hb hby (dB34 24)) rfl  kst) ?_
  refine own_go (fun tgt kst => XS.sipush X0.here hx rfl (hb hby (dB34 25)) kst) ?_
  refine own_go (fun tgt kst => XS.icmpYes X0.here hx rfl (pc0 := 38) (pc' := 49) rfl (hb hby (dB34 26)) rfl (flt (by decide : ¬ ((256 : Int32) < (7 : Int32)))).2.2.2 (by decide) (by decide) kst) ?_
  refine own_go (fun tgt kst => XS.iloadN X0.here hx rfl (hb hby (dB34 32)) rfl  kst) ?_
  show OwnWk _ _ _ _ (s₁.setTop (mkF m 50 #[vI (7 : Int32), vI (1 : Int32)] [(.int (7 : Int32))]))
  refine own_go (fun tgt kst => XS.bipush X0.here hx rfl (hb hby (dB34 33)) kst) ?_
  refine own_go (fun tgt kst => XS.icmpYes X0.here hx rfl (pc0 := 52) (pc' := 62) rfl (hb hby (dB34 34)) rfl (flt (by decide : ¬ ((16 : Int32) < (7 : Int32)))).2.2.2 (by decide) (by decide) kst) ?_
  refine own_go (fun tgt kst => XS.iloadN X0.here hx rfl (hb hby (dB34 40)) rfl  kst) ?_
  refine own_go (fun tgt kst => XS.iconst X0.here hx rfl (hb hby (dB34 41)) kst) ?_
  refine own_go (fun tgt kst => XS.icmpNo X0.here hx rfl (hb hby (dB34 42)) rfl (tlt (by decide : (4 : Int32) < (7 : Int32))).2.2.2 kst) ?_
  refine own_go (fun tgt kst => XS.iinc X0.here hx rfl (hb hby (dB34 43)) rfl (l' := #[vI (7 : Int32), vI (3 : Int32)]) rfl kst) ?_
  show OwnWk _ _ _ _ (s₁.setTop (mkF m 70 #[vI (7 : Int32), vI (3 : Int32)] []))
  refine own_go (fun tgt kst => XS.iloadN X0.here hx rfl (hb hby (dB34 44)) rfl  kst) ?_
  refine own_go (fun tgt kst => XS.iconst X0.here hx rfl (hb hby (dB34 45)) kst) ?_
  refine own_go (fun tgt kst => XS.iushr X0.here hx rfl (hb hby (dB34 46)) rfl kst) ?_
  refine own_go (fun tgt kst => XS.istoreN X0.here hx rfl (hb hby (dB34 47)) rfl (l' := #[vI (((7 : Int32).toUInt32 >>> ((2 : Int32) &&& 31).toUInt32).toInt32), vI (3 : Int32)]) rfl kst) ?_
  refine own_go (fun tgt kst => XS.iloadN X0.here hx rfl (hb hby (dB34 48)) rfl  kst) ?_
  refine own_go (fun tgt kst => XS.iloadN X0.here hx rfl (hb hby (dB34 49)) rfl  kst) ?_
  show OwnWk _ _ _ _ (s₁.setTop (mkF m 76 #[vI (((7 : Int32).toUInt32 >>> ((2 : Int32) &&& 31).toUInt32).toInt32), vI (3 : Int32)] [(.int (((7 : Int32).toUInt32 >>> ((2 : Int32) &&& 31).toUInt32).toInt32)), (.int (3 : Int32))]))
  refine own_go (fun tgt kst => XS.iconst X0.here hx rfl (hb hby (dB34 50)) kst) ?_
  refine own_go (fun tgt kst => XS.iushr X0.here hx rfl (hb hby (dB34 51)) rfl kst) ?_
  refine own_go (fun tgt kst => XS.iadd X0.here hx rfl (hb hby (dB34 52)) rfl kst) ?_
  show OwnWk _ _ _ _ (s₁.setTop (mkF m 79 #[vI (((7 : Int32).toUInt32 >>> ((2 : Int32) &&& 31).toUInt32).toInt32), vI (3 : Int32)] [(.int ((3 : Int32) + (((((7 : Int32).toUInt32 >>> ((2 : Int32) &&& 31).toUInt32).toInt32).toUInt32 >>> ((1 : Int32) &&& 31).toUInt32).toInt32)))]))
  exact own_retI X0 hx hlk hret (hb hby (dB34 53)) (by decide) (by decide) (by rw [e0]; exact ⟨by rw [hT]; rfl, N0, rfl⟩)
theorem pn_pn_33 : plainName "java/lang/Long" = true := by first | (simp [plainName, overriddenIn]; done) | decide +kernel
theorem pn_33 : plainFor yN33 = true := plainFor_of_name pn_pn_33
abbrev tB33 : List (Nat × Instr × Nat) := [(0, .lload_n 0, 1), (1, .l2i, 1), (2, .istore_n 2, 1), (3, .iload_n 2, 1), (4, .ifCond .ne 17, 3), (7, .bipush 32, 2), (9, .lload_n 0, 1), (10, .bipush 32, 2), (12, .lushr, 1), (13, .l2i, 1), (14, .invokestatic 311, 3), (17, .iadd, 1), (18, .goto 7, 3), (21, .iload_n 2, 1), (22, .invokestatic 311, 3), (25, .ireturn, 1)]
theorem dB33 (k : Fin 16) : decode jdk_35_method_49_code (tB33.getD k (0, .nop, 1)).1 = .ok (tB33.getD k (0, .nop, 1)).2 := by revert k; decide +kernel
theorem ef_ntzL (m : MethodId) (x0 : Int64) : entryFrame m #[(.long x0)] 3 = mkF m 0 #[vJ x0, .second, .unset] [] := by first | (simp [entryFrame, mkF, argsToLocals, Value.category]; done) | rfl
def Q_ntzL (Z : State) (D : Nat) (h0 : Heap) (n0 : Nat) (v : Option Value) (h : Heap) (L : List Loc) : Prop := v = some (.int (Int32.ofNat (own_tz D))) ∧ Fr n0 L ∧ h = h0
set_option maxRecDepth 65536 in
set_option maxHeartbeats 40000000 in
theorem ntzL (l : Launch) (Z : State) (a0 : Array Value) (hw : ∀ d ∈ tables_1, d.before a0 Z = true) (D : Nat) (h0 : Heap) (n0 : Nat) (Z0 : n0 ≤ h0.size) (hD : D < 16) (hD0 : 0 < D) :
    OwnMet l yN33 jdk_35_method_49_code 3 (some .int) [] ({ frames := 1, cells := 0, slots := 0, locals := 13 } : Room) Z #[(.long (Int64.ofNat D))] h0 (Q_ntzL Z D h0 n0) := by
 refine own_met pn_33 (fun p e s m below meth c s₁ hx hby hml hown hnm hret hlk hZ X0 e0 => ?_)
 have hown : s.vm.findClass "java/lang/Long" = some m.cls := hown
 have N0 := Fr.nil n0
 rw [ef_ntzL]
 show OwnWk _ _ _ _ (s₁.setTop (mkF m 0 #[vJ (Int64.ofNat D), sX, uX] []))
 refine own_go (fun tgt kst => XS.lloadN X0.here hx rfl (hb hby (dB33 0)) rfl  kst) ?_
 refine own_go (fun tgt kst => XS.l2i X0.here hx rfl (hb hby (dB33 1)) rfl kst) ?_
 show OwnWk _ _ _ _ (s₁.setTop (mkF m 2 #[vJ (Int64.ofNat D), sX, uX] [(.int ((Int64.ofNat D).toInt32))]))
 rw [own_lo16 D hD]
 show OwnWk _ _ _ _ (s₁.setTop (mkF m 2 #[vJ (Int64.ofNat D), sX, uX] [(.int (Int32.ofNat D))]))
 refine own_go (fun tgt kst => XS.istoreN X0.here hx rfl (hb hby (dB33 2)) rfl (l' := #[vJ (Int64.ofNat D), sX, vI (Int32.ofNat D)]) rfl kst) ?_
 refine own_go (fun tgt kst => XS.iloadN X0.here hx rfl (hb hby (dB33 3)) rfl  kst) ?_
 show OwnWk _ _ _ _ (s₁.setTop (mkF m 4 #[vJ (Int64.ofNat D), sX, vI (Int32.ofNat D)] [(.int (Int32.ofNat D))]))
 refine own_go (fun tgt kst => XS.ifYes X0.here hx rfl (pc0 := 4) (pc' := 21) rfl (hb hby (dB33 4)) rfl ((if0 _ _).trans (feq (own_i016 D hD hD0)).2) (by decide) (by decide) kst) ?_
 show OwnWk _ _ _ _ (s₁.setTop (mkF m 21 #[vJ (Int64.ofNat D), sX, vI (Int32.ofNat D)] []))
 refine own_go (fun tgt kst => XS.iloadN X0.here hx rfl (hb hby (dB33 13)) rfl  kst) ?_
 show OwnWk _ _ _ _ (s₁.setTop (mkF m 22 #[vJ (Int64.ofNat D), sX, vI (Int32.ofNat D)] [(.int (Int32.ofNat D))]))
 refine own_callS X0 hx hZ (y := yN34) hown (wq hw 207 rfl) (wq hw 208 rfl) (wq hw 153 rfl) (wq hw 209 rfl) (by decide) (argsL := [(.int (Int32.ofNat D))]) (rest := [])  (h := h0) (ntzI l Z a0 hw D h0 n0 Z0 hD hD0) e0 (W := 0) (by decide) (by decide) (by decide) (by decide) rfl (by rw [hml]; rfl) (lenOf pd_0 rfl) rfl (by show 2 * 0 + _ ≤ _; exact Nat.le_of_eq rfl) (hb hby (dB33 14)) (fun v1 T1 h1 L1 X1 e1 hQ1 => ?_)
 obtain ⟨rfl, Nq1, q1⟩ := hQ1
 have N1 := Fr.app N0 Nq1
 rw [q1] at e1
 show OwnWk _ _ _ _ (T1.setTop (mkF m 25 #[vJ (Int64.ofNat D), sX, vI (Int32.ofNat D)] [(.int (Int32.ofNat (own_tz D)))]))
 exact own_retI X1 hx hlk hret (hb hby (dB33 15)) (by decide) (by decide) (by rw [e1]; exact ⟨rfl, N1, rfl⟩)
theorem pn_pn_20 : plainName "java/util/BitSet" = true := by first | (simp [plainName, overriddenIn]; done) | decide +kernel
theorem pn_20 : plainFor yN20 = true := plainFor_of_name pn_pn_20
abbrev tB20 : List (Nat × Instr × Nat) := [(0, .iload_n 1, 1), (1, .ifCond .ge 30, 3), (4, .new 142, 3), (7, .dup, 1), (8, .new 33, 3), (11, .dup, 1), (12, .invokespecial 35, 3), (15, .ldc 144, 2), (17, .invokevirtual 38, 3), (20, .iload_n 1, 1), (21, .invokevirtual 42, 3), (24, .invokevirtual 45, 3), (27, .invokespecial 146, 3), (30, .athrow, 1), (31, .aload_n 0, 1), (32, .invokevirtual 56, 3), (35, .iload_n 1, 1), (36, .invokestatic 52, 3), (39, .istore_n 2, 1), (40, .iload_n 2, 1), (41, .aload_n 0, 1), (42, .getfield 7, 3), (45, .if_icmp .lt 5, 3), (48, .iconst (-1), 1), (49, .ireturn, 1), (50, .aload_n 0, 1), (51, .getfield 11, 3), (54, .iload_n 2, 1), (55, .laload, 1), (56, .ldc2_w 165, 3), (59, .iload_n 1, 1), (60, .lshl, 1), (61, .land, 1), (62, .lstore_n 3, 1), (63, .lload_n 3, 1), (64, .lconst 0, 1), (65, .lcmp, 1), (66, .ifCond .eq 13, 3), (69, .iload_n 2, 1), (70, .bipush 64, 2), (72, .imul, 1), (73, .lload_n 3, 1), (74, .invokestatic 182, 3), (77, .iadd, 1), (78, .ireturn, 1), (79, .iinc 2 1, 3), (82, .iload_n 2, 1), (83, .aload_n 0, 1), (84, .getfield 7, 3), (87, .if_icmp .ne 5, 3), (90, .iconst (-1), 1), (91, .ireturn, 1), (92, .aload_n 0, 1), (93, .getfield 11, 3), (96, .iload_n 2, 1), (97, .laload, 1), (98, .lstore_n 3, 1), (99, .goto (-36), 3)]
theorem dB20 (k : Fin 58) : decode jdk_92_method_28_code (tB20.getD k (0, .nop, 1)).1 = .ok (tB20.getD k (0, .nop, 1)).2 := by revert k; decide +kernel
theorem pd_3 : parseMethodDescriptor "(J)I" = some ⟨[.long], some .int⟩ := by decide +kernel
theorem ef_nsb (m : MethodId) (x0 : Addr) (x1 : Int32) : entryFrame m #[(.ref x0), (.int x1)] 5 = mkF m 0 #[vR x0, vI x1, .unset, .unset, .unset] [] := by first | (simp [entryFrame, mkF, argsToLocals, Value.category]; done) | rfl
def Q_nsb (Z : State) (dce : Addr) (bs wa : Addr) (M I : Nat) (h0 : Heap) (n0 : Nat) (v : Option Value) (h : Heap) (L : List Loc) : Prop := v = some (.int (own_nsb M I)) ∧ Fr n0 L ∧ h = h0
set_option maxRecDepth 65536 in
set_option maxHeartbeats 40000000 in
theorem nsb (l : Launch) (Z : State) (a0 : Array Value) (hw : ∀ d ∈ tables_1, d.before a0 Z = true) (dce : Addr) (bs wa : Addr) (M I : Nat) (h0 : Heap) (n0 : Nat) (Z0 : n0 ≤ h0.size) (O0 : Old Z n0 h0) (S_d : Sta Z Z.heap "java/util/ArrayList" "DEFAULTCAPACITY_EMPTY_ELEMENTDATA" "[Ljava/lang/Object;" (.ref dce)) (V_d : OAr Z Z.heap dce (.object "java/lang/Object") []) (S_a : Sta Z Z.heap "java/util/BitSet" "$assertionsDisabled" "Z" (.int (1 : Int32))) (pf0 : Exa Z h0 bs "java/util/BitSet") (pf1 : Fld Z h0 bs "java/util/BitSet" "words" "[J" (.ref wa)) (pf2 : Fld Z h0 bs "java/util/BitSet" "wordsInUse" "I" (.int (own_wu M))) (pf3 : OAr Z h0 wa .long [(.long (Int64.ofNat M))]) (hM : M < 16) (hI : I < 5) :
    OwnMet l yN20 jdk_92_method_28_code 5 (some .int) [] ({ frames := 2, cells := 0, slots := 0, locals := 28 } : Room) Z #[(.ref bs), (.int (Int32.ofNat I))] h0 (Q_nsb Z dce bs wa M I h0 n0) := by
 refine own_met pn_20 (fun p e s m below meth c s₁ hx hby hml hown hnm hret hlk hZ X0 e0 => ?_)
 have hown : s.vm.findClass "java/util/BitSet" = some m.cls := hown
 have N0 := Fr.nil n0
 rw [ef_nsb]
 show OwnWk _ _ _ _ (s₁.setTop (mkF m 0 #[vR bs, vI (Int32.ofNat I), uX, uX, uX] []))
 by_cases hM0 : M = 0
 ·
  have Fu1 : Fld Z h0 bs "java/util/BitSet" "wordsInUse" "I" (.int (0 : Int32)) := own_wu0 hM0 ▸ pf2
  show OwnWk _ _ _ _ (s₁.setTop (mkF m 0 #[vR bs, vI (Int32.ofNat I), uX, uX, uX] []))
  refine own_go (fun tgt kst => XS.iloadN X0.here hx rfl (hb hby (dB20 0)) rfl  kst) ?_
  show OwnWk _ _ _ _ (s₁.setTop (mkF m 1 #[vR bs, vI (Int32.ofNat I), uX, uX, uX] [(.int (Int32.ofNat I))]))
  refine own_go (fun tgt kst => XS.ifYes X0.here hx rfl (pc0 := 1) (pc' := 31) rfl (hb hby (dB20 1)) rfl ((if0 _ _).trans (flt (own_n_nn (by omega))).2.1) (by decide) (by decide) kst) ?_
  show OwnWk _ _ _ _ (s₁.setTop (mkF m 31 #[vR bs, vI (Int32.ofNat I), uX, uX, uX] []))
  refine own_go (fun tgt kst => XS.aloadN X0.here hx rfl (hb hby (dB20 14)) rfl rfl  kst) ?_
  show OwnWk _ _ _ _ (s₁.setTop (mkF m 32 #[vR bs, vI (Int32.ofNat I), uX, uX, uX] [(.ref bs)]))
  refine own_callP X0 hx hZ (y := yN21) hown (wq hw 139 rfl) (wq hw 140 rfl) (wq hw 142 rfl) (wq hw 141 rfl) (wq hw 7 rfl) (wq hw 143 rfl) (by decide) (a := bs) pf0 (argsL := []) (rest := [])  (h := h0) (chk l Z a0 hw dce bs h0 n0 Z0 O0 S_d V_d S_a) e0 (W := 0) (by decide) (by decide) (by decide) (by decide) rfl (by rw [hml]; rfl) (lenOf pd_2 rfl) rfl (by show 2 * 0 + _ ≤ _; exact Nat.le_of_eq rfl) (hb hby (dB20 15)) (fun v2 T2 h2 L2 X2 e2 hQ2 => ?_)
  obtain ⟨rfl, Nq2, q2⟩ := hQ2
  have N2 := Fr.app N0 Nq2
  rw [q2] at e2
  show OwnWk _ _ _ _ (T2.setTop (mkF m 35 #[vR bs, vI (Int32.ofNat I), uX, uX, uX] []))
  refine own_go (fun tgt kst => XS.iloadN X2.here hx rfl (hb hby (dB20 16)) rfl  kst) ?_
  show OwnWk _ _ _ _ (T2.setTop (mkF m 36 #[vR bs, vI (Int32.ofNat I), uX, uX, uX] [(.int (Int32.ofNat I))]))
  refine own_callS X2 hx hZ (y := yN5) hown (wq hw 23 rfl) (wq hw 24 rfl) (wq hw 7 rfl) (wq hw 25 rfl) (by decide) (argsL := [(.int (Int32.ofNat I))]) (rest := [])  (h := h0) (rm5 l Z a0 hw (Int32.ofNat I) h0 n0 Z0) e2 (W := 0) (by decide) (by decide) (by decide) (by decide) rfl (by rw [hml]; rfl) (lenOf pd_0 rfl) rfl (by show 2 * 0 + _ ≤ _; exact Nat.le_of_eq rfl) (hb hby (dB20 17)) (fun v3 T3 h3 L3 X3 e3 hQ3 => ?_)
  obtain ⟨rfl, Nq3, q3⟩ := hQ3
  have N3 := Fr.app N2 Nq3
  rw [q3] at e3
  show OwnWk _ _ _ _ (T3.setTop (mkF m 39 #[vR bs, vI (Int32.ofNat I), uX, uX, uX] [(.int ((Int32.ofNat I) >>> ((6 : Int32) &&& 31)))]))
  rw [own_w6 I hI]
  show OwnWk _ _ _ _ (T3.setTop (mkF m 39 #[vR bs, vI (Int32.ofNat I), uX, uX, uX] [(.int (0 : Int32))]))
  refine own_go (fun tgt kst => XS.istoreN X3.here hx rfl (hb hby (dB20 18)) rfl (l' := #[vR bs, vI (Int32.ofNat I), vI (0 : Int32), uX, uX]) rfl kst) ?_
  refine own_go (fun tgt kst => XS.iloadN X3.here hx rfl (hb hby (dB20 19)) rfl  kst) ?_
  refine own_go (fun tgt kst => XS.aloadN X3.here hx rfl (hb hby (dB20 20)) rfl rfl  kst) ?_
  refine own_gF X3 hx hZ hown (wq hw 14 rfl) Via.refl e3 Fu1 rfl rfl (hb hby (dB20 21)) fun T4 X4 e4 => ?_
  refine own_go (fun tgt kst => XS.icmpNo X4.here hx rfl (hb hby (dB20 22)) rfl (flt (by decide : ¬ ((0 : Int32) < (0 : Int32)))).1 kst) ?_
  refine own_go (fun tgt kst => XS.iconst X4.here hx rfl (hb hby (dB20 23)) kst) ?_
  show OwnWk _ _ _ _ (T4.setTop (mkF m 49 #[vR bs, vI (Int32.ofNat I), vI (0 : Int32), uX, uX] [(.int (-1 : Int32))]))
  exact own_retI X4 hx hlk hret (hb hby (dB20 24)) (by decide) (by decide) (by rw [e4]; exact ⟨by rw [hM0, own_nsb0 I hI], N3, rfl⟩)
 ·
  have Fu5 : Fld Z h0 bs "java/util/BitSet" "wordsInUse" "I" (.int (1 : Int32)) := own_wu1 hM0 ▸ pf2
  show OwnWk _ _ _ _ (s₁.setTop (mkF m 0 #[vR bs, vI (Int32.ofNat I), uX, uX, uX] []))
  refine own_go (fun tgt kst => XS.iloadN X0.here hx rfl (hb hby (dB20 0)) rfl  kst) ?_
  show OwnWk _ _ _ _ (s₁.setTop (mkF m 1 #[vR bs, vI (Int32.ofNat I), uX, uX, uX] [(.int (Int32.ofNat I))]))
  refine own_go (fun tgt kst => XS.ifYes X0.here hx rfl (pc0 := 1) (pc' := 31) rfl (hb hby (dB20 1)) rfl ((if0 _ _).trans (flt (own_n_nn (by omega))).2.1) (by decide) (by decide) kst) ?_
  show OwnWk _ _ _ _ (s₁.setTop (mkF m 31 #[vR bs, vI (Int32.ofNat I), uX, uX, uX] []))
  refine own_go (fun tgt kst => XS.aloadN X0.here hx rfl (hb hby (dB20 14)) rfl rfl  kst) ?_
  show OwnWk _ _ _ _ (s₁.setTop (mkF m 32 #[vR bs, vI (Int32.ofNat I), uX, uX, uX] [(.ref bs)]))
  refine own_callP X0 hx hZ (y := yN21) hown (wq hw 139 rfl) (wq hw 140 rfl) (wq hw 142 rfl) (wq hw 141 rfl) (wq hw 7 rfl) (wq hw 143 rfl) (by decide) (a := bs) pf0 (argsL := []) (rest := [])  (h := h0) (chk l Z a0 hw dce bs h0 n0 Z0 O0 S_d V_d S_a) e0 (W := 0) (by decide) (by decide) (by decide) (by decide) rfl (by rw [hml]; rfl) (lenOf pd_2 rfl) rfl (by show 2 * 0 + _ ≤ _; exact Nat.le_of_eq rfl) (hb hby (dB20 15)) (fun v6 T6 h6 L6 X6 e6 hQ6 => ?_)
  obtain ⟨rfl, Nq6, q6⟩ := hQ6
  have N6 := Fr.app N0 Nq6
  rw [q6] at e6
  show OwnWk _ _ _ _ (T6.setTop (mkF m 35 #[vR bs, vI (Int32.ofNat I), uX, uX, uX] []))
  refine own_go (fun tgt kst => XS.iloadN X6.here hx rfl (hb hby (dB20 16)) rfl  kst) ?_
  show OwnWk _ _ _ _ (T6.setTop (mkF m 36 #[vR bs, vI (Int32.ofNat I), uX, uX, uX] [(.int (Int32.ofNat I))]))
  refine own_callS X6 hx hZ (y := yN5) hown (wq hw 23 rfl) (wq hw 24 rfl) (wq hw 7 rfl) (wq hw 25 rfl) (by decide) (argsL := [(.int (Int32.ofNat I))]) (rest := [])  (h := h0) (rm5 l Z a0 hw (Int32.ofNat I) h0 n0 Z0) e6 (W := 0) (by decide) (by decide) (by decide) (by decide) rfl (by rw [hml]; rfl) (lenOf pd_0 rfl) rfl (by show 2 * 0 + _ ≤ _; exact Nat.le_of_eq rfl) (hb hby (dB20 17)) (fun v7 T7 h7 L7 X7 e7 hQ7 => ?_)
  obtain ⟨rfl, Nq7, q7⟩ := hQ7
  have N7 := Fr.app N6 Nq7
  rw [q7] at e7
  show OwnWk _ _ _ _ (T7.setTop (mkF m 39 #[vR bs, vI (Int32.ofNat I), uX, uX, uX] [(.int ((Int32.ofNat I) >>> ((6 : Int32) &&& 31)))]))
  rw [own_w6 I hI]
  show OwnWk _ _ _ _ (T7.setTop (mkF m 39 #[vR bs, vI (Int32.ofNat I), uX, uX, uX] [(.int (0 : Int32))]))
  refine own_go (fun tgt kst => XS.istoreN X7.here hx rfl (hb hby (dB20 18)) rfl (l' := #[vR bs, vI (Int32.ofNat I), vI (0 : Int32), uX, uX]) rfl kst) ?_
  refine own_go (fun tgt kst => XS.iloadN X7.here hx rfl (hb hby (dB20 19)) rfl  kst) ?_
  refine own_go (fun tgt kst => XS.aloadN X7.here hx rfl (hb hby (dB20 20)) rfl rfl  kst) ?_
  refine own_gF X7 hx hZ hown (wq hw 14 rfl) Via.refl e7 Fu5 rfl rfl (hb hby (dB20 21)) fun T8 X8 e8 => ?_
  refine own_go (fun tgt kst => XS.icmpYes X8.here hx rfl (pc0 := 45) (pc' := 50) rfl (hb hby (dB20 22)) rfl (tlt (by decide : (0 : Int32) < (1 : Int32))).1 (by decide) (by decide) kst) ?_
  refine own_go (fun tgt kst => XS.aloadN X8.here hx rfl (hb hby (dB20 25)) rfl rfl  kst) ?_
  refine own_gF X8 hx hZ hown (wq hw 27 rfl) Via.refl e8 pf1 rfl rfl (hb hby (dB20 26)) fun T9 X9 e9 => ?_
  refine own_go (fun tgt kst => XS.iloadN X9.here hx rfl (hb hby (dB20 27)) rfl  kst) ?_
  refine own_ldJ X9 hx hZ e9 pf3 rfl rfl (hb hby (dB20 28)) (v := (.long (Int64.ofNat M))) (by decide) rfl ?_
  refine own_go (X9.ldc2Long hx hown (mvT hZ (wq hw 202 rfl)) (g := (mkF m 56 #[vR bs, vI (Int32.ofNat I), vI (0 : Int32), uX, uX] [(.long (Int64.ofNat M))])) rfl (hb hby (dB20 29))) ?_
  refine own_go (fun tgt kst => XS.iloadN X9.here hx rfl (hb hby (dB20 30)) rfl  kst) ?_
  refine own_go (fun tgt kst => XS.lshl X9.here hx rfl (hb hby (dB20 31)) rfl kst) ?_
  show OwnWk _ _ _ _ (T9.setTop (mkF m 61 #[vR bs, vI (Int32.ofNat I), vI (0 : Int32), uX, uX] [(.long ((-1 : Int64) <<< ((Int32.ofNat I) &&& 0x3f).toInt64)), (.long (Int64.ofNat M))]))
  refine own_go (fun tgt kst => XS.land X9.here hx rfl (hb hby (dB20 32)) rfl kst) ?_
  show OwnWk _ _ _ _ (T9.setTop (mkF m 62 #[vR bs, vI (Int32.ofNat I), vI (0 : Int32), uX, uX] [(.long ((Int64.ofNat M) &&& ((-1 : Int64) <<< ((Int32.ofNat I) &&& 0x3f).toInt64)))]))
  rw [own_wd M hM I hI]
  show OwnWk _ _ _ _ (T9.setTop (mkF m 62 #[vR bs, vI (Int32.ofNat I), vI (0 : Int32), uX, uX] [(.long (Int64.ofNat (M / 2 ^ I * 2 ^ I)))]))
  refine own_go (fun tgt kst => XS.lstoreN X9.here hx rfl (hb hby (dB20 33)) rfl (l' := #[vR bs, vI (Int32.ofNat I), vI (0 : Int32), vJ (Int64.ofNat (M / 2 ^ I * 2 ^ I)), sX]) rfl kst) ?_
  refine own_go (fun tgt kst => XS.lloadN X9.here hx rfl (hb hby (dB20 34)) rfl  kst) ?_
  refine own_go (fun tgt kst => XS.lconst X9.here hx rfl (hb hby (dB20 35)) kst) ?_
  refine own_go (fun tgt kst => XS.lcmp X9.here hx rfl (hb hby (dB20 36)) rfl kst) ?_
  show OwnWk _ _ _ _ (T9.setTop (mkF m 66 #[vR bs, vI (Int32.ofNat I), vI (0 : Int32), vJ (Int64.ofNat (M / 2 ^ I * 2 ^ I)), sX] [(.int (lcmpW (Int64.ofNat (M / 2 ^ I * 2 ^ I)) (0 : Int64)))]))
  by_cases hc10 : (Int64.ofNat (M / 2 ^ I * 2 ^ I)) = (0 : Int64)
  ·
   refine own_go (fun tgt kst => XS.ifYes X9.here hx rfl (pc0 := 66) (pc' := 79) rfl (hb hby (dB20 37)) rfl ((if0 _ _).trans (teq (own_lc_eq.mpr hc10)).1) (by decide) (by decide) kst) ?_
   show OwnWk _ _ _ _ (T9.setTop (mkF m 79 #[vR bs, vI (Int32.ofNat I), vI (0 : Int32), vJ (Int64.ofNat (M / 2 ^ I * 2 ^ I)), sX] []))
   refine own_go (fun tgt kst => XS.iinc X9.here hx rfl (hb hby (dB20 45)) rfl (l' := #[vR bs, vI (Int32.ofNat I), vI (1 : Int32), vJ (Int64.ofNat (M / 2 ^ I * 2 ^ I)), sX]) rfl kst) ?_
   refine own_go (fun tgt kst => XS.iloadN X9.here hx rfl (hb hby (dB20 46)) rfl  kst) ?_
   refine own_go (fun tgt kst => XS.aloadN X9.here hx rfl (hb hby (dB20 47)) rfl rfl  kst) ?_
   refine own_gF X9 hx hZ hown (wq hw 14 rfl) Via.refl e9 Fu5 rfl rfl (hb hby (dB20 48)) fun T11 X11 e11 => ?_
   refine own_go (fun tgt kst => XS.icmpNo X11.here hx rfl (hb hby (dB20 49)) rfl (teq (by decide : (1 : Int32) = (1 : Int32))).2 kst) ?_
   refine own_go (fun tgt kst => XS.iconst X11.here hx rfl (hb hby (dB20 50)) kst) ?_
   show OwnWk _ _ _ _ (T11.setTop (mkF m 91 #[vR bs, vI (Int32.ofNat I), vI (1 : Int32), vJ (Int64.ofNat (M / 2 ^ I * 2 ^ I)), sX] [(.int (-1 : Int32))]))
   exact own_retI X11 hx hlk hret (hb hby (dB20 51)) (by decide) (by decide) (by rw [e11]; exact ⟨congrArg (fun z => some (Value.int z)) (if_pos (own_l016 _ (own_wd16 hM) hc10)).symm, N7, rfl⟩)
  ·
   refine own_go (fun tgt kst => XS.ifNo X9.here hx rfl (hb hby (dB20 37)) rfl ((if0 _ _).trans (feq (fun q => hc10 (own_lc_eq.mp q))).1) kst) ?_
   show OwnWk _ _ _ _ (T9.setTop (mkF m 69 #[vR bs, vI (Int32.ofNat I), vI (0 : Int32), vJ (Int64.ofNat (M / 2 ^ I * 2 ^ I)), sX] []))
   have hDz : ¬ (M / 2 ^ I * 2 ^ I) = 0 := fun z => hc10 (by rw [z]; rfl)
   refine own_go (fun tgt kst => XS.iloadN X9.here hx rfl (hb hby (dB20 38)) rfl  kst) ?_
   refine own_go (fun tgt kst => XS.bipush X9.here hx rfl (hb hby (dB20 39)) kst) ?_
   refine own_go (fun tgt kst => XS.imul X9.here hx rfl (hb hby (dB20 40)) rfl kst) ?_
   refine own_go (fun tgt kst => XS.lloadN X9.here hx rfl (hb hby (dB20 41)) rfl  kst) ?_
   show OwnWk _ _ _ _ (T9.setTop (mkF m 74 #[vR bs, vI (Int32.ofNat I), vI (0 : Int32), vJ (Int64.ofNat (M / 2 ^ I * 2 ^ I)), sX] [(.long (Int64.ofNat (M / 2 ^ I * 2 ^ I))), (.int (0 : Int32))]))
   refine own_callS X9 hx hZ (y := yN33) hown (wq hw 203 rfl) (wq hw 204 rfl) (wq hw 205 rfl) (wq hw 206 rfl) (by decide) (argsL := [(.long (Int64.ofNat (M / 2 ^ I * 2 ^ I)))]) (rest := [(.int (0 : Int32))])  (h := h0) (ntzL l Z a0 hw (M / 2 ^ I * 2 ^ I) h0 n0 Z0 (own_wd16 hM) (Nat.pos_of_ne_zero hDz)) e9 (W := 1) (by decide) (by decide) (by decide) (by decide) rfl (by rw [hml]; rfl) (lenOf pd_3 rfl) rfl (by show 2 * 0 + _ ≤ _; exact Nat.le_of_eq rfl) (hb hby (dB20 42)) (fun v12 T12 h12 L12 X12 e12 hQ12 => ?_)
   obtain ⟨rfl, Nq12, q12⟩ := hQ12
   have N12 := Fr.app N7 Nq12
   rw [q12] at e12
   show OwnWk _ _ _ _ (T12.setTop (mkF m 77 #[vR bs, vI (Int32.ofNat I), vI (0 : Int32), vJ (Int64.ofNat (M / 2 ^ I * 2 ^ I)), sX] [(.int (Int32.ofNat (own_tz (M / 2 ^ I * 2 ^ I)))), (.int (0 : Int32))]))
   refine own_go (fun tgt kst => XS.iadd X12.here hx rfl (hb hby (dB20 43)) rfl kst) ?_
   show OwnWk _ _ _ _ (T12.setTop (mkF m 78 #[vR bs, vI (Int32.ofNat I), vI (0 : Int32), vJ (Int64.ofNat (M / 2 ^ I * 2 ^ I)), sX] [(.int ((0 : Int32) + (Int32.ofNat (own_tz (M / 2 ^ I * 2 ^ I)))))]))
   exact own_retI X12 hx hlk hret (hb hby (dB20 44)) (by decide) (by decide) (by rw [e12]; exact ⟨congrArg (fun z => some (Value.int z)) (if_neg hDz).symm, N12, rfl⟩)
theorem pn_pn_35 : plainName "java/lang/Long" = true := by first | (simp [plainName, overriddenIn]; done) | decide +kernel
theorem pn_35 : plainFor yN35 = true := plainFor_of_name pn_pn_35
abbrev tB35 : List (Nat × Instr × Nat) := [(0, .lload_n 0, 1), (1, .lload_n 0, 1), (2, .iconst 1, 1), (3, .lushr, 1), (4, .ldc2_w 314, 3), (7, .land, 1), (8, .lsub, 1), (9, .lstore_n 0, 1), (10, .lload_n 0, 1), (11, .ldc2_w 316, 3), (14, .land, 1), (15, .lload_n 0, 1), (16, .iconst 2, 1), (17, .lushr, 1), (18, .ldc2_w 316, 3), (21, .land, 1), (22, .ladd, 1), (23, .lstore_n 0, 1), (24, .lload_n 0, 1), (25, .lload_n 0, 1), (26, .iconst 4, 1), (27, .lushr, 1), (28, .ladd, 1), (29, .ldc2_w 318, 3), (32, .land, 1), (33, .lstore_n 0, 1), (34, .lload_n 0, 1), (35, .lload_n 0, 1), (36, .bipush 8, 2), (38, .lushr, 1), (39, .ladd, 1), (40, .lstore_n 0, 1), (41, .lload_n 0, 1), (42, .lload_n 0, 1), (43, .bipush 16, 2), (45, .lushr, 1), (46, .ladd, 1), (47, .lstore_n 0, 1), (48, .lload_n 0, 1), (49, .lload_n 0, 1), (50, .bipush 32, 2), (52, .lushr, 1), (53, .ladd, 1), (54, .lstore_n 0, 1), (55, .lload_n 0, 1), (56, .l2i, 1), (57, .bipush 127, 2), (59, .iand, 1), (60, .ireturn, 1)]
theorem dB35 (k : Fin 49) : decode jdk_35_method_50_code (tB35.getD k (0, .nop, 1)).1 = .ok (tB35.getD k (0, .nop, 1)).2 := by revert k; decide +kernel
theorem ef_bct (m : MethodId) (x0 : Int64) : entryFrame m #[(.long x0)] 2 = mkF m 0 #[vJ x0, .second] [] := by first | (simp [entryFrame, mkF, argsToLocals, Value.category]; done) | rfl
def Q_bct (Z : State) (a : Int64) (h0 : Heap) (n0 : Nat) (v : Option Value) (h : Heap) (L : List Loc) : Prop := (∃ r : Int32, v = some (.int r)) ∧ Fr n0 L ∧ h = h0
set_option maxRecDepth 65536 in
set_option maxHeartbeats 40000000 in
theorem bct (l : Launch) (Z : State) (a0 : Array Value) (hw : ∀ d ∈ tables_1, d.before a0 Z = true) (a : Int64) (h0 : Heap) (n0 : Nat) (Z0 : n0 ≤ h0.size)  :
    OwnMet l yN35 jdk_35_method_50_code 2 (some .int) [] ({ frames := 0, cells := 0, slots := 0, locals := 0 } : Room) Z #[(.long a)] h0 (Q_bct Z a h0 n0) := by
 refine own_met pn_35 (fun p e s m below meth c s₁ hx hby hml hown hnm hret hlk hZ X0 e0 => ?_)
 have hown : s.vm.findClass "java/lang/Long" = some m.cls := hown
 have N0 := Fr.nil n0
 rw [ef_bct]
 show OwnWk _ _ _ _ (s₁.setTop (mkF m 0 #[vJ a, sX] []))
 refine own_go (fun tgt kst => XS.lloadN X0.here hx rfl (hb hby (dB35 0)) rfl  kst) ?_
 refine own_go (fun tgt kst => XS.lloadN X0.here hx rfl (hb hby (dB35 1)) rfl  kst) ?_
 refine own_go (fun tgt kst => XS.iconst X0.here hx rfl (hb hby (dB35 2)) kst) ?_
 refine own_go (fun tgt kst => XS.lushr X0.here hx rfl (hb hby (dB35 3)) rfl kst) ?_
 refine own_go (X0.ldc2Long hx hown (mvT hZ (wq hw 213 rfl)) (g := (mkF m 4 #[vJ a, sX] [(.long ((a.toUInt64 >>> ((1 : Int32) &&& 0x3f).toInt64.toUInt64).toInt64)), (.long a)])) rfl (hb hby (dB35 4))) ?_
 refine own_go (fun tgt kst => XS.land X0.here hx rfl (hb hby (dB35 5)) rfl kst) ?_
 show OwnWk _ _ _ _ (s₁.setTop (mkF m 8 #[vJ a, sX] [(.long (((a.toUInt64 >>> ((1 : Int32) &&& 0x3f).toInt64.toUInt64).toInt64) &&& (6148914691236517205 : Int64))), (.long a)]))
 refine own_go (fun tgt kst => XS.lsub X0.here hx rfl (hb hby (dB35 6)) rfl kst) ?_
 show OwnWk _ _ _ _ (s₁.setTop (mkF m 9 #[vJ a, sX] [(.long (a - (((a.toUInt64 >>> ((1 : Int32) &&& 0x3f).toInt64.toUInt64).toInt64) &&& (6148914691236517205 : Int64))))]))
 obtain ⟨bc9, h_bc9⟩ : ∃ z : Int64, z = (a - (((a.toUInt64 >>> ((1 : Int32) &&& 0x3f).toInt64.toUInt64).toInt64) &&& (6148914691236517205 : Int64))) := ⟨_, rfl⟩
 rw [← h_bc9]
 refine own_go (fun tgt kst => XS.lstoreN X0.here hx rfl (hb hby (dB35 7)) rfl (l' := #[vJ bc9, sX]) rfl kst) ?_
 refine own_go (fun tgt kst => XS.lloadN X0.here hx rfl (hb hby (dB35 8)) rfl  kst) ?_
 refine own_go (X0.ldc2Long hx hown (mvT hZ (wq hw 214 rfl)) (g := (mkF m 11 #[vJ bc9, sX] [(.long bc9)])) rfl (hb hby (dB35 9))) ?_
 refine own_go (fun tgt kst => XS.land X0.here hx rfl (hb hby (dB35 10)) rfl kst) ?_
 refine own_go (fun tgt kst => XS.lloadN X0.here hx rfl (hb hby (dB35 11)) rfl  kst) ?_
 refine own_go (fun tgt kst => XS.iconst X0.here hx rfl (hb hby (dB35 12)) kst) ?_
 show OwnWk _ _ _ _ (s₁.setTop (mkF m 17 #[vJ bc9, sX] [(.int (2 : Int32)), (.long bc9), (.long (bc9 &&& (3689348814741910323 : Int64)))]))
 refine own_go (fun tgt kst => XS.lushr X0.here hx rfl (hb hby (dB35 13)) rfl kst) ?_
 refine own_go (X0.ldc2Long hx hown (mvT hZ (wq hw 214 rfl)) (g := (mkF m 18 #[vJ bc9, sX] [(.long ((bc9.toUInt64 >>> ((2 : Int32) &&& 0x3f).toInt64.toUInt64).toInt64)), (.long (bc9 &&& (3689348814741910323 : Int64)))])) rfl (hb hby (dB35 14))) ?_
 refine own_go (fun tgt kst => XS.land X0.here hx rfl (hb hby (dB35 15)) rfl kst) ?_
 refine own_go (fun tgt kst => XS.ladd X0.here hx rfl (hb hby (dB35 16)) rfl kst) ?_
 show OwnWk _ _ _ _ (s₁.setTop (mkF m 23 #[vJ bc9, sX] [(.long ((bc9 &&& (3689348814741910323 : Int64)) + (((bc9.toUInt64 >>> ((2 : Int32) &&& 0x3f).toInt64.toUInt64).toInt64) &&& (3689348814741910323 : Int64))))]))
 obtain ⟨bc23, h_bc23⟩ : ∃ z : Int64, z = ((bc9 &&& (3689348814741910323 : Int64)) + (((bc9.toUInt64 >>> ((2 : Int32) &&& 0x3f).toInt64.toUInt64).toInt64) &&& (3689348814741910323 : Int64))) := ⟨_, rfl⟩
 rw [← h_bc23]
 refine own_go (fun tgt kst => XS.lstoreN X0.here hx rfl (hb hby (dB35 17)) rfl (l' := #[vJ bc23, sX]) rfl kst) ?_
 refine own_go (fun tgt kst => XS.lloadN X0.here hx rfl (hb hby (dB35 18)) rfl  kst) ?_
 refine own_go (fun tgt kst => XS.lloadN X0.here hx rfl (hb hby (dB35 19)) rfl  kst) ?_
 refine own_go (fun tgt kst => XS.iconst X0.here hx rfl (hb hby (dB35 20)) kst) ?_
 refine own_go (fun tgt kst => XS.lushr X0.here hx rfl (hb hby (dB35 21)) rfl kst) ?_
 refine own_go (fun tgt kst => XS.ladd X0.here hx rfl (hb hby (dB35 22)) rfl kst) ?_
 show OwnWk _ _ _ _ (s₁.setTop (mkF m 29 #[vJ bc23, sX] [(.long (bc23 + ((bc23.toUInt64 >>> ((4 : Int32) &&& 0x3f).toInt64.toUInt64).toInt64)))]))
 refine own_go (X0.ldc2Long hx hown (mvT hZ (wq hw 215 rfl)) (g := (mkF m 29 #[vJ bc23, sX] [(.long (bc23 + ((bc23.toUInt64 >>> ((4 : Int32) &&& 0x3f).toInt64.toUInt64).toInt64)))])) rfl (hb hby (dB35 23))) ?_
 refine own_go (fun tgt kst => XS.land X0.here hx rfl (hb hby (dB35 24)) rfl kst) ?_
 show OwnWk _ _ _ _ (s₁.setTop (mkF m 33 #[vJ bc23, sX] [(.long ((bc23 + ((bc23.toUInt64 >>> ((4 : Int32) &&& 0x3f).toInt64.toUInt64).toInt64)) &&& (1085102592571150095 : Int64)))]))
 obtain ⟨bc33, h_bc33⟩ : ∃ z : Int64, z = ((bc23 + ((bc23.toUInt64 >>> ((4 : Int32) &&& 0x3f).toInt64.toUInt64).toInt64)) &&& (1085102592571150095 : Int64)) := ⟨_, rfl⟩
 rw [← h_bc33]
 refine own_go (fun tgt kst => XS.lstoreN X0.here hx rfl (hb hby (dB35 25)) rfl (l' := #[vJ bc33, sX]) rfl kst) ?_
 refine own_go (fun tgt kst => XS.lloadN X0.here hx rfl (hb hby (dB35 26)) rfl  kst) ?_
 refine own_go (fun tgt kst => XS.lloadN X0.here hx rfl (hb hby (dB35 27)) rfl  kst) ?_
 refine own_go (fun tgt kst => XS.bipush X0.here hx rfl (hb hby (dB35 28)) kst) ?_
 refine own_go (fun tgt kst => XS.lushr X0.here hx rfl (hb hby (dB35 29)) rfl kst) ?_
 refine own_go (fun tgt kst => XS.ladd X0.here hx rfl (hb hby (dB35 30)) rfl kst) ?_
 show OwnWk _ _ _ _ (s₁.setTop (mkF m 40 #[vJ bc33, sX] [(.long (bc33 + ((bc33.toUInt64 >>> ((8 : Int32) &&& 0x3f).toInt64.toUInt64).toInt64)))]))
 obtain ⟨bc40, h_bc40⟩ : ∃ z : Int64, z = (bc33 + ((bc33.toUInt64 >>> ((8 : Int32) &&& 0x3f).toInt64.toUInt64).toInt64)) := ⟨_, rfl⟩
 rw [← h_bc40]
 refine own_go (fun tgt kst => XS.lstoreN X0.here hx rfl (hb hby (dB35 31)) rfl (l' := #[vJ bc40, sX]) rfl kst) ?_
 refine own_go (fun tgt kst => XS.lloadN X0.here hx rfl (hb hby (dB35 32)) rfl  kst) ?_
 refine own_go (fun tgt kst => XS.lloadN X0.here hx rfl (hb hby (dB35 33)) rfl  kst) ?_
 refine own_go (fun tgt kst => XS.bipush X0.here hx rfl (hb hby (dB35 34)) kst) ?_
 refine own_go (fun tgt kst => XS.lushr X0.here hx rfl (hb hby (dB35 35)) rfl kst) ?_
 refine own_go (fun tgt kst => XS.ladd X0.here hx rfl (hb hby (dB35 36)) rfl kst) ?_
 show OwnWk _ _ _ _ (s₁.setTop (mkF m 47 #[vJ bc40, sX] [(.long (bc40 + ((bc40.toUInt64 >>> ((16 : Int32) &&& 0x3f).toInt64.toUInt64).toInt64)))]))
 obtain ⟨bc47, h_bc47⟩ : ∃ z : Int64, z = (bc40 + ((bc40.toUInt64 >>> ((16 : Int32) &&& 0x3f).toInt64.toUInt64).toInt64)) := ⟨_, rfl⟩
 rw [← h_bc47]
 refine own_go (fun tgt kst => XS.lstoreN X0.here hx rfl (hb hby (dB35 37)) rfl (l' := #[vJ bc47, sX]) rfl kst) ?_
 refine own_go (fun tgt kst => XS.lloadN X0.here hx rfl (hb hby (dB35 38)) rfl  kst) ?_
 refine own_go (fun tgt kst => XS.lloadN X0.here hx rfl (hb hby (dB35 39)) rfl  kst) ?_
 refine own_go (fun tgt kst => XS.bipush X0.here hx rfl (hb hby (dB35 40)) kst) ?_
 refine own_go (fun tgt kst => XS.lushr X0.here hx rfl (hb hby (dB35 41)) rfl kst) ?_
 refine own_go (fun tgt kst => XS.ladd X0.here hx rfl (hb hby (dB35 42)) rfl kst) ?_
 show OwnWk _ _ _ _ (s₁.setTop (mkF m 54 #[vJ bc47, sX] [(.long (bc47 + ((bc47.toUInt64 >>> ((32 : Int32) &&& 0x3f).toInt64.toUInt64).toInt64)))]))
 obtain ⟨bc54, h_bc54⟩ : ∃ z : Int64, z = (bc47 + ((bc47.toUInt64 >>> ((32 : Int32) &&& 0x3f).toInt64.toUInt64).toInt64)) := ⟨_, rfl⟩
 rw [← h_bc54]
 refine own_go (fun tgt kst => XS.lstoreN X0.here hx rfl (hb hby (dB35 43)) rfl (l' := #[vJ bc54, sX]) rfl kst) ?_
 refine own_go (fun tgt kst => XS.lloadN X0.here hx rfl (hb hby (dB35 44)) rfl  kst) ?_
 refine own_go (fun tgt kst => XS.l2i X0.here hx rfl (hb hby (dB35 45)) rfl kst) ?_
 refine own_go (fun tgt kst => XS.bipush X0.here hx rfl (hb hby (dB35 46)) kst) ?_
 refine own_go (fun tgt kst => XS.iand X0.here hx rfl (hb hby (dB35 47)) rfl kst) ?_
 show OwnWk _ _ _ _ (s₁.setTop (mkF m 60 #[vJ bc54, sX] [(.int ((bc54.toInt32) &&& (127 : Int32)))]))
 exact own_retI X0 hx hlk hret (hb hby (dB35 48)) (by decide) (by decide) (by rw [e0]; exact ⟨⟨_, rfl⟩, N0, rfl⟩)
theorem pn_pn_22 : plainName "java/util/BitSet" = true := by first | (simp [plainName, overriddenIn]; done) | decide +kernel
theorem pn_22 : plainFor yN22 = true := plainFor_of_name pn_pn_22
abbrev tB22 : List (Nat × Instr × Nat) := [(0, .iconst 0, 1), (1, .istore_n 1, 1), (2, .iconst 0, 1), (3, .istore_n 2, 1), (4, .iload_n 2, 1), (5, .aload_n 0, 1), (6, .getfield 7, 3), (9, .if_icmp .ge 21, 3), (12, .iload_n 1, 1), (13, .aload_n 0, 1), (14, .getfield 11, 3), (17, .iload_n 2, 1), (18, .laload, 1), (19, .invokestatic 196, 3), (22, .iadd, 1), (23, .istore_n 1, 1), (24, .iinc 2 1, 3), (27, .goto (-23), 3), (30, .iload_n 1, 1), (31, .ireturn, 1)]
theorem dB22 (k : Fin 20) : decode jdk_92_method_35_code (tB22.getD k (0, .nop, 1)).1 = .ok (tB22.getD k (0, .nop, 1)).2 := by revert k; decide +kernel
theorem ef_card (m : MethodId) (x0 : Addr) : entryFrame m #[(.ref x0)] 3 = mkF m 0 #[vR x0, .unset, .unset] [] := by first | (simp [entryFrame, mkF, argsToLocals, Value.category]; done) | rfl
def Q_card (Z : State) (bs wa : Addr) (M : Nat) (h0 : Heap) (n0 : Nat) (v : Option Value) (h : Heap) (L : List Loc) : Prop := (∃ r : Int32, v = some (.int r)) ∧ Fr n0 L ∧ h = h0
set_option maxRecDepth 65536 in
set_option maxHeartbeats 40000000 in
theorem card (l : Launch) (Z : State) (a0 : Array Value) (hw : ∀ d ∈ tables_1, d.before a0 Z = true) (bs wa : Addr) (M : Nat) (h0 : Heap) (n0 : Nat) (Z0 : n0 ≤ h0.size) (pf0 : Exa Z h0 bs "java/util/BitSet") (pf1 : Fld Z h0 bs "java/util/BitSet" "words" "[J" (.ref wa)) (pf2 : Fld Z h0 bs "java/util/BitSet" "wordsInUse" "I" (.int (own_wu M))) (pf3 : OAr Z h0 wa .long [(.long (Int64.ofNat M))]) :
    OwnMet l yN22 jdk_92_method_35_code 3 (some .int) [] ({ frames := 1, cells := 0, slots := 0, locals := 14 } : Room) Z #[(.ref bs)] h0 (Q_card Z bs wa M h0 n0) := by
 refine own_met pn_22 (fun p e s m below meth c s₁ hx hby hml hown hnm hret hlk hZ X0 e0 => ?_)
 have hown : s.vm.findClass "java/util/BitSet" = some m.cls := hown
 have N0 := Fr.nil n0
 rw [ef_card]
 show OwnWk _ _ _ _ (s₁.setTop (mkF m 0 #[vR bs, uX, uX] []))
 by_cases hM0 : M = 0
 ·
  have Fu1 : Fld Z h0 bs "java/util/BitSet" "wordsInUse" "I" (.int (0 : Int32)) := own_wu0 hM0 ▸ pf2
  show OwnWk _ _ _ _ (s₁.setTop (mkF m 0 #[vR bs, uX, uX] []))
  refine own_go (fun tgt kst => XS.iconst X0.here hx rfl (hb hby (dB22 0)) kst) ?_
  refine own_go (fun tgt kst => XS.istoreN X0.here hx rfl (hb hby (dB22 1)) rfl (l' := #[vR bs, vI (0 : Int32), uX]) rfl kst) ?_
  refine own_go (fun tgt kst => XS.iconst X0.here hx rfl (hb hby (dB22 2)) kst) ?_
  refine own_go (fun tgt kst => XS.istoreN X0.here hx rfl (hb hby (dB22 3)) rfl (l' := #[vR bs, vI (0 : Int32), vI (0 : Int32)]) rfl kst) ?_
  refine own_go (fun tgt kst => XS.iloadN X0.here hx rfl (hb hby (dB22 4)) rfl  kst) ?_
  refine own_go (fun tgt kst => XS.aloadN X0.here hx rfl (hb hby (dB22 5)) rfl rfl  kst) ?_
  show OwnWk _ _ _ _ (s₁.setTop (mkF m 6 #[vR bs, vI (0 : Int32), vI (0 : Int32)] [(.ref bs), (.int (0 : Int32))]))
  refine own_gF X0 hx hZ hown (wq hw 14 rfl) Via.refl e0 Fu1 rfl rfl (hb hby (dB22 6)) fun T2 X2 e2 => ?_
  refine own_go (fun tgt kst => XS.icmpYes X2.here hx rfl (pc0 := 9) (pc' := 30) rfl (hb hby (dB22 7)) rfl (flt (by decide : ¬ ((0 : Int32) < (0 : Int32)))).2.1 (by decide) (by decide) kst) ?_
  refine own_go (fun tgt kst => XS.iloadN X2.here hx rfl (hb hby (dB22 18)) rfl  kst) ?_
  show OwnWk _ _ _ _ (T2.setTop (mkF m 31 #[vR bs, vI (0 : Int32), vI (0 : Int32)] [(.int (0 : Int32))]))
  exact own_retI X2 hx hlk hret (hb hby (dB22 19)) (by decide) (by decide) (by rw [e2]; exact ⟨⟨_, rfl⟩, N0, rfl⟩)
 ·
  have Fu3 : Fld Z h0 bs "java/util/BitSet" "wordsInUse" "I" (.int (1 : Int32)) := own_wu1 hM0 ▸ pf2
  show OwnWk _ _ _ _ (s₁.setTop (mkF m 0 #[vR bs, uX, uX] []))
  refine own_go (fun tgt kst => XS.iconst X0.here hx rfl (hb hby (dB22 0)) kst) ?_
  refine own_go (fun tgt kst => XS.istoreN X0.here hx rfl (hb hby (dB22 1)) rfl (l' := #[vR bs, vI (0 : Int32), uX]) rfl kst) ?_
  refine own_go (fun tgt kst => XS.iconst X0.here hx rfl (hb hby (dB22 2)) kst) ?_
  refine own_go (fun tgt kst => XS.istoreN X0.here hx rfl (hb hby (dB22 3)) rfl (l' := #[vR bs, vI (0 : Int32), vI (0 : Int32)]) rfl kst) ?_
  refine own_go (fun tgt kst => XS.iloadN X0.here hx rfl (hb hby (dB22 4)) rfl  kst) ?_
  refine own_go (fun tgt kst => XS.aloadN X0.here hx rfl (hb hby (dB22 5)) rfl rfl  kst) ?_
  show OwnWk _ _ _ _ (s₁.setTop (mkF m 6 #[vR bs, vI (0 : Int32), vI (0 : Int32)] [(.ref bs), (.int (0 : Int32))]))
  refine own_gF X0 hx hZ hown (wq hw 14 rfl) Via.refl e0 Fu3 rfl rfl (hb hby (dB22 6)) fun T4 X4 e4 => ?_
  refine own_go (fun tgt kst => XS.icmpNo X4.here hx rfl (hb hby (dB22 7)) rfl (tlt (by decide : (0 : Int32) < (1 : Int32))).2.1 kst) ?_
  refine own_go (fun tgt kst => XS.iloadN X4.here hx rfl (hb hby (dB22 8)) rfl  kst) ?_
  refine own_go (fun tgt kst => XS.aloadN X4.here hx rfl (hb hby (dB22 9)) rfl rfl  kst) ?_
  refine own_gF X4 hx hZ hown (wq hw 27 rfl) Via.refl e4 pf1 rfl rfl (hb hby (dB22 10)) fun T5 X5 e5 => ?_
  refine own_go (fun tgt kst => XS.iloadN X5.here hx rfl (hb hby (dB22 11)) rfl  kst) ?_
  refine own_ldJ X5 hx hZ e5 pf3 rfl rfl (hb hby (dB22 12)) (v := (.long (Int64.ofNat M))) (by decide) rfl ?_
  show OwnWk _ _ _ _ (T5.setTop (mkF m 19 #[vR bs, vI (0 : Int32), vI (0 : Int32)] [(.long (Int64.ofNat M)), (.int (0 : Int32))]))
  refine own_callS X5 hx hZ (y := yN35) hown (wq hw 210 rfl) (wq hw 211 rfl) (wq hw 205 rfl) (wq hw 212 rfl) (by decide) (argsL := [(.long (Int64.ofNat M))]) (rest := [(.int (0 : Int32))])  (h := h0) (bct l Z a0 hw (Int64.ofNat M) h0 n0 Z0) e5 (W := 1) (by decide) (by decide) (by decide) (by decide) rfl (by rw [hml]; rfl) (lenOf pd_3 rfl) rfl (by show 2 * 0 + _ ≤ _; exact Nat.le_of_eq rfl) (hb hby (dB22 13)) (fun v6 T6 h6 L6 X6 e6 hQ6 => ?_)
  obtain ⟨⟨rr6, rfl⟩, Nq6, q6⟩ := hQ6
  have N6 := Fr.app N0 Nq6
  rw [q6] at e6
  show OwnWk _ _ _ _ (T6.setTop (mkF m 22 #[vR bs, vI (0 : Int32), vI (0 : Int32)] [(.int rr6), (.int (0 : Int32))]))
  refine own_go (fun tgt kst => XS.iadd X6.here hx rfl (hb hby (dB22 14)) rfl kst) ?_
  refine own_go (fun tgt kst => XS.istoreN X6.here hx rfl (hb hby (dB22 15)) rfl (l' := #[vR bs, vI ((0 : Int32) + rr6), vI (0 : Int32)]) rfl kst) ?_
  refine own_go (fun tgt kst => XS.iinc X6.here hx rfl (hb hby (dB22 16)) rfl (l' := #[vR bs, vI ((0 : Int32) + rr6), vI (1 : Int32)]) rfl kst) ?_
  refine own_go (fun tgt kst => XS.goto X6.here hx rfl (pc0 := 27) (pc' := 4) rfl (hb hby (dB22 17)) (by decide) (by decide) kst) ?_
  refine own_go (fun tgt kst => XS.iloadN X6.here hx rfl (hb hby (dB22 4)) rfl  kst) ?_
  refine own_go (fun tgt kst => XS.aloadN X6.here hx rfl (hb hby (dB22 5)) rfl rfl  kst) ?_
  show OwnWk _ _ _ _ (T6.setTop (mkF m 6 #[vR bs, vI ((0 : Int32) + rr6), vI (1 : Int32)] [(.ref bs), (.int (1 : Int32))]))
  refine own_gF X6 hx hZ hown (wq hw 14 rfl) Via.refl e6 Fu3 rfl rfl (hb hby (dB22 6)) fun T7 X7 e7 => ?_
  refine own_go (fun tgt kst => XS.icmpYes X7.here hx rfl (pc0 := 9) (pc' := 30) rfl (hb hby (dB22 7)) rfl (flt (by decide : ¬ ((1 : Int32) < (1 : Int32)))).2.1 (by decide) (by decide) kst) ?_
  refine own_go (fun tgt kst => XS.iloadN X7.here hx rfl (hb hby (dB22 18)) rfl  kst) ?_
  show OwnWk _ _ _ _ (T7.setTop (mkF m 31 #[vR bs, vI ((0 : Int32) + rr6), vI (1 : Int32)] [(.int ((0 : Int32) + rr6))]))
  exact own_retI X7 hx hlk hret (hb hby (dB22 19)) (by decide) (by decide) (by rw [e7]; exact ⟨⟨_, rfl⟩, N6, rfl⟩)
theorem pn_13 : plainFor yN13 = true := Jvm.Free.JP.mathPlain rfl (by decide +kernel)
abbrev tB13 : List (Nat × Instr × Nat) := [(0, .iload_n 0, 1), (1, .iload_n 1, 1), (2, .if_icmp .lt 7, 3), (5, .iload_n 0, 1), (6, .goto 4, 3), (9, .iload_n 1, 1), (10, .ireturn, 1)]
theorem dB13 (k : Fin 7) : decode jdk_29_method_65_code (tB13.getD k (0, .nop, 1)).1 = .ok (tB13.getD k (0, .nop, 1)).2 := by revert k; decide +kernel
theorem ef_rm13 (m : MethodId) (x0 : Int32) (x1 : Int32) : entryFrame m #[(.int x0), (.int x1)] 2 = mkF m 0 #[vI x0, vI x1] [] := by first | (simp [entryFrame, mkF, argsToLocals, Value.category]; done) | rfl
def Q_rm13 (Z : State) (u r : Int32) (h0 : Heap) (n0 : Nat) (v : Option Value) (h : Heap) (L : List Loc) : Prop := v = some (.int (own_max u r)) ∧ Fr n0 L ∧ h = h0
set_option maxRecDepth 65536 in
set_option maxHeartbeats 40000000 in
theorem rm13 (l : Launch) (Z : State) (a0 : Array Value) (hw : ∀ d ∈ tables_1, d.before a0 Z = true) (u r : Int32) (h0 : Heap) (n0 : Nat) (Z0 : n0 ≤ h0.size)  :
    OwnMet l yN13 jdk_29_method_65_code 2 (some .int) [] ({ frames := 0, cells := 0, slots := 0, locals := 0 } : Room) Z #[(.int u), (.int r)] h0 (Q_rm13 Z u r h0 n0) := by
 refine own_met pn_13 (fun p e s m below meth c s₁ hx hby hml hown hnm hret hlk hZ X0 e0 => ?_)
 have hown : s.vm.findClass "java/lang/Math" = some m.cls := hown
 have N0 := Fr.nil n0
 rw [ef_rm13]
 show OwnWk _ _ _ _ (s₁.setTop (mkF m 0 #[vI u, vI r] []))
 refine own_go (fun tgt kst => XS.iloadN X0.here hx rfl (hb hby (dB13 0)) rfl  kst) ?_
 refine own_go (fun tgt kst => XS.iloadN X0.here hx rfl (hb hby (dB13 1)) rfl  kst) ?_
 show OwnWk _ _ _ _ (s₁.setTop (mkF m 2 #[vI u, vI r] [(.int r), (.int u)]))
 by_cases hc1 : u < r
 ·
  refine own_go (fun tgt kst => XS.icmpYes X0.here hx rfl (pc0 := 2) (pc' := 9) rfl (hb hby (dB13 2)) rfl (tlt hc1).1 (by decide) (by decide) kst) ?_
  show OwnWk _ _ _ _ (s₁.setTop (mkF m 9 #[vI u, vI r] []))
  refine own_go (fun tgt kst => XS.iloadN X0.here hx rfl (hb hby (dB13 5)) rfl  kst) ?_
  show OwnWk _ _ _ _ (s₁.setTop (mkF m 10 #[vI u, vI r] [(.int r)]))
  exact own_retI X0 hx hlk hret (hb hby (dB13 6)) (by decide) (by decide) (by rw [e0]; exact ⟨by simp [own_max, hc1], N0, rfl⟩)
 ·
  refine own_go (fun tgt kst => XS.icmpNo X0.here hx rfl (hb hby (dB13 2)) rfl (flt hc1).1 kst) ?_
  show OwnWk _ _ _ _ (s₁.setTop (mkF m 5 #[vI u, vI r] []))
  refine own_go (fun tgt kst => XS.iloadN X0.here hx rfl (hb hby (dB13 3)) rfl  kst) ?_
  refine own_go (fun tgt kst => XS.goto X0.here hx rfl (pc0 := 6) (pc' := 10) rfl (hb hby (dB13 4)) (by decide) (by decide) kst) ?_
  show OwnWk _ _ _ _ (s₁.setTop (mkF m 10 #[vI u, vI r] [(.int u)]))
  exact own_retI X0 hx hlk hret (hb hby (dB13 6)) (by decide) (by decide) (by rw [e0]; exact ⟨by simp [own_max, hc1], N0, rfl⟩)
theorem pn_pn_8 : plainName "java/util/AbstractCollection" = true := by first | (simp [plainName, overriddenIn]; done) | decide +kernel
theorem pn_8 : plainFor yN8 = true := plainFor_of_name pn_pn_8
abbrev tB8 : List (Nat × Instr × Nat) := [(0, .aload_n 0, 1), (1, .invokespecial 1, 3), (4, .return_, 1)]
theorem dB8 (k : Fin 3) : decode jdk_22_method_1_code (tB8.getD k (0, .nop, 1)).1 = .ok (tB8.getD k (0, .nop, 1)).2 := by revert k; decide +kernel
theorem ef_rm8 (m : MethodId) (x0 : Addr) : entryFrame m #[(.ref x0)] 1 = mkF m 0 #[vR x0] [] := by first | (simp [entryFrame, mkF, argsToLocals, Value.category]; done) | rfl
def Q_rm8 (Z : State) (a : Addr) (h0 : Heap) (n0 : Nat) (v : Option Value) (h : Heap) (L : List Loc) : Prop := v = none ∧ Fr n0 L ∧ h = h0
set_option maxRecDepth 65536 in
set_option maxHeartbeats 40000000 in
theorem rm8 (l : Launch) (Z : State) (a0 : Array Value) (hw : ∀ d ∈ tables_1, d.before a0 Z = true) (a : Addr) (h0 : Heap) (n0 : Nat) (Z0 : n0 ≤ h0.size)  :
    OwnMet l yN8 jdk_22_method_1_code 1 none [] ({ frames := 1, cells := 0, slots := 0, locals := 12 } : Room) Z #[(.ref a)] h0 (Q_rm8 Z a h0 n0) := by
 refine own_met pn_8 (fun p e s m below meth c s₁ hx hby hml hown hnm hret hlk hZ X0 e0 => ?_)
 have hown : s.vm.findClass "java/util/AbstractCollection" = some m.cls := hown
 have N0 := Fr.nil n0
 rw [ef_rm8]
 show OwnWk _ _ _ _ (s₁.setTop (mkF m 0 #[vR a] []))
 refine own_go (fun tgt kst => XS.aloadN X0.here hx rfl (hb hby (dB8 0)) rfl rfl  kst) ?_
 show OwnWk _ _ _ _ (s₁.setTop (mkF m 1 #[vR a] [(.ref a)]))
 obtain ⟨T1, X1, e1, st1⟩ := initO X0 hx hZ hown (wq hw 47 rfl) (wq hw 12 rfl) (wq hw 13 rfl) e0 (g := (mkF m 1 #[vR a] [(.ref a)])) rfl (by rw [hml]; rfl) rfl (hb hby (dB8 1)) (by decide) (W := 0) (by show 2 * 0 + _ ≤ _; exact Nat.le_of_eq rfl) (by decide)
 refine own_go st1 ?_
 show OwnWk _ _ _ _ (T1.setTop (mkF m 4 #[vR a] []))
 exact own_retV X1 hx hlk hret (hb hby (dB8 2)) (by decide) (by decide) (by rw [e1]; exact ⟨rfl, N0, rfl⟩)
theorem pn_pn_7 : plainName "java/util/AbstractList" = true := by first | (simp [plainName, overriddenIn]; done) | decide +kernel
theorem pn_7 : plainFor yN7 = true := plainFor_of_name pn_pn_7
abbrev tB7 : List (Nat × Instr × Nat) := [(0, .aload_n 0, 1), (1, .invokespecial 1, 3), (4, .aload_n 0, 1), (5, .iconst 0, 1), (6, .putfield 7, 3), (9, .return_, 1)]
theorem dB7 (k : Fin 6) : decode jdk_39_method_1_code (tB7.getD k (0, .nop, 1)).1 = .ok (tB7.getD k (0, .nop, 1)).2 := by revert k; decide +kernel
theorem ef_rm7 (m : MethodId) (x0 : Addr) : entryFrame m #[(.ref x0)] 1 = mkF m 0 #[vR x0] [] := by first | (simp [entryFrame, mkF, argsToLocals, Value.category]; done) | rfl
def Q_rm7 (Z : State) (a : Addr) (h0 : Heap) (n0 : Nat) (v : Option Value) (h : Heap) (L : List Loc) : Prop := v = none ∧ Fr n0 L ∧ Keep h0 h [a] ∧ Fld Z h a "java/util/AbstractList" "modCount" "I" (.int (0 : Int32)) ∧ Fld Z h a "java/util/ArrayList" "elementData" "[Ljava/lang/Object;" .null ∧ Fld Z h a "java/util/ArrayList" "size" "I" (.int (0 : Int32))
set_option maxRecDepth 65536 in
set_option maxHeartbeats 40000000 in
theorem rm7 (l : Launch) (Z : State) (a0 : Array Value) (hw : ∀ d ∈ tables_1, d.before a0 Z = true) (a : Addr) (h0 : Heap) (n0 : Nat) (Z0 : n0 ≤ h0.size) (E_a : Exa Z h0 a "java/util/ArrayList") (g_a : n0 ≤ a) (F_m : Fld Z h0 a "java/util/AbstractList" "modCount" "I" (.int (0 : Int32))) (F_e : Fld Z h0 a "java/util/ArrayList" "elementData" "[Ljava/lang/Object;" .null) (F_s : Fld Z h0 a "java/util/ArrayList" "size" "I" (.int (0 : Int32))) :
    OwnMet l yN7 jdk_39_method_1_code 1 none [] ({ frames := 2, cells := 0, slots := 0, locals := 24 } : Room) Z #[(.ref a)] h0 (Q_rm7 Z a h0 n0) := by
 refine own_met pn_7 (fun p e s m below meth c s₁ hx hby hml hown hnm hret hlk hZ X0 e0 => ?_)
 have hown : s.vm.findClass "java/util/AbstractList" = some m.cls := hown
 have N0 := Fr.nil n0
 have K0 := Keep.refl h0 [a]
 rw [ef_rm7]
 show OwnWk _ _ _ _ (s₁.setTop (mkF m 0 #[vR a] []))
 refine own_go (fun tgt kst => XS.aloadN X0.here hx rfl (hb hby (dB7 0)) rfl rfl  kst) ?_
 show OwnWk _ _ _ _ (s₁.setTop (mkF m 1 #[vR a] [(.ref a)]))
 refine own_callC X0 hx hZ (y := yN8) hown rfl (wq hw 41 rfl) (wq hw 42 rfl) (wq hw 45 rfl) (wq hw 46 rfl) (by decide) (a := a) (argsL := []) (rest := [])  (h := h0) (rm8 l Z a0 hw a h0 n0 Z0) e0 (W := 0) (by decide) (by decide) (by decide) (by decide) rfl (by rw [hml]; rfl) (lenOf pd_2 rfl) rfl (by show 2 * 0 + _ ≤ _; exact Nat.le_of_eq rfl) (hb hby (dB7 1)) (fun v1 T1 h1 L1 X1 e1 hQ1 => ?_)
 obtain ⟨rfl, Nq1, q1⟩ := hQ1
 have N1 := Fr.app N0 Nq1
 rw [q1] at e1
 show OwnWk _ _ _ _ (T1.setTop (mkF m 4 #[vR a] []))
 refine own_go (fun tgt kst => XS.aloadN X1.here hx rfl (hb hby (dB7 2)) rfl rfl  kst) ?_
 refine own_go (fun tgt kst => XS.iconst X1.here hx rfl (hb hby (dB7 3)) kst) ?_
 obtain ⟨T2, h2, X2, e2, W2, st2⟩ := putF X1 hx hZ hown (host := "") (Or.inl (wq hw 48 rfl)) Via.refl e1 F_m E_a (Or.inl (wq hw 49 rfl)) (wq hw 30 rfl) (v := (.int (0 : Int32))) (ty := .int) (by decide) rfl rfl (g := (mkF m 6 #[vR a] [(.int (0 : Int32)), (.ref a)])) rfl rfl (hb hby (dB7 4))
 refine own_go st2 ?_
 have N2 := Fr.snoc X2 N1 g_a
 have Fw2 := Fld.same W2 F_m
 have F3 := Exa.wr W2 E_a
 have F4 := Fld.other W2 F_e (Or.inr (slot_ne (Or.inl (wq hw 52 rfl)) (Or.inl (wq hw 49 rfl)) (by decide) (t := (.array (.object "java/lang/Object"))) (t' := .int) (by decide) (by decide)))
 have F5 := Fld.other W2 F_s (Or.inr (slot_ne (Or.inl (wq hw 61 rfl)) (Or.inl (wq hw 49 rfl)) (by decide) (t := .int) (t' := .int) (by decide) (by decide)))
 have Z6 := Nat.le_trans Z0 (Keep.of_wr W2).1
 have K7 := Keep.wr K0 W2 (Or.inl (List.mem_of_getElem? (i := 0) rfl))
 show OwnWk _ _ _ _ (T2.setTop (mkF m 9 #[vR a] []))
 exact own_retV X2 hx hlk hret (hb hby (dB7 5)) (by decide) (by decide) (by rw [e2]; exact ⟨rfl, N2, K7, Fw2, F4, F5⟩)
theorem pn_pn_6 : plainName "java/util/ArrayList" = true := by first | (simp [plainName, overriddenIn]; done) | decide +kernel
theorem pn_6 : plainFor yN6 = true := plainFor_of_name pn_pn_6
abbrev tB6 : List (Nat × Instr × Nat) := [(0, .aload_n 0, 1), (1, .invokespecial 1, 3), (4, .aload_n 0, 1), (5, .getstatic 39, 3), (8, .putfield 9, 3), (11, .return_, 1)]
theorem dB6 (k : Fin 6) : decode jdk_38_method_2_code (tB6.getD k (0, .nop, 1)).1 = .ok (tB6.getD k (0, .nop, 1)).2 := by revert k; decide +kernel
theorem ef_rm6 (m : MethodId) (x0 : Addr) : entryFrame m #[(.ref x0)] 1 = mkF m 0 #[vR x0] [] := by first | (simp [entryFrame, mkF, argsToLocals, Value.category]; done) | rfl
def Q_rm6 (Z : State) (dce : Addr) (a : Addr) (h0 : Heap) (n0 : Nat) (v : Option Value) (h : Heap) (L : List Loc) : Prop := v = none ∧ Fr n0 L ∧ Keep h0 h [a] ∧ Fld Z h a "java/util/AbstractList" "modCount" "I" (.int (0 : Int32)) ∧ Fld Z h a "java/util/ArrayList" "elementData" "[Ljava/lang/Object;" (.ref dce) ∧ Fld Z h a "java/util/ArrayList" "size" "I" (.int (0 : Int32))
set_option maxRecDepth 65536 in
set_option maxHeartbeats 40000000 in
theorem rm6 (l : Launch) (Z : State) (a0 : Array Value) (hw : ∀ d ∈ tables_1, d.before a0 Z = true) (dce : Addr) (a : Addr) (h0 : Heap) (n0 : Nat) (Z0 : n0 ≤ h0.size) (O0 : Old Z n0 h0) (S_d : Sta Z Z.heap "java/util/ArrayList" "DEFAULTCAPACITY_EMPTY_ELEMENTDATA" "[Ljava/lang/Object;" (.ref dce)) (V_d : OAr Z Z.heap dce (.object "java/lang/Object") []) (S_a : Sta Z Z.heap "java/util/BitSet" "$assertionsDisabled" "Z" (.int (1 : Int32))) (E_a : Exa Z h0 a "java/util/ArrayList") (g_a : n0 ≤ a) (F_m : Fld Z h0 a "java/util/AbstractList" "modCount" "I" (.int (0 : Int32))) (F_e : Fld Z h0 a "java/util/ArrayList" "elementData" "[Ljava/lang/Object;" .null) (F_s : Fld Z h0 a "java/util/ArrayList" "size" "I" (.int (0 : Int32))) :
    OwnMet l yN6 jdk_38_method_2_code 1 none [] ({ frames := 3, cells := 0, slots := 0, locals := 36 } : Room) Z #[(.ref a)] h0 (Q_rm6 Z dce a h0 n0) := by
 refine own_met pn_6 (fun p e s m below meth c s₁ hx hby hml hown hnm hret hlk hZ X0 e0 => ?_)
 have hown : s.vm.findClass "java/util/ArrayList" = some m.cls := hown
 have N0 := Fr.nil n0
 have K0 := Keep.refl h0 [a]
 rw [ef_rm6]
 show OwnWk _ _ _ _ (s₁.setTop (mkF m 0 #[vR a] []))
 refine own_go (fun tgt kst => XS.aloadN X0.here hx rfl (hb hby (dB6 0)) rfl rfl  kst) ?_
 show OwnWk _ _ _ _ (s₁.setTop (mkF m 1 #[vR a] [(.ref a)]))
 refine own_callC X0 hx hZ (y := yN7) hown rfl (wq hw 35 rfl) (wq hw 36 rfl) (wq hw 39 rfl) (wq hw 40 rfl) (by decide) (a := a) (argsL := []) (rest := [])  (h := h0) (rm7 l Z a0 hw a h0 n0 Z0 E_a g_a F_m F_e F_s) e0 (W := 0) (by decide) (by decide) (by decide) (by decide) rfl (by rw [hml]; rfl) (lenOf pd_2 rfl) rfl (by show 2 * 0 + _ ≤ _; exact Nat.le_of_eq rfl) (hb hby (dB6 1)) (fun v1 T1 h1 L1 X1 e1 hQ1 => ?_)
 obtain ⟨rfl, Nq1, Kq1, Fm1, Fe1, Fs1⟩ := hQ1
 have N1 := Fr.app N0 Nq1
 have F2 := Old.keep O0 Kq1 (allS g_a all0)
 have F3 := Exa.keep E_a Kq1
 have Z4 := Nat.le_trans Z0 Kq1.1
 have K5 := Keep.trans K0 Kq1 (allS (Or.inl (List.mem_of_getElem? (i := 0) rfl)) all0)
 show OwnWk _ _ _ _ (T1.setTop (mkF m 4 #[vR a] []))
 refine own_go (fun tgt kst => XS.aloadN X1.here hx rfl (hb hby (dB6 2)) rfl rfl  kst) ?_
 obtain ⟨T6, X6, e6, st6⟩ := getS2 X1 hx hZ hown (host := "") (Or.inl (wq hw 50 rfl)) Via.refl e1 (Sta.ext F2.2 S_d) (g := (mkF m 5 #[vR a] [(.ref a)])) rfl (hb hby (dB6 3))
 refine own_go st6 ?_
 show OwnWk _ _ _ _ (T6.setTop (mkF m 8 #[vR a] [(.ref dce), (.ref a)]))
 obtain ⟨T7, h7, X7, e7, W7, st7⟩ := putF X6 hx hZ hown (host := "") (Or.inl (wq hw 51 rfl)) Via.refl e6 Fe1 F3 (Or.inl (wq hw 52 rfl)) (wq hw 30 rfl) (v := (.ref dce)) (ty := (.array (.object "java/lang/Object"))) (by decide) rfl rfl (g := (mkF m 8 #[vR a] [(.ref dce), (.ref a)])) rfl rfl (hb hby (dB6 4))
 refine own_go st7 ?_
 have N7 := Fr.snoc X7 N1 g_a
 have Fw7 := Fld.same W7 Fe1
 have F8 := Old.wr F2 W7 g_a
 have F9 := Exa.wr W7 F3
 have F10 := Fld.other W7 Fm1 (Or.inr (slot_ne (Or.inl (wq hw 49 rfl)) (Or.inl (wq hw 52 rfl)) (by decide) (t := .int) (t' := (.array (.object "java/lang/Object"))) (by decide) (by decide)))
 have F11 := Fld.other W7 Fs1 (Or.inr (slot_ne (Or.inl (wq hw 61 rfl)) (Or.inl (wq hw 52 rfl)) (by decide) (t := .int) (t' := (.array (.object "java/lang/Object"))) (by decide) (by decide)))
 have Z12 := Nat.le_trans Z4 (Keep.of_wr W7).1
 have K13 := Keep.wr K5 W7 (Or.inl (List.mem_of_getElem? (i := 0) rfl))
 show OwnWk _ _ _ _ (T7.setTop (mkF m 11 #[vR a] []))
 exact own_retV X7 hx hlk hret (hb hby (dB6 5)) (by decide) (by decide) (by rw [e7]; exact ⟨rfl, N7, K13, F10, Fw7, F11⟩)
theorem pn_pn_15 : plainName "java/util/ArrayList" = true := by first | (simp [plainName, overriddenIn]; done) | decide +kernel
theorem pn_15 : plainFor yN15 = true := plainFor_of_name pn_pn_15
abbrev tB15 : List (Nat × Instr × Nat) := [(0, .aload_n 0, 1), (1, .getfield 48, 3), (4, .ireturn, 1)]
theorem dB15 (k : Fin 3) : decode jdk_38_method_8_code (tB15.getD k (0, .nop, 1)).1 = .ok (tB15.getD k (0, .nop, 1)).2 := by revert k; decide +kernel
theorem ef_rm15 (m : MethodId) (x0 : Addr) : entryFrame m #[(.ref x0)] 1 = mkF m 0 #[vR x0] [] := by first | (simp [entryFrame, mkF, argsToLocals, Value.category]; done) | rfl
def Q_rm15 (Z : State) (a : Addr) (u : Int32) (h0 : Heap) (n0 : Nat) (v : Option Value) (h : Heap) (L : List Loc) : Prop := v = some (.int u) ∧ Fr n0 L ∧ h = h0
set_option maxRecDepth 65536 in
set_option maxHeartbeats 40000000 in
theorem rm15 (l : Launch) (Z : State) (a0 : Array Value) (hw : ∀ d ∈ tables_1, d.before a0 Z = true) (a : Addr) (u : Int32) (h0 : Heap) (n0 : Nat) (Z0 : n0 ≤ h0.size) (F_s : Fld Z h0 a "java/util/ArrayList" "size" "I" (.int u)) :
    OwnMet l yN15 jdk_38_method_8_code 1 (some .int) [] ({ frames := 0, cells := 0, slots := 0, locals := 0 } : Room) Z #[(.ref a)] h0 (Q_rm15 Z a u h0 n0) := by
 refine own_met pn_15 (fun p e s m below meth c s₁ hx hby hml hown hnm hret hlk hZ X0 e0 => ?_)
 have hown : s.vm.findClass "java/util/ArrayList" = some m.cls := hown
 have N0 := Fr.nil n0
 rw [ef_rm15]
 show OwnWk _ _ _ _ (s₁.setTop (mkF m 0 #[vR a] []))
 refine own_go (fun tgt kst => XS.aloadN X0.here hx rfl (hb hby (dB15 0)) rfl rfl  kst) ?_
 refine own_gF X0 hx hZ hown (wq hw 60 rfl) Via.refl e0 F_s rfl rfl (hb hby (dB15 1)) fun T1 X1 e1 => ?_
 show OwnWk _ _ _ _ (T1.setTop (mkF m 4 #[vR a] [(.int u)]))
 exact own_retI X1 hx hlk hret (hb hby (dB15 2)) (by decide) (by decide) (by rw [e1]; exact ⟨rfl, N0, rfl⟩)
theorem pn_pn_12 : plainName "java/util/ArrayList" = true := by first | (simp [plainName, overriddenIn]; done) | decide +kernel
theorem pn_12 : plainFor yN12 = true := plainFor_of_name pn_pn_12
abbrev tB12 : List (Nat × Instr × Nat) := [(0, .aload_n 0, 1), (1, .getfield 9, 3), (4, .arraylength, 1), (5, .istore_n 2, 1), (6, .iload_n 2, 1), (7, .ifCond .gt 13, 3), (10, .aload_n 0, 1), (11, .getfield 9, 3), (14, .getstatic 39, 3), (17, .if_acmp .eq 28, 3), (20, .iload_n 2, 1), (21, .iload_n 1, 1), (22, .iload_n 2, 1), (23, .isub, 1), (24, .iload_n 2, 1), (25, .iconst 1, 1), (26, .ishr, 1), (27, .invokestatic 73, 3), (30, .istore_n 3, 1), (31, .aload_n 0, 1), (32, .aload_n 0, 1), (33, .getfield 9, 3), (36, .iload_n 3, 1), (37, .invokestatic 66, 3), (40, .dup_x1, 1), (41, .putfield 9, 3), (44, .areturn, 1), (45, .aload_n 0, 1), (46, .bipush 10, 2), (48, .iload_n 1, 1), (49, .invokestatic 79, 3), (52, .anewarray 7, 3), (55, .dup_x1, 1), (56, .putfield 9, 3), (59, .areturn, 1)]
theorem dB12 (k : Fin 35) : decode jdk_38_method_6_code (tB12.getD k (0, .nop, 1)).1 = .ok (tB12.getD k (0, .nop, 1)).2 := by revert k; decide +kernel
theorem pd_4 : parseMethodDescriptor "(II)I" = some ⟨[.int, .int], some .int⟩ := by decide +kernel
theorem ef_grI (m : MethodId) (x0 : Addr) (x1 : Int32) : entryFrame m #[(.ref x0), (.int x1)] 4 = mkF m 0 #[vR x0, vI x1, .unset, .unset] [] := by first | (simp [entryFrame, mkF, argsToLocals, Value.category]; done) | rfl
def Q_grI (Z : State) (dce : Addr) (a : Addr) (h0 : Heap) (n0 : Nat) (v : Option Value) (h : Heap) (L : List Loc) : Prop := ∃ ed : Addr, v = some (.ref ed) ∧ Fr n0 L ∧ Keep h0 h [a] ∧ h0.size ≤ ed ∧ n0 ≤ ed ∧ Fld Z h a "java/util/AbstractList" "modCount" "I" (.int (1 : Int32)) ∧ Fld Z h a "java/util/ArrayList" "elementData" "[Ljava/lang/Object;" (.ref ed) ∧ Fld Z h a "java/util/ArrayList" "size" "I" (.int (0 : Int32)) ∧ OAr Z h ed (.object "java/lang/Object") [.null, .null, .null, .null, .null, .null, .null, .null, .null, .null] ∧ OOv Z h ed "java/lang/Object"
set_option maxRecDepth 65536 in
set_option maxHeartbeats 40000000 in
theorem grI (l : Launch) (Z : State) (a0 : Array Value) (hw : ∀ d ∈ tables_1, d.before a0 Z = true) (dce : Addr) (a : Addr) (h0 : Heap) (n0 : Nat) (Z0 : n0 ≤ h0.size) (O0 : Old Z n0 h0) (S_d : Sta Z Z.heap "java/util/ArrayList" "DEFAULTCAPACITY_EMPTY_ELEMENTDATA" "[Ljava/lang/Object;" (.ref dce)) (V_d : OAr Z Z.heap dce (.object "java/lang/Object") []) (S_a : Sta Z Z.heap "java/util/BitSet" "$assertionsDisabled" "Z" (.int (1 : Int32))) (E_a : Exa Z h0 a "java/util/ArrayList") (g_a : n0 ≤ a) (F_m : Fld Z h0 a "java/util/AbstractList" "modCount" "I" (.int (1 : Int32))) (F_e : Fld Z h0 a "java/util/ArrayList" "elementData" "[Ljava/lang/Object;" (.ref dce)) (F_s : Fld Z h0 a "java/util/ArrayList" "size" "I" (.int (0 : Int32))) :
    OwnMet l yN12 jdk_38_method_6_code 4 (some (.array (.object "java/lang/Object"))) [] ({ frames := 1, cells := 1, slots := 10, locals := 14 } : Room) Z #[(.ref a), (.int (1 : Int32))] h0 (Q_grI Z dce a h0 n0) := by
 refine own_met pn_12 (fun p e s m below meth c s₁ hx hby hml hown hnm hret hlk hZ X0 e0 => ?_)
 have hown : s.vm.findClass "java/util/ArrayList" = some m.cls := hown
 have N0 := Fr.nil n0
 have K0 := Keep.refl h0 [a]
 rw [ef_grI]
 show OwnWk _ _ _ _ (s₁.setTop (mkF m 0 #[vR a, vI (1 : Int32), uX, uX] []))
 refine own_go (fun tgt kst => XS.aloadN X0.here hx rfl (hb hby (dB12 0)) rfl rfl  kst) ?_
 refine own_gF X0 hx hZ hown (wq hw 51 rfl) Via.refl e0 F_e rfl rfl (hb hby (dB12 1)) fun T1 X1 e1 => ?_
 refine own_len X1 hx hZ e1 (OAr.ext V_d O0.2) rfl rfl (hb hby (dB12 2)) (N := (0 : Int32)) rfl ?_
 refine own_go (fun tgt kst => XS.istoreN X1.here hx rfl (hb hby (dB12 3)) rfl (l' := #[vR a, vI (1 : Int32), vI (0 : Int32), uX]) rfl kst) ?_
 refine own_go (fun tgt kst => XS.iloadN X1.here hx rfl (hb hby (dB12 4)) rfl  kst) ?_
 refine own_go (fun tgt kst => XS.ifNo X1.here hx rfl (hb hby (dB12 5)) rfl ((if0 _ _).trans (flt (by decide : ¬ ((0 : Int32) < (0 : Int32)))).2.2.1) kst) ?_
 refine own_go (fun tgt kst => XS.aloadN X1.here hx rfl (hb hby (dB12 6)) rfl rfl  kst) ?_
 show OwnWk _ _ _ _ (T1.setTop (mkF m 11 #[vR a, vI (1 : Int32), vI (0 : Int32), uX] [(.ref a)]))
 refine own_gF X1 hx hZ hown (wq hw 51 rfl) Via.refl e1 F_e rfl rfl (hb hby (dB12 7)) fun T2 X2 e2 => ?_
 obtain ⟨T3, X3, e3, st3⟩ := getS2 X2 hx hZ hown (host := "") (Or.inl (wq hw 50 rfl)) Via.refl e2 (Sta.ext O0.2 S_d) (g := (mkF m 14 #[vR a, vI (1 : Int32), vI (0 : Int32), uX] [(.ref dce)])) rfl (hb hby (dB12 8))
 refine own_go st3 ?_
 show OwnWk _ _ _ _ (T3.setTop (mkF m 17 #[vR a, vI (1 : Int32), vI (0 : Int32), uX] [(.ref dce), (.ref dce)]))
 refine own_go (fun tgt kst => Jvm.RoadKit.acmp (g := (mkF m 17 #[vR a, vI (1 : Int32), vI (0 : Int32), uX] [(.ref dce), (.ref dce)])) X3 hx rfl rfl rfl (pc0 := 17) (pc' := 45) (same := true) rfl (hb hby (dB12 9)) rfl (decide_eq_true rfl) (by decide) (by decide) kst) ?_
 refine own_go (fun tgt kst => XS.aloadN X3.here hx rfl (hb hby (dB12 27)) rfl rfl  kst) ?_
 refine own_go (fun tgt kst => XS.bipush X3.here hx rfl (hb hby (dB12 28)) kst) ?_
 refine own_go (fun tgt kst => XS.iloadN X3.here hx rfl (hb hby (dB12 29)) rfl  kst) ?_
 show OwnWk _ _ _ _ (T3.setTop (mkF m 49 #[vR a, vI (1 : Int32), vI (0 : Int32), uX] [(.int (1 : Int32)), (.int (10 : Int32)), (.ref a)]))
 refine own_callS X3 hx hZ (y := yN13) hown (wq hw 77 rfl) (wq hw 78 rfl) (wq hw 79 rfl) (wq hw 80 rfl) (by decide) (argsL := [(.int (10 : Int32)), (.int (1 : Int32))]) (rest := [(.ref a)])  (h := h0) (rm13 l Z a0 hw (10 : Int32) (1 : Int32) h0 n0 Z0) e3 (W := 1) (by decide) (by decide) (by decide) (by decide) rfl (by rw [hml]; rfl) (lenOf pd_4 rfl) rfl (by show 2 * 0 + _ ≤ _; exact Nat.le_of_eq rfl) (hb hby (dB12 30)) (fun v4 T4 h4 L4 X4 e4 hQ4 => ?_)
 obtain ⟨rfl, Nq4, q4⟩ := hQ4
 have N4 := Fr.app N0 Nq4
 rw [q4] at e4
 show OwnWk _ _ _ _ (T4.setTop (mkF m 52 #[vR a, vI (1 : Int32), vI (0 : Int32), uX] [(.int (10 : Int32)), (.ref a)]))
 refine own_newR X4 hx hZ hown (wq hw 81 rfl) (wq hw 82 rfl) e4 rfl (hb hby (dB12 31)) rfl (by decide) (cap := 10) (by decide) (by decide) (by decide) (by decide) (ad := "[Ljava/lang/Object;") (by decide) (fun T5 h5 b5 X5 e5 g5 E5 V5 Ex5 Ov5 => ?_)
 have ne6 := own_nl E_a.lt (Nat.le_of_eq g5.symm)
 have ge7 : n0 ≤ b5 := Nat.le_trans Z0 (Nat.le_of_eq g5.symm)
 have sz8 : h0.size ≤ b5 := Nat.le_trans K0.1 (Nat.le_of_eq g5.symm)
 have F9 := Old.ext O0 E5
 have F10 := Exa.ext E5 E_a
 have F11 := Fld.ext E5 F_m
 have F12 := Fld.ext E5 F_e
 have F13 := Fld.ext E5 F_s
 have Z14 := Nat.le_trans Z0 E5.1
 have K15 := Keep.ext K0 E5
 have V5b : OAr Z h5 b5 (.object "java/lang/Object") [.null, .null, .null, .null, .null, .null, .null, .null, .null, .null] := V5
 refine own_go (fun tgt kst => XS.dupX1 X5.here hx rfl (hb hby (dB12 32)) rfl rfl rfl kst) ?_
 obtain ⟨T16, h16, X16, e16, W16, st16⟩ := putF X5 hx hZ hown (host := "") (Or.inl (wq hw 51 rfl)) Via.refl e5 F12 F10 (Or.inl (wq hw 52 rfl)) (wq hw 30 rfl) (v := (.ref b5)) (ty := (.array (.object "java/lang/Object"))) (by decide) rfl rfl (g := (mkF m 56 #[vR a, vI (1 : Int32), vI (0 : Int32), uX] [(.ref b5), (.ref a), (.ref b5)])) rfl rfl (hb hby (dB12 33))
 refine own_go st16 ?_
 have N16 := Fr.snoc X16 N4 g_a
 have Fw16 := Fld.same W16 F12
 have F17 := Old.wr F9 W16 g_a
 have F18 := Exa.wr W16 F10
 have F19 := Fld.other W16 F11 (Or.inr (slot_ne (Or.inl (wq hw 49 rfl)) (Or.inl (wq hw 52 rfl)) (by decide) (t := .int) (t' := (.array (.object "java/lang/Object"))) (by decide) (by decide)))
 have F20 := Fld.other W16 F13 (Or.inr (slot_ne (Or.inl (wq hw 61 rfl)) (Or.inl (wq hw 52 rfl)) (by decide) (t := .int) (t' := (.array (.object "java/lang/Object"))) (by decide) (by decide)))
 have F21 := OAr.other V5b W16 (Ne.symm ne6)
 have F22 := Exa.wr W16 Ex5
 have F23 := OOv.wr W16 Ov5
 have Z24 := Nat.le_trans Z14 (Keep.of_wr W16).1
 have K25 := Keep.wr K15 W16 (Or.inl (List.mem_of_getElem? (i := 0) rfl))
 show OwnWk _ _ _ _ (T16.setTop (mkF m 59 #[vR a, vI (1 : Int32), vI (0 : Int32), uX] [(.ref b5)]))
 exact own_retA X16 hx hlk hret rfl rfl rfl (hb hby (dB12 34)) (by decide) (by decide) (by rw [e16]; exact ⟨b5, rfl, N16, K25, sz8, ge7, F19, Fw16, F20, F21, F23⟩)
theorem pn_pn_11 : plainName "java/util/ArrayList" = true := by first | (simp [plainName, overriddenIn]; done) | decide +kernel
theorem pn_11 : plainFor yN11 = true := plainFor_of_name pn_pn_11
abbrev tB11 : List (Nat × Instr × Nat) := [(0, .aload_n 0, 1), (1, .aload_n 0, 1), (2, .getfield 48, 3), (5, .iconst 1, 1), (6, .iadd, 1), (7, .invokevirtual 69, 3), (10, .areturn, 1)]
theorem dB11 (k : Fin 7) : decode jdk_38_method_7_code (tB11.getD k (0, .nop, 1)).1 = .ok (tB11.getD k (0, .nop, 1)).2 := by revert k; decide +kernel
theorem pd_5 : parseMethodDescriptor "(I)[Ljava/lang/Object;" = some ⟨[.int], some (.array (.object "java/lang/Object"))⟩ := by decide +kernel
theorem ef_grV (m : MethodId) (x0 : Addr) : entryFrame m #[(.ref x0)] 1 = mkF m 0 #[vR x0] [] := by first | (simp [entryFrame, mkF, argsToLocals, Value.category]; done) | rfl
def Q_grV (Z : State) (dce : Addr) (a : Addr) (h0 : Heap) (n0 : Nat) (v : Option Value) (h : Heap) (L : List Loc) : Prop := ∃ ed : Addr, v = some (.ref ed) ∧ Fr n0 L ∧ Keep h0 h [a] ∧ h0.size ≤ ed ∧ n0 ≤ ed ∧ Fld Z h a "java/util/AbstractList" "modCount" "I" (.int (1 : Int32)) ∧ Fld Z h a "java/util/ArrayList" "elementData" "[Ljava/lang/Object;" (.ref ed) ∧ Fld Z h a "java/util/ArrayList" "size" "I" (.int (0 : Int32)) ∧ OAr Z h ed (.object "java/lang/Object") [.null, .null, .null, .null, .null, .null, .null, .null, .null, .null] ∧ OOv Z h ed "java/lang/Object"
set_option maxRecDepth 65536 in
set_option maxHeartbeats 40000000 in
theorem grV (l : Launch) (Z : State) (a0 : Array Value) (hw : ∀ d ∈ tables_1, d.before a0 Z = true) (dce : Addr) (a : Addr) (h0 : Heap) (n0 : Nat) (Z0 : n0 ≤ h0.size) (O0 : Old Z n0 h0) (S_d : Sta Z Z.heap "java/util/ArrayList" "DEFAULTCAPACITY_EMPTY_ELEMENTDATA" "[Ljava/lang/Object;" (.ref dce)) (V_d : OAr Z Z.heap dce (.object "java/lang/Object") []) (S_a : Sta Z Z.heap "java/util/BitSet" "$assertionsDisabled" "Z" (.int (1 : Int32))) (E_a : Exa Z h0 a "java/util/ArrayList") (g_a : n0 ≤ a) (F_m : Fld Z h0 a "java/util/AbstractList" "modCount" "I" (.int (1 : Int32))) (F_e : Fld Z h0 a "java/util/ArrayList" "elementData" "[Ljava/lang/Object;" (.ref dce)) (F_s : Fld Z h0 a "java/util/ArrayList" "size" "I" (.int (0 : Int32))) :
    OwnMet l yN11 jdk_38_method_7_code 1 (some (.array (.object "java/lang/Object"))) [] ({ frames := 2, cells := 1, slots := 10, locals := 29 } : Room) Z #[(.ref a)] h0 (Q_grV Z dce a h0 n0) := by
 refine own_met pn_11 (fun p e s m below meth c s₁ hx hby hml hown hnm hret hlk hZ X0 e0 => ?_)
 have hown : s.vm.findClass "java/util/ArrayList" = some m.cls := hown
 have N0 := Fr.nil n0
 have K0 := Keep.refl h0 [a]
 rw [ef_grV]
 show OwnWk _ _ _ _ (s₁.setTop (mkF m 0 #[vR a] []))
 refine own_go (fun tgt kst => XS.aloadN X0.here hx rfl (hb hby (dB11 0)) rfl rfl  kst) ?_
 refine own_go (fun tgt kst => XS.aloadN X0.here hx rfl (hb hby (dB11 1)) rfl rfl  kst) ?_
 refine own_gF X0 hx hZ hown (wq hw 60 rfl) Via.refl e0 F_s rfl rfl (hb hby (dB11 2)) fun T1 X1 e1 => ?_
 refine own_go (fun tgt kst => XS.iconst X1.here hx rfl (hb hby (dB11 3)) kst) ?_
 refine own_go (fun tgt kst => XS.iadd X1.here hx rfl (hb hby (dB11 4)) rfl kst) ?_
 show OwnWk _ _ _ _ (T1.setTop (mkF m 7 #[vR a] [(.int (1 : Int32)), (.ref a)]))
 have lt2 : a < h0.size := E_a.lt
 refine own_callP X1 hx hZ (y := yN12) hown (wq hw 72 rfl) (wq hw 73 rfl) (wq hw 75 rfl) (wq hw 74 rfl) (wq hw 31 rfl) (wq hw 76 rfl) (by decide) (a := a) E_a (argsL := [(.int (1 : Int32))]) (rest := [])  (h := h0) (grI l Z a0 hw dce a h0 n0 Z0 O0 S_d V_d S_a E_a g_a F_m F_e F_s) e1 (W := 0) (by decide) (by decide) (by decide) (by decide) rfl (by rw [hml]; rfl) (lenOf pd_5 rfl) rfl (by show 2 * 0 + _ ≤ _; exact Nat.le_of_eq rfl) (hb hby (dB11 5)) (fun v3 T3 h3 L3 X3 e3 hQ3 => ?_)
 obtain ⟨ed, rfl, Nq3, Kq3, szed, ged, Fm3, Fe3, Fs3, Ved, Oed⟩ := hQ3
 have N3 := Fr.app N0 Nq3
 have F4 := Old.keep O0 Kq3 (allS g_a all0)
 have F5 := Exa.keep E_a Kq3
 have Z6 := Nat.le_trans Z0 Kq3.1
 have K7 := Keep.trans K0 Kq3 (allS (Or.inl (List.mem_of_getElem? (i := 0) rfl)) all0)
 have ne8 := own_nl lt2 szed
 have szed0 : h0.size ≤ ed := Nat.le_trans K0.1 szed
 show OwnWk _ _ _ _ (T3.setTop (mkF m 10 #[vR a] [(.ref ed)]))
 exact own_retA X3 hx hlk hret rfl rfl rfl (hb hby (dB11 6)) (by decide) (by decide) (by rw [e3]; exact ⟨ed, rfl, N3, K7, szed0, ged, Fm3, Fe3, Fs3, Ved, Oed⟩)
theorem pn_pn_10 : plainName "java/util/ArrayList" = true := by first | (simp [plainName, overriddenIn]; done) | decide +kernel
theorem pn_10 : plainFor yN10 = true := plainFor_of_name pn_pn_10
abbrev tB10 : List (Nat × Instr × Nat) := [(0, .iload_n 3, 1), (1, .aload_n 2, 1), (2, .arraylength, 1), (3, .if_icmp .ne 8, 3), (6, .aload_n 0, 1), (7, .invokevirtual 129, 3), (10, .astore_n 2, 1), (11, .aload_n 2, 1), (12, .iload_n 3, 1), (13, .aload_n 1, 1), (14, .aastore, 1), (15, .aload_n 0, 1), (16, .iload_n 3, 1), (17, .iconst 1, 1), (18, .iadd, 1), (19, .putfield 48, 3), (22, .return_, 1)]
theorem dB10 (k : Fin 17) : decode jdk_38_method_24_code (tB10.getD k (0, .nop, 1)).1 = .ok (tB10.getD k (0, .nop, 1)).2 := by revert k; decide +kernel
theorem pd_6 : parseMethodDescriptor "()[Ljava/lang/Object;" = some ⟨[], some (.array (.object "java/lang/Object"))⟩ := by decide +kernel
theorem ef_adA0 (m : MethodId) (x0 : Addr) (x1 : Addr) (x2 : Addr) (x3 : Int32) : entryFrame m #[(.ref x0), (.ref x1), (.ref x2), (.int x3)] 4 = mkF m 0 #[vR x0, vR x1, vR x2, vI x3] [] := by first | (simp [entryFrame, mkF, argsToLocals, Value.category]; done) | rfl
def Q_adA0 (Z : State) (dce : Addr) (a x : Addr)  (h0 : Heap) (n0 : Nat) (v : Option Value) (h : Heap) (L : List Loc) : Prop := ∃ ed : Addr, v = none ∧ Fr n0 L ∧ Keep h0 h [a] ∧ h0.size ≤ ed ∧ n0 ≤ ed ∧ Fld Z h a "java/util/AbstractList" "modCount" "I" (.int (1 : Int32)) ∧ Fld Z h a "java/util/ArrayList" "elementData" "[Ljava/lang/Object;" (.ref ed) ∧ Fld Z h a "java/util/ArrayList" "size" "I" (.int (1 : Int32)) ∧ OAr Z h ed (.object "java/lang/Object") [(.ref x), .null, .null, .null, .null, .null, .null, .null, .null, .null] ∧ OOv Z h ed "java/lang/Object"
set_option maxRecDepth 65536 in
set_option maxHeartbeats 40000000 in
theorem adA0 (l : Launch) (Z : State) (a0 : Array Value) (hw : ∀ d ∈ tables_1, d.before a0 Z = true) (dce : Addr) (a x : Addr)  (h0 : Heap) (n0 : Nat) (Z0 : n0 ≤ h0.size) (O0 : Old Z n0 h0) (S_d : Sta Z Z.heap "java/util/ArrayList" "DEFAULTCAPACITY_EMPTY_ELEMENTDATA" "[Ljava/lang/Object;" (.ref dce)) (V_d : OAr Z Z.heap dce (.object "java/lang/Object") []) (S_a : Sta Z Z.heap "java/util/BitSet" "$assertionsDisabled" "Z" (.int (1 : Int32))) (I_x : Ins Z h0 x "java/lang/Object" true) (E_a : Exa Z h0 a "java/util/ArrayList") (g_a : n0 ≤ a) (F_m : Fld Z h0 a "java/util/AbstractList" "modCount" "I" (.int (1 : Int32))) (F_e : Fld Z h0 a "java/util/ArrayList" "elementData" "[Ljava/lang/Object;" (.ref dce)) (F_s : Fld Z h0 a "java/util/ArrayList" "size" "I" (.int (0 : Int32))) :
    OwnMet l yN10 jdk_38_method_24_code 4 none [] ({ frames := 3, cells := 1, slots := 10, locals := 41 } : Room) Z #[(.ref a), (.ref x), (.ref dce), (.int (0 : Int32))] h0 (Q_adA0 Z dce a x  h0 n0) := by
 refine own_met pn_10 (fun p e s m below meth c s₁ hx hby hml hown hnm hret hlk hZ X0 e0 => ?_)
 have hown : s.vm.findClass "java/util/ArrayList" = some m.cls := hown
 have N0 := Fr.nil n0
 have K0 := Keep.refl h0 [a]
 rw [ef_adA0]
 show OwnWk _ _ _ _ (s₁.setTop (mkF m 0 #[vR a, vR x, vR dce, vI (0 : Int32)] []))
 refine own_go (fun tgt kst => XS.iloadN X0.here hx rfl (hb hby (dB10 0)) rfl  kst) ?_
 refine own_go (fun tgt kst => XS.aloadN X0.here hx rfl (hb hby (dB10 1)) rfl rfl  kst) ?_
 refine own_len X0 hx hZ e0 (OAr.ext V_d O0.2) rfl rfl (hb hby (dB10 2)) (N := (0 : Int32)) rfl ?_
 refine own_go (fun tgt kst => XS.icmpNo X0.here hx rfl (hb hby (dB10 3)) rfl (teq (by decide : (0 : Int32) = (0 : Int32))).2 kst) ?_
 refine own_go (fun tgt kst => XS.aloadN X0.here hx rfl (hb hby (dB10 4)) rfl rfl  kst) ?_
 show OwnWk _ _ _ _ (s₁.setTop (mkF m 7 #[vR a, vR x, vR dce, vI (0 : Int32)] [(.ref a)]))
 have lt1 : a < h0.size := E_a.lt
 refine own_callP X0 hx hZ (y := yN11) hown (wq hw 67 rfl) (wq hw 68 rfl) (wq hw 70 rfl) (wq hw 69 rfl) (wq hw 31 rfl) (wq hw 71 rfl) (by decide) (a := a) E_a (argsL := []) (rest := [])  (h := h0) (grV l Z a0 hw dce a h0 n0 Z0 O0 S_d V_d S_a E_a g_a F_m F_e F_s) e0 (W := 0) (by decide) (by decide) (by decide) (by decide) rfl (by rw [hml]; rfl) (lenOf pd_6 rfl) rfl (by show 2 * 0 + _ ≤ _; exact Nat.le_of_eq rfl) (hb hby (dB10 5)) (fun v2 T2 h2 L2 X2 e2 hQ2 => ?_)
 obtain ⟨ed, rfl, Nq2, Kq2, szed, ged, Fm2, Fe2, Fs2, Ved, Oed⟩ := hQ2
 have N2 := Fr.app N0 Nq2
 have F3 := Old.keep O0 Kq2 (allS g_a all0)
 have F4 := Exa.keep E_a Kq2
 have F5 := own_ins_keep I_x Kq2
 have Z6 := Nat.le_trans Z0 Kq2.1
 have K7 := Keep.trans K0 Kq2 (allS (Or.inl (List.mem_of_getElem? (i := 0) rfl)) all0)
 have ne8 := own_nl lt1 szed
 have szed0 : h0.size ≤ ed := Nat.le_trans K0.1 szed
 show OwnWk _ _ _ _ (T2.setTop (mkF m 10 #[vR a, vR x, vR dce, vI (0 : Int32)] [(.ref ed)]))
 refine own_go (fun tgt kst => XS.astoreN X2.here hx rfl (hb hby (dB10 6)) rfl rfl (l' := #[vR a, vR x, vR ed, vI (0 : Int32)]) rfl kst) ?_
 refine own_go (fun tgt kst => XS.aloadN X2.here hx rfl (hb hby (dB10 7)) rfl rfl  kst) ?_
 refine own_go (fun tgt kst => XS.iloadN X2.here hx rfl (hb hby (dB10 8)) rfl  kst) ?_
 refine own_go (fun tgt kst => XS.aloadN X2.here hx rfl (hb hby (dB10 9)) rfl rfl  kst) ?_
 refine own_stR X2 hx hZ e2 Ved Oed F5 rfl rfl (hb hby (dB10 10)) (by decide) (Nat.le_of_ble_eq_true rfl) (fun T9 h9 X9 e9 W9 V9 => ?_)
 have N9 := Fr.snoc X9 N2 ged
 have F10 := Old.wr F3 W9 ged
 have F11 := Exa.wr W9 F4
 have F12 := Ins.wr W9 F5
 have F13 := Fld.other W9 Fm2 (Or.inl ne8)
 have F14 := Fld.other W9 Fe2 (Or.inl ne8)
 have F15 := Fld.other W9 Fs2 (Or.inl ne8)
 have F16 := OOv.wr W9 Oed
 have Z17 := Nat.le_trans Z6 (Keep.of_wr W9).1
 have K18 := Keep.wr K7 W9 (Or.inr szed0)
 refine own_go (fun tgt kst => XS.aloadN X9.here hx rfl (hb hby (dB10 11)) rfl rfl  kst) ?_
 show OwnWk _ _ _ _ (T9.setTop (mkF m 16 #[vR a, vR x, vR ed, vI (0 : Int32)] [(.ref a)]))
 refine own_go (fun tgt kst => XS.iloadN X9.here hx rfl (hb hby (dB10 12)) rfl  kst) ?_
 refine own_go (fun tgt kst => XS.iconst X9.here hx rfl (hb hby (dB10 13)) kst) ?_
 refine own_go (fun tgt kst => XS.iadd X9.here hx rfl (hb hby (dB10 14)) rfl kst) ?_
 obtain ⟨T19, h19, X19, e19, W19, st19⟩ := putF X9 hx hZ hown (host := "") (Or.inl (wq hw 60 rfl)) Via.refl e9 F15 F11 (Or.inl (wq hw 61 rfl)) (wq hw 30 rfl) (v := (.int (1 : Int32))) (ty := .int) (by decide) rfl rfl (g := (mkF m 19 #[vR a, vR x, vR ed, vI (0 : Int32)] [(.int (1 : Int32)), (.ref a)])) rfl rfl (hb hby (dB10 15))
 refine own_go st19 ?_
 have N19 := Fr.snoc X19 N9 g_a
 have Fw19 := Fld.same W19 F15
 have F20 := Old.wr F10 W19 g_a
 have F21 := Exa.wr W19 F11
 have F22 := Ins.wr W19 F12
 have F23 := Fld.other W19 F13 (Or.inr (slot_ne (Or.inl (wq hw 49 rfl)) (Or.inl (wq hw 61 rfl)) (by decide) (t := .int) (t' := .int) (by decide) (by decide)))
 have F24 := Fld.other W19 F14 (Or.inr (slot_ne (Or.inl (wq hw 52 rfl)) (Or.inl (wq hw 61 rfl)) (by decide) (t := (.array (.object "java/lang/Object"))) (t' := .int) (by decide) (by decide)))
 have F25 := OOv.wr W19 F16
 have F26 := OAr.other V9 W19 (Ne.symm ne8)
 have Z27 := Nat.le_trans Z17 (Keep.of_wr W19).1
 have K28 := Keep.wr K18 W19 (Or.inl (List.mem_of_getElem? (i := 0) rfl))
 show OwnWk _ _ _ _ (T19.setTop (mkF m 22 #[vR a, vR x, vR ed, vI (0 : Int32)] []))
 exact own_retV X19 hx hlk hret (hb hby (dB10 16)) (by decide) (by decide) (by rw [e19]; exact ⟨ed, rfl, N19, K28, szed0, ged, F23, F24, Fw19, F26, F25⟩)
theorem pn_pn_9 : plainName "java/util/ArrayList" = true := by first | (simp [plainName, overriddenIn]; done) | decide +kernel
theorem pn_9 : plainFor yN9 = true := plainFor_of_name pn_pn_9
abbrev tB9 : List (Nat × Instr × Nat) := [(0, .aload_n 0, 1), (1, .dup, 1), (2, .getfield 63, 3), (5, .iconst 1, 1), (6, .iadd, 1), (7, .putfield 63, 3), (10, .aload_n 0, 1), (11, .aload_n 1, 1), (12, .aload_n 0, 1), (13, .getfield 9, 3), (16, .aload_n 0, 1), (17, .getfield 48, 3), (20, .invokevirtual 131, 3), (23, .iconst 1, 1), (24, .ireturn, 1)]
theorem dB9 (k : Fin 15) : decode jdk_38_method_25_code (tB9.getD k (0, .nop, 1)).1 = .ok (tB9.getD k (0, .nop, 1)).2 := by revert k; decide +kernel
theorem pd_7 : parseMethodDescriptor "(Ljava/lang/Object;[Ljava/lang/Object;I)V" = some ⟨[(.object "java/lang/Object"), (.array (.object "java/lang/Object")), .int], none⟩ := by decide +kernel
theorem ef_adB0 (m : MethodId) (x0 : Addr) (x1 : Addr) : entryFrame m #[(.ref x0), (.ref x1)] 2 = mkF m 0 #[vR x0, vR x1] [] := by first | (simp [entryFrame, mkF, argsToLocals, Value.category]; done) | rfl
def Q_adB0 (Z : State) (dce : Addr) (a x : Addr)  (h0 : Heap) (n0 : Nat) (v : Option Value) (h : Heap) (L : List Loc) : Prop := ∃ ed : Addr, v = some (.int 1) ∧ Fr n0 L ∧ Keep h0 h [a] ∧ h0.size ≤ ed ∧ n0 ≤ ed ∧ Fld Z h a "java/util/AbstractList" "modCount" "I" (.int (1 : Int32)) ∧ Fld Z h a "java/util/ArrayList" "elementData" "[Ljava/lang/Object;" (.ref ed) ∧ Fld Z h a "java/util/ArrayList" "size" "I" (.int (1 : Int32)) ∧ OAr Z h ed (.object "java/lang/Object") [(.ref x), .null, .null, .null, .null, .null, .null, .null, .null, .null] ∧ OOv Z h ed "java/lang/Object"
set_option maxRecDepth 65536 in
set_option maxHeartbeats 40000000 in
theorem adB0 (l : Launch) (Z : State) (a0 : Array Value) (hw : ∀ d ∈ tables_1, d.before a0 Z = true) (dce : Addr) (a x : Addr)  (h0 : Heap) (n0 : Nat) (Z0 : n0 ≤ h0.size) (O0 : Old Z n0 h0) (S_d : Sta Z Z.heap "java/util/ArrayList" "DEFAULTCAPACITY_EMPTY_ELEMENTDATA" "[Ljava/lang/Object;" (.ref dce)) (V_d : OAr Z Z.heap dce (.object "java/lang/Object") []) (S_a : Sta Z Z.heap "java/util/BitSet" "$assertionsDisabled" "Z" (.int (1 : Int32))) (I_x : Ins Z h0 x "java/lang/Object" true) (E_a : Exa Z h0 a "java/util/ArrayList") (g_a : n0 ≤ a) (F_m : Fld Z h0 a "java/util/AbstractList" "modCount" "I" (.int (0 : Int32))) (F_e : Fld Z h0 a "java/util/ArrayList" "elementData" "[Ljava/lang/Object;" (.ref dce)) (F_s : Fld Z h0 a "java/util/ArrayList" "size" "I" (.int (0 : Int32))) :
    OwnMet l yN9 jdk_38_method_25_code 2 (some .boolean) [] ({ frames := 4, cells := 1, slots := 10, locals := 56 } : Room) Z #[(.ref a), (.ref x)] h0 (Q_adB0 Z dce a x  h0 n0) := by
 refine own_met pn_9 (fun p e s m below meth c s₁ hx hby hml hown hnm hret hlk hZ X0 e0 => ?_)
 have hown : s.vm.findClass "java/util/ArrayList" = some m.cls := hown
 have N0 := Fr.nil n0
 have K0 := Keep.refl h0 [a]
 rw [ef_adB0]
 show OwnWk _ _ _ _ (s₁.setTop (mkF m 0 #[vR a, vR x] []))
 refine own_go (fun tgt kst => XS.aloadN X0.here hx rfl (hb hby (dB9 0)) rfl rfl  kst) ?_
 refine own_go (fun tgt kst => XS.dup X0.here hx rfl (hb hby (dB9 1)) rfl rfl kst) ?_
 refine own_gF X0 hx hZ hown (wq hw 58 rfl) (Via.of (wq hw 59 rfl)) e0 F_m rfl rfl (hb hby (dB9 2)) fun T1 X1 e1 => ?_
 refine own_go (fun tgt kst => XS.iconst X1.here hx rfl (hb hby (dB9 3)) kst) ?_
 refine own_go (fun tgt kst => XS.iadd X1.here hx rfl (hb hby (dB9 4)) rfl kst) ?_
 obtain ⟨T2, h2, X2, e2, W2, st2⟩ := putF X1 hx hZ hown (host := "") (Or.inl (wq hw 58 rfl)) (Via.of (wq hw 59 rfl)) e1 F_m E_a (Or.inl (wq hw 49 rfl)) (wq hw 30 rfl) (v := (.int (1 : Int32))) (ty := .int) (by decide) rfl rfl (g := (mkF m 7 #[vR a, vR x] [(.int (1 : Int32)), (.ref a)])) rfl rfl (hb hby (dB9 5))
 refine own_go st2 ?_
 have N2 := Fr.snoc X2 N0 g_a
 have Fw2 := Fld.same W2 F_m
 have F3 := Old.wr O0 W2 g_a
 have F4 := Exa.wr W2 E_a
 have F5 := Fld.other W2 F_e (Or.inr (slot_ne (Or.inl (wq hw 52 rfl)) (Or.inl (wq hw 49 rfl)) (by decide) (t := (.array (.object "java/lang/Object"))) (t' := .int) (by decide) (by decide)))
 have F6 := Fld.other W2 F_s (Or.inr (slot_ne (Or.inl (wq hw 61 rfl)) (Or.inl (wq hw 49 rfl)) (by decide) (t := .int) (t' := .int) (by decide) (by decide)))
 have F7 := Ins.wr W2 I_x
 have Z8 := Nat.le_trans Z0 (Keep.of_wr W2).1
 have K9 := Keep.wr K0 W2 (Or.inl (List.mem_of_getElem? (i := 0) rfl))
 show OwnWk _ _ _ _ (T2.setTop (mkF m 10 #[vR a, vR x] []))
 refine own_go (fun tgt kst => XS.aloadN X2.here hx rfl (hb hby (dB9 6)) rfl rfl  kst) ?_
 refine own_go (fun tgt kst => XS.aloadN X2.here hx rfl (hb hby (dB9 7)) rfl rfl  kst) ?_
 refine own_go (fun tgt kst => XS.aloadN X2.here hx rfl (hb hby (dB9 8)) rfl rfl  kst) ?_
 refine own_gF X2 hx hZ hown (wq hw 51 rfl) Via.refl e2 F5 rfl rfl (hb hby (dB9 9)) fun T10 X10 e10 => ?_
 refine own_go (fun tgt kst => XS.aloadN X10.here hx rfl (hb hby (dB9 10)) rfl rfl  kst) ?_
 refine own_gF X10 hx hZ hown (wq hw 60 rfl) Via.refl e10 F6 rfl rfl (hb hby (dB9 11)) fun T11 X11 e11 => ?_
 show OwnWk _ _ _ _ (T11.setTop (mkF m 20 #[vR a, vR x] [(.int (0 : Int32)), (.ref dce), (.ref x), (.ref a)]))
 have lt12 : a < h2.size := F4.lt
 refine own_callP X11 hx hZ (y := yN10) hown (wq hw 62 rfl) (wq hw 63 rfl) (wq hw 65 rfl) (wq hw 64 rfl) (wq hw 31 rfl) (wq hw 66 rfl) (by decide) (a := a) F4 (argsL := [(.ref x), (.ref dce), (.int (0 : Int32))]) (rest := [])  (h := h2) (adA0 l Z a0 hw dce a x h2 n0 Z8 F3 S_d V_d S_a F7 F4 g_a Fw2 F5 F6) e11 (W := 0) (by decide) (by decide) (by decide) (by decide) rfl (by rw [hml]; rfl) (lenOf pd_7 rfl) rfl (by show 2 * 0 + _ ≤ _; exact Nat.le_of_eq rfl) (hb hby (dB9 12)) (fun v13 T13 h13 L13 X13 e13 hQ13 => ?_)
 obtain ⟨ed, rfl, Nq13, Kq13, szed, ged, Fm13, Fe13, Fs13, Vq13, Oq13⟩ := hQ13
 have N13 := Fr.app N2 Nq13
 have F14 := Old.keep F3 Kq13 (allS g_a all0)
 have F15 := Exa.keep F4 Kq13
 have F16 := own_ins_keep F7 Kq13
 have Z17 := Nat.le_trans Z8 Kq13.1
 have K18 := Keep.trans K9 Kq13 (allS (Or.inl (List.mem_of_getElem? (i := 0) rfl)) all0)
 have ne19 := own_nl lt12 szed
 have szed0 : h0.size ≤ ed := Nat.le_trans K9.1 szed
 show OwnWk _ _ _ _ (T13.setTop (mkF m 23 #[vR a, vR x] []))
 refine own_go (fun tgt kst => XS.iconst X13.here hx rfl (hb hby (dB9 13)) kst) ?_
 show OwnWk _ _ _ _ (T13.setTop (mkF m 24 #[vR a, vR x] [(.int (1 : Int32))]))
 exact own_retZ X13 hx hlk hret (by simp) (z' := (1 : Int32)) rfl (hb hby (dB9 14)) (by decide) (by decide) (by rw [e13]; exact ⟨ed, rfl, N13, K18, szed0, ged, Fm13, Fe13, Fs13, Vq13, Oq13⟩)
theorem ef_adA1 (m : MethodId) (x0 : Addr) (x1 : Addr) (x2 : Addr) (x3 : Int32) : entryFrame m #[(.ref x0), (.ref x1), (.ref x2), (.int x3)] 4 = mkF m 0 #[vR x0, vR x1, vR x2, vI x3] [] := by first | (simp [entryFrame, mkF, argsToLocals, Value.category]; done) | rfl
def Q_adA1 (Z : State) (dce : Addr) (a x ed : Addr) (y0 : Addr)  (h0 : Heap) (n0 : Nat) (v : Option Value) (h : Heap) (L : List Loc) : Prop := v = none ∧ Fr n0 L ∧ Keep h0 h [a, ed] ∧ Fld Z h a "java/util/AbstractList" "modCount" "I" (.int (2 : Int32)) ∧ Fld Z h a "java/util/ArrayList" "elementData" "[Ljava/lang/Object;" (.ref ed) ∧ Fld Z h a "java/util/ArrayList" "size" "I" (.int (2 : Int32)) ∧ OAr Z h ed (.object "java/lang/Object") [(.ref y0), (.ref x), .null, .null, .null, .null, .null, .null, .null, .null] ∧ OOv Z h ed "java/lang/Object"
set_option maxRecDepth 65536 in
set_option maxHeartbeats 40000000 in
theorem adA1 (l : Launch) (Z : State) (a0 : Array Value) (hw : ∀ d ∈ tables_1, d.before a0 Z = true) (dce : Addr) (a x ed : Addr) (y0 : Addr)  (h0 : Heap) (n0 : Nat) (Z0 : n0 ≤ h0.size) (O0 : Old Z n0 h0) (S_d : Sta Z Z.heap "java/util/ArrayList" "DEFAULTCAPACITY_EMPTY_ELEMENTDATA" "[Ljava/lang/Object;" (.ref dce)) (V_d : OAr Z Z.heap dce (.object "java/lang/Object") []) (S_a : Sta Z Z.heap "java/util/BitSet" "$assertionsDisabled" "Z" (.int (1 : Int32))) (I_x : Ins Z h0 x "java/lang/Object" true) (E_a : Exa Z h0 a "java/util/ArrayList") (g_a : n0 ≤ a) (F_m : Fld Z h0 a "java/util/AbstractList" "modCount" "I" (.int (2 : Int32))) (F_e : Fld Z h0 a "java/util/ArrayList" "elementData" "[Ljava/lang/Object;" (.ref ed)) (F_s : Fld Z h0 a "java/util/ArrayList" "size" "I" (.int (1 : Int32))) (g_e : n0 ≤ ed) (ne_ae : a ≠ ed) (V_e : OAr Z h0 ed (.object "java/lang/Object") [(.ref y0), .null, .null, .null, .null, .null, .null, .null, .null, .null]) (O_e : OOv Z h0 ed "java/lang/Object") :
    OwnMet l yN10 jdk_38_method_24_code 4 none [] ({ frames := 0, cells := 0, slots := 0, locals := 0 } : Room) Z #[(.ref a), (.ref x), (.ref ed), (.int (1 : Int32))] h0 (Q_adA1 Z dce a x ed y0 h0 n0) := by
 refine own_met pn_10 (fun p e s m below meth c s₁ hx hby hml hown hnm hret hlk hZ X0 e0 => ?_)
 have hown : s.vm.findClass "java/util/ArrayList" = some m.cls := hown
 have N0 := Fr.nil n0
 have K0 := Keep.refl h0 [a, ed]
 rw [ef_adA1]
 show OwnWk _ _ _ _ (s₁.setTop (mkF m 0 #[vR a, vR x, vR ed, vI (1 : Int32)] []))
 refine own_go (fun tgt kst => XS.iloadN X0.here hx rfl (hb hby (dB10 0)) rfl  kst) ?_
 refine own_go (fun tgt kst => XS.aloadN X0.here hx rfl (hb hby (dB10 1)) rfl rfl  kst) ?_
 refine own_len X0 hx hZ e0 V_e rfl rfl (hb hby (dB10 2)) (N := (10 : Int32)) rfl ?_
 refine own_go (fun tgt kst => XS.icmpYes X0.here hx rfl (pc0 := 3) (pc' := 11) rfl (hb hby (dB10 3)) rfl (feq (by decide : ¬ ((1 : Int32) = (10 : Int32)))).2 (by decide) (by decide) kst) ?_
 refine own_go (fun tgt kst => XS.aloadN X0.here hx rfl (hb hby (dB10 7)) rfl rfl  kst) ?_
 refine own_go (fun tgt kst => XS.iloadN X0.here hx rfl (hb hby (dB10 8)) rfl  kst) ?_
 show OwnWk _ _ _ _ (s₁.setTop (mkF m 13 #[vR a, vR x, vR ed, vI (1 : Int32)] [(.int (1 : Int32)), (.ref ed)]))
 refine own_go (fun tgt kst => XS.aloadN X0.here hx rfl (hb hby (dB10 9)) rfl rfl  kst) ?_
 refine own_stR X0 hx hZ e0 V_e O_e I_x rfl rfl (hb hby (dB10 10)) (by decide) (Nat.le_of_ble_eq_true rfl) (fun T1 h1 X1 e1 W1 V1 => ?_)
 have N1 := Fr.snoc X1 N0 g_e
 have F2 := Old.wr O0 W1 g_e
 have F3 := Exa.wr W1 E_a
 have F4 := Fld.other W1 F_m (Or.inl ne_ae)
 have F5 := Fld.other W1 F_e (Or.inl ne_ae)
 have F6 := Fld.other W1 F_s (Or.inl ne_ae)
 have F7 := Ins.wr W1 I_x
 have F8 := OOv.wr W1 O_e
 have Z9 := Nat.le_trans Z0 (Keep.of_wr W1).1
 have K10 := Keep.wr K0 W1 (Or.inl (List.mem_of_getElem? (i := 1) rfl))
 refine own_go (fun tgt kst => XS.aloadN X1.here hx rfl (hb hby (dB10 11)) rfl rfl  kst) ?_
 refine own_go (fun tgt kst => XS.iloadN X1.here hx rfl (hb hby (dB10 12)) rfl  kst) ?_
 refine own_go (fun tgt kst => XS.iconst X1.here hx rfl (hb hby (dB10 13)) kst) ?_
 refine own_go (fun tgt kst => XS.iadd X1.here hx rfl (hb hby (dB10 14)) rfl kst) ?_
 show OwnWk _ _ _ _ (T1.setTop (mkF m 19 #[vR a, vR x, vR ed, vI (1 : Int32)] [(.int (2 : Int32)), (.ref a)]))
 obtain ⟨T11, h11, X11, e11, W11, st11⟩ := putF X1 hx hZ hown (host := "") (Or.inl (wq hw 60 rfl)) Via.refl e1 F6 F3 (Or.inl (wq hw 61 rfl)) (wq hw 30 rfl) (v := (.int (2 : Int32))) (ty := .int) (by decide) rfl rfl (g := (mkF m 19 #[vR a, vR x, vR ed, vI (1 : Int32)] [(.int (2 : Int32)), (.ref a)])) rfl rfl (hb hby (dB10 15))
 refine own_go st11 ?_
 have N11 := Fr.snoc X11 N1 g_a
 have Fw11 := Fld.same W11 F6
 have F12 := Old.wr F2 W11 g_a
 have F13 := Exa.wr W11 F3
 have F14 := Fld.other W11 F4 (Or.inr (slot_ne (Or.inl (wq hw 49 rfl)) (Or.inl (wq hw 61 rfl)) (by decide) (t := .int) (t' := .int) (by decide) (by decide)))
 have F15 := Fld.other W11 F5 (Or.inr (slot_ne (Or.inl (wq hw 52 rfl)) (Or.inl (wq hw 61 rfl)) (by decide) (t := (.array (.object "java/lang/Object"))) (t' := .int) (by decide) (by decide)))
 have F16 := Ins.wr W11 F7
 have F17 := OOv.wr W11 F8
 have F18 := OAr.other V1 W11 (Ne.symm ne_ae)
 have Z19 := Nat.le_trans Z9 (Keep.of_wr W11).1
 have K20 := Keep.wr K10 W11 (Or.inl (List.mem_of_getElem? (i := 0) rfl))
 show OwnWk _ _ _ _ (T11.setTop (mkF m 22 #[vR a, vR x, vR ed, vI (1 : Int32)] []))
 exact own_retV X11 hx hlk hret (hb hby (dB10 16)) (by decide) (by decide) (by rw [e11]; exact ⟨rfl, N11, K20, F14, F15, Fw11, F18, F17⟩)
theorem ef_adB1 (m : MethodId) (x0 : Addr) (x1 : Addr) : entryFrame m #[(.ref x0), (.ref x1)] 2 = mkF m 0 #[vR x0, vR x1] [] := by first | (simp [entryFrame, mkF, argsToLocals, Value.category]; done) | rfl
def Q_adB1 (Z : State) (dce : Addr) (a x ed : Addr) (y0 : Addr)  (h0 : Heap) (n0 : Nat) (v : Option Value) (h : Heap) (L : List Loc) : Prop := v = some (.int 1) ∧ Fr n0 L ∧ Keep h0 h [a, ed] ∧ Fld Z h a "java/util/AbstractList" "modCount" "I" (.int (2 : Int32)) ∧ Fld Z h a "java/util/ArrayList" "elementData" "[Ljava/lang/Object;" (.ref ed) ∧ Fld Z h a "java/util/ArrayList" "size" "I" (.int (2 : Int32)) ∧ OAr Z h ed (.object "java/lang/Object") [(.ref y0), (.ref x), .null, .null, .null, .null, .null, .null, .null, .null] ∧ OOv Z h ed "java/lang/Object"
set_option maxRecDepth 65536 in
set_option maxHeartbeats 40000000 in
theorem adB1 (l : Launch) (Z : State) (a0 : Array Value) (hw : ∀ d ∈ tables_1, d.before a0 Z = true) (dce : Addr) (a x ed : Addr) (y0 : Addr)  (h0 : Heap) (n0 : Nat) (Z0 : n0 ≤ h0.size) (O0 : Old Z n0 h0) (S_d : Sta Z Z.heap "java/util/ArrayList" "DEFAULTCAPACITY_EMPTY_ELEMENTDATA" "[Ljava/lang/Object;" (.ref dce)) (V_d : OAr Z Z.heap dce (.object "java/lang/Object") []) (S_a : Sta Z Z.heap "java/util/BitSet" "$assertionsDisabled" "Z" (.int (1 : Int32))) (I_x : Ins Z h0 x "java/lang/Object" true) (E_a : Exa Z h0 a "java/util/ArrayList") (g_a : n0 ≤ a) (F_m : Fld Z h0 a "java/util/AbstractList" "modCount" "I" (.int (1 : Int32))) (F_e : Fld Z h0 a "java/util/ArrayList" "elementData" "[Ljava/lang/Object;" (.ref ed)) (F_s : Fld Z h0 a "java/util/ArrayList" "size" "I" (.int (1 : Int32))) (g_e : n0 ≤ ed) (ne_ae : a ≠ ed) (V_e : OAr Z h0 ed (.object "java/lang/Object") [(.ref y0), .null, .null, .null, .null, .null, .null, .null, .null, .null]) (O_e : OOv Z h0 ed "java/lang/Object") :
    OwnMet l yN9 jdk_38_method_25_code 2 (some .boolean) [] ({ frames := 1, cells := 0, slots := 0, locals := 15 } : Room) Z #[(.ref a), (.ref x)] h0 (Q_adB1 Z dce a x ed y0 h0 n0) := by
 refine own_met pn_9 (fun p e s m below meth c s₁ hx hby hml hown hnm hret hlk hZ X0 e0 => ?_)
 have hown : s.vm.findClass "java/util/ArrayList" = some m.cls := hown
 have N0 := Fr.nil n0
 have K0 := Keep.refl h0 [a, ed]
 rw [ef_adB1]
 show OwnWk _ _ _ _ (s₁.setTop (mkF m 0 #[vR a, vR x] []))
 refine own_go (fun tgt kst => XS.aloadN X0.here hx rfl (hb hby (dB9 0)) rfl rfl  kst) ?_
 refine own_go (fun tgt kst => XS.dup X0.here hx rfl (hb hby (dB9 1)) rfl rfl kst) ?_
 refine own_gF X0 hx hZ hown (wq hw 58 rfl) (Via.of (wq hw 59 rfl)) e0 F_m rfl rfl (hb hby (dB9 2)) fun T1 X1 e1 => ?_
 refine own_go (fun tgt kst => XS.iconst X1.here hx rfl (hb hby (dB9 3)) kst) ?_
 refine own_go (fun tgt kst => XS.iadd X1.here hx rfl (hb hby (dB9 4)) rfl kst) ?_
 obtain ⟨T2, h2, X2, e2, W2, st2⟩ := putF X1 hx hZ hown (host := "") (Or.inl (wq hw 58 rfl)) (Via.of (wq hw 59 rfl)) e1 F_m E_a (Or.inl (wq hw 49 rfl)) (wq hw 30 rfl) (v := (.int (2 : Int32))) (ty := .int) (by decide) rfl rfl (g := (mkF m 7 #[vR a, vR x] [(.int (2 : Int32)), (.ref a)])) rfl rfl (hb hby (dB9 5))
 refine own_go st2 ?_
 have N2 := Fr.snoc X2 N0 g_a
 have Fw2 := Fld.same W2 F_m
 have F3 := Old.wr O0 W2 g_a
 have F4 := Exa.wr W2 E_a
 have F5 := Fld.other W2 F_e (Or.inr (slot_ne (Or.inl (wq hw 52 rfl)) (Or.inl (wq hw 49 rfl)) (by decide) (t := (.array (.object "java/lang/Object"))) (t' := .int) (by decide) (by decide)))
 have F6 := Fld.other W2 F_s (Or.inr (slot_ne (Or.inl (wq hw 61 rfl)) (Or.inl (wq hw 49 rfl)) (by decide) (t := .int) (t' := .int) (by decide) (by decide)))
 have F7 := Ins.wr W2 I_x
 have F8 := OAr.other V_e W2 (Ne.symm ne_ae)
 have F9 := OOv.wr W2 O_e
 have Z10 := Nat.le_trans Z0 (Keep.of_wr W2).1
 have K11 := Keep.wr K0 W2 (Or.inl (List.mem_of_getElem? (i := 0) rfl))
 show OwnWk _ _ _ _ (T2.setTop (mkF m 10 #[vR a, vR x] []))
 refine own_go (fun tgt kst => XS.aloadN X2.here hx rfl (hb hby (dB9 6)) rfl rfl  kst) ?_
 refine own_go (fun tgt kst => XS.aloadN X2.here hx rfl (hb hby (dB9 7)) rfl rfl  kst) ?_
 refine own_go (fun tgt kst => XS.aloadN X2.here hx rfl (hb hby (dB9 8)) rfl rfl  kst) ?_
 refine own_gF X2 hx hZ hown (wq hw 51 rfl) Via.refl e2 F5 rfl rfl (hb hby (dB9 9)) fun T12 X12 e12 => ?_
 refine own_go (fun tgt kst => XS.aloadN X12.here hx rfl (hb hby (dB9 10)) rfl rfl  kst) ?_
 refine own_gF X12 hx hZ hown (wq hw 60 rfl) Via.refl e12 F6 rfl rfl (hb hby (dB9 11)) fun T13 X13 e13 => ?_
 show OwnWk _ _ _ _ (T13.setTop (mkF m 20 #[vR a, vR x] [(.int (1 : Int32)), (.ref ed), (.ref x), (.ref a)]))
 have lt14 : a < h2.size := F4.lt
 have lt15 : ed < h2.size := F8.lt
 refine own_callP X13 hx hZ (y := yN10) hown (wq hw 62 rfl) (wq hw 63 rfl) (wq hw 65 rfl) (wq hw 64 rfl) (wq hw 31 rfl) (wq hw 66 rfl) (by decide) (a := a) F4 (argsL := [(.ref x), (.ref ed), (.int (1 : Int32))]) (rest := [])  (h := h2) (adA1 l Z a0 hw dce a x ed y0 h2 n0 Z10 F3 S_d V_d S_a F7 F4 g_a Fw2 F5 F6 g_e ne_ae F8 F9) e13 (W := 0) (by decide) (by decide) (by decide) (by decide) rfl (by rw [hml]; rfl) (lenOf pd_7 rfl) rfl (by show 2 * 0 + _ ≤ _; exact Nat.le_of_eq rfl) (hb hby (dB9 12)) (fun v16 T16 h16 L16 X16 e16 hQ16 => ?_)
 obtain ⟨rfl, Nq16, Kq16, Fm16, Fe16, Fs16, Vq16, Oq16⟩ := hQ16
 have N16 := Fr.app N2 Nq16
 have F17 := Old.keep F3 Kq16 (allS g_a (allS g_e all0))
 have F18 := Exa.keep F4 Kq16
 have F19 := own_ins_keep F7 Kq16
 have F20 := OOv.keep F9 Kq16
 have Z21 := Nat.le_trans Z10 Kq16.1
 have K22 := Keep.trans K11 Kq16 (allS (Or.inl (List.mem_of_getElem? (i := 0) rfl)) (allS (Or.inl (List.mem_of_getElem? (i := 1) rfl)) all0))
 show OwnWk _ _ _ _ (T16.setTop (mkF m 23 #[vR a, vR x] []))
 refine own_go (fun tgt kst => XS.iconst X16.here hx rfl (hb hby (dB9 13)) kst) ?_
 show OwnWk _ _ _ _ (T16.setTop (mkF m 24 #[vR a, vR x] [(.int (1 : Int32))]))
 exact own_retZ X16 hx hlk hret (by simp) (z' := (1 : Int32)) rfl (hb hby (dB9 14)) (by decide) (by decide) (by rw [e16]; exact ⟨rfl, N16, K22, Fm16, Fe16, Fs16, Vq16, Oq16⟩)
theorem ef_adA2 (m : MethodId) (x0 : Addr) (x1 : Addr) (x2 : Addr) (x3 : Int32) : entryFrame m #[(.ref x0), (.ref x1), (.ref x2), (.int x3)] 4 = mkF m 0 #[vR x0, vR x1, vR x2, vI x3] [] := by first | (simp [entryFrame, mkF, argsToLocals, Value.category]; done) | rfl
def Q_adA2 (Z : State) (dce : Addr) (a x ed : Addr) (y0 y1 : Addr)  (h0 : Heap) (n0 : Nat) (v : Option Value) (h : Heap) (L : List Loc) : Prop := v = none ∧ Fr n0 L ∧ Keep h0 h [a, ed] ∧ Fld Z h a "java/util/AbstractList" "modCount" "I" (.int (3 : Int32)) ∧ Fld Z h a "java/util/ArrayList" "elementData" "[Ljava/lang/Object;" (.ref ed) ∧ Fld Z h a "java/util/ArrayList" "size" "I" (.int (3 : Int32)) ∧ OAr Z h ed (.object "java/lang/Object") [(.ref y0), (.ref y1), (.ref x), .null, .null, .null, .null, .null, .null, .null] ∧ OOv Z h ed "java/lang/Object"
set_option maxRecDepth 65536 in
set_option maxHeartbeats 40000000 in
theorem adA2 (l : Launch) (Z : State) (a0 : Array Value) (hw : ∀ d ∈ tables_1, d.before a0 Z = true) (dce : Addr) (a x ed : Addr) (y0 y1 : Addr)  (h0 : Heap) (n0 : Nat) (Z0 : n0 ≤ h0.size) (O0 : Old Z n0 h0) (S_d : Sta Z Z.heap "java/util/ArrayList" "DEFAULTCAPACITY_EMPTY_ELEMENTDATA" "[Ljava/lang/Object;" (.ref dce)) (V_d : OAr Z Z.heap dce (.object "java/lang/Object") []) (S_a : Sta Z Z.heap "java/util/BitSet" "$assertionsDisabled" "Z" (.int (1 : Int32))) (I_x : Ins Z h0 x "java/lang/Object" true) (E_a : Exa Z h0 a "java/util/ArrayList") (g_a : n0 ≤ a) (F_m : Fld Z h0 a "java/util/AbstractList" "modCount" "I" (.int (3 : Int32))) (F_e : Fld Z h0 a "java/util/ArrayList" "elementData" "[Ljava/lang/Object;" (.ref ed)) (F_s : Fld Z h0 a "java/util/ArrayList" "size" "I" (.int (2 : Int32))) (g_e : n0 ≤ ed) (ne_ae : a ≠ ed) (V_e : OAr Z h0 ed (.object "java/lang/Object") [(.ref y0), (.ref y1), .null, .null, .null, .null, .null, .null, .null, .null]) (O_e : OOv Z h0 ed "java/lang/Object") :
    OwnMet l yN10 jdk_38_method_24_code 4 none [] ({ frames := 0, cells := 0, slots := 0, locals := 0 } : Room) Z #[(.ref a), (.ref x), (.ref ed), (.int (2 : Int32))] h0 (Q_adA2 Z dce a x ed y0 y1 h0 n0) := by
 refine own_met pn_10 (fun p e s m below meth c s₁ hx hby hml hown hnm hret hlk hZ X0 e0 => ?_)
 have hown : s.vm.findClass "java/util/ArrayList" = some m.cls := hown
 have N0 := Fr.nil n0
 have K0 := Keep.refl h0 [a, ed]
 rw [ef_adA2]
 show OwnWk _ _ _ _ (s₁.setTop (mkF m 0 #[vR a, vR x, vR ed, vI (2 : Int32)] []))
 refine own_go (fun tgt kst => XS.iloadN X0.here hx rfl (hb hby (dB10 0)) rfl  kst) ?_
 refine own_go (fun tgt kst => XS.aloadN X0.here hx rfl (hb hby (dB10 1)) rfl rfl  kst) ?_
 refine own_len X0 hx hZ e0 V_e rfl rfl (hb hby (dB10 2)) (N := (10 : Int32)) rfl ?_
 refine own_go (fun tgt kst => XS.icmpYes X0.here hx rfl (pc0 := 3) (pc' := 11) rfl (hb hby (dB10 3)) rfl (feq (by decide : ¬ ((2 : Int32) = (10 : Int32)))).2 (by decide) (by decide) kst) ?_
 refine own_go (fun tgt kst => XS.aloadN X0.here hx rfl (hb hby (dB10 7)) rfl rfl  kst) ?_
 refine own_go (fun tgt kst => XS.iloadN X0.here hx rfl (hb hby (dB10 8)) rfl  kst) ?_
 show OwnWk _ _ _ _ (s₁.setTop (mkF m 13 #[vR a, vR x, vR ed, vI (2 : Int32)] [(.int (2 : Int32)), (.ref ed)]))
 refine own_go (fun tgt kst => XS.aloadN X0.here hx rfl (hb hby (dB10 9)) rfl rfl  kst) ?_
 refine own_stR X0 hx hZ e0 V_e O_e I_x rfl rfl (hb hby (dB10 10)) (by decide) (Nat.le_of_ble_eq_true rfl) (fun T1 h1 X1 e1 W1 V1 => ?_)
 have N1 := Fr.snoc X1 N0 g_e
 have F2 := Old.wr O0 W1 g_e
 have F3 := Exa.wr W1 E_a
 have F4 := Fld.other W1 F_m (Or.inl ne_ae)
 have F5 := Fld.other W1 F_e (Or.inl ne_ae)
 have F6 := Fld.other W1 F_s (Or.inl ne_ae)
 have F7 := Ins.wr W1 I_x
 have F8 := OOv.wr W1 O_e
 have Z9 := Nat.le_trans Z0 (Keep.of_wr W1).1
 have K10 := Keep.wr K0 W1 (Or.inl (List.mem_of_getElem? (i := 1) rfl))
 refine own_go (fun tgt kst => XS.aloadN X1.here hx rfl (hb hby (dB10 11)) rfl rfl  kst) ?_
 refine own_go (fun tgt kst => XS.iloadN X1.here hx rfl (hb hby (dB10 12)) rfl  kst) ?_
 refine own_go (fun tgt kst => XS.iconst X1.here hx rfl (hb hby (dB10 13)) kst) ?_
 refine own_go (fun tgt kst => XS.iadd X1.here hx rfl (hb hby (dB10 14)) rfl kst) ?_
 show OwnWk _ _ _ _ (T1.setTop (mkF m 19 #[vR a, vR x, vR ed, vI (2 : Int32)] [(.int (3 : Int32)), (.ref a)]))
 obtain ⟨T11, h11, X11, e11, W11, st11⟩ := putF X1 hx hZ hown (host := "") (Or.inl (wq hw 60 rfl)) Via.refl e1 F6 F3 (Or.inl (wq hw 61 rfl)) (wq hw 30 rfl) (v := (.int (3 : Int32))) (ty := .int) (by decide) rfl rfl (g := (mkF m 19 #[vR a, vR x, vR ed, vI (2 : Int32)] [(.int (3 : Int32)), (.ref a)])) rfl rfl (hb hby (dB10 15))
 refine own_go st11 ?_
 have N11 := Fr.snoc X11 N1 g_a
 have Fw11 := Fld.same W11 F6
 have F12 := Old.wr F2 W11 g_a
 have F13 := Exa.wr W11 F3
 have F14 := Fld.other W11 F4 (Or.inr (slot_ne (Or.inl (wq hw 49 rfl)) (Or.inl (wq hw 61 rfl)) (by decide) (t := .int) (t' := .int) (by decide) (by decide)))
 have F15 := Fld.other W11 F5 (Or.inr (slot_ne (Or.inl (wq hw 52 rfl)) (Or.inl (wq hw 61 rfl)) (by decide) (t := (.array (.object "java/lang/Object"))) (t' := .int) (by decide) (by decide)))
 have F16 := Ins.wr W11 F7
 have F17 := OOv.wr W11 F8
 have F18 := OAr.other V1 W11 (Ne.symm ne_ae)
 have Z19 := Nat.le_trans Z9 (Keep.of_wr W11).1
 have K20 := Keep.wr K10 W11 (Or.inl (List.mem_of_getElem? (i := 0) rfl))
 show OwnWk _ _ _ _ (T11.setTop (mkF m 22 #[vR a, vR x, vR ed, vI (2 : Int32)] []))
 exact own_retV X11 hx hlk hret (hb hby (dB10 16)) (by decide) (by decide) (by rw [e11]; exact ⟨rfl, N11, K20, F14, F15, Fw11, F18, F17⟩)
theorem ef_adB2 (m : MethodId) (x0 : Addr) (x1 : Addr) : entryFrame m #[(.ref x0), (.ref x1)] 2 = mkF m 0 #[vR x0, vR x1] [] := by first | (simp [entryFrame, mkF, argsToLocals, Value.category]; done) | rfl
def Q_adB2 (Z : State) (dce : Addr) (a x ed : Addr) (y0 y1 : Addr)  (h0 : Heap) (n0 : Nat) (v : Option Value) (h : Heap) (L : List Loc) : Prop := v = some (.int 1) ∧ Fr n0 L ∧ Keep h0 h [a, ed] ∧ Fld Z h a "java/util/AbstractList" "modCount" "I" (.int (3 : Int32)) ∧ Fld Z h a "java/util/ArrayList" "elementData" "[Ljava/lang/Object;" (.ref ed) ∧ Fld Z h a "java/util/ArrayList" "size" "I" (.int (3 : Int32)) ∧ OAr Z h ed (.object "java/lang/Object") [(.ref y0), (.ref y1), (.ref x), .null, .null, .null, .null, .null, .null, .null] ∧ OOv Z h ed "java/lang/Object"
set_option maxRecDepth 65536 in
set_option maxHeartbeats 40000000 in
theorem adB2 (l : Launch) (Z : State) (a0 : Array Value) (hw : ∀ d ∈ tables_1, d.before a0 Z = true) (dce : Addr) (a x ed : Addr) (y0 y1 : Addr)  (h0 : Heap) (n0 : Nat) (Z0 : n0 ≤ h0.size) (O0 : Old Z n0 h0) (S_d : Sta Z Z.heap "java/util/ArrayList" "DEFAULTCAPACITY_EMPTY_ELEMENTDATA" "[Ljava/lang/Object;" (.ref dce)) (V_d : OAr Z Z.heap dce (.object "java/lang/Object") []) (S_a : Sta Z Z.heap "java/util/BitSet" "$assertionsDisabled" "Z" (.int (1 : Int32))) (I_x : Ins Z h0 x "java/lang/Object" true) (E_a : Exa Z h0 a "java/util/ArrayList") (g_a : n0 ≤ a) (F_m : Fld Z h0 a "java/util/AbstractList" "modCount" "I" (.int (2 : Int32))) (F_e : Fld Z h0 a "java/util/ArrayList" "elementData" "[Ljava/lang/Object;" (.ref ed)) (F_s : Fld Z h0 a "java/util/ArrayList" "size" "I" (.int (2 : Int32))) (g_e : n0 ≤ ed) (ne_ae : a ≠ ed) (V_e : OAr Z h0 ed (.object "java/lang/Object") [(.ref y0), (.ref y1), .null, .null, .null, .null, .null, .null, .null, .null]) (O_e : OOv Z h0 ed "java/lang/Object") :
    OwnMet l yN9 jdk_38_method_25_code 2 (some .boolean) [] ({ frames := 1, cells := 0, slots := 0, locals := 15 } : Room) Z #[(.ref a), (.ref x)] h0 (Q_adB2 Z dce a x ed y0 y1 h0 n0) := by
 refine own_met pn_9 (fun p e s m below meth c s₁ hx hby hml hown hnm hret hlk hZ X0 e0 => ?_)
 have hown : s.vm.findClass "java/util/ArrayList" = some m.cls := hown
 have N0 := Fr.nil n0
 have K0 := Keep.refl h0 [a, ed]
 rw [ef_adB2]
 show OwnWk _ _ _ _ (s₁.setTop (mkF m 0 #[vR a, vR x] []))
 refine own_go (fun tgt kst => XS.aloadN X0.here hx rfl (hb hby (dB9 0)) rfl rfl  kst) ?_
 refine own_go (fun tgt kst => XS.dup X0.here hx rfl (hb hby (dB9 1)) rfl rfl kst) ?_
 refine own_gF X0 hx hZ hown (wq hw 58 rfl) (Via.of (wq hw 59 rfl)) e0 F_m rfl rfl (hb hby (dB9 2)) fun T1 X1 e1 => ?_
 refine own_go (fun tgt kst => XS.iconst X1.here hx rfl (hb hby (dB9 3)) kst) ?_
 refine own_go (fun tgt kst => XS.iadd X1.here hx rfl (hb hby (dB9 4)) rfl kst) ?_
 obtain ⟨T2, h2, X2, e2, W2, st2⟩ := putF X1 hx hZ hown (host := "") (Or.inl (wq hw 58 rfl)) (Via.of (wq hw 59 rfl)) e1 F_m E_a (Or.inl (wq hw 49 rfl)) (wq hw 30 rfl) (v := (.int (3 : Int32))) (ty := .int) (by decide) rfl rfl (g := (mkF m 7 #[vR a, vR x] [(.int (3 : Int32)), (.ref a)])) rfl rfl (hb hby (dB9 5))
 refine own_go st2 ?_
 have N2 := Fr.snoc X2 N0 g_a
 have Fw2 := Fld.same W2 F_m
 have F3 := Old.wr O0 W2 g_a
 have F4 := Exa.wr W2 E_a
 have F5 := Fld.other W2 F_e (Or.inr (slot_ne (Or.inl (wq hw 52 rfl)) (Or.inl (wq hw 49 rfl)) (by decide) (t := (.array (.object "java/lang/Object"))) (t' := .int) (by decide) (by decide)))
 have F6 := Fld.other W2 F_s (Or.inr (slot_ne (Or.inl (wq hw 61 rfl)) (Or.inl (wq hw 49 rfl)) (by decide) (t := .int) (t' := .int) (by decide) (by decide)))
 have F7 := Ins.wr W2 I_x
 have F8 := OAr.other V_e W2 (Ne.symm ne_ae)
 have F9 := OOv.wr W2 O_e
 have Z10 := Nat.le_trans Z0 (Keep.of_wr W2).1
 have K11 := Keep.wr K0 W2 (Or.inl (List.mem_of_getElem? (i := 0) rfl))
 show OwnWk _ _ _ _ (T2.setTop (mkF m 10 #[vR a, vR x] []))
 refine own_go (fun tgt kst => XS.aloadN X2.here hx rfl (hb hby (dB9 6)) rfl rfl  kst) ?_
 refine own_go (fun tgt kst => XS.aloadN X2.here hx rfl (hb hby (dB9 7)) rfl rfl  kst) ?_
 refine own_go (fun tgt kst => XS.aloadN X2.here hx rfl (hb hby (dB9 8)) rfl rfl  kst) ?_
 refine own_gF X2 hx hZ hown (wq hw 51 rfl) Via.refl e2 F5 rfl rfl (hb hby (dB9 9)) fun T12 X12 e12 => ?_
 refine own_go (fun tgt kst => XS.aloadN X12.here hx rfl (hb hby (dB9 10)) rfl rfl  kst) ?_
 refine own_gF X12 hx hZ hown (wq hw 60 rfl) Via.refl e12 F6 rfl rfl (hb hby (dB9 11)) fun T13 X13 e13 => ?_
 show OwnWk _ _ _ _ (T13.setTop (mkF m 20 #[vR a, vR x] [(.int (2 : Int32)), (.ref ed), (.ref x), (.ref a)]))
 have lt14 : a < h2.size := F4.lt
 have lt15 : ed < h2.size := F8.lt
 refine own_callP X13 hx hZ (y := yN10) hown (wq hw 62 rfl) (wq hw 63 rfl) (wq hw 65 rfl) (wq hw 64 rfl) (wq hw 31 rfl) (wq hw 66 rfl) (by decide) (a := a) F4 (argsL := [(.ref x), (.ref ed), (.int (2 : Int32))]) (rest := [])  (h := h2) (adA2 l Z a0 hw dce a x ed y0 y1 h2 n0 Z10 F3 S_d V_d S_a F7 F4 g_a Fw2 F5 F6 g_e ne_ae F8 F9) e13 (W := 0) (by decide) (by decide) (by decide) (by decide) rfl (by rw [hml]; rfl) (lenOf pd_7 rfl) rfl (by show 2 * 0 + _ ≤ _; exact Nat.le_of_eq rfl) (hb hby (dB9 12)) (fun v16 T16 h16 L16 X16 e16 hQ16 => ?_)
 obtain ⟨rfl, Nq16, Kq16, Fm16, Fe16, Fs16, Vq16, Oq16⟩ := hQ16
 have N16 := Fr.app N2 Nq16
 have F17 := Old.keep F3 Kq16 (allS g_a (allS g_e all0))
 have F18 := Exa.keep F4 Kq16
 have F19 := own_ins_keep F7 Kq16
 have F20 := OOv.keep F9 Kq16
 have Z21 := Nat.le_trans Z10 Kq16.1
 have K22 := Keep.trans K11 Kq16 (allS (Or.inl (List.mem_of_getElem? (i := 0) rfl)) (allS (Or.inl (List.mem_of_getElem? (i := 1) rfl)) all0))
 show OwnWk _ _ _ _ (T16.setTop (mkF m 23 #[vR a, vR x] []))
 refine own_go (fun tgt kst => XS.iconst X16.here hx rfl (hb hby (dB9 13)) kst) ?_
 show OwnWk _ _ _ _ (T16.setTop (mkF m 24 #[vR a, vR x] [(.int (1 : Int32))]))
 exact own_retZ X16 hx hlk hret (by simp) (z' := (1 : Int32)) rfl (hb hby (dB9 14)) (by decide) (by decide) (by rw [e16]; exact ⟨rfl, N16, K22, Fm16, Fe16, Fs16, Vq16, Oq16⟩)
theorem ef_adA3 (m : MethodId) (x0 : Addr) (x1 : Addr) (x2 : Addr) (x3 : Int32) : entryFrame m #[(.ref x0), (.ref x1), (.ref x2), (.int x3)] 4 = mkF m 0 #[vR x0, vR x1, vR x2, vI x3] [] := by first | (simp [entryFrame, mkF, argsToLocals, Value.category]; done) | rfl
def Q_adA3 (Z : State) (dce : Addr) (a x ed : Addr) (y0 y1 y2 : Addr)  (h0 : Heap) (n0 : Nat) (v : Option Value) (h : Heap) (L : List Loc) : Prop := v = none ∧ Fr n0 L ∧ Keep h0 h [a, ed] ∧ Fld Z h a "java/util/AbstractList" "modCount" "I" (.int (4 : Int32)) ∧ Fld Z h a "java/util/ArrayList" "elementData" "[Ljava/lang/Object;" (.ref ed) ∧ Fld Z h a "java/util/ArrayList" "size" "I" (.int (4 : Int32)) ∧ OAr Z h ed (.object "java/lang/Object") [(.ref y0), (.ref y1), (.ref y2), (.ref x), .null, .null, .null, .null, .null, .null] ∧ OOv Z h ed "java/lang/Object"
set_option maxRecDepth 65536 in
set_option maxHeartbeats 40000000 in
theorem adA3 (l : Launch) (Z : State) (a0 : Array Value) (hw : ∀ d ∈ tables_1, d.before a0 Z = true) (dce : Addr) (a x ed : Addr) (y0 y1 y2 : Addr)  (h0 : Heap) (n0 : Nat) (Z0 : n0 ≤ h0.size) (O0 : Old Z n0 h0) (S_d : Sta Z Z.heap "java/util/ArrayList" "DEFAULTCAPACITY_EMPTY_ELEMENTDATA" "[Ljava/lang/Object;" (.ref dce)) (V_d : OAr Z Z.heap dce (.object "java/lang/Object") []) (S_a : Sta Z Z.heap "java/util/BitSet" "$assertionsDisabled" "Z" (.int (1 : Int32))) (I_x : Ins Z h0 x "java/lang/Object" true) (E_a : Exa Z h0 a "java/util/ArrayList") (g_a : n0 ≤ a) (F_m : Fld Z h0 a "java/util/AbstractList" "modCount" "I" (.int (4 : Int32))) (F_e : Fld Z h0 a "java/util/ArrayList" "elementData" "[Ljava/lang/Object;" (.ref ed)) (F_s : Fld Z h0 a "java/util/ArrayList" "size" "I" (.int (3 : Int32))) (g_e : n0 ≤ ed) (ne_ae : a ≠ ed) (V_e : OAr Z h0 ed (.object "java/lang/Object") [(.ref y0), (.ref y1), (.ref y2), .null, .null, .null, .null, .null, .null, .null]) (O_e : OOv Z h0 ed "java/lang/Object") :
    OwnMet l yN10 jdk_38_method_24_code 4 none [] ({ frames := 0, cells := 0, slots := 0, locals := 0 } : Room) Z #[(.ref a), (.ref x), (.ref ed), (.int (3 : Int32))] h0 (Q_adA3 Z dce a x ed y0 y1 y2 h0 n0) := by
 refine own_met pn_10 (fun p e s m below meth c s₁ hx hby hml hown hnm hret hlk hZ X0 e0 => ?_)
 have hown : s.vm.findClass "java/util/ArrayList" = some m.cls := hown
 have N0 := Fr.nil n0
 have K0 := Keep.refl h0 [a, ed]
 rw [ef_adA3]
 show OwnWk _ _ _ _ (s₁.setTop (mkF m 0 #[vR a, vR x, vR ed, vI (3 : Int32)] []))
 refine own_go (fun tgt kst => XS.iloadN X0.here hx rfl (hb hby (dB10 0)) rfl  kst) ?_
 refine own_go (fun tgt kst => XS.aloadN X0.here hx rfl (hb hby (dB10 1)) rfl rfl  kst) ?_
 refine own_len X0 hx hZ e0 V_e rfl rfl (hb hby (dB10 2)) (N := (10 : Int32)) rfl ?_
 refine own_go (fun tgt kst => XS.icmpYes X0.here hx rfl (pc0 := 3) (pc' := 11) rfl (hb hby (dB10 3)) rfl (feq (by decide : ¬ ((3 : Int32) = (10 : Int32)))).2 (by decide) (by decide) kst) ?_
 refine own_go (fun tgt kst => XS.aloadN X0.here hx rfl (hb hby (dB10 7)) rfl rfl  kst) ?_
 refine own_go (fun tgt kst => XS.iloadN X0.here hx rfl (hb hby (dB10 8)) rfl  kst) ?_
 show OwnWk _ _ _ _ (s₁.setTop (mkF m 13 #[vR a, vR x, vR ed, vI (3 : Int32)] [(.int (3 : Int32)), (.ref ed)]))
 refine own_go (fun tgt kst => XS.aloadN X0.here hx rfl (hb hby (dB10 9)) rfl rfl  kst) ?_
 refine own_stR X0 hx hZ e0 V_e O_e I_x rfl rfl (hb hby (dB10 10)) (by decide) (Nat.le_of_ble_eq_true rfl) (fun T1 h1 X1 e1 W1 V1 => ?_)
 have N1 := Fr.snoc X1 N0 g_e
 have F2 := Old.wr O0 W1 g_e
 have F3 := Exa.wr W1 E_a
 have F4 := Fld.other W1 F_m (Or.inl ne_ae)
 have F5 := Fld.other W1 F_e (Or.inl ne_ae)
 have F6 := Fld.other W1 F_s (Or.inl ne_ae)
 have F7 := Ins.wr W1 I_x
 have F8 := OOv.wr W1 O_e
 have Z9 := Nat.le_trans Z0 (Keep.of_wr W1).1
 have K10 := Keep.wr K0 W1 (Or.inl (List.mem_of_getElem? (i := 1) rfl))
 refine own_go (fun tgt kst => XS.aloadN X1.here hx rfl (hb hby (dB10 11)) rfl rfl  kst) ?_
 refine own_go (fun tgt kst => XS.iloadN X1.here hx rfl (hb hby (dB10 12)) rfl  kst) ?_
 refine own_go (fun tgt kst => XS.iconst X1.here hx rfl (hb hby (dB10 13)) kst) ?_
 refine own_go (fun tgt kst => XS.iadd X1.here hx rfl (hb hby (dB10 14)) rfl kst) ?_
 show OwnWk _ _ _ _ (T1.setTop (mkF m 19 #[vR a, vR x, vR ed, vI (3 : Int32)] [(.int (4 : Int32)), (.ref a)]))
 obtain ⟨T11, h11, X11, e11, W11, st11⟩ := putF X1 hx hZ hown (host := "") (Or.inl (wq hw 60 rfl)) Via.refl e1 F6 F3 (Or.inl (wq hw 61 rfl)) (wq hw 30 rfl) (v := (.int (4 : Int32))) (ty := .int) (by decide) rfl rfl (g := (mkF m 19 #[vR a, vR x, vR ed, vI (3 : Int32)] [(.int (4 : Int32)), (.ref a)])) rfl rfl (hb hby (dB10 15))
 refine own_go st11 ?_
 have N11 := Fr.snoc X11 N1 g_a
 have Fw11 := Fld.same W11 F6
 have F12 := Old.wr F2 W11 g_a
 have F13 := Exa.wr W11 F3
 have F14 := Fld.other W11 F4 (Or.inr (slot_ne (Or.inl (wq hw 49 rfl)) (Or.inl (wq hw 61 rfl)) (by decide) (t := .int) (t' := .int) (by decide) (by decide)))
 have F15 := Fld.other W11 F5 (Or.inr (slot_ne (Or.inl (wq hw 52 rfl)) (Or.inl (wq hw 61 rfl)) (by decide) (t := (.array (.object "java/lang/Object"))) (t' := .int) (by decide) (by decide)))
 have F16 := Ins.wr W11 F7
 have F17 := OOv.wr W11 F8
 have F18 := OAr.other V1 W11 (Ne.symm ne_ae)
 have Z19 := Nat.le_trans Z9 (Keep.of_wr W11).1
 have K20 := Keep.wr K10 W11 (Or.inl (List.mem_of_getElem? (i := 0) rfl))
 show OwnWk _ _ _ _ (T11.setTop (mkF m 22 #[vR a, vR x, vR ed, vI (3 : Int32)] []))
 exact own_retV X11 hx hlk hret (hb hby (dB10 16)) (by decide) (by decide) (by rw [e11]; exact ⟨rfl, N11, K20, F14, F15, Fw11, F18, F17⟩)
theorem ef_adB3 (m : MethodId) (x0 : Addr) (x1 : Addr) : entryFrame m #[(.ref x0), (.ref x1)] 2 = mkF m 0 #[vR x0, vR x1] [] := by first | (simp [entryFrame, mkF, argsToLocals, Value.category]; done) | rfl
def Q_adB3 (Z : State) (dce : Addr) (a x ed : Addr) (y0 y1 y2 : Addr)  (h0 : Heap) (n0 : Nat) (v : Option Value) (h : Heap) (L : List Loc) : Prop := v = some (.int 1) ∧ Fr n0 L ∧ Keep h0 h [a, ed] ∧ Fld Z h a "java/util/AbstractList" "modCount" "I" (.int (4 : Int32)) ∧ Fld Z h a "java/util/ArrayList" "elementData" "[Ljava/lang/Object;" (.ref ed) ∧ Fld Z h a "java/util/ArrayList" "size" "I" (.int (4 : Int32)) ∧ OAr Z h ed (.object "java/lang/Object") [(.ref y0), (.ref y1), (.ref y2), (.ref x), .null, .null, .null, .null, .null, .null] ∧ OOv Z h ed "java/lang/Object"
set_option maxRecDepth 65536 in
set_option maxHeartbeats 40000000 in
theorem adB3 (l : Launch) (Z : State) (a0 : Array Value) (hw : ∀ d ∈ tables_1, d.before a0 Z = true) (dce : Addr) (a x ed : Addr) (y0 y1 y2 : Addr)  (h0 : Heap) (n0 : Nat) (Z0 : n0 ≤ h0.size) (O0 : Old Z n0 h0) (S_d : Sta Z Z.heap "java/util/ArrayList" "DEFAULTCAPACITY_EMPTY_ELEMENTDATA" "[Ljava/lang/Object;" (.ref dce)) (V_d : OAr Z Z.heap dce (.object "java/lang/Object") []) (S_a : Sta Z Z.heap "java/util/BitSet" "$assertionsDisabled" "Z" (.int (1 : Int32))) (I_x : Ins Z h0 x "java/lang/Object" true) (E_a : Exa Z h0 a "java/util/ArrayList") (g_a : n0 ≤ a) (F_m : Fld Z h0 a "java/util/AbstractList" "modCount" "I" (.int (3 : Int32))) (F_e : Fld Z h0 a "java/util/ArrayList" "elementData" "[Ljava/lang/Object;" (.ref ed)) (F_s : Fld Z h0 a "java/util/ArrayList" "size" "I" (.int (3 : Int32))) (g_e : n0 ≤ ed) (ne_ae : a ≠ ed) (V_e : OAr Z h0 ed (.object "java/lang/Object") [(.ref y0), (.ref y1), (.ref y2), .null, .null, .null, .null, .null, .null, .null]) (O_e : OOv Z h0 ed "java/lang/Object") :
    OwnMet l yN9 jdk_38_method_25_code 2 (some .boolean) [] ({ frames := 1, cells := 0, slots := 0, locals := 15 } : Room) Z #[(.ref a), (.ref x)] h0 (Q_adB3 Z dce a x ed y0 y1 y2 h0 n0) := by
 refine own_met pn_9 (fun p e s m below meth c s₁ hx hby hml hown hnm hret hlk hZ X0 e0 => ?_)
 have hown : s.vm.findClass "java/util/ArrayList" = some m.cls := hown
 have N0 := Fr.nil n0
 have K0 := Keep.refl h0 [a, ed]
 rw [ef_adB3]
 show OwnWk _ _ _ _ (s₁.setTop (mkF m 0 #[vR a, vR x] []))
 refine own_go (fun tgt kst => XS.aloadN X0.here hx rfl (hb hby (dB9 0)) rfl rfl  kst) ?_
 refine own_go (fun tgt kst => XS.dup X0.here hx rfl (hb hby (dB9 1)) rfl rfl kst) ?_
 refine own_gF X0 hx hZ hown (wq hw 58 rfl) (Via.of (wq hw 59 rfl)) e0 F_m rfl rfl (hb hby (dB9 2)) fun T1 X1 e1 => ?_
 refine own_go (fun tgt kst => XS.iconst X1.here hx rfl (hb hby (dB9 3)) kst) ?_
 refine own_go (fun tgt kst => XS.iadd X1.here hx rfl (hb hby (dB9 4)) rfl kst) ?_
 obtain ⟨T2, h2, X2, e2, W2, st2⟩ := putF X1 hx hZ hown (host := "") (Or.inl (wq hw 58 rfl)) (Via.of (wq hw 59 rfl)) e1 F_m E_a (Or.inl (wq hw 49 rfl)) (wq hw 30 rfl) (v := (.int (4 : Int32))) (ty := .int) (by decide) rfl rfl (g := (mkF m 7 #[vR a, vR x] [(.int (4 : Int32)), (.ref a)])) rfl rfl (hb hby (dB9 5))
 refine own_go st2 ?_
 have N2 := Fr.snoc X2 N0 g_a
 have Fw2 := Fld.same W2 F_m
 have F3 := Old.wr O0 W2 g_a
 have F4 := Exa.wr W2 E_a
 have F5 := Fld.other W2 F_e (Or.inr (slot_ne (Or.inl (wq hw 52 rfl)) (Or.inl (wq hw 49 rfl)) (by decide) (t := (.array (.object "java/lang/Object"))) (t' := .int) (by decide) (by decide)))
 have F6 := Fld.other W2 F_s (Or.inr (slot_ne (Or.inl (wq hw 61 rfl)) (Or.inl (wq hw 49 rfl)) (by decide) (t := .int) (t' := .int) (by decide) (by decide)))
 have F7 := Ins.wr W2 I_x
 have F8 := OAr.other V_e W2 (Ne.symm ne_ae)
 have F9 := OOv.wr W2 O_e
 have Z10 := Nat.le_trans Z0 (Keep.of_wr W2).1
 have K11 := Keep.wr K0 W2 (Or.inl (List.mem_of_getElem? (i := 0) rfl))
 show OwnWk _ _ _ _ (T2.setTop (mkF m 10 #[vR a, vR x] []))
 refine own_go (fun tgt kst => XS.aloadN X2.here hx rfl (hb hby (dB9 6)) rfl rfl  kst) ?_
 refine own_go (fun tgt kst => XS.aloadN X2.here hx rfl (hb hby (dB9 7)) rfl rfl  kst) ?_
 refine own_go (fun tgt kst => XS.aloadN X2.here hx rfl (hb hby (dB9 8)) rfl rfl  kst) ?_
 refine own_gF X2 hx hZ hown (wq hw 51 rfl) Via.refl e2 F5 rfl rfl (hb hby (dB9 9)) fun T12 X12 e12 => ?_
 refine own_go (fun tgt kst => XS.aloadN X12.here hx rfl (hb hby (dB9 10)) rfl rfl  kst) ?_
 refine own_gF X12 hx hZ hown (wq hw 60 rfl) Via.refl e12 F6 rfl rfl (hb hby (dB9 11)) fun T13 X13 e13 => ?_
 show OwnWk _ _ _ _ (T13.setTop (mkF m 20 #[vR a, vR x] [(.int (3 : Int32)), (.ref ed), (.ref x), (.ref a)]))
 have lt14 : a < h2.size := F4.lt
 have lt15 : ed < h2.size := F8.lt
 refine own_callP X13 hx hZ (y := yN10) hown (wq hw 62 rfl) (wq hw 63 rfl) (wq hw 65 rfl) (wq hw 64 rfl) (wq hw 31 rfl) (wq hw 66 rfl) (by decide) (a := a) F4 (argsL := [(.ref x), (.ref ed), (.int (3 : Int32))]) (rest := [])  (h := h2) (adA3 l Z a0 hw dce a x ed y0 y1 y2 h2 n0 Z10 F3 S_d V_d S_a F7 F4 g_a Fw2 F5 F6 g_e ne_ae F8 F9) e13 (W := 0) (by decide) (by decide) (by decide) (by decide) rfl (by rw [hml]; rfl) (lenOf pd_7 rfl) rfl (by show 2 * 0 + _ ≤ _; exact Nat.le_of_eq rfl) (hb hby (dB9 12)) (fun v16 T16 h16 L16 X16 e16 hQ16 => ?_)
 obtain ⟨rfl, Nq16, Kq16, Fm16, Fe16, Fs16, Vq16, Oq16⟩ := hQ16
 have N16 := Fr.app N2 Nq16
 have F17 := Old.keep F3 Kq16 (allS g_a (allS g_e all0))
 have F18 := Exa.keep F4 Kq16
 have F19 := own_ins_keep F7 Kq16
 have F20 := OOv.keep F9 Kq16
 have Z21 := Nat.le_trans Z10 Kq16.1
 have K22 := Keep.trans K11 Kq16 (allS (Or.inl (List.mem_of_getElem? (i := 0) rfl)) (allS (Or.inl (List.mem_of_getElem? (i := 1) rfl)) all0))
 show OwnWk _ _ _ _ (T16.setTop (mkF m 23 #[vR a, vR x] []))
 refine own_go (fun tgt kst => XS.iconst X16.here hx rfl (hb hby (dB9 13)) kst) ?_
 show OwnWk _ _ _ _ (T16.setTop (mkF m 24 #[vR a, vR x] [(.int (1 : Int32))]))
 exact own_retZ X16 hx hlk hret (by simp) (z' := (1 : Int32)) rfl (hb hby (dB9 14)) (by decide) (by decide) (by rw [e16]; exact ⟨rfl, N16, K22, Fm16, Fe16, Fs16, Vq16, Oq16⟩)
theorem pn_pn_18 : plainName "jdk/internal/util/Preconditions" = true := by first | (simp [plainName, overriddenIn]; done) | decide +kernel
theorem pn_18 : plainFor yN18 = true := plainFor_of_name pn_pn_18
abbrev tB18 : List (Nat × Instr × Nat) := [(0, .iload_n 0, 1), (1, .ifCond .lt 8, 3), (4, .iload_n 0, 1), (5, .iload_n 1, 1), (6, .if_icmp .lt 10, 3), (9, .aload_n 2, 1), (10, .iload_n 0, 1), (11, .iload_n 1, 1), (12, .invokestatic 95, 3), (15, .athrow, 1), (16, .iload_n 0, 1), (17, .ireturn, 1)]
theorem dB18 (k : Fin 12) : decode jdk_41_method_11_code (tB18.getD k (0, .nop, 1)).1 = .ok (tB18.getD k (0, .nop, 1)).2 := by revert k; decide +kernel
theorem ef_rm18 (m : MethodId) (x0 : Int32) (x1 : Int32) : entryFrame m #[(.int x0), (.int x1), .null] 3 = mkF m 0 #[vI x0, vI x1, .val .null] [] := by first | (simp [entryFrame, mkF, argsToLocals, Value.category]; done) | rfl
def Q_rm18 (Z : State) (u r : Int32) (h0 : Heap) (n0 : Nat) (v : Option Value) (h : Heap) (L : List Loc) : Prop := v = some (.int u) ∧ Fr n0 L ∧ h = h0
set_option maxRecDepth 65536 in
set_option maxHeartbeats 40000000 in
theorem rm18 (l : Launch) (Z : State) (a0 : Array Value) (hw : ∀ d ∈ tables_1, d.before a0 Z = true) (u r : Int32) (h0 : Heap) (n0 : Nat) (Z0 : n0 ≤ h0.size) (hu : ¬ u < 0) (hur : u < r) :
    OwnMet l yN18 jdk_41_method_11_code 3 (some .int) [] ({ frames := 0, cells := 0, slots := 0, locals := 0 } : Room) Z #[(.int u), (.int r), .null] h0 (Q_rm18 Z u r h0 n0) := by
 refine own_met pn_18 (fun p e s m below meth c s₁ hx hby hml hown hnm hret hlk hZ X0 e0 => ?_)
 have hown : s.vm.findClass "jdk/internal/util/Preconditions" = some m.cls := hown
 have N0 := Fr.nil n0
 rw [ef_rm18]
 show OwnWk _ _ _ _ (s₁.setTop (mkF m 0 #[vI u, vI r, .val .null] []))
 refine own_go (fun tgt kst => XS.iloadN X0.here hx rfl (hb hby (dB18 0)) rfl  kst) ?_
 show OwnWk _ _ _ _ (s₁.setTop (mkF m 1 #[vI u, vI r, .val .null] [(.int u)]))
 refine own_go (fun tgt kst => XS.ifNo X0.here hx rfl (hb hby (dB18 1)) rfl ((if0 _ _).trans (flt hu).1) kst) ?_
 show OwnWk _ _ _ _ (s₁.setTop (mkF m 4 #[vI u, vI r, .val .null] []))
 refine own_go (fun tgt kst => XS.iloadN X0.here hx rfl (hb hby (dB18 2)) rfl  kst) ?_
 refine own_go (fun tgt kst => XS.iloadN X0.here hx rfl (hb hby (dB18 3)) rfl  kst) ?_
 show OwnWk _ _ _ _ (s₁.setTop (mkF m 6 #[vI u, vI r, .val .null] [(.int r), (.int u)]))
 refine own_go (fun tgt kst => XS.icmpYes X0.here hx rfl (pc0 := 6) (pc' := 16) rfl (hb hby (dB18 4)) rfl (tlt hur).1 (by decide) (by decide) kst) ?_
 show OwnWk _ _ _ _ (s₁.setTop (mkF m 16 #[vI u, vI r, .val .null] []))
 refine own_go (fun tgt kst => XS.iloadN X0.here hx rfl (hb hby (dB18 10)) rfl  kst) ?_
 show OwnWk _ _ _ _ (s₁.setTop (mkF m 17 #[vI u, vI r, .val .null] [(.int u)]))
 exact own_retI X0 hx hlk hret (hb hby (dB18 11)) (by decide) (by decide) (by rw [e0]; exact ⟨rfl, N0, rfl⟩)
theorem pn_pn_17 : plainName "java/util/Objects" = true := by first | (simp [plainName, overriddenIn]; done) | decide +kernel
theorem pn_17 : plainFor yN17 = true := plainFor_of_name pn_pn_17
abbrev tB17 : List (Nat × Instr × Nat) := [(0, .iload_n 0, 1), (1, .iload_n 1, 1), (2, .aconst_null, 1), (3, .invokestatic 105, 3), (6, .ireturn, 1)]
theorem dB17 (k : Fin 5) : decode jdk_31_method_17_code (tB17.getD k (0, .nop, 1)).1 = .ok (tB17.getD k (0, .nop, 1)).2 := by revert k; decide +kernel
theorem pd_8 : parseMethodDescriptor "(IILjava/util/function/BiFunction;)I" = some ⟨[.int, .int, (.object "java/util/function/BiFunction")], some .int⟩ := by decide +kernel
theorem ef_rm17 (m : MethodId) (x0 : Int32) (x1 : Int32) : entryFrame m #[(.int x0), (.int x1)] 2 = mkF m 0 #[vI x0, vI x1] [] := by first | (simp [entryFrame, mkF, argsToLocals, Value.category]; done) | rfl
def Q_rm17 (Z : State) (u r : Int32) (h0 : Heap) (n0 : Nat) (v : Option Value) (h : Heap) (L : List Loc) : Prop := v = some (.int u) ∧ Fr n0 L ∧ h = h0
set_option maxRecDepth 65536 in
set_option maxHeartbeats 40000000 in
theorem rm17 (l : Launch) (Z : State) (a0 : Array Value) (hw : ∀ d ∈ tables_1, d.before a0 Z = true) (u r : Int32) (h0 : Heap) (n0 : Nat) (Z0 : n0 ≤ h0.size) (hu : ¬ u < 0) (hur : u < r) :
    OwnMet l yN17 jdk_31_method_17_code 2 (some .int) [] ({ frames := 1, cells := 0, slots := 0, locals := 14 } : Room) Z #[(.int u), (.int r)] h0 (Q_rm17 Z u r h0 n0) := by
 refine own_met pn_17 (fun p e s m below meth c s₁ hx hby hml hown hnm hret hlk hZ X0 e0 => ?_)
 have hown : s.vm.findClass "java/util/Objects" = some m.cls := hown
 have N0 := Fr.nil n0
 rw [ef_rm17]
 show OwnWk _ _ _ _ (s₁.setTop (mkF m 0 #[vI u, vI r] []))
 refine own_go (fun tgt kst => XS.iloadN X0.here hx rfl (hb hby (dB17 0)) rfl  kst) ?_
 refine own_go (fun tgt kst => XS.iloadN X0.here hx rfl (hb hby (dB17 1)) rfl  kst) ?_
 refine own_go (fun tgt kst => XS.aconstNull X0.here hx rfl (hb hby (dB17 2)) kst) ?_
 show OwnWk _ _ _ _ (s₁.setTop (mkF m 3 #[vI u, vI r] [.null, (.int r), (.int u)]))
 refine own_callS X0 hx hZ (y := yN18) hown (wq hw 123 rfl) (wq hw 124 rfl) (wq hw 125 rfl) (wq hw 126 rfl) (by decide) (argsL := [(.int u), (.int r), .null]) (rest := [])  (h := h0) (rm18 l Z a0 hw u r h0 n0 Z0 hu hur) e0 (W := 0) (by decide) (by decide) (by decide) (by decide) rfl (by rw [hml]; rfl) (lenOf pd_8 rfl) rfl (by show 2 * 0 + _ ≤ _; exact Nat.le_of_eq rfl) (hb hby (dB17 3)) (fun v1 T1 h1 L1 X1 e1 hQ1 => ?_)
 obtain ⟨rfl, Nq1, q1⟩ := hQ1
 have N1 := Fr.app N0 Nq1
 rw [q1] at e1
 show OwnWk _ _ _ _ (T1.setTop (mkF m 6 #[vI u, vI r] [(.int u)]))
 exact own_retI X1 hx hlk hret (hb hby (dB17 4)) (by decide) (by decide) (by rw [e1]; exact ⟨rfl, N1, rfl⟩)
theorem pn_pn_19 : plainName "java/util/ArrayList" = true := by first | (simp [plainName, overriddenIn]; done) | decide +kernel
theorem pn_19 : plainFor yN19 = true := plainFor_of_name pn_pn_19
abbrev tB19 : List (Nat × Instr × Nat) := [(0, .aload_n 0, 1), (1, .getfield 9, 3), (4, .iload_n 1, 1), (5, .aaload, 1), (6, .areturn, 1)]
theorem dB19 (k : Fin 5) : decode jdk_38_method_18_code (tB19.getD k (0, .nop, 1)).1 = .ok (tB19.getD k (0, .nop, 1)).2 := by revert k; decide +kernel
theorem ef_eld (m : MethodId) (x0 : Addr) (x1 : Int32) : entryFrame m #[(.ref x0), (.int x1)] 2 = mkF m 0 #[vR x0, vI x1] [] := by first | (simp [entryFrame, mkF, argsToLocals, Value.category]; done) | rfl
def Q_eld (Z : State) (a ed y : Addr) (xs : List Value) (i : Nat) (h0 : Heap) (n0 : Nat) (v : Option Value) (h : Heap) (L : List Loc) : Prop := v = some (.ref y) ∧ Fr n0 L ∧ h = h0
set_option maxRecDepth 65536 in
set_option maxHeartbeats 40000000 in
theorem eld (l : Launch) (Z : State) (a0 : Array Value) (hw : ∀ d ∈ tables_1, d.before a0 Z = true) (a ed y : Addr) (xs : List Value) (i : Nat) (h0 : Heap) (n0 : Nat) (Z0 : n0 ≤ h0.size) (pf0 : Fld Z h0 a "java/util/ArrayList" "elementData" "[Ljava/lang/Object;" (.ref ed)) (pf1 : OAr Z h0 ed (.object "java/lang/Object") xs) (hi4 : i < 4) (hxi : xs[i]? = some (.ref y)) :
    OwnMet l yN19 jdk_38_method_18_code 2 (some (.object "java/lang/Object")) [] ({ frames := 0, cells := 0, slots := 0, locals := 0 } : Room) Z #[(.ref a), (.int (Int32.ofNat i))] h0 (Q_eld Z a ed y xs i h0 n0) := by
 refine own_met pn_19 (fun p e s m below meth c s₁ hx hby hml hown hnm hret hlk hZ X0 e0 => ?_)
 have hown : s.vm.findClass "java/util/ArrayList" = some m.cls := hown
 have N0 := Fr.nil n0
 rw [ef_eld]
 show OwnWk _ _ _ _ (s₁.setTop (mkF m 0 #[vR a, vI (Int32.ofNat i)] []))
 refine own_go (fun tgt kst => XS.aloadN X0.here hx rfl (hb hby (dB19 0)) rfl rfl  kst) ?_
 refine own_gF X0 hx hZ hown (wq hw 51 rfl) Via.refl e0 pf0 rfl rfl (hb hby (dB19 1)) fun T1 X1 e1 => ?_
 refine own_go (fun tgt kst => XS.iloadN X1.here hx rfl (hb hby (dB19 2)) rfl  kst) ?_
 refine own_ldA X1 hx hZ e1 pf1 rfl rfl rfl (hb hby (dB19 3)) (v := (.ref y)) (own_n_nn (by omega)) (by rw [own_n_nat (by omega)]; exact hxi) ?_
 show OwnWk _ _ _ _ (T1.setTop (mkF m 6 #[vR a, vI (Int32.ofNat i)] [(.ref y)]))
 exact own_retA X1 hx hlk hret rfl rfl rfl (hb hby (dB19 4)) (by decide) (by decide) (by rw [e1]; exact ⟨rfl, N0, rfl⟩)
theorem pn_pn_16 : plainName "java/util/ArrayList" = true := by first | (simp [plainName, overriddenIn]; done) | decide +kernel
theorem pn_16 : plainFor yN16 = true := plainFor_of_name pn_pn_16
abbrev tB16 : List (Nat × Instr × Nat) := [(0, .iload_n 1, 1), (1, .aload_n 0, 1), (2, .getfield 48, 3), (5, .invokestatic 118, 3), (8, .pop, 1), (9, .aload_n 0, 1), (10, .iload_n 1, 1), (11, .invokevirtual 123, 3), (14, .areturn, 1)]
theorem dB16 (k : Fin 9) : decode jdk_38_method_20_code (tB16.getD k (0, .nop, 1)).1 = .ok (tB16.getD k (0, .nop, 1)).2 := by revert k; decide +kernel
theorem pd_9 : parseMethodDescriptor "(I)Ljava/lang/Object;" = some ⟨[.int], some (.object "java/lang/Object")⟩ := by decide +kernel
theorem ef_get (m : MethodId) (x0 : Addr) (x1 : Int32) : entryFrame m #[(.ref x0), (.int x1)] 2 = mkF m 0 #[vR x0, vI x1] [] := by first | (simp [entryFrame, mkF, argsToLocals, Value.category]; done) | rfl
def Q_get (Z : State) (a ed y : Addr) (xs : List Value) (i : Nat) (n : Nat) (h0 : Heap) (n0 : Nat) (v : Option Value) (h : Heap) (L : List Loc) : Prop := v = some (.ref y) ∧ Fr n0 L ∧ h = h0
set_option maxRecDepth 65536 in
set_option maxHeartbeats 40000000 in
theorem get (l : Launch) (Z : State) (a0 : Array Value) (hw : ∀ d ∈ tables_1, d.before a0 Z = true) (a ed y : Addr) (xs : List Value) (i : Nat) (n : Nat) (h0 : Heap) (n0 : Nat) (Z0 : n0 ≤ h0.size) (pf0 : Exa Z h0 a "java/util/ArrayList") (pf1 : Fld Z h0 a "java/util/ArrayList" "size" "I" (.int (Int32.ofNat n))) (pf2 : Fld Z h0 a "java/util/ArrayList" "elementData" "[Ljava/lang/Object;" (.ref ed)) (pf3 : OAr Z h0 ed (.object "java/lang/Object") xs) (hi4 : i < 4) (hxi : xs[i]? = some (.ref y)) (hin : i < n) (hn4 : n ≤ 4) :
    OwnMet l yN16 jdk_38_method_20_code 2 (some (.object "java/lang/Object")) [] ({ frames := 2, cells := 0, slots := 0, locals := 27 } : Room) Z #[(.ref a), (.int (Int32.ofNat i))] h0 (Q_get Z a ed y xs i n h0 n0) := by
 refine own_met pn_16 (fun p e s m below meth c s₁ hx hby hml hown hnm hret hlk hZ X0 e0 => ?_)
 have hown : s.vm.findClass "java/util/ArrayList" = some m.cls := hown
 have N0 := Fr.nil n0
 rw [ef_get]
 show OwnWk _ _ _ _ (s₁.setTop (mkF m 0 #[vR a, vI (Int32.ofNat i)] []))
 refine own_go (fun tgt kst => XS.iloadN X0.here hx rfl (hb hby (dB16 0)) rfl  kst) ?_
 refine own_go (fun tgt kst => XS.aloadN X0.here hx rfl (hb hby (dB16 1)) rfl rfl  kst) ?_
 refine own_gF X0 hx hZ hown (wq hw 60 rfl) Via.refl e0 pf1 rfl rfl (hb hby (dB16 2)) fun T1 X1 e1 => ?_
 show OwnWk _ _ _ _ (T1.setTop (mkF m 5 #[vR a, vI (Int32.ofNat i)] [(.int (Int32.ofNat n)), (.int (Int32.ofNat i))]))
 refine own_callS X1 hx hZ (y := yN17) hown (wq hw 119 rfl) (wq hw 120 rfl) (wq hw 121 rfl) (wq hw 122 rfl) (by decide) (argsL := [(.int (Int32.ofNat i)), (.int (Int32.ofNat n))]) (rest := [])  (h := h0) (rm17 l Z a0 hw (Int32.ofNat i) (Int32.ofNat n) h0 n0 Z0 (own_n_nn (by omega)) ((own_n_lt (by omega) (by omega)).mpr hin)) e1 (W := 0) (by decide) (by decide) (by decide) (by decide) rfl (by rw [hml]; rfl) (lenOf pd_4 rfl) rfl (by show 2 * 0 + _ ≤ _; exact Nat.le_of_eq rfl) (hb hby (dB16 3)) (fun v2 T2 h2 L2 X2 e2 hQ2 => ?_)
 obtain ⟨rfl, Nq2, q2⟩ := hQ2
 have N2 := Fr.app N0 Nq2
 rw [q2] at e2
 show OwnWk _ _ _ _ (T2.setTop (mkF m 8 #[vR a, vI (Int32.ofNat i)] [(.int (Int32.ofNat i))]))
 refine own_go (fun tgt kst => XS.pop X2.here hx rfl (hb hby (dB16 4)) rfl rfl kst) ?_
 refine own_go (fun tgt kst => XS.aloadN X2.here hx rfl (hb hby (dB16 5)) rfl rfl  kst) ?_
 refine own_go (fun tgt kst => XS.iloadN X2.here hx rfl (hb hby (dB16 6)) rfl  kst) ?_
 show OwnWk _ _ _ _ (T2.setTop (mkF m 11 #[vR a, vI (Int32.ofNat i)] [(.int (Int32.ofNat i)), (.ref a)]))
 refine own_callV X2 hx hZ (y := yN19) (z := yN19) hown (wq hw 127 rfl) (wq hw 128 rfl) (notFace_of_selects (args := #[]) (mvT hZ (wq hw 130 rfl))) (wq hw 130 rfl) (wq hw 129 rfl) (wq hw 31 rfl) (wq hw 131 rfl) (by decide) (a := a) pf0 (argsL := [(.int (Int32.ofNat i))]) (rest := [])  (h := h0) (eld l Z a0 hw a ed y xs i h0 n0 Z0 pf2 pf3 hi4 hxi) e2 (W := 0) (by decide) (by decide) (by decide) (by decide) rfl (by rw [hml]; rfl) (lenOf pd_9 rfl) rfl (by show 2 * 0 + _ ≤ _; exact Nat.le_of_eq rfl) (hb hby (dB16 7)) (fun v3 T3 h3 L3 X3 e3 hQ3 => ?_)
 obtain ⟨rfl, Nq3, q3⟩ := hQ3
 have N3 := Fr.app N2 Nq3
 rw [q3] at e3
 show OwnWk _ _ _ _ (T3.setTop (mkF m 14 #[vR a, vI (Int32.ofNat i)] [(.ref y)]))
 exact own_retA X3 hx hlk hret rfl rfl rfl (hb hby (dB16 8)) (by decide) (by decide) (by rw [e3]; exact ⟨rfl, N3, rfl⟩)
theorem pn_pn_24 : plainName "java/lang/Integer" = true := by first | (simp [plainName, overriddenIn]; done) | decide +kernel
theorem pn_24 : plainFor yN24 = true := plainFor_of_name pn_pn_24
abbrev tB24 : List (Nat × Instr × Nat) := [(0, .iload_n 0, 1), (1, .ifCond .gt 14, 3), (4, .iload_n 0, 1), (5, .ifCond .ne 8, 3), (8, .bipush 32, 2), (10, .goto 4, 3), (13, .iconst 0, 1), (14, .ireturn, 1), (15, .bipush 31, 2), (17, .istore_n 1, 1), (18, .iload_n 0, 1), (19, .ldc_w 264, 3), (22, .if_icmp .lt 11, 3), (25, .iinc 1 (-16), 3), (28, .iload_n 0, 1), (29, .bipush 16, 2), (31, .iushr, 1), (32, .istore_n 0, 1), (33, .iload_n 0, 1), (34, .sipush 256, 3), (37, .if_icmp .lt 11, 3), (40, .iinc 1 (-8), 3), (43, .iload_n 0, 1), (44, .bipush 8, 2), (46, .iushr, 1), (47, .istore_n 0, 1), (48, .iload_n 0, 1), (49, .bipush 16, 2), (51, .if_icmp .lt 10, 3), (54, .iinc 1 (-4), 3), (57, .iload_n 0, 1), (58, .iconst 4, 1), (59, .iushr, 1), (60, .istore_n 0, 1), (61, .iload_n 0, 1), (62, .iconst 4, 1), (63, .if_icmp .lt 10, 3), (66, .iinc 1 (-2), 3), (69, .iload_n 0, 1), (70, .iconst 2, 1), (71, .iushr, 1), (72, .istore_n 0, 1), (73, .iload_n 1, 1), (74, .iload_n 0, 1), (75, .iconst 1, 1), (76, .iushr, 1), (77, .isub, 1), (78, .ireturn, 1)]
theorem dB24 (k : Fin 48) : decode jdk_33_method_47_code (tB24.getD k (0, .nop, 1)).1 = .ok (tB24.getD k (0, .nop, 1)).2 := by revert k; decide +kernel
theorem ef_nlz3 (m : MethodId) (x0 : Int32) : entryFrame m #[(.int x0)] 2 = mkF m 0 #[vI x0, .unset] [] := by first | (simp [entryFrame, mkF, argsToLocals, Value.category]; done) | rfl
def Q_nlz3 (Z : State)  (h0 : Heap) (n0 : Nat) (v : Option Value) (h : Heap) (L : List Loc) : Prop := v = some (.int 30) ∧ Fr n0 L ∧ h = h0
set_option maxRecDepth 65536 in
set_option maxHeartbeats 40000000 in
theorem nlz3 (l : Launch) (Z : State) (a0 : Array Value) (hw : ∀ d ∈ tables_1, d.before a0 Z = true)  (h0 : Heap) (n0 : Nat) (Z0 : n0 ≤ h0.size)  :
    OwnMet l yN24 jdk_33_method_47_code 2 (some .int) [] ({ frames := 0, cells := 0, slots := 0, locals := 0 } : Room) Z #[(.int (3 : Int32))] h0 (Q_nlz3 Z  h0 n0) := by
 refine own_met pn_24 (fun p e s m below meth c s₁ hx hby hml hown hnm hret hlk hZ X0 e0 => ?_)
 have hown : s.vm.findClass "java/lang/Integer" = some m.cls := hown
 have N0 := Fr.nil n0
 rw [ef_nlz3]
 show OwnWk _ _ _ _ (s₁.setTop (mkF m 0 #[vI (3 : Int32), uX] []))
 refine own_go (fun tgt kst => XS.iloadN X0.here hx rfl (hb hby (dB24 0)) rfl  kst) ?_
 refine own_go (fun tgt kst => XS.ifYes X0.here hx rfl (pc0 := 1) (pc' := 15) rfl (hb hby (dB24 1)) rfl ((if0 _ _).trans (tlt (by decide : (0 : Int32) < (3 : Int32))).2.2.1) (by decide) (by decide) kst) ?_
 refine own_go (fun tgt kst => XS.bipush X0.here hx rfl (hb hby (dB24 8)) kst) ?_
 refine own_go (fun tgt kst => XS.istoreN X0.here hx rfl (hb hby (dB24 9)) rfl (l' := #[vI (3 : Int32), vI (31 : Int32)]) rfl kst) ?_
 refine own_go (fun tgt kst => XS.iloadN X0.here hx rfl (hb hby (dB24 10)) rfl  kst) ?_
 refine own_go (X0.ldcwInt hx hown (mvT hZ (wq hw 159 rfl)) (g := (mkF m 19 #[vI (3 : Int32), vI (31 : Int32)] [(.int (3 : Int32))])) rfl (hb hby (dB24 11))) ?_
 show OwnWk _ _ _ _ (s₁.setTop (mkF m 22 #[vI (3 : Int32), vI (31 : Int32)] [(.int (65536 : Int32)), (.int (3 : Int32))]))
 refine own_go (fun tgt kst => XS.icmpYes X0.here hx rfl (pc0 := 22) (pc' := 33) rfl (hb hby (dB24 12)) rfl (tlt (by decide : (3 : Int32) < (65536 : Int32))).1 (by decide) (by decide) kst) ?_
 refine own_go (fun tgt kst => XS.iloadN X0.here hx rfl (hb hby (dB24 18)) rfl  kst) ?_
 refine own_go (fun tgt kst => XS.sipush X0.here hx rfl (hb hby (dB24 19)) kst) ?_
 refine own_go (fun tgt kst => XS.icmpYes X0.here hx rfl (pc0 := 37) (pc' := 48) rfl (hb hby (dB24 20)) rfl (tlt (by decide : (3 : Int32) < (256 : Int32))).1 (by decide) (by decide) kst) ?_
 refine own_go (fun tgt kst => XS.iloadN X0.here hx rfl (hb hby (dB24 26)) rfl  kst) ?_
 refine own_go (fun tgt kst => XS.bipush X0.here hx rfl (hb hby (dB24 27)) kst) ?_
 show OwnWk _ _ _ _ (s₁.setTop (mkF m 51 #[vI (3 : Int32), vI (31 : Int32)] [(.int (16 : Int32)), (.int (3 : Int32))]))
 refine own_go (fun tgt kst => XS.icmpYes X0.here hx rfl (pc0 := 51) (pc' := 61) rfl (hb hby (dB24 28)) rfl (tlt (by decide : (3 : Int32) < (16 : Int32))).1 (by decide) (by decide) kst) ?_
 refine own_go (fun tgt kst => XS.iloadN X0.here hx rfl (hb hby (dB24 34)) rfl  kst) ?_
 refine own_go (fun tgt kst => XS.iconst X0.here hx rfl (hb hby (dB24 35)) kst) ?_
 refine own_go (fun tgt kst => XS.icmpYes X0.here hx rfl (pc0 := 63) (pc' := 73) rfl (hb hby (dB24 36)) rfl (tlt (by decide : (3 : Int32) < (4 : Int32))).1 (by decide) (by decide) kst) ?_
 refine own_go (fun tgt kst => XS.iloadN X0.here hx rfl (hb hby (dB24 42)) rfl  kst) ?_
 refine own_go (fun tgt kst => XS.iloadN X0.here hx rfl (hb hby (dB24 43)) rfl  kst) ?_
 show OwnWk _ _ _ _ (s₁.setTop (mkF m 75 #[vI (3 : Int32), vI (31 : Int32)] [(.int (3 : Int32)), (.int (31 : Int32))]))
 refine own_go (fun tgt kst => XS.iconst X0.here hx rfl (hb hby (dB24 44)) kst) ?_
 refine own_go (fun tgt kst => XS.iushr X0.here hx rfl (hb hby (dB24 45)) rfl kst) ?_
 refine own_go (fun tgt kst => XS.isub X0.here hx rfl (hb hby (dB24 46)) rfl kst) ?_
 show OwnWk _ _ _ _ (s₁.setTop (mkF m 78 #[vI (3 : Int32), vI (31 : Int32)] [(.int ((31 : Int32) - (((3 : Int32).toUInt32 >>> ((1 : Int32) &&& 31).toUInt32).toInt32)))]))
 exact own_retI X0 hx hlk hret (hb hby (dB24 47)) (by decide) (by decide) (by rw [e0]; exact ⟨rfl, N0, rfl⟩)
theorem ef_nlz7 (m : MethodId) (x0 : Int32) : entryFrame m #[(.int x0)] 2 = mkF m 0 #[vI x0, .unset] [] := by first | (simp [entryFrame, mkF, argsToLocals, Value.category]; done) | rfl
def Q_nlz7 (Z : State)  (h0 : Heap) (n0 : Nat) (v : Option Value) (h : Heap) (L : List Loc) : Prop := v = some (.int 29) ∧ Fr n0 L ∧ h = h0
set_option maxRecDepth 65536 in
set_option maxHeartbeats 40000000 in
theorem nlz7 (l : Launch) (Z : State) (a0 : Array Value) (hw : ∀ d ∈ tables_1, d.before a0 Z = true)  (h0 : Heap) (n0 : Nat) (Z0 : n0 ≤ h0.size)  :
    OwnMet l yN24 jdk_33_method_47_code 2 (some .int) [] ({ frames := 0, cells := 0, slots := 0, locals := 0 } : Room) Z #[(.int (7 : Int32))] h0 (Q_nlz7 Z  h0 n0) := by
 refine own_met pn_24 (fun p e s m below meth c s₁ hx hby hml hown hnm hret hlk hZ X0 e0 => ?_)
 have hown : s.vm.findClass "java/lang/Integer" = some m.cls := hown
 have N0 := Fr.nil n0
 rw [ef_nlz7]
 show OwnWk _ _ _ _ (s₁.setTop (mkF m 0 #[vI (7 : Int32), uX] []))
 refine own_go (fun tgt kst => XS.iloadN X0.here hx rfl (hb hby (dB24 0)) rfl  kst) ?_
 refine own_go (fun tgt kst => XS.ifYes X0.here hx rfl (pc0 := 1) (pc' := 15) rfl (hb hby (dB24 1)) rfl ((if0 _ _).trans (tlt (by decide : (0 : Int32) < (7 : Int32))).2.2.1) (by decide) (by decide) kst) ?_
 refine own_go (fun tgt kst => XS.bipush X0.here hx rfl (hb hby (dB24 8)) kst) ?_
 refine own_go (fun tgt kst => XS.istoreN X0.here hx rfl (hb hby (dB24 9)) rfl (l' := #[vI (7 : Int32), vI (31 : Int32)]) rfl kst) ?_
 refine own_go (fun tgt kst => XS.iloadN X0.here hx rfl (hb hby (dB24 10)) rfl  kst) ?_
 refine own_go (X0.ldcwInt hx hown (mvT hZ (wq hw 159 rfl)) (g := (mkF m 19 #[vI (7 : Int32), vI (31 : Int32)] [(.int (7 : Int32))])) rfl (hb hby (dB24 11))) ?_
 show OwnWk _ _ _ _ (s₁.setTop (mkF m 22 #[vI (7 : Int32), vI (31 : Int32)] [(.int (65536 : Int32)), (.int (7 : Int32))]))
 refine own_go (fun tgt kst => XS.icmpYes X0.here hx rfl (pc0 := 22) (pc' := 33) rfl (hb hby (dB24 12)) rfl (tlt (by decide : (7 : Int32) < (65536 : Int32))).1 (by decide) (by decide) kst) ?_
 refine own_go (fun tgt kst => XS.iloadN X0.here hx rfl (hb hby (dB24 18)) rfl  kst) ?_
 refine own_go (fun tgt kst => XS.sipush X0.here hx rfl (hb hby (dB24 19)) kst) ?_
 refine own_go (fun tgt kst => XS.icmpYes X0.here hx rfl (pc0 := 37) (pc' := 48) rfl (hb hby (dB24 20)) rfl (tlt (by decide : (7 : Int32) < (256 : Int32))).1 (by decide) (by decide) kst) ?_
 refine own_go (fun tgt kst => XS.iloadN X0.here hx rfl (hb hby (dB24 26)) rfl  kst) ?_
 refine own_go (fun tgt kst => XS.bipush X0.here hx rfl (hb hby (dB24 27)) kst) ?_
 show OwnWk _ _ _ _ (s₁.setTop (mkF m 51 #[vI (7 : Int32), vI (31 : Int32)] [(.int (16 : Int32)), (.int (7 : Int32))]))
 refine own_go (fun tgt kst => XS.icmpYes X0.here hx rfl (pc0 := 51) (pc' := 61) rfl (hb hby (dB24 28)) rfl (tlt (by decide : (7 : Int32) < (16 : Int32))).1 (by decide) (by decide) kst) ?_
 refine own_go (fun tgt kst => XS.iloadN X0.here hx rfl (hb hby (dB24 34)) rfl  kst) ?_
 refine own_go (fun tgt kst => XS.iconst X0.here hx rfl (hb hby (dB24 35)) kst) ?_
 refine own_go (fun tgt kst => XS.icmpNo X0.here hx rfl (hb hby (dB24 36)) rfl (flt (by decide : ¬ ((7 : Int32) < (4 : Int32)))).1 kst) ?_
 refine own_go (fun tgt kst => XS.iinc X0.here hx rfl (hb hby (dB24 37)) rfl (l' := #[vI (7 : Int32), vI (29 : Int32)]) rfl kst) ?_
 refine own_go (fun tgt kst => XS.iloadN X0.here hx rfl (hb hby (dB24 38)) rfl  kst) ?_
 show OwnWk _ _ _ _ (s₁.setTop (mkF m 70 #[vI (7 : Int32), vI (29 : Int32)] [(.int (7 : Int32))]))
 refine own_go (fun tgt kst => XS.iconst X0.here hx rfl (hb hby (dB24 39)) kst) ?_
 refine own_go (fun tgt kst => XS.iushr X0.here hx rfl (hb hby (dB24 40)) rfl kst) ?_
 refine own_go (fun tgt kst => XS.istoreN X0.here hx rfl (hb hby (dB24 41)) rfl (l' := #[vI (((7 : Int32).toUInt32 >>> ((2 : Int32) &&& 31).toUInt32).toInt32), vI (29 : Int32)]) rfl kst) ?_
 refine own_go (fun tgt kst => XS.iloadN X0.here hx rfl (hb hby (dB24 42)) rfl  kst) ?_
 refine own_go (fun tgt kst => XS.iloadN X0.here hx rfl (hb hby (dB24 43)) rfl  kst) ?_
 refine own_go (fun tgt kst => XS.iconst X0.here hx rfl (hb hby (dB24 44)) kst) ?_
 show OwnWk _ _ _ _ (s₁.setTop (mkF m 76 #[vI (((7 : Int32).toUInt32 >>> ((2 : Int32) &&& 31).toUInt32).toInt32), vI (29 : Int32)] [(.int (1 : Int32)), (.int (((7 : Int32).toUInt32 >>> ((2 : Int32) &&& 31).toUInt32).toInt32)), (.int (29 : Int32))]))
 refine own_go (fun tgt kst => XS.iushr X0.here hx rfl (hb hby (dB24 45)) rfl kst) ?_
 refine own_go (fun tgt kst => XS.isub X0.here hx rfl (hb hby (dB24 46)) rfl kst) ?_
 show OwnWk _ _ _ _ (s₁.setTop (mkF m 78 #[vI (((7 : Int32).toUInt32 >>> ((2 : Int32) &&& 31).toUInt32).toInt32), vI (29 : Int32)] [(.int ((29 : Int32) - (((((7 : Int32).toUInt32 >>> ((2 : Int32) &&& 31).toUInt32).toInt32).toUInt32 >>> ((1 : Int32) &&& 31).toUInt32).toInt32)))]))
 exact own_retI X0 hx hlk hret (hb hby (dB24 47)) (by decide) (by decide) (by rw [e0]; exact ⟨rfl, N0, rfl⟩)
theorem ef_nlz11 (m : MethodId) (x0 : Int32) : entryFrame m #[(.int x0)] 2 = mkF m 0 #[vI x0, .unset] [] := by first | (simp [entryFrame, mkF, argsToLocals, Value.category]; done) | rfl
def Q_nlz11 (Z : State)  (h0 : Heap) (n0 : Nat) (v : Option Value) (h : Heap) (L : List Loc) : Prop := v = some (.int 28) ∧ Fr n0 L ∧ h = h0
set_option maxRecDepth 65536 in
set_option maxHeartbeats 40000000 in
theorem nlz11 (l : Launch) (Z : State) (a0 : Array Value) (hw : ∀ d ∈ tables_1, d.before a0 Z = true)  (h0 : Heap) (n0 : Nat) (Z0 : n0 ≤ h0.size)  :
    OwnMet l yN24 jdk_33_method_47_code 2 (some .int) [] ({ frames := 0, cells := 0, slots := 0, locals := 0 } : Room) Z #[(.int (11 : Int32))] h0 (Q_nlz11 Z  h0 n0) := by
 refine own_met pn_24 (fun p e s m below meth c s₁ hx hby hml hown hnm hret hlk hZ X0 e0 => ?_)
 have hown : s.vm.findClass "java/lang/Integer" = some m.cls := hown
 have N0 := Fr.nil n0
 rw [ef_nlz11]
 show OwnWk _ _ _ _ (s₁.setTop (mkF m 0 #[vI (11 : Int32), uX] []))
 refine own_go (fun tgt kst => XS.iloadN X0.here hx rfl (hb hby (dB24 0)) rfl  kst) ?_
 refine own_go (fun tgt kst => XS.ifYes X0.here hx rfl (pc0 := 1) (pc' := 15) rfl (hb hby (dB24 1)) rfl ((if0 _ _).trans (tlt (by decide : (0 : Int32) < (11 : Int32))).2.2.1) (by decide) (by decide) kst) ?_
 refine own_go (fun tgt kst => XS.bipush X0.here hx rfl (hb hby (dB24 8)) kst) ?_
 refine own_go (fun tgt kst => XS.istoreN X0.here hx rfl (hb hby (dB24 9)) rfl (l' := #[vI (11 : Int32), vI (31 : Int32)]) rfl kst) ?_
 refine own_go (fun tgt kst => XS.iloadN X0.here hx rfl (hb hby (dB24 10)) rfl  kst) ?_
 refine own_go (X0.ldcwInt hx hown (mvT hZ (wq hw 159 rfl)) (g := (mkF m 19 #[vI (11 : Int32), vI (31 : Int32)] [(.int (11 : Int32))])) rfl (hb hby (dB24 11))) ?_
 show OwnWk _ _ _ _ (s₁.setTop (mkF m 22 #[vI (11 : Int32), vI (31 : Int32)] [(.int (65536 : Int32)), (.int (11 : Int32))]))
 refine own_go (fun tgt kst => XS.icmpYes X0.here hx rfl (pc0 := 22) (pc' := 33) rfl (hb hby (dB24 12)) rfl (tlt (by decide : (11 : Int32) < (65536 : Int32))).1 (by decide) (by decide) kst) ?_
 refine own_go (fun tgt kst => XS.iloadN X0.here hx rfl (hb hby (dB24 18)) rfl  kst) ?_
 refine own_go (fun tgt kst => XS.sipush X0.here hx rfl (hb hby (dB24 19)) kst) ?_
 refine own_go (fun tgt kst => XS.icmpYes X0.here hx rfl (pc0 := 37) (pc' := 48) rfl (hb hby (dB24 20)) rfl (tlt (by decide : (11 : Int32) < (256 : Int32))).1 (by decide) (by decide) kst) ?_
 refine own_go (fun tgt kst => XS.iloadN X0.here hx rfl (hb hby (dB24 26)) rfl  kst) ?_
 refine own_go (fun tgt kst => XS.bipush X0.here hx rfl (hb hby (dB24 27)) kst) ?_
 show OwnWk _ _ _ _ (s₁.setTop (mkF m 51 #[vI (11 : Int32), vI (31 : Int32)] [(.int (16 : Int32)), (.int (11 : Int32))]))
 refine own_go (fun tgt kst => XS.icmpYes X0.here hx rfl (pc0 := 51) (pc' := 61) rfl (hb hby (dB24 28)) rfl (tlt (by decide : (11 : Int32) < (16 : Int32))).1 (by decide) (by decide) kst) ?_
 refine own_go (fun tgt kst => XS.iloadN X0.here hx rfl (hb hby (dB24 34)) rfl  kst) ?_
 refine own_go (fun tgt kst => XS.iconst X0.here hx rfl (hb hby (dB24 35)) kst) ?_
 refine own_go (fun tgt kst => XS.icmpNo X0.here hx rfl (hb hby (dB24 36)) rfl (flt (by decide : ¬ ((11 : Int32) < (4 : Int32)))).1 kst) ?_
 refine own_go (fun tgt kst => XS.iinc X0.here hx rfl (hb hby (dB24 37)) rfl (l' := #[vI (11 : Int32), vI (29 : Int32)]) rfl kst) ?_
 refine own_go (fun tgt kst => XS.iloadN X0.here hx rfl (hb hby (dB24 38)) rfl  kst) ?_
 show OwnWk _ _ _ _ (s₁.setTop (mkF m 70 #[vI (11 : Int32), vI (29 : Int32)] [(.int (11 : Int32))]))
 refine own_go (fun tgt kst => XS.iconst X0.here hx rfl (hb hby (dB24 39)) kst) ?_
 refine own_go (fun tgt kst => XS.iushr X0.here hx rfl (hb hby (dB24 40)) rfl kst) ?_
 refine own_go (fun tgt kst => XS.istoreN X0.here hx rfl (hb hby (dB24 41)) rfl (l' := #[vI (((11 : Int32).toUInt32 >>> ((2 : Int32) &&& 31).toUInt32).toInt32), vI (29 : Int32)]) rfl kst) ?_
 refine own_go (fun tgt kst => XS.iloadN X0.here hx rfl (hb hby (dB24 42)) rfl  kst) ?_
 refine own_go (fun tgt kst => XS.iloadN X0.here hx rfl (hb hby (dB24 43)) rfl  kst) ?_
 refine own_go (fun tgt kst => XS.iconst X0.here hx rfl (hb hby (dB24 44)) kst) ?_
 show OwnWk _ _ _ _ (s₁.setTop (mkF m 76 #[vI (((11 : Int32).toUInt32 >>> ((2 : Int32) &&& 31).toUInt32).toInt32), vI (29 : Int32)] [(.int (1 : Int32)), (.int (((11 : Int32).toUInt32 >>> ((2 : Int32) &&& 31).toUInt32).toInt32)), (.int (29 : Int32))]))
 refine own_go (fun tgt kst => XS.iushr X0.here hx rfl (hb hby (dB24 45)) rfl kst) ?_
 refine own_go (fun tgt kst => XS.isub X0.here hx rfl (hb hby (dB24 46)) rfl kst) ?_
 show OwnWk _ _ _ _ (s₁.setTop (mkF m 78 #[vI (((11 : Int32).toUInt32 >>> ((2 : Int32) &&& 31).toUInt32).toInt32), vI (29 : Int32)] [(.int ((29 : Int32) - (((((11 : Int32).toUInt32 >>> ((2 : Int32) &&& 31).toUInt32).toInt32).toUInt32 >>> ((1 : Int32) &&& 31).toUInt32).toInt32)))]))
 exact own_retI X0 hx hlk hret (hb hby (dB24 47)) (by decide) (by decide) (by rw [e0]; exact ⟨rfl, N0, rfl⟩)
theorem ef_nlz15 (m : MethodId) (x0 : Int32) : entryFrame m #[(.int x0)] 2 = mkF m 0 #[vI x0, .unset] [] := by first | (simp [entryFrame, mkF, argsToLocals, Value.category]; done) | rfl
def Q_nlz15 (Z : State)  (h0 : Heap) (n0 : Nat) (v : Option Value) (h : Heap) (L : List Loc) : Prop := v = some (.int 28) ∧ Fr n0 L ∧ h = h0
set_option maxRecDepth 65536 in
set_option maxHeartbeats 40000000 in
theorem nlz15 (l : Launch) (Z : State) (a0 : Array Value) (hw : ∀ d ∈ tables_1, d.before a0 Z = true)  (h0 : Heap) (n0 : Nat) (Z0 : n0 ≤ h0.size)  :
    OwnMet l yN24 jdk_33_method_47_code 2 (some .int) [] ({ frames := 0, cells := 0, slots := 0, locals := 0 } : Room) Z #[(.int (15 : Int32))] h0 (Q_nlz15 Z  h0 n0) := by
 refine own_met pn_24 (fun p e s m below meth c s₁ hx hby hml hown hnm hret hlk hZ X0 e0 => ?_)
 have hown : s.vm.findClass "java/lang/Integer" = some m.cls := hown
 have N0 := Fr.nil n0
 rw [ef_nlz15]
 show OwnWk _ _ _ _ (s₁.setTop (mkF m 0 #[vI (15 : Int32), uX] []))
 refine own_go (fun tgt kst => XS.iloadN X0.here hx rfl (hb hby (dB24 0)) rfl  kst) ?_
 refine own_go (fun tgt kst => XS.ifYes X0.here hx rfl (pc0 := 1) (pc' := 15) rfl (hb hby (dB24 1)) rfl ((if0 _ _).trans (tlt (by decide : (0 : Int32) < (15 : Int32))).2.2.1) (by decide) (by decide) kst) ?_
 refine own_go (fun tgt kst => XS.bipush X0.here hx rfl (hb hby (dB24 8)) kst) ?_
 refine own_go (fun tgt kst => XS.istoreN X0.here hx rfl (hb hby (dB24 9)) rfl (l' := #[vI (15 : Int32), vI (31 : Int32)]) rfl kst) ?_
 refine own_go (fun tgt kst => XS.iloadN X0.here hx rfl (hb hby (dB24 10)) rfl  kst) ?_
 refine own_go (X0.ldcwInt hx hown (mvT hZ (wq hw 159 rfl)) (g := (mkF m 19 #[vI (15 : Int32), vI (31 : Int32)] [(.int (15 : Int32))])) rfl (hb hby (dB24 11))) ?_
 show OwnWk _ _ _ _ (s₁.setTop (mkF m 22 #[vI (15 : Int32), vI (31 : Int32)] [(.int (65536 : Int32)), (.int (15 : Int32))]))
 refine own_go (fun tgt kst => XS.icmpYes X0.here hx rfl (pc0 := 22) (pc' := 33) rfl (hb hby (dB24 12)) rfl (tlt (by decide : (15 : Int32) < (65536 : Int32))).1 (by decide) (by decide) kst) ?_
 refine own_go (fun tgt kst => XS.iloadN X0.here hx rfl (hb hby (dB24 18)) rfl  kst) ?_
 refine own_go (fun tgt kst => XS.sipush X0.here hx rfl (hb hby (dB24 19)) kst) ?_
 refine own_go (fun tgt kst => XS.icmpYes X0.here hx rfl (pc0 := 37) (pc' := 48) rfl (hb hby (dB24 20)) rfl (tlt (by decide : (15 : Int32) < (256 : Int32))).1 (by decide) (by decide) kst) ?_
 refine own_go (fun tgt kst => XS.iloadN X0.here hx rfl (hb hby (dB24 26)) rfl  kst) ?_
 refine own_go (fun tgt kst => XS.bipush X0.here hx rfl (hb hby (dB24 27)) kst) ?_
 show OwnWk _ _ _ _ (s₁.setTop (mkF m 51 #[vI (15 : Int32), vI (31 : Int32)] [(.int (16 : Int32)), (.int (15 : Int32))]))
 refine own_go (fun tgt kst => XS.icmpYes X0.here hx rfl (pc0 := 51) (pc' := 61) rfl (hb hby (dB24 28)) rfl (tlt (by decide : (15 : Int32) < (16 : Int32))).1 (by decide) (by decide) kst) ?_
 refine own_go (fun tgt kst => XS.iloadN X0.here hx rfl (hb hby (dB24 34)) rfl  kst) ?_
 refine own_go (fun tgt kst => XS.iconst X0.here hx rfl (hb hby (dB24 35)) kst) ?_
 refine own_go (fun tgt kst => XS.icmpNo X0.here hx rfl (hb hby (dB24 36)) rfl (flt (by decide : ¬ ((15 : Int32) < (4 : Int32)))).1 kst) ?_
 refine own_go (fun tgt kst => XS.iinc X0.here hx rfl (hb hby (dB24 37)) rfl (l' := #[vI (15 : Int32), vI (29 : Int32)]) rfl kst) ?_
 refine own_go (fun tgt kst => XS.iloadN X0.here hx rfl (hb hby (dB24 38)) rfl  kst) ?_
 show OwnWk _ _ _ _ (s₁.setTop (mkF m 70 #[vI (15 : Int32), vI (29 : Int32)] [(.int (15 : Int32))]))
 refine own_go (fun tgt kst => XS.iconst X0.here hx rfl (hb hby (dB24 39)) kst) ?_
 refine own_go (fun tgt kst => XS.iushr X0.here hx rfl (hb hby (dB24 40)) rfl kst) ?_
 refine own_go (fun tgt kst => XS.istoreN X0.here hx rfl (hb hby (dB24 41)) rfl (l' := #[vI (((15 : Int32).toUInt32 >>> ((2 : Int32) &&& 31).toUInt32).toInt32), vI (29 : Int32)]) rfl kst) ?_
 refine own_go (fun tgt kst => XS.iloadN X0.here hx rfl (hb hby (dB24 42)) rfl  kst) ?_
 refine own_go (fun tgt kst => XS.iloadN X0.here hx rfl (hb hby (dB24 43)) rfl  kst) ?_
 refine own_go (fun tgt kst => XS.iconst X0.here hx rfl (hb hby (dB24 44)) kst) ?_
 show OwnWk _ _ _ _ (s₁.setTop (mkF m 76 #[vI (((15 : Int32).toUInt32 >>> ((2 : Int32) &&& 31).toUInt32).toInt32), vI (29 : Int32)] [(.int (1 : Int32)), (.int (((15 : Int32).toUInt32 >>> ((2 : Int32) &&& 31).toUInt32).toInt32)), (.int (29 : Int32))]))
 refine own_go (fun tgt kst => XS.iushr X0.here hx rfl (hb hby (dB24 45)) rfl kst) ?_
 refine own_go (fun tgt kst => XS.isub X0.here hx rfl (hb hby (dB24 46)) rfl kst) ?_
 show OwnWk _ _ _ _ (s₁.setTop (mkF m 78 #[vI (((15 : Int32).toUInt32 >>> ((2 : Int32) &&& 31).toUInt32).toInt32), vI (29 : Int32)] [(.int ((29 : Int32) - (((((15 : Int32).toUInt32 >>> ((2 : Int32) &&& 31).toUInt32).toInt32).toUInt32 >>> ((1 : Int32) &&& 31).toUInt32).toInt32)))]))
 exact own_retI X0 hx hlk hret (hb hby (dB24 47)) (by decide) (by decide) (by rw [e0]; exact ⟨rfl, N0, rfl⟩)
theorem pn_pn_23 : plainName "java/lang/Integer" = true := by first | (simp [plainName, overriddenIn]; done) | decide +kernel
theorem pn_23 : plainFor yN23 = true := plainFor_of_name pn_pn_23
abbrev tB23 : List (Nat × Instr × Nat) := [(0, .iload_n 0, 1), (1, .ldc 127, 2), (3, .iload_n 0, 1), (4, .invokestatic 51, 3), (7, .iushr, 1), (8, .iand, 1), (9, .ireturn, 1)]
theorem dB23 (k : Fin 7) : decode jdk_33_method_45_code (tB23.getD k (0, .nop, 1)).1 = .ok (tB23.getD k (0, .nop, 1)).2 := by revert k; decide +kernel
theorem ef_hob (m : MethodId) (x0 : Int32) : entryFrame m #[(.int x0)] 1 = mkF m 0 #[vI x0] [] := by first | (simp [entryFrame, mkF, argsToLocals, Value.category]; done) | rfl
def Q_hob (Z : State) (n : Nat) (h0 : Heap) (n0 : Nat) (v : Option Value) (h : Heap) (L : List Loc) : Prop := v = some (.int (Int32.ofNat (2 ^ own_k n))) ∧ Fr n0 L ∧ h = h0
set_option maxRecDepth 65536 in
set_option maxHeartbeats 40000000 in
theorem hob (l : Launch) (Z : State) (a0 : Array Value) (hw : ∀ d ∈ tables_1, d.before a0 Z = true) (n : Nat) (h0 : Heap) (n0 : Nat) (Z0 : n0 ≤ h0.size) (hn1 : 0 < n) (hn4 : n ≤ 4) :
    OwnMet l yN23 jdk_33_method_45_code 1 (some .int) [] ({ frames := 1, cells := 0, slots := 0, locals := 15 } : Room) Z #[(.int (Int32.ofNat (own_q n)))] h0 (Q_hob Z n h0 n0) := by
 refine own_met pn_23 (fun p e s m below meth c s₁ hx hby hml hown hnm hret hlk hZ X0 e0 => ?_)
 have hown : s.vm.findClass "java/lang/Integer" = some m.cls := hown
 have N0 := Fr.nil n0
 rw [ef_hob]
 show OwnWk _ _ _ _ (s₁.setTop (mkF m 0 #[vI (Int32.ofNat (own_q n))] []))
 rcases (by omega : n = 1 ∨ n = 2 ∨ n = 3 ∨ n = 4) with rfl | rfl | rfl | rfl
 ·
  show OwnWk _ _ _ _ (s₁.setTop (mkF m 0 #[vI (3 : Int32)] []))
  refine own_go (fun tgt kst => XS.iloadN X0.here hx rfl (hb hby (dB23 0)) rfl  kst) ?_
  refine own_go (X0.ldcInt hx hown (mvT hZ (wq hw 155 rfl)) (g := (mkF m 1 #[vI (3 : Int32)] [(.int (3 : Int32))])) rfl (hb hby (dB23 1))) ?_
  refine own_go (fun tgt kst => XS.iloadN X0.here hx rfl (hb hby (dB23 2)) rfl  kst) ?_
  show OwnWk _ _ _ _ (s₁.setTop (mkF m 4 #[vI (3 : Int32)] [(.int (3 : Int32)), (.int (-2147483648 : Int32)), (.int (3 : Int32))]))
  refine own_callS X0 hx hZ (y := yN24) hown (wq hw 156 rfl) (wq hw 157 rfl) (wq hw 153 rfl) (wq hw 158 rfl) (by decide) (argsL := [(.int (3 : Int32))]) (rest := [(.int (-2147483648 : Int32)), (.int (3 : Int32))])  (h := h0) (nlz3 l Z a0 hw h0 n0 Z0) e0 (W := 2) (by decide) (by decide) (by decide) (by decide) rfl (by rw [hml]; rfl) (lenOf pd_0 rfl) rfl (by show 2 * 0 + _ ≤ _; exact Nat.le_of_eq rfl) (hb hby (dB23 3)) (fun v1 T1 h1 L1 X1 e1 hQ1 => ?_)
  obtain ⟨rfl, Nq1, q1⟩ := hQ1
  have N1 := Fr.app N0 Nq1
  rw [q1] at e1
  show OwnWk _ _ _ _ (T1.setTop (mkF m 7 #[vI (3 : Int32)] [(.int (30 : Int32)), (.int (-2147483648 : Int32)), (.int (3 : Int32))]))
  refine own_go (fun tgt kst => XS.iushr X1.here hx rfl (hb hby (dB23 4)) rfl kst) ?_
  refine own_go (fun tgt kst => XS.iand X1.here hx rfl (hb hby (dB23 5)) rfl kst) ?_
  show OwnWk _ _ _ _ (T1.setTop (mkF m 9 #[vI (3 : Int32)] [(.int ((3 : Int32) &&& (((-2147483648 : Int32).toUInt32 >>> ((30 : Int32) &&& 31).toUInt32).toInt32)))]))
  exact own_retI X1 hx hlk hret (hb hby (dB23 6)) (by decide) (by decide) (by rw [e1]; exact ⟨rfl, N1, rfl⟩)
 ·
  show OwnWk _ _ _ _ (s₁.setTop (mkF m 0 #[vI (7 : Int32)] []))
  refine own_go (fun tgt kst => XS.iloadN X0.here hx rfl (hb hby (dB23 0)) rfl  kst) ?_
  refine own_go (X0.ldcInt hx hown (mvT hZ (wq hw 155 rfl)) (g := (mkF m 1 #[vI (7 : Int32)] [(.int (7 : Int32))])) rfl (hb hby (dB23 1))) ?_
  refine own_go (fun tgt kst => XS.iloadN X0.here hx rfl (hb hby (dB23 2)) rfl  kst) ?_
  show OwnWk _ _ _ _ (s₁.setTop (mkF m 4 #[vI (7 : Int32)] [(.int (7 : Int32)), (.int (-2147483648 : Int32)), (.int (7 : Int32))]))
  refine own_callS X0 hx hZ (y := yN24) hown (wq hw 156 rfl) (wq hw 157 rfl) (wq hw 153 rfl) (wq hw 158 rfl) (by decide) (argsL := [(.int (7 : Int32))]) (rest := [(.int (-2147483648 : Int32)), (.int (7 : Int32))])  (h := h0) (nlz7 l Z a0 hw h0 n0 Z0) e0 (W := 2) (by decide) (by decide) (by decide) (by decide) rfl (by rw [hml]; rfl) (lenOf pd_0 rfl) rfl (by show 2 * 0 + _ ≤ _; exact Nat.le_of_eq rfl) (hb hby (dB23 3)) (fun v2 T2 h2 L2 X2 e2 hQ2 => ?_)
  obtain ⟨rfl, Nq2, q2⟩ := hQ2
  have N2 := Fr.app N0 Nq2
  rw [q2] at e2
  show OwnWk _ _ _ _ (T2.setTop (mkF m 7 #[vI (7 : Int32)] [(.int (29 : Int32)), (.int (-2147483648 : Int32)), (.int (7 : Int32))]))
  refine own_go (fun tgt kst => XS.iushr X2.here hx rfl (hb hby (dB23 4)) rfl kst) ?_
  refine own_go (fun tgt kst => XS.iand X2.here hx rfl (hb hby (dB23 5)) rfl kst) ?_
  show OwnWk _ _ _ _ (T2.setTop (mkF m 9 #[vI (7 : Int32)] [(.int ((7 : Int32) &&& (((-2147483648 : Int32).toUInt32 >>> ((29 : Int32) &&& 31).toUInt32).toInt32)))]))
  exact own_retI X2 hx hlk hret (hb hby (dB23 6)) (by decide) (by decide) (by rw [e2]; exact ⟨rfl, N2, rfl⟩)
 ·
  show OwnWk _ _ _ _ (s₁.setTop (mkF m 0 #[vI (11 : Int32)] []))
  refine own_go (fun tgt kst => XS.iloadN X0.here hx rfl (hb hby (dB23 0)) rfl  kst) ?_
  refine own_go (X0.ldcInt hx hown (mvT hZ (wq hw 155 rfl)) (g := (mkF m 1 #[vI (11 : Int32)] [(.int (11 : Int32))])) rfl (hb hby (dB23 1))) ?_
  refine own_go (fun tgt kst => XS.iloadN X0.here hx rfl (hb hby (dB23 2)) rfl  kst) ?_
  show OwnWk _ _ _ _ (s₁.setTop (mkF m 4 #[vI (11 : Int32)] [(.int (11 : Int32)), (.int (-2147483648 : Int32)), (.int (11 : Int32))]))
  refine own_callS X0 hx hZ (y := yN24) hown (wq hw 156 rfl) (wq hw 157 rfl) (wq hw 153 rfl) (wq hw 158 rfl) (by decide) (argsL := [(.int (11 : Int32))]) (rest := [(.int (-2147483648 : Int32)), (.int (11 : Int32))])  (h := h0) (nlz11 l Z a0 hw h0 n0 Z0) e0 (W := 2) (by decide) (by decide) (by decide) (by decide) rfl (by rw [hml]; rfl) (lenOf pd_0 rfl) rfl (by show 2 * 0 + _ ≤ _; exact Nat.le_of_eq rfl) (hb hby (dB23 3)) (fun v3 T3 h3 L3 X3 e3 hQ3 => ?_)
  obtain ⟨rfl, Nq3, q3⟩ := hQ3
  have N3 := Fr.app N0 Nq3
  rw [q3] at e3
  show OwnWk _ _ _ _ (T3.setTop (mkF m 7 #[vI (11 : Int32)] [(.int (28 : Int32)), (.int (-2147483648 : Int32)), (.int (11 : Int32))]))
  refine own_go (fun tgt kst => XS.iushr X3.here hx rfl (hb hby (dB23 4)) rfl kst) ?_
  refine own_go (fun tgt kst => XS.iand X3.here hx rfl (hb hby (dB23 5)) rfl kst) ?_
  show OwnWk _ _ _ _ (T3.setTop (mkF m 9 #[vI (11 : Int32)] [(.int ((11 : Int32) &&& (((-2147483648 : Int32).toUInt32 >>> ((28 : Int32) &&& 31).toUInt32).toInt32)))]))
  exact own_retI X3 hx hlk hret (hb hby (dB23 6)) (by decide) (by decide) (by rw [e3]; exact ⟨rfl, N3, rfl⟩)
 ·
  show OwnWk _ _ _ _ (s₁.setTop (mkF m 0 #[vI (15 : Int32)] []))
  refine own_go (fun tgt kst => XS.iloadN X0.here hx rfl (hb hby (dB23 0)) rfl  kst) ?_
  refine own_go (X0.ldcInt hx hown (mvT hZ (wq hw 155 rfl)) (g := (mkF m 1 #[vI (15 : Int32)] [(.int (15 : Int32))])) rfl (hb hby (dB23 1))) ?_
  refine own_go (fun tgt kst => XS.iloadN X0.here hx rfl (hb hby (dB23 2)) rfl  kst) ?_
  show OwnWk _ _ _ _ (s₁.setTop (mkF m 4 #[vI (15 : Int32)] [(.int (15 : Int32)), (.int (-2147483648 : Int32)), (.int (15 : Int32))]))
  refine own_callS X0 hx hZ (y := yN24) hown (wq hw 156 rfl) (wq hw 157 rfl) (wq hw 153 rfl) (wq hw 158 rfl) (by decide) (argsL := [(.int (15 : Int32))]) (rest := [(.int (-2147483648 : Int32)), (.int (15 : Int32))])  (h := h0) (nlz15 l Z a0 hw h0 n0 Z0) e0 (W := 2) (by decide) (by decide) (by decide) (by decide) rfl (by rw [hml]; rfl) (lenOf pd_0 rfl) rfl (by show 2 * 0 + _ ≤ _; exact Nat.le_of_eq rfl) (hb hby (dB23 3)) (fun v4 T4 h4 L4 X4 e4 hQ4 => ?_)
  obtain ⟨rfl, Nq4, q4⟩ := hQ4
  have N4 := Fr.app N0 Nq4
  rw [q4] at e4
  show OwnWk _ _ _ _ (T4.setTop (mkF m 7 #[vI (15 : Int32)] [(.int (28 : Int32)), (.int (-2147483648 : Int32)), (.int (15 : Int32))]))
  refine own_go (fun tgt kst => XS.iushr X4.here hx rfl (hb hby (dB23 4)) rfl kst) ?_
  refine own_go (fun tgt kst => XS.iand X4.here hx rfl (hb hby (dB23 5)) rfl kst) ?_
  show OwnWk _ _ _ _ (T4.setTop (mkF m 9 #[vI (15 : Int32)] [(.int ((15 : Int32) &&& (((-2147483648 : Int32).toUInt32 >>> ((28 : Int32) &&& 31).toUInt32).toInt32)))]))
  exact own_retI X4 hx hlk hret (hb hby (dB23 6)) (by decide) (by decide) (by rw [e4]; exact ⟨rfl, N4, rfl⟩)
theorem pn_pn_26 : plainName "com/example/encircle/encircle/layout/ZoneKeys" = true := by first | (simp [plainName, overriddenIn]; done) | decide +kernel
theorem pn_26 : plainFor yN26 = true := plainFor_of_name pn_pn_26
abbrev tB26 : List (Nat × Instr × Nat) := [(0, .aload_n 0, 1), (1, .getfield 58, 3), (4, .arraylength, 1), (5, .iconst 1, 1), (6, .isub, 1), (7, .istore_n 3, 1), (8, .lload_n 1, 1), (9, .l2i, 1), (10, .iload_n 3, 1), (11, .iand, 1), (12, .istore 4, 2), (14, .aload_n 0, 1), (15, .getfield 61, 3), (18, .iload 4, 2), (20, .iaload, 1), (21, .ifCond .eq 26, 3), (24, .aload_n 0, 1), (25, .getfield 58, 3), (28, .iload 4, 2), (30, .laload, 1), (31, .lload_n 1, 1), (32, .lcmp, 1), (33, .ifCond .eq 14, 3), (36, .iload 4, 2), (38, .iconst 1, 1), (39, .iadd, 1), (40, .iload_n 3, 1), (41, .iand, 1), (42, .istore 4, 2), (44, .goto (-30), 3), (47, .iload 4, 2), (49, .ireturn, 1)]
theorem dB26 (k : Fin 32) : decode prog_35_method_7_code (tB26.getD k (0, .nop, 1)).1 = .ok (tB26.getD k (0, .nop, 1)).2 := by revert k; decide +kernel
theorem ef_slt (m : MethodId) (x0 : Addr) (x1 : Int64) : entryFrame m #[(.ref x0), (.long x1)] 5 = mkF m 0 #[vR x0, vJ x1, .second, .unset, .unset] [] := by first | (simp [entryFrame, mkF, argsToLocals, Value.category]; done) | rfl
def Q_slt (Z : State) (a zs zz : Addr) (SS : List Int64) (ZZ : List Nat) (u : Int64) (kq : Nat) (h0 : Heap) (n0 : Nat) (v : Option Value) (h : Heap) (L : List Loc) : Prop := ∃ P : Nat, v = some (.int (Int32.ofNat P)) ∧ own_fd (2 ^ kq) SS ZZ u P ∧ Fr n0 L ∧ h = h0
set_option maxRecDepth 65536 in
set_option maxHeartbeats 40000000 in
theorem slt (l : Launch) (Z : State) (a0 : Array Value) (hw : ∀ d ∈ tables_1, d.before a0 Z = true) (a zs zz : Addr) (SS : List Int64) (ZZ : List Nat) (u : Int64) (kq : Nat) (h0 : Heap) (n0 : Nat) (Z0 : n0 ≤ h0.size) (pf0 : Fld Z h0 a "com/example/encircle/encircle/layout/ZoneKeys" "slotSums" "[J" (.ref zs)) (pf1 : Fld Z h0 a "com/example/encircle/encircle/layout/ZoneKeys" "slotZones" "[I" (.ref zz)) (pf2 : OAr Z h0 zs .long (own_jw SS)) (pf3 : OAr Z h0 zz .int (own_iv ZZ)) (hkq : kq < 4) (hls : SS.length = (2 ^ kq)) (hlz : ZZ.length = (2 ^ kq)) (hsm : ∀ p, ZZ.getD p 0 < 6) (hfr : ∃ p, p < (2 ^ kq) ∧ ZZ.getD p 0 = 0) :
    OwnMet l yN26 prog_35_method_7_code 5 (some .int) [] ({ frames := 0, cells := 0, slots := 0, locals := 0 } : Room) Z #[(.ref a), (.long u)] h0 (Q_slt Z a zs zz SS ZZ u kq h0 n0) := by
 refine own_met pn_26 (fun p e s m below meth c s₁ hx hby hml hown hnm hret hlk hZ X0 e0 => ?_)
 have hown : s.vm.findClass "com/example/encircle/encircle/layout/ZoneKeys" = some m.cls := hown
 have N0 := Fr.nil n0
 rw [ef_slt]
 show OwnWk _ _ _ _ (s₁.setTop (mkF m 0 #[vR a, vJ u, sX, uX, uX] []))
 have hS16 : (2 ^ kq) < 16 := Nat.pow_lt_pow_right (a := 2) (m := kq) (n := 4) (by decide) hkq
 have hS0 : 0 < (2 ^ kq) := Nat.two_pow_pos kq
 refine own_go (fun tgt kst => XS.aloadN X0.here hx rfl (hb hby (dB26 0)) rfl rfl  kst) ?_
 refine own_gF X0 hx hZ hown (wq hw 160 rfl) Via.refl e0 pf0 rfl rfl (hb hby (dB26 1)) fun T1 X1 e1 => ?_
 refine own_len X1 hx hZ e1 pf2 rfl rfl (hb hby (dB26 2)) (N := (Int32.ofNat (2 ^ kq))) (own_jw_len hls) ?_
 refine own_go (fun tgt kst => XS.iconst X1.here hx rfl (hb hby (dB26 3)) kst) ?_
 refine own_go (fun tgt kst => XS.isub X1.here hx rfl (hb hby (dB26 4)) rfl kst) ?_
 show OwnWk _ _ _ _ (T1.setTop (mkF m 7 #[vR a, vJ u, sX, uX, uX] [(.int ((Int32.ofNat (2 ^ kq)) - (1 : Int32)))]))
 rw [own_S1 kq hkq]
 show OwnWk _ _ _ _ (T1.setTop (mkF m 7 #[vR a, vJ u, sX, uX, uX] [(.int (Int32.ofNat (2 ^ kq - 1)))]))
 refine own_go (fun tgt kst => XS.istoreN X1.here hx rfl (hb hby (dB26 5)) rfl (l' := #[vR a, vJ u, sX, vI (Int32.ofNat (2 ^ kq - 1)), uX]) rfl kst) ?_
 refine own_go (fun tgt kst => XS.lloadN X1.here hx rfl (hb hby (dB26 6)) rfl  kst) ?_
 refine own_go (fun tgt kst => XS.l2i X1.here hx rfl (hb hby (dB26 7)) rfl kst) ?_
 refine own_go (fun tgt kst => XS.iloadN X1.here hx rfl (hb hby (dB26 8)) rfl  kst) ?_
 refine own_go (fun tgt kst => XS.iand X1.here hx rfl (hb hby (dB26 9)) rfl kst) ?_
 show OwnWk _ _ _ _ (T1.setTop (mkF m 12 #[vR a, vJ u, sX, vI (Int32.ofNat (2 ^ kq - 1)), uX] [(.int ((u.toInt32) &&& (Int32.ofNat (2 ^ kq - 1))))]))
 rw [own_hmI hkq]
 show OwnWk _ _ _ _ (T1.setTop (mkF m 12 #[vR a, vJ u, sX, vI (Int32.ofNat (2 ^ kq - 1)), uX] [(.int (Int32.ofNat (own_hm (2 ^ kq) u)))]))
 refine own_go (fun tgt kst => XS.istore X1.here hx rfl (hb hby (dB26 10)) rfl (l' := #[vR a, vJ u, sX, vI (Int32.ofNat (2 ^ kq - 1)), vI (Int32.ofNat (own_hm (2 ^ kq) u))]) rfl kst) ?_
 show OwnWk _ _ _ _ (T1.setTop (mkF m 14 #[vR a, vJ u, sX, vI (Int32.ofNat (2 ^ kq - 1)), vI (Int32.ofNat (own_hm (2 ^ kq) u))] []))
 have LP : ∀ (d j P : Nat) (T_ : State) (L_ : List Loc), j + d = (2 ^ kq) → P = ((own_hm (2 ^ kq) u) + j) % (2 ^ kq) → (∀ i, i < j → ¬ own_st SS ZZ u (((own_hm (2 ^ kq) u) + i) % (2 ^ kq))) → Stand p l e ({ frames := 0, cells := 0, slots := 0, locals := 0 } : Room) s m #[(.ref a), (.long u)] below meth c T_ L_ 0 0 → T_.heap = h0 → Fr n0 L_ →
     OwnWk p e below (OwnP s (Q_slt Z a zs zz SS ZZ u kq h0 n0) ({ frames := 0, cells := 0, slots := 0, locals := 0 } : Room).cells ({ frames := 0, cells := 0, slots := 0, locals := 0 } : Room).slots) (T_.setTop (mkF m 14 #[vR a, vJ u, sX, vI (Int32.ofNat (2 ^ kq - 1)), vI (Int32.ofNat P)] [])) := by
  intro d
  induction d with
  | zero =>
   intro j P T_ L_ hj hP0 hall X_ e_ N_
   exact (own_full hS0 hfr (by rw [show j = (2 ^ kq) from hj] at hall; exact hall)).elim
  | succ d ih =>
   intro j P T_ L_ hj hP0 hall X_ e_ N_
   have hP : P < (2 ^ kq) := by rw [hP0]; exact Nat.mod_lt _ hS0
   have hP31 : P < 2 ^ 31 := Nat.lt_trans (Nat.lt_trans hP hS16) (by decide)
   show OwnWk _ _ _ _ (T_.setTop (mkF m 14 #[vR a, vJ u, sX, vI (Int32.ofNat (2 ^ kq - 1)), vI (Int32.ofNat P)] []))
   refine own_go (fun tgt kst => XS.aloadN X_.here hx rfl (hb hby (dB26 11)) rfl rfl  kst) ?_
   refine own_gF X_ hx hZ hown (wq hw 162 rfl) Via.refl e_ pf1 rfl rfl (hb hby (dB26 12)) fun T2 X2 e2 => ?_
   refine own_go (fun tgt kst => XS.iload X2.here hx rfl (hb hby (dB26 13)) rfl  kst) ?_
   refine own_ldI X2 hx hZ e2 pf3 rfl rfl (hb hby (dB26 14)) (v := (.int (Int32.ofNat (ZZ.getD P 0)))) (own_n_nn (by have := hP31; omega)) (own_iw_at (by rw [hlz]; exact hP) hP31) ?_
   show OwnWk _ _ _ _ (T2.setTop (mkF m 21 #[vR a, vJ u, sX, vI (Int32.ofNat (2 ^ kq - 1)), vI (Int32.ofNat P)] [(.int (Int32.ofNat (ZZ.getD P 0)))]))
   by_cases hc3 : (Int32.ofNat (ZZ.getD P 0)) = (0 : Int32)
   ·
    refine own_go (fun tgt kst => XS.ifYes X2.here hx rfl (pc0 := 21) (pc' := 47) rfl (hb hby (dB26 15)) rfl ((if0 _ _).trans (teq hc3).1) (by decide) (by decide) kst) ?_
    show OwnWk _ _ _ _ (T2.setTop (mkF m 47 #[vR a, vJ u, sX, vI (Int32.ofNat (2 ^ kq - 1)), vI (Int32.ofNat P)] []))
    refine own_go (fun tgt kst => XS.iload X2.here hx rfl (hb hby (dB26 30)) rfl  kst) ?_
    show OwnWk _ _ _ _ (T2.setTop (mkF m 49 #[vR a, vJ u, sX, vI (Int32.ofNat (2 ^ kq - 1)), vI (Int32.ofNat P)] [(.int (Int32.ofNat P))]))
    exact own_retI X2 hx hlk hret (hb hby (dB26 31)) (by decide) (by decide) (by rw [e2]; exact ⟨P, rfl, ⟨j, by omega, hP0, Or.inl (own_zz0 _ (hsm P) hc3), hall⟩, N_, rfl⟩)
   ·
    refine own_go (fun tgt kst => XS.ifNo X2.here hx rfl (hb hby (dB26 15)) rfl ((if0 _ _).trans (feq hc3).1) kst) ?_
    show OwnWk _ _ _ _ (T2.setTop (mkF m 24 #[vR a, vJ u, sX, vI (Int32.ofNat (2 ^ kq - 1)), vI (Int32.ofNat P)] []))
    refine own_go (fun tgt kst => XS.aloadN X2.here hx rfl (hb hby (dB26 16)) rfl rfl  kst) ?_
    refine own_gF X2 hx hZ hown (wq hw 160 rfl) Via.refl e2 pf0 rfl rfl (hb hby (dB26 17)) fun T4 X4 e4 => ?_
    refine own_go (fun tgt kst => XS.iload X4.here hx rfl (hb hby (dB26 18)) rfl  kst) ?_
    refine own_ldJ X4 hx hZ e4 pf2 rfl rfl (hb hby (dB26 19)) (v := (.long (SS.getD P 0))) (own_n_nn (by have := hP31; omega)) (own_jw_at (by rw [hls]; exact hP) hP31) ?_
    refine own_go (fun tgt kst => XS.lloadN X4.here hx rfl (hb hby (dB26 20)) rfl  kst) ?_
    refine own_go (fun tgt kst => XS.lcmp X4.here hx rfl (hb hby (dB26 21)) rfl kst) ?_
    show OwnWk _ _ _ _ (T4.setTop (mkF m 33 #[vR a, vJ u, sX, vI (Int32.ofNat (2 ^ kq - 1)), vI (Int32.ofNat P)] [(.int (lcmpW (SS.getD P 0) u))]))
    by_cases hc5 : (SS.getD P 0) = u
    ·
     refine own_go (fun tgt kst => XS.ifYes X4.here hx rfl (pc0 := 33) (pc' := 47) rfl (hb hby (dB26 22)) rfl ((if0 _ _).trans (teq (own_lc_eq.mpr hc5)).1) (by decide) (by decide) kst) ?_
     show OwnWk _ _ _ _ (T4.setTop (mkF m 47 #[vR a, vJ u, sX, vI (Int32.ofNat (2 ^ kq - 1)), vI (Int32.ofNat P)] []))
     refine own_go (fun tgt kst => XS.iload X4.here hx rfl (hb hby (dB26 30)) rfl  kst) ?_
     show OwnWk _ _ _ _ (T4.setTop (mkF m 49 #[vR a, vJ u, sX, vI (Int32.ofNat (2 ^ kq - 1)), vI (Int32.ofNat P)] [(.int (Int32.ofNat P))]))
     exact own_retI X4 hx hlk hret (hb hby (dB26 31)) (by decide) (by decide) (by rw [e4]; exact ⟨P, rfl, ⟨j, by omega, hP0, Or.inr hc5, hall⟩, N_, rfl⟩)
    ·
     refine own_go (fun tgt kst => XS.ifNo X4.here hx rfl (hb hby (dB26 22)) rfl ((if0 _ _).trans (feq (fun q => hc5 (own_lc_eq.mp q))).1) kst) ?_
     show OwnWk _ _ _ _ (T4.setTop (mkF m 36 #[vR a, vJ u, sX, vI (Int32.ofNat (2 ^ kq - 1)), vI (Int32.ofNat P)] []))
     refine own_go (fun tgt kst => XS.iload X4.here hx rfl (hb hby (dB26 23)) rfl  kst) ?_
     refine own_go (fun tgt kst => XS.iconst X4.here hx rfl (hb hby (dB26 24)) kst) ?_
     refine own_go (fun tgt kst => XS.iadd X4.here hx rfl (hb hby (dB26 25)) rfl kst) ?_
     refine own_go (fun tgt kst => XS.iloadN X4.here hx rfl (hb hby (dB26 26)) rfl  kst) ?_
     refine own_go (fun tgt kst => XS.iand X4.here hx rfl (hb hby (dB26 27)) rfl kst) ?_
     show OwnWk _ _ _ _ (T4.setTop (mkF m 42 #[vR a, vJ u, sX, vI (Int32.ofNat (2 ^ kq - 1)), vI (Int32.ofNat P)] [(.int (((Int32.ofNat P) + (1 : Int32)) &&& (Int32.ofNat (2 ^ kq - 1))))]))
     rw [own_nx kq hkq P hP]
     show OwnWk _ _ _ _ (T4.setTop (mkF m 42 #[vR a, vJ u, sX, vI (Int32.ofNat (2 ^ kq - 1)), vI (Int32.ofNat P)] [(.int (Int32.ofNat ((P + 1) % (2 ^ kq))))]))
     refine own_go (fun tgt kst => XS.istore X4.here hx rfl (hb hby (dB26 28)) rfl (l' := #[vR a, vJ u, sX, vI (Int32.ofNat (2 ^ kq - 1)), vI (Int32.ofNat ((P + 1) % (2 ^ kq)))]) rfl kst) ?_
     refine own_go (fun tgt kst => XS.goto X4.here hx rfl (pc0 := 44) (pc' := 14) rfl (hb hby (dB26 29)) (by decide) (by decide) kst) ?_
     show OwnWk _ _ _ _ (T4.setTop (mkF m 14 #[vR a, vJ u, sX, vI (Int32.ofNat (2 ^ kq - 1)), vI (Int32.ofNat ((P + 1) % (2 ^ kq)))] []))
     exact ih (j + 1) _ _ _ (by omega) (own_step hP0) (own_alls hall (by rw [← hP0]; exact fun q => q.elim (fun z => hc3 (by rw [z]; rfl)) hc5)) X4 e4 N_
 exact LP (2 ^ kq) 0 _ _ _ (Nat.zero_add _) (by rw [Nat.add_zero, Nat.mod_eq_of_lt (own_hm_lt hS0 u)]) (fun i hi => absurd hi (Nat.not_lt_zero i)) X1 e1 N0
theorem pn_pn_29 : plainName "com/example/encircle/encircle/layout/ZoneKeys" = true := by first | (simp [plainName, overriddenIn]; done) | decide +kernel
theorem pn_29 : plainFor yN29 = true := plainFor_of_name pn_pn_29
abbrev tB29 : List (Nat × Instr × Nat) := [(0, .aload_n 0, 1), (1, .getfield 61, 3), (4, .aload_n 0, 1), (5, .lload_n 1, 1), (6, .invokevirtual 73, 3), (9, .iaload, 1), (10, .iconst 1, 1), (11, .isub, 1), (12, .ireturn, 1)]
theorem dB29 (k : Fin 9) : decode prog_35_method_5_code (tB29.getD k (0, .nop, 1)).1 = .ok (tB29.getD k (0, .nop, 1)).2 := by revert k; decide +kernel
theorem ef_fst (m : MethodId) (x0 : Addr) (x1 : Int64) : entryFrame m #[(.ref x0), (.long x1)] 3 = mkF m 0 #[vR x0, vJ x1, .second] [] := by first | (simp [entryFrame, mkF, argsToLocals, Value.category]; done) | rfl
def Q_fst (Z : State) (a zs zz : Addr) (SS : List Int64) (ZZ : List Nat) (u : Int64) (kq : Nat) (cc : Nat) (EE : Int64 → Nat) (h0 : Heap) (n0 : Nat) (v : Option Value) (h : Heap) (L : List Loc) : Prop := v = some (.int (Int32.ofNat (EE u) - (1 : Int32))) ∧ Fr n0 L ∧ h = h0
set_option maxRecDepth 65536 in
set_option maxHeartbeats 40000000 in
theorem fst (l : Launch) (Z : State) (a0 : Array Value) (hw : ∀ d ∈ tables_1, d.before a0 Z = true) (a zs zz : Addr) (SS : List Int64) (ZZ : List Nat) (u : Int64) (kq : Nat) (cc : Nat) (EE : Int64 → Nat) (h0 : Heap) (n0 : Nat) (Z0 : n0 ≤ h0.size) (pf0 : Exa Z h0 a "com/example/encircle/encircle/layout/ZoneKeys") (pf1 : Fld Z h0 a "com/example/encircle/encircle/layout/ZoneKeys" "slotSums" "[J" (.ref zs)) (pf2 : Fld Z h0 a "com/example/encircle/encircle/layout/ZoneKeys" "slotZones" "[I" (.ref zz)) (pf3 : OAr Z h0 zs .long (own_jw SS)) (pf4 : OAr Z h0 zz .int (own_iv ZZ)) (hkq : kq < 4) (hI : own_inv (2 ^ kq) cc SS ZZ EE) (hc : cc < (2 ^ kq)) :
    OwnMet l yN29 prog_35_method_5_code 3 (some .int) [] ({ frames := 1, cells := 0, slots := 0, locals := 17 } : Room) Z #[(.ref a), (.long u)] h0 (Q_fst Z a zs zz SS ZZ u kq cc EE h0 n0) := by
 refine own_met pn_29 (fun p e s m below meth c s₁ hx hby hml hown hnm hret hlk hZ X0 e0 => ?_)
 have hown : s.vm.findClass "com/example/encircle/encircle/layout/ZoneKeys" = some m.cls := hown
 have N0 := Fr.nil n0
 rw [ef_fst]
 show OwnWk _ _ _ _ (s₁.setTop (mkF m 0 #[vR a, vJ u, sX] []))
 refine own_go (fun tgt kst => XS.aloadN X0.here hx rfl (hb hby (dB29 0)) rfl rfl  kst) ?_
 refine own_gF X0 hx hZ hown (wq hw 162 rfl) Via.refl e0 pf2 rfl rfl (hb hby (dB29 1)) fun T1 X1 e1 => ?_
 refine own_go (fun tgt kst => XS.aloadN X1.here hx rfl (hb hby (dB29 2)) rfl rfl  kst) ?_
 refine own_go (fun tgt kst => XS.lloadN X1.here hx rfl (hb hby (dB29 3)) rfl  kst) ?_
 show OwnWk _ _ _ _ (T1.setTop (mkF m 6 #[vR a, vJ u, sX] [(.long u), (.ref a), (.ref zz)]))
 refine own_callP X1 hx hZ (y := yN26) hown (wq hw 170 rfl) (wq hw 171 rfl) (own_selP (y := yN26) (wq hw 85 rfl) (wq hw 172 rfl) (wq hw 171 rfl) (by decide)) (wq hw 172 rfl) (wq hw 86 rfl) (wq hw 173 rfl) (by decide) (a := a) pf0 (argsL := [(.long u)]) (rest := [(.ref zz)])  (h := h0) (slt l Z a0 hw a zs zz SS ZZ u kq h0 n0 Z0 pf1 pf2 pf3 pf4 hkq hI.ls hI.lz hI.sm (own_inv_free hI hc)) e1 (W := 1) (by decide) (by decide) (by decide) (by decide) rfl (by rw [hml]; rfl) (lenOf pd_3 rfl) rfl (by show 2 * 0 + _ ≤ _; exact Nat.le_of_eq rfl) (hb hby (dB29 4)) (fun v2 T2 h2 L2 X2 e2 hQ2 => ?_)
 obtain ⟨PP, rfl, fdPP, Nq2, q2⟩ := hQ2
 have N2 := Fr.app N0 Nq2
 rw [q2] at e2
 have hPP := own_fd_lt fdPP
 have hPP31 : PP < 2 ^ 31 := Nat.lt_trans (Nat.lt_trans hPP (Nat.pow_lt_pow_right (a := 2) (m := kq) (n := 4) (by decide) hkq)) (by decide)
 show OwnWk _ _ _ _ (T2.setTop (mkF m 9 #[vR a, vJ u, sX] [(.int (Int32.ofNat PP)), (.ref zz)]))
 refine own_ldI X2 hx hZ e2 pf4 rfl rfl (hb hby (dB29 5)) (v := (.int (Int32.ofNat (ZZ.getD PP 0)))) (own_n_nn (by have := hPP31; omega)) (own_iw_at (by rw [hI.lz]; exact hPP) hPP31) ?_
 show OwnWk _ _ _ _ (T2.setTop (mkF m 10 #[vR a, vJ u, sX] [(.int (Int32.ofNat (ZZ.getD PP 0)))]))
 rw [hI.sp u PP fdPP]
 show OwnWk _ _ _ _ (T2.setTop (mkF m 10 #[vR a, vJ u, sX] [(.int (Int32.ofNat (EE u)))]))
 refine own_go (fun tgt kst => XS.iconst X2.here hx rfl (hb hby (dB29 6)) kst) ?_
 refine own_go (fun tgt kst => XS.isub X2.here hx rfl (hb hby (dB29 7)) rfl kst) ?_
 show OwnWk _ _ _ _ (T2.setTop (mkF m 12 #[vR a, vJ u, sX] [(.int ((Int32.ofNat (EE u)) - (1 : Int32)))]))
 exact own_retI X2 hx hlk hret (hb hby (dB29 8)) (by decide) (by decide) (by rw [e2]; exact ⟨rfl, N2, rfl⟩)
theorem pn_pn_27 : plainName "com/example/encircle/encircle/layout/ZoneKeys" = true := by first | (simp [plainName, overriddenIn]; done) | decide +kernel
theorem pn_27 : plainFor yN27 = true := plainFor_of_name pn_pn_27
abbrev tB27 : List (Nat × Instr × Nat) := [(0, .aload_n 0, 1), (1, .getfield 7, 3), (4, .iload_n 1, 1), (5, .laload, 1), (6, .lreturn, 1)]
theorem dB27 (k : Fin 5) : decode prog_35_method_2_code (tB27.getD k (0, .nop, 1)).1 = .ok (tB27.getD k (0, .nop, 1)).2 := by revert k; decide +kernel
theorem ef_key0 (m : MethodId) (x0 : Addr) (x1 : Int32) : entryFrame m #[(.ref x0), (.int x1)] 2 = mkF m 0 #[vR x0, vI x1] [] := by first | (simp [entryFrame, mkF, argsToLocals, Value.category]; done) | rfl
def Q_key0 (Z : State) (a kk : Addr) (k0 k1 k2 k3 : Int64) (h0 : Heap) (n0 : Nat) (v : Option Value) (h : Heap) (L : List Loc) : Prop := v = some (.long k0) ∧ Fr n0 L ∧ h = h0
set_option maxRecDepth 65536 in
set_option maxHeartbeats 40000000 in
theorem key0 (l : Launch) (Z : State) (a0 : Array Value) (hw : ∀ d ∈ tables_1, d.before a0 Z = true) (a kk : Addr) (k0 k1 k2 k3 : Int64) (h0 : Heap) (n0 : Nat) (Z0 : n0 ≤ h0.size) (pf0 : Fld Z h0 a "com/example/encircle/encircle/layout/ZoneKeys" "keys" "[J" (.ref kk)) (pf1 : OAr Z h0 kk .long [(.long k0), (.long k1), (.long k2), (.long k3)]) :
    OwnMet l yN27 prog_35_method_2_code 2 (some .long) [] ({ frames := 0, cells := 0, slots := 0, locals := 0 } : Room) Z #[(.ref a), (.int (0 : Int32))] h0 (Q_key0 Z a kk k0 k1 k2 k3 h0 n0) := by
 refine own_met pn_27 (fun p e s m below meth c s₁ hx hby hml hown hnm hret hlk hZ X0 e0 => ?_)
 have hown : s.vm.findClass "com/example/encircle/encircle/layout/ZoneKeys" = some m.cls := hown
 have N0 := Fr.nil n0
 rw [ef_key0]
 show OwnWk _ _ _ _ (s₁.setTop (mkF m 0 #[vR a, vI (0 : Int32)] []))
 refine own_go (fun tgt kst => XS.aloadN X0.here hx rfl (hb hby (dB27 0)) rfl rfl  kst) ?_
 refine own_gF X0 hx hZ hown (wq hw 91 rfl) Via.refl e0 pf0 rfl rfl (hb hby (dB27 1)) fun T1 X1 e1 => ?_
 refine own_go (fun tgt kst => XS.iloadN X1.here hx rfl (hb hby (dB27 2)) rfl  kst) ?_
 refine own_ldJ X1 hx hZ e1 pf1 rfl rfl (hb hby (dB27 3)) (v := (.long k0)) (by decide) rfl ?_
 show OwnWk _ _ _ _ (T1.setTop (mkF m 6 #[vR a, vI (0 : Int32)] [(.long k0)]))
 exact own_retJ X1 hx hlk hret (hb hby (dB27 4)) (by decide) (by decide) (by rw [e1]; exact ⟨rfl, N0, rfl⟩)
theorem ef_key1 (m : MethodId) (x0 : Addr) (x1 : Int32) : entryFrame m #[(.ref x0), (.int x1)] 2 = mkF m 0 #[vR x0, vI x1] [] := by first | (simp [entryFrame, mkF, argsToLocals, Value.category]; done) | rfl
def Q_key1 (Z : State) (a kk : Addr) (k0 k1 k2 k3 : Int64) (h0 : Heap) (n0 : Nat) (v : Option Value) (h : Heap) (L : List Loc) : Prop := v = some (.long k1) ∧ Fr n0 L ∧ h = h0
set_option maxRecDepth 65536 in
set_option maxHeartbeats 40000000 in
theorem key1 (l : Launch) (Z : State) (a0 : Array Value) (hw : ∀ d ∈ tables_1, d.before a0 Z = true) (a kk : Addr) (k0 k1 k2 k3 : Int64) (h0 : Heap) (n0 : Nat) (Z0 : n0 ≤ h0.size) (pf0 : Fld Z h0 a "com/example/encircle/encircle/layout/ZoneKeys" "keys" "[J" (.ref kk)) (pf1 : OAr Z h0 kk .long [(.long k0), (.long k1), (.long k2), (.long k3)]) :
    OwnMet l yN27 prog_35_method_2_code 2 (some .long) [] ({ frames := 0, cells := 0, slots := 0, locals := 0 } : Room) Z #[(.ref a), (.int (1 : Int32))] h0 (Q_key1 Z a kk k0 k1 k2 k3 h0 n0) := by
 refine own_met pn_27 (fun p e s m below meth c s₁ hx hby hml hown hnm hret hlk hZ X0 e0 => ?_)
 have hown : s.vm.findClass "com/example/encircle/encircle/layout/ZoneKeys" = some m.cls := hown
 have N0 := Fr.nil n0
 rw [ef_key1]
 show OwnWk _ _ _ _ (s₁.setTop (mkF m 0 #[vR a, vI (1 : Int32)] []))
 refine own_go (fun tgt kst => XS.aloadN X0.here hx rfl (hb hby (dB27 0)) rfl rfl  kst) ?_
 refine own_gF X0 hx hZ hown (wq hw 91 rfl) Via.refl e0 pf0 rfl rfl (hb hby (dB27 1)) fun T1 X1 e1 => ?_
 refine own_go (fun tgt kst => XS.iloadN X1.here hx rfl (hb hby (dB27 2)) rfl  kst) ?_
 refine own_ldJ X1 hx hZ e1 pf1 rfl rfl (hb hby (dB27 3)) (v := (.long k1)) (by decide) rfl ?_
 show OwnWk _ _ _ _ (T1.setTop (mkF m 6 #[vR a, vI (1 : Int32)] [(.long k1)]))
 exact own_retJ X1 hx hlk hret (hb hby (dB27 4)) (by decide) (by decide) (by rw [e1]; exact ⟨rfl, N0, rfl⟩)
theorem ef_key2 (m : MethodId) (x0 : Addr) (x1 : Int32) : entryFrame m #[(.ref x0), (.int x1)] 2 = mkF m 0 #[vR x0, vI x1] [] := by first | (simp [entryFrame, mkF, argsToLocals, Value.category]; done) | rfl
def Q_key2 (Z : State) (a kk : Addr) (k0 k1 k2 k3 : Int64) (h0 : Heap) (n0 : Nat) (v : Option Value) (h : Heap) (L : List Loc) : Prop := v = some (.long k2) ∧ Fr n0 L ∧ h = h0
set_option maxRecDepth 65536 in
set_option maxHeartbeats 40000000 in
theorem key2 (l : Launch) (Z : State) (a0 : Array Value) (hw : ∀ d ∈ tables_1, d.before a0 Z = true) (a kk : Addr) (k0 k1 k2 k3 : Int64) (h0 : Heap) (n0 : Nat) (Z0 : n0 ≤ h0.size) (pf0 : Fld Z h0 a "com/example/encircle/encircle/layout/ZoneKeys" "keys" "[J" (.ref kk)) (pf1 : OAr Z h0 kk .long [(.long k0), (.long k1), (.long k2), (.long k3)]) :
    OwnMet l yN27 prog_35_method_2_code 2 (some .long) [] ({ frames := 0, cells := 0, slots := 0, locals := 0 } : Room) Z #[(.ref a), (.int (2 : Int32))] h0 (Q_key2 Z a kk k0 k1 k2 k3 h0 n0) := by
 refine own_met pn_27 (fun p e s m below meth c s₁ hx hby hml hown hnm hret hlk hZ X0 e0 => ?_)
 have hown : s.vm.findClass "com/example/encircle/encircle/layout/ZoneKeys" = some m.cls := hown
 have N0 := Fr.nil n0
 rw [ef_key2]
 show OwnWk _ _ _ _ (s₁.setTop (mkF m 0 #[vR a, vI (2 : Int32)] []))
 refine own_go (fun tgt kst => XS.aloadN X0.here hx rfl (hb hby (dB27 0)) rfl rfl  kst) ?_
 refine own_gF X0 hx hZ hown (wq hw 91 rfl) Via.refl e0 pf0 rfl rfl (hb hby (dB27 1)) fun T1 X1 e1 => ?_
 refine own_go (fun tgt kst => XS.iloadN X1.here hx rfl (hb hby (dB27 2)) rfl  kst) ?_
 refine own_ldJ X1 hx hZ e1 pf1 rfl rfl (hb hby (dB27 3)) (v := (.long k2)) (by decide) rfl ?_
 show OwnWk _ _ _ _ (T1.setTop (mkF m 6 #[vR a, vI (2 : Int32)] [(.long k2)]))
 exact own_retJ X1 hx hlk hret (hb hby (dB27 4)) (by decide) (by decide) (by rw [e1]; exact ⟨rfl, N0, rfl⟩)
theorem ef_key3 (m : MethodId) (x0 : Addr) (x1 : Int32) : entryFrame m #[(.ref x0), (.int x1)] 2 = mkF m 0 #[vR x0, vI x1] [] := by first | (simp [entryFrame, mkF, argsToLocals, Value.category]; done) | rfl
def Q_key3 (Z : State) (a kk : Addr) (k0 k1 k2 k3 : Int64) (h0 : Heap) (n0 : Nat) (v : Option Value) (h : Heap) (L : List Loc) : Prop := v = some (.long k3) ∧ Fr n0 L ∧ h = h0
set_option maxRecDepth 65536 in
set_option maxHeartbeats 40000000 in
theorem key3 (l : Launch) (Z : State) (a0 : Array Value) (hw : ∀ d ∈ tables_1, d.before a0 Z = true) (a kk : Addr) (k0 k1 k2 k3 : Int64) (h0 : Heap) (n0 : Nat) (Z0 : n0 ≤ h0.size) (pf0 : Fld Z h0 a "com/example/encircle/encircle/layout/ZoneKeys" "keys" "[J" (.ref kk)) (pf1 : OAr Z h0 kk .long [(.long k0), (.long k1), (.long k2), (.long k3)]) :
    OwnMet l yN27 prog_35_method_2_code 2 (some .long) [] ({ frames := 0, cells := 0, slots := 0, locals := 0 } : Room) Z #[(.ref a), (.int (3 : Int32))] h0 (Q_key3 Z a kk k0 k1 k2 k3 h0 n0) := by
 refine own_met pn_27 (fun p e s m below meth c s₁ hx hby hml hown hnm hret hlk hZ X0 e0 => ?_)
 have hown : s.vm.findClass "com/example/encircle/encircle/layout/ZoneKeys" = some m.cls := hown
 have N0 := Fr.nil n0
 rw [ef_key3]
 show OwnWk _ _ _ _ (s₁.setTop (mkF m 0 #[vR a, vI (3 : Int32)] []))
 refine own_go (fun tgt kst => XS.aloadN X0.here hx rfl (hb hby (dB27 0)) rfl rfl  kst) ?_
 refine own_gF X0 hx hZ hown (wq hw 91 rfl) Via.refl e0 pf0 rfl rfl (hb hby (dB27 1)) fun T1 X1 e1 => ?_
 refine own_go (fun tgt kst => XS.iloadN X1.here hx rfl (hb hby (dB27 2)) rfl  kst) ?_
 refine own_ldJ X1 hx hZ e1 pf1 rfl rfl (hb hby (dB27 3)) (v := (.long k3)) (by decide) rfl ?_
 show OwnWk _ _ _ _ (T1.setTop (mkF m 6 #[vR a, vI (3 : Int32)] [(.long k3)]))
 exact own_retJ X1 hx hlk hret (hb hby (dB27 4)) (by decide) (by decide) (by rw [e1]; exact ⟨rfl, N0, rfl⟩)
theorem pn_pn_28 : plainName "com/example/encircle/encircle/layout/ZoneKeysFirstPinLaw" = true := by first | (simp [plainName, overriddenIn]; done) | decide +kernel
theorem pn_28 : plainFor yN28 = true := plainFor_of_name pn_pn_28
abbrev tB28 : List (Nat × Instr × Nat) := [(0, .lconst 0, 1), (1, .lstore 9, 2), (3, .iload_n 0, 1), (4, .iconst 1, 1), (5, .iand, 1), (6, .ifCond .eq 9, 3), (9, .lload 9, 2), (11, .lload_n 1, 1), (12, .lxor, 1), (13, .lstore 9, 2), (15, .iload_n 0, 1), (16, .iconst 2, 1), (17, .iand, 1), (18, .ifCond .eq 9, 3), (21, .lload 9, 2), (23, .lload_n 3, 1), (24, .lxor, 1), (25, .lstore 9, 2), (27, .iload_n 0, 1), (28, .iconst 4, 1), (29, .iand, 1), (30, .ifCond .eq 10, 3), (33, .lload 9, 2), (35, .lload 5, 2), (37, .lxor, 1), (38, .lstore 9, 2), (40, .iload_n 0, 1), (41, .bipush 8, 2), (43, .iand, 1), (44, .ifCond .eq 10, 3), (47, .lload 9, 2), (49, .lload 7, 2), (51, .lxor, 1), (52, .lstore 9, 2), (54, .lload 9, 2), (56, .lreturn, 1)]
theorem dB28 (k : Fin 36) : decode method_4_code (tB28.getD k (0, .nop, 1)).1 = .ok (tB28.getD k (0, .nop, 1)).2 := by revert k; decide +kernel
theorem ef_smo (m : MethodId) (x0 : Int32) (x1 : Int64) (x2 : Int64) (x3 : Int64) (x4 : Int64) : entryFrame m #[(.int x0), (.long x1), (.long x2), (.long x3), (.long x4)] 11 = mkF m 0 #[vI x0, vJ x1, .second, vJ x2, .second, vJ x3, .second, vJ x4, .second, .unset, .unset] [] := by first | (simp [entryFrame, mkF, argsToLocals, Value.category]; done) | rfl
def Q_smo (Z : State) (M : Nat) (k0 k1 k2 k3 : Int64) (h0 : Heap) (n0 : Nat) (v : Option Value) (h : Heap) (L : List Loc) : Prop := v = some (.long (own_sumM M k0 k1 k2 k3)) ∧ Fr n0 L ∧ h = h0
set_option maxRecDepth 65536 in
set_option maxHeartbeats 40000000 in
theorem smo (l : Launch) (Z : State) (a0 : Array Value) (hw : ∀ d ∈ tables_1, d.before a0 Z = true) (M : Nat) (k0 k1 k2 k3 : Int64) (h0 : Heap) (n0 : Nat) (Z0 : n0 ≤ h0.size)  :
    OwnMet l yN28 method_4_code 11 (some .long) [] ({ frames := 0, cells := 0, slots := 0, locals := 0 } : Room) Z #[(.int (Int32.ofNat M)), (.long k0), (.long k1), (.long k2), (.long k3)] h0 (Q_smo Z M k0 k1 k2 k3 h0 n0) := by
 refine own_met pn_28 (fun p e s m below meth c s₁ hx hby hml hown hnm hret hlk hZ X0 e0 => ?_)
 have hown : s.vm.findClass "com/example/encircle/encircle/layout/ZoneKeysFirstPinLaw" = some m.cls := hown
 have N0 := Fr.nil n0
 rw [ef_smo]
 show OwnWk _ _ _ _ (s₁.setTop (mkF m 0 #[vI (Int32.ofNat M), vJ k0, sX, vJ k1, sX, vJ k2, sX, vJ k3, sX, uX, uX] []))
 have C4 : OwnWk p e below (OwnP s (Q_smo Z M k0 k1 k2 k3 h0 n0) ({ frames := 0, cells := 0, slots := 0, locals := 0 } : Room).cells ({ frames := 0, cells := 0, slots := 0, locals := 0 } : Room).slots) (s₁.setTop (mkF m 54 #[vI (Int32.ofNat M), vJ k0, sX, vJ k1, sX, vJ k2, sX, vJ k3, sX, vJ (own_sumM M k0 k1 k2 k3), sX] [])) := by
  show OwnWk _ _ _ _ (s₁.setTop (mkF m 54 #[vI (Int32.ofNat M), vJ k0, sX, vJ k1, sX, vJ k2, sX, vJ k3, sX, vJ (own_sumM M k0 k1 k2 k3), sX] []))
  refine own_go (fun tgt kst => XS.lload X0.here hx rfl (hb hby (dB28 34)) rfl  kst) ?_
  show OwnWk _ _ _ _ (s₁.setTop (mkF m 56 #[vI (Int32.ofNat M), vJ k0, sX, vJ k1, sX, vJ k2, sX, vJ k3, sX, vJ (own_sumM M k0 k1 k2 k3), sX] [(.long (own_sumM M k0 k1 k2 k3))]))
  exact own_retJ X0 hx hlk hret (hb hby (dB28 35)) (by decide) (by decide) (by rw [e0]; exact ⟨rfl, N0, rfl⟩)
 have C3 : OwnWk p e below (OwnP s (Q_smo Z M k0 k1 k2 k3 h0 n0) ({ frames := 0, cells := 0, slots := 0, locals := 0 } : Room).cells ({ frames := 0, cells := 0, slots := 0, locals := 0 } : Room).slots) (s₁.setTop (mkF m 40 #[vI (Int32.ofNat M), vJ k0, sX, vJ k1, sX, vJ k2, sX, vJ k3, sX, vJ (own_s2 M k0 k1 k2), sX] [])) := by
  show OwnWk _ _ _ _ (s₁.setTop (mkF m 40 #[vI (Int32.ofNat M), vJ k0, sX, vJ k1, sX, vJ k2, sX, vJ k3, sX, vJ (own_s2 M k0 k1 k2), sX] []))
  refine own_go (fun tgt kst => XS.iloadN X0.here hx rfl (hb hby (dB28 26)) rfl  kst) ?_
  refine own_go (fun tgt kst => XS.bipush X0.here hx rfl (hb hby (dB28 27)) kst) ?_
  refine own_go (fun tgt kst => XS.iand X0.here hx rfl (hb hby (dB28 28)) rfl kst) ?_
  show OwnWk _ _ _ _ (s₁.setTop (mkF m 44 #[vI (Int32.ofNat M), vJ k0, sX, vJ k1, sX, vJ k2, sX, vJ k3, sX, vJ (own_s2 M k0 k1 k2), sX] [(.int ((Int32.ofNat M) &&& (8 : Int32)))]))
  by_cases hc1 : ((Int32.ofNat M) &&& (8 : Int32)) = (0 : Int32)
  ·
   refine own_go (fun tgt kst => XS.ifYes X0.here hx rfl (pc0 := 44) (pc' := 54) rfl (hb hby (dB28 29)) rfl ((if0 _ _).trans (teq hc1).1) (by decide) (by decide) kst) ?_
   show OwnWk _ _ _ _ (s₁.setTop (mkF m 54 #[vI (Int32.ofNat M), vJ k0, sX, vJ k1, sX, vJ k2, sX, vJ k3, sX, vJ (own_s2 M k0 k1 k2), sX] []))
   exact (show (own_sumM M k0 k1 k2 k3) = (own_s2 M k0 k1 k2) from if_pos hc1) ▸ C4
  ·
   refine own_go (fun tgt kst => XS.ifNo X0.here hx rfl (hb hby (dB28 29)) rfl ((if0 _ _).trans (feq hc1).1) kst) ?_
   show OwnWk _ _ _ _ (s₁.setTop (mkF m 47 #[vI (Int32.ofNat M), vJ k0, sX, vJ k1, sX, vJ k2, sX, vJ k3, sX, vJ (own_s2 M k0 k1 k2), sX] []))
   refine own_go (fun tgt kst => XS.lload X0.here hx rfl (hb hby (dB28 30)) rfl  kst) ?_
   refine own_go (fun tgt kst => XS.lload X0.here hx rfl (hb hby (dB28 31)) rfl  kst) ?_
   refine own_go (fun tgt kst => XS.lxor X0.here hx rfl (hb hby (dB28 32)) rfl kst) ?_
   refine own_go (fun tgt kst => XS.lstore X0.here hx rfl (hb hby (dB28 33)) rfl (l' := #[vI (Int32.ofNat M), vJ k0, sX, vJ k1, sX, vJ k2, sX, vJ k3, sX, vJ ((own_s2 M k0 k1 k2) ^^^ k3), sX]) rfl kst) ?_
   show OwnWk _ _ _ _ (s₁.setTop (mkF m 54 #[vI (Int32.ofNat M), vJ k0, sX, vJ k1, sX, vJ k2, sX, vJ k3, sX, vJ ((own_s2 M k0 k1 k2) ^^^ k3), sX] []))
   exact (show (own_sumM M k0 k1 k2 k3) = ((own_s2 M k0 k1 k2) ^^^ k3) from if_neg hc1) ▸ C4
 have C2 : OwnWk p e below (OwnP s (Q_smo Z M k0 k1 k2 k3 h0 n0) ({ frames := 0, cells := 0, slots := 0, locals := 0 } : Room).cells ({ frames := 0, cells := 0, slots := 0, locals := 0 } : Room).slots) (s₁.setTop (mkF m 27 #[vI (Int32.ofNat M), vJ k0, sX, vJ k1, sX, vJ k2, sX, vJ k3, sX, vJ (own_s1 M k0 k1), sX] [])) := by
  show OwnWk _ _ _ _ (s₁.setTop (mkF m 27 #[vI (Int32.ofNat M), vJ k0, sX, vJ k1, sX, vJ k2, sX, vJ k3, sX, vJ (own_s1 M k0 k1), sX] []))
  refine own_go (fun tgt kst => XS.iloadN X0.here hx rfl (hb hby (dB28 18)) rfl  kst) ?_
  refine own_go (fun tgt kst => XS.iconst X0.here hx rfl (hb hby (dB28 19)) kst) ?_
  refine own_go (fun tgt kst => XS.iand X0.here hx rfl (hb hby (dB28 20)) rfl kst) ?_
  show OwnWk _ _ _ _ (s₁.setTop (mkF m 30 #[vI (Int32.ofNat M), vJ k0, sX, vJ k1, sX, vJ k2, sX, vJ k3, sX, vJ (own_s1 M k0 k1), sX] [(.int ((Int32.ofNat M) &&& (4 : Int32)))]))
  by_cases hc2 : ((Int32.ofNat M) &&& (4 : Int32)) = (0 : Int32)
  ·
   refine own_go (fun tgt kst => XS.ifYes X0.here hx rfl (pc0 := 30) (pc' := 40) rfl (hb hby (dB28 21)) rfl ((if0 _ _).trans (teq hc2).1) (by decide) (by decide) kst) ?_
   show OwnWk _ _ _ _ (s₁.setTop (mkF m 40 #[vI (Int32.ofNat M), vJ k0, sX, vJ k1, sX, vJ k2, sX, vJ k3, sX, vJ (own_s1 M k0 k1), sX] []))
   exact (show (own_s2 M k0 k1 k2) = (own_s1 M k0 k1) from if_pos hc2) ▸ C3
  ·
   refine own_go (fun tgt kst => XS.ifNo X0.here hx rfl (hb hby (dB28 21)) rfl ((if0 _ _).trans (feq hc2).1) kst) ?_
   show OwnWk _ _ _ _ (s₁.setTop (mkF m 33 #[vI (Int32.ofNat M), vJ k0, sX, vJ k1, sX, vJ k2, sX, vJ k3, sX, vJ (own_s1 M k0 k1), sX] []))
   refine own_go (fun tgt kst => XS.lload X0.here hx rfl (hb hby (dB28 22)) rfl  kst) ?_
   refine own_go (fun tgt kst => XS.lload X0.here hx rfl (hb hby (dB28 23)) rfl  kst) ?_
   refine own_go (fun tgt kst => XS.lxor X0.here hx rfl (hb hby (dB28 24)) rfl kst) ?_
   refine own_go (fun tgt kst => XS.lstore X0.here hx rfl (hb hby (dB28 25)) rfl (l' := #[vI (Int32.ofNat M), vJ k0, sX, vJ k1, sX, vJ k2, sX, vJ k3, sX, vJ ((own_s1 M k0 k1) ^^^ k2), sX]) rfl kst) ?_
   show OwnWk _ _ _ _ (s₁.setTop (mkF m 40 #[vI (Int32.ofNat M), vJ k0, sX, vJ k1, sX, vJ k2, sX, vJ k3, sX, vJ ((own_s1 M k0 k1) ^^^ k2), sX] []))
   exact (show (own_s2 M k0 k1 k2) = ((own_s1 M k0 k1) ^^^ k2) from if_neg hc2) ▸ C3
 have C1 : OwnWk p e below (OwnP s (Q_smo Z M k0 k1 k2 k3 h0 n0) ({ frames := 0, cells := 0, slots := 0, locals := 0 } : Room).cells ({ frames := 0, cells := 0, slots := 0, locals := 0 } : Room).slots) (s₁.setTop (mkF m 15 #[vI (Int32.ofNat M), vJ k0, sX, vJ k1, sX, vJ k2, sX, vJ k3, sX, vJ (own_s0 M k0), sX] [])) := by
  show OwnWk _ _ _ _ (s₁.setTop (mkF m 15 #[vI (Int32.ofNat M), vJ k0, sX, vJ k1, sX, vJ k2, sX, vJ k3, sX, vJ (own_s0 M k0), sX] []))
  refine own_go (fun tgt kst => XS.iloadN X0.here hx rfl (hb hby (dB28 10)) rfl  kst) ?_
  refine own_go (fun tgt kst => XS.iconst X0.here hx rfl (hb hby (dB28 11)) kst) ?_
  refine own_go (fun tgt kst => XS.iand X0.here hx rfl (hb hby (dB28 12)) rfl kst) ?_
  show OwnWk _ _ _ _ (s₁.setTop (mkF m 18 #[vI (Int32.ofNat M), vJ k0, sX, vJ k1, sX, vJ k2, sX, vJ k3, sX, vJ (own_s0 M k0), sX] [(.int ((Int32.ofNat M) &&& (2 : Int32)))]))
  by_cases hc3 : ((Int32.ofNat M) &&& (2 : Int32)) = (0 : Int32)
  ·
   refine own_go (fun tgt kst => XS.ifYes X0.here hx rfl (pc0 := 18) (pc' := 27) rfl (hb hby (dB28 13)) rfl ((if0 _ _).trans (teq hc3).1) (by decide) (by decide) kst) ?_
   show OwnWk _ _ _ _ (s₁.setTop (mkF m 27 #[vI (Int32.ofNat M), vJ k0, sX, vJ k1, sX, vJ k2, sX, vJ k3, sX, vJ (own_s0 M k0), sX] []))
   exact (show (own_s1 M k0 k1) = (own_s0 M k0) from if_pos hc3) ▸ C2
  ·
   refine own_go (fun tgt kst => XS.ifNo X0.here hx rfl (hb hby (dB28 13)) rfl ((if0 _ _).trans (feq hc3).1) kst) ?_
   show OwnWk _ _ _ _ (s₁.setTop (mkF m 21 #[vI (Int32.ofNat M), vJ k0, sX, vJ k1, sX, vJ k2, sX, vJ k3, sX, vJ (own_s0 M k0), sX] []))
   refine own_go (fun tgt kst => XS.lload X0.here hx rfl (hb hby (dB28 14)) rfl  kst) ?_
   refine own_go (fun tgt kst => XS.lloadN X0.here hx rfl (hb hby (dB28 15)) rfl  kst) ?_
   refine own_go (fun tgt kst => XS.lxor X0.here hx rfl (hb hby (dB28 16)) rfl kst) ?_
   refine own_go (fun tgt kst => XS.lstore X0.here hx rfl (hb hby (dB28 17)) rfl (l' := #[vI (Int32.ofNat M), vJ k0, sX, vJ k1, sX, vJ k2, sX, vJ k3, sX, vJ ((own_s0 M k0) ^^^ k1), sX]) rfl kst) ?_
   show OwnWk _ _ _ _ (s₁.setTop (mkF m 27 #[vI (Int32.ofNat M), vJ k0, sX, vJ k1, sX, vJ k2, sX, vJ k3, sX, vJ ((own_s0 M k0) ^^^ k1), sX] []))
   exact (show (own_s1 M k0 k1) = ((own_s0 M k0) ^^^ k1) from if_neg hc3) ▸ C2
 have C0 : OwnWk p e below (OwnP s (Q_smo Z M k0 k1 k2 k3 h0 n0) ({ frames := 0, cells := 0, slots := 0, locals := 0 } : Room).cells ({ frames := 0, cells := 0, slots := 0, locals := 0 } : Room).slots) (s₁.setTop (mkF m 3 #[vI (Int32.ofNat M), vJ k0, sX, vJ k1, sX, vJ k2, sX, vJ k3, sX, vJ (0 : Int64), sX] [])) := by
  show OwnWk _ _ _ _ (s₁.setTop (mkF m 3 #[vI (Int32.ofNat M), vJ k0, sX, vJ k1, sX, vJ k2, sX, vJ k3, sX, vJ (0 : Int64), sX] []))
  refine own_go (fun tgt kst => XS.iloadN X0.here hx rfl (hb hby (dB28 2)) rfl  kst) ?_
  refine own_go (fun tgt kst => XS.iconst X0.here hx rfl (hb hby (dB28 3)) kst) ?_
  refine own_go (fun tgt kst => XS.iand X0.here hx rfl (hb hby (dB28 4)) rfl kst) ?_
  show OwnWk _ _ _ _ (s₁.setTop (mkF m 6 #[vI (Int32.ofNat M), vJ k0, sX, vJ k1, sX, vJ k2, sX, vJ k3, sX, vJ (0 : Int64), sX] [(.int ((Int32.ofNat M) &&& (1 : Int32)))]))
  by_cases hc4 : ((Int32.ofNat M) &&& (1 : Int32)) = (0 : Int32)
  ·
   refine own_go (fun tgt kst => XS.ifYes X0.here hx rfl (pc0 := 6) (pc' := 15) rfl (hb hby (dB28 5)) rfl ((if0 _ _).trans (teq hc4).1) (by decide) (by decide) kst) ?_
   show OwnWk _ _ _ _ (s₁.setTop (mkF m 15 #[vI (Int32.ofNat M), vJ k0, sX, vJ k1, sX, vJ k2, sX, vJ k3, sX, vJ (0 : Int64), sX] []))
   exact (show (own_s0 M k0) = (0 : Int64) from if_pos hc4) ▸ C1
  ·
   refine own_go (fun tgt kst => XS.ifNo X0.here hx rfl (hb hby (dB28 5)) rfl ((if0 _ _).trans (feq hc4).1) kst) ?_
   show OwnWk _ _ _ _ (s₁.setTop (mkF m 9 #[vI (Int32.ofNat M), vJ k0, sX, vJ k1, sX, vJ k2, sX, vJ k3, sX, vJ (0 : Int64), sX] []))
   refine own_go (fun tgt kst => XS.lload X0.here hx rfl (hb hby (dB28 6)) rfl  kst) ?_
   refine own_go (fun tgt kst => XS.lloadN X0.here hx rfl (hb hby (dB28 7)) rfl  kst) ?_
   refine own_go (fun tgt kst => XS.lxor X0.here hx rfl (hb hby (dB28 8)) rfl kst) ?_
   refine own_go (fun tgt kst => XS.lstore X0.here hx rfl (hb hby (dB28 9)) rfl (l' := #[vI (Int32.ofNat M), vJ k0, sX, vJ k1, sX, vJ k2, sX, vJ k3, sX, vJ ((0 : Int64) ^^^ k0), sX]) rfl kst) ?_
   show OwnWk _ _ _ _ (s₁.setTop (mkF m 15 #[vI (Int32.ofNat M), vJ k0, sX, vJ k1, sX, vJ k2, sX, vJ k3, sX, vJ ((0 : Int64) ^^^ k0), sX] []))
   exact (show (own_s0 M k0) = ((0 : Int64) ^^^ k0) from if_neg hc4) ▸ C1
 show OwnWk _ _ _ _ (s₁.setTop (mkF m 0 #[vI (Int32.ofNat M), vJ k0, sX, vJ k1, sX, vJ k2, sX, vJ k3, sX, uX, uX] []))
 refine own_go (fun tgt kst => XS.lconst X0.here hx rfl (hb hby (dB28 0)) kst) ?_
 refine own_go (fun tgt kst => XS.lstore X0.here hx rfl (hb hby (dB28 1)) rfl (l' := #[vI (Int32.ofNat M), vJ k0, sX, vJ k1, sX, vJ k2, sX, vJ k3, sX, vJ (0 : Int64), sX]) rfl kst) ?_
 show OwnWk _ _ _ _ (s₁.setTop (mkF m 3 #[vI (Int32.ofNat M), vJ k0, sX, vJ k1, sX, vJ k2, sX, vJ k3, sX, vJ (0 : Int64), sX] []))
 exact C0
theorem pn_pn_14 : plainName "com/example/encircle/encircle/layout/ZoneKeys" = true := by first | (simp [plainName, overriddenIn]; done) | decide +kernel
theorem pn_14 : plainFor yN14 = true := plainFor_of_name pn_pn_14
abbrev tB14 : List (Nat × Instr × Nat) := [(0, .aload_n 0, 1), (1, .invokespecial 1, 3), (4, .aload_n 0, 1), (5, .iload_n 1, 1), (6, .newarray .long, 2), (8, .putfield 7, 3), (11, .ldc2_w 13, 3), (14, .lstore_n 3, 1), (15, .iconst 0, 1), (16, .istore 5, 2), (18, .iload 5, 2), (20, .iload_n 1, 1), (21, .if_icmp .ge 56, 3), (24, .lload_n 3, 1), (25, .ldc2_w 15, 3), (28, .ladd, 1), (29, .lstore_n 3, 1), (30, .lload_n 3, 1), (31, .lload_n 3, 1), (32, .bipush 30, 2), (34, .lushr, 1), (35, .lxor, 1), (36, .ldc2_w 17, 3), (39, .lmul, 1), (40, .lstore 6, 2), (42, .lload 6, 2), (44, .lload 6, 2), (46, .bipush 27, 2), (48, .lushr, 1), (49, .lxor, 1), (50, .ldc2_w 19, 3), (53, .lmul, 1), (54, .lstore 6, 2), (56, .aload_n 0, 1), (57, .getfield 7, 3), (60, .iload 5, 2), (62, .lload 6, 2), (64, .lload 6, 2), (66, .bipush 31, 2), (68, .lushr, 1), (69, .lxor, 1), (70, .lastore, 1), (71, .iinc 5 1, 3), (74, .goto (-56), 3), (77, .aload_n 0, 1), (78, .aload_n 2, 1), (79, .invokeinterface 21 1, 5), (84, .newarray .long, 2), (86, .putfield 27, 3), (89, .aload_n 0, 1), (90, .aload_n 2, 1), (91, .invokeinterface 21 1, 5), (96, .newarray .int, 2), (98, .putfield 30, 3), (101, .iconst 0, 1), (102, .istore 5, 2), (104, .iload 5, 2), (106, .aload_n 0, 1), (107, .getfield 27, 3), (110, .arraylength, 1), (111, .if_icmp .ge 78, 3), (114, .aload_n 2, 1), (115, .iload 5, 2), (117, .invokeinterface 34 2, 5), (122, .checkcast 38, 3), (125, .astore 6, 2), (127, .aload 6, 2), (129, .iconst 0, 1), (130, .invokevirtual 40, 3), (133, .istore 7, 2), (135, .iload 7, 2), (137, .ifCond .lt 34, 3), (140, .aload_n 0, 1), (141, .getfield 27, 3), (144, .iload 5, 2), (146, .dup2, 1), (147, .laload, 1), (148, .aload_n 0, 1), (149, .getfield 7, 3), (152, .iload 7, 2), (154, .laload, 1), (155, .lxor, 1), (156, .lastore, 1), (157, .aload 6, 2), (159, .iload 7, 2), (161, .iconst 1, 1), (162, .iadd, 1), (163, .invokevirtual 40, 3), (166, .istore 7, 2), (168, .goto (-33), 3), (171, .aload_n 0, 1), (172, .getfield 30, 3), (175, .iload 5, 2), (177, .aload 6, 2), (179, .invokevirtual 44, 3), (182, .iastore, 1), (183, .iinc 5 1, 3), (186, .goto (-82), 3), (189, .iconst 1, 1), (190, .aload_n 2, 1), (191, .invokeinterface 21 1, 5), (196, .invokestatic 47, 3), (199, .iconst 4, 1), (200, .imul, 1), (201, .iconst 1, 1), (202, .isub, 1), (203, .invokestatic 53, 3), (206, .istore 5, 2), (208, .aload_n 0, 1), (209, .iload 5, 2), (211, .newarray .long, 2), (213, .putfield 58, 3), (216, .aload_n 0, 1), (217, .iload 5, 2), (219, .newarray .int, 2), (221, .putfield 61, 3), (224, .aload_n 0, 1), (225, .aload_n 2, 1), (226, .invokeinterface 21 1, 5), (231, .newarray .int, 2), (233, .putfield 64, 3), (236, .aload_n 0, 1), (237, .getfield 64, 3), (240, .iconst (-1), 1), (241, .invokestatic 67, 3), (244, .aload_n 2, 1), (245, .invokeinterface 21 1, 5), (250, .iconst 1, 1), (251, .isub, 1), (252, .istore 6, 2), (254, .iload 6, 2), (256, .ifCond .lt 63, 3), (259, .aload_n 0, 1), (260, .aload_n 0, 1), (261, .getfield 27, 3), (264, .iload 6, 2), (266, .laload, 1), (267, .invokevirtual 73, 3), (270, .istore 7, 2), (272, .aload_n 0, 1), (273, .getfield 64, 3), (276, .iload 6, 2), (278, .aload_n 0, 1), (279, .getfield 61, 3), (282, .iload 7, 2), (284, .iaload, 1), (285, .iconst 1, 1), (286, .isub, 1), (287, .iastore, 1), (288, .aload_n 0, 1), (289, .getfield 58, 3), (292, .iload 7, 2), (294, .aload_n 0, 1), (295, .getfield 27, 3), (298, .iload 6, 2), (300, .laload, 1), (301, .lastore, 1), (302, .aload_n 0, 1), (303, .getfield 61, 3), (306, .iload 7, 2), (308, .iload 6, 2), (310, .iconst 1, 1), (311, .iadd, 1), (312, .iastore, 1), (313, .iinc 6 (-1), 3), (316, .goto (-62), 3), (319, .return_, 1)]
theorem dB14 (k : Fin 167) : decode prog_35_method_1_code (tB14.getD k (0, .nop, 1)).1 = .ok (tB14.getD k (0, .nop, 1)).2 := by revert k; decide +kernel
set_option maxRecDepth 65536 in
set_option maxHeartbeats 40000000 in
theorem zkeys (l : Launch) (Z : State) (a0 : Array Value) (hw : ∀ d ∈ tables_1, d.before a0 Z = true) (a ls : Addr) {p : Program} {e : Env} {s : State} {m : MethodId} {below : List Frame} {meth : Method} {c : Code} {as_ : Array Value} {P : Option Value → State → List Loc → Prop} {T0 : State} {locs : List Loc} (h0 : Heap) (n0 : Nat) (Z0 : n0 ≤ h0.size) (pf0 : Exa Z h0 a "com/example/encircle/encircle/layout/ZoneKeys") (pf1 : Fld Z h0 a "com/example/encircle/encircle/layout/ZoneKeys" "keys" "[J" .null) (pf2 : Fld Z h0 a "com/example/encircle/encircle/layout/ZoneKeys" "sums" "[J" .null) (pf3 : Fld Z h0 a "com/example/encircle/encircle/layout/ZoneKeys" "sizes" "[I" .null) (pf4 : Fld Z h0 a "com/example/encircle/encircle/layout/ZoneKeys" "slotSums" "[J" .null) (pf5 : Fld Z h0 a "com/example/encircle/encircle/layout/ZoneKeys" "slotZones" "[I" .null) (pf6 : Fld Z h0 a "com/example/encircle/encircle/layout/ZoneKeys" "sameSum" "[I" .null) (gn0 : n0 ≤ a)
    (hx : p.tables.exec = Jvm.exec) (hby : c.code = prog_35_method_1_code) (hml : c.maxLocals = 8) (hown : s.vm.findClass "com/example/encircle/encircle/layout/ZoneKeys" = some m.cls) (hnm : meth.name = "<init>") (hZ : Z.Warmed39 s.vm) (X0 : Stand p l e ({ frames := 4, cells := 7, slots := 36, locals := 110 } : Room) s m as_ below meth c T0 locs 0 0) (e0 : T0.heap = h0) (N0 : Fr n0 locs)
    (K : ∀ (T' : State) (h' : Heap) (L' : List Loc) (kk : Addr) (k0 k1 k2 k3 stv kt : Int64), Stand p l e ({ frames := 4, cells := 7, slots := 36, locals := 110 } : Room) s m as_ below meth c T' L' 1 4 → T'.heap = h' → Fr n0 L' → Keep h0 h' [a] → h0.size ≤ kk → Fld Z h' a "com/example/encircle/encircle/layout/ZoneKeys" "keys" "[J" (.ref kk) → OAr Z h' kk .long [(.long k0), (.long k1), (.long k2), (.long k3)] → Fld Z h' a "com/example/encircle/encircle/layout/ZoneKeys" "sums" "[J" .null → Fld Z h' a "com/example/encircle/encircle/layout/ZoneKeys" "sizes" "[I" .null → Fld Z h' a "com/example/encircle/encircle/layout/ZoneKeys" "slotSums" "[J" .null → Fld Z h' a "com/example/encircle/encircle/layout/ZoneKeys" "slotZones" "[I" .null → Fld Z h' a "com/example/encircle/encircle/layout/ZoneKeys" "sameSum" "[I" .null → OwnWk p e below P (T'.setTop (mkF m 77 #[vR a, vI (4 : Int32), vR ls, vJ stv, sX, vI (4 : Int32), vJ kt, sX] []))) : OwnWk p e below P (T0.setTop (mkF m 0 #[vR a, vI (4 : Int32), vR ls, uX, uX, uX, uX, uX] [])) := by
 have K0 := Keep.refl h0 [a]
 show OwnWk _ _ _ _ (T0.setTop (mkF m 0 #[vR a, vI (4 : Int32), vR ls, uX, uX, uX, uX, uX] []))
 refine own_go (fun tgt kst => XS.aloadN X0.here hx rfl (hb hby (dB14 0)) rfl rfl  kst) ?_
 show OwnWk _ _ _ _ (T0.setTop (mkF m 1 #[vR a, vI (4 : Int32), vR ls, uX, uX, uX, uX, uX] [(.ref a)]))
 obtain ⟨T1, X1, e1, st1⟩ := initO X0 hx hZ hown (wq hw 90 rfl) (wq hw 12 rfl) (wq hw 13 rfl) e0 (g := (mkF m 1 #[vR a, vI (4 : Int32), vR ls, uX, uX, uX, uX, uX] [(.ref a)])) rfl (by rw [hml]; rfl) rfl (hb hby (dB14 1)) (by decide) (W := 0) (by show 2 * 0 + _ ≤ _; exact Nat.le_of_eq rfl) (by decide)
 refine own_go st1 ?_
 show OwnWk _ _ _ _ (T1.setTop (mkF m 4 #[vR a, vI (4 : Int32), vR ls, uX, uX, uX, uX, uX] []))
 refine own_go (fun tgt kst => XS.aloadN X1.here hx rfl (hb hby (dB14 2)) rfl rfl  kst) ?_
 refine own_go (fun tgt kst => XS.iloadN X1.here hx rfl (hb hby (dB14 3)) rfl  kst) ?_
 refine own_newP X1 hx hZ (aty := .long) (wq hw 26 rfl) e1 rfl (hb hby (dB14 4)) rfl (by decide) (cap := 4) (by decide) (by decide) (by decide) (by decide) (fun T2 h2 b2 X2 e2 g2 E2 V2 => ?_)
 have ne3 := own_nl pf0.lt (Nat.le_of_eq g2.symm)
 have ge4 : n0 ≤ b2 := Nat.le_trans Z0 (Nat.le_of_eq g2.symm)
 have sz5 : h0.size ≤ b2 := Nat.le_trans K0.1 (Nat.le_of_eq g2.symm)
 have F6 := Exa.ext E2 pf0
 have F7 := Fld.ext E2 pf1
 have F8 := Fld.ext E2 pf2
 have F9 := Fld.ext E2 pf3
 have F10 := Fld.ext E2 pf4
 have F11 := Fld.ext E2 pf5
 have F12 := Fld.ext E2 pf6
 have Z13 := Nat.le_trans Z0 E2.1
 have K14 := Keep.ext K0 E2
 have V2b : OAr Z h2 b2 .long [(.long (0 : Int64)), (.long (0 : Int64)), (.long (0 : Int64)), (.long (0 : Int64))] := V2
 show OwnWk _ _ _ _ (T2.setTop (mkF m 8 #[vR a, vI (4 : Int32), vR ls, uX, uX, uX, uX, uX] [(.ref b2), (.ref a)]))
 obtain ⟨T15, h15, X15, e15, W15, st15⟩ := putF X2 hx hZ hown (host := "") (Or.inl (wq hw 91 rfl)) Via.refl e2 F7 F6 (Or.inr ⟨(wq hw 92 rfl), rfl, hnm⟩) (wq hw 85 rfl) (v := (.ref b2)) (ty := (.array .long)) (by decide) rfl rfl (g := (mkF m 8 #[vR a, vI (4 : Int32), vR ls, uX, uX, uX, uX, uX] [(.ref b2), (.ref a)])) rfl rfl (hb hby (dB14 5))
 refine own_go st15 ?_
 have N15 := Fr.snoc X15 N0 gn0
 have Fw15 := Fld.same W15 F7
 have F16 := Exa.wr W15 F6
 have F17 := Fld.other W15 F8 (Or.inr (slot_ne (Or.inr (wq hw 107 rfl)) (Or.inr (wq hw 92 rfl)) (by decide) (t := (.array .long)) (t' := (.array .long)) (by decide) (by decide)))
 have F18 := Fld.other W15 F9 (Or.inr (slot_ne (Or.inr (wq hw 110 rfl)) (Or.inr (wq hw 92 rfl)) (by decide) (t := (.array .int)) (t' := (.array .long)) (by decide) (by decide)))
 have F19 := Fld.other W15 F10 (Or.inr (slot_ne (Or.inr (wq hw 161 rfl)) (Or.inr (wq hw 92 rfl)) (by decide) (t := (.array .long)) (t' := (.array .long)) (by decide) (by decide)))
 have F20 := Fld.other W15 F11 (Or.inr (slot_ne (Or.inr (wq hw 163 rfl)) (Or.inr (wq hw 92 rfl)) (by decide) (t := (.array .int)) (t' := (.array .long)) (by decide) (by decide)))
 have F21 := Fld.other W15 F12 (Or.inr (slot_ne (Or.inr (wq hw 165 rfl)) (Or.inr (wq hw 92 rfl)) (by decide) (t := (.array .int)) (t' := (.array .long)) (by decide) (by decide)))
 have F22 := OAr.other V2b W15 (Ne.symm ne3)
 have Z23 := Nat.le_trans Z13 (Keep.of_wr W15).1
 have K24 := Keep.wr K14 W15 (Or.inl (List.mem_of_getElem? (i := 0) rfl))
 show OwnWk _ _ _ _ (T15.setTop (mkF m 11 #[vR a, vI (4 : Int32), vR ls, uX, uX, uX, uX, uX] []))
 refine own_go (X15.ldc2Long hx hown (mvT hZ (wq hw 93 rfl)) (g := (mkF m 11 #[vR a, vI (4 : Int32), vR ls, uX, uX, uX, uX, uX] [])) rfl (hb hby (dB14 6))) ?_
 refine own_go (fun tgt kst => XS.lstoreN X15.here hx rfl (hb hby (dB14 7)) rfl (l' := #[vR a, vI (4 : Int32), vR ls, vJ (104372539625506 : Int64), sX, uX, uX, uX]) rfl kst) ?_
 refine own_go (fun tgt kst => XS.iconst X15.here hx rfl (hb hby (dB14 8)) kst) ?_
 refine own_go (fun tgt kst => XS.istore X15.here hx rfl (hb hby (dB14 9)) rfl (l' := #[vR a, vI (4 : Int32), vR ls, vJ (104372539625506 : Int64), sX, vI (0 : Int32), uX, uX]) rfl kst) ?_
 refine own_go (fun tgt kst => XS.iload X15.here hx rfl (hb hby (dB14 10)) rfl  kst) ?_
 refine own_go (fun tgt kst => XS.iloadN X15.here hx rfl (hb hby (dB14 11)) rfl  kst) ?_
 show OwnWk _ _ _ _ (T15.setTop (mkF m 21 #[vR a, vI (4 : Int32), vR ls, vJ (104372539625506 : Int64), sX, vI (0 : Int32), uX, uX] [(.int (4 : Int32)), (.int (0 : Int32))]))
 refine own_go (fun tgt kst => XS.icmpNo X15.here hx rfl (hb hby (dB14 12)) rfl (tlt (by decide : (0 : Int32) < (4 : Int32))).2.1 kst) ?_
 refine own_go (fun tgt kst => XS.lloadN X15.here hx rfl (hb hby (dB14 13)) rfl  kst) ?_
 refine own_go (X15.ldc2Long hx hown (mvT hZ (wq hw 94 rfl)) (g := (mkF m 25 #[vR a, vI (4 : Int32), vR ls, vJ (104372539625506 : Int64), sX, vI (0 : Int32), uX, uX] [(.long (104372539625506 : Int64))])) rfl (hb hby (dB14 14))) ?_
 refine own_go (fun tgt kst => XS.ladd X15.here hx rfl (hb hby (dB14 15)) rfl kst) ?_
 show OwnWk _ _ _ _ (T15.setTop (mkF m 29 #[vR a, vI (4 : Int32), vR ls, vJ (104372539625506 : Int64), sX, vI (0 : Int32), uX, uX] [(.long (-7045924881846727625 : Int64))]))
 obtain ⟨st0_, h_st0_⟩ : ∃ z : Int64, z = (-7045924881846727625 : Int64) := ⟨_, rfl⟩
 rw [← h_st0_]
 refine own_go (fun tgt kst => XS.lstoreN X15.here hx rfl (hb hby (dB14 16)) rfl (l' := #[vR a, vI (4 : Int32), vR ls, vJ st0_, sX, vI (0 : Int32), uX, uX]) rfl kst) ?_
 refine own_go (fun tgt kst => XS.lloadN X15.here hx rfl (hb hby (dB14 17)) rfl  kst) ?_
 refine own_go (fun tgt kst => XS.lloadN X15.here hx rfl (hb hby (dB14 18)) rfl  kst) ?_
 refine own_go (fun tgt kst => XS.bipush X15.here hx rfl (hb hby (dB14 19)) kst) ?_
 refine own_go (fun tgt kst => XS.lushr X15.here hx rfl (hb hby (dB14 20)) rfl kst) ?_
 refine own_go (fun tgt kst => XS.lxor X15.here hx rfl (hb hby (dB14 21)) rfl kst) ?_
 show OwnWk _ _ _ _ (T15.setTop (mkF m 36 #[vR a, vI (4 : Int32), vR ls, vJ st0_, sX, vI (0 : Int32), uX, uX] [(.long (st0_ ^^^ ((st0_.toUInt64 >>> ((30 : Int32) &&& 0x3f).toInt64.toUInt64).toInt64)))]))
 refine own_go (X15.ldc2Long hx hown (mvT hZ (wq hw 95 rfl)) (g := (mkF m 36 #[vR a, vI (4 : Int32), vR ls, vJ st0_, sX, vI (0 : Int32), uX, uX] [(.long (st0_ ^^^ ((st0_.toUInt64 >>> ((30 : Int32) &&& 0x3f).toInt64.toUInt64).toInt64)))])) rfl (hb hby (dB14 22))) ?_
 refine own_go (fun tgt kst => XS.lmul X15.here hx rfl (hb hby (dB14 23)) rfl kst) ?_
 show OwnWk _ _ _ _ (T15.setTop (mkF m 40 #[vR a, vI (4 : Int32), vR ls, vJ st0_, sX, vI (0 : Int32), uX, uX] [(.long ((st0_ ^^^ ((st0_.toUInt64 >>> ((30 : Int32) &&& 0x3f).toInt64.toUInt64).toInt64)) * (-4658895280553007687 : Int64)))]))
 obtain ⟨za0_, h_za0_⟩ : ∃ z : Int64, z = ((st0_ ^^^ ((st0_.toUInt64 >>> ((30 : Int32) &&& 0x3f).toInt64.toUInt64).toInt64)) * (-4658895280553007687 : Int64)) := ⟨_, rfl⟩
 rw [← h_za0_]
 refine own_go (fun tgt kst => XS.lstore X15.here hx rfl (hb hby (dB14 24)) rfl (l' := #[vR a, vI (4 : Int32), vR ls, vJ st0_, sX, vI (0 : Int32), vJ za0_, sX]) rfl kst) ?_
 refine own_go (fun tgt kst => XS.lload X15.here hx rfl (hb hby (dB14 25)) rfl  kst) ?_
 refine own_go (fun tgt kst => XS.lload X15.here hx rfl (hb hby (dB14 26)) rfl  kst) ?_
 refine own_go (fun tgt kst => XS.bipush X15.here hx rfl (hb hby (dB14 27)) kst) ?_
 refine own_go (fun tgt kst => XS.lushr X15.here hx rfl (hb hby (dB14 28)) rfl kst) ?_
 refine own_go (fun tgt kst => XS.lxor X15.here hx rfl (hb hby (dB14 29)) rfl kst) ?_
 show OwnWk _ _ _ _ (T15.setTop (mkF m 50 #[vR a, vI (4 : Int32), vR ls, vJ st0_, sX, vI (0 : Int32), vJ za0_, sX] [(.long (za0_ ^^^ ((za0_.toUInt64 >>> ((27 : Int32) &&& 0x3f).toInt64.toUInt64).toInt64)))]))
 refine own_go (X15.ldc2Long hx hown (mvT hZ (wq hw 96 rfl)) (g := (mkF m 50 #[vR a, vI (4 : Int32), vR ls, vJ st0_, sX, vI (0 : Int32), vJ za0_, sX] [(.long (za0_ ^^^ ((za0_.toUInt64 >>> ((27 : Int32) &&& 0x3f).toInt64.toUInt64).toInt64)))])) rfl (hb hby (dB14 30))) ?_
 refine own_go (fun tgt kst => XS.lmul X15.here hx rfl (hb hby (dB14 31)) rfl kst) ?_
 show OwnWk _ _ _ _ (T15.setTop (mkF m 54 #[vR a, vI (4 : Int32), vR ls, vJ st0_, sX, vI (0 : Int32), vJ za0_, sX] [(.long ((za0_ ^^^ ((za0_.toUInt64 >>> ((27 : Int32) &&& 0x3f).toInt64.toUInt64).toInt64)) * (-7723592293110705685 : Int64)))]))
 obtain ⟨zb0_, h_zb0_⟩ : ∃ z : Int64, z = ((za0_ ^^^ ((za0_.toUInt64 >>> ((27 : Int32) &&& 0x3f).toInt64.toUInt64).toInt64)) * (-7723592293110705685 : Int64)) := ⟨_, rfl⟩
 rw [← h_zb0_]
 refine own_go (fun tgt kst => XS.lstore X15.here hx rfl (hb hby (dB14 32)) rfl (l' := #[vR a, vI (4 : Int32), vR ls, vJ st0_, sX, vI (0 : Int32), vJ zb0_, sX]) rfl kst) ?_
 refine own_go (fun tgt kst => XS.aloadN X15.here hx rfl (hb hby (dB14 33)) rfl rfl  kst) ?_
 refine own_gF X15 hx hZ hown (wq hw 91 rfl) Via.refl e15 Fw15 rfl rfl (hb hby (dB14 34)) fun T25 X25 e25 => ?_
 refine own_go (fun tgt kst => XS.iload X25.here hx rfl (hb hby (dB14 35)) rfl  kst) ?_
 refine own_go (fun tgt kst => XS.lload X25.here hx rfl (hb hby (dB14 36)) rfl  kst) ?_
 refine own_go (fun tgt kst => XS.lload X25.here hx rfl (hb hby (dB14 37)) rfl  kst) ?_
 refine own_go (fun tgt kst => XS.bipush X25.here hx rfl (hb hby (dB14 38)) kst) ?_
 refine own_go (fun tgt kst => XS.lushr X25.here hx rfl (hb hby (dB14 39)) rfl kst) ?_
 show OwnWk _ _ _ _ (T25.setTop (mkF m 69 #[vR a, vI (4 : Int32), vR ls, vJ st0_, sX, vI (0 : Int32), vJ zb0_, sX] [(.long ((zb0_.toUInt64 >>> ((31 : Int32) &&& 0x3f).toInt64.toUInt64).toInt64)), (.long zb0_), (.int (0 : Int32)), (.ref b2)]))
 refine own_go (fun tgt kst => XS.lxor X25.here hx rfl (hb hby (dB14 40)) rfl kst) ?_
 show OwnWk _ _ _ _ (T25.setTop (mkF m 70 #[vR a, vI (4 : Int32), vR ls, vJ st0_, sX, vI (0 : Int32), vJ zb0_, sX] [(.long (zb0_ ^^^ ((zb0_.toUInt64 >>> ((31 : Int32) &&& 0x3f).toInt64.toUInt64).toInt64))), (.int (0 : Int32)), (.ref b2)]))
 obtain ⟨k0, h_k0⟩ : ∃ z : Int64, z = (zb0_ ^^^ ((zb0_.toUInt64 >>> ((31 : Int32) &&& 0x3f).toInt64.toUInt64).toInt64)) := ⟨_, rfl⟩
 rw [← h_k0]
 refine own_stJ X25 hx hZ e25 F22 rfl rfl (hb hby (dB14 41)) (by decide) (Nat.le_of_ble_eq_true rfl) (fun T26 h26 X26 e26 W26 V26 => ?_)
 have N26 := Fr.snoc X26 N15 ge4
 have F27 := Exa.wr W26 F16
 have F28 := Fld.other W26 F17 (Or.inl ne3)
 have F29 := Fld.other W26 F18 (Or.inl ne3)
 have F30 := Fld.other W26 F19 (Or.inl ne3)
 have F31 := Fld.other W26 F20 (Or.inl ne3)
 have F32 := Fld.other W26 F21 (Or.inl ne3)
 have F33 := Fld.other W26 Fw15 (Or.inl ne3)
 have Z34 := Nat.le_trans Z23 (Keep.of_wr W26).1
 have K35 := Keep.wr K24 W26 (Or.inr sz5)
 show OwnWk _ _ _ _ (T26.setTop (mkF m 71 #[vR a, vI (4 : Int32), vR ls, vJ st0_, sX, vI (0 : Int32), vJ zb0_, sX] []))
 refine own_go (fun tgt kst => XS.iinc X26.here hx rfl (hb hby (dB14 42)) rfl (l' := #[vR a, vI (4 : Int32), vR ls, vJ st0_, sX, vI (1 : Int32), vJ zb0_, sX]) rfl kst) ?_
 refine own_go (fun tgt kst => XS.goto X26.here hx rfl (pc0 := 74) (pc' := 18) rfl (hb hby (dB14 43)) (by decide) (by decide) kst) ?_
 refine own_go (fun tgt kst => XS.iload X26.here hx rfl (hb hby (dB14 10)) rfl  kst) ?_
 refine own_go (fun tgt kst => XS.iloadN X26.here hx rfl (hb hby (dB14 11)) rfl  kst) ?_
 refine own_go (fun tgt kst => XS.icmpNo X26.here hx rfl (hb hby (dB14 12)) rfl (tlt (by decide : (1 : Int32) < (4 : Int32))).2.1 kst) ?_
 refine own_go (fun tgt kst => XS.lloadN X26.here hx rfl (hb hby (dB14 13)) rfl  kst) ?_
 show OwnWk _ _ _ _ (T26.setTop (mkF m 25 #[vR a, vI (4 : Int32), vR ls, vJ st0_, sX, vI (1 : Int32), vJ zb0_, sX] [(.long st0_)]))
 refine own_go (X26.ldc2Long hx hown (mvT hZ (wq hw 94 rfl)) (g := (mkF m 25 #[vR a, vI (4 : Int32), vR ls, vJ st0_, sX, vI (1 : Int32), vJ zb0_, sX] [(.long st0_)])) rfl (hb hby (dB14 14))) ?_
 refine own_go (fun tgt kst => XS.ladd X26.here hx rfl (hb hby (dB14 15)) rfl kst) ?_
 show OwnWk _ _ _ _ (T26.setTop (mkF m 29 #[vR a, vI (4 : Int32), vR ls, vJ st0_, sX, vI (1 : Int32), vJ zb0_, sX] [(.long (st0_ + (-7046029254386353131 : Int64)))]))
 obtain ⟨st1_, h_st1_⟩ : ∃ z : Int64, z = (st0_ + (-7046029254386353131 : Int64)) := ⟨_, rfl⟩
 rw [← h_st1_]
 refine own_go (fun tgt kst => XS.lstoreN X26.here hx rfl (hb hby (dB14 16)) rfl (l' := #[vR a, vI (4 : Int32), vR ls, vJ st1_, sX, vI (1 : Int32), vJ zb0_, sX]) rfl kst) ?_
 refine own_go (fun tgt kst => XS.lloadN X26.here hx rfl (hb hby (dB14 17)) rfl  kst) ?_
 refine own_go (fun tgt kst => XS.lloadN X26.here hx rfl (hb hby (dB14 18)) rfl  kst) ?_
 refine own_go (fun tgt kst => XS.bipush X26.here hx rfl (hb hby (dB14 19)) kst) ?_
 refine own_go (fun tgt kst => XS.lushr X26.here hx rfl (hb hby (dB14 20)) rfl kst) ?_
 refine own_go (fun tgt kst => XS.lxor X26.here hx rfl (hb hby (dB14 21)) rfl kst) ?_
 show OwnWk _ _ _ _ (T26.setTop (mkF m 36 #[vR a, vI (4 : Int32), vR ls, vJ st1_, sX, vI (1 : Int32), vJ zb0_, sX] [(.long (st1_ ^^^ ((st1_.toUInt64 >>> ((30 : Int32) &&& 0x3f).toInt64.toUInt64).toInt64)))]))
 refine own_go (X26.ldc2Long hx hown (mvT hZ (wq hw 95 rfl)) (g := (mkF m 36 #[vR a, vI (4 : Int32), vR ls, vJ st1_, sX, vI (1 : Int32), vJ zb0_, sX] [(.long (st1_ ^^^ ((st1_.toUInt64 >>> ((30 : Int32) &&& 0x3f).toInt64.toUInt64).toInt64)))])) rfl (hb hby (dB14 22))) ?_
 refine own_go (fun tgt kst => XS.lmul X26.here hx rfl (hb hby (dB14 23)) rfl kst) ?_
 show OwnWk _ _ _ _ (T26.setTop (mkF m 40 #[vR a, vI (4 : Int32), vR ls, vJ st1_, sX, vI (1 : Int32), vJ zb0_, sX] [(.long ((st1_ ^^^ ((st1_.toUInt64 >>> ((30 : Int32) &&& 0x3f).toInt64.toUInt64).toInt64)) * (-4658895280553007687 : Int64)))]))
 obtain ⟨za1_, h_za1_⟩ : ∃ z : Int64, z = ((st1_ ^^^ ((st1_.toUInt64 >>> ((30 : Int32) &&& 0x3f).toInt64.toUInt64).toInt64)) * (-4658895280553007687 : Int64)) := ⟨_, rfl⟩
 rw [← h_za1_]
 refine own_go (fun tgt kst => XS.lstore X26.here hx rfl (hb hby (dB14 24)) rfl (l' := #[vR a, vI (4 : Int32), vR ls, vJ st1_, sX, vI (1 : Int32), vJ za1_, sX]) rfl kst) ?_
 refine own_go (fun tgt kst => XS.lload X26.here hx rfl (hb hby (dB14 25)) rfl  kst) ?_
 refine own_go (fun tgt kst => XS.lload X26.here hx rfl (hb hby (dB14 26)) rfl  kst) ?_
 refine own_go (fun tgt kst => XS.bipush X26.here hx rfl (hb hby (dB14 27)) kst) ?_
 refine own_go (fun tgt kst => XS.lushr X26.here hx rfl (hb hby (dB14 28)) rfl kst) ?_
 refine own_go (fun tgt kst => XS.lxor X26.here hx rfl (hb hby (dB14 29)) rfl kst) ?_
 show OwnWk _ _ _ _ (T26.setTop (mkF m 50 #[vR a, vI (4 : Int32), vR ls, vJ st1_, sX, vI (1 : Int32), vJ za1_, sX] [(.long (za1_ ^^^ ((za1_.toUInt64 >>> ((27 : Int32) &&& 0x3f).toInt64.toUInt64).toInt64)))]))
 refine own_go (X26.ldc2Long hx hown (mvT hZ (wq hw 96 rfl)) (g := (mkF m 50 #[vR a, vI (4 : Int32), vR ls, vJ st1_, sX, vI (1 : Int32), vJ za1_, sX] [(.long (za1_ ^^^ ((za1_.toUInt64 >>> ((27 : Int32) &&& 0x3f).toInt64.toUInt64).toInt64)))])) rfl (hb hby (dB14 30))) ?_
 refine own_go (fun tgt kst => XS.lmul X26.here hx rfl (hb hby (dB14 31)) rfl kst) ?_
 show OwnWk _ _ _ _ (T26.setTop (mkF m 54 #[vR a, vI (4 : Int32), vR ls, vJ st1_, sX, vI (1 : Int32), vJ za1_, sX] [(.long ((za1_ ^^^ ((za1_.toUInt64 >>> ((27 : Int32) &&& 0x3f).toInt64.toUInt64).toInt64)) * (-7723592293110705685 : Int64)))]))
 obtain ⟨zb1_, h_zb1_⟩ : ∃ z : Int64, z = ((za1_ ^^^ ((za1_.toUInt64 >>> ((27 : Int32) &&& 0x3f).toInt64.toUInt64).toInt64)) * (-7723592293110705685 : Int64)) := ⟨_, rfl⟩
 rw [← h_zb1_]
 refine own_go (fun tgt kst => XS.lstore X26.here hx rfl (hb hby (dB14 32)) rfl (l' := #[vR a, vI (4 : Int32), vR ls, vJ st1_, sX, vI (1 : Int32), vJ zb1_, sX]) rfl kst) ?_
 refine own_go (fun tgt kst => XS.aloadN X26.here hx rfl (hb hby (dB14 33)) rfl rfl  kst) ?_
 refine own_gF X26 hx hZ hown (wq hw 91 rfl) Via.refl e26 F33 rfl rfl (hb hby (dB14 34)) fun T36 X36 e36 => ?_
 refine own_go (fun tgt kst => XS.iload X36.here hx rfl (hb hby (dB14 35)) rfl  kst) ?_
 refine own_go (fun tgt kst => XS.lload X36.here hx rfl (hb hby (dB14 36)) rfl  kst) ?_
 refine own_go (fun tgt kst => XS.lload X36.here hx rfl (hb hby (dB14 37)) rfl  kst) ?_
 refine own_go (fun tgt kst => XS.bipush X36.here hx rfl (hb hby (dB14 38)) kst) ?_
 refine own_go (fun tgt kst => XS.lushr X36.here hx rfl (hb hby (dB14 39)) rfl kst) ?_
 show OwnWk _ _ _ _ (T36.setTop (mkF m 69 #[vR a, vI (4 : Int32), vR ls, vJ st1_, sX, vI (1 : Int32), vJ zb1_, sX] [(.long ((zb1_.toUInt64 >>> ((31 : Int32) &&& 0x3f).toInt64.toUInt64).toInt64)), (.long zb1_), (.int (1 : Int32)), (.ref b2)]))
 refine own_go (fun tgt kst => XS.lxor X36.here hx rfl (hb hby (dB14 40)) rfl kst) ?_
 show OwnWk _ _ _ _ (T36.setTop (mkF m 70 #[vR a, vI (4 : Int32), vR ls, vJ st1_, sX, vI (1 : Int32), vJ zb1_, sX] [(.long (zb1_ ^^^ ((zb1_.toUInt64 >>> ((31 : Int32) &&& 0x3f).toInt64.toUInt64).toInt64))), (.int (1 : Int32)), (.ref b2)]))
 obtain ⟨k1, h_k1⟩ : ∃ z : Int64, z = (zb1_ ^^^ ((zb1_.toUInt64 >>> ((31 : Int32) &&& 0x3f).toInt64.toUInt64).toInt64)) := ⟨_, rfl⟩
 rw [← h_k1]
 refine own_stJ X36 hx hZ e36 V26 rfl rfl (hb hby (dB14 41)) (by decide) (Nat.le_of_ble_eq_true rfl) (fun T37 h37 X37 e37 W37 V37 => ?_)
 have N37 := Fr.snoc X37 N26 ge4
 have F38 := Exa.wr W37 F27
 have F39 := Fld.other W37 F28 (Or.inl ne3)
 have F40 := Fld.other W37 F29 (Or.inl ne3)
 have F41 := Fld.other W37 F30 (Or.inl ne3)
 have F42 := Fld.other W37 F31 (Or.inl ne3)
 have F43 := Fld.other W37 F32 (Or.inl ne3)
 have F44 := Fld.other W37 F33 (Or.inl ne3)
 have Z45 := Nat.le_trans Z34 (Keep.of_wr W37).1
 have K46 := Keep.wr K35 W37 (Or.inr sz5)
 show OwnWk _ _ _ _ (T37.setTop (mkF m 71 #[vR a, vI (4 : Int32), vR ls, vJ st1_, sX, vI (1 : Int32), vJ zb1_, sX] []))
 refine own_go (fun tgt kst => XS.iinc X37.here hx rfl (hb hby (dB14 42)) rfl (l' := #[vR a, vI (4 : Int32), vR ls, vJ st1_, sX, vI (2 : Int32), vJ zb1_, sX]) rfl kst) ?_
 refine own_go (fun tgt kst => XS.goto X37.here hx rfl (pc0 := 74) (pc' := 18) rfl (hb hby (dB14 43)) (by decide) (by decide) kst) ?_
 refine own_go (fun tgt kst => XS.iload X37.here hx rfl (hb hby (dB14 10)) rfl  kst) ?_
 refine own_go (fun tgt kst => XS.iloadN X37.here hx rfl (hb hby (dB14 11)) rfl  kst) ?_
 refine own_go (fun tgt kst => XS.icmpNo X37.here hx rfl (hb hby (dB14 12)) rfl (tlt (by decide : (2 : Int32) < (4 : Int32))).2.1 kst) ?_
 refine own_go (fun tgt kst => XS.lloadN X37.here hx rfl (hb hby (dB14 13)) rfl  kst) ?_
 show OwnWk _ _ _ _ (T37.setTop (mkF m 25 #[vR a, vI (4 : Int32), vR ls, vJ st1_, sX, vI (2 : Int32), vJ zb1_, sX] [(.long st1_)]))
 refine own_go (X37.ldc2Long hx hown (mvT hZ (wq hw 94 rfl)) (g := (mkF m 25 #[vR a, vI (4 : Int32), vR ls, vJ st1_, sX, vI (2 : Int32), vJ zb1_, sX] [(.long st1_)])) rfl (hb hby (dB14 14))) ?_
 refine own_go (fun tgt kst => XS.ladd X37.here hx rfl (hb hby (dB14 15)) rfl kst) ?_
 show OwnWk _ _ _ _ (T37.setTop (mkF m 29 #[vR a, vI (4 : Int32), vR ls, vJ st1_, sX, vI (2 : Int32), vJ zb1_, sX] [(.long (st1_ + (-7046029254386353131 : Int64)))]))
 obtain ⟨st2_, h_st2_⟩ : ∃ z : Int64, z = (st1_ + (-7046029254386353131 : Int64)) := ⟨_, rfl⟩
 rw [← h_st2_]
 refine own_go (fun tgt kst => XS.lstoreN X37.here hx rfl (hb hby (dB14 16)) rfl (l' := #[vR a, vI (4 : Int32), vR ls, vJ st2_, sX, vI (2 : Int32), vJ zb1_, sX]) rfl kst) ?_
 refine own_go (fun tgt kst => XS.lloadN X37.here hx rfl (hb hby (dB14 17)) rfl  kst) ?_
 refine own_go (fun tgt kst => XS.lloadN X37.here hx rfl (hb hby (dB14 18)) rfl  kst) ?_
 refine own_go (fun tgt kst => XS.bipush X37.here hx rfl (hb hby (dB14 19)) kst) ?_
 refine own_go (fun tgt kst => XS.lushr X37.here hx rfl (hb hby (dB14 20)) rfl kst) ?_
 refine own_go (fun tgt kst => XS.lxor X37.here hx rfl (hb hby (dB14 21)) rfl kst) ?_
 show OwnWk _ _ _ _ (T37.setTop (mkF m 36 #[vR a, vI (4 : Int32), vR ls, vJ st2_, sX, vI (2 : Int32), vJ zb1_, sX] [(.long (st2_ ^^^ ((st2_.toUInt64 >>> ((30 : Int32) &&& 0x3f).toInt64.toUInt64).toInt64)))]))
 refine own_go (X37.ldc2Long hx hown (mvT hZ (wq hw 95 rfl)) (g := (mkF m 36 #[vR a, vI (4 : Int32), vR ls, vJ st2_, sX, vI (2 : Int32), vJ zb1_, sX] [(.long (st2_ ^^^ ((st2_.toUInt64 >>> ((30 : Int32) &&& 0x3f).toInt64.toUInt64).toInt64)))])) rfl (hb hby (dB14 22))) ?_
 refine own_go (fun tgt kst => XS.lmul X37.here hx rfl (hb hby (dB14 23)) rfl kst) ?_
 show OwnWk _ _ _ _ (T37.setTop (mkF m 40 #[vR a, vI (4 : Int32), vR ls, vJ st2_, sX, vI (2 : Int32), vJ zb1_, sX] [(.long ((st2_ ^^^ ((st2_.toUInt64 >>> ((30 : Int32) &&& 0x3f).toInt64.toUInt64).toInt64)) * (-4658895280553007687 : Int64)))]))
 obtain ⟨za2_, h_za2_⟩ : ∃ z : Int64, z = ((st2_ ^^^ ((st2_.toUInt64 >>> ((30 : Int32) &&& 0x3f).toInt64.toUInt64).toInt64)) * (-4658895280553007687 : Int64)) := ⟨_, rfl⟩
 rw [← h_za2_]
 refine own_go (fun tgt kst => XS.lstore X37.here hx rfl (hb hby (dB14 24)) rfl (l' := #[vR a, vI (4 : Int32), vR ls, vJ st2_, sX, vI (2 : Int32), vJ za2_, sX]) rfl kst) ?_
 refine own_go (fun tgt kst => XS.lload X37.here hx rfl (hb hby (dB14 25)) rfl  kst) ?_
 refine own_go (fun tgt kst => XS.lload X37.here hx rfl (hb hby (dB14 26)) rfl  kst) ?_
 refine own_go (fun tgt kst => XS.bipush X37.here hx rfl (hb hby (dB14 27)) kst) ?_
 refine own_go (fun tgt kst => XS.lushr X37.here hx rfl (hb hby (dB14 28)) rfl kst) ?_
 refine own_go (fun tgt kst => XS.lxor X37.here hx rfl (hb hby (dB14 29)) rfl kst) ?_
 show OwnWk _ _ _ _ (T37.setTop (mkF m 50 #[vR a, vI (4 : Int32), vR ls, vJ st2_, sX, vI (2 : Int32), vJ za2_, sX] [(.long (za2_ ^^^ ((za2_.toUInt64 >>> ((27 : Int32) &&& 0x3f).toInt64.toUInt64).toInt64)))]))
 refine own_go (X37.ldc2Long hx hown (mvT hZ (wq hw 96 rfl)) (g := (mkF m 50 #[vR a, vI (4 : Int32), vR ls, vJ st2_, sX, vI (2 : Int32), vJ za2_, sX] [(.long (za2_ ^^^ ((za2_.toUInt64 >>> ((27 : Int32) &&& 0x3f).toInt64.toUInt64).toInt64)))])) rfl (hb hby (dB14 30))) ?_
 refine own_go (fun tgt kst => XS.lmul X37.here hx rfl (hb hby (dB14 31)) rfl kst) ?_
 show OwnWk _ _ _ _ (T37.setTop (mkF m 54 #[vR a, vI (4 : Int32), vR ls, vJ st2_, sX, vI (2 : Int32), vJ za2_, sX] [(.long ((za2_ ^^^ ((za2_.toUInt64 >>> ((27 : Int32) &&& 0x3f).toInt64.toUInt64).toInt64)) * (-7723592293110705685 : Int64)))]))
 obtain ⟨zb2_, h_zb2_⟩ : ∃ z : Int64, z = ((za2_ ^^^ ((za2_.toUInt64 >>> ((27 : Int32) &&& 0x3f).toInt64.toUInt64).toInt64)) * (-7723592293110705685 : Int64)) := ⟨_, rfl⟩
 rw [← h_zb2_]
 refine own_go (fun tgt kst => XS.lstore X37.here hx rfl (hb hby (dB14 32)) rfl (l' := #[vR a, vI (4 : Int32), vR ls, vJ st2_, sX, vI (2 : Int32), vJ zb2_, sX]) rfl kst) ?_
 refine own_go (fun tgt kst => XS.aloadN X37.here hx rfl (hb hby (dB14 33)) rfl rfl  kst) ?_
 refine own_gF X37 hx hZ hown (wq hw 91 rfl) Via.refl e37 F44 rfl rfl (hb hby (dB14 34)) fun T47 X47 e47 => ?_
 refine own_go (fun tgt kst => XS.iload X47.here hx rfl (hb hby (dB14 35)) rfl  kst) ?_
 refine own_go (fun tgt kst => XS.lload X47.here hx rfl (hb hby (dB14 36)) rfl  kst) ?_
 refine own_go (fun tgt kst => XS.lload X47.here hx rfl (hb hby (dB14 37)) rfl  kst) ?_
 refine own_go (fun tgt kst => XS.bipush X47.here hx rfl (hb hby (dB14 38)) kst) ?_
 refine own_go (fun tgt kst => XS.lushr X47.here hx rfl (hb hby (dB14 39)) rfl kst) ?_
 show OwnWk _ _ _ _ (T47.setTop (mkF m 69 #[vR a, vI (4 : Int32), vR ls, vJ st2_, sX, vI (2 : Int32), vJ zb2_, sX] [(.long ((zb2_.toUInt64 >>> ((31 : Int32) &&& 0x3f).toInt64.toUInt64).toInt64)), (.long zb2_), (.int (2 : Int32)), (.ref b2)]))
 refine own_go (fun tgt kst => XS.lxor X47.here hx rfl (hb hby (dB14 40)) rfl kst) ?_
 show OwnWk _ _ _ _ (T47.setTop (mkF m 70 #[vR a, vI (4 : Int32), vR ls, vJ st2_, sX, vI (2 : Int32), vJ zb2_, sX] [(.long (zb2_ ^^^ ((zb2_.toUInt64 >>> ((31 : Int32) &&& 0x3f).toInt64.toUInt64).toInt64))), (.int (2 : Int32)), (.ref b2)]))
 obtain ⟨k2, h_k2⟩ : ∃ z : Int64, z = (zb2_ ^^^ ((zb2_.toUInt64 >>> ((31 : Int32) &&& 0x3f).toInt64.toUInt64).toInt64)) := ⟨_, rfl⟩
 rw [← h_k2]
 refine own_stJ X47 hx hZ e47 V37 rfl rfl (hb hby (dB14 41)) (by decide) (Nat.le_of_ble_eq_true rfl) (fun T48 h48 X48 e48 W48 V48 => ?_)
 have N48 := Fr.snoc X48 N37 ge4
 have F49 := Exa.wr W48 F38
 have F50 := Fld.other W48 F39 (Or.inl ne3)
 have F51 := Fld.other W48 F40 (Or.inl ne3)
 have F52 := Fld.other W48 F41 (Or.inl ne3)
 have F53 := Fld.other W48 F42 (Or.inl ne3)
 have F54 := Fld.other W48 F43 (Or.inl ne3)
 have F55 := Fld.other W48 F44 (Or.inl ne3)
 have Z56 := Nat.le_trans Z45 (Keep.of_wr W48).1
 have K57 := Keep.wr K46 W48 (Or.inr sz5)
 show OwnWk _ _ _ _ (T48.setTop (mkF m 71 #[vR a, vI (4 : Int32), vR ls, vJ st2_, sX, vI (2 : Int32), vJ zb2_, sX] []))
 refine own_go (fun tgt kst => XS.iinc X48.here hx rfl (hb hby (dB14 42)) rfl (l' := #[vR a, vI (4 : Int32), vR ls, vJ st2_, sX, vI (3 : Int32), vJ zb2_, sX]) rfl kst) ?_
 refine own_go (fun tgt kst => XS.goto X48.here hx rfl (pc0 := 74) (pc' := 18) rfl (hb hby (dB14 43)) (by decide) (by decide) kst) ?_
 refine own_go (fun tgt kst => XS.iload X48.here hx rfl (hb hby (dB14 10)) rfl  kst) ?_
 refine own_go (fun tgt kst => XS.iloadN X48.here hx rfl (hb hby (dB14 11)) rfl  kst) ?_
 refine own_go (fun tgt kst => XS.icmpNo X48.here hx rfl (hb hby (dB14 12)) rfl (tlt (by decide : (3 : Int32) < (4 : Int32))).2.1 kst) ?_
 refine own_go (fun tgt kst => XS.lloadN X48.here hx rfl (hb hby (dB14 13)) rfl  kst) ?_
 show OwnWk _ _ _ _ (T48.setTop (mkF m 25 #[vR a, vI (4 : Int32), vR ls, vJ st2_, sX, vI (3 : Int32), vJ zb2_, sX] [(.long st2_)]))
 refine own_go (X48.ldc2Long hx hown (mvT hZ (wq hw 94 rfl)) (g := (mkF m 25 #[vR a, vI (4 : Int32), vR ls, vJ st2_, sX, vI (3 : Int32), vJ zb2_, sX] [(.long st2_)])) rfl (hb hby (dB14 14))) ?_
 refine own_go (fun tgt kst => XS.ladd X48.here hx rfl (hb hby (dB14 15)) rfl kst) ?_
 show OwnWk _ _ _ _ (T48.setTop (mkF m 29 #[vR a, vI (4 : Int32), vR ls, vJ st2_, sX, vI (3 : Int32), vJ zb2_, sX] [(.long (st2_ + (-7046029254386353131 : Int64)))]))
 obtain ⟨st3_, h_st3_⟩ : ∃ z : Int64, z = (st2_ + (-7046029254386353131 : Int64)) := ⟨_, rfl⟩
 rw [← h_st3_]
 refine own_go (fun tgt kst => XS.lstoreN X48.here hx rfl (hb hby (dB14 16)) rfl (l' := #[vR a, vI (4 : Int32), vR ls, vJ st3_, sX, vI (3 : Int32), vJ zb2_, sX]) rfl kst) ?_
 refine own_go (fun tgt kst => XS.lloadN X48.here hx rfl (hb hby (dB14 17)) rfl  kst) ?_
 refine own_go (fun tgt kst => XS.lloadN X48.here hx rfl (hb hby (dB14 18)) rfl  kst) ?_
 refine own_go (fun tgt kst => XS.bipush X48.here hx rfl (hb hby (dB14 19)) kst) ?_
 refine own_go (fun tgt kst => XS.lushr X48.here hx rfl (hb hby (dB14 20)) rfl kst) ?_
 refine own_go (fun tgt kst => XS.lxor X48.here hx rfl (hb hby (dB14 21)) rfl kst) ?_
 show OwnWk _ _ _ _ (T48.setTop (mkF m 36 #[vR a, vI (4 : Int32), vR ls, vJ st3_, sX, vI (3 : Int32), vJ zb2_, sX] [(.long (st3_ ^^^ ((st3_.toUInt64 >>> ((30 : Int32) &&& 0x3f).toInt64.toUInt64).toInt64)))]))
 refine own_go (X48.ldc2Long hx hown (mvT hZ (wq hw 95 rfl)) (g := (mkF m 36 #[vR a, vI (4 : Int32), vR ls, vJ st3_, sX, vI (3 : Int32), vJ zb2_, sX] [(.long (st3_ ^^^ ((st3_.toUInt64 >>> ((30 : Int32) &&& 0x3f).toInt64.toUInt64).toInt64)))])) rfl (hb hby (dB14 22))) ?_
 refine own_go (fun tgt kst => XS.lmul X48.here hx rfl (hb hby (dB14 23)) rfl kst) ?_
 show OwnWk _ _ _ _ (T48.setTop (mkF m 40 #[vR a, vI (4 : Int32), vR ls, vJ st3_, sX, vI (3 : Int32), vJ zb2_, sX] [(.long ((st3_ ^^^ ((st3_.toUInt64 >>> ((30 : Int32) &&& 0x3f).toInt64.toUInt64).toInt64)) * (-4658895280553007687 : Int64)))]))
 obtain ⟨za3_, h_za3_⟩ : ∃ z : Int64, z = ((st3_ ^^^ ((st3_.toUInt64 >>> ((30 : Int32) &&& 0x3f).toInt64.toUInt64).toInt64)) * (-4658895280553007687 : Int64)) := ⟨_, rfl⟩
 rw [← h_za3_]
 refine own_go (fun tgt kst => XS.lstore X48.here hx rfl (hb hby (dB14 24)) rfl (l' := #[vR a, vI (4 : Int32), vR ls, vJ st3_, sX, vI (3 : Int32), vJ za3_, sX]) rfl kst) ?_
 refine own_go (fun tgt kst => XS.lload X48.here hx rfl (hb hby (dB14 25)) rfl  kst) ?_
 refine own_go (fun tgt kst => XS.lload X48.here hx rfl (hb hby (dB14 26)) rfl  kst) ?_
 refine own_go (fun tgt kst => XS.bipush X48.here hx rfl (hb hby (dB14 27)) kst) ?_
 refine own_go (fun tgt kst => XS.lushr X48.here hx rfl (hb hby (dB14 28)) rfl kst) ?_
 refine own_go (fun tgt kst => XS.lxor X48.here hx rfl (hb hby (dB14 29)) rfl kst) ?_
 show OwnWk _ _ _ _ (T48.setTop (mkF m 50 #[vR a, vI (4 : Int32), vR ls, vJ st3_, sX, vI (3 : Int32), vJ za3_, sX] [(.long (za3_ ^^^ ((za3_.toUInt64 >>> ((27 : Int32) &&& 0x3f).toInt64.toUInt64).toInt64)))]))
 refine own_go (X48.ldc2Long hx hown (mvT hZ (wq hw 96 rfl)) (g := (mkF m 50 #[vR a, vI (4 : Int32), vR ls, vJ st3_, sX, vI (3 : Int32), vJ za3_, sX] [(.long (za3_ ^^^ ((za3_.toUInt64 >>> ((27 : Int32) &&& 0x3f).toInt64.toUInt64).toInt64)))])) rfl (hb hby (dB14 30))) ?_
 refine own_go (fun tgt kst => XS.lmul X48.here hx rfl (hb hby (dB14 31)) rfl kst) ?_
 show OwnWk _ _ _ _ (T48.setTop (mkF m 54 #[vR a, vI (4 : Int32), vR ls, vJ st3_, sX, vI (3 : Int32), vJ za3_, sX] [(.long ((za3_ ^^^ ((za3_.toUInt64 >>> ((27 : Int32) &&& 0x3f).toInt64.toUInt64).toInt64)) * (-7723592293110705685 : Int64)))]))
 obtain ⟨zb3_, h_zb3_⟩ : ∃ z : Int64, z = ((za3_ ^^^ ((za3_.toUInt64 >>> ((27 : Int32) &&& 0x3f).toInt64.toUInt64).toInt64)) * (-7723592293110705685 : Int64)) := ⟨_, rfl⟩
 rw [← h_zb3_]
 refine own_go (fun tgt kst => XS.lstore X48.here hx rfl (hb hby (dB14 32)) rfl (l' := #[vR a, vI (4 : Int32), vR ls, vJ st3_, sX, vI (3 : Int32), vJ zb3_, sX]) rfl kst) ?_
 refine own_go (fun tgt kst => XS.aloadN X48.here hx rfl (hb hby (dB14 33)) rfl rfl  kst) ?_
 refine own_gF X48 hx hZ hown (wq hw 91 rfl) Via.refl e48 F55 rfl rfl (hb hby (dB14 34)) fun T58 X58 e58 => ?_
 refine own_go (fun tgt kst => XS.iload X58.here hx rfl (hb hby (dB14 35)) rfl  kst) ?_
 refine own_go (fun tgt kst => XS.lload X58.here hx rfl (hb hby (dB14 36)) rfl  kst) ?_
 refine own_go (fun tgt kst => XS.lload X58.here hx rfl (hb hby (dB14 37)) rfl  kst) ?_
 refine own_go (fun tgt kst => XS.bipush X58.here hx rfl (hb hby (dB14 38)) kst) ?_
 refine own_go (fun tgt kst => XS.lushr X58.here hx rfl (hb hby (dB14 39)) rfl kst) ?_
 show OwnWk _ _ _ _ (T58.setTop (mkF m 69 #[vR a, vI (4 : Int32), vR ls, vJ st3_, sX, vI (3 : Int32), vJ zb3_, sX] [(.long ((zb3_.toUInt64 >>> ((31 : Int32) &&& 0x3f).toInt64.toUInt64).toInt64)), (.long zb3_), (.int (3 : Int32)), (.ref b2)]))
 refine own_go (fun tgt kst => XS.lxor X58.here hx rfl (hb hby (dB14 40)) rfl kst) ?_
 show OwnWk _ _ _ _ (T58.setTop (mkF m 70 #[vR a, vI (4 : Int32), vR ls, vJ st3_, sX, vI (3 : Int32), vJ zb3_, sX] [(.long (zb3_ ^^^ ((zb3_.toUInt64 >>> ((31 : Int32) &&& 0x3f).toInt64.toUInt64).toInt64))), (.int (3 : Int32)), (.ref b2)]))
 obtain ⟨k3, h_k3⟩ : ∃ z : Int64, z = (zb3_ ^^^ ((zb3_.toUInt64 >>> ((31 : Int32) &&& 0x3f).toInt64.toUInt64).toInt64)) := ⟨_, rfl⟩
 rw [← h_k3]
 refine own_stJ X58 hx hZ e58 V48 rfl rfl (hb hby (dB14 41)) (by decide) (Nat.le_of_ble_eq_true rfl) (fun T59 h59 X59 e59 W59 V59 => ?_)
 have N59 := Fr.snoc X59 N48 ge4
 have F60 := Exa.wr W59 F49
 have F61 := Fld.other W59 F50 (Or.inl ne3)
 have F62 := Fld.other W59 F51 (Or.inl ne3)
 have F63 := Fld.other W59 F52 (Or.inl ne3)
 have F64 := Fld.other W59 F53 (Or.inl ne3)
 have F65 := Fld.other W59 F54 (Or.inl ne3)
 have F66 := Fld.other W59 F55 (Or.inl ne3)
 have Z67 := Nat.le_trans Z56 (Keep.of_wr W59).1
 have K68 := Keep.wr K57 W59 (Or.inr sz5)
 show OwnWk _ _ _ _ (T59.setTop (mkF m 71 #[vR a, vI (4 : Int32), vR ls, vJ st3_, sX, vI (3 : Int32), vJ zb3_, sX] []))
 refine own_go (fun tgt kst => XS.iinc X59.here hx rfl (hb hby (dB14 42)) rfl (l' := #[vR a, vI (4 : Int32), vR ls, vJ st3_, sX, vI (4 : Int32), vJ zb3_, sX]) rfl kst) ?_
 refine own_go (fun tgt kst => XS.goto X59.here hx rfl (pc0 := 74) (pc' := 18) rfl (hb hby (dB14 43)) (by decide) (by decide) kst) ?_
 refine own_go (fun tgt kst => XS.iload X59.here hx rfl (hb hby (dB14 10)) rfl  kst) ?_
 refine own_go (fun tgt kst => XS.iloadN X59.here hx rfl (hb hby (dB14 11)) rfl  kst) ?_
 refine own_go (fun tgt kst => XS.icmpYes X59.here hx rfl (pc0 := 21) (pc' := 77) rfl (hb hby (dB14 12)) rfl (flt (by decide : ¬ ((4 : Int32) < (4 : Int32)))).2.1 (by decide) (by decide) kst) ?_
 show OwnWk _ _ _ _ (T59.setTop (mkF m 77 #[vR a, vI (4 : Int32), vR ls, vJ st3_, sX, vI (4 : Int32), vJ zb3_, sX] []))
 exact K _ _ _ b2 k0 k1 k2 k3 _ _ X59 e59 N59 K68 sz5 F66 V59 F61 F62 F63 F64 F65
set_option maxRecDepth 65536 in
set_option maxHeartbeats 40000000 in
theorem zseg (l : Launch) (Z : State) (a0 : Array Value) (hw : ∀ d ∈ tables_1, d.before a0 Z = true) (dce : Addr) (a ls bs wa sa kk : Addr) (M zi : Nat) (k0 k1 k2 k3 stv : Int64) (vs : List Int64) {p : Program} {e : Env} {s : State} {m : MethodId} {below : List Frame} {meth : Method} {c : Code} {as_ : Array Value} {P : Option Value → State → List Loc → Prop} {T0 : State} {locs : List Loc} {cells slots : Nat} (h0 : Heap) (n0 : Nat) (Z0 : n0 ≤ h0.size) (O0 : Old Z n0 h0) (S_d : Sta Z Z.heap "java/util/ArrayList" "DEFAULTCAPACITY_EMPTY_ELEMENTDATA" "[Ljava/lang/Object;" (.ref dce)) (V_d : OAr Z Z.heap dce (.object "java/lang/Object") []) (S_a : Sta Z Z.heap "java/util/BitSet" "$assertionsDisabled" "Z" (.int (1 : Int32))) (pf0 : Exa Z h0 a "com/example/encircle/encircle/layout/ZoneKeys") (pf1 : Fld Z h0 a "com/example/encircle/encircle/layout/ZoneKeys" "sums" "[J" (.ref sa)) (pf2 : Fld Z h0 a "com/example/encircle/encircle/layout/ZoneKeys" "keys" "[J" (.ref kk)) (pf3 : OAr Z h0 kk .long [(.long k0), (.long k1), (.long k2), (.long k3)]) (pf4 : Exa Z h0 bs "java/util/BitSet") (pf5 : Fld Z h0 bs "java/util/BitSet" "words" "[J" (.ref wa)) (pf6 : Fld Z h0 bs "java/util/BitSet" "wordsInUse" "I" (.int (own_wu M))) (pf7 : OAr Z h0 wa .long [(.long (Int64.ofNat M))]) (pf8 : OAr Z h0 sa .long (own_jw (vs.set zi (0 : Int64)))) (dn0 : a ≠ sa) (dn1 : kk ≠ sa) (dn2 : bs ≠ sa) (dn3 : wa ≠ sa) (gn0 : n0 ≤ sa) (hM : M < 16) (hzi : zi < vs.length) (hz31 : zi < 2 ^ 31)
    (hx : p.tables.exec = Jvm.exec) (hby : c.code = prog_35_method_1_code) (hml : c.maxLocals = 8) (hown : s.vm.findClass "com/example/encircle/encircle/layout/ZoneKeys" = some m.cls) (hnm : meth.name = "<init>") (hZ : Z.Warmed39 s.vm) (hcl : cells ≤ ({ frames := 4, cells := 7, slots := 36, locals := 110 } : Room).cells) (hsl : slots ≤ ({ frames := 4, cells := 7, slots := 36, locals := 110 } : Room).slots) (X0 : Stand p l e ({ frames := 4, cells := 7, slots := 36, locals := 110 } : Room) s m as_ below meth c T0 locs cells slots) (e0 : T0.heap = h0) (N0 : Fr n0 locs)
    (K : ∀ (T' : State) (h' : Heap) (L' : List Loc), Stand p l e ({ frames := 4, cells := 7, slots := 36, locals := 110 } : Room) s m as_ below meth c T' L' cells slots → T'.heap = h' → Fr n0 L' → Keep h0 h' [sa] → OAr Z h' sa .long (own_jw (vs.set zi (own_sumM M k0 k1 k2 k3))) → OwnWk p e below P (T'.setTop (mkF m 171 #[vR a, vI (4 : Int32), vR ls, vJ stv, sX, vI (Int32.ofNat zi), vR bs, vI (-1 : Int32)] []))) : OwnWk p e below P (T0.setTop (mkF m 135 #[vR a, vI (4 : Int32), vR ls, vJ stv, sX, vI (Int32.ofNat zi), vR bs, vI (own_nsb M 0)] [])) := by
 have K0 := Keep.refl h0 [sa]
 show OwnWk _ _ _ _ (T0.setTop (mkF m 135 #[vR a, vI (4 : Int32), vR ls, vJ stv, sX, vI (Int32.ofNat zi), vR bs, vI (own_nsb M 0)] []))
 have Y4 : ∀ (T_ : State) (h_ : Heap) (L_ : List Loc), Stand p l e ({ frames := 4, cells := 7, slots := 36, locals := 110 } : Room) s m as_ below meth c T_ L_ cells slots → T_.heap = h_ → Fr n0 L_ → n0 ≤ h_.size → Keep h0 h_ [sa] → Old Z n0 h_ → Exa Z h_ a "com/example/encircle/encircle/layout/ZoneKeys" → Fld Z h_ a "com/example/encircle/encircle/layout/ZoneKeys" "sums" "[J" (.ref sa) → Fld Z h_ a "com/example/encircle/encircle/layout/ZoneKeys" "keys" "[J" (.ref kk) → OAr Z h_ kk .long [(.long k0), (.long k1), (.long k2), (.long k3)] → Exa Z h_ bs "java/util/BitSet" → Fld Z h_ bs "java/util/BitSet" "words" "[J" (.ref wa) → Fld Z h_ bs "java/util/BitSet" "wordsInUse" "I" (.int (own_wu M)) → OAr Z h_ wa .long [(.long (Int64.ofNat M))] → OAr Z h_ sa .long (own_jw (vs.set zi (own_sumM M k0 k1 k2 k3))) →
     OwnWk p e below P (T_.setTop (mkF m 135 #[vR a, vI (4 : Int32), vR ls, vJ stv, sX, vI (Int32.ofNat zi), vR bs, vI (own_nsb M 4)] [])) := by
  intro  T_1 h_1 L_1  X_1 e_1 N_1 Z_1 K_1 O_1 f_01 f_11 f_21 f_31 f_41 f_51 f_61 f_71 f_81
  show OwnWk _ _ _ _ (T_1.setTop (mkF m 135 #[vR a, vI (4 : Int32), vR ls, vJ stv, sX, vI (Int32.ofNat zi), vR bs, vI (own_nsb M 4)] []))
  rw [own_ns4 M hM]
  show OwnWk _ _ _ _ (T_1.setTop (mkF m 135 #[vR a, vI (4 : Int32), vR ls, vJ stv, sX, vI (Int32.ofNat zi), vR bs, vI (-1 : Int32)] []))
  refine own_go (fun tgt kst => XS.iload X_1.here hx rfl (hb hby (dB14 70)) rfl  kst) ?_
  refine own_go (fun tgt kst => XS.ifYes X_1.here hx rfl (pc0 := 137) (pc' := 171) rfl (hb hby (dB14 71)) rfl ((if0 _ _).trans (tlt (by decide : (-1 : Int32) < (0 : Int32))).1) (by decide) (by decide) kst) ?_
  show OwnWk _ _ _ _ (T_1.setTop (mkF m 171 #[vR a, vI (4 : Int32), vR ls, vJ stv, sX, vI (Int32.ofNat zi), vR bs, vI (-1 : Int32)] []))
  exact K _ _ _ X_1 e_1 N_1 K_1 f_81
 have Y3 : ∀ (T_ : State) (h_ : Heap) (L_ : List Loc), Stand p l e ({ frames := 4, cells := 7, slots := 36, locals := 110 } : Room) s m as_ below meth c T_ L_ cells slots → T_.heap = h_ → Fr n0 L_ → n0 ≤ h_.size → Keep h0 h_ [sa] → Old Z n0 h_ → Exa Z h_ a "com/example/encircle/encircle/layout/ZoneKeys" → Fld Z h_ a "com/example/encircle/encircle/layout/ZoneKeys" "sums" "[J" (.ref sa) → Fld Z h_ a "com/example/encircle/encircle/layout/ZoneKeys" "keys" "[J" (.ref kk) → OAr Z h_ kk .long [(.long k0), (.long k1), (.long k2), (.long k3)] → Exa Z h_ bs "java/util/BitSet" → Fld Z h_ bs "java/util/BitSet" "words" "[J" (.ref wa) → Fld Z h_ bs "java/util/BitSet" "wordsInUse" "I" (.int (own_wu M)) → OAr Z h_ wa .long [(.long (Int64.ofNat M))] → OAr Z h_ sa .long (own_jw (vs.set zi (own_s2 M k0 k1 k2))) →
     OwnWk p e below P (T_.setTop (mkF m 135 #[vR a, vI (4 : Int32), vR ls, vJ stv, sX, vI (Int32.ofNat zi), vR bs, vI (own_nsb M 3)] [])) := by
  intro  T_2 h_2 L_2  X_2 e_2 N_2 Z_2 K_2 O_2 f_02 f_12 f_22 f_32 f_42 f_52 f_62 f_72 f_82
  show OwnWk _ _ _ _ (T_2.setTop (mkF m 135 #[vR a, vI (4 : Int32), vR ls, vJ stv, sX, vI (Int32.ofNat zi), vR bs, vI (own_nsb M 3)] []))
  by_cases hb3 : ((Int32.ofNat M) &&& (8 : Int32)) = (0 : Int32)
  ·
   rw [own_nsn M hM 3 (by decide) hb3]
   show OwnWk _ _ _ _ (T_2.setTop (mkF m 135 #[vR a, vI (4 : Int32), vR ls, vJ stv, sX, vI (Int32.ofNat zi), vR bs, vI (own_nsb M 4)] []))
   have Vz3 : OAr Z h_2 sa .long (own_jw (vs.set zi (own_sumM M k0 k1 k2 k3))) := (show (own_s2 M k0 k1 k2) = (own_sumM M k0 k1 k2 k3) from (if_pos hb3).symm) ▸ f_82
   exact Y4  _ _ _  X_2 e_2 N_2 Z_2 K_2 O_2 f_02 f_12 f_22 f_32 f_42 f_52 f_62 f_72 Vz3
  ·
   rw [own_nsy M hM 3 (by decide) hb3]
   show OwnWk _ _ _ _ (T_2.setTop (mkF m 135 #[vR a, vI (4 : Int32), vR ls, vJ stv, sX, vI (Int32.ofNat zi), vR bs, vI (3 : Int32)] []))
   refine own_go (fun tgt kst => XS.iload X_2.here hx rfl (hb hby (dB14 70)) rfl  kst) ?_
   refine own_go (fun tgt kst => XS.ifNo X_2.here hx rfl (hb hby (dB14 71)) rfl ((if0 _ _).trans (flt (by decide : ¬ ((3 : Int32) < (0 : Int32)))).1) kst) ?_
   refine own_go (fun tgt kst => XS.aloadN X_2.here hx rfl (hb hby (dB14 72)) rfl rfl  kst) ?_
   refine own_gF X_2 hx hZ hown (wq hw 106 rfl) Via.refl e_2 f_12 rfl rfl (hb hby (dB14 73)) fun T4 X4 e4 => ?_
   refine own_go (fun tgt kst => XS.iload X4.here hx rfl (hb hby (dB14 74)) rfl  kst) ?_
   refine own_go (fun tgt kst => Jvm.Free.XT.dup2 X4.here hx rfl (hb hby (dB14 75)) rfl rfl rfl kst) ?_
   refine own_ldJ X4 hx hZ e4 f_82 rfl rfl (hb hby (dB14 76)) (v := (.long (own_s2 M k0 k1 k2))) (own_n_nn (by have := hz31; omega)) (own_jz_at hzi hz31) ?_
   refine own_go (fun tgt kst => XS.aloadN X4.here hx rfl (hb hby (dB14 77)) rfl rfl  kst) ?_
   refine own_gF X4 hx hZ hown (wq hw 91 rfl) Via.refl e4 f_22 rfl rfl (hb hby (dB14 78)) fun T5 X5 e5 => ?_
   refine own_go (fun tgt kst => XS.iload X5.here hx rfl (hb hby (dB14 79)) rfl  kst) ?_
   refine own_ldJ X5 hx hZ e5 f_32 rfl rfl (hb hby (dB14 80)) (v := (.long k3)) (by decide) rfl ?_
   refine own_go (fun tgt kst => XS.lxor X5.here hx rfl (hb hby (dB14 81)) rfl kst) ?_
   refine own_stJ X5 hx hZ e5 f_82 rfl rfl (hb hby (dB14 82)) (own_n_nn (by have := hz31; omega)) (own_jz_in hzi hz31) (fun T6 h6 X6 e6 W6 V6 => ?_)
   have V6b : OAr Z h6 sa .long (own_jw (vs.set zi ((own_s2 M k0 k1 k2) ^^^ k3))) := by exact own_cast (own_jz_set hz31) V6
   have N6 := Fr.snoc X6 N_2 gn0
   have F7 := Exa.wr W6 f_02
   have F8 := Fld.other W6 f_12 (Or.inl dn0)
   have F9 := Fld.other W6 f_22 (Or.inl dn0)
   have F10 := OAr.other f_32 W6 dn1
   have F11 := Exa.wr W6 f_42
   have F12 := Fld.other W6 f_52 (Or.inl dn2)
   have F13 := Fld.other W6 f_62 (Or.inl dn2)
   have F14 := OAr.other f_72 W6 dn3
   have F15 := Old.wr O_2 W6 gn0
   have Z16 := Nat.le_trans Z_2 (Keep.of_wr W6).1
   have K17 := Keep.wr K_2 W6 (Or.inl (List.mem_of_getElem? (i := 0) rfl))
   refine own_go (fun tgt kst => XS.aload X6.here hx rfl (hb hby (dB14 83)) rfl rfl  kst) ?_
   show OwnWk _ _ _ _ (T6.setTop (mkF m 159 #[vR a, vI (4 : Int32), vR ls, vJ stv, sX, vI (Int32.ofNat zi), vR bs, vI (3 : Int32)] [(.ref bs)]))
   refine own_go (fun tgt kst => XS.iload X6.here hx rfl (hb hby (dB14 84)) rfl  kst) ?_
   refine own_go (fun tgt kst => XS.iconst X6.here hx rfl (hb hby (dB14 85)) kst) ?_
   refine own_go (fun tgt kst => XS.iadd X6.here hx rfl (hb hby (dB14 86)) rfl kst) ?_
   show OwnWk _ _ _ _ (T6.setTop (mkF m 163 #[vR a, vI (4 : Int32), vR ls, vJ stv, sX, vI (Int32.ofNat zi), vR bs, vI (3 : Int32)] [(.int (4 : Int32)), (.ref bs)]))
   show OwnWk _ _ _ _ (T6.setTop (mkF m 163 #[vR a, vI (4 : Int32), vR ls, vJ stv, sX, vI (Int32.ofNat zi), vR bs, vI (3 : Int32)] [(.int (Int32.ofNat 4)), (.ref bs)]))
   refine own_callV X6 hx hZ (y := yN20) (z := yN20) hown (wq hw 134 rfl) (wq hw 135 rfl) (notFace_of_selects (args := #[]) (mvT hZ (wq hw 137 rfl))) (wq hw 137 rfl) (wq hw 136 rfl) (wq hw 7 rfl) (wq hw 138 rfl) (by decide) (a := bs) F11 (argsL := [(.int (Int32.ofNat 4))]) (rest := [])  (h := h6) (nsb l Z a0 hw dce bs wa M 4 h6 n0 Z16 F15 S_d V_d S_a F11 F12 F13 F14 hM (by decide)) e6 (W := 0) (by decide) (by decide) hcl hsl rfl (by rw [hml]; rfl) (lenOf pd_0 rfl) rfl (by show 2 * 0 + _ ≤ _; exact Nat.le_of_eq rfl) (hb hby (dB14 87)) (fun v18 T18 h18 L18 X18 e18 hQ18 => ?_)
   obtain ⟨rfl, Nq18, q18⟩ := hQ18
   have N18 := Fr.app N6 Nq18
   rw [q18] at e18
   show OwnWk _ _ _ _ (T18.setTop (mkF m 166 #[vR a, vI (4 : Int32), vR ls, vJ stv, sX, vI (Int32.ofNat zi), vR bs, vI (3 : Int32)] [(.int (own_nsb M 4))]))
   refine own_go (fun tgt kst => XS.istore X18.here hx rfl (hb hby (dB14 88)) rfl (l' := #[vR a, vI (4 : Int32), vR ls, vJ stv, sX, vI (Int32.ofNat zi), vR bs, vI (own_nsb M 4)]) rfl kst) ?_
   show OwnWk _ _ _ _ (T18.setTop (mkF m 168 #[vR a, vI (4 : Int32), vR ls, vJ stv, sX, vI (Int32.ofNat zi), vR bs, vI (own_nsb M 4)] []))
   refine own_go (fun tgt kst => XS.goto X18.here hx rfl (pc0 := 168) (pc' := 135) rfl (hb hby (dB14 89)) (by decide) (by decide) kst) ?_
   show OwnWk _ _ _ _ (T18.setTop (mkF m 135 #[vR a, vI (4 : Int32), vR ls, vJ stv, sX, vI (Int32.ofNat zi), vR bs, vI (own_nsb M 4)] []))
   have Vz19 : OAr Z h6 sa .long (own_jw (vs.set zi (own_sumM M k0 k1 k2 k3))) := (show ((own_s2 M k0 k1 k2) ^^^ k3) = (own_sumM M k0 k1 k2 k3) from (if_neg hb3).symm) ▸ V6b
   exact Y4  _ _ _  X18 e18 N18 Z16 K17 F15 F7 F8 F9 F10 F11 F12 F13 F14 Vz19
 have Y2 : ∀ (T_ : State) (h_ : Heap) (L_ : List Loc), Stand p l e ({ frames := 4, cells := 7, slots := 36, locals := 110 } : Room) s m as_ below meth c T_ L_ cells slots → T_.heap = h_ → Fr n0 L_ → n0 ≤ h_.size → Keep h0 h_ [sa] → Old Z n0 h_ → Exa Z h_ a "com/example/encircle/encircle/layout/ZoneKeys" → Fld Z h_ a "com/example/encircle/encircle/layout/ZoneKeys" "sums" "[J" (.ref sa) → Fld Z h_ a "com/example/encircle/encircle/layout/ZoneKeys" "keys" "[J" (.ref kk) → OAr Z h_ kk .long [(.long k0), (.long k1), (.long k2), (.long k3)] → Exa Z h_ bs "java/util/BitSet" → Fld Z h_ bs "java/util/BitSet" "words" "[J" (.ref wa) → Fld Z h_ bs "java/util/BitSet" "wordsInUse" "I" (.int (own_wu M)) → OAr Z h_ wa .long [(.long (Int64.ofNat M))] → OAr Z h_ sa .long (own_jw (vs.set zi (own_s1 M k0 k1))) →
     OwnWk p e below P (T_.setTop (mkF m 135 #[vR a, vI (4 : Int32), vR ls, vJ stv, sX, vI (Int32.ofNat zi), vR bs, vI (own_nsb M 2)] [])) := by
  intro  T_20 h_20 L_20  X_20 e_20 N_20 Z_20 K_20 O_20 f_020 f_120 f_220 f_320 f_420 f_520 f_620 f_720 f_820
  show OwnWk _ _ _ _ (T_20.setTop (mkF m 135 #[vR a, vI (4 : Int32), vR ls, vJ stv, sX, vI (Int32.ofNat zi), vR bs, vI (own_nsb M 2)] []))
  by_cases hb2 : ((Int32.ofNat M) &&& (4 : Int32)) = (0 : Int32)
  ·
   rw [own_nsn M hM 2 (by decide) hb2]
   show OwnWk _ _ _ _ (T_20.setTop (mkF m 135 #[vR a, vI (4 : Int32), vR ls, vJ stv, sX, vI (Int32.ofNat zi), vR bs, vI (own_nsb M 3)] []))
   have Vz21 : OAr Z h_20 sa .long (own_jw (vs.set zi (own_s2 M k0 k1 k2))) := (show (own_s1 M k0 k1) = (own_s2 M k0 k1 k2) from (if_pos hb2).symm) ▸ f_820
   exact Y3  _ _ _  X_20 e_20 N_20 Z_20 K_20 O_20 f_020 f_120 f_220 f_320 f_420 f_520 f_620 f_720 Vz21
  ·
   rw [own_nsy M hM 2 (by decide) hb2]
   show OwnWk _ _ _ _ (T_20.setTop (mkF m 135 #[vR a, vI (4 : Int32), vR ls, vJ stv, sX, vI (Int32.ofNat zi), vR bs, vI (2 : Int32)] []))
   refine own_go (fun tgt kst => XS.iload X_20.here hx rfl (hb hby (dB14 70)) rfl  kst) ?_
   refine own_go (fun tgt kst => XS.ifNo X_20.here hx rfl (hb hby (dB14 71)) rfl ((if0 _ _).trans (flt (by decide : ¬ ((2 : Int32) < (0 : Int32)))).1) kst) ?_
   refine own_go (fun tgt kst => XS.aloadN X_20.here hx rfl (hb hby (dB14 72)) rfl rfl  kst) ?_
   refine own_gF X_20 hx hZ hown (wq hw 106 rfl) Via.refl e_20 f_120 rfl rfl (hb hby (dB14 73)) fun T22 X22 e22 => ?_
   refine own_go (fun tgt kst => XS.iload X22.here hx rfl (hb hby (dB14 74)) rfl  kst) ?_
   refine own_go (fun tgt kst => Jvm.Free.XT.dup2 X22.here hx rfl (hb hby (dB14 75)) rfl rfl rfl kst) ?_
   refine own_ldJ X22 hx hZ e22 f_820 rfl rfl (hb hby (dB14 76)) (v := (.long (own_s1 M k0 k1))) (own_n_nn (by have := hz31; omega)) (own_jz_at hzi hz31) ?_
   refine own_go (fun tgt kst => XS.aloadN X22.here hx rfl (hb hby (dB14 77)) rfl rfl  kst) ?_
   refine own_gF X22 hx hZ hown (wq hw 91 rfl) Via.refl e22 f_220 rfl rfl (hb hby (dB14 78)) fun T23 X23 e23 => ?_
   refine own_go (fun tgt kst => XS.iload X23.here hx rfl (hb hby (dB14 79)) rfl  kst) ?_
   refine own_ldJ X23 hx hZ e23 f_320 rfl rfl (hb hby (dB14 80)) (v := (.long k2)) (by decide) rfl ?_
   refine own_go (fun tgt kst => XS.lxor X23.here hx rfl (hb hby (dB14 81)) rfl kst) ?_
   refine own_stJ X23 hx hZ e23 f_820 rfl rfl (hb hby (dB14 82)) (own_n_nn (by have := hz31; omega)) (own_jz_in hzi hz31) (fun T24 h24 X24 e24 W24 V24 => ?_)
   have V24b : OAr Z h24 sa .long (own_jw (vs.set zi ((own_s1 M k0 k1) ^^^ k2))) := by exact own_cast (own_jz_set hz31) V24
   have N24 := Fr.snoc X24 N_20 gn0
   have F25 := Exa.wr W24 f_020
   have F26 := Fld.other W24 f_120 (Or.inl dn0)
   have F27 := Fld.other W24 f_220 (Or.inl dn0)
   have F28 := OAr.other f_320 W24 dn1
   have F29 := Exa.wr W24 f_420
   have F30 := Fld.other W24 f_520 (Or.inl dn2)
   have F31 := Fld.other W24 f_620 (Or.inl dn2)
   have F32 := OAr.other f_720 W24 dn3
   have F33 := Old.wr O_20 W24 gn0
   have Z34 := Nat.le_trans Z_20 (Keep.of_wr W24).1
   have K35 := Keep.wr K_20 W24 (Or.inl (List.mem_of_getElem? (i := 0) rfl))
   refine own_go (fun tgt kst => XS.aload X24.here hx rfl (hb hby (dB14 83)) rfl rfl  kst) ?_
   show OwnWk _ _ _ _ (T24.setTop (mkF m 159 #[vR a, vI (4 : Int32), vR ls, vJ stv, sX, vI (Int32.ofNat zi), vR bs, vI (2 : Int32)] [(.ref bs)]))
   refine own_go (fun tgt kst => XS.iload X24.here hx rfl (hb hby (dB14 84)) rfl  kst) ?_
   refine own_go (fun tgt kst => XS.iconst X24.here hx rfl (hb hby (dB14 85)) kst) ?_
   refine own_go (fun tgt kst => XS.iadd X24.here hx rfl (hb hby (dB14 86)) rfl kst) ?_
   show OwnWk _ _ _ _ (T24.setTop (mkF m 163 #[vR a, vI (4 : Int32), vR ls, vJ stv, sX, vI (Int32.ofNat zi), vR bs, vI (2 : Int32)] [(.int (3 : Int32)), (.ref bs)]))
   show OwnWk _ _ _ _ (T24.setTop (mkF m 163 #[vR a, vI (4 : Int32), vR ls, vJ stv, sX, vI (Int32.ofNat zi), vR bs, vI (2 : Int32)] [(.int (Int32.ofNat 3)), (.ref bs)]))
   refine own_callV X24 hx hZ (y := yN20) (z := yN20) hown (wq hw 134 rfl) (wq hw 135 rfl) (notFace_of_selects (args := #[]) (mvT hZ (wq hw 137 rfl))) (wq hw 137 rfl) (wq hw 136 rfl) (wq hw 7 rfl) (wq hw 138 rfl) (by decide) (a := bs) F29 (argsL := [(.int (Int32.ofNat 3))]) (rest := [])  (h := h24) (nsb l Z a0 hw dce bs wa M 3 h24 n0 Z34 F33 S_d V_d S_a F29 F30 F31 F32 hM (by decide)) e24 (W := 0) (by decide) (by decide) hcl hsl rfl (by rw [hml]; rfl) (lenOf pd_0 rfl) rfl (by show 2 * 0 + _ ≤ _; exact Nat.le_of_eq rfl) (hb hby (dB14 87)) (fun v36 T36 h36 L36 X36 e36 hQ36 => ?_)
   obtain ⟨rfl, Nq36, q36⟩ := hQ36
   have N36 := Fr.app N24 Nq36
   rw [q36] at e36
   show OwnWk _ _ _ _ (T36.setTop (mkF m 166 #[vR a, vI (4 : Int32), vR ls, vJ stv, sX, vI (Int32.ofNat zi), vR bs, vI (2 : Int32)] [(.int (own_nsb M 3))]))
   refine own_go (fun tgt kst => XS.istore X36.here hx rfl (hb hby (dB14 88)) rfl (l' := #[vR a, vI (4 : Int32), vR ls, vJ stv, sX, vI (Int32.ofNat zi), vR bs, vI (own_nsb M 3)]) rfl kst) ?_
   show OwnWk _ _ _ _ (T36.setTop (mkF m 168 #[vR a, vI (4 : Int32), vR ls, vJ stv, sX, vI (Int32.ofNat zi), vR bs, vI (own_nsb M 3)] []))
   refine own_go (fun tgt kst => XS.goto X36.here hx rfl (pc0 := 168) (pc' := 135) rfl (hb hby (dB14 89)) (by decide) (by decide) kst) ?_
   show OwnWk _ _ _ _ (T36.setTop (mkF m 135 #[vR a, vI (4 : Int32), vR ls, vJ stv, sX, vI (Int32.ofNat zi), vR bs, vI (own_nsb M 3)] []))
   have Vz37 : OAr Z h24 sa .long (own_jw (vs.set zi (own_s2 M k0 k1 k2))) := (show ((own_s1 M k0 k1) ^^^ k2) = (own_s2 M k0 k1 k2) from (if_neg hb2).symm) ▸ V24b
   exact Y3  _ _ _  X36 e36 N36 Z34 K35 F33 F25 F26 F27 F28 F29 F30 F31 F32 Vz37
 have Y1 : ∀ (T_ : State) (h_ : Heap) (L_ : List Loc), Stand p l e ({ frames := 4, cells := 7, slots := 36, locals := 110 } : Room) s m as_ below meth c T_ L_ cells slots → T_.heap = h_ → Fr n0 L_ → n0 ≤ h_.size → Keep h0 h_ [sa] → Old Z n0 h_ → Exa Z h_ a "com/example/encircle/encircle/layout/ZoneKeys" → Fld Z h_ a "com/example/encircle/encircle/layout/ZoneKeys" "sums" "[J" (.ref sa) → Fld Z h_ a "com/example/encircle/encircle/layout/ZoneKeys" "keys" "[J" (.ref kk) → OAr Z h_ kk .long [(.long k0), (.long k1), (.long k2), (.long k3)] → Exa Z h_ bs "java/util/BitSet" → Fld Z h_ bs "java/util/BitSet" "words" "[J" (.ref wa) → Fld Z h_ bs "java/util/BitSet" "wordsInUse" "I" (.int (own_wu M)) → OAr Z h_ wa .long [(.long (Int64.ofNat M))] → OAr Z h_ sa .long (own_jw (vs.set zi (own_s0 M k0))) →
     OwnWk p e below P (T_.setTop (mkF m 135 #[vR a, vI (4 : Int32), vR ls, vJ stv, sX, vI (Int32.ofNat zi), vR bs, vI (own_nsb M 1)] [])) := by
  intro  T_38 h_38 L_38  X_38 e_38 N_38 Z_38 K_38 O_38 f_038 f_138 f_238 f_338 f_438 f_538 f_638 f_738 f_838
  show OwnWk _ _ _ _ (T_38.setTop (mkF m 135 #[vR a, vI (4 : Int32), vR ls, vJ stv, sX, vI (Int32.ofNat zi), vR bs, vI (own_nsb M 1)] []))
  by_cases hb1 : ((Int32.ofNat M) &&& (2 : Int32)) = (0 : Int32)
  ·
   rw [own_nsn M hM 1 (by decide) hb1]
   show OwnWk _ _ _ _ (T_38.setTop (mkF m 135 #[vR a, vI (4 : Int32), vR ls, vJ stv, sX, vI (Int32.ofNat zi), vR bs, vI (own_nsb M 2)] []))
   have Vz39 : OAr Z h_38 sa .long (own_jw (vs.set zi (own_s1 M k0 k1))) := (show (own_s0 M k0) = (own_s1 M k0 k1) from (if_pos hb1).symm) ▸ f_838
   exact Y2  _ _ _  X_38 e_38 N_38 Z_38 K_38 O_38 f_038 f_138 f_238 f_338 f_438 f_538 f_638 f_738 Vz39
  ·
   rw [own_nsy M hM 1 (by decide) hb1]
   show OwnWk _ _ _ _ (T_38.setTop (mkF m 135 #[vR a, vI (4 : Int32), vR ls, vJ stv, sX, vI (Int32.ofNat zi), vR bs, vI (1 : Int32)] []))
   refine own_go (fun tgt kst => XS.iload X_38.here hx rfl (hb hby (dB14 70)) rfl  kst) ?_
   refine own_go (fun tgt kst => XS.ifNo X_38.here hx rfl (hb hby (dB14 71)) rfl ((if0 _ _).trans (flt (by decide : ¬ ((1 : Int32) < (0 : Int32)))).1) kst) ?_
   refine own_go (fun tgt kst => XS.aloadN X_38.here hx rfl (hb hby (dB14 72)) rfl rfl  kst) ?_
   refine own_gF X_38 hx hZ hown (wq hw 106 rfl) Via.refl e_38 f_138 rfl rfl (hb hby (dB14 73)) fun T40 X40 e40 => ?_
   refine own_go (fun tgt kst => XS.iload X40.here hx rfl (hb hby (dB14 74)) rfl  kst) ?_
   refine own_go (fun tgt kst => Jvm.Free.XT.dup2 X40.here hx rfl (hb hby (dB14 75)) rfl rfl rfl kst) ?_
   refine own_ldJ X40 hx hZ e40 f_838 rfl rfl (hb hby (dB14 76)) (v := (.long (own_s0 M k0))) (own_n_nn (by have := hz31; omega)) (own_jz_at hzi hz31) ?_
   refine own_go (fun tgt kst => XS.aloadN X40.here hx rfl (hb hby (dB14 77)) rfl rfl  kst) ?_
   refine own_gF X40 hx hZ hown (wq hw 91 rfl) Via.refl e40 f_238 rfl rfl (hb hby (dB14 78)) fun T41 X41 e41 => ?_
   refine own_go (fun tgt kst => XS.iload X41.here hx rfl (hb hby (dB14 79)) rfl  kst) ?_
   refine own_ldJ X41 hx hZ e41 f_338 rfl rfl (hb hby (dB14 80)) (v := (.long k1)) (by decide) rfl ?_
   refine own_go (fun tgt kst => XS.lxor X41.here hx rfl (hb hby (dB14 81)) rfl kst) ?_
   refine own_stJ X41 hx hZ e41 f_838 rfl rfl (hb hby (dB14 82)) (own_n_nn (by have := hz31; omega)) (own_jz_in hzi hz31) (fun T42 h42 X42 e42 W42 V42 => ?_)
   have V42b : OAr Z h42 sa .long (own_jw (vs.set zi ((own_s0 M k0) ^^^ k1))) := by exact own_cast (own_jz_set hz31) V42
   have N42 := Fr.snoc X42 N_38 gn0
   have F43 := Exa.wr W42 f_038
   have F44 := Fld.other W42 f_138 (Or.inl dn0)
   have F45 := Fld.other W42 f_238 (Or.inl dn0)
   have F46 := OAr.other f_338 W42 dn1
   have F47 := Exa.wr W42 f_438
   have F48 := Fld.other W42 f_538 (Or.inl dn2)
   have F49 := Fld.other W42 f_638 (Or.inl dn2)
   have F50 := OAr.other f_738 W42 dn3
   have F51 := Old.wr O_38 W42 gn0
   have Z52 := Nat.le_trans Z_38 (Keep.of_wr W42).1
   have K53 := Keep.wr K_38 W42 (Or.inl (List.mem_of_getElem? (i := 0) rfl))
   refine own_go (fun tgt kst => XS.aload X42.here hx rfl (hb hby (dB14 83)) rfl rfl  kst) ?_
   show OwnWk _ _ _ _ (T42.setTop (mkF m 159 #[vR a, vI (4 : Int32), vR ls, vJ stv, sX, vI (Int32.ofNat zi), vR bs, vI (1 : Int32)] [(.ref bs)]))
   refine own_go (fun tgt kst => XS.iload X42.here hx rfl (hb hby (dB14 84)) rfl  kst) ?_
   refine own_go (fun tgt kst => XS.iconst X42.here hx rfl (hb hby (dB14 85)) kst) ?_
   refine own_go (fun tgt kst => XS.iadd X42.here hx rfl (hb hby (dB14 86)) rfl kst) ?_
   show OwnWk _ _ _ _ (T42.setTop (mkF m 163 #[vR a, vI (4 : Int32), vR ls, vJ stv, sX, vI (Int32.ofNat zi), vR bs, vI (1 : Int32)] [(.int (2 : Int32)), (.ref bs)]))
   show OwnWk _ _ _ _ (T42.setTop (mkF m 163 #[vR a, vI (4 : Int32), vR ls, vJ stv, sX, vI (Int32.ofNat zi), vR bs, vI (1 : Int32)] [(.int (Int32.ofNat 2)), (.ref bs)]))
   refine own_callV X42 hx hZ (y := yN20) (z := yN20) hown (wq hw 134 rfl) (wq hw 135 rfl) (notFace_of_selects (args := #[]) (mvT hZ (wq hw 137 rfl))) (wq hw 137 rfl) (wq hw 136 rfl) (wq hw 7 rfl) (wq hw 138 rfl) (by decide) (a := bs) F47 (argsL := [(.int (Int32.ofNat 2))]) (rest := [])  (h := h42) (nsb l Z a0 hw dce bs wa M 2 h42 n0 Z52 F51 S_d V_d S_a F47 F48 F49 F50 hM (by decide)) e42 (W := 0) (by decide) (by decide) hcl hsl rfl (by rw [hml]; rfl) (lenOf pd_0 rfl) rfl (by show 2 * 0 + _ ≤ _; exact Nat.le_of_eq rfl) (hb hby (dB14 87)) (fun v54 T54 h54 L54 X54 e54 hQ54 => ?_)
   obtain ⟨rfl, Nq54, q54⟩ := hQ54
   have N54 := Fr.app N42 Nq54
   rw [q54] at e54
   show OwnWk _ _ _ _ (T54.setTop (mkF m 166 #[vR a, vI (4 : Int32), vR ls, vJ stv, sX, vI (Int32.ofNat zi), vR bs, vI (1 : Int32)] [(.int (own_nsb M 2))]))
   refine own_go (fun tgt kst => XS.istore X54.here hx rfl (hb hby (dB14 88)) rfl (l' := #[vR a, vI (4 : Int32), vR ls, vJ stv, sX, vI (Int32.ofNat zi), vR bs, vI (own_nsb M 2)]) rfl kst) ?_
   show OwnWk _ _ _ _ (T54.setTop (mkF m 168 #[vR a, vI (4 : Int32), vR ls, vJ stv, sX, vI (Int32.ofNat zi), vR bs, vI (own_nsb M 2)] []))
   refine own_go (fun tgt kst => XS.goto X54.here hx rfl (pc0 := 168) (pc' := 135) rfl (hb hby (dB14 89)) (by decide) (by decide) kst) ?_
   show OwnWk _ _ _ _ (T54.setTop (mkF m 135 #[vR a, vI (4 : Int32), vR ls, vJ stv, sX, vI (Int32.ofNat zi), vR bs, vI (own_nsb M 2)] []))
   have Vz55 : OAr Z h42 sa .long (own_jw (vs.set zi (own_s1 M k0 k1))) := (show ((own_s0 M k0) ^^^ k1) = (own_s1 M k0 k1) from (if_neg hb1).symm) ▸ V42b
   exact Y2  _ _ _  X54 e54 N54 Z52 K53 F51 F43 F44 F45 F46 F47 F48 F49 F50 Vz55
 have Y0 : ∀ (T_ : State) (h_ : Heap) (L_ : List Loc), Stand p l e ({ frames := 4, cells := 7, slots := 36, locals := 110 } : Room) s m as_ below meth c T_ L_ cells slots → T_.heap = h_ → Fr n0 L_ → n0 ≤ h_.size → Keep h0 h_ [sa] → Old Z n0 h_ → Exa Z h_ a "com/example/encircle/encircle/layout/ZoneKeys" → Fld Z h_ a "com/example/encircle/encircle/layout/ZoneKeys" "sums" "[J" (.ref sa) → Fld Z h_ a "com/example/encircle/encircle/layout/ZoneKeys" "keys" "[J" (.ref kk) → OAr Z h_ kk .long [(.long k0), (.long k1), (.long k2), (.long k3)] → Exa Z h_ bs "java/util/BitSet" → Fld Z h_ bs "java/util/BitSet" "words" "[J" (.ref wa) → Fld Z h_ bs "java/util/BitSet" "wordsInUse" "I" (.int (own_wu M)) → OAr Z h_ wa .long [(.long (Int64.ofNat M))] → OAr Z h_ sa .long (own_jw (vs.set zi (0 : Int64))) →
     OwnWk p e below P (T_.setTop (mkF m 135 #[vR a, vI (4 : Int32), vR ls, vJ stv, sX, vI (Int32.ofNat zi), vR bs, vI (own_nsb M 0)] [])) := by
  intro  T_56 h_56 L_56  X_56 e_56 N_56 Z_56 K_56 O_56 f_056 f_156 f_256 f_356 f_456 f_556 f_656 f_756 f_856
  show OwnWk _ _ _ _ (T_56.setTop (mkF m 135 #[vR a, vI (4 : Int32), vR ls, vJ stv, sX, vI (Int32.ofNat zi), vR bs, vI (own_nsb M 0)] []))
  by_cases hb0 : ((Int32.ofNat M) &&& (1 : Int32)) = (0 : Int32)
  ·
   rw [own_nsn M hM 0 (by decide) hb0]
   show OwnWk _ _ _ _ (T_56.setTop (mkF m 135 #[vR a, vI (4 : Int32), vR ls, vJ stv, sX, vI (Int32.ofNat zi), vR bs, vI (own_nsb M 1)] []))
   have Vz57 : OAr Z h_56 sa .long (own_jw (vs.set zi (own_s0 M k0))) := (show (0 : Int64) = (own_s0 M k0) from (if_pos hb0).symm) ▸ f_856
   exact Y1  _ _ _  X_56 e_56 N_56 Z_56 K_56 O_56 f_056 f_156 f_256 f_356 f_456 f_556 f_656 f_756 Vz57
  ·
   rw [own_nsy M hM 0 (by decide) hb0]
   show OwnWk _ _ _ _ (T_56.setTop (mkF m 135 #[vR a, vI (4 : Int32), vR ls, vJ stv, sX, vI (Int32.ofNat zi), vR bs, vI (0 : Int32)] []))
   refine own_go (fun tgt kst => XS.iload X_56.here hx rfl (hb hby (dB14 70)) rfl  kst) ?_
   refine own_go (fun tgt kst => XS.ifNo X_56.here hx rfl (hb hby (dB14 71)) rfl ((if0 _ _).trans (flt (by decide : ¬ ((0 : Int32) < (0 : Int32)))).1) kst) ?_
   refine own_go (fun tgt kst => XS.aloadN X_56.here hx rfl (hb hby (dB14 72)) rfl rfl  kst) ?_
   refine own_gF X_56 hx hZ hown (wq hw 106 rfl) Via.refl e_56 f_156 rfl rfl (hb hby (dB14 73)) fun T58 X58 e58 => ?_
   refine own_go (fun tgt kst => XS.iload X58.here hx rfl (hb hby (dB14 74)) rfl  kst) ?_
   refine own_go (fun tgt kst => Jvm.Free.XT.dup2 X58.here hx rfl (hb hby (dB14 75)) rfl rfl rfl kst) ?_
   refine own_ldJ X58 hx hZ e58 f_856 rfl rfl (hb hby (dB14 76)) (v := (.long (0 : Int64))) (own_n_nn (by have := hz31; omega)) (own_jz_at hzi hz31) ?_
   refine own_go (fun tgt kst => XS.aloadN X58.here hx rfl (hb hby (dB14 77)) rfl rfl  kst) ?_
   refine own_gF X58 hx hZ hown (wq hw 91 rfl) Via.refl e58 f_256 rfl rfl (hb hby (dB14 78)) fun T59 X59 e59 => ?_
   refine own_go (fun tgt kst => XS.iload X59.here hx rfl (hb hby (dB14 79)) rfl  kst) ?_
   refine own_ldJ X59 hx hZ e59 f_356 rfl rfl (hb hby (dB14 80)) (v := (.long k0)) (by decide) rfl ?_
   refine own_go (fun tgt kst => XS.lxor X59.here hx rfl (hb hby (dB14 81)) rfl kst) ?_
   refine own_stJ X59 hx hZ e59 f_856 rfl rfl (hb hby (dB14 82)) (own_n_nn (by have := hz31; omega)) (own_jz_in hzi hz31) (fun T60 h60 X60 e60 W60 V60 => ?_)
   have V60b : OAr Z h60 sa .long (own_jw (vs.set zi ((0 : Int64) ^^^ k0))) := by exact own_cast (own_jz_set hz31) V60
   have N60 := Fr.snoc X60 N_56 gn0
   have F61 := Exa.wr W60 f_056
   have F62 := Fld.other W60 f_156 (Or.inl dn0)
   have F63 := Fld.other W60 f_256 (Or.inl dn0)
   have F64 := OAr.other f_356 W60 dn1
   have F65 := Exa.wr W60 f_456
   have F66 := Fld.other W60 f_556 (Or.inl dn2)
   have F67 := Fld.other W60 f_656 (Or.inl dn2)
   have F68 := OAr.other f_756 W60 dn3
   have F69 := Old.wr O_56 W60 gn0
   have Z70 := Nat.le_trans Z_56 (Keep.of_wr W60).1
   have K71 := Keep.wr K_56 W60 (Or.inl (List.mem_of_getElem? (i := 0) rfl))
   refine own_go (fun tgt kst => XS.aload X60.here hx rfl (hb hby (dB14 83)) rfl rfl  kst) ?_
   show OwnWk _ _ _ _ (T60.setTop (mkF m 159 #[vR a, vI (4 : Int32), vR ls, vJ stv, sX, vI (Int32.ofNat zi), vR bs, vI (0 : Int32)] [(.ref bs)]))
   refine own_go (fun tgt kst => XS.iload X60.here hx rfl (hb hby (dB14 84)) rfl  kst) ?_
   refine own_go (fun tgt kst => XS.iconst X60.here hx rfl (hb hby (dB14 85)) kst) ?_
   refine own_go (fun tgt kst => XS.iadd X60.here hx rfl (hb hby (dB14 86)) rfl kst) ?_
   show OwnWk _ _ _ _ (T60.setTop (mkF m 163 #[vR a, vI (4 : Int32), vR ls, vJ stv, sX, vI (Int32.ofNat zi), vR bs, vI (0 : Int32)] [(.int (1 : Int32)), (.ref bs)]))
   show OwnWk _ _ _ _ (T60.setTop (mkF m 163 #[vR a, vI (4 : Int32), vR ls, vJ stv, sX, vI (Int32.ofNat zi), vR bs, vI (0 : Int32)] [(.int (Int32.ofNat 1)), (.ref bs)]))
   refine own_callV X60 hx hZ (y := yN20) (z := yN20) hown (wq hw 134 rfl) (wq hw 135 rfl) (notFace_of_selects (args := #[]) (mvT hZ (wq hw 137 rfl))) (wq hw 137 rfl) (wq hw 136 rfl) (wq hw 7 rfl) (wq hw 138 rfl) (by decide) (a := bs) F65 (argsL := [(.int (Int32.ofNat 1))]) (rest := [])  (h := h60) (nsb l Z a0 hw dce bs wa M 1 h60 n0 Z70 F69 S_d V_d S_a F65 F66 F67 F68 hM (by decide)) e60 (W := 0) (by decide) (by decide) hcl hsl rfl (by rw [hml]; rfl) (lenOf pd_0 rfl) rfl (by show 2 * 0 + _ ≤ _; exact Nat.le_of_eq rfl) (hb hby (dB14 87)) (fun v72 T72 h72 L72 X72 e72 hQ72 => ?_)
   obtain ⟨rfl, Nq72, q72⟩ := hQ72
   have N72 := Fr.app N60 Nq72
   rw [q72] at e72
   show OwnWk _ _ _ _ (T72.setTop (mkF m 166 #[vR a, vI (4 : Int32), vR ls, vJ stv, sX, vI (Int32.ofNat zi), vR bs, vI (0 : Int32)] [(.int (own_nsb M 1))]))
   refine own_go (fun tgt kst => XS.istore X72.here hx rfl (hb hby (dB14 88)) rfl (l' := #[vR a, vI (4 : Int32), vR ls, vJ stv, sX, vI (Int32.ofNat zi), vR bs, vI (own_nsb M 1)]) rfl kst) ?_
   show OwnWk _ _ _ _ (T72.setTop (mkF m 168 #[vR a, vI (4 : Int32), vR ls, vJ stv, sX, vI (Int32.ofNat zi), vR bs, vI (own_nsb M 1)] []))
   refine own_go (fun tgt kst => XS.goto X72.here hx rfl (pc0 := 168) (pc' := 135) rfl (hb hby (dB14 89)) (by decide) (by decide) kst) ?_
   show OwnWk _ _ _ _ (T72.setTop (mkF m 135 #[vR a, vI (4 : Int32), vR ls, vJ stv, sX, vI (Int32.ofNat zi), vR bs, vI (own_nsb M 1)] []))
   have Vz73 : OAr Z h60 sa .long (own_jw (vs.set zi (own_s0 M k0))) := (show ((0 : Int64) ^^^ k0) = (own_s0 M k0) from (if_neg hb0).symm) ▸ V60b
   exact Y1  _ _ _  X72 e72 N72 Z70 K71 F69 F61 F62 F63 F64 F65 F66 F67 F68 Vz73
 show OwnWk _ _ _ _ (T0.setTop (mkF m 135 #[vR a, vI (4 : Int32), vR ls, vJ stv, sX, vI (Int32.ofNat zi), vR bs, vI (own_nsb M 0)] []))
 exact Y0  _ _ _  X0 e0 N0 Z0 K0 O0 pf0 pf1 pf2 pf3 pf4 pf5 pf6 pf7 pf8
theorem pn_pn_25 : plainName "java/util/Arrays" = true := by first | (simp [plainName, overriddenIn]; done) | decide +kernel
theorem pn_25 : plainFor yN25 = true := plainFor_of_name pn_pn_25
abbrev tB25 : List (Nat × Instr × Nat) := [(0, .iconst 0, 1), (1, .istore_n 2, 1), (2, .aload_n 0, 1), (3, .arraylength, 1), (4, .istore_n 3, 1), (5, .iload_n 2, 1), (6, .iload_n 3, 1), (7, .if_icmp .ge 13, 3), (10, .aload_n 0, 1), (11, .iload_n 2, 1), (12, .iload_n 1, 1), (13, .iastore, 1), (14, .iinc 2 1, 3), (17, .goto (-12), 3), (20, .return_, 1)]
theorem dB25 (k : Fin 15) : decode jdk_65_method_103_code (tB25.getD k (0, .nop, 1)).1 = .ok (tB25.getD k (0, .nop, 1)).2 := by revert k; decide +kernel
theorem ef_fil (m : MethodId) (x0 : Addr) (x1 : Int32) : entryFrame m #[(.ref x0), (.int x1)] 4 = mkF m 0 #[vR x0, vI x1, .unset, .unset] [] := by first | (simp [entryFrame, mkF, argsToLocals, Value.category]; done) | rfl
def Q_fil (Z : State) (aa : Addr) (ts : List Int32) (n : Nat) (h0 : Heap) (n0 : Nat) (v : Option Value) (h : Heap) (L : List Loc) : Prop := v = none ∧ Fr n0 L ∧ Keep h0 h [aa] ∧ ∃ tq : List Int32, tq.length = n ∧ OAr Z h aa .int (own_kw tq)
set_option maxRecDepth 65536 in
set_option maxHeartbeats 40000000 in
theorem fil (l : Launch) (Z : State) (a0 : Array Value) (hw : ∀ d ∈ tables_1, d.before a0 Z = true) (aa : Addr) (ts : List Int32) (n : Nat) (h0 : Heap) (n0 : Nat) (Z0 : n0 ≤ h0.size) (pf0 : OAr Z h0 aa .int (own_kw ts)) (gn0 : n0 ≤ aa) (hts : ts.length = n) (hn4 : n ≤ 4) :
    OwnMet l yN25 jdk_65_method_103_code 4 none [] ({ frames := 0, cells := 0, slots := 0, locals := 0 } : Room) Z #[(.ref aa), (.int (-1 : Int32))] h0 (Q_fil Z aa ts n h0 n0) := by
 refine own_met pn_25 (fun p e s m below meth c s₁ hx hby hml hown hnm hret hlk hZ X0 e0 => ?_)
 have hown : s.vm.findClass "java/util/Arrays" = some m.cls := hown
 have N0 := Fr.nil n0
 have K0 := Keep.refl h0 [aa]
 rw [ef_fil]
 show OwnWk _ _ _ _ (s₁.setTop (mkF m 0 #[vR aa, vI (-1 : Int32), uX, uX] []))
 refine own_go (fun tgt kst => XS.iconst X0.here hx rfl (hb hby (dB25 0)) kst) ?_
 refine own_go (fun tgt kst => XS.istoreN X0.here hx rfl (hb hby (dB25 1)) rfl (l' := #[vR aa, vI (-1 : Int32), vI (0 : Int32), uX]) rfl kst) ?_
 refine own_go (fun tgt kst => XS.aloadN X0.here hx rfl (hb hby (dB25 2)) rfl rfl  kst) ?_
 refine own_len X0 hx hZ e0 pf0 rfl rfl (hb hby (dB25 3)) (N := (Int32.ofNat n)) (own_kw_len hts) ?_
 refine own_go (fun tgt kst => XS.istoreN X0.here hx rfl (hb hby (dB25 4)) rfl (l' := #[vR aa, vI (-1 : Int32), vI (0 : Int32), vI (Int32.ofNat n)]) rfl kst) ?_
 show OwnWk _ _ _ _ (s₁.setTop (mkF m 5 #[vR aa, vI (-1 : Int32), vI (0 : Int32), vI (Int32.ofNat n)] []))
 have LP : ∀ (d : Nat) (i : Nat) (tr : List Int32) (T_ : State) (h_ : Heap) (L_ : List Loc), i + d = n → tr.length = n → Stand p l e ({ frames := 0, cells := 0, slots := 0, locals := 0 } : Room) s m #[(.ref aa), (.int (-1 : Int32))] below meth c T_ L_ 0 0 → T_.heap = h_ → Fr n0 L_ → n0 ≤ h_.size → Keep h0 h_ [aa] → OAr Z h_ aa .int (own_kw tr) →
     OwnWk p e below (OwnP s (Q_fil Z aa ts n h0 n0) ({ frames := 0, cells := 0, slots := 0, locals := 0 } : Room).cells ({ frames := 0, cells := 0, slots := 0, locals := 0 } : Room).slots) (T_.setTop (mkF m 5 #[vR aa, vI (-1 : Int32), vI (Int32.ofNat i), vI (Int32.ofNat n)] [])) := by
  intro d
  induction d with
  | zero =>
   intro i tr T_ h_ L_ hid htr X_ e_ N_ Z_ K_ f_0
   show OwnWk _ _ _ _ (T_.setTop (mkF m 5 #[vR aa, vI (-1 : Int32), vI (Int32.ofNat i), vI (Int32.ofNat n)] []))
   refine own_go (fun tgt kst => XS.iloadN X_.here hx rfl (hb hby (dB25 5)) rfl  kst) ?_
   refine own_go (fun tgt kst => XS.iloadN X_.here hx rfl (hb hby (dB25 6)) rfl  kst) ?_
   show OwnWk _ _ _ _ (T_.setTop (mkF m 7 #[vR aa, vI (-1 : Int32), vI (Int32.ofNat i), vI (Int32.ofNat n)] [(.int (Int32.ofNat n)), (.int (Int32.ofNat i))]))
   refine own_go (fun tgt kst => XS.icmpYes X_.here hx rfl (pc0 := 7) (pc' := 20) rfl (hb hby (dB25 7)) rfl (flt (fun z => absurd ((own_n_lt (by omega) (by omega)).mp z) (by omega))).2.1 (by decide) (by decide) kst) ?_
   show OwnWk _ _ _ _ (T_.setTop (mkF m 20 #[vR aa, vI (-1 : Int32), vI (Int32.ofNat i), vI (Int32.ofNat n)] []))
   exact own_retV X_ hx hlk hret (hb hby (dB25 14)) (by decide) (by decide) (by rw [e_]; exact ⟨rfl, N_, K_, tr, htr, f_0⟩)
  | succ d ih =>
   intro i tr T_ h_ L_ hid htr X_ e_ N_ Z_ K_ f_0
   show OwnWk _ _ _ _ (T_.setTop (mkF m 5 #[vR aa, vI (-1 : Int32), vI (Int32.ofNat i), vI (Int32.ofNat n)] []))
   refine own_go (fun tgt kst => XS.iloadN X_.here hx rfl (hb hby (dB25 5)) rfl  kst) ?_
   refine own_go (fun tgt kst => XS.iloadN X_.here hx rfl (hb hby (dB25 6)) rfl  kst) ?_
   show OwnWk _ _ _ _ (T_.setTop (mkF m 7 #[vR aa, vI (-1 : Int32), vI (Int32.ofNat i), vI (Int32.ofNat n)] [(.int (Int32.ofNat n)), (.int (Int32.ofNat i))]))
   have hin : i < n := by omega
   refine own_go (fun tgt kst => XS.icmpNo X_.here hx rfl (hb hby (dB25 7)) rfl (tlt ((own_n_lt (by omega) (by omega)).mpr hin)).2.1 kst) ?_
   show OwnWk _ _ _ _ (T_.setTop (mkF m 10 #[vR aa, vI (-1 : Int32), vI (Int32.ofNat i), vI (Int32.ofNat n)] []))
   refine own_go (fun tgt kst => XS.aloadN X_.here hx rfl (hb hby (dB25 8)) rfl rfl  kst) ?_
   refine own_go (fun tgt kst => XS.iloadN X_.here hx rfl (hb hby (dB25 9)) rfl  kst) ?_
   refine own_go (fun tgt kst => XS.iloadN X_.here hx rfl (hb hby (dB25 10)) rfl  kst) ?_
   refine own_stI X_ hx hZ e_ f_0 rfl rfl (hb hby (dB25 11)) (own_n_nn (by have := (by omega); omega)) (own_kw_in (by rw [htr]; exact hin) (by omega)) (fun T1 h1 X1 e1 W1 V1 => ?_)
   have V1b : OAr Z h1 aa .int (own_kw (tr.set i (-1 : Int32))) := by exact own_cast (own_kw_set (a := (-1 : Int32)) (by omega)) V1
   have N1 := Fr.snoc X1 N_ gn0
   have Z2 := Nat.le_trans Z_ (Keep.of_wr W1).1
   have K3 := Keep.wr K_ W1 (Or.inl (List.mem_of_getElem? (i := 0) rfl))
   refine own_go (fun tgt kst => XS.iinc X1.here hx rfl (hb hby (dB25 12)) rfl (l' := #[vR aa, vI (-1 : Int32), vI ((Int32.ofNat i) + (1 : Int32)), vI (Int32.ofNat n)]) rfl kst) ?_
   show OwnWk _ _ _ _ (T1.setTop (mkF m 17 #[vR aa, vI (-1 : Int32), vI ((Int32.ofNat i) + (1 : Int32)), vI (Int32.ofNat n)] []))
   rw [own_n_succ]
   show OwnWk _ _ _ _ (T1.setTop (mkF m 17 #[vR aa, vI (-1 : Int32), vI (Int32.ofNat (i + 1)), vI (Int32.ofNat n)] []))
   refine own_go (fun tgt kst => XS.goto X1.here hx rfl (pc0 := 17) (pc' := 5) rfl (hb hby (dB25 13)) (by decide) (by decide) kst) ?_
   show OwnWk _ _ _ _ (T1.setTop (mkF m 5 #[vR aa, vI (-1 : Int32), vI (Int32.ofNat (i + 1)), vI (Int32.ofNat n)] []))
   exact ih (i + 1) (tr.set i (-1 : Int32)) _ _ _ (by omega) (by rw [List.length_set]; exact htr) X1 e1 N1 Z2 K3 V1b
 show OwnWk _ _ _ _ (s₁.setTop (mkF m 5 #[vR aa, vI (-1 : Int32), vI (0 : Int32), vI (Int32.ofNat n)] []))
 exact LP n 0 ts _ _ _ (Nat.zero_add n) hts X0 e0 N0 Z0 K0 pf0
theorem pd_10 : parseMethodDescriptor "()I" = some ⟨[], some .int⟩ := by decide +kernel
theorem pd_11 : parseMethodDescriptor "([II)V" = some ⟨[(.array .int), .int], none⟩ := by decide +kernel
theorem ef_zkZ (m : MethodId) (x0 : Addr) (x1 : Int32) (x2 : Addr) : entryFrame m #[(.ref x0), (.int x1), (.ref x2)] 8 = mkF m 0 #[vR x0, vI x1, vR x2, .unset, .unset, .unset, .unset, .unset] [] := by first | (simp [entryFrame, mkF, argsToLocals, Value.category]; done) | rfl
def Q_zkZ (Z : State) (a ls : Addr) (Ms : Nat → Nat) (h0 : Heap) (n0 : Nat) (v : Option Value) (h : Heap) (L : List Loc) : Prop := v = none ∧ Fr n0 L ∧ Keep h0 h [a] ∧ ∃ (kk zs zz : Addr) (k0 k1 k2 k3 : Int64) (SS : List Int64) (ZZ : List Nat), Fld Z h a "com/example/encircle/encircle/layout/ZoneKeys" "keys" "[J" (.ref kk) ∧ OAr Z h kk .long [(.long k0), (.long k1), (.long k2), (.long k3)] ∧ Fld Z h a "com/example/encircle/encircle/layout/ZoneKeys" "slotSums" "[J" (.ref zs) ∧ Fld Z h a "com/example/encircle/encircle/layout/ZoneKeys" "slotZones" "[I" (.ref zz) ∧ OAr Z h zs .long (own_jw SS) ∧ OAr Z h zz .int (own_iv ZZ) ∧ own_inv (2 ^ own_k 0) 0 SS ZZ (own_Ez (own_f Ms k0 k1 k2 k3) 0 0)
set_option maxRecDepth 65536 in
set_option maxHeartbeats 40000000 in
theorem zkZ (l : Launch) (Z : State) (a0 : Array Value) (hw : ∀ d ∈ tables_1, d.before a0 Z = true) (a ls : Addr) (Ms : Nat → Nat) (h0 : Heap) (n0 : Nat) (Z0 : n0 ≤ h0.size) (pf0 : Exa Z h0 a "com/example/encircle/encircle/layout/ZoneKeys") (pf1 : Fld Z h0 a "com/example/encircle/encircle/layout/ZoneKeys" "keys" "[J" .null) (pf2 : Fld Z h0 a "com/example/encircle/encircle/layout/ZoneKeys" "sums" "[J" .null) (pf3 : Fld Z h0 a "com/example/encircle/encircle/layout/ZoneKeys" "sizes" "[I" .null) (pf4 : Fld Z h0 a "com/example/encircle/encircle/layout/ZoneKeys" "slotSums" "[J" .null) (pf5 : Fld Z h0 a "com/example/encircle/encircle/layout/ZoneKeys" "slotZones" "[I" .null) (pf6 : Fld Z h0 a "com/example/encircle/encircle/layout/ZoneKeys" "sameSum" "[I" .null) (pf7 : Exa Z h0 ls "java/util/ArrayList") (pf8 : Fld Z h0 ls "java/util/ArrayList" "size" "I" (.int (0 : Int32))) (dn0 : a ≠ ls) (gn0 : n0 ≤ a) :
    OwnMet l yN14 prog_35_method_1_code 8 none [] ({ frames := 4, cells := 7, slots := 36, locals := 110 } : Room) Z #[(.ref a), (.int (4 : Int32)), (.ref ls)] h0 (Q_zkZ Z a ls Ms h0 n0) := by
 refine own_met pn_14 (fun p e s m below meth c s₁ hx hby hml hown hnm hret hlk hZ X0 e0 => ?_)
 have hown : s.vm.findClass "com/example/encircle/encircle/layout/ZoneKeys" = some m.cls := hown
 have N0 := Fr.nil n0
 have K0 := Keep.refl h0 [a]
 rw [ef_zkZ]
 show OwnWk _ _ _ _ (s₁.setTop (mkF m 0 #[vR a, vI (4 : Int32), vR ls, uX, uX, uX, uX, uX] []))
 have lt1 : a < h0.size := pf0.lt
 have lt2 : ls < h0.size := pf7.lt
 refine zkeys l Z a0 hw a ls h0 n0 Z0 pf0 pf1 pf2 pf3 pf4 pf5 pf6 gn0 hx hby hml hown hnm hZ X0 e0 N0 (fun T3 h3 L3 kk k0 k1 k2 k3 stv kt X3 e3 N3 Kq3 szk Fk3 Vk3 Fn3_0 Fn3_1 Fn3_2 Fn3_3 Fn3_4 => ?_)
 have F4 := Exa.keep pf0 Kq3
 have F5 := Exa.keep pf7 Kq3
 have F6 := Fld.keep pf8 Kq3 (ninS (Ne.symm dn0) nin0)
 have Z7 := Nat.le_trans Z0 Kq3.1
 have K8 := Keep.trans K0 Kq3 (allS (Or.inl (List.mem_of_getElem? (i := 0) rfl)) all0)
 have ne9 := own_nl lt1 szk
 have ne10 := own_nl lt2 szk
 have ga11 : n0 ≤ kk := Nat.le_trans Z0 szk
 have sa12 : h0.size ≤ kk := Nat.le_trans K0.1 szk
 show OwnWk _ _ _ _ (T3.setTop (mkF m 77 #[vR a, vI (4 : Int32), vR ls, vJ stv, sX, vI (4 : Int32), vJ kt, sX] []))
 refine own_go (fun tgt kst => XS.aloadN X3.here hx rfl (hb hby (dB14 44)) rfl rfl  kst) ?_
 refine own_go (fun tgt kst => XS.aloadN X3.here hx rfl (hb hby (dB14 45)) rfl rfl  kst) ?_
 show OwnWk _ _ _ _ (T3.setTop (mkF m 79 #[vR a, vI (4 : Int32), vR ls, vJ stv, sX, vI (4 : Int32), vJ kt, sX] [(.ref ls), (.ref a)]))
 refine own_callI X3 hx hZ (y := (⟨"java/util/List", "size", "()I"⟩ : MethodName)) (z := yN15) hown (wq hw 97 rfl) (wq hw 98 rfl) (mvT hZ (wq hw 99 rfl)) (wq hw 100 rfl) (wq hw 101 rfl) (wq hw 102 rfl) (wq hw 103 rfl) (wq hw 104 rfl) (wq hw 31 rfl) (wq hw 105 rfl) (by decide) (a := ls) F5 (argsL := []) (rest := [(.ref a)])  (h := h3) (rm15 l Z a0 hw ls (0 : Int32) h3 n0 Z7 F6) e3 (W := 1) (by decide) (by decide) (by decide) (by decide) rfl (by rw [hml]; rfl) (lenOf pd_10 rfl) rfl (by show 2 * 0 + _ ≤ _; exact Nat.le_of_eq rfl) (hb hby (dB14 46)) (fun v13 T13 h13 L13 X13 e13 hQ13 => ?_)
 obtain ⟨rfl, Nq13, q13⟩ := hQ13
 have N13 := Fr.app N3 Nq13
 rw [q13] at e13
 show OwnWk _ _ _ _ (T13.setTop (mkF m 84 #[vR a, vI (4 : Int32), vR ls, vJ stv, sX, vI (4 : Int32), vJ kt, sX] [(.int (0 : Int32)), (.ref a)]))
 refine own_newP X13 hx hZ (aty := .long) (wq hw 26 rfl) e13 rfl (hb hby (dB14 47)) rfl (by decide) (cap := 0) (by decide) (by decide) (by decide) (by decide) (fun T14 h14 b14 X14 e14 g14 E14 V14 => ?_)
 have ne15 := own_nl F4.lt (Nat.le_of_eq g14.symm)
 have ne16 := own_nl F5.lt (Nat.le_of_eq g14.symm)
 have ne17 := own_nl Vk3.lt (Nat.le_of_eq g14.symm)
 have ge18 : n0 ≤ b14 := Nat.le_trans Z7 (Nat.le_of_eq g14.symm)
 have sz19 : h0.size ≤ b14 := Nat.le_trans K8.1 (Nat.le_of_eq g14.symm)
 have F20 := Exa.ext E14 F4
 have F21 := Exa.ext E14 F5
 have F22 := Fld.ext E14 F6
 have F23 := Fld.ext E14 Fk3
 have F24 := OAr.ext Vk3 E14
 have F25 := Fld.ext E14 Fn3_0
 have F26 := Fld.ext E14 Fn3_1
 have F27 := Fld.ext E14 Fn3_2
 have F28 := Fld.ext E14 Fn3_3
 have F29 := Fld.ext E14 Fn3_4
 have Z30 := Nat.le_trans Z7 E14.1
 have K31 := Keep.ext K8 E14
 have V14b : OAr Z h14 b14 .long [] := V14
 show OwnWk _ _ _ _ (T14.setTop (mkF m 86 #[vR a, vI (4 : Int32), vR ls, vJ stv, sX, vI (4 : Int32), vJ kt, sX] [(.ref b14), (.ref a)]))
 obtain ⟨T32, h32, X32, e32, W32, st32⟩ := putF X14 hx hZ hown (host := "") (Or.inl (wq hw 106 rfl)) Via.refl e14 F25 F20 (Or.inr ⟨(wq hw 107 rfl), rfl, hnm⟩) (wq hw 85 rfl) (v := (.ref b14)) (ty := (.array .long)) (by decide) rfl rfl (g := (mkF m 86 #[vR a, vI (4 : Int32), vR ls, vJ stv, sX, vI (4 : Int32), vJ kt, sX] [(.ref b14), (.ref a)])) rfl rfl (hb hby (dB14 48))
 refine own_go st32 ?_
 have N32 := Fr.snoc X32 N13 gn0
 have Fw32 := Fld.same W32 F25
 have F33 := Exa.wr W32 F20
 have F34 := Exa.wr W32 F21
 have F35 := Fld.other W32 F22 (Or.inl (Ne.symm dn0))
 have F36 := Fld.other W32 F23 (Or.inr (slot_ne (Or.inr (wq hw 92 rfl)) (Or.inr (wq hw 107 rfl)) (by decide) (t := (.array .long)) (t' := (.array .long)) (by decide) (by decide)))
 have F37 := OAr.other F24 W32 (Ne.symm ne9)
 have F38 := Fld.other W32 F26 (Or.inr (slot_ne (Or.inr (wq hw 110 rfl)) (Or.inr (wq hw 107 rfl)) (by decide) (t := (.array .int)) (t' := (.array .long)) (by decide) (by decide)))
 have F39 := Fld.other W32 F27 (Or.inr (slot_ne (Or.inr (wq hw 161 rfl)) (Or.inr (wq hw 107 rfl)) (by decide) (t := (.array .long)) (t' := (.array .long)) (by decide) (by decide)))
 have F40 := Fld.other W32 F28 (Or.inr (slot_ne (Or.inr (wq hw 163 rfl)) (Or.inr (wq hw 107 rfl)) (by decide) (t := (.array .int)) (t' := (.array .long)) (by decide) (by decide)))
 have F41 := Fld.other W32 F29 (Or.inr (slot_ne (Or.inr (wq hw 165 rfl)) (Or.inr (wq hw 107 rfl)) (by decide) (t := (.array .int)) (t' := (.array .long)) (by decide) (by decide)))
 have F42 := OAr.other V14b W32 (Ne.symm ne15)
 have Z43 := Nat.le_trans Z30 (Keep.of_wr W32).1
 have K44 := Keep.wr K31 W32 (Or.inl (List.mem_of_getElem? (i := 0) rfl))
 show OwnWk _ _ _ _ (T32.setTop (mkF m 89 #[vR a, vI (4 : Int32), vR ls, vJ stv, sX, vI (4 : Int32), vJ kt, sX] []))
 refine own_go (fun tgt kst => XS.aloadN X32.here hx rfl (hb hby (dB14 49)) rfl rfl  kst) ?_
 refine own_go (fun tgt kst => XS.aloadN X32.here hx rfl (hb hby (dB14 50)) rfl rfl  kst) ?_
 show OwnWk _ _ _ _ (T32.setTop (mkF m 91 #[vR a, vI (4 : Int32), vR ls, vJ stv, sX, vI (4 : Int32), vJ kt, sX] [(.ref ls), (.ref a)]))
 refine own_callI X32 hx hZ (y := (⟨"java/util/List", "size", "()I"⟩ : MethodName)) (z := yN15) hown (wq hw 97 rfl) (wq hw 98 rfl) (mvT hZ (wq hw 99 rfl)) (wq hw 100 rfl) (wq hw 101 rfl) (wq hw 102 rfl) (wq hw 103 rfl) (wq hw 104 rfl) (wq hw 31 rfl) (wq hw 105 rfl) (by decide) (a := ls) F34 (argsL := []) (rest := [(.ref a)])  (h := h32) (rm15 l Z a0 hw ls (0 : Int32) h32 n0 Z43 F35) e32 (W := 1) (by decide) (by decide) (by decide) (by decide) rfl (by rw [hml]; rfl) (lenOf pd_10 rfl) rfl (by show 2 * 0 + _ ≤ _; exact Nat.le_of_eq rfl) (hb hby (dB14 51)) (fun v45 T45 h45 L45 X45 e45 hQ45 => ?_)
 obtain ⟨rfl, Nq45, q45⟩ := hQ45
 have N45 := Fr.app N32 Nq45
 rw [q45] at e45
 show OwnWk _ _ _ _ (T45.setTop (mkF m 96 #[vR a, vI (4 : Int32), vR ls, vJ stv, sX, vI (4 : Int32), vJ kt, sX] [(.int (0 : Int32)), (.ref a)]))
 refine own_newP X45 hx hZ (aty := .int) (wq hw 108 rfl) e45 rfl (hb hby (dB14 52)) rfl (by decide) (cap := 0) (by decide) (by decide) (by decide) (by decide) (fun T46 h46 b46 X46 e46 g46 E46 V46 => ?_)
 have ne47 := own_nl F33.lt (Nat.le_of_eq g46.symm)
 have ne48 := own_nl F34.lt (Nat.le_of_eq g46.symm)
 have ne49 := own_nl F37.lt (Nat.le_of_eq g46.symm)
 have ne50 := own_nl F42.lt (Nat.le_of_eq g46.symm)
 have ge51 : n0 ≤ b46 := Nat.le_trans Z43 (Nat.le_of_eq g46.symm)
 have sz52 : h0.size ≤ b46 := Nat.le_trans K44.1 (Nat.le_of_eq g46.symm)
 have F53 := Exa.ext E46 F33
 have F54 := Exa.ext E46 F34
 have F55 := Fld.ext E46 F35
 have F56 := Fld.ext E46 F36
 have F57 := OAr.ext F37 E46
 have F58 := Fld.ext E46 F38
 have F59 := Fld.ext E46 F39
 have F60 := Fld.ext E46 F40
 have F61 := Fld.ext E46 F41
 have F62 := OAr.ext F42 E46
 have F63 := Fld.ext E46 Fw32
 have Z64 := Nat.le_trans Z43 E46.1
 have K65 := Keep.ext K44 E46
 have V46b : OAr Z h46 b46 .int [] := V46
 show OwnWk _ _ _ _ (T46.setTop (mkF m 98 #[vR a, vI (4 : Int32), vR ls, vJ stv, sX, vI (4 : Int32), vJ kt, sX] [(.ref b46), (.ref a)]))
 obtain ⟨T66, h66, X66, e66, W66, st66⟩ := putF X46 hx hZ hown (host := "") (Or.inl (wq hw 109 rfl)) Via.refl e46 F58 F53 (Or.inr ⟨(wq hw 110 rfl), rfl, hnm⟩) (wq hw 85 rfl) (v := (.ref b46)) (ty := (.array .int)) (by decide) rfl rfl (g := (mkF m 98 #[vR a, vI (4 : Int32), vR ls, vJ stv, sX, vI (4 : Int32), vJ kt, sX] [(.ref b46), (.ref a)])) rfl rfl (hb hby (dB14 53))
 refine own_go st66 ?_
 have N66 := Fr.snoc X66 N45 gn0
 have Fw66 := Fld.same W66 F58
 have F67 := Exa.wr W66 F53
 have F68 := Exa.wr W66 F54
 have F69 := Fld.other W66 F55 (Or.inl (Ne.symm dn0))
 have F70 := Fld.other W66 F56 (Or.inr (slot_ne (Or.inr (wq hw 92 rfl)) (Or.inr (wq hw 110 rfl)) (by decide) (t := (.array .long)) (t' := (.array .int)) (by decide) (by decide)))
 have F71 := OAr.other F57 W66 (Ne.symm ne9)
 have F72 := Fld.other W66 F59 (Or.inr (slot_ne (Or.inr (wq hw 161 rfl)) (Or.inr (wq hw 110 rfl)) (by decide) (t := (.array .long)) (t' := (.array .int)) (by decide) (by decide)))
 have F73 := Fld.other W66 F60 (Or.inr (slot_ne (Or.inr (wq hw 163 rfl)) (Or.inr (wq hw 110 rfl)) (by decide) (t := (.array .int)) (t' := (.array .int)) (by decide) (by decide)))
 have F74 := Fld.other W66 F61 (Or.inr (slot_ne (Or.inr (wq hw 165 rfl)) (Or.inr (wq hw 110 rfl)) (by decide) (t := (.array .int)) (t' := (.array .int)) (by decide) (by decide)))
 have F75 := OAr.other F62 W66 (Ne.symm ne15)
 have F76 := Fld.other W66 F63 (Or.inr (slot_ne (Or.inr (wq hw 107 rfl)) (Or.inr (wq hw 110 rfl)) (by decide) (t := (.array .long)) (t' := (.array .int)) (by decide) (by decide)))
 have F77 := OAr.other V46b W66 (Ne.symm ne47)
 have Z78 := Nat.le_trans Z64 (Keep.of_wr W66).1
 have K79 := Keep.wr K65 W66 (Or.inl (List.mem_of_getElem? (i := 0) rfl))
 show OwnWk _ _ _ _ (T66.setTop (mkF m 101 #[vR a, vI (4 : Int32), vR ls, vJ stv, sX, vI (4 : Int32), vJ kt, sX] []))
 refine own_go (fun tgt kst => XS.iconst X66.here hx rfl (hb hby (dB14 54)) kst) ?_
 refine own_go (fun tgt kst => XS.istore X66.here hx rfl (hb hby (dB14 55)) rfl (l' := #[vR a, vI (4 : Int32), vR ls, vJ stv, sX, vI (0 : Int32), vJ kt, sX]) rfl kst) ?_
 refine own_go (fun tgt kst => XS.iload X66.here hx rfl (hb hby (dB14 56)) rfl  kst) ?_
 refine own_go (fun tgt kst => XS.aloadN X66.here hx rfl (hb hby (dB14 57)) rfl rfl  kst) ?_
 refine own_gF X66 hx hZ hown (wq hw 106 rfl) Via.refl e66 F76 rfl rfl (hb hby (dB14 58)) fun T80 X80 e80 => ?_
 refine own_len X80 hx hZ e80 F75 rfl rfl (hb hby (dB14 59)) (N := (0 : Int32)) rfl ?_
 refine own_go (fun tgt kst => XS.icmpYes X80.here hx rfl (pc0 := 111) (pc' := 189) rfl (hb hby (dB14 60)) rfl (flt (by decide : ¬ ((0 : Int32) < (0 : Int32)))).2.1 (by decide) (by decide) kst) ?_
 refine own_go (fun tgt kst => XS.iconst X80.here hx rfl (hb hby (dB14 98)) kst) ?_
 refine own_go (fun tgt kst => XS.aloadN X80.here hx rfl (hb hby (dB14 99)) rfl rfl  kst) ?_
 show OwnWk _ _ _ _ (T80.setTop (mkF m 191 #[vR a, vI (4 : Int32), vR ls, vJ stv, sX, vI (0 : Int32), vJ kt, sX] [(.ref ls), (.int (1 : Int32))]))
 refine own_callI X80 hx hZ (y := (⟨"java/util/List", "size", "()I"⟩ : MethodName)) (z := yN15) hown (wq hw 97 rfl) (wq hw 98 rfl) (mvT hZ (wq hw 99 rfl)) (wq hw 100 rfl) (wq hw 101 rfl) (wq hw 102 rfl) (wq hw 103 rfl) (wq hw 104 rfl) (wq hw 31 rfl) (wq hw 105 rfl) (by decide) (a := ls) F68 (argsL := []) (rest := [(.int (1 : Int32))])  (h := h66) (rm15 l Z a0 hw ls (0 : Int32) h66 n0 Z78 F69) e80 (W := 1) (by decide) (by decide) (by decide) (by decide) rfl (by rw [hml]; rfl) (lenOf pd_10 rfl) rfl (by show 2 * 0 + _ ≤ _; exact Nat.le_of_eq rfl) (hb hby (dB14 100)) (fun v81 T81 h81 L81 X81 e81 hQ81 => ?_)
 obtain ⟨rfl, Nq81, q81⟩ := hQ81
 have N81 := Fr.app N66 Nq81
 rw [q81] at e81
 show OwnWk _ _ _ _ (T81.setTop (mkF m 196 #[vR a, vI (4 : Int32), vR ls, vJ stv, sX, vI (0 : Int32), vJ kt, sX] [(.int (0 : Int32)), (.int (1 : Int32))]))
 refine own_callS X81 hx hZ (y := yN13) hown (wq hw 150 rfl) (wq hw 78 rfl) (wq hw 79 rfl) (wq hw 80 rfl) (by decide) (argsL := [(.int (1 : Int32)), (.int (0 : Int32))]) (rest := [])  (h := h66) (rm13 l Z a0 hw (1 : Int32) (0 : Int32) h66 n0 Z78) e81 (W := 0) (by decide) (by decide) (by decide) (by decide) rfl (by rw [hml]; rfl) (lenOf pd_4 rfl) rfl (by show 2 * 0 + _ ≤ _; exact Nat.le_of_eq rfl) (hb hby (dB14 101)) (fun v82 T82 h82 L82 X82 e82 hQ82 => ?_)
 obtain ⟨rfl, Nq82, q82⟩ := hQ82
 have N82 := Fr.app N81 Nq82
 rw [q82] at e82
 show OwnWk _ _ _ _ (T82.setTop (mkF m 199 #[vR a, vI (4 : Int32), vR ls, vJ stv, sX, vI (0 : Int32), vJ kt, sX] [(.int (1 : Int32))]))
 refine own_go (fun tgt kst => XS.iconst X82.here hx rfl (hb hby (dB14 102)) kst) ?_
 refine own_go (fun tgt kst => XS.imul X82.here hx rfl (hb hby (dB14 103)) rfl kst) ?_
 refine own_go (fun tgt kst => XS.iconst X82.here hx rfl (hb hby (dB14 104)) kst) ?_
 refine own_go (fun tgt kst => XS.isub X82.here hx rfl (hb hby (dB14 105)) rfl kst) ?_
 show OwnWk _ _ _ _ (T82.setTop (mkF m 203 #[vR a, vI (4 : Int32), vR ls, vJ stv, sX, vI (0 : Int32), vJ kt, sX] [(.int (3 : Int32))]))
 show OwnWk _ _ _ _ (T82.setTop (mkF m 203 #[vR a, vI (4 : Int32), vR ls, vJ stv, sX, vI (0 : Int32), vJ kt, sX] [(.int (Int32.ofNat (own_q 1)))]))
 refine own_callS X82 hx hZ (y := yN23) hown (wq hw 151 rfl) (wq hw 152 rfl) (wq hw 153 rfl) (wq hw 154 rfl) (by decide) (argsL := [(.int (Int32.ofNat (own_q 1)))]) (rest := [])  (h := h66) (hob l Z a0 hw 1 h66 n0 Z78 (by decide) (by decide)) e82 (W := 0) (by decide) (by decide) (by decide) (by decide) rfl (by rw [hml]; rfl) (lenOf pd_0 rfl) rfl (by show 2 * 0 + _ ≤ _; exact Nat.le_of_eq rfl) (hb hby (dB14 106)) (fun v83 T83 h83 L83 X83 e83 hQ83 => ?_)
 obtain ⟨rfl, Nq83, q83⟩ := hQ83
 have N83 := Fr.app N82 Nq83
 rw [q83] at e83
 show OwnWk _ _ _ _ (T83.setTop (mkF m 206 #[vR a, vI (4 : Int32), vR ls, vJ stv, sX, vI (0 : Int32), vJ kt, sX] [(.int (Int32.ofNat (2 ^ own_k 1)))]))
 show OwnWk _ _ _ _ (T83.setTop (mkF m 206 #[vR a, vI (4 : Int32), vR ls, vJ stv, sX, vI (0 : Int32), vJ kt, sX] [(.int (2 : Int32))]))
 refine own_go (fun tgt kst => XS.istore X83.here hx rfl (hb hby (dB14 107)) rfl (l' := #[vR a, vI (4 : Int32), vR ls, vJ stv, sX, vI (2 : Int32), vJ kt, sX]) rfl kst) ?_
 refine own_go (fun tgt kst => XS.aloadN X83.here hx rfl (hb hby (dB14 108)) rfl rfl  kst) ?_
 refine own_go (fun tgt kst => XS.iload X83.here hx rfl (hb hby (dB14 109)) rfl  kst) ?_
 refine own_newP X83 hx hZ (aty := .long) (wq hw 26 rfl) e83 rfl (hb hby (dB14 110)) rfl (by decide) (cap := 2) (by decide) (by decide) (by decide) (by decide) (fun T84 h84 b84 X84 e84 g84 E84 V84 => ?_)
 have ne85 := own_nl F67.lt (Nat.le_of_eq g84.symm)
 have ne86 := own_nl F68.lt (Nat.le_of_eq g84.symm)
 have ne87 := own_nl F71.lt (Nat.le_of_eq g84.symm)
 have ne88 := own_nl F75.lt (Nat.le_of_eq g84.symm)
 have ne89 := own_nl F77.lt (Nat.le_of_eq g84.symm)
 have ge90 : n0 ≤ b84 := Nat.le_trans Z78 (Nat.le_of_eq g84.symm)
 have sz91 : h0.size ≤ b84 := Nat.le_trans K79.1 (Nat.le_of_eq g84.symm)
 have F92 := Exa.ext E84 F67
 have F93 := Exa.ext E84 F68
 have F94 := Fld.ext E84 F69
 have F95 := Fld.ext E84 F70
 have F96 := OAr.ext F71 E84
 have F97 := Fld.ext E84 F72
 have F98 := Fld.ext E84 F73
 have F99 := Fld.ext E84 F74
 have F100 := OAr.ext F75 E84
 have F101 := Fld.ext E84 F76
 have F102 := OAr.ext F77 E84
 have F103 := Fld.ext E84 Fw66
 have Z104 := Nat.le_trans Z78 E84.1
 have K105 := Keep.ext K79 E84
 have V84b : OAr Z h84 b84 .long [(.long (0 : Int64)), (.long (0 : Int64))] := V84
 show OwnWk _ _ _ _ (T84.setTop (mkF m 213 #[vR a, vI (4 : Int32), vR ls, vJ stv, sX, vI (2 : Int32), vJ kt, sX] [(.ref b84), (.ref a)]))
 obtain ⟨T106, h106, X106, e106, W106, st106⟩ := putF X84 hx hZ hown (host := "") (Or.inl (wq hw 160 rfl)) Via.refl e84 F97 F92 (Or.inr ⟨(wq hw 161 rfl), rfl, hnm⟩) (wq hw 85 rfl) (v := (.ref b84)) (ty := (.array .long)) (by decide) rfl rfl (g := (mkF m 213 #[vR a, vI (4 : Int32), vR ls, vJ stv, sX, vI (2 : Int32), vJ kt, sX] [(.ref b84), (.ref a)])) rfl rfl (hb hby (dB14 111))
 refine own_go st106 ?_
 have N106 := Fr.snoc X106 N83 gn0
 have Fw106 := Fld.same W106 F97
 have F107 := Exa.wr W106 F92
 have F108 := Exa.wr W106 F93
 have F109 := Fld.other W106 F94 (Or.inl (Ne.symm dn0))
 have F110 := Fld.other W106 F95 (Or.inr (slot_ne (Or.inr (wq hw 92 rfl)) (Or.inr (wq hw 161 rfl)) (by decide) (t := (.array .long)) (t' := (.array .long)) (by decide) (by decide)))
 have F111 := OAr.other F96 W106 (Ne.symm ne9)
 have F112 := Fld.other W106 F98 (Or.inr (slot_ne (Or.inr (wq hw 163 rfl)) (Or.inr (wq hw 161 rfl)) (by decide) (t := (.array .int)) (t' := (.array .long)) (by decide) (by decide)))
 have F113 := Fld.other W106 F99 (Or.inr (slot_ne (Or.inr (wq hw 165 rfl)) (Or.inr (wq hw 161 rfl)) (by decide) (t := (.array .int)) (t' := (.array .long)) (by decide) (by decide)))
 have F114 := OAr.other F100 W106 (Ne.symm ne15)
 have F115 := Fld.other W106 F101 (Or.inr (slot_ne (Or.inr (wq hw 107 rfl)) (Or.inr (wq hw 161 rfl)) (by decide) (t := (.array .long)) (t' := (.array .long)) (by decide) (by decide)))
 have F116 := OAr.other F102 W106 (Ne.symm ne47)
 have F117 := Fld.other W106 F103 (Or.inr (slot_ne (Or.inr (wq hw 110 rfl)) (Or.inr (wq hw 161 rfl)) (by decide) (t := (.array .int)) (t' := (.array .long)) (by decide) (by decide)))
 have F118 := OAr.other V84b W106 (Ne.symm ne85)
 have Z119 := Nat.le_trans Z104 (Keep.of_wr W106).1
 have K120 := Keep.wr K105 W106 (Or.inl (List.mem_of_getElem? (i := 0) rfl))
 show OwnWk _ _ _ _ (T106.setTop (mkF m 216 #[vR a, vI (4 : Int32), vR ls, vJ stv, sX, vI (2 : Int32), vJ kt, sX] []))
 refine own_go (fun tgt kst => XS.aloadN X106.here hx rfl (hb hby (dB14 112)) rfl rfl  kst) ?_
 refine own_go (fun tgt kst => XS.iload X106.here hx rfl (hb hby (dB14 113)) rfl  kst) ?_
 refine own_newP X106 hx hZ (aty := .int) (wq hw 108 rfl) e106 rfl (hb hby (dB14 114)) rfl (by decide) (cap := 2) (by decide) (by decide) (by decide) (by decide) (fun T121 h121 b121 X121 e121 g121 E121 V121 => ?_)
 have ne122 := own_nl F107.lt (Nat.le_of_eq g121.symm)
 have ne123 := own_nl F108.lt (Nat.le_of_eq g121.symm)
 have ne124 := own_nl F111.lt (Nat.le_of_eq g121.symm)
 have ne125 := own_nl F114.lt (Nat.le_of_eq g121.symm)
 have ne126 := own_nl F116.lt (Nat.le_of_eq g121.symm)
 have ne127 := own_nl F118.lt (Nat.le_of_eq g121.symm)
 have ge128 : n0 ≤ b121 := Nat.le_trans Z119 (Nat.le_of_eq g121.symm)
 have sz129 : h0.size ≤ b121 := Nat.le_trans K120.1 (Nat.le_of_eq g121.symm)
 have F130 := Exa.ext E121 F107
 have F131 := Exa.ext E121 F108
 have F132 := Fld.ext E121 F109
 have F133 := Fld.ext E121 F110
 have F134 := OAr.ext F111 E121
 have F135 := Fld.ext E121 F112
 have F136 := Fld.ext E121 F113
 have F137 := OAr.ext F114 E121
 have F138 := Fld.ext E121 F115
 have F139 := OAr.ext F116 E121
 have F140 := Fld.ext E121 F117
 have F141 := OAr.ext F118 E121
 have F142 := Fld.ext E121 Fw106
 have Z143 := Nat.le_trans Z119 E121.1
 have K144 := Keep.ext K120 E121
 have V121b : OAr Z h121 b121 .int [(.int (0 : Int32)), (.int (0 : Int32))] := V121
 show OwnWk _ _ _ _ (T121.setTop (mkF m 221 #[vR a, vI (4 : Int32), vR ls, vJ stv, sX, vI (2 : Int32), vJ kt, sX] [(.ref b121), (.ref a)]))
 obtain ⟨T145, h145, X145, e145, W145, st145⟩ := putF X121 hx hZ hown (host := "") (Or.inl (wq hw 162 rfl)) Via.refl e121 F135 F130 (Or.inr ⟨(wq hw 163 rfl), rfl, hnm⟩) (wq hw 85 rfl) (v := (.ref b121)) (ty := (.array .int)) (by decide) rfl rfl (g := (mkF m 221 #[vR a, vI (4 : Int32), vR ls, vJ stv, sX, vI (2 : Int32), vJ kt, sX] [(.ref b121), (.ref a)])) rfl rfl (hb hby (dB14 115))
 refine own_go st145 ?_
 have N145 := Fr.snoc X145 N106 gn0
 have Fw145 := Fld.same W145 F135
 have F146 := Exa.wr W145 F130
 have F147 := Exa.wr W145 F131
 have F148 := Fld.other W145 F132 (Or.inl (Ne.symm dn0))
 have F149 := Fld.other W145 F133 (Or.inr (slot_ne (Or.inr (wq hw 92 rfl)) (Or.inr (wq hw 163 rfl)) (by decide) (t := (.array .long)) (t' := (.array .int)) (by decide) (by decide)))
 have F150 := OAr.other F134 W145 (Ne.symm ne9)
 have F151 := Fld.other W145 F136 (Or.inr (slot_ne (Or.inr (wq hw 165 rfl)) (Or.inr (wq hw 163 rfl)) (by decide) (t := (.array .int)) (t' := (.array .int)) (by decide) (by decide)))
 have F152 := OAr.other F137 W145 (Ne.symm ne15)
 have F153 := Fld.other W145 F138 (Or.inr (slot_ne (Or.inr (wq hw 107 rfl)) (Or.inr (wq hw 163 rfl)) (by decide) (t := (.array .long)) (t' := (.array .int)) (by decide) (by decide)))
 have F154 := OAr.other F139 W145 (Ne.symm ne47)
 have F155 := Fld.other W145 F140 (Or.inr (slot_ne (Or.inr (wq hw 110 rfl)) (Or.inr (wq hw 163 rfl)) (by decide) (t := (.array .int)) (t' := (.array .int)) (by decide) (by decide)))
 have F156 := OAr.other F141 W145 (Ne.symm ne85)
 have F157 := Fld.other W145 F142 (Or.inr (slot_ne (Or.inr (wq hw 161 rfl)) (Or.inr (wq hw 163 rfl)) (by decide) (t := (.array .long)) (t' := (.array .int)) (by decide) (by decide)))
 have F158 := OAr.other V121b W145 (Ne.symm ne122)
 have Z159 := Nat.le_trans Z143 (Keep.of_wr W145).1
 have K160 := Keep.wr K144 W145 (Or.inl (List.mem_of_getElem? (i := 0) rfl))
 show OwnWk _ _ _ _ (T145.setTop (mkF m 224 #[vR a, vI (4 : Int32), vR ls, vJ stv, sX, vI (2 : Int32), vJ kt, sX] []))
 refine own_go (fun tgt kst => XS.aloadN X145.here hx rfl (hb hby (dB14 116)) rfl rfl  kst) ?_
 refine own_go (fun tgt kst => XS.aloadN X145.here hx rfl (hb hby (dB14 117)) rfl rfl  kst) ?_
 show OwnWk _ _ _ _ (T145.setTop (mkF m 226 #[vR a, vI (4 : Int32), vR ls, vJ stv, sX, vI (2 : Int32), vJ kt, sX] [(.ref ls), (.ref a)]))
 refine own_callI X145 hx hZ (y := (⟨"java/util/List", "size", "()I"⟩ : MethodName)) (z := yN15) hown (wq hw 97 rfl) (wq hw 98 rfl) (mvT hZ (wq hw 99 rfl)) (wq hw 100 rfl) (wq hw 101 rfl) (wq hw 102 rfl) (wq hw 103 rfl) (wq hw 104 rfl) (wq hw 31 rfl) (wq hw 105 rfl) (by decide) (a := ls) F147 (argsL := []) (rest := [(.ref a)])  (h := h145) (rm15 l Z a0 hw ls (0 : Int32) h145 n0 Z159 F148) e145 (W := 1) (by decide) (by decide) (by decide) (by decide) rfl (by rw [hml]; rfl) (lenOf pd_10 rfl) rfl (by show 2 * 0 + _ ≤ _; exact Nat.le_of_eq rfl) (hb hby (dB14 118)) (fun v161 T161 h161 L161 X161 e161 hQ161 => ?_)
 obtain ⟨rfl, Nq161, q161⟩ := hQ161
 have N161 := Fr.app N145 Nq161
 rw [q161] at e161
 show OwnWk _ _ _ _ (T161.setTop (mkF m 231 #[vR a, vI (4 : Int32), vR ls, vJ stv, sX, vI (2 : Int32), vJ kt, sX] [(.int (0 : Int32)), (.ref a)]))
 refine own_newP X161 hx hZ (aty := .int) (wq hw 108 rfl) e161 rfl (hb hby (dB14 119)) rfl (by decide) (cap := 0) (by decide) (by decide) (by decide) (by decide) (fun T162 h162 b162 X162 e162 g162 E162 V162 => ?_)
 have ne163 := own_nl F146.lt (Nat.le_of_eq g162.symm)
 have ne164 := own_nl F147.lt (Nat.le_of_eq g162.symm)
 have ne165 := own_nl F150.lt (Nat.le_of_eq g162.symm)
 have ne166 := own_nl F152.lt (Nat.le_of_eq g162.symm)
 have ne167 := own_nl F154.lt (Nat.le_of_eq g162.symm)
 have ne168 := own_nl F156.lt (Nat.le_of_eq g162.symm)
 have ne169 := own_nl F158.lt (Nat.le_of_eq g162.symm)
 have ge170 : n0 ≤ b162 := Nat.le_trans Z159 (Nat.le_of_eq g162.symm)
 have sz171 : h0.size ≤ b162 := Nat.le_trans K160.1 (Nat.le_of_eq g162.symm)
 have F172 := Exa.ext E162 F146
 have F173 := Exa.ext E162 F147
 have F174 := Fld.ext E162 F148
 have F175 := Fld.ext E162 F149
 have F176 := OAr.ext F150 E162
 have F177 := Fld.ext E162 F151
 have F178 := OAr.ext F152 E162
 have F179 := Fld.ext E162 F153
 have F180 := OAr.ext F154 E162
 have F181 := Fld.ext E162 F155
 have F182 := OAr.ext F156 E162
 have F183 := Fld.ext E162 F157
 have F184 := OAr.ext F158 E162
 have F185 := Fld.ext E162 Fw145
 have Z186 := Nat.le_trans Z159 E162.1
 have K187 := Keep.ext K160 E162
 have V162b : OAr Z h162 b162 .int [] := V162
 show OwnWk _ _ _ _ (T162.setTop (mkF m 233 #[vR a, vI (4 : Int32), vR ls, vJ stv, sX, vI (2 : Int32), vJ kt, sX] [(.ref b162), (.ref a)]))
 obtain ⟨T188, h188, X188, e188, W188, st188⟩ := putF X162 hx hZ hown (host := "") (Or.inl (wq hw 164 rfl)) Via.refl e162 F177 F172 (Or.inr ⟨(wq hw 165 rfl), rfl, hnm⟩) (wq hw 85 rfl) (v := (.ref b162)) (ty := (.array .int)) (by decide) rfl rfl (g := (mkF m 233 #[vR a, vI (4 : Int32), vR ls, vJ stv, sX, vI (2 : Int32), vJ kt, sX] [(.ref b162), (.ref a)])) rfl rfl (hb hby (dB14 120))
 refine own_go st188 ?_
 have N188 := Fr.snoc X188 N161 gn0
 have Fw188 := Fld.same W188 F177
 have F189 := Exa.wr W188 F172
 have F190 := Exa.wr W188 F173
 have F191 := Fld.other W188 F174 (Or.inl (Ne.symm dn0))
 have F192 := Fld.other W188 F175 (Or.inr (slot_ne (Or.inr (wq hw 92 rfl)) (Or.inr (wq hw 165 rfl)) (by decide) (t := (.array .long)) (t' := (.array .int)) (by decide) (by decide)))
 have F193 := OAr.other F176 W188 (Ne.symm ne9)
 have F194 := OAr.other F178 W188 (Ne.symm ne15)
 have F195 := Fld.other W188 F179 (Or.inr (slot_ne (Or.inr (wq hw 107 rfl)) (Or.inr (wq hw 165 rfl)) (by decide) (t := (.array .long)) (t' := (.array .int)) (by decide) (by decide)))
 have F196 := OAr.other F180 W188 (Ne.symm ne47)
 have F197 := Fld.other W188 F181 (Or.inr (slot_ne (Or.inr (wq hw 110 rfl)) (Or.inr (wq hw 165 rfl)) (by decide) (t := (.array .int)) (t' := (.array .int)) (by decide) (by decide)))
 have F198 := OAr.other F182 W188 (Ne.symm ne85)
 have F199 := Fld.other W188 F183 (Or.inr (slot_ne (Or.inr (wq hw 161 rfl)) (Or.inr (wq hw 165 rfl)) (by decide) (t := (.array .long)) (t' := (.array .int)) (by decide) (by decide)))
 have F200 := OAr.other F184 W188 (Ne.symm ne122)
 have F201 := Fld.other W188 F185 (Or.inr (slot_ne (Or.inr (wq hw 163 rfl)) (Or.inr (wq hw 165 rfl)) (by decide) (t := (.array .int)) (t' := (.array .int)) (by decide) (by decide)))
 have F202 := OAr.other V162b W188 (Ne.symm ne163)
 have Z203 := Nat.le_trans Z186 (Keep.of_wr W188).1
 have K204 := Keep.wr K187 W188 (Or.inl (List.mem_of_getElem? (i := 0) rfl))
 show OwnWk _ _ _ _ (T188.setTop (mkF m 236 #[vR a, vI (4 : Int32), vR ls, vJ stv, sX, vI (2 : Int32), vJ kt, sX] []))
 refine own_go (fun tgt kst => XS.aloadN X188.here hx rfl (hb hby (dB14 121)) rfl rfl  kst) ?_
 refine own_gF X188 hx hZ hown (wq hw 164 rfl) Via.refl e188 Fw188 rfl rfl (hb hby (dB14 122)) fun T205 X205 e205 => ?_
 refine own_go (fun tgt kst => XS.iconst X205.here hx rfl (hb hby (dB14 123)) kst) ?_
 show OwnWk _ _ _ _ (T205.setTop (mkF m 241 #[vR a, vI (4 : Int32), vR ls, vJ stv, sX, vI (2 : Int32), vJ kt, sX] [(.int (-1 : Int32)), (.ref b162)]))
 have Ve206 : OAr Z h188 b162 .int (own_kw []) := F202
 refine own_callS X205 hx hZ (y := yN25) hown (wq hw 166 rfl) (wq hw 167 rfl) (wq hw 168 rfl) (wq hw 169 rfl) (by decide) (argsL := [(.ref b162), (.int (-1 : Int32))]) (rest := [])  (h := h188) (fil l Z a0 hw b162 ([]) 0 h188 n0 Z203 Ve206 ge170 rfl (by decide)) e205 (W := 0) (by decide) (by decide) (by decide) (by decide) rfl (by rw [hml]; rfl) (lenOf pd_11 rfl) rfl (by show 2 * 0 + _ ≤ _; exact Nat.le_of_eq rfl) (hb hby (dB14 124)) (fun v207 T207 h207 L207 X207 e207 hQ207 => ?_)
 obtain ⟨rfl, Nq207, Kq207, tq, htq, Vf207⟩ := hQ207
 have N207 := Fr.app N188 Nq207
 have F208 := Exa.keep F189 Kq207
 have F209 := Exa.keep F190 Kq207
 have F210 := Fld.keep F191 Kq207 (ninS ne164 nin0)
 have F211 := Fld.keep F192 Kq207 (ninS ne163 nin0)
 have F212 := OAr.keep F193 Kq207 (ninS ne165 nin0)
 have F213 := OAr.keep F194 Kq207 (ninS ne166 nin0)
 have F214 := Fld.keep F195 Kq207 (ninS ne163 nin0)
 have F215 := OAr.keep F196 Kq207 (ninS ne167 nin0)
 have F216 := Fld.keep F197 Kq207 (ninS ne163 nin0)
 have F217 := OAr.keep F198 Kq207 (ninS ne168 nin0)
 have F218 := Fld.keep F199 Kq207 (ninS ne163 nin0)
 have F219 := OAr.keep F200 Kq207 (ninS ne169 nin0)
 have F220 := Fld.keep F201 Kq207 (ninS ne163 nin0)
 have F221 := Fld.keep Fw188 Kq207 (ninS ne163 nin0)
 have Z222 := Nat.le_trans Z203 Kq207.1
 have K223 := Keep.trans K204 Kq207 (allS (Or.inr sz171) all0)
 show OwnWk _ _ _ _ (T207.setTop (mkF m 244 #[vR a, vI (4 : Int32), vR ls, vJ stv, sX, vI (2 : Int32), vJ kt, sX] []))
 refine own_go (fun tgt kst => XS.aloadN X207.here hx rfl (hb hby (dB14 125)) rfl rfl  kst) ?_
 show OwnWk _ _ _ _ (T207.setTop (mkF m 245 #[vR a, vI (4 : Int32), vR ls, vJ stv, sX, vI (2 : Int32), vJ kt, sX] [(.ref ls)]))
 refine own_callI X207 hx hZ (y := (⟨"java/util/List", "size", "()I"⟩ : MethodName)) (z := yN15) hown (wq hw 97 rfl) (wq hw 98 rfl) (mvT hZ (wq hw 99 rfl)) (wq hw 100 rfl) (wq hw 101 rfl) (wq hw 102 rfl) (wq hw 103 rfl) (wq hw 104 rfl) (wq hw 31 rfl) (wq hw 105 rfl) (by decide) (a := ls) F209 (argsL := []) (rest := [])  (h := h207) (rm15 l Z a0 hw ls (0 : Int32) h207 n0 Z222 F210) e207 (W := 0) (by decide) (by decide) (by decide) (by decide) rfl (by rw [hml]; rfl) (lenOf pd_10 rfl) rfl (by show 2 * 0 + _ ≤ _; exact Nat.le_of_eq rfl) (hb hby (dB14 126)) (fun v224 T224 h224 L224 X224 e224 hQ224 => ?_)
 obtain ⟨rfl, Nq224, q224⟩ := hQ224
 have N224 := Fr.app N207 Nq224
 rw [q224] at e224
 show OwnWk _ _ _ _ (T224.setTop (mkF m 250 #[vR a, vI (4 : Int32), vR ls, vJ stv, sX, vI (2 : Int32), vJ kt, sX] [(.int (0 : Int32))]))
 refine own_go (fun tgt kst => XS.iconst X224.here hx rfl (hb hby (dB14 127)) kst) ?_
 refine own_go (fun tgt kst => XS.isub X224.here hx rfl (hb hby (dB14 128)) rfl kst) ?_
 refine own_go (fun tgt kst => XS.istore X224.here hx rfl (hb hby (dB14 129)) rfl (l' := #[vR a, vI (4 : Int32), vR ls, vJ stv, sX, vI (2 : Int32), vI (-1 : Int32), uX]) rfl kst) ?_
 refine own_go (fun tgt kst => XS.iload X224.here hx rfl (hb hby (dB14 130)) rfl  kst) ?_
 refine own_go (fun tgt kst => XS.ifYes X224.here hx rfl (pc0 := 256) (pc' := 319) rfl (hb hby (dB14 131)) rfl ((if0 _ _).trans (tlt (by decide : (-1 : Int32) < (0 : Int32))).1) (by decide) (by decide) kst) ?_
 show OwnWk _ _ _ _ (T224.setTop (mkF m 319 #[vR a, vI (4 : Int32), vR ls, vJ stv, sX, vI (2 : Int32), vI (-1 : Int32), uX] []))
 exact own_retV X224 hx hlk hret (hb hby (dB14 166)) (by decide) (by decide) (by rw [e224]; exact ⟨rfl, N224, K223, kk, b84, b121, k0, k1, k2, k3, (List.replicate 2 0), (List.replicate 2 0), F211, F212, F218, F220, F217, F219, own_inv0⟩)
theorem ef_zkN (m : MethodId) (x0 : Addr) (x1 : Int32) (x2 : Addr) : entryFrame m #[(.ref x0), (.int x1), (.ref x2)] 8 = mkF m 0 #[vR x0, vI x1, vR x2, .unset, .unset, .unset, .unset, .unset] [] := by first | (simp [entryFrame, mkF, argsToLocals, Value.category]; done) | rfl
def Q_zkN (Z : State) (dce : Addr) (a ls ed : Addr) (ys ws : Nat → Addr) (Ms : Nat → Nat) (n : Nat) (xs : List Value) (h0 : Heap) (n0 : Nat) (v : Option Value) (h : Heap) (L : List Loc) : Prop := v = none ∧ Fr n0 L ∧ Keep h0 h [a] ∧ ∃ (kk zs zz : Addr) (k0 k1 k2 k3 : Int64) (SS : List Int64) (ZZ : List Nat), Fld Z h a "com/example/encircle/encircle/layout/ZoneKeys" "keys" "[J" (.ref kk) ∧ OAr Z h kk .long [(.long k0), (.long k1), (.long k2), (.long k3)] ∧ Fld Z h a "com/example/encircle/encircle/layout/ZoneKeys" "slotSums" "[J" (.ref zs) ∧ Fld Z h a "com/example/encircle/encircle/layout/ZoneKeys" "slotZones" "[I" (.ref zz) ∧ OAr Z h zs .long (own_jw SS) ∧ OAr Z h zz .int (own_iv ZZ) ∧ own_inv (2 ^ own_k n) n SS ZZ (own_Ez (own_f Ms k0 k1 k2 k3) 0 n)
set_option maxRecDepth 65536 in
set_option maxHeartbeats 40000000 in
theorem zkN (l : Launch) (Z : State) (a0 : Array Value) (hw : ∀ d ∈ tables_1, d.before a0 Z = true) (dce : Addr) (a ls ed : Addr) (ys ws : Nat → Addr) (Ms : Nat → Nat) (n : Nat) (xs : List Value) (h0 : Heap) (n0 : Nat) (Z0 : n0 ≤ h0.size) (O0 : Old Z n0 h0) (S_d : Sta Z Z.heap "java/util/ArrayList" "DEFAULTCAPACITY_EMPTY_ELEMENTDATA" "[Ljava/lang/Object;" (.ref dce)) (V_d : OAr Z Z.heap dce (.object "java/lang/Object") []) (S_a : Sta Z Z.heap "java/util/BitSet" "$assertionsDisabled" "Z" (.int (1 : Int32))) (pf0 : Exa Z h0 a "com/example/encircle/encircle/layout/ZoneKeys") (pf1 : Fld Z h0 a "com/example/encircle/encircle/layout/ZoneKeys" "keys" "[J" .null) (pf2 : Fld Z h0 a "com/example/encircle/encircle/layout/ZoneKeys" "sums" "[J" .null) (pf3 : Fld Z h0 a "com/example/encircle/encircle/layout/ZoneKeys" "sizes" "[I" .null) (pf4 : Fld Z h0 a "com/example/encircle/encircle/layout/ZoneKeys" "slotSums" "[J" .null) (pf5 : Fld Z h0 a "com/example/encircle/encircle/layout/ZoneKeys" "slotZones" "[I" .null) (pf6 : Fld Z h0 a "com/example/encircle/encircle/layout/ZoneKeys" "sameSum" "[I" .null) (pf7 : Exa Z h0 ls "java/util/ArrayList") (pf8 : Fld Z h0 ls "java/util/ArrayList" "size" "I" (.int (Int32.ofNat n))) (pf9 : Fld Z h0 ls "java/util/ArrayList" "elementData" "[Ljava/lang/Object;" (.ref ed)) (pf10 : OAr Z h0 ed (.object "java/lang/Object") xs) (dn0 : a ≠ ls) (dn1 : a ≠ ed) (gn0 : n0 ≤ a) (hn1 : 0 < n) (hn4 : n ≤ 4) (hxs : ∀ k, k < n → xs[k]? = some (.ref (ys k))) (Hz : ∀ k, k < n → Exa Z h0 (ys k) "java/util/BitSet" ∧ Fld Z h0 (ys k) "java/util/BitSet" "words" "[J" (.ref (ws k)) ∧ Fld Z h0 (ys k) "java/util/BitSet" "wordsInUse" "I" (.int (own_wu (Ms k))) ∧ OAr Z h0 (ws k) .long [.long (Int64.ofNat (Ms k))]) (hya : ∀ k, k < n → a ≠ ys k ∧ a ≠ ws k) (hMs : ∀ k, k < n → Ms k < 16) :
    OwnMet l yN14 prog_35_method_1_code 8 none [] ({ frames := 4, cells := 7, slots := 36, locals := 110 } : Room) Z #[(.ref a), (.int (4 : Int32)), (.ref ls)] h0 (Q_zkN Z dce a ls ed ys ws Ms n xs h0 n0) := by
 refine own_met pn_14 (fun p e s m below meth c s₁ hx hby hml hown hnm hret hlk hZ X0 e0 => ?_)
 have hown : s.vm.findClass "com/example/encircle/encircle/layout/ZoneKeys" = some m.cls := hown
 have N0 := Fr.nil n0
 have K0 := Keep.refl h0 [a]
 rw [ef_zkN]
 have hn31 : n < 2 ^ 31 := by omega
 have hS31 : 2 ^ own_k n < 2 ^ 31 := Nat.lt_of_le_of_lt own_S8 (by decide)
 have hkq := own_k4 (n := n)
 show OwnWk _ _ _ _ (s₁.setTop (mkF m 0 #[vR a, vI (4 : Int32), vR ls, uX, uX, uX, uX, uX] []))
 have lt1 : a < h0.size := pf0.lt
 refine zkeys l Z a0 hw a ls h0 n0 Z0 pf0 pf1 pf2 pf3 pf4 pf5 pf6 gn0 hx hby hml hown hnm hZ X0 e0 N0 (fun T2 h2 L2 kk k0 k1 k2 k3 stv kt X2 e2 N2 Kq2 szk Fk2 Vk2 Fn2_0 Fn2_1 Fn2_2 Fn2_3 Fn2_4 => ?_)
 have F3 := Exa.keep pf0 Kq2
 have F4 := Old.keep O0 Kq2 (allS gn0 all0)
 have Z5 := Nat.le_trans Z0 Kq2.1
 have K6 := Keep.trans K0 Kq2 (allS (Or.inl (List.mem_of_getElem? (i := 0) rfl)) all0)
 have ne7 := own_nl lt1 szk
 have ga8 : n0 ≤ kk := Nat.le_trans Z0 szk
 have sa9 : h0.size ≤ kk := Nat.le_trans K0.1 szk
 show OwnWk _ _ _ _ (T2.setTop (mkF m 77 #[vR a, vI (4 : Int32), vR ls, vJ stv, sX, vI (4 : Int32), vJ kt, sX] []))
 refine own_go (fun tgt kst => XS.aloadN X2.here hx rfl (hb hby (dB14 44)) rfl rfl  kst) ?_
 refine own_go (fun tgt kst => XS.aloadN X2.here hx rfl (hb hby (dB14 45)) rfl rfl  kst) ?_
 show OwnWk _ _ _ _ (T2.setTop (mkF m 79 #[vR a, vI (4 : Int32), vR ls, vJ stv, sX, vI (4 : Int32), vJ kt, sX] [(.ref ls), (.ref a)]))
 refine own_callI X2 hx hZ (y := (⟨"java/util/List", "size", "()I"⟩ : MethodName)) (z := yN15) hown (wq hw 97 rfl) (wq hw 98 rfl) (mvT hZ (wq hw 99 rfl)) (wq hw 100 rfl) (wq hw 101 rfl) (wq hw 102 rfl) (wq hw 103 rfl) (wq hw 104 rfl) (wq hw 31 rfl) (wq hw 105 rfl) (by decide) (a := ls) (Exa.keep pf7 K6) (argsL := []) (rest := [(.ref a)])  (h := h2) (rm15 l Z a0 hw ls (Int32.ofNat n) h2 n0 Z5 (Fld.keep pf8 K6 (ninS (Ne.symm dn0) nin0))) e2 (W := 1) (by decide) (by decide) (by decide) (by decide) rfl (by rw [hml]; rfl) (lenOf pd_10 rfl) rfl (by show 2 * 0 + _ ≤ _; exact Nat.le_of_eq rfl) (hb hby (dB14 46)) (fun v10 T10 h10 L10 X10 e10 hQ10 => ?_)
 obtain ⟨rfl, Nq10, q10⟩ := hQ10
 have N10 := Fr.app N2 Nq10
 rw [q10] at e10
 show OwnWk _ _ _ _ (T10.setTop (mkF m 84 #[vR a, vI (4 : Int32), vR ls, vJ stv, sX, vI (4 : Int32), vJ kt, sX] [(.int (Int32.ofNat n)), (.ref a)]))
 refine own_newP X10 hx hZ (aty := .long) (wq hw 26 rfl) e10 rfl (hb hby (dB14 47)) rfl (own_n_nn hn31) (cap := 4) (by rw [own_n_nat hn31]; exact hn4) (by decide) (by decide) (by decide) (fun T11 h11 b11 X11 e11 g11 E11 V11 => ?_)
 have ne12 := own_nl F3.lt (Nat.le_of_eq g11.symm)
 have ne13 := own_nl Vk2.lt (Nat.le_of_eq g11.symm)
 have ge14 : n0 ≤ b11 := Nat.le_trans Z5 (Nat.le_of_eq g11.symm)
 have sz15 : h0.size ≤ b11 := Nat.le_trans K6.1 (Nat.le_of_eq g11.symm)
 have F16 := Exa.ext E11 F3
 have F17 := Old.ext F4 E11
 have F18 := Fld.ext E11 Fk2
 have F19 := OAr.ext Vk2 E11
 have F20 := Fld.ext E11 Fn2_0
 have F21 := Fld.ext E11 Fn2_1
 have F22 := Fld.ext E11 Fn2_2
 have F23 := Fld.ext E11 Fn2_3
 have F24 := Fld.ext E11 Fn2_4
 have Z25 := Nat.le_trans Z5 E11.1
 have K26 := Keep.ext K6 E11
 have V11b : OAr Z h11 b11 .long (own_jw (List.replicate n 0)) := own_cast (own_rpJ hn31) V11
 show OwnWk _ _ _ _ (T11.setTop (mkF m 86 #[vR a, vI (4 : Int32), vR ls, vJ stv, sX, vI (4 : Int32), vJ kt, sX] [(.ref b11), (.ref a)]))
 obtain ⟨T27, h27, X27, e27, W27, st27⟩ := putF X11 hx hZ hown (host := "") (Or.inl (wq hw 106 rfl)) Via.refl e11 F20 F16 (Or.inr ⟨(wq hw 107 rfl), rfl, hnm⟩) (wq hw 85 rfl) (v := (.ref b11)) (ty := (.array .long)) (by decide) rfl rfl (g := (mkF m 86 #[vR a, vI (4 : Int32), vR ls, vJ stv, sX, vI (4 : Int32), vJ kt, sX] [(.ref b11), (.ref a)])) rfl rfl (hb hby (dB14 48))
 refine own_go st27 ?_
 have N27 := Fr.snoc X27 N10 gn0
 have Fw27 := Fld.same W27 F20
 have F28 := Exa.wr W27 F16
 have F29 := Old.wr F17 W27 gn0
 have F30 := Fld.other W27 F18 (Or.inr (slot_ne (Or.inr (wq hw 92 rfl)) (Or.inr (wq hw 107 rfl)) (by decide) (t := (.array .long)) (t' := (.array .long)) (by decide) (by decide)))
 have F31 := OAr.other F19 W27 (Ne.symm ne7)
 have F32 := Fld.other W27 F21 (Or.inr (slot_ne (Or.inr (wq hw 110 rfl)) (Or.inr (wq hw 107 rfl)) (by decide) (t := (.array .int)) (t' := (.array .long)) (by decide) (by decide)))
 have F33 := Fld.other W27 F22 (Or.inr (slot_ne (Or.inr (wq hw 161 rfl)) (Or.inr (wq hw 107 rfl)) (by decide) (t := (.array .long)) (t' := (.array .long)) (by decide) (by decide)))
 have F34 := Fld.other W27 F23 (Or.inr (slot_ne (Or.inr (wq hw 163 rfl)) (Or.inr (wq hw 107 rfl)) (by decide) (t := (.array .int)) (t' := (.array .long)) (by decide) (by decide)))
 have F35 := Fld.other W27 F24 (Or.inr (slot_ne (Or.inr (wq hw 165 rfl)) (Or.inr (wq hw 107 rfl)) (by decide) (t := (.array .int)) (t' := (.array .long)) (by decide) (by decide)))
 have F36 := OAr.other V11b W27 (Ne.symm ne12)
 have Z37 := Nat.le_trans Z25 (Keep.of_wr W27).1
 have K38 := Keep.wr K26 W27 (Or.inl (List.mem_of_getElem? (i := 0) rfl))
 show OwnWk _ _ _ _ (T27.setTop (mkF m 89 #[vR a, vI (4 : Int32), vR ls, vJ stv, sX, vI (4 : Int32), vJ kt, sX] []))
 refine own_go (fun tgt kst => XS.aloadN X27.here hx rfl (hb hby (dB14 49)) rfl rfl  kst) ?_
 refine own_go (fun tgt kst => XS.aloadN X27.here hx rfl (hb hby (dB14 50)) rfl rfl  kst) ?_
 show OwnWk _ _ _ _ (T27.setTop (mkF m 91 #[vR a, vI (4 : Int32), vR ls, vJ stv, sX, vI (4 : Int32), vJ kt, sX] [(.ref ls), (.ref a)]))
 refine own_callI X27 hx hZ (y := (⟨"java/util/List", "size", "()I"⟩ : MethodName)) (z := yN15) hown (wq hw 97 rfl) (wq hw 98 rfl) (mvT hZ (wq hw 99 rfl)) (wq hw 100 rfl) (wq hw 101 rfl) (wq hw 102 rfl) (wq hw 103 rfl) (wq hw 104 rfl) (wq hw 31 rfl) (wq hw 105 rfl) (by decide) (a := ls) (Exa.keep pf7 K38) (argsL := []) (rest := [(.ref a)])  (h := h27) (rm15 l Z a0 hw ls (Int32.ofNat n) h27 n0 Z37 (Fld.keep pf8 K38 (ninS (Ne.symm dn0) nin0))) e27 (W := 1) (by decide) (by decide) (by decide) (by decide) rfl (by rw [hml]; rfl) (lenOf pd_10 rfl) rfl (by show 2 * 0 + _ ≤ _; exact Nat.le_of_eq rfl) (hb hby (dB14 51)) (fun v39 T39 h39 L39 X39 e39 hQ39 => ?_)
 obtain ⟨rfl, Nq39, q39⟩ := hQ39
 have N39 := Fr.app N27 Nq39
 rw [q39] at e39
 show OwnWk _ _ _ _ (T39.setTop (mkF m 96 #[vR a, vI (4 : Int32), vR ls, vJ stv, sX, vI (4 : Int32), vJ kt, sX] [(.int (Int32.ofNat n)), (.ref a)]))
 refine own_newP X39 hx hZ (aty := .int) (wq hw 108 rfl) e39 rfl (hb hby (dB14 52)) rfl (own_n_nn hn31) (cap := 4) (by rw [own_n_nat hn31]; exact hn4) (by decide) (by decide) (by decide) (fun T40 h40 b40 X40 e40 g40 E40 V40 => ?_)
 have ne41 := own_nl F28.lt (Nat.le_of_eq g40.symm)
 have ne42 := own_nl F31.lt (Nat.le_of_eq g40.symm)
 have ne43 := own_nl F36.lt (Nat.le_of_eq g40.symm)
 have ge44 : n0 ≤ b40 := Nat.le_trans Z37 (Nat.le_of_eq g40.symm)
 have sz45 : h0.size ≤ b40 := Nat.le_trans K38.1 (Nat.le_of_eq g40.symm)
 have F46 := Exa.ext E40 F28
 have F47 := Old.ext F29 E40
 have F48 := Fld.ext E40 F30
 have F49 := OAr.ext F31 E40
 have F50 := Fld.ext E40 F32
 have F51 := Fld.ext E40 F33
 have F52 := Fld.ext E40 F34
 have F53 := Fld.ext E40 F35
 have F54 := OAr.ext F36 E40
 have F55 := Fld.ext E40 Fw27
 have Z56 := Nat.le_trans Z37 E40.1
 have K57 := Keep.ext K38 E40
 have V40b : OAr Z h40 b40 .int (own_kw (List.replicate n 0)) := own_cast (own_rpK hn31) V40
 show OwnWk _ _ _ _ (T40.setTop (mkF m 98 #[vR a, vI (4 : Int32), vR ls, vJ stv, sX, vI (4 : Int32), vJ kt, sX] [(.ref b40), (.ref a)]))
 obtain ⟨T58, h58, X58, e58, W58, st58⟩ := putF X40 hx hZ hown (host := "") (Or.inl (wq hw 109 rfl)) Via.refl e40 F50 F46 (Or.inr ⟨(wq hw 110 rfl), rfl, hnm⟩) (wq hw 85 rfl) (v := (.ref b40)) (ty := (.array .int)) (by decide) rfl rfl (g := (mkF m 98 #[vR a, vI (4 : Int32), vR ls, vJ stv, sX, vI (4 : Int32), vJ kt, sX] [(.ref b40), (.ref a)])) rfl rfl (hb hby (dB14 53))
 refine own_go st58 ?_
 have N58 := Fr.snoc X58 N39 gn0
 have Fw58 := Fld.same W58 F50
 have F59 := Exa.wr W58 F46
 have F60 := Old.wr F47 W58 gn0
 have F61 := Fld.other W58 F48 (Or.inr (slot_ne (Or.inr (wq hw 92 rfl)) (Or.inr (wq hw 110 rfl)) (by decide) (t := (.array .long)) (t' := (.array .int)) (by decide) (by decide)))
 have F62 := OAr.other F49 W58 (Ne.symm ne7)
 have F63 := Fld.other W58 F51 (Or.inr (slot_ne (Or.inr (wq hw 161 rfl)) (Or.inr (wq hw 110 rfl)) (by decide) (t := (.array .long)) (t' := (.array .int)) (by decide) (by decide)))
 have F64 := Fld.other W58 F52 (Or.inr (slot_ne (Or.inr (wq hw 163 rfl)) (Or.inr (wq hw 110 rfl)) (by decide) (t := (.array .int)) (t' := (.array .int)) (by decide) (by decide)))
 have F65 := Fld.other W58 F53 (Or.inr (slot_ne (Or.inr (wq hw 165 rfl)) (Or.inr (wq hw 110 rfl)) (by decide) (t := (.array .int)) (t' := (.array .int)) (by decide) (by decide)))
 have F66 := OAr.other F54 W58 (Ne.symm ne12)
 have F67 := Fld.other W58 F55 (Or.inr (slot_ne (Or.inr (wq hw 107 rfl)) (Or.inr (wq hw 110 rfl)) (by decide) (t := (.array .long)) (t' := (.array .int)) (by decide) (by decide)))
 have F68 := OAr.other V40b W58 (Ne.symm ne41)
 have Z69 := Nat.le_trans Z56 (Keep.of_wr W58).1
 have K70 := Keep.wr K57 W58 (Or.inl (List.mem_of_getElem? (i := 0) rfl))
 show OwnWk _ _ _ _ (T58.setTop (mkF m 101 #[vR a, vI (4 : Int32), vR ls, vJ stv, sX, vI (4 : Int32), vJ kt, sX] []))
 have Vv71 : OAr Z h58 b11 .long (own_jw (own_vs (own_f Ms k0 k1 k2 k3) n 0)) := by rw [own_vs_0]; exact F66
 refine own_go (fun tgt kst => XS.iconst X58.here hx rfl (hb hby (dB14 54)) kst) ?_
 refine own_go (fun tgt kst => XS.istore X58.here hx rfl (hb hby (dB14 55)) rfl (l' := #[vR a, vI (4 : Int32), vR ls, vJ stv, sX, vI (0 : Int32), vJ kt, sX]) rfl kst) ?_
 show OwnWk _ _ _ _ (T58.setTop (mkF m 104 #[vR a, vI (4 : Int32), vR ls, vJ stv, sX, vI (0 : Int32), vJ kt, sX] []))
 show OwnWk _ _ _ _ (T58.setTop (mkF m 104 #[vR a, vI (4 : Int32), vR ls, vJ stv, sX, vI (Int32.ofNat 0), vJ kt, sX] []))
 obtain ⟨hz72a, hz72b, hz72c, hz72d⟩ := Hz 0 hn1
 obtain ⟨ny72, nw72⟩ := hya 0 hn1
 have my72 : (ys 0) ≠ b11 := Nat.ne_of_lt (Nat.lt_of_lt_of_le hz72a.lt sz15)
 have mw72 : (ws 0) ≠ b11 := Nat.ne_of_lt (Nat.lt_of_lt_of_le hz72d.lt sz15)
 refine own_go (fun tgt kst => XS.iload X58.here hx rfl (hb hby (dB14 56)) rfl  kst) ?_
 refine own_go (fun tgt kst => XS.aloadN X58.here hx rfl (hb hby (dB14 57)) rfl rfl  kst) ?_
 refine own_gF X58 hx hZ hown (wq hw 106 rfl) Via.refl e58 F67 rfl rfl (hb hby (dB14 58)) fun T73 X73 e73 => ?_
 refine own_len X73 hx hZ e73 Vv71 rfl rfl (hb hby (dB14 59)) (N := (Int32.ofNat n)) (own_jw_len own_vs_len) ?_
 show OwnWk _ _ _ _ (T73.setTop (mkF m 111 #[vR a, vI (4 : Int32), vR ls, vJ stv, sX, vI (Int32.ofNat 0), vJ kt, sX] [(.int (Int32.ofNat n)), (.int (Int32.ofNat 0))]))
 refine own_go (fun tgt kst => XS.icmpNo X73.here hx rfl (hb hby (dB14 60)) rfl (tlt ((own_n_lt (by omega) (by omega)).mpr hn1)).2.1 kst) ?_
 show OwnWk _ _ _ _ (T73.setTop (mkF m 114 #[vR a, vI (4 : Int32), vR ls, vJ stv, sX, vI (Int32.ofNat 0), vJ kt, sX] []))
 refine own_go (fun tgt kst => XS.aloadN X73.here hx rfl (hb hby (dB14 61)) rfl rfl  kst) ?_
 refine own_go (fun tgt kst => XS.iload X73.here hx rfl (hb hby (dB14 62)) rfl  kst) ?_
 show OwnWk _ _ _ _ (T73.setTop (mkF m 117 #[vR a, vI (4 : Int32), vR ls, vJ stv, sX, vI (Int32.ofNat 0), vJ kt, sX] [(.int (Int32.ofNat 0)), (.ref ls)]))
 show OwnWk _ _ _ _ (T73.setTop (mkF m 117 #[vR a, vI (4 : Int32), vR ls, vJ stv, sX, vI (Int32.ofNat 0), vJ kt, sX] [(.int (Int32.ofNat 0)), (.ref ls)]))
 refine own_callI X73 hx hZ (y := (⟨"java/util/List", "get", "(I)Ljava/lang/Object;"⟩ : MethodName)) (z := yN16) hown (wq hw 111 rfl) (wq hw 112 rfl) (mvT hZ (wq hw 113 rfl)) (wq hw 114 rfl) (wq hw 115 rfl) (wq hw 116 rfl) (wq hw 117 rfl) (wq hw 104 rfl) (wq hw 31 rfl) (wq hw 118 rfl) (by decide) (a := ls) (Exa.keep pf7 K70) (argsL := [(.int (Int32.ofNat 0))]) (rest := [])  (h := h58) (get l Z a0 hw ls ed (ys 0) xs 0 n h58 n0 Z69 (Exa.keep pf7 K70) (Fld.keep pf8 K70 (ninS (Ne.symm dn0) nin0)) (Fld.keep pf9 K70 (ninS (Ne.symm dn0) nin0)) (OAr.keep pf10 K70 (ninS (Ne.symm dn1) nin0)) (by omega) (hxs 0 hn1) hn1 hn4) e73 (W := 0) (by decide) (by decide) (by decide) (by decide) rfl (by rw [hml]; rfl) (lenOf pd_9 rfl) rfl (by show 2 * 0 + _ ≤ _; exact Nat.le_of_eq rfl) (hb hby (dB14 63)) (fun v74 T74 h74 L74 X74 e74 hQ74 => ?_)
 obtain ⟨rfl, Nq74, q74⟩ := hQ74
 have N74 := Fr.app N58 Nq74
 rw [q74] at e74
 show OwnWk _ _ _ _ (T74.setTop (mkF m 122 #[vR a, vI (4 : Int32), vR ls, vJ stv, sX, vI (Int32.ofNat 0), vJ kt, sX] [(.ref (ys 0))]))
 obtain ⟨T75, X75, e75, st75⟩ := castY X74 hx hZ hown (wq hw 132 rfl) e74 (Ins.self (Exa.keep hz72a K70)) (g := (mkF m 122 #[vR a, vI (4 : Int32), vR ls, vJ stv, sX, vI (Int32.ofNat 0), vJ kt, sX] [(.ref (ys 0))])) rfl rfl (hb hby (dB14 64))
 refine own_go st75 ?_
 show OwnWk _ _ _ _ (T75.setTop (mkF m 125 #[vR a, vI (4 : Int32), vR ls, vJ stv, sX, vI (Int32.ofNat 0), vJ kt, sX] [(.ref (ys 0))]))
 refine own_go (fun tgt kst => XS.astore X75.here hx rfl (hb hby (dB14 65)) rfl rfl (l' := #[vR a, vI (4 : Int32), vR ls, vJ stv, sX, vI (Int32.ofNat 0), vR (ys 0), uX]) rfl kst) ?_
 refine own_go (fun tgt kst => XS.aload X75.here hx rfl (hb hby (dB14 66)) rfl rfl  kst) ?_
 refine own_go (fun tgt kst => XS.iconst X75.here hx rfl (hb hby (dB14 67)) kst) ?_
 show OwnWk _ _ _ _ (T75.setTop (mkF m 130 #[vR a, vI (4 : Int32), vR ls, vJ stv, sX, vI (Int32.ofNat 0), vR (ys 0), uX] [(.int (0 : Int32)), (.ref (ys 0))]))
 show OwnWk _ _ _ _ (T75.setTop (mkF m 130 #[vR a, vI (4 : Int32), vR ls, vJ stv, sX, vI (Int32.ofNat 0), vR (ys 0), uX] [(.int (Int32.ofNat 0)), (.ref (ys 0))]))
 refine own_callV X75 hx hZ (y := yN20) (z := yN20) hown (wq hw 134 rfl) (wq hw 135 rfl) (notFace_of_selects (args := #[]) (mvT hZ (wq hw 137 rfl))) (wq hw 137 rfl) (wq hw 136 rfl) (wq hw 7 rfl) (wq hw 138 rfl) (by decide) (a := (ys 0)) (Exa.keep hz72a K70) (argsL := [(.int (Int32.ofNat 0))]) (rest := [])  (h := h58) (nsb l Z a0 hw dce (ys 0) (ws 0) (Ms 0) 0 h58 n0 Z69 F60 S_d V_d S_a (Exa.keep hz72a K70) (Fld.keep hz72b K70 (ninS (Ne.symm ny72) nin0)) (Fld.keep hz72c K70 (ninS (Ne.symm ny72) nin0)) (OAr.keep hz72d K70 (ninS (Ne.symm nw72) nin0)) (hMs 0 hn1) (by decide)) e75 (W := 0) (by decide) (by decide) (by decide) (by decide) rfl (by rw [hml]; rfl) (lenOf pd_0 rfl) rfl (by show 2 * 0 + _ ≤ _; exact Nat.le_of_eq rfl) (hb hby (dB14 68)) (fun v76 T76 h76 L76 X76 e76 hQ76 => ?_)
 obtain ⟨rfl, Nq76, q76⟩ := hQ76
 have N76 := Fr.app N74 Nq76
 rw [q76] at e76
 show OwnWk _ _ _ _ (T76.setTop (mkF m 133 #[vR a, vI (4 : Int32), vR ls, vJ stv, sX, vI (Int32.ofNat 0), vR (ys 0), uX] [(.int (own_nsb (Ms 0) 0))]))
 refine own_go (fun tgt kst => XS.istore X76.here hx rfl (hb hby (dB14 69)) rfl (l' := #[vR a, vI (4 : Int32), vR ls, vJ stv, sX, vI (Int32.ofNat 0), vR (ys 0), vI (own_nsb (Ms 0) 0)]) rfl kst) ?_
 show OwnWk _ _ _ _ (T76.setTop (mkF m 135 #[vR a, vI (4 : Int32), vR ls, vJ stv, sX, vI (Int32.ofNat 0), vR (ys 0), vI (own_nsb (Ms 0) 0)] []))
 have Vc77 : OAr Z h58 b11 .long (own_jw ((own_vs (own_f Ms k0 k1 k2 k3) n 0).set 0 (0 : Int64))) := by rw [← own_vs_z]; exact Vv71
 refine zseg l Z a0 hw dce a ls (ys 0) (ws 0) b11 kk (Ms 0) 0 k0 k1 k2 k3 stv (own_vs (own_f Ms k0 k1 k2 k3) n 0) h58 n0 Z69 F60 S_d V_d S_a F59 F67 F61 F62 (Exa.keep hz72a K70) (Fld.keep hz72b K70 (ninS (Ne.symm ny72) nin0)) (Fld.keep hz72c K70 (ninS (Ne.symm ny72) nin0)) (OAr.keep hz72d K70 (ninS (Ne.symm nw72) nin0)) Vc77 ne12 ne13 my72 mw72 ge14 (hMs 0 hn1) (by rw [own_vs_len]; exact hn1) (by omega) hx hby hml hown hnm hZ (by decide) (by decide) X76 e76 N76 (fun T78 h78 L78  X78 e78 N78 Kq78 Vq78 => ?_)
 have F79 := Exa.keep F59 Kq78
 have F80 := Old.keep F60 Kq78 (allS ge14 all0)
 have F81 := Fld.keep F61 Kq78 (ninS ne12 nin0)
 have F82 := OAr.keep F62 Kq78 (ninS ne13 nin0)
 have F83 := Fld.keep F63 Kq78 (ninS ne12 nin0)
 have F84 := Fld.keep F64 Kq78 (ninS ne12 nin0)
 have F85 := Fld.keep F65 Kq78 (ninS ne12 nin0)
 have F86 := Fld.keep F67 Kq78 (ninS ne12 nin0)
 have F87 := OAr.keep F68 Kq78 (ninS (Ne.symm ne43) nin0)
 have F88 := Fld.keep Fw58 Kq78 (ninS ne12 nin0)
 have Z89 := Nat.le_trans Z69 Kq78.1
 have K90 := Keep.trans K70 Kq78 (allS (Or.inr sz15) all0)
 have Vd78 : OAr Z h78 b11 .long (own_jw (own_vs (own_f Ms k0 k1 k2 k3) n 1)) := by rw [← own_vs_s]; exact Vq78
 show OwnWk _ _ _ _ (T78.setTop (mkF m 171 #[vR a, vI (4 : Int32), vR ls, vJ stv, sX, vI (Int32.ofNat 0), vR (ys 0), vI (-1 : Int32)] []))
 refine own_go (fun tgt kst => XS.aloadN X78.here hx rfl (hb hby (dB14 90)) rfl rfl  kst) ?_
 refine own_gF X78 hx hZ hown (wq hw 109 rfl) Via.refl e78 F88 rfl rfl (hb hby (dB14 91)) fun T91 X91 e91 => ?_
 refine own_go (fun tgt kst => XS.iload X91.here hx rfl (hb hby (dB14 92)) rfl  kst) ?_
 refine own_go (fun tgt kst => XS.aload X91.here hx rfl (hb hby (dB14 93)) rfl rfl  kst) ?_
 show OwnWk _ _ _ _ (T91.setTop (mkF m 179 #[vR a, vI (4 : Int32), vR ls, vJ stv, sX, vI (Int32.ofNat 0), vR (ys 0), vI (-1 : Int32)] [(.ref (ys 0)), (.int (Int32.ofNat 0)), (.ref b40)]))
 refine own_callV X91 hx hZ (y := yN22) (z := yN22) hown (wq hw 145 rfl) (wq hw 146 rfl) (notFace_of_selects (args := #[]) (mvT hZ (wq hw 148 rfl))) (wq hw 148 rfl) (wq hw 147 rfl) (wq hw 7 rfl) (wq hw 149 rfl) (by decide) (a := (ys 0)) (Exa.keep hz72a K90) (argsL := []) (rest := [(.int (Int32.ofNat 0)), (.ref b40)])  (h := h78) (card l Z a0 hw (ys 0) (ws 0) (Ms 0) h78 n0 Z89 (Exa.keep hz72a K90) (Fld.keep hz72b K90 (ninS (Ne.symm ny72) nin0)) (Fld.keep hz72c K90 (ninS (Ne.symm ny72) nin0)) (OAr.keep hz72d K90 (ninS (Ne.symm nw72) nin0))) e91 (W := 2) (by decide) (by decide) (by decide) (by decide) rfl (by rw [hml]; rfl) (lenOf pd_10 rfl) rfl (by show 2 * 0 + _ ≤ _; exact Nat.le_of_eq rfl) (hb hby (dB14 94)) (fun v92 T92 h92 L92 X92 e92 hQ92 => ?_)
 obtain ⟨⟨rr92, rfl⟩, Nq92, q92⟩ := hQ92
 have N92 := Fr.app N78 Nq92
 rw [q92] at e92
 show OwnWk _ _ _ _ (T92.setTop (mkF m 182 #[vR a, vI (4 : Int32), vR ls, vJ stv, sX, vI (Int32.ofNat 0), vR (ys 0), vI (-1 : Int32)] [(.int rr92), (.int (Int32.ofNat 0)), (.ref b40)]))
 refine own_stI X92 hx hZ e92 F87 rfl rfl (hb hby (dB14 95)) (own_n_nn (by have := (by omega : 0 < 2 ^ 31); omega)) (own_kw_in (by rw [List.length_replicate]; exact hn1) (by omega : 0 < 2 ^ 31)) (fun T93 h93 X93 e93 W93 V93 => ?_)
 have V93b : OAr Z h93 b40 .int (own_kw ((List.replicate n 0).set 0 rr92)) := by exact own_cast (own_kw_set (a := rr92) (by omega : 0 < 2 ^ 31)) V93
 have N93 := Fr.snoc X93 N92 ge44
 have F94 := Exa.wr W93 F79
 have F95 := Old.wr F80 W93 ge44
 have F96 := Fld.other W93 F81 (Or.inl ne41)
 have F97 := OAr.other F82 W93 ne42
 have F98 := Fld.other W93 F83 (Or.inl ne41)
 have F99 := Fld.other W93 F84 (Or.inl ne41)
 have F100 := Fld.other W93 F85 (Or.inl ne41)
 have F101 := Fld.other W93 F86 (Or.inl ne41)
 have F102 := Fld.other W93 F88 (Or.inl ne41)
 have F103 := OAr.other Vd78 W93 ne43
 have Z104 := Nat.le_trans Z89 (Keep.of_wr W93).1
 have K105 := Keep.wr K90 W93 (Or.inr sz45)
 show OwnWk _ _ _ _ (T93.setTop (mkF m 183 #[vR a, vI (4 : Int32), vR ls, vJ stv, sX, vI (Int32.ofNat 0), vR (ys 0), vI (-1 : Int32)] []))
 refine own_go (fun tgt kst => XS.iinc X93.here hx rfl (hb hby (dB14 96)) rfl (l' := #[vR a, vI (4 : Int32), vR ls, vJ stv, sX, vI ((Int32.ofNat 0) + (1 : Int32)), vR (ys 0), vI (-1 : Int32)]) rfl kst) ?_
 refine own_go (fun tgt kst => XS.goto X93.here hx rfl (pc0 := 186) (pc' := 104) rfl (hb hby (dB14 97)) (by decide) (by decide) kst) ?_
 show OwnWk _ _ _ _ (T93.setTop (mkF m 104 #[vR a, vI (4 : Int32), vR ls, vJ stv, sX, vI ((Int32.ofNat 0) + (1 : Int32)), vR (ys 0), vI (-1 : Int32)] []))
 show OwnWk _ _ _ _ (T93.setTop (mkF m 104 #[vR a, vI (4 : Int32), vR ls, vJ stv, sX, vI (Int32.ofNat 1), vR (ys 0), vI (-1 : Int32)] []))
 have RS : ∀ (bq : Addr) (ts : List Int32) (T_ : State) (h_ : Heap) (L_ : List Loc), ts.length = n → Stand p l e ({ frames := 4, cells := 7, slots := 36, locals := 110 } : Room) s m #[(.ref a), (.int (4 : Int32)), (.ref ls)] below meth c T_ L_ 3 12 → T_.heap = h_ → Fr n0 L_ → n0 ≤ h_.size → Keep h0 h_ [a] → Old Z n0 h_ → Exa Z h_ a "com/example/encircle/encircle/layout/ZoneKeys" → Fld Z h_ a "com/example/encircle/encircle/layout/ZoneKeys" "keys" "[J" (.ref kk) → Fld Z h_ a "com/example/encircle/encircle/layout/ZoneKeys" "slotSums" "[J" .null → Fld Z h_ a "com/example/encircle/encircle/layout/ZoneKeys" "slotZones" "[I" .null → Fld Z h_ a "com/example/encircle/encircle/layout/ZoneKeys" "sameSum" "[I" .null → Fld Z h_ a "com/example/encircle/encircle/layout/ZoneKeys" "sums" "[J" (.ref b11) → Fld Z h_ a "com/example/encircle/encircle/layout/ZoneKeys" "sizes" "[I" (.ref b40) → OAr Z h_ kk .long [(.long k0), (.long k1), (.long k2), (.long k3)] → OAr Z h_ b11 .long (own_jw (own_vs (own_f Ms k0 k1 k2 k3) n n)) → OAr Z h_ b40 .int (own_kw ts) →
     OwnWk p e below (OwnP s (Q_zkN Z dce a ls ed ys ws Ms n xs h0 n0) ({ frames := 4, cells := 7, slots := 36, locals := 110 } : Room).cells ({ frames := 4, cells := 7, slots := 36, locals := 110 } : Room).slots) (T_.setTop (mkF m 189 #[vR a, vI (4 : Int32), vR ls, vJ stv, sX, vI (Int32.ofNat n), vR bq, vI (-1 : Int32)] [])) := by
  intro bq ts T_106 h_106 L_106 hts X_106 e_106 N_106 Z_106 K_106 O_106 f_0106 f_1106 f_2106 f_3106 f_4106 f_5106 f_6106 f_7106 f_8106 f_9106
  show OwnWk _ _ _ _ (T_106.setTop (mkF m 189 #[vR a, vI (4 : Int32), vR ls, vJ stv, sX, vI (Int32.ofNat n), vR bq, vI (-1 : Int32)] []))
  refine own_go (fun tgt kst => XS.iconst X_106.here hx rfl (hb hby (dB14 98)) kst) ?_
  refine own_go (fun tgt kst => XS.aloadN X_106.here hx rfl (hb hby (dB14 99)) rfl rfl  kst) ?_
  show OwnWk _ _ _ _ (T_106.setTop (mkF m 191 #[vR a, vI (4 : Int32), vR ls, vJ stv, sX, vI (Int32.ofNat n), vR bq, vI (-1 : Int32)] [(.ref ls), (.int (1 : Int32))]))
  refine own_callI X_106 hx hZ (y := (⟨"java/util/List", "size", "()I"⟩ : MethodName)) (z := yN15) hown (wq hw 97 rfl) (wq hw 98 rfl) (mvT hZ (wq hw 99 rfl)) (wq hw 100 rfl) (wq hw 101 rfl) (wq hw 102 rfl) (wq hw 103 rfl) (wq hw 104 rfl) (wq hw 31 rfl) (wq hw 105 rfl) (by decide) (a := ls) (Exa.keep pf7 K_106) (argsL := []) (rest := [(.int (1 : Int32))])  (h := h_106) (rm15 l Z a0 hw ls (Int32.ofNat n) h_106 n0 Z_106 (Fld.keep pf8 K_106 (ninS (Ne.symm dn0) nin0))) e_106 (W := 1) (by decide) (by decide) (by decide) (by decide) rfl (by rw [hml]; rfl) (lenOf pd_10 rfl) rfl (by show 2 * 0 + _ ≤ _; exact Nat.le_of_eq rfl) (hb hby (dB14 100)) (fun v107 T107 h107 L107 X107 e107 hQ107 => ?_)
  obtain ⟨rfl, Nq107, q107⟩ := hQ107
  have N107 := Fr.app N_106 Nq107
  rw [q107] at e107
  show OwnWk _ _ _ _ (T107.setTop (mkF m 196 #[vR a, vI (4 : Int32), vR ls, vJ stv, sX, vI (Int32.ofNat n), vR bq, vI (-1 : Int32)] [(.int (Int32.ofNat n)), (.int (1 : Int32))]))
  refine own_callS X107 hx hZ (y := yN13) hown (wq hw 150 rfl) (wq hw 78 rfl) (wq hw 79 rfl) (wq hw 80 rfl) (by decide) (argsL := [(.int (1 : Int32)), (.int (Int32.ofNat n))]) (rest := [])  (h := h_106) (rm13 l Z a0 hw (1 : Int32) (Int32.ofNat n) h_106 n0 Z_106) e107 (W := 0) (by decide) (by decide) (by decide) (by decide) rfl (by rw [hml]; rfl) (lenOf pd_4 rfl) rfl (by show 2 * 0 + _ ≤ _; exact Nat.le_of_eq rfl) (hb hby (dB14 101)) (fun v108 T108 h108 L108 X108 e108 hQ108 => ?_)
  obtain ⟨rfl, Nq108, q108⟩ := hQ108
  have N108 := Fr.app N107 Nq108
  rw [q108] at e108
  show OwnWk _ _ _ _ (T108.setTop (mkF m 199 #[vR a, vI (4 : Int32), vR ls, vJ stv, sX, vI (Int32.ofNat n), vR bq, vI (-1 : Int32)] [(.int (own_max (1 : Int32) (Int32.ofNat n)))]))
  refine own_go (fun tgt kst => XS.iconst X108.here hx rfl (hb hby (dB14 102)) kst) ?_
  refine own_go (fun tgt kst => XS.imul X108.here hx rfl (hb hby (dB14 103)) rfl kst) ?_
  refine own_go (fun tgt kst => XS.iconst X108.here hx rfl (hb hby (dB14 104)) kst) ?_
  refine own_go (fun tgt kst => XS.isub X108.here hx rfl (hb hby (dB14 105)) rfl kst) ?_
  show OwnWk _ _ _ _ (T108.setTop (mkF m 203 #[vR a, vI (4 : Int32), vR ls, vJ stv, sX, vI (Int32.ofNat n), vR bq, vI (-1 : Int32)] [(.int (((own_max (1 : Int32) (Int32.ofNat n)) * (4 : Int32)) - (1 : Int32)))]))
  rw [show (((own_max (1 : Int32) (Int32.ofNat n)) * (4 : Int32)) - (1 : Int32)) = (Int32.ofNat (own_q n)) from own_mq n (by omega) hn1]
  show OwnWk _ _ _ _ (T108.setTop (mkF m 203 #[vR a, vI (4 : Int32), vR ls, vJ stv, sX, vI (Int32.ofNat n), vR bq, vI (-1 : Int32)] [(.int (Int32.ofNat (own_q n)))]))
  refine own_callS X108 hx hZ (y := yN23) hown (wq hw 151 rfl) (wq hw 152 rfl) (wq hw 153 rfl) (wq hw 154 rfl) (by decide) (argsL := [(.int (Int32.ofNat (own_q n)))]) (rest := [])  (h := h_106) (hob l Z a0 hw n h_106 n0 Z_106 hn1 hn4) e108 (W := 0) (by decide) (by decide) (by decide) (by decide) rfl (by rw [hml]; rfl) (lenOf pd_0 rfl) rfl (by show 2 * 0 + _ ≤ _; exact Nat.le_of_eq rfl) (hb hby (dB14 106)) (fun v109 T109 h109 L109 X109 e109 hQ109 => ?_)
  obtain ⟨rfl, Nq109, q109⟩ := hQ109
  have N109 := Fr.app N108 Nq109
  rw [q109] at e109
  show OwnWk _ _ _ _ (T109.setTop (mkF m 206 #[vR a, vI (4 : Int32), vR ls, vJ stv, sX, vI (Int32.ofNat n), vR bq, vI (-1 : Int32)] [(.int (Int32.ofNat (2 ^ own_k n)))]))
  refine own_go (fun tgt kst => XS.istore X109.here hx rfl (hb hby (dB14 107)) rfl (l' := #[vR a, vI (4 : Int32), vR ls, vJ stv, sX, vI (Int32.ofNat (2 ^ own_k n)), vR bq, vI (-1 : Int32)]) rfl kst) ?_
  refine own_go (fun tgt kst => XS.aloadN X109.here hx rfl (hb hby (dB14 108)) rfl rfl  kst) ?_
  refine own_go (fun tgt kst => XS.iload X109.here hx rfl (hb hby (dB14 109)) rfl  kst) ?_
  refine own_newP X109 hx hZ (aty := .long) (wq hw 26 rfl) e109 rfl (hb hby (dB14 110)) rfl (own_n_nn hS31) (cap := 8) (by rw [own_n_nat hS31]; exact own_S8) (by decide) (by decide) (by decide) (fun T110 h110 b110 X110 e110 g110 E110 V110 => ?_)
  have ne111 := own_nl f_0106.lt (Nat.le_of_eq g110.symm)
  have ne112 := own_nl f_7106.lt (Nat.le_of_eq g110.symm)
  have ne113 := own_nl f_8106.lt (Nat.le_of_eq g110.symm)
  have ne114 := own_nl f_9106.lt (Nat.le_of_eq g110.symm)
  have ge115 : n0 ≤ b110 := Nat.le_trans Z_106 (Nat.le_of_eq g110.symm)
  have sz116 : h0.size ≤ b110 := Nat.le_trans K_106.1 (Nat.le_of_eq g110.symm)
  have F117 := Exa.ext E110 f_0106
  have F118 := Fld.ext E110 f_1106
  have F119 := Fld.ext E110 f_2106
  have F120 := Fld.ext E110 f_3106
  have F121 := Fld.ext E110 f_4106
  have F122 := Fld.ext E110 f_5106
  have F123 := Fld.ext E110 f_6106
  have F124 := OAr.ext f_7106 E110
  have F125 := OAr.ext f_8106 E110
  have F126 := OAr.ext f_9106 E110
  have F127 := Old.ext O_106 E110
  have Z128 := Nat.le_trans Z_106 E110.1
  have K129 := Keep.ext K_106 E110
  have V110b : OAr Z h110 b110 .long (own_jw (List.replicate (2 ^ own_k n) 0)) := own_cast (own_rpJ hS31) V110
  show OwnWk _ _ _ _ (T110.setTop (mkF m 213 #[vR a, vI (4 : Int32), vR ls, vJ stv, sX, vI (Int32.ofNat (2 ^ own_k n)), vR bq, vI (-1 : Int32)] [(.ref b110), (.ref a)]))
  obtain ⟨T130, h130, X130, e130, W130, st130⟩ := putF X110 hx hZ hown (host := "") (Or.inl (wq hw 160 rfl)) Via.refl e110 F119 F117 (Or.inr ⟨(wq hw 161 rfl), rfl, hnm⟩) (wq hw 85 rfl) (v := (.ref b110)) (ty := (.array .long)) (by decide) rfl rfl (g := (mkF m 213 #[vR a, vI (4 : Int32), vR ls, vJ stv, sX, vI (Int32.ofNat (2 ^ own_k n)), vR bq, vI (-1 : Int32)] [(.ref b110), (.ref a)])) rfl rfl (hb hby (dB14 111))
  refine own_go st130 ?_
  have N130 := Fr.snoc X130 N109 gn0
  have Fw130 := Fld.same W130 F119
  have F131 := Exa.wr W130 F117
  have F132 := Fld.other W130 F118 (Or.inr (slot_ne (Or.inr (wq hw 92 rfl)) (Or.inr (wq hw 161 rfl)) (by decide) (t := (.array .long)) (t' := (.array .long)) (by decide) (by decide)))
  have F133 := Fld.other W130 F120 (Or.inr (slot_ne (Or.inr (wq hw 163 rfl)) (Or.inr (wq hw 161 rfl)) (by decide) (t := (.array .int)) (t' := (.array .long)) (by decide) (by decide)))
  have F134 := Fld.other W130 F121 (Or.inr (slot_ne (Or.inr (wq hw 165 rfl)) (Or.inr (wq hw 161 rfl)) (by decide) (t := (.array .int)) (t' := (.array .long)) (by decide) (by decide)))
  have F135 := Fld.other W130 F122 (Or.inr (slot_ne (Or.inr (wq hw 107 rfl)) (Or.inr (wq hw 161 rfl)) (by decide) (t := (.array .long)) (t' := (.array .long)) (by decide) (by decide)))
  have F136 := Fld.other W130 F123 (Or.inr (slot_ne (Or.inr (wq hw 110 rfl)) (Or.inr (wq hw 161 rfl)) (by decide) (t := (.array .int)) (t' := (.array .long)) (by decide) (by decide)))
  have F137 := OAr.other F124 W130 (Ne.symm ne7)
  have F138 := OAr.other F125 W130 (Ne.symm ne12)
  have F139 := OAr.other F126 W130 (Ne.symm ne41)
  have F140 := Old.wr F127 W130 gn0
  have F141 := OAr.other V110b W130 (Ne.symm ne111)
  have Z142 := Nat.le_trans Z128 (Keep.of_wr W130).1
  have K143 := Keep.wr K129 W130 (Or.inl (List.mem_of_getElem? (i := 0) rfl))
  show OwnWk _ _ _ _ (T130.setTop (mkF m 216 #[vR a, vI (4 : Int32), vR ls, vJ stv, sX, vI (Int32.ofNat (2 ^ own_k n)), vR bq, vI (-1 : Int32)] []))
  refine own_go (fun tgt kst => XS.aloadN X130.here hx rfl (hb hby (dB14 112)) rfl rfl  kst) ?_
  refine own_go (fun tgt kst => XS.iload X130.here hx rfl (hb hby (dB14 113)) rfl  kst) ?_
  refine own_newP X130 hx hZ (aty := .int) (wq hw 108 rfl) e130 rfl (hb hby (dB14 114)) rfl (own_n_nn hS31) (cap := 8) (by rw [own_n_nat hS31]; exact own_S8) (by decide) (by decide) (by decide) (fun T144 h144 b144 X144 e144 g144 E144 V144 => ?_)
  have ne145 := own_nl F131.lt (Nat.le_of_eq g144.symm)
  have ne146 := own_nl F137.lt (Nat.le_of_eq g144.symm)
  have ne147 := own_nl F138.lt (Nat.le_of_eq g144.symm)
  have ne148 := own_nl F139.lt (Nat.le_of_eq g144.symm)
  have ne149 := own_nl F141.lt (Nat.le_of_eq g144.symm)
  have ge150 : n0 ≤ b144 := Nat.le_trans Z142 (Nat.le_of_eq g144.symm)
  have sz151 : h0.size ≤ b144 := Nat.le_trans K143.1 (Nat.le_of_eq g144.symm)
  have F152 := Exa.ext E144 F131
  have F153 := Fld.ext E144 F132
  have F154 := Fld.ext E144 F133
  have F155 := Fld.ext E144 F134
  have F156 := Fld.ext E144 F135
  have F157 := Fld.ext E144 F136
  have F158 := OAr.ext F137 E144
  have F159 := OAr.ext F138 E144
  have F160 := OAr.ext F139 E144
  have F161 := Old.ext F140 E144
  have F162 := OAr.ext F141 E144
  have F163 := Fld.ext E144 Fw130
  have Z164 := Nat.le_trans Z142 E144.1
  have K165 := Keep.ext K143 E144
  have V144b : OAr Z h144 b144 .int (own_iv (List.replicate (2 ^ own_k n) 0)) := own_cast (own_rpI hS31) V144
  show OwnWk _ _ _ _ (T144.setTop (mkF m 221 #[vR a, vI (4 : Int32), vR ls, vJ stv, sX, vI (Int32.ofNat (2 ^ own_k n)), vR bq, vI (-1 : Int32)] [(.ref b144), (.ref a)]))
  obtain ⟨T166, h166, X166, e166, W166, st166⟩ := putF X144 hx hZ hown (host := "") (Or.inl (wq hw 162 rfl)) Via.refl e144 F154 F152 (Or.inr ⟨(wq hw 163 rfl), rfl, hnm⟩) (wq hw 85 rfl) (v := (.ref b144)) (ty := (.array .int)) (by decide) rfl rfl (g := (mkF m 221 #[vR a, vI (4 : Int32), vR ls, vJ stv, sX, vI (Int32.ofNat (2 ^ own_k n)), vR bq, vI (-1 : Int32)] [(.ref b144), (.ref a)])) rfl rfl (hb hby (dB14 115))
  refine own_go st166 ?_
  have N166 := Fr.snoc X166 N130 gn0
  have Fw166 := Fld.same W166 F154
  have F167 := Exa.wr W166 F152
  have F168 := Fld.other W166 F153 (Or.inr (slot_ne (Or.inr (wq hw 92 rfl)) (Or.inr (wq hw 163 rfl)) (by decide) (t := (.array .long)) (t' := (.array .int)) (by decide) (by decide)))
  have F169 := Fld.other W166 F155 (Or.inr (slot_ne (Or.inr (wq hw 165 rfl)) (Or.inr (wq hw 163 rfl)) (by decide) (t := (.array .int)) (t' := (.array .int)) (by decide) (by decide)))
  have F170 := Fld.other W166 F156 (Or.inr (slot_ne (Or.inr (wq hw 107 rfl)) (Or.inr (wq hw 163 rfl)) (by decide) (t := (.array .long)) (t' := (.array .int)) (by decide) (by decide)))
  have F171 := Fld.other W166 F157 (Or.inr (slot_ne (Or.inr (wq hw 110 rfl)) (Or.inr (wq hw 163 rfl)) (by decide) (t := (.array .int)) (t' := (.array .int)) (by decide) (by decide)))
  have F172 := OAr.other F158 W166 (Ne.symm ne7)
  have F173 := OAr.other F159 W166 (Ne.symm ne12)
  have F174 := OAr.other F160 W166 (Ne.symm ne41)
  have F175 := Old.wr F161 W166 gn0
  have F176 := OAr.other F162 W166 (Ne.symm ne111)
  have F177 := Fld.other W166 F163 (Or.inr (slot_ne (Or.inr (wq hw 161 rfl)) (Or.inr (wq hw 163 rfl)) (by decide) (t := (.array .long)) (t' := (.array .int)) (by decide) (by decide)))
  have F178 := OAr.other V144b W166 (Ne.symm ne145)
  have Z179 := Nat.le_trans Z164 (Keep.of_wr W166).1
  have K180 := Keep.wr K165 W166 (Or.inl (List.mem_of_getElem? (i := 0) rfl))
  show OwnWk _ _ _ _ (T166.setTop (mkF m 224 #[vR a, vI (4 : Int32), vR ls, vJ stv, sX, vI (Int32.ofNat (2 ^ own_k n)), vR bq, vI (-1 : Int32)] []))
  refine own_go (fun tgt kst => XS.aloadN X166.here hx rfl (hb hby (dB14 116)) rfl rfl  kst) ?_
  refine own_go (fun tgt kst => XS.aloadN X166.here hx rfl (hb hby (dB14 117)) rfl rfl  kst) ?_
  show OwnWk _ _ _ _ (T166.setTop (mkF m 226 #[vR a, vI (4 : Int32), vR ls, vJ stv, sX, vI (Int32.ofNat (2 ^ own_k n)), vR bq, vI (-1 : Int32)] [(.ref ls), (.ref a)]))
  refine own_callI X166 hx hZ (y := (⟨"java/util/List", "size", "()I"⟩ : MethodName)) (z := yN15) hown (wq hw 97 rfl) (wq hw 98 rfl) (mvT hZ (wq hw 99 rfl)) (wq hw 100 rfl) (wq hw 101 rfl) (wq hw 102 rfl) (wq hw 103 rfl) (wq hw 104 rfl) (wq hw 31 rfl) (wq hw 105 rfl) (by decide) (a := ls) (Exa.keep pf7 K180) (argsL := []) (rest := [(.ref a)])  (h := h166) (rm15 l Z a0 hw ls (Int32.ofNat n) h166 n0 Z179 (Fld.keep pf8 K180 (ninS (Ne.symm dn0) nin0))) e166 (W := 1) (by decide) (by decide) (by decide) (by decide) rfl (by rw [hml]; rfl) (lenOf pd_10 rfl) rfl (by show 2 * 0 + _ ≤ _; exact Nat.le_of_eq rfl) (hb hby (dB14 118)) (fun v181 T181 h181 L181 X181 e181 hQ181 => ?_)
  obtain ⟨rfl, Nq181, q181⟩ := hQ181
  have N181 := Fr.app N166 Nq181
  rw [q181] at e181
  show OwnWk _ _ _ _ (T181.setTop (mkF m 231 #[vR a, vI (4 : Int32), vR ls, vJ stv, sX, vI (Int32.ofNat (2 ^ own_k n)), vR bq, vI (-1 : Int32)] [(.int (Int32.ofNat n)), (.ref a)]))
  refine own_newP X181 hx hZ (aty := .int) (wq hw 108 rfl) e181 rfl (hb hby (dB14 119)) rfl (own_n_nn hn31) (cap := 4) (by rw [own_n_nat hn31]; exact hn4) (by decide) (by decide) (by decide) (fun T182 h182 b182 X182 e182 g182 E182 V182 => ?_)
  have ne183 := own_nl F167.lt (Nat.le_of_eq g182.symm)
  have ne184 := own_nl F172.lt (Nat.le_of_eq g182.symm)
  have ne185 := own_nl F173.lt (Nat.le_of_eq g182.symm)
  have ne186 := own_nl F174.lt (Nat.le_of_eq g182.symm)
  have ne187 := own_nl F176.lt (Nat.le_of_eq g182.symm)
  have ne188 := own_nl F178.lt (Nat.le_of_eq g182.symm)
  have ge189 : n0 ≤ b182 := Nat.le_trans Z179 (Nat.le_of_eq g182.symm)
  have sz190 : h0.size ≤ b182 := Nat.le_trans K180.1 (Nat.le_of_eq g182.symm)
  have F191 := Exa.ext E182 F167
  have F192 := Fld.ext E182 F168
  have F193 := Fld.ext E182 F169
  have F194 := Fld.ext E182 F170
  have F195 := Fld.ext E182 F171
  have F196 := OAr.ext F172 E182
  have F197 := OAr.ext F173 E182
  have F198 := OAr.ext F174 E182
  have F199 := Old.ext F175 E182
  have F200 := OAr.ext F176 E182
  have F201 := Fld.ext E182 F177
  have F202 := OAr.ext F178 E182
  have F203 := Fld.ext E182 Fw166
  have Z204 := Nat.le_trans Z179 E182.1
  have K205 := Keep.ext K180 E182
  have V182b : OAr Z h182 b182 .int (own_kw (List.replicate n 0)) := own_cast (own_rpK hn31) V182
  show OwnWk _ _ _ _ (T182.setTop (mkF m 233 #[vR a, vI (4 : Int32), vR ls, vJ stv, sX, vI (Int32.ofNat (2 ^ own_k n)), vR bq, vI (-1 : Int32)] [(.ref b182), (.ref a)]))
  obtain ⟨T206, h206, X206, e206, W206, st206⟩ := putF X182 hx hZ hown (host := "") (Or.inl (wq hw 164 rfl)) Via.refl e182 F193 F191 (Or.inr ⟨(wq hw 165 rfl), rfl, hnm⟩) (wq hw 85 rfl) (v := (.ref b182)) (ty := (.array .int)) (by decide) rfl rfl (g := (mkF m 233 #[vR a, vI (4 : Int32), vR ls, vJ stv, sX, vI (Int32.ofNat (2 ^ own_k n)), vR bq, vI (-1 : Int32)] [(.ref b182), (.ref a)])) rfl rfl (hb hby (dB14 120))
  refine own_go st206 ?_
  have N206 := Fr.snoc X206 N181 gn0
  have Fw206 := Fld.same W206 F193
  have F207 := Exa.wr W206 F191
  have F208 := Fld.other W206 F192 (Or.inr (slot_ne (Or.inr (wq hw 92 rfl)) (Or.inr (wq hw 165 rfl)) (by decide) (t := (.array .long)) (t' := (.array .int)) (by decide) (by decide)))
  have F209 := Fld.other W206 F194 (Or.inr (slot_ne (Or.inr (wq hw 107 rfl)) (Or.inr (wq hw 165 rfl)) (by decide) (t := (.array .long)) (t' := (.array .int)) (by decide) (by decide)))
  have F210 := Fld.other W206 F195 (Or.inr (slot_ne (Or.inr (wq hw 110 rfl)) (Or.inr (wq hw 165 rfl)) (by decide) (t := (.array .int)) (t' := (.array .int)) (by decide) (by decide)))
  have F211 := OAr.other F196 W206 (Ne.symm ne7)
  have F212 := OAr.other F197 W206 (Ne.symm ne12)
  have F213 := OAr.other F198 W206 (Ne.symm ne41)
  have F214 := Old.wr F199 W206 gn0
  have F215 := OAr.other F200 W206 (Ne.symm ne111)
  have F216 := Fld.other W206 F201 (Or.inr (slot_ne (Or.inr (wq hw 161 rfl)) (Or.inr (wq hw 165 rfl)) (by decide) (t := (.array .long)) (t' := (.array .int)) (by decide) (by decide)))
  have F217 := OAr.other F202 W206 (Ne.symm ne145)
  have F218 := Fld.other W206 F203 (Or.inr (slot_ne (Or.inr (wq hw 163 rfl)) (Or.inr (wq hw 165 rfl)) (by decide) (t := (.array .int)) (t' := (.array .int)) (by decide) (by decide)))
  have F219 := OAr.other V182b W206 (Ne.symm ne183)
  have Z220 := Nat.le_trans Z204 (Keep.of_wr W206).1
  have K221 := Keep.wr K205 W206 (Or.inl (List.mem_of_getElem? (i := 0) rfl))
  show OwnWk _ _ _ _ (T206.setTop (mkF m 236 #[vR a, vI (4 : Int32), vR ls, vJ stv, sX, vI (Int32.ofNat (2 ^ own_k n)), vR bq, vI (-1 : Int32)] []))
  refine own_go (fun tgt kst => XS.aloadN X206.here hx rfl (hb hby (dB14 121)) rfl rfl  kst) ?_
  refine own_gF X206 hx hZ hown (wq hw 164 rfl) Via.refl e206 Fw206 rfl rfl (hb hby (dB14 122)) fun T222 X222 e222 => ?_
  refine own_go (fun tgt kst => XS.iconst X222.here hx rfl (hb hby (dB14 123)) kst) ?_
  show OwnWk _ _ _ _ (T222.setTop (mkF m 241 #[vR a, vI (4 : Int32), vR ls, vJ stv, sX, vI (Int32.ofNat (2 ^ own_k n)), vR bq, vI (-1 : Int32)] [(.int (-1 : Int32)), (.ref b182)]))
  refine own_callS X222 hx hZ (y := yN25) hown (wq hw 166 rfl) (wq hw 167 rfl) (wq hw 168 rfl) (wq hw 169 rfl) (by decide) (argsL := [(.ref b182), (.int (-1 : Int32))]) (rest := [])  (h := h206) (fil l Z a0 hw b182 (List.replicate n 0) n h206 n0 Z220 F219 ge189 List.length_replicate hn4) e222 (W := 0) (by decide) (by decide) (by decide) (by decide) rfl (by rw [hml]; rfl) (lenOf pd_11 rfl) rfl (by show 2 * 0 + _ ≤ _; exact Nat.le_of_eq rfl) (hb hby (dB14 124)) (fun v223 T223 h223 L223 X223 e223 hQ223 => ?_)
  obtain ⟨rfl, Nq223, Kq223, tq, htq, Vf223⟩ := hQ223
  have N223 := Fr.app N206 Nq223
  have F224 := Exa.keep F207 Kq223
  have F225 := Fld.keep F208 Kq223 (ninS ne183 nin0)
  have F226 := Fld.keep F209 Kq223 (ninS ne183 nin0)
  have F227 := Fld.keep F210 Kq223 (ninS ne183 nin0)
  have F228 := OAr.keep F211 Kq223 (ninS ne184 nin0)
  have F229 := OAr.keep F212 Kq223 (ninS ne185 nin0)
  have F230 := OAr.keep F213 Kq223 (ninS ne186 nin0)
  have F231 := Old.keep F214 Kq223 (allS ge189 all0)
  have F232 := OAr.keep F215 Kq223 (ninS ne187 nin0)
  have F233 := Fld.keep F216 Kq223 (ninS ne183 nin0)
  have F234 := OAr.keep F217 Kq223 (ninS ne188 nin0)
  have F235 := Fld.keep F218 Kq223 (ninS ne183 nin0)
  have F236 := Fld.keep Fw206 Kq223 (ninS ne183 nin0)
  have Z237 := Nat.le_trans Z220 Kq223.1
  have K238 := Keep.trans K221 Kq223 (allS (Or.inr sz190) all0)
  show OwnWk _ _ _ _ (T223.setTop (mkF m 244 #[vR a, vI (4 : Int32), vR ls, vJ stv, sX, vI (Int32.ofNat (2 ^ own_k n)), vR bq, vI (-1 : Int32)] []))
  refine own_go (fun tgt kst => XS.aloadN X223.here hx rfl (hb hby (dB14 125)) rfl rfl  kst) ?_
  show OwnWk _ _ _ _ (T223.setTop (mkF m 245 #[vR a, vI (4 : Int32), vR ls, vJ stv, sX, vI (Int32.ofNat (2 ^ own_k n)), vR bq, vI (-1 : Int32)] [(.ref ls)]))
  refine own_callI X223 hx hZ (y := (⟨"java/util/List", "size", "()I"⟩ : MethodName)) (z := yN15) hown (wq hw 97 rfl) (wq hw 98 rfl) (mvT hZ (wq hw 99 rfl)) (wq hw 100 rfl) (wq hw 101 rfl) (wq hw 102 rfl) (wq hw 103 rfl) (wq hw 104 rfl) (wq hw 31 rfl) (wq hw 105 rfl) (by decide) (a := ls) (Exa.keep pf7 K238) (argsL := []) (rest := [])  (h := h223) (rm15 l Z a0 hw ls (Int32.ofNat n) h223 n0 Z237 (Fld.keep pf8 K238 (ninS (Ne.symm dn0) nin0))) e223 (W := 0) (by decide) (by decide) (by decide) (by decide) rfl (by rw [hml]; rfl) (lenOf pd_10 rfl) rfl (by show 2 * 0 + _ ≤ _; exact Nat.le_of_eq rfl) (hb hby (dB14 126)) (fun v239 T239 h239 L239 X239 e239 hQ239 => ?_)
  obtain ⟨rfl, Nq239, q239⟩ := hQ239
  have N239 := Fr.app N223 Nq239
  rw [q239] at e239
  show OwnWk _ _ _ _ (T239.setTop (mkF m 250 #[vR a, vI (4 : Int32), vR ls, vJ stv, sX, vI (Int32.ofNat (2 ^ own_k n)), vR bq, vI (-1 : Int32)] [(.int (Int32.ofNat n))]))
  refine own_go (fun tgt kst => XS.iconst X239.here hx rfl (hb hby (dB14 127)) kst) ?_
  refine own_go (fun tgt kst => XS.isub X239.here hx rfl (hb hby (dB14 128)) rfl kst) ?_
  show OwnWk _ _ _ _ (T239.setTop (mkF m 252 #[vR a, vI (4 : Int32), vR ls, vJ stv, sX, vI (Int32.ofNat (2 ^ own_k n)), vR bq, vI (-1 : Int32)] [(.int ((Int32.ofNat n) - (1 : Int32)))]))
  refine own_go (fun tgt kst => XS.istore X239.here hx rfl (hb hby (dB14 129)) rfl (l' := #[vR a, vI (4 : Int32), vR ls, vJ stv, sX, vI (Int32.ofNat (2 ^ own_k n)), vI ((Int32.ofNat n) - (1 : Int32)), vI (-1 : Int32)]) rfl kst) ?_
  show OwnWk _ _ _ _ (T239.setTop (mkF m 254 #[vR a, vI (4 : Int32), vR ls, vJ stv, sX, vI (Int32.ofNat (2 ^ own_k n)), vI ((Int32.ofNat n) - (1 : Int32)), vI (-1 : Int32)] []))
  have LI : ∀ (d : Nat) (zi : Nat) (SS : List Int64) (ZZ : List Nat) (us : List Int32) (t7 : Int32) (T_ : State) (h_ : Heap) (L_ : List Loc), zi = d → zi ≤ n → us.length = n → own_inv (2 ^ own_k n) (n - zi) SS ZZ (own_Ez (own_f Ms k0 k1 k2 k3) zi (n - zi)) → Stand p l e ({ frames := 4, cells := 7, slots := 36, locals := 110 } : Room) s m #[(.ref a), (.int (4 : Int32)), (.ref ls)] below meth c T_ L_ 6 32 → T_.heap = h_ → Fr n0 L_ → n0 ≤ h_.size → Keep h0 h_ [a] → Old Z n0 h_ → Exa Z h_ a "com/example/encircle/encircle/layout/ZoneKeys" → Fld Z h_ a "com/example/encircle/encircle/layout/ZoneKeys" "keys" "[J" (.ref kk) → Fld Z h_ a "com/example/encircle/encircle/layout/ZoneKeys" "sums" "[J" (.ref b11) → Fld Z h_ a "com/example/encircle/encircle/layout/ZoneKeys" "slotSums" "[J" (.ref b110) → Fld Z h_ a "com/example/encircle/encircle/layout/ZoneKeys" "slotZones" "[I" (.ref b144) → Fld Z h_ a "com/example/encircle/encircle/layout/ZoneKeys" "sameSum" "[I" (.ref b182) → OAr Z h_ kk .long [(.long k0), (.long k1), (.long k2), (.long k3)] → OAr Z h_ b11 .long (own_jw (own_vs (own_f Ms k0 k1 k2 k3) n n)) → OAr Z h_ b110 .long (own_jw SS) → OAr Z h_ b144 .int (own_iv ZZ) → OAr Z h_ b182 .int (own_kw us) →
      OwnWk p e below (OwnP s (Q_zkN Z dce a ls ed ys ws Ms n xs h0 n0) ({ frames := 4, cells := 7, slots := 36, locals := 110 } : Room).cells ({ frames := 4, cells := 7, slots := 36, locals := 110 } : Room).slots) (T_.setTop (mkF m 254 #[vR a, vI (4 : Int32), vR ls, vJ stv, sX, vI (Int32.ofNat (2 ^ own_k n)), vI ((Int32.ofNat zi) - (1 : Int32)), vI t7] [])) := by
   intro d
   induction d with
   | zero =>
    intro zi SS ZZ us t7 T_ h_ L_ hzd hzn hus hinv X_ e_ N_ Z_ K_ O_ f_0 f_1 f_2 f_3 f_4 f_5 f_6 f_7 f_8 f_9 f_10
    show OwnWk _ _ _ _ (T_.setTop (mkF m 254 #[vR a, vI (4 : Int32), vR ls, vJ stv, sX, vI (Int32.ofNat (2 ^ own_k n)), vI ((Int32.ofNat zi) - (1 : Int32)), vI t7] []))
    refine own_go (fun tgt kst => XS.iload X_.here hx rfl (hb hby (dB14 130)) rfl  kst) ?_
    show OwnWk _ _ _ _ (T_.setTop (mkF m 256 #[vR a, vI (4 : Int32), vR ls, vJ stv, sX, vI (Int32.ofNat (2 ^ own_k n)), vI ((Int32.ofNat zi) - (1 : Int32)), vI t7] [(.int ((Int32.ofNat zi) - (1 : Int32)))]))
    obtain rfl : zi = 0 := hzd
    show OwnWk _ _ _ _ (T_.setTop (mkF m 256 #[vR a, vI (4 : Int32), vR ls, vJ stv, sX, vI (Int32.ofNat (2 ^ own_k n)), vI ((Int32.ofNat 0) - (1 : Int32)), vI t7] [(.int ((Int32.ofNat 0) - (1 : Int32)))]))
    refine own_go (fun tgt kst => XS.ifYes X_.here hx rfl (pc0 := 256) (pc' := 319) rfl (hb hby (dB14 131)) rfl ((if0 _ _).trans (tlt own_zneg).1) (by decide) (by decide) kst) ?_
    show OwnWk _ _ _ _ (T_.setTop (mkF m 319 #[vR a, vI (4 : Int32), vR ls, vJ stv, sX, vI (Int32.ofNat (2 ^ own_k n)), vI ((Int32.ofNat 0) - (1 : Int32)), vI t7] []))
    exact own_retV X_ hx hlk hret (hb hby (dB14 166)) (by decide) (by decide) (by rw [e_]; exact ⟨rfl, N_, K_, kk, b110, b144, k0, k1, k2, k3, SS, ZZ, f_1, f_6, f_3, f_4, f_8, f_9, hinv⟩)
   | succ d ih =>
    intro zi SS ZZ us t7 T_ h_ L_ hzd hzn hus hinv X_ e_ N_ Z_ K_ O_ f_0 f_1 f_2 f_3 f_4 f_5 f_6 f_7 f_8 f_9 f_10
    show OwnWk _ _ _ _ (T_.setTop (mkF m 254 #[vR a, vI (4 : Int32), vR ls, vJ stv, sX, vI (Int32.ofNat (2 ^ own_k n)), vI ((Int32.ofNat zi) - (1 : Int32)), vI t7] []))
    refine own_go (fun tgt kst => XS.iload X_.here hx rfl (hb hby (dB14 130)) rfl  kst) ?_
    show OwnWk _ _ _ _ (T_.setTop (mkF m 256 #[vR a, vI (4 : Int32), vR ls, vJ stv, sX, vI (Int32.ofNat (2 ^ own_k n)), vI ((Int32.ofNat zi) - (1 : Int32)), vI t7] [(.int ((Int32.ofNat zi) - (1 : Int32)))]))
    subst hzd
    rw [own_zm]
    show OwnWk _ _ _ _ (T_.setTop (mkF m 256 #[vR a, vI (4 : Int32), vR ls, vJ stv, sX, vI (Int32.ofNat (2 ^ own_k n)), vI (Int32.ofNat d), vI t7] [(.int (Int32.ofNat d))]))
    refine own_go (fun tgt kst => XS.ifNo X_.here hx rfl (hb hby (dB14 131)) rfl ((if0 _ _).trans (flt (own_n_nn (by omega))).1) kst) ?_
    show OwnWk _ _ _ _ (T_.setTop (mkF m 259 #[vR a, vI (4 : Int32), vR ls, vJ stv, sX, vI (Int32.ofNat (2 ^ own_k n)), vI (Int32.ofNat d), vI t7] []))
    have hdn : d < n := by omega
    refine own_go (fun tgt kst => XS.aloadN X_.here hx rfl (hb hby (dB14 132)) rfl rfl  kst) ?_
    refine own_go (fun tgt kst => XS.aloadN X_.here hx rfl (hb hby (dB14 133)) rfl rfl  kst) ?_
    refine own_gF X_ hx hZ hown (wq hw 106 rfl) Via.refl e_ f_2 rfl rfl (hb hby (dB14 134)) fun T240 X240 e240 => ?_
    refine own_go (fun tgt kst => XS.iload X240.here hx rfl (hb hby (dB14 135)) rfl  kst) ?_
    refine own_ldJ X240 hx hZ e240 f_7 rfl rfl (hb hby (dB14 136)) (v := (.long ((own_vs (own_f Ms k0 k1 k2 k3) n n).getD d 0))) (own_n_nn (by have := (by omega : d < 2 ^ 31); omega)) (own_jw_at (by rw [own_vs_len]; exact hdn) (by omega : d < 2 ^ 31)) ?_
    show OwnWk _ _ _ _ (T240.setTop (mkF m 267 #[vR a, vI (4 : Int32), vR ls, vJ stv, sX, vI (Int32.ofNat (2 ^ own_k n)), vI (Int32.ofNat d), vI t7] [(.long ((own_vs (own_f Ms k0 k1 k2 k3) n n).getD d 0)), (.ref a)]))
    rw [own_vs_at hdn]
    show OwnWk _ _ _ _ (T240.setTop (mkF m 267 #[vR a, vI (4 : Int32), vR ls, vJ stv, sX, vI (Int32.ofNat (2 ^ own_k n)), vI (Int32.ofNat d), vI t7] [(.long ((own_f Ms k0 k1 k2 k3) d)), (.ref a)]))
    refine own_callP X240 hx hZ (y := yN26) hown (wq hw 170 rfl) (wq hw 171 rfl) (own_selP (y := yN26) (wq hw 85 rfl) (wq hw 172 rfl) (wq hw 171 rfl) (by decide)) (wq hw 172 rfl) (wq hw 86 rfl) (wq hw 173 rfl) (by decide) (a := a) f_0 (argsL := [(.long ((own_f Ms k0 k1 k2 k3) d))]) (rest := [])  (h := h_) (slt l Z a0 hw a b110 b144 SS ZZ ((own_f Ms k0 k1 k2 k3) d) (own_k n) h_ n0 Z_ f_3 f_4 f_8 f_9 hkq hinv.ls hinv.lz hinv.sm (own_inv_free hinv (by have := own_nS n (by omega); omega))) e240 (W := 0) (by decide) (by decide) (by decide) (by decide) rfl (by rw [hml]; rfl) (lenOf pd_3 rfl) rfl (by show 2 * 0 + _ ≤ _; exact Nat.le_of_eq rfl) (hb hby (dB14 137)) (fun v241 T241 h241 L241 X241 e241 hQ241 => ?_)
    obtain ⟨PP, rfl, fdPP, Nq241, q241⟩ := hQ241
    have N241 := Fr.app N_ Nq241
    rw [q241] at e241
    have hPP := own_fd_lt fdPP
    have hPP31 : PP < 2 ^ 31 := Nat.lt_trans hPP hS31
    show OwnWk _ _ _ _ (T241.setTop (mkF m 270 #[vR a, vI (4 : Int32), vR ls, vJ stv, sX, vI (Int32.ofNat (2 ^ own_k n)), vI (Int32.ofNat d), vI t7] [(.int (Int32.ofNat PP))]))
    refine own_go (fun tgt kst => XS.istore X241.here hx rfl (hb hby (dB14 138)) rfl (l' := #[vR a, vI (4 : Int32), vR ls, vJ stv, sX, vI (Int32.ofNat (2 ^ own_k n)), vI (Int32.ofNat d), vI (Int32.ofNat PP)]) rfl kst) ?_
    refine own_go (fun tgt kst => XS.aloadN X241.here hx rfl (hb hby (dB14 139)) rfl rfl  kst) ?_
    refine own_gF X241 hx hZ hown (wq hw 164 rfl) Via.refl e241 f_5 rfl rfl (hb hby (dB14 140)) fun T242 X242 e242 => ?_
    refine own_go (fun tgt kst => XS.iload X242.here hx rfl (hb hby (dB14 141)) rfl  kst) ?_
    refine own_go (fun tgt kst => XS.aloadN X242.here hx rfl (hb hby (dB14 142)) rfl rfl  kst) ?_
    refine own_gF X242 hx hZ hown (wq hw 162 rfl) Via.refl e242 f_4 rfl rfl (hb hby (dB14 143)) fun T243 X243 e243 => ?_
    refine own_go (fun tgt kst => XS.iload X243.here hx rfl (hb hby (dB14 144)) rfl  kst) ?_
    refine own_ldI X243 hx hZ e243 f_9 rfl rfl (hb hby (dB14 145)) (v := (.int (Int32.ofNat (ZZ.getD PP 0)))) (own_n_nn (by have := hPP31; omega)) (own_iw_at (by rw [hinv.lz]; exact hPP) hPP31) ?_
    refine own_go (fun tgt kst => XS.iconst X243.here hx rfl (hb hby (dB14 146)) kst) ?_
    refine own_go (fun tgt kst => XS.isub X243.here hx rfl (hb hby (dB14 147)) rfl kst) ?_
    refine own_stI X243 hx hZ e243 f_10 rfl rfl (hb hby (dB14 148)) (own_n_nn (by have := (by omega : d < 2 ^ 31); omega)) (own_kw_in (by rw [hus]; exact hdn) (by omega : d < 2 ^ 31)) (fun T244 h244 X244 e244 W244 V244 => ?_)
    have V244b : OAr Z h244 b182 .int (own_kw (us.set d ((Int32.ofNat (ZZ.getD PP 0)) - (1 : Int32)))) := by exact own_cast (own_kw_set (a := ((Int32.ofNat (ZZ.getD PP 0)) - (1 : Int32))) (by omega : d < 2 ^ 31)) V244
    have N244 := Fr.snoc X244 N241 ge189
    have F245 := Exa.wr W244 f_0
    have F246 := Fld.other W244 f_1 (Or.inl ne183)
    have F247 := Fld.other W244 f_2 (Or.inl ne183)
    have F248 := Fld.other W244 f_3 (Or.inl ne183)
    have F249 := Fld.other W244 f_4 (Or.inl ne183)
    have F250 := Fld.other W244 f_5 (Or.inl ne183)
    have F251 := OAr.other f_6 W244 ne184
    have F252 := OAr.other f_7 W244 ne185
    have F253 := OAr.other f_8 W244 ne187
    have F254 := OAr.other f_9 W244 ne188
    have F255 := Old.wr O_ W244 ge189
    have Z256 := Nat.le_trans Z_ (Keep.of_wr W244).1
    have K257 := Keep.wr K_ W244 (Or.inr sz190)
    show OwnWk _ _ _ _ (T244.setTop (mkF m 288 #[vR a, vI (4 : Int32), vR ls, vJ stv, sX, vI (Int32.ofNat (2 ^ own_k n)), vI (Int32.ofNat d), vI (Int32.ofNat PP)] []))
    refine own_go (fun tgt kst => XS.aloadN X244.here hx rfl (hb hby (dB14 149)) rfl rfl  kst) ?_
    refine own_gF X244 hx hZ hown (wq hw 160 rfl) Via.refl e244 F248 rfl rfl (hb hby (dB14 150)) fun T258 X258 e258 => ?_
    refine own_go (fun tgt kst => XS.iload X258.here hx rfl (hb hby (dB14 151)) rfl  kst) ?_
    refine own_go (fun tgt kst => XS.aloadN X258.here hx rfl (hb hby (dB14 152)) rfl rfl  kst) ?_
    refine own_gF X258 hx hZ hown (wq hw 106 rfl) Via.refl e258 F247 rfl rfl (hb hby (dB14 153)) fun T259 X259 e259 => ?_
    refine own_go (fun tgt kst => XS.iload X259.here hx rfl (hb hby (dB14 154)) rfl  kst) ?_
    refine own_ldJ X259 hx hZ e259 F252 rfl rfl (hb hby (dB14 155)) (v := (.long ((own_vs (own_f Ms k0 k1 k2 k3) n n).getD d 0))) (own_n_nn (by have := (by omega : d < 2 ^ 31); omega)) (own_jw_at (by rw [own_vs_len]; exact hdn) (by omega : d < 2 ^ 31)) ?_
    show OwnWk _ _ _ _ (T259.setTop (mkF m 301 #[vR a, vI (4 : Int32), vR ls, vJ stv, sX, vI (Int32.ofNat (2 ^ own_k n)), vI (Int32.ofNat d), vI (Int32.ofNat PP)] [(.long ((own_vs (own_f Ms k0 k1 k2 k3) n n).getD d 0)), (.int (Int32.ofNat PP)), (.ref b110)]))
    rw [own_vs_at hdn]
    show OwnWk _ _ _ _ (T259.setTop (mkF m 301 #[vR a, vI (4 : Int32), vR ls, vJ stv, sX, vI (Int32.ofNat (2 ^ own_k n)), vI (Int32.ofNat d), vI (Int32.ofNat PP)] [(.long ((own_f Ms k0 k1 k2 k3) d)), (.int (Int32.ofNat PP)), (.ref b110)]))
    refine own_stJ X259 hx hZ e259 F253 rfl rfl (hb hby (dB14 156)) (own_n_nn (by have := hPP31; omega)) (own_jw_in (by rw [hinv.ls]; exact hPP) hPP31) (fun T260 h260 X260 e260 W260 V260 => ?_)
    have V260b : OAr Z h260 b110 .long (own_jw (SS.set PP ((own_f Ms k0 k1 k2 k3) d))) := by exact own_cast (own_jw_set (a := ((own_f Ms k0 k1 k2 k3) d)) hPP31) V260
    have N260 := Fr.snoc X260 N244 ge115
    have F261 := Exa.wr W260 F245
    have F262 := Fld.other W260 F246 (Or.inl ne111)
    have F263 := Fld.other W260 F247 (Or.inl ne111)
    have F264 := Fld.other W260 F248 (Or.inl ne111)
    have F265 := Fld.other W260 F249 (Or.inl ne111)
    have F266 := Fld.other W260 F250 (Or.inl ne111)
    have F267 := OAr.other F251 W260 ne112
    have F268 := OAr.other F252 W260 ne113
    have F269 := OAr.other F254 W260 (Ne.symm ne149)
    have F270 := Old.wr F255 W260 ge115
    have F271 := OAr.other V244b W260 (Ne.symm ne187)
    have Z272 := Nat.le_trans Z256 (Keep.of_wr W260).1
    have K273 := Keep.wr K257 W260 (Or.inr sz116)
    refine own_go (fun tgt kst => XS.aloadN X260.here hx rfl (hb hby (dB14 157)) rfl rfl  kst) ?_
    refine own_gF X260 hx hZ hown (wq hw 162 rfl) Via.refl e260 F265 rfl rfl (hb hby (dB14 158)) fun T274 X274 e274 => ?_
    refine own_go (fun tgt kst => XS.iload X274.here hx rfl (hb hby (dB14 159)) rfl  kst) ?_
    refine own_go (fun tgt kst => XS.iload X274.here hx rfl (hb hby (dB14 160)) rfl  kst) ?_
    refine own_go (fun tgt kst => XS.iconst X274.here hx rfl (hb hby (dB14 161)) kst) ?_
    refine own_go (fun tgt kst => XS.iadd X274.here hx rfl (hb hby (dB14 162)) rfl kst) ?_
    show OwnWk _ _ _ _ (T274.setTop (mkF m 312 #[vR a, vI (4 : Int32), vR ls, vJ stv, sX, vI (Int32.ofNat (2 ^ own_k n)), vI (Int32.ofNat d), vI (Int32.ofNat PP)] [(.int ((Int32.ofNat d) + (1 : Int32))), (.int (Int32.ofNat PP)), (.ref b144)]))
    rw [own_n_succ]
    show OwnWk _ _ _ _ (T274.setTop (mkF m 312 #[vR a, vI (4 : Int32), vR ls, vJ stv, sX, vI (Int32.ofNat (2 ^ own_k n)), vI (Int32.ofNat d), vI (Int32.ofNat PP)] [(.int (Int32.ofNat (d + 1))), (.int (Int32.ofNat PP)), (.ref b144)]))
    refine own_stI X274 hx hZ e274 F269 rfl rfl (hb hby (dB14 163)) (own_n_nn (by have := hPP31; omega)) (own_iw_in (by rw [hinv.lz]; exact hPP) hPP31) (fun T275 h275 X275 e275 W275 V275 => ?_)
    have V275b : OAr Z h275 b144 .int (own_iv (ZZ.set PP (d + 1))) := by exact own_cast (own_iw_set (a := (d + 1)) hPP31) V275
    have N275 := Fr.snoc X275 N260 ge150
    have F276 := Exa.wr W275 F261
    have F277 := Fld.other W275 F262 (Or.inl ne145)
    have F278 := Fld.other W275 F263 (Or.inl ne145)
    have F279 := Fld.other W275 F264 (Or.inl ne145)
    have F280 := Fld.other W275 F265 (Or.inl ne145)
    have F281 := Fld.other W275 F266 (Or.inl ne145)
    have F282 := OAr.other F267 W275 ne146
    have F283 := OAr.other F268 W275 ne147
    have F284 := Old.wr F270 W275 ge150
    have F285 := OAr.other F271 W275 (Ne.symm ne188)
    have F286 := OAr.other V260b W275 ne149
    have Z287 := Nat.le_trans Z272 (Keep.of_wr W275).1
    have K288 := Keep.wr K273 W275 (Or.inr sz151)
    refine own_go (fun tgt kst => XS.iinc X275.here hx rfl (hb hby (dB14 164)) rfl (l' := #[vR a, vI (4 : Int32), vR ls, vJ stv, sX, vI (Int32.ofNat (2 ^ own_k n)), vI ((Int32.ofNat d) + (-1 : Int32)), vI (Int32.ofNat PP)]) rfl kst) ?_
    show OwnWk _ _ _ _ (T275.setTop (mkF m 316 #[vR a, vI (4 : Int32), vR ls, vJ stv, sX, vI (Int32.ofNat (2 ^ own_k n)), vI ((Int32.ofNat d) + (-1 : Int32)), vI (Int32.ofNat PP)] []))
    rw [own_zd]
    show OwnWk _ _ _ _ (T275.setTop (mkF m 316 #[vR a, vI (4 : Int32), vR ls, vJ stv, sX, vI (Int32.ofNat (2 ^ own_k n)), vI ((Int32.ofNat d) - (1 : Int32)), vI (Int32.ofNat PP)] []))
    refine own_go (fun tgt kst => XS.goto X275.here hx rfl (pc0 := 316) (pc' := 254) rfl (hb hby (dB14 165)) (by decide) (by decide) kst) ?_
    show OwnWk _ _ _ _ (T275.setTop (mkF m 254 #[vR a, vI (4 : Int32), vR ls, vJ stv, sX, vI (Int32.ofNat (2 ^ own_k n)), vI ((Int32.ofNat d) - (1 : Int32)), vI (Int32.ofNat PP)] []))
    have hi2 := own_ins (z := d) (Nat.two_pow_pos _) hinv fdPP (by omega)
    rw [show n - (d + 1) + 1 = n - d by omega] at hi2
    exact ih d (SS.set PP ((own_f Ms k0 k1 k2 k3) d)) (ZZ.set PP (d + 1)) (us.set d ((Int32.ofNat (ZZ.getD PP 0)) - (1 : Int32))) _ _ _ _ rfl (by omega) (by rw [List.length_set]; exact hus) (own_invE hi2 (by omega)) X275 e275 N275 Z287 K288 F284 F276 F277 F278 F279 F280 F281 F282 F283 F286 V275b F285
  show OwnWk _ _ _ _ (T239.setTop (mkF m 254 #[vR a, vI (4 : Int32), vR ls, vJ stv, sX, vI (Int32.ofNat (2 ^ own_k n)), vI ((Int32.ofNat n) - (1 : Int32)), vI (-1 : Int32)] []))
  exact LI n n (List.replicate (2 ^ own_k n) 0) (List.replicate (2 ^ own_k n) 0) tq _ _ _ _ rfl (Nat.le_refl n) htq (by rw [Nat.sub_self]; exact own_inv0) X239 e239 N239 Z237 K238 F231 F224 F225 F226 F233 F235 F236 F228 F229 F232 F234 Vf223
 have LZ : ∀ (d : Nat) (zi : Nat) (bq : Addr) (ts : List Int32) (T_ : State) (h_ : Heap) (L_ : List Loc), zi + d = n → ts.length = n → Stand p l e ({ frames := 4, cells := 7, slots := 36, locals := 110 } : Room) s m #[(.ref a), (.int (4 : Int32)), (.ref ls)] below meth c T_ L_ 3 12 → T_.heap = h_ → Fr n0 L_ → n0 ≤ h_.size → Keep h0 h_ [a] → Old Z n0 h_ → Exa Z h_ a "com/example/encircle/encircle/layout/ZoneKeys" → Fld Z h_ a "com/example/encircle/encircle/layout/ZoneKeys" "keys" "[J" (.ref kk) → Fld Z h_ a "com/example/encircle/encircle/layout/ZoneKeys" "slotSums" "[J" .null → Fld Z h_ a "com/example/encircle/encircle/layout/ZoneKeys" "slotZones" "[I" .null → Fld Z h_ a "com/example/encircle/encircle/layout/ZoneKeys" "sameSum" "[I" .null → Fld Z h_ a "com/example/encircle/encircle/layout/ZoneKeys" "sums" "[J" (.ref b11) → Fld Z h_ a "com/example/encircle/encircle/layout/ZoneKeys" "sizes" "[I" (.ref b40) → OAr Z h_ kk .long [(.long k0), (.long k1), (.long k2), (.long k3)] → OAr Z h_ b11 .long (own_jw (own_vs (own_f Ms k0 k1 k2 k3) n zi)) → OAr Z h_ b40 .int (own_kw ts) →
     OwnWk p e below (OwnP s (Q_zkN Z dce a ls ed ys ws Ms n xs h0 n0) ({ frames := 4, cells := 7, slots := 36, locals := 110 } : Room).cells ({ frames := 4, cells := 7, slots := 36, locals := 110 } : Room).slots) (T_.setTop (mkF m 104 #[vR a, vI (4 : Int32), vR ls, vJ stv, sX, vI (Int32.ofNat zi), vR bq, vI (-1 : Int32)] [])) := by
  intro d
  induction d with
  | zero =>
   intro zi bq ts T_ h_ L_ hzd hts X_ e_ N_ Z_ K_ O_ f_0 f_1 f_2 f_3 f_4 f_5 f_6 f_7 f_8 f_9
   show OwnWk _ _ _ _ (T_.setTop (mkF m 104 #[vR a, vI (4 : Int32), vR ls, vJ stv, sX, vI (Int32.ofNat zi), vR bq, vI (-1 : Int32)] []))
   have hzq : zi = n := hzd
   refine own_go (fun tgt kst => XS.iload X_.here hx rfl (hb hby (dB14 56)) rfl  kst) ?_
   refine own_go (fun tgt kst => XS.aloadN X_.here hx rfl (hb hby (dB14 57)) rfl rfl  kst) ?_
   refine own_gF X_ hx hZ hown (wq hw 106 rfl) Via.refl e_ f_5 rfl rfl (hb hby (dB14 58)) fun T289 X289 e289 => ?_
   refine own_len X289 hx hZ e289 f_8 rfl rfl (hb hby (dB14 59)) (N := (Int32.ofNat n)) (own_jw_len own_vs_len) ?_
   show OwnWk _ _ _ _ (T289.setTop (mkF m 111 #[vR a, vI (4 : Int32), vR ls, vJ stv, sX, vI (Int32.ofNat zi), vR bq, vI (-1 : Int32)] [(.int (Int32.ofNat n)), (.int (Int32.ofNat zi))]))
   refine own_go (fun tgt kst => XS.icmpYes X289.here hx rfl (pc0 := 111) (pc' := 189) rfl (hb hby (dB14 60)) rfl (flt (fun z => absurd ((own_n_lt (by omega) (by omega)).mp z) (by omega))).2.1 (by decide) (by decide) kst) ?_
   show OwnWk _ _ _ _ (T289.setTop (mkF m 189 #[vR a, vI (4 : Int32), vR ls, vJ stv, sX, vI (Int32.ofNat zi), vR bq, vI (-1 : Int32)] []))
   rw [hzq]
   show OwnWk _ _ _ _ (T289.setTop (mkF m 189 #[vR a, vI (4 : Int32), vR ls, vJ stv, sX, vI (Int32.ofNat n), vR bq, vI (-1 : Int32)] []))
   exact RS bq ts _ _ _ hts X289 e289 N_ Z_ K_ O_ f_0 f_1 f_2 f_3 f_4 f_5 f_6 f_7 (hzq ▸ f_8) f_9
  | succ d ih =>
   intro zi bq ts T_ h_ L_ hzd hts X_ e_ N_ Z_ K_ O_ f_0 f_1 f_2 f_3 f_4 f_5 f_6 f_7 f_8 f_9
   show OwnWk _ _ _ _ (T_.setTop (mkF m 104 #[vR a, vI (4 : Int32), vR ls, vJ stv, sX, vI (Int32.ofNat zi), vR bq, vI (-1 : Int32)] []))
   have hzn : zi < n := by omega
   obtain ⟨hz290a, hz290b, hz290c, hz290d⟩ := Hz zi hzn
   obtain ⟨ny290, nw290⟩ := hya zi hzn
   have my290 : (ys zi) ≠ b11 := Nat.ne_of_lt (Nat.lt_of_lt_of_le hz290a.lt sz15)
   have mw290 : (ws zi) ≠ b11 := Nat.ne_of_lt (Nat.lt_of_lt_of_le hz290d.lt sz15)
   refine own_go (fun tgt kst => XS.iload X_.here hx rfl (hb hby (dB14 56)) rfl  kst) ?_
   refine own_go (fun tgt kst => XS.aloadN X_.here hx rfl (hb hby (dB14 57)) rfl rfl  kst) ?_
   refine own_gF X_ hx hZ hown (wq hw 106 rfl) Via.refl e_ f_5 rfl rfl (hb hby (dB14 58)) fun T291 X291 e291 => ?_
   refine own_len X291 hx hZ e291 f_8 rfl rfl (hb hby (dB14 59)) (N := (Int32.ofNat n)) (own_jw_len own_vs_len) ?_
   show OwnWk _ _ _ _ (T291.setTop (mkF m 111 #[vR a, vI (4 : Int32), vR ls, vJ stv, sX, vI (Int32.ofNat zi), vR bq, vI (-1 : Int32)] [(.int (Int32.ofNat n)), (.int (Int32.ofNat zi))]))
   refine own_go (fun tgt kst => XS.icmpNo X291.here hx rfl (hb hby (dB14 60)) rfl (tlt ((own_n_lt (by omega) (by omega)).mpr hzn)).2.1 kst) ?_
   show OwnWk _ _ _ _ (T291.setTop (mkF m 114 #[vR a, vI (4 : Int32), vR ls, vJ stv, sX, vI (Int32.ofNat zi), vR bq, vI (-1 : Int32)] []))
   refine own_go (fun tgt kst => XS.aloadN X291.here hx rfl (hb hby (dB14 61)) rfl rfl  kst) ?_
   refine own_go (fun tgt kst => XS.iload X291.here hx rfl (hb hby (dB14 62)) rfl  kst) ?_
   show OwnWk _ _ _ _ (T291.setTop (mkF m 117 #[vR a, vI (4 : Int32), vR ls, vJ stv, sX, vI (Int32.ofNat zi), vR bq, vI (-1 : Int32)] [(.int (Int32.ofNat zi)), (.ref ls)]))
   show OwnWk _ _ _ _ (T291.setTop (mkF m 117 #[vR a, vI (4 : Int32), vR ls, vJ stv, sX, vI (Int32.ofNat zi), vR bq, vI (-1 : Int32)] [(.int (Int32.ofNat zi)), (.ref ls)]))
   refine own_callI X291 hx hZ (y := (⟨"java/util/List", "get", "(I)Ljava/lang/Object;"⟩ : MethodName)) (z := yN16) hown (wq hw 111 rfl) (wq hw 112 rfl) (mvT hZ (wq hw 113 rfl)) (wq hw 114 rfl) (wq hw 115 rfl) (wq hw 116 rfl) (wq hw 117 rfl) (wq hw 104 rfl) (wq hw 31 rfl) (wq hw 118 rfl) (by decide) (a := ls) (Exa.keep pf7 K_) (argsL := [(.int (Int32.ofNat zi))]) (rest := [])  (h := h_) (get l Z a0 hw ls ed (ys zi) xs zi n h_ n0 Z_ (Exa.keep pf7 K_) (Fld.keep pf8 K_ (ninS (Ne.symm dn0) nin0)) (Fld.keep pf9 K_ (ninS (Ne.symm dn0) nin0)) (OAr.keep pf10 K_ (ninS (Ne.symm dn1) nin0)) (by omega) (hxs zi hzn) hzn hn4) e291 (W := 0) (by decide) (by decide) (by decide) (by decide) rfl (by rw [hml]; rfl) (lenOf pd_9 rfl) rfl (by show 2 * 0 + _ ≤ _; exact Nat.le_of_eq rfl) (hb hby (dB14 63)) (fun v292 T292 h292 L292 X292 e292 hQ292 => ?_)
   obtain ⟨rfl, Nq292, q292⟩ := hQ292
   have N292 := Fr.app N_ Nq292
   rw [q292] at e292
   show OwnWk _ _ _ _ (T292.setTop (mkF m 122 #[vR a, vI (4 : Int32), vR ls, vJ stv, sX, vI (Int32.ofNat zi), vR bq, vI (-1 : Int32)] [(.ref (ys zi))]))
   obtain ⟨T293, X293, e293, st293⟩ := castY X292 hx hZ hown (wq hw 132 rfl) e292 (Ins.self (Exa.keep hz290a K_)) (g := (mkF m 122 #[vR a, vI (4 : Int32), vR ls, vJ stv, sX, vI (Int32.ofNat zi), vR bq, vI (-1 : Int32)] [(.ref (ys zi))])) rfl rfl (hb hby (dB14 64))
   refine own_go st293 ?_
   show OwnWk _ _ _ _ (T293.setTop (mkF m 125 #[vR a, vI (4 : Int32), vR ls, vJ stv, sX, vI (Int32.ofNat zi), vR bq, vI (-1 : Int32)] [(.ref (ys zi))]))
   refine own_go (fun tgt kst => XS.astore X293.here hx rfl (hb hby (dB14 65)) rfl rfl (l' := #[vR a, vI (4 : Int32), vR ls, vJ stv, sX, vI (Int32.ofNat zi), vR (ys zi), vI (-1 : Int32)]) rfl kst) ?_
   refine own_go (fun tgt kst => XS.aload X293.here hx rfl (hb hby (dB14 66)) rfl rfl  kst) ?_
   refine own_go (fun tgt kst => XS.iconst X293.here hx rfl (hb hby (dB14 67)) kst) ?_
   show OwnWk _ _ _ _ (T293.setTop (mkF m 130 #[vR a, vI (4 : Int32), vR ls, vJ stv, sX, vI (Int32.ofNat zi), vR (ys zi), vI (-1 : Int32)] [(.int (0 : Int32)), (.ref (ys zi))]))
   show OwnWk _ _ _ _ (T293.setTop (mkF m 130 #[vR a, vI (4 : Int32), vR ls, vJ stv, sX, vI (Int32.ofNat zi), vR (ys zi), vI (-1 : Int32)] [(.int (Int32.ofNat 0)), (.ref (ys zi))]))
   refine own_callV X293 hx hZ (y := yN20) (z := yN20) hown (wq hw 134 rfl) (wq hw 135 rfl) (notFace_of_selects (args := #[]) (mvT hZ (wq hw 137 rfl))) (wq hw 137 rfl) (wq hw 136 rfl) (wq hw 7 rfl) (wq hw 138 rfl) (by decide) (a := (ys zi)) (Exa.keep hz290a K_) (argsL := [(.int (Int32.ofNat 0))]) (rest := [])  (h := h_) (nsb l Z a0 hw dce (ys zi) (ws zi) (Ms zi) 0 h_ n0 Z_ O_ S_d V_d S_a (Exa.keep hz290a K_) (Fld.keep hz290b K_ (ninS (Ne.symm ny290) nin0)) (Fld.keep hz290c K_ (ninS (Ne.symm ny290) nin0)) (OAr.keep hz290d K_ (ninS (Ne.symm nw290) nin0)) (hMs zi hzn) (by decide)) e293 (W := 0) (by decide) (by decide) (by decide) (by decide) rfl (by rw [hml]; rfl) (lenOf pd_0 rfl) rfl (by show 2 * 0 + _ ≤ _; exact Nat.le_of_eq rfl) (hb hby (dB14 68)) (fun v294 T294 h294 L294 X294 e294 hQ294 => ?_)
   obtain ⟨rfl, Nq294, q294⟩ := hQ294
   have N294 := Fr.app N292 Nq294
   rw [q294] at e294
   show OwnWk _ _ _ _ (T294.setTop (mkF m 133 #[vR a, vI (4 : Int32), vR ls, vJ stv, sX, vI (Int32.ofNat zi), vR (ys zi), vI (-1 : Int32)] [(.int (own_nsb (Ms zi) 0))]))
   refine own_go (fun tgt kst => XS.istore X294.here hx rfl (hb hby (dB14 69)) rfl (l' := #[vR a, vI (4 : Int32), vR ls, vJ stv, sX, vI (Int32.ofNat zi), vR (ys zi), vI (own_nsb (Ms zi) 0)]) rfl kst) ?_
   show OwnWk _ _ _ _ (T294.setTop (mkF m 135 #[vR a, vI (4 : Int32), vR ls, vJ stv, sX, vI (Int32.ofNat zi), vR (ys zi), vI (own_nsb (Ms zi) 0)] []))
   have Vc295 : OAr Z h_ b11 .long (own_jw ((own_vs (own_f Ms k0 k1 k2 k3) n zi).set zi (0 : Int64))) := by rw [← own_vs_z]; exact f_8
   refine zseg l Z a0 hw dce a ls (ys zi) (ws zi) b11 kk (Ms zi) zi k0 k1 k2 k3 stv (own_vs (own_f Ms k0 k1 k2 k3) n zi) h_ n0 Z_ O_ S_d V_d S_a f_0 f_5 f_1 f_7 (Exa.keep hz290a K_) (Fld.keep hz290b K_ (ninS (Ne.symm ny290) nin0)) (Fld.keep hz290c K_ (ninS (Ne.symm ny290) nin0)) (OAr.keep hz290d K_ (ninS (Ne.symm nw290) nin0)) Vc295 ne12 ne13 my290 mw290 ge14 (hMs zi hzn) (by rw [own_vs_len]; exact hzn) (by omega) hx hby hml hown hnm hZ (by decide) (by decide) X294 e294 N294 (fun T296 h296 L296  X296 e296 N296 Kq296 Vq296 => ?_)
   have F297 := Exa.keep f_0 Kq296
   have F298 := Fld.keep f_1 Kq296 (ninS ne12 nin0)
   have F299 := Fld.keep f_2 Kq296 (ninS ne12 nin0)
   have F300 := Fld.keep f_3 Kq296 (ninS ne12 nin0)
   have F301 := Fld.keep f_4 Kq296 (ninS ne12 nin0)
   have F302 := Fld.keep f_5 Kq296 (ninS ne12 nin0)
   have F303 := Fld.keep f_6 Kq296 (ninS ne12 nin0)
   have F304 := OAr.keep f_7 Kq296 (ninS ne13 nin0)
   have F305 := OAr.keep f_9 Kq296 (ninS (Ne.symm ne43) nin0)
   have F306 := Old.keep O_ Kq296 (allS ge14 all0)
   have Z307 := Nat.le_trans Z_ Kq296.1
   have K308 := Keep.trans K_ Kq296 (allS (Or.inr sz15) all0)
   have Vd296 : OAr Z h296 b11 .long (own_jw (own_vs (own_f Ms k0 k1 k2 k3) n (zi + 1))) := by rw [← own_vs_s]; exact Vq296
   show OwnWk _ _ _ _ (T296.setTop (mkF m 171 #[vR a, vI (4 : Int32), vR ls, vJ stv, sX, vI (Int32.ofNat zi), vR (ys zi), vI (-1 : Int32)] []))
   refine own_go (fun tgt kst => XS.aloadN X296.here hx rfl (hb hby (dB14 90)) rfl rfl  kst) ?_
   refine own_gF X296 hx hZ hown (wq hw 109 rfl) Via.refl e296 F303 rfl rfl (hb hby (dB14 91)) fun T309 X309 e309 => ?_
   refine own_go (fun tgt kst => XS.iload X309.here hx rfl (hb hby (dB14 92)) rfl  kst) ?_
   refine own_go (fun tgt kst => XS.aload X309.here hx rfl (hb hby (dB14 93)) rfl rfl  kst) ?_
   show OwnWk _ _ _ _ (T309.setTop (mkF m 179 #[vR a, vI (4 : Int32), vR ls, vJ stv, sX, vI (Int32.ofNat zi), vR (ys zi), vI (-1 : Int32)] [(.ref (ys zi)), (.int (Int32.ofNat zi)), (.ref b40)]))
   refine own_callV X309 hx hZ (y := yN22) (z := yN22) hown (wq hw 145 rfl) (wq hw 146 rfl) (notFace_of_selects (args := #[]) (mvT hZ (wq hw 148 rfl))) (wq hw 148 rfl) (wq hw 147 rfl) (wq hw 7 rfl) (wq hw 149 rfl) (by decide) (a := (ys zi)) (Exa.keep hz290a K308) (argsL := []) (rest := [(.int (Int32.ofNat zi)), (.ref b40)])  (h := h296) (card l Z a0 hw (ys zi) (ws zi) (Ms zi) h296 n0 Z307 (Exa.keep hz290a K308) (Fld.keep hz290b K308 (ninS (Ne.symm ny290) nin0)) (Fld.keep hz290c K308 (ninS (Ne.symm ny290) nin0)) (OAr.keep hz290d K308 (ninS (Ne.symm nw290) nin0))) e309 (W := 2) (by decide) (by decide) (by decide) (by decide) rfl (by rw [hml]; rfl) (lenOf pd_10 rfl) rfl (by show 2 * 0 + _ ≤ _; exact Nat.le_of_eq rfl) (hb hby (dB14 94)) (fun v310 T310 h310 L310 X310 e310 hQ310 => ?_)
   obtain ⟨⟨rr310, rfl⟩, Nq310, q310⟩ := hQ310
   have N310 := Fr.app N296 Nq310
   rw [q310] at e310
   show OwnWk _ _ _ _ (T310.setTop (mkF m 182 #[vR a, vI (4 : Int32), vR ls, vJ stv, sX, vI (Int32.ofNat zi), vR (ys zi), vI (-1 : Int32)] [(.int rr310), (.int (Int32.ofNat zi)), (.ref b40)]))
   refine own_stI X310 hx hZ e310 F305 rfl rfl (hb hby (dB14 95)) (own_n_nn (by have := (by omega : zi < 2 ^ 31); omega)) (own_kw_in (by rw [hts]; exact hzn) (by omega : zi < 2 ^ 31)) (fun T311 h311 X311 e311 W311 V311 => ?_)
   have V311b : OAr Z h311 b40 .int (own_kw (ts.set zi rr310)) := by exact own_cast (own_kw_set (a := rr310) (by omega : zi < 2 ^ 31)) V311
   have N311 := Fr.snoc X311 N310 ge44
   have F312 := Exa.wr W311 F297
   have F313 := Fld.other W311 F298 (Or.inl ne41)
   have F314 := Fld.other W311 F299 (Or.inl ne41)
   have F315 := Fld.other W311 F300 (Or.inl ne41)
   have F316 := Fld.other W311 F301 (Or.inl ne41)
   have F317 := Fld.other W311 F302 (Or.inl ne41)
   have F318 := Fld.other W311 F303 (Or.inl ne41)
   have F319 := OAr.other F304 W311 ne42
   have F320 := Old.wr F306 W311 ge44
   have F321 := OAr.other Vd296 W311 ne43
   have Z322 := Nat.le_trans Z307 (Keep.of_wr W311).1
   have K323 := Keep.wr K308 W311 (Or.inr sz45)
   show OwnWk _ _ _ _ (T311.setTop (mkF m 183 #[vR a, vI (4 : Int32), vR ls, vJ stv, sX, vI (Int32.ofNat zi), vR (ys zi), vI (-1 : Int32)] []))
   refine own_go (fun tgt kst => XS.iinc X311.here hx rfl (hb hby (dB14 96)) rfl (l' := #[vR a, vI (4 : Int32), vR ls, vJ stv, sX, vI ((Int32.ofNat zi) + (1 : Int32)), vR (ys zi), vI (-1 : Int32)]) rfl kst) ?_
   show OwnWk _ _ _ _ (T311.setTop (mkF m 186 #[vR a, vI (4 : Int32), vR ls, vJ stv, sX, vI ((Int32.ofNat zi) + (1 : Int32)), vR (ys zi), vI (-1 : Int32)] []))
   rw [own_n_succ]
   show OwnWk _ _ _ _ (T311.setTop (mkF m 186 #[vR a, vI (4 : Int32), vR ls, vJ stv, sX, vI (Int32.ofNat (zi + 1)), vR (ys zi), vI (-1 : Int32)] []))
   refine own_go (fun tgt kst => XS.goto X311.here hx rfl (pc0 := 186) (pc' := 104) rfl (hb hby (dB14 97)) (by decide) (by decide) kst) ?_
   show OwnWk _ _ _ _ (T311.setTop (mkF m 104 #[vR a, vI (4 : Int32), vR ls, vJ stv, sX, vI (Int32.ofNat (zi + 1)), vR (ys zi), vI (-1 : Int32)] []))
   exact ih (zi + 1) (ys zi) (ts.set zi rr310) _ _ _ (by omega) (by rw [List.length_set]; exact hts) X311 e311 N311 Z322 K323 F320 F312 F313 F314 F315 F316 F317 F318 F319 F321 V311b
 show OwnWk _ _ _ _ (T93.setTop (mkF m 104 #[vR a, vI (4 : Int32), vR ls, vJ stv, sX, vI (Int32.ofNat 1), vR (ys 0), vI (-1 : Int32)] []))
 exact LZ (n - 1) 1 (ys 0) ((List.replicate n 0).set 0 rr92) _ _ _ (by omega) (by rw [List.length_set, List.length_replicate]) X93 e93 N93 Z104 K105 F95 F94 F96 F98 F99 F100 F101 F102 F97 F103 V93b
theorem pn_pn_0 : plainName "com/example/encircle/encircle/layout/ZoneKeysFirstPinLaw" = true := by first | (simp [plainName, overriddenIn]; done) | decide +kernel
theorem pn_0 : plainFor x = true := plainFor_of_name pn_pn_0
theorem pd_12 : parseMethodDescriptor "(I)Ljava/util/BitSet;" = some ⟨[.int], some (.object "java/util/BitSet")⟩ := by decide +kernel
theorem pd_13 : parseMethodDescriptor "(ILjava/util/List;)V" = some ⟨[.int, (.object "java/util/List")], none⟩ := by decide +kernel
theorem pd_14 : parseMethodDescriptor "(I)J" = some ⟨[.int], some .long⟩ := by decide +kernel
theorem pd_15 : parseMethodDescriptor "(IJJJJ)J" = some ⟨[.int, .long, .long, .long, .long], some .long⟩ := by decide +kernel
theorem pd_16 : parseMethodDescriptor "(Ljava/lang/Object;)Z" = some ⟨[(.object "java/lang/Object")], some .boolean⟩ := by decide +kernel
theorem ef_rm0 (m : MethodId) (x0 : Int32) (x1 : Int32) (x2 : Int32) (x3 : Int64) : entryFrame m #[(.int x0), (.int x1), (.int x2), (.long x3)] maxLocals = mkF m 0 #[vI x0, vI x1, vI x2, vJ x3, .second, .unset, .unset, .unset, .unset, .unset, .unset, .unset, .unset, .unset, .unset, .unset, .unset, .unset, .unset, .unset, .unset, .unset, .unset, .unset, .unset, .unset, .unset] [] := by first | (simp [entryFrame, mkF, argsToLocals, Value.category, maxLocals]; done) | rfl
def Q_rm0 (Z : State) (z0 z1 z2 : Int32) (z3 : Int64) (dce : Addr) (h0 : Heap) (n0 : Nat) (v : Option Value) (h : Heap) (L : List Loc) : Prop := v = some (.int 1) ∧ Fr n0 L
set_option maxRecDepth 65536 in
set_option maxHeartbeats 40000000 in
theorem rm0 (l : Launch) (Z : State) (a0 : Array Value) (hw : ∀ d ∈ tables_1, d.before a0 Z = true) (z0 z1 z2 : Int32) (z3 : Int64) (dce : Addr) (h0 : Heap) (n0 : Nat) (Z0 : n0 ≤ h0.size) (O0 : Old Z n0 h0) (S_d : Sta Z Z.heap "java/util/ArrayList" "DEFAULTCAPACITY_EMPTY_ELEMENTDATA" "[Ljava/lang/Object;" (.ref dce)) (V_d : OAr Z Z.heap dce (.object "java/lang/Object") []) (S_a : Sta Z Z.heap "java/util/BitSet" "$assertionsDisabled" "Z" (.int (1 : Int32)))  :
    OwnMet l x code maxLocals ret tables_1 room_1 Z #[(.int z0), (.int z1), (.int z2), (.long z3)] h0 (Q_rm0 Z z0 z1 z2 z3 dce h0 n0) := by
 refine own_met pn_0 (fun p e s m below meth c s₁ hx hby hml hown hnm hret hlk hZ X0 e0 => ?_)
 have hml : c.maxLocals = 27 := hml
 have hret : meth.sig.returnType = some .boolean := hret
 have hown : s.vm.findClass "com/example/encircle/encircle/layout/ZoneKeysFirstPinLaw" = some m.cls := hown
 have N0 := Fr.nil n0
 rw [ef_rm0]
 obtain ⟨nN, hnN, enN⟩ := own_draw z1 2147483647 5 (by decide) (by decide) (by decide)
 show OwnWk _ _ _ _ (s₁.setTop (mkF m 0 #[vI z0, vI z1, vI z2, vJ z3, sX, uX, uX, uX, uX, uX, uX, uX, uX, uX, uX, uX, uX, uX, uX, uX, uX, uX, uX, uX, uX, uX, uX] []))
 refine own_go (fun tgt kst => XS.iloadN X0.here hx rfl (hb hby at_0) rfl  kst) ?_
 refine own_go (X0.ldcInt hx hown (mvT hZ (wq hw 0 rfl)) (g := (mkF m 1 #[vI z0, vI z1, vI z2, vJ z3, sX, uX, uX, uX, uX, uX, uX, uX, uX, uX, uX, uX, uX, uX, uX, uX, uX, uX, uX, uX, uX, uX, uX] [(.int z1)])) rfl (hb hby at_1)) ?_
 refine own_go (fun tgt kst => XS.iand X0.here hx rfl (hb hby at_3) rfl kst) ?_
 refine own_go (fun tgt kst => XS.iconst X0.here hx rfl (hb hby at_4) kst) ?_
 refine own_go (fun tgt kst => Jvm.RoadKit.iremM X0 hx rfl (hb hby at_5) rfl (by decide) kst) ?_
 show OwnWk _ _ _ _ (s₁.setTop (mkF m 6 #[vI z0, vI z1, vI z2, vJ z3, sX, uX, uX, uX, uX, uX, uX, uX, uX, uX, uX, uX, uX, uX, uX, uX, uX, uX, uX, uX, uX, uX, uX] [(.int ((z1 &&& (2147483647 : Int32)) % (5 : Int32)))]))
 rw [show ((z1 &&& (2147483647 : Int32)) % (5 : Int32)) = Int32.ofNat nN from enN]
 show OwnWk _ _ _ _ (s₁.setTop (mkF m 6 #[vI z0, vI z1, vI z2, vJ z3, sX, uX, uX, uX, uX, uX, uX, uX, uX, uX, uX, uX, uX, uX, uX, uX, uX, uX, uX, uX, uX, uX, uX] [(.int (Int32.ofNat nN))]))
 refine own_go (fun tgt kst => XS.istore X0.here hx rfl (hb hby at_6) rfl (l' := #[vI z0, vI z1, vI z2, vJ z3, sX, vI (Int32.ofNat nN), uX, uX, uX, uX, uX, uX, uX, uX, uX, uX, uX, uX, uX, uX, uX, uX, uX, uX, uX, uX, uX]) rfl kst) ?_
 refine own_go (fun tgt kst => XS.iloadN X0.here hx rfl (hb hby at_8) rfl  kst) ?_
 refine own_go (fun tgt kst => XS.bipush X0.here hx rfl (hb hby at_9) kst) ?_
 refine own_go (fun tgt kst => XS.iand X0.here hx rfl (hb hby at_11) rfl kst) ?_
 show OwnWk _ _ _ _ (s₁.setTop (mkF m 12 #[vI z0, vI z1, vI z2, vJ z3, sX, vI (Int32.ofNat nN), uX, uX, uX, uX, uX, uX, uX, uX, uX, uX, uX, uX, uX, uX, uX, uX, uX, uX, uX, uX, uX] [(.int (z0 &&& (15 : Int32)))]))
 obtain ⟨M0, hM0, eM0⟩ := own_and_nat z0 15 (by decide)
 rw [show (z0 &&& (15 : Int32)) = Int32.ofNat M0 from eM0]
 replace hM0 : M0 < 16 := Nat.lt_succ_of_le hM0
 show OwnWk _ _ _ _ (s₁.setTop (mkF m 12 #[vI z0, vI z1, vI z2, vJ z3, sX, vI (Int32.ofNat nN), uX, uX, uX, uX, uX, uX, uX, uX, uX, uX, uX, uX, uX, uX, uX, uX, uX, uX, uX, uX, uX] [(.int (Int32.ofNat M0))]))
 refine own_go (fun tgt kst => XS.istore X0.here hx rfl (hb hby at_12) rfl (l' := #[vI z0, vI z1, vI z2, vJ z3, sX, vI (Int32.ofNat nN), vI (Int32.ofNat M0), uX, uX, uX, uX, uX, uX, uX, uX, uX, uX, uX, uX, uX, uX, uX, uX, uX, uX, uX, uX]) rfl kst) ?_
 refine own_go (fun tgt kst => XS.iloadN X0.here hx rfl (hb hby at_14) rfl  kst) ?_
 refine own_go (fun tgt kst => XS.iconst X0.here hx rfl (hb hby at_15) kst) ?_
 refine own_go (fun tgt kst => XS.iushr X0.here hx rfl (hb hby at_16) rfl kst) ?_
 refine own_go (fun tgt kst => XS.bipush X0.here hx rfl (hb hby at_17) kst) ?_
 refine own_go (fun tgt kst => XS.iand X0.here hx rfl (hb hby at_19) rfl kst) ?_
 show OwnWk _ _ _ _ (s₁.setTop (mkF m 20 #[vI z0, vI z1, vI z2, vJ z3, sX, vI (Int32.ofNat nN), vI (Int32.ofNat M0), uX, uX, uX, uX, uX, uX, uX, uX, uX, uX, uX, uX, uX, uX, uX, uX, uX, uX, uX, uX] [(.int (((z0.toUInt32 >>> ((4 : Int32) &&& 31).toUInt32).toInt32) &&& (15 : Int32)))]))
 obtain ⟨M1, hM1, eM1⟩ := own_and_nat ((z0.toUInt32 >>> ((4 : Int32) &&& 31).toUInt32).toInt32) 15 (by decide)
 rw [show (((z0.toUInt32 >>> ((4 : Int32) &&& 31).toUInt32).toInt32) &&& (15 : Int32)) = Int32.ofNat M1 from eM1]
 replace hM1 : M1 < 16 := Nat.lt_succ_of_le hM1
 show OwnWk _ _ _ _ (s₁.setTop (mkF m 20 #[vI z0, vI z1, vI z2, vJ z3, sX, vI (Int32.ofNat nN), vI (Int32.ofNat M0), uX, uX, uX, uX, uX, uX, uX, uX, uX, uX, uX, uX, uX, uX, uX, uX, uX, uX, uX, uX] [(.int (Int32.ofNat M1))]))
 refine own_go (fun tgt kst => XS.istore X0.here hx rfl (hb hby at_20) rfl (l' := #[vI z0, vI z1, vI z2, vJ z3, sX, vI (Int32.ofNat nN), vI (Int32.ofNat M0), vI (Int32.ofNat M1), uX, uX, uX, uX, uX, uX, uX, uX, uX, uX, uX, uX, uX, uX, uX, uX, uX, uX, uX]) rfl kst) ?_
 refine own_go (fun tgt kst => XS.iloadN X0.here hx rfl (hb hby at_22) rfl  kst) ?_
 refine own_go (fun tgt kst => XS.bipush X0.here hx rfl (hb hby at_23) kst) ?_
 refine own_go (fun tgt kst => XS.iushr X0.here hx rfl (hb hby at_25) rfl kst) ?_
 refine own_go (fun tgt kst => XS.bipush X0.here hx rfl (hb hby at_26) kst) ?_
 refine own_go (fun tgt kst => XS.iand X0.here hx rfl (hb hby at_28) rfl kst) ?_
 show OwnWk _ _ _ _ (s₁.setTop (mkF m 29 #[vI z0, vI z1, vI z2, vJ z3, sX, vI (Int32.ofNat nN), vI (Int32.ofNat M0), vI (Int32.ofNat M1), uX, uX, uX, uX, uX, uX, uX, uX, uX, uX, uX, uX, uX, uX, uX, uX, uX, uX, uX] [(.int (((z0.toUInt32 >>> ((8 : Int32) &&& 31).toUInt32).toInt32) &&& (15 : Int32)))]))
 obtain ⟨M2, hM2, eM2⟩ := own_and_nat ((z0.toUInt32 >>> ((8 : Int32) &&& 31).toUInt32).toInt32) 15 (by decide)
 rw [show (((z0.toUInt32 >>> ((8 : Int32) &&& 31).toUInt32).toInt32) &&& (15 : Int32)) = Int32.ofNat M2 from eM2]
 replace hM2 : M2 < 16 := Nat.lt_succ_of_le hM2
 show OwnWk _ _ _ _ (s₁.setTop (mkF m 29 #[vI z0, vI z1, vI z2, vJ z3, sX, vI (Int32.ofNat nN), vI (Int32.ofNat M0), vI (Int32.ofNat M1), uX, uX, uX, uX, uX, uX, uX, uX, uX, uX, uX, uX, uX, uX, uX, uX, uX, uX, uX] [(.int (Int32.ofNat M2))]))
 refine own_go (fun tgt kst => XS.istore X0.here hx rfl (hb hby at_29) rfl (l' := #[vI z0, vI z1, vI z2, vJ z3, sX, vI (Int32.ofNat nN), vI (Int32.ofNat M0), vI (Int32.ofNat M1), vI (Int32.ofNat M2), uX, uX, uX, uX, uX, uX, uX, uX, uX, uX, uX, uX, uX, uX, uX, uX, uX, uX]) rfl kst) ?_
 refine own_go (fun tgt kst => XS.iloadN X0.here hx rfl (hb hby at_31) rfl  kst) ?_
 refine own_go (fun tgt kst => XS.bipush X0.here hx rfl (hb hby at_32) kst) ?_
 refine own_go (fun tgt kst => XS.iushr X0.here hx rfl (hb hby at_34) rfl kst) ?_
 refine own_go (fun tgt kst => XS.bipush X0.here hx rfl (hb hby at_35) kst) ?_
 refine own_go (fun tgt kst => XS.iand X0.here hx rfl (hb hby at_37) rfl kst) ?_
 show OwnWk _ _ _ _ (s₁.setTop (mkF m 38 #[vI z0, vI z1, vI z2, vJ z3, sX, vI (Int32.ofNat nN), vI (Int32.ofNat M0), vI (Int32.ofNat M1), vI (Int32.ofNat M2), uX, uX, uX, uX, uX, uX, uX, uX, uX, uX, uX, uX, uX, uX, uX, uX, uX, uX] [(.int (((z0.toUInt32 >>> ((12 : Int32) &&& 31).toUInt32).toInt32) &&& (15 : Int32)))]))
 obtain ⟨M3, hM3, eM3⟩ := own_and_nat ((z0.toUInt32 >>> ((12 : Int32) &&& 31).toUInt32).toInt32) 15 (by decide)
 rw [show (((z0.toUInt32 >>> ((12 : Int32) &&& 31).toUInt32).toInt32) &&& (15 : Int32)) = Int32.ofNat M3 from eM3]
 replace hM3 : M3 < 16 := Nat.lt_succ_of_le hM3
 show OwnWk _ _ _ _ (s₁.setTop (mkF m 38 #[vI z0, vI z1, vI z2, vJ z3, sX, vI (Int32.ofNat nN), vI (Int32.ofNat M0), vI (Int32.ofNat M1), vI (Int32.ofNat M2), uX, uX, uX, uX, uX, uX, uX, uX, uX, uX, uX, uX, uX, uX, uX, uX, uX, uX] [(.int (Int32.ofNat M3))]))
 refine own_go (fun tgt kst => XS.istore X0.here hx rfl (hb hby at_38) rfl (l' := #[vI z0, vI z1, vI z2, vJ z3, sX, vI (Int32.ofNat nN), vI (Int32.ofNat M0), vI (Int32.ofNat M1), vI (Int32.ofNat M2), vI (Int32.ofNat M3), uX, uX, uX, uX, uX, uX, uX, uX, uX, uX, uX, uX, uX, uX, uX, uX, uX]) rfl kst) ?_
 refine own_go (fun tgt kst => XS.iload X0.here hx rfl (hb hby at_40) rfl  kst) ?_
 show OwnWk _ _ _ _ (s₁.setTop (mkF m 42 #[vI z0, vI z1, vI z2, vJ z3, sX, vI (Int32.ofNat nN), vI (Int32.ofNat M0), vI (Int32.ofNat M1), vI (Int32.ofNat M2), vI (Int32.ofNat M3), uX, uX, uX, uX, uX, uX, uX, uX, uX, uX, uX, uX, uX, uX, uX, uX, uX] [(.int (Int32.ofNat M0))]))
 refine own_callS X0 hx hZ (y := yN1) hown (wq hw 1 rfl) (wq hw 2 rfl) (wq hw 3 rfl) (wq hw 4 rfl) (by decide) (argsL := [(.int (Int32.ofNat M0))]) (rest := [])  (h := h0) (bts l Z a0 hw dce M0 h0 n0 Z0 O0 S_d V_d S_a hM0) e0 (W := 0) (by decide) (by decide) (by decide) (by decide) rfl (by rw [hml]; rfl) (lenOf pd_12 rfl) rfl (by show 2 * 0 + _ ≤ _; exact Nat.le_of_eq rfl) (hb hby at_42) (fun v1 T1 h1 L1 X1 e1 hQ1 => ?_)
 obtain ⟨y0, w0_, rfl, Nq1, Kq1, sy1, sv1, ny1, Fz1_0, Fz1_1, Fz1_2, Fz1_3⟩ := hQ1
 have N1 := Fr.app N0 Nq1
 have F2 := Old.keep O0 Kq1 all0
 have Z3 := Nat.le_trans Z0 Kq1.1
 have ga4 : n0 ≤ y0 := Nat.le_trans Z0 sy1
 have ga5 : n0 ≤ w0_ := Nat.le_trans Z0 sv1
 show OwnWk _ _ _ _ (T1.setTop (mkF m 45 #[vI z0, vI z1, vI z2, vJ z3, sX, vI (Int32.ofNat nN), vI (Int32.ofNat M0), vI (Int32.ofNat M1), vI (Int32.ofNat M2), vI (Int32.ofNat M3), uX, uX, uX, uX, uX, uX, uX, uX, uX, uX, uX, uX, uX, uX, uX, uX, uX] [(.ref y0)]))
 refine own_go (fun tgt kst => XS.astore X1.here hx rfl (hb hby at_45) rfl rfl (l' := #[vI z0, vI z1, vI z2, vJ z3, sX, vI (Int32.ofNat nN), vI (Int32.ofNat M0), vI (Int32.ofNat M1), vI (Int32.ofNat M2), vI (Int32.ofNat M3), vR y0, uX, uX, uX, uX, uX, uX, uX, uX, uX, uX, uX, uX, uX, uX, uX, uX]) rfl kst) ?_
 refine own_go (fun tgt kst => XS.iload X1.here hx rfl (hb hby at_47) rfl  kst) ?_
 show OwnWk _ _ _ _ (T1.setTop (mkF m 49 #[vI z0, vI z1, vI z2, vJ z3, sX, vI (Int32.ofNat nN), vI (Int32.ofNat M0), vI (Int32.ofNat M1), vI (Int32.ofNat M2), vI (Int32.ofNat M3), vR y0, uX, uX, uX, uX, uX, uX, uX, uX, uX, uX, uX, uX, uX, uX, uX, uX] [(.int (Int32.ofNat M1))]))
 have lt6 : y0 < h1.size := Fz1_0.lt
 have lt7 : w0_ < h1.size := Fz1_3.lt
 refine own_callS X1 hx hZ (y := yN1) hown (wq hw 1 rfl) (wq hw 2 rfl) (wq hw 3 rfl) (wq hw 4 rfl) (by decide) (argsL := [(.int (Int32.ofNat M1))]) (rest := [])  (h := h1) (bts l Z a0 hw dce M1 h1 n0 Z3 F2 S_d V_d S_a hM1) e1 (W := 0) (by decide) (by decide) (by decide) (by decide) rfl (by rw [hml]; rfl) (lenOf pd_12 rfl) rfl (by show 2 * 0 + _ ≤ _; exact Nat.le_of_eq rfl) (hb hby at_49) (fun v8 T8 h8 L8 X8 e8 hQ8 => ?_)
 obtain ⟨y1, w1_, rfl, Nq8, Kq8, sy8, sv8, ny8, Fz8_0, Fz8_1, Fz8_2, Fz8_3⟩ := hQ8
 have N8 := Fr.app N1 Nq8
 have F9 := Old.keep F2 Kq8 all0
 have F10 := Exa.keep Fz1_0 Kq8
 have F11 := Fld.keep Fz1_1 Kq8 nin0
 have F12 := Fld.keep Fz1_2 Kq8 nin0
 have F13 := OAr.keep Fz1_3 Kq8 nin0
 have Z14 := Nat.le_trans Z3 Kq8.1
 have ne15 := own_nl lt6 sy8
 have ne16 := own_nl lt7 sy8
 have ga17 : n0 ≤ y1 := Nat.le_trans Z3 sy8
 have ne18 := own_nl lt6 sv8
 have ne19 := own_nl lt7 sv8
 have ga20 : n0 ≤ w1_ := Nat.le_trans Z3 sv8
 show OwnWk _ _ _ _ (T8.setTop (mkF m 52 #[vI z0, vI z1, vI z2, vJ z3, sX, vI (Int32.ofNat nN), vI (Int32.ofNat M0), vI (Int32.ofNat M1), vI (Int32.ofNat M2), vI (Int32.ofNat M3), vR y0, uX, uX, uX, uX, uX, uX, uX, uX, uX, uX, uX, uX, uX, uX, uX, uX] [(.ref y1)]))
 refine own_go (fun tgt kst => XS.astore X8.here hx rfl (hb hby at_52) rfl rfl (l' := #[vI z0, vI z1, vI z2, vJ z3, sX, vI (Int32.ofNat nN), vI (Int32.ofNat M0), vI (Int32.ofNat M1), vI (Int32.ofNat M2), vI (Int32.ofNat M3), vR y0, vR y1, uX, uX, uX, uX, uX, uX, uX, uX, uX, uX, uX, uX, uX, uX, uX]) rfl kst) ?_
 refine own_go (fun tgt kst => XS.iload X8.here hx rfl (hb hby at_54) rfl  kst) ?_
 show OwnWk _ _ _ _ (T8.setTop (mkF m 56 #[vI z0, vI z1, vI z2, vJ z3, sX, vI (Int32.ofNat nN), vI (Int32.ofNat M0), vI (Int32.ofNat M1), vI (Int32.ofNat M2), vI (Int32.ofNat M3), vR y0, vR y1, uX, uX, uX, uX, uX, uX, uX, uX, uX, uX, uX, uX, uX, uX, uX] [(.int (Int32.ofNat M2))]))
 have lt21 : y0 < h8.size := F10.lt
 have lt22 : w0_ < h8.size := F13.lt
 have lt23 : y1 < h8.size := Fz8_0.lt
 have lt24 : w1_ < h8.size := Fz8_3.lt
 refine own_callS X8 hx hZ (y := yN1) hown (wq hw 1 rfl) (wq hw 2 rfl) (wq hw 3 rfl) (wq hw 4 rfl) (by decide) (argsL := [(.int (Int32.ofNat M2))]) (rest := [])  (h := h8) (bts l Z a0 hw dce M2 h8 n0 Z14 F9 S_d V_d S_a hM2) e8 (W := 0) (by decide) (by decide) (by decide) (by decide) rfl (by rw [hml]; rfl) (lenOf pd_12 rfl) rfl (by show 2 * 0 + _ ≤ _; exact Nat.le_of_eq rfl) (hb hby at_56) (fun v25 T25 h25 L25 X25 e25 hQ25 => ?_)
 obtain ⟨y2, w2_, rfl, Nq25, Kq25, sy25, sv25, ny25, Fz25_0, Fz25_1, Fz25_2, Fz25_3⟩ := hQ25
 have N25 := Fr.app N8 Nq25
 have F26 := Old.keep F9 Kq25 all0
 have F27 := Exa.keep F10 Kq25
 have F28 := Fld.keep F11 Kq25 nin0
 have F29 := Fld.keep F12 Kq25 nin0
 have F30 := OAr.keep F13 Kq25 nin0
 have F31 := Exa.keep Fz8_0 Kq25
 have F32 := Fld.keep Fz8_1 Kq25 nin0
 have F33 := Fld.keep Fz8_2 Kq25 nin0
 have F34 := OAr.keep Fz8_3 Kq25 nin0
 have Z35 := Nat.le_trans Z14 Kq25.1
 have ne36 := own_nl lt21 sy25
 have ne37 := own_nl lt22 sy25
 have ne38 := own_nl lt23 sy25
 have ne39 := own_nl lt24 sy25
 have ga40 : n0 ≤ y2 := Nat.le_trans Z14 sy25
 have ne41 := own_nl lt21 sv25
 have ne42 := own_nl lt22 sv25
 have ne43 := own_nl lt23 sv25
 have ne44 := own_nl lt24 sv25
 have ga45 : n0 ≤ w2_ := Nat.le_trans Z14 sv25
 show OwnWk _ _ _ _ (T25.setTop (mkF m 59 #[vI z0, vI z1, vI z2, vJ z3, sX, vI (Int32.ofNat nN), vI (Int32.ofNat M0), vI (Int32.ofNat M1), vI (Int32.ofNat M2), vI (Int32.ofNat M3), vR y0, vR y1, uX, uX, uX, uX, uX, uX, uX, uX, uX, uX, uX, uX, uX, uX, uX] [(.ref y2)]))
 refine own_go (fun tgt kst => XS.astore X25.here hx rfl (hb hby at_59) rfl rfl (l' := #[vI z0, vI z1, vI z2, vJ z3, sX, vI (Int32.ofNat nN), vI (Int32.ofNat M0), vI (Int32.ofNat M1), vI (Int32.ofNat M2), vI (Int32.ofNat M3), vR y0, vR y1, vR y2, uX, uX, uX, uX, uX, uX, uX, uX, uX, uX, uX, uX, uX, uX]) rfl kst) ?_
 refine own_go (fun tgt kst => XS.iload X25.here hx rfl (hb hby at_61) rfl  kst) ?_
 show OwnWk _ _ _ _ (T25.setTop (mkF m 63 #[vI z0, vI z1, vI z2, vJ z3, sX, vI (Int32.ofNat nN), vI (Int32.ofNat M0), vI (Int32.ofNat M1), vI (Int32.ofNat M2), vI (Int32.ofNat M3), vR y0, vR y1, vR y2, uX, uX, uX, uX, uX, uX, uX, uX, uX, uX, uX, uX, uX, uX] [(.int (Int32.ofNat M3))]))
 have lt46 : y0 < h25.size := F27.lt
 have lt47 : w0_ < h25.size := F30.lt
 have lt48 : y1 < h25.size := F31.lt
 have lt49 : w1_ < h25.size := F34.lt
 have lt50 : y2 < h25.size := Fz25_0.lt
 have lt51 : w2_ < h25.size := Fz25_3.lt
 refine own_callS X25 hx hZ (y := yN1) hown (wq hw 1 rfl) (wq hw 2 rfl) (wq hw 3 rfl) (wq hw 4 rfl) (by decide) (argsL := [(.int (Int32.ofNat M3))]) (rest := [])  (h := h25) (bts l Z a0 hw dce M3 h25 n0 Z35 F26 S_d V_d S_a hM3) e25 (W := 0) (by decide) (by decide) (by decide) (by decide) rfl (by rw [hml]; rfl) (lenOf pd_12 rfl) rfl (by show 2 * 0 + _ ≤ _; exact Nat.le_of_eq rfl) (hb hby at_63) (fun v52 T52 h52 L52 X52 e52 hQ52 => ?_)
 obtain ⟨y3, w3_, rfl, Nq52, Kq52, sy52, sv52, ny52, Fz52_0, Fz52_1, Fz52_2, Fz52_3⟩ := hQ52
 have N52 := Fr.app N25 Nq52
 have F53 := Old.keep F26 Kq52 all0
 have F54 := Exa.keep F27 Kq52
 have F55 := Fld.keep F28 Kq52 nin0
 have F56 := Fld.keep F29 Kq52 nin0
 have F57 := OAr.keep F30 Kq52 nin0
 have F58 := Exa.keep F31 Kq52
 have F59 := Fld.keep F32 Kq52 nin0
 have F60 := Fld.keep F33 Kq52 nin0
 have F61 := OAr.keep F34 Kq52 nin0
 have F62 := Exa.keep Fz25_0 Kq52
 have F63 := Fld.keep Fz25_1 Kq52 nin0
 have F64 := Fld.keep Fz25_2 Kq52 nin0
 have F65 := OAr.keep Fz25_3 Kq52 nin0
 have Z66 := Nat.le_trans Z35 Kq52.1
 have ne67 := own_nl lt46 sy52
 have ne68 := own_nl lt47 sy52
 have ne69 := own_nl lt48 sy52
 have ne70 := own_nl lt49 sy52
 have ne71 := own_nl lt50 sy52
 have ne72 := own_nl lt51 sy52
 have ga73 : n0 ≤ y3 := Nat.le_trans Z35 sy52
 have ne74 := own_nl lt46 sv52
 have ne75 := own_nl lt47 sv52
 have ne76 := own_nl lt48 sv52
 have ne77 := own_nl lt49 sv52
 have ne78 := own_nl lt50 sv52
 have ne79 := own_nl lt51 sv52
 have ga80 : n0 ≤ w3_ := Nat.le_trans Z35 sv52
 show OwnWk _ _ _ _ (T52.setTop (mkF m 66 #[vI z0, vI z1, vI z2, vJ z3, sX, vI (Int32.ofNat nN), vI (Int32.ofNat M0), vI (Int32.ofNat M1), vI (Int32.ofNat M2), vI (Int32.ofNat M3), vR y0, vR y1, vR y2, uX, uX, uX, uX, uX, uX, uX, uX, uX, uX, uX, uX, uX, uX] [(.ref y3)]))
 refine own_go (fun tgt kst => XS.astore X52.here hx rfl (hb hby at_66) rfl rfl (l' := #[vI z0, vI z1, vI z2, vJ z3, sX, vI (Int32.ofNat nN), vI (Int32.ofNat M0), vI (Int32.ofNat M1), vI (Int32.ofNat M2), vI (Int32.ofNat M3), vR y0, vR y1, vR y2, vR y3, uX, uX, uX, uX, uX, uX, uX, uX, uX, uX, uX, uX, uX]) rfl kst) ?_
 show OwnWk _ _ _ _ (T52.setTop (mkF m 68 #[vI z0, vI z1, vI z2, vJ z3, sX, vI (Int32.ofNat nN), vI (Int32.ofNat M0), vI (Int32.ofNat M1), vI (Int32.ofNat M2), vI (Int32.ofNat M3), vR y0, vR y1, vR y2, vR y3, uX, uX, uX, uX, uX, uX, uX, uX, uX, uX, uX, uX, uX] []))
 rcases (by omega : nN = 0 ∨ nN = 1 ∨ nN = 2 ∨ nN = 3 ∨ nN = 4) with rfl | rfl | rfl | rfl | rfl
 ·
  show OwnWk _ _ _ _ (T52.setTop (mkF m 68 #[vI z0, vI z1, vI z2, vJ z3, sX, vI (0 : Int32), vI (Int32.ofNat M0), vI (Int32.ofNat M1), vI (Int32.ofNat M2), vI (Int32.ofNat M3), vR y0, vR y1, vR y2, vR y3, uX, uX, uX, uX, uX, uX, uX, uX, uX, uX, uX, uX, uX] []))
  obtain ⟨T81, h81, X81, e81, E81, A81, D81, -, st81⟩ := newO X52 hx hZ hown (wq hw 29 rfl) (wq hw 30 rfl) (wq hw 31 rfl) e52 (g := (mkF m 68 #[vI z0, vI z1, vI z2, vJ z3, sX, vI (0 : Int32), vI (Int32.ofNat M0), vI (Int32.ofNat M1), vI (Int32.ofNat M2), vI (Int32.ofNat M3), vR y0, vR y1, vR y2, vR y3, uX, uX, uX, uX, uX, uX, uX, uX, uX, uX, uX, uX, uX] [])) rfl (hb hby at_68) (by decide) (by decide)
  obtain ⟨b81, g81⟩ : ∃ z, z = h52.size := ⟨_, rfl⟩
  rw [← g81] at A81 D81 st81
  refine own_go st81 ?_
  have ge82 : n0 ≤ b81 := Nat.le_trans Z66 (Nat.le_of_eq g81.symm)
  have F83 := Old.ext F53 E81
  have Z84 := Nat.le_trans Z66 E81.1
  have F85 : Fld Z h81 b81 "java/util/AbstractList" "modCount" "I" (.int (0 : Int32)) := D81 (Or.inl (wq hw 49 rfl)) (ty := .int) (by decide)
  have F86 : Fld Z h81 b81 "java/util/ArrayList" "elementData" "[Ljava/lang/Object;" .null := D81 (Or.inl (wq hw 52 rfl)) (ty := (.array (.object "java/lang/Object"))) (by decide)
  have F87 : Fld Z h81 b81 "java/util/ArrayList" "size" "I" (.int (0 : Int32)) := D81 (Or.inl (wq hw 61 rfl)) (ty := .int) (by decide)
  show OwnWk _ _ _ _ (T81.setTop (mkF m 71 #[vI z0, vI z1, vI z2, vJ z3, sX, vI (0 : Int32), vI (Int32.ofNat M0), vI (Int32.ofNat M1), vI (Int32.ofNat M2), vI (Int32.ofNat M3), vR y0, vR y1, vR y2, vR y3, uX, uX, uX, uX, uX, uX, uX, uX, uX, uX, uX, uX, uX] [(.ref b81)]))
  refine own_go (fun tgt kst => XS.dup X81.here hx rfl (hb hby at_71) rfl rfl kst) ?_
  show OwnWk _ _ _ _ (T81.setTop (mkF m 72 #[vI z0, vI z1, vI z2, vJ z3, sX, vI (0 : Int32), vI (Int32.ofNat M0), vI (Int32.ofNat M1), vI (Int32.ofNat M2), vI (Int32.ofNat M3), vR y0, vR y1, vR y2, vR y3, uX, uX, uX, uX, uX, uX, uX, uX, uX, uX, uX, uX, uX] [(.ref b81), (.ref b81)]))
  refine own_callC X81 hx hZ (y := yN6) hown rfl (wq hw 32 rfl) (wq hw 33 rfl) (wq hw 31 rfl) (wq hw 34 rfl) (by decide) (a := b81) (argsL := []) (rest := [(.ref b81)])  (h := h81) (rm6 l Z a0 hw dce b81 h81 n0 Z84 F83 S_d V_d S_a A81 ge82 F85 F86 F87) e81 (W := 1) (by decide) (by decide) (by decide) (by decide) rfl (by rw [hml]; rfl) (lenOf pd_2 rfl) rfl (by show 2 * 0 + _ ≤ _; exact Nat.le_of_eq rfl) (hb hby at_72) (fun v88 T88 h88 L88 X88 e88 hQ88 => ?_)
  obtain ⟨rfl, Nq88, Kq88, Fm88, Fe88, Fs88⟩ := hQ88
  have N88 := Fr.app N52 Nq88
  have F89 := Old.keep F83 Kq88 (allS ge82 all0)
  have F90 := Exa.keep A81 Kq88
  have Z91 := Nat.le_trans Z84 Kq88.1
  show OwnWk _ _ _ _ (T88.setTop (mkF m 75 #[vI z0, vI z1, vI z2, vJ z3, sX, vI (0 : Int32), vI (Int32.ofNat M0), vI (Int32.ofNat M1), vI (Int32.ofNat M2), vI (Int32.ofNat M3), vR y0, vR y1, vR y2, vR y3, uX, uX, uX, uX, uX, uX, uX, uX, uX, uX, uX, uX, uX] [(.ref b81)]))
  refine own_go (fun tgt kst => XS.astore X88.here hx rfl (hb hby at_75) rfl rfl (l' := #[vI z0, vI z1, vI z2, vJ z3, sX, vI (0 : Int32), vI (Int32.ofNat M0), vI (Int32.ofNat M1), vI (Int32.ofNat M2), vI (Int32.ofNat M3), vR y0, vR y1, vR y2, vR y3, vR b81, uX, uX, uX, uX, uX, uX, uX, uX, uX, uX, uX, uX]) rfl kst) ?_
  refine own_go (fun tgt kst => XS.iload X88.here hx rfl (hb hby at_77) rfl  kst) ?_
  refine own_go (fun tgt kst => XS.ifYes X88.here hx rfl (pc0 := 79) (pc' := 90) rfl (hb hby at_79) rfl ((if0 _ _).trans (flt (by decide : ¬ ((0 : Int32) < (0 : Int32)))).2.2.2) (by decide) (by decide) kst) ?_
  refine own_go (fun tgt kst => XS.iload X88.here hx rfl (hb hby at_90) rfl  kst) ?_
  refine own_go (fun tgt kst => XS.iconst X88.here hx rfl (hb hby at_92) kst) ?_
  refine own_go (fun tgt kst => XS.icmpYes X88.here hx rfl (pc0 := 93) (pc' := 104) rfl (hb hby at_93) rfl (flt (by decide : ¬ ((1 : Int32) < (0 : Int32)))).2.2.2 (by decide) (by decide) kst) ?_
  show OwnWk _ _ _ _ (T88.setTop (mkF m 104 #[vI z0, vI z1, vI z2, vJ z3, sX, vI (0 : Int32), vI (Int32.ofNat M0), vI (Int32.ofNat M1), vI (Int32.ofNat M2), vI (Int32.ofNat M3), vR y0, vR y1, vR y2, vR y3, vR b81, uX, uX, uX, uX, uX, uX, uX, uX, uX, uX, uX, uX] []))
  refine own_go (fun tgt kst => XS.iload X88.here hx rfl (hb hby at_104) rfl  kst) ?_
  refine own_go (fun tgt kst => XS.iconst X88.here hx rfl (hb hby at_106) kst) ?_
  refine own_go (fun tgt kst => XS.icmpYes X88.here hx rfl (pc0 := 107) (pc' := 118) rfl (hb hby at_107) rfl (flt (by decide : ¬ ((2 : Int32) < (0 : Int32)))).2.2.2 (by decide) (by decide) kst) ?_
  refine own_go (fun tgt kst => XS.iload X88.here hx rfl (hb hby at_118) rfl  kst) ?_
  refine own_go (fun tgt kst => XS.iconst X88.here hx rfl (hb hby at_120) kst) ?_
  refine own_go (fun tgt kst => XS.icmpYes X88.here hx rfl (pc0 := 121) (pc' := 132) rfl (hb hby at_121) rfl (flt (by decide : ¬ ((3 : Int32) < (0 : Int32)))).2.2.2 (by decide) (by decide) kst) ?_
  show OwnWk _ _ _ _ (T88.setTop (mkF m 132 #[vI z0, vI z1, vI z2, vJ z3, sX, vI (0 : Int32), vI (Int32.ofNat M0), vI (Int32.ofNat M1), vI (Int32.ofNat M2), vI (Int32.ofNat M3), vR y0, vR y1, vR y2, vR y3, vR b81, uX, uX, uX, uX, uX, uX, uX, uX, uX, uX, uX, uX] []))
  obtain ⟨T92, h92, X92, e92, E92, A92, D92, -, st92⟩ := newO X88 hx hZ hown (wq hw 84 rfl) (wq hw 85 rfl) (wq hw 86 rfl) e88 (g := (mkF m 132 #[vI z0, vI z1, vI z2, vJ z3, sX, vI (0 : Int32), vI (Int32.ofNat M0), vI (Int32.ofNat M1), vI (Int32.ofNat M2), vI (Int32.ofNat M3), vR y0, vR y1, vR y2, vR y3, vR b81, uX, uX, uX, uX, uX, uX, uX, uX, uX, uX, uX, uX] [])) rfl (hb hby at_132) (by decide) (by decide)
  obtain ⟨b92, g92⟩ : ∃ z, z = h88.size := ⟨_, rfl⟩
  rw [← g92] at A92 D92 st92
  refine own_go st92 ?_
  have ne93 := own_nl F90.lt (Nat.le_of_eq g92.symm)
  have ge94 : n0 ≤ b92 := Nat.le_trans Z91 (Nat.le_of_eq g92.symm)
  have F95 := Old.ext F89 E92
  have F96 := Exa.ext E92 F90
  have F97 := Fld.ext E92 Fm88
  have F98 := Fld.ext E92 Fe88
  have F99 := Fld.ext E92 Fs88
  have Z100 := Nat.le_trans Z91 E92.1
  have F101 : Fld Z h92 b92 "com/example/encircle/encircle/layout/ZoneKeys" "keys" "[J" .null := D92 (Or.inr (wq hw 92 rfl)) (ty := (.array .long)) (by decide)
  have F102 : Fld Z h92 b92 "com/example/encircle/encircle/layout/ZoneKeys" "sums" "[J" .null := D92 (Or.inr (wq hw 107 rfl)) (ty := (.array .long)) (by decide)
  have F103 : Fld Z h92 b92 "com/example/encircle/encircle/layout/ZoneKeys" "sizes" "[I" .null := D92 (Or.inr (wq hw 110 rfl)) (ty := (.array .int)) (by decide)
  have F104 : Fld Z h92 b92 "com/example/encircle/encircle/layout/ZoneKeys" "slotSums" "[J" .null := D92 (Or.inr (wq hw 161 rfl)) (ty := (.array .long)) (by decide)
  have F105 : Fld Z h92 b92 "com/example/encircle/encircle/layout/ZoneKeys" "slotZones" "[I" .null := D92 (Or.inr (wq hw 163 rfl)) (ty := (.array .int)) (by decide)
  have F106 : Fld Z h92 b92 "com/example/encircle/encircle/layout/ZoneKeys" "sameSum" "[I" .null := D92 (Or.inr (wq hw 165 rfl)) (ty := (.array .int)) (by decide)
  show OwnWk _ _ _ _ (T92.setTop (mkF m 135 #[vI z0, vI z1, vI z2, vJ z3, sX, vI (0 : Int32), vI (Int32.ofNat M0), vI (Int32.ofNat M1), vI (Int32.ofNat M2), vI (Int32.ofNat M3), vR y0, vR y1, vR y2, vR y3, vR b81, uX, uX, uX, uX, uX, uX, uX, uX, uX, uX, uX, uX] [(.ref b92)]))
  refine own_go (fun tgt kst => XS.dup X92.here hx rfl (hb hby at_135) rfl rfl kst) ?_
  refine own_go (fun tgt kst => XS.iconst X92.here hx rfl (hb hby at_136) kst) ?_
  refine own_go (fun tgt kst => XS.aload X92.here hx rfl (hb hby at_137) rfl rfl  kst) ?_
  show OwnWk _ _ _ _ (T92.setTop (mkF m 139 #[vI z0, vI z1, vI z2, vJ z3, sX, vI (0 : Int32), vI (Int32.ofNat M0), vI (Int32.ofNat M1), vI (Int32.ofNat M2), vI (Int32.ofNat M3), vR y0, vR y1, vR y2, vR y3, vR b81, uX, uX, uX, uX, uX, uX, uX, uX, uX, uX, uX, uX] [(.ref b81), (.int (4 : Int32)), (.ref b92), (.ref b92)]))
  refine own_callC X92 hx hZ (y := yN14) hown rfl (wq hw 87 rfl) (wq hw 88 rfl) (wq hw 86 rfl) (wq hw 89 rfl) (by decide) (a := b92) (argsL := [(.int (4 : Int32)), (.ref b81)]) (rest := [(.ref b92)])  (h := h92) (zkZ l Z a0 hw b92 b81 (own_p4 M0 M1 M2 M3) h92 n0 Z100 A92 F101 F102 F103 F104 F105 F106 F96 F99 (Ne.symm ne93) ge94) e92 (W := 1) (by decide) (by decide) (by decide) (by decide) rfl (by rw [hml]; rfl) (lenOf pd_13 rfl) rfl (by show 2 * 0 + _ ≤ _; exact Nat.le_of_eq rfl) (hb hby at_139) (fun v107 T107 h107 L107 X107 e107 hQ107 => ?_)
  obtain ⟨rfl, Nq107, Kq107, kk, zs, zz, k0, k1, k2, k3, SS, ZZ, Fk107_0, Fk107_1, Fk107_2, Fk107_3, Fk107_4, Fk107_5, hinv⟩ := hQ107
  have N107 := Fr.app N88 Nq107
  have F108 := Old.keep F95 Kq107 (allS ge94 all0)
  have F109 := Exa.keep F96 Kq107
  have F110 := Fld.keep F97 Kq107 (ninS ne93 nin0)
  have F111 := Fld.keep F98 Kq107 (ninS ne93 nin0)
  have F112 := Fld.keep F99 Kq107 (ninS ne93 nin0)
  have F113 := Exa.keep A92 Kq107
  have Z114 := Nat.le_trans Z100 Kq107.1
  show OwnWk _ _ _ _ (T107.setTop (mkF m 142 #[vI z0, vI z1, vI z2, vJ z3, sX, vI (0 : Int32), vI (Int32.ofNat M0), vI (Int32.ofNat M1), vI (Int32.ofNat M2), vI (Int32.ofNat M3), vR y0, vR y1, vR y2, vR y3, vR b81, uX, uX, uX, uX, uX, uX, uX, uX, uX, uX, uX, uX] [(.ref b92)]))
  refine own_go (fun tgt kst => XS.astore X107.here hx rfl (hb hby at_142) rfl rfl (l' := #[vI z0, vI z1, vI z2, vJ z3, sX, vI (0 : Int32), vI (Int32.ofNat M0), vI (Int32.ofNat M1), vI (Int32.ofNat M2), vI (Int32.ofNat M3), vR y0, vR y1, vR y2, vR y3, vR b81, vR b92, uX, uX, uX, uX, uX, uX, uX, uX, uX, uX, uX]) rfl kst) ?_
  refine own_go (fun tgt kst => XS.aload X107.here hx rfl (hb hby at_144) rfl rfl  kst) ?_
  refine own_go (fun tgt kst => XS.iconst X107.here hx rfl (hb hby at_146) kst) ?_
  show OwnWk _ _ _ _ (T107.setTop (mkF m 147 #[vI z0, vI z1, vI z2, vJ z3, sX, vI (0 : Int32), vI (Int32.ofNat M0), vI (Int32.ofNat M1), vI (Int32.ofNat M2), vI (Int32.ofNat M3), vR y0, vR y1, vR y2, vR y3, vR b81, vR b92, uX, uX, uX, uX, uX, uX, uX, uX, uX, uX, uX] [(.int (0 : Int32)), (.ref b92)]))
  refine own_callV X107 hx hZ (y := yN27) (z := yN27) hown (wq hw 174 rfl) (wq hw 175 rfl) (notFace_of_selects (args := #[]) (mvT hZ (wq hw 177 rfl))) (wq hw 177 rfl) (wq hw 176 rfl) (wq hw 86 rfl) (wq hw 178 rfl) (by decide) (a := b92) F113 (argsL := [(.int (0 : Int32))]) (rest := [])  (h := h107) (key0 l Z a0 hw b92 kk k0 k1 k2 k3 h107 n0 Z114 Fk107_0 Fk107_1) e107 (W := 0) (by decide) (by decide) (by decide) (by decide) rfl (by rw [hml]; rfl) (lenOf pd_14 rfl) rfl (by show 2 * 0 + _ ≤ _; exact Nat.le_of_eq rfl) (hb hby at_147) (fun v115 T115 h115 L115 X115 e115 hQ115 => ?_)
  obtain ⟨rfl, Nq115, q115⟩ := hQ115
  have N115 := Fr.app N107 Nq115
  rw [q115] at e115
  show OwnWk _ _ _ _ (T115.setTop (mkF m 150 #[vI z0, vI z1, vI z2, vJ z3, sX, vI (0 : Int32), vI (Int32.ofNat M0), vI (Int32.ofNat M1), vI (Int32.ofNat M2), vI (Int32.ofNat M3), vR y0, vR y1, vR y2, vR y3, vR b81, vR b92, uX, uX, uX, uX, uX, uX, uX, uX, uX, uX, uX] [(.long k0)]))
  refine own_go (fun tgt kst => XS.lstore X115.here hx rfl (hb hby at_150) rfl (l' := #[vI z0, vI z1, vI z2, vJ z3, sX, vI (0 : Int32), vI (Int32.ofNat M0), vI (Int32.ofNat M1), vI (Int32.ofNat M2), vI (Int32.ofNat M3), vR y0, vR y1, vR y2, vR y3, vR b81, vR b92, vJ k0, sX, uX, uX, uX, uX, uX, uX, uX, uX, uX]) rfl kst) ?_
  refine own_go (fun tgt kst => XS.aload X115.here hx rfl (hb hby at_152) rfl rfl  kst) ?_
  refine own_go (fun tgt kst => XS.iconst X115.here hx rfl (hb hby at_154) kst) ?_
  show OwnWk _ _ _ _ (T115.setTop (mkF m 155 #[vI z0, vI z1, vI z2, vJ z3, sX, vI (0 : Int32), vI (Int32.ofNat M0), vI (Int32.ofNat M1), vI (Int32.ofNat M2), vI (Int32.ofNat M3), vR y0, vR y1, vR y2, vR y3, vR b81, vR b92, vJ k0, sX, uX, uX, uX, uX, uX, uX, uX, uX, uX] [(.int (1 : Int32)), (.ref b92)]))
  refine own_callV X115 hx hZ (y := yN27) (z := yN27) hown (wq hw 174 rfl) (wq hw 175 rfl) (notFace_of_selects (args := #[]) (mvT hZ (wq hw 177 rfl))) (wq hw 177 rfl) (wq hw 176 rfl) (wq hw 86 rfl) (wq hw 178 rfl) (by decide) (a := b92) F113 (argsL := [(.int (1 : Int32))]) (rest := [])  (h := h107) (key1 l Z a0 hw b92 kk k0 k1 k2 k3 h107 n0 Z114 Fk107_0 Fk107_1) e115 (W := 0) (by decide) (by decide) (by decide) (by decide) rfl (by rw [hml]; rfl) (lenOf pd_14 rfl) rfl (by show 2 * 0 + _ ≤ _; exact Nat.le_of_eq rfl) (hb hby at_155) (fun v116 T116 h116 L116 X116 e116 hQ116 => ?_)
  obtain ⟨rfl, Nq116, q116⟩ := hQ116
  have N116 := Fr.app N115 Nq116
  rw [q116] at e116
  show OwnWk _ _ _ _ (T116.setTop (mkF m 158 #[vI z0, vI z1, vI z2, vJ z3, sX, vI (0 : Int32), vI (Int32.ofNat M0), vI (Int32.ofNat M1), vI (Int32.ofNat M2), vI (Int32.ofNat M3), vR y0, vR y1, vR y2, vR y3, vR b81, vR b92, vJ k0, sX, uX, uX, uX, uX, uX, uX, uX, uX, uX] [(.long k1)]))
  refine own_go (fun tgt kst => XS.lstore X116.here hx rfl (hb hby at_158) rfl (l' := #[vI z0, vI z1, vI z2, vJ z3, sX, vI (0 : Int32), vI (Int32.ofNat M0), vI (Int32.ofNat M1), vI (Int32.ofNat M2), vI (Int32.ofNat M3), vR y0, vR y1, vR y2, vR y3, vR b81, vR b92, vJ k0, sX, vJ k1, sX, uX, uX, uX, uX, uX, uX, uX]) rfl kst) ?_
  refine own_go (fun tgt kst => XS.aload X116.here hx rfl (hb hby at_160) rfl rfl  kst) ?_
  refine own_go (fun tgt kst => XS.iconst X116.here hx rfl (hb hby at_162) kst) ?_
  show OwnWk _ _ _ _ (T116.setTop (mkF m 163 #[vI z0, vI z1, vI z2, vJ z3, sX, vI (0 : Int32), vI (Int32.ofNat M0), vI (Int32.ofNat M1), vI (Int32.ofNat M2), vI (Int32.ofNat M3), vR y0, vR y1, vR y2, vR y3, vR b81, vR b92, vJ k0, sX, vJ k1, sX, uX, uX, uX, uX, uX, uX, uX] [(.int (2 : Int32)), (.ref b92)]))
  refine own_callV X116 hx hZ (y := yN27) (z := yN27) hown (wq hw 174 rfl) (wq hw 175 rfl) (notFace_of_selects (args := #[]) (mvT hZ (wq hw 177 rfl))) (wq hw 177 rfl) (wq hw 176 rfl) (wq hw 86 rfl) (wq hw 178 rfl) (by decide) (a := b92) F113 (argsL := [(.int (2 : Int32))]) (rest := [])  (h := h107) (key2 l Z a0 hw b92 kk k0 k1 k2 k3 h107 n0 Z114 Fk107_0 Fk107_1) e116 (W := 0) (by decide) (by decide) (by decide) (by decide) rfl (by rw [hml]; rfl) (lenOf pd_14 rfl) rfl (by show 2 * 0 + _ ≤ _; exact Nat.le_of_eq rfl) (hb hby at_163) (fun v117 T117 h117 L117 X117 e117 hQ117 => ?_)
  obtain ⟨rfl, Nq117, q117⟩ := hQ117
  have N117 := Fr.app N116 Nq117
  rw [q117] at e117
  show OwnWk _ _ _ _ (T117.setTop (mkF m 166 #[vI z0, vI z1, vI z2, vJ z3, sX, vI (0 : Int32), vI (Int32.ofNat M0), vI (Int32.ofNat M1), vI (Int32.ofNat M2), vI (Int32.ofNat M3), vR y0, vR y1, vR y2, vR y3, vR b81, vR b92, vJ k0, sX, vJ k1, sX, uX, uX, uX, uX, uX, uX, uX] [(.long k2)]))
  refine own_go (fun tgt kst => XS.lstore X117.here hx rfl (hb hby at_166) rfl (l' := #[vI z0, vI z1, vI z2, vJ z3, sX, vI (0 : Int32), vI (Int32.ofNat M0), vI (Int32.ofNat M1), vI (Int32.ofNat M2), vI (Int32.ofNat M3), vR y0, vR y1, vR y2, vR y3, vR b81, vR b92, vJ k0, sX, vJ k1, sX, vJ k2, sX, uX, uX, uX, uX, uX]) rfl kst) ?_
  refine own_go (fun tgt kst => XS.aload X117.here hx rfl (hb hby at_168) rfl rfl  kst) ?_
  refine own_go (fun tgt kst => XS.iconst X117.here hx rfl (hb hby at_170) kst) ?_
  show OwnWk _ _ _ _ (T117.setTop (mkF m 171 #[vI z0, vI z1, vI z2, vJ z3, sX, vI (0 : Int32), vI (Int32.ofNat M0), vI (Int32.ofNat M1), vI (Int32.ofNat M2), vI (Int32.ofNat M3), vR y0, vR y1, vR y2, vR y3, vR b81, vR b92, vJ k0, sX, vJ k1, sX, vJ k2, sX, uX, uX, uX, uX, uX] [(.int (3 : Int32)), (.ref b92)]))
  refine own_callV X117 hx hZ (y := yN27) (z := yN27) hown (wq hw 174 rfl) (wq hw 175 rfl) (notFace_of_selects (args := #[]) (mvT hZ (wq hw 177 rfl))) (wq hw 177 rfl) (wq hw 176 rfl) (wq hw 86 rfl) (wq hw 178 rfl) (by decide) (a := b92) F113 (argsL := [(.int (3 : Int32))]) (rest := [])  (h := h107) (key3 l Z a0 hw b92 kk k0 k1 k2 k3 h107 n0 Z114 Fk107_0 Fk107_1) e117 (W := 0) (by decide) (by decide) (by decide) (by decide) rfl (by rw [hml]; rfl) (lenOf pd_14 rfl) rfl (by show 2 * 0 + _ ≤ _; exact Nat.le_of_eq rfl) (hb hby at_171) (fun v118 T118 h118 L118 X118 e118 hQ118 => ?_)
  obtain ⟨rfl, Nq118, q118⟩ := hQ118
  have N118 := Fr.app N117 Nq118
  rw [q118] at e118
  show OwnWk _ _ _ _ (T118.setTop (mkF m 174 #[vI z0, vI z1, vI z2, vJ z3, sX, vI (0 : Int32), vI (Int32.ofNat M0), vI (Int32.ofNat M1), vI (Int32.ofNat M2), vI (Int32.ofNat M3), vR y0, vR y1, vR y2, vR y3, vR b81, vR b92, vJ k0, sX, vJ k1, sX, vJ k2, sX, uX, uX, uX, uX, uX] [(.long k3)]))
  refine own_go (fun tgt kst => XS.lstore X118.here hx rfl (hb hby at_174) rfl (l' := #[vI z0, vI z1, vI z2, vJ z3, sX, vI (0 : Int32), vI (Int32.ofNat M0), vI (Int32.ofNat M1), vI (Int32.ofNat M2), vI (Int32.ofNat M3), vR y0, vR y1, vR y2, vR y3, vR b81, vR b92, vJ k0, sX, vJ k1, sX, vJ k2, sX, vJ k3, sX, uX, uX, uX]) rfl kst) ?_
  show OwnWk _ _ _ _ (T118.setTop (mkF m 176 #[vI z0, vI z1, vI z2, vJ z3, sX, vI (0 : Int32), vI (Int32.ofNat M0), vI (Int32.ofNat M1), vI (Int32.ofNat M2), vI (Int32.ofNat M3), vR y0, vR y1, vR y2, vR y3, vR b81, vR b92, vJ k0, sX, vJ k1, sX, vJ k2, sX, vJ k3, sX, uX, uX, uX] []))
  have LQ : ∀ (qq : Int64) (T_ : State) (L_ : List Loc), Stand p l e room_1 s m #[(.int z0), (.int z1), (.int z2), (.long z3)] below meth c T_ L_ 17 61 → T_.heap = h107 → Fr n0 L_ →
      OwnWk p e below (OwnP s (Q_rm0 Z z0 z1 z2 z3 dce h0 n0) room_1.cells room_1.slots) (T_.setTop (mkF m 202 #[vI z0, vI z1, vI z2, vJ z3, sX, vI (0 : Int32), vI (Int32.ofNat M0), vI (Int32.ofNat M1), vI (Int32.ofNat M2), vI (Int32.ofNat M3), vR y0, vR y1, vR y2, vR y3, vR b81, vR b92, vJ k0, sX, vJ k1, sX, vJ k2, sX, vJ k3, sX, uX, uX, uX] [(.long qq)])) := by
   intro qq T_119 L_119  X_119 e_119 N_119
   show OwnWk _ _ _ _ (T_119.setTop (mkF m 202 #[vI z0, vI z1, vI z2, vJ z3, sX, vI (0 : Int32), vI (Int32.ofNat M0), vI (Int32.ofNat M1), vI (Int32.ofNat M2), vI (Int32.ofNat M3), vR y0, vR y1, vR y2, vR y3, vR b81, vR b92, vJ k0, sX, vJ k1, sX, vJ k2, sX, vJ k3, sX, uX, uX, uX] [(.long qq)]))
   have LS0 : ∀ (ix : Int32) (T_ : State) (L_ : List Loc), ix = Int32.ofNat (own_Ez (own_f (own_p4 M0 M1 M2 M3) k0 k1 k2 k3) 0 0 qq) - (1 : Int32) → Stand p l e room_1 s m #[(.int z0), (.int z1), (.int z2), (.long z3)] below meth c T_ L_ 17 61 → T_.heap = h107 → Fr n0 L_ →
       OwnWk p e below (OwnP s (Q_rm0 Z z0 z1 z2 z3 dce h0 n0) room_1.cells room_1.slots) (T_.setTop (mkF m 318 #[vI z0, vI z1, vI z2, vJ z3, sX, vI (0 : Int32), vI (Int32.ofNat M0), vI (Int32.ofNat M1), vI (Int32.ofNat M2), vI (Int32.ofNat M3), vR y0, vR y1, vR y2, vR y3, vR b81, vR b92, vJ k0, sX, vJ k1, sX, vJ k2, sX, vJ k3, sX, vJ qq, sX, vI ix] [])) := by
    intro ix T_120 L_120 hix X_120 e_120 N_120
    show OwnWk _ _ _ _ (T_120.setTop (mkF m 318 #[vI z0, vI z1, vI z2, vJ z3, sX, vI (0 : Int32), vI (Int32.ofNat M0), vI (Int32.ofNat M1), vI (Int32.ofNat M2), vI (Int32.ofNat M3), vR y0, vR y1, vR y2, vR y3, vR b81, vR b92, vJ k0, sX, vJ k1, sX, vJ k2, sX, vJ k3, sX, vJ qq, sX, vI ix] []))
    refine own_go (fun tgt kst => XS.aload X_120.here hx rfl (hb hby at_318) rfl rfl  kst) ?_
    refine own_go (fun tgt kst => XS.lload X_120.here hx rfl (hb hby at_320) rfl  kst) ?_
    show OwnWk _ _ _ _ (T_120.setTop (mkF m 322 #[vI z0, vI z1, vI z2, vJ z3, sX, vI (0 : Int32), vI (Int32.ofNat M0), vI (Int32.ofNat M1), vI (Int32.ofNat M2), vI (Int32.ofNat M3), vR y0, vR y1, vR y2, vR y3, vR b81, vR b92, vJ k0, sX, vJ k1, sX, vJ k2, sX, vJ k3, sX, vJ qq, sX, vI ix] [(.long qq), (.ref b92)]))
    refine own_callV X_120 hx hZ (y := yN29) (z := yN29) hown (wq hw 182 rfl) (wq hw 183 rfl) (notFace_of_selects (args := #[]) (mvT hZ (wq hw 185 rfl))) (wq hw 185 rfl) (wq hw 184 rfl) (wq hw 86 rfl) (wq hw 186 rfl) (by decide) (a := b92) F113 (argsL := [(.long qq)]) (rest := [])  (h := h107) (fst l Z a0 hw b92 zs zz SS ZZ qq (own_k 0) 0 (own_Ez (own_f (own_p4 M0 M1 M2 M3) k0 k1 k2 k3) 0 0) h107 n0 Z114 F113 Fk107_2 Fk107_3 Fk107_4 Fk107_5 own_k4 hinv (by decide)) e_120 (W := 0) (by decide) (by decide) (by decide) (by decide) rfl (by rw [hml]; rfl) (lenOf pd_3 rfl) rfl (by show 2 * 0 + _ ≤ _; exact Nat.le_of_eq rfl) (hb hby at_322) (fun v121 T121 h121 L121 X121 e121 hQ121 => ?_)
    obtain ⟨rfl, Nq121, q121⟩ := hQ121
    have N121 := Fr.app N_120 Nq121
    rw [q121] at e121
    show OwnWk _ _ _ _ (T121.setTop (mkF m 325 #[vI z0, vI z1, vI z2, vJ z3, sX, vI (0 : Int32), vI (Int32.ofNat M0), vI (Int32.ofNat M1), vI (Int32.ofNat M2), vI (Int32.ofNat M3), vR y0, vR y1, vR y2, vR y3, vR b81, vR b92, vJ k0, sX, vJ k1, sX, vJ k2, sX, vJ k3, sX, vJ qq, sX, vI ix] [(.int ((Int32.ofNat (own_Ez (own_f (own_p4 M0 M1 M2 M3) k0 k1 k2 k3) 0 0 qq)) - (1 : Int32)))]))
    refine own_go (fun tgt kst => XS.iload X121.here hx rfl (hb hby at_325) rfl  kst) ?_
    show OwnWk _ _ _ _ (T121.setTop (mkF m 327 #[vI z0, vI z1, vI z2, vJ z3, sX, vI (0 : Int32), vI (Int32.ofNat M0), vI (Int32.ofNat M1), vI (Int32.ofNat M2), vI (Int32.ofNat M3), vR y0, vR y1, vR y2, vR y3, vR b81, vR b92, vJ k0, sX, vJ k1, sX, vJ k2, sX, vJ k3, sX, vJ qq, sX, vI ix] [(.int ix), (.int ((Int32.ofNat (own_Ez (own_f (own_p4 M0 M1 M2 M3) k0 k1 k2 k3) 0 0 qq)) - (1 : Int32)))]))
    refine own_go (fun tgt kst => XS.icmpNo X121.here hx rfl (hb hby at_327) rfl (teq hix.symm).2 kst) ?_
    show OwnWk _ _ _ _ (T121.setTop (mkF m 330 #[vI z0, vI z1, vI z2, vJ z3, sX, vI (0 : Int32), vI (Int32.ofNat M0), vI (Int32.ofNat M1), vI (Int32.ofNat M2), vI (Int32.ofNat M3), vR y0, vR y1, vR y2, vR y3, vR b81, vR b92, vJ k0, sX, vJ k1, sX, vJ k2, sX, vJ k3, sX, vJ qq, sX, vI ix] []))
    refine own_go (fun tgt kst => XS.iconst X121.here hx rfl (hb hby at_330) kst) ?_
    refine own_go (fun tgt kst => XS.goto X121.here hx rfl (pc0 := 331) (pc' := 335) rfl (hb hby at_331) (by decide) (by decide) kst) ?_
    show OwnWk _ _ _ _ (T121.setTop (mkF m 335 #[vI z0, vI z1, vI z2, vJ z3, sX, vI (0 : Int32), vI (Int32.ofNat M0), vI (Int32.ofNat M1), vI (Int32.ofNat M2), vI (Int32.ofNat M3), vR y0, vR y1, vR y2, vR y3, vR b81, vR b92, vJ k0, sX, vJ k1, sX, vJ k2, sX, vJ k3, sX, vJ qq, sX, vI ix] [(.int (1 : Int32))]))
    exact own_retZ X121 hx hlk hret (by simp) (z' := (1 : Int32)) rfl (hb hby at_335) (by decide) (by decide) (by rw [e121]; exact ⟨rfl, N121⟩)
   show OwnWk _ _ _ _ (T_119.setTop (mkF m 202 #[vI z0, vI z1, vI z2, vJ z3, sX, vI (0 : Int32), vI (Int32.ofNat M0), vI (Int32.ofNat M1), vI (Int32.ofNat M2), vI (Int32.ofNat M3), vR y0, vR y1, vR y2, vR y3, vR b81, vR b92, vJ k0, sX, vJ k1, sX, vJ k2, sX, vJ k3, sX, uX, uX, uX] [(.long qq)]))
   refine own_go (fun tgt kst => XS.lstore X_119.here hx rfl (hb hby at_202) rfl (l' := #[vI z0, vI z1, vI z2, vJ z3, sX, vI (0 : Int32), vI (Int32.ofNat M0), vI (Int32.ofNat M1), vI (Int32.ofNat M2), vI (Int32.ofNat M3), vR y0, vR y1, vR y2, vR y3, vR b81, vR b92, vJ k0, sX, vJ k1, sX, vJ k2, sX, vJ k3, sX, vJ qq, sX, uX]) rfl kst) ?_
   refine own_go (fun tgt kst => XS.iconst X_119.here hx rfl (hb hby at_204) kst) ?_
   refine own_go (fun tgt kst => XS.istore X_119.here hx rfl (hb hby at_205) rfl (l' := #[vI z0, vI z1, vI z2, vJ z3, sX, vI (0 : Int32), vI (Int32.ofNat M0), vI (Int32.ofNat M1), vI (Int32.ofNat M2), vI (Int32.ofNat M3), vR y0, vR y1, vR y2, vR y3, vR b81, vR b92, vJ k0, sX, vJ k1, sX, vJ k2, sX, vJ k3, sX, vJ qq, sX, vI (-1 : Int32)]) rfl kst) ?_
   show OwnWk _ _ _ _ (T_119.setTop (mkF m 207 #[vI z0, vI z1, vI z2, vJ z3, sX, vI (0 : Int32), vI (Int32.ofNat M0), vI (Int32.ofNat M1), vI (Int32.ofNat M2), vI (Int32.ofNat M3), vR y0, vR y1, vR y2, vR y3, vR b81, vR b92, vJ k0, sX, vJ k1, sX, vJ k2, sX, vJ k3, sX, vJ qq, sX, vI (-1 : Int32)] []))
   refine own_go (fun tgt kst => XS.iload X_119.here hx rfl (hb hby at_207) rfl  kst) ?_
   refine own_go (fun tgt kst => XS.iconst X_119.here hx rfl (hb hby at_209) kst) ?_
   refine own_go (fun tgt kst => XS.icmpYes X_119.here hx rfl (pc0 := 210) (pc' := 235) rfl (hb hby at_210) rfl (flt (by decide : ¬ ((3 : Int32) < (0 : Int32)))).2.2.2 (by decide) (by decide) kst) ?_
   refine own_go (fun tgt kst => XS.iload X_119.here hx rfl (hb hby at_235) rfl  kst) ?_
   refine own_go (fun tgt kst => XS.iconst X_119.here hx rfl (hb hby at_237) kst) ?_
   refine own_go (fun tgt kst => XS.icmpYes X_119.here hx rfl (pc0 := 238) (pc' := 263) rfl (hb hby at_238) rfl (flt (by decide : ¬ ((2 : Int32) < (0 : Int32)))).2.2.2 (by decide) (by decide) kst) ?_
   show OwnWk _ _ _ _ (T_119.setTop (mkF m 263 #[vI z0, vI z1, vI z2, vJ z3, sX, vI (0 : Int32), vI (Int32.ofNat M0), vI (Int32.ofNat M1), vI (Int32.ofNat M2), vI (Int32.ofNat M3), vR y0, vR y1, vR y2, vR y3, vR b81, vR b92, vJ k0, sX, vJ k1, sX, vJ k2, sX, vJ k3, sX, vJ qq, sX, vI (-1 : Int32)] []))
   refine own_go (fun tgt kst => XS.iload X_119.here hx rfl (hb hby at_263) rfl  kst) ?_
   refine own_go (fun tgt kst => XS.iconst X_119.here hx rfl (hb hby at_265) kst) ?_
   refine own_go (fun tgt kst => XS.icmpYes X_119.here hx rfl (pc0 := 266) (pc' := 291) rfl (hb hby at_266) rfl (flt (by decide : ¬ ((1 : Int32) < (0 : Int32)))).2.2.2 (by decide) (by decide) kst) ?_
   refine own_go (fun tgt kst => XS.iload X_119.here hx rfl (hb hby at_291) rfl  kst) ?_
   refine own_go (fun tgt kst => XS.ifYes X_119.here hx rfl (pc0 := 293) (pc' := 318) rfl (hb hby at_293) rfl ((if0 _ _).trans (flt (by decide : ¬ ((0 : Int32) < (0 : Int32)))).2.2.2) (by decide) (by decide) kst) ?_
   show OwnWk _ _ _ _ (T_119.setTop (mkF m 318 #[vI z0, vI z1, vI z2, vJ z3, sX, vI (0 : Int32), vI (Int32.ofNat M0), vI (Int32.ofNat M1), vI (Int32.ofNat M2), vI (Int32.ofNat M3), vR y0, vR y1, vR y2, vR y3, vR b81, vR b92, vJ k0, sX, vJ k1, sX, vJ k2, sX, vJ k3, sX, vJ qq, sX, vI (-1 : Int32)] []))
   exact LS0 _ _ _ rfl X_119 e_119 N_119
  show OwnWk _ _ _ _ (T118.setTop (mkF m 176 #[vI z0, vI z1, vI z2, vJ z3, sX, vI (0 : Int32), vI (Int32.ofNat M0), vI (Int32.ofNat M1), vI (Int32.ofNat M2), vI (Int32.ofNat M3), vR y0, vR y1, vR y2, vR y3, vR b81, vR b92, vJ k0, sX, vJ k1, sX, vJ k2, sX, vJ k3, sX, uX, uX, uX] []))
  refine own_go (fun tgt kst => XS.iloadN X118.here hx rfl (hb hby at_176) rfl  kst) ?_
  refine own_go (fun tgt kst => XS.bipush X118.here hx rfl (hb hby at_177) kst) ?_
  refine own_go (fun tgt kst => XS.iand X118.here hx rfl (hb hby at_179) rfl kst) ?_
  show OwnWk _ _ _ _ (T118.setTop (mkF m 180 #[vI z0, vI z1, vI z2, vJ z3, sX, vI (0 : Int32), vI (Int32.ofNat M0), vI (Int32.ofNat M1), vI (Int32.ofNat M2), vI (Int32.ofNat M3), vR y0, vR y1, vR y2, vR y3, vR b81, vR b92, vJ k0, sX, vJ k1, sX, vJ k2, sX, vJ k3, sX, uX, uX, uX] [(.int (z2 &&& (16 : Int32)))]))
  by_cases hc122 : (z2 &&& (16 : Int32)) = (0 : Int32)
  ·
   refine own_go (fun tgt kst => XS.ifYes X118.here hx rfl (pc0 := 180) (pc' := 187) rfl (hb hby at_180) rfl ((if0 _ _).trans (teq hc122).1) (by decide) (by decide) kst) ?_
   show OwnWk _ _ _ _ (T118.setTop (mkF m 187 #[vI z0, vI z1, vI z2, vJ z3, sX, vI (0 : Int32), vI (Int32.ofNat M0), vI (Int32.ofNat M1), vI (Int32.ofNat M2), vI (Int32.ofNat M3), vR y0, vR y1, vR y2, vR y3, vR b81, vR b92, vJ k0, sX, vJ k1, sX, vJ k2, sX, vJ k3, sX, uX, uX, uX] []))
   refine own_go (fun tgt kst => XS.iloadN X118.here hx rfl (hb hby at_187) rfl  kst) ?_
   refine own_go (fun tgt kst => XS.bipush X118.here hx rfl (hb hby at_188) kst) ?_
   refine own_go (fun tgt kst => XS.iand X118.here hx rfl (hb hby at_190) rfl kst) ?_
   show OwnWk _ _ _ _ (T118.setTop (mkF m 191 #[vI z0, vI z1, vI z2, vJ z3, sX, vI (0 : Int32), vI (Int32.ofNat M0), vI (Int32.ofNat M1), vI (Int32.ofNat M2), vI (Int32.ofNat M3), vR y0, vR y1, vR y2, vR y3, vR b81, vR b92, vJ k0, sX, vJ k1, sX, vJ k2, sX, vJ k3, sX, uX, uX, uX] [(.int (z2 &&& (15 : Int32)))]))
   obtain ⟨MQ, hMQ, eMQ⟩ := own_and_nat z2 15 (by decide)
   rw [show (z2 &&& (15 : Int32)) = Int32.ofNat MQ from eMQ]
   show OwnWk _ _ _ _ (T118.setTop (mkF m 191 #[vI z0, vI z1, vI z2, vJ z3, sX, vI (0 : Int32), vI (Int32.ofNat M0), vI (Int32.ofNat M1), vI (Int32.ofNat M2), vI (Int32.ofNat M3), vR y0, vR y1, vR y2, vR y3, vR b81, vR b92, vJ k0, sX, vJ k1, sX, vJ k2, sX, vJ k3, sX, uX, uX, uX] [(.int (Int32.ofNat MQ))]))
   refine own_go (fun tgt kst => XS.lload X118.here hx rfl (hb hby at_191) rfl  kst) ?_
   refine own_go (fun tgt kst => XS.lload X118.here hx rfl (hb hby at_193) rfl  kst) ?_
   refine own_go (fun tgt kst => XS.lload X118.here hx rfl (hb hby at_195) rfl  kst) ?_
   refine own_go (fun tgt kst => XS.lload X118.here hx rfl (hb hby at_197) rfl  kst) ?_
   show OwnWk _ _ _ _ (T118.setTop (mkF m 199 #[vI z0, vI z1, vI z2, vJ z3, sX, vI (0 : Int32), vI (Int32.ofNat M0), vI (Int32.ofNat M1), vI (Int32.ofNat M2), vI (Int32.ofNat M3), vR y0, vR y1, vR y2, vR y3, vR b81, vR b92, vJ k0, sX, vJ k1, sX, vJ k2, sX, vJ k3, sX, uX, uX, uX] [(.long k3), (.long k2), (.long k1), (.long k0), (.int (Int32.ofNat MQ))]))
   refine own_callS X118 hx hZ (y := yN28) hown (wq hw 179 rfl) (wq hw 180 rfl) (wq hw 3 rfl) (wq hw 181 rfl) (by decide) (argsL := [(.int (Int32.ofNat MQ)), (.long k0), (.long k1), (.long k2), (.long k3)]) (rest := [])  (h := h107) (smo l Z a0 hw MQ k0 k1 k2 k3 h107 n0 Z114) e118 (W := 0) (by decide) (by decide) (by decide) (by decide) rfl (by rw [hml]; rfl) (lenOf pd_15 rfl) rfl (by show 2 * 0 + _ ≤ _; exact Nat.le_of_eq rfl) (hb hby at_199) (fun v123 T123 h123 L123 X123 e123 hQ123 => ?_)
   obtain ⟨rfl, Nq123, q123⟩ := hQ123
   have N123 := Fr.app N118 Nq123
   rw [q123] at e123
   show OwnWk _ _ _ _ (T123.setTop (mkF m 202 #[vI z0, vI z1, vI z2, vJ z3, sX, vI (0 : Int32), vI (Int32.ofNat M0), vI (Int32.ofNat M1), vI (Int32.ofNat M2), vI (Int32.ofNat M3), vR y0, vR y1, vR y2, vR y3, vR b81, vR b92, vJ k0, sX, vJ k1, sX, vJ k2, sX, vJ k3, sX, uX, uX, uX] [(.long (own_sumM MQ k0 k1 k2 k3))]))
   exact LQ _ _ _  X123 e123 N123
  ·
   refine own_go (fun tgt kst => XS.ifNo X118.here hx rfl (hb hby at_180) rfl ((if0 _ _).trans (feq hc122).1) kst) ?_
   show OwnWk _ _ _ _ (T118.setTop (mkF m 183 #[vI z0, vI z1, vI z2, vJ z3, sX, vI (0 : Int32), vI (Int32.ofNat M0), vI (Int32.ofNat M1), vI (Int32.ofNat M2), vI (Int32.ofNat M3), vR y0, vR y1, vR y2, vR y3, vR b81, vR b92, vJ k0, sX, vJ k1, sX, vJ k2, sX, vJ k3, sX, uX, uX, uX] []))
   refine own_go (fun tgt kst => XS.lloadN X118.here hx rfl (hb hby at_183) rfl  kst) ?_
   refine own_go (fun tgt kst => XS.goto X118.here hx rfl (pc0 := 184) (pc' := 202) rfl (hb hby at_184) (by decide) (by decide) kst) ?_
   show OwnWk _ _ _ _ (T118.setTop (mkF m 202 #[vI z0, vI z1, vI z2, vJ z3, sX, vI (0 : Int32), vI (Int32.ofNat M0), vI (Int32.ofNat M1), vI (Int32.ofNat M2), vI (Int32.ofNat M3), vR y0, vR y1, vR y2, vR y3, vR b81, vR b92, vJ k0, sX, vJ k1, sX, vJ k2, sX, vJ k3, sX, uX, uX, uX] [(.long z3)]))
   exact LQ _ _ _  X118 e118 N118
 ·
  show OwnWk _ _ _ _ (T52.setTop (mkF m 68 #[vI z0, vI z1, vI z2, vJ z3, sX, vI (1 : Int32), vI (Int32.ofNat M0), vI (Int32.ofNat M1), vI (Int32.ofNat M2), vI (Int32.ofNat M3), vR y0, vR y1, vR y2, vR y3, uX, uX, uX, uX, uX, uX, uX, uX, uX, uX, uX, uX, uX] []))
  obtain ⟨T124, h124, X124, e124, E124, A124, D124, -, st124⟩ := newO X52 hx hZ hown (wq hw 29 rfl) (wq hw 30 rfl) (wq hw 31 rfl) e52 (g := (mkF m 68 #[vI z0, vI z1, vI z2, vJ z3, sX, vI (1 : Int32), vI (Int32.ofNat M0), vI (Int32.ofNat M1), vI (Int32.ofNat M2), vI (Int32.ofNat M3), vR y0, vR y1, vR y2, vR y3, uX, uX, uX, uX, uX, uX, uX, uX, uX, uX, uX, uX, uX] [])) rfl (hb hby at_68) (by decide) (by decide)
  obtain ⟨b124, g124⟩ : ∃ z, z = h52.size := ⟨_, rfl⟩
  rw [← g124] at A124 D124 st124
  refine own_go st124 ?_
  have ne125 := own_nl F54.lt (Nat.le_of_eq g124.symm)
  have ne126 := own_nl F57.lt (Nat.le_of_eq g124.symm)
  have ge127 : n0 ≤ b124 := Nat.le_trans Z66 (Nat.le_of_eq g124.symm)
  have F128 := Old.ext F53 E124
  have F129 := Exa.ext E124 F54
  have F130 := Fld.ext E124 F55
  have F131 := Fld.ext E124 F56
  have F132 := OAr.ext F57 E124
  have Z133 := Nat.le_trans Z66 E124.1
  have F134 : Fld Z h124 b124 "java/util/AbstractList" "modCount" "I" (.int (0 : Int32)) := D124 (Or.inl (wq hw 49 rfl)) (ty := .int) (by decide)
  have F135 : Fld Z h124 b124 "java/util/ArrayList" "elementData" "[Ljava/lang/Object;" .null := D124 (Or.inl (wq hw 52 rfl)) (ty := (.array (.object "java/lang/Object"))) (by decide)
  have F136 : Fld Z h124 b124 "java/util/ArrayList" "size" "I" (.int (0 : Int32)) := D124 (Or.inl (wq hw 61 rfl)) (ty := .int) (by decide)
  show OwnWk _ _ _ _ (T124.setTop (mkF m 71 #[vI z0, vI z1, vI z2, vJ z3, sX, vI (1 : Int32), vI (Int32.ofNat M0), vI (Int32.ofNat M1), vI (Int32.ofNat M2), vI (Int32.ofNat M3), vR y0, vR y1, vR y2, vR y3, uX, uX, uX, uX, uX, uX, uX, uX, uX, uX, uX, uX, uX] [(.ref b124)]))
  refine own_go (fun tgt kst => XS.dup X124.here hx rfl (hb hby at_71) rfl rfl kst) ?_
  show OwnWk _ _ _ _ (T124.setTop (mkF m 72 #[vI z0, vI z1, vI z2, vJ z3, sX, vI (1 : Int32), vI (Int32.ofNat M0), vI (Int32.ofNat M1), vI (Int32.ofNat M2), vI (Int32.ofNat M3), vR y0, vR y1, vR y2, vR y3, uX, uX, uX, uX, uX, uX, uX, uX, uX, uX, uX, uX, uX] [(.ref b124), (.ref b124)]))
  refine own_callC X124 hx hZ (y := yN6) hown rfl (wq hw 32 rfl) (wq hw 33 rfl) (wq hw 31 rfl) (wq hw 34 rfl) (by decide) (a := b124) (argsL := []) (rest := [(.ref b124)])  (h := h124) (rm6 l Z a0 hw dce b124 h124 n0 Z133 F128 S_d V_d S_a A124 ge127 F134 F135 F136) e124 (W := 1) (by decide) (by decide) (by decide) (by decide) rfl (by rw [hml]; rfl) (lenOf pd_2 rfl) rfl (by show 2 * 0 + _ ≤ _; exact Nat.le_of_eq rfl) (hb hby at_72) (fun v137 T137 h137 L137 X137 e137 hQ137 => ?_)
  obtain ⟨rfl, Nq137, Kq137, Fm137, Fe137, Fs137⟩ := hQ137
  have N137 := Fr.app N52 Nq137
  have F138 := Old.keep F128 Kq137 (allS ge127 all0)
  have F139 := Exa.keep F129 Kq137
  have F140 := Fld.keep F130 Kq137 (ninS ne125 nin0)
  have F141 := Fld.keep F131 Kq137 (ninS ne125 nin0)
  have F142 := OAr.keep F132 Kq137 (ninS ne126 nin0)
  have F143 := Exa.keep A124 Kq137
  have Z144 := Nat.le_trans Z133 Kq137.1
  show OwnWk _ _ _ _ (T137.setTop (mkF m 75 #[vI z0, vI z1, vI z2, vJ z3, sX, vI (1 : Int32), vI (Int32.ofNat M0), vI (Int32.ofNat M1), vI (Int32.ofNat M2), vI (Int32.ofNat M3), vR y0, vR y1, vR y2, vR y3, uX, uX, uX, uX, uX, uX, uX, uX, uX, uX, uX, uX, uX] [(.ref b124)]))
  refine own_go (fun tgt kst => XS.astore X137.here hx rfl (hb hby at_75) rfl rfl (l' := #[vI z0, vI z1, vI z2, vJ z3, sX, vI (1 : Int32), vI (Int32.ofNat M0), vI (Int32.ofNat M1), vI (Int32.ofNat M2), vI (Int32.ofNat M3), vR y0, vR y1, vR y2, vR y3, vR b124, uX, uX, uX, uX, uX, uX, uX, uX, uX, uX, uX, uX]) rfl kst) ?_
  refine own_go (fun tgt kst => XS.iload X137.here hx rfl (hb hby at_77) rfl  kst) ?_
  refine own_go (fun tgt kst => XS.ifNo X137.here hx rfl (hb hby at_79) rfl ((if0 _ _).trans (tlt (by decide : (0 : Int32) < (1 : Int32))).2.2.2) kst) ?_
  refine own_go (fun tgt kst => XS.aload X137.here hx rfl (hb hby at_82) rfl rfl  kst) ?_
  refine own_go (fun tgt kst => XS.aload X137.here hx rfl (hb hby at_84) rfl rfl  kst) ?_
  show OwnWk _ _ _ _ (T137.setTop (mkF m 86 #[vI z0, vI z1, vI z2, vJ z3, sX, vI (1 : Int32), vI (Int32.ofNat M0), vI (Int32.ofNat M1), vI (Int32.ofNat M2), vI (Int32.ofNat M3), vR y0, vR y1, vR y2, vR y3, vR b124, uX, uX, uX, uX, uX, uX, uX, uX, uX, uX, uX, uX] [(.ref y0), (.ref b124)]))
  have lt145 : y0 < h137.size := F139.lt
  have lt146 : w0_ < h137.size := F142.lt
  have lt147 : b124 < h137.size := F143.lt
  refine own_callV X137 hx hZ (y := yN9) (z := yN9) hown (wq hw 53 rfl) (wq hw 54 rfl) (notFace_of_selects (args := #[]) (mvT hZ (wq hw 56 rfl))) (wq hw 56 rfl) (wq hw 55 rfl) (wq hw 31 rfl) (wq hw 57 rfl) (by decide) (a := b124) F143 (argsL := [(.ref y0)]) (rest := [])  (h := h137) (adB0 l Z a0 hw dce b124 y0 h137 n0 Z144 F138 S_d V_d S_a (Ins.of_exa F139 (wq hw 83 rfl)) F143 ge127 Fm137 Fe137 Fs137) e137 (W := 0) (by decide) (by decide) (by decide) (by decide) rfl (by rw [hml]; rfl) (lenOf pd_16 rfl) rfl (by show 2 * 0 + _ ≤ _; exact Nat.le_of_eq rfl) (hb hby at_86) (fun v148 T148 h148 L148 X148 e148 hQ148 => ?_)
  obtain ⟨ed, rfl, Nq148, Kq148, szed, ged, Fm148, Fe148, Fs148, Vq148, Oq148⟩ := hQ148
  have N148 := Fr.app N137 Nq148
  have F149 := Old.keep F138 Kq148 (allS ge127 all0)
  have F150 := Exa.keep F139 Kq148
  have F151 := Fld.keep F140 Kq148 (ninS ne125 nin0)
  have F152 := Fld.keep F141 Kq148 (ninS ne125 nin0)
  have F153 := OAr.keep F142 Kq148 (ninS ne126 nin0)
  have F154 := Exa.keep F143 Kq148
  have Z155 := Nat.le_trans Z144 Kq148.1
  have ne156 := own_nl lt145 szed
  have ne157 := own_nl lt146 szed
  have ne158 := own_nl lt147 szed
  show OwnWk _ _ _ _ (T148.setTop (mkF m 89 #[vI z0, vI z1, vI z2, vJ z3, sX, vI (1 : Int32), vI (Int32.ofNat M0), vI (Int32.ofNat M1), vI (Int32.ofNat M2), vI (Int32.ofNat M3), vR y0, vR y1, vR y2, vR y3, vR b124, uX, uX, uX, uX, uX, uX, uX, uX, uX, uX, uX, uX] [(.int (1 : Int32))]))
  refine own_go (fun tgt kst => XS.pop X148.here hx rfl (hb hby at_89) rfl rfl kst) ?_
  refine own_go (fun tgt kst => XS.iload X148.here hx rfl (hb hby at_90) rfl  kst) ?_
  refine own_go (fun tgt kst => XS.iconst X148.here hx rfl (hb hby at_92) kst) ?_
  refine own_go (fun tgt kst => XS.icmpYes X148.here hx rfl (pc0 := 93) (pc' := 104) rfl (hb hby at_93) rfl (flt (by decide : ¬ ((1 : Int32) < (1 : Int32)))).2.2.2 (by decide) (by decide) kst) ?_
  refine own_go (fun tgt kst => XS.iload X148.here hx rfl (hb hby at_104) rfl  kst) ?_
  refine own_go (fun tgt kst => XS.iconst X148.here hx rfl (hb hby at_106) kst) ?_
  show OwnWk _ _ _ _ (T148.setTop (mkF m 107 #[vI z0, vI z1, vI z2, vJ z3, sX, vI (1 : Int32), vI (Int32.ofNat M0), vI (Int32.ofNat M1), vI (Int32.ofNat M2), vI (Int32.ofNat M3), vR y0, vR y1, vR y2, vR y3, vR b124, uX, uX, uX, uX, uX, uX, uX, uX, uX, uX, uX, uX] [(.int (2 : Int32)), (.int (1 : Int32))]))
  refine own_go (fun tgt kst => XS.icmpYes X148.here hx rfl (pc0 := 107) (pc' := 118) rfl (hb hby at_107) rfl (flt (by decide : ¬ ((2 : Int32) < (1 : Int32)))).2.2.2 (by decide) (by decide) kst) ?_
  refine own_go (fun tgt kst => XS.iload X148.here hx rfl (hb hby at_118) rfl  kst) ?_
  refine own_go (fun tgt kst => XS.iconst X148.here hx rfl (hb hby at_120) kst) ?_
  refine own_go (fun tgt kst => XS.icmpYes X148.here hx rfl (pc0 := 121) (pc' := 132) rfl (hb hby at_121) rfl (flt (by decide : ¬ ((3 : Int32) < (1 : Int32)))).2.2.2 (by decide) (by decide) kst) ?_
  obtain ⟨T159, h159, X159, e159, E159, A159, D159, -, st159⟩ := newO X148 hx hZ hown (wq hw 84 rfl) (wq hw 85 rfl) (wq hw 86 rfl) e148 (g := (mkF m 132 #[vI z0, vI z1, vI z2, vJ z3, sX, vI (1 : Int32), vI (Int32.ofNat M0), vI (Int32.ofNat M1), vI (Int32.ofNat M2), vI (Int32.ofNat M3), vR y0, vR y1, vR y2, vR y3, vR b124, uX, uX, uX, uX, uX, uX, uX, uX, uX, uX, uX, uX] [])) rfl (hb hby at_132) (by decide) (by decide)
  obtain ⟨b159, g159⟩ : ∃ z, z = h148.size := ⟨_, rfl⟩
  rw [← g159] at A159 D159 st159
  refine own_go st159 ?_
  have ne160 := own_nl F150.lt (Nat.le_of_eq g159.symm)
  have ne161 := own_nl F153.lt (Nat.le_of_eq g159.symm)
  have ne162 := own_nl F154.lt (Nat.le_of_eq g159.symm)
  have ne163 := own_nl Vq148.lt (Nat.le_of_eq g159.symm)
  have ge164 : n0 ≤ b159 := Nat.le_trans Z155 (Nat.le_of_eq g159.symm)
  have F165 := Old.ext F149 E159
  have F166 := Exa.ext E159 F150
  have F167 := Fld.ext E159 F151
  have F168 := Fld.ext E159 F152
  have F169 := OAr.ext F153 E159
  have F170 := Exa.ext E159 F154
  have F171 := Fld.ext E159 Fm148
  have F172 := Fld.ext E159 Fe148
  have F173 := Fld.ext E159 Fs148
  have F174 := OAr.ext Vq148 E159
  have F175 := OOv.ext E159 Oq148
  have Z176 := Nat.le_trans Z155 E159.1
  have F177 : Fld Z h159 b159 "com/example/encircle/encircle/layout/ZoneKeys" "keys" "[J" .null := D159 (Or.inr (wq hw 92 rfl)) (ty := (.array .long)) (by decide)
  have F178 : Fld Z h159 b159 "com/example/encircle/encircle/layout/ZoneKeys" "sums" "[J" .null := D159 (Or.inr (wq hw 107 rfl)) (ty := (.array .long)) (by decide)
  have F179 : Fld Z h159 b159 "com/example/encircle/encircle/layout/ZoneKeys" "sizes" "[I" .null := D159 (Or.inr (wq hw 110 rfl)) (ty := (.array .int)) (by decide)
  have F180 : Fld Z h159 b159 "com/example/encircle/encircle/layout/ZoneKeys" "slotSums" "[J" .null := D159 (Or.inr (wq hw 161 rfl)) (ty := (.array .long)) (by decide)
  have F181 : Fld Z h159 b159 "com/example/encircle/encircle/layout/ZoneKeys" "slotZones" "[I" .null := D159 (Or.inr (wq hw 163 rfl)) (ty := (.array .int)) (by decide)
  have F182 : Fld Z h159 b159 "com/example/encircle/encircle/layout/ZoneKeys" "sameSum" "[I" .null := D159 (Or.inr (wq hw 165 rfl)) (ty := (.array .int)) (by decide)
  show OwnWk _ _ _ _ (T159.setTop (mkF m 135 #[vI z0, vI z1, vI z2, vJ z3, sX, vI (1 : Int32), vI (Int32.ofNat M0), vI (Int32.ofNat M1), vI (Int32.ofNat M2), vI (Int32.ofNat M3), vR y0, vR y1, vR y2, vR y3, vR b124, uX, uX, uX, uX, uX, uX, uX, uX, uX, uX, uX, uX] [(.ref b159)]))
  refine own_go (fun tgt kst => XS.dup X159.here hx rfl (hb hby at_135) rfl rfl kst) ?_
  refine own_go (fun tgt kst => XS.iconst X159.here hx rfl (hb hby at_136) kst) ?_
  refine own_go (fun tgt kst => XS.aload X159.here hx rfl (hb hby at_137) rfl rfl  kst) ?_
  show OwnWk _ _ _ _ (T159.setTop (mkF m 139 #[vI z0, vI z1, vI z2, vJ z3, sX, vI (1 : Int32), vI (Int32.ofNat M0), vI (Int32.ofNat M1), vI (Int32.ofNat M2), vI (Int32.ofNat M3), vR y0, vR y1, vR y2, vR y3, vR b124, uX, uX, uX, uX, uX, uX, uX, uX, uX, uX, uX, uX] [(.ref b124), (.int (4 : Int32)), (.ref b159), (.ref b159)]))
  have Fc183 : Fld Z h159 b124 "java/util/ArrayList" "size" "I" (.int (Int32.ofNat 1)) := F173
  have Fc184 : OAr Z h159 ed (.object "java/lang/Object") [(.ref y0), .null, .null, .null, .null, .null, .null, .null, .null, .null] := F174
  show OwnWk _ _ _ _ (T159.setTop (mkF m 139 #[vI z0, vI z1, vI z2, vJ z3, sX, vI (1 : Int32), vI (Int32.ofNat M0), vI (Int32.ofNat M1), vI (Int32.ofNat M2), vI (Int32.ofNat M3), vR y0, vR y1, vR y2, vR y3, vR b124, uX, uX, uX, uX, uX, uX, uX, uX, uX, uX, uX, uX] [(.ref b124), (.int (4 : Int32)), (.ref b159), (.ref b159)]))
  refine own_callC X159 hx hZ (y := yN14) hown rfl (wq hw 87 rfl) (wq hw 88 rfl) (wq hw 86 rfl) (wq hw 89 rfl) (by decide) (a := b159) (argsL := [(.int (4 : Int32)), (.ref b124)]) (rest := [(.ref b159)])  (h := h159) (zkN l Z a0 hw dce b159 b124 ed (own_p4 y0 y1 y2 y3) (own_p4 w0_ w1_ w2_ w3_) (own_p4 M0 M1 M2 M3) 1 ([(.ref y0), .null, .null, .null, .null, .null, .null, .null, .null, .null]) h159 n0 Z176 F165 S_d V_d S_a A159 F177 F178 F179 F180 F181 F182 F170 Fc183 F172 Fc184 (Ne.symm ne162) (Ne.symm ne163) ge164 (by decide) (by decide) (own_a1 rfl) (own_a1 ⟨F166, F167, F168, F169⟩) (own_a1 ⟨(Ne.symm ne160), (Ne.symm ne161)⟩) (own_a1 hM0)) e159 (W := 1) (by decide) (by decide) (by decide) (by decide) rfl (by rw [hml]; rfl) (lenOf pd_13 rfl) rfl (by show 2 * 0 + _ ≤ _; exact Nat.le_of_eq rfl) (hb hby at_139) (fun v185 T185 h185 L185 X185 e185 hQ185 => ?_)
  obtain ⟨rfl, Nq185, Kq185, kk, zs, zz, k0, k1, k2, k3, SS, ZZ, Fk185_0, Fk185_1, Fk185_2, Fk185_3, Fk185_4, Fk185_5, hinv⟩ := hQ185
  have N185 := Fr.app N148 Nq185
  have F186 := Old.keep F165 Kq185 (allS ge164 all0)
  have F187 := Exa.keep F166 Kq185
  have F188 := Fld.keep F167 Kq185 (ninS ne160 nin0)
  have F189 := Fld.keep F168 Kq185 (ninS ne160 nin0)
  have F190 := OAr.keep F169 Kq185 (ninS ne161 nin0)
  have F191 := Exa.keep F170 Kq185
  have F192 := Fld.keep F171 Kq185 (ninS ne162 nin0)
  have F193 := Fld.keep F172 Kq185 (ninS ne162 nin0)
  have F194 := OOv.keep F175 Kq185
  have F195 := Exa.keep A159 Kq185
  have F196 := Fld.keep Fc183 Kq185 (ninS ne162 nin0)
  have F197 := OAr.keep Fc184 Kq185 (ninS ne163 nin0)
  have Z198 := Nat.le_trans Z176 Kq185.1
  show OwnWk _ _ _ _ (T185.setTop (mkF m 142 #[vI z0, vI z1, vI z2, vJ z3, sX, vI (1 : Int32), vI (Int32.ofNat M0), vI (Int32.ofNat M1), vI (Int32.ofNat M2), vI (Int32.ofNat M3), vR y0, vR y1, vR y2, vR y3, vR b124, uX, uX, uX, uX, uX, uX, uX, uX, uX, uX, uX, uX] [(.ref b159)]))
  refine own_go (fun tgt kst => XS.astore X185.here hx rfl (hb hby at_142) rfl rfl (l' := #[vI z0, vI z1, vI z2, vJ z3, sX, vI (1 : Int32), vI (Int32.ofNat M0), vI (Int32.ofNat M1), vI (Int32.ofNat M2), vI (Int32.ofNat M3), vR y0, vR y1, vR y2, vR y3, vR b124, vR b159, uX, uX, uX, uX, uX, uX, uX, uX, uX, uX, uX]) rfl kst) ?_
  refine own_go (fun tgt kst => XS.aload X185.here hx rfl (hb hby at_144) rfl rfl  kst) ?_
  refine own_go (fun tgt kst => XS.iconst X185.here hx rfl (hb hby at_146) kst) ?_
  show OwnWk _ _ _ _ (T185.setTop (mkF m 147 #[vI z0, vI z1, vI z2, vJ z3, sX, vI (1 : Int32), vI (Int32.ofNat M0), vI (Int32.ofNat M1), vI (Int32.ofNat M2), vI (Int32.ofNat M3), vR y0, vR y1, vR y2, vR y3, vR b124, vR b159, uX, uX, uX, uX, uX, uX, uX, uX, uX, uX, uX] [(.int (0 : Int32)), (.ref b159)]))
  refine own_callV X185 hx hZ (y := yN27) (z := yN27) hown (wq hw 174 rfl) (wq hw 175 rfl) (notFace_of_selects (args := #[]) (mvT hZ (wq hw 177 rfl))) (wq hw 177 rfl) (wq hw 176 rfl) (wq hw 86 rfl) (wq hw 178 rfl) (by decide) (a := b159) F195 (argsL := [(.int (0 : Int32))]) (rest := [])  (h := h185) (key0 l Z a0 hw b159 kk k0 k1 k2 k3 h185 n0 Z198 Fk185_0 Fk185_1) e185 (W := 0) (by decide) (by decide) (by decide) (by decide) rfl (by rw [hml]; rfl) (lenOf pd_14 rfl) rfl (by show 2 * 0 + _ ≤ _; exact Nat.le_of_eq rfl) (hb hby at_147) (fun v199 T199 h199 L199 X199 e199 hQ199 => ?_)
  obtain ⟨rfl, Nq199, q199⟩ := hQ199
  have N199 := Fr.app N185 Nq199
  rw [q199] at e199
  show OwnWk _ _ _ _ (T199.setTop (mkF m 150 #[vI z0, vI z1, vI z2, vJ z3, sX, vI (1 : Int32), vI (Int32.ofNat M0), vI (Int32.ofNat M1), vI (Int32.ofNat M2), vI (Int32.ofNat M3), vR y0, vR y1, vR y2, vR y3, vR b124, vR b159, uX, uX, uX, uX, uX, uX, uX, uX, uX, uX, uX] [(.long k0)]))
  refine own_go (fun tgt kst => XS.lstore X199.here hx rfl (hb hby at_150) rfl (l' := #[vI z0, vI z1, vI z2, vJ z3, sX, vI (1 : Int32), vI (Int32.ofNat M0), vI (Int32.ofNat M1), vI (Int32.ofNat M2), vI (Int32.ofNat M3), vR y0, vR y1, vR y2, vR y3, vR b124, vR b159, vJ k0, sX, uX, uX, uX, uX, uX, uX, uX, uX, uX]) rfl kst) ?_
  refine own_go (fun tgt kst => XS.aload X199.here hx rfl (hb hby at_152) rfl rfl  kst) ?_
  refine own_go (fun tgt kst => XS.iconst X199.here hx rfl (hb hby at_154) kst) ?_
  show OwnWk _ _ _ _ (T199.setTop (mkF m 155 #[vI z0, vI z1, vI z2, vJ z3, sX, vI (1 : Int32), vI (Int32.ofNat M0), vI (Int32.ofNat M1), vI (Int32.ofNat M2), vI (Int32.ofNat M3), vR y0, vR y1, vR y2, vR y3, vR b124, vR b159, vJ k0, sX, uX, uX, uX, uX, uX, uX, uX, uX, uX] [(.int (1 : Int32)), (.ref b159)]))
  refine own_callV X199 hx hZ (y := yN27) (z := yN27) hown (wq hw 174 rfl) (wq hw 175 rfl) (notFace_of_selects (args := #[]) (mvT hZ (wq hw 177 rfl))) (wq hw 177 rfl) (wq hw 176 rfl) (wq hw 86 rfl) (wq hw 178 rfl) (by decide) (a := b159) F195 (argsL := [(.int (1 : Int32))]) (rest := [])  (h := h185) (key1 l Z a0 hw b159 kk k0 k1 k2 k3 h185 n0 Z198 Fk185_0 Fk185_1) e199 (W := 0) (by decide) (by decide) (by decide) (by decide) rfl (by rw [hml]; rfl) (lenOf pd_14 rfl) rfl (by show 2 * 0 + _ ≤ _; exact Nat.le_of_eq rfl) (hb hby at_155) (fun v200 T200 h200 L200 X200 e200 hQ200 => ?_)
  obtain ⟨rfl, Nq200, q200⟩ := hQ200
  have N200 := Fr.app N199 Nq200
  rw [q200] at e200
  show OwnWk _ _ _ _ (T200.setTop (mkF m 158 #[vI z0, vI z1, vI z2, vJ z3, sX, vI (1 : Int32), vI (Int32.ofNat M0), vI (Int32.ofNat M1), vI (Int32.ofNat M2), vI (Int32.ofNat M3), vR y0, vR y1, vR y2, vR y3, vR b124, vR b159, vJ k0, sX, uX, uX, uX, uX, uX, uX, uX, uX, uX] [(.long k1)]))
  refine own_go (fun tgt kst => XS.lstore X200.here hx rfl (hb hby at_158) rfl (l' := #[vI z0, vI z1, vI z2, vJ z3, sX, vI (1 : Int32), vI (Int32.ofNat M0), vI (Int32.ofNat M1), vI (Int32.ofNat M2), vI (Int32.ofNat M3), vR y0, vR y1, vR y2, vR y3, vR b124, vR b159, vJ k0, sX, vJ k1, sX, uX, uX, uX, uX, uX, uX, uX]) rfl kst) ?_
  refine own_go (fun tgt kst => XS.aload X200.here hx rfl (hb hby at_160) rfl rfl  kst) ?_
  refine own_go (fun tgt kst => XS.iconst X200.here hx rfl (hb hby at_162) kst) ?_
  show OwnWk _ _ _ _ (T200.setTop (mkF m 163 #[vI z0, vI z1, vI z2, vJ z3, sX, vI (1 : Int32), vI (Int32.ofNat M0), vI (Int32.ofNat M1), vI (Int32.ofNat M2), vI (Int32.ofNat M3), vR y0, vR y1, vR y2, vR y3, vR b124, vR b159, vJ k0, sX, vJ k1, sX, uX, uX, uX, uX, uX, uX, uX] [(.int (2 : Int32)), (.ref b159)]))
  refine own_callV X200 hx hZ (y := yN27) (z := yN27) hown (wq hw 174 rfl) (wq hw 175 rfl) (notFace_of_selects (args := #[]) (mvT hZ (wq hw 177 rfl))) (wq hw 177 rfl) (wq hw 176 rfl) (wq hw 86 rfl) (wq hw 178 rfl) (by decide) (a := b159) F195 (argsL := [(.int (2 : Int32))]) (rest := [])  (h := h185) (key2 l Z a0 hw b159 kk k0 k1 k2 k3 h185 n0 Z198 Fk185_0 Fk185_1) e200 (W := 0) (by decide) (by decide) (by decide) (by decide) rfl (by rw [hml]; rfl) (lenOf pd_14 rfl) rfl (by show 2 * 0 + _ ≤ _; exact Nat.le_of_eq rfl) (hb hby at_163) (fun v201 T201 h201 L201 X201 e201 hQ201 => ?_)
  obtain ⟨rfl, Nq201, q201⟩ := hQ201
  have N201 := Fr.app N200 Nq201
  rw [q201] at e201
  show OwnWk _ _ _ _ (T201.setTop (mkF m 166 #[vI z0, vI z1, vI z2, vJ z3, sX, vI (1 : Int32), vI (Int32.ofNat M0), vI (Int32.ofNat M1), vI (Int32.ofNat M2), vI (Int32.ofNat M3), vR y0, vR y1, vR y2, vR y3, vR b124, vR b159, vJ k0, sX, vJ k1, sX, uX, uX, uX, uX, uX, uX, uX] [(.long k2)]))
  refine own_go (fun tgt kst => XS.lstore X201.here hx rfl (hb hby at_166) rfl (l' := #[vI z0, vI z1, vI z2, vJ z3, sX, vI (1 : Int32), vI (Int32.ofNat M0), vI (Int32.ofNat M1), vI (Int32.ofNat M2), vI (Int32.ofNat M3), vR y0, vR y1, vR y2, vR y3, vR b124, vR b159, vJ k0, sX, vJ k1, sX, vJ k2, sX, uX, uX, uX, uX, uX]) rfl kst) ?_
  refine own_go (fun tgt kst => XS.aload X201.here hx rfl (hb hby at_168) rfl rfl  kst) ?_
  refine own_go (fun tgt kst => XS.iconst X201.here hx rfl (hb hby at_170) kst) ?_
  show OwnWk _ _ _ _ (T201.setTop (mkF m 171 #[vI z0, vI z1, vI z2, vJ z3, sX, vI (1 : Int32), vI (Int32.ofNat M0), vI (Int32.ofNat M1), vI (Int32.ofNat M2), vI (Int32.ofNat M3), vR y0, vR y1, vR y2, vR y3, vR b124, vR b159, vJ k0, sX, vJ k1, sX, vJ k2, sX, uX, uX, uX, uX, uX] [(.int (3 : Int32)), (.ref b159)]))
  refine own_callV X201 hx hZ (y := yN27) (z := yN27) hown (wq hw 174 rfl) (wq hw 175 rfl) (notFace_of_selects (args := #[]) (mvT hZ (wq hw 177 rfl))) (wq hw 177 rfl) (wq hw 176 rfl) (wq hw 86 rfl) (wq hw 178 rfl) (by decide) (a := b159) F195 (argsL := [(.int (3 : Int32))]) (rest := [])  (h := h185) (key3 l Z a0 hw b159 kk k0 k1 k2 k3 h185 n0 Z198 Fk185_0 Fk185_1) e201 (W := 0) (by decide) (by decide) (by decide) (by decide) rfl (by rw [hml]; rfl) (lenOf pd_14 rfl) rfl (by show 2 * 0 + _ ≤ _; exact Nat.le_of_eq rfl) (hb hby at_171) (fun v202 T202 h202 L202 X202 e202 hQ202 => ?_)
  obtain ⟨rfl, Nq202, q202⟩ := hQ202
  have N202 := Fr.app N201 Nq202
  rw [q202] at e202
  show OwnWk _ _ _ _ (T202.setTop (mkF m 174 #[vI z0, vI z1, vI z2, vJ z3, sX, vI (1 : Int32), vI (Int32.ofNat M0), vI (Int32.ofNat M1), vI (Int32.ofNat M2), vI (Int32.ofNat M3), vR y0, vR y1, vR y2, vR y3, vR b124, vR b159, vJ k0, sX, vJ k1, sX, vJ k2, sX, uX, uX, uX, uX, uX] [(.long k3)]))
  refine own_go (fun tgt kst => XS.lstore X202.here hx rfl (hb hby at_174) rfl (l' := #[vI z0, vI z1, vI z2, vJ z3, sX, vI (1 : Int32), vI (Int32.ofNat M0), vI (Int32.ofNat M1), vI (Int32.ofNat M2), vI (Int32.ofNat M3), vR y0, vR y1, vR y2, vR y3, vR b124, vR b159, vJ k0, sX, vJ k1, sX, vJ k2, sX, vJ k3, sX, uX, uX, uX]) rfl kst) ?_
  show OwnWk _ _ _ _ (T202.setTop (mkF m 176 #[vI z0, vI z1, vI z2, vJ z3, sX, vI (1 : Int32), vI (Int32.ofNat M0), vI (Int32.ofNat M1), vI (Int32.ofNat M2), vI (Int32.ofNat M3), vR y0, vR y1, vR y2, vR y3, vR b124, vR b159, vJ k0, sX, vJ k1, sX, vJ k2, sX, vJ k3, sX, uX, uX, uX] []))
  have LQ : ∀ (qq : Int64) (T_ : State) (L_ : List Loc), Stand p l e room_1 s m #[(.int z0), (.int z1), (.int z2), (.long z3)] below meth c T_ L_ 18 71 → T_.heap = h185 → Fr n0 L_ →
      OwnWk p e below (OwnP s (Q_rm0 Z z0 z1 z2 z3 dce h0 n0) room_1.cells room_1.slots) (T_.setTop (mkF m 202 #[vI z0, vI z1, vI z2, vJ z3, sX, vI (1 : Int32), vI (Int32.ofNat M0), vI (Int32.ofNat M1), vI (Int32.ofNat M2), vI (Int32.ofNat M3), vR y0, vR y1, vR y2, vR y3, vR b124, vR b159, vJ k0, sX, vJ k1, sX, vJ k2, sX, vJ k3, sX, uX, uX, uX] [(.long qq)])) := by
   intro qq T_203 L_203  X_203 e_203 N_203
   show OwnWk _ _ _ _ (T_203.setTop (mkF m 202 #[vI z0, vI z1, vI z2, vJ z3, sX, vI (1 : Int32), vI (Int32.ofNat M0), vI (Int32.ofNat M1), vI (Int32.ofNat M2), vI (Int32.ofNat M3), vR y0, vR y1, vR y2, vR y3, vR b124, vR b159, vJ k0, sX, vJ k1, sX, vJ k2, sX, vJ k3, sX, uX, uX, uX] [(.long qq)]))
   have LS0 : ∀ (ix : Int32) (T_ : State) (L_ : List Loc), ix = Int32.ofNat (own_Ez (own_f (own_p4 M0 M1 M2 M3) k0 k1 k2 k3) 0 1 qq) - (1 : Int32) → Stand p l e room_1 s m #[(.int z0), (.int z1), (.int z2), (.long z3)] below meth c T_ L_ 18 71 → T_.heap = h185 → Fr n0 L_ →
       OwnWk p e below (OwnP s (Q_rm0 Z z0 z1 z2 z3 dce h0 n0) room_1.cells room_1.slots) (T_.setTop (mkF m 318 #[vI z0, vI z1, vI z2, vJ z3, sX, vI (1 : Int32), vI (Int32.ofNat M0), vI (Int32.ofNat M1), vI (Int32.ofNat M2), vI (Int32.ofNat M3), vR y0, vR y1, vR y2, vR y3, vR b124, vR b159, vJ k0, sX, vJ k1, sX, vJ k2, sX, vJ k3, sX, vJ qq, sX, vI ix] [])) := by
    intro ix T_204 L_204 hix X_204 e_204 N_204
    show OwnWk _ _ _ _ (T_204.setTop (mkF m 318 #[vI z0, vI z1, vI z2, vJ z3, sX, vI (1 : Int32), vI (Int32.ofNat M0), vI (Int32.ofNat M1), vI (Int32.ofNat M2), vI (Int32.ofNat M3), vR y0, vR y1, vR y2, vR y3, vR b124, vR b159, vJ k0, sX, vJ k1, sX, vJ k2, sX, vJ k3, sX, vJ qq, sX, vI ix] []))
    refine own_go (fun tgt kst => XS.aload X_204.here hx rfl (hb hby at_318) rfl rfl  kst) ?_
    refine own_go (fun tgt kst => XS.lload X_204.here hx rfl (hb hby at_320) rfl  kst) ?_
    show OwnWk _ _ _ _ (T_204.setTop (mkF m 322 #[vI z0, vI z1, vI z2, vJ z3, sX, vI (1 : Int32), vI (Int32.ofNat M0), vI (Int32.ofNat M1), vI (Int32.ofNat M2), vI (Int32.ofNat M3), vR y0, vR y1, vR y2, vR y3, vR b124, vR b159, vJ k0, sX, vJ k1, sX, vJ k2, sX, vJ k3, sX, vJ qq, sX, vI ix] [(.long qq), (.ref b159)]))
    refine own_callV X_204 hx hZ (y := yN29) (z := yN29) hown (wq hw 182 rfl) (wq hw 183 rfl) (notFace_of_selects (args := #[]) (mvT hZ (wq hw 185 rfl))) (wq hw 185 rfl) (wq hw 184 rfl) (wq hw 86 rfl) (wq hw 186 rfl) (by decide) (a := b159) F195 (argsL := [(.long qq)]) (rest := [])  (h := h185) (fst l Z a0 hw b159 zs zz SS ZZ qq (own_k 1) 1 (own_Ez (own_f (own_p4 M0 M1 M2 M3) k0 k1 k2 k3) 0 1) h185 n0 Z198 F195 Fk185_2 Fk185_3 Fk185_4 Fk185_5 own_k4 hinv (by decide)) e_204 (W := 0) (by decide) (by decide) (by decide) (by decide) rfl (by rw [hml]; rfl) (lenOf pd_3 rfl) rfl (by show 2 * 0 + _ ≤ _; exact Nat.le_of_eq rfl) (hb hby at_322) (fun v205 T205 h205 L205 X205 e205 hQ205 => ?_)
    obtain ⟨rfl, Nq205, q205⟩ := hQ205
    have N205 := Fr.app N_204 Nq205
    rw [q205] at e205
    show OwnWk _ _ _ _ (T205.setTop (mkF m 325 #[vI z0, vI z1, vI z2, vJ z3, sX, vI (1 : Int32), vI (Int32.ofNat M0), vI (Int32.ofNat M1), vI (Int32.ofNat M2), vI (Int32.ofNat M3), vR y0, vR y1, vR y2, vR y3, vR b124, vR b159, vJ k0, sX, vJ k1, sX, vJ k2, sX, vJ k3, sX, vJ qq, sX, vI ix] [(.int ((Int32.ofNat (own_Ez (own_f (own_p4 M0 M1 M2 M3) k0 k1 k2 k3) 0 1 qq)) - (1 : Int32)))]))
    refine own_go (fun tgt kst => XS.iload X205.here hx rfl (hb hby at_325) rfl  kst) ?_
    show OwnWk _ _ _ _ (T205.setTop (mkF m 327 #[vI z0, vI z1, vI z2, vJ z3, sX, vI (1 : Int32), vI (Int32.ofNat M0), vI (Int32.ofNat M1), vI (Int32.ofNat M2), vI (Int32.ofNat M3), vR y0, vR y1, vR y2, vR y3, vR b124, vR b159, vJ k0, sX, vJ k1, sX, vJ k2, sX, vJ k3, sX, vJ qq, sX, vI ix] [(.int ix), (.int ((Int32.ofNat (own_Ez (own_f (own_p4 M0 M1 M2 M3) k0 k1 k2 k3) 0 1 qq)) - (1 : Int32)))]))
    refine own_go (fun tgt kst => XS.icmpNo X205.here hx rfl (hb hby at_327) rfl (teq hix.symm).2 kst) ?_
    show OwnWk _ _ _ _ (T205.setTop (mkF m 330 #[vI z0, vI z1, vI z2, vJ z3, sX, vI (1 : Int32), vI (Int32.ofNat M0), vI (Int32.ofNat M1), vI (Int32.ofNat M2), vI (Int32.ofNat M3), vR y0, vR y1, vR y2, vR y3, vR b124, vR b159, vJ k0, sX, vJ k1, sX, vJ k2, sX, vJ k3, sX, vJ qq, sX, vI ix] []))
    refine own_go (fun tgt kst => XS.iconst X205.here hx rfl (hb hby at_330) kst) ?_
    refine own_go (fun tgt kst => XS.goto X205.here hx rfl (pc0 := 331) (pc' := 335) rfl (hb hby at_331) (by decide) (by decide) kst) ?_
    show OwnWk _ _ _ _ (T205.setTop (mkF m 335 #[vI z0, vI z1, vI z2, vJ z3, sX, vI (1 : Int32), vI (Int32.ofNat M0), vI (Int32.ofNat M1), vI (Int32.ofNat M2), vI (Int32.ofNat M3), vR y0, vR y1, vR y2, vR y3, vR b124, vR b159, vJ k0, sX, vJ k1, sX, vJ k2, sX, vJ k3, sX, vJ qq, sX, vI ix] [(.int (1 : Int32))]))
    exact own_retZ X205 hx hlk hret (by simp) (z' := (1 : Int32)) rfl (hb hby at_335) (by decide) (by decide) (by rw [e205]; exact ⟨rfl, N205⟩)
   have LS1 : ∀ (ix : Int32) (T_ : State) (L_ : List Loc), ix = Int32.ofNat (own_Ez (own_f (own_p4 M0 M1 M2 M3) k0 k1 k2 k3) 1 0 qq) - (1 : Int32) → Stand p l e room_1 s m #[(.int z0), (.int z1), (.int z2), (.long z3)] below meth c T_ L_ 18 71 → T_.heap = h185 → Fr n0 L_ →
       OwnWk p e below (OwnP s (Q_rm0 Z z0 z1 z2 z3 dce h0 n0) room_1.cells room_1.slots) (T_.setTop (mkF m 291 #[vI z0, vI z1, vI z2, vJ z3, sX, vI (1 : Int32), vI (Int32.ofNat M0), vI (Int32.ofNat M1), vI (Int32.ofNat M2), vI (Int32.ofNat M3), vR y0, vR y1, vR y2, vR y3, vR b124, vR b159, vJ k0, sX, vJ k1, sX, vJ k2, sX, vJ k3, sX, vJ qq, sX, vI ix] [])) := by
    intro ix T_206 L_206 hix X_206 e_206 N_206
    show OwnWk _ _ _ _ (T_206.setTop (mkF m 291 #[vI z0, vI z1, vI z2, vJ z3, sX, vI (1 : Int32), vI (Int32.ofNat M0), vI (Int32.ofNat M1), vI (Int32.ofNat M2), vI (Int32.ofNat M3), vR y0, vR y1, vR y2, vR y3, vR b124, vR b159, vJ k0, sX, vJ k1, sX, vJ k2, sX, vJ k3, sX, vJ qq, sX, vI ix] []))
    refine own_go (fun tgt kst => XS.iload X_206.here hx rfl (hb hby at_291) rfl  kst) ?_
    refine own_go (fun tgt kst => XS.ifNo X_206.here hx rfl (hb hby at_293) rfl ((if0 _ _).trans (tlt (by decide : (0 : Int32) < (1 : Int32))).2.2.2) kst) ?_
    refine own_go (fun tgt kst => XS.lload X_206.here hx rfl (hb hby at_296) rfl  kst) ?_
    refine own_go (fun tgt kst => XS.iload X_206.here hx rfl (hb hby at_298) rfl  kst) ?_
    refine own_go (fun tgt kst => XS.lload X_206.here hx rfl (hb hby at_300) rfl  kst) ?_
    refine own_go (fun tgt kst => XS.lload X_206.here hx rfl (hb hby at_302) rfl  kst) ?_
    show OwnWk _ _ _ _ (T_206.setTop (mkF m 304 #[vI z0, vI z1, vI z2, vJ z3, sX, vI (1 : Int32), vI (Int32.ofNat M0), vI (Int32.ofNat M1), vI (Int32.ofNat M2), vI (Int32.ofNat M3), vR y0, vR y1, vR y2, vR y3, vR b124, vR b159, vJ k0, sX, vJ k1, sX, vJ k2, sX, vJ k3, sX, vJ qq, sX, vI ix] [(.long k1), (.long k0), (.int (Int32.ofNat M0)), (.long qq)]))
    refine own_go (fun tgt kst => XS.lload X_206.here hx rfl (hb hby at_304) rfl  kst) ?_
    refine own_go (fun tgt kst => XS.lload X_206.here hx rfl (hb hby at_306) rfl  kst) ?_
    show OwnWk _ _ _ _ (T_206.setTop (mkF m 308 #[vI z0, vI z1, vI z2, vJ z3, sX, vI (1 : Int32), vI (Int32.ofNat M0), vI (Int32.ofNat M1), vI (Int32.ofNat M2), vI (Int32.ofNat M3), vR y0, vR y1, vR y2, vR y3, vR b124, vR b159, vJ k0, sX, vJ k1, sX, vJ k2, sX, vJ k3, sX, vJ qq, sX, vI ix] [(.long k3), (.long k2), (.long k1), (.long k0), (.int (Int32.ofNat M0)), (.long qq)]))
    refine own_callS X_206 hx hZ (y := yN28) hown (wq hw 179 rfl) (wq hw 180 rfl) (wq hw 3 rfl) (wq hw 181 rfl) (by decide) (argsL := [(.int (Int32.ofNat M0)), (.long k0), (.long k1), (.long k2), (.long k3)]) (rest := [(.long qq)])  (h := h185) (smo l Z a0 hw M0 k0 k1 k2 k3 h185 n0 Z198) e_206 (W := 2) (by decide) (by decide) (by decide) (by decide) rfl (by rw [hml]; rfl) (lenOf pd_15 rfl) rfl (by show 2 * 0 + _ ≤ _; exact Nat.le_of_eq rfl) (hb hby at_308) (fun v207 T207 h207 L207 X207 e207 hQ207 => ?_)
    obtain ⟨rfl, Nq207, q207⟩ := hQ207
    have N207 := Fr.app N_206 Nq207
    rw [q207] at e207
    show OwnWk _ _ _ _ (T207.setTop (mkF m 311 #[vI z0, vI z1, vI z2, vJ z3, sX, vI (1 : Int32), vI (Int32.ofNat M0), vI (Int32.ofNat M1), vI (Int32.ofNat M2), vI (Int32.ofNat M3), vR y0, vR y1, vR y2, vR y3, vR b124, vR b159, vJ k0, sX, vJ k1, sX, vJ k2, sX, vJ k3, sX, vJ qq, sX, vI ix] [(.long (own_sumM M0 k0 k1 k2 k3)), (.long qq)]))
    refine own_go (fun tgt kst => XS.lcmp X207.here hx rfl (hb hby at_311) rfl kst) ?_
    show OwnWk _ _ _ _ (T207.setTop (mkF m 312 #[vI z0, vI z1, vI z2, vJ z3, sX, vI (1 : Int32), vI (Int32.ofNat M0), vI (Int32.ofNat M1), vI (Int32.ofNat M2), vI (Int32.ofNat M3), vR y0, vR y1, vR y2, vR y3, vR b124, vR b159, vJ k0, sX, vJ k1, sX, vJ k2, sX, vJ k3, sX, vJ qq, sX, vI ix] [(.int (lcmpW qq (own_sumM M0 k0 k1 k2 k3)))]))
    by_cases hc208 : qq = (own_sumM M0 k0 k1 k2 k3)
    ·
     refine own_go (fun tgt kst => XS.ifNo X207.here hx rfl (hb hby at_312) rfl ((if0 _ _).trans (teq (own_lc_eq.mpr hc208)).2) kst) ?_
     show OwnWk _ _ _ _ (T207.setTop (mkF m 315 #[vI z0, vI z1, vI z2, vJ z3, sX, vI (1 : Int32), vI (Int32.ofNat M0), vI (Int32.ofNat M1), vI (Int32.ofNat M2), vI (Int32.ofNat M3), vR y0, vR y1, vR y2, vR y3, vR b124, vR b159, vJ k0, sX, vJ k1, sX, vJ k2, sX, vJ k3, sX, vJ qq, sX, vI ix] []))
     refine own_go (fun tgt kst => XS.iconst X207.here hx rfl (hb hby at_315) kst) ?_
     refine own_go (fun tgt kst => XS.istore X207.here hx rfl (hb hby at_316) rfl (l' := #[vI z0, vI z1, vI z2, vJ z3, sX, vI (1 : Int32), vI (Int32.ofNat M0), vI (Int32.ofNat M1), vI (Int32.ofNat M2), vI (Int32.ofNat M3), vR y0, vR y1, vR y2, vR y3, vR b124, vR b159, vJ k0, sX, vJ k1, sX, vJ k2, sX, vJ k3, sX, vJ qq, sX, vI (0 : Int32)]) rfl kst) ?_
     show OwnWk _ _ _ _ (T207.setTop (mkF m 318 #[vI z0, vI z1, vI z2, vJ z3, sX, vI (1 : Int32), vI (Int32.ofNat M0), vI (Int32.ofNat M1), vI (Int32.ofNat M2), vI (Int32.ofNat M3), vR y0, vR y1, vR y2, vR y3, vR b124, vR b159, vJ k0, sX, vJ k1, sX, vJ k2, sX, vJ k3, sX, vJ qq, sX, vI (0 : Int32)] []))
     exact LS0 _ _ _ (by show _ = Int32.ofNat (if qq = (own_sumM M0 k0 k1 k2 k3) then 1 else own_Ez (own_f (own_p4 M0 M1 M2 M3) k0 k1 k2 k3) 1 0 qq) - (1 : Int32); rw [if_pos hc208]; rfl) X207 e207 N207
    ·
     refine own_go (fun tgt kst => XS.ifYes X207.here hx rfl (pc0 := 312) (pc' := 318) rfl (hb hby at_312) rfl ((if0 _ _).trans (feq (fun q => hc208 (own_lc_eq.mp q))).2) (by decide) (by decide) kst) ?_
     show OwnWk _ _ _ _ (T207.setTop (mkF m 318 #[vI z0, vI z1, vI z2, vJ z3, sX, vI (1 : Int32), vI (Int32.ofNat M0), vI (Int32.ofNat M1), vI (Int32.ofNat M2), vI (Int32.ofNat M3), vR y0, vR y1, vR y2, vR y3, vR b124, vR b159, vJ k0, sX, vJ k1, sX, vJ k2, sX, vJ k3, sX, vJ qq, sX, vI ix] []))
     exact LS0 _ _ _ (by show _ = Int32.ofNat (if qq = (own_sumM M0 k0 k1 k2 k3) then 1 else own_Ez (own_f (own_p4 M0 M1 M2 M3) k0 k1 k2 k3) 1 0 qq) - (1 : Int32); rw [if_neg hc208]; exact hix) X207 e207 N207
   show OwnWk _ _ _ _ (T_203.setTop (mkF m 202 #[vI z0, vI z1, vI z2, vJ z3, sX, vI (1 : Int32), vI (Int32.ofNat M0), vI (Int32.ofNat M1), vI (Int32.ofNat M2), vI (Int32.ofNat M3), vR y0, vR y1, vR y2, vR y3, vR b124, vR b159, vJ k0, sX, vJ k1, sX, vJ k2, sX, vJ k3, sX, uX, uX, uX] [(.long qq)]))
   refine own_go (fun tgt kst => XS.lstore X_203.here hx rfl (hb hby at_202) rfl (l' := #[vI z0, vI z1, vI z2, vJ z3, sX, vI (1 : Int32), vI (Int32.ofNat M0), vI (Int32.ofNat M1), vI (Int32.ofNat M2), vI (Int32.ofNat M3), vR y0, vR y1, vR y2, vR y3, vR b124, vR b159, vJ k0, sX, vJ k1, sX, vJ k2, sX, vJ k3, sX, vJ qq, sX, uX]) rfl kst) ?_
   refine own_go (fun tgt kst => XS.iconst X_203.here hx rfl (hb hby at_204) kst) ?_
   refine own_go (fun tgt kst => XS.istore X_203.here hx rfl (hb hby at_205) rfl (l' := #[vI z0, vI z1, vI z2, vJ z3, sX, vI (1 : Int32), vI (Int32.ofNat M0), vI (Int32.ofNat M1), vI (Int32.ofNat M2), vI (Int32.ofNat M3), vR y0, vR y1, vR y2, vR y3, vR b124, vR b159, vJ k0, sX, vJ k1, sX, vJ k2, sX, vJ k3, sX, vJ qq, sX, vI (-1 : Int32)]) rfl kst) ?_
   show OwnWk _ _ _ _ (T_203.setTop (mkF m 207 #[vI z0, vI z1, vI z2, vJ z3, sX, vI (1 : Int32), vI (Int32.ofNat M0), vI (Int32.ofNat M1), vI (Int32.ofNat M2), vI (Int32.ofNat M3), vR y0, vR y1, vR y2, vR y3, vR b124, vR b159, vJ k0, sX, vJ k1, sX, vJ k2, sX, vJ k3, sX, vJ qq, sX, vI (-1 : Int32)] []))
   refine own_go (fun tgt kst => XS.iload X_203.here hx rfl (hb hby at_207) rfl  kst) ?_
   refine own_go (fun tgt kst => XS.iconst X_203.here hx rfl (hb hby at_209) kst) ?_
   refine own_go (fun tgt kst => XS.icmpYes X_203.here hx rfl (pc0 := 210) (pc' := 235) rfl (hb hby at_210) rfl (flt (by decide : ¬ ((3 : Int32) < (1 : Int32)))).2.2.2 (by decide) (by decide) kst) ?_
   refine own_go (fun tgt kst => XS.iload X_203.here hx rfl (hb hby at_235) rfl  kst) ?_
   refine own_go (fun tgt kst => XS.iconst X_203.here hx rfl (hb hby at_237) kst) ?_
   refine own_go (fun tgt kst => XS.icmpYes X_203.here hx rfl (pc0 := 238) (pc' := 263) rfl (hb hby at_238) rfl (flt (by decide : ¬ ((2 : Int32) < (1 : Int32)))).2.2.2 (by decide) (by decide) kst) ?_
   show OwnWk _ _ _ _ (T_203.setTop (mkF m 263 #[vI z0, vI z1, vI z2, vJ z3, sX, vI (1 : Int32), vI (Int32.ofNat M0), vI (Int32.ofNat M1), vI (Int32.ofNat M2), vI (Int32.ofNat M3), vR y0, vR y1, vR y2, vR y3, vR b124, vR b159, vJ k0, sX, vJ k1, sX, vJ k2, sX, vJ k3, sX, vJ qq, sX, vI (-1 : Int32)] []))
   refine own_go (fun tgt kst => XS.iload X_203.here hx rfl (hb hby at_263) rfl  kst) ?_
   refine own_go (fun tgt kst => XS.iconst X_203.here hx rfl (hb hby at_265) kst) ?_
   refine own_go (fun tgt kst => XS.icmpYes X_203.here hx rfl (pc0 := 266) (pc' := 291) rfl (hb hby at_266) rfl (flt (by decide : ¬ ((1 : Int32) < (1 : Int32)))).2.2.2 (by decide) (by decide) kst) ?_
   show OwnWk _ _ _ _ (T_203.setTop (mkF m 291 #[vI z0, vI z1, vI z2, vJ z3, sX, vI (1 : Int32), vI (Int32.ofNat M0), vI (Int32.ofNat M1), vI (Int32.ofNat M2), vI (Int32.ofNat M3), vR y0, vR y1, vR y2, vR y3, vR b124, vR b159, vJ k0, sX, vJ k1, sX, vJ k2, sX, vJ k3, sX, vJ qq, sX, vI (-1 : Int32)] []))
   exact LS1 _ _ _ rfl X_203 e_203 N_203
  show OwnWk _ _ _ _ (T202.setTop (mkF m 176 #[vI z0, vI z1, vI z2, vJ z3, sX, vI (1 : Int32), vI (Int32.ofNat M0), vI (Int32.ofNat M1), vI (Int32.ofNat M2), vI (Int32.ofNat M3), vR y0, vR y1, vR y2, vR y3, vR b124, vR b159, vJ k0, sX, vJ k1, sX, vJ k2, sX, vJ k3, sX, uX, uX, uX] []))
  refine own_go (fun tgt kst => XS.iloadN X202.here hx rfl (hb hby at_176) rfl  kst) ?_
  refine own_go (fun tgt kst => XS.bipush X202.here hx rfl (hb hby at_177) kst) ?_
  refine own_go (fun tgt kst => XS.iand X202.here hx rfl (hb hby at_179) rfl kst) ?_
  show OwnWk _ _ _ _ (T202.setTop (mkF m 180 #[vI z0, vI z1, vI z2, vJ z3, sX, vI (1 : Int32), vI (Int32.ofNat M0), vI (Int32.ofNat M1), vI (Int32.ofNat M2), vI (Int32.ofNat M3), vR y0, vR y1, vR y2, vR y3, vR b124, vR b159, vJ k0, sX, vJ k1, sX, vJ k2, sX, vJ k3, sX, uX, uX, uX] [(.int (z2 &&& (16 : Int32)))]))
  by_cases hc209 : (z2 &&& (16 : Int32)) = (0 : Int32)
  ·
   refine own_go (fun tgt kst => XS.ifYes X202.here hx rfl (pc0 := 180) (pc' := 187) rfl (hb hby at_180) rfl ((if0 _ _).trans (teq hc209).1) (by decide) (by decide) kst) ?_
   show OwnWk _ _ _ _ (T202.setTop (mkF m 187 #[vI z0, vI z1, vI z2, vJ z3, sX, vI (1 : Int32), vI (Int32.ofNat M0), vI (Int32.ofNat M1), vI (Int32.ofNat M2), vI (Int32.ofNat M3), vR y0, vR y1, vR y2, vR y3, vR b124, vR b159, vJ k0, sX, vJ k1, sX, vJ k2, sX, vJ k3, sX, uX, uX, uX] []))
   refine own_go (fun tgt kst => XS.iloadN X202.here hx rfl (hb hby at_187) rfl  kst) ?_
   refine own_go (fun tgt kst => XS.bipush X202.here hx rfl (hb hby at_188) kst) ?_
   refine own_go (fun tgt kst => XS.iand X202.here hx rfl (hb hby at_190) rfl kst) ?_
   show OwnWk _ _ _ _ (T202.setTop (mkF m 191 #[vI z0, vI z1, vI z2, vJ z3, sX, vI (1 : Int32), vI (Int32.ofNat M0), vI (Int32.ofNat M1), vI (Int32.ofNat M2), vI (Int32.ofNat M3), vR y0, vR y1, vR y2, vR y3, vR b124, vR b159, vJ k0, sX, vJ k1, sX, vJ k2, sX, vJ k3, sX, uX, uX, uX] [(.int (z2 &&& (15 : Int32)))]))
   obtain ⟨MQ, hMQ, eMQ⟩ := own_and_nat z2 15 (by decide)
   rw [show (z2 &&& (15 : Int32)) = Int32.ofNat MQ from eMQ]
   show OwnWk _ _ _ _ (T202.setTop (mkF m 191 #[vI z0, vI z1, vI z2, vJ z3, sX, vI (1 : Int32), vI (Int32.ofNat M0), vI (Int32.ofNat M1), vI (Int32.ofNat M2), vI (Int32.ofNat M3), vR y0, vR y1, vR y2, vR y3, vR b124, vR b159, vJ k0, sX, vJ k1, sX, vJ k2, sX, vJ k3, sX, uX, uX, uX] [(.int (Int32.ofNat MQ))]))
   refine own_go (fun tgt kst => XS.lload X202.here hx rfl (hb hby at_191) rfl  kst) ?_
   refine own_go (fun tgt kst => XS.lload X202.here hx rfl (hb hby at_193) rfl  kst) ?_
   refine own_go (fun tgt kst => XS.lload X202.here hx rfl (hb hby at_195) rfl  kst) ?_
   refine own_go (fun tgt kst => XS.lload X202.here hx rfl (hb hby at_197) rfl  kst) ?_
   show OwnWk _ _ _ _ (T202.setTop (mkF m 199 #[vI z0, vI z1, vI z2, vJ z3, sX, vI (1 : Int32), vI (Int32.ofNat M0), vI (Int32.ofNat M1), vI (Int32.ofNat M2), vI (Int32.ofNat M3), vR y0, vR y1, vR y2, vR y3, vR b124, vR b159, vJ k0, sX, vJ k1, sX, vJ k2, sX, vJ k3, sX, uX, uX, uX] [(.long k3), (.long k2), (.long k1), (.long k0), (.int (Int32.ofNat MQ))]))
   refine own_callS X202 hx hZ (y := yN28) hown (wq hw 179 rfl) (wq hw 180 rfl) (wq hw 3 rfl) (wq hw 181 rfl) (by decide) (argsL := [(.int (Int32.ofNat MQ)), (.long k0), (.long k1), (.long k2), (.long k3)]) (rest := [])  (h := h185) (smo l Z a0 hw MQ k0 k1 k2 k3 h185 n0 Z198) e202 (W := 0) (by decide) (by decide) (by decide) (by decide) rfl (by rw [hml]; rfl) (lenOf pd_15 rfl) rfl (by show 2 * 0 + _ ≤ _; exact Nat.le_of_eq rfl) (hb hby at_199) (fun v210 T210 h210 L210 X210 e210 hQ210 => ?_)
   obtain ⟨rfl, Nq210, q210⟩ := hQ210
   have N210 := Fr.app N202 Nq210
   rw [q210] at e210
   show OwnWk _ _ _ _ (T210.setTop (mkF m 202 #[vI z0, vI z1, vI z2, vJ z3, sX, vI (1 : Int32), vI (Int32.ofNat M0), vI (Int32.ofNat M1), vI (Int32.ofNat M2), vI (Int32.ofNat M3), vR y0, vR y1, vR y2, vR y3, vR b124, vR b159, vJ k0, sX, vJ k1, sX, vJ k2, sX, vJ k3, sX, uX, uX, uX] [(.long (own_sumM MQ k0 k1 k2 k3))]))
   exact LQ _ _ _  X210 e210 N210
  ·
   refine own_go (fun tgt kst => XS.ifNo X202.here hx rfl (hb hby at_180) rfl ((if0 _ _).trans (feq hc209).1) kst) ?_
   show OwnWk _ _ _ _ (T202.setTop (mkF m 183 #[vI z0, vI z1, vI z2, vJ z3, sX, vI (1 : Int32), vI (Int32.ofNat M0), vI (Int32.ofNat M1), vI (Int32.ofNat M2), vI (Int32.ofNat M3), vR y0, vR y1, vR y2, vR y3, vR b124, vR b159, vJ k0, sX, vJ k1, sX, vJ k2, sX, vJ k3, sX, uX, uX, uX] []))
   refine own_go (fun tgt kst => XS.lloadN X202.here hx rfl (hb hby at_183) rfl  kst) ?_
   refine own_go (fun tgt kst => XS.goto X202.here hx rfl (pc0 := 184) (pc' := 202) rfl (hb hby at_184) (by decide) (by decide) kst) ?_
   show OwnWk _ _ _ _ (T202.setTop (mkF m 202 #[vI z0, vI z1, vI z2, vJ z3, sX, vI (1 : Int32), vI (Int32.ofNat M0), vI (Int32.ofNat M1), vI (Int32.ofNat M2), vI (Int32.ofNat M3), vR y0, vR y1, vR y2, vR y3, vR b124, vR b159, vJ k0, sX, vJ k1, sX, vJ k2, sX, vJ k3, sX, uX, uX, uX] [(.long z3)]))
   exact LQ _ _ _  X202 e202 N202
 ·
  show OwnWk _ _ _ _ (T52.setTop (mkF m 68 #[vI z0, vI z1, vI z2, vJ z3, sX, vI (2 : Int32), vI (Int32.ofNat M0), vI (Int32.ofNat M1), vI (Int32.ofNat M2), vI (Int32.ofNat M3), vR y0, vR y1, vR y2, vR y3, uX, uX, uX, uX, uX, uX, uX, uX, uX, uX, uX, uX, uX] []))
  obtain ⟨T211, h211, X211, e211, E211, A211, D211, -, st211⟩ := newO X52 hx hZ hown (wq hw 29 rfl) (wq hw 30 rfl) (wq hw 31 rfl) e52 (g := (mkF m 68 #[vI z0, vI z1, vI z2, vJ z3, sX, vI (2 : Int32), vI (Int32.ofNat M0), vI (Int32.ofNat M1), vI (Int32.ofNat M2), vI (Int32.ofNat M3), vR y0, vR y1, vR y2, vR y3, uX, uX, uX, uX, uX, uX, uX, uX, uX, uX, uX, uX, uX] [])) rfl (hb hby at_68) (by decide) (by decide)
  obtain ⟨b211, g211⟩ : ∃ z, z = h52.size := ⟨_, rfl⟩
  rw [← g211] at A211 D211 st211
  refine own_go st211 ?_
  have ne212 := own_nl F54.lt (Nat.le_of_eq g211.symm)
  have ne213 := own_nl F57.lt (Nat.le_of_eq g211.symm)
  have ne214 := own_nl F58.lt (Nat.le_of_eq g211.symm)
  have ne215 := own_nl F61.lt (Nat.le_of_eq g211.symm)
  have ge216 : n0 ≤ b211 := Nat.le_trans Z66 (Nat.le_of_eq g211.symm)
  have F217 := Old.ext F53 E211
  have F218 := Exa.ext E211 F54
  have F219 := Fld.ext E211 F55
  have F220 := Fld.ext E211 F56
  have F221 := OAr.ext F57 E211
  have F222 := Exa.ext E211 F58
  have F223 := Fld.ext E211 F59
  have F224 := Fld.ext E211 F60
  have F225 := OAr.ext F61 E211
  have Z226 := Nat.le_trans Z66 E211.1
  have F227 : Fld Z h211 b211 "java/util/AbstractList" "modCount" "I" (.int (0 : Int32)) := D211 (Or.inl (wq hw 49 rfl)) (ty := .int) (by decide)
  have F228 : Fld Z h211 b211 "java/util/ArrayList" "elementData" "[Ljava/lang/Object;" .null := D211 (Or.inl (wq hw 52 rfl)) (ty := (.array (.object "java/lang/Object"))) (by decide)
  have F229 : Fld Z h211 b211 "java/util/ArrayList" "size" "I" (.int (0 : Int32)) := D211 (Or.inl (wq hw 61 rfl)) (ty := .int) (by decide)
  show OwnWk _ _ _ _ (T211.setTop (mkF m 71 #[vI z0, vI z1, vI z2, vJ z3, sX, vI (2 : Int32), vI (Int32.ofNat M0), vI (Int32.ofNat M1), vI (Int32.ofNat M2), vI (Int32.ofNat M3), vR y0, vR y1, vR y2, vR y3, uX, uX, uX, uX, uX, uX, uX, uX, uX, uX, uX, uX, uX] [(.ref b211)]))
  refine own_go (fun tgt kst => XS.dup X211.here hx rfl (hb hby at_71) rfl rfl kst) ?_
  show OwnWk _ _ _ _ (T211.setTop (mkF m 72 #[vI z0, vI z1, vI z2, vJ z3, sX, vI (2 : Int32), vI (Int32.ofNat M0), vI (Int32.ofNat M1), vI (Int32.ofNat M2), vI (Int32.ofNat M3), vR y0, vR y1, vR y2, vR y3, uX, uX, uX, uX, uX, uX, uX, uX, uX, uX, uX, uX, uX] [(.ref b211), (.ref b211)]))
  refine own_callC X211 hx hZ (y := yN6) hown rfl (wq hw 32 rfl) (wq hw 33 rfl) (wq hw 31 rfl) (wq hw 34 rfl) (by decide) (a := b211) (argsL := []) (rest := [(.ref b211)])  (h := h211) (rm6 l Z a0 hw dce b211 h211 n0 Z226 F217 S_d V_d S_a A211 ge216 F227 F228 F229) e211 (W := 1) (by decide) (by decide) (by decide) (by decide) rfl (by rw [hml]; rfl) (lenOf pd_2 rfl) rfl (by show 2 * 0 + _ ≤ _; exact Nat.le_of_eq rfl) (hb hby at_72) (fun v230 T230 h230 L230 X230 e230 hQ230 => ?_)
  obtain ⟨rfl, Nq230, Kq230, Fm230, Fe230, Fs230⟩ := hQ230
  have N230 := Fr.app N52 Nq230
  have F231 := Old.keep F217 Kq230 (allS ge216 all0)
  have F232 := Exa.keep F218 Kq230
  have F233 := Fld.keep F219 Kq230 (ninS ne212 nin0)
  have F234 := Fld.keep F220 Kq230 (ninS ne212 nin0)
  have F235 := OAr.keep F221 Kq230 (ninS ne213 nin0)
  have F236 := Exa.keep F222 Kq230
  have F237 := Fld.keep F223 Kq230 (ninS ne214 nin0)
  have F238 := Fld.keep F224 Kq230 (ninS ne214 nin0)
  have F239 := OAr.keep F225 Kq230 (ninS ne215 nin0)
  have F240 := Exa.keep A211 Kq230
  have Z241 := Nat.le_trans Z226 Kq230.1
  show OwnWk _ _ _ _ (T230.setTop (mkF m 75 #[vI z0, vI z1, vI z2, vJ z3, sX, vI (2 : Int32), vI (Int32.ofNat M0), vI (Int32.ofNat M1), vI (Int32.ofNat M2), vI (Int32.ofNat M3), vR y0, vR y1, vR y2, vR y3, uX, uX, uX, uX, uX, uX, uX, uX, uX, uX, uX, uX, uX] [(.ref b211)]))
  refine own_go (fun tgt kst => XS.astore X230.here hx rfl (hb hby at_75) rfl rfl (l' := #[vI z0, vI z1, vI z2, vJ z3, sX, vI (2 : Int32), vI (Int32.ofNat M0), vI (Int32.ofNat M1), vI (Int32.ofNat M2), vI (Int32.ofNat M3), vR y0, vR y1, vR y2, vR y3, vR b211, uX, uX, uX, uX, uX, uX, uX, uX, uX, uX, uX, uX]) rfl kst) ?_
  refine own_go (fun tgt kst => XS.iload X230.here hx rfl (hb hby at_77) rfl  kst) ?_
  refine own_go (fun tgt kst => XS.ifNo X230.here hx rfl (hb hby at_79) rfl ((if0 _ _).trans (tlt (by decide : (0 : Int32) < (2 : Int32))).2.2.2) kst) ?_
  refine own_go (fun tgt kst => XS.aload X230.here hx rfl (hb hby at_82) rfl rfl  kst) ?_
  refine own_go (fun tgt kst => XS.aload X230.here hx rfl (hb hby at_84) rfl rfl  kst) ?_
  show OwnWk _ _ _ _ (T230.setTop (mkF m 86 #[vI z0, vI z1, vI z2, vJ z3, sX, vI (2 : Int32), vI (Int32.ofNat M0), vI (Int32.ofNat M1), vI (Int32.ofNat M2), vI (Int32.ofNat M3), vR y0, vR y1, vR y2, vR y3, vR b211, uX, uX, uX, uX, uX, uX, uX, uX, uX, uX, uX, uX] [(.ref y0), (.ref b211)]))
  have lt242 : y0 < h230.size := F232.lt
  have lt243 : w0_ < h230.size := F235.lt
  have lt244 : y1 < h230.size := F236.lt
  have lt245 : w1_ < h230.size := F239.lt
  have lt246 : b211 < h230.size := F240.lt
  refine own_callV X230 hx hZ (y := yN9) (z := yN9) hown (wq hw 53 rfl) (wq hw 54 rfl) (notFace_of_selects (args := #[]) (mvT hZ (wq hw 56 rfl))) (wq hw 56 rfl) (wq hw 55 rfl) (wq hw 31 rfl) (wq hw 57 rfl) (by decide) (a := b211) F240 (argsL := [(.ref y0)]) (rest := [])  (h := h230) (adB0 l Z a0 hw dce b211 y0 h230 n0 Z241 F231 S_d V_d S_a (Ins.of_exa F232 (wq hw 83 rfl)) F240 ge216 Fm230 Fe230 Fs230) e230 (W := 0) (by decide) (by decide) (by decide) (by decide) rfl (by rw [hml]; rfl) (lenOf pd_16 rfl) rfl (by show 2 * 0 + _ ≤ _; exact Nat.le_of_eq rfl) (hb hby at_86) (fun v247 T247 h247 L247 X247 e247 hQ247 => ?_)
  obtain ⟨ed, rfl, Nq247, Kq247, szed, ged, Fm247, Fe247, Fs247, Vq247, Oq247⟩ := hQ247
  have N247 := Fr.app N230 Nq247
  have F248 := Old.keep F231 Kq247 (allS ge216 all0)
  have F249 := Exa.keep F232 Kq247
  have F250 := Fld.keep F233 Kq247 (ninS ne212 nin0)
  have F251 := Fld.keep F234 Kq247 (ninS ne212 nin0)
  have F252 := OAr.keep F235 Kq247 (ninS ne213 nin0)
  have F253 := Exa.keep F236 Kq247
  have F254 := Fld.keep F237 Kq247 (ninS ne214 nin0)
  have F255 := Fld.keep F238 Kq247 (ninS ne214 nin0)
  have F256 := OAr.keep F239 Kq247 (ninS ne215 nin0)
  have F257 := Exa.keep F240 Kq247
  have Z258 := Nat.le_trans Z241 Kq247.1
  have ne259 := own_nl lt242 szed
  have ne260 := own_nl lt243 szed
  have ne261 := own_nl lt244 szed
  have ne262 := own_nl lt245 szed
  have ne263 := own_nl lt246 szed
  show OwnWk _ _ _ _ (T247.setTop (mkF m 89 #[vI z0, vI z1, vI z2, vJ z3, sX, vI (2 : Int32), vI (Int32.ofNat M0), vI (Int32.ofNat M1), vI (Int32.ofNat M2), vI (Int32.ofNat M3), vR y0, vR y1, vR y2, vR y3, vR b211, uX, uX, uX, uX, uX, uX, uX, uX, uX, uX, uX, uX] [(.int (1 : Int32))]))
  refine own_go (fun tgt kst => XS.pop X247.here hx rfl (hb hby at_89) rfl rfl kst) ?_
  refine own_go (fun tgt kst => XS.iload X247.here hx rfl (hb hby at_90) rfl  kst) ?_
  refine own_go (fun tgt kst => XS.iconst X247.here hx rfl (hb hby at_92) kst) ?_
  refine own_go (fun tgt kst => XS.icmpNo X247.here hx rfl (hb hby at_93) rfl (tlt (by decide : (1 : Int32) < (2 : Int32))).2.2.2 kst) ?_
  refine own_go (fun tgt kst => XS.aload X247.here hx rfl (hb hby at_96) rfl rfl  kst) ?_
  refine own_go (fun tgt kst => XS.aload X247.here hx rfl (hb hby at_98) rfl rfl  kst) ?_
  show OwnWk _ _ _ _ (T247.setTop (mkF m 100 #[vI z0, vI z1, vI z2, vJ z3, sX, vI (2 : Int32), vI (Int32.ofNat M0), vI (Int32.ofNat M1), vI (Int32.ofNat M2), vI (Int32.ofNat M3), vR y0, vR y1, vR y2, vR y3, vR b211, uX, uX, uX, uX, uX, uX, uX, uX, uX, uX, uX, uX] [(.ref y1), (.ref b211)]))
  have lt264 : y0 < h247.size := F249.lt
  have lt265 : w0_ < h247.size := F252.lt
  have lt266 : y1 < h247.size := F253.lt
  have lt267 : w1_ < h247.size := F256.lt
  have lt268 : b211 < h247.size := F257.lt
  have lt269 : ed < h247.size := Vq247.lt
  refine own_callV X247 hx hZ (y := yN9) (z := yN9) hown (wq hw 53 rfl) (wq hw 54 rfl) (notFace_of_selects (args := #[]) (mvT hZ (wq hw 56 rfl))) (wq hw 56 rfl) (wq hw 55 rfl) (wq hw 31 rfl) (wq hw 57 rfl) (by decide) (a := b211) F257 (argsL := [(.ref y1)]) (rest := [])  (h := h247) (adB1 l Z a0 hw dce b211 y1 ed y0 h247 n0 Z258 F248 S_d V_d S_a (Ins.of_exa F253 (wq hw 83 rfl)) F257 ge216 Fm247 Fe247 Fs247 ged ne263 Vq247 Oq247) e247 (W := 0) (by decide) (by decide) (by decide) (by decide) rfl (by rw [hml]; rfl) (lenOf pd_16 rfl) rfl (by show 2 * 0 + _ ≤ _; exact Nat.le_of_eq rfl) (hb hby at_100) (fun v270 T270 h270 L270 X270 e270 hQ270 => ?_)
  obtain ⟨rfl, Nq270, Kq270, Fm270, Fe270, Fs270, Vq270, Oq270⟩ := hQ270
  have N270 := Fr.app N247 Nq270
  have F271 := Old.keep F248 Kq270 (allS ge216 (allS ged all0))
  have F272 := Exa.keep F249 Kq270
  have F273 := Fld.keep F250 Kq270 (ninS ne212 (ninS ne259 nin0))
  have F274 := Fld.keep F251 Kq270 (ninS ne212 (ninS ne259 nin0))
  have F275 := OAr.keep F252 Kq270 (ninS ne213 (ninS ne260 nin0))
  have F276 := Exa.keep F253 Kq270
  have F277 := Fld.keep F254 Kq270 (ninS ne214 (ninS ne261 nin0))
  have F278 := Fld.keep F255 Kq270 (ninS ne214 (ninS ne261 nin0))
  have F279 := OAr.keep F256 Kq270 (ninS ne215 (ninS ne262 nin0))
  have F280 := Exa.keep F257 Kq270
  have F281 := OOv.keep Oq247 Kq270
  have Z282 := Nat.le_trans Z258 Kq270.1
  show OwnWk _ _ _ _ (T270.setTop (mkF m 103 #[vI z0, vI z1, vI z2, vJ z3, sX, vI (2 : Int32), vI (Int32.ofNat M0), vI (Int32.ofNat M1), vI (Int32.ofNat M2), vI (Int32.ofNat M3), vR y0, vR y1, vR y2, vR y3, vR b211, uX, uX, uX, uX, uX, uX, uX, uX, uX, uX, uX, uX] [(.int (1 : Int32))]))
  refine own_go (fun tgt kst => XS.pop X270.here hx rfl (hb hby at_103) rfl rfl kst) ?_
  refine own_go (fun tgt kst => XS.iload X270.here hx rfl (hb hby at_104) rfl  kst) ?_
  refine own_go (fun tgt kst => XS.iconst X270.here hx rfl (hb hby at_106) kst) ?_
  refine own_go (fun tgt kst => XS.icmpYes X270.here hx rfl (pc0 := 107) (pc' := 118) rfl (hb hby at_107) rfl (flt (by decide : ¬ ((2 : Int32) < (2 : Int32)))).2.2.2 (by decide) (by decide) kst) ?_
  refine own_go (fun tgt kst => XS.iload X270.here hx rfl (hb hby at_118) rfl  kst) ?_
  refine own_go (fun tgt kst => XS.iconst X270.here hx rfl (hb hby at_120) kst) ?_
  show OwnWk _ _ _ _ (T270.setTop (mkF m 121 #[vI z0, vI z1, vI z2, vJ z3, sX, vI (2 : Int32), vI (Int32.ofNat M0), vI (Int32.ofNat M1), vI (Int32.ofNat M2), vI (Int32.ofNat M3), vR y0, vR y1, vR y2, vR y3, vR b211, uX, uX, uX, uX, uX, uX, uX, uX, uX, uX, uX, uX] [(.int (3 : Int32)), (.int (2 : Int32))]))
  refine own_go (fun tgt kst => XS.icmpYes X270.here hx rfl (pc0 := 121) (pc' := 132) rfl (hb hby at_121) rfl (flt (by decide : ¬ ((3 : Int32) < (2 : Int32)))).2.2.2 (by decide) (by decide) kst) ?_
  obtain ⟨T283, h283, X283, e283, E283, A283, D283, -, st283⟩ := newO X270 hx hZ hown (wq hw 84 rfl) (wq hw 85 rfl) (wq hw 86 rfl) e270 (g := (mkF m 132 #[vI z0, vI z1, vI z2, vJ z3, sX, vI (2 : Int32), vI (Int32.ofNat M0), vI (Int32.ofNat M1), vI (Int32.ofNat M2), vI (Int32.ofNat M3), vR y0, vR y1, vR y2, vR y3, vR b211, uX, uX, uX, uX, uX, uX, uX, uX, uX, uX, uX, uX] [])) rfl (hb hby at_132) (by decide) (by decide)
  obtain ⟨b283, g283⟩ : ∃ z, z = h270.size := ⟨_, rfl⟩
  rw [← g283] at A283 D283 st283
  refine own_go st283 ?_
  have ne284 := own_nl F272.lt (Nat.le_of_eq g283.symm)
  have ne285 := own_nl F275.lt (Nat.le_of_eq g283.symm)
  have ne286 := own_nl F276.lt (Nat.le_of_eq g283.symm)
  have ne287 := own_nl F279.lt (Nat.le_of_eq g283.symm)
  have ne288 := own_nl F280.lt (Nat.le_of_eq g283.symm)
  have ne289 := own_nl Vq270.lt (Nat.le_of_eq g283.symm)
  have ge290 : n0 ≤ b283 := Nat.le_trans Z282 (Nat.le_of_eq g283.symm)
  have F291 := Old.ext F271 E283
  have F292 := Exa.ext E283 F272
  have F293 := Fld.ext E283 F273
  have F294 := Fld.ext E283 F274
  have F295 := OAr.ext F275 E283
  have F296 := Exa.ext E283 F276
  have F297 := Fld.ext E283 F277
  have F298 := Fld.ext E283 F278
  have F299 := OAr.ext F279 E283
  have F300 := Exa.ext E283 F280
  have F301 := OOv.ext E283 Oq270
  have F302 := Fld.ext E283 Fm270
  have F303 := Fld.ext E283 Fe270
  have F304 := Fld.ext E283 Fs270
  have F305 := OAr.ext Vq270 E283
  have Z306 := Nat.le_trans Z282 E283.1
  have F307 : Fld Z h283 b283 "com/example/encircle/encircle/layout/ZoneKeys" "keys" "[J" .null := D283 (Or.inr (wq hw 92 rfl)) (ty := (.array .long)) (by decide)
  have F308 : Fld Z h283 b283 "com/example/encircle/encircle/layout/ZoneKeys" "sums" "[J" .null := D283 (Or.inr (wq hw 107 rfl)) (ty := (.array .long)) (by decide)
  have F309 : Fld Z h283 b283 "com/example/encircle/encircle/layout/ZoneKeys" "sizes" "[I" .null := D283 (Or.inr (wq hw 110 rfl)) (ty := (.array .int)) (by decide)
  have F310 : Fld Z h283 b283 "com/example/encircle/encircle/layout/ZoneKeys" "slotSums" "[J" .null := D283 (Or.inr (wq hw 161 rfl)) (ty := (.array .long)) (by decide)
  have F311 : Fld Z h283 b283 "com/example/encircle/encircle/layout/ZoneKeys" "slotZones" "[I" .null := D283 (Or.inr (wq hw 163 rfl)) (ty := (.array .int)) (by decide)
  have F312 : Fld Z h283 b283 "com/example/encircle/encircle/layout/ZoneKeys" "sameSum" "[I" .null := D283 (Or.inr (wq hw 165 rfl)) (ty := (.array .int)) (by decide)
  show OwnWk _ _ _ _ (T283.setTop (mkF m 135 #[vI z0, vI z1, vI z2, vJ z3, sX, vI (2 : Int32), vI (Int32.ofNat M0), vI (Int32.ofNat M1), vI (Int32.ofNat M2), vI (Int32.ofNat M3), vR y0, vR y1, vR y2, vR y3, vR b211, uX, uX, uX, uX, uX, uX, uX, uX, uX, uX, uX, uX] [(.ref b283)]))
  refine own_go (fun tgt kst => XS.dup X283.here hx rfl (hb hby at_135) rfl rfl kst) ?_
  refine own_go (fun tgt kst => XS.iconst X283.here hx rfl (hb hby at_136) kst) ?_
  refine own_go (fun tgt kst => XS.aload X283.here hx rfl (hb hby at_137) rfl rfl  kst) ?_
  show OwnWk _ _ _ _ (T283.setTop (mkF m 139 #[vI z0, vI z1, vI z2, vJ z3, sX, vI (2 : Int32), vI (Int32.ofNat M0), vI (Int32.ofNat M1), vI (Int32.ofNat M2), vI (Int32.ofNat M3), vR y0, vR y1, vR y2, vR y3, vR b211, uX, uX, uX, uX, uX, uX, uX, uX, uX, uX, uX, uX] [(.ref b211), (.int (4 : Int32)), (.ref b283), (.ref b283)]))
  have Fc313 : Fld Z h283 b211 "java/util/ArrayList" "size" "I" (.int (Int32.ofNat 2)) := F304
  have Fc314 : OAr Z h283 ed (.object "java/lang/Object") [(.ref y0), (.ref y1), .null, .null, .null, .null, .null, .null, .null, .null] := F305
  show OwnWk _ _ _ _ (T283.setTop (mkF m 139 #[vI z0, vI z1, vI z2, vJ z3, sX, vI (2 : Int32), vI (Int32.ofNat M0), vI (Int32.ofNat M1), vI (Int32.ofNat M2), vI (Int32.ofNat M3), vR y0, vR y1, vR y2, vR y3, vR b211, uX, uX, uX, uX, uX, uX, uX, uX, uX, uX, uX, uX] [(.ref b211), (.int (4 : Int32)), (.ref b283), (.ref b283)]))
  refine own_callC X283 hx hZ (y := yN14) hown rfl (wq hw 87 rfl) (wq hw 88 rfl) (wq hw 86 rfl) (wq hw 89 rfl) (by decide) (a := b283) (argsL := [(.int (4 : Int32)), (.ref b211)]) (rest := [(.ref b283)])  (h := h283) (zkN l Z a0 hw dce b283 b211 ed (own_p4 y0 y1 y2 y3) (own_p4 w0_ w1_ w2_ w3_) (own_p4 M0 M1 M2 M3) 2 ([(.ref y0), (.ref y1), .null, .null, .null, .null, .null, .null, .null, .null]) h283 n0 Z306 F291 S_d V_d S_a A283 F307 F308 F309 F310 F311 F312 F300 Fc313 F303 Fc314 (Ne.symm ne288) (Ne.symm ne289) ge290 (by decide) (by decide) (own_a2 rfl rfl) (own_a2 ⟨F292, F293, F294, F295⟩ ⟨F296, F297, F298, F299⟩) (own_a2 ⟨(Ne.symm ne284), (Ne.symm ne285)⟩ ⟨(Ne.symm ne286), (Ne.symm ne287)⟩) (own_a2 hM0 hM1)) e283 (W := 1) (by decide) (by decide) (by decide) (by decide) rfl (by rw [hml]; rfl) (lenOf pd_13 rfl) rfl (by show 2 * 0 + _ ≤ _; exact Nat.le_of_eq rfl) (hb hby at_139) (fun v315 T315 h315 L315 X315 e315 hQ315 => ?_)
  obtain ⟨rfl, Nq315, Kq315, kk, zs, zz, k0, k1, k2, k3, SS, ZZ, Fk315_0, Fk315_1, Fk315_2, Fk315_3, Fk315_4, Fk315_5, hinv⟩ := hQ315
  have N315 := Fr.app N270 Nq315
  have F316 := Old.keep F291 Kq315 (allS ge290 all0)
  have F317 := Exa.keep F292 Kq315
  have F318 := Fld.keep F293 Kq315 (ninS ne284 nin0)
  have F319 := Fld.keep F294 Kq315 (ninS ne284 nin0)
  have F320 := OAr.keep F295 Kq315 (ninS ne285 nin0)
  have F321 := Exa.keep F296 Kq315
  have F322 := Fld.keep F297 Kq315 (ninS ne286 nin0)
  have F323 := Fld.keep F298 Kq315 (ninS ne286 nin0)
  have F324 := OAr.keep F299 Kq315 (ninS ne287 nin0)
  have F325 := Exa.keep F300 Kq315
  have F326 := OOv.keep F301 Kq315
  have F327 := Fld.keep F302 Kq315 (ninS ne288 nin0)
  have F328 := Fld.keep F303 Kq315 (ninS ne288 nin0)
  have F329 := Exa.keep A283 Kq315
  have F330 := Fld.keep Fc313 Kq315 (ninS ne288 nin0)
  have F331 := OAr.keep Fc314 Kq315 (ninS ne289 nin0)
  have Z332 := Nat.le_trans Z306 Kq315.1
  show OwnWk _ _ _ _ (T315.setTop (mkF m 142 #[vI z0, vI z1, vI z2, vJ z3, sX, vI (2 : Int32), vI (Int32.ofNat M0), vI (Int32.ofNat M1), vI (Int32.ofNat M2), vI (Int32.ofNat M3), vR y0, vR y1, vR y2, vR y3, vR b211, uX, uX, uX, uX, uX, uX, uX, uX, uX, uX, uX, uX] [(.ref b283)]))
  refine own_go (fun tgt kst => XS.astore X315.here hx rfl (hb hby at_142) rfl rfl (l' := #[vI z0, vI z1, vI z2, vJ z3, sX, vI (2 : Int32), vI (Int32.ofNat M0), vI (Int32.ofNat M1), vI (Int32.ofNat M2), vI (Int32.ofNat M3), vR y0, vR y1, vR y2, vR y3, vR b211, vR b283, uX, uX, uX, uX, uX, uX, uX, uX, uX, uX, uX]) rfl kst) ?_
  refine own_go (fun tgt kst => XS.aload X315.here hx rfl (hb hby at_144) rfl rfl  kst) ?_
  refine own_go (fun tgt kst => XS.iconst X315.here hx rfl (hb hby at_146) kst) ?_
  show OwnWk _ _ _ _ (T315.setTop (mkF m 147 #[vI z0, vI z1, vI z2, vJ z3, sX, vI (2 : Int32), vI (Int32.ofNat M0), vI (Int32.ofNat M1), vI (Int32.ofNat M2), vI (Int32.ofNat M3), vR y0, vR y1, vR y2, vR y3, vR b211, vR b283, uX, uX, uX, uX, uX, uX, uX, uX, uX, uX, uX] [(.int (0 : Int32)), (.ref b283)]))
  refine own_callV X315 hx hZ (y := yN27) (z := yN27) hown (wq hw 174 rfl) (wq hw 175 rfl) (notFace_of_selects (args := #[]) (mvT hZ (wq hw 177 rfl))) (wq hw 177 rfl) (wq hw 176 rfl) (wq hw 86 rfl) (wq hw 178 rfl) (by decide) (a := b283) F329 (argsL := [(.int (0 : Int32))]) (rest := [])  (h := h315) (key0 l Z a0 hw b283 kk k0 k1 k2 k3 h315 n0 Z332 Fk315_0 Fk315_1) e315 (W := 0) (by decide) (by decide) (by decide) (by decide) rfl (by rw [hml]; rfl) (lenOf pd_14 rfl) rfl (by show 2 * 0 + _ ≤ _; exact Nat.le_of_eq rfl) (hb hby at_147) (fun v333 T333 h333 L333 X333 e333 hQ333 => ?_)
  obtain ⟨rfl, Nq333, q333⟩ := hQ333
  have N333 := Fr.app N315 Nq333
  rw [q333] at e333
  show OwnWk _ _ _ _ (T333.setTop (mkF m 150 #[vI z0, vI z1, vI z2, vJ z3, sX, vI (2 : Int32), vI (Int32.ofNat M0), vI (Int32.ofNat M1), vI (Int32.ofNat M2), vI (Int32.ofNat M3), vR y0, vR y1, vR y2, vR y3, vR b211, vR b283, uX, uX, uX, uX, uX, uX, uX, uX, uX, uX, uX] [(.long k0)]))
  refine own_go (fun tgt kst => XS.lstore X333.here hx rfl (hb hby at_150) rfl (l' := #[vI z0, vI z1, vI z2, vJ z3, sX, vI (2 : Int32), vI (Int32.ofNat M0), vI (Int32.ofNat M1), vI (Int32.ofNat M2), vI (Int32.ofNat M3), vR y0, vR y1, vR y2, vR y3, vR b211, vR b283, vJ k0, sX, uX, uX, uX, uX, uX, uX, uX, uX, uX]) rfl kst) ?_
  refine own_go (fun tgt kst => XS.aload X333.here hx rfl (hb hby at_152) rfl rfl  kst) ?_
  refine own_go (fun tgt kst => XS.iconst X333.here hx rfl (hb hby at_154) kst) ?_
  show OwnWk _ _ _ _ (T333.setTop (mkF m 155 #[vI z0, vI z1, vI z2, vJ z3, sX, vI (2 : Int32), vI (Int32.ofNat M0), vI (Int32.ofNat M1), vI (Int32.ofNat M2), vI (Int32.ofNat M3), vR y0, vR y1, vR y2, vR y3, vR b211, vR b283, vJ k0, sX, uX, uX, uX, uX, uX, uX, uX, uX, uX] [(.int (1 : Int32)), (.ref b283)]))
  refine own_callV X333 hx hZ (y := yN27) (z := yN27) hown (wq hw 174 rfl) (wq hw 175 rfl) (notFace_of_selects (args := #[]) (mvT hZ (wq hw 177 rfl))) (wq hw 177 rfl) (wq hw 176 rfl) (wq hw 86 rfl) (wq hw 178 rfl) (by decide) (a := b283) F329 (argsL := [(.int (1 : Int32))]) (rest := [])  (h := h315) (key1 l Z a0 hw b283 kk k0 k1 k2 k3 h315 n0 Z332 Fk315_0 Fk315_1) e333 (W := 0) (by decide) (by decide) (by decide) (by decide) rfl (by rw [hml]; rfl) (lenOf pd_14 rfl) rfl (by show 2 * 0 + _ ≤ _; exact Nat.le_of_eq rfl) (hb hby at_155) (fun v334 T334 h334 L334 X334 e334 hQ334 => ?_)
  obtain ⟨rfl, Nq334, q334⟩ := hQ334
  have N334 := Fr.app N333 Nq334
  rw [q334] at e334
  show OwnWk _ _ _ _ (T334.setTop (mkF m 158 #[vI z0, vI z1, vI z2, vJ z3, sX, vI (2 : Int32), vI (Int32.ofNat M0), vI (Int32.ofNat M1), vI (Int32.ofNat M2), vI (Int32.ofNat M3), vR y0, vR y1, vR y2, vR y3, vR b211, vR b283, vJ k0, sX, uX, uX, uX, uX, uX, uX, uX, uX, uX] [(.long k1)]))
  refine own_go (fun tgt kst => XS.lstore X334.here hx rfl (hb hby at_158) rfl (l' := #[vI z0, vI z1, vI z2, vJ z3, sX, vI (2 : Int32), vI (Int32.ofNat M0), vI (Int32.ofNat M1), vI (Int32.ofNat M2), vI (Int32.ofNat M3), vR y0, vR y1, vR y2, vR y3, vR b211, vR b283, vJ k0, sX, vJ k1, sX, uX, uX, uX, uX, uX, uX, uX]) rfl kst) ?_
  refine own_go (fun tgt kst => XS.aload X334.here hx rfl (hb hby at_160) rfl rfl  kst) ?_
  refine own_go (fun tgt kst => XS.iconst X334.here hx rfl (hb hby at_162) kst) ?_
  show OwnWk _ _ _ _ (T334.setTop (mkF m 163 #[vI z0, vI z1, vI z2, vJ z3, sX, vI (2 : Int32), vI (Int32.ofNat M0), vI (Int32.ofNat M1), vI (Int32.ofNat M2), vI (Int32.ofNat M3), vR y0, vR y1, vR y2, vR y3, vR b211, vR b283, vJ k0, sX, vJ k1, sX, uX, uX, uX, uX, uX, uX, uX] [(.int (2 : Int32)), (.ref b283)]))
  refine own_callV X334 hx hZ (y := yN27) (z := yN27) hown (wq hw 174 rfl) (wq hw 175 rfl) (notFace_of_selects (args := #[]) (mvT hZ (wq hw 177 rfl))) (wq hw 177 rfl) (wq hw 176 rfl) (wq hw 86 rfl) (wq hw 178 rfl) (by decide) (a := b283) F329 (argsL := [(.int (2 : Int32))]) (rest := [])  (h := h315) (key2 l Z a0 hw b283 kk k0 k1 k2 k3 h315 n0 Z332 Fk315_0 Fk315_1) e334 (W := 0) (by decide) (by decide) (by decide) (by decide) rfl (by rw [hml]; rfl) (lenOf pd_14 rfl) rfl (by show 2 * 0 + _ ≤ _; exact Nat.le_of_eq rfl) (hb hby at_163) (fun v335 T335 h335 L335 X335 e335 hQ335 => ?_)
  obtain ⟨rfl, Nq335, q335⟩ := hQ335
  have N335 := Fr.app N334 Nq335
  rw [q335] at e335
  show OwnWk _ _ _ _ (T335.setTop (mkF m 166 #[vI z0, vI z1, vI z2, vJ z3, sX, vI (2 : Int32), vI (Int32.ofNat M0), vI (Int32.ofNat M1), vI (Int32.ofNat M2), vI (Int32.ofNat M3), vR y0, vR y1, vR y2, vR y3, vR b211, vR b283, vJ k0, sX, vJ k1, sX, uX, uX, uX, uX, uX, uX, uX] [(.long k2)]))
  refine own_go (fun tgt kst => XS.lstore X335.here hx rfl (hb hby at_166) rfl (l' := #[vI z0, vI z1, vI z2, vJ z3, sX, vI (2 : Int32), vI (Int32.ofNat M0), vI (Int32.ofNat M1), vI (Int32.ofNat M2), vI (Int32.ofNat M3), vR y0, vR y1, vR y2, vR y3, vR b211, vR b283, vJ k0, sX, vJ k1, sX, vJ k2, sX, uX, uX, uX, uX, uX]) rfl kst) ?_
  refine own_go (fun tgt kst => XS.aload X335.here hx rfl (hb hby at_168) rfl rfl  kst) ?_
  refine own_go (fun tgt kst => XS.iconst X335.here hx rfl (hb hby at_170) kst) ?_
  show OwnWk _ _ _ _ (T335.setTop (mkF m 171 #[vI z0, vI z1, vI z2, vJ z3, sX, vI (2 : Int32), vI (Int32.ofNat M0), vI (Int32.ofNat M1), vI (Int32.ofNat M2), vI (Int32.ofNat M3), vR y0, vR y1, vR y2, vR y3, vR b211, vR b283, vJ k0, sX, vJ k1, sX, vJ k2, sX, uX, uX, uX, uX, uX] [(.int (3 : Int32)), (.ref b283)]))
  refine own_callV X335 hx hZ (y := yN27) (z := yN27) hown (wq hw 174 rfl) (wq hw 175 rfl) (notFace_of_selects (args := #[]) (mvT hZ (wq hw 177 rfl))) (wq hw 177 rfl) (wq hw 176 rfl) (wq hw 86 rfl) (wq hw 178 rfl) (by decide) (a := b283) F329 (argsL := [(.int (3 : Int32))]) (rest := [])  (h := h315) (key3 l Z a0 hw b283 kk k0 k1 k2 k3 h315 n0 Z332 Fk315_0 Fk315_1) e335 (W := 0) (by decide) (by decide) (by decide) (by decide) rfl (by rw [hml]; rfl) (lenOf pd_14 rfl) rfl (by show 2 * 0 + _ ≤ _; exact Nat.le_of_eq rfl) (hb hby at_171) (fun v336 T336 h336 L336 X336 e336 hQ336 => ?_)
  obtain ⟨rfl, Nq336, q336⟩ := hQ336
  have N336 := Fr.app N335 Nq336
  rw [q336] at e336
  show OwnWk _ _ _ _ (T336.setTop (mkF m 174 #[vI z0, vI z1, vI z2, vJ z3, sX, vI (2 : Int32), vI (Int32.ofNat M0), vI (Int32.ofNat M1), vI (Int32.ofNat M2), vI (Int32.ofNat M3), vR y0, vR y1, vR y2, vR y3, vR b211, vR b283, vJ k0, sX, vJ k1, sX, vJ k2, sX, uX, uX, uX, uX, uX] [(.long k3)]))
  refine own_go (fun tgt kst => XS.lstore X336.here hx rfl (hb hby at_174) rfl (l' := #[vI z0, vI z1, vI z2, vJ z3, sX, vI (2 : Int32), vI (Int32.ofNat M0), vI (Int32.ofNat M1), vI (Int32.ofNat M2), vI (Int32.ofNat M3), vR y0, vR y1, vR y2, vR y3, vR b211, vR b283, vJ k0, sX, vJ k1, sX, vJ k2, sX, vJ k3, sX, uX, uX, uX]) rfl kst) ?_
  show OwnWk _ _ _ _ (T336.setTop (mkF m 176 #[vI z0, vI z1, vI z2, vJ z3, sX, vI (2 : Int32), vI (Int32.ofNat M0), vI (Int32.ofNat M1), vI (Int32.ofNat M2), vI (Int32.ofNat M3), vR y0, vR y1, vR y2, vR y3, vR b211, vR b283, vJ k0, sX, vJ k1, sX, vJ k2, sX, vJ k3, sX, uX, uX, uX] []))
  have LQ : ∀ (qq : Int64) (T_ : State) (L_ : List Loc), Stand p l e room_1 s m #[(.int z0), (.int z1), (.int z2), (.long z3)] below meth c T_ L_ 18 71 → T_.heap = h315 → Fr n0 L_ →
      OwnWk p e below (OwnP s (Q_rm0 Z z0 z1 z2 z3 dce h0 n0) room_1.cells room_1.slots) (T_.setTop (mkF m 202 #[vI z0, vI z1, vI z2, vJ z3, sX, vI (2 : Int32), vI (Int32.ofNat M0), vI (Int32.ofNat M1), vI (Int32.ofNat M2), vI (Int32.ofNat M3), vR y0, vR y1, vR y2, vR y3, vR b211, vR b283, vJ k0, sX, vJ k1, sX, vJ k2, sX, vJ k3, sX, uX, uX, uX] [(.long qq)])) := by
   intro qq T_337 L_337  X_337 e_337 N_337
   show OwnWk _ _ _ _ (T_337.setTop (mkF m 202 #[vI z0, vI z1, vI z2, vJ z3, sX, vI (2 : Int32), vI (Int32.ofNat M0), vI (Int32.ofNat M1), vI (Int32.ofNat M2), vI (Int32.ofNat M3), vR y0, vR y1, vR y2, vR y3, vR b211, vR b283, vJ k0, sX, vJ k1, sX, vJ k2, sX, vJ k3, sX, uX, uX, uX] [(.long qq)]))
   have LS0 : ∀ (ix : Int32) (T_ : State) (L_ : List Loc), ix = Int32.ofNat (own_Ez (own_f (own_p4 M0 M1 M2 M3) k0 k1 k2 k3) 0 2 qq) - (1 : Int32) → Stand p l e room_1 s m #[(.int z0), (.int z1), (.int z2), (.long z3)] below meth c T_ L_ 18 71 → T_.heap = h315 → Fr n0 L_ →
       OwnWk p e below (OwnP s (Q_rm0 Z z0 z1 z2 z3 dce h0 n0) room_1.cells room_1.slots) (T_.setTop (mkF m 318 #[vI z0, vI z1, vI z2, vJ z3, sX, vI (2 : Int32), vI (Int32.ofNat M0), vI (Int32.ofNat M1), vI (Int32.ofNat M2), vI (Int32.ofNat M3), vR y0, vR y1, vR y2, vR y3, vR b211, vR b283, vJ k0, sX, vJ k1, sX, vJ k2, sX, vJ k3, sX, vJ qq, sX, vI ix] [])) := by
    intro ix T_338 L_338 hix X_338 e_338 N_338
    show OwnWk _ _ _ _ (T_338.setTop (mkF m 318 #[vI z0, vI z1, vI z2, vJ z3, sX, vI (2 : Int32), vI (Int32.ofNat M0), vI (Int32.ofNat M1), vI (Int32.ofNat M2), vI (Int32.ofNat M3), vR y0, vR y1, vR y2, vR y3, vR b211, vR b283, vJ k0, sX, vJ k1, sX, vJ k2, sX, vJ k3, sX, vJ qq, sX, vI ix] []))
    refine own_go (fun tgt kst => XS.aload X_338.here hx rfl (hb hby at_318) rfl rfl  kst) ?_
    refine own_go (fun tgt kst => XS.lload X_338.here hx rfl (hb hby at_320) rfl  kst) ?_
    show OwnWk _ _ _ _ (T_338.setTop (mkF m 322 #[vI z0, vI z1, vI z2, vJ z3, sX, vI (2 : Int32), vI (Int32.ofNat M0), vI (Int32.ofNat M1), vI (Int32.ofNat M2), vI (Int32.ofNat M3), vR y0, vR y1, vR y2, vR y3, vR b211, vR b283, vJ k0, sX, vJ k1, sX, vJ k2, sX, vJ k3, sX, vJ qq, sX, vI ix] [(.long qq), (.ref b283)]))
    refine own_callV X_338 hx hZ (y := yN29) (z := yN29) hown (wq hw 182 rfl) (wq hw 183 rfl) (notFace_of_selects (args := #[]) (mvT hZ (wq hw 185 rfl))) (wq hw 185 rfl) (wq hw 184 rfl) (wq hw 86 rfl) (wq hw 186 rfl) (by decide) (a := b283) F329 (argsL := [(.long qq)]) (rest := [])  (h := h315) (fst l Z a0 hw b283 zs zz SS ZZ qq (own_k 2) 2 (own_Ez (own_f (own_p4 M0 M1 M2 M3) k0 k1 k2 k3) 0 2) h315 n0 Z332 F329 Fk315_2 Fk315_3 Fk315_4 Fk315_5 own_k4 hinv (by decide)) e_338 (W := 0) (by decide) (by decide) (by decide) (by decide) rfl (by rw [hml]; rfl) (lenOf pd_3 rfl) rfl (by show 2 * 0 + _ ≤ _; exact Nat.le_of_eq rfl) (hb hby at_322) (fun v339 T339 h339 L339 X339 e339 hQ339 => ?_)
    obtain ⟨rfl, Nq339, q339⟩ := hQ339
    have N339 := Fr.app N_338 Nq339
    rw [q339] at e339
    show OwnWk _ _ _ _ (T339.setTop (mkF m 325 #[vI z0, vI z1, vI z2, vJ z3, sX, vI (2 : Int32), vI (Int32.ofNat M0), vI (Int32.ofNat M1), vI (Int32.ofNat M2), vI (Int32.ofNat M3), vR y0, vR y1, vR y2, vR y3, vR b211, vR b283, vJ k0, sX, vJ k1, sX, vJ k2, sX, vJ k3, sX, vJ qq, sX, vI ix] [(.int ((Int32.ofNat (own_Ez (own_f (own_p4 M0 M1 M2 M3) k0 k1 k2 k3) 0 2 qq)) - (1 : Int32)))]))
    refine own_go (fun tgt kst => XS.iload X339.here hx rfl (hb hby at_325) rfl  kst) ?_
    show OwnWk _ _ _ _ (T339.setTop (mkF m 327 #[vI z0, vI z1, vI z2, vJ z3, sX, vI (2 : Int32), vI (Int32.ofNat M0), vI (Int32.ofNat M1), vI (Int32.ofNat M2), vI (Int32.ofNat M3), vR y0, vR y1, vR y2, vR y3, vR b211, vR b283, vJ k0, sX, vJ k1, sX, vJ k2, sX, vJ k3, sX, vJ qq, sX, vI ix] [(.int ix), (.int ((Int32.ofNat (own_Ez (own_f (own_p4 M0 M1 M2 M3) k0 k1 k2 k3) 0 2 qq)) - (1 : Int32)))]))
    refine own_go (fun tgt kst => XS.icmpNo X339.here hx rfl (hb hby at_327) rfl (teq hix.symm).2 kst) ?_
    show OwnWk _ _ _ _ (T339.setTop (mkF m 330 #[vI z0, vI z1, vI z2, vJ z3, sX, vI (2 : Int32), vI (Int32.ofNat M0), vI (Int32.ofNat M1), vI (Int32.ofNat M2), vI (Int32.ofNat M3), vR y0, vR y1, vR y2, vR y3, vR b211, vR b283, vJ k0, sX, vJ k1, sX, vJ k2, sX, vJ k3, sX, vJ qq, sX, vI ix] []))
    refine own_go (fun tgt kst => XS.iconst X339.here hx rfl (hb hby at_330) kst) ?_
    refine own_go (fun tgt kst => XS.goto X339.here hx rfl (pc0 := 331) (pc' := 335) rfl (hb hby at_331) (by decide) (by decide) kst) ?_
    show OwnWk _ _ _ _ (T339.setTop (mkF m 335 #[vI z0, vI z1, vI z2, vJ z3, sX, vI (2 : Int32), vI (Int32.ofNat M0), vI (Int32.ofNat M1), vI (Int32.ofNat M2), vI (Int32.ofNat M3), vR y0, vR y1, vR y2, vR y3, vR b211, vR b283, vJ k0, sX, vJ k1, sX, vJ k2, sX, vJ k3, sX, vJ qq, sX, vI ix] [(.int (1 : Int32))]))
    exact own_retZ X339 hx hlk hret (by simp) (z' := (1 : Int32)) rfl (hb hby at_335) (by decide) (by decide) (by rw [e339]; exact ⟨rfl, N339⟩)
   have LS1 : ∀ (ix : Int32) (T_ : State) (L_ : List Loc), ix = Int32.ofNat (own_Ez (own_f (own_p4 M0 M1 M2 M3) k0 k1 k2 k3) 1 1 qq) - (1 : Int32) → Stand p l e room_1 s m #[(.int z0), (.int z1), (.int z2), (.long z3)] below meth c T_ L_ 18 71 → T_.heap = h315 → Fr n0 L_ →
       OwnWk p e below (OwnP s (Q_rm0 Z z0 z1 z2 z3 dce h0 n0) room_1.cells room_1.slots) (T_.setTop (mkF m 291 #[vI z0, vI z1, vI z2, vJ z3, sX, vI (2 : Int32), vI (Int32.ofNat M0), vI (Int32.ofNat M1), vI (Int32.ofNat M2), vI (Int32.ofNat M3), vR y0, vR y1, vR y2, vR y3, vR b211, vR b283, vJ k0, sX, vJ k1, sX, vJ k2, sX, vJ k3, sX, vJ qq, sX, vI ix] [])) := by
    intro ix T_340 L_340 hix X_340 e_340 N_340
    show OwnWk _ _ _ _ (T_340.setTop (mkF m 291 #[vI z0, vI z1, vI z2, vJ z3, sX, vI (2 : Int32), vI (Int32.ofNat M0), vI (Int32.ofNat M1), vI (Int32.ofNat M2), vI (Int32.ofNat M3), vR y0, vR y1, vR y2, vR y3, vR b211, vR b283, vJ k0, sX, vJ k1, sX, vJ k2, sX, vJ k3, sX, vJ qq, sX, vI ix] []))
    refine own_go (fun tgt kst => XS.iload X_340.here hx rfl (hb hby at_291) rfl  kst) ?_
    refine own_go (fun tgt kst => XS.ifNo X_340.here hx rfl (hb hby at_293) rfl ((if0 _ _).trans (tlt (by decide : (0 : Int32) < (2 : Int32))).2.2.2) kst) ?_
    refine own_go (fun tgt kst => XS.lload X_340.here hx rfl (hb hby at_296) rfl  kst) ?_
    refine own_go (fun tgt kst => XS.iload X_340.here hx rfl (hb hby at_298) rfl  kst) ?_
    refine own_go (fun tgt kst => XS.lload X_340.here hx rfl (hb hby at_300) rfl  kst) ?_
    refine own_go (fun tgt kst => XS.lload X_340.here hx rfl (hb hby at_302) rfl  kst) ?_
    show OwnWk _ _ _ _ (T_340.setTop (mkF m 304 #[vI z0, vI z1, vI z2, vJ z3, sX, vI (2 : Int32), vI (Int32.ofNat M0), vI (Int32.ofNat M1), vI (Int32.ofNat M2), vI (Int32.ofNat M3), vR y0, vR y1, vR y2, vR y3, vR b211, vR b283, vJ k0, sX, vJ k1, sX, vJ k2, sX, vJ k3, sX, vJ qq, sX, vI ix] [(.long k1), (.long k0), (.int (Int32.ofNat M0)), (.long qq)]))
    refine own_go (fun tgt kst => XS.lload X_340.here hx rfl (hb hby at_304) rfl  kst) ?_
    refine own_go (fun tgt kst => XS.lload X_340.here hx rfl (hb hby at_306) rfl  kst) ?_
    show OwnWk _ _ _ _ (T_340.setTop (mkF m 308 #[vI z0, vI z1, vI z2, vJ z3, sX, vI (2 : Int32), vI (Int32.ofNat M0), vI (Int32.ofNat M1), vI (Int32.ofNat M2), vI (Int32.ofNat M3), vR y0, vR y1, vR y2, vR y3, vR b211, vR b283, vJ k0, sX, vJ k1, sX, vJ k2, sX, vJ k3, sX, vJ qq, sX, vI ix] [(.long k3), (.long k2), (.long k1), (.long k0), (.int (Int32.ofNat M0)), (.long qq)]))
    refine own_callS X_340 hx hZ (y := yN28) hown (wq hw 179 rfl) (wq hw 180 rfl) (wq hw 3 rfl) (wq hw 181 rfl) (by decide) (argsL := [(.int (Int32.ofNat M0)), (.long k0), (.long k1), (.long k2), (.long k3)]) (rest := [(.long qq)])  (h := h315) (smo l Z a0 hw M0 k0 k1 k2 k3 h315 n0 Z332) e_340 (W := 2) (by decide) (by decide) (by decide) (by decide) rfl (by rw [hml]; rfl) (lenOf pd_15 rfl) rfl (by show 2 * 0 + _ ≤ _; exact Nat.le_of_eq rfl) (hb hby at_308) (fun v341 T341 h341 L341 X341 e341 hQ341 => ?_)
    obtain ⟨rfl, Nq341, q341⟩ := hQ341
    have N341 := Fr.app N_340 Nq341
    rw [q341] at e341
    show OwnWk _ _ _ _ (T341.setTop (mkF m 311 #[vI z0, vI z1, vI z2, vJ z3, sX, vI (2 : Int32), vI (Int32.ofNat M0), vI (Int32.ofNat M1), vI (Int32.ofNat M2), vI (Int32.ofNat M3), vR y0, vR y1, vR y2, vR y3, vR b211, vR b283, vJ k0, sX, vJ k1, sX, vJ k2, sX, vJ k3, sX, vJ qq, sX, vI ix] [(.long (own_sumM M0 k0 k1 k2 k3)), (.long qq)]))
    refine own_go (fun tgt kst => XS.lcmp X341.here hx rfl (hb hby at_311) rfl kst) ?_
    show OwnWk _ _ _ _ (T341.setTop (mkF m 312 #[vI z0, vI z1, vI z2, vJ z3, sX, vI (2 : Int32), vI (Int32.ofNat M0), vI (Int32.ofNat M1), vI (Int32.ofNat M2), vI (Int32.ofNat M3), vR y0, vR y1, vR y2, vR y3, vR b211, vR b283, vJ k0, sX, vJ k1, sX, vJ k2, sX, vJ k3, sX, vJ qq, sX, vI ix] [(.int (lcmpW qq (own_sumM M0 k0 k1 k2 k3)))]))
    by_cases hc342 : qq = (own_sumM M0 k0 k1 k2 k3)
    ·
     refine own_go (fun tgt kst => XS.ifNo X341.here hx rfl (hb hby at_312) rfl ((if0 _ _).trans (teq (own_lc_eq.mpr hc342)).2) kst) ?_
     show OwnWk _ _ _ _ (T341.setTop (mkF m 315 #[vI z0, vI z1, vI z2, vJ z3, sX, vI (2 : Int32), vI (Int32.ofNat M0), vI (Int32.ofNat M1), vI (Int32.ofNat M2), vI (Int32.ofNat M3), vR y0, vR y1, vR y2, vR y3, vR b211, vR b283, vJ k0, sX, vJ k1, sX, vJ k2, sX, vJ k3, sX, vJ qq, sX, vI ix] []))
     refine own_go (fun tgt kst => XS.iconst X341.here hx rfl (hb hby at_315) kst) ?_
     refine own_go (fun tgt kst => XS.istore X341.here hx rfl (hb hby at_316) rfl (l' := #[vI z0, vI z1, vI z2, vJ z3, sX, vI (2 : Int32), vI (Int32.ofNat M0), vI (Int32.ofNat M1), vI (Int32.ofNat M2), vI (Int32.ofNat M3), vR y0, vR y1, vR y2, vR y3, vR b211, vR b283, vJ k0, sX, vJ k1, sX, vJ k2, sX, vJ k3, sX, vJ qq, sX, vI (0 : Int32)]) rfl kst) ?_
     show OwnWk _ _ _ _ (T341.setTop (mkF m 318 #[vI z0, vI z1, vI z2, vJ z3, sX, vI (2 : Int32), vI (Int32.ofNat M0), vI (Int32.ofNat M1), vI (Int32.ofNat M2), vI (Int32.ofNat M3), vR y0, vR y1, vR y2, vR y3, vR b211, vR b283, vJ k0, sX, vJ k1, sX, vJ k2, sX, vJ k3, sX, vJ qq, sX, vI (0 : Int32)] []))
     exact LS0 _ _ _ (by show _ = Int32.ofNat (if qq = (own_sumM M0 k0 k1 k2 k3) then 1 else own_Ez (own_f (own_p4 M0 M1 M2 M3) k0 k1 k2 k3) 1 1 qq) - (1 : Int32); rw [if_pos hc342]; rfl) X341 e341 N341
    ·
     refine own_go (fun tgt kst => XS.ifYes X341.here hx rfl (pc0 := 312) (pc' := 318) rfl (hb hby at_312) rfl ((if0 _ _).trans (feq (fun q => hc342 (own_lc_eq.mp q))).2) (by decide) (by decide) kst) ?_
     show OwnWk _ _ _ _ (T341.setTop (mkF m 318 #[vI z0, vI z1, vI z2, vJ z3, sX, vI (2 : Int32), vI (Int32.ofNat M0), vI (Int32.ofNat M1), vI (Int32.ofNat M2), vI (Int32.ofNat M3), vR y0, vR y1, vR y2, vR y3, vR b211, vR b283, vJ k0, sX, vJ k1, sX, vJ k2, sX, vJ k3, sX, vJ qq, sX, vI ix] []))
     exact LS0 _ _ _ (by show _ = Int32.ofNat (if qq = (own_sumM M0 k0 k1 k2 k3) then 1 else own_Ez (own_f (own_p4 M0 M1 M2 M3) k0 k1 k2 k3) 1 1 qq) - (1 : Int32); rw [if_neg hc342]; exact hix) X341 e341 N341
   have LS2 : ∀ (ix : Int32) (T_ : State) (L_ : List Loc), ix = Int32.ofNat (own_Ez (own_f (own_p4 M0 M1 M2 M3) k0 k1 k2 k3) 2 0 qq) - (1 : Int32) → Stand p l e room_1 s m #[(.int z0), (.int z1), (.int z2), (.long z3)] below meth c T_ L_ 18 71 → T_.heap = h315 → Fr n0 L_ →
       OwnWk p e below (OwnP s (Q_rm0 Z z0 z1 z2 z3 dce h0 n0) room_1.cells room_1.slots) (T_.setTop (mkF m 263 #[vI z0, vI z1, vI z2, vJ z3, sX, vI (2 : Int32), vI (Int32.ofNat M0), vI (Int32.ofNat M1), vI (Int32.ofNat M2), vI (Int32.ofNat M3), vR y0, vR y1, vR y2, vR y3, vR b211, vR b283, vJ k0, sX, vJ k1, sX, vJ k2, sX, vJ k3, sX, vJ qq, sX, vI ix] [])) := by
    intro ix T_343 L_343 hix X_343 e_343 N_343
    show OwnWk _ _ _ _ (T_343.setTop (mkF m 263 #[vI z0, vI z1, vI z2, vJ z3, sX, vI (2 : Int32), vI (Int32.ofNat M0), vI (Int32.ofNat M1), vI (Int32.ofNat M2), vI (Int32.ofNat M3), vR y0, vR y1, vR y2, vR y3, vR b211, vR b283, vJ k0, sX, vJ k1, sX, vJ k2, sX, vJ k3, sX, vJ qq, sX, vI ix] []))
    refine own_go (fun tgt kst => XS.iload X_343.here hx rfl (hb hby at_263) rfl  kst) ?_
    refine own_go (fun tgt kst => XS.iconst X_343.here hx rfl (hb hby at_265) kst) ?_
    refine own_go (fun tgt kst => XS.icmpNo X_343.here hx rfl (hb hby at_266) rfl (tlt (by decide : (1 : Int32) < (2 : Int32))).2.2.2 kst) ?_
    refine own_go (fun tgt kst => XS.lload X_343.here hx rfl (hb hby at_269) rfl  kst) ?_
    refine own_go (fun tgt kst => XS.iload X_343.here hx rfl (hb hby at_271) rfl  kst) ?_
    refine own_go (fun tgt kst => XS.lload X_343.here hx rfl (hb hby at_273) rfl  kst) ?_
    show OwnWk _ _ _ _ (T_343.setTop (mkF m 275 #[vI z0, vI z1, vI z2, vJ z3, sX, vI (2 : Int32), vI (Int32.ofNat M0), vI (Int32.ofNat M1), vI (Int32.ofNat M2), vI (Int32.ofNat M3), vR y0, vR y1, vR y2, vR y3, vR b211, vR b283, vJ k0, sX, vJ k1, sX, vJ k2, sX, vJ k3, sX, vJ qq, sX, vI ix] [(.long k0), (.int (Int32.ofNat M1)), (.long qq)]))
    refine own_go (fun tgt kst => XS.lload X_343.here hx rfl (hb hby at_275) rfl  kst) ?_
    refine own_go (fun tgt kst => XS.lload X_343.here hx rfl (hb hby at_277) rfl  kst) ?_
    refine own_go (fun tgt kst => XS.lload X_343.here hx rfl (hb hby at_279) rfl  kst) ?_
    show OwnWk _ _ _ _ (T_343.setTop (mkF m 281 #[vI z0, vI z1, vI z2, vJ z3, sX, vI (2 : Int32), vI (Int32.ofNat M0), vI (Int32.ofNat M1), vI (Int32.ofNat M2), vI (Int32.ofNat M3), vR y0, vR y1, vR y2, vR y3, vR b211, vR b283, vJ k0, sX, vJ k1, sX, vJ k2, sX, vJ k3, sX, vJ qq, sX, vI ix] [(.long k3), (.long k2), (.long k1), (.long k0), (.int (Int32.ofNat M1)), (.long qq)]))
    refine own_callS X_343 hx hZ (y := yN28) hown (wq hw 179 rfl) (wq hw 180 rfl) (wq hw 3 rfl) (wq hw 181 rfl) (by decide) (argsL := [(.int (Int32.ofNat M1)), (.long k0), (.long k1), (.long k2), (.long k3)]) (rest := [(.long qq)])  (h := h315) (smo l Z a0 hw M1 k0 k1 k2 k3 h315 n0 Z332) e_343 (W := 2) (by decide) (by decide) (by decide) (by decide) rfl (by rw [hml]; rfl) (lenOf pd_15 rfl) rfl (by show 2 * 0 + _ ≤ _; exact Nat.le_of_eq rfl) (hb hby at_281) (fun v344 T344 h344 L344 X344 e344 hQ344 => ?_)
    obtain ⟨rfl, Nq344, q344⟩ := hQ344
    have N344 := Fr.app N_343 Nq344
    rw [q344] at e344
    show OwnWk _ _ _ _ (T344.setTop (mkF m 284 #[vI z0, vI z1, vI z2, vJ z3, sX, vI (2 : Int32), vI (Int32.ofNat M0), vI (Int32.ofNat M1), vI (Int32.ofNat M2), vI (Int32.ofNat M3), vR y0, vR y1, vR y2, vR y3, vR b211, vR b283, vJ k0, sX, vJ k1, sX, vJ k2, sX, vJ k3, sX, vJ qq, sX, vI ix] [(.long (own_sumM M1 k0 k1 k2 k3)), (.long qq)]))
    refine own_go (fun tgt kst => XS.lcmp X344.here hx rfl (hb hby at_284) rfl kst) ?_
    show OwnWk _ _ _ _ (T344.setTop (mkF m 285 #[vI z0, vI z1, vI z2, vJ z3, sX, vI (2 : Int32), vI (Int32.ofNat M0), vI (Int32.ofNat M1), vI (Int32.ofNat M2), vI (Int32.ofNat M3), vR y0, vR y1, vR y2, vR y3, vR b211, vR b283, vJ k0, sX, vJ k1, sX, vJ k2, sX, vJ k3, sX, vJ qq, sX, vI ix] [(.int (lcmpW qq (own_sumM M1 k0 k1 k2 k3)))]))
    by_cases hc345 : qq = (own_sumM M1 k0 k1 k2 k3)
    ·
     refine own_go (fun tgt kst => XS.ifNo X344.here hx rfl (hb hby at_285) rfl ((if0 _ _).trans (teq (own_lc_eq.mpr hc345)).2) kst) ?_
     show OwnWk _ _ _ _ (T344.setTop (mkF m 288 #[vI z0, vI z1, vI z2, vJ z3, sX, vI (2 : Int32), vI (Int32.ofNat M0), vI (Int32.ofNat M1), vI (Int32.ofNat M2), vI (Int32.ofNat M3), vR y0, vR y1, vR y2, vR y3, vR b211, vR b283, vJ k0, sX, vJ k1, sX, vJ k2, sX, vJ k3, sX, vJ qq, sX, vI ix] []))
     refine own_go (fun tgt kst => XS.iconst X344.here hx rfl (hb hby at_288) kst) ?_
     refine own_go (fun tgt kst => XS.istore X344.here hx rfl (hb hby at_289) rfl (l' := #[vI z0, vI z1, vI z2, vJ z3, sX, vI (2 : Int32), vI (Int32.ofNat M0), vI (Int32.ofNat M1), vI (Int32.ofNat M2), vI (Int32.ofNat M3), vR y0, vR y1, vR y2, vR y3, vR b211, vR b283, vJ k0, sX, vJ k1, sX, vJ k2, sX, vJ k3, sX, vJ qq, sX, vI (1 : Int32)]) rfl kst) ?_
     show OwnWk _ _ _ _ (T344.setTop (mkF m 291 #[vI z0, vI z1, vI z2, vJ z3, sX, vI (2 : Int32), vI (Int32.ofNat M0), vI (Int32.ofNat M1), vI (Int32.ofNat M2), vI (Int32.ofNat M3), vR y0, vR y1, vR y2, vR y3, vR b211, vR b283, vJ k0, sX, vJ k1, sX, vJ k2, sX, vJ k3, sX, vJ qq, sX, vI (1 : Int32)] []))
     exact LS1 _ _ _ (by show _ = Int32.ofNat (if qq = (own_sumM M1 k0 k1 k2 k3) then 2 else own_Ez (own_f (own_p4 M0 M1 M2 M3) k0 k1 k2 k3) 2 0 qq) - (1 : Int32); rw [if_pos hc345]; rfl) X344 e344 N344
    ·
     refine own_go (fun tgt kst => XS.ifYes X344.here hx rfl (pc0 := 285) (pc' := 291) rfl (hb hby at_285) rfl ((if0 _ _).trans (feq (fun q => hc345 (own_lc_eq.mp q))).2) (by decide) (by decide) kst) ?_
     show OwnWk _ _ _ _ (T344.setTop (mkF m 291 #[vI z0, vI z1, vI z2, vJ z3, sX, vI (2 : Int32), vI (Int32.ofNat M0), vI (Int32.ofNat M1), vI (Int32.ofNat M2), vI (Int32.ofNat M3), vR y0, vR y1, vR y2, vR y3, vR b211, vR b283, vJ k0, sX, vJ k1, sX, vJ k2, sX, vJ k3, sX, vJ qq, sX, vI ix] []))
     exact LS1 _ _ _ (by show _ = Int32.ofNat (if qq = (own_sumM M1 k0 k1 k2 k3) then 2 else own_Ez (own_f (own_p4 M0 M1 M2 M3) k0 k1 k2 k3) 2 0 qq) - (1 : Int32); rw [if_neg hc345]; exact hix) X344 e344 N344
   show OwnWk _ _ _ _ (T_337.setTop (mkF m 202 #[vI z0, vI z1, vI z2, vJ z3, sX, vI (2 : Int32), vI (Int32.ofNat M0), vI (Int32.ofNat M1), vI (Int32.ofNat M2), vI (Int32.ofNat M3), vR y0, vR y1, vR y2, vR y3, vR b211, vR b283, vJ k0, sX, vJ k1, sX, vJ k2, sX, vJ k3, sX, uX, uX, uX] [(.long qq)]))
   refine own_go (fun tgt kst => XS.lstore X_337.here hx rfl (hb hby at_202) rfl (l' := #[vI z0, vI z1, vI z2, vJ z3, sX, vI (2 : Int32), vI (Int32.ofNat M0), vI (Int32.ofNat M1), vI (Int32.ofNat M2), vI (Int32.ofNat M3), vR y0, vR y1, vR y2, vR y3, vR b211, vR b283, vJ k0, sX, vJ k1, sX, vJ k2, sX, vJ k3, sX, vJ qq, sX, uX]) rfl kst) ?_
   refine own_go (fun tgt kst => XS.iconst X_337.here hx rfl (hb hby at_204) kst) ?_
   refine own_go (fun tgt kst => XS.istore X_337.here hx rfl (hb hby at_205) rfl (l' := #[vI z0, vI z1, vI z2, vJ z3, sX, vI (2 : Int32), vI (Int32.ofNat M0), vI (Int32.ofNat M1), vI (Int32.ofNat M2), vI (Int32.ofNat M3), vR y0, vR y1, vR y2, vR y3, vR b211, vR b283, vJ k0, sX, vJ k1, sX, vJ k2, sX, vJ k3, sX, vJ qq, sX, vI (-1 : Int32)]) rfl kst) ?_
   show OwnWk _ _ _ _ (T_337.setTop (mkF m 207 #[vI z0, vI z1, vI z2, vJ z3, sX, vI (2 : Int32), vI (Int32.ofNat M0), vI (Int32.ofNat M1), vI (Int32.ofNat M2), vI (Int32.ofNat M3), vR y0, vR y1, vR y2, vR y3, vR b211, vR b283, vJ k0, sX, vJ k1, sX, vJ k2, sX, vJ k3, sX, vJ qq, sX, vI (-1 : Int32)] []))
   refine own_go (fun tgt kst => XS.iload X_337.here hx rfl (hb hby at_207) rfl  kst) ?_
   refine own_go (fun tgt kst => XS.iconst X_337.here hx rfl (hb hby at_209) kst) ?_
   refine own_go (fun tgt kst => XS.icmpYes X_337.here hx rfl (pc0 := 210) (pc' := 235) rfl (hb hby at_210) rfl (flt (by decide : ¬ ((3 : Int32) < (2 : Int32)))).2.2.2 (by decide) (by decide) kst) ?_
   refine own_go (fun tgt kst => XS.iload X_337.here hx rfl (hb hby at_235) rfl  kst) ?_
   refine own_go (fun tgt kst => XS.iconst X_337.here hx rfl (hb hby at_237) kst) ?_
   refine own_go (fun tgt kst => XS.icmpYes X_337.here hx rfl (pc0 := 238) (pc' := 263) rfl (hb hby at_238) rfl (flt (by decide : ¬ ((2 : Int32) < (2 : Int32)))).2.2.2 (by decide) (by decide) kst) ?_
   show OwnWk _ _ _ _ (T_337.setTop (mkF m 263 #[vI z0, vI z1, vI z2, vJ z3, sX, vI (2 : Int32), vI (Int32.ofNat M0), vI (Int32.ofNat M1), vI (Int32.ofNat M2), vI (Int32.ofNat M3), vR y0, vR y1, vR y2, vR y3, vR b211, vR b283, vJ k0, sX, vJ k1, sX, vJ k2, sX, vJ k3, sX, vJ qq, sX, vI (-1 : Int32)] []))
   exact LS2 _ _ _ rfl X_337 e_337 N_337
  show OwnWk _ _ _ _ (T336.setTop (mkF m 176 #[vI z0, vI z1, vI z2, vJ z3, sX, vI (2 : Int32), vI (Int32.ofNat M0), vI (Int32.ofNat M1), vI (Int32.ofNat M2), vI (Int32.ofNat M3), vR y0, vR y1, vR y2, vR y3, vR b211, vR b283, vJ k0, sX, vJ k1, sX, vJ k2, sX, vJ k3, sX, uX, uX, uX] []))
  refine own_go (fun tgt kst => XS.iloadN X336.here hx rfl (hb hby at_176) rfl  kst) ?_
  refine own_go (fun tgt kst => XS.bipush X336.here hx rfl (hb hby at_177) kst) ?_
  refine own_go (fun tgt kst => XS.iand X336.here hx rfl (hb hby at_179) rfl kst) ?_
  show OwnWk _ _ _ _ (T336.setTop (mkF m 180 #[vI z0, vI z1, vI z2, vJ z3, sX, vI (2 : Int32), vI (Int32.ofNat M0), vI (Int32.ofNat M1), vI (Int32.ofNat M2), vI (Int32.ofNat M3), vR y0, vR y1, vR y2, vR y3, vR b211, vR b283, vJ k0, sX, vJ k1, sX, vJ k2, sX, vJ k3, sX, uX, uX, uX] [(.int (z2 &&& (16 : Int32)))]))
  by_cases hc346 : (z2 &&& (16 : Int32)) = (0 : Int32)
  ·
   refine own_go (fun tgt kst => XS.ifYes X336.here hx rfl (pc0 := 180) (pc' := 187) rfl (hb hby at_180) rfl ((if0 _ _).trans (teq hc346).1) (by decide) (by decide) kst) ?_
   show OwnWk _ _ _ _ (T336.setTop (mkF m 187 #[vI z0, vI z1, vI z2, vJ z3, sX, vI (2 : Int32), vI (Int32.ofNat M0), vI (Int32.ofNat M1), vI (Int32.ofNat M2), vI (Int32.ofNat M3), vR y0, vR y1, vR y2, vR y3, vR b211, vR b283, vJ k0, sX, vJ k1, sX, vJ k2, sX, vJ k3, sX, uX, uX, uX] []))
   refine own_go (fun tgt kst => XS.iloadN X336.here hx rfl (hb hby at_187) rfl  kst) ?_
   refine own_go (fun tgt kst => XS.bipush X336.here hx rfl (hb hby at_188) kst) ?_
   refine own_go (fun tgt kst => XS.iand X336.here hx rfl (hb hby at_190) rfl kst) ?_
   show OwnWk _ _ _ _ (T336.setTop (mkF m 191 #[vI z0, vI z1, vI z2, vJ z3, sX, vI (2 : Int32), vI (Int32.ofNat M0), vI (Int32.ofNat M1), vI (Int32.ofNat M2), vI (Int32.ofNat M3), vR y0, vR y1, vR y2, vR y3, vR b211, vR b283, vJ k0, sX, vJ k1, sX, vJ k2, sX, vJ k3, sX, uX, uX, uX] [(.int (z2 &&& (15 : Int32)))]))
   obtain ⟨MQ, hMQ, eMQ⟩ := own_and_nat z2 15 (by decide)
   rw [show (z2 &&& (15 : Int32)) = Int32.ofNat MQ from eMQ]
   show OwnWk _ _ _ _ (T336.setTop (mkF m 191 #[vI z0, vI z1, vI z2, vJ z3, sX, vI (2 : Int32), vI (Int32.ofNat M0), vI (Int32.ofNat M1), vI (Int32.ofNat M2), vI (Int32.ofNat M3), vR y0, vR y1, vR y2, vR y3, vR b211, vR b283, vJ k0, sX, vJ k1, sX, vJ k2, sX, vJ k3, sX, uX, uX, uX] [(.int (Int32.ofNat MQ))]))
   refine own_go (fun tgt kst => XS.lload X336.here hx rfl (hb hby at_191) rfl  kst) ?_
   refine own_go (fun tgt kst => XS.lload X336.here hx rfl (hb hby at_193) rfl  kst) ?_
   refine own_go (fun tgt kst => XS.lload X336.here hx rfl (hb hby at_195) rfl  kst) ?_
   refine own_go (fun tgt kst => XS.lload X336.here hx rfl (hb hby at_197) rfl  kst) ?_
   show OwnWk _ _ _ _ (T336.setTop (mkF m 199 #[vI z0, vI z1, vI z2, vJ z3, sX, vI (2 : Int32), vI (Int32.ofNat M0), vI (Int32.ofNat M1), vI (Int32.ofNat M2), vI (Int32.ofNat M3), vR y0, vR y1, vR y2, vR y3, vR b211, vR b283, vJ k0, sX, vJ k1, sX, vJ k2, sX, vJ k3, sX, uX, uX, uX] [(.long k3), (.long k2), (.long k1), (.long k0), (.int (Int32.ofNat MQ))]))
   refine own_callS X336 hx hZ (y := yN28) hown (wq hw 179 rfl) (wq hw 180 rfl) (wq hw 3 rfl) (wq hw 181 rfl) (by decide) (argsL := [(.int (Int32.ofNat MQ)), (.long k0), (.long k1), (.long k2), (.long k3)]) (rest := [])  (h := h315) (smo l Z a0 hw MQ k0 k1 k2 k3 h315 n0 Z332) e336 (W := 0) (by decide) (by decide) (by decide) (by decide) rfl (by rw [hml]; rfl) (lenOf pd_15 rfl) rfl (by show 2 * 0 + _ ≤ _; exact Nat.le_of_eq rfl) (hb hby at_199) (fun v347 T347 h347 L347 X347 e347 hQ347 => ?_)
   obtain ⟨rfl, Nq347, q347⟩ := hQ347
   have N347 := Fr.app N336 Nq347
   rw [q347] at e347
   show OwnWk _ _ _ _ (T347.setTop (mkF m 202 #[vI z0, vI z1, vI z2, vJ z3, sX, vI (2 : Int32), vI (Int32.ofNat M0), vI (Int32.ofNat M1), vI (Int32.ofNat M2), vI (Int32.ofNat M3), vR y0, vR y1, vR y2, vR y3, vR b211, vR b283, vJ k0, sX, vJ k1, sX, vJ k2, sX, vJ k3, sX, uX, uX, uX] [(.long (own_sumM MQ k0 k1 k2 k3))]))
   exact LQ _ _ _  X347 e347 N347
  ·
   refine own_go (fun tgt kst => XS.ifNo X336.here hx rfl (hb hby at_180) rfl ((if0 _ _).trans (feq hc346).1) kst) ?_
   show OwnWk _ _ _ _ (T336.setTop (mkF m 183 #[vI z0, vI z1, vI z2, vJ z3, sX, vI (2 : Int32), vI (Int32.ofNat M0), vI (Int32.ofNat M1), vI (Int32.ofNat M2), vI (Int32.ofNat M3), vR y0, vR y1, vR y2, vR y3, vR b211, vR b283, vJ k0, sX, vJ k1, sX, vJ k2, sX, vJ k3, sX, uX, uX, uX] []))
   refine own_go (fun tgt kst => XS.lloadN X336.here hx rfl (hb hby at_183) rfl  kst) ?_
   refine own_go (fun tgt kst => XS.goto X336.here hx rfl (pc0 := 184) (pc' := 202) rfl (hb hby at_184) (by decide) (by decide) kst) ?_
   show OwnWk _ _ _ _ (T336.setTop (mkF m 202 #[vI z0, vI z1, vI z2, vJ z3, sX, vI (2 : Int32), vI (Int32.ofNat M0), vI (Int32.ofNat M1), vI (Int32.ofNat M2), vI (Int32.ofNat M3), vR y0, vR y1, vR y2, vR y3, vR b211, vR b283, vJ k0, sX, vJ k1, sX, vJ k2, sX, vJ k3, sX, uX, uX, uX] [(.long z3)]))
   exact LQ _ _ _  X336 e336 N336
 ·
  show OwnWk _ _ _ _ (T52.setTop (mkF m 68 #[vI z0, vI z1, vI z2, vJ z3, sX, vI (3 : Int32), vI (Int32.ofNat M0), vI (Int32.ofNat M1), vI (Int32.ofNat M2), vI (Int32.ofNat M3), vR y0, vR y1, vR y2, vR y3, uX, uX, uX, uX, uX, uX, uX, uX, uX, uX, uX, uX, uX] []))
  obtain ⟨T348, h348, X348, e348, E348, A348, D348, -, st348⟩ := newO X52 hx hZ hown (wq hw 29 rfl) (wq hw 30 rfl) (wq hw 31 rfl) e52 (g := (mkF m 68 #[vI z0, vI z1, vI z2, vJ z3, sX, vI (3 : Int32), vI (Int32.ofNat M0), vI (Int32.ofNat M1), vI (Int32.ofNat M2), vI (Int32.ofNat M3), vR y0, vR y1, vR y2, vR y3, uX, uX, uX, uX, uX, uX, uX, uX, uX, uX, uX, uX, uX] [])) rfl (hb hby at_68) (by decide) (by decide)
  obtain ⟨b348, g348⟩ : ∃ z, z = h52.size := ⟨_, rfl⟩
  rw [← g348] at A348 D348 st348
  refine own_go st348 ?_
  have ne349 := own_nl F54.lt (Nat.le_of_eq g348.symm)
  have ne350 := own_nl F57.lt (Nat.le_of_eq g348.symm)
  have ne351 := own_nl F58.lt (Nat.le_of_eq g348.symm)
  have ne352 := own_nl F61.lt (Nat.le_of_eq g348.symm)
  have ne353 := own_nl F62.lt (Nat.le_of_eq g348.symm)
  have ne354 := own_nl F65.lt (Nat.le_of_eq g348.symm)
  have ge355 : n0 ≤ b348 := Nat.le_trans Z66 (Nat.le_of_eq g348.symm)
  have F356 := Old.ext F53 E348
  have F357 := Exa.ext E348 F54
  have F358 := Fld.ext E348 F55
  have F359 := Fld.ext E348 F56
  have F360 := OAr.ext F57 E348
  have F361 := Exa.ext E348 F58
  have F362 := Fld.ext E348 F59
  have F363 := Fld.ext E348 F60
  have F364 := OAr.ext F61 E348
  have F365 := Exa.ext E348 F62
  have F366 := Fld.ext E348 F63
  have F367 := Fld.ext E348 F64
  have F368 := OAr.ext F65 E348
  have Z369 := Nat.le_trans Z66 E348.1
  have F370 : Fld Z h348 b348 "java/util/AbstractList" "modCount" "I" (.int (0 : Int32)) := D348 (Or.inl (wq hw 49 rfl)) (ty := .int) (by decide)
  have F371 : Fld Z h348 b348 "java/util/ArrayList" "elementData" "[Ljava/lang/Object;" .null := D348 (Or.inl (wq hw 52 rfl)) (ty := (.array (.object "java/lang/Object"))) (by decide)
  have F372 : Fld Z h348 b348 "java/util/ArrayList" "size" "I" (.int (0 : Int32)) := D348 (Or.inl (wq hw 61 rfl)) (ty := .int) (by decide)
  show OwnWk _ _ _ _ (T348.setTop (mkF m 71 #[vI z0, vI z1, vI z2, vJ z3, sX, vI (3 : Int32), vI (Int32.ofNat M0), vI (Int32.ofNat M1), vI (Int32.ofNat M2), vI (Int32.ofNat M3), vR y0, vR y1, vR y2, vR y3, uX, uX, uX, uX, uX, uX, uX, uX, uX, uX, uX, uX, uX] [(.ref b348)]))
  refine own_go (fun tgt kst => XS.dup X348.here hx rfl (hb hby at_71) rfl rfl kst) ?_
  show OwnWk _ _ _ _ (T348.setTop (mkF m 72 #[vI z0, vI z1, vI z2, vJ z3, sX, vI (3 : Int32), vI (Int32.ofNat M0), vI (Int32.ofNat M1), vI (Int32.ofNat M2), vI (Int32.ofNat M3), vR y0, vR y1, vR y2, vR y3, uX, uX, uX, uX, uX, uX, uX, uX, uX, uX, uX, uX, uX] [(.ref b348), (.ref b348)]))
  refine own_callC X348 hx hZ (y := yN6) hown rfl (wq hw 32 rfl) (wq hw 33 rfl) (wq hw 31 rfl) (wq hw 34 rfl) (by decide) (a := b348) (argsL := []) (rest := [(.ref b348)])  (h := h348) (rm6 l Z a0 hw dce b348 h348 n0 Z369 F356 S_d V_d S_a A348 ge355 F370 F371 F372) e348 (W := 1) (by decide) (by decide) (by decide) (by decide) rfl (by rw [hml]; rfl) (lenOf pd_2 rfl) rfl (by show 2 * 0 + _ ≤ _; exact Nat.le_of_eq rfl) (hb hby at_72) (fun v373 T373 h373 L373 X373 e373 hQ373 => ?_)
  obtain ⟨rfl, Nq373, Kq373, Fm373, Fe373, Fs373⟩ := hQ373
  have N373 := Fr.app N52 Nq373
  have F374 := Old.keep F356 Kq373 (allS ge355 all0)
  have F375 := Exa.keep F357 Kq373
  have F376 := Fld.keep F358 Kq373 (ninS ne349 nin0)
  have F377 := Fld.keep F359 Kq373 (ninS ne349 nin0)
  have F378 := OAr.keep F360 Kq373 (ninS ne350 nin0)
  have F379 := Exa.keep F361 Kq373
  have F380 := Fld.keep F362 Kq373 (ninS ne351 nin0)
  have F381 := Fld.keep F363 Kq373 (ninS ne351 nin0)
  have F382 := OAr.keep F364 Kq373 (ninS ne352 nin0)
  have F383 := Exa.keep F365 Kq373
  have F384 := Fld.keep F366 Kq373 (ninS ne353 nin0)
  have F385 := Fld.keep F367 Kq373 (ninS ne353 nin0)
  have F386 := OAr.keep F368 Kq373 (ninS ne354 nin0)
  have F387 := Exa.keep A348 Kq373
  have Z388 := Nat.le_trans Z369 Kq373.1
  show OwnWk _ _ _ _ (T373.setTop (mkF m 75 #[vI z0, vI z1, vI z2, vJ z3, sX, vI (3 : Int32), vI (Int32.ofNat M0), vI (Int32.ofNat M1), vI (Int32.ofNat M2), vI (Int32.ofNat M3), vR y0, vR y1, vR y2, vR y3, uX, uX, uX, uX, uX, uX, uX, uX, uX, uX, uX, uX, uX] [(.ref b348)]))
  refine own_go (fun tgt kst => XS.astore X373.here hx rfl (hb hby at_75) rfl rfl (l' := #[vI z0, vI z1, vI z2, vJ z3, sX, vI (3 : Int32), vI (Int32.ofNat M0), vI (Int32.ofNat M1), vI (Int32.ofNat M2), vI (Int32.ofNat M3), vR y0, vR y1, vR y2, vR y3, vR b348, uX, uX, uX, uX, uX, uX, uX, uX, uX, uX, uX, uX]) rfl kst) ?_
  refine own_go (fun tgt kst => XS.iload X373.here hx rfl (hb hby at_77) rfl  kst) ?_
  refine own_go (fun tgt kst => XS.ifNo X373.here hx rfl (hb hby at_79) rfl ((if0 _ _).trans (tlt (by decide : (0 : Int32) < (3 : Int32))).2.2.2) kst) ?_
  refine own_go (fun tgt kst => XS.aload X373.here hx rfl (hb hby at_82) rfl rfl  kst) ?_
  refine own_go (fun tgt kst => XS.aload X373.here hx rfl (hb hby at_84) rfl rfl  kst) ?_
  show OwnWk _ _ _ _ (T373.setTop (mkF m 86 #[vI z0, vI z1, vI z2, vJ z3, sX, vI (3 : Int32), vI (Int32.ofNat M0), vI (Int32.ofNat M1), vI (Int32.ofNat M2), vI (Int32.ofNat M3), vR y0, vR y1, vR y2, vR y3, vR b348, uX, uX, uX, uX, uX, uX, uX, uX, uX, uX, uX, uX] [(.ref y0), (.ref b348)]))
  have lt389 : y0 < h373.size := F375.lt
  have lt390 : w0_ < h373.size := F378.lt
  have lt391 : y1 < h373.size := F379.lt
  have lt392 : w1_ < h373.size := F382.lt
  have lt393 : y2 < h373.size := F383.lt
  have lt394 : w2_ < h373.size := F386.lt
  have lt395 : b348 < h373.size := F387.lt
  refine own_callV X373 hx hZ (y := yN9) (z := yN9) hown (wq hw 53 rfl) (wq hw 54 rfl) (notFace_of_selects (args := #[]) (mvT hZ (wq hw 56 rfl))) (wq hw 56 rfl) (wq hw 55 rfl) (wq hw 31 rfl) (wq hw 57 rfl) (by decide) (a := b348) F387 (argsL := [(.ref y0)]) (rest := [])  (h := h373) (adB0 l Z a0 hw dce b348 y0 h373 n0 Z388 F374 S_d V_d S_a (Ins.of_exa F375 (wq hw 83 rfl)) F387 ge355 Fm373 Fe373 Fs373) e373 (W := 0) (by decide) (by decide) (by decide) (by decide) rfl (by rw [hml]; rfl) (lenOf pd_16 rfl) rfl (by show 2 * 0 + _ ≤ _; exact Nat.le_of_eq rfl) (hb hby at_86) (fun v396 T396 h396 L396 X396 e396 hQ396 => ?_)
  obtain ⟨ed, rfl, Nq396, Kq396, szed, ged, Fm396, Fe396, Fs396, Vq396, Oq396⟩ := hQ396
  have N396 := Fr.app N373 Nq396
  have F397 := Old.keep F374 Kq396 (allS ge355 all0)
  have F398 := Exa.keep F375 Kq396
  have F399 := Fld.keep F376 Kq396 (ninS ne349 nin0)
  have F400 := Fld.keep F377 Kq396 (ninS ne349 nin0)
  have F401 := OAr.keep F378 Kq396 (ninS ne350 nin0)
  have F402 := Exa.keep F379 Kq396
  have F403 := Fld.keep F380 Kq396 (ninS ne351 nin0)
  have F404 := Fld.keep F381 Kq396 (ninS ne351 nin0)
  have F405 := OAr.keep F382 Kq396 (ninS ne352 nin0)
  have F406 := Exa.keep F383 Kq396
  have F407 := Fld.keep F384 Kq396 (ninS ne353 nin0)
  have F408 := Fld.keep F385 Kq396 (ninS ne353 nin0)
  have F409 := OAr.keep F386 Kq396 (ninS ne354 nin0)
  have F410 := Exa.keep F387 Kq396
  have Z411 := Nat.le_trans Z388 Kq396.1
  have ne412 := own_nl lt389 szed
  have ne413 := own_nl lt390 szed
  have ne414 := own_nl lt391 szed
  have ne415 := own_nl lt392 szed
  have ne416 := own_nl lt393 szed
  have ne417 := own_nl lt394 szed
  have ne418 := own_nl lt395 szed
  show OwnWk _ _ _ _ (T396.setTop (mkF m 89 #[vI z0, vI z1, vI z2, vJ z3, sX, vI (3 : Int32), vI (Int32.ofNat M0), vI (Int32.ofNat M1), vI (Int32.ofNat M2), vI (Int32.ofNat M3), vR y0, vR y1, vR y2, vR y3, vR b348, uX, uX, uX, uX, uX, uX, uX, uX, uX, uX, uX, uX] [(.int (1 : Int32))]))
  refine own_go (fun tgt kst => XS.pop X396.here hx rfl (hb hby at_89) rfl rfl kst) ?_
  refine own_go (fun tgt kst => XS.iload X396.here hx rfl (hb hby at_90) rfl  kst) ?_
  refine own_go (fun tgt kst => XS.iconst X396.here hx rfl (hb hby at_92) kst) ?_
  refine own_go (fun tgt kst => XS.icmpNo X396.here hx rfl (hb hby at_93) rfl (tlt (by decide : (1 : Int32) < (3 : Int32))).2.2.2 kst) ?_
  refine own_go (fun tgt kst => XS.aload X396.here hx rfl (hb hby at_96) rfl rfl  kst) ?_
  refine own_go (fun tgt kst => XS.aload X396.here hx rfl (hb hby at_98) rfl rfl  kst) ?_
  show OwnWk _ _ _ _ (T396.setTop (mkF m 100 #[vI z0, vI z1, vI z2, vJ z3, sX, vI (3 : Int32), vI (Int32.ofNat M0), vI (Int32.ofNat M1), vI (Int32.ofNat M2), vI (Int32.ofNat M3), vR y0, vR y1, vR y2, vR y3, vR b348, uX, uX, uX, uX, uX, uX, uX, uX, uX, uX, uX, uX] [(.ref y1), (.ref b348)]))
  have lt419 : y0 < h396.size := F398.lt
  have lt420 : w0_ < h396.size := F401.lt
  have lt421 : y1 < h396.size := F402.lt
  have lt422 : w1_ < h396.size := F405.lt
  have lt423 : y2 < h396.size := F406.lt
  have lt424 : w2_ < h396.size := F409.lt
  have lt425 : b348 < h396.size := F410.lt
  have lt426 : ed < h396.size := Vq396.lt
  refine own_callV X396 hx hZ (y := yN9) (z := yN9) hown (wq hw 53 rfl) (wq hw 54 rfl) (notFace_of_selects (args := #[]) (mvT hZ (wq hw 56 rfl))) (wq hw 56 rfl) (wq hw 55 rfl) (wq hw 31 rfl) (wq hw 57 rfl) (by decide) (a := b348) F410 (argsL := [(.ref y1)]) (rest := [])  (h := h396) (adB1 l Z a0 hw dce b348 y1 ed y0 h396 n0 Z411 F397 S_d V_d S_a (Ins.of_exa F402 (wq hw 83 rfl)) F410 ge355 Fm396 Fe396 Fs396 ged ne418 Vq396 Oq396) e396 (W := 0) (by decide) (by decide) (by decide) (by decide) rfl (by rw [hml]; rfl) (lenOf pd_16 rfl) rfl (by show 2 * 0 + _ ≤ _; exact Nat.le_of_eq rfl) (hb hby at_100) (fun v427 T427 h427 L427 X427 e427 hQ427 => ?_)
  obtain ⟨rfl, Nq427, Kq427, Fm427, Fe427, Fs427, Vq427, Oq427⟩ := hQ427
  have N427 := Fr.app N396 Nq427
  have F428 := Old.keep F397 Kq427 (allS ge355 (allS ged all0))
  have F429 := Exa.keep F398 Kq427
  have F430 := Fld.keep F399 Kq427 (ninS ne349 (ninS ne412 nin0))
  have F431 := Fld.keep F400 Kq427 (ninS ne349 (ninS ne412 nin0))
  have F432 := OAr.keep F401 Kq427 (ninS ne350 (ninS ne413 nin0))
  have F433 := Exa.keep F402 Kq427
  have F434 := Fld.keep F403 Kq427 (ninS ne351 (ninS ne414 nin0))
  have F435 := Fld.keep F404 Kq427 (ninS ne351 (ninS ne414 nin0))
  have F436 := OAr.keep F405 Kq427 (ninS ne352 (ninS ne415 nin0))
  have F437 := Exa.keep F406 Kq427
  have F438 := Fld.keep F407 Kq427 (ninS ne353 (ninS ne416 nin0))
  have F439 := Fld.keep F408 Kq427 (ninS ne353 (ninS ne416 nin0))
  have F440 := OAr.keep F409 Kq427 (ninS ne354 (ninS ne417 nin0))
  have F441 := Exa.keep F410 Kq427
  have F442 := OOv.keep Oq396 Kq427
  have Z443 := Nat.le_trans Z411 Kq427.1
  show OwnWk _ _ _ _ (T427.setTop (mkF m 103 #[vI z0, vI z1, vI z2, vJ z3, sX, vI (3 : Int32), vI (Int32.ofNat M0), vI (Int32.ofNat M1), vI (Int32.ofNat M2), vI (Int32.ofNat M3), vR y0, vR y1, vR y2, vR y3, vR b348, uX, uX, uX, uX, uX, uX, uX, uX, uX, uX, uX, uX] [(.int (1 : Int32))]))
  refine own_go (fun tgt kst => XS.pop X427.here hx rfl (hb hby at_103) rfl rfl kst) ?_
  refine own_go (fun tgt kst => XS.iload X427.here hx rfl (hb hby at_104) rfl  kst) ?_
  refine own_go (fun tgt kst => XS.iconst X427.here hx rfl (hb hby at_106) kst) ?_
  refine own_go (fun tgt kst => XS.icmpNo X427.here hx rfl (hb hby at_107) rfl (tlt (by decide : (2 : Int32) < (3 : Int32))).2.2.2 kst) ?_
  refine own_go (fun tgt kst => XS.aload X427.here hx rfl (hb hby at_110) rfl rfl  kst) ?_
  refine own_go (fun tgt kst => XS.aload X427.here hx rfl (hb hby at_112) rfl rfl  kst) ?_
  show OwnWk _ _ _ _ (T427.setTop (mkF m 114 #[vI z0, vI z1, vI z2, vJ z3, sX, vI (3 : Int32), vI (Int32.ofNat M0), vI (Int32.ofNat M1), vI (Int32.ofNat M2), vI (Int32.ofNat M3), vR y0, vR y1, vR y2, vR y3, vR b348, uX, uX, uX, uX, uX, uX, uX, uX, uX, uX, uX, uX] [(.ref y2), (.ref b348)]))
  have lt444 : y0 < h427.size := F429.lt
  have lt445 : w0_ < h427.size := F432.lt
  have lt446 : y1 < h427.size := F433.lt
  have lt447 : w1_ < h427.size := F436.lt
  have lt448 : y2 < h427.size := F437.lt
  have lt449 : w2_ < h427.size := F440.lt
  have lt450 : b348 < h427.size := F441.lt
  have lt451 : ed < h427.size := Vq427.lt
  refine own_callV X427 hx hZ (y := yN9) (z := yN9) hown (wq hw 53 rfl) (wq hw 54 rfl) (notFace_of_selects (args := #[]) (mvT hZ (wq hw 56 rfl))) (wq hw 56 rfl) (wq hw 55 rfl) (wq hw 31 rfl) (wq hw 57 rfl) (by decide) (a := b348) F441 (argsL := [(.ref y2)]) (rest := [])  (h := h427) (adB2 l Z a0 hw dce b348 y2 ed y0 y1 h427 n0 Z443 F428 S_d V_d S_a (Ins.of_exa F437 (wq hw 83 rfl)) F441 ge355 Fm427 Fe427 Fs427 ged ne418 Vq427 Oq427) e427 (W := 0) (by decide) (by decide) (by decide) (by decide) rfl (by rw [hml]; rfl) (lenOf pd_16 rfl) rfl (by show 2 * 0 + _ ≤ _; exact Nat.le_of_eq rfl) (hb hby at_114) (fun v452 T452 h452 L452 X452 e452 hQ452 => ?_)
  obtain ⟨rfl, Nq452, Kq452, Fm452, Fe452, Fs452, Vq452, Oq452⟩ := hQ452
  have N452 := Fr.app N427 Nq452
  have F453 := Old.keep F428 Kq452 (allS ge355 (allS ged all0))
  have F454 := Exa.keep F429 Kq452
  have F455 := Fld.keep F430 Kq452 (ninS ne349 (ninS ne412 nin0))
  have F456 := Fld.keep F431 Kq452 (ninS ne349 (ninS ne412 nin0))
  have F457 := OAr.keep F432 Kq452 (ninS ne350 (ninS ne413 nin0))
  have F458 := Exa.keep F433 Kq452
  have F459 := Fld.keep F434 Kq452 (ninS ne351 (ninS ne414 nin0))
  have F460 := Fld.keep F435 Kq452 (ninS ne351 (ninS ne414 nin0))
  have F461 := OAr.keep F436 Kq452 (ninS ne352 (ninS ne415 nin0))
  have F462 := Exa.keep F437 Kq452
  have F463 := Fld.keep F438 Kq452 (ninS ne353 (ninS ne416 nin0))
  have F464 := Fld.keep F439 Kq452 (ninS ne353 (ninS ne416 nin0))
  have F465 := OAr.keep F440 Kq452 (ninS ne354 (ninS ne417 nin0))
  have F466 := Exa.keep F441 Kq452
  have F467 := OOv.keep Oq427 Kq452
  have Z468 := Nat.le_trans Z443 Kq452.1
  show OwnWk _ _ _ _ (T452.setTop (mkF m 117 #[vI z0, vI z1, vI z2, vJ z3, sX, vI (3 : Int32), vI (Int32.ofNat M0), vI (Int32.ofNat M1), vI (Int32.ofNat M2), vI (Int32.ofNat M3), vR y0, vR y1, vR y2, vR y3, vR b348, uX, uX, uX, uX, uX, uX, uX, uX, uX, uX, uX, uX] [(.int (1 : Int32))]))
  refine own_go (fun tgt kst => XS.pop X452.here hx rfl (hb hby at_117) rfl rfl kst) ?_
  refine own_go (fun tgt kst => XS.iload X452.here hx rfl (hb hby at_118) rfl  kst) ?_
  refine own_go (fun tgt kst => XS.iconst X452.here hx rfl (hb hby at_120) kst) ?_
  refine own_go (fun tgt kst => XS.icmpYes X452.here hx rfl (pc0 := 121) (pc' := 132) rfl (hb hby at_121) rfl (flt (by decide : ¬ ((3 : Int32) < (3 : Int32)))).2.2.2 (by decide) (by decide) kst) ?_
  obtain ⟨T469, h469, X469, e469, E469, A469, D469, -, st469⟩ := newO X452 hx hZ hown (wq hw 84 rfl) (wq hw 85 rfl) (wq hw 86 rfl) e452 (g := (mkF m 132 #[vI z0, vI z1, vI z2, vJ z3, sX, vI (3 : Int32), vI (Int32.ofNat M0), vI (Int32.ofNat M1), vI (Int32.ofNat M2), vI (Int32.ofNat M3), vR y0, vR y1, vR y2, vR y3, vR b348, uX, uX, uX, uX, uX, uX, uX, uX, uX, uX, uX, uX] [])) rfl (hb hby at_132) (by decide) (by decide)
  obtain ⟨b469, g469⟩ : ∃ z, z = h452.size := ⟨_, rfl⟩
  rw [← g469] at A469 D469 st469
  refine own_go st469 ?_
  have ne470 := own_nl F454.lt (Nat.le_of_eq g469.symm)
  have ne471 := own_nl F457.lt (Nat.le_of_eq g469.symm)
  have ne472 := own_nl F458.lt (Nat.le_of_eq g469.symm)
  have ne473 := own_nl F461.lt (Nat.le_of_eq g469.symm)
  have ne474 := own_nl F462.lt (Nat.le_of_eq g469.symm)
  have ne475 := own_nl F465.lt (Nat.le_of_eq g469.symm)
  have ne476 := own_nl F466.lt (Nat.le_of_eq g469.symm)
  have ne477 := own_nl Vq452.lt (Nat.le_of_eq g469.symm)
  have ge478 : n0 ≤ b469 := Nat.le_trans Z468 (Nat.le_of_eq g469.symm)
  have F479 := Old.ext F453 E469
  have F480 := Exa.ext E469 F454
  have F481 := Fld.ext E469 F455
  have F482 := Fld.ext E469 F456
  have F483 := OAr.ext F457 E469
  have F484 := Exa.ext E469 F458
  have F485 := Fld.ext E469 F459
  have F486 := Fld.ext E469 F460
  have F487 := OAr.ext F461 E469
  have F488 := Exa.ext E469 F462
  have F489 := Fld.ext E469 F463
  have F490 := Fld.ext E469 F464
  have F491 := OAr.ext F465 E469
  have F492 := Exa.ext E469 F466
  have F493 := OOv.ext E469 Oq452
  have F494 := Fld.ext E469 Fm452
  have F495 := Fld.ext E469 Fe452
  have F496 := Fld.ext E469 Fs452
  have F497 := OAr.ext Vq452 E469
  have Z498 := Nat.le_trans Z468 E469.1
  have F499 : Fld Z h469 b469 "com/example/encircle/encircle/layout/ZoneKeys" "keys" "[J" .null := D469 (Or.inr (wq hw 92 rfl)) (ty := (.array .long)) (by decide)
  have F500 : Fld Z h469 b469 "com/example/encircle/encircle/layout/ZoneKeys" "sums" "[J" .null := D469 (Or.inr (wq hw 107 rfl)) (ty := (.array .long)) (by decide)
  have F501 : Fld Z h469 b469 "com/example/encircle/encircle/layout/ZoneKeys" "sizes" "[I" .null := D469 (Or.inr (wq hw 110 rfl)) (ty := (.array .int)) (by decide)
  have F502 : Fld Z h469 b469 "com/example/encircle/encircle/layout/ZoneKeys" "slotSums" "[J" .null := D469 (Or.inr (wq hw 161 rfl)) (ty := (.array .long)) (by decide)
  have F503 : Fld Z h469 b469 "com/example/encircle/encircle/layout/ZoneKeys" "slotZones" "[I" .null := D469 (Or.inr (wq hw 163 rfl)) (ty := (.array .int)) (by decide)
  have F504 : Fld Z h469 b469 "com/example/encircle/encircle/layout/ZoneKeys" "sameSum" "[I" .null := D469 (Or.inr (wq hw 165 rfl)) (ty := (.array .int)) (by decide)
  show OwnWk _ _ _ _ (T469.setTop (mkF m 135 #[vI z0, vI z1, vI z2, vJ z3, sX, vI (3 : Int32), vI (Int32.ofNat M0), vI (Int32.ofNat M1), vI (Int32.ofNat M2), vI (Int32.ofNat M3), vR y0, vR y1, vR y2, vR y3, vR b348, uX, uX, uX, uX, uX, uX, uX, uX, uX, uX, uX, uX] [(.ref b469)]))
  refine own_go (fun tgt kst => XS.dup X469.here hx rfl (hb hby at_135) rfl rfl kst) ?_
  refine own_go (fun tgt kst => XS.iconst X469.here hx rfl (hb hby at_136) kst) ?_
  refine own_go (fun tgt kst => XS.aload X469.here hx rfl (hb hby at_137) rfl rfl  kst) ?_
  show OwnWk _ _ _ _ (T469.setTop (mkF m 139 #[vI z0, vI z1, vI z2, vJ z3, sX, vI (3 : Int32), vI (Int32.ofNat M0), vI (Int32.ofNat M1), vI (Int32.ofNat M2), vI (Int32.ofNat M3), vR y0, vR y1, vR y2, vR y3, vR b348, uX, uX, uX, uX, uX, uX, uX, uX, uX, uX, uX, uX] [(.ref b348), (.int (4 : Int32)), (.ref b469), (.ref b469)]))
  have Fc505 : Fld Z h469 b348 "java/util/ArrayList" "size" "I" (.int (Int32.ofNat 3)) := F496
  have Fc506 : OAr Z h469 ed (.object "java/lang/Object") [(.ref y0), (.ref y1), (.ref y2), .null, .null, .null, .null, .null, .null, .null] := F497
  show OwnWk _ _ _ _ (T469.setTop (mkF m 139 #[vI z0, vI z1, vI z2, vJ z3, sX, vI (3 : Int32), vI (Int32.ofNat M0), vI (Int32.ofNat M1), vI (Int32.ofNat M2), vI (Int32.ofNat M3), vR y0, vR y1, vR y2, vR y3, vR b348, uX, uX, uX, uX, uX, uX, uX, uX, uX, uX, uX, uX] [(.ref b348), (.int (4 : Int32)), (.ref b469), (.ref b469)]))
  refine own_callC X469 hx hZ (y := yN14) hown rfl (wq hw 87 rfl) (wq hw 88 rfl) (wq hw 86 rfl) (wq hw 89 rfl) (by decide) (a := b469) (argsL := [(.int (4 : Int32)), (.ref b348)]) (rest := [(.ref b469)])  (h := h469) (zkN l Z a0 hw dce b469 b348 ed (own_p4 y0 y1 y2 y3) (own_p4 w0_ w1_ w2_ w3_) (own_p4 M0 M1 M2 M3) 3 ([(.ref y0), (.ref y1), (.ref y2), .null, .null, .null, .null, .null, .null, .null]) h469 n0 Z498 F479 S_d V_d S_a A469 F499 F500 F501 F502 F503 F504 F492 Fc505 F495 Fc506 (Ne.symm ne476) (Ne.symm ne477) ge478 (by decide) (by decide) (own_a3 rfl rfl rfl) (own_a3 ⟨F480, F481, F482, F483⟩ ⟨F484, F485, F486, F487⟩ ⟨F488, F489, F490, F491⟩) (own_a3 ⟨(Ne.symm ne470), (Ne.symm ne471)⟩ ⟨(Ne.symm ne472), (Ne.symm ne473)⟩ ⟨(Ne.symm ne474), (Ne.symm ne475)⟩) (own_a3 hM0 hM1 hM2)) e469 (W := 1) (by decide) (by decide) (by decide) (by decide) rfl (by rw [hml]; rfl) (lenOf pd_13 rfl) rfl (by show 2 * 0 + _ ≤ _; exact Nat.le_of_eq rfl) (hb hby at_139) (fun v507 T507 h507 L507 X507 e507 hQ507 => ?_)
  obtain ⟨rfl, Nq507, Kq507, kk, zs, zz, k0, k1, k2, k3, SS, ZZ, Fk507_0, Fk507_1, Fk507_2, Fk507_3, Fk507_4, Fk507_5, hinv⟩ := hQ507
  have N507 := Fr.app N452 Nq507
  have F508 := Old.keep F479 Kq507 (allS ge478 all0)
  have F509 := Exa.keep F480 Kq507
  have F510 := Fld.keep F481 Kq507 (ninS ne470 nin0)
  have F511 := Fld.keep F482 Kq507 (ninS ne470 nin0)
  have F512 := OAr.keep F483 Kq507 (ninS ne471 nin0)
  have F513 := Exa.keep F484 Kq507
  have F514 := Fld.keep F485 Kq507 (ninS ne472 nin0)
  have F515 := Fld.keep F486 Kq507 (ninS ne472 nin0)
  have F516 := OAr.keep F487 Kq507 (ninS ne473 nin0)
  have F517 := Exa.keep F488 Kq507
  have F518 := Fld.keep F489 Kq507 (ninS ne474 nin0)
  have F519 := Fld.keep F490 Kq507 (ninS ne474 nin0)
  have F520 := OAr.keep F491 Kq507 (ninS ne475 nin0)
  have F521 := Exa.keep F492 Kq507
  have F522 := OOv.keep F493 Kq507
  have F523 := Fld.keep F494 Kq507 (ninS ne476 nin0)
  have F524 := Fld.keep F495 Kq507 (ninS ne476 nin0)
  have F525 := Exa.keep A469 Kq507
  have F526 := Fld.keep Fc505 Kq507 (ninS ne476 nin0)
  have F527 := OAr.keep Fc506 Kq507 (ninS ne477 nin0)
  have Z528 := Nat.le_trans Z498 Kq507.1
  show OwnWk _ _ _ _ (T507.setTop (mkF m 142 #[vI z0, vI z1, vI z2, vJ z3, sX, vI (3 : Int32), vI (Int32.ofNat M0), vI (Int32.ofNat M1), vI (Int32.ofNat M2), vI (Int32.ofNat M3), vR y0, vR y1, vR y2, vR y3, vR b348, uX, uX, uX, uX, uX, uX, uX, uX, uX, uX, uX, uX] [(.ref b469)]))
  refine own_go (fun tgt kst => XS.astore X507.here hx rfl (hb hby at_142) rfl rfl (l' := #[vI z0, vI z1, vI z2, vJ z3, sX, vI (3 : Int32), vI (Int32.ofNat M0), vI (Int32.ofNat M1), vI (Int32.ofNat M2), vI (Int32.ofNat M3), vR y0, vR y1, vR y2, vR y3, vR b348, vR b469, uX, uX, uX, uX, uX, uX, uX, uX, uX, uX, uX]) rfl kst) ?_
  refine own_go (fun tgt kst => XS.aload X507.here hx rfl (hb hby at_144) rfl rfl  kst) ?_
  refine own_go (fun tgt kst => XS.iconst X507.here hx rfl (hb hby at_146) kst) ?_
  show OwnWk _ _ _ _ (T507.setTop (mkF m 147 #[vI z0, vI z1, vI z2, vJ z3, sX, vI (3 : Int32), vI (Int32.ofNat M0), vI (Int32.ofNat M1), vI (Int32.ofNat M2), vI (Int32.ofNat M3), vR y0, vR y1, vR y2, vR y3, vR b348, vR b469, uX, uX, uX, uX, uX, uX, uX, uX, uX, uX, uX] [(.int (0 : Int32)), (.ref b469)]))
  refine own_callV X507 hx hZ (y := yN27) (z := yN27) hown (wq hw 174 rfl) (wq hw 175 rfl) (notFace_of_selects (args := #[]) (mvT hZ (wq hw 177 rfl))) (wq hw 177 rfl) (wq hw 176 rfl) (wq hw 86 rfl) (wq hw 178 rfl) (by decide) (a := b469) F525 (argsL := [(.int (0 : Int32))]) (rest := [])  (h := h507) (key0 l Z a0 hw b469 kk k0 k1 k2 k3 h507 n0 Z528 Fk507_0 Fk507_1) e507 (W := 0) (by decide) (by decide) (by decide) (by decide) rfl (by rw [hml]; rfl) (lenOf pd_14 rfl) rfl (by show 2 * 0 + _ ≤ _; exact Nat.le_of_eq rfl) (hb hby at_147) (fun v529 T529 h529 L529 X529 e529 hQ529 => ?_)
  obtain ⟨rfl, Nq529, q529⟩ := hQ529
  have N529 := Fr.app N507 Nq529
  rw [q529] at e529
  show OwnWk _ _ _ _ (T529.setTop (mkF m 150 #[vI z0, vI z1, vI z2, vJ z3, sX, vI (3 : Int32), vI (Int32.ofNat M0), vI (Int32.ofNat M1), vI (Int32.ofNat M2), vI (Int32.ofNat M3), vR y0, vR y1, vR y2, vR y3, vR b348, vR b469, uX, uX, uX, uX, uX, uX, uX, uX, uX, uX, uX] [(.long k0)]))
  refine own_go (fun tgt kst => XS.lstore X529.here hx rfl (hb hby at_150) rfl (l' := #[vI z0, vI z1, vI z2, vJ z3, sX, vI (3 : Int32), vI (Int32.ofNat M0), vI (Int32.ofNat M1), vI (Int32.ofNat M2), vI (Int32.ofNat M3), vR y0, vR y1, vR y2, vR y3, vR b348, vR b469, vJ k0, sX, uX, uX, uX, uX, uX, uX, uX, uX, uX]) rfl kst) ?_
  refine own_go (fun tgt kst => XS.aload X529.here hx rfl (hb hby at_152) rfl rfl  kst) ?_
  refine own_go (fun tgt kst => XS.iconst X529.here hx rfl (hb hby at_154) kst) ?_
  show OwnWk _ _ _ _ (T529.setTop (mkF m 155 #[vI z0, vI z1, vI z2, vJ z3, sX, vI (3 : Int32), vI (Int32.ofNat M0), vI (Int32.ofNat M1), vI (Int32.ofNat M2), vI (Int32.ofNat M3), vR y0, vR y1, vR y2, vR y3, vR b348, vR b469, vJ k0, sX, uX, uX, uX, uX, uX, uX, uX, uX, uX] [(.int (1 : Int32)), (.ref b469)]))
  refine own_callV X529 hx hZ (y := yN27) (z := yN27) hown (wq hw 174 rfl) (wq hw 175 rfl) (notFace_of_selects (args := #[]) (mvT hZ (wq hw 177 rfl))) (wq hw 177 rfl) (wq hw 176 rfl) (wq hw 86 rfl) (wq hw 178 rfl) (by decide) (a := b469) F525 (argsL := [(.int (1 : Int32))]) (rest := [])  (h := h507) (key1 l Z a0 hw b469 kk k0 k1 k2 k3 h507 n0 Z528 Fk507_0 Fk507_1) e529 (W := 0) (by decide) (by decide) (by decide) (by decide) rfl (by rw [hml]; rfl) (lenOf pd_14 rfl) rfl (by show 2 * 0 + _ ≤ _; exact Nat.le_of_eq rfl) (hb hby at_155) (fun v530 T530 h530 L530 X530 e530 hQ530 => ?_)
  obtain ⟨rfl, Nq530, q530⟩ := hQ530
  have N530 := Fr.app N529 Nq530
  rw [q530] at e530
  show OwnWk _ _ _ _ (T530.setTop (mkF m 158 #[vI z0, vI z1, vI z2, vJ z3, sX, vI (3 : Int32), vI (Int32.ofNat M0), vI (Int32.ofNat M1), vI (Int32.ofNat M2), vI (Int32.ofNat M3), vR y0, vR y1, vR y2, vR y3, vR b348, vR b469, vJ k0, sX, uX, uX, uX, uX, uX, uX, uX, uX, uX] [(.long k1)]))
  refine own_go (fun tgt kst => XS.lstore X530.here hx rfl (hb hby at_158) rfl (l' := #[vI z0, vI z1, vI z2, vJ z3, sX, vI (3 : Int32), vI (Int32.ofNat M0), vI (Int32.ofNat M1), vI (Int32.ofNat M2), vI (Int32.ofNat M3), vR y0, vR y1, vR y2, vR y3, vR b348, vR b469, vJ k0, sX, vJ k1, sX, uX, uX, uX, uX, uX, uX, uX]) rfl kst) ?_
  refine own_go (fun tgt kst => XS.aload X530.here hx rfl (hb hby at_160) rfl rfl  kst) ?_
  refine own_go (fun tgt kst => XS.iconst X530.here hx rfl (hb hby at_162) kst) ?_
  show OwnWk _ _ _ _ (T530.setTop (mkF m 163 #[vI z0, vI z1, vI z2, vJ z3, sX, vI (3 : Int32), vI (Int32.ofNat M0), vI (Int32.ofNat M1), vI (Int32.ofNat M2), vI (Int32.ofNat M3), vR y0, vR y1, vR y2, vR y3, vR b348, vR b469, vJ k0, sX, vJ k1, sX, uX, uX, uX, uX, uX, uX, uX] [(.int (2 : Int32)), (.ref b469)]))
  refine own_callV X530 hx hZ (y := yN27) (z := yN27) hown (wq hw 174 rfl) (wq hw 175 rfl) (notFace_of_selects (args := #[]) (mvT hZ (wq hw 177 rfl))) (wq hw 177 rfl) (wq hw 176 rfl) (wq hw 86 rfl) (wq hw 178 rfl) (by decide) (a := b469) F525 (argsL := [(.int (2 : Int32))]) (rest := [])  (h := h507) (key2 l Z a0 hw b469 kk k0 k1 k2 k3 h507 n0 Z528 Fk507_0 Fk507_1) e530 (W := 0) (by decide) (by decide) (by decide) (by decide) rfl (by rw [hml]; rfl) (lenOf pd_14 rfl) rfl (by show 2 * 0 + _ ≤ _; exact Nat.le_of_eq rfl) (hb hby at_163) (fun v531 T531 h531 L531 X531 e531 hQ531 => ?_)
  obtain ⟨rfl, Nq531, q531⟩ := hQ531
  have N531 := Fr.app N530 Nq531
  rw [q531] at e531
  show OwnWk _ _ _ _ (T531.setTop (mkF m 166 #[vI z0, vI z1, vI z2, vJ z3, sX, vI (3 : Int32), vI (Int32.ofNat M0), vI (Int32.ofNat M1), vI (Int32.ofNat M2), vI (Int32.ofNat M3), vR y0, vR y1, vR y2, vR y3, vR b348, vR b469, vJ k0, sX, vJ k1, sX, uX, uX, uX, uX, uX, uX, uX] [(.long k2)]))
  refine own_go (fun tgt kst => XS.lstore X531.here hx rfl (hb hby at_166) rfl (l' := #[vI z0, vI z1, vI z2, vJ z3, sX, vI (3 : Int32), vI (Int32.ofNat M0), vI (Int32.ofNat M1), vI (Int32.ofNat M2), vI (Int32.ofNat M3), vR y0, vR y1, vR y2, vR y3, vR b348, vR b469, vJ k0, sX, vJ k1, sX, vJ k2, sX, uX, uX, uX, uX, uX]) rfl kst) ?_
  refine own_go (fun tgt kst => XS.aload X531.here hx rfl (hb hby at_168) rfl rfl  kst) ?_
  refine own_go (fun tgt kst => XS.iconst X531.here hx rfl (hb hby at_170) kst) ?_
  show OwnWk _ _ _ _ (T531.setTop (mkF m 171 #[vI z0, vI z1, vI z2, vJ z3, sX, vI (3 : Int32), vI (Int32.ofNat M0), vI (Int32.ofNat M1), vI (Int32.ofNat M2), vI (Int32.ofNat M3), vR y0, vR y1, vR y2, vR y3, vR b348, vR b469, vJ k0, sX, vJ k1, sX, vJ k2, sX, uX, uX, uX, uX, uX] [(.int (3 : Int32)), (.ref b469)]))
  refine own_callV X531 hx hZ (y := yN27) (z := yN27) hown (wq hw 174 rfl) (wq hw 175 rfl) (notFace_of_selects (args := #[]) (mvT hZ (wq hw 177 rfl))) (wq hw 177 rfl) (wq hw 176 rfl) (wq hw 86 rfl) (wq hw 178 rfl) (by decide) (a := b469) F525 (argsL := [(.int (3 : Int32))]) (rest := [])  (h := h507) (key3 l Z a0 hw b469 kk k0 k1 k2 k3 h507 n0 Z528 Fk507_0 Fk507_1) e531 (W := 0) (by decide) (by decide) (by decide) (by decide) rfl (by rw [hml]; rfl) (lenOf pd_14 rfl) rfl (by show 2 * 0 + _ ≤ _; exact Nat.le_of_eq rfl) (hb hby at_171) (fun v532 T532 h532 L532 X532 e532 hQ532 => ?_)
  obtain ⟨rfl, Nq532, q532⟩ := hQ532
  have N532 := Fr.app N531 Nq532
  rw [q532] at e532
  show OwnWk _ _ _ _ (T532.setTop (mkF m 174 #[vI z0, vI z1, vI z2, vJ z3, sX, vI (3 : Int32), vI (Int32.ofNat M0), vI (Int32.ofNat M1), vI (Int32.ofNat M2), vI (Int32.ofNat M3), vR y0, vR y1, vR y2, vR y3, vR b348, vR b469, vJ k0, sX, vJ k1, sX, vJ k2, sX, uX, uX, uX, uX, uX] [(.long k3)]))
  refine own_go (fun tgt kst => XS.lstore X532.here hx rfl (hb hby at_174) rfl (l' := #[vI z0, vI z1, vI z2, vJ z3, sX, vI (3 : Int32), vI (Int32.ofNat M0), vI (Int32.ofNat M1), vI (Int32.ofNat M2), vI (Int32.ofNat M3), vR y0, vR y1, vR y2, vR y3, vR b348, vR b469, vJ k0, sX, vJ k1, sX, vJ k2, sX, vJ k3, sX, uX, uX, uX]) rfl kst) ?_
  show OwnWk _ _ _ _ (T532.setTop (mkF m 176 #[vI z0, vI z1, vI z2, vJ z3, sX, vI (3 : Int32), vI (Int32.ofNat M0), vI (Int32.ofNat M1), vI (Int32.ofNat M2), vI (Int32.ofNat M3), vR y0, vR y1, vR y2, vR y3, vR b348, vR b469, vJ k0, sX, vJ k1, sX, vJ k2, sX, vJ k3, sX, uX, uX, uX] []))
  have LQ : ∀ (qq : Int64) (T_ : State) (L_ : List Loc), Stand p l e room_1 s m #[(.int z0), (.int z1), (.int z2), (.long z3)] below meth c T_ L_ 18 71 → T_.heap = h507 → Fr n0 L_ →
      OwnWk p e below (OwnP s (Q_rm0 Z z0 z1 z2 z3 dce h0 n0) room_1.cells room_1.slots) (T_.setTop (mkF m 202 #[vI z0, vI z1, vI z2, vJ z3, sX, vI (3 : Int32), vI (Int32.ofNat M0), vI (Int32.ofNat M1), vI (Int32.ofNat M2), vI (Int32.ofNat M3), vR y0, vR y1, vR y2, vR y3, vR b348, vR b469, vJ k0, sX, vJ k1, sX, vJ k2, sX, vJ k3, sX, uX, uX, uX] [(.long qq)])) := by
   intro qq T_533 L_533  X_533 e_533 N_533
   show OwnWk _ _ _ _ (T_533.setTop (mkF m 202 #[vI z0, vI z1, vI z2, vJ z3, sX, vI (3 : Int32), vI (Int32.ofNat M0), vI (Int32.ofNat M1), vI (Int32.ofNat M2), vI (Int32.ofNat M3), vR y0, vR y1, vR y2, vR y3, vR b348, vR b469, vJ k0, sX, vJ k1, sX, vJ k2, sX, vJ k3, sX, uX, uX, uX] [(.long qq)]))
   have LS0 : ∀ (ix : Int32) (T_ : State) (L_ : List Loc), ix = Int32.ofNat (own_Ez (own_f (own_p4 M0 M1 M2 M3) k0 k1 k2 k3) 0 3 qq) - (1 : Int32) → Stand p l e room_1 s m #[(.int z0), (.int z1), (.int z2), (.long z3)] below meth c T_ L_ 18 71 → T_.heap = h507 → Fr n0 L_ →
       OwnWk p e below (OwnP s (Q_rm0 Z z0 z1 z2 z3 dce h0 n0) room_1.cells room_1.slots) (T_.setTop (mkF m 318 #[vI z0, vI z1, vI z2, vJ z3, sX, vI (3 : Int32), vI (Int32.ofNat M0), vI (Int32.ofNat M1), vI (Int32.ofNat M2), vI (Int32.ofNat M3), vR y0, vR y1, vR y2, vR y3, vR b348, vR b469, vJ k0, sX, vJ k1, sX, vJ k2, sX, vJ k3, sX, vJ qq, sX, vI ix] [])) := by
    intro ix T_534 L_534 hix X_534 e_534 N_534
    show OwnWk _ _ _ _ (T_534.setTop (mkF m 318 #[vI z0, vI z1, vI z2, vJ z3, sX, vI (3 : Int32), vI (Int32.ofNat M0), vI (Int32.ofNat M1), vI (Int32.ofNat M2), vI (Int32.ofNat M3), vR y0, vR y1, vR y2, vR y3, vR b348, vR b469, vJ k0, sX, vJ k1, sX, vJ k2, sX, vJ k3, sX, vJ qq, sX, vI ix] []))
    refine own_go (fun tgt kst => XS.aload X_534.here hx rfl (hb hby at_318) rfl rfl  kst) ?_
    refine own_go (fun tgt kst => XS.lload X_534.here hx rfl (hb hby at_320) rfl  kst) ?_
    show OwnWk _ _ _ _ (T_534.setTop (mkF m 322 #[vI z0, vI z1, vI z2, vJ z3, sX, vI (3 : Int32), vI (Int32.ofNat M0), vI (Int32.ofNat M1), vI (Int32.ofNat M2), vI (Int32.ofNat M3), vR y0, vR y1, vR y2, vR y3, vR b348, vR b469, vJ k0, sX, vJ k1, sX, vJ k2, sX, vJ k3, sX, vJ qq, sX, vI ix] [(.long qq), (.ref b469)]))
    refine own_callV X_534 hx hZ (y := yN29) (z := yN29) hown (wq hw 182 rfl) (wq hw 183 rfl) (notFace_of_selects (args := #[]) (mvT hZ (wq hw 185 rfl))) (wq hw 185 rfl) (wq hw 184 rfl) (wq hw 86 rfl) (wq hw 186 rfl) (by decide) (a := b469) F525 (argsL := [(.long qq)]) (rest := [])  (h := h507) (fst l Z a0 hw b469 zs zz SS ZZ qq (own_k 3) 3 (own_Ez (own_f (own_p4 M0 M1 M2 M3) k0 k1 k2 k3) 0 3) h507 n0 Z528 F525 Fk507_2 Fk507_3 Fk507_4 Fk507_5 own_k4 hinv (by decide)) e_534 (W := 0) (by decide) (by decide) (by decide) (by decide) rfl (by rw [hml]; rfl) (lenOf pd_3 rfl) rfl (by show 2 * 0 + _ ≤ _; exact Nat.le_of_eq rfl) (hb hby at_322) (fun v535 T535 h535 L535 X535 e535 hQ535 => ?_)
    obtain ⟨rfl, Nq535, q535⟩ := hQ535
    have N535 := Fr.app N_534 Nq535
    rw [q535] at e535
    show OwnWk _ _ _ _ (T535.setTop (mkF m 325 #[vI z0, vI z1, vI z2, vJ z3, sX, vI (3 : Int32), vI (Int32.ofNat M0), vI (Int32.ofNat M1), vI (Int32.ofNat M2), vI (Int32.ofNat M3), vR y0, vR y1, vR y2, vR y3, vR b348, vR b469, vJ k0, sX, vJ k1, sX, vJ k2, sX, vJ k3, sX, vJ qq, sX, vI ix] [(.int ((Int32.ofNat (own_Ez (own_f (own_p4 M0 M1 M2 M3) k0 k1 k2 k3) 0 3 qq)) - (1 : Int32)))]))
    refine own_go (fun tgt kst => XS.iload X535.here hx rfl (hb hby at_325) rfl  kst) ?_
    show OwnWk _ _ _ _ (T535.setTop (mkF m 327 #[vI z0, vI z1, vI z2, vJ z3, sX, vI (3 : Int32), vI (Int32.ofNat M0), vI (Int32.ofNat M1), vI (Int32.ofNat M2), vI (Int32.ofNat M3), vR y0, vR y1, vR y2, vR y3, vR b348, vR b469, vJ k0, sX, vJ k1, sX, vJ k2, sX, vJ k3, sX, vJ qq, sX, vI ix] [(.int ix), (.int ((Int32.ofNat (own_Ez (own_f (own_p4 M0 M1 M2 M3) k0 k1 k2 k3) 0 3 qq)) - (1 : Int32)))]))
    refine own_go (fun tgt kst => XS.icmpNo X535.here hx rfl (hb hby at_327) rfl (teq hix.symm).2 kst) ?_
    show OwnWk _ _ _ _ (T535.setTop (mkF m 330 #[vI z0, vI z1, vI z2, vJ z3, sX, vI (3 : Int32), vI (Int32.ofNat M0), vI (Int32.ofNat M1), vI (Int32.ofNat M2), vI (Int32.ofNat M3), vR y0, vR y1, vR y2, vR y3, vR b348, vR b469, vJ k0, sX, vJ k1, sX, vJ k2, sX, vJ k3, sX, vJ qq, sX, vI ix] []))
    refine own_go (fun tgt kst => XS.iconst X535.here hx rfl (hb hby at_330) kst) ?_
    refine own_go (fun tgt kst => XS.goto X535.here hx rfl (pc0 := 331) (pc' := 335) rfl (hb hby at_331) (by decide) (by decide) kst) ?_
    show OwnWk _ _ _ _ (T535.setTop (mkF m 335 #[vI z0, vI z1, vI z2, vJ z3, sX, vI (3 : Int32), vI (Int32.ofNat M0), vI (Int32.ofNat M1), vI (Int32.ofNat M2), vI (Int32.ofNat M3), vR y0, vR y1, vR y2, vR y3, vR b348, vR b469, vJ k0, sX, vJ k1, sX, vJ k2, sX, vJ k3, sX, vJ qq, sX, vI ix] [(.int (1 : Int32))]))
    exact own_retZ X535 hx hlk hret (by simp) (z' := (1 : Int32)) rfl (hb hby at_335) (by decide) (by decide) (by rw [e535]; exact ⟨rfl, N535⟩)
   have LS1 : ∀ (ix : Int32) (T_ : State) (L_ : List Loc), ix = Int32.ofNat (own_Ez (own_f (own_p4 M0 M1 M2 M3) k0 k1 k2 k3) 1 2 qq) - (1 : Int32) → Stand p l e room_1 s m #[(.int z0), (.int z1), (.int z2), (.long z3)] below meth c T_ L_ 18 71 → T_.heap = h507 → Fr n0 L_ →
       OwnWk p e below (OwnP s (Q_rm0 Z z0 z1 z2 z3 dce h0 n0) room_1.cells room_1.slots) (T_.setTop (mkF m 291 #[vI z0, vI z1, vI z2, vJ z3, sX, vI (3 : Int32), vI (Int32.ofNat M0), vI (Int32.ofNat M1), vI (Int32.ofNat M2), vI (Int32.ofNat M3), vR y0, vR y1, vR y2, vR y3, vR b348, vR b469, vJ k0, sX, vJ k1, sX, vJ k2, sX, vJ k3, sX, vJ qq, sX, vI ix] [])) := by
    intro ix T_536 L_536 hix X_536 e_536 N_536
    show OwnWk _ _ _ _ (T_536.setTop (mkF m 291 #[vI z0, vI z1, vI z2, vJ z3, sX, vI (3 : Int32), vI (Int32.ofNat M0), vI (Int32.ofNat M1), vI (Int32.ofNat M2), vI (Int32.ofNat M3), vR y0, vR y1, vR y2, vR y3, vR b348, vR b469, vJ k0, sX, vJ k1, sX, vJ k2, sX, vJ k3, sX, vJ qq, sX, vI ix] []))
    refine own_go (fun tgt kst => XS.iload X_536.here hx rfl (hb hby at_291) rfl  kst) ?_
    refine own_go (fun tgt kst => XS.ifNo X_536.here hx rfl (hb hby at_293) rfl ((if0 _ _).trans (tlt (by decide : (0 : Int32) < (3 : Int32))).2.2.2) kst) ?_
    refine own_go (fun tgt kst => XS.lload X_536.here hx rfl (hb hby at_296) rfl  kst) ?_
    refine own_go (fun tgt kst => XS.iload X_536.here hx rfl (hb hby at_298) rfl  kst) ?_
    refine own_go (fun tgt kst => XS.lload X_536.here hx rfl (hb hby at_300) rfl  kst) ?_
    refine own_go (fun tgt kst => XS.lload X_536.here hx rfl (hb hby at_302) rfl  kst) ?_
    show OwnWk _ _ _ _ (T_536.setTop (mkF m 304 #[vI z0, vI z1, vI z2, vJ z3, sX, vI (3 : Int32), vI (Int32.ofNat M0), vI (Int32.ofNat M1), vI (Int32.ofNat M2), vI (Int32.ofNat M3), vR y0, vR y1, vR y2, vR y3, vR b348, vR b469, vJ k0, sX, vJ k1, sX, vJ k2, sX, vJ k3, sX, vJ qq, sX, vI ix] [(.long k1), (.long k0), (.int (Int32.ofNat M0)), (.long qq)]))
    refine own_go (fun tgt kst => XS.lload X_536.here hx rfl (hb hby at_304) rfl  kst) ?_
    refine own_go (fun tgt kst => XS.lload X_536.here hx rfl (hb hby at_306) rfl  kst) ?_
    show OwnWk _ _ _ _ (T_536.setTop (mkF m 308 #[vI z0, vI z1, vI z2, vJ z3, sX, vI (3 : Int32), vI (Int32.ofNat M0), vI (Int32.ofNat M1), vI (Int32.ofNat M2), vI (Int32.ofNat M3), vR y0, vR y1, vR y2, vR y3, vR b348, vR b469, vJ k0, sX, vJ k1, sX, vJ k2, sX, vJ k3, sX, vJ qq, sX, vI ix] [(.long k3), (.long k2), (.long k1), (.long k0), (.int (Int32.ofNat M0)), (.long qq)]))
    refine own_callS X_536 hx hZ (y := yN28) hown (wq hw 179 rfl) (wq hw 180 rfl) (wq hw 3 rfl) (wq hw 181 rfl) (by decide) (argsL := [(.int (Int32.ofNat M0)), (.long k0), (.long k1), (.long k2), (.long k3)]) (rest := [(.long qq)])  (h := h507) (smo l Z a0 hw M0 k0 k1 k2 k3 h507 n0 Z528) e_536 (W := 2) (by decide) (by decide) (by decide) (by decide) rfl (by rw [hml]; rfl) (lenOf pd_15 rfl) rfl (by show 2 * 0 + _ ≤ _; exact Nat.le_of_eq rfl) (hb hby at_308) (fun v537 T537 h537 L537 X537 e537 hQ537 => ?_)
    obtain ⟨rfl, Nq537, q537⟩ := hQ537
    have N537 := Fr.app N_536 Nq537
    rw [q537] at e537
    show OwnWk _ _ _ _ (T537.setTop (mkF m 311 #[vI z0, vI z1, vI z2, vJ z3, sX, vI (3 : Int32), vI (Int32.ofNat M0), vI (Int32.ofNat M1), vI (Int32.ofNat M2), vI (Int32.ofNat M3), vR y0, vR y1, vR y2, vR y3, vR b348, vR b469, vJ k0, sX, vJ k1, sX, vJ k2, sX, vJ k3, sX, vJ qq, sX, vI ix] [(.long (own_sumM M0 k0 k1 k2 k3)), (.long qq)]))
    refine own_go (fun tgt kst => XS.lcmp X537.here hx rfl (hb hby at_311) rfl kst) ?_
    show OwnWk _ _ _ _ (T537.setTop (mkF m 312 #[vI z0, vI z1, vI z2, vJ z3, sX, vI (3 : Int32), vI (Int32.ofNat M0), vI (Int32.ofNat M1), vI (Int32.ofNat M2), vI (Int32.ofNat M3), vR y0, vR y1, vR y2, vR y3, vR b348, vR b469, vJ k0, sX, vJ k1, sX, vJ k2, sX, vJ k3, sX, vJ qq, sX, vI ix] [(.int (lcmpW qq (own_sumM M0 k0 k1 k2 k3)))]))
    by_cases hc538 : qq = (own_sumM M0 k0 k1 k2 k3)
    ·
     refine own_go (fun tgt kst => XS.ifNo X537.here hx rfl (hb hby at_312) rfl ((if0 _ _).trans (teq (own_lc_eq.mpr hc538)).2) kst) ?_
     show OwnWk _ _ _ _ (T537.setTop (mkF m 315 #[vI z0, vI z1, vI z2, vJ z3, sX, vI (3 : Int32), vI (Int32.ofNat M0), vI (Int32.ofNat M1), vI (Int32.ofNat M2), vI (Int32.ofNat M3), vR y0, vR y1, vR y2, vR y3, vR b348, vR b469, vJ k0, sX, vJ k1, sX, vJ k2, sX, vJ k3, sX, vJ qq, sX, vI ix] []))
     refine own_go (fun tgt kst => XS.iconst X537.here hx rfl (hb hby at_315) kst) ?_
     refine own_go (fun tgt kst => XS.istore X537.here hx rfl (hb hby at_316) rfl (l' := #[vI z0, vI z1, vI z2, vJ z3, sX, vI (3 : Int32), vI (Int32.ofNat M0), vI (Int32.ofNat M1), vI (Int32.ofNat M2), vI (Int32.ofNat M3), vR y0, vR y1, vR y2, vR y3, vR b348, vR b469, vJ k0, sX, vJ k1, sX, vJ k2, sX, vJ k3, sX, vJ qq, sX, vI (0 : Int32)]) rfl kst) ?_
     show OwnWk _ _ _ _ (T537.setTop (mkF m 318 #[vI z0, vI z1, vI z2, vJ z3, sX, vI (3 : Int32), vI (Int32.ofNat M0), vI (Int32.ofNat M1), vI (Int32.ofNat M2), vI (Int32.ofNat M3), vR y0, vR y1, vR y2, vR y3, vR b348, vR b469, vJ k0, sX, vJ k1, sX, vJ k2, sX, vJ k3, sX, vJ qq, sX, vI (0 : Int32)] []))
     exact LS0 _ _ _ (by show _ = Int32.ofNat (if qq = (own_sumM M0 k0 k1 k2 k3) then 1 else own_Ez (own_f (own_p4 M0 M1 M2 M3) k0 k1 k2 k3) 1 2 qq) - (1 : Int32); rw [if_pos hc538]; rfl) X537 e537 N537
    ·
     refine own_go (fun tgt kst => XS.ifYes X537.here hx rfl (pc0 := 312) (pc' := 318) rfl (hb hby at_312) rfl ((if0 _ _).trans (feq (fun q => hc538 (own_lc_eq.mp q))).2) (by decide) (by decide) kst) ?_
     show OwnWk _ _ _ _ (T537.setTop (mkF m 318 #[vI z0, vI z1, vI z2, vJ z3, sX, vI (3 : Int32), vI (Int32.ofNat M0), vI (Int32.ofNat M1), vI (Int32.ofNat M2), vI (Int32.ofNat M3), vR y0, vR y1, vR y2, vR y3, vR b348, vR b469, vJ k0, sX, vJ k1, sX, vJ k2, sX, vJ k3, sX, vJ qq, sX, vI ix] []))
     exact LS0 _ _ _ (by show _ = Int32.ofNat (if qq = (own_sumM M0 k0 k1 k2 k3) then 1 else own_Ez (own_f (own_p4 M0 M1 M2 M3) k0 k1 k2 k3) 1 2 qq) - (1 : Int32); rw [if_neg hc538]; exact hix) X537 e537 N537
   have LS2 : ∀ (ix : Int32) (T_ : State) (L_ : List Loc), ix = Int32.ofNat (own_Ez (own_f (own_p4 M0 M1 M2 M3) k0 k1 k2 k3) 2 1 qq) - (1 : Int32) → Stand p l e room_1 s m #[(.int z0), (.int z1), (.int z2), (.long z3)] below meth c T_ L_ 18 71 → T_.heap = h507 → Fr n0 L_ →
       OwnWk p e below (OwnP s (Q_rm0 Z z0 z1 z2 z3 dce h0 n0) room_1.cells room_1.slots) (T_.setTop (mkF m 263 #[vI z0, vI z1, vI z2, vJ z3, sX, vI (3 : Int32), vI (Int32.ofNat M0), vI (Int32.ofNat M1), vI (Int32.ofNat M2), vI (Int32.ofNat M3), vR y0, vR y1, vR y2, vR y3, vR b348, vR b469, vJ k0, sX, vJ k1, sX, vJ k2, sX, vJ k3, sX, vJ qq, sX, vI ix] [])) := by
    intro ix T_539 L_539 hix X_539 e_539 N_539
    show OwnWk _ _ _ _ (T_539.setTop (mkF m 263 #[vI z0, vI z1, vI z2, vJ z3, sX, vI (3 : Int32), vI (Int32.ofNat M0), vI (Int32.ofNat M1), vI (Int32.ofNat M2), vI (Int32.ofNat M3), vR y0, vR y1, vR y2, vR y3, vR b348, vR b469, vJ k0, sX, vJ k1, sX, vJ k2, sX, vJ k3, sX, vJ qq, sX, vI ix] []))
    refine own_go (fun tgt kst => XS.iload X_539.here hx rfl (hb hby at_263) rfl  kst) ?_
    refine own_go (fun tgt kst => XS.iconst X_539.here hx rfl (hb hby at_265) kst) ?_
    refine own_go (fun tgt kst => XS.icmpNo X_539.here hx rfl (hb hby at_266) rfl (tlt (by decide : (1 : Int32) < (3 : Int32))).2.2.2 kst) ?_
    refine own_go (fun tgt kst => XS.lload X_539.here hx rfl (hb hby at_269) rfl  kst) ?_
    refine own_go (fun tgt kst => XS.iload X_539.here hx rfl (hb hby at_271) rfl  kst) ?_
    refine own_go (fun tgt kst => XS.lload X_539.here hx rfl (hb hby at_273) rfl  kst) ?_
    show OwnWk _ _ _ _ (T_539.setTop (mkF m 275 #[vI z0, vI z1, vI z2, vJ z3, sX, vI (3 : Int32), vI (Int32.ofNat M0), vI (Int32.ofNat M1), vI (Int32.ofNat M2), vI (Int32.ofNat M3), vR y0, vR y1, vR y2, vR y3, vR b348, vR b469, vJ k0, sX, vJ k1, sX, vJ k2, sX, vJ k3, sX, vJ qq, sX, vI ix] [(.long k0), (.int (Int32.ofNat M1)), (.long qq)]))
    refine own_go (fun tgt kst => XS.lload X_539.here hx rfl (hb hby at_275) rfl  kst) ?_
    refine own_go (fun tgt kst => XS.lload X_539.here hx rfl (hb hby at_277) rfl  kst) ?_
    refine own_go (fun tgt kst => XS.lload X_539.here hx rfl (hb hby at_279) rfl  kst) ?_
    show OwnWk _ _ _ _ (T_539.setTop (mkF m 281 #[vI z0, vI z1, vI z2, vJ z3, sX, vI (3 : Int32), vI (Int32.ofNat M0), vI (Int32.ofNat M1), vI (Int32.ofNat M2), vI (Int32.ofNat M3), vR y0, vR y1, vR y2, vR y3, vR b348, vR b469, vJ k0, sX, vJ k1, sX, vJ k2, sX, vJ k3, sX, vJ qq, sX, vI ix] [(.long k3), (.long k2), (.long k1), (.long k0), (.int (Int32.ofNat M1)), (.long qq)]))
    refine own_callS X_539 hx hZ (y := yN28) hown (wq hw 179 rfl) (wq hw 180 rfl) (wq hw 3 rfl) (wq hw 181 rfl) (by decide) (argsL := [(.int (Int32.ofNat M1)), (.long k0), (.long k1), (.long k2), (.long k3)]) (rest := [(.long qq)])  (h := h507) (smo l Z a0 hw M1 k0 k1 k2 k3 h507 n0 Z528) e_539 (W := 2) (by decide) (by decide) (by decide) (by decide) rfl (by rw [hml]; rfl) (lenOf pd_15 rfl) rfl (by show 2 * 0 + _ ≤ _; exact Nat.le_of_eq rfl) (hb hby at_281) (fun v540 T540 h540 L540 X540 e540 hQ540 => ?_)
    obtain ⟨rfl, Nq540, q540⟩ := hQ540
    have N540 := Fr.app N_539 Nq540
    rw [q540] at e540
    show OwnWk _ _ _ _ (T540.setTop (mkF m 284 #[vI z0, vI z1, vI z2, vJ z3, sX, vI (3 : Int32), vI (Int32.ofNat M0), vI (Int32.ofNat M1), vI (Int32.ofNat M2), vI (Int32.ofNat M3), vR y0, vR y1, vR y2, vR y3, vR b348, vR b469, vJ k0, sX, vJ k1, sX, vJ k2, sX, vJ k3, sX, vJ qq, sX, vI ix] [(.long (own_sumM M1 k0 k1 k2 k3)), (.long qq)]))
    refine own_go (fun tgt kst => XS.lcmp X540.here hx rfl (hb hby at_284) rfl kst) ?_
    show OwnWk _ _ _ _ (T540.setTop (mkF m 285 #[vI z0, vI z1, vI z2, vJ z3, sX, vI (3 : Int32), vI (Int32.ofNat M0), vI (Int32.ofNat M1), vI (Int32.ofNat M2), vI (Int32.ofNat M3), vR y0, vR y1, vR y2, vR y3, vR b348, vR b469, vJ k0, sX, vJ k1, sX, vJ k2, sX, vJ k3, sX, vJ qq, sX, vI ix] [(.int (lcmpW qq (own_sumM M1 k0 k1 k2 k3)))]))
    by_cases hc541 : qq = (own_sumM M1 k0 k1 k2 k3)
    ·
     refine own_go (fun tgt kst => XS.ifNo X540.here hx rfl (hb hby at_285) rfl ((if0 _ _).trans (teq (own_lc_eq.mpr hc541)).2) kst) ?_
     show OwnWk _ _ _ _ (T540.setTop (mkF m 288 #[vI z0, vI z1, vI z2, vJ z3, sX, vI (3 : Int32), vI (Int32.ofNat M0), vI (Int32.ofNat M1), vI (Int32.ofNat M2), vI (Int32.ofNat M3), vR y0, vR y1, vR y2, vR y3, vR b348, vR b469, vJ k0, sX, vJ k1, sX, vJ k2, sX, vJ k3, sX, vJ qq, sX, vI ix] []))
     refine own_go (fun tgt kst => XS.iconst X540.here hx rfl (hb hby at_288) kst) ?_
     refine own_go (fun tgt kst => XS.istore X540.here hx rfl (hb hby at_289) rfl (l' := #[vI z0, vI z1, vI z2, vJ z3, sX, vI (3 : Int32), vI (Int32.ofNat M0), vI (Int32.ofNat M1), vI (Int32.ofNat M2), vI (Int32.ofNat M3), vR y0, vR y1, vR y2, vR y3, vR b348, vR b469, vJ k0, sX, vJ k1, sX, vJ k2, sX, vJ k3, sX, vJ qq, sX, vI (1 : Int32)]) rfl kst) ?_
     show OwnWk _ _ _ _ (T540.setTop (mkF m 291 #[vI z0, vI z1, vI z2, vJ z3, sX, vI (3 : Int32), vI (Int32.ofNat M0), vI (Int32.ofNat M1), vI (Int32.ofNat M2), vI (Int32.ofNat M3), vR y0, vR y1, vR y2, vR y3, vR b348, vR b469, vJ k0, sX, vJ k1, sX, vJ k2, sX, vJ k3, sX, vJ qq, sX, vI (1 : Int32)] []))
     exact LS1 _ _ _ (by show _ = Int32.ofNat (if qq = (own_sumM M1 k0 k1 k2 k3) then 2 else own_Ez (own_f (own_p4 M0 M1 M2 M3) k0 k1 k2 k3) 2 1 qq) - (1 : Int32); rw [if_pos hc541]; rfl) X540 e540 N540
    ·
     refine own_go (fun tgt kst => XS.ifYes X540.here hx rfl (pc0 := 285) (pc' := 291) rfl (hb hby at_285) rfl ((if0 _ _).trans (feq (fun q => hc541 (own_lc_eq.mp q))).2) (by decide) (by decide) kst) ?_
     show OwnWk _ _ _ _ (T540.setTop (mkF m 291 #[vI z0, vI z1, vI z2, vJ z3, sX, vI (3 : Int32), vI (Int32.ofNat M0), vI (Int32.ofNat M1), vI (Int32.ofNat M2), vI (Int32.ofNat M3), vR y0, vR y1, vR y2, vR y3, vR b348, vR b469, vJ k0, sX, vJ k1, sX, vJ k2, sX, vJ k3, sX, vJ qq, sX, vI ix] []))
     exact LS1 _ _ _ (by show _ = Int32.ofNat (if qq = (own_sumM M1 k0 k1 k2 k3) then 2 else own_Ez (own_f (own_p4 M0 M1 M2 M3) k0 k1 k2 k3) 2 1 qq) - (1 : Int32); rw [if_neg hc541]; exact hix) X540 e540 N540
   have LS3 : ∀ (ix : Int32) (T_ : State) (L_ : List Loc), ix = Int32.ofNat (own_Ez (own_f (own_p4 M0 M1 M2 M3) k0 k1 k2 k3) 3 0 qq) - (1 : Int32) → Stand p l e room_1 s m #[(.int z0), (.int z1), (.int z2), (.long z3)] below meth c T_ L_ 18 71 → T_.heap = h507 → Fr n0 L_ →
       OwnWk p e below (OwnP s (Q_rm0 Z z0 z1 z2 z3 dce h0 n0) room_1.cells room_1.slots) (T_.setTop (mkF m 235 #[vI z0, vI z1, vI z2, vJ z3, sX, vI (3 : Int32), vI (Int32.ofNat M0), vI (Int32.ofNat M1), vI (Int32.ofNat M2), vI (Int32.ofNat M3), vR y0, vR y1, vR y2, vR y3, vR b348, vR b469, vJ k0, sX, vJ k1, sX, vJ k2, sX, vJ k3, sX, vJ qq, sX, vI ix] [])) := by
    intro ix T_542 L_542 hix X_542 e_542 N_542
    show OwnWk _ _ _ _ (T_542.setTop (mkF m 235 #[vI z0, vI z1, vI z2, vJ z3, sX, vI (3 : Int32), vI (Int32.ofNat M0), vI (Int32.ofNat M1), vI (Int32.ofNat M2), vI (Int32.ofNat M3), vR y0, vR y1, vR y2, vR y3, vR b348, vR b469, vJ k0, sX, vJ k1, sX, vJ k2, sX, vJ k3, sX, vJ qq, sX, vI ix] []))
    refine own_go (fun tgt kst => XS.iload X_542.here hx rfl (hb hby at_235) rfl  kst) ?_
    refine own_go (fun tgt kst => XS.iconst X_542.here hx rfl (hb hby at_237) kst) ?_
    refine own_go (fun tgt kst => XS.icmpNo X_542.here hx rfl (hb hby at_238) rfl (tlt (by decide : (2 : Int32) < (3 : Int32))).2.2.2 kst) ?_
    refine own_go (fun tgt kst => XS.lload X_542.here hx rfl (hb hby at_241) rfl  kst) ?_
    refine own_go (fun tgt kst => XS.iload X_542.here hx rfl (hb hby at_243) rfl  kst) ?_
    refine own_go (fun tgt kst => XS.lload X_542.here hx rfl (hb hby at_245) rfl  kst) ?_
    show OwnWk _ _ _ _ (T_542.setTop (mkF m 247 #[vI z0, vI z1, vI z2, vJ z3, sX, vI (3 : Int32), vI (Int32.ofNat M0), vI (Int32.ofNat M1), vI (Int32.ofNat M2), vI (Int32.ofNat M3), vR y0, vR y1, vR y2, vR y3, vR b348, vR b469, vJ k0, sX, vJ k1, sX, vJ k2, sX, vJ k3, sX, vJ qq, sX, vI ix] [(.long k0), (.int (Int32.ofNat M2)), (.long qq)]))
    refine own_go (fun tgt kst => XS.lload X_542.here hx rfl (hb hby at_247) rfl  kst) ?_
    refine own_go (fun tgt kst => XS.lload X_542.here hx rfl (hb hby at_249) rfl  kst) ?_
    refine own_go (fun tgt kst => XS.lload X_542.here hx rfl (hb hby at_251) rfl  kst) ?_
    show OwnWk _ _ _ _ (T_542.setTop (mkF m 253 #[vI z0, vI z1, vI z2, vJ z3, sX, vI (3 : Int32), vI (Int32.ofNat M0), vI (Int32.ofNat M1), vI (Int32.ofNat M2), vI (Int32.ofNat M3), vR y0, vR y1, vR y2, vR y3, vR b348, vR b469, vJ k0, sX, vJ k1, sX, vJ k2, sX, vJ k3, sX, vJ qq, sX, vI ix] [(.long k3), (.long k2), (.long k1), (.long k0), (.int (Int32.ofNat M2)), (.long qq)]))
    refine own_callS X_542 hx hZ (y := yN28) hown (wq hw 179 rfl) (wq hw 180 rfl) (wq hw 3 rfl) (wq hw 181 rfl) (by decide) (argsL := [(.int (Int32.ofNat M2)), (.long k0), (.long k1), (.long k2), (.long k3)]) (rest := [(.long qq)])  (h := h507) (smo l Z a0 hw M2 k0 k1 k2 k3 h507 n0 Z528) e_542 (W := 2) (by decide) (by decide) (by decide) (by decide) rfl (by rw [hml]; rfl) (lenOf pd_15 rfl) rfl (by show 2 * 0 + _ ≤ _; exact Nat.le_of_eq rfl) (hb hby at_253) (fun v543 T543 h543 L543 X543 e543 hQ543 => ?_)
    obtain ⟨rfl, Nq543, q543⟩ := hQ543
    have N543 := Fr.app N_542 Nq543
    rw [q543] at e543
    show OwnWk _ _ _ _ (T543.setTop (mkF m 256 #[vI z0, vI z1, vI z2, vJ z3, sX, vI (3 : Int32), vI (Int32.ofNat M0), vI (Int32.ofNat M1), vI (Int32.ofNat M2), vI (Int32.ofNat M3), vR y0, vR y1, vR y2, vR y3, vR b348, vR b469, vJ k0, sX, vJ k1, sX, vJ k2, sX, vJ k3, sX, vJ qq, sX, vI ix] [(.long (own_sumM M2 k0 k1 k2 k3)), (.long qq)]))
    refine own_go (fun tgt kst => XS.lcmp X543.here hx rfl (hb hby at_256) rfl kst) ?_
    show OwnWk _ _ _ _ (T543.setTop (mkF m 257 #[vI z0, vI z1, vI z2, vJ z3, sX, vI (3 : Int32), vI (Int32.ofNat M0), vI (Int32.ofNat M1), vI (Int32.ofNat M2), vI (Int32.ofNat M3), vR y0, vR y1, vR y2, vR y3, vR b348, vR b469, vJ k0, sX, vJ k1, sX, vJ k2, sX, vJ k3, sX, vJ qq, sX, vI ix] [(.int (lcmpW qq (own_sumM M2 k0 k1 k2 k3)))]))
    by_cases hc544 : qq = (own_sumM M2 k0 k1 k2 k3)
    ·
     refine own_go (fun tgt kst => XS.ifNo X543.here hx rfl (hb hby at_257) rfl ((if0 _ _).trans (teq (own_lc_eq.mpr hc544)).2) kst) ?_
     show OwnWk _ _ _ _ (T543.setTop (mkF m 260 #[vI z0, vI z1, vI z2, vJ z3, sX, vI (3 : Int32), vI (Int32.ofNat M0), vI (Int32.ofNat M1), vI (Int32.ofNat M2), vI (Int32.ofNat M3), vR y0, vR y1, vR y2, vR y3, vR b348, vR b469, vJ k0, sX, vJ k1, sX, vJ k2, sX, vJ k3, sX, vJ qq, sX, vI ix] []))
     refine own_go (fun tgt kst => XS.iconst X543.here hx rfl (hb hby at_260) kst) ?_
     refine own_go (fun tgt kst => XS.istore X543.here hx rfl (hb hby at_261) rfl (l' := #[vI z0, vI z1, vI z2, vJ z3, sX, vI (3 : Int32), vI (Int32.ofNat M0), vI (Int32.ofNat M1), vI (Int32.ofNat M2), vI (Int32.ofNat M3), vR y0, vR y1, vR y2, vR y3, vR b348, vR b469, vJ k0, sX, vJ k1, sX, vJ k2, sX, vJ k3, sX, vJ qq, sX, vI (2 : Int32)]) rfl kst) ?_
     show OwnWk _ _ _ _ (T543.setTop (mkF m 263 #[vI z0, vI z1, vI z2, vJ z3, sX, vI (3 : Int32), vI (Int32.ofNat M0), vI (Int32.ofNat M1), vI (Int32.ofNat M2), vI (Int32.ofNat M3), vR y0, vR y1, vR y2, vR y3, vR b348, vR b469, vJ k0, sX, vJ k1, sX, vJ k2, sX, vJ k3, sX, vJ qq, sX, vI (2 : Int32)] []))
     exact LS2 _ _ _ (by show _ = Int32.ofNat (if qq = (own_sumM M2 k0 k1 k2 k3) then 3 else own_Ez (own_f (own_p4 M0 M1 M2 M3) k0 k1 k2 k3) 3 0 qq) - (1 : Int32); rw [if_pos hc544]; rfl) X543 e543 N543
    ·
     refine own_go (fun tgt kst => XS.ifYes X543.here hx rfl (pc0 := 257) (pc' := 263) rfl (hb hby at_257) rfl ((if0 _ _).trans (feq (fun q => hc544 (own_lc_eq.mp q))).2) (by decide) (by decide) kst) ?_
     show OwnWk _ _ _ _ (T543.setTop (mkF m 263 #[vI z0, vI z1, vI z2, vJ z3, sX, vI (3 : Int32), vI (Int32.ofNat M0), vI (Int32.ofNat M1), vI (Int32.ofNat M2), vI (Int32.ofNat M3), vR y0, vR y1, vR y2, vR y3, vR b348, vR b469, vJ k0, sX, vJ k1, sX, vJ k2, sX, vJ k3, sX, vJ qq, sX, vI ix] []))
     exact LS2 _ _ _ (by show _ = Int32.ofNat (if qq = (own_sumM M2 k0 k1 k2 k3) then 3 else own_Ez (own_f (own_p4 M0 M1 M2 M3) k0 k1 k2 k3) 3 0 qq) - (1 : Int32); rw [if_neg hc544]; exact hix) X543 e543 N543
   show OwnWk _ _ _ _ (T_533.setTop (mkF m 202 #[vI z0, vI z1, vI z2, vJ z3, sX, vI (3 : Int32), vI (Int32.ofNat M0), vI (Int32.ofNat M1), vI (Int32.ofNat M2), vI (Int32.ofNat M3), vR y0, vR y1, vR y2, vR y3, vR b348, vR b469, vJ k0, sX, vJ k1, sX, vJ k2, sX, vJ k3, sX, uX, uX, uX] [(.long qq)]))
   refine own_go (fun tgt kst => XS.lstore X_533.here hx rfl (hb hby at_202) rfl (l' := #[vI z0, vI z1, vI z2, vJ z3, sX, vI (3 : Int32), vI (Int32.ofNat M0), vI (Int32.ofNat M1), vI (Int32.ofNat M2), vI (Int32.ofNat M3), vR y0, vR y1, vR y2, vR y3, vR b348, vR b469, vJ k0, sX, vJ k1, sX, vJ k2, sX, vJ k3, sX, vJ qq, sX, uX]) rfl kst) ?_
   refine own_go (fun tgt kst => XS.iconst X_533.here hx rfl (hb hby at_204) kst) ?_
   refine own_go (fun tgt kst => XS.istore X_533.here hx rfl (hb hby at_205) rfl (l' := #[vI z0, vI z1, vI z2, vJ z3, sX, vI (3 : Int32), vI (Int32.ofNat M0), vI (Int32.ofNat M1), vI (Int32.ofNat M2), vI (Int32.ofNat M3), vR y0, vR y1, vR y2, vR y3, vR b348, vR b469, vJ k0, sX, vJ k1, sX, vJ k2, sX, vJ k3, sX, vJ qq, sX, vI (-1 : Int32)]) rfl kst) ?_
   show OwnWk _ _ _ _ (T_533.setTop (mkF m 207 #[vI z0, vI z1, vI z2, vJ z3, sX, vI (3 : Int32), vI (Int32.ofNat M0), vI (Int32.ofNat M1), vI (Int32.ofNat M2), vI (Int32.ofNat M3), vR y0, vR y1, vR y2, vR y3, vR b348, vR b469, vJ k0, sX, vJ k1, sX, vJ k2, sX, vJ k3, sX, vJ qq, sX, vI (-1 : Int32)] []))
   refine own_go (fun tgt kst => XS.iload X_533.here hx rfl (hb hby at_207) rfl  kst) ?_
   refine own_go (fun tgt kst => XS.iconst X_533.here hx rfl (hb hby at_209) kst) ?_
   refine own_go (fun tgt kst => XS.icmpYes X_533.here hx rfl (pc0 := 210) (pc' := 235) rfl (hb hby at_210) rfl (flt (by decide : ¬ ((3 : Int32) < (3 : Int32)))).2.2.2 (by decide) (by decide) kst) ?_
   show OwnWk _ _ _ _ (T_533.setTop (mkF m 235 #[vI z0, vI z1, vI z2, vJ z3, sX, vI (3 : Int32), vI (Int32.ofNat M0), vI (Int32.ofNat M1), vI (Int32.ofNat M2), vI (Int32.ofNat M3), vR y0, vR y1, vR y2, vR y3, vR b348, vR b469, vJ k0, sX, vJ k1, sX, vJ k2, sX, vJ k3, sX, vJ qq, sX, vI (-1 : Int32)] []))
   exact LS3 _ _ _ rfl X_533 e_533 N_533
  show OwnWk _ _ _ _ (T532.setTop (mkF m 176 #[vI z0, vI z1, vI z2, vJ z3, sX, vI (3 : Int32), vI (Int32.ofNat M0), vI (Int32.ofNat M1), vI (Int32.ofNat M2), vI (Int32.ofNat M3), vR y0, vR y1, vR y2, vR y3, vR b348, vR b469, vJ k0, sX, vJ k1, sX, vJ k2, sX, vJ k3, sX, uX, uX, uX] []))
  refine own_go (fun tgt kst => XS.iloadN X532.here hx rfl (hb hby at_176) rfl  kst) ?_
  refine own_go (fun tgt kst => XS.bipush X532.here hx rfl (hb hby at_177) kst) ?_
  refine own_go (fun tgt kst => XS.iand X532.here hx rfl (hb hby at_179) rfl kst) ?_
  show OwnWk _ _ _ _ (T532.setTop (mkF m 180 #[vI z0, vI z1, vI z2, vJ z3, sX, vI (3 : Int32), vI (Int32.ofNat M0), vI (Int32.ofNat M1), vI (Int32.ofNat M2), vI (Int32.ofNat M3), vR y0, vR y1, vR y2, vR y3, vR b348, vR b469, vJ k0, sX, vJ k1, sX, vJ k2, sX, vJ k3, sX, uX, uX, uX] [(.int (z2 &&& (16 : Int32)))]))
  by_cases hc545 : (z2 &&& (16 : Int32)) = (0 : Int32)
  ·
   refine own_go (fun tgt kst => XS.ifYes X532.here hx rfl (pc0 := 180) (pc' := 187) rfl (hb hby at_180) rfl ((if0 _ _).trans (teq hc545).1) (by decide) (by decide) kst) ?_
   show OwnWk _ _ _ _ (T532.setTop (mkF m 187 #[vI z0, vI z1, vI z2, vJ z3, sX, vI (3 : Int32), vI (Int32.ofNat M0), vI (Int32.ofNat M1), vI (Int32.ofNat M2), vI (Int32.ofNat M3), vR y0, vR y1, vR y2, vR y3, vR b348, vR b469, vJ k0, sX, vJ k1, sX, vJ k2, sX, vJ k3, sX, uX, uX, uX] []))
   refine own_go (fun tgt kst => XS.iloadN X532.here hx rfl (hb hby at_187) rfl  kst) ?_
   refine own_go (fun tgt kst => XS.bipush X532.here hx rfl (hb hby at_188) kst) ?_
   refine own_go (fun tgt kst => XS.iand X532.here hx rfl (hb hby at_190) rfl kst) ?_
   show OwnWk _ _ _ _ (T532.setTop (mkF m 191 #[vI z0, vI z1, vI z2, vJ z3, sX, vI (3 : Int32), vI (Int32.ofNat M0), vI (Int32.ofNat M1), vI (Int32.ofNat M2), vI (Int32.ofNat M3), vR y0, vR y1, vR y2, vR y3, vR b348, vR b469, vJ k0, sX, vJ k1, sX, vJ k2, sX, vJ k3, sX, uX, uX, uX] [(.int (z2 &&& (15 : Int32)))]))
   obtain ⟨MQ, hMQ, eMQ⟩ := own_and_nat z2 15 (by decide)
   rw [show (z2 &&& (15 : Int32)) = Int32.ofNat MQ from eMQ]
   show OwnWk _ _ _ _ (T532.setTop (mkF m 191 #[vI z0, vI z1, vI z2, vJ z3, sX, vI (3 : Int32), vI (Int32.ofNat M0), vI (Int32.ofNat M1), vI (Int32.ofNat M2), vI (Int32.ofNat M3), vR y0, vR y1, vR y2, vR y3, vR b348, vR b469, vJ k0, sX, vJ k1, sX, vJ k2, sX, vJ k3, sX, uX, uX, uX] [(.int (Int32.ofNat MQ))]))
   refine own_go (fun tgt kst => XS.lload X532.here hx rfl (hb hby at_191) rfl  kst) ?_
   refine own_go (fun tgt kst => XS.lload X532.here hx rfl (hb hby at_193) rfl  kst) ?_
   refine own_go (fun tgt kst => XS.lload X532.here hx rfl (hb hby at_195) rfl  kst) ?_
   refine own_go (fun tgt kst => XS.lload X532.here hx rfl (hb hby at_197) rfl  kst) ?_
   show OwnWk _ _ _ _ (T532.setTop (mkF m 199 #[vI z0, vI z1, vI z2, vJ z3, sX, vI (3 : Int32), vI (Int32.ofNat M0), vI (Int32.ofNat M1), vI (Int32.ofNat M2), vI (Int32.ofNat M3), vR y0, vR y1, vR y2, vR y3, vR b348, vR b469, vJ k0, sX, vJ k1, sX, vJ k2, sX, vJ k3, sX, uX, uX, uX] [(.long k3), (.long k2), (.long k1), (.long k0), (.int (Int32.ofNat MQ))]))
   refine own_callS X532 hx hZ (y := yN28) hown (wq hw 179 rfl) (wq hw 180 rfl) (wq hw 3 rfl) (wq hw 181 rfl) (by decide) (argsL := [(.int (Int32.ofNat MQ)), (.long k0), (.long k1), (.long k2), (.long k3)]) (rest := [])  (h := h507) (smo l Z a0 hw MQ k0 k1 k2 k3 h507 n0 Z528) e532 (W := 0) (by decide) (by decide) (by decide) (by decide) rfl (by rw [hml]; rfl) (lenOf pd_15 rfl) rfl (by show 2 * 0 + _ ≤ _; exact Nat.le_of_eq rfl) (hb hby at_199) (fun v546 T546 h546 L546 X546 e546 hQ546 => ?_)
   obtain ⟨rfl, Nq546, q546⟩ := hQ546
   have N546 := Fr.app N532 Nq546
   rw [q546] at e546
   show OwnWk _ _ _ _ (T546.setTop (mkF m 202 #[vI z0, vI z1, vI z2, vJ z3, sX, vI (3 : Int32), vI (Int32.ofNat M0), vI (Int32.ofNat M1), vI (Int32.ofNat M2), vI (Int32.ofNat M3), vR y0, vR y1, vR y2, vR y3, vR b348, vR b469, vJ k0, sX, vJ k1, sX, vJ k2, sX, vJ k3, sX, uX, uX, uX] [(.long (own_sumM MQ k0 k1 k2 k3))]))
   exact LQ _ _ _  X546 e546 N546
  ·
   refine own_go (fun tgt kst => XS.ifNo X532.here hx rfl (hb hby at_180) rfl ((if0 _ _).trans (feq hc545).1) kst) ?_
   show OwnWk _ _ _ _ (T532.setTop (mkF m 183 #[vI z0, vI z1, vI z2, vJ z3, sX, vI (3 : Int32), vI (Int32.ofNat M0), vI (Int32.ofNat M1), vI (Int32.ofNat M2), vI (Int32.ofNat M3), vR y0, vR y1, vR y2, vR y3, vR b348, vR b469, vJ k0, sX, vJ k1, sX, vJ k2, sX, vJ k3, sX, uX, uX, uX] []))
   refine own_go (fun tgt kst => XS.lloadN X532.here hx rfl (hb hby at_183) rfl  kst) ?_
   refine own_go (fun tgt kst => XS.goto X532.here hx rfl (pc0 := 184) (pc' := 202) rfl (hb hby at_184) (by decide) (by decide) kst) ?_
   show OwnWk _ _ _ _ (T532.setTop (mkF m 202 #[vI z0, vI z1, vI z2, vJ z3, sX, vI (3 : Int32), vI (Int32.ofNat M0), vI (Int32.ofNat M1), vI (Int32.ofNat M2), vI (Int32.ofNat M3), vR y0, vR y1, vR y2, vR y3, vR b348, vR b469, vJ k0, sX, vJ k1, sX, vJ k2, sX, vJ k3, sX, uX, uX, uX] [(.long z3)]))
   exact LQ _ _ _  X532 e532 N532
 ·
  show OwnWk _ _ _ _ (T52.setTop (mkF m 68 #[vI z0, vI z1, vI z2, vJ z3, sX, vI (4 : Int32), vI (Int32.ofNat M0), vI (Int32.ofNat M1), vI (Int32.ofNat M2), vI (Int32.ofNat M3), vR y0, vR y1, vR y2, vR y3, uX, uX, uX, uX, uX, uX, uX, uX, uX, uX, uX, uX, uX] []))
  obtain ⟨T547, h547, X547, e547, E547, A547, D547, -, st547⟩ := newO X52 hx hZ hown (wq hw 29 rfl) (wq hw 30 rfl) (wq hw 31 rfl) e52 (g := (mkF m 68 #[vI z0, vI z1, vI z2, vJ z3, sX, vI (4 : Int32), vI (Int32.ofNat M0), vI (Int32.ofNat M1), vI (Int32.ofNat M2), vI (Int32.ofNat M3), vR y0, vR y1, vR y2, vR y3, uX, uX, uX, uX, uX, uX, uX, uX, uX, uX, uX, uX, uX] [])) rfl (hb hby at_68) (by decide) (by decide)
  obtain ⟨b547, g547⟩ : ∃ z, z = h52.size := ⟨_, rfl⟩
  rw [← g547] at A547 D547 st547
  refine own_go st547 ?_
  have ne548 := own_nl F54.lt (Nat.le_of_eq g547.symm)
  have ne549 := own_nl F57.lt (Nat.le_of_eq g547.symm)
  have ne550 := own_nl F58.lt (Nat.le_of_eq g547.symm)
  have ne551 := own_nl F61.lt (Nat.le_of_eq g547.symm)
  have ne552 := own_nl F62.lt (Nat.le_of_eq g547.symm)
  have ne553 := own_nl F65.lt (Nat.le_of_eq g547.symm)
  have ne554 := own_nl Fz52_0.lt (Nat.le_of_eq g547.symm)
  have ne555 := own_nl Fz52_3.lt (Nat.le_of_eq g547.symm)
  have ge556 : n0 ≤ b547 := Nat.le_trans Z66 (Nat.le_of_eq g547.symm)
  have F557 := Old.ext F53 E547
  have F558 := Exa.ext E547 F54
  have F559 := Fld.ext E547 F55
  have F560 := Fld.ext E547 F56
  have F561 := OAr.ext F57 E547
  have F562 := Exa.ext E547 F58
  have F563 := Fld.ext E547 F59
  have F564 := Fld.ext E547 F60
  have F565 := OAr.ext F61 E547
  have F566 := Exa.ext E547 F62
  have F567 := Fld.ext E547 F63
  have F568 := Fld.ext E547 F64
  have F569 := OAr.ext F65 E547
  have F570 := Exa.ext E547 Fz52_0
  have F571 := Fld.ext E547 Fz52_1
  have F572 := Fld.ext E547 Fz52_2
  have F573 := OAr.ext Fz52_3 E547
  have Z574 := Nat.le_trans Z66 E547.1
  have F575 : Fld Z h547 b547 "java/util/AbstractList" "modCount" "I" (.int (0 : Int32)) := D547 (Or.inl (wq hw 49 rfl)) (ty := .int) (by decide)
  have F576 : Fld Z h547 b547 "java/util/ArrayList" "elementData" "[Ljava/lang/Object;" .null := D547 (Or.inl (wq hw 52 rfl)) (ty := (.array (.object "java/lang/Object"))) (by decide)
  have F577 : Fld Z h547 b547 "java/util/ArrayList" "size" "I" (.int (0 : Int32)) := D547 (Or.inl (wq hw 61 rfl)) (ty := .int) (by decide)
  show OwnWk _ _ _ _ (T547.setTop (mkF m 71 #[vI z0, vI z1, vI z2, vJ z3, sX, vI (4 : Int32), vI (Int32.ofNat M0), vI (Int32.ofNat M1), vI (Int32.ofNat M2), vI (Int32.ofNat M3), vR y0, vR y1, vR y2, vR y3, uX, uX, uX, uX, uX, uX, uX, uX, uX, uX, uX, uX, uX] [(.ref b547)]))
  refine own_go (fun tgt kst => XS.dup X547.here hx rfl (hb hby at_71) rfl rfl kst) ?_
  show OwnWk _ _ _ _ (T547.setTop (mkF m 72 #[vI z0, vI z1, vI z2, vJ z3, sX, vI (4 : Int32), vI (Int32.ofNat M0), vI (Int32.ofNat M1), vI (Int32.ofNat M2), vI (Int32.ofNat M3), vR y0, vR y1, vR y2, vR y3, uX, uX, uX, uX, uX, uX, uX, uX, uX, uX, uX, uX, uX] [(.ref b547), (.ref b547)]))
  refine own_callC X547 hx hZ (y := yN6) hown rfl (wq hw 32 rfl) (wq hw 33 rfl) (wq hw 31 rfl) (wq hw 34 rfl) (by decide) (a := b547) (argsL := []) (rest := [(.ref b547)])  (h := h547) (rm6 l Z a0 hw dce b547 h547 n0 Z574 F557 S_d V_d S_a A547 ge556 F575 F576 F577) e547 (W := 1) (by decide) (by decide) (by decide) (by decide) rfl (by rw [hml]; rfl) (lenOf pd_2 rfl) rfl (by show 2 * 0 + _ ≤ _; exact Nat.le_of_eq rfl) (hb hby at_72) (fun v578 T578 h578 L578 X578 e578 hQ578 => ?_)
  obtain ⟨rfl, Nq578, Kq578, Fm578, Fe578, Fs578⟩ := hQ578
  have N578 := Fr.app N52 Nq578
  have F579 := Old.keep F557 Kq578 (allS ge556 all0)
  have F580 := Exa.keep F558 Kq578
  have F581 := Fld.keep F559 Kq578 (ninS ne548 nin0)
  have F582 := Fld.keep F560 Kq578 (ninS ne548 nin0)
  have F583 := OAr.keep F561 Kq578 (ninS ne549 nin0)
  have F584 := Exa.keep F562 Kq578
  have F585 := Fld.keep F563 Kq578 (ninS ne550 nin0)
  have F586 := Fld.keep F564 Kq578 (ninS ne550 nin0)
  have F587 := OAr.keep F565 Kq578 (ninS ne551 nin0)
  have F588 := Exa.keep F566 Kq578
  have F589 := Fld.keep F567 Kq578 (ninS ne552 nin0)
  have F590 := Fld.keep F568 Kq578 (ninS ne552 nin0)
  have F591 := OAr.keep F569 Kq578 (ninS ne553 nin0)
  have F592 := Exa.keep F570 Kq578
  have F593 := Fld.keep F571 Kq578 (ninS ne554 nin0)
  have F594 := Fld.keep F572 Kq578 (ninS ne554 nin0)
  have F595 := OAr.keep F573 Kq578 (ninS ne555 nin0)
  have F596 := Exa.keep A547 Kq578
  have Z597 := Nat.le_trans Z574 Kq578.1
  show OwnWk _ _ _ _ (T578.setTop (mkF m 75 #[vI z0, vI z1, vI z2, vJ z3, sX, vI (4 : Int32), vI (Int32.ofNat M0), vI (Int32.ofNat M1), vI (Int32.ofNat M2), vI (Int32.ofNat M3), vR y0, vR y1, vR y2, vR y3, uX, uX, uX, uX, uX, uX, uX, uX, uX, uX, uX, uX, uX] [(.ref b547)]))
  refine own_go (fun tgt kst => XS.astore X578.here hx rfl (hb hby at_75) rfl rfl (l' := #[vI z0, vI z1, vI z2, vJ z3, sX, vI (4 : Int32), vI (Int32.ofNat M0), vI (Int32.ofNat M1), vI (Int32.ofNat M2), vI (Int32.ofNat M3), vR y0, vR y1, vR y2, vR y3, vR b547, uX, uX, uX, uX, uX, uX, uX, uX, uX, uX, uX, uX]) rfl kst) ?_
  refine own_go (fun tgt kst => XS.iload X578.here hx rfl (hb hby at_77) rfl  kst) ?_
  refine own_go (fun tgt kst => XS.ifNo X578.here hx rfl (hb hby at_79) rfl ((if0 _ _).trans (tlt (by decide : (0 : Int32) < (4 : Int32))).2.2.2) kst) ?_
  refine own_go (fun tgt kst => XS.aload X578.here hx rfl (hb hby at_82) rfl rfl  kst) ?_
  refine own_go (fun tgt kst => XS.aload X578.here hx rfl (hb hby at_84) rfl rfl  kst) ?_
  show OwnWk _ _ _ _ (T578.setTop (mkF m 86 #[vI z0, vI z1, vI z2, vJ z3, sX, vI (4 : Int32), vI (Int32.ofNat M0), vI (Int32.ofNat M1), vI (Int32.ofNat M2), vI (Int32.ofNat M3), vR y0, vR y1, vR y2, vR y3, vR b547, uX, uX, uX, uX, uX, uX, uX, uX, uX, uX, uX, uX] [(.ref y0), (.ref b547)]))
  have lt598 : y0 < h578.size := F580.lt
  have lt599 : w0_ < h578.size := F583.lt
  have lt600 : y1 < h578.size := F584.lt
  have lt601 : w1_ < h578.size := F587.lt
  have lt602 : y2 < h578.size := F588.lt
  have lt603 : w2_ < h578.size := F591.lt
  have lt604 : y3 < h578.size := F592.lt
  have lt605 : w3_ < h578.size := F595.lt
  have lt606 : b547 < h578.size := F596.lt
  refine own_callV X578 hx hZ (y := yN9) (z := yN9) hown (wq hw 53 rfl) (wq hw 54 rfl) (notFace_of_selects (args := #[]) (mvT hZ (wq hw 56 rfl))) (wq hw 56 rfl) (wq hw 55 rfl) (wq hw 31 rfl) (wq hw 57 rfl) (by decide) (a := b547) F596 (argsL := [(.ref y0)]) (rest := [])  (h := h578) (adB0 l Z a0 hw dce b547 y0 h578 n0 Z597 F579 S_d V_d S_a (Ins.of_exa F580 (wq hw 83 rfl)) F596 ge556 Fm578 Fe578 Fs578) e578 (W := 0) (by decide) (by decide) (by decide) (by decide) rfl (by rw [hml]; rfl) (lenOf pd_16 rfl) rfl (by show 2 * 0 + _ ≤ _; exact Nat.le_of_eq rfl) (hb hby at_86) (fun v607 T607 h607 L607 X607 e607 hQ607 => ?_)
  obtain ⟨ed, rfl, Nq607, Kq607, szed, ged, Fm607, Fe607, Fs607, Vq607, Oq607⟩ := hQ607
  have N607 := Fr.app N578 Nq607
  have F608 := Old.keep F579 Kq607 (allS ge556 all0)
  have F609 := Exa.keep F580 Kq607
  have F610 := Fld.keep F581 Kq607 (ninS ne548 nin0)
  have F611 := Fld.keep F582 Kq607 (ninS ne548 nin0)
  have F612 := OAr.keep F583 Kq607 (ninS ne549 nin0)
  have F613 := Exa.keep F584 Kq607
  have F614 := Fld.keep F585 Kq607 (ninS ne550 nin0)
  have F615 := Fld.keep F586 Kq607 (ninS ne550 nin0)
  have F616 := OAr.keep F587 Kq607 (ninS ne551 nin0)
  have F617 := Exa.keep F588 Kq607
  have F618 := Fld.keep F589 Kq607 (ninS ne552 nin0)
  have F619 := Fld.keep F590 Kq607 (ninS ne552 nin0)
  have F620 := OAr.keep F591 Kq607 (ninS ne553 nin0)
  have F621 := Exa.keep F592 Kq607
  have F622 := Fld.keep F593 Kq607 (ninS ne554 nin0)
  have F623 := Fld.keep F594 Kq607 (ninS ne554 nin0)
  have F624 := OAr.keep F595 Kq607 (ninS ne555 nin0)
  have F625 := Exa.keep F596 Kq607
  have Z626 := Nat.le_trans Z597 Kq607.1
  have ne627 := own_nl lt598 szed
  have ne628 := own_nl lt599 szed
  have ne629 := own_nl lt600 szed
  have ne630 := own_nl lt601 szed
  have ne631 := own_nl lt602 szed
  have ne632 := own_nl lt603 szed
  have ne633 := own_nl lt604 szed
  have ne634 := own_nl lt605 szed
  have ne635 := own_nl lt606 szed
  show OwnWk _ _ _ _ (T607.setTop (mkF m 89 #[vI z0, vI z1, vI z2, vJ z3, sX, vI (4 : Int32), vI (Int32.ofNat M0), vI (Int32.ofNat M1), vI (Int32.ofNat M2), vI (Int32.ofNat M3), vR y0, vR y1, vR y2, vR y3, vR b547, uX, uX, uX, uX, uX, uX, uX, uX, uX, uX, uX, uX] [(.int (1 : Int32))]))
  refine own_go (fun tgt kst => XS.pop X607.here hx rfl (hb hby at_89) rfl rfl kst) ?_
  refine own_go (fun tgt kst => XS.iload X607.here hx rfl (hb hby at_90) rfl  kst) ?_
  refine own_go (fun tgt kst => XS.iconst X607.here hx rfl (hb hby at_92) kst) ?_
  refine own_go (fun tgt kst => XS.icmpNo X607.here hx rfl (hb hby at_93) rfl (tlt (by decide : (1 : Int32) < (4 : Int32))).2.2.2 kst) ?_
  refine own_go (fun tgt kst => XS.aload X607.here hx rfl (hb hby at_96) rfl rfl  kst) ?_
  refine own_go (fun tgt kst => XS.aload X607.here hx rfl (hb hby at_98) rfl rfl  kst) ?_
  show OwnWk _ _ _ _ (T607.setTop (mkF m 100 #[vI z0, vI z1, vI z2, vJ z3, sX, vI (4 : Int32), vI (Int32.ofNat M0), vI (Int32.ofNat M1), vI (Int32.ofNat M2), vI (Int32.ofNat M3), vR y0, vR y1, vR y2, vR y3, vR b547, uX, uX, uX, uX, uX, uX, uX, uX, uX, uX, uX, uX] [(.ref y1), (.ref b547)]))
  have lt636 : y0 < h607.size := F609.lt
  have lt637 : w0_ < h607.size := F612.lt
  have lt638 : y1 < h607.size := F613.lt
  have lt639 : w1_ < h607.size := F616.lt
  have lt640 : y2 < h607.size := F617.lt
  have lt641 : w2_ < h607.size := F620.lt
  have lt642 : y3 < h607.size := F621.lt
  have lt643 : w3_ < h607.size := F624.lt
  have lt644 : b547 < h607.size := F625.lt
  have lt645 : ed < h607.size := Vq607.lt
  refine own_callV X607 hx hZ (y := yN9) (z := yN9) hown (wq hw 53 rfl) (wq hw 54 rfl) (notFace_of_selects (args := #[]) (mvT hZ (wq hw 56 rfl))) (wq hw 56 rfl) (wq hw 55 rfl) (wq hw 31 rfl) (wq hw 57 rfl) (by decide) (a := b547) F625 (argsL := [(.ref y1)]) (rest := [])  (h := h607) (adB1 l Z a0 hw dce b547 y1 ed y0 h607 n0 Z626 F608 S_d V_d S_a (Ins.of_exa F613 (wq hw 83 rfl)) F625 ge556 Fm607 Fe607 Fs607 ged ne635 Vq607 Oq607) e607 (W := 0) (by decide) (by decide) (by decide) (by decide) rfl (by rw [hml]; rfl) (lenOf pd_16 rfl) rfl (by show 2 * 0 + _ ≤ _; exact Nat.le_of_eq rfl) (hb hby at_100) (fun v646 T646 h646 L646 X646 e646 hQ646 => ?_)
  obtain ⟨rfl, Nq646, Kq646, Fm646, Fe646, Fs646, Vq646, Oq646⟩ := hQ646
  have N646 := Fr.app N607 Nq646
  have F647 := Old.keep F608 Kq646 (allS ge556 (allS ged all0))
  have F648 := Exa.keep F609 Kq646
  have F649 := Fld.keep F610 Kq646 (ninS ne548 (ninS ne627 nin0))
  have F650 := Fld.keep F611 Kq646 (ninS ne548 (ninS ne627 nin0))
  have F651 := OAr.keep F612 Kq646 (ninS ne549 (ninS ne628 nin0))
  have F652 := Exa.keep F613 Kq646
  have F653 := Fld.keep F614 Kq646 (ninS ne550 (ninS ne629 nin0))
  have F654 := Fld.keep F615 Kq646 (ninS ne550 (ninS ne629 nin0))
  have F655 := OAr.keep F616 Kq646 (ninS ne551 (ninS ne630 nin0))
  have F656 := Exa.keep F617 Kq646
  have F657 := Fld.keep F618 Kq646 (ninS ne552 (ninS ne631 nin0))
  have F658 := Fld.keep F619 Kq646 (ninS ne552 (ninS ne631 nin0))
  have F659 := OAr.keep F620 Kq646 (ninS ne553 (ninS ne632 nin0))
  have F660 := Exa.keep F621 Kq646
  have F661 := Fld.keep F622 Kq646 (ninS ne554 (ninS ne633 nin0))
  have F662 := Fld.keep F623 Kq646 (ninS ne554 (ninS ne633 nin0))
  have F663 := OAr.keep F624 Kq646 (ninS ne555 (ninS ne634 nin0))
  have F664 := Exa.keep F625 Kq646
  have F665 := OOv.keep Oq607 Kq646
  have Z666 := Nat.le_trans Z626 Kq646.1
  show OwnWk _ _ _ _ (T646.setTop (mkF m 103 #[vI z0, vI z1, vI z2, vJ z3, sX, vI (4 : Int32), vI (Int32.ofNat M0), vI (Int32.ofNat M1), vI (Int32.ofNat M2), vI (Int32.ofNat M3), vR y0, vR y1, vR y2, vR y3, vR b547, uX, uX, uX, uX, uX, uX, uX, uX, uX, uX, uX, uX] [(.int (1 : Int32))]))
  refine own_go (fun tgt kst => XS.pop X646.here hx rfl (hb hby at_103) rfl rfl kst) ?_
  refine own_go (fun tgt kst => XS.iload X646.here hx rfl (hb hby at_104) rfl  kst) ?_
  refine own_go (fun tgt kst => XS.iconst X646.here hx rfl (hb hby at_106) kst) ?_
  refine own_go (fun tgt kst => XS.icmpNo X646.here hx rfl (hb hby at_107) rfl (tlt (by decide : (2 : Int32) < (4 : Int32))).2.2.2 kst) ?_
  refine own_go (fun tgt kst => XS.aload X646.here hx rfl (hb hby at_110) rfl rfl  kst) ?_
  refine own_go (fun tgt kst => XS.aload X646.here hx rfl (hb hby at_112) rfl rfl  kst) ?_
  show OwnWk _ _ _ _ (T646.setTop (mkF m 114 #[vI z0, vI z1, vI z2, vJ z3, sX, vI (4 : Int32), vI (Int32.ofNat M0), vI (Int32.ofNat M1), vI (Int32.ofNat M2), vI (Int32.ofNat M3), vR y0, vR y1, vR y2, vR y3, vR b547, uX, uX, uX, uX, uX, uX, uX, uX, uX, uX, uX, uX] [(.ref y2), (.ref b547)]))
  have lt667 : y0 < h646.size := F648.lt
  have lt668 : w0_ < h646.size := F651.lt
  have lt669 : y1 < h646.size := F652.lt
  have lt670 : w1_ < h646.size := F655.lt
  have lt671 : y2 < h646.size := F656.lt
  have lt672 : w2_ < h646.size := F659.lt
  have lt673 : y3 < h646.size := F660.lt
  have lt674 : w3_ < h646.size := F663.lt
  have lt675 : b547 < h646.size := F664.lt
  have lt676 : ed < h646.size := Vq646.lt
  refine own_callV X646 hx hZ (y := yN9) (z := yN9) hown (wq hw 53 rfl) (wq hw 54 rfl) (notFace_of_selects (args := #[]) (mvT hZ (wq hw 56 rfl))) (wq hw 56 rfl) (wq hw 55 rfl) (wq hw 31 rfl) (wq hw 57 rfl) (by decide) (a := b547) F664 (argsL := [(.ref y2)]) (rest := [])  (h := h646) (adB2 l Z a0 hw dce b547 y2 ed y0 y1 h646 n0 Z666 F647 S_d V_d S_a (Ins.of_exa F656 (wq hw 83 rfl)) F664 ge556 Fm646 Fe646 Fs646 ged ne635 Vq646 Oq646) e646 (W := 0) (by decide) (by decide) (by decide) (by decide) rfl (by rw [hml]; rfl) (lenOf pd_16 rfl) rfl (by show 2 * 0 + _ ≤ _; exact Nat.le_of_eq rfl) (hb hby at_114) (fun v677 T677 h677 L677 X677 e677 hQ677 => ?_)
  obtain ⟨rfl, Nq677, Kq677, Fm677, Fe677, Fs677, Vq677, Oq677⟩ := hQ677
  have N677 := Fr.app N646 Nq677
  have F678 := Old.keep F647 Kq677 (allS ge556 (allS ged all0))
  have F679 := Exa.keep F648 Kq677
  have F680 := Fld.keep F649 Kq677 (ninS ne548 (ninS ne627 nin0))
  have F681 := Fld.keep F650 Kq677 (ninS ne548 (ninS ne627 nin0))
  have F682 := OAr.keep F651 Kq677 (ninS ne549 (ninS ne628 nin0))
  have F683 := Exa.keep F652 Kq677
  have F684 := Fld.keep F653 Kq677 (ninS ne550 (ninS ne629 nin0))
  have F685 := Fld.keep F654 Kq677 (ninS ne550 (ninS ne629 nin0))
  have F686 := OAr.keep F655 Kq677 (ninS ne551 (ninS ne630 nin0))
  have F687 := Exa.keep F656 Kq677
  have F688 := Fld.keep F657 Kq677 (ninS ne552 (ninS ne631 nin0))
  have F689 := Fld.keep F658 Kq677 (ninS ne552 (ninS ne631 nin0))
  have F690 := OAr.keep F659 Kq677 (ninS ne553 (ninS ne632 nin0))
  have F691 := Exa.keep F660 Kq677
  have F692 := Fld.keep F661 Kq677 (ninS ne554 (ninS ne633 nin0))
  have F693 := Fld.keep F662 Kq677 (ninS ne554 (ninS ne633 nin0))
  have F694 := OAr.keep F663 Kq677 (ninS ne555 (ninS ne634 nin0))
  have F695 := Exa.keep F664 Kq677
  have F696 := OOv.keep Oq646 Kq677
  have Z697 := Nat.le_trans Z666 Kq677.1
  show OwnWk _ _ _ _ (T677.setTop (mkF m 117 #[vI z0, vI z1, vI z2, vJ z3, sX, vI (4 : Int32), vI (Int32.ofNat M0), vI (Int32.ofNat M1), vI (Int32.ofNat M2), vI (Int32.ofNat M3), vR y0, vR y1, vR y2, vR y3, vR b547, uX, uX, uX, uX, uX, uX, uX, uX, uX, uX, uX, uX] [(.int (1 : Int32))]))
  refine own_go (fun tgt kst => XS.pop X677.here hx rfl (hb hby at_117) rfl rfl kst) ?_
  refine own_go (fun tgt kst => XS.iload X677.here hx rfl (hb hby at_118) rfl  kst) ?_
  refine own_go (fun tgt kst => XS.iconst X677.here hx rfl (hb hby at_120) kst) ?_
  refine own_go (fun tgt kst => XS.icmpNo X677.here hx rfl (hb hby at_121) rfl (tlt (by decide : (3 : Int32) < (4 : Int32))).2.2.2 kst) ?_
  refine own_go (fun tgt kst => XS.aload X677.here hx rfl (hb hby at_124) rfl rfl  kst) ?_
  refine own_go (fun tgt kst => XS.aload X677.here hx rfl (hb hby at_126) rfl rfl  kst) ?_
  show OwnWk _ _ _ _ (T677.setTop (mkF m 128 #[vI z0, vI z1, vI z2, vJ z3, sX, vI (4 : Int32), vI (Int32.ofNat M0), vI (Int32.ofNat M1), vI (Int32.ofNat M2), vI (Int32.ofNat M3), vR y0, vR y1, vR y2, vR y3, vR b547, uX, uX, uX, uX, uX, uX, uX, uX, uX, uX, uX, uX] [(.ref y3), (.ref b547)]))
  have lt698 : y0 < h677.size := F679.lt
  have lt699 : w0_ < h677.size := F682.lt
  have lt700 : y1 < h677.size := F683.lt
  have lt701 : w1_ < h677.size := F686.lt
  have lt702 : y2 < h677.size := F687.lt
  have lt703 : w2_ < h677.size := F690.lt
  have lt704 : y3 < h677.size := F691.lt
  have lt705 : w3_ < h677.size := F694.lt
  have lt706 : b547 < h677.size := F695.lt
  have lt707 : ed < h677.size := Vq677.lt
  refine own_callV X677 hx hZ (y := yN9) (z := yN9) hown (wq hw 53 rfl) (wq hw 54 rfl) (notFace_of_selects (args := #[]) (mvT hZ (wq hw 56 rfl))) (wq hw 56 rfl) (wq hw 55 rfl) (wq hw 31 rfl) (wq hw 57 rfl) (by decide) (a := b547) F695 (argsL := [(.ref y3)]) (rest := [])  (h := h677) (adB3 l Z a0 hw dce b547 y3 ed y0 y1 y2 h677 n0 Z697 F678 S_d V_d S_a (Ins.of_exa F691 (wq hw 83 rfl)) F695 ge556 Fm677 Fe677 Fs677 ged ne635 Vq677 Oq677) e677 (W := 0) (by decide) (by decide) (by decide) (by decide) rfl (by rw [hml]; rfl) (lenOf pd_16 rfl) rfl (by show 2 * 0 + _ ≤ _; exact Nat.le_of_eq rfl) (hb hby at_128) (fun v708 T708 h708 L708 X708 e708 hQ708 => ?_)
  obtain ⟨rfl, Nq708, Kq708, Fm708, Fe708, Fs708, Vq708, Oq708⟩ := hQ708
  have N708 := Fr.app N677 Nq708
  have F709 := Old.keep F678 Kq708 (allS ge556 (allS ged all0))
  have F710 := Exa.keep F679 Kq708
  have F711 := Fld.keep F680 Kq708 (ninS ne548 (ninS ne627 nin0))
  have F712 := Fld.keep F681 Kq708 (ninS ne548 (ninS ne627 nin0))
  have F713 := OAr.keep F682 Kq708 (ninS ne549 (ninS ne628 nin0))
  have F714 := Exa.keep F683 Kq708
  have F715 := Fld.keep F684 Kq708 (ninS ne550 (ninS ne629 nin0))
  have F716 := Fld.keep F685 Kq708 (ninS ne550 (ninS ne629 nin0))
  have F717 := OAr.keep F686 Kq708 (ninS ne551 (ninS ne630 nin0))
  have F718 := Exa.keep F687 Kq708
  have F719 := Fld.keep F688 Kq708 (ninS ne552 (ninS ne631 nin0))
  have F720 := Fld.keep F689 Kq708 (ninS ne552 (ninS ne631 nin0))
  have F721 := OAr.keep F690 Kq708 (ninS ne553 (ninS ne632 nin0))
  have F722 := Exa.keep F691 Kq708
  have F723 := Fld.keep F692 Kq708 (ninS ne554 (ninS ne633 nin0))
  have F724 := Fld.keep F693 Kq708 (ninS ne554 (ninS ne633 nin0))
  have F725 := OAr.keep F694 Kq708 (ninS ne555 (ninS ne634 nin0))
  have F726 := Exa.keep F695 Kq708
  have F727 := OOv.keep Oq677 Kq708
  have Z728 := Nat.le_trans Z697 Kq708.1
  show OwnWk _ _ _ _ (T708.setTop (mkF m 131 #[vI z0, vI z1, vI z2, vJ z3, sX, vI (4 : Int32), vI (Int32.ofNat M0), vI (Int32.ofNat M1), vI (Int32.ofNat M2), vI (Int32.ofNat M3), vR y0, vR y1, vR y2, vR y3, vR b547, uX, uX, uX, uX, uX, uX, uX, uX, uX, uX, uX, uX] [(.int (1 : Int32))]))
  refine own_go (fun tgt kst => XS.pop X708.here hx rfl (hb hby at_131) rfl rfl kst) ?_
  obtain ⟨T729, h729, X729, e729, E729, A729, D729, -, st729⟩ := newO X708 hx hZ hown (wq hw 84 rfl) (wq hw 85 rfl) (wq hw 86 rfl) e708 (g := (mkF m 132 #[vI z0, vI z1, vI z2, vJ z3, sX, vI (4 : Int32), vI (Int32.ofNat M0), vI (Int32.ofNat M1), vI (Int32.ofNat M2), vI (Int32.ofNat M3), vR y0, vR y1, vR y2, vR y3, vR b547, uX, uX, uX, uX, uX, uX, uX, uX, uX, uX, uX, uX] [])) rfl (hb hby at_132) (by decide) (by decide)
  obtain ⟨b729, g729⟩ : ∃ z, z = h708.size := ⟨_, rfl⟩
  rw [← g729] at A729 D729 st729
  refine own_go st729 ?_
  have ne730 := own_nl F710.lt (Nat.le_of_eq g729.symm)
  have ne731 := own_nl F713.lt (Nat.le_of_eq g729.symm)
  have ne732 := own_nl F714.lt (Nat.le_of_eq g729.symm)
  have ne733 := own_nl F717.lt (Nat.le_of_eq g729.symm)
  have ne734 := own_nl F718.lt (Nat.le_of_eq g729.symm)
  have ne735 := own_nl F721.lt (Nat.le_of_eq g729.symm)
  have ne736 := own_nl F722.lt (Nat.le_of_eq g729.symm)
  have ne737 := own_nl F725.lt (Nat.le_of_eq g729.symm)
  have ne738 := own_nl F726.lt (Nat.le_of_eq g729.symm)
  have ne739 := own_nl Vq708.lt (Nat.le_of_eq g729.symm)
  have ge740 : n0 ≤ b729 := Nat.le_trans Z728 (Nat.le_of_eq g729.symm)
  have F741 := Old.ext F709 E729
  have F742 := Exa.ext E729 F710
  have F743 := Fld.ext E729 F711
  have F744 := Fld.ext E729 F712
  have F745 := OAr.ext F713 E729
  have F746 := Exa.ext E729 F714
  have F747 := Fld.ext E729 F715
  have F748 := Fld.ext E729 F716
  have F749 := OAr.ext F717 E729
  have F750 := Exa.ext E729 F718
  have F751 := Fld.ext E729 F719
  have F752 := Fld.ext E729 F720
  have F753 := OAr.ext F721 E729
  have F754 := Exa.ext E729 F722
  have F755 := Fld.ext E729 F723
  have F756 := Fld.ext E729 F724
  have F757 := OAr.ext F725 E729
  have F758 := Exa.ext E729 F726
  have F759 := OOv.ext E729 Oq708
  have F760 := Fld.ext E729 Fm708
  have F761 := Fld.ext E729 Fe708
  have F762 := Fld.ext E729 Fs708
  have F763 := OAr.ext Vq708 E729
  have Z764 := Nat.le_trans Z728 E729.1
  have F765 : Fld Z h729 b729 "com/example/encircle/encircle/layout/ZoneKeys" "keys" "[J" .null := D729 (Or.inr (wq hw 92 rfl)) (ty := (.array .long)) (by decide)
  have F766 : Fld Z h729 b729 "com/example/encircle/encircle/layout/ZoneKeys" "sums" "[J" .null := D729 (Or.inr (wq hw 107 rfl)) (ty := (.array .long)) (by decide)
  have F767 : Fld Z h729 b729 "com/example/encircle/encircle/layout/ZoneKeys" "sizes" "[I" .null := D729 (Or.inr (wq hw 110 rfl)) (ty := (.array .int)) (by decide)
  have F768 : Fld Z h729 b729 "com/example/encircle/encircle/layout/ZoneKeys" "slotSums" "[J" .null := D729 (Or.inr (wq hw 161 rfl)) (ty := (.array .long)) (by decide)
  have F769 : Fld Z h729 b729 "com/example/encircle/encircle/layout/ZoneKeys" "slotZones" "[I" .null := D729 (Or.inr (wq hw 163 rfl)) (ty := (.array .int)) (by decide)
  have F770 : Fld Z h729 b729 "com/example/encircle/encircle/layout/ZoneKeys" "sameSum" "[I" .null := D729 (Or.inr (wq hw 165 rfl)) (ty := (.array .int)) (by decide)
  show OwnWk _ _ _ _ (T729.setTop (mkF m 135 #[vI z0, vI z1, vI z2, vJ z3, sX, vI (4 : Int32), vI (Int32.ofNat M0), vI (Int32.ofNat M1), vI (Int32.ofNat M2), vI (Int32.ofNat M3), vR y0, vR y1, vR y2, vR y3, vR b547, uX, uX, uX, uX, uX, uX, uX, uX, uX, uX, uX, uX] [(.ref b729)]))
  refine own_go (fun tgt kst => XS.dup X729.here hx rfl (hb hby at_135) rfl rfl kst) ?_
  refine own_go (fun tgt kst => XS.iconst X729.here hx rfl (hb hby at_136) kst) ?_
  refine own_go (fun tgt kst => XS.aload X729.here hx rfl (hb hby at_137) rfl rfl  kst) ?_
  show OwnWk _ _ _ _ (T729.setTop (mkF m 139 #[vI z0, vI z1, vI z2, vJ z3, sX, vI (4 : Int32), vI (Int32.ofNat M0), vI (Int32.ofNat M1), vI (Int32.ofNat M2), vI (Int32.ofNat M3), vR y0, vR y1, vR y2, vR y3, vR b547, uX, uX, uX, uX, uX, uX, uX, uX, uX, uX, uX, uX] [(.ref b547), (.int (4 : Int32)), (.ref b729), (.ref b729)]))
  have Fc771 : Fld Z h729 b547 "java/util/ArrayList" "size" "I" (.int (Int32.ofNat 4)) := F762
  have Fc772 : OAr Z h729 ed (.object "java/lang/Object") [(.ref y0), (.ref y1), (.ref y2), (.ref y3), .null, .null, .null, .null, .null, .null] := F763
  show OwnWk _ _ _ _ (T729.setTop (mkF m 139 #[vI z0, vI z1, vI z2, vJ z3, sX, vI (4 : Int32), vI (Int32.ofNat M0), vI (Int32.ofNat M1), vI (Int32.ofNat M2), vI (Int32.ofNat M3), vR y0, vR y1, vR y2, vR y3, vR b547, uX, uX, uX, uX, uX, uX, uX, uX, uX, uX, uX, uX] [(.ref b547), (.int (4 : Int32)), (.ref b729), (.ref b729)]))
  refine own_callC X729 hx hZ (y := yN14) hown rfl (wq hw 87 rfl) (wq hw 88 rfl) (wq hw 86 rfl) (wq hw 89 rfl) (by decide) (a := b729) (argsL := [(.int (4 : Int32)), (.ref b547)]) (rest := [(.ref b729)])  (h := h729) (zkN l Z a0 hw dce b729 b547 ed (own_p4 y0 y1 y2 y3) (own_p4 w0_ w1_ w2_ w3_) (own_p4 M0 M1 M2 M3) 4 ([(.ref y0), (.ref y1), (.ref y2), (.ref y3), .null, .null, .null, .null, .null, .null]) h729 n0 Z764 F741 S_d V_d S_a A729 F765 F766 F767 F768 F769 F770 F758 Fc771 F761 Fc772 (Ne.symm ne738) (Ne.symm ne739) ge740 (by decide) (by decide) (own_a4 rfl rfl rfl rfl) (own_a4 ⟨F742, F743, F744, F745⟩ ⟨F746, F747, F748, F749⟩ ⟨F750, F751, F752, F753⟩ ⟨F754, F755, F756, F757⟩) (own_a4 ⟨(Ne.symm ne730), (Ne.symm ne731)⟩ ⟨(Ne.symm ne732), (Ne.symm ne733)⟩ ⟨(Ne.symm ne734), (Ne.symm ne735)⟩ ⟨(Ne.symm ne736), (Ne.symm ne737)⟩) (own_a4 hM0 hM1 hM2 hM3)) e729 (W := 1) (by decide) (by decide) (by decide) (by decide) rfl (by rw [hml]; rfl) (lenOf pd_13 rfl) rfl (by show 2 * 0 + _ ≤ _; exact Nat.le_of_eq rfl) (hb hby at_139) (fun v773 T773 h773 L773 X773 e773 hQ773 => ?_)
  obtain ⟨rfl, Nq773, Kq773, kk, zs, zz, k0, k1, k2, k3, SS, ZZ, Fk773_0, Fk773_1, Fk773_2, Fk773_3, Fk773_4, Fk773_5, hinv⟩ := hQ773
  have N773 := Fr.app N708 Nq773
  have F774 := Old.keep F741 Kq773 (allS ge740 all0)
  have F775 := Exa.keep F742 Kq773
  have F776 := Fld.keep F743 Kq773 (ninS ne730 nin0)
  have F777 := Fld.keep F744 Kq773 (ninS ne730 nin0)
  have F778 := OAr.keep F745 Kq773 (ninS ne731 nin0)
  have F779 := Exa.keep F746 Kq773
  have F780 := Fld.keep F747 Kq773 (ninS ne732 nin0)
  have F781 := Fld.keep F748 Kq773 (ninS ne732 nin0)
  have F782 := OAr.keep F749 Kq773 (ninS ne733 nin0)
  have F783 := Exa.keep F750 Kq773
  have F784 := Fld.keep F751 Kq773 (ninS ne734 nin0)
  have F785 := Fld.keep F752 Kq773 (ninS ne734 nin0)
  have F786 := OAr.keep F753 Kq773 (ninS ne735 nin0)
  have F787 := Exa.keep F754 Kq773
  have F788 := Fld.keep F755 Kq773 (ninS ne736 nin0)
  have F789 := Fld.keep F756 Kq773 (ninS ne736 nin0)
  have F790 := OAr.keep F757 Kq773 (ninS ne737 nin0)
  have F791 := Exa.keep F758 Kq773
  have F792 := OOv.keep F759 Kq773
  have F793 := Fld.keep F760 Kq773 (ninS ne738 nin0)
  have F794 := Fld.keep F761 Kq773 (ninS ne738 nin0)
  have F795 := Exa.keep A729 Kq773
  have F796 := Fld.keep Fc771 Kq773 (ninS ne738 nin0)
  have F797 := OAr.keep Fc772 Kq773 (ninS ne739 nin0)
  have Z798 := Nat.le_trans Z764 Kq773.1
  show OwnWk _ _ _ _ (T773.setTop (mkF m 142 #[vI z0, vI z1, vI z2, vJ z3, sX, vI (4 : Int32), vI (Int32.ofNat M0), vI (Int32.ofNat M1), vI (Int32.ofNat M2), vI (Int32.ofNat M3), vR y0, vR y1, vR y2, vR y3, vR b547, uX, uX, uX, uX, uX, uX, uX, uX, uX, uX, uX, uX] [(.ref b729)]))
  refine own_go (fun tgt kst => XS.astore X773.here hx rfl (hb hby at_142) rfl rfl (l' := #[vI z0, vI z1, vI z2, vJ z3, sX, vI (4 : Int32), vI (Int32.ofNat M0), vI (Int32.ofNat M1), vI (Int32.ofNat M2), vI (Int32.ofNat M3), vR y0, vR y1, vR y2, vR y3, vR b547, vR b729, uX, uX, uX, uX, uX, uX, uX, uX, uX, uX, uX]) rfl kst) ?_
  refine own_go (fun tgt kst => XS.aload X773.here hx rfl (hb hby at_144) rfl rfl  kst) ?_
  refine own_go (fun tgt kst => XS.iconst X773.here hx rfl (hb hby at_146) kst) ?_
  show OwnWk _ _ _ _ (T773.setTop (mkF m 147 #[vI z0, vI z1, vI z2, vJ z3, sX, vI (4 : Int32), vI (Int32.ofNat M0), vI (Int32.ofNat M1), vI (Int32.ofNat M2), vI (Int32.ofNat M3), vR y0, vR y1, vR y2, vR y3, vR b547, vR b729, uX, uX, uX, uX, uX, uX, uX, uX, uX, uX, uX] [(.int (0 : Int32)), (.ref b729)]))
  refine own_callV X773 hx hZ (y := yN27) (z := yN27) hown (wq hw 174 rfl) (wq hw 175 rfl) (notFace_of_selects (args := #[]) (mvT hZ (wq hw 177 rfl))) (wq hw 177 rfl) (wq hw 176 rfl) (wq hw 86 rfl) (wq hw 178 rfl) (by decide) (a := b729) F795 (argsL := [(.int (0 : Int32))]) (rest := [])  (h := h773) (key0 l Z a0 hw b729 kk k0 k1 k2 k3 h773 n0 Z798 Fk773_0 Fk773_1) e773 (W := 0) (by decide) (by decide) (by decide) (by decide) rfl (by rw [hml]; rfl) (lenOf pd_14 rfl) rfl (by show 2 * 0 + _ ≤ _; exact Nat.le_of_eq rfl) (hb hby at_147) (fun v799 T799 h799 L799 X799 e799 hQ799 => ?_)
  obtain ⟨rfl, Nq799, q799⟩ := hQ799
  have N799 := Fr.app N773 Nq799
  rw [q799] at e799
  show OwnWk _ _ _ _ (T799.setTop (mkF m 150 #[vI z0, vI z1, vI z2, vJ z3, sX, vI (4 : Int32), vI (Int32.ofNat M0), vI (Int32.ofNat M1), vI (Int32.ofNat M2), vI (Int32.ofNat M3), vR y0, vR y1, vR y2, vR y3, vR b547, vR b729, uX, uX, uX, uX, uX, uX, uX, uX, uX, uX, uX] [(.long k0)]))
  refine own_go (fun tgt kst => XS.lstore X799.here hx rfl (hb hby at_150) rfl (l' := #[vI z0, vI z1, vI z2, vJ z3, sX, vI (4 : Int32), vI (Int32.ofNat M0), vI (Int32.ofNat M1), vI (Int32.ofNat M2), vI (Int32.ofNat M3), vR y0, vR y1, vR y2, vR y3, vR b547, vR b729, vJ k0, sX, uX, uX, uX, uX, uX, uX, uX, uX, uX]) rfl kst) ?_
  refine own_go (fun tgt kst => XS.aload X799.here hx rfl (hb hby at_152) rfl rfl  kst) ?_
  refine own_go (fun tgt kst => XS.iconst X799.here hx rfl (hb hby at_154) kst) ?_
  show OwnWk _ _ _ _ (T799.setTop (mkF m 155 #[vI z0, vI z1, vI z2, vJ z3, sX, vI (4 : Int32), vI (Int32.ofNat M0), vI (Int32.ofNat M1), vI (Int32.ofNat M2), vI (Int32.ofNat M3), vR y0, vR y1, vR y2, vR y3, vR b547, vR b729, vJ k0, sX, uX, uX, uX, uX, uX, uX, uX, uX, uX] [(.int (1 : Int32)), (.ref b729)]))
  refine own_callV X799 hx hZ (y := yN27) (z := yN27) hown (wq hw 174 rfl) (wq hw 175 rfl) (notFace_of_selects (args := #[]) (mvT hZ (wq hw 177 rfl))) (wq hw 177 rfl) (wq hw 176 rfl) (wq hw 86 rfl) (wq hw 178 rfl) (by decide) (a := b729) F795 (argsL := [(.int (1 : Int32))]) (rest := [])  (h := h773) (key1 l Z a0 hw b729 kk k0 k1 k2 k3 h773 n0 Z798 Fk773_0 Fk773_1) e799 (W := 0) (by decide) (by decide) (by decide) (by decide) rfl (by rw [hml]; rfl) (lenOf pd_14 rfl) rfl (by show 2 * 0 + _ ≤ _; exact Nat.le_of_eq rfl) (hb hby at_155) (fun v800 T800 h800 L800 X800 e800 hQ800 => ?_)
  obtain ⟨rfl, Nq800, q800⟩ := hQ800
  have N800 := Fr.app N799 Nq800
  rw [q800] at e800
  show OwnWk _ _ _ _ (T800.setTop (mkF m 158 #[vI z0, vI z1, vI z2, vJ z3, sX, vI (4 : Int32), vI (Int32.ofNat M0), vI (Int32.ofNat M1), vI (Int32.ofNat M2), vI (Int32.ofNat M3), vR y0, vR y1, vR y2, vR y3, vR b547, vR b729, vJ k0, sX, uX, uX, uX, uX, uX, uX, uX, uX, uX] [(.long k1)]))
  refine own_go (fun tgt kst => XS.lstore X800.here hx rfl (hb hby at_158) rfl (l' := #[vI z0, vI z1, vI z2, vJ z3, sX, vI (4 : Int32), vI (Int32.ofNat M0), vI (Int32.ofNat M1), vI (Int32.ofNat M2), vI (Int32.ofNat M3), vR y0, vR y1, vR y2, vR y3, vR b547, vR b729, vJ k0, sX, vJ k1, sX, uX, uX, uX, uX, uX, uX, uX]) rfl kst) ?_
  refine own_go (fun tgt kst => XS.aload X800.here hx rfl (hb hby at_160) rfl rfl  kst) ?_
  refine own_go (fun tgt kst => XS.iconst X800.here hx rfl (hb hby at_162) kst) ?_
  show OwnWk _ _ _ _ (T800.setTop (mkF m 163 #[vI z0, vI z1, vI z2, vJ z3, sX, vI (4 : Int32), vI (Int32.ofNat M0), vI (Int32.ofNat M1), vI (Int32.ofNat M2), vI (Int32.ofNat M3), vR y0, vR y1, vR y2, vR y3, vR b547, vR b729, vJ k0, sX, vJ k1, sX, uX, uX, uX, uX, uX, uX, uX] [(.int (2 : Int32)), (.ref b729)]))
  refine own_callV X800 hx hZ (y := yN27) (z := yN27) hown (wq hw 174 rfl) (wq hw 175 rfl) (notFace_of_selects (args := #[]) (mvT hZ (wq hw 177 rfl))) (wq hw 177 rfl) (wq hw 176 rfl) (wq hw 86 rfl) (wq hw 178 rfl) (by decide) (a := b729) F795 (argsL := [(.int (2 : Int32))]) (rest := [])  (h := h773) (key2 l Z a0 hw b729 kk k0 k1 k2 k3 h773 n0 Z798 Fk773_0 Fk773_1) e800 (W := 0) (by decide) (by decide) (by decide) (by decide) rfl (by rw [hml]; rfl) (lenOf pd_14 rfl) rfl (by show 2 * 0 + _ ≤ _; exact Nat.le_of_eq rfl) (hb hby at_163) (fun v801 T801 h801 L801 X801 e801 hQ801 => ?_)
  obtain ⟨rfl, Nq801, q801⟩ := hQ801
  have N801 := Fr.app N800 Nq801
  rw [q801] at e801
  show OwnWk _ _ _ _ (T801.setTop (mkF m 166 #[vI z0, vI z1, vI z2, vJ z3, sX, vI (4 : Int32), vI (Int32.ofNat M0), vI (Int32.ofNat M1), vI (Int32.ofNat M2), vI (Int32.ofNat M3), vR y0, vR y1, vR y2, vR y3, vR b547, vR b729, vJ k0, sX, vJ k1, sX, uX, uX, uX, uX, uX, uX, uX] [(.long k2)]))
  refine own_go (fun tgt kst => XS.lstore X801.here hx rfl (hb hby at_166) rfl (l' := #[vI z0, vI z1, vI z2, vJ z3, sX, vI (4 : Int32), vI (Int32.ofNat M0), vI (Int32.ofNat M1), vI (Int32.ofNat M2), vI (Int32.ofNat M3), vR y0, vR y1, vR y2, vR y3, vR b547, vR b729, vJ k0, sX, vJ k1, sX, vJ k2, sX, uX, uX, uX, uX, uX]) rfl kst) ?_
  refine own_go (fun tgt kst => XS.aload X801.here hx rfl (hb hby at_168) rfl rfl  kst) ?_
  refine own_go (fun tgt kst => XS.iconst X801.here hx rfl (hb hby at_170) kst) ?_
  show OwnWk _ _ _ _ (T801.setTop (mkF m 171 #[vI z0, vI z1, vI z2, vJ z3, sX, vI (4 : Int32), vI (Int32.ofNat M0), vI (Int32.ofNat M1), vI (Int32.ofNat M2), vI (Int32.ofNat M3), vR y0, vR y1, vR y2, vR y3, vR b547, vR b729, vJ k0, sX, vJ k1, sX, vJ k2, sX, uX, uX, uX, uX, uX] [(.int (3 : Int32)), (.ref b729)]))
  refine own_callV X801 hx hZ (y := yN27) (z := yN27) hown (wq hw 174 rfl) (wq hw 175 rfl) (notFace_of_selects (args := #[]) (mvT hZ (wq hw 177 rfl))) (wq hw 177 rfl) (wq hw 176 rfl) (wq hw 86 rfl) (wq hw 178 rfl) (by decide) (a := b729) F795 (argsL := [(.int (3 : Int32))]) (rest := [])  (h := h773) (key3 l Z a0 hw b729 kk k0 k1 k2 k3 h773 n0 Z798 Fk773_0 Fk773_1) e801 (W := 0) (by decide) (by decide) (by decide) (by decide) rfl (by rw [hml]; rfl) (lenOf pd_14 rfl) rfl (by show 2 * 0 + _ ≤ _; exact Nat.le_of_eq rfl) (hb hby at_171) (fun v802 T802 h802 L802 X802 e802 hQ802 => ?_)
  obtain ⟨rfl, Nq802, q802⟩ := hQ802
  have N802 := Fr.app N801 Nq802
  rw [q802] at e802
  show OwnWk _ _ _ _ (T802.setTop (mkF m 174 #[vI z0, vI z1, vI z2, vJ z3, sX, vI (4 : Int32), vI (Int32.ofNat M0), vI (Int32.ofNat M1), vI (Int32.ofNat M2), vI (Int32.ofNat M3), vR y0, vR y1, vR y2, vR y3, vR b547, vR b729, vJ k0, sX, vJ k1, sX, vJ k2, sX, uX, uX, uX, uX, uX] [(.long k3)]))
  refine own_go (fun tgt kst => XS.lstore X802.here hx rfl (hb hby at_174) rfl (l' := #[vI z0, vI z1, vI z2, vJ z3, sX, vI (4 : Int32), vI (Int32.ofNat M0), vI (Int32.ofNat M1), vI (Int32.ofNat M2), vI (Int32.ofNat M3), vR y0, vR y1, vR y2, vR y3, vR b547, vR b729, vJ k0, sX, vJ k1, sX, vJ k2, sX, vJ k3, sX, uX, uX, uX]) rfl kst) ?_
  show OwnWk _ _ _ _ (T802.setTop (mkF m 176 #[vI z0, vI z1, vI z2, vJ z3, sX, vI (4 : Int32), vI (Int32.ofNat M0), vI (Int32.ofNat M1), vI (Int32.ofNat M2), vI (Int32.ofNat M3), vR y0, vR y1, vR y2, vR y3, vR b547, vR b729, vJ k0, sX, vJ k1, sX, vJ k2, sX, vJ k3, sX, uX, uX, uX] []))
  have LQ : ∀ (qq : Int64) (T_ : State) (L_ : List Loc), Stand p l e room_1 s m #[(.int z0), (.int z1), (.int z2), (.long z3)] below meth c T_ L_ 18 71 → T_.heap = h773 → Fr n0 L_ →
      OwnWk p e below (OwnP s (Q_rm0 Z z0 z1 z2 z3 dce h0 n0) room_1.cells room_1.slots) (T_.setTop (mkF m 202 #[vI z0, vI z1, vI z2, vJ z3, sX, vI (4 : Int32), vI (Int32.ofNat M0), vI (Int32.ofNat M1), vI (Int32.ofNat M2), vI (Int32.ofNat M3), vR y0, vR y1, vR y2, vR y3, vR b547, vR b729, vJ k0, sX, vJ k1, sX, vJ k2, sX, vJ k3, sX, uX, uX, uX] [(.long qq)])) := by
   intro qq T_803 L_803  X_803 e_803 N_803
   show OwnWk _ _ _ _ (T_803.setTop (mkF m 202 #[vI z0, vI z1, vI z2, vJ z3, sX, vI (4 : Int32), vI (Int32.ofNat M0), vI (Int32.ofNat M1), vI (Int32.ofNat M2), vI (Int32.ofNat M3), vR y0, vR y1, vR y2, vR y3, vR b547, vR b729, vJ k0, sX, vJ k1, sX, vJ k2, sX, vJ k3, sX, uX, uX, uX] [(.long qq)]))
   have LS0 : ∀ (ix : Int32) (T_ : State) (L_ : List Loc), ix = Int32.ofNat (own_Ez (own_f (own_p4 M0 M1 M2 M3) k0 k1 k2 k3) 0 4 qq) - (1 : Int32) → Stand p l e room_1 s m #[(.int z0), (.int z1), (.int z2), (.long z3)] below meth c T_ L_ 18 71 → T_.heap = h773 → Fr n0 L_ →
       OwnWk p e below (OwnP s (Q_rm0 Z z0 z1 z2 z3 dce h0 n0) room_1.cells room_1.slots) (T_.setTop (mkF m 318 #[vI z0, vI z1, vI z2, vJ z3, sX, vI (4 : Int32), vI (Int32.ofNat M0), vI (Int32.ofNat M1), vI (Int32.ofNat M2), vI (Int32.ofNat M3), vR y0, vR y1, vR y2, vR y3, vR b547, vR b729, vJ k0, sX, vJ k1, sX, vJ k2, sX, vJ k3, sX, vJ qq, sX, vI ix] [])) := by
    intro ix T_804 L_804 hix X_804 e_804 N_804
    show OwnWk _ _ _ _ (T_804.setTop (mkF m 318 #[vI z0, vI z1, vI z2, vJ z3, sX, vI (4 : Int32), vI (Int32.ofNat M0), vI (Int32.ofNat M1), vI (Int32.ofNat M2), vI (Int32.ofNat M3), vR y0, vR y1, vR y2, vR y3, vR b547, vR b729, vJ k0, sX, vJ k1, sX, vJ k2, sX, vJ k3, sX, vJ qq, sX, vI ix] []))
    refine own_go (fun tgt kst => XS.aload X_804.here hx rfl (hb hby at_318) rfl rfl  kst) ?_
    refine own_go (fun tgt kst => XS.lload X_804.here hx rfl (hb hby at_320) rfl  kst) ?_
    show OwnWk _ _ _ _ (T_804.setTop (mkF m 322 #[vI z0, vI z1, vI z2, vJ z3, sX, vI (4 : Int32), vI (Int32.ofNat M0), vI (Int32.ofNat M1), vI (Int32.ofNat M2), vI (Int32.ofNat M3), vR y0, vR y1, vR y2, vR y3, vR b547, vR b729, vJ k0, sX, vJ k1, sX, vJ k2, sX, vJ k3, sX, vJ qq, sX, vI ix] [(.long qq), (.ref b729)]))
    refine own_callV X_804 hx hZ (y := yN29) (z := yN29) hown (wq hw 182 rfl) (wq hw 183 rfl) (notFace_of_selects (args := #[]) (mvT hZ (wq hw 185 rfl))) (wq hw 185 rfl) (wq hw 184 rfl) (wq hw 86 rfl) (wq hw 186 rfl) (by decide) (a := b729) F795 (argsL := [(.long qq)]) (rest := [])  (h := h773) (fst l Z a0 hw b729 zs zz SS ZZ qq (own_k 4) 4 (own_Ez (own_f (own_p4 M0 M1 M2 M3) k0 k1 k2 k3) 0 4) h773 n0 Z798 F795 Fk773_2 Fk773_3 Fk773_4 Fk773_5 own_k4 hinv (by decide)) e_804 (W := 0) (by decide) (by decide) (by decide) (by decide) rfl (by rw [hml]; rfl) (lenOf pd_3 rfl) rfl (by show 2 * 0 + _ ≤ _; exact Nat.le_of_eq rfl) (hb hby at_322) (fun v805 T805 h805 L805 X805 e805 hQ805 => ?_)
    obtain ⟨rfl, Nq805, q805⟩ := hQ805
    have N805 := Fr.app N_804 Nq805
    rw [q805] at e805
    show OwnWk _ _ _ _ (T805.setTop (mkF m 325 #[vI z0, vI z1, vI z2, vJ z3, sX, vI (4 : Int32), vI (Int32.ofNat M0), vI (Int32.ofNat M1), vI (Int32.ofNat M2), vI (Int32.ofNat M3), vR y0, vR y1, vR y2, vR y3, vR b547, vR b729, vJ k0, sX, vJ k1, sX, vJ k2, sX, vJ k3, sX, vJ qq, sX, vI ix] [(.int ((Int32.ofNat (own_Ez (own_f (own_p4 M0 M1 M2 M3) k0 k1 k2 k3) 0 4 qq)) - (1 : Int32)))]))
    refine own_go (fun tgt kst => XS.iload X805.here hx rfl (hb hby at_325) rfl  kst) ?_
    show OwnWk _ _ _ _ (T805.setTop (mkF m 327 #[vI z0, vI z1, vI z2, vJ z3, sX, vI (4 : Int32), vI (Int32.ofNat M0), vI (Int32.ofNat M1), vI (Int32.ofNat M2), vI (Int32.ofNat M3), vR y0, vR y1, vR y2, vR y3, vR b547, vR b729, vJ k0, sX, vJ k1, sX, vJ k2, sX, vJ k3, sX, vJ qq, sX, vI ix] [(.int ix), (.int ((Int32.ofNat (own_Ez (own_f (own_p4 M0 M1 M2 M3) k0 k1 k2 k3) 0 4 qq)) - (1 : Int32)))]))
    refine own_go (fun tgt kst => XS.icmpNo X805.here hx rfl (hb hby at_327) rfl (teq hix.symm).2 kst) ?_
    show OwnWk _ _ _ _ (T805.setTop (mkF m 330 #[vI z0, vI z1, vI z2, vJ z3, sX, vI (4 : Int32), vI (Int32.ofNat M0), vI (Int32.ofNat M1), vI (Int32.ofNat M2), vI (Int32.ofNat M3), vR y0, vR y1, vR y2, vR y3, vR b547, vR b729, vJ k0, sX, vJ k1, sX, vJ k2, sX, vJ k3, sX, vJ qq, sX, vI ix] []))
    refine own_go (fun tgt kst => XS.iconst X805.here hx rfl (hb hby at_330) kst) ?_
    refine own_go (fun tgt kst => XS.goto X805.here hx rfl (pc0 := 331) (pc' := 335) rfl (hb hby at_331) (by decide) (by decide) kst) ?_
    show OwnWk _ _ _ _ (T805.setTop (mkF m 335 #[vI z0, vI z1, vI z2, vJ z3, sX, vI (4 : Int32), vI (Int32.ofNat M0), vI (Int32.ofNat M1), vI (Int32.ofNat M2), vI (Int32.ofNat M3), vR y0, vR y1, vR y2, vR y3, vR b547, vR b729, vJ k0, sX, vJ k1, sX, vJ k2, sX, vJ k3, sX, vJ qq, sX, vI ix] [(.int (1 : Int32))]))
    exact own_retZ X805 hx hlk hret (by simp) (z' := (1 : Int32)) rfl (hb hby at_335) (by decide) (by decide) (by rw [e805]; exact ⟨rfl, N805⟩)
   have LS1 : ∀ (ix : Int32) (T_ : State) (L_ : List Loc), ix = Int32.ofNat (own_Ez (own_f (own_p4 M0 M1 M2 M3) k0 k1 k2 k3) 1 3 qq) - (1 : Int32) → Stand p l e room_1 s m #[(.int z0), (.int z1), (.int z2), (.long z3)] below meth c T_ L_ 18 71 → T_.heap = h773 → Fr n0 L_ →
       OwnWk p e below (OwnP s (Q_rm0 Z z0 z1 z2 z3 dce h0 n0) room_1.cells room_1.slots) (T_.setTop (mkF m 291 #[vI z0, vI z1, vI z2, vJ z3, sX, vI (4 : Int32), vI (Int32.ofNat M0), vI (Int32.ofNat M1), vI (Int32.ofNat M2), vI (Int32.ofNat M3), vR y0, vR y1, vR y2, vR y3, vR b547, vR b729, vJ k0, sX, vJ k1, sX, vJ k2, sX, vJ k3, sX, vJ qq, sX, vI ix] [])) := by
    intro ix T_806 L_806 hix X_806 e_806 N_806
    show OwnWk _ _ _ _ (T_806.setTop (mkF m 291 #[vI z0, vI z1, vI z2, vJ z3, sX, vI (4 : Int32), vI (Int32.ofNat M0), vI (Int32.ofNat M1), vI (Int32.ofNat M2), vI (Int32.ofNat M3), vR y0, vR y1, vR y2, vR y3, vR b547, vR b729, vJ k0, sX, vJ k1, sX, vJ k2, sX, vJ k3, sX, vJ qq, sX, vI ix] []))
    refine own_go (fun tgt kst => XS.iload X_806.here hx rfl (hb hby at_291) rfl  kst) ?_
    refine own_go (fun tgt kst => XS.ifNo X_806.here hx rfl (hb hby at_293) rfl ((if0 _ _).trans (tlt (by decide : (0 : Int32) < (4 : Int32))).2.2.2) kst) ?_
    refine own_go (fun tgt kst => XS.lload X_806.here hx rfl (hb hby at_296) rfl  kst) ?_
    refine own_go (fun tgt kst => XS.iload X_806.here hx rfl (hb hby at_298) rfl  kst) ?_
    refine own_go (fun tgt kst => XS.lload X_806.here hx rfl (hb hby at_300) rfl  kst) ?_
    refine own_go (fun tgt kst => XS.lload X_806.here hx rfl (hb hby at_302) rfl  kst) ?_
    show OwnWk _ _ _ _ (T_806.setTop (mkF m 304 #[vI z0, vI z1, vI z2, vJ z3, sX, vI (4 : Int32), vI (Int32.ofNat M0), vI (Int32.ofNat M1), vI (Int32.ofNat M2), vI (Int32.ofNat M3), vR y0, vR y1, vR y2, vR y3, vR b547, vR b729, vJ k0, sX, vJ k1, sX, vJ k2, sX, vJ k3, sX, vJ qq, sX, vI ix] [(.long k1), (.long k0), (.int (Int32.ofNat M0)), (.long qq)]))
    refine own_go (fun tgt kst => XS.lload X_806.here hx rfl (hb hby at_304) rfl  kst) ?_
    refine own_go (fun tgt kst => XS.lload X_806.here hx rfl (hb hby at_306) rfl  kst) ?_
    show OwnWk _ _ _ _ (T_806.setTop (mkF m 308 #[vI z0, vI z1, vI z2, vJ z3, sX, vI (4 : Int32), vI (Int32.ofNat M0), vI (Int32.ofNat M1), vI (Int32.ofNat M2), vI (Int32.ofNat M3), vR y0, vR y1, vR y2, vR y3, vR b547, vR b729, vJ k0, sX, vJ k1, sX, vJ k2, sX, vJ k3, sX, vJ qq, sX, vI ix] [(.long k3), (.long k2), (.long k1), (.long k0), (.int (Int32.ofNat M0)), (.long qq)]))
    refine own_callS X_806 hx hZ (y := yN28) hown (wq hw 179 rfl) (wq hw 180 rfl) (wq hw 3 rfl) (wq hw 181 rfl) (by decide) (argsL := [(.int (Int32.ofNat M0)), (.long k0), (.long k1), (.long k2), (.long k3)]) (rest := [(.long qq)])  (h := h773) (smo l Z a0 hw M0 k0 k1 k2 k3 h773 n0 Z798) e_806 (W := 2) (by decide) (by decide) (by decide) (by decide) rfl (by rw [hml]; rfl) (lenOf pd_15 rfl) rfl (by show 2 * 0 + _ ≤ _; exact Nat.le_of_eq rfl) (hb hby at_308) (fun v807 T807 h807 L807 X807 e807 hQ807 => ?_)
    obtain ⟨rfl, Nq807, q807⟩ := hQ807
    have N807 := Fr.app N_806 Nq807
    rw [q807] at e807
    show OwnWk _ _ _ _ (T807.setTop (mkF m 311 #[vI z0, vI z1, vI z2, vJ z3, sX, vI (4 : Int32), vI (Int32.ofNat M0), vI (Int32.ofNat M1), vI (Int32.ofNat M2), vI (Int32.ofNat M3), vR y0, vR y1, vR y2, vR y3, vR b547, vR b729, vJ k0, sX, vJ k1, sX, vJ k2, sX, vJ k3, sX, vJ qq, sX, vI ix] [(.long (own_sumM M0 k0 k1 k2 k3)), (.long qq)]))
    refine own_go (fun tgt kst => XS.lcmp X807.here hx rfl (hb hby at_311) rfl kst) ?_
    show OwnWk _ _ _ _ (T807.setTop (mkF m 312 #[vI z0, vI z1, vI z2, vJ z3, sX, vI (4 : Int32), vI (Int32.ofNat M0), vI (Int32.ofNat M1), vI (Int32.ofNat M2), vI (Int32.ofNat M3), vR y0, vR y1, vR y2, vR y3, vR b547, vR b729, vJ k0, sX, vJ k1, sX, vJ k2, sX, vJ k3, sX, vJ qq, sX, vI ix] [(.int (lcmpW qq (own_sumM M0 k0 k1 k2 k3)))]))
    by_cases hc808 : qq = (own_sumM M0 k0 k1 k2 k3)
    ·
     refine own_go (fun tgt kst => XS.ifNo X807.here hx rfl (hb hby at_312) rfl ((if0 _ _).trans (teq (own_lc_eq.mpr hc808)).2) kst) ?_
     show OwnWk _ _ _ _ (T807.setTop (mkF m 315 #[vI z0, vI z1, vI z2, vJ z3, sX, vI (4 : Int32), vI (Int32.ofNat M0), vI (Int32.ofNat M1), vI (Int32.ofNat M2), vI (Int32.ofNat M3), vR y0, vR y1, vR y2, vR y3, vR b547, vR b729, vJ k0, sX, vJ k1, sX, vJ k2, sX, vJ k3, sX, vJ qq, sX, vI ix] []))
     refine own_go (fun tgt kst => XS.iconst X807.here hx rfl (hb hby at_315) kst) ?_
     refine own_go (fun tgt kst => XS.istore X807.here hx rfl (hb hby at_316) rfl (l' := #[vI z0, vI z1, vI z2, vJ z3, sX, vI (4 : Int32), vI (Int32.ofNat M0), vI (Int32.ofNat M1), vI (Int32.ofNat M2), vI (Int32.ofNat M3), vR y0, vR y1, vR y2, vR y3, vR b547, vR b729, vJ k0, sX, vJ k1, sX, vJ k2, sX, vJ k3, sX, vJ qq, sX, vI (0 : Int32)]) rfl kst) ?_
     show OwnWk _ _ _ _ (T807.setTop (mkF m 318 #[vI z0, vI z1, vI z2, vJ z3, sX, vI (4 : Int32), vI (Int32.ofNat M0), vI (Int32.ofNat M1), vI (Int32.ofNat M2), vI (Int32.ofNat M3), vR y0, vR y1, vR y2, vR y3, vR b547, vR b729, vJ k0, sX, vJ k1, sX, vJ k2, sX, vJ k3, sX, vJ qq, sX, vI (0 : Int32)] []))
     exact LS0 _ _ _ (by show _ = Int32.ofNat (if qq = (own_sumM M0 k0 k1 k2 k3) then 1 else own_Ez (own_f (own_p4 M0 M1 M2 M3) k0 k1 k2 k3) 1 3 qq) - (1 : Int32); rw [if_pos hc808]; rfl) X807 e807 N807
    ·
     refine own_go (fun tgt kst => XS.ifYes X807.here hx rfl (pc0 := 312) (pc' := 318) rfl (hb hby at_312) rfl ((if0 _ _).trans (feq (fun q => hc808 (own_lc_eq.mp q))).2) (by decide) (by decide) kst) ?_
     show OwnWk _ _ _ _ (T807.setTop (mkF m 318 #[vI z0, vI z1, vI z2, vJ z3, sX, vI (4 : Int32), vI (Int32.ofNat M0), vI (Int32.ofNat M1), vI (Int32.ofNat M2), vI (Int32.ofNat M3), vR y0, vR y1, vR y2, vR y3, vR b547, vR b729, vJ k0, sX, vJ k1, sX, vJ k2, sX, vJ k3, sX, vJ qq, sX, vI ix] []))
     exact LS0 _ _ _ (by show _ = Int32.ofNat (if qq = (own_sumM M0 k0 k1 k2 k3) then 1 else own_Ez (own_f (own_p4 M0 M1 M2 M3) k0 k1 k2 k3) 1 3 qq) - (1 : Int32); rw [if_neg hc808]; exact hix) X807 e807 N807
   have LS2 : ∀ (ix : Int32) (T_ : State) (L_ : List Loc), ix = Int32.ofNat (own_Ez (own_f (own_p4 M0 M1 M2 M3) k0 k1 k2 k3) 2 2 qq) - (1 : Int32) → Stand p l e room_1 s m #[(.int z0), (.int z1), (.int z2), (.long z3)] below meth c T_ L_ 18 71 → T_.heap = h773 → Fr n0 L_ →
       OwnWk p e below (OwnP s (Q_rm0 Z z0 z1 z2 z3 dce h0 n0) room_1.cells room_1.slots) (T_.setTop (mkF m 263 #[vI z0, vI z1, vI z2, vJ z3, sX, vI (4 : Int32), vI (Int32.ofNat M0), vI (Int32.ofNat M1), vI (Int32.ofNat M2), vI (Int32.ofNat M3), vR y0, vR y1, vR y2, vR y3, vR b547, vR b729, vJ k0, sX, vJ k1, sX, vJ k2, sX, vJ k3, sX, vJ qq, sX, vI ix] [])) := by
    intro ix T_809 L_809 hix X_809 e_809 N_809
    show OwnWk _ _ _ _ (T_809.setTop (mkF m 263 #[vI z0, vI z1, vI z2, vJ z3, sX, vI (4 : Int32), vI (Int32.ofNat M0), vI (Int32.ofNat M1), vI (Int32.ofNat M2), vI (Int32.ofNat M3), vR y0, vR y1, vR y2, vR y3, vR b547, vR b729, vJ k0, sX, vJ k1, sX, vJ k2, sX, vJ k3, sX, vJ qq, sX, vI ix] []))
    refine own_go (fun tgt kst => XS.iload X_809.here hx rfl (hb hby at_263) rfl  kst) ?_
    refine own_go (fun tgt kst => XS.iconst X_809.here hx rfl (hb hby at_265) kst) ?_
    refine own_go (fun tgt kst => XS.icmpNo X_809.here hx rfl (hb hby at_266) rfl (tlt (by decide : (1 : Int32) < (4 : Int32))).2.2.2 kst) ?_
    refine own_go (fun tgt kst => XS.lload X_809.here hx rfl (hb hby at_269) rfl  kst) ?_
    refine own_go (fun tgt kst => XS.iload X_809.here hx rfl (hb hby at_271) rfl  kst) ?_
    refine own_go (fun tgt kst => XS.lload X_809.here hx rfl (hb hby at_273) rfl  kst) ?_
    show OwnWk _ _ _ _ (T_809.setTop (mkF m 275 #[vI z0, vI z1, vI z2, vJ z3, sX, vI (4 : Int32), vI (Int32.ofNat M0), vI (Int32.ofNat M1), vI (Int32.ofNat M2), vI (Int32.ofNat M3), vR y0, vR y1, vR y2, vR y3, vR b547, vR b729, vJ k0, sX, vJ k1, sX, vJ k2, sX, vJ k3, sX, vJ qq, sX, vI ix] [(.long k0), (.int (Int32.ofNat M1)), (.long qq)]))
    refine own_go (fun tgt kst => XS.lload X_809.here hx rfl (hb hby at_275) rfl  kst) ?_
    refine own_go (fun tgt kst => XS.lload X_809.here hx rfl (hb hby at_277) rfl  kst) ?_
    refine own_go (fun tgt kst => XS.lload X_809.here hx rfl (hb hby at_279) rfl  kst) ?_
    show OwnWk _ _ _ _ (T_809.setTop (mkF m 281 #[vI z0, vI z1, vI z2, vJ z3, sX, vI (4 : Int32), vI (Int32.ofNat M0), vI (Int32.ofNat M1), vI (Int32.ofNat M2), vI (Int32.ofNat M3), vR y0, vR y1, vR y2, vR y3, vR b547, vR b729, vJ k0, sX, vJ k1, sX, vJ k2, sX, vJ k3, sX, vJ qq, sX, vI ix] [(.long k3), (.long k2), (.long k1), (.long k0), (.int (Int32.ofNat M1)), (.long qq)]))
    refine own_callS X_809 hx hZ (y := yN28) hown (wq hw 179 rfl) (wq hw 180 rfl) (wq hw 3 rfl) (wq hw 181 rfl) (by decide) (argsL := [(.int (Int32.ofNat M1)), (.long k0), (.long k1), (.long k2), (.long k3)]) (rest := [(.long qq)])  (h := h773) (smo l Z a0 hw M1 k0 k1 k2 k3 h773 n0 Z798) e_809 (W := 2) (by decide) (by decide) (by decide) (by decide) rfl (by rw [hml]; rfl) (lenOf pd_15 rfl) rfl (by show 2 * 0 + _ ≤ _; exact Nat.le_of_eq rfl) (hb hby at_281) (fun v810 T810 h810 L810 X810 e810 hQ810 => ?_)
    obtain ⟨rfl, Nq810, q810⟩ := hQ810
    have N810 := Fr.app N_809 Nq810
    rw [q810] at e810
    show OwnWk _ _ _ _ (T810.setTop (mkF m 284 #[vI z0, vI z1, vI z2, vJ z3, sX, vI (4 : Int32), vI (Int32.ofNat M0), vI (Int32.ofNat M1), vI (Int32.ofNat M2), vI (Int32.ofNat M3), vR y0, vR y1, vR y2, vR y3, vR b547, vR b729, vJ k0, sX, vJ k1, sX, vJ k2, sX, vJ k3, sX, vJ qq, sX, vI ix] [(.long (own_sumM M1 k0 k1 k2 k3)), (.long qq)]))
    refine own_go (fun tgt kst => XS.lcmp X810.here hx rfl (hb hby at_284) rfl kst) ?_
    show OwnWk _ _ _ _ (T810.setTop (mkF m 285 #[vI z0, vI z1, vI z2, vJ z3, sX, vI (4 : Int32), vI (Int32.ofNat M0), vI (Int32.ofNat M1), vI (Int32.ofNat M2), vI (Int32.ofNat M3), vR y0, vR y1, vR y2, vR y3, vR b547, vR b729, vJ k0, sX, vJ k1, sX, vJ k2, sX, vJ k3, sX, vJ qq, sX, vI ix] [(.int (lcmpW qq (own_sumM M1 k0 k1 k2 k3)))]))
    by_cases hc811 : qq = (own_sumM M1 k0 k1 k2 k3)
    ·
     refine own_go (fun tgt kst => XS.ifNo X810.here hx rfl (hb hby at_285) rfl ((if0 _ _).trans (teq (own_lc_eq.mpr hc811)).2) kst) ?_
     show OwnWk _ _ _ _ (T810.setTop (mkF m 288 #[vI z0, vI z1, vI z2, vJ z3, sX, vI (4 : Int32), vI (Int32.ofNat M0), vI (Int32.ofNat M1), vI (Int32.ofNat M2), vI (Int32.ofNat M3), vR y0, vR y1, vR y2, vR y3, vR b547, vR b729, vJ k0, sX, vJ k1, sX, vJ k2, sX, vJ k3, sX, vJ qq, sX, vI ix] []))
     refine own_go (fun tgt kst => XS.iconst X810.here hx rfl (hb hby at_288) kst) ?_
     refine own_go (fun tgt kst => XS.istore X810.here hx rfl (hb hby at_289) rfl (l' := #[vI z0, vI z1, vI z2, vJ z3, sX, vI (4 : Int32), vI (Int32.ofNat M0), vI (Int32.ofNat M1), vI (Int32.ofNat M2), vI (Int32.ofNat M3), vR y0, vR y1, vR y2, vR y3, vR b547, vR b729, vJ k0, sX, vJ k1, sX, vJ k2, sX, vJ k3, sX, vJ qq, sX, vI (1 : Int32)]) rfl kst) ?_
     show OwnWk _ _ _ _ (T810.setTop (mkF m 291 #[vI z0, vI z1, vI z2, vJ z3, sX, vI (4 : Int32), vI (Int32.ofNat M0), vI (Int32.ofNat M1), vI (Int32.ofNat M2), vI (Int32.ofNat M3), vR y0, vR y1, vR y2, vR y3, vR b547, vR b729, vJ k0, sX, vJ k1, sX, vJ k2, sX, vJ k3, sX, vJ qq, sX, vI (1 : Int32)] []))
     exact LS1 _ _ _ (by show _ = Int32.ofNat (if qq = (own_sumM M1 k0 k1 k2 k3) then 2 else own_Ez (own_f (own_p4 M0 M1 M2 M3) k0 k1 k2 k3) 2 2 qq) - (1 : Int32); rw [if_pos hc811]; rfl) X810 e810 N810
    ·
     refine own_go (fun tgt kst => XS.ifYes X810.here hx rfl (pc0 := 285) (pc' := 291) rfl (hb hby at_285) rfl ((if0 _ _).trans (feq (fun q => hc811 (own_lc_eq.mp q))).2) (by decide) (by decide) kst) ?_
     show OwnWk _ _ _ _ (T810.setTop (mkF m 291 #[vI z0, vI z1, vI z2, vJ z3, sX, vI (4 : Int32), vI (Int32.ofNat M0), vI (Int32.ofNat M1), vI (Int32.ofNat M2), vI (Int32.ofNat M3), vR y0, vR y1, vR y2, vR y3, vR b547, vR b729, vJ k0, sX, vJ k1, sX, vJ k2, sX, vJ k3, sX, vJ qq, sX, vI ix] []))
     exact LS1 _ _ _ (by show _ = Int32.ofNat (if qq = (own_sumM M1 k0 k1 k2 k3) then 2 else own_Ez (own_f (own_p4 M0 M1 M2 M3) k0 k1 k2 k3) 2 2 qq) - (1 : Int32); rw [if_neg hc811]; exact hix) X810 e810 N810
   have LS3 : ∀ (ix : Int32) (T_ : State) (L_ : List Loc), ix = Int32.ofNat (own_Ez (own_f (own_p4 M0 M1 M2 M3) k0 k1 k2 k3) 3 1 qq) - (1 : Int32) → Stand p l e room_1 s m #[(.int z0), (.int z1), (.int z2), (.long z3)] below meth c T_ L_ 18 71 → T_.heap = h773 → Fr n0 L_ →
       OwnWk p e below (OwnP s (Q_rm0 Z z0 z1 z2 z3 dce h0 n0) room_1.cells room_1.slots) (T_.setTop (mkF m 235 #[vI z0, vI z1, vI z2, vJ z3, sX, vI (4 : Int32), vI (Int32.ofNat M0), vI (Int32.ofNat M1), vI (Int32.ofNat M2), vI (Int32.ofNat M3), vR y0, vR y1, vR y2, vR y3, vR b547, vR b729, vJ k0, sX, vJ k1, sX, vJ k2, sX, vJ k3, sX, vJ qq, sX, vI ix] [])) := by
    intro ix T_812 L_812 hix X_812 e_812 N_812
    show OwnWk _ _ _ _ (T_812.setTop (mkF m 235 #[vI z0, vI z1, vI z2, vJ z3, sX, vI (4 : Int32), vI (Int32.ofNat M0), vI (Int32.ofNat M1), vI (Int32.ofNat M2), vI (Int32.ofNat M3), vR y0, vR y1, vR y2, vR y3, vR b547, vR b729, vJ k0, sX, vJ k1, sX, vJ k2, sX, vJ k3, sX, vJ qq, sX, vI ix] []))
    refine own_go (fun tgt kst => XS.iload X_812.here hx rfl (hb hby at_235) rfl  kst) ?_
    refine own_go (fun tgt kst => XS.iconst X_812.here hx rfl (hb hby at_237) kst) ?_
    refine own_go (fun tgt kst => XS.icmpNo X_812.here hx rfl (hb hby at_238) rfl (tlt (by decide : (2 : Int32) < (4 : Int32))).2.2.2 kst) ?_
    refine own_go (fun tgt kst => XS.lload X_812.here hx rfl (hb hby at_241) rfl  kst) ?_
    refine own_go (fun tgt kst => XS.iload X_812.here hx rfl (hb hby at_243) rfl  kst) ?_
    refine own_go (fun tgt kst => XS.lload X_812.here hx rfl (hb hby at_245) rfl  kst) ?_
    show OwnWk _ _ _ _ (T_812.setTop (mkF m 247 #[vI z0, vI z1, vI z2, vJ z3, sX, vI (4 : Int32), vI (Int32.ofNat M0), vI (Int32.ofNat M1), vI (Int32.ofNat M2), vI (Int32.ofNat M3), vR y0, vR y1, vR y2, vR y3, vR b547, vR b729, vJ k0, sX, vJ k1, sX, vJ k2, sX, vJ k3, sX, vJ qq, sX, vI ix] [(.long k0), (.int (Int32.ofNat M2)), (.long qq)]))
    refine own_go (fun tgt kst => XS.lload X_812.here hx rfl (hb hby at_247) rfl  kst) ?_
    refine own_go (fun tgt kst => XS.lload X_812.here hx rfl (hb hby at_249) rfl  kst) ?_
    refine own_go (fun tgt kst => XS.lload X_812.here hx rfl (hb hby at_251) rfl  kst) ?_
    show OwnWk _ _ _ _ (T_812.setTop (mkF m 253 #[vI z0, vI z1, vI z2, vJ z3, sX, vI (4 : Int32), vI (Int32.ofNat M0), vI (Int32.ofNat M1), vI (Int32.ofNat M2), vI (Int32.ofNat M3), vR y0, vR y1, vR y2, vR y3, vR b547, vR b729, vJ k0, sX, vJ k1, sX, vJ k2, sX, vJ k3, sX, vJ qq, sX, vI ix] [(.long k3), (.long k2), (.long k1), (.long k0), (.int (Int32.ofNat M2)), (.long qq)]))
    refine own_callS X_812 hx hZ (y := yN28) hown (wq hw 179 rfl) (wq hw 180 rfl) (wq hw 3 rfl) (wq hw 181 rfl) (by decide) (argsL := [(.int (Int32.ofNat M2)), (.long k0), (.long k1), (.long k2), (.long k3)]) (rest := [(.long qq)])  (h := h773) (smo l Z a0 hw M2 k0 k1 k2 k3 h773 n0 Z798) e_812 (W := 2) (by decide) (by decide) (by decide) (by decide) rfl (by rw [hml]; rfl) (lenOf pd_15 rfl) rfl (by show 2 * 0 + _ ≤ _; exact Nat.le_of_eq rfl) (hb hby at_253) (fun v813 T813 h813 L813 X813 e813 hQ813 => ?_)
    obtain ⟨rfl, Nq813, q813⟩ := hQ813
    have N813 := Fr.app N_812 Nq813
    rw [q813] at e813
    show OwnWk _ _ _ _ (T813.setTop (mkF m 256 #[vI z0, vI z1, vI z2, vJ z3, sX, vI (4 : Int32), vI (Int32.ofNat M0), vI (Int32.ofNat M1), vI (Int32.ofNat M2), vI (Int32.ofNat M3), vR y0, vR y1, vR y2, vR y3, vR b547, vR b729, vJ k0, sX, vJ k1, sX, vJ k2, sX, vJ k3, sX, vJ qq, sX, vI ix] [(.long (own_sumM M2 k0 k1 k2 k3)), (.long qq)]))
    refine own_go (fun tgt kst => XS.lcmp X813.here hx rfl (hb hby at_256) rfl kst) ?_
    show OwnWk _ _ _ _ (T813.setTop (mkF m 257 #[vI z0, vI z1, vI z2, vJ z3, sX, vI (4 : Int32), vI (Int32.ofNat M0), vI (Int32.ofNat M1), vI (Int32.ofNat M2), vI (Int32.ofNat M3), vR y0, vR y1, vR y2, vR y3, vR b547, vR b729, vJ k0, sX, vJ k1, sX, vJ k2, sX, vJ k3, sX, vJ qq, sX, vI ix] [(.int (lcmpW qq (own_sumM M2 k0 k1 k2 k3)))]))
    by_cases hc814 : qq = (own_sumM M2 k0 k1 k2 k3)
    ·
     refine own_go (fun tgt kst => XS.ifNo X813.here hx rfl (hb hby at_257) rfl ((if0 _ _).trans (teq (own_lc_eq.mpr hc814)).2) kst) ?_
     show OwnWk _ _ _ _ (T813.setTop (mkF m 260 #[vI z0, vI z1, vI z2, vJ z3, sX, vI (4 : Int32), vI (Int32.ofNat M0), vI (Int32.ofNat M1), vI (Int32.ofNat M2), vI (Int32.ofNat M3), vR y0, vR y1, vR y2, vR y3, vR b547, vR b729, vJ k0, sX, vJ k1, sX, vJ k2, sX, vJ k3, sX, vJ qq, sX, vI ix] []))
     refine own_go (fun tgt kst => XS.iconst X813.here hx rfl (hb hby at_260) kst) ?_
     refine own_go (fun tgt kst => XS.istore X813.here hx rfl (hb hby at_261) rfl (l' := #[vI z0, vI z1, vI z2, vJ z3, sX, vI (4 : Int32), vI (Int32.ofNat M0), vI (Int32.ofNat M1), vI (Int32.ofNat M2), vI (Int32.ofNat M3), vR y0, vR y1, vR y2, vR y3, vR b547, vR b729, vJ k0, sX, vJ k1, sX, vJ k2, sX, vJ k3, sX, vJ qq, sX, vI (2 : Int32)]) rfl kst) ?_
     show OwnWk _ _ _ _ (T813.setTop (mkF m 263 #[vI z0, vI z1, vI z2, vJ z3, sX, vI (4 : Int32), vI (Int32.ofNat M0), vI (Int32.ofNat M1), vI (Int32.ofNat M2), vI (Int32.ofNat M3), vR y0, vR y1, vR y2, vR y3, vR b547, vR b729, vJ k0, sX, vJ k1, sX, vJ k2, sX, vJ k3, sX, vJ qq, sX, vI (2 : Int32)] []))
     exact LS2 _ _ _ (by show _ = Int32.ofNat (if qq = (own_sumM M2 k0 k1 k2 k3) then 3 else own_Ez (own_f (own_p4 M0 M1 M2 M3) k0 k1 k2 k3) 3 1 qq) - (1 : Int32); rw [if_pos hc814]; rfl) X813 e813 N813
    ·
     refine own_go (fun tgt kst => XS.ifYes X813.here hx rfl (pc0 := 257) (pc' := 263) rfl (hb hby at_257) rfl ((if0 _ _).trans (feq (fun q => hc814 (own_lc_eq.mp q))).2) (by decide) (by decide) kst) ?_
     show OwnWk _ _ _ _ (T813.setTop (mkF m 263 #[vI z0, vI z1, vI z2, vJ z3, sX, vI (4 : Int32), vI (Int32.ofNat M0), vI (Int32.ofNat M1), vI (Int32.ofNat M2), vI (Int32.ofNat M3), vR y0, vR y1, vR y2, vR y3, vR b547, vR b729, vJ k0, sX, vJ k1, sX, vJ k2, sX, vJ k3, sX, vJ qq, sX, vI ix] []))
     exact LS2 _ _ _ (by show _ = Int32.ofNat (if qq = (own_sumM M2 k0 k1 k2 k3) then 3 else own_Ez (own_f (own_p4 M0 M1 M2 M3) k0 k1 k2 k3) 3 1 qq) - (1 : Int32); rw [if_neg hc814]; exact hix) X813 e813 N813
   have LS4 : ∀ (ix : Int32) (T_ : State) (L_ : List Loc), ix = Int32.ofNat (own_Ez (own_f (own_p4 M0 M1 M2 M3) k0 k1 k2 k3) 4 0 qq) - (1 : Int32) → Stand p l e room_1 s m #[(.int z0), (.int z1), (.int z2), (.long z3)] below meth c T_ L_ 18 71 → T_.heap = h773 → Fr n0 L_ →
       OwnWk p e below (OwnP s (Q_rm0 Z z0 z1 z2 z3 dce h0 n0) room_1.cells room_1.slots) (T_.setTop (mkF m 207 #[vI z0, vI z1, vI z2, vJ z3, sX, vI (4 : Int32), vI (Int32.ofNat M0), vI (Int32.ofNat M1), vI (Int32.ofNat M2), vI (Int32.ofNat M3), vR y0, vR y1, vR y2, vR y3, vR b547, vR b729, vJ k0, sX, vJ k1, sX, vJ k2, sX, vJ k3, sX, vJ qq, sX, vI ix] [])) := by
    intro ix T_815 L_815 hix X_815 e_815 N_815
    show OwnWk _ _ _ _ (T_815.setTop (mkF m 207 #[vI z0, vI z1, vI z2, vJ z3, sX, vI (4 : Int32), vI (Int32.ofNat M0), vI (Int32.ofNat M1), vI (Int32.ofNat M2), vI (Int32.ofNat M3), vR y0, vR y1, vR y2, vR y3, vR b547, vR b729, vJ k0, sX, vJ k1, sX, vJ k2, sX, vJ k3, sX, vJ qq, sX, vI ix] []))
    refine own_go (fun tgt kst => XS.iload X_815.here hx rfl (hb hby at_207) rfl  kst) ?_
    refine own_go (fun tgt kst => XS.iconst X_815.here hx rfl (hb hby at_209) kst) ?_
    refine own_go (fun tgt kst => XS.icmpNo X_815.here hx rfl (hb hby at_210) rfl (tlt (by decide : (3 : Int32) < (4 : Int32))).2.2.2 kst) ?_
    refine own_go (fun tgt kst => XS.lload X_815.here hx rfl (hb hby at_213) rfl  kst) ?_
    refine own_go (fun tgt kst => XS.iload X_815.here hx rfl (hb hby at_215) rfl  kst) ?_
    refine own_go (fun tgt kst => XS.lload X_815.here hx rfl (hb hby at_217) rfl  kst) ?_
    show OwnWk _ _ _ _ (T_815.setTop (mkF m 219 #[vI z0, vI z1, vI z2, vJ z3, sX, vI (4 : Int32), vI (Int32.ofNat M0), vI (Int32.ofNat M1), vI (Int32.ofNat M2), vI (Int32.ofNat M3), vR y0, vR y1, vR y2, vR y3, vR b547, vR b729, vJ k0, sX, vJ k1, sX, vJ k2, sX, vJ k3, sX, vJ qq, sX, vI ix] [(.long k0), (.int (Int32.ofNat M3)), (.long qq)]))
    refine own_go (fun tgt kst => XS.lload X_815.here hx rfl (hb hby at_219) rfl  kst) ?_
    refine own_go (fun tgt kst => XS.lload X_815.here hx rfl (hb hby at_221) rfl  kst) ?_
    refine own_go (fun tgt kst => XS.lload X_815.here hx rfl (hb hby at_223) rfl  kst) ?_
    show OwnWk _ _ _ _ (T_815.setTop (mkF m 225 #[vI z0, vI z1, vI z2, vJ z3, sX, vI (4 : Int32), vI (Int32.ofNat M0), vI (Int32.ofNat M1), vI (Int32.ofNat M2), vI (Int32.ofNat M3), vR y0, vR y1, vR y2, vR y3, vR b547, vR b729, vJ k0, sX, vJ k1, sX, vJ k2, sX, vJ k3, sX, vJ qq, sX, vI ix] [(.long k3), (.long k2), (.long k1), (.long k0), (.int (Int32.ofNat M3)), (.long qq)]))
    refine own_callS X_815 hx hZ (y := yN28) hown (wq hw 179 rfl) (wq hw 180 rfl) (wq hw 3 rfl) (wq hw 181 rfl) (by decide) (argsL := [(.int (Int32.ofNat M3)), (.long k0), (.long k1), (.long k2), (.long k3)]) (rest := [(.long qq)])  (h := h773) (smo l Z a0 hw M3 k0 k1 k2 k3 h773 n0 Z798) e_815 (W := 2) (by decide) (by decide) (by decide) (by decide) rfl (by rw [hml]; rfl) (lenOf pd_15 rfl) rfl (by show 2 * 0 + _ ≤ _; exact Nat.le_of_eq rfl) (hb hby at_225) (fun v816 T816 h816 L816 X816 e816 hQ816 => ?_)
    obtain ⟨rfl, Nq816, q816⟩ := hQ816
    have N816 := Fr.app N_815 Nq816
    rw [q816] at e816
    show OwnWk _ _ _ _ (T816.setTop (mkF m 228 #[vI z0, vI z1, vI z2, vJ z3, sX, vI (4 : Int32), vI (Int32.ofNat M0), vI (Int32.ofNat M1), vI (Int32.ofNat M2), vI (Int32.ofNat M3), vR y0, vR y1, vR y2, vR y3, vR b547, vR b729, vJ k0, sX, vJ k1, sX, vJ k2, sX, vJ k3, sX, vJ qq, sX, vI ix] [(.long (own_sumM M3 k0 k1 k2 k3)), (.long qq)]))
    refine own_go (fun tgt kst => XS.lcmp X816.here hx rfl (hb hby at_228) rfl kst) ?_
    show OwnWk _ _ _ _ (T816.setTop (mkF m 229 #[vI z0, vI z1, vI z2, vJ z3, sX, vI (4 : Int32), vI (Int32.ofNat M0), vI (Int32.ofNat M1), vI (Int32.ofNat M2), vI (Int32.ofNat M3), vR y0, vR y1, vR y2, vR y3, vR b547, vR b729, vJ k0, sX, vJ k1, sX, vJ k2, sX, vJ k3, sX, vJ qq, sX, vI ix] [(.int (lcmpW qq (own_sumM M3 k0 k1 k2 k3)))]))
    by_cases hc817 : qq = (own_sumM M3 k0 k1 k2 k3)
    ·
     refine own_go (fun tgt kst => XS.ifNo X816.here hx rfl (hb hby at_229) rfl ((if0 _ _).trans (teq (own_lc_eq.mpr hc817)).2) kst) ?_
     show OwnWk _ _ _ _ (T816.setTop (mkF m 232 #[vI z0, vI z1, vI z2, vJ z3, sX, vI (4 : Int32), vI (Int32.ofNat M0), vI (Int32.ofNat M1), vI (Int32.ofNat M2), vI (Int32.ofNat M3), vR y0, vR y1, vR y2, vR y3, vR b547, vR b729, vJ k0, sX, vJ k1, sX, vJ k2, sX, vJ k3, sX, vJ qq, sX, vI ix] []))
     refine own_go (fun tgt kst => XS.iconst X816.here hx rfl (hb hby at_232) kst) ?_
     refine own_go (fun tgt kst => XS.istore X816.here hx rfl (hb hby at_233) rfl (l' := #[vI z0, vI z1, vI z2, vJ z3, sX, vI (4 : Int32), vI (Int32.ofNat M0), vI (Int32.ofNat M1), vI (Int32.ofNat M2), vI (Int32.ofNat M3), vR y0, vR y1, vR y2, vR y3, vR b547, vR b729, vJ k0, sX, vJ k1, sX, vJ k2, sX, vJ k3, sX, vJ qq, sX, vI (3 : Int32)]) rfl kst) ?_
     show OwnWk _ _ _ _ (T816.setTop (mkF m 235 #[vI z0, vI z1, vI z2, vJ z3, sX, vI (4 : Int32), vI (Int32.ofNat M0), vI (Int32.ofNat M1), vI (Int32.ofNat M2), vI (Int32.ofNat M3), vR y0, vR y1, vR y2, vR y3, vR b547, vR b729, vJ k0, sX, vJ k1, sX, vJ k2, sX, vJ k3, sX, vJ qq, sX, vI (3 : Int32)] []))
     exact LS3 _ _ _ (by show _ = Int32.ofNat (if qq = (own_sumM M3 k0 k1 k2 k3) then 4 else own_Ez (own_f (own_p4 M0 M1 M2 M3) k0 k1 k2 k3) 4 0 qq) - (1 : Int32); rw [if_pos hc817]; rfl) X816 e816 N816
    ·
     refine own_go (fun tgt kst => XS.ifYes X816.here hx rfl (pc0 := 229) (pc' := 235) rfl (hb hby at_229) rfl ((if0 _ _).trans (feq (fun q => hc817 (own_lc_eq.mp q))).2) (by decide) (by decide) kst) ?_
     show OwnWk _ _ _ _ (T816.setTop (mkF m 235 #[vI z0, vI z1, vI z2, vJ z3, sX, vI (4 : Int32), vI (Int32.ofNat M0), vI (Int32.ofNat M1), vI (Int32.ofNat M2), vI (Int32.ofNat M3), vR y0, vR y1, vR y2, vR y3, vR b547, vR b729, vJ k0, sX, vJ k1, sX, vJ k2, sX, vJ k3, sX, vJ qq, sX, vI ix] []))
     exact LS3 _ _ _ (by show _ = Int32.ofNat (if qq = (own_sumM M3 k0 k1 k2 k3) then 4 else own_Ez (own_f (own_p4 M0 M1 M2 M3) k0 k1 k2 k3) 4 0 qq) - (1 : Int32); rw [if_neg hc817]; exact hix) X816 e816 N816
   show OwnWk _ _ _ _ (T_803.setTop (mkF m 202 #[vI z0, vI z1, vI z2, vJ z3, sX, vI (4 : Int32), vI (Int32.ofNat M0), vI (Int32.ofNat M1), vI (Int32.ofNat M2), vI (Int32.ofNat M3), vR y0, vR y1, vR y2, vR y3, vR b547, vR b729, vJ k0, sX, vJ k1, sX, vJ k2, sX, vJ k3, sX, uX, uX, uX] [(.long qq)]))
   refine own_go (fun tgt kst => XS.lstore X_803.here hx rfl (hb hby at_202) rfl (l' := #[vI z0, vI z1, vI z2, vJ z3, sX, vI (4 : Int32), vI (Int32.ofNat M0), vI (Int32.ofNat M1), vI (Int32.ofNat M2), vI (Int32.ofNat M3), vR y0, vR y1, vR y2, vR y3, vR b547, vR b729, vJ k0, sX, vJ k1, sX, vJ k2, sX, vJ k3, sX, vJ qq, sX, uX]) rfl kst) ?_
   refine own_go (fun tgt kst => XS.iconst X_803.here hx rfl (hb hby at_204) kst) ?_
   refine own_go (fun tgt kst => XS.istore X_803.here hx rfl (hb hby at_205) rfl (l' := #[vI z0, vI z1, vI z2, vJ z3, sX, vI (4 : Int32), vI (Int32.ofNat M0), vI (Int32.ofNat M1), vI (Int32.ofNat M2), vI (Int32.ofNat M3), vR y0, vR y1, vR y2, vR y3, vR b547, vR b729, vJ k0, sX, vJ k1, sX, vJ k2, sX, vJ k3, sX, vJ qq, sX, vI (-1 : Int32)]) rfl kst) ?_
   show OwnWk _ _ _ _ (T_803.setTop (mkF m 207 #[vI z0, vI z1, vI z2, vJ z3, sX, vI (4 : Int32), vI (Int32.ofNat M0), vI (Int32.ofNat M1), vI (Int32.ofNat M2), vI (Int32.ofNat M3), vR y0, vR y1, vR y2, vR y3, vR b547, vR b729, vJ k0, sX, vJ k1, sX, vJ k2, sX, vJ k3, sX, vJ qq, sX, vI (-1 : Int32)] []))
   exact LS4 _ _ _ rfl X_803 e_803 N_803
  show OwnWk _ _ _ _ (T802.setTop (mkF m 176 #[vI z0, vI z1, vI z2, vJ z3, sX, vI (4 : Int32), vI (Int32.ofNat M0), vI (Int32.ofNat M1), vI (Int32.ofNat M2), vI (Int32.ofNat M3), vR y0, vR y1, vR y2, vR y3, vR b547, vR b729, vJ k0, sX, vJ k1, sX, vJ k2, sX, vJ k3, sX, uX, uX, uX] []))
  refine own_go (fun tgt kst => XS.iloadN X802.here hx rfl (hb hby at_176) rfl  kst) ?_
  refine own_go (fun tgt kst => XS.bipush X802.here hx rfl (hb hby at_177) kst) ?_
  refine own_go (fun tgt kst => XS.iand X802.here hx rfl (hb hby at_179) rfl kst) ?_
  show OwnWk _ _ _ _ (T802.setTop (mkF m 180 #[vI z0, vI z1, vI z2, vJ z3, sX, vI (4 : Int32), vI (Int32.ofNat M0), vI (Int32.ofNat M1), vI (Int32.ofNat M2), vI (Int32.ofNat M3), vR y0, vR y1, vR y2, vR y3, vR b547, vR b729, vJ k0, sX, vJ k1, sX, vJ k2, sX, vJ k3, sX, uX, uX, uX] [(.int (z2 &&& (16 : Int32)))]))
  by_cases hc818 : (z2 &&& (16 : Int32)) = (0 : Int32)
  ·
   refine own_go (fun tgt kst => XS.ifYes X802.here hx rfl (pc0 := 180) (pc' := 187) rfl (hb hby at_180) rfl ((if0 _ _).trans (teq hc818).1) (by decide) (by decide) kst) ?_
   show OwnWk _ _ _ _ (T802.setTop (mkF m 187 #[vI z0, vI z1, vI z2, vJ z3, sX, vI (4 : Int32), vI (Int32.ofNat M0), vI (Int32.ofNat M1), vI (Int32.ofNat M2), vI (Int32.ofNat M3), vR y0, vR y1, vR y2, vR y3, vR b547, vR b729, vJ k0, sX, vJ k1, sX, vJ k2, sX, vJ k3, sX, uX, uX, uX] []))
   refine own_go (fun tgt kst => XS.iloadN X802.here hx rfl (hb hby at_187) rfl  kst) ?_
   refine own_go (fun tgt kst => XS.bipush X802.here hx rfl (hb hby at_188) kst) ?_
   refine own_go (fun tgt kst => XS.iand X802.here hx rfl (hb hby at_190) rfl kst) ?_
   show OwnWk _ _ _ _ (T802.setTop (mkF m 191 #[vI z0, vI z1, vI z2, vJ z3, sX, vI (4 : Int32), vI (Int32.ofNat M0), vI (Int32.ofNat M1), vI (Int32.ofNat M2), vI (Int32.ofNat M3), vR y0, vR y1, vR y2, vR y3, vR b547, vR b729, vJ k0, sX, vJ k1, sX, vJ k2, sX, vJ k3, sX, uX, uX, uX] [(.int (z2 &&& (15 : Int32)))]))
   obtain ⟨MQ, hMQ, eMQ⟩ := own_and_nat z2 15 (by decide)
   rw [show (z2 &&& (15 : Int32)) = Int32.ofNat MQ from eMQ]
   show OwnWk _ _ _ _ (T802.setTop (mkF m 191 #[vI z0, vI z1, vI z2, vJ z3, sX, vI (4 : Int32), vI (Int32.ofNat M0), vI (Int32.ofNat M1), vI (Int32.ofNat M2), vI (Int32.ofNat M3), vR y0, vR y1, vR y2, vR y3, vR b547, vR b729, vJ k0, sX, vJ k1, sX, vJ k2, sX, vJ k3, sX, uX, uX, uX] [(.int (Int32.ofNat MQ))]))
   refine own_go (fun tgt kst => XS.lload X802.here hx rfl (hb hby at_191) rfl  kst) ?_
   refine own_go (fun tgt kst => XS.lload X802.here hx rfl (hb hby at_193) rfl  kst) ?_
   refine own_go (fun tgt kst => XS.lload X802.here hx rfl (hb hby at_195) rfl  kst) ?_
   refine own_go (fun tgt kst => XS.lload X802.here hx rfl (hb hby at_197) rfl  kst) ?_
   show OwnWk _ _ _ _ (T802.setTop (mkF m 199 #[vI z0, vI z1, vI z2, vJ z3, sX, vI (4 : Int32), vI (Int32.ofNat M0), vI (Int32.ofNat M1), vI (Int32.ofNat M2), vI (Int32.ofNat M3), vR y0, vR y1, vR y2, vR y3, vR b547, vR b729, vJ k0, sX, vJ k1, sX, vJ k2, sX, vJ k3, sX, uX, uX, uX] [(.long k3), (.long k2), (.long k1), (.long k0), (.int (Int32.ofNat MQ))]))
   refine own_callS X802 hx hZ (y := yN28) hown (wq hw 179 rfl) (wq hw 180 rfl) (wq hw 3 rfl) (wq hw 181 rfl) (by decide) (argsL := [(.int (Int32.ofNat MQ)), (.long k0), (.long k1), (.long k2), (.long k3)]) (rest := [])  (h := h773) (smo l Z a0 hw MQ k0 k1 k2 k3 h773 n0 Z798) e802 (W := 0) (by decide) (by decide) (by decide) (by decide) rfl (by rw [hml]; rfl) (lenOf pd_15 rfl) rfl (by show 2 * 0 + _ ≤ _; exact Nat.le_of_eq rfl) (hb hby at_199) (fun v819 T819 h819 L819 X819 e819 hQ819 => ?_)
   obtain ⟨rfl, Nq819, q819⟩ := hQ819
   have N819 := Fr.app N802 Nq819
   rw [q819] at e819
   show OwnWk _ _ _ _ (T819.setTop (mkF m 202 #[vI z0, vI z1, vI z2, vJ z3, sX, vI (4 : Int32), vI (Int32.ofNat M0), vI (Int32.ofNat M1), vI (Int32.ofNat M2), vI (Int32.ofNat M3), vR y0, vR y1, vR y2, vR y3, vR b547, vR b729, vJ k0, sX, vJ k1, sX, vJ k2, sX, vJ k3, sX, uX, uX, uX] [(.long (own_sumM MQ k0 k1 k2 k3))]))
   exact LQ _ _ _  X819 e819 N819
  ·
   refine own_go (fun tgt kst => XS.ifNo X802.here hx rfl (hb hby at_180) rfl ((if0 _ _).trans (feq hc818).1) kst) ?_
   show OwnWk _ _ _ _ (T802.setTop (mkF m 183 #[vI z0, vI z1, vI z2, vJ z3, sX, vI (4 : Int32), vI (Int32.ofNat M0), vI (Int32.ofNat M1), vI (Int32.ofNat M2), vI (Int32.ofNat M3), vR y0, vR y1, vR y2, vR y3, vR b547, vR b729, vJ k0, sX, vJ k1, sX, vJ k2, sX, vJ k3, sX, uX, uX, uX] []))
   refine own_go (fun tgt kst => XS.lloadN X802.here hx rfl (hb hby at_183) rfl  kst) ?_
   refine own_go (fun tgt kst => XS.goto X802.here hx rfl (pc0 := 184) (pc' := 202) rfl (hb hby at_184) (by decide) (by decide) kst) ?_
   show OwnWk _ _ _ _ (T802.setTop (mkF m 202 #[vI z0, vI z1, vI z2, vJ z3, sX, vI (4 : Int32), vI (Int32.ofNat M0), vI (Int32.ofNat M1), vI (Int32.ofNat M2), vI (Int32.ofNat M3), vR y0, vR y1, vR y2, vR y3, vR b547, vR b729, vJ k0, sX, vJ k1, sX, vJ k2, sX, vJ k3, sX, uX, uX, uX] [(.long z3)]))
   exact LQ _ _ _  X802 e802 N802
theorem own_dce {s : State} {args : Array Value} (hf : Fit s) (w1 : (Jvm.Cond.initialized "java/util/ArrayList").before args s = true) (w2 : (Jvm.Cond.laysStatic "java/util/ArrayList" "DEFAULTCAPACITY_EMPTY_ELEMENTDATA" "[Ljava/lang/Object;").before args s = true)
    (w3 : (Jvm.Cond.arrayOf (Jvm.Term.static "java/util/ArrayList" "DEFAULTCAPACITY_EMPTY_ELEMENTDATA" "[Ljava/lang/Object;") (Jvm.ClassFile.FieldType.object "java/lang/Object")).before args s = true) :
    ∃ dce : Addr, (Jvm.Term.static "java/util/ArrayList" "DEFAULTCAPACITY_EMPTY_ELEMENTDATA" "[Ljava/lang/Object;").eval args s none [] s = some (.ref dce) ∧ Sta s s.heap "java/util/ArrayList" "DEFAULTCAPACITY_EMPTY_ELEMENTDATA" "[Ljava/lang/Object;" (.ref dce) := by
  obtain ⟨v, ev, fv⟩ := static_fit hf w2 (ty := .array (.object "java/lang/Object")) (by decide)
  rcases ref_cases (fit_R fv rfl) with rfl | ⟨a, rfl⟩
  · have q := Cond.before_iff.mp w3
    simp [Cond.value, ev] at q
  · exact ⟨a, ev, Sta.start ev (Or.inr ⟨w1, w2⟩)⟩
theorem own_small {s : State} {args : Array Value} {t : Term} {a : Addr} {c : Cell} {ty : FieldType} {k : Int32} (et : t.eval args s none [] s = some (.ref a)) (A : Arr s s.heap a c ty) (w : (Jvm.Cond.eq (Jvm.Term.length t) (Jvm.Term.int k)).before args s = true) : c.slots.size < 2 ^ 31 ∧ c.slots.size.toInt32 = k := by
  have hA := A.fin (Vm.Alike.refl _)
  by_cases p : c.slots.size < 2 ^ 31
  · have e : (Term.length t).eval args s none [] s = some (.int c.slots.size.toInt32) := by simp [Term.eval, et, hA, p]
    exact ⟨p, gotT (Cond.eq_ints e (Term.int_eval k)) (Cond.before_iff.mp w)⟩
  · simp [Cond.before, Cond.holds, Cond.value, Term.eval, et, hA, p] at w
theorem own_olds {s : State} {args : Array Value} (hf : Fit s) (hw : ∀ d ∈ tables_1, d.before args s = true) (hsets : ∀ w ∈ jdkStatics_1, w.before args s = true) : ∃ dce : Addr,
    Sta s s.heap "java/util/ArrayList" "DEFAULTCAPACITY_EMPTY_ELEMENTDATA" "[Ljava/lang/Object;" (.ref dce) ∧ OAr s s.heap dce (.object "java/lang/Object") [] ∧ Sta s s.heap "java/util/BitSet" "$assertionsDisabled" "Z" (.int (1 : Int32)) := by
  obtain ⟨dce, ed, S_d⟩ := own_dce hf (wq hw 31 rfl) (hsets _ (List.mem_of_getElem? (i := 2) rfl)) (hsets _ (List.mem_of_getElem? (i := 6) rfl))
  obtain ⟨c1, A1⟩ := Arr.start ed (Cond.before_iff.mp (hsets _ (List.mem_of_getElem? (i := 6) rfl)))
  obtain ⟨q1, z1⟩ := own_small ed A1 (hsets _ (List.mem_of_getElem? (i := 8) rfl))
  have n1 : c1.slots.size = 0 := by
    have := congrArg Int32.toInt z1
    rw [show c1.slots.size.toInt32 = Int32.ofNat c1.slots.size from rfl, own_n_int q1] at this
    have e0 : (0 : Int32).toInt = 0 := rfl
    omega
  have V_d : OAr s s.heap dce (.object "java/lang/Object") [] := ⟨c1, A1, by rw [Array.eq_empty_of_size_eq_zero n1]⟩
  have S_a : Sta s s.heap "java/util/BitSet" "$assertionsDisabled" "Z" (.int (1 : Int32)) := Sta.start (eqv_i (F := Jvm.Term.int 1) rfl (Cond.before_iff.mp (hsets _ (List.mem_of_getElem? (i := 11) rfl)))) (Or.inl (hsets _ (List.mem_of_getElem? (i := 10) rfl)))
  exact ⟨dce, S_d, V_d, S_a⟩
set_option maxRecDepth 65536 in
set_option maxHeartbeats 40000000 in
theorem comes_1 {Post : Tables → Env → Array Value → State → Outcome → State → Prop} (hpost : ∀ tb e args s v u, (limb_1_1.after args s (.returned v) u = true ∧ limb_1_2.after args s (.returned v) u = true) → FrameEnd s (.returned v) u (Jvm.fieldLocs frame_1_writes args s ++ Jvm.arrayLocs frame_1_arrays args s ++ Jvm.staticLocs frame_1_statics s) 48 256 → Post tb e args s (.returned v) u) :
    ArmFor flags0 classFile x code maxLocals ret World_1 tables_1 room_1 Calls_1 rest_1 Pre_1 Post := by
  intro l hfl _ _ p e ha hc hk s m args below hf hA hF happ hP
  obtain ⟨hcalls, hrest, hpre⟩ := hP
  obtain ⟨-, -, -, hnamed, -, -, -, hat⟩ := (Spec.applies_iff hf).mp happ
  obtain ⟨hg, hn⟩ := and_e (Cond.before_iff.mp (show (Jvm.Cond.and given_1 narrow_1).before args s = true from hpre))
  obtain ⟨g0, r0⟩ := and_e hg
  obtain ⟨g1, r1⟩ := and_e r0
  obtain ⟨g2, r2⟩ := and_e r1
  obtain ⟨g3, r3⟩ := and_e r2
  obtain ⟨w0, w1, w2, w3, rfl⟩ : ∃ w0 w1 w2 w3 : Value, args = #[w0, w1, w2, w3] := by
    have hs : args.size = 4 := by simpa [Cond.value, given_1] using g0
    obtain ⟨L⟩ := args
    match L, hs with
    | [w0, w1, w2, w3], _ => exact ⟨w0, w1, w2, w3, rfl⟩
  have hw := fun d (hd : d ∈ tables_1) => atoms_spec (ws := Jvm.Cond.code x code maxLocals ret :: tables_1) hat d (List.mem_cons_of_mem _ hd)
  have hfit : Fit s := fun {y c} hc i hi => by
    obtain ⟨ha, rfl⟩ := Array.getElem?_eq_some_iff.mp hc
    have q := List.all_eq_true.mp ((Array.all_eq_true_iff_forall_mem.mp hF) _ (Array.getElem_mem ha)) i (List.mem_range.mpr hi)
    simpa [Array.getElem?_eq_getElem hi] using q
  obtain ⟨i0, ei0⟩ := is_v g1
  obtain rfl : w0 = (.int i0) := Option.some.inj ei0
  obtain ⟨i1, ei1⟩ := is_v g2
  obtain rfl : w1 = (.int i1) := Option.some.inj ei1
  obtain ⟨i2, ei2⟩ := is_v g3
  obtain rfl : w2 = (.int i2) := Option.some.inj ei2
  obtain ⟨i3, ei3⟩ := isL_v r3
  obtain rfl : w3 = (.long i3) := Option.some.inj ei3
  obtain ⟨hsets, hown0⟩ := atoms_of _ (rest_1_c_eq ▸ (show rest_1_c.before _ s = true from hrest))
  obtain ⟨dce, S_d, V_d, S_a⟩ := own_olds hfit hw hsets
  obtain ⟨n, o, h1, h2, h3, _, L, rfl, ⟨rfl, N⟩, hq⟩ := rm0 l s _ hw i0 i1 i2 i3 dce s.heap s.heap.size (Nat.le_refl _) (Old.start s) S_d V_d S_a p e ha hc hk s m _ below hf ((Spec.applies_iff_loose hf).mp happ).1 ⟨rfl, State.Warmed39.refl s, rfl⟩ trivial
  refine ⟨n, _, h1, h2, h3, hpost _ _ _ _ _ _ ⟨Cond.after_iff.mpr rfl, Cond.after_iff.mpr (eq_i res_at (Term.int_eval (1)) rfl)⟩ ⟨hq.1, hq.2.1, (hq.2.2.sift fun y hy => Or.inr (N y hy)).mono (by decide) (by decide)⟩⟩
theorem main_1_1 : Claimed_1_1 := comes_1 fun _ _ _ _ _ _ h hF => ⟨h.1, hF⟩
theorem main_1_2 : Claimed_1_2 := comes_1 fun _ _ _ _ _ _ h hF => ⟨h.2, hF⟩
end Jvm.Pilot.@@N@@
namespace Jvm.Pilot.@@N@@
open Jvm Jvm.ClassFile Sem Op Lib Jvm.Free Jvm.Stand Jvm.Pilot.@@N@@.Jvm.D
/-! MADE BY PROGRAM (witnessworld.py) out of the Statement's table words and the real class files: 31 classes; the members and pool entries that the words name. The judged class is class 1, her method 1. -/
namespace start1
open Jvm.ClassFile
def u (s : String) : CpInfo := .utf8 (stringToUtf16 s)
/-- a pool by its gaps: so many unusable entries, then the entry; so many at the end -/
def gap : Nat → List CpInfo → List CpInfo
  | 0, r => r
  | n + 1, r => .unusable :: gap n r
def poolList (es : List (Nat × CpInfo)) (last : Nat) : List CpInfo := es.foldr (fun e r => gap e.1 (e.2 :: r)) (gap last [])
def pool (es : List (Nat × CpInfo)) (last : Nat) : Array CpInfo := ⟨poolList es last⟩
def fileOf (pool : Array CpInfo) (this : Nat) (attrs : Array Attribute := #[]) (ms : Array MethodInfo := #[]) (fl : Nat := 33) (sup : Nat := 0) (ifs : Array Nat := #[]) (fds : Array FieldInfo := #[]) : ClassFile where
  minorVersion := 0
  majorVersion := 65
  constantPool := pool
  accessFlags := fl
  thisClass := this
  superClass := sup
  interfaces := ifs
  fields := fds
  methods := ms
  attributes := attrs
def plain (name : String) (sup : Option ClassId) : Class where
  name := name
  kind := .ordinary
  loader := none
  accessFlags := 33
  super := sup
  interfaces := #[]
  cf := none
  fields := #[]
  methods := #[]
  instanceTypes := #[]
  staticTypes := #[]
  resolved := #[]
  callSites := []
  init := .initialized
  statics := none
  mirror := none

def pool0 : Array CpInfo := pool [(5, u "<init>"), (0, u "()V"), (1, .class_ 10), (1, u "java/lang/Object")] 113

def k0c0 : Code := { maxStack := 0, maxLocals := 1, code := object_method_1_code, exceptionTable := #[], attributes := #[] }
def k0m0 : Method := { name := "<init>", desc := "()V", sig := { parameters := [], returnType := none }, accessFlags := 1, code := some k0c0 }
/-- java/lang/Object -/
def k0 : Class := { plain "java/lang/Object" none with
  accessFlags := 33
  interfaces := #[]
  cf := some (fileOf pool0 8 #[] #[{ accessFlags := 1, nameIndex := 5, descriptorIndex := 6, attributes := #[] }] 33 0 #[] #[])
  fields := #[]
  methods := #[k0m0]
  instanceTypes := #[]
  staticTypes := #[]
  resolved := Array.replicate 124 none
  statics := none }

def pool1 : Array CpInfo := pool [(2, .class_ 4), (0, .nameAndType 5 6), (0, u "java/lang/Object"), (0, u "<init>"), (0, u "()V"), (0, .integer 2147483647), (0, .methodref 9 10), (0, .class_ 11), (0, .nameAndType 12 13), (0, u "com/example/encircle/encircle/layout/ZoneKeysFirstPinLaw"), (0, u "bits"), (0, u "(I)Ljava/util/BitSet;"), (0, .class_ 15), (0, u "java/util/ArrayList"), (0, .methodref 14 3), (0, .methodref 14 18), (0, .nameAndType 19 20), (0, u "add"), (0, u "(Ljava/lang/Object;)Z"), (0, .class_ 22), (0, u "com/example/encircle/encircle/layout/ZoneKeys"), (0, .methodref 21 24), (0, .nameAndType 5 25), (0, u "(ILjava/util/List;)V"), (0, .methodref 21 27), (0, .nameAndType 28 29), (0, u "key"), (0, u "(I)J"), (0, .methodref 9 31), (0, .nameAndType 32 33), (0, u "sumOf"), (0, u "(IJJJJ)J"), (0, .methodref 21 35), (0, .nameAndType 36 37), (0, u "first"), (0, u "(J)I"), (0, .class_ 39), (0, u "java/util/BitSet"), (0, .methodref 38 3), (0, .methodref 38 42), (0, .nameAndType 43 44), (0, u "set"), (0, u "(I)V"), (2, u "law"), (0, u "(IIIJ)Z")] 3

def k1m0 : Method := { name := "<init>", desc := "()V", sig := { parameters := [], returnType := none }, accessFlags := 1, code := none }
def k1c1 : Code := { maxStack := 11, maxLocals := 27, code := code, exceptionTable := #[], attributes := #[] }
def k1m1 : Method := { name := "law", desc := "(IIIJ)Z", sig := { parameters := [.int, .int, .int, .long], returnType := some .boolean }, accessFlags := 9, code := some k1c1 }
def k1c2 : Code := { maxStack := 2, maxLocals := 2, code := method_3_code, exceptionTable := #[], attributes := #[] }
def k1m2 : Method := { name := "bits", desc := "(I)Ljava/util/BitSet;", sig := { parameters := [.int], returnType := some (.object "java/util/BitSet") }, accessFlags := 10, code := some k1c2 }
def k1c3 : Code := { maxStack := 4, maxLocals := 11, code := method_4_code, exceptionTable := #[], attributes := #[] }
def k1m3 : Method := { name := "sumOf", desc := "(IJJJJ)J", sig := { parameters := [.int, .long, .long, .long, .long], returnType := some .long }, accessFlags := 10, code := some k1c3 }
/-- com/example/encircle/encircle/layout/ZoneKeysFirstPinLaw -/
def k1 : Class := { plain "com/example/encircle/encircle/layout/ZoneKeysFirstPinLaw" (some 0) with
  accessFlags := 49
  interfaces := #[]
  cf := some (fileOf pool1 9 #[] #[{ accessFlags := 1, nameIndex := 5, descriptorIndex := 6, attributes := #[] }, { accessFlags := 9, nameIndex := 47, descriptorIndex := 48, attributes := #[] }, { accessFlags := 10, nameIndex := 12, descriptorIndex := 13, attributes := #[] }, { accessFlags := 10, nameIndex := 32, descriptorIndex := 33, attributes := #[] }] 49 2 #[] #[])
  fields := #[]
  methods := #[k1m0, k1m1, k1m2, k1m3]
  instanceTypes := #[]
  staticTypes := #[]
  resolved := Array.replicate 52 none
  statics := none }

def pool2 : Array CpInfo := pool [(1, .class_ 2), (0, u "java/lang/Cloneable"), (0, .class_ 4), (0, u "java/lang/Object")] 2

/-- java/lang/Cloneable -/
def k2 : Class := { plain "java/lang/Cloneable" (some 0) with
  accessFlags := 1537
  interfaces := #[]
  cf := some (fileOf pool2 1 #[] #[] 1537 3 #[] #[])
  fields := #[]
  methods := #[]
  instanceTypes := #[]
  staticTypes := #[]
  resolved := Array.replicate 7 none
  statics := none }

def pool3 : Array CpInfo := pool [(1, .class_ 2), (0, u "java/io/Serializable"), (0, .class_ 4), (0, u "java/lang/Object")] 2

/-- java/io/Serializable -/
def k3 : Class := { plain "java/io/Serializable" (some 0) with
  accessFlags := 1537
  interfaces := #[]
  cf := some (fileOf pool3 1 #[] #[] 1537 3 #[] #[])
  fields := #[]
  methods := #[]
  instanceTypes := #[]
  staticTypes := #[]
  resolved := Array.replicate 7 none
  statics := none }

def pool4 : Array CpInfo := pool [(1, .class_ 2), (0, u "java/util/BitSet"), (0, .fieldref 1 4), (0, .nameAndType 5 6), (0, u "$assertionsDisabled"), (0, u "Z"), (0, .fieldref 1 8), (0, .nameAndType 9 10), (0, u "wordsInUse"), (0, u "I"), (0, .fieldref 1 12), (0, .nameAndType 13 14), (0, u "words"), (0, u "[J"), (3, .nameAndType 19 20), (0, u "<init>"), (0, u "()V"), (0, .methodref 22 18), (0, .class_ 23), (0, u "java/lang/Object"), (0, .fieldref 1 25), (0, .nameAndType 26 6), (0, u "sizeIsSticky"), (0, .methodref 1 28), (0, .nameAndType 29 30), (0, u "initWords"), (0, u "(I)V"), (21, .methodref 1 53), (0, .nameAndType 54 55), (0, u "wordIndex"), (0, u "(I)I"), (0, .methodref 1 57), (0, .nameAndType 58 20), (0, u "checkInvariants"), (18, u "()I"), (61, .methodref 1 140), (0, .nameAndType 141 30), (0, u "ensureCapacity"), (13, .methodref 1 156), (0, .nameAndType 157 30), (0, u "expandTo"), (7, .long 18446744073709551615), (3, u "set"), (12, .methodref 183 184), (0, .class_ 185), (0, .nameAndType 186 187), (0, u "java/lang/Long"), (0, u "numberOfTrailingZeros"), (0, u "(J)I"), (8, .methodref 183 197), (0, .nameAndType 198 187), (0, u "bitCount"), (56, u "cardinality"), (7, u "nextSetBit"), (5, .class_ 270), (0, u "java/util/BitSet$1BitSetSpliterator"), (22, u "serialPersistentFields"), (0, u "[Ljava/io/ObjectStreamField;"), (0, .class_ 296), (0, u "java/lang/Cloneable"), (0, .class_ 298), (0, u "java/io/Serializable"), (0, u "ADDRESS_BITS_PER_WORD"), (2, u "BITS_PER_WORD"), (1, u "BIT_INDEX_MASK"), (1, u "WORD_MASK"), (0, u "J"), (0, u "serialVersionUID")] 108

def k4c0 : Code := { maxStack := 2, maxLocals := 1, code := jdk_92_method_1_code, exceptionTable := #[], attributes := #[] }
def k4m0 : Method := { name := "wordIndex", desc := "(I)I", sig := { parameters := [.int], returnType := some .int }, accessFlags := 10, code := some k4c0 }
def k4c1 : Code := { maxStack := 4, maxLocals := 1, code := jdk_92_method_2_code, exceptionTable := #[], attributes := #[] }
def k4m1 : Method := { name := "checkInvariants", desc := "()V", sig := { parameters := [], returnType := none }, accessFlags := 2, code := some k4c1 }
def k4c2 : Code := { maxStack := 2, maxLocals := 1, code := jdk_92_method_4_code, exceptionTable := #[], attributes := #[] }
def k4m2 : Method := { name := "<init>", desc := "()V", sig := { parameters := [], returnType := none }, accessFlags := 1, code := some k4c2 }
def k4c3 : Code := { maxStack := 3, maxLocals := 2, code := jdk_92_method_6_code, exceptionTable := #[], attributes := #[] }
def k4m3 : Method := { name := "initWords", desc := "(I)V", sig := { parameters := [.int], returnType := none }, accessFlags := 2, code := some k4c3 }
def k4c4 : Code := { maxStack := 3, maxLocals := 3, code := jdk_92_method_14_code, exceptionTable := #[], attributes := #[] }
def k4m4 : Method := { name := "ensureCapacity", desc := "(I)V", sig := { parameters := [.int], returnType := none }, accessFlags := 2, code := some k4c4 }
def k4c5 : Code := { maxStack := 2, maxLocals := 3, code := jdk_92_method_15_code, exceptionTable := #[], attributes := #[] }
def k4m5 : Method := { name := "expandTo", desc := "(I)V", sig := { parameters := [.int], returnType := none }, accessFlags := 2, code := some k4c5 }
def k4c6 : Code := { maxStack := 7, maxLocals := 3, code := jdk_92_method_19_code, exceptionTable := #[], attributes := #[] }
def k4m6 : Method := { name := "set", desc := "(I)V", sig := { parameters := [.int], returnType := none }, accessFlags := 1, code := some k4c6 }
def k4c7 : Code := { maxStack := 5, maxLocals := 5, code := jdk_92_method_28_code, exceptionTable := #[], attributes := #[] }
def k4m7 : Method := { name := "nextSetBit", desc := "(I)I", sig := { parameters := [.int], returnType := some .int }, accessFlags := 1, code := some k4c7 }
def k4c8 : Code := { maxStack := 3, maxLocals := 3, code := jdk_92_method_35_code, exceptionTable := #[], attributes := #[] }
def k4m8 : Method := { name := "cardinality", desc := "()I", sig := { parameters := [], returnType := some .int }, accessFlags := 1, code := some k4c8 }
/-- java/util/BitSet -/
def k4 : Class := { plain "java/util/BitSet" (some 0) with
  accessFlags := 33
  interfaces := #[2, 3]
  cf := some (fileOf pool4 1 #[.nestMembers #[269]] #[{ accessFlags := 10, nameIndex := 54, descriptorIndex := 55, attributes := #[] }, { accessFlags := 2, nameIndex := 58, descriptorIndex := 20, attributes := #[] }, { accessFlags := 1, nameIndex := 19, descriptorIndex := 20, attributes := #[] }, { accessFlags := 2, nameIndex := 29, descriptorIndex := 30, attributes := #[] }, { accessFlags := 2, nameIndex := 141, descriptorIndex := 30, attributes := #[] }, { accessFlags := 2, nameIndex := 157, descriptorIndex := 30, attributes := #[] }, { accessFlags := 1, nameIndex := 169, descriptorIndex := 30, attributes := #[] }, { accessFlags := 1, nameIndex := 263, descriptorIndex := 55, attributes := #[] }, { accessFlags := 1, nameIndex := 255, descriptorIndex := 77, attributes := #[] }] 33 22 #[295, 297] #[{ accessFlags := 26, nameIndex := 299, descriptorIndex := 10, attributes := #[] }, { accessFlags := 26, nameIndex := 302, descriptorIndex := 10, attributes := #[] }, { accessFlags := 26, nameIndex := 304, descriptorIndex := 10, attributes := #[] }, { accessFlags := 26, nameIndex := 306, descriptorIndex := 307, attributes := #[] }, { accessFlags := 26, nameIndex := 293, descriptorIndex := 294, attributes := #[] }, { accessFlags := 2, nameIndex := 13, descriptorIndex := 14, attributes := #[] }, { accessFlags := 130, nameIndex := 9, descriptorIndex := 10, attributes := #[] }, { accessFlags := 130, nameIndex := 26, descriptorIndex := 6, attributes := #[] }, { accessFlags := 26, nameIndex := 308, descriptorIndex := 307, attributes := #[] }, { accessFlags := 4120, nameIndex := 5, descriptorIndex := 6, attributes := #[] }])
  fields := #[{ name := "ADDRESS_BITS_PER_WORD", type := .int, accessFlags := 26, slot := 0, constantValue := 0 }, { name := "BITS_PER_WORD", type := .int, accessFlags := 26, slot := 1, constantValue := 0 }, { name := "BIT_INDEX_MASK", type := .int, accessFlags := 26, slot := 2, constantValue := 0 }, { name := "WORD_MASK", type := .long, accessFlags := 26, slot := 3, constantValue := 0 }, { name := "serialPersistentFields", type := (.array (.object "java/io/ObjectStreamField")), accessFlags := 26, slot := 4, constantValue := 0 }, { name := "words", type := (.array .long), accessFlags := 2, slot := 0, constantValue := 0 }, { name := "wordsInUse", type := .int, accessFlags := 130, slot := 1, constantValue := 0 }, { name := "sizeIsSticky", type := .boolean, accessFlags := 130, slot := 2, constantValue := 0 }, { name := "serialVersionUID", type := .long, accessFlags := 26, slot := 5, constantValue := 0 }, { name := "$assertionsDisabled", type := .boolean, accessFlags := 4120, slot := 6, constantValue := 0 }]
  methods := #[k4m0, k4m1, k4m2, k4m3, k4m4, k4m5, k4m6, k4m7, k4m8]
  instanceTypes := #[(.array .long), .int, .boolean]
  staticTypes := #[.int, .int, .int, .long, (.array (.object "java/io/ObjectStreamField")), .long, .boolean]
  resolved := Array.replicate 417 none
  statics := some 0 }

def pool5 : Array CpInfo := pool [(8, .class_ 10), (1, u "java/lang/Iterable"), (24, .class_ 36), (0, u "java/lang/Object")] 25

/-- java/lang/Iterable -/
def k5 : Class := { plain "java/lang/Iterable" (some 0) with
  accessFlags := 1537
  interfaces := #[]
  cf := some (fileOf pool5 8 #[] #[] 1537 35 #[] #[])
  fields := #[]
  methods := #[]
  instanceTypes := #[]
  staticTypes := #[]
  resolved := Array.replicate 62 none
  statics := none }

def pool6 : Array CpInfo := pool [(10, .class_ 12), (1, u "java/util/Collection"), (47, .class_ 61), (0, u "java/lang/Object"), (0, .class_ 63), (0, u "java/lang/Iterable")] 51

/-- java/util/Collection -/
def k6 : Class := { plain "java/util/Collection" (some 0) with
  accessFlags := 1537
  interfaces := #[5]
  cf := some (fileOf pool6 10 #[] #[] 1537 60 #[62] #[])
  fields := #[]
  methods := #[]
  instanceTypes := #[]
  staticTypes := #[]
  resolved := Array.replicate 115 none
  statics := none }

def pool7 : Array CpInfo := pool [(1, .methodref 2 3), (0, .class_ 4), (0, .nameAndType 5 6), (0, u "java/lang/Object"), (0, u "<init>"), (0, u "()V"), (1, .class_ 10), (1, u "java/util/AbstractCollection"), (66, .class_ 78), (0, u "java/util/Collection")] 81

def k7c0 : Code := { maxStack := 1, maxLocals := 1, code := jdk_22_method_1_code, exceptionTable := #[], attributes := #[] }
def k7m0 : Method := { name := "<init>", desc := "()V", sig := { parameters := [], returnType := none }, accessFlags := 4, code := some k7c0 }
/-- java/util/AbstractCollection -/
def k7 : Class := { plain "java/util/AbstractCollection" (some 0) with
  accessFlags := 1057
  interfaces := #[6]
  cf := some (fileOf pool7 8 #[] #[{ accessFlags := 4, nameIndex := 5, descriptorIndex := 6, attributes := #[] }] 1057 2 #[77] #[])
  fields := #[]
  methods := #[k7m0]
  instanceTypes := #[]
  staticTypes := #[]
  resolved := Array.replicate 160 none
  statics := none }

def pool8 : Array CpInfo := pool [(8, .class_ 10), (1, u "java/util/SequencedCollection"), (15, .class_ 27), (0, u "java/lang/Object"), (0, .class_ 29), (0, u "java/util/Collection")] 27

/-- java/util/SequencedCollection -/
def k8 : Class := { plain "java/util/SequencedCollection" (some 0) with
  accessFlags := 1537
  interfaces := #[6]
  cf := some (fileOf pool8 8 #[] #[] 1537 26 #[28] #[])
  fields := #[]
  methods := #[]
  instanceTypes := #[]
  staticTypes := #[]
  resolved := Array.replicate 57 none
  statics := none }

def pool9 : Array CpInfo := pool [(8, .class_ 10), (1, u "java/util/List"), (64, u "get"), (0, u "(I)Ljava/lang/Object;"), (2, u "size"), (0, u "()I"), (22, .class_ 104), (0, u "java/lang/Object"), (15, .class_ 121), (0, u "java/util/SequencedCollection")] 129

def k9m0 : Method := { name := "size", desc := "()I", sig := { parameters := [], returnType := some .int }, accessFlags := 1025, code := none }
def k9m1 : Method := { name := "get", desc := "(I)Ljava/lang/Object;", sig := { parameters := [.int], returnType := some (.object "java/lang/Object") }, accessFlags := 1025, code := none }
/-- java/util/List -/
def k9 : Class := { plain "java/util/List" (some 0) with
  accessFlags := 1537
  interfaces := #[8]
  cf := some (fileOf pool9 8 #[] #[{ accessFlags := 1025, nameIndex := 79, descriptorIndex := 80, attributes := #[] }, { accessFlags := 1025, nameIndex := 75, descriptorIndex := 76, attributes := #[] }] 1537 103 #[120] #[])
  fields := #[]
  methods := #[k9m0, k9m1]
  instanceTypes := #[]
  staticTypes := #[]
  resolved := Array.replicate 251 none
  statics := none }

def pool10 : Array CpInfo := pool [(1, .methodref 2 3), (0, .class_ 4), (0, .nameAndType 5 6), (0, u "java/util/AbstractCollection"), (0, u "<init>"), (0, u "()V"), (0, .fieldref 8 9), (0, .class_ 10), (0, .nameAndType 11 12), (0, u "java/util/AbstractList"), (0, u "modCount"), (0, u "I"), (64, .class_ 78), (0, u "java/util/AbstractList$Itr"), (3, .class_ 83), (0, u "java/util/AbstractList$ListItr"), (9, .class_ 94), (0, u "java/util/AbstractList$RandomAccessSubList"), (3, .class_ 99), (0, u "java/util/AbstractList$SubList"), (33, .class_ 134), (0, u "java/util/List"), (73, .class_ 209), (0, u "java/util/AbstractList$SubList$1"), (0, .class_ 211), (0, u "java/util/AbstractList$RandomAccessSpliterator")] 6

def k10c0 : Code := { maxStack := 2, maxLocals := 1, code := jdk_39_method_1_code, exceptionTable := #[], attributes := #[] }
def k10m0 : Method := { name := "<init>", desc := "()V", sig := { parameters := [], returnType := none }, accessFlags := 4, code := some k10c0 }
/-- java/util/AbstractList -/
def k10 : Class := { plain "java/util/AbstractList" (some 7) with
  accessFlags := 1057
  interfaces := #[9]
  cf := some (fileOf pool10 8 #[.nestMembers #[93, 98, 208, 210, 82, 77]] #[{ accessFlags := 4, nameIndex := 5, descriptorIndex := 6, attributes := #[] }] 1057 2 #[133] #[{ accessFlags := 132, nameIndex := 11, descriptorIndex := 12, attributes := #[] }])
  fields := #[{ name := "modCount", type := .int, accessFlags := 132, slot := 0, constantValue := 0 }]
  methods := #[k10m0]
  instanceTypes := #[.int]
  staticTypes := #[]
  resolved := Array.replicate 218 none
  statics := none }

def pool11 : Array CpInfo := pool [(1, .class_ 2), (0, u "java/util/RandomAccess"), (0, .class_ 4), (0, u "java/lang/Object")] 2

/-- java/util/RandomAccess -/
def k11 : Class := { plain "java/util/RandomAccess" (some 0) with
  accessFlags := 1537
  interfaces := #[]
  cf := some (fileOf pool11 1 #[] #[] 1537 3 #[] #[])
  fields := #[]
  methods := #[]
  instanceTypes := #[]
  staticTypes := #[]
  resolved := Array.replicate 7 none
  statics := none }

def pool12 : Array CpInfo := pool [(1, .methodref 2 3), (0, .class_ 4), (0, .nameAndType 5 6), (0, u "java/util/AbstractList"), (0, u "<init>"), (0, u "()V"), (0, .class_ 8), (0, u "java/lang/Object"), (0, .fieldref 10 11), (0, .class_ 12), (0, .nameAndType 13 14), (0, u "java/util/ArrayList"), (0, u "elementData"), (0, u "[Ljava/lang/Object;"), (2, u "EMPTY_ELEMENTDATA"), (21, .fieldref 10 40), (0, .nameAndType 41 14), (0, u "DEFAULTCAPACITY_EMPTY_ELEMENTDATA"), (5, u "()[Ljava/lang/Object;"), (0, .fieldref 10 49), (0, .nameAndType 50 51), (0, u "size"), (0, u "I"), (11, .fieldref 10 64), (0, .nameAndType 65 51), (0, u "modCount"), (3, .methodref 10 70), (0, .nameAndType 71 72), (0, u "grow"), (0, u "(I)[Ljava/lang/Object;"), (6, .methodref 80 81), (0, .class_ 82), (0, .nameAndType 83 84), (0, u "java/lang/Math"), (0, u "max"), (0, u "(II)I"), (11, u "(Ljava/lang/Object;)Z"), (21, .methodref 119 120), (0, .class_ 121), (0, .nameAndType 122 84), (0, u "java/util/Objects"), (0, u "checkIndex"), (0, .methodref 10 124), (0, .nameAndType 13 125), (0, u "(I)Ljava/lang/Object;"), (3, .methodref 10 130), (0, .nameAndType 71 47), (0, .methodref 10 132), (0, .nameAndType 133 134), (0, u "add"), (0, u "(Ljava/lang/Object;[Ljava/lang/Object;I)V"), (13, .class_ 149), (0, u "java/util/List"), (36, u "()I"), (75, .class_ 263), (0, u "java/util/ArrayList$ListItr"), (3, .class_ 268), (0, u "java/util/ArrayList$Itr"), (7, .class_ 277), (0, u "java/util/ArrayList$SubList"), (12, .class_ 291), (0, u "java/util/ArrayList$ArrayListSpliterator"), (37, .class_ 330), (0, u "java/util/RandomAccess"), (0, .class_ 332), (0, u "java/lang/Cloneable"), (0, .class_ 334), (0, u "java/io/Serializable"), (0, u "serialVersionUID"), (0, u "J"), (3, u "DEFAULT_CAPACITY"), (40, u "get"), (118, .class_ 501), (0, u "java/util/ArrayList$SubList$2"), (0, .class_ 503), (0, u "java/util/ArrayList$SubList$1")] 5

def k12c0 : Code := { maxStack := 2, maxLocals := 1, code := jdk_38_method_2_code, exceptionTable := #[], attributes := #[] }
def k12m0 : Method := { name := "<init>", desc := "()V", sig := { parameters := [], returnType := none }, accessFlags := 1, code := some k12c0 }
def k12c1 : Code := { maxStack := 4, maxLocals := 4, code := jdk_38_method_6_code, exceptionTable := #[], attributes := #[] }
def k12m1 : Method := { name := "grow", desc := "(I)[Ljava/lang/Object;", sig := { parameters := [.int], returnType := some (.array (.object "java/lang/Object")) }, accessFlags := 2, code := some k12c1 }
def k12c2 : Code := { maxStack := 3, maxLocals := 1, code := jdk_38_method_7_code, exceptionTable := #[], attributes := #[] }
def k12m2 : Method := { name := "grow", desc := "()[Ljava/lang/Object;", sig := { parameters := [], returnType := some (.array (.object "java/lang/Object")) }, accessFlags := 2, code := some k12c2 }
def k12c3 : Code := { maxStack := 1, maxLocals := 1, code := jdk_38_method_8_code, exceptionTable := #[], attributes := #[] }
def k12m3 : Method := { name := "size", desc := "()I", sig := { parameters := [], returnType := some .int }, accessFlags := 1, code := some k12c3 }
def k12c4 : Code := { maxStack := 2, maxLocals := 2, code := jdk_38_method_18_code, exceptionTable := #[], attributes := #[] }
def k12m4 : Method := { name := "elementData", desc := "(I)Ljava/lang/Object;", sig := { parameters := [.int], returnType := some (.object "java/lang/Object") }, accessFlags := 0, code := some k12c4 }
def k12c5 : Code := { maxStack := 2, maxLocals := 2, code := jdk_38_method_20_code, exceptionTable := #[], attributes := #[] }
def k12m5 : Method := { name := "get", desc := "(I)Ljava/lang/Object;", sig := { parameters := [.int], returnType := some (.object "java/lang/Object") }, accessFlags := 1, code := some k12c5 }
def k12c6 : Code := { maxStack := 3, maxLocals := 4, code := jdk_38_method_24_code, exceptionTable := #[], attributes := #[] }
def k12m6 : Method := { name := "add", desc := "(Ljava/lang/Object;[Ljava/lang/Object;I)V", sig := { parameters := [(.object "java/lang/Object"), (.array (.object "java/lang/Object")), .int], returnType := none }, accessFlags := 2, code := some k12c6 }
def k12c7 : Code := { maxStack := 4, maxLocals := 2, code := jdk_38_method_25_code, exceptionTable := #[], attributes := #[] }
def k12m7 : Method := { name := "add", desc := "(Ljava/lang/Object;)Z", sig := { parameters := [(.object "java/lang/Object")], returnType := some .boolean }, accessFlags := 1, code := some k12c7 }
/-- java/util/ArrayList -/
def k12 : Class := { plain "java/util/ArrayList" (some 10) with
  accessFlags := 33
  interfaces := #[9, 11, 2, 3]
  cf := some (fileOf pool12 10 #[.nestMembers #[290, 276, 500, 502, 262, 267]] #[{ accessFlags := 1, nameIndex := 5, descriptorIndex := 6, attributes := #[] }, { accessFlags := 2, nameIndex := 71, descriptorIndex := 72, attributes := #[] }, { accessFlags := 2, nameIndex := 71, descriptorIndex := 47, attributes := #[] }, { accessFlags := 1, nameIndex := 50, descriptorIndex := 186, attributes := #[] }, { accessFlags := 0, nameIndex := 13, descriptorIndex := 125, attributes := #[] }, { accessFlags := 1, nameIndex := 381, descriptorIndex := 125, attributes := #[] }, { accessFlags := 2, nameIndex := 133, descriptorIndex := 134, attributes := #[] }, { accessFlags := 1, nameIndex := 133, descriptorIndex := 96, attributes := #[] }] 33 2 #[148, 329, 331, 333] #[{ accessFlags := 26, nameIndex := 335, descriptorIndex := 336, attributes := #[] }, { accessFlags := 26, nameIndex := 340, descriptorIndex := 51, attributes := #[] }, { accessFlags := 26, nameIndex := 17, descriptorIndex := 14, attributes := #[] }, { accessFlags := 26, nameIndex := 41, descriptorIndex := 14, attributes := #[] }, { accessFlags := 128, nameIndex := 13, descriptorIndex := 14, attributes := #[] }, { accessFlags := 2, nameIndex := 50, descriptorIndex := 51, attributes := #[] }])
  fields := #[{ name := "serialVersionUID", type := .long, accessFlags := 26, slot := 0, constantValue := 0 }, { name := "DEFAULT_CAPACITY", type := .int, accessFlags := 26, slot := 1, constantValue := 0 }, { name := "EMPTY_ELEMENTDATA", type := (.array (.object "java/lang/Object")), accessFlags := 26, slot := 2, constantValue := 0 }, { name := "DEFAULTCAPACITY_EMPTY_ELEMENTDATA", type := (.array (.object "java/lang/Object")), accessFlags := 26, slot := 3, constantValue := 0 }, { name := "elementData", type := (.array (.object "java/lang/Object")), accessFlags := 128, slot := 1, constantValue := 0 }, { name := "size", type := .int, accessFlags := 2, slot := 2, constantValue := 0 }]
  methods := #[k12m0, k12m1, k12m2, k12m3, k12m4, k12m5, k12m6, k12m7]
  instanceTypes := #[.int, (.array (.object "java/lang/Object")), .int]
  staticTypes := #[.long, .int, (.array (.object "java/lang/Object")), (.array (.object "java/lang/Object"))]
  resolved := Array.replicate 509 none
  statics := some 1 }

def pool13 : Array CpInfo := pool [(1, .class_ 2), (0, u "java/lang/Math"), (1, .class_ 6), (1, u "java/lang/Object"), (0, u "<init>"), (0, u "()V"), (89, .class_ 100), (1, u "java/lang/Math$RandomNumberGeneratorHolder"), (71, u "negativeZeroFloatBits"), (0, u "J"), (2, u "negativeZeroDoubleBits"), (21, u "max"), (46, u "$assertionsDisabled"), (0, u "Z"), (88, u "(II)I"), (2, u "twoToTheDoubleScaleDown"), (0, u "D"), (4, u "twoToTheDoubleScaleUp"), (9, u "E"), (3, u "PI"), (2, u "TAU"), (2, u "DEGREES_TO_RADIANS"), (0, u "RADIANS_TO_DEGREES")] 94

def k13m0 : Method := { name := "<init>", desc := "()V", sig := { parameters := [], returnType := none }, accessFlags := 2, code := none }
def k13c1 : Code := { maxStack := 2, maxLocals := 2, code := jdk_29_method_65_code, exceptionTable := #[], attributes := #[] }
def k13m1 : Method := { name := "max", desc := "(II)I", sig := { parameters := [.int, .int], returnType := some .int }, accessFlags := 9, code := some k13c1 }
/-- java/lang/Math -/
def k13 : Class := { plain "java/lang/Math" (some 0) with
  accessFlags := 49
  interfaces := #[]
  cf := some (fileOf pool13 1 #[.nestMembers #[98]] #[{ accessFlags := 2, nameIndex := 7, descriptorIndex := 8, attributes := #[] }, { accessFlags := 9, nameIndex := 198, descriptorIndex := 335, attributes := #[] }] 49 4 #[] #[{ accessFlags := 25, nameIndex := 354, descriptorIndex := 339, attributes := #[] }, { accessFlags := 25, nameIndex := 358, descriptorIndex := 339, attributes := #[] }, { accessFlags := 25, nameIndex := 361, descriptorIndex := 339, attributes := #[] }, { accessFlags := 26, nameIndex := 364, descriptorIndex := 339, attributes := #[] }, { accessFlags := 26, nameIndex := 365, descriptorIndex := 339, attributes := #[] }, { accessFlags := 26, nameIndex := 172, descriptorIndex := 173, attributes := #[] }, { accessFlags := 26, nameIndex := 176, descriptorIndex := 173, attributes := #[] }, { accessFlags := 8, nameIndex := 344, descriptorIndex := 339, attributes := #[] }, { accessFlags := 8, nameIndex := 338, descriptorIndex := 339, attributes := #[] }, { accessFlags := 4120, nameIndex := 245, descriptorIndex := 246, attributes := #[] }])
  fields := #[{ name := "E", type := .double, accessFlags := 25, slot := 0, constantValue := 0 }, { name := "PI", type := .double, accessFlags := 25, slot := 1, constantValue := 0 }, { name := "TAU", type := .double, accessFlags := 25, slot := 2, constantValue := 0 }, { name := "DEGREES_TO_RADIANS", type := .double, accessFlags := 26, slot := 3, constantValue := 0 }, { name := "RADIANS_TO_DEGREES", type := .double, accessFlags := 26, slot := 4, constantValue := 0 }, { name := "negativeZeroFloatBits", type := .long, accessFlags := 26, slot := 5, constantValue := 0 }, { name := "negativeZeroDoubleBits", type := .long, accessFlags := 26, slot := 6, constantValue := 0 }, { name := "twoToTheDoubleScaleUp", type := .double, accessFlags := 8, slot := 7, constantValue := 0 }, { name := "twoToTheDoubleScaleDown", type := .double, accessFlags := 8, slot := 8, constantValue := 0 }, { name := "$assertionsDisabled", type := .boolean, accessFlags := 4120, slot := 9, constantValue := 0 }]
  methods := #[k13m0, k13m1]
  instanceTypes := #[]
  staticTypes := #[.double, .double, .double, .double, .double, .long, .long, .double, .double, .boolean]
  resolved := Array.replicate 460 none
  statics := none }

def pool14 : Array CpInfo := pool [(1, .methodref 2 3), (0, .class_ 4), (0, .nameAndType 5 6), (0, u "java/lang/Object"), (0, u "<init>"), (0, u "()V"), (0, .fieldref 8 9), (0, .class_ 10), (0, .nameAndType 11 12), (0, u "com/example/encircle/encircle/layout/ZoneKeys"), (0, u "keys"), (0, u "[J"), (0, .long 104372539625506), (1, .long 11400714819323198485), (1, .long 13787848793156543929), (1, .long 10723151780598845931), (1, .interfaceMethodref 22 23), (0, .class_ 24), (0, .nameAndType 25 26), (0, u "java/util/List"), (0, u "size"), (0, u "()I"), (0, .fieldref 8 28), (0, .nameAndType 29 12), (0, u "sums"), (0, .fieldref 8 31), (0, .nameAndType 32 33), (0, u "sizes"), (0, u "[I"), (0, .interfaceMethodref 22 35), (0, .nameAndType 36 37), (0, u "get"), (0, u "(I)Ljava/lang/Object;"), (0, .class_ 39), (0, u "java/util/BitSet"), (0, .methodref 38 41), (0, .nameAndType 42 43), (0, u "nextSetBit"), (0, u "(I)I"), (0, .methodref 38 45), (0, .nameAndType 46 26), (0, u "cardinality"), (0, .methodref 48 49), (0, .class_ 50), (0, .nameAndType 51 52), (0, u "java/lang/Math"), (0, u "max"), (0, u "(II)I"), (0, .methodref 54 55), (0, .class_ 56), (0, .nameAndType 57 43), (0, u "java/lang/Integer"), (0, u "highestOneBit"), (0, .fieldref 8 59), (0, .nameAndType 60 12), (0, u "slotSums"), (0, .fieldref 8 62), (0, .nameAndType 63 33), (0, u "slotZones"), (0, .fieldref 8 65), (0, .nameAndType 66 33), (0, u "sameSum"), (0, .methodref 68 69), (0, .class_ 70), (0, .nameAndType 71 72), (0, u "java/util/Arrays"), (0, u "fill"), (0, u "([II)V"), (0, .methodref 8 74), (0, .nameAndType 75 76), (0, u "slot"), (0, u "(J)I"), (0, u "SEED"), (0, u "J"), (1, u "STEP"), (0, u "(ILjava/util/List;)V"), (5, u "key"), (0, u "(I)J"), (1, u "first")] 3

def k14c0 : Code := { maxStack := 7, maxLocals := 8, code := prog_35_method_1_code, exceptionTable := #[], attributes := #[] }
def k14m0 : Method := { name := "<init>", desc := "(ILjava/util/List;)V", sig := { parameters := [.int, (.object "java/util/List")], returnType := none }, accessFlags := 0, code := some k14c0 }
def k14c1 : Code := { maxStack := 2, maxLocals := 2, code := prog_35_method_2_code, exceptionTable := #[], attributes := #[] }
def k14m1 : Method := { name := "key", desc := "(I)J", sig := { parameters := [.int], returnType := some .long }, accessFlags := 0, code := some k14c1 }
def k14c2 : Code := { maxStack := 4, maxLocals := 3, code := prog_35_method_5_code, exceptionTable := #[], attributes := #[] }
def k14m2 : Method := { name := "first", desc := "(J)I", sig := { parameters := [.long], returnType := some .int }, accessFlags := 0, code := some k14c2 }
def k14c3 : Code := { maxStack := 4, maxLocals := 5, code := prog_35_method_7_code, exceptionTable := #[], attributes := #[] }
def k14m3 : Method := { name := "slot", desc := "(J)I", sig := { parameters := [.long], returnType := some .int }, accessFlags := 2, code := some k14c3 }
/-- com/example/encircle/encircle/layout/ZoneKeys -/
def k14 : Class := { plain "com/example/encircle/encircle/layout/ZoneKeys" (some 0) with
  accessFlags := 32
  interfaces := #[]
  cf := some (fileOf pool14 8 #[] #[{ accessFlags := 0, nameIndex := 5, descriptorIndex := 81, attributes := #[] }, { accessFlags := 0, nameIndex := 87, descriptorIndex := 88, attributes := #[] }, { accessFlags := 0, nameIndex := 90, descriptorIndex := 76, attributes := #[] }, { accessFlags := 2, nameIndex := 75, descriptorIndex := 76, attributes := #[] }] 32 2 #[] #[{ accessFlags := 26, nameIndex := 77, descriptorIndex := 78, attributes := #[] }, { accessFlags := 26, nameIndex := 80, descriptorIndex := 78, attributes := #[] }, { accessFlags := 18, nameIndex := 11, descriptorIndex := 12, attributes := #[] }, { accessFlags := 18, nameIndex := 29, descriptorIndex := 12, attributes := #[] }, { accessFlags := 18, nameIndex := 32, descriptorIndex := 33, attributes := #[] }, { accessFlags := 18, nameIndex := 60, descriptorIndex := 12, attributes := #[] }, { accessFlags := 18, nameIndex := 63, descriptorIndex := 33, attributes := #[] }, { accessFlags := 18, nameIndex := 66, descriptorIndex := 33, attributes := #[] }])
  fields := #[{ name := "SEED", type := .long, accessFlags := 26, slot := 0, constantValue := 0 }, { name := "STEP", type := .long, accessFlags := 26, slot := 1, constantValue := 0 }, { name := "keys", type := (.array .long), accessFlags := 18, slot := 0, constantValue := 0 }, { name := "sums", type := (.array .long), accessFlags := 18, slot := 1, constantValue := 0 }, { name := "sizes", type := (.array .int), accessFlags := 18, slot := 2, constantValue := 0 }, { name := "slotSums", type := (.array .long), accessFlags := 18, slot := 3, constantValue := 0 }, { name := "slotZones", type := (.array .int), accessFlags := 18, slot := 4, constantValue := 0 }, { name := "sameSum", type := (.array .int), accessFlags := 18, slot := 5, constantValue := 0 }]
  methods := #[k14m0, k14m1, k14m2, k14m3]
  instanceTypes := #[(.array .long), (.array .long), (.array .int), (.array .long), (.array .int), (.array .int)]
  staticTypes := #[.long, .long]
  resolved := Array.replicate 94 none
  statics := none }

def pool15 : Array CpInfo := pool [(2, .class_ 4), (1, u "java/lang/Object"), (0, u "<init>"), (0, u "()V"), (35, .class_ 44), (1, u "java/util/Objects"), (60, .methodref 106 107), (0, .class_ 108), (0, .nameAndType 109 110), (0, u "jdk/internal/util/Preconditions"), (0, u "checkIndex"), (0, u "(IILjava/util/function/BiFunction;)I"), (60, u "(II)I")] 12

def k15m0 : Method := { name := "<init>", desc := "()V", sig := { parameters := [], returnType := none }, accessFlags := 2, code := none }
def k15c1 : Code := { maxStack := 3, maxLocals := 2, code := jdk_31_method_17_code, exceptionTable := #[], attributes := #[] }
def k15m1 : Method := { name := "checkIndex", desc := "(II)I", sig := { parameters := [.int, .int], returnType := some .int }, accessFlags := 9, code := some k15c1 }
/-- java/util/Objects -/
def k15 : Class := { plain "java/util/Objects" (some 0) with
  accessFlags := 49
  interfaces := #[]
  cf := some (fileOf pool15 42 #[] #[{ accessFlags := 2, nameIndex := 5, descriptorIndex := 6, attributes := #[] }, { accessFlags := 9, nameIndex := 109, descriptorIndex := 171, attributes := #[] }] 49 2 #[] #[])
  fields := #[]
  methods := #[k15m0, k15m1]
  instanceTypes := #[]
  staticTypes := #[]
  resolved := Array.replicate 184 none
  statics := none }

def pool16 : Array CpInfo := pool [(2, .class_ 4), (1, u "java/lang/Object"), (0, u "<init>"), (0, u "()V"), (17, .class_ 26), (1, u "jdk/internal/util/Preconditions"), (6, u "checkIndex"), (21, .class_ 56), (0, u "jdk/internal/util/Preconditions$4"), (57, .class_ 115), (0, u "jdk/internal/util/Preconditions$1"), (7, u "SIOOBE_FORMATTER"), (0, u "Ljava/util/function/BiFunction;"), (0, .class_ 126), (0, u "jdk/internal/util/Preconditions$2"), (3, u "AIOOBE_FORMATTER"), (0, .class_ 132), (0, u "jdk/internal/util/Preconditions$3"), (3, u "IOOBE_FORMATTER"), (41, u "(IILjava/util/function/BiFunction;)I")] 15

def k16m0 : Method := { name := "<init>", desc := "()V", sig := { parameters := [], returnType := none }, accessFlags := 1, code := none }
def k16c1 : Code := { maxStack := 3, maxLocals := 3, code := jdk_41_method_11_code, exceptionTable := #[], attributes := #[] }
def k16m1 : Method := { name := "checkIndex", desc := "(IILjava/util/function/BiFunction;)I", sig := { parameters := [.int, .int, (.object "java/util/function/BiFunction")], returnType := some .int }, accessFlags := 9, code := some k16c1 }
/-- jdk/internal/util/Preconditions -/
def k16 : Class := { plain "jdk/internal/util/Preconditions" (some 0) with
  accessFlags := 33
  interfaces := #[]
  cf := some (fileOf pool16 24 #[.nestMembers #[55, 131, 125, 114]] #[{ accessFlags := 1, nameIndex := 5, descriptorIndex := 6, attributes := #[] }, { accessFlags := 9, nameIndex := 33, descriptorIndex := 178, attributes := #[] }] 33 2 #[] #[{ accessFlags := 25, nameIndex := 123, descriptorIndex := 124, attributes := #[] }, { accessFlags := 25, nameIndex := 130, descriptorIndex := 124, attributes := #[] }, { accessFlags := 25, nameIndex := 136, descriptorIndex := 124, attributes := #[] }])
  fields := #[{ name := "SIOOBE_FORMATTER", type := (.object "java/util/function/BiFunction"), accessFlags := 25, slot := 0, constantValue := 0 }, { name := "AIOOBE_FORMATTER", type := (.object "java/util/function/BiFunction"), accessFlags := 25, slot := 1, constantValue := 0 }, { name := "IOOBE_FORMATTER", type := (.object "java/util/function/BiFunction"), accessFlags := 25, slot := 2, constantValue := 0 }]
  methods := #[k16m0, k16m1]
  instanceTypes := #[]
  staticTypes := #[(.object "java/util/function/BiFunction"), (.object "java/util/function/BiFunction"), (.object "java/util/function/BiFunction")]
  resolved := Array.replicate 194 none
  statics := none }

def pool17 : Array CpInfo := pool [(2, .class_ 4), (1, u "java/lang/Object"), (0, u "<init>"), (0, u "()V"), (1, .class_ 10), (1, u "java/lang/Number"), (2, .class_ 14), (0, u "java/io/Serializable"), (0, u "serialVersionUID"), (0, u "J")] 20

def k17m0 : Method := { name := "<init>", desc := "()V", sig := { parameters := [], returnType := none }, accessFlags := 1, code := none }
/-- java/lang/Number -/
def k17 : Class := { plain "java/lang/Number" (some 0) with
  accessFlags := 1057
  interfaces := #[3]
  cf := some (fileOf pool17 8 #[] #[{ accessFlags := 1, nameIndex := 5, descriptorIndex := 6, attributes := #[] }] 1057 2 #[13] #[{ accessFlags := 26, nameIndex := 15, descriptorIndex := 16, attributes := #[] }])
  fields := #[{ name := "serialVersionUID", type := .long, accessFlags := 26, slot := 0, constantValue := 0 }]
  methods := #[k17m0]
  instanceTypes := #[]
  staticTypes := #[.long]
  resolved := Array.replicate 37 none
  statics := none }

def pool18 : Array CpInfo := pool [(1, .class_ 2), (0, u "java/lang/Comparable"), (0, .class_ 4), (0, u "java/lang/Object")] 7

/-- java/lang/Comparable -/
def k18 : Class := { plain "java/lang/Comparable" (some 0) with
  accessFlags := 1537
  interfaces := #[]
  cf := some (fileOf pool18 1 #[] #[] 1537 3 #[] #[])
  fields := #[]
  methods := #[]
  instanceTypes := #[]
  staticTypes := #[]
  resolved := Array.replicate 12 none
  statics := none }

def pool19 : Array CpInfo := pool [(1, .class_ 2), (0, u "java/lang/constant/Constable"), (0, .class_ 4), (0, u "java/lang/Object")] 6

/-- java/lang/constant/Constable -/
def k19 : Class := { plain "java/lang/constant/Constable" (some 0) with
  accessFlags := 1537
  interfaces := #[]
  cf := some (fileOf pool19 1 #[] #[] 1537 3 #[] #[])
  fields := #[]
  methods := #[]
  instanceTypes := #[]
  staticTypes := #[]
  resolved := Array.replicate 11 none
  statics := none }

def pool20 : Array CpInfo := pool [(1, .class_ 2), (0, u "java/lang/constant/ConstantDesc"), (0, .class_ 4), (0, u "java/lang/Object")] 32

/-- java/lang/constant/ConstantDesc -/
def k20 : Class := { plain "java/lang/constant/ConstantDesc" (some 0) with
  accessFlags := 1537
  interfaces := #[]
  cf := some (fileOf pool20 1 #[] #[] 1537 3 #[] #[])
  fields := #[]
  methods := #[]
  instanceTypes := #[]
  staticTypes := #[]
  resolved := Array.replicate 37 none
  statics := none }

def pool21 : Array CpInfo := pool [(1, .class_ 2), (0, u "java/lang/Integer"), (16, u "digits"), (0, u "[C"), (30, .methodref 1 52), (0, .nameAndType 53 54), (0, u "numberOfLeadingZeros"), (0, u "(I)I"), (30, u "DigitOnes"), (0, u "[B"), (2, u "DigitTens"), (37, .integer 2147483648), (61, .class_ 190), (0, u "java/lang/Integer$IntegerCache"), (3, u "I"), (8, .class_ 204), (0, u "java/lang/Number"), (2, u "value"), (56, .integer 65536), (37, u "TYPE"), (0, u "Ljava/lang/Class;"), (0, .class_ 305), (0, u "java/lang/Comparable"), (0, .class_ 307), (0, u "java/lang/constant/Constable"), (0, .class_ 309), (0, u "java/lang/constant/ConstantDesc"), (0, u "MIN_VALUE"), (1, u "MAX_VALUE"), (3, u "SIZE"), (1, u "BYTES"), (1, u "serialVersionUID"), (0, u "J"), (81, u "highestOneBit"), (2, u "numberOfTrailingZeros")] 46

def k21c0 : Code := { maxStack := 3, maxLocals := 1, code := jdk_33_method_45_code, exceptionTable := #[], attributes := #[] }
def k21m0 : Method := { name := "highestOneBit", desc := "(I)I", sig := { parameters := [.int], returnType := some .int }, accessFlags := 9, code := some k21c0 }
def k21c1 : Code := { maxStack := 3, maxLocals := 2, code := jdk_33_method_47_code, exceptionTable := #[], attributes := #[] }
def k21m1 : Method := { name := "numberOfLeadingZeros", desc := "(I)I", sig := { parameters := [.int], returnType := some .int }, accessFlags := 9, code := some k21c1 }
def k21c2 : Code := { maxStack := 3, maxLocals := 2, code := jdk_33_method_48_code, exceptionTable := #[], attributes := #[] }
def k21m2 : Method := { name := "numberOfTrailingZeros", desc := "(I)I", sig := { parameters := [.int], returnType := some .int }, accessFlags := 9, code := some k21c2 }
/-- java/lang/Integer -/
def k21 : Class := { plain "java/lang/Integer" (some 17) with
  accessFlags := 49
  interfaces := #[18, 19, 20]
  cf := some (fileOf pool21 1 #[.nestMembers #[189]] #[{ accessFlags := 9, nameIndex := 403, descriptorIndex := 54, attributes := #[] }, { accessFlags := 9, nameIndex := 53, descriptorIndex := 54, attributes := #[] }, { accessFlags := 9, nameIndex := 406, descriptorIndex := 54, attributes := #[] }] 49 203 #[304, 306, 308] #[{ accessFlags := 25, nameIndex := 310, descriptorIndex := 194, attributes := #[] }, { accessFlags := 25, nameIndex := 312, descriptorIndex := 194, attributes := #[] }, { accessFlags := 25, nameIndex := 302, descriptorIndex := 303, attributes := #[] }, { accessFlags := 24, nameIndex := 19, descriptorIndex := 20, attributes := #[] }, { accessFlags := 24, nameIndex := 89, descriptorIndex := 86, attributes := #[] }, { accessFlags := 24, nameIndex := 85, descriptorIndex := 86, attributes := #[] }, { accessFlags := 18, nameIndex := 207, descriptorIndex := 194, attributes := #[] }, { accessFlags := 25, nameIndex := 316, descriptorIndex := 194, attributes := #[] }, { accessFlags := 25, nameIndex := 318, descriptorIndex := 194, attributes := #[] }, { accessFlags := 26, nameIndex := 320, descriptorIndex := 321, attributes := #[] }])
  fields := #[{ name := "MIN_VALUE", type := .int, accessFlags := 25, slot := 0, constantValue := 0 }, { name := "MAX_VALUE", type := .int, accessFlags := 25, slot := 1, constantValue := 0 }, { name := "TYPE", type := (.object "java/lang/Class"), accessFlags := 25, slot := 2, constantValue := 0 }, { name := "digits", type := (.array .char), accessFlags := 24, slot := 3, constantValue := 0 }, { name := "DigitTens", type := (.array .byte), accessFlags := 24, slot := 4, constantValue := 0 }, { name := "DigitOnes", type := (.array .byte), accessFlags := 24, slot := 5, constantValue := 0 }, { name := "value", type := .int, accessFlags := 18, slot := 0, constantValue := 0 }, { name := "SIZE", type := .int, accessFlags := 25, slot := 6, constantValue := 0 }, { name := "BYTES", type := .int, accessFlags := 25, slot := 7, constantValue := 0 }, { name := "serialVersionUID", type := .long, accessFlags := 26, slot := 8, constantValue := 0 }]
  methods := #[k21m0, k21m1, k21m2]
  instanceTypes := #[.int]
  staticTypes := #[.int, .int, (.object "java/lang/Class"), (.array .char), (.array .byte), (.array .byte), .int, .int, .long]
  resolved := Array.replicate 453 none
  statics := none }

def pool22 : Array CpInfo := pool [(2, .class_ 4), (1, u "java/lang/Object"), (0, u "<init>"), (0, u "()V"), (7, .class_ 16), (1, u "java/util/Arrays"), (57, .class_ 76), (1, u "java/util/Arrays$NaturalOrder"), (36, .class_ 115), (1, u "java/util/Arrays$LegacyMergeSort"), (1, u "Z"), (257, .class_ 376), (0, u "java/util/Arrays$ArrayList"), (68, u "$assertionsDisabled"), (269, u "MIN_ARRAY_SORT_GRAN"), (0, u "I"), (2, u "INSERTIONSORT_THRESHOLD"), (120, u "fill"), (4, u "([II)V"), (129, .class_ 976), (0, u "java/util/Arrays$ArrayItr")] 52

def k22m0 : Method := { name := "<init>", desc := "()V", sig := { parameters := [], returnType := none }, accessFlags := 2, code := none }
def k22c1 : Code := { maxStack := 3, maxLocals := 4, code := jdk_65_method_103_code, exceptionTable := #[], attributes := #[] }
def k22m1 : Method := { name := "fill", desc := "([II)V", sig := { parameters := [(.array .int), .int], returnType := none }, accessFlags := 9, code := some k22c1 }
/-- java/util/Arrays -/
def k22 : Class := { plain "java/util/Arrays" (some 0) with
  accessFlags := 49
  interfaces := #[]
  cf := some (fileOf pool22 14 #[.nestMembers #[975, 375, 113, 74]] #[{ accessFlags := 2, nameIndex := 5, descriptorIndex := 6, attributes := #[] }, { accessFlags := 9, nameIndex := 840, descriptorIndex := 845, attributes := #[] }] 49 2 #[] #[{ accessFlags := 26, nameIndex := 715, descriptorIndex := 716, attributes := #[] }, { accessFlags := 26, nameIndex := 719, descriptorIndex := 716, attributes := #[] }, { accessFlags := 4120, nameIndex := 445, descriptorIndex := 117, attributes := #[] }])
  fields := #[{ name := "MIN_ARRAY_SORT_GRAN", type := .int, accessFlags := 26, slot := 0, constantValue := 0 }, { name := "INSERTIONSORT_THRESHOLD", type := .int, accessFlags := 26, slot := 1, constantValue := 0 }, { name := "$assertionsDisabled", type := .boolean, accessFlags := 4120, slot := 2, constantValue := 0 }]
  methods := #[k22m0, k22m1]
  instanceTypes := #[]
  staticTypes := #[.int, .int, .boolean]
  resolved := Array.replicate 1029 none
  statics := none }

def pool23 : Array CpInfo := pool [(1, .class_ 2), (0, u "java/lang/Long"), (15, .class_ 20), (1, u "java/lang/Integer"), (80, u "(J)I"), (133, .class_ 237), (1, u "java/lang/Long$LongCache"), (33, .class_ 272), (0, u "java/lang/Number"), (2, u "value"), (0, u "J"), (33, u "(I)I"), (0, .methodref 18 312), (0, .nameAndType 313 310), (0, u "numberOfTrailingZeros"), (0, .long 6148914691236517205), (1, .long 3689348814741910323), (1, .long 1085102592571150095), (42, u "TYPE"), (0, u "Ljava/lang/Class;"), (0, .class_ 364), (0, u "java/lang/Comparable"), (0, .class_ 366), (0, u "java/lang/constant/Constable"), (0, .class_ 368), (0, u "java/lang/constant/ConstantDesc"), (0, u "MIN_VALUE"), (1, u "MAX_VALUE"), (4, u "SIZE"), (0, u "I"), (1, u "BYTES"), (1, u "serialVersionUID"), (94, u "bitCount")] 47

def k23c0 : Code := { maxStack := 4, maxLocals := 3, code := jdk_35_method_49_code, exceptionTable := #[], attributes := #[] }
def k23m0 : Method := { name := "numberOfTrailingZeros", desc := "(J)I", sig := { parameters := [.long], returnType := some .int }, accessFlags := 9, code := some k23c0 }
def k23c1 : Code := { maxStack := 6, maxLocals := 2, code := jdk_35_method_50_code, exceptionTable := #[], attributes := #[] }
def k23m1 : Method := { name := "bitCount", desc := "(J)I", sig := { parameters := [.long], returnType := some .int }, accessFlags := 9, code := some k23c1 }
/-- java/lang/Long -/
def k23 : Class := { plain "java/lang/Long" (some 17) with
  accessFlags := 49
  interfaces := #[18, 19, 20]
  cf := some (fileOf pool23 1 #[.nestMembers #[235]] #[{ accessFlags := 9, nameIndex := 313, descriptorIndex := 101, attributes := #[] }, { accessFlags := 9, nameIndex := 476, descriptorIndex := 101, attributes := #[] }] 49 271 #[363, 365, 367] #[{ accessFlags := 25, nameIndex := 369, descriptorIndex := 276, attributes := #[] }, { accessFlags := 25, nameIndex := 371, descriptorIndex := 276, attributes := #[] }, { accessFlags := 25, nameIndex := 361, descriptorIndex := 362, attributes := #[] }, { accessFlags := 18, nameIndex := 275, descriptorIndex := 276, attributes := #[] }, { accessFlags := 25, nameIndex := 376, descriptorIndex := 377, attributes := #[] }, { accessFlags := 25, nameIndex := 379, descriptorIndex := 377, attributes := #[] }, { accessFlags := 26, nameIndex := 381, descriptorIndex := 276, attributes := #[] }])
  fields := #[{ name := "MIN_VALUE", type := .long, accessFlags := 25, slot := 0, constantValue := 0 }, { name := "MAX_VALUE", type := .long, accessFlags := 25, slot := 1, constantValue := 0 }, { name := "TYPE", type := (.object "java/lang/Class"), accessFlags := 25, slot := 2, constantValue := 0 }, { name := "value", type := .long, accessFlags := 18, slot := 0, constantValue := 0 }, { name := "SIZE", type := .int, accessFlags := 25, slot := 3, constantValue := 0 }, { name := "BYTES", type := .int, accessFlags := 25, slot := 4, constantValue := 0 }, { name := "serialVersionUID", type := .long, accessFlags := 26, slot := 5, constantValue := 0 }]
  methods := #[k23m0, k23m1]
  instanceTypes := #[.long]
  staticTypes := #[.long, .long, (.object "java/lang/Class"), .int, .int, .long]
  resolved := Array.replicate 524 none
  statics := none }

/-- the primitive byte -/
def k24 : Class := { plain "byte" none with kind := .primitive 'B', accessFlags := 0x411 }
/-- [B -/
def k25 : Class := { plain "[B" (some 0) with kind := .array 24 .byte, interfaces := #[2, 3], accessFlags := 1041 }

/-- the primitive int -/
def k26 : Class := { plain "int" none with kind := .primitive 'I', accessFlags := 0x411 }
/-- [I -/
def k27 : Class := { plain "[I" (some 0) with kind := .array 26 .int, interfaces := #[2, 3], accessFlags := 1041 }

/-- the primitive long -/
def k28 : Class := { plain "long" none with kind := .primitive 'J', accessFlags := 0x411 }
/-- [J -/
def k29 : Class := { plain "[J" (some 0) with kind := .array 28 .long, interfaces := #[2, 3], accessFlags := 1041 }

/-- [Ljava/lang/Object; -/
def k30 : Class := { plain "[Ljava/lang/Object;" (some 0) with kind := .array 0 (.object "java/lang/Object"), interfaces := #[2, 3], accessFlags := 1041 }

def heap : Heap := #[{ cls := 4, slots := #[.int 0, .int 0, .int 0, .long 0, .null, .long 0, .int 1], vm := .statics 4 },
  { cls := 12, slots := #[.long 0, .int 0, .ref 2, .ref 3], vm := .statics 12 },
  { cls := 30, slots := #[], vm := .none },
  { cls := 30, slots := #[], vm := .none }]
def classes : Array Class := #[k0, k1, k2, k3, k4, k5, k6, k7, k8, k9, k10, k11, k12, k13, k14, k15, k16, k17, k18, k19, k20, k21, k22, k23, k24, k25, k26, k27, k28, k29, k30]
def interned : List (Array UInt16 × Addr) := []
def slotsUsed : Nat := 11
def theMethod : MethodId := ⟨1, 1⟩
def args0 : Array Value := #[.int 5, .int 3, .int 2, .long 7]
def aboutOver (below : List Frame) : State where
  vm := { classes := classes, interned := interned.toArray }
  heap := heap
  slotsUsed := slotsUsed
  threads := #[{ frames := .invoking theMethod args0 :: below }]
def below0 : List Frame := [.native { method := ⟨0, 0⟩, args := #[] }]
def about1 : State := aboutOver below0
def p0 : Program := .bare "" "" ""
def e0 : Env := launch0.env 0 0 0
theorem w_frames : about1.frames = Frame.invoking theMethod args0 :: below0 := rfl
set_option maxRecDepth 65536 in
theorem w_args : argsFit about1.vm theMethod args0 = true := by decide +kernel
set_option maxRecDepth 65536 in
theorem w_heap : heapFits about1 = true := by decide +kernel
set_option maxRecDepth 65536 in
theorem w_runnable : about1.curStatus? = some .runnable := by decide +kernel
set_option maxRecDepth 65536 in
theorem w_alone : about1.alone = true := by decide +kernel
set_option maxRecDepth 65536 in
theorem w_named : about1.methodNamed? x = some theMethod := by decide +kernel
set_option maxRecDepth 65536 in
theorem w_hears : about1.hears theMethod below0 = true := by decide +kernel
set_option maxRecDepth 65536 in
theorem w_ripe : about1.ripe theMethod args0 below0 = true := by decide +kernel
theorem w_running : about1.status = .running := rfl
set_option maxRecDepth 65536 in
theorem w_room : about1.hasRoom e0.platform room_1 = true :=
  launch0.hasRoom_least _ room_1 (by decide +kernel) (by decide +kernel) (by decide +kernel) (by decide +kernel) (by decide +kernel) (by decide +kernel)
theorem allAtoms_all (ts : List Jvm.Cond) (a : Array Jvm.Value) (st : Jvm.State) : (allAtoms ts).before a st = ts.all (fun c => c.before a st) := by
  induction ts with
  | nil => rfl
  | cons c t ih =>
    show (Jvm.Cond.and c (allAtoms t)).before a st = _
    rw [Jvm.Cond.before_and, ih, List.all_cons]
def words1 : List Jvm.Cond := Jvm.Cond.code x code maxLocals ret :: tables_1
/-- a 'code' word, met by the world's own term for the bytes: nothing is compared byte by byte -/
theorem code_word {y : MethodName} {bytes : ByteArray} {mx : Nat} {rt : Option FieldType} {a : Array Value} {s : State} {m : MethodId} {meth : Method} {c : Code} (h1 : s.methodNamed? y = some m) (h2 : s.vm.method? m = some meth) (h3 : meth.code = some c) (h4 : c.code = bytes)
    (h5 : (c.maxLocals == mx && c.exceptionTable.isEmpty && decide (c.maxStack ≤ mostOperands) && decide (meth.sig.returnType = rt) && !meth.locks && decide (parseMethodDescriptor y.desc = some meth.sig)) = true) : (Jvm.Cond.code y bytes mx rt).before a s = true := by
  simp only [Bool.and_eq_true, beq_iff_eq, Bool.not_eq_true', decide_eq_true_eq] at h5
  obtain ⟨⟨⟨⟨⟨g1, g2⟩, g3⟩, g4⟩, g5⟩, g6⟩ := h5
  simp [Cond.before, Cond.holds, Cond.value, h1, h2, h3, h4, g1, g2, g3, g4, g5, g6]
def isCode : Jvm.Cond → Bool
  | .code _ _ _ _ => true
  | _ => false
theorem all_split {L : List Jvm.Cond} {P : Jvm.Cond → Bool} (h1 : L.all (fun c => isCode c || P c) = true) (h2 : ∀ c ∈ L.filter isCode, P c = true) : L.all P = true := by
  refine List.all_eq_true.mpr fun c hc => ?_
  have h := List.all_eq_true.mp h1 c hc
  rcases Bool.eq_false_or_eq_true (isCode c) with hi | hi
  · exact h2 c (List.mem_filter.mpr ⟨hc, hi⟩)
  · simpa [hi] using h
set_option maxRecDepth 65536 in
theorem w_c0 : (Jvm.Cond.code x code maxLocals ret).before args0 about1 = true := code_word (m := ⟨1, 1⟩) (meth := k1m1) (c := k1c1) (by decide +kernel) rfl rfl rfl (by decide +kernel)
set_option maxRecDepth 65536 in
theorem w_c1 : (Jvm.Cond.code ({ cls := "com/example/encircle/encircle/layout/ZoneKeysFirstPinLaw", name := "bits", desc := "(I)Ljava/util/BitSet;" } : Jvm.MethodName) method_3_code (2 : Nat) (Option.some (Jvm.ClassFile.FieldType.object "java/util/BitSet"))).before args0 about1 = true := code_word (m := ⟨1, 2⟩) (meth := k1m2) (c := k1c2) (by decide +kernel) rfl rfl rfl (by decide +kernel)
set_option maxRecDepth 65536 in
theorem w_c2 : (Jvm.Cond.code ({ cls := "java/util/BitSet", name := "<init>", desc := "()V" } : Jvm.MethodName) jdk_92_method_4_code (1 : Nat) (Option.none : Option Jvm.ClassFile.FieldType)).before args0 about1 = true := code_word (m := ⟨4, 2⟩) (meth := k4m2) (c := k4c2) (by decide +kernel) rfl rfl rfl (by decide +kernel)
set_option maxRecDepth 65536 in
theorem w_c3 : (Jvm.Cond.code ({ cls := "java/lang/Object", name := "<init>", desc := "()V" } : Jvm.MethodName) object_method_1_code (1 : Nat) (Option.none : Option Jvm.ClassFile.FieldType)).before args0 about1 = true := code_word (m := ⟨0, 0⟩) (meth := k0m0) (c := k0c0) (by decide +kernel) rfl rfl rfl (by decide +kernel)
set_option maxRecDepth 65536 in
theorem w_c4 : (Jvm.Cond.code ({ cls := "java/util/BitSet", name := "initWords", desc := "(I)V" } : Jvm.MethodName) jdk_92_method_6_code (2 : Nat) (Option.none : Option Jvm.ClassFile.FieldType)).before args0 about1 = true := code_word (m := ⟨4, 3⟩) (meth := k4m3) (c := k4c3) (by decide +kernel) rfl rfl rfl (by decide +kernel)
set_option maxRecDepth 65536 in
theorem w_c5 : (Jvm.Cond.code ({ cls := "java/util/BitSet", name := "wordIndex", desc := "(I)I" } : Jvm.MethodName) jdk_92_method_1_code (1 : Nat) (Option.some Jvm.ClassFile.FieldType.int)).before args0 about1 = true := code_word (m := ⟨4, 0⟩) (meth := k4m0) (c := k4c0) (by decide +kernel) rfl rfl rfl (by decide +kernel)
set_option maxRecDepth 65536 in
theorem w_c6 : (Jvm.Cond.code ({ cls := "java/util/ArrayList", name := "<init>", desc := "()V" } : Jvm.MethodName) jdk_38_method_2_code (1 : Nat) (Option.none : Option Jvm.ClassFile.FieldType)).before args0 about1 = true := code_word (m := ⟨12, 0⟩) (meth := k12m0) (c := k12c0) (by decide +kernel) rfl rfl rfl (by decide +kernel)
set_option maxRecDepth 65536 in
theorem w_c7 : (Jvm.Cond.code ({ cls := "java/util/AbstractList", name := "<init>", desc := "()V" } : Jvm.MethodName) jdk_39_method_1_code (1 : Nat) (Option.none : Option Jvm.ClassFile.FieldType)).before args0 about1 = true := code_word (m := ⟨10, 0⟩) (meth := k10m0) (c := k10c0) (by decide +kernel) rfl rfl rfl (by decide +kernel)
set_option maxRecDepth 65536 in
theorem w_c8 : (Jvm.Cond.code ({ cls := "java/util/AbstractCollection", name := "<init>", desc := "()V" } : Jvm.MethodName) jdk_22_method_1_code (1 : Nat) (Option.none : Option Jvm.ClassFile.FieldType)).before args0 about1 = true := code_word (m := ⟨7, 0⟩) (meth := k7m0) (c := k7c0) (by decide +kernel) rfl rfl rfl (by decide +kernel)
set_option maxRecDepth 65536 in
theorem w_c9 : (Jvm.Cond.code ({ cls := "java/util/ArrayList", name := "add", desc := "(Ljava/lang/Object;)Z" } : Jvm.MethodName) jdk_38_method_25_code (2 : Nat) (Option.some Jvm.ClassFile.FieldType.boolean)).before args0 about1 = true := code_word (m := ⟨12, 7⟩) (meth := k12m7) (c := k12c7) (by decide +kernel) rfl rfl rfl (by decide +kernel)
set_option maxRecDepth 65536 in
theorem w_c10 : (Jvm.Cond.code ({ cls := "java/util/ArrayList", name := "add", desc := "(Ljava/lang/Object;[Ljava/lang/Object;I)V" } : Jvm.MethodName) jdk_38_method_24_code (4 : Nat) (Option.none : Option Jvm.ClassFile.FieldType)).before args0 about1 = true := code_word (m := ⟨12, 6⟩) (meth := k12m6) (c := k12c6) (by decide +kernel) rfl rfl rfl (by decide +kernel)
set_option maxRecDepth 65536 in
theorem w_c11 : (Jvm.Cond.code ({ cls := "java/util/ArrayList", name := "grow", desc := "()[Ljava/lang/Object;" } : Jvm.MethodName) jdk_38_method_7_code (1 : Nat) (Option.some (Jvm.ClassFile.FieldType.array (Jvm.ClassFile.FieldType.object "java/lang/Object")))).before args0 about1 = true := code_word (m := ⟨12, 2⟩) (meth := k12m2) (c := k12c2) (by decide +kernel) rfl rfl rfl (by decide +kernel)
set_option maxRecDepth 65536 in
theorem w_c12 : (Jvm.Cond.code ({ cls := "java/util/ArrayList", name := "grow", desc := "(I)[Ljava/lang/Object;" } : Jvm.MethodName) jdk_38_method_6_code (4 : Nat) (Option.some (Jvm.ClassFile.FieldType.array (Jvm.ClassFile.FieldType.object "java/lang/Object")))).before args0 about1 = true := code_word (m := ⟨12, 1⟩) (meth := k12m1) (c := k12c1) (by decide +kernel) rfl rfl rfl (by decide +kernel)
set_option maxRecDepth 65536 in
theorem w_c13 : (Jvm.Cond.code ({ cls := "java/lang/Math", name := "max", desc := "(II)I" } : Jvm.MethodName) jdk_29_method_65_code (2 : Nat) (Option.some Jvm.ClassFile.FieldType.int)).before args0 about1 = true := code_word (m := ⟨13, 1⟩) (meth := k13m1) (c := k13c1) (by decide +kernel) rfl rfl rfl (by decide +kernel)
set_option maxRecDepth 65536 in
theorem w_c14 : (Jvm.Cond.code ({ cls := "com/example/encircle/encircle/layout/ZoneKeys", name := "<init>", desc := "(ILjava/util/List;)V" } : Jvm.MethodName) prog_35_method_1_code (8 : Nat) (Option.none : Option Jvm.ClassFile.FieldType)).before args0 about1 = true := code_word (m := ⟨14, 0⟩) (meth := k14m0) (c := k14c0) (by decide +kernel) rfl rfl rfl (by decide +kernel)
set_option maxRecDepth 65536 in
theorem w_c15 : (Jvm.Cond.code ({ cls := "java/util/ArrayList", name := "size", desc := "()I" } : Jvm.MethodName) jdk_38_method_8_code (1 : Nat) (Option.some Jvm.ClassFile.FieldType.int)).before args0 about1 = true := code_word (m := ⟨12, 3⟩) (meth := k12m3) (c := k12c3) (by decide +kernel) rfl rfl rfl (by decide +kernel)
set_option maxRecDepth 65536 in
theorem w_c16 : (Jvm.Cond.code ({ cls := "java/util/ArrayList", name := "get", desc := "(I)Ljava/lang/Object;" } : Jvm.MethodName) jdk_38_method_20_code (2 : Nat) (Option.some (Jvm.ClassFile.FieldType.object "java/lang/Object"))).before args0 about1 = true := code_word (m := ⟨12, 5⟩) (meth := k12m5) (c := k12c5) (by decide +kernel) rfl rfl rfl (by decide +kernel)
set_option maxRecDepth 65536 in
theorem w_c17 : (Jvm.Cond.code ({ cls := "java/util/Objects", name := "checkIndex", desc := "(II)I" } : Jvm.MethodName) jdk_31_method_17_code (2 : Nat) (Option.some Jvm.ClassFile.FieldType.int)).before args0 about1 = true := code_word (m := ⟨15, 1⟩) (meth := k15m1) (c := k15c1) (by decide +kernel) rfl rfl rfl (by decide +kernel)
set_option maxRecDepth 65536 in
theorem w_c18 : (Jvm.Cond.code ({ cls := "jdk/internal/util/Preconditions", name := "checkIndex", desc := "(IILjava/util/function/BiFunction;)I" } : Jvm.MethodName) jdk_41_method_11_code (3 : Nat) (Option.some Jvm.ClassFile.FieldType.int)).before args0 about1 = true := code_word (m := ⟨16, 1⟩) (meth := k16m1) (c := k16c1) (by decide +kernel) rfl rfl rfl (by decide +kernel)
set_option maxRecDepth 65536 in
theorem w_c19 : (Jvm.Cond.code ({ cls := "java/util/ArrayList", name := "elementData", desc := "(I)Ljava/lang/Object;" } : Jvm.MethodName) jdk_38_method_18_code (2 : Nat) (Option.some (Jvm.ClassFile.FieldType.object "java/lang/Object"))).before args0 about1 = true := code_word (m := ⟨12, 4⟩) (meth := k12m4) (c := k12c4) (by decide +kernel) rfl rfl rfl (by decide +kernel)
set_option maxRecDepth 65536 in
theorem w_c20 : (Jvm.Cond.code ({ cls := "java/util/BitSet", name := "nextSetBit", desc := "(I)I" } : Jvm.MethodName) jdk_92_method_28_code (5 : Nat) (Option.some Jvm.ClassFile.FieldType.int)).before args0 about1 = true := code_word (m := ⟨4, 7⟩) (meth := k4m7) (c := k4c7) (by decide +kernel) rfl rfl rfl (by decide +kernel)
set_option maxRecDepth 65536 in
theorem w_c21 : (Jvm.Cond.code ({ cls := "java/util/BitSet", name := "checkInvariants", desc := "()V" } : Jvm.MethodName) jdk_92_method_2_code (1 : Nat) (Option.none : Option Jvm.ClassFile.FieldType)).before args0 about1 = true := code_word (m := ⟨4, 1⟩) (meth := k4m1) (c := k4c1) (by decide +kernel) rfl rfl rfl (by decide +kernel)
set_option maxRecDepth 65536 in
theorem w_c22 : (Jvm.Cond.code ({ cls := "java/util/BitSet", name := "cardinality", desc := "()I" } : Jvm.MethodName) jdk_92_method_35_code (3 : Nat) (Option.some Jvm.ClassFile.FieldType.int)).before args0 about1 = true := code_word (m := ⟨4, 8⟩) (meth := k4m8) (c := k4c8) (by decide +kernel) rfl rfl rfl (by decide +kernel)
set_option maxRecDepth 65536 in
theorem w_c23 : (Jvm.Cond.code ({ cls := "java/lang/Integer", name := "highestOneBit", desc := "(I)I" } : Jvm.MethodName) jdk_33_method_45_code (1 : Nat) (Option.some Jvm.ClassFile.FieldType.int)).before args0 about1 = true := code_word (m := ⟨21, 0⟩) (meth := k21m0) (c := k21c0) (by decide +kernel) rfl rfl rfl (by decide +kernel)
set_option maxRecDepth 65536 in
theorem w_c24 : (Jvm.Cond.code ({ cls := "java/lang/Integer", name := "numberOfLeadingZeros", desc := "(I)I" } : Jvm.MethodName) jdk_33_method_47_code (2 : Nat) (Option.some Jvm.ClassFile.FieldType.int)).before args0 about1 = true := code_word (m := ⟨21, 1⟩) (meth := k21m1) (c := k21c1) (by decide +kernel) rfl rfl rfl (by decide +kernel)
set_option maxRecDepth 65536 in
theorem w_c25 : (Jvm.Cond.code ({ cls := "java/util/Arrays", name := "fill", desc := "([II)V" } : Jvm.MethodName) jdk_65_method_103_code (4 : Nat) (Option.none : Option Jvm.ClassFile.FieldType)).before args0 about1 = true := code_word (m := ⟨22, 1⟩) (meth := k22m1) (c := k22c1) (by decide +kernel) rfl rfl rfl (by decide +kernel)
set_option maxRecDepth 65536 in
theorem w_c26 : (Jvm.Cond.code ({ cls := "com/example/encircle/encircle/layout/ZoneKeys", name := "slot", desc := "(J)I" } : Jvm.MethodName) prog_35_method_7_code (5 : Nat) (Option.some Jvm.ClassFile.FieldType.int)).before args0 about1 = true := code_word (m := ⟨14, 3⟩) (meth := k14m3) (c := k14c3) (by decide +kernel) rfl rfl rfl (by decide +kernel)
set_option maxRecDepth 65536 in
theorem w_c27 : (Jvm.Cond.code ({ cls := "com/example/encircle/encircle/layout/ZoneKeys", name := "key", desc := "(I)J" } : Jvm.MethodName) prog_35_method_2_code (2 : Nat) (Option.some Jvm.ClassFile.FieldType.long)).before args0 about1 = true := code_word (m := ⟨14, 1⟩) (meth := k14m1) (c := k14c1) (by decide +kernel) rfl rfl rfl (by decide +kernel)
set_option maxRecDepth 65536 in
theorem w_c28 : (Jvm.Cond.code ({ cls := "com/example/encircle/encircle/layout/ZoneKeysFirstPinLaw", name := "sumOf", desc := "(IJJJJ)J" } : Jvm.MethodName) method_4_code (11 : Nat) (Option.some Jvm.ClassFile.FieldType.long)).before args0 about1 = true := code_word (m := ⟨1, 3⟩) (meth := k1m3) (c := k1c3) (by decide +kernel) rfl rfl rfl (by decide +kernel)
set_option maxRecDepth 65536 in
theorem w_c29 : (Jvm.Cond.code ({ cls := "com/example/encircle/encircle/layout/ZoneKeys", name := "first", desc := "(J)I" } : Jvm.MethodName) prog_35_method_5_code (3 : Nat) (Option.some Jvm.ClassFile.FieldType.int)).before args0 about1 = true := code_word (m := ⟨14, 2⟩) (meth := k14m2) (c := k14c2) (by decide +kernel) rfl rfl rfl (by decide +kernel)
set_option maxRecDepth 65536 in
theorem w_c30 : (Jvm.Cond.code ({ cls := "java/util/BitSet", name := "set", desc := "(I)V" } : Jvm.MethodName) jdk_92_method_19_code (3 : Nat) (Option.none : Option Jvm.ClassFile.FieldType)).before args0 about1 = true := code_word (m := ⟨4, 6⟩) (meth := k4m6) (c := k4c6) (by decide +kernel) rfl rfl rfl (by decide +kernel)
set_option maxRecDepth 65536 in
theorem w_c31 : (Jvm.Cond.code ({ cls := "java/util/BitSet", name := "expandTo", desc := "(I)V" } : Jvm.MethodName) jdk_92_method_15_code (3 : Nat) (Option.none : Option Jvm.ClassFile.FieldType)).before args0 about1 = true := code_word (m := ⟨4, 5⟩) (meth := k4m5) (c := k4c5) (by decide +kernel) rfl rfl rfl (by decide +kernel)
set_option maxRecDepth 65536 in
theorem w_c32 : (Jvm.Cond.code ({ cls := "java/util/BitSet", name := "ensureCapacity", desc := "(I)V" } : Jvm.MethodName) jdk_92_method_14_code (3 : Nat) (Option.none : Option Jvm.ClassFile.FieldType)).before args0 about1 = true := code_word (m := ⟨4, 4⟩) (meth := k4m4) (c := k4c4) (by decide +kernel) rfl rfl rfl (by decide +kernel)
set_option maxRecDepth 65536 in
theorem w_c33 : (Jvm.Cond.code ({ cls := "java/lang/Long", name := "numberOfTrailingZeros", desc := "(J)I" } : Jvm.MethodName) jdk_35_method_49_code (3 : Nat) (Option.some Jvm.ClassFile.FieldType.int)).before args0 about1 = true := code_word (m := ⟨23, 0⟩) (meth := k23m0) (c := k23c0) (by decide +kernel) rfl rfl rfl (by decide +kernel)
set_option maxRecDepth 65536 in
theorem w_c34 : (Jvm.Cond.code ({ cls := "java/lang/Integer", name := "numberOfTrailingZeros", desc := "(I)I" } : Jvm.MethodName) jdk_33_method_48_code (2 : Nat) (Option.some Jvm.ClassFile.FieldType.int)).before args0 about1 = true := code_word (m := ⟨21, 2⟩) (meth := k21m2) (c := k21c2) (by decide +kernel) rfl rfl rfl (by decide +kernel)
set_option maxRecDepth 65536 in
theorem w_c35 : (Jvm.Cond.code ({ cls := "java/lang/Long", name := "bitCount", desc := "(J)I" } : Jvm.MethodName) jdk_35_method_50_code (2 : Nat) (Option.some Jvm.ClassFile.FieldType.int)).before args0 about1 = true := code_word (m := ⟨23, 1⟩) (meth := k23m1) (c := k23c1) (by decide +kernel) rfl rfl rfl (by decide +kernel)
def codes1 : List Jvm.Cond := [Jvm.Cond.code x code maxLocals ret, Jvm.Cond.code ({ cls := "com/example/encircle/encircle/layout/ZoneKeysFirstPinLaw", name := "bits", desc := "(I)Ljava/util/BitSet;" } : Jvm.MethodName) method_3_code (2 : Nat) (Option.some (Jvm.ClassFile.FieldType.object "java/util/BitSet")), Jvm.Cond.code ({ cls := "java/util/BitSet", name := "<init>", desc := "()V" } : Jvm.MethodName) jdk_92_method_4_code (1 : Nat) (Option.none : Option Jvm.ClassFile.FieldType), Jvm.Cond.code ({ cls := "java/lang/Object", name := "<init>", desc := "()V" } : Jvm.MethodName) object_method_1_code (1 : Nat) (Option.none : Option Jvm.ClassFile.FieldType), Jvm.Cond.code ({ cls := "java/util/BitSet", name := "initWords", desc := "(I)V" } : Jvm.MethodName) jdk_92_method_6_code (2 : Nat) (Option.none : Option Jvm.ClassFile.FieldType), Jvm.Cond.code ({ cls := "java/util/BitSet", name := "wordIndex", desc := "(I)I" } : Jvm.MethodName) jdk_92_method_1_code (1 : Nat) (Option.some Jvm.ClassFile.FieldType.int), Jvm.Cond.code ({ cls := "java/util/ArrayList", name := "<init>", desc := "()V" } : Jvm.MethodName) jdk_38_method_2_code (1 : Nat) (Option.none : Option Jvm.ClassFile.FieldType), Jvm.Cond.code ({ cls := "java/util/AbstractList", name := "<init>", desc := "()V" } : Jvm.MethodName) jdk_39_method_1_code (1 : Nat) (Option.none : Option Jvm.ClassFile.FieldType), Jvm.Cond.code ({ cls := "java/util/AbstractCollection", name := "<init>", desc := "()V" } : Jvm.MethodName) jdk_22_method_1_code (1 : Nat) (Option.none : Option Jvm.ClassFile.FieldType), Jvm.Cond.code ({ cls := "java/util/ArrayList", name := "add", desc := "(Ljava/lang/Object;)Z" } : Jvm.MethodName) jdk_38_method_25_code (2 : Nat) (Option.some Jvm.ClassFile.FieldType.boolean), Jvm.Cond.code ({ cls := "java/util/ArrayList", name := "add", desc := "(Ljava/lang/Object;[Ljava/lang/Object;I)V" } : Jvm.MethodName) jdk_38_method_24_code (4 : Nat) (Option.none : Option Jvm.ClassFile.FieldType), Jvm.Cond.code ({ cls := "java/util/ArrayList", name := "grow", desc := "()[Ljava/lang/Object;" } : Jvm.MethodName) jdk_38_method_7_code (1 : Nat) (Option.some (Jvm.ClassFile.FieldType.array (Jvm.ClassFile.FieldType.object "java/lang/Object"))), Jvm.Cond.code ({ cls := "java/util/ArrayList", name := "grow", desc := "(I)[Ljava/lang/Object;" } : Jvm.MethodName) jdk_38_method_6_code (4 : Nat) (Option.some (Jvm.ClassFile.FieldType.array (Jvm.ClassFile.FieldType.object "java/lang/Object"))), Jvm.Cond.code ({ cls := "java/lang/Math", name := "max", desc := "(II)I" } : Jvm.MethodName) jdk_29_method_65_code (2 : Nat) (Option.some Jvm.ClassFile.FieldType.int), Jvm.Cond.code ({ cls := "com/example/encircle/encircle/layout/ZoneKeys", name := "<init>", desc := "(ILjava/util/List;)V" } : Jvm.MethodName) prog_35_method_1_code (8 : Nat) (Option.none : Option Jvm.ClassFile.FieldType), Jvm.Cond.code ({ cls := "java/util/ArrayList", name := "size", desc := "()I" } : Jvm.MethodName) jdk_38_method_8_code (1 : Nat) (Option.some Jvm.ClassFile.FieldType.int), Jvm.Cond.code ({ cls := "java/util/ArrayList", name := "get", desc := "(I)Ljava/lang/Object;" } : Jvm.MethodName) jdk_38_method_20_code (2 : Nat) (Option.some (Jvm.ClassFile.FieldType.object "java/lang/Object")), Jvm.Cond.code ({ cls := "java/util/Objects", name := "checkIndex", desc := "(II)I" } : Jvm.MethodName) jdk_31_method_17_code (2 : Nat) (Option.some Jvm.ClassFile.FieldType.int), Jvm.Cond.code ({ cls := "jdk/internal/util/Preconditions", name := "checkIndex", desc := "(IILjava/util/function/BiFunction;)I" } : Jvm.MethodName) jdk_41_method_11_code (3 : Nat) (Option.some Jvm.ClassFile.FieldType.int), Jvm.Cond.code ({ cls := "java/util/ArrayList", name := "elementData", desc := "(I)Ljava/lang/Object;" } : Jvm.MethodName) jdk_38_method_18_code (2 : Nat) (Option.some (Jvm.ClassFile.FieldType.object "java/lang/Object")), Jvm.Cond.code ({ cls := "java/util/BitSet", name := "nextSetBit", desc := "(I)I" } : Jvm.MethodName) jdk_92_method_28_code (5 : Nat) (Option.some Jvm.ClassFile.FieldType.int), Jvm.Cond.code ({ cls := "java/util/BitSet", name := "checkInvariants", desc := "()V" } : Jvm.MethodName) jdk_92_method_2_code (1 : Nat) (Option.none : Option Jvm.ClassFile.FieldType), Jvm.Cond.code ({ cls := "java/util/BitSet", name := "cardinality", desc := "()I" } : Jvm.MethodName) jdk_92_method_35_code (3 : Nat) (Option.some Jvm.ClassFile.FieldType.int), Jvm.Cond.code ({ cls := "java/lang/Integer", name := "highestOneBit", desc := "(I)I" } : Jvm.MethodName) jdk_33_method_45_code (1 : Nat) (Option.some Jvm.ClassFile.FieldType.int), Jvm.Cond.code ({ cls := "java/lang/Integer", name := "numberOfLeadingZeros", desc := "(I)I" } : Jvm.MethodName) jdk_33_method_47_code (2 : Nat) (Option.some Jvm.ClassFile.FieldType.int), Jvm.Cond.code ({ cls := "java/util/Arrays", name := "fill", desc := "([II)V" } : Jvm.MethodName) jdk_65_method_103_code (4 : Nat) (Option.none : Option Jvm.ClassFile.FieldType), Jvm.Cond.code ({ cls := "com/example/encircle/encircle/layout/ZoneKeys", name := "slot", desc := "(J)I" } : Jvm.MethodName) prog_35_method_7_code (5 : Nat) (Option.some Jvm.ClassFile.FieldType.int), Jvm.Cond.code ({ cls := "com/example/encircle/encircle/layout/ZoneKeys", name := "key", desc := "(I)J" } : Jvm.MethodName) prog_35_method_2_code (2 : Nat) (Option.some Jvm.ClassFile.FieldType.long), Jvm.Cond.code ({ cls := "com/example/encircle/encircle/layout/ZoneKeysFirstPinLaw", name := "sumOf", desc := "(IJJJJ)J" } : Jvm.MethodName) method_4_code (11 : Nat) (Option.some Jvm.ClassFile.FieldType.long), Jvm.Cond.code ({ cls := "com/example/encircle/encircle/layout/ZoneKeys", name := "first", desc := "(J)I" } : Jvm.MethodName) prog_35_method_5_code (3 : Nat) (Option.some Jvm.ClassFile.FieldType.int), Jvm.Cond.code ({ cls := "java/util/BitSet", name := "set", desc := "(I)V" } : Jvm.MethodName) jdk_92_method_19_code (3 : Nat) (Option.none : Option Jvm.ClassFile.FieldType), Jvm.Cond.code ({ cls := "java/util/BitSet", name := "expandTo", desc := "(I)V" } : Jvm.MethodName) jdk_92_method_15_code (3 : Nat) (Option.none : Option Jvm.ClassFile.FieldType), Jvm.Cond.code ({ cls := "java/util/BitSet", name := "ensureCapacity", desc := "(I)V" } : Jvm.MethodName) jdk_92_method_14_code (3 : Nat) (Option.none : Option Jvm.ClassFile.FieldType), Jvm.Cond.code ({ cls := "java/lang/Long", name := "numberOfTrailingZeros", desc := "(J)I" } : Jvm.MethodName) jdk_35_method_49_code (3 : Nat) (Option.some Jvm.ClassFile.FieldType.int), Jvm.Cond.code ({ cls := "java/lang/Integer", name := "numberOfTrailingZeros", desc := "(I)I" } : Jvm.MethodName) jdk_33_method_48_code (2 : Nat) (Option.some Jvm.ClassFile.FieldType.int), Jvm.Cond.code ({ cls := "java/lang/Long", name := "bitCount", desc := "(J)I" } : Jvm.MethodName) jdk_35_method_50_code (2 : Nat) (Option.some Jvm.ClassFile.FieldType.int)]
set_option maxRecDepth 65536 in
theorem codes_eq : words1.filter isCode = codes1 := rfl
theorem w_codes : ∀ c ∈ words1.filter isCode, c.before args0 about1 = true := by
  rw [codes_eq]
  intro c hc
  simp only [codes1, List.mem_cons, List.not_mem_nil, or_false] at hc
  rcases hc with rfl | rfl | rfl | rfl | rfl | rfl | rfl | rfl | rfl | rfl | rfl | rfl | rfl | rfl | rfl | rfl | rfl | rfl | rfl | rfl | rfl | rfl | rfl | rfl | rfl | rfl | rfl | rfl | rfl | rfl | rfl | rfl | rfl | rfl | rfl | rfl
  · exact w_c0
  · exact w_c1
  · exact w_c2
  · exact w_c3
  · exact w_c4
  · exact w_c5
  · exact w_c6
  · exact w_c7
  · exact w_c8
  · exact w_c9
  · exact w_c10
  · exact w_c11
  · exact w_c12
  · exact w_c13
  · exact w_c14
  · exact w_c15
  · exact w_c16
  · exact w_c17
  · exact w_c18
  · exact w_c19
  · exact w_c20
  · exact w_c21
  · exact w_c22
  · exact w_c23
  · exact w_c24
  · exact w_c25
  · exact w_c26
  · exact w_c27
  · exact w_c28
  · exact w_c29
  · exact w_c30
  · exact w_c31
  · exact w_c32
  · exact w_c33
  · exact w_c34
  · exact w_c35
set_option maxRecDepth 65536 in
theorem w_t1 : (words1.take 24).all (fun c => isCode c || c.before args0 about1) = true := by decide +kernel
set_option maxRecDepth 65536 in
theorem w_t2 : ((words1.drop 24).take 24).all (fun c => isCode c || c.before args0 about1) = true := by decide +kernel
set_option maxRecDepth 65536 in
theorem w_t3 : (((words1.drop 24).drop 24).take 24).all (fun c => isCode c || c.before args0 about1) = true := by decide +kernel
set_option maxRecDepth 65536 in
theorem w_t4 : ((((words1.drop 24).drop 24).drop 24).take 24).all (fun c => isCode c || c.before args0 about1) = true := by decide +kernel
set_option maxRecDepth 65536 in
theorem w_t5 : (((((words1.drop 24).drop 24).drop 24).drop 24).take 24).all (fun c => isCode c || c.before args0 about1) = true := by decide +kernel
set_option maxRecDepth 65536 in
theorem w_t6 : ((((((words1.drop 24).drop 24).drop 24).drop 24).drop 24).take 24).all (fun c => isCode c || c.before args0 about1) = true := by decide +kernel
set_option maxRecDepth 65536 in
theorem w_t7 : (((((((words1.drop 24).drop 24).drop 24).drop 24).drop 24).drop 24).take 24).all (fun c => isCode c || c.before args0 about1) = true := by decide +kernel
set_option maxRecDepth 65536 in
theorem w_t8 : ((((((((words1.drop 24).drop 24).drop 24).drop 24).drop 24).drop 24).drop 24).take 24).all (fun c => isCode c || c.before args0 about1) = true := by decide +kernel
set_option maxRecDepth 65536 in
theorem w_t9 : (((((((((words1.drop 24).drop 24).drop 24).drop 24).drop 24).drop 24).drop 24).drop 24).take 24).all (fun c => isCode c || c.before args0 about1) = true := by decide +kernel
set_option maxRecDepth 65536 in
theorem w_t10 : (((((((((words1.drop 24).drop 24).drop 24).drop 24).drop 24).drop 24).drop 24).drop 24).drop 24).all (fun c => isCode c || c.before args0 about1) = true := by decide +kernel
theorem w_tables : (allAtoms (Jvm.Cond.code x code maxLocals ret :: tables_1)).before args0 about1 = true := by
  rw [allAtoms_all]
  show words1.all (fun c => c.before args0 about1) = true
  refine all_split ?_ w_codes
  rw [← List.take_append_drop 24 words1, List.all_append, w_t1, ← List.take_append_drop 24 (words1.drop 24), List.all_append, w_t2, ← List.take_append_drop 24 ((words1.drop 24).drop 24), List.all_append, w_t3, ← List.take_append_drop 24 (((words1.drop 24).drop 24).drop 24), List.all_append, w_t4, ← List.take_append_drop 24 ((((words1.drop 24).drop 24).drop 24).drop 24), List.all_append, w_t5, ← List.take_append_drop 24 (((((words1.drop 24).drop 24).drop 24).drop 24).drop 24), List.all_append, w_t6, ← List.take_append_drop 24 ((((((words1.drop 24).drop 24).drop 24).drop 24).drop 24).drop 24), List.all_append, w_t7, ← List.take_append_drop 24 (((((((words1.drop 24).drop 24).drop 24).drop 24).drop 24).drop 24).drop 24), List.all_append, w_t8, ← List.take_append_drop 24 ((((((((words1.drop 24).drop 24).drop 24).drop 24).drop 24).drop 24).drop 24).drop 24), List.all_append, w_t9, w_t10]
  rfl
set_option maxRecDepth 65536 in
theorem w_rest : rest_1_c.before args0 about1 = true := by decide +kernel
set_option maxRecDepth 65536 in
theorem w_case : (Jvm.Cond.and given_1 narrow_1).before args0 about1 = true := by decide +kernel
theorem w_applies : (headSpec (Jvm.Cond.code x code maxLocals ret :: tables_1) room_1).applies x e0.platform about1 = true :=
  (Spec.applies_iff w_frames).mpr ⟨w_running, w_runnable, w_alone, w_named, w_hears, w_ripe, w_room, w_tables⟩
theorem atStart : AtStart classFile x code maxLocals ret World_1 tables_1 room_1 Calls_1 rest_1 Pre_1 launch0 p0 e0 about1 theMethod args0 below0 :=
  ⟨lists_1, trivial, launch0.admits_env _ _ _, launch0.least_env, fairChoices_fair.cas, fairChoices_fair.clock, w_frames, w_args, w_heap, w_applies, trivial, w_rest, w_case⟩
end start1
theorem witness_1 : WitnessClaimed_1 := ⟨start1.p0, start1.e0, start1.about1, start1.theMethod, start1.args0, start1.below0, start1.atStart⟩
end Jvm.Pilot.@@N@@
