import JvmDerived
import JvmDerived.Pilot.@@N@@Statement
import JvmDerived.Pilot.@@N@@Code
set_option linter.unusedVariables false
set_option linter.unusedSimpArgs false
namespace Jvm.Pilot.@@N@@
open Jvm Jvm.ClassFile Sem Op Lib Jvm.Free Jvm.Stand Jvm.LawKit Jvm.RoadKit Bundle Jvm.Pilot.@@N@@.Jvm.D
/-! own: the walk in continuation form: 'from the state A the body ends, and then Q' -/
def OwnWk (p : Program) (e : Env) (below : List Frame) (P : Option Value → State → List Loc → Prop) (A : State) : Prop :=
  ∃ s₂ v L, Steps p.tables e below A s₂ ∧ s₂.status = .running ∧ Ended s₂ below (.returned v) ∧ P v s₂ L
abbrev OwnP (s : State) (Q : Option Value → Heap → List Loc → Prop) (k n : Nat) : Option Value → State → List Loc → Prop := fun v t L => Q v t.heap L ∧ FrameEnd s (.returned v) t L k n
def OwnMet (l : Launch) (y : MethodName) (bytes : ByteArray) (maxL : Nat) (ret : Option FieldType) (ws : List Jvm.Cond) (rm : Room) (Z : State) (as' : Array Value) (h0 : Heap) (Q : Option Value → Heap → List Loc → Prop) : Prop :=
  MetFree l y (head1 (Jvm.Cond.code y bytes maxL ret :: ws) rm) (fun a U => a = as' ∧ Z.Warmed39 U.vm ∧ U.heap = h0) (fun _ _ _ _ _ => True)
    (fun _ U o U' => ∃ v L, o = .returned v ∧ Q v U'.heap L ∧ FrameEnd U o U' L rm.cells rm.slots)
def OAr (Z : State) (h : Heap) (a : Addr) (ty : FieldType) (vs : List Value) : Prop := ∃ c : Cell, Arr Z h a c ty ∧ c.slots = vs.toArray
theorem OAr.ext {Z : State} {h h' : Heap} {a : Addr} {ty : FieldType} {vs : List Value} (A : OAr Z h a ty vs) (E : Ext h h') : OAr Z h' a ty vs := by
  obtain ⟨c, A, e⟩ := A; exact ⟨c, A.ext E, e⟩
theorem OAr.other {Z : State} {h h' : Heap} {a b : Addr} {ty : FieldType} {vs : List Value} {sl : Nat} {v : Value} (A : OAr Z h b ty vs) (W : Wr h h' a sl v) (q : b ≠ a) : OAr Z h' b ty vs := by
  obtain ⟨c, A, e⟩ := A; exact ⟨c, A.other W q, e⟩
theorem OAr.keep {Z : State} {h h' : Heap} {a : Addr} {ty : FieldType} {vs : List Value} {ws : List Addr} (A : OAr Z h a ty vs) (K : Keep h h' ws) (q : a ∉ ws) : OAr Z h' a ty vs := by
  obtain ⟨c, A, e⟩ := A; exact ⟨c, ⟨K.2.1 a c A.1 q, A.2⟩, e⟩
theorem OAr.lt {Z : State} {h : Heap} {a : Addr} {ty : FieldType} {vs : List Value} (A : OAr Z h a ty vs) : a < h.size := by
  obtain ⟨c, A, e⟩ := A; exact A.lt
theorem OAr.set {Z : State} {h h' : Heap} {a : Addr} {ty : FieldType} {vs : List Value} {sl : Nat} {v : Value} (A : OAr Z h a ty vs) (W : Wr h h' a sl v) : OAr Z h' a ty (vs.set sl v) := by
  obtain ⟨c, A, e⟩ := A
  refine ⟨_, A.same W, ?_⟩
  show c.slots.setIfInBounds sl v = _
  rw [e]; simp
theorem own_plE {Z : State} {h : Heap} {a : Addr} {C : String} (E : Exa Z h a C) : ∀ c : Cell, h[a]? = some c → c.vm.isStatics = false := fun c hc => by
  obtain ⟨c', k, h1, -, -, h4, -⟩ := E; cases h1.symm.trans hc; exact h4
theorem own_plV {Z : State} {h : Heap} {a : Addr} {ty : FieldType} {vs : List Value} (A : OAr Z h a ty vs) : ∀ c : Cell, h[a]? = some c → c.vm.isStatics = false := fun c hc => by
  obtain ⟨c', A, -⟩ := A; cases A.1.symm.trans hc; exact A.plain
theorem own_sta_keep {Z : State} {h h' : Heap} {ws : List Addr} {O f d : String} {v : Value} (F : Sta Z h O f d v) (K : Keep h h' ws) (q : ∀ x ∈ ws, ∀ c : Cell, h[x]? = some c → c.vm.isStatics = false) : Sta Z h' O f d v := by
  obtain ⟨cf, i, k, f, st, cell, h1, h2, h3, h4, h5, h6, h7⟩ := F
  refine ⟨cf, i, k, f, st, cell, h1, h2, h3, h4, K.2.1 st cell h5 (fun m => ?_), h6, h7⟩
  have := q st m cell h5
  rw [h6] at this; cases this
theorem own_ins_keep {Z : State} {h h' : Heap} {ws : List Addr} {a : Addr} {C : String} {b : Bool} (F : Ins Z h a C b) (K : Keep h h' ws) : Ins Z h' a C b := by
  obtain ⟨cell, cT, h1, h2, h3⟩ := F
  obtain ⟨c', q, r1, r2, -⟩ := K.2.2 a cell h1
  exact ⟨c', cT, q, h2, by rw [r1, r2]; exact h3⟩
section Own
variable {p : Program} {l : Launch} {e : Env} {R : Room} {s : State} {m : MethodId} {args : Array Value} {below : List Frame} {meth : Method} {c : Code} {T : State} {locs : List Loc} {cells slots : Nat}
  {P : Option Value → State → List Loc → Prop} {Q : Option Value → Heap → List Loc → Prop} {k n : Nat} {Z : State} {a0 : Array Value} {h : Heap} {g : JFrame} {rest : List Value}
theorem own_go {A B : State} (st : ∀ t, Steps p.tables e below B t → Steps p.tables e below A t) (h : OwnWk p e below P B) : OwnWk p e below P A := by
  obtain ⟨s₂, v, L, h1, r⟩ := h; exact ⟨s₂, v, L, st _ h1, r⟩
theorem own_met {y : MethodName} {bytes : ByteArray} {maxL : Nat} {ret : Option FieldType} {ws : List Jvm.Cond} {rm : Room} {as' : Array Value} {h0 : Heap} (hpl : plainFor y = true)
    (body : ∀ (p : Program) (e : Env) (s : State) (m : MethodId) (below : List Frame) (meth : Method) (c : Code) (s₁ : State), p.tables.exec = Jvm.exec → c.code = bytes → c.maxLocals = maxL → s.vm.findClass y.cls = some m.cls → meth.name = y.name → meth.sig.returnType = ret → meth.locks = false → Z.Warmed39 s.vm →
      Stand p l e rm s m as' below meth c s₁ [] 0 0 → s₁.heap = h0 → OwnWk p e below (OwnP s Q rm.cells rm.slots) (s₁.setTop (entryFrame m as' maxL))) : OwnMet l y bytes maxL ret ws rm Z as' h0 Q := by
  refine MetFree.of_bodySF hpl hisR ?_
  intro p e s m args below meth c s₁ Bd hml0 hP hK
  obtain ⟨rfl, hZ, hh⟩ := hP
  obtain ⟨s₂, v, L, h1, h2, h3, h4, h5⟩ := body p e s m below meth c s₁ Bd.exec Bd.bytes hml0 (findClass_of_methodNamed Bd.named) (name_of_methodNamed Bd.named Bd.method).1 Bd.returns (BodyLoose.notSynchronized Bd) hZ (Stand.of_body Bd) (by rw [← hh, Bd.state]; rfl)
  exact ⟨s₂, _, h1, h2, h3, v, L, rfl, h4, h5⟩
theorem own_out0 {A : State} {v : Option Value} (X : Stand p l e R s m args below meth c T locs cells slots) (hlk : meth.locks = false) (hv : meth.sig.returnType = none → v = none)
    (st : ∀ fs, (∀ (f : JFrame) (acts : List Action), f.method = m → f.locked = none → f.entered = [] → (doReturn e (T.setTop f) acts v).1 = T.setFrames fs) → Steps p.tables e below A (T.setFrames fs))
    (hq : ∀ t : State, t.heap = T.heap → FrameEnd s (.returned v) t locs cells slots → P v t locs) : OwnWk p e below P A := by
  obtain ⟨fs, hr, hrun, hended, hW, hsame⟩ := X.leave (v := v) hv hlk
  exact ⟨_, v, locs, st fs hr, hrun, hended, hq _ rfl ⟨⟨v, rfl⟩, hW, hsame⟩⟩
theorem own_out {A : State} {v : Option Value} (X : Stand p l e R s m args below meth c T locs cells slots) (hlk : meth.locks = false) (hv : meth.sig.returnType = none → v = none)
    (st : ∀ fs, (∀ (f : JFrame) (acts : List Action), f.method = m → f.locked = none → f.entered = [] → (doReturn e (T.setTop f) acts v).1 = T.setFrames fs) → Steps p.tables e below A (T.setFrames fs))
    (hc : cells ≤ k) (hs : slots ≤ n) (hq : Q v T.heap locs) : OwnWk p e below (OwnP s Q k n) A :=
  own_out0 X hlk hv st fun t ht hF => ⟨by rw [ht]; exact hq, hF.1, hF.2.1, hF.2.2.mono hc hs⟩
theorem own_retI (X : Stand p l e R s m args below meth c T locs cells slots) (hx : p.tables.exec = Jvm.exec) (hlk : meth.locks = false) (hret : meth.sig.returnType = some .int) {pc : Nat} {Ls : Array Slot} {z : Int32} (hd : decode c.code pc = .ok (.ireturn, 1)) (hc : cells ≤ k) (hs : slots ≤ n)
    (hq : Q (some (.int z)) T.heap locs) : OwnWk p e below (OwnP s Q k n) (T.setTop (mkF m pc Ls (.int z :: rest))) :=
  own_out X hlk (fun q => by rw [hret] at q; cases q) (fun fs hr => retOut X hx hret rfl (Or.inl ⟨rfl, Or.inl rfl, z, rfl⟩) hd hr) hc hs hq
theorem own_retZ (X : Stand p l e R s m args below meth c T locs cells slots) (hx : p.tables.exec = Jvm.exec) (hlk : meth.locks = false) {t : FieldType} (hret : meth.sig.returnType = some t) (ht : t = .boolean ∨ t = .byte ∨ t = .char ∨ t = .short) {pc : Nat} {Ls : Array Slot} {z z' : Int32} (hz : nar t z = z') (hd : decode c.code pc = .ok (.ireturn, 1)) (hc : cells ≤ k) (hs : slots ≤ n)
    (hq : Q (some (.int z')) T.heap locs) : OwnWk p e below (OwnP s Q k n) (T.setTop (mkF m pc Ls (.int z :: rest))) := by
  subst hz
  exact own_out X hlk (fun q => by rw [hret] at q; cases q) (fun fs hr => retN X hx hret ht hd hr) hc hs hq
theorem own_retJ (X : Stand p l e R s m args below meth c T locs cells slots) (hx : p.tables.exec = Jvm.exec) (hlk : meth.locks = false) (hret : meth.sig.returnType = some .long) {pc : Nat} {Ls : Array Slot} {z : Int64} (hd : decode c.code pc = .ok (.lreturn, 1)) (hc : cells ≤ k) (hs : slots ≤ n)
    (hq : Q (some (.long z)) T.heap locs) : OwnWk p e below (OwnP s Q k n) (T.setTop (mkF m pc Ls (.long z :: rest))) :=
  own_out X hlk (fun q => by rw [hret] at q; cases q) (fun fs hr => retOut X hx hret rfl (Or.inr (Or.inl ⟨rfl, rfl, z, rfl⟩)) hd hr) hc hs hq
theorem own_retA (X : Stand p l e R s m args below meth c T locs cells slots) (hx : p.tables.exec = Jvm.exec) (hlk : meth.locks = false) {t : FieldType} (hret : meth.sig.returnType = some t) (ht : t.isReference = true) {pc : Nat} {Ls : Array Slot} {v : Value} (hv : v.isRef = true) (hn : narrow t v = v) (hd : decode c.code pc = .ok (.areturn, 1)) (hc : cells ≤ k) (hs : slots ≤ n)
    (hq : Q (some v) T.heap locs) : OwnWk p e below (OwnP s Q k n) (T.setTop (mkF m pc Ls (v :: rest))) :=
  own_out X hlk (fun q => by rw [hret] at q; cases q) (fun fs hr => retOut X hx hret hn (Or.inr (Or.inr (Or.inr (Or.inr ⟨rfl, ht, hv⟩)))) hd hr) hc hs hq
theorem own_retV (X : Stand p l e R s m args below meth c T locs cells slots) (hx : p.tables.exec = Jvm.exec) (hlk : meth.locks = false) (hret : meth.sig.returnType = none) {pc : Nat} {Ls : Array Slot} (hd : decode c.code pc = .ok (.return_, 1)) (hc : cells ≤ k) (hs : slots ≤ n)
    (hq : Q none T.heap locs) : OwnWk p e below (OwnP s Q k n) (T.setTop (mkF m pc Ls [])) :=
  own_out X hlk (fun _ => rfl) (fun fs hr => X.returnOut hx hret hd hr) hc hs hq
/-! calls by a contract -/
variable {own C : String} {idx cnt : Nat} {y z : MethodName} {bytes : ByteArray} {maxL : Nat} {ret : Option FieldType} {rm : Room} {Q' : Option Value → Heap → List Loc → Prop} {W : Nat} {argsL : List Value} {a b : Addr}
theorem OwnMet.back {len : Nat} {as' : Array Value} (hM : OwnMet l y bytes maxL ret [] rm Z as' h Q') (hZ : Z.Warmed39 s.vm) (wc : (Jvm.Cond.code y bytes maxL ret).before a0 Z = true) (wz : (Jvm.Cond.initialized y.cls).before a0 Z = true) (hf : rm.frames + 1 ≤ R.frames) (hl : W + (maxL + 11) + rm.locals ≤ R.locals) :
    Back l R p e below s args y len W (fun A a => a = as' ∧ A.U.heap = h ∧ A.cells + rm.cells ≤ R.cells ∧ A.slots + rm.slots ≤ R.slots)
      (fun A _ v B => ∃ L, Q' v B.U.heap L ∧ B.locs = A.locs ++ L ∧ B.cells = A.cells + rm.cells ∧ B.slots = A.slots + rm.slots) := backOf (Q := Q') hM hZ wc wz hf hl
theorem own_callS (X : Stand p l e R s m args below meth c T locs cells slots) (hx : p.tables.exec = Jvm.exec) (hZ : Z.Warmed39 s.vm) (hown : s.vm.findClass own = some m.cls)
    (w1 : (Jvm.Cond.methodLink own idx y).before a0 Z = true) (w2 : (Jvm.Cond.static y).before a0 Z = true) (w3 : (Jvm.Cond.initialized y.cls).before a0 Z = true) (w4 : (Jvm.Cond.code y bytes maxL ret).before a0 Z = true)
    (hy : y.cls ≠ "java/lang/invoke/MethodHandle" ∧ y.cls ≠ "java/lang/invoke/VarHandle") (hM : OwnMet l y bytes maxL ret [] rm Z argsL.toArray h Q') (eT : T.heap = h)
    (hf : rm.frames + 1 ≤ R.frames) (hl : W + (maxL + 11) + rm.locals ≤ R.locals) (hc : cells + rm.cells ≤ R.cells) (hs : slots + rm.slots ≤ R.slots)
    (hg : g.method = m) (hsize : g.locals.size = c.maxLocals) (hlen : ∀ sig, parseMethodDescriptor y.desc = some sig → argsL.length = sig.parameters.length) (hstack : g.stack = argsL.reverse ++ rest)
    (hW : 2 * g.monitorRoom + (rest.map fun v => v.category).sum ≤ W) (hd : decode c.code g.pc = .ok (.invokestatic idx, 3))
    (K : ∀ v T' h' L, Stand p l e R s m args below meth c T' (locs ++ L) (cells + rm.cells) (slots + rm.slots) → T'.heap = h' → Q' v h' L → OwnWk p e below P (T'.setTop { g with pc := g.pc + 3, stack := v.toList ++ rest })) :
    OwnWk p e below P (T.setTop g) := by
  obtain ⟨v, vm₁, ⟨T', L', k', n'⟩, -, X', ⟨L, hQ, e1, e2, e3⟩, st⟩ := Jvm.LawKit.callS X hx hown (mvT hZ w1) (mvT hZ w2) (mvT hZ w3) (mvT hZ w4) hy (hM.back hZ w4 w3 hf hl) hg hsize hlen hstack hW hd (fun _ _ => ⟨rfl, eT, hc, hs⟩)
  dsimp only [Pt.U, Pt.locs, Pt.cells, Pt.slots] at X' e1 e2 e3 st hQ
  subst e1 e2 e3
  exact own_go st (K v T' _ L X' rfl hQ)
theorem own_callC (X : Stand p l e R s m args below meth c T locs cells slots) (hx : p.tables.exec = Jvm.exec) (hZ : Z.Warmed39 s.vm) (hown : s.vm.findClass own = some m.cls) (hy1 : y.name = "<init>")
    (w1 : (Jvm.Cond.methodLink own idx y).before a0 Z = true) (w2 : (Jvm.Cond.instanceMethod y).before a0 Z = true) (w3 : (Jvm.Cond.initialized y.cls).before a0 Z = true) (w4 : (Jvm.Cond.code y bytes maxL none).before a0 Z = true)
    (hy : y.cls ≠ "java/lang/invoke/MethodHandle" ∧ y.cls ≠ "java/lang/invoke/VarHandle") (hM : OwnMet l y bytes maxL none [] rm Z (.ref a :: argsL).toArray h Q') (eT : T.heap = h)
    (hf : rm.frames + 1 ≤ R.frames) (hl : W + (maxL + 11) + rm.locals ≤ R.locals) (hc : cells + rm.cells ≤ R.cells) (hs : slots + rm.slots ≤ R.slots)
    (hg : g.method = m) (hsize : g.locals.size = c.maxLocals) (hlen : ∀ sig, parseMethodDescriptor y.desc = some sig → argsL.length = sig.parameters.length) (hstack : g.stack = argsL.reverse ++ .ref a :: rest)
    (hW : 2 * g.monitorRoom + (rest.map fun v => v.category).sum ≤ W) (hd : decode c.code g.pc = .ok (.invokespecial idx, 3))
    (K : ∀ v T' h' L, Stand p l e R s m args below meth c T' (locs ++ L) (cells + rm.cells) (slots + rm.slots) → T'.heap = h' → Q' v h' L → OwnWk p e below P (T'.setTop { g with pc := g.pc + 3, stack := v.toList ++ rest })) :
    OwnWk p e below P (T.setTop g) := by
  obtain ⟨v, vm₁, ⟨T', L', k', n'⟩, -, X', ⟨L, hQ, e1, e2, e3⟩, st⟩ := X.specialBack hx hy1 hown (mvT hZ w1) (mvT hZ w2) (mvT hZ w4) hy (hM.back hZ w4 w3 hf hl) hg hsize (Steps.refl _) hlen hstack hW hd (fun _ _ => ⟨rfl, eT, hc, hs⟩)
  dsimp only [Pt.U, Pt.locs, Pt.cells, Pt.slots] at X' e1 e2 e3 st hQ
  subst e1 e2 e3
  exact own_go (fun t q => st.trans q) (K v T' _ L X' rfl hQ)
theorem own_callV (X : Stand p l e R s m args below meth c T locs cells slots) (hx : p.tables.exec = Jvm.exec) (hZ : Z.Warmed39 s.vm) (hown : s.vm.findClass own = some m.cls)
    (w1 : (Jvm.Cond.methodLink own idx y).before a0 Z = true) (w2 : (Jvm.Cond.declares y).before a0 Z = true) (nf : NotFace s y) (w5 : (Jvm.Cond.selects C y z).before a0 Z = true) (w6 : (Jvm.Cond.instanceMethod z).before a0 Z = true) (w3 : (Jvm.Cond.initialized z.cls).before a0 Z = true) (w4 : (Jvm.Cond.code z bytes maxL ret).before a0 Z = true)
    (hy : y.cls ≠ "java/lang/invoke/MethodHandle" ∧ y.cls ≠ "java/lang/invoke/VarHandle") (E : Exa Z h a C) (hM : OwnMet l z bytes maxL ret [] rm Z (.ref a :: argsL).toArray h Q') (eT : T.heap = h)
    (hf : rm.frames + 1 ≤ R.frames) (hl : W + (maxL + 11) + rm.locals ≤ R.locals) (hc : cells + rm.cells ≤ R.cells) (hs : slots + rm.slots ≤ R.slots)
    (hg : g.method = m) (hsize : g.locals.size = c.maxLocals) (hlen : ∀ sig, parseMethodDescriptor y.desc = some sig → argsL.length = sig.parameters.length) (hstack : g.stack = argsL.reverse ++ .ref a :: rest)
    (hW : 2 * g.monitorRoom + (rest.map fun v => v.category).sum ≤ W) (hd : decode c.code g.pc = .ok (.invokevirtual idx, 3))
    (K : ∀ v T' h' L, Stand p l e R s m args below meth c T' (locs ++ L) (cells + rm.cells) (slots + rm.slots) → T'.heap = h' → Q' v h' L → OwnWk p e below P (T'.setTop { g with pc := g.pc + 3, stack := v.toList ++ rest })) :
    OwnWk p e below P (T.setTop g) := by
  obtain ⟨cq, kq, q1, q2, q3⟩ := isOf hZ eT E
  obtain ⟨v, vm₁, ⟨T', L', k', n'⟩, -, X', ⟨L, hQ, e1, e2, e3⟩, st⟩ := X.virtualBack hx hown (mvT hZ w1) (mvT hZ w2) nf (mvT hZ w5) (mvT hZ w6) hy (hM.back hZ w4 w3 hf hl) q1 q3 hg hsize (Steps.refl _) hlen hstack hW hd (fun _ _ => ⟨rfl, eT, hc, hs⟩)
  dsimp only [Pt.U, Pt.locs, Pt.cells, Pt.slots] at X' e1 e2 e3 st hQ
  subst e1 e2 e3
  exact own_go (fun t q => st.trans q) (K v T' _ L X' rfl hQ)
theorem own_callI (X : Stand p l e R s m args below meth c T locs cells slots) (hx : p.tables.exec = Jvm.exec) (hZ : Z.Warmed39 s.vm) (hown : s.vm.findClass own = some m.cls)
    (w1 : (Jvm.Cond.methodLink own idx y).before a0 Z = true) (w2 : (Jvm.Cond.declares y).before a0 Z = true) (w7 : (Jvm.Cond.interfaceMethod y.cls y.cls y.name y.desc).before args s = true) (w5 : (Jvm.Cond.selects C y z).before a0 Z = true) (w6 : (Jvm.Cond.instanceMethod z).before a0 Z = true)
    (w8 : (Jvm.Cond.publicMethod z).before a0 Z = true) (w9 : (Jvm.Cond.unhidden C y.name y.desc).before a0 Z = true) (w10 : (Jvm.Cond.castable C y.cls).before a0 Z = true) (w3 : (Jvm.Cond.initialized z.cls).before a0 Z = true) (w4 : (Jvm.Cond.code z bytes maxL ret).before a0 Z = true)
    (hy : y.cls ≠ "java/lang/invoke/MethodHandle" ∧ y.cls ≠ "java/lang/invoke/VarHandle") (E : Exa Z h a C) (hM : OwnMet l z bytes maxL ret [] rm Z (.ref a :: argsL).toArray h Q') (eT : T.heap = h)
    (hf : rm.frames + 1 ≤ R.frames) (hl : W + (maxL + 11) + rm.locals ≤ R.locals) (hc : cells + rm.cells ≤ R.cells) (hs : slots + rm.slots ≤ R.slots)
    (hg : g.method = m) (hsize : g.locals.size = c.maxLocals) (hlen : ∀ sig, parseMethodDescriptor y.desc = some sig → argsL.length = sig.parameters.length) (hstack : g.stack = argsL.reverse ++ .ref a :: rest)
    (hW : 2 * g.monitorRoom + (rest.map fun v => v.category).sum ≤ W) (hd : decode c.code g.pc = .ok (.invokeinterface idx cnt, 5))
    (K : ∀ v T' h' L, Stand p l e R s m args below meth c T' (locs ++ L) (cells + rm.cells) (slots + rm.slots) → T'.heap = h' → Q' v h' L → OwnWk p e below P (T'.setTop { g with pc := g.pc + 5, stack := v.toList ++ rest })) :
    OwnWk p e below P (T.setTop g) := by
  obtain ⟨cq, kq, q1, q2, q3⟩ := isOf hZ eT E
  obtain ⟨v, vm₁, ⟨T', L', k', n'⟩, -, X', ⟨L, hQ, e1, e2, e3⟩, st⟩ := X.interfaceBack hx hown (mvT hZ w1) (mvT hZ w2) w7 (mvT hZ w5) (mvT hZ w6) (mvT hZ w8) (mvT hZ w9) (mvT hZ w10) hy (hM.back hZ w4 w3 hf hl) q1 q2 q3 hg hsize (Steps.refl _) hlen hstack hW hd (fun _ _ => ⟨rfl, eT, hc, hs⟩)
  dsimp only [Pt.U, Pt.locs, Pt.cells, Pt.slots] at X' e1 e2 e3 st hQ
  subst e1 e2 e3
  exact own_go (fun t q => st.trans q) (K v T' _ L X' rfl hQ)
theorem own_callP (X : Stand p l e R s m args below meth c T locs cells slots) (hx : p.tables.exec = Jvm.exec) (hZ : Z.Warmed39 s.vm) (hown : s.vm.findClass own = some m.cls)
    (w1 : (Jvm.Cond.methodLink own idx y).before a0 Z = true) (w2 : (Jvm.Cond.instanceMethod y).before a0 Z = true) (w5 : (Jvm.Cond.selects y.cls y y).before a0 Z = true) (w6 : (Jvm.Cond.privateMethod y).before a0 Z = true) (w3 : (Jvm.Cond.initialized y.cls).before a0 Z = true) (w4 : (Jvm.Cond.code y bytes maxL ret).before a0 Z = true)
    (hy : y.cls ≠ "java/lang/invoke/MethodHandle" ∧ y.cls ≠ "java/lang/invoke/VarHandle") (E : Exa Z h a C) (hM : OwnMet l y bytes maxL ret [] rm Z (.ref a :: argsL).toArray h Q') (eT : T.heap = h)
    (hf : rm.frames + 1 ≤ R.frames) (hl : W + (maxL + 11) + rm.locals ≤ R.locals) (hc : cells + rm.cells ≤ R.cells) (hs : slots + rm.slots ≤ R.slots)
    (hg : g.method = m) (hsize : g.locals.size = c.maxLocals) (hlen : ∀ sig, parseMethodDescriptor y.desc = some sig → argsL.length = sig.parameters.length) (hstack : g.stack = argsL.reverse ++ .ref a :: rest)
    (hW : 2 * g.monitorRoom + (rest.map fun v => v.category).sum ≤ W) (hd : decode c.code g.pc = .ok (.invokevirtual idx, 3))
    (K : ∀ v T' h' L, Stand p l e R s m args below meth c T' (locs ++ L) (cells + rm.cells) (slots + rm.slots) → T'.heap = h' → Q' v h' L → OwnWk p e below P (T'.setTop { g with pc := g.pc + 3, stack := v.toList ++ rest })) :
    OwnWk p e below P (T.setTop g) := by
  obtain ⟨cq, q, q'⟩ := E.cell
  obtain ⟨v, vm₁, ⟨T', L', k', n'⟩, -, X', ⟨L, hQ, e1, e2, e3⟩, st⟩ := X.privateBack hx hown (mvT hZ w1) (mvT hZ w2) (mvT hZ w5) (Cond.privateMethod_at (mvP hZ w6 (args := #[]))) (mvT hZ w4) hy (hM.back hZ w4 w3 hf hl) hg hsize (Steps.refl _) (by rw [eT]; exact q) q' hlen hstack hW hd (fun _ _ => ⟨rfl, eT, hc, hs⟩)
  dsimp only [Pt.U, Pt.locs, Pt.cells, Pt.slots] at X' e1 e2 e3 st hQ
  subst e1 e2 e3
  exact own_go (fun t q => st.trans q) (K v T' _ L X' rfl hQ)
/-! arrays by their lists -/
variable {vs : List Value} {ty : FieldType} {j : Int32} {v : Value}
theorem own_in (c : Cell) (e : c.slots = vs.toArray) (h0 : ¬ j < 0) (hj : j.toNatClampNeg < vs.length) : ¬ (j < 0 ∨ c.slots.size ≤ j.toNatClampNeg) := by
  rw [e]; simp only [List.size_toArray]
  rintro (q | q)
  · exact h0 q
  · omega
theorem own_len (X : Stand p l e R s m args below meth c T locs cells slots) (hx : p.tables.exec = Jvm.exec) (hZ : Z.Warmed39 s.vm) (eT : T.heap = h) (A : OAr Z h a ty vs) (hg : g.method = m) (hs : g.stack = .ref a :: rest) (hd : decode c.code g.pc = .ok (.arraylength, 1)) {N : Int32} (hN : vs.length.toInt32 = N)
    (K : OwnWk p e below P (T.setTop { g with pc := g.pc + 1, stack := .int N :: rest })) : OwnWk p e below P (T.setTop g) := by
  obtain ⟨cl, A, ec⟩ := A
  refine own_go (fun t q => X.arraylength hx (by rw [eT]; exact A.1) (State.isArrayOf_alike hZ.alike A.2.1) hg hs hd _ q) ?_
  rw [ec, List.size_toArray, hN]; exact K
theorem own_ldI (X : Stand p l e R s m args below meth c T locs cells slots) (hx : p.tables.exec = Jvm.exec) (hZ : Z.Warmed39 s.vm) (eT : T.heap = h) (A : OAr Z h a .int vs) (hg : g.method = m) (hs : g.stack = .int j :: .ref a :: rest) (hd : decode c.code g.pc = .ok (.iaload, 1)) (h0 : ¬ j < 0) (hj : vs[j.toNatClampNeg]? = some v)
    (K : OwnWk p e below P (T.setTop { g with pc := g.pc + 1, stack := v :: rest })) : OwnWk p e below P (T.setTop g) := by
  obtain ⟨cl, A, ec⟩ := A
  exact own_go (fun t q => X.iaload hx (by rw [eT]; exact A.1) (State.isArrayOf_alike hZ.alike A.2.1) A.2.2 (own_in cl ec h0 (List.getElem?_eq_some_iff.mp hj).1) (by rw [ec]; simpa using hj) hg hs hd _ q) K
theorem own_ldJ (X : Stand p l e R s m args below meth c T locs cells slots) (hx : p.tables.exec = Jvm.exec) (hZ : Z.Warmed39 s.vm) (eT : T.heap = h) (A : OAr Z h a .long vs) (hg : g.method = m) (hs : g.stack = .int j :: .ref a :: rest) (hd : decode c.code g.pc = .ok (.laload, 1)) (h0 : ¬ j < 0) (hj : vs[j.toNatClampNeg]? = some v)
    (K : OwnWk p e below P (T.setTop { g with pc := g.pc + 1, stack := v :: rest })) : OwnWk p e below P (T.setTop g) := by
  obtain ⟨cl, A, ec⟩ := A
  exact own_go (fun t q => X.laload hx (by rw [eT]; exact A.1) (State.isArrayOf_alike hZ.alike A.2.1) A.2.2 (own_in cl ec h0 (List.getElem?_eq_some_iff.mp hj).1) (by rw [ec]; simpa using hj) hg hs hd _ q) K
theorem own_ldA (X : Stand p l e R s m args below meth c T locs cells slots) (hx : p.tables.exec = Jvm.exec) (hZ : Z.Warmed39 s.vm) (eT : T.heap = h) (A : OAr Z h a ty vs) (hty : ty.isReference = true) (hg : g.method = m) (hs : g.stack = .int j :: .ref a :: rest) (hd : decode c.code g.pc = .ok (.aaload, 1)) (h0 : ¬ j < 0) (hj : vs[j.toNatClampNeg]? = some v)
    (K : OwnWk p e below P (T.setTop { g with pc := g.pc + 1, stack := v :: rest })) : OwnWk p e below P (T.setTop g) := by
  obtain ⟨cl, A, ec⟩ := A
  exact own_go (fun t q => X.aaload hx (by rw [eT]; exact A.1) (State.isArrayOf_alike hZ.alike A.2.1) hty A.2.2 (own_in cl ec h0 (List.getElem?_eq_some_iff.mp hj).1) (by rw [ec]; simpa using hj) hg hs hd _ q) K
theorem own_stI (X : Stand p l e R s m args below meth c T locs cells slots) (hx : p.tables.exec = Jvm.exec) (hZ : Z.Warmed39 s.vm) (eT : T.heap = h) (A : OAr Z h a .int vs) {x : Int32} (hg : g.method = m) (hs : g.stack = .int x :: .int j :: .ref a :: rest) (hd : decode c.code g.pc = .ok (.iastore, 1)) (h0 : ¬ j < 0) (hj : j.toNatClampNeg < vs.length)
    (K : ∀ T' h', Stand p l e R s m args below meth c T' (locs ++ [⟨a, j.toNatClampNeg⟩]) cells slots → T'.heap = h' → Wr h h' a j.toNatClampNeg (.int x) → OAr Z h' a .int (vs.set j.toNatClampNeg (.int x)) → OwnWk p e below P (T'.setTop { g with pc := g.pc + 1, stack := rest })) : OwnWk p e below P (T.setTop g) := by
  obtain ⟨cl, A', ec⟩ := A
  obtain ⟨T', h', X', e', W', st⟩ := stI X hx hZ eT A' (j := j) (own_in cl ec h0 hj) hg hs hd
  exact own_go st (K T' h' X' e' W' (OAr.set ⟨cl, A', ec⟩ W'))
theorem own_stJ (X : Stand p l e R s m args below meth c T locs cells slots) (hx : p.tables.exec = Jvm.exec) (hZ : Z.Warmed39 s.vm) (eT : T.heap = h) (A : OAr Z h a .long vs) {x : Int64} (hg : g.method = m) (hs : g.stack = .long x :: .int j :: .ref a :: rest) (hd : decode c.code g.pc = .ok (.lastore, 1)) (h0 : ¬ j < 0) (hj : j.toNatClampNeg < vs.length)
    (K : ∀ T' h', Stand p l e R s m args below meth c T' (locs ++ [⟨a, j.toNatClampNeg⟩]) cells slots → T'.heap = h' → Wr h h' a j.toNatClampNeg (.long x) → OAr Z h' a .long (vs.set j.toNatClampNeg (.long x)) → OwnWk p e below P (T'.setTop { g with pc := g.pc + 1, stack := rest })) : OwnWk p e below P (T.setTop g) := by
  obtain ⟨cl, A', ec⟩ := A
  obtain ⟨T', h', X', e', W', st⟩ := stJ X hx hZ eT A' (j := j) (own_in cl ec h0 hj) hg hs hd
  exact own_go st (K T' h' X' e' W' (OAr.set ⟨cl, A', ec⟩ W'))
theorem own_newP {aty : ArrayType} (X : Stand p l e R s m args below meth c T locs cells slots) (hx : p.tables.exec = Jvm.exec) (hZ : Z.Warmed39 s.vm) (w : (Jvm.Cond.arrayClass (newarray.typeOf aty)).before a0 Z = true) (eT : T.heap = h) (hg : g.method = m) (hd : decode c.code g.pc = .ok (.newarray aty, 2)) {N : Int32} (hs : g.stack = .int N :: rest)
    (hn : ¬ N < 0) {cap : Nat} (hcap : N.toNatClampNeg ≤ cap) (hb : cap * 8 ≤ 536870912) (hc : cells + 1 ≤ R.cells) (hl : slots + cap ≤ R.slots)
    (K : ∀ T' h' b, Stand p l e R s m args below meth c T' locs (cells + 1) (slots + cap) → T'.heap = h' → b = h.size → Ext h h' → OAr Z h' b (newarray.typeOf aty) (List.replicate N.toNatClampNeg (defaultValue (newarray.typeOf aty))) → OwnWk p e below P (T'.setTop { g with pc := g.pc + 2, stack := .ref b :: rest })) : OwnWk p e below P (T.setTop g) := by
  obtain ⟨T', h', cA, X', e', E', A', st⟩ := newP X hx hZ w eT hg hd hs hn hcap hb hc hl
  exact own_go st (K T' h' _ X' e' rfl E' ⟨_, A', by simp [newA]⟩)
theorem own_newPE {aty : ArrayType} {ad : String} (X : Stand p l e R s m args below meth c T locs cells slots) (hx : p.tables.exec = Jvm.exec) (hZ : Z.Warmed39 s.vm) (w : (Jvm.Cond.arrayClass (newarray.typeOf aty)).before a0 Z = true) (eT : T.heap = h) (hg : g.method = m) (hd : decode c.code g.pc = .ok (.newarray aty, 2)) {N : Int32} (hs : g.stack = .int N :: rest)
    (hn : ¬ N < 0) {cap : Nat} (hcap : N.toNatClampNeg ≤ cap) (hb : cap * 8 ≤ 536870912) (hc : cells + 1 ≤ R.cells) (hl : slots + cap ≤ R.slots) (had : "[" ++ (newarray.typeOf aty).toString = ad)
    (K : ∀ T' h' b, Stand p l e R s m args below meth c T' locs (cells + 1) (slots + cap) → T'.heap = h' → b = h.size → Ext h h' → OAr Z h' b (newarray.typeOf aty) (List.replicate N.toNatClampNeg (defaultValue (newarray.typeOf aty))) → Exa Z h' b ad → OwnWk p e below P (T'.setTop { g with pc := g.pc + 2, stack := .ref b :: rest })) : OwnWk p e below P (T.setTop g) := by
  obtain ⟨T', h', cA, X', e', E', A', Ex, st⟩ := newPE X hx hZ w eT hg hd hs hn hcap hb hc hl had
  exact own_go st (K T' h' _ X' e' rfl E' ⟨_, A', by simp [newA]⟩ Ex)
theorem own_clone {ad : String} (X : Stand p l e R s m args below meth c T locs cells slots) (hx : p.tables.exec = Jvm.exec) (hZ : Z.Warmed39 s.vm) (hown : s.vm.findClass own = some m.cls)
    (w1 : (Jvm.Cond.methodLink own idx ⟨ad, "clone", "()Ljava/lang/Object;"⟩).before a0 Z = true) (w2 : (Jvm.Cond.sameMethod ad "java/lang/Object" "clone" "()Ljava/lang/Object;").before a0 Z = true) (w3 : (Jvm.Cond.native ⟨"java/lang/Object", "clone", "()Ljava/lang/Object;"⟩).before a0 Z = true)
    (w4 : (Jvm.Cond.instanceMethod ⟨"java/lang/Object", "clone", "()Ljava/lang/Object;"⟩).before a0 Z = true) (w5 : (Jvm.Cond.selects ad ⟨ad, "clone", "()Ljava/lang/Object;"⟩ ⟨"java/lang/Object", "clone", "()Ljava/lang/Object;"⟩).before a0 Z = true) (w6 : (Jvm.Cond.castable ad "java/lang/Cloneable").before a0 Z = true)
    (eT : T.heap = h) (A : OAr Z h a ty vs) (E : Exa Z h a ad) (F : ∀ v ∈ vs, fits ty v = true) (hg : g.method = m) (hsize : g.locals.size = c.maxLocals) (hs : g.stack = .ref a :: rest) (hd : decode c.code g.pc = .ok (.invokevirtual idx, 3))
    (hf : 1 ≤ R.frames) {cap : Nat} (hW : 2 * g.monitorRoom + (rest.map fun v => v.category).sum ≤ W) (hl : W + 14 ≤ R.locals) (hcap : vs.length ≤ cap) (hc : cells + 1 ≤ R.cells) (hsl : slots + cap ≤ R.slots)
    (K : ∀ T' h' b, Stand p l e R s m args below meth c T' locs (cells + 1) (slots + cap) → T'.heap = h' → b = h.size → Ext h h' → OAr Z h' b ty vs → Exa Z h' b ad → OwnWk p e below P (T'.setTop { g with pc := g.pc + 3, stack := .ref b :: rest })) : OwnWk p e below P (T.setTop g) := by
  obtain ⟨cl, A, ec⟩ := A
  have FC : FitC Z cl := fitC_of A fun i hi v hv => by
    rw [ec] at hv
    exact F v (List.mem_of_getElem? (by simpa using hv))
  obtain ⟨T', h', X', e', E', A', Ex, st⟩ := cloneA X hx hZ hown w1 w2 w3 w4 w5 w6 eT A E FC hg hsize hs hd hf hW hl (by rw [ec]; simpa using hcap) hc hsl
  exact own_go st (K T' h' _ X' e' rfl E' ⟨_, A', ec⟩ Ex)
end Own
/-! comparisons of longs -/
theorem own_tri (x y : Int64) : x < y ∨ x = y ∨ y < x := by
  rcases Int.lt_trichotomy x.toInt y.toInt with h | h | h
  · exact Or.inl (Int64.lt_iff_toInt_lt.mpr h)
  · exact Or.inr (Or.inl (Int64.toInt_inj.mp h))
  · exact Or.inr (Or.inr (Int64.lt_iff_toInt_lt.mpr h))
theorem own_lc_lt {x y : Int64} : (lcmpW x y < 0) ↔ x < y := by
  unfold lcmpW
  rcases own_tri x y with h | h | h
  · have h1 : ¬ x > y := Int64.lt_asymm h
    have h2 : ¬ x = y := Int64.ne_of_lt h
    simp [h1, h2, h]
  · subst h; simp
  · have h1 : ¬ x < y := Int64.lt_asymm h
    simp [h, h1]
theorem own_lc_gt {x y : Int64} : (0 < lcmpW x y) ↔ y < x := by
  unfold lcmpW
  rcases own_tri x y with h | h | h
  · have h1 : ¬ x > y := Int64.lt_asymm h
    have h2 : ¬ x = y := Int64.ne_of_lt h
    have h3 : ¬ y < x := h1
    simp [h1, h2, h3]
  · subst h; simp
  · simp [h]
theorem own_lc_eq {x y : Int64} : (lcmpW x y = 0) ↔ x = y := by
  unfold lcmpW
  rcases own_tri x y with h | h | h
  · have h1 : ¬ x > y := Int64.lt_asymm h
    have h2 : ¬ x = y := Int64.ne_of_lt h
    simp [h1, h2]
  · subst h; simp
  · have h2 : ¬ x = y := (Int64.ne_of_lt h).symm
    simp [h, h2]
theorem own_n_int {i : Nat} (h : i < 2 ^ 31) : (Int32.ofNat i).toInt = (i : Int) := by
  rw [Int32.toInt_ofNat']
  simp only [Int32.size, Int.bmod]
  omega
theorem own_n_nat {i : Nat} (h : i < 2 ^ 31) : (Int32.ofNat i).toNatClampNeg = i := by
  simp only [Int32.toNatClampNeg, own_n_int h]; omega
theorem own_n_nn {i : Nat} (h : i < 2 ^ 31) : ¬ Int32.ofNat i < 0 := by
  rw [Int32.lt_iff_toInt_lt, own_n_int h]; have : (0 : Int32).toInt = 0 := rfl
  omega
theorem own_n_lt {i j : Nat} (hi : i < 2 ^ 31) (hj : j < 2 ^ 31) : Int32.ofNat i < Int32.ofNat j ↔ i < j := by
  rw [Int32.lt_iff_toInt_lt, own_n_int hi, own_n_int hj]; omega
theorem own_n_succ {i : Nat} : Int32.ofNat i + (1 : Int32) = Int32.ofNat (i + 1) := by
  rw [Int32.ofNat_add]; rfl
theorem own_n_len (xs : List Int32) : (xs.map Value.int).length.toInt32 = Int32.ofNat xs.length := by rw [List.length_map]
theorem own_n_at {xs : List Int32} {i : Nat} {x : Int32} (h : i < 2 ^ 31) (hx : xs[i]? = some x) : (xs.map Value.int)[(Int32.ofNat i).toNatClampNeg]? = some (.int x) := by
  rw [own_n_nat h, List.getElem?_map, hx]; rfl
theorem own_drop {α : Type} {xs : List α} {i : Nat} {x : α} (h : xs[i]? = some x) : xs.drop i = x :: xs.drop (i + 1) := by
  obtain ⟨hi, rfl⟩ := List.getElem?_eq_some_iff.mp h
  exact List.drop_eq_getElem_cons hi
theorem own_get {α : Type} {xs : List α} {i : Nat} (h : i < xs.length) : ∃ x, xs[i]? = some x := ⟨xs[i], List.getElem?_eq_getElem h⟩
def own_iv (ns : List Nat) : List Value := ns.map fun n => .int (Int32.ofNat n)
theorem own_getD {α : Type} {xs : List α} {i : Nat} {d : α} (h : i < xs.length) : xs[i]? = some (xs.getD i d) := by
  rw [List.getD_eq_getElem?_getD, List.getElem?_eq_getElem h]; rfl
theorem own_and_nat (u : Int32) (k : Nat) (hk : k < 2 ^ 31) : ∃ n, n ≤ k ∧ (u &&& Int32.ofNat k) = Int32.ofNat n := by
  obtain ⟨n, hn⟩ : ∃ n, n = (u &&& Int32.ofNat k).toBitVec.toNat := ⟨_, rfl⟩
  have h0 : n ≤ k := by
    rw [hn, Int32.toBitVec_and, BitVec.toNat_and]
    refine Nat.le_trans Nat.and_le_right ?_
    show (BitVec.ofNat 32 k).toNat ≤ k
    simp; omega
  refine ⟨n, h0, ?_⟩
  apply Int32.toBitVec_inj.mp; apply BitVec.eq_of_toNat_eq; rw [← hn]
  show n = (BitVec.ofNat 32 n).toNat
  simp; omega
theorem own_rem_nat {n k : Nat} (hn : n < 2 ^ 31) (hk : 0 < k) (hk2 : k < 2 ^ 31) : Int32.ofNat n % Int32.ofNat k = Int32.ofNat (n % k) := by
  apply Int32.toInt_inj.mp
  have := Nat.mod_lt n hk
  rw [Int32.toInt_mod, own_n_int hn, own_n_int hk2, own_n_int (by omega), Int.tmod_eq_emod_of_nonneg (by omega)]
  norm_cast
theorem own_draw (u : Int32) (k m : Nat) (hk : k < 2 ^ 31) (hm : 0 < m) (hm2 : m < 2 ^ 31) : ∃ n, n < m ∧ (u &&& Int32.ofNat k) % Int32.ofNat m = Int32.ofNat n := by
  obtain ⟨n, h1, h2⟩ := own_and_nat u k hk
  exact ⟨n % m, Nat.mod_lt n hm, by rw [h2, own_rem_nat (by omega) hm hm2]⟩
theorem own_cast {Z : State} {h : Heap} {a : Addr} {ty : FieldType} {vs ws : List Value} (e : vs = ws) (V : OAr Z h a ty vs) : OAr Z h a ty ws := e ▸ V
section OwnFl
open Jvm.FP Jvm.FP.Core
/-- the datum of n * 2^E, n from 1 to 2^53 -/
theorem own_nf {n : Nat} (h0 : 0 < n) (h : n ≤ 2 ^ 53) : ∃ c k : Nat, 2 ^ 52 ≤ c ∧ c < 2 ^ 53 ∧ k ≤ 53 ∧ c * 2 ^ k = n * 2 ^ 52 := by
  by_cases e : n = 2 ^ 53
  · exact ⟨2 ^ 52, 53, Nat.le_refl _, by decide, Nat.le_refl _, by rw [e, Nat.mul_comm]⟩
  · have l1 : 2 ^ n.log2 ≤ n := Nat.log2_self_le (by omega)
    have l2 : n < 2 ^ (n.log2 + 1) := Nat.lt_log2_self
    have l3 : n.log2 < 53 := (Nat.pow_lt_pow_iff_right (by decide : 1 < 2)).mp (Nat.lt_of_le_of_lt l1 (by omega))
    generalize n.log2 = L at l1 l2 l3
    refine ⟨n * 2 ^ (52 - L), L, ?_, ?_, by omega, ?_⟩
    · calc 2 ^ 52 = 2 ^ L * 2 ^ (52 - L) := by rw [← Nat.pow_add]; congr 1; omega
        _ ≤ n * 2 ^ (52 - L) := Nat.mul_le_mul_right _ l1
    · calc n * 2 ^ (52 - L) < 2 ^ (L + 1) * 2 ^ (52 - L) := Nat.mul_lt_mul_of_pos_right l2 (Nat.two_pow_pos _)
        _ = 2 ^ 53 := by rw [← Nat.pow_add]; congr 1; omega
    · rw [Nat.mul_assoc, ← Nat.pow_add]; congr 2; omega
theorem own_fits {c k : Nat} {E : Int} (h1 : 2 ^ 52 ≤ c) (h2 : c < 2 ^ 53) (h3 : k ≤ 53) (e1 : -200 ≤ E) (e2 : E ≤ 200) : Jvm.FP.Core.fits b64 (Datum.fin false c ((k : Int) - 52 + E)) := by
  have q1 : b64.qmin = -1074 := by decide
  have q2 : b64.qmax = 971 := by decide
  have q3 : b64.tails = 2 ^ 52 := rfl
  refine ⟨h2, ?_, ?_, Or.inr (by rw [q3]; exact h1)⟩
  · rw [q1]; omega
  · rw [q2]; omega
/-- the key equation: c * 2^k = n * 2^52, seen from q = k - 52 + E -/
theorem own_feq {n c k : Nat} {E : Nat} (h : c * 2 ^ k = n * 2 ^ 52) : (n * 2 ^ E) * 2 ^ (0 - ((k : Int) - 52 + E)).toNat = c * 1 * 2 ^ (((k : Int) - 52 + E) - 0).toNat := by
  by_cases q : 52 ≤ k + E
  · rw [show (0 - ((k : Int) - 52 + E)).toNat = 0 by omega, show (((k : Int) - 52 + E) - 0).toNat = k + E - 52 by omega]
    apply Nat.eq_of_mul_eq_mul_right (Nat.two_pow_pos 52)
    calc n * 2 ^ E * 2 ^ 0 * 2 ^ 52 = (n * 2 ^ 52) * 2 ^ E := by rw [Nat.pow_zero, Nat.mul_one]; exact Nat.mul_right_comm _ _ _
      _ = c * 2 ^ k * 2 ^ E := by rw [h]
      _ = c * 1 * 2 ^ (k + E - 52) * 2 ^ 52 := by rw [Nat.mul_one, Nat.mul_assoc, Nat.mul_assoc, ← Nat.pow_add, ← Nat.pow_add]; congr 2; omega
  · rw [show (0 - ((k : Int) - 52 + E)).toNat = 52 - k - E by omega, show (((k : Int) - 52 + E) - 0).toNat = 0 by omega]
    apply Nat.eq_of_mul_eq_mul_right (Nat.two_pow_pos k)
    calc n * 2 ^ E * 2 ^ (52 - k - E) * 2 ^ k = n * 2 ^ 52 := by rw [Nat.mul_assoc, Nat.mul_assoc, ← Nat.pow_add, ← Nat.pow_add]; congr 2; omega
      _ = c * 1 * 2 ^ 0 * 2 ^ k := by rw [show c * 1 * 2 ^ 0 = c by omega, h]
theorem own_l2d {a : Int64} {n c k E : Nat} (ha : a.toInt = ((n * 2 ^ E : Nat) : Int)) (h1 : 2 ^ 52 ≤ c) (h2 : c < 2 ^ 53) (h3 : k ≤ 53) (hE : E ≤ 100) (h : c * 2 ^ k = n * 2 ^ 52) : val64 (FP.l2d a) = .fin false c ((k : Int) - 52 + E) := by
  show val64 (Core.l2d a) = _
  rw [val64_l2d, ha]
  show roundRatio b64 (decide (((n * 2 ^ E : Nat) : Int) < 0)) (((n * 2 ^ E : Nat) : Int)).natAbs 1 0 = _
  rw [show decide (((n * 2 ^ E : Nat) : Int) < 0) = false from decide_eq_false (by omega), Int.natAbs_natCast]
  exact roundRatio_exact good_b64 (by decide) (own_fits (E := (E : Int)) h1 h2 h3 (by omega) (by omega)) (own_feq h)
theorem own_dmul {x y : UInt64} {c k e : Nat} (h1 : 2 ^ 52 ≤ c) (h2 : c < 2 ^ 53) (h3 : k ≤ 53) (he : e ≤ 100) (hx : val64 x = .fin false c ((k : Int) - 52 + (0 : Nat))) (hy : val64 y = .fin false (2 ^ 52) ((0 : Nat) - 52 + (e : Int))) :
    val64 (FP.dmul x y) = .fin false c ((k : Int) - 52 + e) := by
  show val64 (Core.dmul x y) = _
  rw [val64_dmul, hx, hy]
  show roundRatio b64 false (c * 2 ^ 52) 1 _ = _
  refine roundRatio_exact good_b64 (by decide) (own_fits (E := (e : Int)) h1 h2 h3 (by omega) (by omega)) ?_
  rw [show (((k : Int) - 52 + (0 : Nat)) + ((0 : Nat) - 52 + (e : Int)) - ((k : Int) - 52 + e)).toNat = 0 by omega, show (((k : Int) - 52 + e) - (((k : Int) - 52 + (0 : Nat)) + ((0 : Nat) - 52 + (e : Int)))).toNat = 52 by omega]
  rw [Nat.pow_zero, Nat.mul_one, Nat.mul_one]
theorem own_ddiv {x y : UInt64} {c k e : Nat} (h1 : 2 ^ 52 ≤ c) (h2 : c < 2 ^ 53) (h3 : k ≤ 53) (he : e ≤ 100) (hx : val64 x = .fin false c ((k : Int) - 52 + (0 : Nat))) (hy : val64 y = .fin false (2 ^ 52) ((0 : Nat) - 52 + (e : Int))) :
    val64 (FP.ddiv x y) = .fin false c ((k : Int) - 52 + (-(e : Int))) := by
  show val64 (Core.ddiv x y) = _
  rw [val64_ddiv, hx, hy]
  rw [show quotient b64 (.fin false c ((k : Int) - 52 + (0 : Nat))) (.fin false (2 ^ 52) ((0 : Nat) - 52 + (e : Int))) = roundRatio b64 false c (2 ^ 52) (((k : Int) - 52 + (0 : Nat)) - ((0 : Nat) - 52 + (e : Int))) from by
    show (if (2 ^ 52 : Nat) = 0 then (if c = 0 then Datum.nan else .inf (false != false)) else roundRatio b64 (false != false) c (2 ^ 52) _) = _
    exact if_neg (by decide)]
  refine roundRatio_exact good_b64 (by decide) (own_fits (E := -(e : Int)) h1 h2 h3 (by omega) (by omega)) ?_
  rw [show (((k : Int) - 52 + (0 : Nat)) - ((0 : Nat) - 52 + (e : Int)) - ((k : Int) - 52 + (-(e : Int)))).toNat = 52 by omega, show (((k : Int) - 52 + (-(e : Int))) - (((k : Int) - 52 + (0 : Nat)) - ((0 : Nat) - 52 + (e : Int)))).toNat = 0 by omega]
  rw [Nat.pow_zero, Nat.mul_one]
theorem own_whole {n c k E : Nat} (h : c * 2 ^ k = n * 2 ^ 52) : Whole ((n * 2 ^ E : Nat) : Int) (.fin false c ((k : Int) - 52 + E)) := by
  show ((c * 2 ^ ((k : Int) - 52 + E).toNat : Nat) : Int) = _
  have q := own_feq (E := E) h
  rw [Nat.mul_one, show (0 - ((k : Int) - 52 + E)).toNat = (-((k : Int) - 52 + E)).toNat by omega, show (((k : Int) - 52 + E) - 0).toNat = ((k : Int) - 52 + E).toNat by omega] at q
  rw [← q]; norm_cast
theorem own_bigv : val64 (4886405595696988160 : UInt64) = .fin false (2 ^ 52) 10 := by decide +kernel
theorem own_big : DInt (4611686018427387904 : Int) (4886405595696988160 : UInt64) := by
  show Whole _ (val64 _)
  rw [own_bigv]
  show signed false (2 ^ 52 * 2 ^ (10 : Int).toNat) = 4611686018427387904 * ((2 ^ (-(10 : Int)).toNat : Nat) : Int)
  decide +kernel
theorem own_nn {x : UInt64} {c : Nat} {q : Int} (h : val64 x = .fin false c q) : Jvm.Free.Fl.NoNaN64 x := by
  rw [Jvm.Free.Fl.val64_no, h]; exact fun z => nomatch z
end OwnFl
def own_wr (x : UInt64) : Int64 := if 0 < cmpValue (FP.dcmp x 4886405595696988160) .g then 0 else if cmpValue (FP.dcmp (FP.l2d (FP.d2l x)) x) .l = 0 then FP.d2l x else 0
section OwnFl2
open Jvm.FP Jvm.FP.Core
theorem own_cmp (i j : Int) : cmpValue (some (compare i j)) .g = (if i < j then -1 else if i = j then 0 else 1) ∧ cmpValue (some (compare i j)) .l = (if i < j then -1 else if i = j then 0 else 1) := by
  simp only [compare, compareOfLessAndEq]
  by_cases h : i < j
  · simp [h]; exact ⟨rfl, rfl⟩
  · by_cases h2 : i = j
    · simp [h, h2]; exact ⟨rfl, rfl⟩
    · simp [h, h2]; exact ⟨rfl, rfl⟩
theorem own_two {b : Int64} {e : Nat} (he : e ≤ 62) (hb : b.toInt = ((2 ^ e : Nat) : Int)) : val64 (FP.l2d b) = .fin false (2 ^ 52) ((0 : Nat) - 52 + (e : Int)) :=
  own_l2d (n := 1) (c := 2 ^ 52) (k := 0) (E := e) (by rw [Nat.one_mul]; exact hb) (Nat.le_refl _) (by decide) (by decide) (by omega) (by decide)
theorem own_A {n E : Nat} (h0 : 0 < n) (hn : n ≤ 2 ^ 53) (hE : E ≤ 62) {a b : Int64} (ha : a.toInt = (n : Int)) (hb : b.toInt = ((2 ^ E : Nat) : Int)) :
    Jvm.Free.Fl.NoNaN64 (FP.dmul (FP.l2d a) (FP.l2d b)) ∧ own_wr (FP.dmul (FP.l2d a) (FP.l2d b)) = if n * 2 ^ E ≤ 2 ^ 62 then Int64.ofNat (n * 2 ^ E) else 0 := by
  obtain ⟨c, k, h1, h2, h3, h4⟩ := own_nf h0 hn
  have vx := own_l2d (a := a) (n := n) (E := 0) (by rw [ha]; simp) h1 h2 h3 (by decide) h4
  have vr := own_dmul h1 h2 h3 (by omega) vx (own_two hE hb)
  refine ⟨own_nn vr, ?_⟩
  generalize FP.dmul (FP.l2d a) (FP.l2d b) = r at vr
  have D : DInt ((n * 2 ^ E : Nat) : Int) r := by
    show Whole _ (val64 r)
    rw [vr]; exact own_whole h4
  have c1 : FP.dcmp r 4886405595696988160 = some (compare ((n * 2 ^ E : Nat) : Int) 4611686018427387904) := dcmp_int D own_big
  unfold own_wr
  rw [c1, (own_cmp _ _).1]
  by_cases g : n * 2 ^ E ≤ 2 ^ 62
  · rw [if_pos g]
    have q : (Int64.ofNat (n * 2 ^ E)).toInt = ((n * 2 ^ E : Nat) : Int) := by
      generalize n * 2 ^ E = N at g
      rw [Int64.toInt_ofNat']
      apply Int.bmod_eq_of_le <;> simp only [Int64.size] <;> omega
    have dl : FP.d2l r = Int64.ofNat (n * 2 ^ E) := d2l_int (by rw [q]; exact D)
    have vl : val64 (FP.l2d (Int64.ofNat (n * 2 ^ E))) = .fin false c ((k : Int) - 52 + E) := own_l2d q h1 h2 h3 (by omega) h4
    have D2 : DInt ((n * 2 ^ E : Nat) : Int) (FP.l2d (Int64.ofNat (n * 2 ^ E))) := by
      show Whole _ (val64 _)
      rw [vl]; exact own_whole h4
    have c2 : FP.dcmp (FP.l2d (Int64.ofNat (n * 2 ^ E))) r = some (compare ((n * 2 ^ E : Nat) : Int) ((n * 2 ^ E : Nat) : Int)) := dcmp_int D2 D
    rw [dl, c2, (own_cmp _ _).2]
    have nl : ¬ (0 : Int32) < (if ((n * 2 ^ E : Nat) : Int) < 4611686018427387904 then -1 else if ((n * 2 ^ E : Nat) : Int) = 4611686018427387904 then 0 else 1) := by
      split
      · decide
      · split
        · decide
        · omega
    rw [if_neg nl]
    simp
  · rw [if_neg g]
    have : ¬ ((n * 2 ^ E : Nat) : Int) < 4611686018427387904 := by omega
    have t2 : ¬ ((n * 2 ^ E : Nat) : Int) = 4611686018427387904 := by omega
    rw [if_neg this, if_neg t2, if_pos (by decide)]
end OwnFl2
section OwnFl3
open Jvm.FP Jvm.FP.Core
theorem own_B {n K : Nat} (h0 : 0 < n) (hn : n ≤ 2 ^ 53) (hK : 1 ≤ K) (hK2 : K ≤ 32) {a b : Int64} (ha : a.toInt = (n : Int)) (hb : b.toInt = ((2 ^ K : Nat) : Int)) :
    Jvm.Free.Fl.NoNaN64 (FP.ddiv (FP.l2d a) (FP.l2d b)) ∧ own_wr (FP.ddiv (FP.l2d a) (FP.l2d b)) = if n % 2 ^ K = 0 then Int64.ofNat (n / 2 ^ K) else 0 := by
  obtain ⟨c, k, h1, h2, h3, h4⟩ := own_nf h0 hn
  have vx := own_l2d (a := a) (n := n) (E := 0) (by rw [ha]; simp) h1 h2 h3 (by decide) h4
  have vr := own_ddiv h1 h2 h3 (by omega) vx (own_two (by omega) hb)
  refine ⟨own_nn vr, ?_⟩
  generalize FP.ddiv (FP.l2d a) (FP.l2d b) = r at vr
  have c1 : FP.dcmp r 4886405595696988160 = some (compare (c : Int) ((2 ^ 52 * 2 ^ (10 - ((k : Int) - 52 + -(K : Int))).toNat : Nat) : Int)) := by
    show order (val64 r) (val64 4886405595696988160) = _
    rw [vr, own_bigv]
    show some (compare (signed false (c * 2 ^ (((k : Int) - 52 + -(K : Int)) - min ((k : Int) - 52 + -(K : Int)) 10).toNat)) (signed false (2 ^ 52 * 2 ^ (10 - min ((k : Int) - 52 + -(K : Int)) 10).toNat))) = _
    rw [show min ((k : Int) - 52 + -(K : Int)) 10 = ((k : Int) - 52 + -(K : Int)) by omega, Int.sub_self]
    rw [show (0 : Int).toNat = 0 from rfl, Nat.pow_zero, Nat.mul_one]
    rfl
  have lt1 : (c : Int) < ((2 ^ 52 * 2 ^ (10 - ((k : Int) - 52 + -(K : Int))).toNat : Nat) : Int) := by
    have : 2 ^ 1 ≤ 2 ^ (10 - ((k : Int) - 52 + -(K : Int))).toNat := Nat.pow_le_pow_right (by decide) (by omega)
    have : 2 ^ 52 * 2 ^ 1 ≤ 2 ^ 52 * 2 ^ (10 - ((k : Int) - 52 + -(K : Int))).toNat := Nat.mul_le_mul_left _ this
    omega
  have hT : c / 2 ^ (52 + K - k) = n / 2 ^ K := by
    rw [← Nat.mul_div_mul_right c (2 ^ (52 + K - k)) (Nat.two_pow_pos k), h4, ← Nat.pow_add, show 52 + K - k + k = K + 52 by omega, Nat.pow_add, Nat.mul_div_mul_right _ _ (Nat.two_pow_pos 52)]
  obtain ⟨T, eT⟩ : ∃ T, T = n / 2 ^ K := ⟨_, rfl⟩
  have lT : T ≤ n := by rw [eT]; exact Nat.div_le_self _ _
  have q : (Int64.ofNat T).toInt = (T : Int) := by
    rw [Int64.toInt_ofNat']
    apply Int.bmod_eq_of_le <;> simp only [Int64.size] <;> omega
  have dl : FP.d2l r = Int64.ofNat T := by
    show Int64.ofInt (toInt (-2 ^ 63) (2 ^ 63 - 1) (val64 r)) = _
    rw [vr]
    show Int64.ofInt (max (-2 ^ 63) (min (2 ^ 63 - 1) (((c * 2 ^ ((k : Int) - 52 + -(K : Int)).toNat / 2 ^ (-((k : Int) - 52 + -(K : Int))).toNat : Nat) : Int)))) = _
    rw [show ((k : Int) - 52 + -(K : Int)).toNat = 0 by omega, show (-((k : Int) - 52 + -(K : Int))).toNat = 52 + K - k by omega, Nat.pow_zero, Nat.mul_one, hT, ← eT]
    apply Int64.toInt_inj.mp
    rw [q, show max (-2 ^ 63 : Int) (min (2 ^ 63 - 1) (T : Int)) = (T : Int) by omega, Int64.toInt_ofInt]
    apply Int.bmod_eq_of_le <;> simp only [Int64.size] <;> omega
  have D2 : DInt (T : Int) (FP.l2d (Int64.ofNat T)) := by
    have := l2d_int (a := Int64.ofNat T) (by rw [q]; omega)
    rwa [q] at this
  have zt : zval b64 (val64 (FP.l2d (Int64.ofNat T))) = (T : Int) * ((2 ^ 1074 : Nat) : Int) := whole_zval good_b64 (val64_fits _) D2
  have zr : zval b64 (val64 r) = ((c * 2 ^ (k + 1022 - K) : Nat) : Int) := by
    rw [vr]
    show signed false (c * 2 ^ (((k : Int) - 52 + -(K : Int)) - b64.qmin).toNat) = _
    rw [show b64.qmin = -1074 by decide, show (((k : Int) - 52 + -(K : Int)) - -1074).toNat = k + 1022 - K by omega]
    rfl
  have c2 : FP.dcmp (FP.l2d (Int64.ofNat T)) r = some (compare ((T : Int) * ((2 ^ 1074 : Nat) : Int)) ((c * 2 ^ (k + 1022 - K) : Nat) : Int)) := by
    rw [← zt, ← zr]
    refine order_zval (x := val64 (FP.l2d (Int64.ofNat T))) (y := val64 r) good_b64 (val64_fits _) (val64_fits _) ?_ ?_
    · intro z; have := D2; unfold DInt at this; rw [z] at this; exact this.elim
    · rw [vr]; exact fun z => nomatch z
  have e1 : T * 2 ^ 1074 * 2 ^ (52 + K) = (T * 2 ^ K) * 2 ^ 1126 := by
    rw [Nat.mul_assoc, Nat.mul_assoc, ← Nat.pow_add, ← Nat.pow_add]; congr 2; omega
  have e2 : c * 2 ^ (k + 1022 - K) * 2 ^ (52 + K) = n * 2 ^ 1126 := by
    rw [Nat.mul_assoc, ← Nat.pow_add, show k + 1022 - K + (52 + K) = k + 1074 by omega, Nat.pow_add, ← Nat.mul_assoc, h4, Nat.mul_assoc, ← Nat.pow_add]
  have hTn : T * 2 ^ K + n % 2 ^ K = n := by rw [eT, Nat.mul_comm]; exact Nat.div_add_mod n (2 ^ K)
  unfold own_wr
  rw [c1, (own_cmp _ _).1, if_pos lt1, if_neg (by decide), dl, c2, (own_cmp _ _).2, ← eT]
  by_cases g : n % 2 ^ K = 0
  · rw [if_pos g]
    have z : T * 2 ^ 1074 = c * 2 ^ (k + 1022 - K) := by
      apply Nat.eq_of_mul_eq_mul_right (Nat.two_pow_pos (52 + K))
      rw [e1, e2, show T * 2 ^ K = n by omega]
    have z2 : (T : Int) * ((2 ^ 1074 : Nat) : Int) = ((c * 2 ^ (k + 1022 - K) : Nat) : Int) := by rw [← z]; exact (Int.natCast_mul _ _).symm
    rw [z2, if_neg (Int.lt_irrefl _), if_pos rfl, if_pos rfl]
  · rw [if_neg g]
    have z : T * 2 ^ 1074 < c * 2 ^ (k + 1022 - K) := by
      apply Nat.lt_of_mul_lt_mul_right (a := 2 ^ (52 + K))
      rw [e1, e2]
      exact Nat.mul_lt_mul_of_pos_right (by omega) (Nat.two_pow_pos _)
    have z2 : (T : Int) * ((2 ^ 1074 : Nat) : Int) < ((c * 2 ^ (k + 1022 - K) : Nat) : Int) := by rw [← Int.natCast_mul]; exact Int.ofNat_lt.mpr z
    rw [if_pos z2, if_neg (by decide)]
end OwnFl3
theorem own_ofN {n : Nat} (h : n < 2 ^ 63) : (Int64.ofNat n).toInt = (n : Int) := by
  rw [Int64.toInt_ofNat']
  apply Int.bmod_eq_of_le <;> simp only [Int64.size] <;> omega
theorem own_mant (u : Int64) : ∃ n : Nat, 0 < n ∧ n ≤ 2 ^ 53 ∧ ((u &&& (9007199254740991 : Int64)) + (1 : Int64)) = Int64.ofNat n := by
  obtain ⟨n, hn⟩ : ∃ n, n = (u &&& (9007199254740991 : Int64)).toBitVec.toNat := ⟨_, rfl⟩
  have h0 : n ≤ 9007199254740991 := by
    rw [hn, Int64.toBitVec_and, BitVec.toNat_and]
    exact Nat.and_le_right
  refine ⟨n + 1, by omega, by omega, ?_⟩
  apply Int64.toBitVec_inj.mp; apply BitVec.eq_of_toNat_eq
  rw [Int64.toBitVec_add, BitVec.toNat_add, ← hn]
  show (n + 1) % 2 ^ 64 = (BitVec.ofNat 64 (n + 1)).toNat
  simp
theorem own_ex0 : ∀ N < 95, Int32.ofNat N - (32 : Int32) = if 32 ≤ N then Int32.ofNat (N - 32) else -Int32.ofNat (32 - N) := by decide +kernel
theorem own_ex (u : Int32) : (∃ E, E ≤ 62 ∧ (((u &&& (127 : Int32)) % (95 : Int32)) - (32 : Int32)) = Int32.ofNat E) ∨ ∃ K, 1 ≤ K ∧ K ≤ 32 ∧ (((u &&& (127 : Int32)) % (95 : Int32)) - (32 : Int32)) = -Int32.ofNat K := by
  obtain ⟨N, h1, h2⟩ := own_draw u 127 95 (by decide) (by decide) (by decide)
  have h2 : (u &&& (127 : Int32)) % (95 : Int32) = Int32.ofNat N := h2
  rw [h2, own_ex0 N h1]
  by_cases g : 32 ≤ N
  · left; exact ⟨N - 32, by omega, if_pos g⟩
  · right; exact ⟨32 - N, by omega, by omega, if_neg g⟩
theorem own_s64a : ∀ E < 64, ((Int32.ofNat E &&& (0x3f : Int32)).toInt64).toBitVec.smod 64 = BitVec.ofNat 64 E := by decide +kernel
theorem own_s62 : ∀ E < 63, (62 : Int32) - Int32.ofNat E = Int32.ofNat (62 - E) := by decide +kernel
theorem own_kneg : ∀ K < 33, 1 ≤ K → -Int32.ofNat K < (0 : Int32) := by decide +kernel
theorem own_shl {n E : Nat} (h : E < 64) : (Int64.ofNat n) <<< (Int32.ofNat E &&& (0x3f : Int32)).toInt64 = Int64.ofNat (n * 2 ^ E) := by
  apply Int64.toBitVec_inj.mp; apply BitVec.eq_of_toNat_eq
  rw [Int64.toBitVec_shiftLeft, own_s64a E h]
  show ((BitVec.ofNat 64 n) <<< (BitVec.ofNat 64 E)).toNat = (BitVec.ofNat 64 (n * 2 ^ E)).toNat
  rw [BitVec.shiftLeft_eq', BitVec.toNat_shiftLeft, BitVec.toNat_ofNat, BitVec.toNat_ofNat, BitVec.toNat_ofNat, Nat.shiftLeft_eq, Nat.mod_eq_of_lt (show E < 2 ^ 64 by omega), Nat.mod_mul_mod]
theorem own_one {E : Nat} (h : E < 64) : (1 : Int64) <<< (Int32.ofNat E &&& (0x3f : Int32)).toInt64 = Int64.ofNat (2 ^ E) := by
  have := own_shl (n := 1) h
  rw [Nat.one_mul] at this; exact this
theorem own_pow63 {E : Nat} (h : E ≤ 62) : 2 ^ E < 2 ^ 63 := Nat.pow_lt_pow_right (by decide) (by omega)
theorem own_oneI {E : Nat} (h : E ≤ 62) : ((1 : Int64) <<< (Int32.ofNat E &&& (0x3f : Int32)).toInt64).toInt = ((2 ^ E : Nat) : Int) := by
  rw [own_one (by omega), own_ofN (own_pow63 h)]
theorem own_shr {n K : Nat} (hn : n ≤ 2 ^ 53) (h : K ≤ 32) : (Int64.ofNat n) >>> (Int32.ofNat K &&& (0x3f : Int32)).toInt64 = Int64.ofNat (n / 2 ^ K) := by
  apply Int64.toBitVec_inj.mp; apply BitVec.eq_of_toNat_eq
  rw [Int64.toBitVec_shiftRight, own_s64a K (by omega)]
  show ((BitVec.ofNat 64 n).sshiftRight' (BitVec.ofNat 64 K)).toNat = (BitVec.ofNat 64 (n / 2 ^ K)).toNat
  have hl : n / 2 ^ K ≤ n := Nat.div_le_self _ _
  have hm : (BitVec.ofNat 64 n).msb = false := by
    rw [BitVec.msb_eq_decide, BitVec.toNat_ofNat]; simp; omega
  rw [BitVec.sshiftRight_eq', BitVec.sshiftRight_eq_of_msb_false hm, BitVec.toNat_ushiftRight, BitVec.toNat_ofNat, BitVec.toNat_ofNat, BitVec.toNat_ofNat, Nat.shiftRight_eq_div_pow, Nat.mod_eq_of_lt (show K < 2 ^ 64 by omega), Nat.mod_eq_of_lt (show n < 2 ^ 64 by omega), Nat.mod_eq_of_lt (show n / 2 ^ K < 2 ^ 64 by omega)]
theorem own_low {n K : Nat} (hn : n ≤ 2 ^ 53) (h : K ≤ 32) : ((Int64.ofNat n) &&& (((1 : Int64) <<< (Int32.ofNat K &&& (0x3f : Int32)).toInt64) - (1 : Int64))) = (0 : Int64) ↔ n % 2 ^ K = 0 := by
  have hp := Nat.two_pow_pos K
  have hq : 2 ^ K ≤ 2 ^ 32 := Nat.pow_le_pow_right (by decide) h
  have e1 : ((1 : Int64) <<< (Int32.ofNat K &&& (0x3f : Int32)).toInt64) - (1 : Int64) = Int64.ofNat (2 ^ K - 1) := by
    rw [own_one (by omega)]
    apply Int64.toInt_inj.mp
    rw [Int64.toInt_sub, own_ofN (by omega), own_ofN (by omega)]
    show ((2 ^ K : Nat) - (1 : Int)).bmod (2 ^ 64) = _
    rw [Int.bmod_eq_of_le (by omega) (by omega)]; omega
  rw [e1]
  have e2 : (Int64.ofNat n &&& Int64.ofNat (2 ^ K - 1)).toBitVec.toNat = n % 2 ^ K := by
    rw [Int64.toBitVec_and, BitVec.toNat_and]
    show (BitVec.ofNat 64 n).toNat &&& (BitVec.ofNat 64 (2 ^ K - 1)).toNat = _
    rw [BitVec.toNat_ofNat, BitVec.toNat_ofNat, Nat.mod_eq_of_lt (show n < 2 ^ 64 by omega), Nat.mod_eq_of_lt (show 2 ^ K - 1 < 2 ^ 64 by omega), Nat.and_two_pow_sub_one_eq_mod]
  constructor
  · intro z; rw [← e2, z]; rfl
  · intro z; apply Int64.toBitVec_inj.mp; apply BitVec.eq_of_toNat_eq; rw [e2, z]; rfl
theorem own_gt {n E : Nat} (hn : n ≤ 2 ^ 53) (h : E ≤ 62) : ((1 : Int64) <<< (((62 : Int32) - Int32.ofNat E) &&& (0x3f : Int32)).toInt64) < Int64.ofNat n ↔ ¬ n * 2 ^ E ≤ 2 ^ 62 := by
  rw [own_s62 E (by omega), own_one (by omega), Int64.lt_iff_toInt_lt, own_ofN (own_pow63 (by omega)), own_ofN (by omega), Nat.not_le]
  have e : 2 ^ 62 = 2 ^ (62 - E) * 2 ^ E := by rw [← Nat.pow_add]; congr 1; omega
  rw [e, Nat.mul_lt_mul_right (Nat.two_pow_pos E)]
  exact Int.ofNat_lt
theorem pn_pn_1 : plainName "tidegate/pacing/SpentUntil" = true := by first | (simp [plainName, overriddenIn]; done) | decide +kernel
theorem pn_1 : plainFor (⟨"tidegate/pacing/SpentUntil", "wholeRate", "(D)J"⟩ : MethodName) = true := plainFor_of_name pn_pn_1
theorem d1_0 : decode prog_106_method_8_code 0 = .ok (.dload_n 0, 1) := by decide +kernel
theorem d1_1 : decode prog_106_method_8_code 1 = .ok (.ldc2_w 164, 3) := by decide +kernel
theorem d1_4 : decode prog_106_method_8_code 4 = .ok (.dcmp .g, 1) := by decide +kernel
theorem d1_5 : decode prog_106_method_8_code 5 = .ok (.ifCond .gt 16, 3) := by decide +kernel
theorem d1_21 : decode prog_106_method_8_code 21 = .ok (.lconst 0, 1) := by decide +kernel
theorem d1_22 : decode prog_106_method_8_code 22 = .ok (.lreturn, 1) := by decide +kernel
theorem d1_8 : decode prog_106_method_8_code 8 = .ok (.dload_n 0, 1) := by decide +kernel
theorem d1_9 : decode prog_106_method_8_code 9 = .ok (.d2l, 1) := by decide +kernel
theorem d1_10 : decode prog_106_method_8_code 10 = .ok (.l2d, 1) := by decide +kernel
theorem d1_11 : decode prog_106_method_8_code 11 = .ok (.dload_n 0, 1) := by decide +kernel
theorem d1_12 : decode prog_106_method_8_code 12 = .ok (.dcmp .l, 1) := by decide +kernel
theorem d1_13 : decode prog_106_method_8_code 13 = .ok (.ifCond .ne 8, 3) := by decide +kernel
theorem d1_16 : decode prog_106_method_8_code 16 = .ok (.dload_n 0, 1) := by decide +kernel
theorem d1_17 : decode prog_106_method_8_code 17 = .ok (.d2l, 1) := by decide +kernel
theorem d1_18 : decode prog_106_method_8_code 18 = .ok (.goto 4, 3) := by decide +kernel
theorem ef_rm1 (m : MethodId) (x0 : UInt64) : entryFrame m #[(.double x0)] 2 = mkF m 0 #[.val (.double x0), .second] [] := by first | (simp [entryFrame, mkF, argsToLocals, Value.category]; done) | rfl
def Q_rm1 (Z : State) (rr : UInt64) (h0 : Heap) (n0 : Nat) (v : Option Value) (h : Heap) (L : List Loc) : Prop := v = some (.long (own_wr rr)) ∧ Fr n0 L ∧ h = h0
set_option maxRecDepth 65536 in
set_option maxHeartbeats 40000000 in
theorem rm1 (l : Launch) (Z : State) (a0 : Array Value) (hw : ∀ d ∈ tables_1, d.before a0 Z = true) (rr : UInt64) (h0 : Heap) (n0 : Nat) (Z0 : n0 ≤ h0.size)  :
    OwnMet l (⟨"tidegate/pacing/SpentUntil", "wholeRate", "(D)J"⟩ : MethodName) prog_106_method_8_code 2 (some .long) [] ({ frames := 0, cells := 0, slots := 0, locals := 0 } : Room) Z #[(.double rr)] h0 (Q_rm1 Z rr h0 n0) := by
  refine own_met pn_1 (fun p e s m below meth c s₁ hx hby hml hown hnm hret hlk hZ X0 e0 => ?_)
  have hown : s.vm.findClass "tidegate/pacing/SpentUntil" = some m.cls := hown
  have N0 := Fr.nil n0
  rw [ef_rm1]
  show OwnWk _ _ _ _ (s₁.setTop (mkF m 0 #[.val (.double rr), .second] []))
  refine own_go (fun tgt kst => XS.dloadN X0.here hx rfl (hb hby d1_0) rfl  kst) ?_
  show OwnWk _ _ _ _ (s₁.setTop (mkF m 1 #[.val (.double rr), .second] [(.double rr)]))
  refine own_go (X0.ldc2DoubleC hx hown (mvT hZ (hw _ (List.mem_of_getElem? (i := 5) rfl))) (g := (mkF m 1 #[.val (.double rr), .second] [(.double rr)])) rfl (hb hby d1_1)) ?_
  show OwnWk _ _ _ _ (s₁.setTop (mkF m 4 #[.val (.double rr), .second] [(.double (4886405595696988160 : UInt64)), (.double rr)]))
  refine own_go (fun tgt kst => XS.dcmpS X0.here hx rfl (hb hby d1_4) rfl rfl kst) ?_
  show OwnWk _ _ _ _ (s₁.setTop (mkF m 5 #[.val (.double rr), .second] [(.int (cmpValue (FP.dcmp rr (4886405595696988160 : UInt64)) .g))]))
  by_cases hc1 : (0 : Int32) < (cmpValue (FP.dcmp rr (4886405595696988160 : UInt64)) .g)
  ·
    refine own_go (fun tgt kst => XS.ifYes X0.here hx rfl (pc0 := 5) (pc' := 21) rfl (hb hby d1_5) rfl ((if0 _ _).trans (tlt hc1).2.2.1) (by decide) (by decide) kst) ?_
    show OwnWk _ _ _ _ (s₁.setTop (mkF m 21 #[.val (.double rr), .second] []))
    refine own_go (fun tgt kst => XS.lconst X0.here hx rfl (hb hby d1_21) kst) ?_
    show OwnWk _ _ _ _ (s₁.setTop (mkF m 22 #[.val (.double rr), .second] [(.long (0 : Int64))]))
    exact own_retJ X0 hx hlk hret (hb hby d1_22) (by decide) (by decide) (by rw [e0]; exact ⟨congrArg (fun z => some (Value.long z)) (if_pos hc1).symm, N0, rfl⟩)
  ·
    refine own_go (fun tgt kst => XS.ifNo X0.here hx rfl (hb hby d1_5) rfl ((if0 _ _).trans (flt hc1).2.2.1) kst) ?_
    show OwnWk _ _ _ _ (s₁.setTop (mkF m 8 #[.val (.double rr), .second] []))
    refine own_go (fun tgt kst => XS.dloadN X0.here hx rfl (hb hby d1_8) rfl  kst) ?_
    show OwnWk _ _ _ _ (s₁.setTop (mkF m 9 #[.val (.double rr), .second] [(.double rr)]))
    refine own_go (fun tgt kst => XS.d2lS X0.here hx rfl (hb hby d1_9) rfl rfl kst) ?_
    show OwnWk _ _ _ _ (s₁.setTop (mkF m 10 #[.val (.double rr), .second] [(.long (FP.d2l rr))]))
    refine own_go (fun tgt kst => XS.l2dS X0.here hx rfl (hb hby d1_10) rfl rfl kst) ?_
    show OwnWk _ _ _ _ (s₁.setTop (mkF m 11 #[.val (.double rr), .second] [(.double (FP.l2d (FP.d2l rr)))]))
    refine own_go (fun tgt kst => XS.dloadN X0.here hx rfl (hb hby d1_11) rfl  kst) ?_
    show OwnWk _ _ _ _ (s₁.setTop (mkF m 12 #[.val (.double rr), .second] [(.double rr), (.double (FP.l2d (FP.d2l rr)))]))
    refine own_go (fun tgt kst => XS.dcmpS X0.here hx rfl (hb hby d1_12) rfl rfl kst) ?_
    show OwnWk _ _ _ _ (s₁.setTop (mkF m 13 #[.val (.double rr), .second] [(.int (cmpValue (FP.dcmp (FP.l2d (FP.d2l rr)) rr) .l))]))
    by_cases hc2 : (cmpValue (FP.dcmp (FP.l2d (FP.d2l rr)) rr) .l) = (0 : Int32)
    ·
      refine own_go (fun tgt kst => XS.ifNo X0.here hx rfl (hb hby d1_13) rfl ((if0 _ _).trans (teq hc2).2) kst) ?_
      show OwnWk _ _ _ _ (s₁.setTop (mkF m 16 #[.val (.double rr), .second] []))
      refine own_go (fun tgt kst => XS.dloadN X0.here hx rfl (hb hby d1_16) rfl  kst) ?_
      show OwnWk _ _ _ _ (s₁.setTop (mkF m 17 #[.val (.double rr), .second] [(.double rr)]))
      refine own_go (fun tgt kst => XS.d2lS X0.here hx rfl (hb hby d1_17) rfl rfl kst) ?_
      show OwnWk _ _ _ _ (s₁.setTop (mkF m 18 #[.val (.double rr), .second] [(.long (FP.d2l rr))]))
      refine own_go (fun tgt kst => XS.goto X0.here hx rfl (pc0 := 18) (pc' := 22) rfl (hb hby d1_18) (by decide) (by decide) kst) ?_
      show OwnWk _ _ _ _ (s₁.setTop (mkF m 22 #[.val (.double rr), .second] [(.long (FP.d2l rr))]))
      exact own_retJ X0 hx hlk hret (hb hby d1_22) (by decide) (by decide) (by rw [e0]; exact ⟨congrArg (fun z => some (Value.long z)) ((if_neg hc1).trans (if_pos hc2)).symm, N0, rfl⟩)
    ·
      refine own_go (fun tgt kst => XS.ifYes X0.here hx rfl (pc0 := 13) (pc' := 21) rfl (hb hby d1_13) rfl ((if0 _ _).trans (feq hc2).2) (by decide) (by decide) kst) ?_
      show OwnWk _ _ _ _ (s₁.setTop (mkF m 21 #[.val (.double rr), .second] []))
      refine own_go (fun tgt kst => XS.lconst X0.here hx rfl (hb hby d1_21) kst) ?_
      show OwnWk _ _ _ _ (s₁.setTop (mkF m 22 #[.val (.double rr), .second] [(.long (0 : Int64))]))
      exact own_retJ X0 hx hlk hret (hb hby d1_22) (by decide) (by decide) (by rw [e0]; exact ⟨congrArg (fun z => some (Value.long z)) ((if_neg hc1).trans (if_neg hc2)).symm, N0, rfl⟩)
theorem pn_pn_0 : plainName "tidegate/pacing/SpentUntilWholeRatePinLaw" = true := by first | (simp [plainName, overriddenIn]; done) | decide +kernel
theorem pn_0 : plainFor x = true := plainFor_of_name pn_pn_0
theorem pd_0 : parseMethodDescriptor "(D)J" = some ⟨[.double], some .long⟩ := by decide +kernel
theorem ef_rm0 (m : MethodId) (x0 : Int64) (x1 : Int32) : entryFrame m #[(.long x0), (.int x1)] maxLocals = mkF m 0 #[.val (.long x0), .second, .val (.int x1), .unset, .unset, .unset, .unset, .unset, .unset, .unset, .unset, .unset, .unset] [] := by first | (simp [entryFrame, mkF, argsToLocals, Value.category, maxLocals]; done) | rfl
def Q_rm0 (Z : State) (u : Int64) (q : Int32) (h0 : Heap) (n0 : Nat) (v : Option Value) (h : Heap) (L : List Loc) : Prop := v = some (.int 1) ∧ Fr n0 L
set_option maxRecDepth 65536 in
set_option maxHeartbeats 40000000 in
theorem rm0 (l : Launch) (Z : State) (a0 : Array Value) (hw : ∀ d ∈ tables_1, d.before a0 Z = true) (u : Int64) (q : Int32) (h0 : Heap) (n0 : Nat) (Z0 : n0 ≤ h0.size)  :
    OwnMet l x code maxLocals ret tables_1 room_1 Z #[(.long u), (.int q)] h0 (Q_rm0 Z u q h0 n0) := by
  refine own_met pn_0 (fun p e s m below meth c s₁ hx hby hml hown hnm hret hlk hZ X0 e0 => ?_)
  have hml : c.maxLocals = 13 := hml
  have hret : meth.sig.returnType = some .boolean := hret
  have hown : s.vm.findClass "tidegate/pacing/SpentUntilWholeRatePinLaw" = some m.cls := hown
  have N0 := Fr.nil n0
  rw [ef_rm0]
  show OwnWk _ _ _ _ (s₁.setTop (mkF m 0 #[.val (.long u), .second, .val (.int q), .unset, .unset, .unset, .unset, .unset, .unset, .unset, .unset, .unset, .unset] []))
  refine own_go (fun tgt kst => XS.lloadN X0.here hx rfl (hb hby at_0) rfl  kst) ?_
  show OwnWk _ _ _ _ (s₁.setTop (mkF m 1 #[.val (.long u), .second, .val (.int q), .unset, .unset, .unset, .unset, .unset, .unset, .unset, .unset, .unset, .unset] [(.long u)]))
  refine own_go (X0.ldc2Long hx hown (mvT hZ (hw _ (List.mem_of_getElem? (i := 0) rfl))) (g := (mkF m 1 #[.val (.long u), .second, .val (.int q), .unset, .unset, .unset, .unset, .unset, .unset, .unset, .unset, .unset, .unset] [(.long u)])) rfl (hb hby at_1)) ?_
  show OwnWk _ _ _ _ (s₁.setTop (mkF m 4 #[.val (.long u), .second, .val (.int q), .unset, .unset, .unset, .unset, .unset, .unset, .unset, .unset, .unset, .unset] [(.long (9007199254740991 : Int64)), (.long u)]))
  refine own_go (fun tgt kst => XS.land X0.here hx rfl (hb hby at_4) rfl kst) ?_
  show OwnWk _ _ _ _ (s₁.setTop (mkF m 5 #[.val (.long u), .second, .val (.int q), .unset, .unset, .unset, .unset, .unset, .unset, .unset, .unset, .unset, .unset] [(.long (u &&& (9007199254740991 : Int64)))]))
  refine own_go (fun tgt kst => XS.lconst X0.here hx rfl (hb hby at_5) kst) ?_
  show OwnWk _ _ _ _ (s₁.setTop (mkF m 6 #[.val (.long u), .second, .val (.int q), .unset, .unset, .unset, .unset, .unset, .unset, .unset, .unset, .unset, .unset] [(.long (1 : Int64)), (.long (u &&& (9007199254740991 : Int64)))]))
  refine own_go (fun tgt kst => XS.ladd X0.here hx rfl (hb hby at_6) rfl kst) ?_
  show OwnWk _ _ _ _ (s₁.setTop (mkF m 7 #[.val (.long u), .second, .val (.int q), .unset, .unset, .unset, .unset, .unset, .unset, .unset, .unset, .unset, .unset] [(.long ((u &&& (9007199254740991 : Int64)) + (1 : Int64)))]))
  obtain ⟨nn, n1, n2, hm⟩ := own_mant u
  rw [hm]
  show OwnWk _ _ _ _ (s₁.setTop (mkF m 7 #[.val (.long u), .second, .val (.int q), .unset, .unset, .unset, .unset, .unset, .unset, .unset, .unset, .unset, .unset] [(.long (Int64.ofNat nn))]))
  have n3 : nn < 2 ^ 63 := Nat.lt_of_le_of_lt n2 (by decide)
  refine own_go (fun tgt kst => XS.lstoreN X0.here hx rfl (hb hby at_7) rfl (l' := #[.val (.long u), .second, .val (.int q), .val (.long (Int64.ofNat nn)), .second, .unset, .unset, .unset, .unset, .unset, .unset, .unset, .unset]) rfl kst) ?_
  show OwnWk _ _ _ _ (s₁.setTop (mkF m 8 #[.val (.long u), .second, .val (.int q), .val (.long (Int64.ofNat nn)), .second, .unset, .unset, .unset, .unset, .unset, .unset, .unset, .unset] []))
  refine own_go (fun tgt kst => XS.iloadN X0.here hx rfl (hb hby at_8) rfl  kst) ?_
  show OwnWk _ _ _ _ (s₁.setTop (mkF m 9 #[.val (.long u), .second, .val (.int q), .val (.long (Int64.ofNat nn)), .second, .unset, .unset, .unset, .unset, .unset, .unset, .unset, .unset] [(.int q)]))
  refine own_go (fun tgt kst => XS.bipush X0.here hx rfl (hb hby at_9) kst) ?_
  show OwnWk _ _ _ _ (s₁.setTop (mkF m 11 #[.val (.long u), .second, .val (.int q), .val (.long (Int64.ofNat nn)), .second, .unset, .unset, .unset, .unset, .unset, .unset, .unset, .unset] [(.int (127 : Int32)), (.int q)]))
  refine own_go (fun tgt kst => XS.iand X0.here hx rfl (hb hby at_11) rfl kst) ?_
  show OwnWk _ _ _ _ (s₁.setTop (mkF m 12 #[.val (.long u), .second, .val (.int q), .val (.long (Int64.ofNat nn)), .second, .unset, .unset, .unset, .unset, .unset, .unset, .unset, .unset] [(.int (q &&& (127 : Int32)))]))
  refine own_go (fun tgt kst => XS.bipush X0.here hx rfl (hb hby at_12) kst) ?_
  show OwnWk _ _ _ _ (s₁.setTop (mkF m 14 #[.val (.long u), .second, .val (.int q), .val (.long (Int64.ofNat nn)), .second, .unset, .unset, .unset, .unset, .unset, .unset, .unset, .unset] [(.int (95 : Int32)), (.int (q &&& (127 : Int32)))]))
  refine own_go (fun tgt kst => Jvm.RoadKit.iremM X0 hx rfl (hb hby at_14) rfl (by decide) kst) ?_
  show OwnWk _ _ _ _ (s₁.setTop (mkF m 15 #[.val (.long u), .second, .val (.int q), .val (.long (Int64.ofNat nn)), .second, .unset, .unset, .unset, .unset, .unset, .unset, .unset, .unset] [(.int ((q &&& (127 : Int32)) % (95 : Int32)))]))
  refine own_go (fun tgt kst => XS.bipush X0.here hx rfl (hb hby at_15) kst) ?_
  show OwnWk _ _ _ _ (s₁.setTop (mkF m 17 #[.val (.long u), .second, .val (.int q), .val (.long (Int64.ofNat nn)), .second, .unset, .unset, .unset, .unset, .unset, .unset, .unset, .unset] [(.int (32 : Int32)), (.int ((q &&& (127 : Int32)) % (95 : Int32)))]))
  refine own_go (fun tgt kst => XS.isub X0.here hx rfl (hb hby at_17) rfl kst) ?_
  show OwnWk _ _ _ _ (s₁.setTop (mkF m 18 #[.val (.long u), .second, .val (.int q), .val (.long (Int64.ofNat nn)), .second, .unset, .unset, .unset, .unset, .unset, .unset, .unset, .unset] [(.int (((q &&& (127 : Int32)) % (95 : Int32)) - (32 : Int32)))]))
  obtain ⟨ee, e1', e2'⟩ | ⟨kk, k1', k2', k3'⟩ := own_ex q
  ·
    rw [e2']
    show OwnWk _ _ _ _ (s₁.setTop (mkF m 18 #[.val (.long u), .second, .val (.int q), .val (.long (Int64.ofNat nn)), .second, .unset, .unset, .unset, .unset, .unset, .unset, .unset, .unset] [(.int (Int32.ofNat ee))]))
    have A1 := own_A n1 n2 e1' (own_ofN n3) (own_oneI e1')
    refine own_go (fun tgt kst => XS.istore X0.here hx rfl (hb hby at_18) rfl (l' := #[.val (.long u), .second, .val (.int q), .val (.long (Int64.ofNat nn)), .second, .val (.int (Int32.ofNat ee)), .unset, .unset, .unset, .unset, .unset, .unset, .unset]) rfl kst) ?_
    show OwnWk _ _ _ _ (s₁.setTop (mkF m 20 #[.val (.long u), .second, .val (.int q), .val (.long (Int64.ofNat nn)), .second, .val (.int (Int32.ofNat ee)), .unset, .unset, .unset, .unset, .unset, .unset, .unset] []))
    refine own_go (fun tgt kst => XS.iload X0.here hx rfl (hb hby at_20) rfl  kst) ?_
    show OwnWk _ _ _ _ (s₁.setTop (mkF m 22 #[.val (.long u), .second, .val (.int q), .val (.long (Int64.ofNat nn)), .second, .val (.int (Int32.ofNat ee)), .unset, .unset, .unset, .unset, .unset, .unset, .unset] [(.int (Int32.ofNat ee))]))
    refine own_go (fun tgt kst => XS.ifNo X0.here hx rfl (hb hby at_22) rfl ((if0 _ _).trans (flt (own_n_nn (Nat.lt_of_le_of_lt e1' (by decide)))).1) kst) ?_
    show OwnWk _ _ _ _ (s₁.setTop (mkF m 25 #[.val (.long u), .second, .val (.int q), .val (.long (Int64.ofNat nn)), .second, .val (.int (Int32.ofNat ee)), .unset, .unset, .unset, .unset, .unset, .unset, .unset] []))
    refine own_go (fun tgt kst => XS.lloadN X0.here hx rfl (hb hby at_25) rfl  kst) ?_
    show OwnWk _ _ _ _ (s₁.setTop (mkF m 26 #[.val (.long u), .second, .val (.int q), .val (.long (Int64.ofNat nn)), .second, .val (.int (Int32.ofNat ee)), .unset, .unset, .unset, .unset, .unset, .unset, .unset] [(.long (Int64.ofNat nn))]))
    refine own_go (fun tgt kst => XS.l2dS X0.here hx rfl (hb hby at_26) rfl rfl kst) ?_
    show OwnWk _ _ _ _ (s₁.setTop (mkF m 27 #[.val (.long u), .second, .val (.int q), .val (.long (Int64.ofNat nn)), .second, .val (.int (Int32.ofNat ee)), .unset, .unset, .unset, .unset, .unset, .unset, .unset] [(.double (FP.l2d (Int64.ofNat nn)))]))
    refine own_go (fun tgt kst => XS.lconst X0.here hx rfl (hb hby at_27) kst) ?_
    show OwnWk _ _ _ _ (s₁.setTop (mkF m 28 #[.val (.long u), .second, .val (.int q), .val (.long (Int64.ofNat nn)), .second, .val (.int (Int32.ofNat ee)), .unset, .unset, .unset, .unset, .unset, .unset, .unset] [(.long (1 : Int64)), (.double (FP.l2d (Int64.ofNat nn)))]))
    refine own_go (fun tgt kst => XS.iload X0.here hx rfl (hb hby at_28) rfl  kst) ?_
    show OwnWk _ _ _ _ (s₁.setTop (mkF m 30 #[.val (.long u), .second, .val (.int q), .val (.long (Int64.ofNat nn)), .second, .val (.int (Int32.ofNat ee)), .unset, .unset, .unset, .unset, .unset, .unset, .unset] [(.int (Int32.ofNat ee)), (.long (1 : Int64)), (.double (FP.l2d (Int64.ofNat nn)))]))
    refine own_go (fun tgt kst => XS.lshl X0.here hx rfl (hb hby at_30) rfl kst) ?_
    show OwnWk _ _ _ _ (s₁.setTop (mkF m 31 #[.val (.long u), .second, .val (.int q), .val (.long (Int64.ofNat nn)), .second, .val (.int (Int32.ofNat ee)), .unset, .unset, .unset, .unset, .unset, .unset, .unset] [(.long ((1 : Int64) <<< ((Int32.ofNat ee) &&& 0x3f).toInt64)), (.double (FP.l2d (Int64.ofNat nn)))]))
    refine own_go (fun tgt kst => XS.l2dS X0.here hx rfl (hb hby at_31) rfl rfl kst) ?_
    show OwnWk _ _ _ _ (s₁.setTop (mkF m 32 #[.val (.long u), .second, .val (.int q), .val (.long (Int64.ofNat nn)), .second, .val (.int (Int32.ofNat ee)), .unset, .unset, .unset, .unset, .unset, .unset, .unset] [(.double (FP.l2d ((1 : Int64) <<< ((Int32.ofNat ee) &&& 0x3f).toInt64))), (.double (FP.l2d (Int64.ofNat nn)))]))
    refine own_go (fun tgt kst => XS.dmulS X0.here hx rfl (hb hby at_32) rfl A1.1 rfl kst) ?_
    show OwnWk _ _ _ _ (s₁.setTop (mkF m 33 #[.val (.long u), .second, .val (.int q), .val (.long (Int64.ofNat nn)), .second, .val (.int (Int32.ofNat ee)), .unset, .unset, .unset, .unset, .unset, .unset, .unset] [(.double (FP.dmul (FP.l2d (Int64.ofNat nn)) (FP.l2d ((1 : Int64) <<< ((Int32.ofNat ee) &&& 0x3f).toInt64))))]))
    refine own_go (fun tgt kst => XS.dstore X0.here hx rfl (hb hby at_33) rfl (l' := #[.val (.long u), .second, .val (.int q), .val (.long (Int64.ofNat nn)), .second, .val (.int (Int32.ofNat ee)), .val (.double (FP.dmul (FP.l2d (Int64.ofNat nn)) (FP.l2d ((1 : Int64) <<< ((Int32.ofNat ee) &&& 0x3f).toInt64)))), .second, .unset, .unset, .unset, .unset, .unset]) rfl kst) ?_
    show OwnWk _ _ _ _ (s₁.setTop (mkF m 35 #[.val (.long u), .second, .val (.int q), .val (.long (Int64.ofNat nn)), .second, .val (.int (Int32.ofNat ee)), .val (.double (FP.dmul (FP.l2d (Int64.ofNat nn)) (FP.l2d ((1 : Int64) <<< ((Int32.ofNat ee) &&& 0x3f).toInt64)))), .second, .unset, .unset, .unset, .unset, .unset] []))
    refine own_go (fun tgt kst => XS.lloadN X0.here hx rfl (hb hby at_35) rfl  kst) ?_
    show OwnWk _ _ _ _ (s₁.setTop (mkF m 36 #[.val (.long u), .second, .val (.int q), .val (.long (Int64.ofNat nn)), .second, .val (.int (Int32.ofNat ee)), .val (.double (FP.dmul (FP.l2d (Int64.ofNat nn)) (FP.l2d ((1 : Int64) <<< ((Int32.ofNat ee) &&& 0x3f).toInt64)))), .second, .unset, .unset, .unset, .unset, .unset] [(.long (Int64.ofNat nn))]))
    refine own_go (fun tgt kst => XS.lconst X0.here hx rfl (hb hby at_36) kst) ?_
    show OwnWk _ _ _ _ (s₁.setTop (mkF m 37 #[.val (.long u), .second, .val (.int q), .val (.long (Int64.ofNat nn)), .second, .val (.int (Int32.ofNat ee)), .val (.double (FP.dmul (FP.l2d (Int64.ofNat nn)) (FP.l2d ((1 : Int64) <<< ((Int32.ofNat ee) &&& 0x3f).toInt64)))), .second, .unset, .unset, .unset, .unset, .unset] [(.long (1 : Int64)), (.long (Int64.ofNat nn))]))
    refine own_go (fun tgt kst => XS.bipush X0.here hx rfl (hb hby at_37) kst) ?_
    show OwnWk _ _ _ _ (s₁.setTop (mkF m 39 #[.val (.long u), .second, .val (.int q), .val (.long (Int64.ofNat nn)), .second, .val (.int (Int32.ofNat ee)), .val (.double (FP.dmul (FP.l2d (Int64.ofNat nn)) (FP.l2d ((1 : Int64) <<< ((Int32.ofNat ee) &&& 0x3f).toInt64)))), .second, .unset, .unset, .unset, .unset, .unset] [(.int (62 : Int32)), (.long (1 : Int64)), (.long (Int64.ofNat nn))]))
    refine own_go (fun tgt kst => XS.iload X0.here hx rfl (hb hby at_39) rfl  kst) ?_
    show OwnWk _ _ _ _ (s₁.setTop (mkF m 41 #[.val (.long u), .second, .val (.int q), .val (.long (Int64.ofNat nn)), .second, .val (.int (Int32.ofNat ee)), .val (.double (FP.dmul (FP.l2d (Int64.ofNat nn)) (FP.l2d ((1 : Int64) <<< ((Int32.ofNat ee) &&& 0x3f).toInt64)))), .second, .unset, .unset, .unset, .unset, .unset] [(.int (Int32.ofNat ee)), (.int (62 : Int32)), (.long (1 : Int64)), (.long (Int64.ofNat nn))]))
    refine own_go (fun tgt kst => XS.isub X0.here hx rfl (hb hby at_41) rfl kst) ?_
    show OwnWk _ _ _ _ (s₁.setTop (mkF m 42 #[.val (.long u), .second, .val (.int q), .val (.long (Int64.ofNat nn)), .second, .val (.int (Int32.ofNat ee)), .val (.double (FP.dmul (FP.l2d (Int64.ofNat nn)) (FP.l2d ((1 : Int64) <<< ((Int32.ofNat ee) &&& 0x3f).toInt64)))), .second, .unset, .unset, .unset, .unset, .unset] [(.int ((62 : Int32) - (Int32.ofNat ee))), (.long (1 : Int64)), (.long (Int64.ofNat nn))]))
    refine own_go (fun tgt kst => XS.lshl X0.here hx rfl (hb hby at_42) rfl kst) ?_
    show OwnWk _ _ _ _ (s₁.setTop (mkF m 43 #[.val (.long u), .second, .val (.int q), .val (.long (Int64.ofNat nn)), .second, .val (.int (Int32.ofNat ee)), .val (.double (FP.dmul (FP.l2d (Int64.ofNat nn)) (FP.l2d ((1 : Int64) <<< ((Int32.ofNat ee) &&& 0x3f).toInt64)))), .second, .unset, .unset, .unset, .unset, .unset] [(.long ((1 : Int64) <<< (((62 : Int32) - (Int32.ofNat ee)) &&& 0x3f).toInt64)), (.long (Int64.ofNat nn))]))
    refine own_go (fun tgt kst => XS.lcmp X0.here hx rfl (hb hby at_43) rfl kst) ?_
    show OwnWk _ _ _ _ (s₁.setTop (mkF m 44 #[.val (.long u), .second, .val (.int q), .val (.long (Int64.ofNat nn)), .second, .val (.int (Int32.ofNat ee)), .val (.double (FP.dmul (FP.l2d (Int64.ofNat nn)) (FP.l2d ((1 : Int64) <<< ((Int32.ofNat ee) &&& 0x3f).toInt64)))), .second, .unset, .unset, .unset, .unset, .unset] [(.int (lcmpW (Int64.ofNat nn) ((1 : Int64) <<< (((62 : Int32) - (Int32.ofNat ee)) &&& 0x3f).toInt64)))]))
    by_cases hc1 : ((1 : Int64) <<< (((62 : Int32) - (Int32.ofNat ee)) &&& 0x3f).toInt64) < (Int64.ofNat nn)
    ·
      refine own_go (fun tgt kst => XS.ifYes X0.here hx rfl (pc0 := 44) (pc' := 54) rfl (hb hby at_44) rfl ((if0 _ _).trans (tlt (own_lc_gt.mpr hc1)).2.2.1) (by decide) (by decide) kst) ?_
      show OwnWk _ _ _ _ (s₁.setTop (mkF m 54 #[.val (.long u), .second, .val (.int q), .val (.long (Int64.ofNat nn)), .second, .val (.int (Int32.ofNat ee)), .val (.double (FP.dmul (FP.l2d (Int64.ofNat nn)) (FP.l2d ((1 : Int64) <<< ((Int32.ofNat ee) &&& 0x3f).toInt64)))), .second, .unset, .unset, .unset, .unset, .unset] []))
      refine own_go (fun tgt kst => XS.lconst X0.here hx rfl (hb hby at_54) kst) ?_
      show OwnWk _ _ _ _ (s₁.setTop (mkF m 55 #[.val (.long u), .second, .val (.int q), .val (.long (Int64.ofNat nn)), .second, .val (.int (Int32.ofNat ee)), .val (.double (FP.dmul (FP.l2d (Int64.ofNat nn)) (FP.l2d ((1 : Int64) <<< ((Int32.ofNat ee) &&& 0x3f).toInt64)))), .second, .unset, .unset, .unset, .unset, .unset] [(.long (0 : Int64))]))
      refine own_go (fun tgt kst => XS.lstore X0.here hx rfl (hb hby at_55) rfl (l' := #[.val (.long u), .second, .val (.int q), .val (.long (Int64.ofNat nn)), .second, .val (.int (Int32.ofNat ee)), .val (.double (FP.dmul (FP.l2d (Int64.ofNat nn)) (FP.l2d ((1 : Int64) <<< ((Int32.ofNat ee) &&& 0x3f).toInt64)))), .second, .val (.long (0 : Int64)), .second, .unset, .unset, .unset]) rfl kst) ?_
      show OwnWk _ _ _ _ (s₁.setTop (mkF m 57 #[.val (.long u), .second, .val (.int q), .val (.long (Int64.ofNat nn)), .second, .val (.int (Int32.ofNat ee)), .val (.double (FP.dmul (FP.l2d (Int64.ofNat nn)) (FP.l2d ((1 : Int64) <<< ((Int32.ofNat ee) &&& 0x3f).toInt64)))), .second, .val (.long (0 : Int64)), .second, .unset, .unset, .unset] []))
      refine own_go (fun tgt kst => XS.goto X0.here hx rfl (pc0 := 57) (pc' := 100) rfl (hb hby at_57) (by decide) (by decide) kst) ?_
      show OwnWk _ _ _ _ (s₁.setTop (mkF m 100 #[.val (.long u), .second, .val (.int q), .val (.long (Int64.ofNat nn)), .second, .val (.int (Int32.ofNat ee)), .val (.double (FP.dmul (FP.l2d (Int64.ofNat nn)) (FP.l2d ((1 : Int64) <<< ((Int32.ofNat ee) &&& 0x3f).toInt64)))), .second, .val (.long (0 : Int64)), .second, .unset, .unset, .unset] []))
      refine own_go (fun tgt kst => XS.dload X0.here hx rfl (hb hby at_100) rfl  kst) ?_
      show OwnWk _ _ _ _ (s₁.setTop (mkF m 102 #[.val (.long u), .second, .val (.int q), .val (.long (Int64.ofNat nn)), .second, .val (.int (Int32.ofNat ee)), .val (.double (FP.dmul (FP.l2d (Int64.ofNat nn)) (FP.l2d ((1 : Int64) <<< ((Int32.ofNat ee) &&& 0x3f).toInt64)))), .second, .val (.long (0 : Int64)), .second, .unset, .unset, .unset] [(.double (FP.dmul (FP.l2d (Int64.ofNat nn)) (FP.l2d ((1 : Int64) <<< ((Int32.ofNat ee) &&& 0x3f).toInt64))))]))
      refine own_callS X0 hx hZ (y := (⟨"tidegate/pacing/SpentUntil", "wholeRate", "(D)J"⟩ : MethodName)) hown (hw _ (List.mem_of_getElem? (i := 1) rfl)) (hw _ (List.mem_of_getElem? (i := 2) rfl)) (hw _ (List.mem_of_getElem? (i := 3) rfl)) (hw _ (List.mem_of_getElem? (i := 4) rfl)) (by decide) (argsL := [(.double (FP.dmul (FP.l2d (Int64.ofNat nn)) (FP.l2d ((1 : Int64) <<< ((Int32.ofNat ee) &&& 0x3f).toInt64))))]) (rest := []) (rm := ({ frames := 0, cells := 0, slots := 0, locals := 0 } : Room)) (h := h0) (rm1 l Z a0 hw (FP.dmul (FP.l2d (Int64.ofNat nn)) (FP.l2d ((1 : Int64) <<< ((Int32.ofNat ee) &&& 0x3f).toInt64))) h0 n0 Z0) e0 (W := 0) (by decide) (by decide) (by decide) (by decide) (g := (mkF m 102 #[.val (.long u), .second, .val (.int q), .val (.long (Int64.ofNat nn)), .second, .val (.int (Int32.ofNat ee)), .val (.double (FP.dmul (FP.l2d (Int64.ofNat nn)) (FP.l2d ((1 : Int64) <<< ((Int32.ofNat ee) &&& 0x3f).toInt64)))), .second, .val (.long (0 : Int64)), .second, .unset, .unset, .unset] [(.double (FP.dmul (FP.l2d (Int64.ofNat nn)) (FP.l2d ((1 : Int64) <<< ((Int32.ofNat ee) &&& 0x3f).toInt64))))])) rfl (by rw [hml]; rfl) (lenOf pd_0 rfl) rfl (by show 2 * 0 + _ ≤ _; exact Nat.le_of_eq rfl) (hb hby at_102) (fun v2 T2 h2 L2 X2 e2 hQ2 => ?_)
      obtain ⟨rfl, Nq2, q2⟩ := hQ2
      have N2 := Fr.app N0 Nq2
      rw [q2] at e2
      show OwnWk _ _ _ _ (T2.setTop (mkF m 105 #[.val (.long u), .second, .val (.int q), .val (.long (Int64.ofNat nn)), .second, .val (.int (Int32.ofNat ee)), .val (.double (FP.dmul (FP.l2d (Int64.ofNat nn)) (FP.l2d ((1 : Int64) <<< ((Int32.ofNat ee) &&& 0x3f).toInt64)))), .second, .val (.long (0 : Int64)), .second, .unset, .unset, .unset] [(.long (own_wr (FP.dmul (FP.l2d (Int64.ofNat nn)) (FP.l2d ((1 : Int64) <<< ((Int32.ofNat ee) &&& 0x3f).toInt64)))))]))
      refine own_go (fun tgt kst => XS.lload X2.here hx rfl (hb hby at_105) rfl  kst) ?_
      show OwnWk _ _ _ _ (T2.setTop (mkF m 107 #[.val (.long u), .second, .val (.int q), .val (.long (Int64.ofNat nn)), .second, .val (.int (Int32.ofNat ee)), .val (.double (FP.dmul (FP.l2d (Int64.ofNat nn)) (FP.l2d ((1 : Int64) <<< ((Int32.ofNat ee) &&& 0x3f).toInt64)))), .second, .val (.long (0 : Int64)), .second, .unset, .unset, .unset] [(.long (0 : Int64)), (.long (own_wr (FP.dmul (FP.l2d (Int64.ofNat nn)) (FP.l2d ((1 : Int64) <<< ((Int32.ofNat ee) &&& 0x3f).toInt64)))))]))
      refine own_go (fun tgt kst => XS.lcmp X2.here hx rfl (hb hby at_107) rfl kst) ?_
      show OwnWk _ _ _ _ (T2.setTop (mkF m 108 #[.val (.long u), .second, .val (.int q), .val (.long (Int64.ofNat nn)), .second, .val (.int (Int32.ofNat ee)), .val (.double (FP.dmul (FP.l2d (Int64.ofNat nn)) (FP.l2d ((1 : Int64) <<< ((Int32.ofNat ee) &&& 0x3f).toInt64)))), .second, .val (.long (0 : Int64)), .second, .unset, .unset, .unset] [(.int (lcmpW (own_wr (FP.dmul (FP.l2d (Int64.ofNat nn)) (FP.l2d ((1 : Int64) <<< ((Int32.ofNat ee) &&& 0x3f).toInt64)))) (0 : Int64)))]))
      refine own_go (fun tgt kst => XS.ifNo X2.here hx rfl (hb hby at_108) rfl ((if0 _ _).trans (teq (own_lc_eq.mpr (A1.2.trans (if_neg ((own_gt n2 e1').mp hc1))))).2) kst) ?_
      show OwnWk _ _ _ _ (T2.setTop (mkF m 111 #[.val (.long u), .second, .val (.int q), .val (.long (Int64.ofNat nn)), .second, .val (.int (Int32.ofNat ee)), .val (.double (FP.dmul (FP.l2d (Int64.ofNat nn)) (FP.l2d ((1 : Int64) <<< ((Int32.ofNat ee) &&& 0x3f).toInt64)))), .second, .val (.long (0 : Int64)), .second, .unset, .unset, .unset] []))
      refine own_go (fun tgt kst => XS.iconst X2.here hx rfl (hb hby at_111) kst) ?_
      show OwnWk _ _ _ _ (T2.setTop (mkF m 112 #[.val (.long u), .second, .val (.int q), .val (.long (Int64.ofNat nn)), .second, .val (.int (Int32.ofNat ee)), .val (.double (FP.dmul (FP.l2d (Int64.ofNat nn)) (FP.l2d ((1 : Int64) <<< ((Int32.ofNat ee) &&& 0x3f).toInt64)))), .second, .val (.long (0 : Int64)), .second, .unset, .unset, .unset] [(.int (1 : Int32))]))
      refine own_go (fun tgt kst => XS.goto X2.here hx rfl (pc0 := 112) (pc' := 116) rfl (hb hby at_112) (by decide) (by decide) kst) ?_
      show OwnWk _ _ _ _ (T2.setTop (mkF m 116 #[.val (.long u), .second, .val (.int q), .val (.long (Int64.ofNat nn)), .second, .val (.int (Int32.ofNat ee)), .val (.double (FP.dmul (FP.l2d (Int64.ofNat nn)) (FP.l2d ((1 : Int64) <<< ((Int32.ofNat ee) &&& 0x3f).toInt64)))), .second, .val (.long (0 : Int64)), .second, .unset, .unset, .unset] [(.int (1 : Int32))]))
      exact own_retZ X2 hx hlk hret (by simp) (z' := (1 : Int32)) rfl (hb hby at_116) (by decide) (by decide) (by rw [e2]; exact ⟨rfl, N2⟩)
    ·
      refine own_go (fun tgt kst => XS.ifNo X0.here hx rfl (hb hby at_44) rfl ((if0 _ _).trans (flt (fun q => hc1 (own_lc_gt.mp q))).2.2.1) kst) ?_
      show OwnWk _ _ _ _ (s₁.setTop (mkF m 47 #[.val (.long u), .second, .val (.int q), .val (.long (Int64.ofNat nn)), .second, .val (.int (Int32.ofNat ee)), .val (.double (FP.dmul (FP.l2d (Int64.ofNat nn)) (FP.l2d ((1 : Int64) <<< ((Int32.ofNat ee) &&& 0x3f).toInt64)))), .second, .unset, .unset, .unset, .unset, .unset] []))
      refine own_go (fun tgt kst => XS.lloadN X0.here hx rfl (hb hby at_47) rfl  kst) ?_
      show OwnWk _ _ _ _ (s₁.setTop (mkF m 48 #[.val (.long u), .second, .val (.int q), .val (.long (Int64.ofNat nn)), .second, .val (.int (Int32.ofNat ee)), .val (.double (FP.dmul (FP.l2d (Int64.ofNat nn)) (FP.l2d ((1 : Int64) <<< ((Int32.ofNat ee) &&& 0x3f).toInt64)))), .second, .unset, .unset, .unset, .unset, .unset] [(.long (Int64.ofNat nn))]))
      refine own_go (fun tgt kst => XS.iload X0.here hx rfl (hb hby at_48) rfl  kst) ?_
      show OwnWk _ _ _ _ (s₁.setTop (mkF m 50 #[.val (.long u), .second, .val (.int q), .val (.long (Int64.ofNat nn)), .second, .val (.int (Int32.ofNat ee)), .val (.double (FP.dmul (FP.l2d (Int64.ofNat nn)) (FP.l2d ((1 : Int64) <<< ((Int32.ofNat ee) &&& 0x3f).toInt64)))), .second, .unset, .unset, .unset, .unset, .unset] [(.int (Int32.ofNat ee)), (.long (Int64.ofNat nn))]))
      refine own_go (fun tgt kst => XS.lshl X0.here hx rfl (hb hby at_50) rfl kst) ?_
      show OwnWk _ _ _ _ (s₁.setTop (mkF m 51 #[.val (.long u), .second, .val (.int q), .val (.long (Int64.ofNat nn)), .second, .val (.int (Int32.ofNat ee)), .val (.double (FP.dmul (FP.l2d (Int64.ofNat nn)) (FP.l2d ((1 : Int64) <<< ((Int32.ofNat ee) &&& 0x3f).toInt64)))), .second, .unset, .unset, .unset, .unset, .unset] [(.long ((Int64.ofNat nn) <<< ((Int32.ofNat ee) &&& 0x3f).toInt64))]))
      refine own_go (fun tgt kst => XS.goto X0.here hx rfl (pc0 := 51) (pc' := 55) rfl (hb hby at_51) (by decide) (by decide) kst) ?_
      show OwnWk _ _ _ _ (s₁.setTop (mkF m 55 #[.val (.long u), .second, .val (.int q), .val (.long (Int64.ofNat nn)), .second, .val (.int (Int32.ofNat ee)), .val (.double (FP.dmul (FP.l2d (Int64.ofNat nn)) (FP.l2d ((1 : Int64) <<< ((Int32.ofNat ee) &&& 0x3f).toInt64)))), .second, .unset, .unset, .unset, .unset, .unset] [(.long ((Int64.ofNat nn) <<< ((Int32.ofNat ee) &&& 0x3f).toInt64))]))
      refine own_go (fun tgt kst => XS.lstore X0.here hx rfl (hb hby at_55) rfl (l' := #[.val (.long u), .second, .val (.int q), .val (.long (Int64.ofNat nn)), .second, .val (.int (Int32.ofNat ee)), .val (.double (FP.dmul (FP.l2d (Int64.ofNat nn)) (FP.l2d ((1 : Int64) <<< ((Int32.ofNat ee) &&& 0x3f).toInt64)))), .second, .val (.long ((Int64.ofNat nn) <<< ((Int32.ofNat ee) &&& 0x3f).toInt64)), .second, .unset, .unset, .unset]) rfl kst) ?_
      show OwnWk _ _ _ _ (s₁.setTop (mkF m 57 #[.val (.long u), .second, .val (.int q), .val (.long (Int64.ofNat nn)), .second, .val (.int (Int32.ofNat ee)), .val (.double (FP.dmul (FP.l2d (Int64.ofNat nn)) (FP.l2d ((1 : Int64) <<< ((Int32.ofNat ee) &&& 0x3f).toInt64)))), .second, .val (.long ((Int64.ofNat nn) <<< ((Int32.ofNat ee) &&& 0x3f).toInt64)), .second, .unset, .unset, .unset] []))
      refine own_go (fun tgt kst => XS.goto X0.here hx rfl (pc0 := 57) (pc' := 100) rfl (hb hby at_57) (by decide) (by decide) kst) ?_
      show OwnWk _ _ _ _ (s₁.setTop (mkF m 100 #[.val (.long u), .second, .val (.int q), .val (.long (Int64.ofNat nn)), .second, .val (.int (Int32.ofNat ee)), .val (.double (FP.dmul (FP.l2d (Int64.ofNat nn)) (FP.l2d ((1 : Int64) <<< ((Int32.ofNat ee) &&& 0x3f).toInt64)))), .second, .val (.long ((Int64.ofNat nn) <<< ((Int32.ofNat ee) &&& 0x3f).toInt64)), .second, .unset, .unset, .unset] []))
      refine own_go (fun tgt kst => XS.dload X0.here hx rfl (hb hby at_100) rfl  kst) ?_
      show OwnWk _ _ _ _ (s₁.setTop (mkF m 102 #[.val (.long u), .second, .val (.int q), .val (.long (Int64.ofNat nn)), .second, .val (.int (Int32.ofNat ee)), .val (.double (FP.dmul (FP.l2d (Int64.ofNat nn)) (FP.l2d ((1 : Int64) <<< ((Int32.ofNat ee) &&& 0x3f).toInt64)))), .second, .val (.long ((Int64.ofNat nn) <<< ((Int32.ofNat ee) &&& 0x3f).toInt64)), .second, .unset, .unset, .unset] [(.double (FP.dmul (FP.l2d (Int64.ofNat nn)) (FP.l2d ((1 : Int64) <<< ((Int32.ofNat ee) &&& 0x3f).toInt64))))]))
      refine own_callS X0 hx hZ (y := (⟨"tidegate/pacing/SpentUntil", "wholeRate", "(D)J"⟩ : MethodName)) hown (hw _ (List.mem_of_getElem? (i := 1) rfl)) (hw _ (List.mem_of_getElem? (i := 2) rfl)) (hw _ (List.mem_of_getElem? (i := 3) rfl)) (hw _ (List.mem_of_getElem? (i := 4) rfl)) (by decide) (argsL := [(.double (FP.dmul (FP.l2d (Int64.ofNat nn)) (FP.l2d ((1 : Int64) <<< ((Int32.ofNat ee) &&& 0x3f).toInt64))))]) (rest := []) (rm := ({ frames := 0, cells := 0, slots := 0, locals := 0 } : Room)) (h := h0) (rm1 l Z a0 hw (FP.dmul (FP.l2d (Int64.ofNat nn)) (FP.l2d ((1 : Int64) <<< ((Int32.ofNat ee) &&& 0x3f).toInt64))) h0 n0 Z0) e0 (W := 0) (by decide) (by decide) (by decide) (by decide) (g := (mkF m 102 #[.val (.long u), .second, .val (.int q), .val (.long (Int64.ofNat nn)), .second, .val (.int (Int32.ofNat ee)), .val (.double (FP.dmul (FP.l2d (Int64.ofNat nn)) (FP.l2d ((1 : Int64) <<< ((Int32.ofNat ee) &&& 0x3f).toInt64)))), .second, .val (.long ((Int64.ofNat nn) <<< ((Int32.ofNat ee) &&& 0x3f).toInt64)), .second, .unset, .unset, .unset] [(.double (FP.dmul (FP.l2d (Int64.ofNat nn)) (FP.l2d ((1 : Int64) <<< ((Int32.ofNat ee) &&& 0x3f).toInt64))))])) rfl (by rw [hml]; rfl) (lenOf pd_0 rfl) rfl (by show 2 * 0 + _ ≤ _; exact Nat.le_of_eq rfl) (hb hby at_102) (fun v3 T3 h3 L3 X3 e3 hQ3 => ?_)
      obtain ⟨rfl, Nq3, q3⟩ := hQ3
      have N3 := Fr.app N0 Nq3
      rw [q3] at e3
      show OwnWk _ _ _ _ (T3.setTop (mkF m 105 #[.val (.long u), .second, .val (.int q), .val (.long (Int64.ofNat nn)), .second, .val (.int (Int32.ofNat ee)), .val (.double (FP.dmul (FP.l2d (Int64.ofNat nn)) (FP.l2d ((1 : Int64) <<< ((Int32.ofNat ee) &&& 0x3f).toInt64)))), .second, .val (.long ((Int64.ofNat nn) <<< ((Int32.ofNat ee) &&& 0x3f).toInt64)), .second, .unset, .unset, .unset] [(.long (own_wr (FP.dmul (FP.l2d (Int64.ofNat nn)) (FP.l2d ((1 : Int64) <<< ((Int32.ofNat ee) &&& 0x3f).toInt64)))))]))
      refine own_go (fun tgt kst => XS.lload X3.here hx rfl (hb hby at_105) rfl  kst) ?_
      show OwnWk _ _ _ _ (T3.setTop (mkF m 107 #[.val (.long u), .second, .val (.int q), .val (.long (Int64.ofNat nn)), .second, .val (.int (Int32.ofNat ee)), .val (.double (FP.dmul (FP.l2d (Int64.ofNat nn)) (FP.l2d ((1 : Int64) <<< ((Int32.ofNat ee) &&& 0x3f).toInt64)))), .second, .val (.long ((Int64.ofNat nn) <<< ((Int32.ofNat ee) &&& 0x3f).toInt64)), .second, .unset, .unset, .unset] [(.long ((Int64.ofNat nn) <<< ((Int32.ofNat ee) &&& 0x3f).toInt64)), (.long (own_wr (FP.dmul (FP.l2d (Int64.ofNat nn)) (FP.l2d ((1 : Int64) <<< ((Int32.ofNat ee) &&& 0x3f).toInt64)))))]))
      refine own_go (fun tgt kst => XS.lcmp X3.here hx rfl (hb hby at_107) rfl kst) ?_
      show OwnWk _ _ _ _ (T3.setTop (mkF m 108 #[.val (.long u), .second, .val (.int q), .val (.long (Int64.ofNat nn)), .second, .val (.int (Int32.ofNat ee)), .val (.double (FP.dmul (FP.l2d (Int64.ofNat nn)) (FP.l2d ((1 : Int64) <<< ((Int32.ofNat ee) &&& 0x3f).toInt64)))), .second, .val (.long ((Int64.ofNat nn) <<< ((Int32.ofNat ee) &&& 0x3f).toInt64)), .second, .unset, .unset, .unset] [(.int (lcmpW (own_wr (FP.dmul (FP.l2d (Int64.ofNat nn)) (FP.l2d ((1 : Int64) <<< ((Int32.ofNat ee) &&& 0x3f).toInt64)))) ((Int64.ofNat nn) <<< ((Int32.ofNat ee) &&& 0x3f).toInt64)))]))
      refine own_go (fun tgt kst => XS.ifNo X3.here hx rfl (hb hby at_108) rfl ((if0 _ _).trans (teq (own_lc_eq.mpr (A1.2.trans ((if_pos (Classical.not_not.mp (fun z => hc1 ((own_gt n2 e1').mpr z)))).trans (own_shl (Nat.lt_of_le_of_lt e1' (by decide))).symm)))).2) kst) ?_
      show OwnWk _ _ _ _ (T3.setTop (mkF m 111 #[.val (.long u), .second, .val (.int q), .val (.long (Int64.ofNat nn)), .second, .val (.int (Int32.ofNat ee)), .val (.double (FP.dmul (FP.l2d (Int64.ofNat nn)) (FP.l2d ((1 : Int64) <<< ((Int32.ofNat ee) &&& 0x3f).toInt64)))), .second, .val (.long ((Int64.ofNat nn) <<< ((Int32.ofNat ee) &&& 0x3f).toInt64)), .second, .unset, .unset, .unset] []))
      refine own_go (fun tgt kst => XS.iconst X3.here hx rfl (hb hby at_111) kst) ?_
      show OwnWk _ _ _ _ (T3.setTop (mkF m 112 #[.val (.long u), .second, .val (.int q), .val (.long (Int64.ofNat nn)), .second, .val (.int (Int32.ofNat ee)), .val (.double (FP.dmul (FP.l2d (Int64.ofNat nn)) (FP.l2d ((1 : Int64) <<< ((Int32.ofNat ee) &&& 0x3f).toInt64)))), .second, .val (.long ((Int64.ofNat nn) <<< ((Int32.ofNat ee) &&& 0x3f).toInt64)), .second, .unset, .unset, .unset] [(.int (1 : Int32))]))
      refine own_go (fun tgt kst => XS.goto X3.here hx rfl (pc0 := 112) (pc' := 116) rfl (hb hby at_112) (by decide) (by decide) kst) ?_
      show OwnWk _ _ _ _ (T3.setTop (mkF m 116 #[.val (.long u), .second, .val (.int q), .val (.long (Int64.ofNat nn)), .second, .val (.int (Int32.ofNat ee)), .val (.double (FP.dmul (FP.l2d (Int64.ofNat nn)) (FP.l2d ((1 : Int64) <<< ((Int32.ofNat ee) &&& 0x3f).toInt64)))), .second, .val (.long ((Int64.ofNat nn) <<< ((Int32.ofNat ee) &&& 0x3f).toInt64)), .second, .unset, .unset, .unset] [(.int (1 : Int32))]))
      exact own_retZ X3 hx hlk hret (by simp) (z' := (1 : Int32)) rfl (hb hby at_116) (by decide) (by decide) (by rw [e3]; exact ⟨rfl, N3⟩)
  ·
    rw [k3']
    show OwnWk _ _ _ _ (s₁.setTop (mkF m 18 #[.val (.long u), .second, .val (.int q), .val (.long (Int64.ofNat nn)), .second, .unset, .unset, .unset, .unset, .unset, .unset, .unset, .unset] [(.int (-Int32.ofNat kk))]))
    have B1 := own_B n1 n2 k1' k2' (own_ofN n3) (own_oneI (Nat.le_trans k2' (by decide)))
    refine own_go (fun tgt kst => XS.istore X0.here hx rfl (hb hby at_18) rfl (l' := #[.val (.long u), .second, .val (.int q), .val (.long (Int64.ofNat nn)), .second, .val (.int (-Int32.ofNat kk)), .unset, .unset, .unset, .unset, .unset, .unset, .unset]) rfl kst) ?_
    show OwnWk _ _ _ _ (s₁.setTop (mkF m 20 #[.val (.long u), .second, .val (.int q), .val (.long (Int64.ofNat nn)), .second, .val (.int (-Int32.ofNat kk)), .unset, .unset, .unset, .unset, .unset, .unset, .unset] []))
    refine own_go (fun tgt kst => XS.iload X0.here hx rfl (hb hby at_20) rfl  kst) ?_
    show OwnWk _ _ _ _ (s₁.setTop (mkF m 22 #[.val (.long u), .second, .val (.int q), .val (.long (Int64.ofNat nn)), .second, .val (.int (-Int32.ofNat kk)), .unset, .unset, .unset, .unset, .unset, .unset, .unset] [(.int (-Int32.ofNat kk))]))
    refine own_go (fun tgt kst => XS.ifYes X0.here hx rfl (pc0 := 22) (pc' := 60) rfl (hb hby at_22) rfl ((if0 _ _).trans (tlt (own_kneg kk (Nat.lt_succ_of_le k2') k1')).1) (by decide) (by decide) kst) ?_
    show OwnWk _ _ _ _ (s₁.setTop (mkF m 60 #[.val (.long u), .second, .val (.int q), .val (.long (Int64.ofNat nn)), .second, .val (.int (-Int32.ofNat kk)), .unset, .unset, .unset, .unset, .unset, .unset, .unset] []))
    refine own_go (fun tgt kst => XS.iload X0.here hx rfl (hb hby at_60) rfl  kst) ?_
    show OwnWk _ _ _ _ (s₁.setTop (mkF m 62 #[.val (.long u), .second, .val (.int q), .val (.long (Int64.ofNat nn)), .second, .val (.int (-Int32.ofNat kk)), .unset, .unset, .unset, .unset, .unset, .unset, .unset] [(.int (-Int32.ofNat kk))]))
    refine own_go (fun tgt kst => XS.ineg X0.here hx rfl (hb hby at_62) rfl kst) ?_
    show OwnWk _ _ _ _ (s₁.setTop (mkF m 63 #[.val (.long u), .second, .val (.int q), .val (.long (Int64.ofNat nn)), .second, .val (.int (-Int32.ofNat kk)), .unset, .unset, .unset, .unset, .unset, .unset, .unset] [(.int (-(-Int32.ofNat kk)))]))
    rw [Int32.neg_neg]
    show OwnWk _ _ _ _ (s₁.setTop (mkF m 63 #[.val (.long u), .second, .val (.int q), .val (.long (Int64.ofNat nn)), .second, .val (.int (-Int32.ofNat kk)), .unset, .unset, .unset, .unset, .unset, .unset, .unset] [(.int (Int32.ofNat kk))]))
    refine own_go (fun tgt kst => XS.istore X0.here hx rfl (hb hby at_63) rfl (l' := #[.val (.long u), .second, .val (.int q), .val (.long (Int64.ofNat nn)), .second, .val (.int (-Int32.ofNat kk)), .unset, .unset, .unset, .unset, .val (.int (Int32.ofNat kk)), .unset, .unset]) rfl kst) ?_
    show OwnWk _ _ _ _ (s₁.setTop (mkF m 65 #[.val (.long u), .second, .val (.int q), .val (.long (Int64.ofNat nn)), .second, .val (.int (-Int32.ofNat kk)), .unset, .unset, .unset, .unset, .val (.int (Int32.ofNat kk)), .unset, .unset] []))
    refine own_go (fun tgt kst => XS.lconst X0.here hx rfl (hb hby at_65) kst) ?_
    show OwnWk _ _ _ _ (s₁.setTop (mkF m 66 #[.val (.long u), .second, .val (.int q), .val (.long (Int64.ofNat nn)), .second, .val (.int (-Int32.ofNat kk)), .unset, .unset, .unset, .unset, .val (.int (Int32.ofNat kk)), .unset, .unset] [(.long (1 : Int64))]))
    refine own_go (fun tgt kst => XS.iload X0.here hx rfl (hb hby at_66) rfl  kst) ?_
    show OwnWk _ _ _ _ (s₁.setTop (mkF m 68 #[.val (.long u), .second, .val (.int q), .val (.long (Int64.ofNat nn)), .second, .val (.int (-Int32.ofNat kk)), .unset, .unset, .unset, .unset, .val (.int (Int32.ofNat kk)), .unset, .unset] [(.int (Int32.ofNat kk)), (.long (1 : Int64))]))
    refine own_go (fun tgt kst => XS.lshl X0.here hx rfl (hb hby at_68) rfl kst) ?_
    show OwnWk _ _ _ _ (s₁.setTop (mkF m 69 #[.val (.long u), .second, .val (.int q), .val (.long (Int64.ofNat nn)), .second, .val (.int (-Int32.ofNat kk)), .unset, .unset, .unset, .unset, .val (.int (Int32.ofNat kk)), .unset, .unset] [(.long ((1 : Int64) <<< ((Int32.ofNat kk) &&& 0x3f).toInt64))]))
    refine own_go (fun tgt kst => XS.lstore X0.here hx rfl (hb hby at_69) rfl (l' := #[.val (.long u), .second, .val (.int q), .val (.long (Int64.ofNat nn)), .second, .val (.int (-Int32.ofNat kk)), .unset, .unset, .unset, .unset, .val (.int (Int32.ofNat kk)), .val (.long ((1 : Int64) <<< ((Int32.ofNat kk) &&& 0x3f).toInt64)), .second]) rfl kst) ?_
    show OwnWk _ _ _ _ (s₁.setTop (mkF m 71 #[.val (.long u), .second, .val (.int q), .val (.long (Int64.ofNat nn)), .second, .val (.int (-Int32.ofNat kk)), .unset, .unset, .unset, .unset, .val (.int (Int32.ofNat kk)), .val (.long ((1 : Int64) <<< ((Int32.ofNat kk) &&& 0x3f).toInt64)), .second] []))
    refine own_go (fun tgt kst => XS.lloadN X0.here hx rfl (hb hby at_71) rfl  kst) ?_
    show OwnWk _ _ _ _ (s₁.setTop (mkF m 72 #[.val (.long u), .second, .val (.int q), .val (.long (Int64.ofNat nn)), .second, .val (.int (-Int32.ofNat kk)), .unset, .unset, .unset, .unset, .val (.int (Int32.ofNat kk)), .val (.long ((1 : Int64) <<< ((Int32.ofNat kk) &&& 0x3f).toInt64)), .second] [(.long (Int64.ofNat nn))]))
    refine own_go (fun tgt kst => XS.l2dS X0.here hx rfl (hb hby at_72) rfl rfl kst) ?_
    show OwnWk _ _ _ _ (s₁.setTop (mkF m 73 #[.val (.long u), .second, .val (.int q), .val (.long (Int64.ofNat nn)), .second, .val (.int (-Int32.ofNat kk)), .unset, .unset, .unset, .unset, .val (.int (Int32.ofNat kk)), .val (.long ((1 : Int64) <<< ((Int32.ofNat kk) &&& 0x3f).toInt64)), .second] [(.double (FP.l2d (Int64.ofNat nn)))]))
    refine own_go (fun tgt kst => XS.lload X0.here hx rfl (hb hby at_73) rfl  kst) ?_
    show OwnWk _ _ _ _ (s₁.setTop (mkF m 75 #[.val (.long u), .second, .val (.int q), .val (.long (Int64.ofNat nn)), .second, .val (.int (-Int32.ofNat kk)), .unset, .unset, .unset, .unset, .val (.int (Int32.ofNat kk)), .val (.long ((1 : Int64) <<< ((Int32.ofNat kk) &&& 0x3f).toInt64)), .second] [(.long ((1 : Int64) <<< ((Int32.ofNat kk) &&& 0x3f).toInt64)), (.double (FP.l2d (Int64.ofNat nn)))]))
    refine own_go (fun tgt kst => XS.l2dS X0.here hx rfl (hb hby at_75) rfl rfl kst) ?_
    show OwnWk _ _ _ _ (s₁.setTop (mkF m 76 #[.val (.long u), .second, .val (.int q), .val (.long (Int64.ofNat nn)), .second, .val (.int (-Int32.ofNat kk)), .unset, .unset, .unset, .unset, .val (.int (Int32.ofNat kk)), .val (.long ((1 : Int64) <<< ((Int32.ofNat kk) &&& 0x3f).toInt64)), .second] [(.double (FP.l2d ((1 : Int64) <<< ((Int32.ofNat kk) &&& 0x3f).toInt64))), (.double (FP.l2d (Int64.ofNat nn)))]))
    refine own_go (fun tgt kst => XS.ddivS X0.here hx rfl (hb hby at_76) rfl B1.1 rfl kst) ?_
    show OwnWk _ _ _ _ (s₁.setTop (mkF m 77 #[.val (.long u), .second, .val (.int q), .val (.long (Int64.ofNat nn)), .second, .val (.int (-Int32.ofNat kk)), .unset, .unset, .unset, .unset, .val (.int (Int32.ofNat kk)), .val (.long ((1 : Int64) <<< ((Int32.ofNat kk) &&& 0x3f).toInt64)), .second] [(.double (FP.ddiv (FP.l2d (Int64.ofNat nn)) (FP.l2d ((1 : Int64) <<< ((Int32.ofNat kk) &&& 0x3f).toInt64))))]))
    refine own_go (fun tgt kst => XS.dstore X0.here hx rfl (hb hby at_77) rfl (l' := #[.val (.long u), .second, .val (.int q), .val (.long (Int64.ofNat nn)), .second, .val (.int (-Int32.ofNat kk)), .val (.double (FP.ddiv (FP.l2d (Int64.ofNat nn)) (FP.l2d ((1 : Int64) <<< ((Int32.ofNat kk) &&& 0x3f).toInt64)))), .second, .unset, .unset, .val (.int (Int32.ofNat kk)), .val (.long ((1 : Int64) <<< ((Int32.ofNat kk) &&& 0x3f).toInt64)), .second]) rfl kst) ?_
    show OwnWk _ _ _ _ (s₁.setTop (mkF m 79 #[.val (.long u), .second, .val (.int q), .val (.long (Int64.ofNat nn)), .second, .val (.int (-Int32.ofNat kk)), .val (.double (FP.ddiv (FP.l2d (Int64.ofNat nn)) (FP.l2d ((1 : Int64) <<< ((Int32.ofNat kk) &&& 0x3f).toInt64)))), .second, .unset, .unset, .val (.int (Int32.ofNat kk)), .val (.long ((1 : Int64) <<< ((Int32.ofNat kk) &&& 0x3f).toInt64)), .second] []))
    refine own_go (fun tgt kst => XS.lloadN X0.here hx rfl (hb hby at_79) rfl  kst) ?_
    show OwnWk _ _ _ _ (s₁.setTop (mkF m 80 #[.val (.long u), .second, .val (.int q), .val (.long (Int64.ofNat nn)), .second, .val (.int (-Int32.ofNat kk)), .val (.double (FP.ddiv (FP.l2d (Int64.ofNat nn)) (FP.l2d ((1 : Int64) <<< ((Int32.ofNat kk) &&& 0x3f).toInt64)))), .second, .unset, .unset, .val (.int (Int32.ofNat kk)), .val (.long ((1 : Int64) <<< ((Int32.ofNat kk) &&& 0x3f).toInt64)), .second] [(.long (Int64.ofNat nn))]))
    refine own_go (fun tgt kst => XS.lload X0.here hx rfl (hb hby at_80) rfl  kst) ?_
    show OwnWk _ _ _ _ (s₁.setTop (mkF m 82 #[.val (.long u), .second, .val (.int q), .val (.long (Int64.ofNat nn)), .second, .val (.int (-Int32.ofNat kk)), .val (.double (FP.ddiv (FP.l2d (Int64.ofNat nn)) (FP.l2d ((1 : Int64) <<< ((Int32.ofNat kk) &&& 0x3f).toInt64)))), .second, .unset, .unset, .val (.int (Int32.ofNat kk)), .val (.long ((1 : Int64) <<< ((Int32.ofNat kk) &&& 0x3f).toInt64)), .second] [(.long ((1 : Int64) <<< ((Int32.ofNat kk) &&& 0x3f).toInt64)), (.long (Int64.ofNat nn))]))
    refine own_go (fun tgt kst => XS.lconst X0.here hx rfl (hb hby at_82) kst) ?_
    show OwnWk _ _ _ _ (s₁.setTop (mkF m 83 #[.val (.long u), .second, .val (.int q), .val (.long (Int64.ofNat nn)), .second, .val (.int (-Int32.ofNat kk)), .val (.double (FP.ddiv (FP.l2d (Int64.ofNat nn)) (FP.l2d ((1 : Int64) <<< ((Int32.ofNat kk) &&& 0x3f).toInt64)))), .second, .unset, .unset, .val (.int (Int32.ofNat kk)), .val (.long ((1 : Int64) <<< ((Int32.ofNat kk) &&& 0x3f).toInt64)), .second] [(.long (1 : Int64)), (.long ((1 : Int64) <<< ((Int32.ofNat kk) &&& 0x3f).toInt64)), (.long (Int64.ofNat nn))]))
    refine own_go (fun tgt kst => XS.lsub X0.here hx rfl (hb hby at_83) rfl kst) ?_
    show OwnWk _ _ _ _ (s₁.setTop (mkF m 84 #[.val (.long u), .second, .val (.int q), .val (.long (Int64.ofNat nn)), .second, .val (.int (-Int32.ofNat kk)), .val (.double (FP.ddiv (FP.l2d (Int64.ofNat nn)) (FP.l2d ((1 : Int64) <<< ((Int32.ofNat kk) &&& 0x3f).toInt64)))), .second, .unset, .unset, .val (.int (Int32.ofNat kk)), .val (.long ((1 : Int64) <<< ((Int32.ofNat kk) &&& 0x3f).toInt64)), .second] [(.long (((1 : Int64) <<< ((Int32.ofNat kk) &&& 0x3f).toInt64) - (1 : Int64))), (.long (Int64.ofNat nn))]))
    refine own_go (fun tgt kst => XS.land X0.here hx rfl (hb hby at_84) rfl kst) ?_
    show OwnWk _ _ _ _ (s₁.setTop (mkF m 85 #[.val (.long u), .second, .val (.int q), .val (.long (Int64.ofNat nn)), .second, .val (.int (-Int32.ofNat kk)), .val (.double (FP.ddiv (FP.l2d (Int64.ofNat nn)) (FP.l2d ((1 : Int64) <<< ((Int32.ofNat kk) &&& 0x3f).toInt64)))), .second, .unset, .unset, .val (.int (Int32.ofNat kk)), .val (.long ((1 : Int64) <<< ((Int32.ofNat kk) &&& 0x3f).toInt64)), .second] [(.long ((Int64.ofNat nn) &&& (((1 : Int64) <<< ((Int32.ofNat kk) &&& 0x3f).toInt64) - (1 : Int64))))]))
    refine own_go (fun tgt kst => XS.lconst X0.here hx rfl (hb hby at_85) kst) ?_
    show OwnWk _ _ _ _ (s₁.setTop (mkF m 86 #[.val (.long u), .second, .val (.int q), .val (.long (Int64.ofNat nn)), .second, .val (.int (-Int32.ofNat kk)), .val (.double (FP.ddiv (FP.l2d (Int64.ofNat nn)) (FP.l2d ((1 : Int64) <<< ((Int32.ofNat kk) &&& 0x3f).toInt64)))), .second, .unset, .unset, .val (.int (Int32.ofNat kk)), .val (.long ((1 : Int64) <<< ((Int32.ofNat kk) &&& 0x3f).toInt64)), .second] [(.long (0 : Int64)), (.long ((Int64.ofNat nn) &&& (((1 : Int64) <<< ((Int32.ofNat kk) &&& 0x3f).toInt64) - (1 : Int64))))]))
    refine own_go (fun tgt kst => XS.lcmp X0.here hx rfl (hb hby at_86) rfl kst) ?_
    show OwnWk _ _ _ _ (s₁.setTop (mkF m 87 #[.val (.long u), .second, .val (.int q), .val (.long (Int64.ofNat nn)), .second, .val (.int (-Int32.ofNat kk)), .val (.double (FP.ddiv (FP.l2d (Int64.ofNat nn)) (FP.l2d ((1 : Int64) <<< ((Int32.ofNat kk) &&& 0x3f).toInt64)))), .second, .unset, .unset, .val (.int (Int32.ofNat kk)), .val (.long ((1 : Int64) <<< ((Int32.ofNat kk) &&& 0x3f).toInt64)), .second] [(.int (lcmpW ((Int64.ofNat nn) &&& (((1 : Int64) <<< ((Int32.ofNat kk) &&& 0x3f).toInt64) - (1 : Int64))) (0 : Int64)))]))
    by_cases hc4 : ((Int64.ofNat nn) &&& (((1 : Int64) <<< ((Int32.ofNat kk) &&& 0x3f).toInt64) - (1 : Int64))) = (0 : Int64)
    ·
      refine own_go (fun tgt kst => XS.ifNo X0.here hx rfl (hb hby at_87) rfl ((if0 _ _).trans (teq (own_lc_eq.mpr hc4)).2) kst) ?_
      show OwnWk _ _ _ _ (s₁.setTop (mkF m 90 #[.val (.long u), .second, .val (.int q), .val (.long (Int64.ofNat nn)), .second, .val (.int (-Int32.ofNat kk)), .val (.double (FP.ddiv (FP.l2d (Int64.ofNat nn)) (FP.l2d ((1 : Int64) <<< ((Int32.ofNat kk) &&& 0x3f).toInt64)))), .second, .unset, .unset, .val (.int (Int32.ofNat kk)), .val (.long ((1 : Int64) <<< ((Int32.ofNat kk) &&& 0x3f).toInt64)), .second] []))
      refine own_go (fun tgt kst => XS.lloadN X0.here hx rfl (hb hby at_90) rfl  kst) ?_
      show OwnWk _ _ _ _ (s₁.setTop (mkF m 91 #[.val (.long u), .second, .val (.int q), .val (.long (Int64.ofNat nn)), .second, .val (.int (-Int32.ofNat kk)), .val (.double (FP.ddiv (FP.l2d (Int64.ofNat nn)) (FP.l2d ((1 : Int64) <<< ((Int32.ofNat kk) &&& 0x3f).toInt64)))), .second, .unset, .unset, .val (.int (Int32.ofNat kk)), .val (.long ((1 : Int64) <<< ((Int32.ofNat kk) &&& 0x3f).toInt64)), .second] [(.long (Int64.ofNat nn))]))
      refine own_go (fun tgt kst => XS.iload X0.here hx rfl (hb hby at_91) rfl  kst) ?_
      show OwnWk _ _ _ _ (s₁.setTop (mkF m 93 #[.val (.long u), .second, .val (.int q), .val (.long (Int64.ofNat nn)), .second, .val (.int (-Int32.ofNat kk)), .val (.double (FP.ddiv (FP.l2d (Int64.ofNat nn)) (FP.l2d ((1 : Int64) <<< ((Int32.ofNat kk) &&& 0x3f).toInt64)))), .second, .unset, .unset, .val (.int (Int32.ofNat kk)), .val (.long ((1 : Int64) <<< ((Int32.ofNat kk) &&& 0x3f).toInt64)), .second] [(.int (Int32.ofNat kk)), (.long (Int64.ofNat nn))]))
      refine own_go (fun tgt kst => XS.lshr X0.here hx rfl (hb hby at_93) rfl kst) ?_
      show OwnWk _ _ _ _ (s₁.setTop (mkF m 94 #[.val (.long u), .second, .val (.int q), .val (.long (Int64.ofNat nn)), .second, .val (.int (-Int32.ofNat kk)), .val (.double (FP.ddiv (FP.l2d (Int64.ofNat nn)) (FP.l2d ((1 : Int64) <<< ((Int32.ofNat kk) &&& 0x3f).toInt64)))), .second, .unset, .unset, .val (.int (Int32.ofNat kk)), .val (.long ((1 : Int64) <<< ((Int32.ofNat kk) &&& 0x3f).toInt64)), .second] [(.long ((Int64.ofNat nn) >>> ((Int32.ofNat kk) &&& 0x3f).toInt64))]))
      refine own_go (fun tgt kst => XS.goto X0.here hx rfl (pc0 := 94) (pc' := 98) rfl (hb hby at_94) (by decide) (by decide) kst) ?_
      show OwnWk _ _ _ _ (s₁.setTop (mkF m 98 #[.val (.long u), .second, .val (.int q), .val (.long (Int64.ofNat nn)), .second, .val (.int (-Int32.ofNat kk)), .val (.double (FP.ddiv (FP.l2d (Int64.ofNat nn)) (FP.l2d ((1 : Int64) <<< ((Int32.ofNat kk) &&& 0x3f).toInt64)))), .second, .unset, .unset, .val (.int (Int32.ofNat kk)), .val (.long ((1 : Int64) <<< ((Int32.ofNat kk) &&& 0x3f).toInt64)), .second] [(.long ((Int64.ofNat nn) >>> ((Int32.ofNat kk) &&& 0x3f).toInt64))]))
      refine own_go (fun tgt kst => XS.lstore X0.here hx rfl (hb hby at_98) rfl (l' := #[.val (.long u), .second, .val (.int q), .val (.long (Int64.ofNat nn)), .second, .val (.int (-Int32.ofNat kk)), .val (.double (FP.ddiv (FP.l2d (Int64.ofNat nn)) (FP.l2d ((1 : Int64) <<< ((Int32.ofNat kk) &&& 0x3f).toInt64)))), .second, .val (.long ((Int64.ofNat nn) >>> ((Int32.ofNat kk) &&& 0x3f).toInt64)), .second, .val (.int (Int32.ofNat kk)), .val (.long ((1 : Int64) <<< ((Int32.ofNat kk) &&& 0x3f).toInt64)), .second]) rfl kst) ?_
      show OwnWk _ _ _ _ (s₁.setTop (mkF m 100 #[.val (.long u), .second, .val (.int q), .val (.long (Int64.ofNat nn)), .second, .val (.int (-Int32.ofNat kk)), .val (.double (FP.ddiv (FP.l2d (Int64.ofNat nn)) (FP.l2d ((1 : Int64) <<< ((Int32.ofNat kk) &&& 0x3f).toInt64)))), .second, .val (.long ((Int64.ofNat nn) >>> ((Int32.ofNat kk) &&& 0x3f).toInt64)), .second, .val (.int (Int32.ofNat kk)), .val (.long ((1 : Int64) <<< ((Int32.ofNat kk) &&& 0x3f).toInt64)), .second] []))
      refine own_go (fun tgt kst => XS.dload X0.here hx rfl (hb hby at_100) rfl  kst) ?_
      show OwnWk _ _ _ _ (s₁.setTop (mkF m 102 #[.val (.long u), .second, .val (.int q), .val (.long (Int64.ofNat nn)), .second, .val (.int (-Int32.ofNat kk)), .val (.double (FP.ddiv (FP.l2d (Int64.ofNat nn)) (FP.l2d ((1 : Int64) <<< ((Int32.ofNat kk) &&& 0x3f).toInt64)))), .second, .val (.long ((Int64.ofNat nn) >>> ((Int32.ofNat kk) &&& 0x3f).toInt64)), .second, .val (.int (Int32.ofNat kk)), .val (.long ((1 : Int64) <<< ((Int32.ofNat kk) &&& 0x3f).toInt64)), .second] [(.double (FP.ddiv (FP.l2d (Int64.ofNat nn)) (FP.l2d ((1 : Int64) <<< ((Int32.ofNat kk) &&& 0x3f).toInt64))))]))
      refine own_callS X0 hx hZ (y := (⟨"tidegate/pacing/SpentUntil", "wholeRate", "(D)J"⟩ : MethodName)) hown (hw _ (List.mem_of_getElem? (i := 1) rfl)) (hw _ (List.mem_of_getElem? (i := 2) rfl)) (hw _ (List.mem_of_getElem? (i := 3) rfl)) (hw _ (List.mem_of_getElem? (i := 4) rfl)) (by decide) (argsL := [(.double (FP.ddiv (FP.l2d (Int64.ofNat nn)) (FP.l2d ((1 : Int64) <<< ((Int32.ofNat kk) &&& 0x3f).toInt64))))]) (rest := []) (rm := ({ frames := 0, cells := 0, slots := 0, locals := 0 } : Room)) (h := h0) (rm1 l Z a0 hw (FP.ddiv (FP.l2d (Int64.ofNat nn)) (FP.l2d ((1 : Int64) <<< ((Int32.ofNat kk) &&& 0x3f).toInt64))) h0 n0 Z0) e0 (W := 0) (by decide) (by decide) (by decide) (by decide) (g := (mkF m 102 #[.val (.long u), .second, .val (.int q), .val (.long (Int64.ofNat nn)), .second, .val (.int (-Int32.ofNat kk)), .val (.double (FP.ddiv (FP.l2d (Int64.ofNat nn)) (FP.l2d ((1 : Int64) <<< ((Int32.ofNat kk) &&& 0x3f).toInt64)))), .second, .val (.long ((Int64.ofNat nn) >>> ((Int32.ofNat kk) &&& 0x3f).toInt64)), .second, .val (.int (Int32.ofNat kk)), .val (.long ((1 : Int64) <<< ((Int32.ofNat kk) &&& 0x3f).toInt64)), .second] [(.double (FP.ddiv (FP.l2d (Int64.ofNat nn)) (FP.l2d ((1 : Int64) <<< ((Int32.ofNat kk) &&& 0x3f).toInt64))))])) rfl (by rw [hml]; rfl) (lenOf pd_0 rfl) rfl (by show 2 * 0 + _ ≤ _; exact Nat.le_of_eq rfl) (hb hby at_102) (fun v5 T5 h5 L5 X5 e5 hQ5 => ?_)
      obtain ⟨rfl, Nq5, q5⟩ := hQ5
      have N5 := Fr.app N0 Nq5
      rw [q5] at e5
      show OwnWk _ _ _ _ (T5.setTop (mkF m 105 #[.val (.long u), .second, .val (.int q), .val (.long (Int64.ofNat nn)), .second, .val (.int (-Int32.ofNat kk)), .val (.double (FP.ddiv (FP.l2d (Int64.ofNat nn)) (FP.l2d ((1 : Int64) <<< ((Int32.ofNat kk) &&& 0x3f).toInt64)))), .second, .val (.long ((Int64.ofNat nn) >>> ((Int32.ofNat kk) &&& 0x3f).toInt64)), .second, .val (.int (Int32.ofNat kk)), .val (.long ((1 : Int64) <<< ((Int32.ofNat kk) &&& 0x3f).toInt64)), .second] [(.long (own_wr (FP.ddiv (FP.l2d (Int64.ofNat nn)) (FP.l2d ((1 : Int64) <<< ((Int32.ofNat kk) &&& 0x3f).toInt64)))))]))
      refine own_go (fun tgt kst => XS.lload X5.here hx rfl (hb hby at_105) rfl  kst) ?_
      show OwnWk _ _ _ _ (T5.setTop (mkF m 107 #[.val (.long u), .second, .val (.int q), .val (.long (Int64.ofNat nn)), .second, .val (.int (-Int32.ofNat kk)), .val (.double (FP.ddiv (FP.l2d (Int64.ofNat nn)) (FP.l2d ((1 : Int64) <<< ((Int32.ofNat kk) &&& 0x3f).toInt64)))), .second, .val (.long ((Int64.ofNat nn) >>> ((Int32.ofNat kk) &&& 0x3f).toInt64)), .second, .val (.int (Int32.ofNat kk)), .val (.long ((1 : Int64) <<< ((Int32.ofNat kk) &&& 0x3f).toInt64)), .second] [(.long ((Int64.ofNat nn) >>> ((Int32.ofNat kk) &&& 0x3f).toInt64)), (.long (own_wr (FP.ddiv (FP.l2d (Int64.ofNat nn)) (FP.l2d ((1 : Int64) <<< ((Int32.ofNat kk) &&& 0x3f).toInt64)))))]))
      refine own_go (fun tgt kst => XS.lcmp X5.here hx rfl (hb hby at_107) rfl kst) ?_
      show OwnWk _ _ _ _ (T5.setTop (mkF m 108 #[.val (.long u), .second, .val (.int q), .val (.long (Int64.ofNat nn)), .second, .val (.int (-Int32.ofNat kk)), .val (.double (FP.ddiv (FP.l2d (Int64.ofNat nn)) (FP.l2d ((1 : Int64) <<< ((Int32.ofNat kk) &&& 0x3f).toInt64)))), .second, .val (.long ((Int64.ofNat nn) >>> ((Int32.ofNat kk) &&& 0x3f).toInt64)), .second, .val (.int (Int32.ofNat kk)), .val (.long ((1 : Int64) <<< ((Int32.ofNat kk) &&& 0x3f).toInt64)), .second] [(.int (lcmpW (own_wr (FP.ddiv (FP.l2d (Int64.ofNat nn)) (FP.l2d ((1 : Int64) <<< ((Int32.ofNat kk) &&& 0x3f).toInt64)))) ((Int64.ofNat nn) >>> ((Int32.ofNat kk) &&& 0x3f).toInt64)))]))
      refine own_go (fun tgt kst => XS.ifNo X5.here hx rfl (hb hby at_108) rfl ((if0 _ _).trans (teq (own_lc_eq.mpr (B1.2.trans ((if_pos ((own_low n2 k2').mp hc4)).trans (own_shr n2 k2').symm)))).2) kst) ?_
      show OwnWk _ _ _ _ (T5.setTop (mkF m 111 #[.val (.long u), .second, .val (.int q), .val (.long (Int64.ofNat nn)), .second, .val (.int (-Int32.ofNat kk)), .val (.double (FP.ddiv (FP.l2d (Int64.ofNat nn)) (FP.l2d ((1 : Int64) <<< ((Int32.ofNat kk) &&& 0x3f).toInt64)))), .second, .val (.long ((Int64.ofNat nn) >>> ((Int32.ofNat kk) &&& 0x3f).toInt64)), .second, .val (.int (Int32.ofNat kk)), .val (.long ((1 : Int64) <<< ((Int32.ofNat kk) &&& 0x3f).toInt64)), .second] []))
      refine own_go (fun tgt kst => XS.iconst X5.here hx rfl (hb hby at_111) kst) ?_
      show OwnWk _ _ _ _ (T5.setTop (mkF m 112 #[.val (.long u), .second, .val (.int q), .val (.long (Int64.ofNat nn)), .second, .val (.int (-Int32.ofNat kk)), .val (.double (FP.ddiv (FP.l2d (Int64.ofNat nn)) (FP.l2d ((1 : Int64) <<< ((Int32.ofNat kk) &&& 0x3f).toInt64)))), .second, .val (.long ((Int64.ofNat nn) >>> ((Int32.ofNat kk) &&& 0x3f).toInt64)), .second, .val (.int (Int32.ofNat kk)), .val (.long ((1 : Int64) <<< ((Int32.ofNat kk) &&& 0x3f).toInt64)), .second] [(.int (1 : Int32))]))
      refine own_go (fun tgt kst => XS.goto X5.here hx rfl (pc0 := 112) (pc' := 116) rfl (hb hby at_112) (by decide) (by decide) kst) ?_
      show OwnWk _ _ _ _ (T5.setTop (mkF m 116 #[.val (.long u), .second, .val (.int q), .val (.long (Int64.ofNat nn)), .second, .val (.int (-Int32.ofNat kk)), .val (.double (FP.ddiv (FP.l2d (Int64.ofNat nn)) (FP.l2d ((1 : Int64) <<< ((Int32.ofNat kk) &&& 0x3f).toInt64)))), .second, .val (.long ((Int64.ofNat nn) >>> ((Int32.ofNat kk) &&& 0x3f).toInt64)), .second, .val (.int (Int32.ofNat kk)), .val (.long ((1 : Int64) <<< ((Int32.ofNat kk) &&& 0x3f).toInt64)), .second] [(.int (1 : Int32))]))
      exact own_retZ X5 hx hlk hret (by simp) (z' := (1 : Int32)) rfl (hb hby at_116) (by decide) (by decide) (by rw [e5]; exact ⟨rfl, N5⟩)
    ·
      refine own_go (fun tgt kst => XS.ifYes X0.here hx rfl (pc0 := 87) (pc' := 97) rfl (hb hby at_87) rfl ((if0 _ _).trans (feq (fun q => hc4 (own_lc_eq.mp q))).2) (by decide) (by decide) kst) ?_
      show OwnWk _ _ _ _ (s₁.setTop (mkF m 97 #[.val (.long u), .second, .val (.int q), .val (.long (Int64.ofNat nn)), .second, .val (.int (-Int32.ofNat kk)), .val (.double (FP.ddiv (FP.l2d (Int64.ofNat nn)) (FP.l2d ((1 : Int64) <<< ((Int32.ofNat kk) &&& 0x3f).toInt64)))), .second, .unset, .unset, .val (.int (Int32.ofNat kk)), .val (.long ((1 : Int64) <<< ((Int32.ofNat kk) &&& 0x3f).toInt64)), .second] []))
      refine own_go (fun tgt kst => XS.lconst X0.here hx rfl (hb hby at_97) kst) ?_
      show OwnWk _ _ _ _ (s₁.setTop (mkF m 98 #[.val (.long u), .second, .val (.int q), .val (.long (Int64.ofNat nn)), .second, .val (.int (-Int32.ofNat kk)), .val (.double (FP.ddiv (FP.l2d (Int64.ofNat nn)) (FP.l2d ((1 : Int64) <<< ((Int32.ofNat kk) &&& 0x3f).toInt64)))), .second, .unset, .unset, .val (.int (Int32.ofNat kk)), .val (.long ((1 : Int64) <<< ((Int32.ofNat kk) &&& 0x3f).toInt64)), .second] [(.long (0 : Int64))]))
      refine own_go (fun tgt kst => XS.lstore X0.here hx rfl (hb hby at_98) rfl (l' := #[.val (.long u), .second, .val (.int q), .val (.long (Int64.ofNat nn)), .second, .val (.int (-Int32.ofNat kk)), .val (.double (FP.ddiv (FP.l2d (Int64.ofNat nn)) (FP.l2d ((1 : Int64) <<< ((Int32.ofNat kk) &&& 0x3f).toInt64)))), .second, .val (.long (0 : Int64)), .second, .val (.int (Int32.ofNat kk)), .val (.long ((1 : Int64) <<< ((Int32.ofNat kk) &&& 0x3f).toInt64)), .second]) rfl kst) ?_
      show OwnWk _ _ _ _ (s₁.setTop (mkF m 100 #[.val (.long u), .second, .val (.int q), .val (.long (Int64.ofNat nn)), .second, .val (.int (-Int32.ofNat kk)), .val (.double (FP.ddiv (FP.l2d (Int64.ofNat nn)) (FP.l2d ((1 : Int64) <<< ((Int32.ofNat kk) &&& 0x3f).toInt64)))), .second, .val (.long (0 : Int64)), .second, .val (.int (Int32.ofNat kk)), .val (.long ((1 : Int64) <<< ((Int32.ofNat kk) &&& 0x3f).toInt64)), .second] []))
      refine own_go (fun tgt kst => XS.dload X0.here hx rfl (hb hby at_100) rfl  kst) ?_
      show OwnWk _ _ _ _ (s₁.setTop (mkF m 102 #[.val (.long u), .second, .val (.int q), .val (.long (Int64.ofNat nn)), .second, .val (.int (-Int32.ofNat kk)), .val (.double (FP.ddiv (FP.l2d (Int64.ofNat nn)) (FP.l2d ((1 : Int64) <<< ((Int32.ofNat kk) &&& 0x3f).toInt64)))), .second, .val (.long (0 : Int64)), .second, .val (.int (Int32.ofNat kk)), .val (.long ((1 : Int64) <<< ((Int32.ofNat kk) &&& 0x3f).toInt64)), .second] [(.double (FP.ddiv (FP.l2d (Int64.ofNat nn)) (FP.l2d ((1 : Int64) <<< ((Int32.ofNat kk) &&& 0x3f).toInt64))))]))
      refine own_callS X0 hx hZ (y := (⟨"tidegate/pacing/SpentUntil", "wholeRate", "(D)J"⟩ : MethodName)) hown (hw _ (List.mem_of_getElem? (i := 1) rfl)) (hw _ (List.mem_of_getElem? (i := 2) rfl)) (hw _ (List.mem_of_getElem? (i := 3) rfl)) (hw _ (List.mem_of_getElem? (i := 4) rfl)) (by decide) (argsL := [(.double (FP.ddiv (FP.l2d (Int64.ofNat nn)) (FP.l2d ((1 : Int64) <<< ((Int32.ofNat kk) &&& 0x3f).toInt64))))]) (rest := []) (rm := ({ frames := 0, cells := 0, slots := 0, locals := 0 } : Room)) (h := h0) (rm1 l Z a0 hw (FP.ddiv (FP.l2d (Int64.ofNat nn)) (FP.l2d ((1 : Int64) <<< ((Int32.ofNat kk) &&& 0x3f).toInt64))) h0 n0 Z0) e0 (W := 0) (by decide) (by decide) (by decide) (by decide) (g := (mkF m 102 #[.val (.long u), .second, .val (.int q), .val (.long (Int64.ofNat nn)), .second, .val (.int (-Int32.ofNat kk)), .val (.double (FP.ddiv (FP.l2d (Int64.ofNat nn)) (FP.l2d ((1 : Int64) <<< ((Int32.ofNat kk) &&& 0x3f).toInt64)))), .second, .val (.long (0 : Int64)), .second, .val (.int (Int32.ofNat kk)), .val (.long ((1 : Int64) <<< ((Int32.ofNat kk) &&& 0x3f).toInt64)), .second] [(.double (FP.ddiv (FP.l2d (Int64.ofNat nn)) (FP.l2d ((1 : Int64) <<< ((Int32.ofNat kk) &&& 0x3f).toInt64))))])) rfl (by rw [hml]; rfl) (lenOf pd_0 rfl) rfl (by show 2 * 0 + _ ≤ _; exact Nat.le_of_eq rfl) (hb hby at_102) (fun v6 T6 h6 L6 X6 e6 hQ6 => ?_)
      obtain ⟨rfl, Nq6, q6⟩ := hQ6
      have N6 := Fr.app N0 Nq6
      rw [q6] at e6
      show OwnWk _ _ _ _ (T6.setTop (mkF m 105 #[.val (.long u), .second, .val (.int q), .val (.long (Int64.ofNat nn)), .second, .val (.int (-Int32.ofNat kk)), .val (.double (FP.ddiv (FP.l2d (Int64.ofNat nn)) (FP.l2d ((1 : Int64) <<< ((Int32.ofNat kk) &&& 0x3f).toInt64)))), .second, .val (.long (0 : Int64)), .second, .val (.int (Int32.ofNat kk)), .val (.long ((1 : Int64) <<< ((Int32.ofNat kk) &&& 0x3f).toInt64)), .second] [(.long (own_wr (FP.ddiv (FP.l2d (Int64.ofNat nn)) (FP.l2d ((1 : Int64) <<< ((Int32.ofNat kk) &&& 0x3f).toInt64)))))]))
      refine own_go (fun tgt kst => XS.lload X6.here hx rfl (hb hby at_105) rfl  kst) ?_
      show OwnWk _ _ _ _ (T6.setTop (mkF m 107 #[.val (.long u), .second, .val (.int q), .val (.long (Int64.ofNat nn)), .second, .val (.int (-Int32.ofNat kk)), .val (.double (FP.ddiv (FP.l2d (Int64.ofNat nn)) (FP.l2d ((1 : Int64) <<< ((Int32.ofNat kk) &&& 0x3f).toInt64)))), .second, .val (.long (0 : Int64)), .second, .val (.int (Int32.ofNat kk)), .val (.long ((1 : Int64) <<< ((Int32.ofNat kk) &&& 0x3f).toInt64)), .second] [(.long (0 : Int64)), (.long (own_wr (FP.ddiv (FP.l2d (Int64.ofNat nn)) (FP.l2d ((1 : Int64) <<< ((Int32.ofNat kk) &&& 0x3f).toInt64)))))]))
      refine own_go (fun tgt kst => XS.lcmp X6.here hx rfl (hb hby at_107) rfl kst) ?_
      show OwnWk _ _ _ _ (T6.setTop (mkF m 108 #[.val (.long u), .second, .val (.int q), .val (.long (Int64.ofNat nn)), .second, .val (.int (-Int32.ofNat kk)), .val (.double (FP.ddiv (FP.l2d (Int64.ofNat nn)) (FP.l2d ((1 : Int64) <<< ((Int32.ofNat kk) &&& 0x3f).toInt64)))), .second, .val (.long (0 : Int64)), .second, .val (.int (Int32.ofNat kk)), .val (.long ((1 : Int64) <<< ((Int32.ofNat kk) &&& 0x3f).toInt64)), .second] [(.int (lcmpW (own_wr (FP.ddiv (FP.l2d (Int64.ofNat nn)) (FP.l2d ((1 : Int64) <<< ((Int32.ofNat kk) &&& 0x3f).toInt64)))) (0 : Int64)))]))
      refine own_go (fun tgt kst => XS.ifNo X6.here hx rfl (hb hby at_108) rfl ((if0 _ _).trans (teq (own_lc_eq.mpr (B1.2.trans (if_neg (fun z => hc4 ((own_low n2 k2').mpr z)))))).2) kst) ?_
      show OwnWk _ _ _ _ (T6.setTop (mkF m 111 #[.val (.long u), .second, .val (.int q), .val (.long (Int64.ofNat nn)), .second, .val (.int (-Int32.ofNat kk)), .val (.double (FP.ddiv (FP.l2d (Int64.ofNat nn)) (FP.l2d ((1 : Int64) <<< ((Int32.ofNat kk) &&& 0x3f).toInt64)))), .second, .val (.long (0 : Int64)), .second, .val (.int (Int32.ofNat kk)), .val (.long ((1 : Int64) <<< ((Int32.ofNat kk) &&& 0x3f).toInt64)), .second] []))
      refine own_go (fun tgt kst => XS.iconst X6.here hx rfl (hb hby at_111) kst) ?_
      show OwnWk _ _ _ _ (T6.setTop (mkF m 112 #[.val (.long u), .second, .val (.int q), .val (.long (Int64.ofNat nn)), .second, .val (.int (-Int32.ofNat kk)), .val (.double (FP.ddiv (FP.l2d (Int64.ofNat nn)) (FP.l2d ((1 : Int64) <<< ((Int32.ofNat kk) &&& 0x3f).toInt64)))), .second, .val (.long (0 : Int64)), .second, .val (.int (Int32.ofNat kk)), .val (.long ((1 : Int64) <<< ((Int32.ofNat kk) &&& 0x3f).toInt64)), .second] [(.int (1 : Int32))]))
      refine own_go (fun tgt kst => XS.goto X6.here hx rfl (pc0 := 112) (pc' := 116) rfl (hb hby at_112) (by decide) (by decide) kst) ?_
      show OwnWk _ _ _ _ (T6.setTop (mkF m 116 #[.val (.long u), .second, .val (.int q), .val (.long (Int64.ofNat nn)), .second, .val (.int (-Int32.ofNat kk)), .val (.double (FP.ddiv (FP.l2d (Int64.ofNat nn)) (FP.l2d ((1 : Int64) <<< ((Int32.ofNat kk) &&& 0x3f).toInt64)))), .second, .val (.long (0 : Int64)), .second, .val (.int (Int32.ofNat kk)), .val (.long ((1 : Int64) <<< ((Int32.ofNat kk) &&& 0x3f).toInt64)), .second] [(.int (1 : Int32))]))
      exact own_retZ X6 hx hlk hret (by simp) (z' := (1 : Int32)) rfl (hb hby at_116) (by decide) (by decide) (by rw [e6]; exact ⟨rfl, N6⟩)
set_option maxRecDepth 65536 in
set_option maxHeartbeats 40000000 in
theorem comes_1 {Post : Tables → Env → Array Value → State → Outcome → State → Prop} (hpost : ∀ tb e args s v u, (limb_1_1.after args s (.returned v) u = true ∧ limb_1_2.after args s (.returned v) u = true) → FrameEnd s (.returned v) u (Jvm.fieldLocs frame_1_writes args s ++ Jvm.arrayLocs frame_1_arrays args s ++ Jvm.staticLocs frame_1_statics s) 0 0 → Post tb e args s (.returned v) u) :
    ArmFor flags0 classFile x code maxLocals ret World_1 tables_1 room_1 Calls_1 rest_1 Pre_1 Post := by
  intro l hfl _ _ p e ha hc hk s m args below hf hA hF happ hP
  obtain ⟨hcalls, hrest, hpre⟩ := hP
  obtain ⟨-, -, -, hnamed, -, -, -, hat⟩ := (Spec.applies_iff hf).mp happ
  obtain ⟨hg, hn⟩ := and_e (Cond.before_iff.mp (show (Jvm.Cond.and given_1 narrow_1).before args s = true from hpre))
  obtain ⟨g0, r0⟩ := and_e hg
  obtain ⟨g1, r1⟩ := and_e r0
  obtain ⟨w0, w1, rfl⟩ : ∃ w0 w1 : Value, args = #[w0, w1] := by
    have hs : args.size = 2 := by simpa [Cond.value, given_1] using g0
    obtain ⟨L⟩ := args
    match L, hs with
    | [w0, w1], _ => exact ⟨w0, w1, rfl⟩
  have hw := fun d (hd : d ∈ tables_1) => atoms_spec (ws := Jvm.Cond.code x code maxLocals ret :: tables_1) hat d (List.mem_cons_of_mem _ hd)
  obtain ⟨i0, ei0⟩ := isL_v g1
  obtain rfl : w0 = (.long i0) := Option.some.inj ei0
  obtain ⟨i1, ei1⟩ := is_v r1
  obtain rfl : w1 = (.int i1) := Option.some.inj ei1
  obtain ⟨n, o, h1, h2, h3, _, L, rfl, ⟨rfl, N⟩, hq⟩ := rm0 l s _ hw i0 i1 s.heap s.heap.size (Nat.le_refl _)  p e ha hc hk s m _ below hf ((Spec.applies_iff_loose hf).mp happ).1 ⟨rfl, State.Warmed39.refl s, rfl⟩ trivial
  refine ⟨n, _, h1, h2, h3, hpost _ _ _ _ _ _ ⟨Cond.after_iff.mpr rfl, Cond.after_iff.mpr (eq_i res_at (Term.int_eval (1)) rfl)⟩ ⟨hq.1, hq.2.1, (hq.2.2.sift fun y hy => Or.inr (N y hy)).mono (by decide) (by decide)⟩⟩
theorem main_1_1 : Claimed_1_1 := comes_1 fun _ _ _ _ _ _ h hF => ⟨h.1, hF⟩
theorem main_1_2 : Claimed_1_2 := comes_1 fun _ _ _ _ _ _ h hF => ⟨h.2, hF⟩
end Jvm.Pilot.@@N@@
namespace Jvm.Pilot.@@N@@
open Jvm Jvm.ClassFile Sem Op Lib Jvm.Free Jvm.Stand Jvm.Pilot.@@N@@.Jvm.D
/-! MADE BY PROGRAM (witnessworld.py) out of the Statement's table words and the real class files: 9 classes; the members and pool entries that the words name. The judged class is class 1, her method 1. -/
namespace start1
open Jvm.ClassFile
def u (s : String) : CpInfo := .utf8 (stringToUtf16 s)
/-- a pool by its gaps: so many unusable entries, then the entry; so many at the end -/
def gap : Nat → List CpInfo → List CpInfo
  | 0, r => r
  | n + 1, r => .unusable :: gap n r
def poolList (es : List (Nat × CpInfo)) (last : Nat) : List CpInfo := es.foldr (fun e r => gap e.1 (e.2 :: r)) (gap last [])
def pool (es : List (Nat × CpInfo)) (last : Nat) : Array CpInfo := ⟨poolList es last⟩
def fileOf (pool : Array CpInfo) (this : Nat) (attrs : Array Attribute := #[]) (ms : Array MethodInfo := #[]) (fl : Nat := 33) (sup : Nat := 0) (ifs : Array Nat := #[]) (fds : Array FieldInfo := #[]) : ClassFile where
  minorVersion := 0
  majorVersion := 65
  constantPool := pool
  accessFlags := fl
  thisClass := this
  superClass := sup
  interfaces := ifs
  fields := fds
  methods := ms
  attributes := attrs
def plain (name : String) (sup : Option ClassId) : Class where
  name := name
  kind := .ordinary
  loader := none
  accessFlags := 33
  super := sup
  interfaces := #[]
  cf := none
  fields := #[]
  methods := #[]
  instanceTypes := #[]
  staticTypes := #[]
  resolved := #[]
  callSites := []
  init := .initialized
  statics := none
  mirror := none

def pool0 : Array CpInfo := pool [(5, u "<init>"), (0, u "()V"), (1, .class_ 10), (1, u "java/lang/Object")] 113

def k0m0 : Method := { name := "<init>", desc := "()V", sig := { parameters := [], returnType := none }, accessFlags := 1, code := none }
/-- java/lang/Object -/
def k0 : Class := { plain "java/lang/Object" none with
  accessFlags := 33
  interfaces := #[]
  cf := some (fileOf pool0 8 #[] #[{ accessFlags := 1, nameIndex := 5, descriptorIndex := 6, attributes := #[] }] 33 0 #[] #[])
  fields := #[]
  methods := #[k0m0]
  instanceTypes := #[]
  staticTypes := #[]
  resolved := Array.replicate 124 none
  statics := none }

def pool1 : Array CpInfo := pool [(2, .class_ 4), (1, u "java/lang/Object"), (0, u "<init>"), (0, u "()V"), (0, .long 9007199254740991), (1, .methodref 10 11), (0, .class_ 12), (0, .nameAndType 13 14), (0, u "tidegate/pacing/SpentUntil"), (0, u "wholeRate"), (0, u "(D)J"), (0, .class_ 16), (0, u "tidegate/pacing/SpentUntilWholeRatePinLaw"), (2, u "law"), (0, u "(JI)Z")] 3

def k1m0 : Method := { name := "<init>", desc := "()V", sig := { parameters := [], returnType := none }, accessFlags := 1, code := none }
def k1c1 : Code := { maxStack := 6, maxLocals := 13, code := code, exceptionTable := #[], attributes := #[] }
def k1m1 : Method := { name := "law", desc := "(JI)Z", sig := { parameters := [.long, .int], returnType := some .boolean }, accessFlags := 9, code := some k1c1 }
/-- tidegate/pacing/SpentUntilWholeRatePinLaw -/
def k1 : Class := { plain "tidegate/pacing/SpentUntilWholeRatePinLaw" (some 0) with
  accessFlags := 49
  interfaces := #[]
  cf := some (fileOf pool1 15 #[] #[{ accessFlags := 1, nameIndex := 5, descriptorIndex := 6, attributes := #[] }, { accessFlags := 9, nameIndex := 19, descriptorIndex := 20, attributes := #[] }] 49 2 #[] #[])
  fields := #[]
  methods := #[k1m0, k1m1]
  instanceTypes := #[]
  staticTypes := #[]
  resolved := Array.replicate 24 none
  statics := none }

def pool2 : Array CpInfo := pool [(1, .class_ 2), (0, u "tidegate/pacing/SpentUntil"), (3, .class_ 8), (1, u "java/lang/Object"), (0, u "<init>"), (0, u "()V"), (8, u "WIDE_NANOS_PER_SECOND"), (0, u "Ltidegate/pacing/DoubleDouble;"), (78, u "(D)J"), (26, u "EXACT_NANOS_PER_SECOND"), (0, u "Ljava/math/BigDecimal;"), (8, u "LATEST_SECONDS"), (27, .double 4886405595696988160), (59, u "END_OF_LONGS"), (13, u "LATEST_NANOS"), (45, u "wholeRate"), (24, .class_ 310), (0, u "tidegate/pacing/SpentUntil$Base"), (23, u "NANOS_PER_SECOND"), (0, u "D"), (1, u "WHOLE_NANOS_PER_SECOND"), (0, u "J"), (0, u "SAME_MOMENT_NANOS"), (2, u "UNSETTLED"), (0, u "I"), (1, u "BEFORE_MOMENT"), (1, u "WITHIN_SPAN"), (1, u "PAST_SPAN"), (1, u "ROUNDING_SHARE"), (0, u "WIDE_ROUNDING_SHARE"), (0, u "WHOLE_DOUBLES"), (0, u "EXACT_PERMITS"), (0, u "LARGEST_WHOLE_RATE"), (0, u "MARK_TERM_NANOS"), (0, u "LONG_TIMES_RATE_PERMITS"), (0, u "NOT_WHOLE"), (0, u "BOUNDED_OFFSET_NANOS")] 39

def k2m0 : Method := { name := "<init>", desc := "()V", sig := { parameters := [], returnType := none }, accessFlags := 2, code := none }
def k2c1 : Code := { maxStack := 4, maxLocals := 2, code := prog_106_method_8_code, exceptionTable := #[], attributes := #[] }
def k2m1 : Method := { name := "wholeRate", desc := "(D)J", sig := { parameters := [.double], returnType := some .long }, accessFlags := 8, code := some k2c1 }
/-- tidegate/pacing/SpentUntil -/
def k2 : Class := { plain "tidegate/pacing/SpentUntil" (some 0) with
  accessFlags := 48
  interfaces := #[]
  cf := some (fileOf pool2 1 #[.nestMembers #[309]] #[{ accessFlags := 2, nameIndex := 9, descriptorIndex := 10, attributes := #[] }, { accessFlags := 8, nameIndex := 284, descriptorIndex := 99, attributes := #[] }] 48 6 #[] #[{ accessFlags := 26, nameIndex := 334, descriptorIndex := 335, attributes := #[] }, { accessFlags := 26, nameIndex := 19, descriptorIndex := 20, attributes := #[] }, { accessFlags := 26, nameIndex := 337, descriptorIndex := 338, attributes := #[] }, { accessFlags := 26, nameIndex := 126, descriptorIndex := 127, attributes := #[] }, { accessFlags := 26, nameIndex := 238, descriptorIndex := 127, attributes := #[] }, { accessFlags := 26, nameIndex := 136, descriptorIndex := 127, attributes := #[] }, { accessFlags := 26, nameIndex := 224, descriptorIndex := 20, attributes := #[] }, { accessFlags := 24, nameIndex := 339, descriptorIndex := 338, attributes := #[] }, { accessFlags := 24, nameIndex := 342, descriptorIndex := 343, attributes := #[] }, { accessFlags := 24, nameIndex := 345, descriptorIndex := 343, attributes := #[] }, { accessFlags := 24, nameIndex := 347, descriptorIndex := 343, attributes := #[] }, { accessFlags := 24, nameIndex := 349, descriptorIndex := 343, attributes := #[] }, { accessFlags := 26, nameIndex := 351, descriptorIndex := 335, attributes := #[] }, { accessFlags := 26, nameIndex := 352, descriptorIndex := 335, attributes := #[] }, { accessFlags := 26, nameIndex := 353, descriptorIndex := 338, attributes := #[] }, { accessFlags := 26, nameIndex := 354, descriptorIndex := 338, attributes := #[] }, { accessFlags := 26, nameIndex := 355, descriptorIndex := 335, attributes := #[] }, { accessFlags := 26, nameIndex := 356, descriptorIndex := 338, attributes := #[] }, { accessFlags := 26, nameIndex := 357, descriptorIndex := 338, attributes := #[] }, { accessFlags := 24, nameIndex := 358, descriptorIndex := 338, attributes := #[] }, { accessFlags := 26, nameIndex := 359, descriptorIndex := 335, attributes := #[] }])
  fields := #[{ name := "NANOS_PER_SECOND", type := .double, accessFlags := 26, slot := 0, constantValue := 0 }, { name := "WIDE_NANOS_PER_SECOND", type := (.object "tidegate/pacing/DoubleDouble"), accessFlags := 26, slot := 1, constantValue := 0 }, { name := "WHOLE_NANOS_PER_SECOND", type := .long, accessFlags := 26, slot := 2, constantValue := 0 }, { name := "EXACT_NANOS_PER_SECOND", type := (.object "java/math/BigDecimal"), accessFlags := 26, slot := 3, constantValue := 0 }, { name := "LATEST_NANOS", type := (.object "java/math/BigDecimal"), accessFlags := 26, slot := 4, constantValue := 0 }, { name := "LATEST_SECONDS", type := (.object "java/math/BigDecimal"), accessFlags := 26, slot := 5, constantValue := 0 }, { name := "END_OF_LONGS", type := (.object "tidegate/pacing/DoubleDouble"), accessFlags := 26, slot := 6, constantValue := 0 }, { name := "SAME_MOMENT_NANOS", type := .long, accessFlags := 24, slot := 7, constantValue := 0 }, { name := "UNSETTLED", type := .int, accessFlags := 24, slot := 8, constantValue := 0 }, { name := "BEFORE_MOMENT", type := .int, accessFlags := 24, slot := 9, constantValue := 0 }, { name := "WITHIN_SPAN", type := .int, accessFlags := 24, slot := 10, constantValue := 0 }, { name := "PAST_SPAN", type := .int, accessFlags := 24, slot := 11, constantValue := 0 }, { name := "ROUNDING_SHARE", type := .double, accessFlags := 26, slot := 12, constantValue := 0 }, { name := "WIDE_ROUNDING_SHARE", type := .double, accessFlags := 26, slot := 13, constantValue := 0 }, { name := "WHOLE_DOUBLES", type := .long, accessFlags := 26, slot := 14, constantValue := 0 }, { name := "EXACT_PERMITS", type := .long, accessFlags := 26, slot := 15, constantValue := 0 }, { name := "LARGEST_WHOLE_RATE", type := .double, accessFlags := 26, slot := 16, constantValue := 0 }, { name := "MARK_TERM_NANOS", type := .long, accessFlags := 26, slot := 17, constantValue := 0 }, { name := "LONG_TIMES_RATE_PERMITS", type := .long, accessFlags := 26, slot := 18, constantValue := 0 }, { name := "NOT_WHOLE", type := .long, accessFlags := 24, slot := 19, constantValue := 0 }, { name := "BOUNDED_OFFSET_NANOS", type := .double, accessFlags := 26, slot := 20, constantValue := 0 }]
  methods := #[k2m0, k2m1]
  instanceTypes := #[]
  staticTypes := #[.double, (.object "tidegate/pacing/DoubleDouble"), .long, (.object "java/math/BigDecimal"), (.object "java/math/BigDecimal"), (.object "java/math/BigDecimal"), (.object "tidegate/pacing/DoubleDouble"), .long, .int, .int, .int, .int, .double, .double, .long, .long, .double, .long, .long, .long, .double]
  resolved := Array.replicate 399 none
  statics := none }

def pool3 : Array CpInfo := pool [(1, u "java/lang/Cloneable"), (0, .class_ 1), (0, u "java/lang/Object"), (0, .class_ 3)] 3

/-- java/lang/Cloneable -/
def k3 : Class := { plain "java/lang/Cloneable" (some 0) with
  accessFlags := 1537
  interfaces := #[]
  cf := some (fileOf pool3 2 #[] #[] 1537 4 #[] #[])
  fields := #[]
  methods := #[]
  instanceTypes := #[]
  staticTypes := #[]
  resolved := Array.replicate 8 none
  statics := none }

def pool4 : Array CpInfo := pool [(1, u "java/io/Serializable"), (0, .class_ 1), (0, u "java/lang/Object"), (0, .class_ 3)] 3

/-- java/io/Serializable -/
def k4 : Class := { plain "java/io/Serializable" (some 0) with
  accessFlags := 1537
  interfaces := #[]
  cf := some (fileOf pool4 2 #[] #[] 1537 4 #[] #[])
  fields := #[]
  methods := #[]
  instanceTypes := #[]
  staticTypes := #[]
  resolved := Array.replicate 8 none
  statics := none }

/-- the primitive byte -/
def k5 : Class := { plain "byte" none with kind := .primitive 'B', accessFlags := 0x411 }
/-- [B -/
def k6 : Class := { plain "[B" (some 0) with kind := .array 5 .byte, interfaces := #[3, 4], accessFlags := 1041 }

/-- the primitive int -/
def k7 : Class := { plain "int" none with kind := .primitive 'I', accessFlags := 0x411 }
/-- [I -/
def k8 : Class := { plain "[I" (some 0) with kind := .array 7 .int, interfaces := #[3, 4], accessFlags := 1041 }

def heap : Heap := #[]
def classes : Array Class := #[k0, k1, k2, k3, k4, k5, k6, k7, k8]
def interned : List (Array UInt16 × Addr) := []
def slotsUsed : Nat := 0
def theMethod : MethodId := ⟨1, 1⟩
def args0 : Array Value := #[.long 5, .int 0]
def aboutOver (below : List Frame) : State where
  vm := { classes := classes, interned := interned.toArray }
  heap := heap
  slotsUsed := slotsUsed
  threads := #[{ frames := .invoking theMethod args0 :: below }]
def below0 : List Frame := [.native { method := ⟨0, 0⟩, args := #[] }]
def about1 : State := aboutOver below0
def p0 : Program := .bare "" "" ""
def e0 : Env := launch0.env 0 0 0
theorem w_frames : about1.frames = Frame.invoking theMethod args0 :: below0 := rfl
set_option maxRecDepth 65536 in
theorem w_args : argsFit about1.vm theMethod args0 = true := by decide +kernel
set_option maxRecDepth 65536 in
theorem w_heap : heapFits about1 = true := by decide +kernel
set_option maxRecDepth 65536 in
theorem w_runnable : about1.curStatus? = some .runnable := by decide +kernel
set_option maxRecDepth 65536 in
theorem w_alone : about1.alone = true := by decide +kernel
set_option maxRecDepth 65536 in
theorem w_named : about1.methodNamed? x = some theMethod := by decide +kernel
set_option maxRecDepth 65536 in
theorem w_hears : about1.hears theMethod below0 = true := by decide +kernel
set_option maxRecDepth 65536 in
theorem w_ripe : about1.ripe theMethod args0 below0 = true := by decide +kernel
theorem w_running : about1.status = .running := rfl
set_option maxRecDepth 65536 in
theorem w_room : about1.hasRoom e0.platform room_1 = true :=
  launch0.hasRoom_least _ room_1 (by decide +kernel) (by decide +kernel) (by decide +kernel) (by decide +kernel) (by decide +kernel) (by decide +kernel)
theorem allAtoms_all (ts : List Jvm.Cond) (a : Array Jvm.Value) (st : Jvm.State) : (allAtoms ts).before a st = ts.all (fun c => c.before a st) := by
  induction ts with
  | nil => rfl
  | cons c t ih =>
    show (Jvm.Cond.and c (allAtoms t)).before a st = _
    rw [Jvm.Cond.before_and, ih, List.all_cons]
def words1 : List Jvm.Cond := Jvm.Cond.code x code maxLocals ret :: tables_1
/-- a 'code' word, met by the world's own term for the bytes: nothing is compared byte by byte -/
theorem code_word {y : MethodName} {bytes : ByteArray} {mx : Nat} {rt : Option FieldType} {a : Array Value} {s : State} {m : MethodId} {meth : Method} {c : Code} (h1 : s.methodNamed? y = some m) (h2 : s.vm.method? m = some meth) (h3 : meth.code = some c) (h4 : c.code = bytes)
    (h5 : (c.maxLocals == mx && c.exceptionTable.isEmpty && decide (c.maxStack ≤ mostOperands) && decide (meth.sig.returnType = rt) && !meth.locks && decide (parseMethodDescriptor y.desc = some meth.sig)) = true) : (Jvm.Cond.code y bytes mx rt).before a s = true := by
  simp only [Bool.and_eq_true, beq_iff_eq, Bool.not_eq_true', decide_eq_true_eq] at h5
  obtain ⟨⟨⟨⟨⟨g1, g2⟩, g3⟩, g4⟩, g5⟩, g6⟩ := h5
  simp [Cond.before, Cond.holds, Cond.value, h1, h2, h3, h4, g1, g2, g3, g4, g5, g6]
def isCode : Jvm.Cond → Bool
  | .code _ _ _ _ => true
  | _ => false
theorem all_split {L : List Jvm.Cond} {P : Jvm.Cond → Bool} (h1 : L.all (fun c => isCode c || P c) = true) (h2 : ∀ c ∈ L.filter isCode, P c = true) : L.all P = true := by
  refine List.all_eq_true.mpr fun c hc => ?_
  have h := List.all_eq_true.mp h1 c hc
  rcases Bool.eq_false_or_eq_true (isCode c) with hi | hi
  · exact h2 c (List.mem_filter.mpr ⟨hc, hi⟩)
  · simpa [hi] using h
set_option maxRecDepth 65536 in
theorem w_c0 : (Jvm.Cond.code x code maxLocals ret).before args0 about1 = true := code_word (m := ⟨1, 1⟩) (meth := k1m1) (c := k1c1) (by decide +kernel) rfl rfl rfl (by decide +kernel)
set_option maxRecDepth 65536 in
theorem w_c1 : (Jvm.Cond.code ({ cls := "tidegate/pacing/SpentUntil", name := "wholeRate", desc := "(D)J" } : Jvm.MethodName) prog_106_method_8_code (2 : Nat) (Option.some Jvm.ClassFile.FieldType.long)).before args0 about1 = true := code_word (m := ⟨2, 1⟩) (meth := k2m1) (c := k2c1) (by decide +kernel) rfl rfl rfl (by decide +kernel)
def codes1 : List Jvm.Cond := [Jvm.Cond.code x code maxLocals ret, Jvm.Cond.code ({ cls := "tidegate/pacing/SpentUntil", name := "wholeRate", desc := "(D)J" } : Jvm.MethodName) prog_106_method_8_code (2 : Nat) (Option.some Jvm.ClassFile.FieldType.long)]
set_option maxRecDepth 65536 in
theorem codes_eq : words1.filter isCode = codes1 := rfl
theorem w_codes : ∀ c ∈ words1.filter isCode, c.before args0 about1 = true := by
  rw [codes_eq]
  intro c hc
  simp only [codes1, List.mem_cons, List.not_mem_nil, or_false] at hc
  rcases hc with rfl | rfl
  · exact w_c0
  · exact w_c1
set_option maxRecDepth 65536 in
theorem w_t1 : words1.all (fun c => isCode c || c.before args0 about1) = true := by decide +kernel
theorem w_tables : (allAtoms (Jvm.Cond.code x code maxLocals ret :: tables_1)).before args0 about1 = true := by
  rw [allAtoms_all]
  show words1.all (fun c => c.before args0 about1) = true
  refine all_split ?_ w_codes
  rw [w_t1]
set_option maxRecDepth 65536 in
theorem w_case : (Jvm.Cond.and given_1 narrow_1).before args0 about1 = true := by decide +kernel
theorem w_applies : (headSpec (Jvm.Cond.code x code maxLocals ret :: tables_1) room_1).applies x e0.platform about1 = true :=
  (Spec.applies_iff w_frames).mpr ⟨w_running, w_runnable, w_alone, w_named, w_hears, w_ripe, w_room, w_tables⟩
theorem atStart : AtStart classFile x code maxLocals ret World_1 tables_1 room_1 Calls_1 rest_1 Pre_1 launch0 p0 e0 about1 theMethod args0 below0 :=
  ⟨lists_1, trivial, launch0.admits_env _ _ _, launch0.least_env, fairChoices_fair.cas, fairChoices_fair.clock, w_frames, w_args, w_heap, w_applies, trivial, trivial, w_case⟩
end start1
theorem witness_1 : WitnessClaimed_1 := ⟨start1.p0, start1.e0, start1.about1, start1.theMethod, start1.args0, start1.below0, start1.atStart⟩
end Jvm.Pilot.@@N@@
