import JvmDerived
import JvmDerived.Pilot.@@N@@Statement
import JvmDerived.Pilot.@@N@@Code
set_option linter.unusedVariables false
set_option linter.unusedSimpArgs false
namespace Jvm.OwnW
abbrev iS (x : Int32) : Slot := .val (.int x)
abbrev jS (x : Int64) : Slot := .val (.long x)
abbrev rS (x : Addr) : Slot := .val (.ref x)
abbrev uS : Slot := .unset
abbrev dS : Slot := .second
open Sem ClassFile Op Lib Jvm.Stand Jvm.Free Jvm.LawKit Jvm.RoadKit
section
variable {p : Program} {l : Launch} {e : Env} {R : Room} {s : State} {m : MethodId} {args : Array Value} {below : List Frame} {meth : Method} {c : Code} {T : State} {locs : List Loc} {cells slots : Nat} {Z : State} {a0 : Array Value} {h : Heap} {P : State → Outcome → Prop} {Y Y' : State} {Q : Option Value → Heap → List Loc → Prop} {rc rs : Nat} {pc : Nat} {Ls : Array Slot}
/-- the run goes on from Y to an end of which P says what is so -/
def Go (p : Program) (e : Env) (below : List Frame) (Y : State) (P : State → Outcome → Prop) : Prop := ∃ s₂ o, Steps p.tables e below Y s₂ ∧ P s₂ o
theorem Go.on (k : ∀ t, Steps p.tables e below Y' t → Steps p.tables e below Y t) (g : Go p e below Y' P) : Go p e below Y P := by
  obtain ⟨s₂, o, h1, h2⟩ := g
  exact ⟨s₂, o, k _ h1, h2⟩
theorem gon (T : State) (f : JFrame) (k : ∀ t, Steps p.tables e below (T.setTop f) t → Steps p.tables e below Y t) (g : Go p e below (T.setTop f) P) : Go p e below Y P := Go.on k g
def EndQ (s : State) (below : List Frame) (rc rs : Nat) (Q : Option Value → Heap → List Loc → Prop) : State → Outcome → Prop := fun s₂ o => s₂.status = .running ∧ Ended s₂ below o ∧ ∃ v L, o = .returned v ∧ Q v s₂.heap L ∧ FrameEnd s o s₂ L rc rs
theorem fin (X : Stand p l e R s m args below meth c T locs cells slots) (hlk : meth.locks = false) {v : Option Value} (hv : meth.sig.returnType = none → v = none) (q : Q v T.heap locs) (hc : cells ≤ rc) (hs : slots ≤ rs)
    (st : ∀ fs, (∀ (f : JFrame) (acts : List Action), f.method = m → f.locked = none → f.entered = [] → (doReturn e (T.setTop f) acts v).1 = T.setFrames fs) → Steps p.tables e below Y (T.setFrames fs)) : Go p e below Y (EndQ s below rc rs Q) := by
  obtain ⟨fs, hr, hrun, hended, hW, hsame⟩ := X.leave (v := v) hv hlk
  exact ⟨_, _, st fs hr, hrun, hended, v, locs, rfl, q, ⟨_, rfl⟩, hW, hsame.mono hc hs⟩
theorem retV (X : Stand p l e R s m args below meth c T locs cells slots) (hx : p.tables.exec = Jvm.exec) (hlk : meth.locks = false) (hret : meth.sig.returnType = none) (hd : decode c.code pc = .ok (.return_, 1)) (hc : cells ≤ rc) (hs : slots ≤ rs) (q : Q none T.heap locs) :
    Go p e below (T.setTop (mkF m pc Ls [])) (EndQ s below rc rs Q) := fin X hlk (fun _ => rfl) q hc hs fun _ hr => X.returnOut hx hret hd hr
theorem retI (X : Stand p l e R s m args below meth c T locs cells slots) (hx : p.tables.exec = Jvm.exec) (hlk : meth.locks = false) (hret : meth.sig.returnType = some .int) {z : Int32} {rest : List Value} (hd : decode c.code pc = .ok (.ireturn, 1)) (hc : cells ≤ rc) (hs : slots ≤ rs) (q : Q (some (.int z)) T.heap locs) :
    Go p e below (T.setTop (mkF m pc Ls (.int z :: rest))) (EndQ s below rc rs Q) :=
  fin X hlk (fun h => by rw [hret] at h; cases h) q hc hs fun _ hr => retOut X hx hret rfl (Or.inl ⟨rfl, Or.inl rfl, _, rfl⟩) hd hr
theorem retN (X : Stand p l e R s m args below meth c T locs cells slots) (hx : p.tables.exec = Jvm.exec) (hlk : meth.locks = false) {t : FieldType} (hret : meth.sig.returnType = some t) (ht : t = .boolean ∨ t = .byte ∨ t = .char ∨ t = .short) {z z' : Int32} {rest : List Value} (hd : decode c.code pc = .ok (.ireturn, 1)) (hc : cells ≤ rc) (hs : slots ≤ rs) (hz : nar t z = z') (q : Q (some (.int z')) T.heap locs) :
    Go p e below (T.setTop (mkF m pc Ls (.int z :: rest))) (EndQ s below rc rs Q) :=
  fin X hlk (fun h => by rw [hret] at h; cases h) q hc hs fun _ hr => RoadKit.retN X hx hret ht hd (by rw [hz]; exact hr)
theorem retJ (X : Stand p l e R s m args below meth c T locs cells slots) (hx : p.tables.exec = Jvm.exec) (hlk : meth.locks = false) (hret : meth.sig.returnType = some .long) {z : Int64} {rest : List Value} (hd : decode c.code pc = .ok (.lreturn, 1)) (hc : cells ≤ rc) (hs : slots ≤ rs) (q : Q (some (.long z)) T.heap locs) :
    Go p e below (T.setTop (mkF m pc Ls (.long z :: rest))) (EndQ s below rc rs Q) :=
  fin X hlk (fun h => by rw [hret] at h; cases h) q hc hs fun _ hr => retOut X hx hret rfl (Or.inr (Or.inl ⟨rfl, rfl, _, rfl⟩)) hd hr
theorem narrow_ref {t : FieldType} (ht : t.isReference = true) {w : Value} : narrow t w = w := by cases t <;> first | rfl | (cases ht)
theorem retA (X : Stand p l e R s m args below meth c T locs cells slots) (hx : p.tables.exec = Jvm.exec) (hlk : meth.locks = false) {t : FieldType} (hret : meth.sig.returnType = some t) (ht : t.isReference = true) {w : Value} (hw : w.isRef = true) {rest : List Value} (hd : decode c.code pc = .ok (.areturn, 1)) (hc : cells ≤ rc) (hs : slots ≤ rs) (q : Q (some w) T.heap locs) :
    Go p e below (T.setTop (mkF m pc Ls (w :: rest))) (EndQ s below rc rs Q) :=
  fin X hlk (fun h => by rw [hret] at h; cases h) q hc hs fun _ hr => retOut X hx hret (narrow_ref ht) (Or.inr (Or.inr (Or.inr (Or.inr ⟨rfl, ht, hw⟩)))) hd hr
/-- a body's contract at a heap -/
def Con (l : Launch) (Z : State) (y : MethodName) (bytes : ByteArray) (maxL : Nat) (ret : Option FieldType) (rm : Room) (as' : Array Value) (h0 : Heap) (Q : Option Value → Heap → List Loc → Prop) : Prop := ∀ ws, MetFree l y (head1 (Jvm.Cond.code y bytes maxL ret :: ws) rm) (fun a U => a = as' ∧ Z.Warmed39 U.vm ∧ U.heap = h0) (fun _ _ _ _ _ => True) (fun _ U o U' => ∃ v L, o = .returned v ∧ Q v U'.heap L ∧ FrameEnd U o U' L rm.cells rm.slots)
theorem body {y : MethodName} {bytes : ByteArray} {maxL : Nat} {ret : Option FieldType} {rm : Room} {as' : Array Value} {h0 : Heap} (hpl : plainFor y = true) (hef : ∀ m, entryFrame m as' maxL = mkF m 0 Ls [])
    (bd : ∀ (p : Program) (e : Env) (s : State) (m : MethodId) (below : List Frame) (meth : Method) (c : Code) (s₁ : State), p.tables.exec = Jvm.exec → c.code = bytes → c.maxLocals = maxL → s.vm.findClass y.cls = some m.cls → meth.name = y.name → meth.sig.returnType = ret → meth.locks = false → Z.Warmed39 s.vm → Stand p l e rm s m as' below meth c s₁ [] 0 0 → s₁.heap = h0 →
      Go p e below (s₁.setTop (mkF m 0 Ls [])) (EndQ s below rm.cells rm.slots Q)) : Con l Z y bytes maxL ret rm as' h0 Q := by
  intro ws
  refine MetFree.of_bodySF hpl hisR ?_
  intro p e s m args below meth c s₁ Bd hml0 hP hK
  obtain ⟨rfl, hZ, hh⟩ := hP
  have X0 : Stand p l e rm s m _ below meth c s₁ [] 0 0 := Stand.of_body Bd
  have e0 : s₁.heap = h0 := by rw [← hh, Bd.state]; rfl
  obtain ⟨s₂, o, h1, h2⟩ := bd p e s m below meth c s₁ Bd.exec Bd.bytes hml0 (findClass_of_methodNamed Bd.named) (name_of_methodNamed Bd.named Bd.method).1 Bd.returns (BodyLoose.notSynchronized Bd) hZ X0 e0
  exact ⟨s₂, o, castTop (hef m) h1, h2⟩
section Calls
variable {own : String} {index : Nat} {y z : MethodName} {bytes : ByteArray} {maxL : Nat} {ret : Option FieldType} {rm : Room} {as' : Array Value} {ps : List FieldType} {r : Option FieldType} {argsL rest st : List Value} {W : Nat}
theorem callS (X : Stand p l e R s m args below meth c T locs cells slots) (hx : p.tables.exec = Jvm.exec) (hZ : Z.Warmed39 s.vm) (hown : s.vm.findClass own = some m.cls)
    (w1 : (Jvm.Cond.methodLink own index y).before a0 Z = true) (w2 : (Jvm.Cond.static y).before a0 Z = true) (w3 : (Jvm.Cond.initialized y.cls).before a0 Z = true) (w4 : (Jvm.Cond.code y bytes maxL ret).before a0 Z = true) (hy : y.cls ≠ "java/lang/invoke/MethodHandle" ∧ y.cls ≠ "java/lang/invoke/VarHandle")
    (hM : Con l Z y bytes maxL ret rm argsL.toArray h Q) (eT : T.heap = h) (hsz : Ls.size = c.maxLocals) (hpd : parseMethodDescriptor y.desc = some ⟨ps, r⟩) (hlen : argsL.length = ps.length) (hst : st = argsL.reverse ++ rest) (hW : (rest.map fun v => v.category).sum = W) (hd : decode c.code pc = .ok (.invokestatic index, 3))
    (hf : rm.frames + 1 ≤ R.frames) (hl : W + (maxL + 11) + rm.locals ≤ R.locals) (hc : cells + rm.cells ≤ R.cells) (hs : slots + rm.slots ≤ R.slots) :
    ∃ v T' L, Stand p l e R s m args below meth c T' (locs ++ L) (cells + rm.cells) (slots + rm.slots) ∧ Q v T'.heap L ∧ ∀ target, Steps p.tables e below (T'.setTop (mkF m (pc + 3) Ls (v.toList ++ rest))) target → Steps p.tables e below (T.setTop (mkF m pc Ls st)) target := by
  obtain ⟨v, _, ⟨T', L', k', n'⟩, -, X', ⟨Lc, hQ, l1, l2, l3⟩, k⟩ := Jvm.LawKit.callS X hx (y := y) hown (mvT hZ w1) (mvT hZ w2) (mvT hZ w3) (mvT hZ w4) hy (backOf (W := W) (hM []) hZ w4 w3 hf hl) (g := mkF m pc Ls st) rfl hsz (argsL := argsL) (rest := rest) (lenOf hpd hlen) hst (by show 2 * 0 + _ ≤ _; omega) hd (fun _ _ => ⟨rfl, eT, hc, hs⟩)
  dsimp only [Pt.U, Pt.locs, Pt.cells, Pt.slots] at X' l1 l2 l3 k hQ
  subst l1 l2 l3
  exact ⟨v, T', Lc, X', hQ, k⟩
theorem callC (X : Stand p l e R s m args below meth c T locs cells slots) (hx : p.tables.exec = Jvm.exec) (hZ : Z.Warmed39 s.vm) (hown : s.vm.findClass own = some m.cls) (hyn : y.name = "<init>")
    (w1 : (Jvm.Cond.methodLink own index y).before a0 Z = true) (w2 : (Jvm.Cond.instanceMethod y).before a0 Z = true) (w3 : (Jvm.Cond.initialized y.cls).before a0 Z = true) (w4 : (Jvm.Cond.code y bytes maxL none).before a0 Z = true) (hy : y.cls ≠ "java/lang/invoke/MethodHandle" ∧ y.cls ≠ "java/lang/invoke/VarHandle") {b : Addr}
    (hM : Con l Z y bytes maxL none rm (.ref b :: argsL).toArray h Q) (eT : T.heap = h) (hsz : Ls.size = c.maxLocals) (hpd : parseMethodDescriptor y.desc = some ⟨ps, r⟩) (hlen : argsL.length = ps.length) (hst : st = argsL.reverse ++ .ref b :: rest) (hW : (rest.map fun v => v.category).sum = W) (hd : decode c.code pc = .ok (.invokespecial index, 3))
    (hf : rm.frames + 1 ≤ R.frames) (hl : W + (maxL + 11) + rm.locals ≤ R.locals) (hc : cells + rm.cells ≤ R.cells) (hs : slots + rm.slots ≤ R.slots) :
    ∃ v T' L, Stand p l e R s m args below meth c T' (locs ++ L) (cells + rm.cells) (slots + rm.slots) ∧ Q v T'.heap L ∧ ∀ target, Steps p.tables e below (T'.setTop (mkF m (pc + 3) Ls (v.toList ++ rest))) target → Steps p.tables e below (T.setTop (mkF m pc Ls st)) target := by
  obtain ⟨v, _, ⟨T', L', k', n'⟩, -, X', ⟨Lc, hQ, l1, l2, l3⟩, k⟩ := X.specialBack hx (y := y) hyn hown (mvT hZ w1) (mvT hZ w2) (mvT hZ w4) hy (backOf (W := W) (hM []) hZ w4 w3 hf hl) (g := mkF m pc Ls st) rfl hsz (Steps.refl _) (a := b) (argsL := argsL) (rest := rest) (lenOf hpd hlen) hst (by show 2 * 0 + _ ≤ _; omega) hd (fun _ _ => ⟨rfl, eT, hc, hs⟩)
  dsimp only [Pt.U, Pt.locs, Pt.cells, Pt.slots] at X' l1 l2 l3 k hQ
  subst l1 l2 l3
  exact ⟨v, T', Lc, X', hQ, fun _ q => k.trans q⟩
theorem callV (X : Stand p l e R s m args below meth c T locs cells slots) (hx : p.tables.exec = Jvm.exec) (hZ : Z.Warmed39 s.vm) (hown : s.vm.findClass own = some m.cls) {C : String}
    (w1 : (Jvm.Cond.methodLink own index y).before a0 Z = true) (w2 : (Jvm.Cond.declares y).before a0 Z = true) (nf : NotFace s y) (w5 : (Jvm.Cond.selects C y z).before a0 Z = true) (w6 : (Jvm.Cond.instanceMethod z).before a0 Z = true) (w3 : (Jvm.Cond.initialized z.cls).before a0 Z = true) (w4 : (Jvm.Cond.code z bytes maxL ret).before a0 Z = true) (hy : y.cls ≠ "java/lang/invoke/MethodHandle" ∧ y.cls ≠ "java/lang/invoke/VarHandle") {b : Addr}
    (hM : Con l Z z bytes maxL ret rm (.ref b :: argsL).toArray h Q) (eT : T.heap = h) (E : Exa Z h b C) (hsz : Ls.size = c.maxLocals) (hpd : parseMethodDescriptor y.desc = some ⟨ps, r⟩) (hlen : argsL.length = ps.length) (hst : st = argsL.reverse ++ .ref b :: rest) (hW : (rest.map fun v => v.category).sum = W) (hd : decode c.code pc = .ok (.invokevirtual index, 3))
    (hf : rm.frames + 1 ≤ R.frames) (hl : W + (maxL + 11) + rm.locals ≤ R.locals) (hc : cells + rm.cells ≤ R.cells) (hs : slots + rm.slots ≤ R.slots) :
    ∃ v T' L, Stand p l e R s m args below meth c T' (locs ++ L) (cells + rm.cells) (slots + rm.slots) ∧ Q v T'.heap L ∧ ∀ target, Steps p.tables e below (T'.setTop (mkF m (pc + 3) Ls (v.toList ++ rest))) target → Steps p.tables e below (T.setTop (mkF m pc Ls st)) target := by
  obtain ⟨cq, kq, qa, qb, qc⟩ := isOf hZ eT E
  obtain ⟨v, _, ⟨T', L', k', n'⟩, -, X', ⟨Lc, hQ, l1, l2, l3⟩, k⟩ := X.virtualBack hx (y := y) (z := z) hown (mvT hZ w1) (mvT hZ w2) nf (mvT hZ w5) (mvT hZ w6) hy (backOf (W := W) (hM []) hZ w4 w3 hf hl) qa qc (g := mkF m pc Ls st) rfl hsz (Steps.refl _) (argsL := argsL) (rest := rest) (lenOf hpd hlen) hst (by show 2 * 0 + _ ≤ _; omega) hd (fun _ _ => ⟨rfl, eT, hc, hs⟩)
  dsimp only [Pt.U, Pt.locs, Pt.cells, Pt.slots] at X' l1 l2 l3 k hQ
  subst l1 l2 l3
  exact ⟨v, T', Lc, X', hQ, fun _ q => k.trans q⟩
theorem callI (X : Stand p l e R s m args below meth c T locs cells slots) (hx : p.tables.exec = Jvm.exec) (hZ : Z.Warmed39 s.vm) (hown : s.vm.findClass own = some m.cls) {C : String} {count : Nat}
    (w1 : (Jvm.Cond.methodLink own index y).before a0 Z = true) (w2 : (Jvm.Cond.declares y).before a0 Z = true) (wf : (Jvm.Cond.interfaceMethod y.cls y.cls y.name y.desc).before args s = true) (w5 : (Jvm.Cond.selects C y z).before a0 Z = true) (w6 : (Jvm.Cond.instanceMethod z).before a0 Z = true) (w7 : (Jvm.Cond.publicMethod z).before a0 Z = true) (w8 : (Jvm.Cond.unhidden C y.name y.desc).before a0 Z = true) (w9 : (Jvm.Cond.castable C y.cls).before a0 Z = true) (w3 : (Jvm.Cond.initialized z.cls).before a0 Z = true) (w4 : (Jvm.Cond.code z bytes maxL ret).before a0 Z = true) (hy : y.cls ≠ "java/lang/invoke/MethodHandle" ∧ y.cls ≠ "java/lang/invoke/VarHandle") {b : Addr}
    (hM : Con l Z z bytes maxL ret rm (.ref b :: argsL).toArray h Q) (eT : T.heap = h) (E : Exa Z h b C) (hsz : Ls.size = c.maxLocals) (hpd : parseMethodDescriptor y.desc = some ⟨ps, r⟩) (hlen : argsL.length = ps.length) (hst : st = argsL.reverse ++ .ref b :: rest) (hW : (rest.map fun v => v.category).sum = W) (hd : decode c.code pc = .ok (.invokeinterface index count, 5))
    (hf : rm.frames + 1 ≤ R.frames) (hl : W + (maxL + 11) + rm.locals ≤ R.locals) (hc : cells + rm.cells ≤ R.cells) (hs : slots + rm.slots ≤ R.slots) :
    ∃ v T' L, Stand p l e R s m args below meth c T' (locs ++ L) (cells + rm.cells) (slots + rm.slots) ∧ Q v T'.heap L ∧ ∀ target, Steps p.tables e below (T'.setTop (mkF m (pc + 5) Ls (v.toList ++ rest))) target → Steps p.tables e below (T.setTop (mkF m pc Ls st)) target := by
  obtain ⟨cq, kq, qa, qb, qc⟩ := isOf hZ eT E
  obtain ⟨v, _, ⟨T', L', k', n'⟩, -, X', ⟨Lc, hQ, l1, l2, l3⟩, k⟩ := X.interfaceBack hx (xi := y) (y := z) hown (mvT hZ w1) (mvT hZ w2) wf (mvT hZ w5) (mvT hZ w6) (mvT hZ w7) (mvT hZ w8) (mvT hZ w9) hy (backOf (W := W) (hM []) hZ w4 w3 hf hl) qa qb qc (g := mkF m pc Ls st) rfl hsz (Steps.refl _) (argsL := argsL) (rest := rest) (lenOf hpd hlen) hst (by show 2 * 0 + _ ≤ _; omega) hd (fun _ _ => ⟨rfl, eT, hc, hs⟩)
  dsimp only [Pt.U, Pt.locs, Pt.cells, Pt.slots] at X' l1 l2 l3 k hQ
  subst l1 l2 l3
  exact ⟨v, T', Lc, X', hQ, fun _ q => k.trans q⟩
theorem callP (X : Stand p l e R s m args below meth c T locs cells slots) (hx : p.tables.exec = Jvm.exec) (hZ : Z.Warmed39 s.vm) (hown : s.vm.findClass own = some m.cls) {C : String}
    (w1 : (Jvm.Cond.methodLink own index y).before a0 Z = true) (w5 : (Jvm.Cond.selects y.cls y y).before a0 Z = true) (w6 : (Jvm.Cond.instanceMethod y).before a0 Z = true) (w7 : (Jvm.Cond.privateMethod y).before a0 Z = true) (w3 : (Jvm.Cond.initialized y.cls).before a0 Z = true) (w4 : (Jvm.Cond.code y bytes maxL ret).before a0 Z = true) (hy : y.cls ≠ "java/lang/invoke/MethodHandle" ∧ y.cls ≠ "java/lang/invoke/VarHandle") {b : Addr}
    (hM : Con l Z y bytes maxL ret rm (.ref b :: argsL).toArray h Q) (eT : T.heap = h) (E : Exa Z h b C) (hsz : Ls.size = c.maxLocals) (hpd : parseMethodDescriptor y.desc = some ⟨ps, r⟩) (hlen : argsL.length = ps.length) (hst : st = argsL.reverse ++ .ref b :: rest) (hW : (rest.map fun v => v.category).sum = W) (hd : decode c.code pc = .ok (.invokevirtual index, 3))
    (hf : rm.frames + 1 ≤ R.frames) (hl : W + (maxL + 11) + rm.locals ≤ R.locals) (hc : cells + rm.cells ≤ R.cells) (hs : slots + rm.slots ≤ R.slots) :
    ∃ v T' L, Stand p l e R s m args below meth c T' (locs ++ L) (cells + rm.cells) (slots + rm.slots) ∧ Q v T'.heap L ∧ ∀ target, Steps p.tables e below (T'.setTop (mkF m (pc + 3) Ls (v.toList ++ rest))) target → Steps p.tables e below (T.setTop (mkF m pc Ls st)) target := by
  obtain ⟨cq, q1, q2⟩ := E.cell
  obtain ⟨v, _, ⟨T', L', k', n'⟩, -, X', ⟨Lc, hQ, l1, l2, l3⟩, k⟩ := X.privateBack hx (y := y) hown (mvT hZ w1) (mvT hZ w6) (mvT hZ w5) (Cond.privateMethod_at (mvP hZ w7 (args := #[]))) (mvT hZ w4) hy (backOf (W := W) (hM []) hZ w4 w3 hf hl) (g := mkF m pc Ls st) rfl hsz (Steps.refl _) (a := b) (by rw [eT]; exact q1) q2 (argsL := argsL) (rest := rest) (lenOf hpd hlen) hst (by show 2 * 0 + _ ≤ _; omega) hd (fun _ _ => ⟨rfl, eT, hc, hs⟩)
  dsimp only [Pt.U, Pt.locs, Pt.cells, Pt.slots] at X' l1 l2 l3 k hQ
  subst l1 l2 l3
  exact ⟨v, T', Lc, X', hQ, fun _ q => k.trans q⟩
end Calls
theorem newO (X : Stand p l e R s m args below meth c T locs cells slots) (hx : p.tables.exec = Jvm.exec) (hZ : Z.Warmed39 s.vm) {own C : String} {index n : Nat} (hown : s.vm.findClass own = some m.cls) (w : (Jvm.Cond.classLink own index C).before a0 Z = true) (wi : (Jvm.Cond.instantiable C n).before a0 Z = true) (wz : (Jvm.Cond.initialized C).before a0 Z = true) (eT : T.heap = h) {st : List Value}
    (hd : decode c.code pc = .ok (.new index, 3)) (hc : cells + 1 ≤ R.cells) (hl : slots + n ≤ R.slots) :
    ∃ T' h' b, Stand p l e R s m args below meth c T' locs (cells + 1) (slots + n) ∧ T'.heap = h' ∧ Ext h h' ∧ h.size ≤ b ∧ Exa Z h' b C ∧ (∀ {O nm d : String} {ty : FieldType}, Laid Z a0 C O nm d → parseFieldDescriptor d = some ty → Fld Z h' b O nm d (defaultValue ty)) ∧
      ∀ target, Steps p.tables e below (T'.setTop (mkF m (pc + 3) Ls (.ref b :: st))) target → Steps p.tables e below (T.setTop (mkF m pc Ls st)) target := by
  obtain ⟨T', h', X', e', E', A', D', -, k⟩ := RoadKit.newO X hx hZ hown w wi wz eT (g := mkF m pc Ls st) rfl hd hc hl
  exact ⟨T', h', h.size, X', e', E', Nat.le_refl _, A', D', k⟩
theorem newP (X : Stand p l e R s m args below meth c T locs cells slots) (hx : p.tables.exec = Jvm.exec) (hZ : Z.Warmed39 s.vm) {aty : ArrayType} (w : (Jvm.Cond.arrayClass (newarray.typeOf aty)).before a0 Z = true) (eT : T.heap = h) (hd : decode c.code pc = .ok (.newarray aty, 2)) {n : Int32} {rest : List Value}
    (hn : ¬ n < 0) {cap : Nat} (hcap : n.toNatClampNeg ≤ cap) (hb : cap * 8 ≤ 536870912) (hc : cells + 1 ≤ R.cells) (hl : slots + cap ≤ R.slots) {ad : String} (had : "[" ++ (newarray.typeOf aty).toString = ad) (k0 : Nat) :
    ∃ T' h' cA b, Stand p l e R s m args below meth c T' locs (cells + 1) (slots + cap) ∧ T'.heap = h' ∧ Ext h h' ∧ h.size ≤ b ∧ Arv Z h' b cA (newarray.typeOf aty) n (List.replicate k0 (defaultValue (newarray.typeOf aty))) (defaultValue (newarray.typeOf aty)) ∧ Exa Z h' b ad ∧
      ∀ target, Steps p.tables e below (T'.setTop (mkF m (pc + 2) Ls (.ref b :: rest))) target → Steps p.tables e below (T.setTop (mkF m pc Ls (.int n :: rest))) target := by
  obtain ⟨T', h', cA, X', e', E', A', E2, k⟩ := RoadKit.newPE X hx hZ w eT (g := mkF m pc Ls (.int n :: rest)) rfl hd rfl hn hcap hb hc hl had
  exact ⟨T', h', cA, h.size, X', e', E', Nat.le_refl _, (Arv.new A' hn).pad (pad_rep [] _ k0), E2, k⟩
theorem newR (X : Stand p l e R s m args below meth c T locs cells slots) (hx : p.tables.exec = Jvm.exec) (hZ : Z.Warmed39 s.vm) {own C : String} {index : Nat} (hown : s.vm.findClass own = some m.cls) (w1 : (Jvm.Cond.classLink own index C).before a0 Z = true) (w2 : (Jvm.Cond.arrayOver (.object C)).before a0 Z = true) (eT : T.heap = h) (hd : decode c.code pc = .ok (.anewarray index, 3)) {n : Int32} {rest : List Value}
    (hn : ¬ n < 0) {cap : Nat} (hcap : n.toNatClampNeg ≤ cap) (hb : cap * 8 ≤ 536870912) (hc : cells + 1 ≤ R.cells) (hl : slots + cap ≤ R.slots) {ad : String} (had : "[" ++ (FieldType.object C).toString = ad) (k0 : Nat) :
    ∃ T' h' cA b, Stand p l e R s m args below meth c T' locs (cells + 1) (slots + cap) ∧ T'.heap = h' ∧ Ext h h' ∧ h.size ≤ b ∧ Arv Z h' b cA (.object C) n (List.replicate k0 .null) .null ∧ Exa Z h' b ad ∧ Ovr Z cA C ∧
      ∀ target, Steps p.tables e below (T'.setTop (mkF m (pc + 3) Ls (.ref b :: rest))) target → Steps p.tables e below (T.setTop (mkF m pc Ls (.int n :: rest))) target := by
  obtain ⟨T', h', cA, X', e', E', A', E2, O', k⟩ := RoadKit.newRE X hx hZ hown w1 w2 eT (g := mkF m pc Ls (.int n :: rest)) rfl hd rfl hn hcap hb hc hl had
  exact ⟨T', h', cA, h.size, X', e', E', Nat.le_refl _, (Arv.new A' hn).pad (pad_rep [] _ k0), E2, O', k⟩
section Arrays
variable {a : Addr} {k : ClassId} {ty : FieldType} {z j : Int32} {vs : List Value} {dv v : Value} {rest : List Value}
theorem ldA (X : Stand p l e R s m args below meth c T locs cells slots) (hx : p.tables.exec = Jvm.exec) (hZ : Z.Warmed39 s.vm) (eT : T.heap = h) (F : Arv Z h a k ty z vs dv) (hty : ty.isReference = true) (hj : ¬ j < 0 ∧ j < z) (hv : vs.getD j.toNatClampNeg dv = v) (hd : decode c.code pc = .ok (.aaload, 1)) :
    ∀ target, Steps p.tables e below (T.setTop (mkF m (pc + 1) Ls (v :: rest))) target → Steps p.tables e below (T.setTop (mkF m pc Ls (.int j :: .ref a :: rest))) target := fun target q => by
  obtain ⟨cl, A, q1, S, q3, H, G⟩ := F
  exact X.aaload hx (by rw [eT]; exact A.1) (State.isArrayOf_alike hZ.alike A.2.1) hty A.2.2 (inb_of S hj) (H.at (inb_of S hj) hv) (g := mkF m pc Ls (.int j :: .ref a :: rest)) rfl rfl hd _ q
theorem ldI (X : Stand p l e R s m args below meth c T locs cells slots) (hx : p.tables.exec = Jvm.exec) (hZ : Z.Warmed39 s.vm) (eT : T.heap = h) (F : Arv Z h a k .int z vs dv) (hj : ¬ j < 0 ∧ j < z) (hv : vs.getD j.toNatClampNeg dv = v) (hd : decode c.code pc = .ok (.iaload, 1)) :
    ∀ target, Steps p.tables e below (T.setTop (mkF m (pc + 1) Ls (v :: rest))) target → Steps p.tables e below (T.setTop (mkF m pc Ls (.int j :: .ref a :: rest))) target := fun target q => by
  obtain ⟨cl, A, q1, S, q3, H, G⟩ := F
  exact X.iaload hx (by rw [eT]; exact A.1) (State.isArrayOf_alike hZ.alike A.2.1) A.2.2 (inb_of S hj) (H.at (inb_of S hj) hv) (g := mkF m pc Ls (.int j :: .ref a :: rest)) rfl rfl hd _ q
theorem ldJ (X : Stand p l e R s m args below meth c T locs cells slots) (hx : p.tables.exec = Jvm.exec) (hZ : Z.Warmed39 s.vm) (eT : T.heap = h) (F : Arv Z h a k .long z vs dv) (hj : ¬ j < 0 ∧ j < z) (hv : vs.getD j.toNatClampNeg dv = v) (hd : decode c.code pc = .ok (.laload, 1)) :
    ∀ target, Steps p.tables e below (T.setTop (mkF m (pc + 1) Ls (v :: rest))) target → Steps p.tables e below (T.setTop (mkF m pc Ls (.int j :: .ref a :: rest))) target := fun target q => by
  obtain ⟨cl, A, q1, S, q3, H, G⟩ := F
  exact X.laload hx (by rw [eT]; exact A.1) (State.isArrayOf_alike hZ.alike A.2.1) A.2.2 (inb_of S hj) (H.at (inb_of S hj) hv) (g := mkF m pc Ls (.int j :: .ref a :: rest)) rfl rfl hd _ q
theorem ldC (X : Stand p l e R s m args below meth c T locs cells slots) (hx : p.tables.exec = Jvm.exec) (hZ : Z.Warmed39 s.vm) (eT : T.heap = h) (F : Arv Z h a k .char z vs dv) (hj : ¬ j < 0 ∧ j < z) (hv : vs.getD j.toNatClampNeg dv = v) (hd : decode c.code pc = .ok (.caload, 1)) :
    ∀ target, Steps p.tables e below (T.setTop (mkF m (pc + 1) Ls (v :: rest))) target → Steps p.tables e below (T.setTop (mkF m pc Ls (.int j :: .ref a :: rest))) target := fun target q => by
  obtain ⟨cl, A, q1, S, q3, H, G⟩ := F
  exact X.caload hx (by rw [eT]; exact A.1) (State.isArrayOf_alike hZ.alike A.2.1) A.2.2 (inb_of S hj) (H.at (inb_of S hj) hv) (g := mkF m pc Ls (.int j :: .ref a :: rest)) rfl rfl hd _ q
theorem ldB (X : Stand p l e R s m args below meth c T locs cells slots) (hx : p.tables.exec = Jvm.exec) (hZ : Z.Warmed39 s.vm) (eT : T.heap = h) (F : Arv Z h a k .byte z vs dv) (hj : ¬ j < 0 ∧ j < z) (hv : vs.getD j.toNatClampNeg dv = v) (hd : decode c.code pc = .ok (.baload, 1)) :
    ∀ target, Steps p.tables e below (T.setTop (mkF m (pc + 1) Ls (v :: rest))) target → Steps p.tables e below (T.setTop (mkF m pc Ls (.int j :: .ref a :: rest))) target := fun target q => by
  obtain ⟨cl, A, q1, S, q3, H, G⟩ := F
  exact X.baloadBytes hx (by rw [eT]; exact A.1) (State.isArrayOf_alike hZ.alike A.2.1) A.2.2 (inb_of S hj) (H.at (inb_of S hj) hv) (g := mkF m pc Ls (.int j :: .ref a :: rest)) rfl rfl hd _ q
theorem aLen (X : Stand p l e R s m args below meth c T locs cells slots) (hx : p.tables.exec = Jvm.exec) (hZ : Z.Warmed39 s.vm) (eT : T.heap = h) (F : Arv Z h a k ty z vs dv) (hd : decode c.code pc = .ok (.arraylength, 1)) :
    ∀ target, Steps p.tables e below (T.setTop (mkF m (pc + 1) Ls (.int z :: rest))) target → Steps p.tables e below (T.setTop (mkF m pc Ls (.ref a :: rest))) target := fun target q => by
  obtain ⟨cl, A, q1, S, q3, H, G⟩ := F
  refine X.arraylength hx (by rw [eT]; exact A.1) (State.isArrayOf_alike hZ.alike A.2.1) (g := mkF m pc Ls (.ref a :: rest)) rfl rfl hd _ ?_
  rw [len_of S q3]
  exact q
theorem stA (X : Stand p l e R s m args below meth c T locs cells slots) (hx : p.tables.exec = Jvm.exec) (hZ : Z.Warmed39 s.vm) (eT : T.heap = h) (F : Arv Z h a k ty z vs dv) (hty : ty.isReference = true) (hvr : v.isRef = true) (hs : ∀ cl, Arr Z h a cl ty → cl.cls = k → Sto Z h a v) (hj : ¬ j < 0 ∧ j < z) (i : Nat) (hi : j.toNatClampNeg = i) (hl : i < vs.length) (hd : decode c.code pc = .ok (.aastore, 1)) :
    ∃ T' h', Stand p l e R s m args below meth c T' (locs ++ [⟨a, j.toNatClampNeg⟩]) cells slots ∧ T'.heap = h' ∧ Wr h h' a j.toNatClampNeg v ∧ Arv Z h' a k ty z (vs.set i v) dv ∧ ∀ target, Steps p.tables e below (T'.setTop (mkF m (pc + 1) Ls rest)) target → Steps p.tables e below (T.setTop (mkF m pc Ls (v :: .int j :: .ref a :: rest))) target := by
  obtain ⟨cl, A, q1, S, q3, H, G⟩ := F
  obtain ⟨T', h', X', e', W', k'⟩ := stR X hx hZ eT A (inb_of S hj) hty (hs cl A q1) (g := mkF m pc Ls (v :: .int j :: .ref a :: rest)) rfl rfl hd
  refine ⟨T', h', X', e', W', Arv.set A q1 S q3 H G ?_ W' i hi hl, k'⟩
  cases ty <;> first | (cases hty; done) | (cases v <;> first | (cases hvr; done) | rfl)
theorem stI (X : Stand p l e R s m args below meth c T locs cells slots) (hx : p.tables.exec = Jvm.exec) (hZ : Z.Warmed39 s.vm) (eT : T.heap = h) (F : Arv Z h a k .int z vs dv) {x : Int32} (hj : ¬ j < 0 ∧ j < z) (i : Nat) (hi : j.toNatClampNeg = i) (hl : i < vs.length) (hd : decode c.code pc = .ok (.iastore, 1)) :
    ∃ T' h', Stand p l e R s m args below meth c T' (locs ++ [⟨a, j.toNatClampNeg⟩]) cells slots ∧ T'.heap = h' ∧ Wr h h' a j.toNatClampNeg (.int x) ∧ Arv Z h' a k .int z (vs.set i (.int x)) dv ∧ ∀ target, Steps p.tables e below (T'.setTop (mkF m (pc + 1) Ls rest)) target → Steps p.tables e below (T.setTop (mkF m pc Ls (.int x :: .int j :: .ref a :: rest))) target := by
  obtain ⟨cl, A, q1, S, q3, H, G⟩ := F
  obtain ⟨T', h', X', e', W', k'⟩ := RoadKit.stI X hx hZ eT A (inb_of S hj) (g := mkF m pc Ls (.int x :: .int j :: .ref a :: rest)) rfl rfl hd
  exact ⟨T', h', X', e', W', Arv.set A q1 S q3 H G rfl W' i hi hl, k'⟩
theorem stC (X : Stand p l e R s m args below meth c T locs cells slots) (hx : p.tables.exec = Jvm.exec) (hZ : Z.Warmed39 s.vm) (eT : T.heap = h) (F : Arv Z h a k .char z vs dv) {x : Int32} (hj : ¬ j < 0 ∧ j < z) (i : Nat) (hi : j.toNatClampNeg = i) (hl : i < vs.length) (hd : decode c.code pc = .ok (.castore, 1)) :
    ∃ T' h', Stand p l e R s m args below meth c T' (locs ++ [⟨a, j.toNatClampNeg⟩]) cells slots ∧ T'.heap = h' ∧ Wr h h' a j.toNatClampNeg (.int (nar .char x)) ∧ Arv Z h' a k .char z (vs.set i (.int (nar .char x))) dv ∧ ∀ target, Steps p.tables e below (T'.setTop (mkF m (pc + 1) Ls rest)) target → Steps p.tables e below (T.setTop (mkF m pc Ls (.int x :: .int j :: .ref a :: rest))) target := by
  obtain ⟨cl, A, q1, S, q3, H, G⟩ := F
  obtain ⟨T', h', X', e', W', k'⟩ := RoadKit.stC X hx hZ eT A (inb_of S hj) (g := mkF m pc Ls (.int x :: .int j :: .ref a :: rest)) rfl rfl hd
  exact ⟨T', h', X', e', W', Arv.set A q1 S q3 H G (fits_nar_char _) W' i hi hl, k'⟩
theorem stB (X : Stand p l e R s m args below meth c T locs cells slots) (hx : p.tables.exec = Jvm.exec) (hZ : Z.Warmed39 s.vm) (eT : T.heap = h) (F : Arv Z h a k .byte z vs dv) {x : Int32} (hj : ¬ j < 0 ∧ j < z) (i : Nat) (hi : j.toNatClampNeg = i) (hl : i < vs.length) (hd : decode c.code pc = .ok (.bastore, 1)) :
    ∃ T' h', Stand p l e R s m args below meth c T' (locs ++ [⟨a, j.toNatClampNeg⟩]) cells slots ∧ T'.heap = h' ∧ Wr h h' a j.toNatClampNeg (.int (nar .byte x)) ∧ Arv Z h' a k .byte z (vs.set i (.int (nar .byte x))) dv ∧ ∀ target, Steps p.tables e below (T'.setTop (mkF m (pc + 1) Ls rest)) target → Steps p.tables e below (T.setTop (mkF m pc Ls (.int x :: .int j :: .ref a :: rest))) target := by
  obtain ⟨cl, A, q1, S, q3, H, G⟩ := F
  obtain ⟨T', h', X', e', W', k'⟩ := RoadKit.stB X hx hZ eT A (inb_of S hj) (g := mkF m pc Ls (.int x :: .int j :: .ref a :: rest)) rfl rfl hd
  exact ⟨T', h', X', e', W', Arv.set A q1 S q3 H G (fits_nar_byte _) W' i hi hl, k'⟩
end Arrays
theorem eq_int_v {a : Term} {n : Int32} (q : (Jvm.Cond.eq a (.int n)).value args s none s [] = some true) : a.eval args s none [] s = some (.int n) := by
  cases ha : a.eval args s none [] s with
  | none => simp [Jvm.Cond.value, Term.eval, ha] at q
  | some x => cases x <;> simp [Jvm.Cond.value, Term.eval, ha] at q ⊢; exact q
theorem arv_start {t : Term} {ty : FieldType} {z : Int32} {a : Addr} (dv : Value) (hf : Fit s) (ev : t.eval args s none [] s = some (.ref a)) (ha : (Jvm.Cond.arrayOf t ty).value args s none s [] = some true) (hl : (Term.length t).eval args s none [] s = some (.int z)) : ∃ (k : ClassId) (vs : List Value), Arv s s.heap a k ty z vs dv := by
  obtain ⟨cl, A⟩ := Arr.start ev ha
  have h2 : s.arrayAt? a = some cl := A.fin (Vm.Alike.refl _)
  have h3 : cl.slots.size < 2 ^ 31 ∧ cl.slots.size.toInt32 = z := by simpa [Term.eval, ev, h2] using hl
  have hn := len_toInt h3.1
  rw [h3.2] at hn
  have hz : ¬ z < 0 := by rw [Int32.lt_iff_toInt_lt, hn]; simp
  have hs : cl.slots.size = z.toNatClampNeg := by
    have := nat_of hz
    omega
  have hH : ∀ i, i < cl.slots.size → cl.slots[i]? = some (cl.slots.toList.getD i dv) := fun i hi => by simp [hi, List.getD_eq_getElem?_getD]
  refine ⟨cl.cls, cl.slots.toList, cl, A, rfl, hs, hz, hH, fun i hi => ?_⟩
  obtain ⟨v, hv, hfv⟩ := elem_fit hf A (j := i.toInt32) (idx_in hi h3.1)
  have e : i.toInt32.toNatClampNeg = i := by
    have h5 := len_toInt (n := i) (by omega)
    have h6 : ¬ i.toInt32 < 0 := by rw [Int32.lt_iff_toInt_lt, h5]; simp
    have := nat_of h6
    omega
  rw [e, hH i hi] at hv
  cases hv
  exact hfv
theorem Ext.keep {h0 h1 : Heap} (E : Ext h0 h1) (ws : List Addr) : Keep h0 h1 ws := (Keep.refl _ _).ext E
theorem ne_of_born {x b : Addr} {h1 : Heap} (q : x < h1.size) (r : h1.size ≤ b) : x ≠ b := Nat.ne_of_lt (Nat.lt_of_lt_of_le q r)
theorem i2c_id {x : Int32} (h0 : 0 ≤ x.toInt) (h1 : x.toInt < 65536) : x.toUInt32.toUInt16.toUInt32.toInt32 = x := by
  apply Int32.toInt_inj.mp
  have := c_i2c x
  omega
theorem m255v (q : Int32) : (q &&& 255).toInt = q.toInt % 256 := c_mask q 255 8 (by decide) (by decide)
theorem i2c_m (q : Int32) : (q &&& 255).toUInt32.toUInt16.toUInt32.toInt32 = q &&& 255 := i2c_id (by rw [m255v]; omega) (by rw [m255v]; omega)
theorem narc_m (q : Int32) : nar .char (q &&& 255) = q &&& 255 := i2c_m q
theorem m255 (q : Int32) : ¬ (255 : Int32) < q &&& 255 := by
  rw [Int32.lt_iff_toInt_lt, m255v, show (255 : Int32).toInt = 255 from by decide]
  omega
end
end Jvm.OwnW
namespace Jvm.Pilot.@@N@@
open Jvm Jvm.ClassFile Sem Op Lib Jvm.Free Jvm.Stand Jvm.LawKit Jvm.RoadKit Jvm.OwnW Bundle Jvm.Pilot.@@N@@.Jvm.D
abbrev Ht (a0 : Array Value) (Z : State) : Prop := ∀ d ∈ tables_1, d.before a0 Z = true
theorem ht {Z : State} {a0 : Array Value} {d : Cond} (hw : Ht a0 Z) (i : Nat) (e : tables_1[i]? = some d) : d.before a0 Z = true := hw _ (List.mem_of_getElem? e)
def wt3 (r : Int32) : Int := if r = 0 then 1000 else if r = 1 then 100 else if r = 2 then 10 else 1
def Nv3 (q : Int64) (r : Int32) : Int := q.toInt * wt3 r
def Sc (r : Int32) : Prop := r = 0 ∨ r = 1 ∨ r = 2 ∨ r = 3
def Bq (q : Int64) : Prop := -6500000000000 ≤ q.toInt ∧ q.toInt ≤ 6500000000000
def Bd (q : Int64) : Prop := -6500000000000000 ≤ q.toInt ∧ q.toInt ≤ 6500000000000000
def Dig (q : Int64) (d : Int32) : Prop := ∃ n : Nat, d.toInt = n + 1 ∧ n < 18 ∧ 10 ^ n ≤ q.toInt.natAbs ∧ q.toInt.natAbs < 10 ^ (n + 1)
def BDV (Z : State) (h : Heap) (n0 : Nat) (b : Addr) (q : Int64) (r : Int32) : Prop := Exa Z h b "java/math/BigDecimal" ∧ Fld Z h b "java/math/BigDecimal" "scale" "I" (.int r) ∧ Fld Z h b "java/math/BigDecimal" "intCompact" "J" (.long q) ∧ (q ≠ 0 → ∃ d : Int32, Fld Z h b "java/math/BigDecimal" "precision" "I" (.int d) ∧ (d = 0 ∧ n0 ≤ b ∨ Dig q d))
theorem BDV.ext {Z : State} {h h' : Heap} {n0 : Nat} {b : Addr} {q : Int64} {r : Int32} (F : BDV Z h n0 b q r) (E : Ext h h') : BDV Z h' n0 b q r :=
  ⟨Exa.ext E F.1, Fld.ext E F.2.1, Fld.ext E F.2.2.1, fun n => by obtain ⟨d, f, o⟩ := F.2.2.2 n; exact ⟨d, Fld.ext E f, o⟩⟩
theorem BDV.other {Z : State} {h h' : Heap} {n0 : Nat} {a b : Addr} {sl : Nat} {u : Value} {q : Int64} {r : Int32} (F : BDV Z h n0 b q r) (W : Wr h h' a sl u) (ne : b ≠ a) : BDV Z h' n0 b q r :=
  ⟨Exa.wr W F.1, Fld.other W F.2.1 (Or.inl ne), Fld.other W F.2.2.1 (Or.inl ne), fun n => by obtain ⟨d, f, o⟩ := F.2.2.2 n; exact ⟨d, Fld.other W f (Or.inl ne), o⟩⟩
theorem BDV.keep {Z : State} {h h' : Heap} {n0 : Nat} {b : Addr} {ws : List Addr} {q : Int64} {r : Int32} (F : BDV Z h n0 b q r) (K : Keep h h' ws) (ne : b ∉ ws) : BDV Z h' n0 b q r :=
  ⟨Exa.keep F.1 K, Fld.keep F.2.1 K ne, Fld.keep F.2.2.1 K ne, fun n => by obtain ⟨d, f, o⟩ := F.2.2.2 n; exact ⟨d, Fld.keep f K ne, o⟩⟩
theorem BDV.lt {Z : State} {h : Heap} {n0 : Nat} {b : Addr} {q : Int64} {r : Int32} (F : BDV Z h n0 b q r) : b < h.size := F.1.lt
theorem BDV.mk0 {Z : State} {h : Heap} {n0 : Nat} {b : Addr} {q : Int64} {r : Int32} (e : Exa Z h b "java/math/BigDecimal") (f1 : Fld Z h b "java/math/BigDecimal" "scale" "I" (.int r)) (f2 : Fld Z h b "java/math/BigDecimal" "intCompact" "J" (.long q)) (f3 : Fld Z h b "java/math/BigDecimal" "precision" "I" (.int (0 : Int32))) (g : n0 ≤ b) : BDV Z h n0 b q r := ⟨e, f1, f2, fun _ => ⟨0, f3, Or.inl ⟨rfl, g⟩⟩⟩
def BigS (Z : State) (wZ : Addr) (wT : Addr) (wS : Addr) (wP : Addr) (wH : Addr) (kT : ClassId) (kS : ClassId) (kP : ClassId) (kH : ClassId) (zt : Nat → Addr) (zs : Nat → Addr) : Prop := Sta Z Z.heap "java/math/BigDecimal" "ZERO" "Ljava/math/BigDecimal;" (.ref wZ) ∧ (∀ n0, BDV Z Z.heap n0 wZ (0 : Int64) (0 : Int32)) ∧ Sta Z Z.heap "java/math/BigDecimal" "ZERO_THROUGH_TEN" "[Ljava/math/BigDecimal;" (.ref wT) ∧ Arv Z Z.heap wT kT (.object "java/math/BigDecimal") (11 : Int32) [(.ref (zt 0)), (.ref (zt 1)), (.ref (zt 2)), (.ref (zt 3)), (.ref (zt 4)), (.ref (zt 5)), (.ref (zt 6)), (.ref (zt 7)), (.ref (zt 8)), (.ref (zt 9)), (.ref (zt 10))] .null ∧ (∀ i, i < 11 → Exa Z Z.heap (zt i) "java/math/BigDecimal" ∧ Fld Z Z.heap (zt i) "java/math/BigDecimal" "scale" "I" (.int (0 : Int32)) ∧ Fld Z Z.heap (zt i) "java/math/BigDecimal" "intCompact" "J" (.long (Int64.ofNat i)) ∧ ∃ d : Int32, Fld Z Z.heap (zt i) "java/math/BigDecimal" "precision" "I" (.int d) ∧ (i ≠ 0 → Dig (Int64.ofNat i) d)) ∧ Sta Z Z.heap "java/math/BigDecimal" "ZERO_SCALED_BY" "[Ljava/math/BigDecimal;" (.ref wS) ∧ Arv Z Z.heap wS kS (.object "java/math/BigDecimal") (16 : Int32) [(.ref (zs 0)), (.ref (zs 1)), (.ref (zs 2)), (.ref (zs 3)), (.ref (zs 4)), (.ref (zs 5)), (.ref (zs 6)), (.ref (zs 7)), (.ref (zs 8)), (.ref (zs 9)), (.ref (zs 10)), (.ref (zs 11)), (.ref (zs 12)), (.ref (zs 13)), (.ref (zs 14)), (.ref (zs 15))] .null ∧ (∀ i, i < 16 → Exa Z Z.heap (zs i) "java/math/BigDecimal" ∧ Fld Z Z.heap (zs i) "java/math/BigDecimal" "scale" "I" (.int (Int32.ofNat i)) ∧ Fld Z Z.heap (zs i) "java/math/BigDecimal" "intCompact" "J" (.long (0 : Int64))) ∧ Sta Z Z.heap "java/math/BigDecimal" "LONG_TEN_POWERS_TABLE" "[J" (.ref wP) ∧ Arv Z Z.heap wP kP .long (19 : Int32) [(.long (1 : Int64)), (.long (10 : Int64)), (.long (100 : Int64)), (.long (1000 : Int64)), (.long (10000 : Int64)), (.long (100000 : Int64)), (.long (1000000 : Int64)), (.long (10000000 : Int64)), (.long (100000000 : Int64)), (.long (1000000000 : Int64)), (.long (10000000000 : Int64)), (.long (100000000000 : Int64)), (.long (1000000000000 : Int64)), (.long (10000000000000 : Int64)), (.long (100000000000000 : Int64)), (.long (1000000000000000 : Int64)), (.long (10000000000000000 : Int64)), (.long (100000000000000000 : Int64)), (.long (1000000000000000000 : Int64))] (.long (0 : Int64)) ∧ Sta Z Z.heap "java/math/BigDecimal" "THRESHOLDS_TABLE" "[J" (.ref wH) ∧ Arv Z Z.heap wH kH .long (19 : Int32) [(.long (9223372036854775807 : Int64)), (.long (922337203685477580 : Int64)), (.long (92233720368547758 : Int64)), (.long (9223372036854775 : Int64)), (.long (922337203685477 : Int64)), (.long (92233720368547 : Int64)), (.long (9223372036854 : Int64)), (.long (922337203685 : Int64)), (.long (92233720368 : Int64)), (.long (9223372036 : Int64)), (.long (922337203 : Int64)), (.long (92233720 : Int64)), (.long (9223372 : Int64)), (.long (922337 : Int64)), (.long (92233 : Int64)), (.long (9223 : Int64)), (.long (922 : Int64)), (.long (92 : Int64)), (.long (9 : Int64))] (.long (0 : Int64)) ∧ Sta Z Z.heap "java/math/BigDecimal" "$assertionsDisabled" "Z" (.int (1 : Int32))
theorem own_sz {q : Int64} (h0 : ¬ q < 0) (h1 : q < 11) : ∃ i : Nat, i < 11 ∧ q = Int64.ofNat i ∧ q.toInt32.toNatClampNeg = i ∧ ¬ q.toInt32 < 0 ∧ q.toInt32 < 11 := by
  rw [Int64.lt_iff_toInt_lt] at h0 h1
  have e0 : (0 : Int64).toInt = 0 := by decide
  have e11 : (11 : Int64).toInt = 11 := by decide
  have e11' : (11 : Int32).toInt = 11 := by decide
  have e0' : (0 : Int32).toInt = 0 := by decide
  have h2 : q.toInt32.toInt = q.toInt := by
    have := c_l2i q
    have := rng32 q.toInt32
    omega
  have h3 : ¬ q.toInt32 < 0 := by rw [Int32.lt_iff_toInt_lt]; omega
  have h4 := nat_of h3
  refine ⟨q.toInt32.toNatClampNeg, by omega, ?_, rfl, h3, by rw [Int32.lt_iff_toInt_lt]; omega⟩
  apply Int64.toInt_inj.mp
  rw [Int64.toInt_ofNat_of_lt (by omega)]
  omega
theorem own_get11 (zt : Nat → Addr) {n i : Nat} (h : i < 11) (e : n = i) : List.getD [Value.ref (zt 0), .ref (zt 1), .ref (zt 2), .ref (zt 3), .ref (zt 4), .ref (zt 5), .ref (zt 6), .ref (zt 7), .ref (zt 8), .ref (zt 9), .ref (zt 10)] n .null = .ref (zt i) := by
  subst e
  rcases n with _ | _ | _ | _ | _ | _ | _ | _ | _ | _ | _ | n
  all_goals first | rfl | omega
theorem own_ofNat0 {i : Nat} (h : i < 11) (ne : Int64.ofNat i ≠ 0) : i ≠ 0 := fun e => ne (by rw [e]; rfl)
theorem own_noov {x y : Int64} (hx : Bd x) (hy : Bd y) : ¬ ((x + y) ^^^ x) &&& ((x + y) ^^^ y) < 0 := by
  have h1 := c_ladd x y
  have h2 := rng64 (x + y)
  obtain ⟨a1, a2⟩ := hx
  obtain ⟨b1, b2⟩ := hy
  have e : (x + y).toInt = x.toInt + y.toInt := by omega
  have e0 : (0 : Int64).toInt = 0 := by decide
  have k1 := c_xorSL (x + y) x
  have k2 := c_xorSL (x + y) y
  have k3 := c_andSL ((x + y) ^^^ x) ((x + y) ^^^ y)
  rw [Int64.lt_iff_toInt_lt]
  omega
theorem own_add {x y : Int64} (hx : Bd x) (hy : Bd y) : (x + y).toInt = x.toInt + y.toInt := by
  have h1 := c_ladd x y
  have h2 := rng64 (x + y)
  obtain ⟨a1, a2⟩ := hx
  obtain ⟨b1, b2⟩ := hy
  omega
theorem own_sumMin {x y : Int64} (hx : Bd x) (hy : Bd y) : ¬ x + y = (-9223372036854775808 : Int64) := fun e => by
  have h := own_add hx hy
  rw [e] at h
  have e0 : (-9223372036854775808 : Int64).toInt = -9223372036854775808 := by decide
  obtain ⟨a1, a2⟩ := hx
  obtain ⟨b1, b2⟩ := hy
  omega
theorem own_bdMin {x : Int64} (hx : Bd x) : ¬ x = (-9223372036854775808 : Int64) := fun e => by
  rw [e] at hx
  exact absurd hx.1 (by decide)
theorem own_bd1 {q : Int64} (h : Bq q) : Bd q := ⟨by have := h.1; omega, by have := h.2; omega⟩
theorem own_mulk {q k : Int64} {K : Int} (h : Bq q) (hk : k.toInt = K) (h1 : 1 ≤ K) (h2 : K ≤ 1000) : (q * k).toInt = q.toInt * K ∧ Bd (q * k) := by
  have c := c_lmul q k
  have r := rng64 (q * k)
  rw [hk] at c
  obtain ⟨a1, a2⟩ := h
  have b1 : q.toInt * K ≤ 6500000000000 * 1000 := by
    by_cases p : 0 ≤ q.toInt
    · exact Int.mul_le_mul a2 h2 (by omega) (by omega)
    · have : q.toInt * K ≤ 0 := Int.mul_nonpos_of_nonpos_of_nonneg (by omega) (by omega)
      omega
  have b2 : -(6500000000000 * 1000) ≤ q.toInt * K := by
    by_cases p : 0 ≤ q.toInt
    · have : 0 ≤ q.toInt * K := Int.mul_nonneg p (by omega)
      omega
    · have : (-q.toInt) * K ≤ 6500000000000 * 1000 := Int.mul_le_mul (by omega) h2 (by omega) (by omega)
      rw [Int.neg_mul] at this
      omega
  have e : (q * k).toInt = q.toInt * K := by omega
  exact ⟨e, by unfold Bd; omega⟩
theorem own_bd10 {q : Int64} (h : Bq q) : (q * (10 : Int64)).toInt = q.toInt * 10 ∧ Bd (q * (10 : Int64)) := own_mulk h (by decide) (by decide) (by decide)
theorem own_bd100 {q : Int64} (h : Bq q) : (q * (100 : Int64)).toInt = q.toInt * 100 ∧ Bd (q * (100 : Int64)) := own_mulk h (by decide) (by decide) (by decide)
theorem own_bd1000 {q : Int64} (h : Bq q) : (q * (1000 : Int64)).toInt = q.toInt * 1000 ∧ Bd (q * (1000 : Int64)) := own_mulk h (by decide) (by decide) (by decide)
def labs (q : Int64) : Int64 := if q < 0 then -q else q
theorem own_abs {q : Int64} {k : Int64} (h : Bq q) (hk : 6500000000000 ≤ k.toInt) : ¬ k < labs q := by
  have e0 : (0 : Int64).toInt = 0 := by decide
  have c := c_lneg q
  have r := rng64 (-q)
  obtain ⟨a1, a2⟩ := h
  unfold labs
  split
  · rename_i p
    rw [Int64.lt_iff_toInt_lt] at p ⊢
    omega
  · rename_i p
    rw [Int64.lt_iff_toInt_lt] at p ⊢
    omega
def imax (q r : Int32) : Int32 := if q < r then r else q
abbrev k29_65 := jdk_29_method_65_code
theorem d29_65_0 : decode k29_65 0 = .ok (.iload_n 0, 1) := by decide +kernel
theorem d29_65_1 : decode k29_65 1 = .ok (.iload_n 1, 1) := by decide +kernel
theorem d29_65_2 : decode k29_65 2 = .ok (.if_icmp .lt 7, 3) := by decide +kernel
theorem d29_65_5 : decode k29_65 5 = .ok (.iload_n 0, 1) := by decide +kernel
theorem d29_65_6 : decode k29_65 6 = .ok (.goto 4, 3) := by decide +kernel
theorem d29_65_10 : decode k29_65 10 = .ok (.ireturn, 1) := by decide +kernel
def Q_max_10_1 (Z : State)  (h0 : Heap) (n0 : Nat) (v : Option Value) (h : Heap) (L : List Loc) : Prop := v = some (.int (10 : Int32)) ∧ Fr n0 L ∧ h = h0
set_option maxRecDepth 65536 in
set_option maxHeartbeats 40000000 in
theorem max_10_1 (l : Launch) (Z : State) (a0 : Array Value) (hw : Ht a0 Z)  (h0 : Heap) (n0 : Nat) (Z0 : n0 ≤ h0.size)  :
    Con l Z (⟨"java/lang/Math", "max", "(II)I"⟩ : MethodName) jdk_29_method_65_code 2 (some .int) ({ frames := 0, cells := 0, slots := 0, locals := 0 } : Room) #[(.int (10 : Int32)), (.int (1 : Int32))] h0 (Q_max_10_1 Z  h0 n0) := by
  refine OwnW.body (Ls := #[iS 10, iS 1]) (Jvm.Free.JP.mathPlain rfl (by decide +kernel)) (fun m => by first | (simp [entryFrame, mkF, argsToLocals, Value.category]; done) | rfl) ?_
  intro p e s m below meth c s₁ hx hy hml hown hnm hret hlk hZ X0 e0
  let QQ := Q_max_10_1 Z  h0 n0
  have N0 := Fr.nil n0
  show Go p e below (s₁.setTop (mkF m 0 #[iS 10, iS 1] [])) (EndQ s below ({ frames := 0, cells := 0, slots := 0, locals := 0 } : Room).cells ({ frames := 0, cells := 0, slots := 0, locals := 0 } : Room).slots QQ)
  refine gon s₁ (mkF m 2 #[iS 10,iS 1] [(.int 1), (.int 10)]) (fun _ k => XS.iloadN X0.here hx rfl (hb hy d29_65_0) rfl (XS.iloadN X0.here hx rfl (hb hy d29_65_1) rfl k)) ?_
  refine gon s₁ (mkF m 10 #[iS 10,iS 1] [(.int 10)]) (fun _ k => XS.icmpNo X0.here hx rfl (hb hy d29_65_2) rfl (flt (by decide : ¬ ((10 : Int32) < (1 : Int32)))).1 (XS.iloadN X0.here hx rfl (hb hy d29_65_5) rfl (XS.goto X0.here hx rfl (pc0 := 6) (pc' := 10) rfl (hb hy d29_65_6) (by decide) (by decide) k))) ?_
  exact OwnW.retI X0 hx hlk hret (hb hy d29_65_10) (by decide) (by decide) (show QQ _ s₁.heap _ from ⟨rfl, N0, e0⟩)
theorem d29_65_9 : decode k29_65 9 = .ok (.iload_n 1, 1) := by decide +kernel
def Q_maxI (Z : State) (q : Int32) (r : Int32) (h0 : Heap) (n0 : Nat) (v : Option Value) (h : Heap) (L : List Loc) : Prop := v = some (.int (imax q r)) ∧ Fr n0 L ∧ h = h0
set_option maxRecDepth 65536 in
set_option maxHeartbeats 40000000 in
theorem maxI (l : Launch) (Z : State) (a0 : Array Value) (hw : Ht a0 Z) (q : Int32) (r : Int32) (h0 : Heap) (n0 : Nat) (Z0 : n0 ≤ h0.size)  :
    Con l Z (⟨"java/lang/Math", "max", "(II)I"⟩ : MethodName) jdk_29_method_65_code 2 (some .int) ({ frames := 0, cells := 0, slots := 0, locals := 0 } : Room) #[(.int q), (.int r)] h0 (Q_maxI Z q r h0 n0) := by
  refine OwnW.body (Ls := #[iS q, iS r]) (Jvm.Free.JP.mathPlain rfl (by decide +kernel)) (fun m => by first | (simp [entryFrame, mkF, argsToLocals, Value.category]; done) | rfl) ?_
  intro p e s m below meth c s₁ hx hy hml hown hnm hret hlk hZ X0 e0
  let QQ := Q_maxI Z q r h0 n0
  have N0 := Fr.nil n0
  show Go p e below (s₁.setTop (mkF m 0 #[iS q, iS r] [])) (EndQ s below ({ frames := 0, cells := 0, slots := 0, locals := 0 } : Room).cells ({ frames := 0, cells := 0, slots := 0, locals := 0 } : Room).slots QQ)
  refine gon s₁ (mkF m 2 #[iS q,iS r] [(.int r), (.int q)]) (fun _ k => XS.iloadN X0.here hx rfl (hb hy d29_65_0) rfl (XS.iloadN X0.here hx rfl (hb hy d29_65_1) rfl k)) ?_
  by_cases hc2_1 : q < r
  · refine gon s₁ (mkF m 10 #[iS q,iS r] [(.int r)]) (fun _ k => XS.icmpYes X0.here hx rfl (pc0 := 2) (pc' := 9) rfl (hb hy d29_65_2) rfl (tlt hc2_1).1 (by decide) (by decide) (XS.iloadN X0.here hx rfl (hb hy d29_65_9) rfl k)) ?_
    exact OwnW.retI X0 hx hlk hret (hb hy d29_65_10) (by decide) (by decide) (show QQ _ s₁.heap _ from ⟨(by simp [imax, hc2_1]), N0, e0⟩)
  · refine gon s₁ (mkF m 10 #[iS q,iS r] [(.int q)]) (fun _ k => XS.icmpNo X0.here hx rfl (hb hy d29_65_2) rfl (flt hc2_1).1 (XS.iloadN X0.here hx rfl (hb hy d29_65_5) rfl (XS.goto X0.here hx rfl (pc0 := 6) (pc' := 10) rfl (hb hy d29_65_6) (by decide) (by decide) k))) ?_
    exact OwnW.retI X0 hx hlk hret (hb hy d29_65_10) (by decide) (by decide) (show QQ _ s₁.heap _ from ⟨(by simp [imax, hc2_1]), N0, e0⟩)
abbrev k22_1 := jdk_22_method_1_code
theorem d22_1_0 : decode k22_1 0 = .ok (.aload_n 0, 1) := by decide +kernel
theorem d22_1_1 : decode k22_1 1 = .ok (.invokespecial 1, 3) := by decide +kernel
theorem w18 {Z a0} (hw : Ht a0 Z) : (Cond.methodLink "java/util/AbstractCollection" (1 : Nat) ⟨"java/lang/Object", "<init>", "()V"⟩).before a0 Z = true := ht hw 18 rfl
theorem w19 {Z a0} (hw : Ht a0 Z) : (Cond.instanceMethod ⟨"java/lang/Object", "<init>", "()V"⟩).before a0 Z = true := ht hw 19 rfl
theorem w20 {Z a0} (hw : Ht a0 Z) : (Cond.code ⟨"java/lang/Object", "<init>", "()V"⟩ object_method_1_code (1 : Nat) (Option.none : Option Jvm.ClassFile.FieldType)).before a0 Z = true := ht hw 20 rfl
theorem d22_1_4 : decode k22_1 4 = .ok (.return_, 1) := by decide +kernel
theorem pn_0 : plainName "java/util/AbstractCollection" = true := by first | (simp [plainName, overriddenIn]; done) | decide +kernel
def Q_abcInit (Z : State) (a : Addr) (h0 : Heap) (n0 : Nat) (v : Option Value) (h : Heap) (L : List Loc) : Prop := v = none ∧ Fr n0 L ∧ h = h0
set_option maxRecDepth 65536 in
set_option maxHeartbeats 40000000 in
theorem abcInit (l : Launch) (Z : State) (a0 : Array Value) (hw : Ht a0 Z) (a : Addr) (h0 : Heap) (n0 : Nat) (Z0 : n0 ≤ h0.size)  :
    Con l Z (⟨"java/util/AbstractCollection", "<init>", "()V"⟩ : MethodName) jdk_22_method_1_code 1 none ({ frames := 1, cells := 0, slots := 0, locals := 12 } : Room) #[(.ref a)] h0 (Q_abcInit Z a h0 n0) := by
  refine OwnW.body (Ls := #[rS a]) (plainFor_of_name pn_0) (fun m => by first | (simp [entryFrame, mkF, argsToLocals, Value.category]; done) | rfl) ?_
  intro p e s m below meth c s₁ hx hy hml hown hnm hret hlk hZ X0 e0
  let QQ := Q_abcInit Z a h0 n0
  have N0 := Fr.nil n0
  show Go p e below (s₁.setTop (mkF m 0 #[rS a] [])) (EndQ s below ({ frames := 1, cells := 0, slots := 0, locals := 12 } : Room).cells ({ frames := 1, cells := 0, slots := 0, locals := 12 } : Room).slots QQ)
  refine gon s₁ (mkF m 1 #[rS a] [(.ref a)]) (fun _ k => XS.aloadN X0.here hx rfl (hb hy d22_1_0) rfl rfl k) ?_
  obtain ⟨T1, X1, e1, st1⟩ := initO X0 hx hZ hown (w18 hw) (w19 hw) (w20 hw) e0 (g := (mkF m 1 #[rS a] [(.ref a)])) rfl (by rw [hml]; rfl) rfl (hb hy d22_1_1) (by decide) (W := 0) (by show 2 * 0 + _ ≤ _; exact Nat.le_of_eq rfl) (by decide)
  refine gon T1 (mkF m 4 #[rS a] []) (st1) ?_
  exact OwnW.retV X1 hx hlk hret (hb hy d22_1_4) (by decide) (by decide) (show QQ _ T1.heap _ from ⟨rfl, N0, e1⟩)
abbrev k39_1 := jdk_39_method_1_code
theorem d39_1_0 : decode k39_1 0 = .ok (.aload_n 0, 1) := by decide +kernel
theorem d39_1_1 : decode k39_1 1 = .ok (.invokespecial 1, 3) := by decide +kernel
theorem w17 {Z a0} (hw : Ht a0 Z) : (Cond.code ⟨"java/util/AbstractCollection", "<init>", "()V"⟩ jdk_22_method_1_code (1 : Nat) (Option.none : Option Jvm.ClassFile.FieldType)).before a0 Z = true := ht hw 17 rfl
theorem w12 {Z a0} (hw : Ht a0 Z) : (Cond.methodLink "java/util/AbstractList" (1 : Nat) ⟨"java/util/AbstractCollection", "<init>", "()V"⟩).before a0 Z = true := ht hw 12 rfl
theorem w13 {Z a0} (hw : Ht a0 Z) : (Cond.instanceMethod ⟨"java/util/AbstractCollection", "<init>", "()V"⟩).before a0 Z = true := ht hw 13 rfl
theorem w16 {Z a0} (hw : Ht a0 Z) : (Cond.initialized "java/util/AbstractCollection").before a0 Z = true := ht hw 16 rfl
theorem pd_0 : parseMethodDescriptor "()V" = some ⟨[], none⟩ := by decide +kernel
theorem d39_1_4 : decode k39_1 4 = .ok (.aload_n 0, 1) := by decide +kernel
theorem d39_1_5 : decode k39_1 5 = .ok (.iconst 0, 1) := by decide +kernel
theorem d39_1_6 : decode k39_1 6 = .ok (.putfield 7, 3) := by decide +kernel
theorem w21 {Z a0} (hw : Ht a0 Z) : (Cond.fieldLink "java/util/AbstractList" (7 : Nat) "java/util/AbstractList" "modCount" "I").before a0 Z = true := ht hw 21 rfl
theorem w22 {Z a0} (hw : Ht a0 Z) : (Cond.lays "java/util/ArrayList" "java/util/AbstractList" "modCount" "I").before a0 Z = true := ht hw 22 rfl
theorem w1 {Z a0} (hw : Ht a0 Z) : (Cond.instantiable "java/util/ArrayList" (3 : Nat)).before a0 Z = true := ht hw 1 rfl
theorem d39_1_9 : decode k39_1 9 = .ok (.return_, 1) := by decide +kernel
theorem w25 {Z a0} (hw : Ht a0 Z) : (Cond.lays "java/util/ArrayList" "java/util/ArrayList" "elementData" "[Ljava/lang/Object;").before a0 Z = true := ht hw 25 rfl
theorem w82 {Z a0} (hw : Ht a0 Z) : (Cond.lays "java/util/ArrayList" "java/util/ArrayList" "size" "I").before a0 Z = true := ht hw 82 rfl
theorem pn_1 : plainName "java/util/AbstractList" = true := by first | (simp [plainName, overriddenIn]; done) | decide +kernel
def Q_ablInit (Z : State) (a : Addr) (mc : Int32) (h0 : Heap) (n0 : Nat) (v : Option Value) (h : Heap) (L : List Loc) : Prop := v = none ∧ Fr n0 L ∧ Keep h0 h [a] ∧ Fld Z h a "java/util/AbstractList" "modCount" "I" (.int (0 : Int32)) ∧ Fld Z h a "java/util/ArrayList" "elementData" "[Ljava/lang/Object;" .null ∧ Fld Z h a "java/util/ArrayList" "size" "I" (.int (0 : Int32))
set_option maxRecDepth 65536 in
set_option maxHeartbeats 40000000 in
theorem ablInit (l : Launch) (Z : State) (a0 : Array Value) (hw : Ht a0 Z) (a : Addr) (mc : Int32) (h0 : Heap) (n0 : Nat) (Z0 : n0 ≤ h0.size) (P0 : Exa Z h0 a "java/util/ArrayList") (P1 : Fld Z h0 a "java/util/AbstractList" "modCount" "I" (.int mc)) (P2 : n0 ≤ a) (P3 : Fld Z h0 a "java/util/ArrayList" "elementData" "[Ljava/lang/Object;" .null) (P4 : Fld Z h0 a "java/util/ArrayList" "size" "I" (.int (0 : Int32))) :
    Con l Z (⟨"java/util/AbstractList", "<init>", "()V"⟩ : MethodName) jdk_39_method_1_code 1 none ({ frames := 2, cells := 0, slots := 0, locals := 24 } : Room) #[(.ref a)] h0 (Q_ablInit Z a mc h0 n0) := by
  refine OwnW.body (Ls := #[rS a]) (plainFor_of_name pn_1) (fun m => by first | (simp [entryFrame, mkF, argsToLocals, Value.category]; done) | rfl) ?_
  intro p e s m below meth c s₁ hx hy hml hown hnm hret hlk hZ X0 e0
  let QQ := Q_ablInit Z a mc h0 n0
  have N0 := Fr.nil n0
  show Go p e below (s₁.setTop (mkF m 0 #[rS a] [])) (EndQ s below ({ frames := 2, cells := 0, slots := 0, locals := 24 } : Room).cells ({ frames := 2, cells := 0, slots := 0, locals := 24 } : Room).slots QQ)
  refine gon s₁ (mkF m 1 #[rS a] [(.ref a)]) (fun _ k => XS.aloadN X0.here hx rfl (hb hy d39_1_0) rfl rfl k) ?_
  obtain ⟨v1, T1, L1, X1, hQ1, st1⟩ := OwnW.callC (y := (⟨"java/util/AbstractCollection", "<init>", "()V"⟩ : MethodName)) X0 hx hZ hown rfl (w12 hw) (w13 hw) (w16 hw) (w17 hw) (by decide) (b := a) (abcInit l Z a0 hw a h0 n0 Z0 ) e0 (Ls := #[rS a]) (by rw [hml]; rfl) pd_0 (argsL := []) rfl (rest := []) rfl (W := 0) rfl (hb hy d39_1_1) (by decide) (by decide) (by decide) (by decide)
  obtain ⟨rfl, Nq1, eq1⟩ := hQ1
  have N1 := Fr.app N0 Nq1
  refine gon T1 (mkF m 4 #[rS a] []) (st1) ?_
  refine gon T1 (mkF m 6 #[rS a] [(.int 0), (.ref a)]) (fun _ k => XS.aloadN X1.here hx rfl (hb hy d39_1_4) rfl rfl (XS.iconst X1.here hx rfl (hb hy d39_1_5) k)) ?_
  obtain ⟨T2, h2, X2, e2, W2, st2⟩ := putF X1 hx hZ hown (host := "") (Or.inl (w21 hw)) Via.refl eq1 P1 P0 (Or.inl (w22 hw)) (w1 hw) (ty := .int) (by decide) rfl rfl (g := (mkF m 6 #[rS a] [(.int 0), (.ref a)])) rfl rfl (hb hy d39_1_6)
  have Fw2 : Fld Z h2 a "java/util/AbstractList" "modCount" "I" (.int (0 : Int32)) := Fld.same W2 P1
  have N2 := Fr.snoc X2 N1 P2
  refine gon T2 (mkF m 9 #[rS a] []) (st2) ?_
  have K_3 : Keep h0 h2 [a] := (Keep.refl h0 [a]).wr W2 (Or.inl (List.mem_of_getElem? (i := 0) rfl))
  have c_4 := Fld.other W2 P3 (Or.inr (slot_ne (C := "java/util/ArrayList") (Or.inl (w25 hw)) (Or.inl (w22 hw)) (by decide) (t := (.array (.object "java/lang/Object"))) (t' := .int) (by decide) (by decide)))
  have c_5 := Fld.other W2 P4 (Or.inr (slot_ne (C := "java/util/ArrayList") (Or.inl (w82 hw)) (Or.inl (w22 hw)) (by decide) (t := .int) (t' := .int) (by decide) (by decide)))
  exact OwnW.retV X2 hx hlk hret (hb hy d39_1_9) (by decide) (by decide) (show QQ _ T2.heap _ from (by rw [e2]; exact ⟨rfl, N2, K_3, Fw2, c_4, c_5⟩))
abbrev k38_2 := jdk_38_method_2_code
theorem d38_2_0 : decode k38_2 0 = .ok (.aload_n 0, 1) := by decide +kernel
theorem d38_2_1 : decode k38_2 1 = .ok (.invokespecial 1, 3) := by decide +kernel
theorem w11 {Z a0} (hw : Ht a0 Z) : (Cond.code ⟨"java/util/AbstractList", "<init>", "()V"⟩ jdk_39_method_1_code (1 : Nat) (Option.none : Option Jvm.ClassFile.FieldType)).before a0 Z = true := ht hw 11 rfl
theorem w6 {Z a0} (hw : Ht a0 Z) : (Cond.methodLink "java/util/ArrayList" (1 : Nat) ⟨"java/util/AbstractList", "<init>", "()V"⟩).before a0 Z = true := ht hw 6 rfl
theorem w7 {Z a0} (hw : Ht a0 Z) : (Cond.instanceMethod ⟨"java/util/AbstractList", "<init>", "()V"⟩).before a0 Z = true := ht hw 7 rfl
theorem w10 {Z a0} (hw : Ht a0 Z) : (Cond.initialized "java/util/AbstractList").before a0 Z = true := ht hw 10 rfl
theorem d38_2_4 : decode k38_2 4 = .ok (.aload_n 0, 1) := by decide +kernel
theorem d38_2_5 : decode k38_2 5 = .ok (.getstatic 39, 3) := by decide +kernel
theorem w23 {Z a0} (hw : Ht a0 Z) : (Cond.fieldLink "java/util/ArrayList" (39 : Nat) "java/util/ArrayList" "DEFAULTCAPACITY_EMPTY_ELEMENTDATA" "[Ljava/lang/Object;").before a0 Z = true := ht hw 23 rfl
theorem d38_2_8 : decode k38_2 8 = .ok (.putfield 9, 3) := by decide +kernel
theorem w24 {Z a0} (hw : Ht a0 Z) : (Cond.fieldLink "java/util/ArrayList" (9 : Nat) "java/util/ArrayList" "elementData" "[Ljava/lang/Object;").before a0 Z = true := ht hw 24 rfl
theorem d38_2_11 : decode k38_2 11 = .ok (.return_, 1) := by decide +kernel
theorem pn_2 : plainName "java/util/ArrayList" = true := by first | (simp [plainName, overriddenIn]; done) | decide +kernel
def Q_alInit (Z : State) (a : Addr) (wD : Addr) (h0 : Heap) (n0 : Nat) (v : Option Value) (h : Heap) (L : List Loc) : Prop := v = none ∧ Fr n0 L ∧ Keep h0 h [a] ∧ Fld Z h a "java/util/ArrayList" "elementData" "[Ljava/lang/Object;" (.ref wD) ∧ Fld Z h a "java/util/AbstractList" "modCount" "I" (.int (0 : Int32)) ∧ Fld Z h a "java/util/ArrayList" "size" "I" (.int (0 : Int32))
set_option maxRecDepth 65536 in
set_option maxHeartbeats 40000000 in
theorem alInit (l : Launch) (Z : State) (a0 : Array Value) (hw : Ht a0 Z) (a : Addr) (wD : Addr) (h0 : Heap) (n0 : Nat) (Z0 : n0 ≤ h0.size) (O0 : Old Z n0 h0) (P0 : Exa Z h0 a "java/util/ArrayList") (P1 : Fld Z h0 a "java/util/AbstractList" "modCount" "I" (.int (0 : Int32))) (P2 : Fld Z h0 a "java/util/ArrayList" "elementData" "[Ljava/lang/Object;" .null) (P3 : n0 ≤ a) (P4 : Sta Z Z.heap "java/util/ArrayList" "DEFAULTCAPACITY_EMPTY_ELEMENTDATA" "[Ljava/lang/Object;" (.ref wD)) (P5 : Fld Z h0 a "java/util/ArrayList" "size" "I" (.int (0 : Int32))) :
    Con l Z (⟨"java/util/ArrayList", "<init>", "()V"⟩ : MethodName) jdk_38_method_2_code 1 none ({ frames := 3, cells := 0, slots := 0, locals := 36 } : Room) #[(.ref a)] h0 (Q_alInit Z a wD h0 n0) := by
  refine OwnW.body (Ls := #[rS a]) (plainFor_of_name pn_2) (fun m => by first | (simp [entryFrame, mkF, argsToLocals, Value.category]; done) | rfl) ?_
  intro p e s m below meth c s₁ hx hy hml hown hnm hret hlk hZ X0 e0
  let QQ := Q_alInit Z a wD h0 n0
  have N0 := Fr.nil n0
  show Go p e below (s₁.setTop (mkF m 0 #[rS a] [])) (EndQ s below ({ frames := 3, cells := 0, slots := 0, locals := 36 } : Room).cells ({ frames := 3, cells := 0, slots := 0, locals := 36 } : Room).slots QQ)
  refine gon s₁ (mkF m 1 #[rS a] [(.ref a)]) (fun _ k => XS.aloadN X0.here hx rfl (hb hy d38_2_0) rfl rfl k) ?_
  obtain ⟨v1, T1, L1, X1, hQ1, st1⟩ := OwnW.callC (y := (⟨"java/util/AbstractList", "<init>", "()V"⟩ : MethodName)) X0 hx hZ hown rfl (w6 hw) (w7 hw) (w10 hw) (w11 hw) (by decide) (b := a) (ablInit l Z a0 hw a (0 : Int32) h0 n0 Z0 P0 P1 P3 P2 P5) e0 (Ls := #[rS a]) (by rw [hml]; rfl) pd_0 (argsL := []) rfl (rest := []) rfl (W := 0) rfl (hb hy d38_2_1) (by decide) (by decide) (by decide) (by decide)
  obtain ⟨rfl, Nq1, Kq1, q1_0, q1_1, q1_2⟩ := hQ1
  have N1 := Fr.app N0 Nq1
  refine gon T1 (mkF m 4 #[rS a] []) (st1) ?_
  refine gon T1 (mkF m 5 #[rS a] [(.ref a)]) (fun _ k => XS.aloadN X1.here hx rfl (hb hy d38_2_4) rfl rfl k) ?_
  have O_3 : Old Z n0 T1.heap := O0.keep Kq1 (allS P3 all0)
  have s_4 := Sta.ext O_3.2 P4
  obtain ⟨T2, X2, e2, st2⟩ := getS2 X1 hx hZ hown (host := "") (Or.inl (w23 hw)) Via.refl rfl s_4 (g := (mkF m 5 #[rS a] [(.ref a)])) rfl (hb hy d38_2_5)
  refine gon T2 (mkF m 8 #[rS a] [(.ref wD), (.ref a)]) (st2) ?_
  have c_6 := Exa.keep P0 Kq1
  obtain ⟨T5, h5, X5, e5, W5, st5⟩ := putF X2 hx hZ hown (host := "") (Or.inl (w24 hw)) Via.refl e2 q1_1 c_6 (Or.inl (w25 hw)) (w1 hw) (ty := (.array (.object "java/lang/Object"))) (by decide) rfl rfl (g := (mkF m 8 #[rS a] [(.ref wD), (.ref a)])) rfl rfl (hb hy d38_2_8)
  have Fw5 : Fld Z h5 a "java/util/ArrayList" "elementData" "[Ljava/lang/Object;" (.ref wD) := Fld.same W5 q1_1
  have N5 := Fr.snoc X5 N1 P3
  refine gon T5 (mkF m 11 #[rS a] []) (st5) ?_
  have K_7 : Keep h0 T1.heap [a] := (Keep.refl h0 [a]).trans Kq1 (allS (Or.inl (List.mem_of_getElem? (i := 0) rfl)) all0)
  have K_8 : Keep h0 h5 [a] := K_7.wr W5 (Or.inl (List.mem_of_getElem? (i := 0) rfl))
  have c_9 := Fld.other W5 q1_0 (Or.inr (slot_ne (C := "java/util/ArrayList") (Or.inl (w22 hw)) (Or.inl (w25 hw)) (by decide) (t := .int) (t' := (.array (.object "java/lang/Object"))) (by decide) (by decide)))
  have c_10 := Fld.other W5 q1_2 (Or.inr (slot_ne (C := "java/util/ArrayList") (Or.inl (w82 hw)) (Or.inl (w25 hw)) (by decide) (t := .int) (t' := (.array (.object "java/lang/Object"))) (by decide) (by decide)))
  exact OwnW.retV X5 hx hlk hret (hb hy d38_2_11) (by decide) (by decide) (show QQ _ T5.heap _ from (by rw [e5]; exact ⟨rfl, N5, K_8, Fw5, c_9, c_10⟩))
abbrev k38_6 := jdk_38_method_6_code
theorem d38_6_0 : decode k38_6 0 = .ok (.aload_n 0, 1) := by decide +kernel
theorem d38_6_1 : decode k38_6 1 = .ok (.getfield 9, 3) := by decide +kernel
theorem d38_6_4 : decode k38_6 4 = .ok (.arraylength, 1) := by decide +kernel
theorem d38_6_5 : decode k38_6 5 = .ok (.istore_n 2, 1) := by decide +kernel
theorem d38_6_6 : decode k38_6 6 = .ok (.iload_n 2, 1) := by decide +kernel
theorem d38_6_7 : decode k38_6 7 = .ok (.ifCond .gt 13, 3) := by decide +kernel
theorem d38_6_10 : decode k38_6 10 = .ok (.aload_n 0, 1) := by decide +kernel
theorem d38_6_11 : decode k38_6 11 = .ok (.getfield 9, 3) := by decide +kernel
theorem d38_6_14 : decode k38_6 14 = .ok (.getstatic 39, 3) := by decide +kernel
theorem d38_6_17 : decode k38_6 17 = .ok (.if_acmp .eq 28, 3) := by decide +kernel
theorem d38_6_45 : decode k38_6 45 = .ok (.aload_n 0, 1) := by decide +kernel
theorem d38_6_46 : decode k38_6 46 = .ok (.bipush 10, 2) := by decide +kernel
theorem d38_6_48 : decode k38_6 48 = .ok (.iload_n 1, 1) := by decide +kernel
theorem d38_6_49 : decode k38_6 49 = .ok (.invokestatic 79, 3) := by decide +kernel
theorem w101 {Z a0} (hw : Ht a0 Z) : (Cond.code ⟨"java/lang/Math", "max", "(II)I"⟩ jdk_29_method_65_code (2 : Nat) (Option.some Jvm.ClassFile.FieldType.int)).before a0 Z = true := ht hw 101 rfl
theorem w98 {Z a0} (hw : Ht a0 Z) : (Cond.methodLink "java/util/ArrayList" (79 : Nat) ⟨"java/lang/Math", "max", "(II)I"⟩).before a0 Z = true := ht hw 98 rfl
theorem w99 {Z a0} (hw : Ht a0 Z) : (Cond.static ⟨"java/lang/Math", "max", "(II)I"⟩).before a0 Z = true := ht hw 99 rfl
theorem w100 {Z a0} (hw : Ht a0 Z) : (Cond.initialized "java/lang/Math").before a0 Z = true := ht hw 100 rfl
theorem pd_1 : parseMethodDescriptor "(II)I" = some ⟨[.int, .int], some .int⟩ := by decide +kernel
theorem d38_6_52 : decode k38_6 52 = .ok (.anewarray 7, 3) := by decide +kernel
theorem w102 {Z a0} (hw : Ht a0 Z) : (Cond.classLink "java/util/ArrayList" (7 : Nat) "java/lang/Object").before a0 Z = true := ht hw 102 rfl
theorem w103 {Z a0} (hw : Ht a0 Z) : (Cond.arrayOver (Jvm.ClassFile.FieldType.object "java/lang/Object")).before a0 Z = true := ht hw 103 rfl
theorem d38_6_55 : decode k38_6 55 = .ok (.dup_x1, 1) := by decide +kernel
theorem d38_6_56 : decode k38_6 56 = .ok (.putfield 9, 3) := by decide +kernel
theorem d38_6_59 : decode k38_6 59 = .ok (.areturn, 1) := by decide +kernel
def Q_grow1 (Z : State) (a : Addr) (wD : Addr) (kD : ClassId) (vD : List Value) (mc : Int32) (h0 : Heap) (n0 : Nat) (v : Option Value) (h : Heap) (L : List Loc) : Prop := ∃ el : Addr, ∃ kel : ClassId, v = some (.ref el) ∧ Fr n0 L ∧ Keep h0 h [a] ∧ h0.size ≤ el ∧ Exa Z h el "[Ljava/lang/Object;" ∧ Arv Z h el kel (.object "java/lang/Object") (10 : Int32) [.null, .null, .null, .null, .null, .null, .null, .null, .null, .null] .null ∧ Ovr Z kel "java/lang/Object" ∧ Fld Z h a "java/util/ArrayList" "elementData" "[Ljava/lang/Object;" (.ref el) ∧ Fld Z h a "java/util/ArrayList" "size" "I" (.int (0 : Int32)) ∧ Fld Z h a "java/util/AbstractList" "modCount" "I" (.int mc)
set_option maxRecDepth 65536 in
set_option maxHeartbeats 40000000 in
theorem grow1 (l : Launch) (Z : State) (a0 : Array Value) (hw : Ht a0 Z) (a : Addr) (wD : Addr) (kD : ClassId) (vD : List Value) (mc : Int32) (h0 : Heap) (n0 : Nat) (Z0 : n0 ≤ h0.size) (O0 : Old Z n0 h0) (P0 : Exa Z h0 a "java/util/ArrayList") (P1 : n0 ≤ a) (P2 : Fld Z h0 a "java/util/ArrayList" "elementData" "[Ljava/lang/Object;" (.ref wD)) (P3 : Fld Z h0 a "java/util/ArrayList" "size" "I" (.int (0 : Int32))) (P4 : Fld Z h0 a "java/util/AbstractList" "modCount" "I" (.int mc)) (P5 : Sta Z Z.heap "java/util/ArrayList" "DEFAULTCAPACITY_EMPTY_ELEMENTDATA" "[Ljava/lang/Object;" (.ref wD)) (P6 : Arv Z Z.heap wD kD (.object "java/lang/Object") (0 : Int32) vD .null) :
    Con l Z (⟨"java/util/ArrayList", "grow", "(I)[Ljava/lang/Object;"⟩ : MethodName) jdk_38_method_6_code 4 (some (.array (.object "java/lang/Object"))) ({ frames := 1, cells := 1, slots := 10, locals := 14 } : Room) #[(.ref a), (.int (1 : Int32))] h0 (Q_grow1 Z a wD kD vD mc h0 n0) := by
  refine OwnW.body (Ls := #[rS a, iS 1, uS, uS]) (plainFor_of_name pn_2) (fun m => by first | (simp [entryFrame, mkF, argsToLocals, Value.category]; done) | rfl) ?_
  intro p e s m below meth c s₁ hx hy hml hown hnm hret hlk hZ X0 e0
  let QQ := Q_grow1 Z a wD kD vD mc h0 n0
  have N0 := Fr.nil n0
  show Go p e below (s₁.setTop (mkF m 0 #[rS a, iS 1, uS, uS] [])) (EndQ s below ({ frames := 1, cells := 1, slots := 10, locals := 14 } : Room).cells ({ frames := 1, cells := 1, slots := 10, locals := 14 } : Room).slots QQ)
  refine gon s₁ (mkF m 1 #[rS a,iS 1,uS,uS] [(.ref a)]) (fun _ k => XS.aloadN X0.here hx rfl (hb hy d38_6_0) rfl rfl k) ?_
  obtain ⟨T1, X1, e1, st1⟩ := getF X0 hx hZ hown (host := "") (Or.inl (w24 hw)) Via.refl e0 P2 (g := (mkF m 1 #[rS a,iS 1,uS,uS] [(.ref a)])) rfl rfl (hb hy d38_6_1)
  refine gon T1 (mkF m 4 #[rS a,iS 1,uS,uS] [(.ref wD)]) (st1) ?_
  have s_2 := Arv.ext P6 O0.2
  refine gon T1 (mkF m 5 #[rS a,iS 1,uS,uS] [(.int 0)]) (aLen X1 hx hZ e1 s_2 (hb hy d38_6_4)) ?_
  refine gon T1 (mkF m 7 #[rS a,iS 1,iS 0,uS] [(.int 0)]) (fun _ k => XS.istoreN X1.here hx rfl (hb hy d38_6_5) rfl (l' := #[rS a, iS 1, iS 0, uS]) rfl (XS.iloadN X1.here hx rfl (hb hy d38_6_6) rfl k)) ?_
  refine gon T1 (mkF m 11 #[rS a,iS 1,iS 0,uS] [(.ref a)]) (fun _ k => XS.ifNo X1.here hx rfl (hb hy d38_6_7) rfl ((if0 _ _).trans (flt (by decide : ¬ ((0 : Int32) < (0 : Int32)))).2.2.1) (XS.aloadN X1.here hx rfl (hb hy d38_6_10) rfl rfl k)) ?_
  obtain ⟨T3, X3, e3, st3⟩ := getF X1 hx hZ hown (host := "") (Or.inl (w24 hw)) Via.refl e1 P2 (g := (mkF m 11 #[rS a,iS 1,iS 0,uS] [(.ref a)])) rfl rfl (hb hy d38_6_11)
  refine gon T3 (mkF m 14 #[rS a,iS 1,iS 0,uS] [(.ref wD)]) (st3) ?_
  have s_5 := Sta.ext O0.2 P5
  obtain ⟨T4, X4, e4, st4⟩ := getS2 X3 hx hZ hown (host := "") (Or.inl (w23 hw)) Via.refl e3 s_5 (g := (mkF m 14 #[rS a,iS 1,iS 0,uS] [(.ref wD)])) rfl (hb hy d38_6_14)
  refine gon T4 (mkF m 17 #[rS a,iS 1,iS 0,uS] [(.ref wD), (.ref wD)]) (st4) ?_
  refine gon T4 (mkF m 49 #[rS a,iS 1,iS 0,uS] [(.int 1), (.int 10), (.ref a)]) (fun _ k => Jvm.RoadKit.acmp (g := (mkF m 17 #[rS a,iS 1,iS 0,uS] [(.ref wD), (.ref wD)])) X4 hx rfl rfl rfl (pc0 := 17) (pc' := 45) (same := true) rfl (hb hy d38_6_17) rfl (decide_eq_true rfl) (by decide) (by decide) (XS.aloadN X4.here hx rfl (hb hy d38_6_45) rfl rfl (XS.bipush X4.here hx rfl (hb hy d38_6_46) (XS.iloadN X4.here hx rfl (hb hy d38_6_48) rfl k)))) ?_
  obtain ⟨v6, T6, L6, X6, hQ6, st6⟩ := OwnW.callS X4 hx hZ hown (w98 hw) (w99 hw) (w100 hw) (w101 hw) (by decide) (max_10_1 l Z a0 hw  h0 n0 Z0 ) e4 (Ls := #[rS a, iS 1, iS 0, uS]) (by rw [hml]; rfl) pd_1 (argsL := [(.int (10 : Int32)), (.int (1 : Int32))]) rfl (rest := [(.ref a)]) rfl (W := 1) rfl (hb hy d38_6_49) (by decide) (by decide) (by decide) (by decide)
  obtain ⟨rfl, Nq6, eq6⟩ := hQ6
  have N6 := Fr.app N0 Nq6
  refine gon T6 (mkF m 52 #[rS a,iS 1,iS 0,uS] [(.int 10), (.ref a)]) (st6) ?_
  obtain ⟨T7, h7, k7, b7, X7, e7, E7, s7, V7, A7, OV7, st7⟩ := OwnW.newR X6 hx hZ hown (w102 hw) (w103 hw) eq6 (Ls := #[rS a, iS 1, iS 0, uS]) (rest := [(.ref a)]) (hb hy d38_6_52) (n := (10 : Int32)) (by decide) (cap := 10) (by decide) (by decide) (by decide) (by decide) (ad := "[Ljava/lang/Object;") (by decide +kernel) 10
  have V7' : Arv Z h7 b7 k7 (.object "java/lang/Object") (10 : Int32) [.null, .null, .null, .null, .null, .null, .null, .null, .null, .null] .null := V7
  refine gon T7 (mkF m 55 #[rS a,iS 1,iS 0,uS] [(.ref b7), (.ref a)]) (st7) ?_
  refine gon T7 (mkF m 56 #[rS a,iS 1,iS 0,uS] [(.ref b7), (.ref a), (.ref b7)]) (fun _ k => XS.dupX1 X7.here hx rfl (hb hy d38_6_55) rfl rfl rfl k) ?_
  have c_9 := Exa.ext E7 P0
  have c_10 := Fld.ext E7 P2
  obtain ⟨T8, h8, X8, e8, W8, st8⟩ := putF X7 hx hZ hown (host := "") (Or.inl (w24 hw)) Via.refl e7 c_10 c_9 (Or.inl (w25 hw)) (w1 hw) (ty := (.array (.object "java/lang/Object"))) (by decide) rfl rfl (g := (mkF m 56 #[rS a,iS 1,iS 0,uS] [(.ref b7), (.ref a), (.ref b7)])) rfl rfl (hb hy d38_6_56)
  have Fw8 : Fld Z h8 a "java/util/ArrayList" "elementData" "[Ljava/lang/Object;" (.ref b7) := Fld.same W8 c_10
  have N8 := Fr.snoc X8 N6 P1
  refine gon T8 (mkF m 59 #[rS a,iS 1,iS 0,uS] [(.ref b7)]) (st8) ?_
  have K_11 : Keep h0 h7 [a] := (Keep.refl h0 [a]).ext E7
  have K_12 : Keep h0 h8 [a] := K_11.wr W8 (Or.inl (List.mem_of_getElem? (i := 0) rfl))
  have c_13 := Exa.wr W8 A7
  have ne_14 : b7 ≠ a := Ne.symm (ne_of_born P0.lt s7)
  have c_15 := Arv.other (V7') W8 ne_14
  have c_16 := Fld.other W8 (Fld.ext E7 P3) (Or.inr (slot_ne (C := "java/util/ArrayList") (Or.inl (w82 hw)) (Or.inl (w25 hw)) (by decide) (t := .int) (t' := (.array (.object "java/lang/Object"))) (by decide) (by decide)))
  have c_17 := Fld.other W8 (Fld.ext E7 P4) (Or.inr (slot_ne (C := "java/util/ArrayList") (Or.inl (w22 hw)) (Or.inl (w25 hw)) (by decide) (t := .int) (t' := (.array (.object "java/lang/Object"))) (by decide) (by decide)))
  exact OwnW.retA X8 hx hlk hret rfl rfl (hb hy d38_6_59) (by decide) (by decide) (show QQ _ T8.heap _ from (by rw [e8]; exact ⟨b7, k7, rfl, N8, K_12, (Nat.le_trans (Nat.le_refl _) s7), c_13, c_15, OV7, Fw8, c_16, c_17⟩))
abbrev k38_7 := jdk_38_method_7_code
theorem d38_7_0 : decode k38_7 0 = .ok (.aload_n 0, 1) := by decide +kernel
theorem d38_7_1 : decode k38_7 1 = .ok (.aload_n 0, 1) := by decide +kernel
theorem d38_7_2 : decode k38_7 2 = .ok (.getfield 48, 3) := by decide +kernel
theorem w81 {Z a0} (hw : Ht a0 Z) : (Cond.fieldLink "java/util/ArrayList" (48 : Nat) "java/util/ArrayList" "size" "I").before a0 Z = true := ht hw 81 rfl
theorem d38_7_5 : decode k38_7 5 = .ok (.iconst 1, 1) := by decide +kernel
theorem d38_7_6 : decode k38_7 6 = .ok (.iadd, 1) := by decide +kernel
theorem d38_7_7 : decode k38_7 7 = .ok (.invokevirtual 69, 3) := by decide +kernel
theorem w97 {Z a0} (hw : Ht a0 Z) : (Cond.code ⟨"java/util/ArrayList", "grow", "(I)[Ljava/lang/Object;"⟩ jdk_38_method_6_code (4 : Nat) (Option.some (Jvm.ClassFile.FieldType.array (Jvm.ClassFile.FieldType.object "java/lang/Object")))).before a0 Z = true := ht hw 97 rfl
theorem w93 {Z a0} (hw : Ht a0 Z) : (Cond.methodLink "java/util/ArrayList" (69 : Nat) ⟨"java/util/ArrayList", "grow", "(I)[Ljava/lang/Object;"⟩).before a0 Z = true := ht hw 93 rfl
theorem w96 {Z a0} (hw : Ht a0 Z) : (Cond.selects "java/util/ArrayList" ⟨"java/util/ArrayList", "grow", "(I)[Ljava/lang/Object;"⟩ ⟨"java/util/ArrayList", "grow", "(I)[Ljava/lang/Object;"⟩).before a0 Z = true := ht hw 96 rfl
theorem w94 {Z a0} (hw : Ht a0 Z) : (Cond.instanceMethod ⟨"java/util/ArrayList", "grow", "(I)[Ljava/lang/Object;"⟩).before a0 Z = true := ht hw 94 rfl
theorem w95 {Z a0} (hw : Ht a0 Z) : (Cond.privateMethod ⟨"java/util/ArrayList", "grow", "(I)[Ljava/lang/Object;"⟩).before a0 Z = true := ht hw 95 rfl
theorem w2 {Z a0} (hw : Ht a0 Z) : (Cond.initialized "java/util/ArrayList").before a0 Z = true := ht hw 2 rfl
theorem pd_2 : parseMethodDescriptor "(I)[Ljava/lang/Object;" = some ⟨[.int], some (.array (.object "java/lang/Object"))⟩ := by decide +kernel
theorem d38_7_10 : decode k38_7 10 = .ok (.areturn, 1) := by decide +kernel
def Q_grow0 (Z : State) (a : Addr) (wD : Addr) (kD : ClassId) (vD : List Value) (mc : Int32) (h0 : Heap) (n0 : Nat) (v : Option Value) (h : Heap) (L : List Loc) : Prop := ∃ el : Addr, ∃ kel : ClassId, v = some (.ref el) ∧ Fr n0 L ∧ Keep h0 h [a] ∧ h0.size ≤ el ∧ Exa Z h el "[Ljava/lang/Object;" ∧ Arv Z h el kel (.object "java/lang/Object") (10 : Int32) [.null, .null, .null, .null, .null, .null, .null, .null, .null, .null] .null ∧ Ovr Z kel "java/lang/Object" ∧ Fld Z h a "java/util/ArrayList" "elementData" "[Ljava/lang/Object;" (.ref el) ∧ Fld Z h a "java/util/ArrayList" "size" "I" (.int (0 : Int32)) ∧ Fld Z h a "java/util/AbstractList" "modCount" "I" (.int mc)
set_option maxRecDepth 65536 in
set_option maxHeartbeats 40000000 in
theorem grow0 (l : Launch) (Z : State) (a0 : Array Value) (hw : Ht a0 Z) (a : Addr) (wD : Addr) (kD : ClassId) (vD : List Value) (mc : Int32) (h0 : Heap) (n0 : Nat) (Z0 : n0 ≤ h0.size) (O0 : Old Z n0 h0) (P0 : Exa Z h0 a "java/util/ArrayList") (P1 : n0 ≤ a) (P2 : Fld Z h0 a "java/util/ArrayList" "elementData" "[Ljava/lang/Object;" (.ref wD)) (P3 : Fld Z h0 a "java/util/ArrayList" "size" "I" (.int (0 : Int32))) (P4 : Fld Z h0 a "java/util/AbstractList" "modCount" "I" (.int mc)) (P5 : Sta Z Z.heap "java/util/ArrayList" "DEFAULTCAPACITY_EMPTY_ELEMENTDATA" "[Ljava/lang/Object;" (.ref wD)) (P6 : Arv Z Z.heap wD kD (.object "java/lang/Object") (0 : Int32) vD .null) :
    Con l Z (⟨"java/util/ArrayList", "grow", "()[Ljava/lang/Object;"⟩ : MethodName) jdk_38_method_7_code 1 (some (.array (.object "java/lang/Object"))) ({ frames := 2, cells := 1, slots := 10, locals := 29 } : Room) #[(.ref a)] h0 (Q_grow0 Z a wD kD vD mc h0 n0) := by
  refine OwnW.body (Ls := #[rS a]) (plainFor_of_name pn_2) (fun m => by first | (simp [entryFrame, mkF, argsToLocals, Value.category]; done) | rfl) ?_
  intro p e s m below meth c s₁ hx hy hml hown hnm hret hlk hZ X0 e0
  let QQ := Q_grow0 Z a wD kD vD mc h0 n0
  have N0 := Fr.nil n0
  show Go p e below (s₁.setTop (mkF m 0 #[rS a] [])) (EndQ s below ({ frames := 2, cells := 1, slots := 10, locals := 29 } : Room).cells ({ frames := 2, cells := 1, slots := 10, locals := 29 } : Room).slots QQ)
  refine gon s₁ (mkF m 2 #[rS a] [(.ref a), (.ref a)]) (fun _ k => XS.aloadN X0.here hx rfl (hb hy d38_7_0) rfl rfl (XS.aloadN X0.here hx rfl (hb hy d38_7_1) rfl rfl k)) ?_
  obtain ⟨T1, X1, e1, st1⟩ := getF X0 hx hZ hown (host := "") (Or.inl (w81 hw)) Via.refl e0 P3 (g := (mkF m 2 #[rS a] [(.ref a), (.ref a)])) rfl rfl (hb hy d38_7_2)
  refine gon T1 (mkF m 5 #[rS a] [(.int 0), (.ref a)]) (st1) ?_
  refine gon T1 (mkF m 7 #[rS a] [(.int 1), (.ref a)]) (fun _ k => XS.iconst X1.here hx rfl (hb hy d38_7_5) (XS.iadd X1.here hx rfl (hb hy d38_7_6) rfl k)) ?_
  obtain ⟨v2, T2, L2, X2, hQ2, st2⟩ := OwnW.callP (y := (⟨"java/util/ArrayList", "grow", "(I)[Ljava/lang/Object;"⟩ : MethodName)) X1 hx hZ hown (w93 hw) (w96 hw) (w94 hw) (w95 hw) (w2 hw) (w97 hw) (by decide) (b := a) (grow1 l Z a0 hw a wD kD vD mc h0 n0 Z0 O0 P0 P1 P2 P3 P4 P5 P6) e1 P0 (Ls := #[rS a]) (by rw [hml]; rfl) pd_2 (argsL := [(.int (1 : Int32))]) rfl (rest := []) rfl (W := 0) rfl (hb hy d38_7_7) (by decide) (by decide) (by decide) (by decide)
  obtain ⟨el_3, kel_4, rfl, Nq2, Kq2, q2_0, q2_1, q2_2, q2_3, q2_4, q2_5, q2_6⟩ := hQ2
  have N2 := Fr.app N0 Nq2
  refine gon T2 (mkF m 10 #[rS a] [(.ref el_3)]) (st2) ?_
  have K_5 : Keep h0 T2.heap [a] := (Keep.refl h0 [a]).trans Kq2 (allS (Or.inl (List.mem_of_getElem? (i := 0) rfl)) all0)
  exact OwnW.retA X2 hx hlk hret rfl rfl (hb hy d38_7_10) (by decide) (by decide) (show QQ _ T2.heap _ from ⟨el_3, kel_4, rfl, N2, K_5, (Nat.le_trans (Nat.le_refl _) q2_0), q2_1, q2_2, q2_3, q2_4, q2_5, q2_6⟩)
abbrev k38_24 := jdk_38_method_24_code
theorem d38_24_0 : decode k38_24 0 = .ok (.iload_n 3, 1) := by decide +kernel
theorem d38_24_1 : decode k38_24 1 = .ok (.aload_n 2, 1) := by decide +kernel
theorem d38_24_2 : decode k38_24 2 = .ok (.arraylength, 1) := by decide +kernel
theorem d38_24_3 : decode k38_24 3 = .ok (.if_icmp .ne 8, 3) := by decide +kernel
theorem d38_24_6 : decode k38_24 6 = .ok (.aload_n 0, 1) := by decide +kernel
theorem d38_24_7 : decode k38_24 7 = .ok (.invokevirtual 129, 3) := by decide +kernel
theorem w92 {Z a0} (hw : Ht a0 Z) : (Cond.code ⟨"java/util/ArrayList", "grow", "()[Ljava/lang/Object;"⟩ jdk_38_method_7_code (1 : Nat) (Option.some (Jvm.ClassFile.FieldType.array (Jvm.ClassFile.FieldType.object "java/lang/Object")))).before a0 Z = true := ht hw 92 rfl
theorem w88 {Z a0} (hw : Ht a0 Z) : (Cond.methodLink "java/util/ArrayList" (129 : Nat) ⟨"java/util/ArrayList", "grow", "()[Ljava/lang/Object;"⟩).before a0 Z = true := ht hw 88 rfl
theorem w91 {Z a0} (hw : Ht a0 Z) : (Cond.selects "java/util/ArrayList" ⟨"java/util/ArrayList", "grow", "()[Ljava/lang/Object;"⟩ ⟨"java/util/ArrayList", "grow", "()[Ljava/lang/Object;"⟩).before a0 Z = true := ht hw 91 rfl
theorem w89 {Z a0} (hw : Ht a0 Z) : (Cond.instanceMethod ⟨"java/util/ArrayList", "grow", "()[Ljava/lang/Object;"⟩).before a0 Z = true := ht hw 89 rfl
theorem w90 {Z a0} (hw : Ht a0 Z) : (Cond.privateMethod ⟨"java/util/ArrayList", "grow", "()[Ljava/lang/Object;"⟩).before a0 Z = true := ht hw 90 rfl
theorem pd_3 : parseMethodDescriptor "()[Ljava/lang/Object;" = some ⟨[], some (.array (.object "java/lang/Object"))⟩ := by decide +kernel
theorem d38_24_10 : decode k38_24 10 = .ok (.astore_n 2, 1) := by decide +kernel
theorem d38_24_11 : decode k38_24 11 = .ok (.aload_n 2, 1) := by decide +kernel
theorem d38_24_12 : decode k38_24 12 = .ok (.iload_n 3, 1) := by decide +kernel
theorem d38_24_13 : decode k38_24 13 = .ok (.aload_n 1, 1) := by decide +kernel
theorem d38_24_14 : decode k38_24 14 = .ok (.aastore, 1) := by decide +kernel
theorem w104 {Z a0} (hw : Ht a0 Z) : (Cond.castable "com/example/tipple/tipple/Lot" "java/lang/Object").before a0 Z = true := ht hw 104 rfl
theorem d38_24_15 : decode k38_24 15 = .ok (.aload_n 0, 1) := by decide +kernel
theorem d38_24_16 : decode k38_24 16 = .ok (.iload_n 3, 1) := by decide +kernel
theorem d38_24_17 : decode k38_24 17 = .ok (.iconst 1, 1) := by decide +kernel
theorem d38_24_18 : decode k38_24 18 = .ok (.iadd, 1) := by decide +kernel
theorem d38_24_19 : decode k38_24 19 = .ok (.putfield 48, 3) := by decide +kernel
theorem d38_24_22 : decode k38_24 22 = .ok (.return_, 1) := by decide +kernel
def Q_addH0 (Z : State) (a : Addr) (ob : Addr) (wD : Addr) (kD : ClassId) (vD : List Value) (h0 : Heap) (n0 : Nat) (v : Option Value) (h : Heap) (L : List Loc) : Prop := ∃ el : Addr, ∃ kel : ClassId, v = none ∧ Fr n0 L ∧ Keep h0 h [a] ∧ h0.size ≤ el ∧ Exa Z h el "[Ljava/lang/Object;" ∧ Arv Z h el kel (.object "java/lang/Object") (10 : Int32) [(.ref ob), .null, .null, .null, .null, .null, .null, .null, .null, .null] .null ∧ Ovr Z kel "java/lang/Object" ∧ Fld Z h a "java/util/ArrayList" "elementData" "[Ljava/lang/Object;" (.ref el) ∧ Fld Z h a "java/util/ArrayList" "size" "I" (.int (1 : Int32)) ∧ Fld Z h a "java/util/AbstractList" "modCount" "I" (.int (1 : Int32))
set_option maxRecDepth 65536 in
set_option maxHeartbeats 40000000 in
theorem addH0 (l : Launch) (Z : State) (a0 : Array Value) (hw : Ht a0 Z) (a : Addr) (ob : Addr) (wD : Addr) (kD : ClassId) (vD : List Value) (h0 : Heap) (n0 : Nat) (Z0 : n0 ≤ h0.size) (O0 : Old Z n0 h0) (P0 : Exa Z h0 a "java/util/ArrayList") (P1 : n0 ≤ a) (P2 : Exa Z h0 ob "com/example/tipple/tipple/Lot") (P3 : Fld Z h0 a "java/util/ArrayList" "elementData" "[Ljava/lang/Object;" (.ref wD)) (P4 : Fld Z h0 a "java/util/ArrayList" "size" "I" (.int (0 : Int32))) (P5 : Fld Z h0 a "java/util/AbstractList" "modCount" "I" (.int (1 : Int32))) (P6 : Sta Z Z.heap "java/util/ArrayList" "DEFAULTCAPACITY_EMPTY_ELEMENTDATA" "[Ljava/lang/Object;" (.ref wD)) (P7 : Arv Z Z.heap wD kD (.object "java/lang/Object") (0 : Int32) vD .null) :
    Con l Z (⟨"java/util/ArrayList", "add", "(Ljava/lang/Object;[Ljava/lang/Object;I)V"⟩ : MethodName) jdk_38_method_24_code 4 none ({ frames := 3, cells := 1, slots := 10, locals := 41 } : Room) #[(.ref a), (.ref ob), (.ref wD), (.int (0 : Int32))] h0 (Q_addH0 Z a ob wD kD vD h0 n0) := by
  refine OwnW.body (Ls := #[rS a, rS ob, rS wD, iS 0]) (plainFor_of_name pn_2) (fun m => by first | (simp [entryFrame, mkF, argsToLocals, Value.category]; done) | rfl) ?_
  intro p e s m below meth c s₁ hx hy hml hown hnm hret hlk hZ X0 e0
  let QQ := Q_addH0 Z a ob wD kD vD h0 n0
  have N0 := Fr.nil n0
  show Go p e below (s₁.setTop (mkF m 0 #[rS a, rS ob, rS wD, iS 0] [])) (EndQ s below ({ frames := 3, cells := 1, slots := 10, locals := 41 } : Room).cells ({ frames := 3, cells := 1, slots := 10, locals := 41 } : Room).slots QQ)
  refine gon s₁ (mkF m 2 #[rS a,rS ob,rS wD,iS 0] [(.ref wD), (.int 0)]) (fun _ k => XS.iloadN X0.here hx rfl (hb hy d38_24_0) rfl (XS.aloadN X0.here hx rfl (hb hy d38_24_1) rfl rfl k)) ?_
  have s_1 := Arv.ext P7 O0.2
  refine gon s₁ (mkF m 3 #[rS a,rS ob,rS wD,iS 0] [(.int 0), (.int 0)]) (aLen X0 hx hZ e0 s_1 (hb hy d38_24_2)) ?_
  refine gon s₁ (mkF m 7 #[rS a,rS ob,rS wD,iS 0] [(.ref a)]) (fun _ k => XS.icmpNo X0.here hx rfl (hb hy d38_24_3) rfl (teq (by decide : (0 : Int32) = (0 : Int32))).2 (XS.aloadN X0.here hx rfl (hb hy d38_24_6) rfl rfl k)) ?_
  obtain ⟨v2, T2, L2, X2, hQ2, st2⟩ := OwnW.callP (y := (⟨"java/util/ArrayList", "grow", "()[Ljava/lang/Object;"⟩ : MethodName)) X0 hx hZ hown (w88 hw) (w91 hw) (w89 hw) (w90 hw) (w2 hw) (w92 hw) (by decide) (b := a) (grow0 l Z a0 hw a wD kD vD (1 : Int32) h0 n0 Z0 O0 P0 P1 P3 P4 P5 P6 P7) e0 P0 (Ls := #[rS a, rS ob, rS wD, iS 0]) (by rw [hml]; rfl) pd_3 (argsL := []) rfl (rest := []) rfl (W := 0) rfl (hb hy d38_24_7) (by decide) (by decide) (by decide) (by decide)
  obtain ⟨el_3, kel_4, rfl, Nq2, Kq2, q2_0, q2_1, q2_2, q2_3, q2_4, q2_5, q2_6⟩ := hQ2
  have N2 := Fr.app N0 Nq2
  refine gon T2 (mkF m 10 #[rS a,rS ob,rS wD,iS 0] [(.ref el_3)]) (st2) ?_
  refine gon T2 (mkF m 14 #[rS a,rS ob,rS el_3,iS 0] [(.ref ob), (.int 0), (.ref el_3)]) (fun _ k => XS.astoreN X2.here hx rfl (hb hy d38_24_10) rfl rfl (l' := #[rS a, rS ob, rS el_3, iS 0]) rfl (XS.aloadN X2.here hx rfl (hb hy d38_24_11) rfl rfl (XS.iloadN X2.here hx rfl (hb hy d38_24_12) rfl (XS.aloadN X2.here hx rfl (hb hy d38_24_13) rfl rfl k)))) ?_
  have g_6 : n0 ≤ el_3 := Nat.le_trans Z0 q2_0
  have c_7 := Exa.keep P2 Kq2
  obtain ⟨T5, h5, X5, e5, W5, V5, st5⟩ := OwnW.stA X2 hx hZ rfl q2_2 rfl rfl (fun zc zA zq => Sto.ofV zA zq q2_3 (Ins.of_exa c_7 (w104 hw))) (v := (.ref ob)) (j := (0 : Int32)) ⟨by decide, by decide⟩ 0 rfl (Nat.le_of_ble_eq_true rfl) (Ls := #[rS a, rS ob, rS el_3, iS 0]) (rest := []) (hb hy d38_24_14)
  have V5' : Arv Z h5 el_3 kel_4 (.object "java/lang/Object") (10 : Int32) [(.ref ob), .null, .null, .null, .null, .null, .null, .null, .null, .null] .null := V5
  have N5 := Fr.snoc X5 N2 g_6
  refine gon T5 (mkF m 15 #[rS a,rS ob,rS el_3,iS 0] []) (st5) ?_
  refine gon T5 (mkF m 19 #[rS a,rS ob,rS el_3,iS 0] [(.int 1), (.ref a)]) (fun _ k => XS.aloadN X5.here hx rfl (hb hy d38_24_15) rfl rfl (XS.iloadN X5.here hx rfl (hb hy d38_24_16) rfl (XS.iconst X5.here hx rfl (hb hy d38_24_17) (XS.iadd X5.here hx rfl (hb hy d38_24_18) rfl k)))) ?_
  have c_9 := Exa.wr W5 (Exa.keep P0 Kq2)
  have ne_10 : a ≠ el_3 := ne_of_born P0.lt q2_0
  have c_11 := Fld.other W5 q2_5 (Or.inl ne_10)
  obtain ⟨T8, h8, X8, e8, W8, st8⟩ := putF X5 hx hZ hown (host := "") (Or.inl (w81 hw)) Via.refl e5 c_11 c_9 (Or.inl (w82 hw)) (w1 hw) (ty := .int) (by decide) rfl rfl (g := (mkF m 19 #[rS a,rS ob,rS el_3,iS 0] [(.int 1), (.ref a)])) rfl rfl (hb hy d38_24_19)
  have Fw8 : Fld Z h8 a "java/util/ArrayList" "size" "I" (.int (1 : Int32)) := Fld.same W8 c_11
  have N8 := Fr.snoc X8 N5 P1
  refine gon T8 (mkF m 22 #[rS a,rS ob,rS el_3,iS 0] []) (st8) ?_
  have K_12 : Keep h0 T2.heap [a] := (Keep.refl h0 [a]).trans Kq2 (allS (Or.inl (List.mem_of_getElem? (i := 0) rfl)) all0)
  have K_13 : Keep h0 h5 [a] := K_12.wr W5 (Or.inr (Nat.le_trans (Nat.le_refl _) q2_0))
  have K_14 : Keep h0 h8 [a] := K_13.wr W8 (Or.inl (List.mem_of_getElem? (i := 0) rfl))
  have c_15 := Exa.wr W8 (Exa.wr W5 q2_1)
  have c_16 := Arv.other (V5') W8 (Ne.symm ne_10)
  have c_17 := Fld.other W8 (Fld.other W5 q2_4 (Or.inl ne_10)) (Or.inr (slot_ne (C := "java/util/ArrayList") (Or.inl (w25 hw)) (Or.inl (w82 hw)) (by decide) (t := (.array (.object "java/lang/Object"))) (t' := .int) (by decide) (by decide)))
  have c_18 := Fld.other W8 (Fld.other W5 q2_6 (Or.inl ne_10)) (Or.inr (slot_ne (C := "java/util/ArrayList") (Or.inl (w22 hw)) (Or.inl (w82 hw)) (by decide) (t := .int) (t' := .int) (by decide) (by decide)))
  exact OwnW.retV X8 hx hlk hret (hb hy d38_24_22) (by decide) (by decide) (show QQ _ T8.heap _ from (by rw [e8]; exact ⟨el_3, kel_4, rfl, N8, K_14, (Nat.le_trans (Nat.le_refl _) q2_0), c_15, c_16, q2_3, c_17, Fw8, c_18⟩))
abbrev k38_25 := jdk_38_method_25_code
theorem d38_25_0 : decode k38_25 0 = .ok (.aload_n 0, 1) := by decide +kernel
theorem d38_25_1 : decode k38_25 1 = .ok (.dup, 1) := by decide +kernel
theorem d38_25_2 : decode k38_25 2 = .ok (.getfield 63, 3) := by decide +kernel
theorem w79 {Z a0} (hw : Ht a0 Z) : (Cond.fieldLink "java/util/ArrayList" (63 : Nat) "java/util/ArrayList" "modCount" "I").before a0 Z = true := ht hw 79 rfl
theorem w80 {Z a0} (hw : Ht a0 Z) : (Cond.sameField "java/util/ArrayList" "java/util/AbstractList" "modCount" "I").before a0 Z = true := ht hw 80 rfl
theorem d38_25_5 : decode k38_25 5 = .ok (.iconst 1, 1) := by decide +kernel
theorem d38_25_6 : decode k38_25 6 = .ok (.iadd, 1) := by decide +kernel
theorem d38_25_7 : decode k38_25 7 = .ok (.putfield 63, 3) := by decide +kernel
theorem d38_25_10 : decode k38_25 10 = .ok (.aload_n 0, 1) := by decide +kernel
theorem d38_25_11 : decode k38_25 11 = .ok (.aload_n 1, 1) := by decide +kernel
theorem d38_25_12 : decode k38_25 12 = .ok (.aload_n 0, 1) := by decide +kernel
theorem d38_25_13 : decode k38_25 13 = .ok (.getfield 9, 3) := by decide +kernel
theorem d38_25_16 : decode k38_25 16 = .ok (.aload_n 0, 1) := by decide +kernel
theorem d38_25_17 : decode k38_25 17 = .ok (.getfield 48, 3) := by decide +kernel
theorem d38_25_20 : decode k38_25 20 = .ok (.invokevirtual 131, 3) := by decide +kernel
theorem w87 {Z a0} (hw : Ht a0 Z) : (Cond.code ⟨"java/util/ArrayList", "add", "(Ljava/lang/Object;[Ljava/lang/Object;I)V"⟩ jdk_38_method_24_code (4 : Nat) (Option.none : Option Jvm.ClassFile.FieldType)).before a0 Z = true := ht hw 87 rfl
theorem w83 {Z a0} (hw : Ht a0 Z) : (Cond.methodLink "java/util/ArrayList" (131 : Nat) ⟨"java/util/ArrayList", "add", "(Ljava/lang/Object;[Ljava/lang/Object;I)V"⟩).before a0 Z = true := ht hw 83 rfl
theorem w86 {Z a0} (hw : Ht a0 Z) : (Cond.selects "java/util/ArrayList" ⟨"java/util/ArrayList", "add", "(Ljava/lang/Object;[Ljava/lang/Object;I)V"⟩ ⟨"java/util/ArrayList", "add", "(Ljava/lang/Object;[Ljava/lang/Object;I)V"⟩).before a0 Z = true := ht hw 86 rfl
theorem w84 {Z a0} (hw : Ht a0 Z) : (Cond.instanceMethod ⟨"java/util/ArrayList", "add", "(Ljava/lang/Object;[Ljava/lang/Object;I)V"⟩).before a0 Z = true := ht hw 84 rfl
theorem w85 {Z a0} (hw : Ht a0 Z) : (Cond.privateMethod ⟨"java/util/ArrayList", "add", "(Ljava/lang/Object;[Ljava/lang/Object;I)V"⟩).before a0 Z = true := ht hw 85 rfl
theorem pd_4 : parseMethodDescriptor "(Ljava/lang/Object;[Ljava/lang/Object;I)V" = some ⟨[(.object "java/lang/Object"), (.array (.object "java/lang/Object")), .int], none⟩ := by decide +kernel
theorem d38_25_23 : decode k38_25 23 = .ok (.iconst 1, 1) := by decide +kernel
theorem d38_25_24 : decode k38_25 24 = .ok (.ireturn, 1) := by decide +kernel
def Q_add0 (Z : State) (a : Addr) (ob : Addr) (wD : Addr) (kD : ClassId) (vD : List Value) (h0 : Heap) (n0 : Nat) (v : Option Value) (h : Heap) (L : List Loc) : Prop := ∃ el : Addr, ∃ kel : ClassId, v = some (.int (1 : Int32)) ∧ Fr n0 L ∧ Keep h0 h [a] ∧ h0.size ≤ el ∧ Exa Z h el "[Ljava/lang/Object;" ∧ Arv Z h el kel (.object "java/lang/Object") (10 : Int32) [(.ref ob), .null, .null, .null, .null, .null, .null, .null, .null, .null] .null ∧ Ovr Z kel "java/lang/Object" ∧ Fld Z h a "java/util/ArrayList" "elementData" "[Ljava/lang/Object;" (.ref el) ∧ Fld Z h a "java/util/ArrayList" "size" "I" (.int (1 : Int32)) ∧ Fld Z h a "java/util/AbstractList" "modCount" "I" (.int (1 : Int32))
set_option maxRecDepth 65536 in
set_option maxHeartbeats 40000000 in
theorem add0 (l : Launch) (Z : State) (a0 : Array Value) (hw : Ht a0 Z) (a : Addr) (ob : Addr) (wD : Addr) (kD : ClassId) (vD : List Value) (h0 : Heap) (n0 : Nat) (Z0 : n0 ≤ h0.size) (O0 : Old Z n0 h0) (P0 : Exa Z h0 a "java/util/ArrayList") (P1 : n0 ≤ a) (P2 : Exa Z h0 ob "com/example/tipple/tipple/Lot") (P3 : Fld Z h0 a "java/util/ArrayList" "elementData" "[Ljava/lang/Object;" (.ref wD)) (P4 : Fld Z h0 a "java/util/ArrayList" "size" "I" (.int (0 : Int32))) (P5 : Fld Z h0 a "java/util/AbstractList" "modCount" "I" (.int (0 : Int32))) (P6 : Sta Z Z.heap "java/util/ArrayList" "DEFAULTCAPACITY_EMPTY_ELEMENTDATA" "[Ljava/lang/Object;" (.ref wD)) (P7 : Arv Z Z.heap wD kD (.object "java/lang/Object") (0 : Int32) vD .null) :
    Con l Z (⟨"java/util/ArrayList", "add", "(Ljava/lang/Object;)Z"⟩ : MethodName) jdk_38_method_25_code 2 (some .boolean) ({ frames := 4, cells := 1, slots := 10, locals := 56 } : Room) #[(.ref a), (.ref ob)] h0 (Q_add0 Z a ob wD kD vD h0 n0) := by
  refine OwnW.body (Ls := #[rS a, rS ob]) (plainFor_of_name pn_2) (fun m => by first | (simp [entryFrame, mkF, argsToLocals, Value.category]; done) | rfl) ?_
  intro p e s m below meth c s₁ hx hy hml hown hnm hret hlk hZ X0 e0
  let QQ := Q_add0 Z a ob wD kD vD h0 n0
  have N0 := Fr.nil n0
  show Go p e below (s₁.setTop (mkF m 0 #[rS a, rS ob] [])) (EndQ s below ({ frames := 4, cells := 1, slots := 10, locals := 56 } : Room).cells ({ frames := 4, cells := 1, slots := 10, locals := 56 } : Room).slots QQ)
  refine gon s₁ (mkF m 2 #[rS a,rS ob] [(.ref a), (.ref a)]) (fun _ k => XS.aloadN X0.here hx rfl (hb hy d38_25_0) rfl rfl (XS.dup X0.here hx rfl (hb hy d38_25_1) rfl rfl k)) ?_
  obtain ⟨T1, X1, e1, st1⟩ := getF X0 hx hZ hown (host := "") (Or.inl (w79 hw)) (Via.of (w80 hw)) e0 P5 (g := (mkF m 2 #[rS a,rS ob] [(.ref a), (.ref a)])) rfl rfl (hb hy d38_25_2)
  refine gon T1 (mkF m 5 #[rS a,rS ob] [(.int 0), (.ref a)]) (st1) ?_
  refine gon T1 (mkF m 7 #[rS a,rS ob] [(.int 1), (.ref a)]) (fun _ k => XS.iconst X1.here hx rfl (hb hy d38_25_5) (XS.iadd X1.here hx rfl (hb hy d38_25_6) rfl k)) ?_
  obtain ⟨T2, h2, X2, e2, W2, st2⟩ := putF X1 hx hZ hown (host := "") (Or.inl (w79 hw)) (Via.of (w80 hw)) e1 P5 P0 (Or.inl (w22 hw)) (w1 hw) (ty := .int) (by decide) rfl rfl (g := (mkF m 7 #[rS a,rS ob] [(.int 1), (.ref a)])) rfl rfl (hb hy d38_25_7)
  have Fw2 : Fld Z h2 a "java/util/AbstractList" "modCount" "I" (.int (1 : Int32)) := Fld.same W2 P5
  have N2 := Fr.snoc X2 N0 P1
  refine gon T2 (mkF m 10 #[rS a,rS ob] []) (st2) ?_
  refine gon T2 (mkF m 13 #[rS a,rS ob] [(.ref a), (.ref ob), (.ref a)]) (fun _ k => XS.aloadN X2.here hx rfl (hb hy d38_25_10) rfl rfl (XS.aloadN X2.here hx rfl (hb hy d38_25_11) rfl rfl (XS.aloadN X2.here hx rfl (hb hy d38_25_12) rfl rfl k))) ?_
  have c_4 := Fld.other W2 P3 (Or.inr (slot_ne (C := "java/util/ArrayList") (Or.inl (w25 hw)) (Or.inl (w22 hw)) (by decide) (t := (.array (.object "java/lang/Object"))) (t' := .int) (by decide) (by decide)))
  obtain ⟨T3, X3, e3, st3⟩ := getF X2 hx hZ hown (host := "") (Or.inl (w24 hw)) Via.refl e2 c_4 (g := (mkF m 13 #[rS a,rS ob] [(.ref a), (.ref ob), (.ref a)])) rfl rfl (hb hy d38_25_13)
  refine gon T3 (mkF m 16 #[rS a,rS ob] [(.ref wD), (.ref ob), (.ref a)]) (st3) ?_
  refine gon T3 (mkF m 17 #[rS a,rS ob] [(.ref a), (.ref wD), (.ref ob), (.ref a)]) (fun _ k => XS.aloadN X3.here hx rfl (hb hy d38_25_16) rfl rfl k) ?_
  have c_6 := Fld.other W2 P4 (Or.inr (slot_ne (C := "java/util/ArrayList") (Or.inl (w82 hw)) (Or.inl (w22 hw)) (by decide) (t := .int) (t' := .int) (by decide) (by decide)))
  obtain ⟨T5, X5, e5, st5⟩ := getF X3 hx hZ hown (host := "") (Or.inl (w81 hw)) Via.refl e3 c_6 (g := (mkF m 17 #[rS a,rS ob] [(.ref a), (.ref wD), (.ref ob), (.ref a)])) rfl rfl (hb hy d38_25_17)
  refine gon T5 (mkF m 20 #[rS a,rS ob] [(.int 0), (.ref wD), (.ref ob), (.ref a)]) (st5) ?_
  have c_8 := Exa.wr W2 P0
  have c_9 := Exa.wr W2 P2
  have Z_10 : n0 ≤ h2.size := Nat.le_trans Z0 (Nat.le_of_eq (Wr.size W2).symm)
  have O_11 : Old Z n0 h2 := O0.wr W2 P1
  obtain ⟨v7, T7, L7, X7, hQ7, st7⟩ := OwnW.callP (y := (⟨"java/util/ArrayList", "add", "(Ljava/lang/Object;[Ljava/lang/Object;I)V"⟩ : MethodName)) X5 hx hZ hown (w83 hw) (w86 hw) (w84 hw) (w85 hw) (w2 hw) (w87 hw) (by decide) (b := a) (addH0 l Z a0 hw a ob wD kD vD h2 n0 Z_10 O_11 c_8 P1 c_9 c_4 c_6 Fw2 P6 P7) e5 c_8 (Ls := #[rS a, rS ob]) (by rw [hml]; rfl) pd_4 (argsL := [(.ref ob), (.ref wD), (.int (0 : Int32))]) rfl (rest := []) rfl (W := 0) rfl (hb hy d38_25_20) (by decide) (by decide) (by decide) (by decide)
  obtain ⟨el_12, kel_13, rfl, Nq7, Kq7, q7_0, q7_1, q7_2, q7_3, q7_4, q7_5, q7_6⟩ := hQ7
  have N7 := Fr.app N2 Nq7
  refine gon T7 (mkF m 23 #[rS a,rS ob] []) (st7) ?_
  refine gon T7 (mkF m 24 #[rS a,rS ob] [(.int 1)]) (fun _ k => XS.iconst X7.here hx rfl (hb hy d38_25_23) k) ?_
  have K_14 : Keep h0 h2 [a] := (Keep.refl h0 [a]).wr W2 (Or.inl (List.mem_of_getElem? (i := 0) rfl))
  have K_15 : Keep h0 T7.heap [a] := K_14.trans Kq7 (allS (Or.inl (List.mem_of_getElem? (i := 0) rfl)) all0)
  have Y_16 : h0.size ≤ h2.size := Nat.le_trans (Nat.le_refl _) (Nat.le_of_eq (Wr.size W2).symm)
  exact OwnW.retN X7 hx hlk hret (t := .boolean) (by simp) (z' := (1 : Int32)) (hb hy d38_25_24) (by decide) (by decide) rfl (show QQ _ T7.heap _ from ⟨el_12, kel_13, rfl, N7, K_15, (Nat.le_trans Y_16 q7_0), q7_1, q7_2, q7_3, q7_4, q7_5, q7_6⟩)
def Q_addH1 (Z : State) (a : Addr) (ob : Addr) (el : Addr) (kel : ClassId) (o0 : Addr) (h0 : Heap) (n0 : Nat) (v : Option Value) (h : Heap) (L : List Loc) : Prop := v = none ∧ Fr n0 L ∧ Keep h0 h [a, el] ∧ Arv Z h el kel (.object "java/lang/Object") (10 : Int32) [(.ref o0), (.ref ob), .null, .null, .null, .null, .null, .null, .null, .null] .null ∧ Fld Z h a "java/util/ArrayList" "elementData" "[Ljava/lang/Object;" (.ref el) ∧ Fld Z h a "java/util/ArrayList" "size" "I" (.int (2 : Int32)) ∧ Fld Z h a "java/util/AbstractList" "modCount" "I" (.int (2 : Int32))
set_option maxRecDepth 65536 in
set_option maxHeartbeats 40000000 in
theorem addH1 (l : Launch) (Z : State) (a0 : Array Value) (hw : Ht a0 Z) (a : Addr) (ob : Addr) (el : Addr) (kel : ClassId) (o0 : Addr) (h0 : Heap) (n0 : Nat) (Z0 : n0 ≤ h0.size) (P0 : Exa Z h0 a "java/util/ArrayList") (P1 : n0 ≤ a) (P2 : Exa Z h0 ob "com/example/tipple/tipple/Lot") (P3 : Fld Z h0 a "java/util/ArrayList" "elementData" "[Ljava/lang/Object;" (.ref el)) (P4 : Fld Z h0 a "java/util/ArrayList" "size" "I" (.int (1 : Int32))) (P5 : Fld Z h0 a "java/util/AbstractList" "modCount" "I" (.int (2 : Int32))) (P6 : Exa Z h0 el "[Ljava/lang/Object;") (P7 : n0 ≤ el) (P8 : Arv Z h0 el kel (.object "java/lang/Object") (10 : Int32) [(.ref o0), .null, .null, .null, .null, .null, .null, .null, .null, .null] .null) (P9 : Ovr Z kel "java/lang/Object") :
    Con l Z (⟨"java/util/ArrayList", "add", "(Ljava/lang/Object;[Ljava/lang/Object;I)V"⟩ : MethodName) jdk_38_method_24_code 4 none ({ frames := 0, cells := 0, slots := 0, locals := 0 } : Room) #[(.ref a), (.ref ob), (.ref el), (.int (1 : Int32))] h0 (Q_addH1 Z a ob el kel o0 h0 n0) := by
  refine OwnW.body (Ls := #[rS a, rS ob, rS el, iS 1]) (plainFor_of_name pn_2) (fun m => by first | (simp [entryFrame, mkF, argsToLocals, Value.category]; done) | rfl) ?_
  intro p e s m below meth c s₁ hx hy hml hown hnm hret hlk hZ X0 e0
  let QQ := Q_addH1 Z a ob el kel o0 h0 n0
  have N0 := Fr.nil n0
  show Go p e below (s₁.setTop (mkF m 0 #[rS a, rS ob, rS el, iS 1] [])) (EndQ s below ({ frames := 0, cells := 0, slots := 0, locals := 0 } : Room).cells ({ frames := 0, cells := 0, slots := 0, locals := 0 } : Room).slots QQ)
  refine gon s₁ (mkF m 2 #[rS a,rS ob,rS el,iS 1] [(.ref el), (.int 1)]) (fun _ k => XS.iloadN X0.here hx rfl (hb hy d38_24_0) rfl (XS.aloadN X0.here hx rfl (hb hy d38_24_1) rfl rfl k)) ?_
  refine gon s₁ (mkF m 3 #[rS a,rS ob,rS el,iS 1] [(.int 10), (.int 1)]) (aLen X0 hx hZ e0 P8 (hb hy d38_24_2)) ?_
  refine gon s₁ (mkF m 14 #[rS a,rS ob,rS el,iS 1] [(.ref ob), (.int 1), (.ref el)]) (fun _ k => XS.icmpYes X0.here hx rfl (pc0 := 3) (pc' := 11) rfl (hb hy d38_24_3) rfl (feq (by decide : ¬ ((1 : Int32) = (10 : Int32)))).2 (by decide) (by decide) (XS.aloadN X0.here hx rfl (hb hy d38_24_11) rfl rfl (XS.iloadN X0.here hx rfl (hb hy d38_24_12) rfl (XS.aloadN X0.here hx rfl (hb hy d38_24_13) rfl rfl k)))) ?_
  obtain ⟨T1, h1, X1, e1, W1, V1, st1⟩ := OwnW.stA X0 hx hZ e0 P8 rfl rfl (fun zc zA zq => Sto.ofV zA zq P9 (Ins.of_exa P2 (w104 hw))) (v := (.ref ob)) (j := (1 : Int32)) ⟨by decide, by decide⟩ 1 rfl (Nat.le_of_ble_eq_true rfl) (Ls := #[rS a, rS ob, rS el, iS 1]) (rest := []) (hb hy d38_24_14)
  have V1' : Arv Z h1 el kel (.object "java/lang/Object") (10 : Int32) [(.ref o0), (.ref ob), .null, .null, .null, .null, .null, .null, .null, .null] .null := V1
  have N1 := Fr.snoc X1 N0 P7
  refine gon T1 (mkF m 15 #[rS a,rS ob,rS el,iS 1] []) (st1) ?_
  refine gon T1 (mkF m 19 #[rS a,rS ob,rS el,iS 1] [(.int 2), (.ref a)]) (fun _ k => XS.aloadN X1.here hx rfl (hb hy d38_24_15) rfl rfl (XS.iloadN X1.here hx rfl (hb hy d38_24_16) rfl (XS.iconst X1.here hx rfl (hb hy d38_24_17) (XS.iadd X1.here hx rfl (hb hy d38_24_18) rfl k)))) ?_
  have c_3 := Exa.wr W1 P0
  have c_4 := Exa.wr W1 P6
  have ne_5 : a ≠ el := ne_exa c_3 c_4 (by decide)
  have c_6 := Fld.other W1 P4 (Or.inl ne_5)
  obtain ⟨T2, h2, X2, e2, W2, st2⟩ := putF X1 hx hZ hown (host := "") (Or.inl (w81 hw)) Via.refl e1 c_6 c_3 (Or.inl (w82 hw)) (w1 hw) (ty := .int) (by decide) rfl rfl (g := (mkF m 19 #[rS a,rS ob,rS el,iS 1] [(.int 2), (.ref a)])) rfl rfl (hb hy d38_24_19)
  have Fw2 : Fld Z h2 a "java/util/ArrayList" "size" "I" (.int (2 : Int32)) := Fld.same W2 c_6
  have N2 := Fr.snoc X2 N1 P1
  refine gon T2 (mkF m 22 #[rS a,rS ob,rS el,iS 1] []) (st2) ?_
  have K_7 : Keep h0 h1 [a, el] := (Keep.refl h0 [a, el]).wr W1 (Or.inl (List.mem_of_getElem? (i := 1) rfl))
  have K_8 : Keep h0 h2 [a, el] := K_7.wr W2 (Or.inl (List.mem_of_getElem? (i := 0) rfl))
  have c_9 := Arv.other (V1') W2 (Ne.symm ne_5)
  have c_10 := Fld.other W2 (Fld.other W1 P3 (Or.inl ne_5)) (Or.inr (slot_ne (C := "java/util/ArrayList") (Or.inl (w25 hw)) (Or.inl (w82 hw)) (by decide) (t := (.array (.object "java/lang/Object"))) (t' := .int) (by decide) (by decide)))
  have c_11 := Fld.other W2 (Fld.other W1 P5 (Or.inl ne_5)) (Or.inr (slot_ne (C := "java/util/ArrayList") (Or.inl (w22 hw)) (Or.inl (w82 hw)) (by decide) (t := .int) (t' := .int) (by decide) (by decide)))
  exact OwnW.retV X2 hx hlk hret (hb hy d38_24_22) (by decide) (by decide) (show QQ _ T2.heap _ from (by rw [e2]; exact ⟨rfl, N2, K_8, c_9, c_10, Fw2, c_11⟩))
def Q_add1 (Z : State) (a : Addr) (ob : Addr) (el : Addr) (kel : ClassId) (o0 : Addr) (h0 : Heap) (n0 : Nat) (v : Option Value) (h : Heap) (L : List Loc) : Prop := v = some (.int (1 : Int32)) ∧ Fr n0 L ∧ Keep h0 h [a, el] ∧ Arv Z h el kel (.object "java/lang/Object") (10 : Int32) [(.ref o0), (.ref ob), .null, .null, .null, .null, .null, .null, .null, .null] .null ∧ Fld Z h a "java/util/ArrayList" "elementData" "[Ljava/lang/Object;" (.ref el) ∧ Fld Z h a "java/util/ArrayList" "size" "I" (.int (2 : Int32)) ∧ Fld Z h a "java/util/AbstractList" "modCount" "I" (.int (2 : Int32))
set_option maxRecDepth 65536 in
set_option maxHeartbeats 40000000 in
theorem add1 (l : Launch) (Z : State) (a0 : Array Value) (hw : Ht a0 Z) (a : Addr) (ob : Addr) (el : Addr) (kel : ClassId) (o0 : Addr) (h0 : Heap) (n0 : Nat) (Z0 : n0 ≤ h0.size) (P0 : Exa Z h0 a "java/util/ArrayList") (P1 : n0 ≤ a) (P2 : Exa Z h0 ob "com/example/tipple/tipple/Lot") (P3 : Fld Z h0 a "java/util/ArrayList" "elementData" "[Ljava/lang/Object;" (.ref el)) (P4 : Fld Z h0 a "java/util/ArrayList" "size" "I" (.int (1 : Int32))) (P5 : Fld Z h0 a "java/util/AbstractList" "modCount" "I" (.int (1 : Int32))) (P6 : Exa Z h0 el "[Ljava/lang/Object;") (P7 : n0 ≤ el) (P8 : Arv Z h0 el kel (.object "java/lang/Object") (10 : Int32) [(.ref o0), .null, .null, .null, .null, .null, .null, .null, .null, .null] .null) (P9 : Ovr Z kel "java/lang/Object") :
    Con l Z (⟨"java/util/ArrayList", "add", "(Ljava/lang/Object;)Z"⟩ : MethodName) jdk_38_method_25_code 2 (some .boolean) ({ frames := 1, cells := 0, slots := 0, locals := 15 } : Room) #[(.ref a), (.ref ob)] h0 (Q_add1 Z a ob el kel o0 h0 n0) := by
  refine OwnW.body (Ls := #[rS a, rS ob]) (plainFor_of_name pn_2) (fun m => by first | (simp [entryFrame, mkF, argsToLocals, Value.category]; done) | rfl) ?_
  intro p e s m below meth c s₁ hx hy hml hown hnm hret hlk hZ X0 e0
  let QQ := Q_add1 Z a ob el kel o0 h0 n0
  have N0 := Fr.nil n0
  show Go p e below (s₁.setTop (mkF m 0 #[rS a, rS ob] [])) (EndQ s below ({ frames := 1, cells := 0, slots := 0, locals := 15 } : Room).cells ({ frames := 1, cells := 0, slots := 0, locals := 15 } : Room).slots QQ)
  refine gon s₁ (mkF m 2 #[rS a,rS ob] [(.ref a), (.ref a)]) (fun _ k => XS.aloadN X0.here hx rfl (hb hy d38_25_0) rfl rfl (XS.dup X0.here hx rfl (hb hy d38_25_1) rfl rfl k)) ?_
  obtain ⟨T1, X1, e1, st1⟩ := getF X0 hx hZ hown (host := "") (Or.inl (w79 hw)) (Via.of (w80 hw)) e0 P5 (g := (mkF m 2 #[rS a,rS ob] [(.ref a), (.ref a)])) rfl rfl (hb hy d38_25_2)
  refine gon T1 (mkF m 5 #[rS a,rS ob] [(.int 1), (.ref a)]) (st1) ?_
  refine gon T1 (mkF m 7 #[rS a,rS ob] [(.int 2), (.ref a)]) (fun _ k => XS.iconst X1.here hx rfl (hb hy d38_25_5) (XS.iadd X1.here hx rfl (hb hy d38_25_6) rfl k)) ?_
  obtain ⟨T2, h2, X2, e2, W2, st2⟩ := putF X1 hx hZ hown (host := "") (Or.inl (w79 hw)) (Via.of (w80 hw)) e1 P5 P0 (Or.inl (w22 hw)) (w1 hw) (ty := .int) (by decide) rfl rfl (g := (mkF m 7 #[rS a,rS ob] [(.int 2), (.ref a)])) rfl rfl (hb hy d38_25_7)
  have Fw2 : Fld Z h2 a "java/util/AbstractList" "modCount" "I" (.int (2 : Int32)) := Fld.same W2 P5
  have N2 := Fr.snoc X2 N0 P1
  refine gon T2 (mkF m 10 #[rS a,rS ob] []) (st2) ?_
  refine gon T2 (mkF m 13 #[rS a,rS ob] [(.ref a), (.ref ob), (.ref a)]) (fun _ k => XS.aloadN X2.here hx rfl (hb hy d38_25_10) rfl rfl (XS.aloadN X2.here hx rfl (hb hy d38_25_11) rfl rfl (XS.aloadN X2.here hx rfl (hb hy d38_25_12) rfl rfl k))) ?_
  have c_4 := Fld.other W2 P3 (Or.inr (slot_ne (C := "java/util/ArrayList") (Or.inl (w25 hw)) (Or.inl (w22 hw)) (by decide) (t := (.array (.object "java/lang/Object"))) (t' := .int) (by decide) (by decide)))
  obtain ⟨T3, X3, e3, st3⟩ := getF X2 hx hZ hown (host := "") (Or.inl (w24 hw)) Via.refl e2 c_4 (g := (mkF m 13 #[rS a,rS ob] [(.ref a), (.ref ob), (.ref a)])) rfl rfl (hb hy d38_25_13)
  refine gon T3 (mkF m 16 #[rS a,rS ob] [(.ref el), (.ref ob), (.ref a)]) (st3) ?_
  refine gon T3 (mkF m 17 #[rS a,rS ob] [(.ref a), (.ref el), (.ref ob), (.ref a)]) (fun _ k => XS.aloadN X3.here hx rfl (hb hy d38_25_16) rfl rfl k) ?_
  have c_6 := Fld.other W2 P4 (Or.inr (slot_ne (C := "java/util/ArrayList") (Or.inl (w82 hw)) (Or.inl (w22 hw)) (by decide) (t := .int) (t' := .int) (by decide) (by decide)))
  obtain ⟨T5, X5, e5, st5⟩ := getF X3 hx hZ hown (host := "") (Or.inl (w81 hw)) Via.refl e3 c_6 (g := (mkF m 17 #[rS a,rS ob] [(.ref a), (.ref el), (.ref ob), (.ref a)])) rfl rfl (hb hy d38_25_17)
  refine gon T5 (mkF m 20 #[rS a,rS ob] [(.int 1), (.ref el), (.ref ob), (.ref a)]) (st5) ?_
  have c_8 := Exa.wr W2 P0
  have c_9 := Exa.wr W2 P2
  have c_10 := Exa.wr W2 P6
  have ne_11 : el ≠ a := ne_exa c_10 c_8 (by decide)
  have c_12 := Arv.other P8 W2 ne_11
  have Z_13 : n0 ≤ h2.size := Nat.le_trans Z0 (Nat.le_of_eq (Wr.size W2).symm)
  obtain ⟨v7, T7, L7, X7, hQ7, st7⟩ := OwnW.callP (y := (⟨"java/util/ArrayList", "add", "(Ljava/lang/Object;[Ljava/lang/Object;I)V"⟩ : MethodName)) X5 hx hZ hown (w83 hw) (w86 hw) (w84 hw) (w85 hw) (w2 hw) (w87 hw) (by decide) (b := a) (addH1 l Z a0 hw a ob el kel o0 h2 n0 Z_13 c_8 P1 c_9 c_4 c_6 Fw2 c_10 P7 c_12 P9) e5 c_8 (Ls := #[rS a, rS ob]) (by rw [hml]; rfl) pd_4 (argsL := [(.ref ob), (.ref el), (.int (1 : Int32))]) rfl (rest := []) rfl (W := 0) rfl (hb hy d38_25_20) (by decide) (by decide) (by decide) (by decide)
  obtain ⟨rfl, Nq7, Kq7, q7_0, q7_1, q7_2, q7_3⟩ := hQ7
  have N7 := Fr.app N2 Nq7
  refine gon T7 (mkF m 23 #[rS a,rS ob] []) (st7) ?_
  refine gon T7 (mkF m 24 #[rS a,rS ob] [(.int 1)]) (fun _ k => XS.iconst X7.here hx rfl (hb hy d38_25_23) k) ?_
  have K_14 : Keep h0 h2 [a, el] := (Keep.refl h0 [a, el]).wr W2 (Or.inl (List.mem_of_getElem? (i := 0) rfl))
  have K_15 : Keep h0 T7.heap [a, el] := K_14.trans Kq7 (allS (Or.inl (List.mem_of_getElem? (i := 0) rfl)) (allS (Or.inl (List.mem_of_getElem? (i := 1) rfl)) all0))
  exact OwnW.retN X7 hx hlk hret (t := .boolean) (by simp) (z' := (1 : Int32)) (hb hy d38_25_24) (by decide) (by decide) rfl (show QQ _ T7.heap _ from ⟨rfl, N7, K_15, q7_0, q7_1, q7_2, q7_3⟩)
def Q_addH2 (Z : State) (a : Addr) (ob : Addr) (el : Addr) (kel : ClassId) (o0 : Addr) (o1 : Addr) (h0 : Heap) (n0 : Nat) (v : Option Value) (h : Heap) (L : List Loc) : Prop := v = none ∧ Fr n0 L ∧ Keep h0 h [a, el] ∧ Arv Z h el kel (.object "java/lang/Object") (10 : Int32) [(.ref o0), (.ref o1), (.ref ob), .null, .null, .null, .null, .null, .null, .null] .null ∧ Fld Z h a "java/util/ArrayList" "elementData" "[Ljava/lang/Object;" (.ref el) ∧ Fld Z h a "java/util/ArrayList" "size" "I" (.int (3 : Int32)) ∧ Fld Z h a "java/util/AbstractList" "modCount" "I" (.int (3 : Int32))
set_option maxRecDepth 65536 in
set_option maxHeartbeats 40000000 in
theorem addH2 (l : Launch) (Z : State) (a0 : Array Value) (hw : Ht a0 Z) (a : Addr) (ob : Addr) (el : Addr) (kel : ClassId) (o0 : Addr) (o1 : Addr) (h0 : Heap) (n0 : Nat) (Z0 : n0 ≤ h0.size) (P0 : Exa Z h0 a "java/util/ArrayList") (P1 : n0 ≤ a) (P2 : Exa Z h0 ob "com/example/tipple/tipple/Lot") (P3 : Fld Z h0 a "java/util/ArrayList" "elementData" "[Ljava/lang/Object;" (.ref el)) (P4 : Fld Z h0 a "java/util/ArrayList" "size" "I" (.int (2 : Int32))) (P5 : Fld Z h0 a "java/util/AbstractList" "modCount" "I" (.int (3 : Int32))) (P6 : Exa Z h0 el "[Ljava/lang/Object;") (P7 : n0 ≤ el) (P8 : Arv Z h0 el kel (.object "java/lang/Object") (10 : Int32) [(.ref o0), (.ref o1), .null, .null, .null, .null, .null, .null, .null, .null] .null) (P9 : Ovr Z kel "java/lang/Object") :
    Con l Z (⟨"java/util/ArrayList", "add", "(Ljava/lang/Object;[Ljava/lang/Object;I)V"⟩ : MethodName) jdk_38_method_24_code 4 none ({ frames := 0, cells := 0, slots := 0, locals := 0 } : Room) #[(.ref a), (.ref ob), (.ref el), (.int (2 : Int32))] h0 (Q_addH2 Z a ob el kel o0 o1 h0 n0) := by
  refine OwnW.body (Ls := #[rS a, rS ob, rS el, iS 2]) (plainFor_of_name pn_2) (fun m => by first | (simp [entryFrame, mkF, argsToLocals, Value.category]; done) | rfl) ?_
  intro p e s m below meth c s₁ hx hy hml hown hnm hret hlk hZ X0 e0
  let QQ := Q_addH2 Z a ob el kel o0 o1 h0 n0
  have N0 := Fr.nil n0
  show Go p e below (s₁.setTop (mkF m 0 #[rS a, rS ob, rS el, iS 2] [])) (EndQ s below ({ frames := 0, cells := 0, slots := 0, locals := 0 } : Room).cells ({ frames := 0, cells := 0, slots := 0, locals := 0 } : Room).slots QQ)
  refine gon s₁ (mkF m 2 #[rS a,rS ob,rS el,iS 2] [(.ref el), (.int 2)]) (fun _ k => XS.iloadN X0.here hx rfl (hb hy d38_24_0) rfl (XS.aloadN X0.here hx rfl (hb hy d38_24_1) rfl rfl k)) ?_
  refine gon s₁ (mkF m 3 #[rS a,rS ob,rS el,iS 2] [(.int 10), (.int 2)]) (aLen X0 hx hZ e0 P8 (hb hy d38_24_2)) ?_
  refine gon s₁ (mkF m 14 #[rS a,rS ob,rS el,iS 2] [(.ref ob), (.int 2), (.ref el)]) (fun _ k => XS.icmpYes X0.here hx rfl (pc0 := 3) (pc' := 11) rfl (hb hy d38_24_3) rfl (feq (by decide : ¬ ((2 : Int32) = (10 : Int32)))).2 (by decide) (by decide) (XS.aloadN X0.here hx rfl (hb hy d38_24_11) rfl rfl (XS.iloadN X0.here hx rfl (hb hy d38_24_12) rfl (XS.aloadN X0.here hx rfl (hb hy d38_24_13) rfl rfl k)))) ?_
  obtain ⟨T1, h1, X1, e1, W1, V1, st1⟩ := OwnW.stA X0 hx hZ e0 P8 rfl rfl (fun zc zA zq => Sto.ofV zA zq P9 (Ins.of_exa P2 (w104 hw))) (v := (.ref ob)) (j := (2 : Int32)) ⟨by decide, by decide⟩ 2 rfl (Nat.le_of_ble_eq_true rfl) (Ls := #[rS a, rS ob, rS el, iS 2]) (rest := []) (hb hy d38_24_14)
  have V1' : Arv Z h1 el kel (.object "java/lang/Object") (10 : Int32) [(.ref o0), (.ref o1), (.ref ob), .null, .null, .null, .null, .null, .null, .null] .null := V1
  have N1 := Fr.snoc X1 N0 P7
  refine gon T1 (mkF m 15 #[rS a,rS ob,rS el,iS 2] []) (st1) ?_
  refine gon T1 (mkF m 19 #[rS a,rS ob,rS el,iS 2] [(.int 3), (.ref a)]) (fun _ k => XS.aloadN X1.here hx rfl (hb hy d38_24_15) rfl rfl (XS.iloadN X1.here hx rfl (hb hy d38_24_16) rfl (XS.iconst X1.here hx rfl (hb hy d38_24_17) (XS.iadd X1.here hx rfl (hb hy d38_24_18) rfl k)))) ?_
  have c_3 := Exa.wr W1 P0
  have c_4 := Exa.wr W1 P6
  have ne_5 : a ≠ el := ne_exa c_3 c_4 (by decide)
  have c_6 := Fld.other W1 P4 (Or.inl ne_5)
  obtain ⟨T2, h2, X2, e2, W2, st2⟩ := putF X1 hx hZ hown (host := "") (Or.inl (w81 hw)) Via.refl e1 c_6 c_3 (Or.inl (w82 hw)) (w1 hw) (ty := .int) (by decide) rfl rfl (g := (mkF m 19 #[rS a,rS ob,rS el,iS 2] [(.int 3), (.ref a)])) rfl rfl (hb hy d38_24_19)
  have Fw2 : Fld Z h2 a "java/util/ArrayList" "size" "I" (.int (3 : Int32)) := Fld.same W2 c_6
  have N2 := Fr.snoc X2 N1 P1
  refine gon T2 (mkF m 22 #[rS a,rS ob,rS el,iS 2] []) (st2) ?_
  have K_7 : Keep h0 h1 [a, el] := (Keep.refl h0 [a, el]).wr W1 (Or.inl (List.mem_of_getElem? (i := 1) rfl))
  have K_8 : Keep h0 h2 [a, el] := K_7.wr W2 (Or.inl (List.mem_of_getElem? (i := 0) rfl))
  have c_9 := Arv.other (V1') W2 (Ne.symm ne_5)
  have c_10 := Fld.other W2 (Fld.other W1 P3 (Or.inl ne_5)) (Or.inr (slot_ne (C := "java/util/ArrayList") (Or.inl (w25 hw)) (Or.inl (w82 hw)) (by decide) (t := (.array (.object "java/lang/Object"))) (t' := .int) (by decide) (by decide)))
  have c_11 := Fld.other W2 (Fld.other W1 P5 (Or.inl ne_5)) (Or.inr (slot_ne (C := "java/util/ArrayList") (Or.inl (w22 hw)) (Or.inl (w82 hw)) (by decide) (t := .int) (t' := .int) (by decide) (by decide)))
  exact OwnW.retV X2 hx hlk hret (hb hy d38_24_22) (by decide) (by decide) (show QQ _ T2.heap _ from (by rw [e2]; exact ⟨rfl, N2, K_8, c_9, c_10, Fw2, c_11⟩))
def Q_add2 (Z : State) (a : Addr) (ob : Addr) (el : Addr) (kel : ClassId) (o0 : Addr) (o1 : Addr) (h0 : Heap) (n0 : Nat) (v : Option Value) (h : Heap) (L : List Loc) : Prop := v = some (.int (1 : Int32)) ∧ Fr n0 L ∧ Keep h0 h [a, el] ∧ Arv Z h el kel (.object "java/lang/Object") (10 : Int32) [(.ref o0), (.ref o1), (.ref ob), .null, .null, .null, .null, .null, .null, .null] .null ∧ Fld Z h a "java/util/ArrayList" "elementData" "[Ljava/lang/Object;" (.ref el) ∧ Fld Z h a "java/util/ArrayList" "size" "I" (.int (3 : Int32)) ∧ Fld Z h a "java/util/AbstractList" "modCount" "I" (.int (3 : Int32))
set_option maxRecDepth 65536 in
set_option maxHeartbeats 40000000 in
theorem add2 (l : Launch) (Z : State) (a0 : Array Value) (hw : Ht a0 Z) (a : Addr) (ob : Addr) (el : Addr) (kel : ClassId) (o0 : Addr) (o1 : Addr) (h0 : Heap) (n0 : Nat) (Z0 : n0 ≤ h0.size) (P0 : Exa Z h0 a "java/util/ArrayList") (P1 : n0 ≤ a) (P2 : Exa Z h0 ob "com/example/tipple/tipple/Lot") (P3 : Fld Z h0 a "java/util/ArrayList" "elementData" "[Ljava/lang/Object;" (.ref el)) (P4 : Fld Z h0 a "java/util/ArrayList" "size" "I" (.int (2 : Int32))) (P5 : Fld Z h0 a "java/util/AbstractList" "modCount" "I" (.int (2 : Int32))) (P6 : Exa Z h0 el "[Ljava/lang/Object;") (P7 : n0 ≤ el) (P8 : Arv Z h0 el kel (.object "java/lang/Object") (10 : Int32) [(.ref o0), (.ref o1), .null, .null, .null, .null, .null, .null, .null, .null] .null) (P9 : Ovr Z kel "java/lang/Object") :
    Con l Z (⟨"java/util/ArrayList", "add", "(Ljava/lang/Object;)Z"⟩ : MethodName) jdk_38_method_25_code 2 (some .boolean) ({ frames := 1, cells := 0, slots := 0, locals := 15 } : Room) #[(.ref a), (.ref ob)] h0 (Q_add2 Z a ob el kel o0 o1 h0 n0) := by
  refine OwnW.body (Ls := #[rS a, rS ob]) (plainFor_of_name pn_2) (fun m => by first | (simp [entryFrame, mkF, argsToLocals, Value.category]; done) | rfl) ?_
  intro p e s m below meth c s₁ hx hy hml hown hnm hret hlk hZ X0 e0
  let QQ := Q_add2 Z a ob el kel o0 o1 h0 n0
  have N0 := Fr.nil n0
  show Go p e below (s₁.setTop (mkF m 0 #[rS a, rS ob] [])) (EndQ s below ({ frames := 1, cells := 0, slots := 0, locals := 15 } : Room).cells ({ frames := 1, cells := 0, slots := 0, locals := 15 } : Room).slots QQ)
  refine gon s₁ (mkF m 2 #[rS a,rS ob] [(.ref a), (.ref a)]) (fun _ k => XS.aloadN X0.here hx rfl (hb hy d38_25_0) rfl rfl (XS.dup X0.here hx rfl (hb hy d38_25_1) rfl rfl k)) ?_
  obtain ⟨T1, X1, e1, st1⟩ := getF X0 hx hZ hown (host := "") (Or.inl (w79 hw)) (Via.of (w80 hw)) e0 P5 (g := (mkF m 2 #[rS a,rS ob] [(.ref a), (.ref a)])) rfl rfl (hb hy d38_25_2)
  refine gon T1 (mkF m 5 #[rS a,rS ob] [(.int 2), (.ref a)]) (st1) ?_
  refine gon T1 (mkF m 7 #[rS a,rS ob] [(.int 3), (.ref a)]) (fun _ k => XS.iconst X1.here hx rfl (hb hy d38_25_5) (XS.iadd X1.here hx rfl (hb hy d38_25_6) rfl k)) ?_
  obtain ⟨T2, h2, X2, e2, W2, st2⟩ := putF X1 hx hZ hown (host := "") (Or.inl (w79 hw)) (Via.of (w80 hw)) e1 P5 P0 (Or.inl (w22 hw)) (w1 hw) (ty := .int) (by decide) rfl rfl (g := (mkF m 7 #[rS a,rS ob] [(.int 3), (.ref a)])) rfl rfl (hb hy d38_25_7)
  have Fw2 : Fld Z h2 a "java/util/AbstractList" "modCount" "I" (.int (3 : Int32)) := Fld.same W2 P5
  have N2 := Fr.snoc X2 N0 P1
  refine gon T2 (mkF m 10 #[rS a,rS ob] []) (st2) ?_
  refine gon T2 (mkF m 13 #[rS a,rS ob] [(.ref a), (.ref ob), (.ref a)]) (fun _ k => XS.aloadN X2.here hx rfl (hb hy d38_25_10) rfl rfl (XS.aloadN X2.here hx rfl (hb hy d38_25_11) rfl rfl (XS.aloadN X2.here hx rfl (hb hy d38_25_12) rfl rfl k))) ?_
  have c_4 := Fld.other W2 P3 (Or.inr (slot_ne (C := "java/util/ArrayList") (Or.inl (w25 hw)) (Or.inl (w22 hw)) (by decide) (t := (.array (.object "java/lang/Object"))) (t' := .int) (by decide) (by decide)))
  obtain ⟨T3, X3, e3, st3⟩ := getF X2 hx hZ hown (host := "") (Or.inl (w24 hw)) Via.refl e2 c_4 (g := (mkF m 13 #[rS a,rS ob] [(.ref a), (.ref ob), (.ref a)])) rfl rfl (hb hy d38_25_13)
  refine gon T3 (mkF m 16 #[rS a,rS ob] [(.ref el), (.ref ob), (.ref a)]) (st3) ?_
  refine gon T3 (mkF m 17 #[rS a,rS ob] [(.ref a), (.ref el), (.ref ob), (.ref a)]) (fun _ k => XS.aloadN X3.here hx rfl (hb hy d38_25_16) rfl rfl k) ?_
  have c_6 := Fld.other W2 P4 (Or.inr (slot_ne (C := "java/util/ArrayList") (Or.inl (w82 hw)) (Or.inl (w22 hw)) (by decide) (t := .int) (t' := .int) (by decide) (by decide)))
  obtain ⟨T5, X5, e5, st5⟩ := getF X3 hx hZ hown (host := "") (Or.inl (w81 hw)) Via.refl e3 c_6 (g := (mkF m 17 #[rS a,rS ob] [(.ref a), (.ref el), (.ref ob), (.ref a)])) rfl rfl (hb hy d38_25_17)
  refine gon T5 (mkF m 20 #[rS a,rS ob] [(.int 2), (.ref el), (.ref ob), (.ref a)]) (st5) ?_
  have c_8 := Exa.wr W2 P0
  have c_9 := Exa.wr W2 P2
  have c_10 := Exa.wr W2 P6
  have ne_11 : el ≠ a := ne_exa c_10 c_8 (by decide)
  have c_12 := Arv.other P8 W2 ne_11
  have Z_13 : n0 ≤ h2.size := Nat.le_trans Z0 (Nat.le_of_eq (Wr.size W2).symm)
  obtain ⟨v7, T7, L7, X7, hQ7, st7⟩ := OwnW.callP (y := (⟨"java/util/ArrayList", "add", "(Ljava/lang/Object;[Ljava/lang/Object;I)V"⟩ : MethodName)) X5 hx hZ hown (w83 hw) (w86 hw) (w84 hw) (w85 hw) (w2 hw) (w87 hw) (by decide) (b := a) (addH2 l Z a0 hw a ob el kel o0 o1 h2 n0 Z_13 c_8 P1 c_9 c_4 c_6 Fw2 c_10 P7 c_12 P9) e5 c_8 (Ls := #[rS a, rS ob]) (by rw [hml]; rfl) pd_4 (argsL := [(.ref ob), (.ref el), (.int (2 : Int32))]) rfl (rest := []) rfl (W := 0) rfl (hb hy d38_25_20) (by decide) (by decide) (by decide) (by decide)
  obtain ⟨rfl, Nq7, Kq7, q7_0, q7_1, q7_2, q7_3⟩ := hQ7
  have N7 := Fr.app N2 Nq7
  refine gon T7 (mkF m 23 #[rS a,rS ob] []) (st7) ?_
  refine gon T7 (mkF m 24 #[rS a,rS ob] [(.int 1)]) (fun _ k => XS.iconst X7.here hx rfl (hb hy d38_25_23) k) ?_
  have K_14 : Keep h0 h2 [a, el] := (Keep.refl h0 [a, el]).wr W2 (Or.inl (List.mem_of_getElem? (i := 0) rfl))
  have K_15 : Keep h0 T7.heap [a, el] := K_14.trans Kq7 (allS (Or.inl (List.mem_of_getElem? (i := 0) rfl)) (allS (Or.inl (List.mem_of_getElem? (i := 1) rfl)) all0))
  exact OwnW.retN X7 hx hlk hret (t := .boolean) (by simp) (z' := (1 : Int32)) (hb hy d38_25_24) (by decide) (by decide) rfl (show QQ _ T7.heap _ from ⟨rfl, N7, K_15, q7_0, q7_1, q7_2, q7_3⟩)
abbrev k49_1 := jdk_49_method_1_code
theorem d49_1_0 : decode k49_1 0 = .ok (.aload_n 0, 1) := by decide +kernel
theorem d49_1_1 : decode k49_1 1 = .ok (.aload_n 1, 1) := by decide +kernel
theorem d49_1_2 : decode k49_1 2 = .ok (.putfield 1, 3) := by decide +kernel
theorem w130 {Z a0} (hw : Ht a0 Z) : (Cond.fieldLink "java/util/ArrayList$Itr" (1 : Nat) "java/util/ArrayList$Itr" "this$0" "Ljava/util/ArrayList;").before a0 Z = true := ht hw 130 rfl
theorem w131 {Z a0} (hw : Ht a0 Z) : (Cond.laysFinal "java/util/ArrayList$Itr" "java/util/ArrayList$Itr" "this$0" "Ljava/util/ArrayList;").before a0 Z = true := ht hw 131 rfl
theorem w124 {Z a0} (hw : Ht a0 Z) : (Cond.instantiable "java/util/ArrayList$Itr" (4 : Nat)).before a0 Z = true := ht hw 124 rfl
theorem d49_1_5 : decode k49_1 5 = .ok (.aload_n 0, 1) := by decide +kernel
theorem d49_1_6 : decode k49_1 6 = .ok (.invokespecial 7, 3) := by decide +kernel
theorem w132 {Z a0} (hw : Ht a0 Z) : (Cond.methodLink "java/util/ArrayList$Itr" (7 : Nat) ⟨"java/lang/Object", "<init>", "()V"⟩).before a0 Z = true := ht hw 132 rfl
theorem d49_1_9 : decode k49_1 9 = .ok (.aload_n 0, 1) := by decide +kernel
theorem d49_1_10 : decode k49_1 10 = .ok (.iconst (-1), 1) := by decide +kernel
theorem d49_1_11 : decode k49_1 11 = .ok (.putfield 13, 3) := by decide +kernel
theorem w133 {Z a0} (hw : Ht a0 Z) : (Cond.fieldLink "java/util/ArrayList$Itr" (13 : Nat) "java/util/ArrayList$Itr" "lastRet" "I").before a0 Z = true := ht hw 133 rfl
theorem w134 {Z a0} (hw : Ht a0 Z) : (Cond.lays "java/util/ArrayList$Itr" "java/util/ArrayList$Itr" "lastRet" "I").before a0 Z = true := ht hw 134 rfl
theorem d49_1_14 : decode k49_1 14 = .ok (.aload_n 0, 1) := by decide +kernel
theorem d49_1_15 : decode k49_1 15 = .ok (.aload_n 0, 1) := by decide +kernel
theorem d49_1_16 : decode k49_1 16 = .ok (.getfield 1, 3) := by decide +kernel
theorem d49_1_19 : decode k49_1 19 = .ok (.getfield 17, 3) := by decide +kernel
theorem w135 {Z a0} (hw : Ht a0 Z) : (Cond.fieldLink "java/util/ArrayList$Itr" (17 : Nat) "java/util/ArrayList" "modCount" "I").before a0 Z = true := ht hw 135 rfl
theorem d49_1_22 : decode k49_1 22 = .ok (.putfield 22, 3) := by decide +kernel
theorem w136 {Z a0} (hw : Ht a0 Z) : (Cond.fieldLink "java/util/ArrayList$Itr" (22 : Nat) "java/util/ArrayList$Itr" "expectedModCount" "I").before a0 Z = true := ht hw 136 rfl
theorem w137 {Z a0} (hw : Ht a0 Z) : (Cond.lays "java/util/ArrayList$Itr" "java/util/ArrayList$Itr" "expectedModCount" "I").before a0 Z = true := ht hw 137 rfl
theorem d49_1_25 : decode k49_1 25 = .ok (.return_, 1) := by decide +kernel
theorem w148 {Z a0} (hw : Ht a0 Z) : (Cond.lays "java/util/ArrayList$Itr" "java/util/ArrayList$Itr" "cursor" "I").before a0 Z = true := ht hw 148 rfl
theorem pn_3 : plainName "java/util/ArrayList$Itr" = true := by first | (simp [plainName, overriddenIn]; done) | decide +kernel
def Q_itInit (Z : State) (t : Addr) (a : Addr) (mc : Int32) (h0 : Heap) (n0 : Nat) (v : Option Value) (h : Heap) (L : List Loc) : Prop := v = none ∧ Fr n0 L ∧ Keep h0 h [t] ∧ Fld Z h t "java/util/ArrayList$Itr" "this$0" "Ljava/util/ArrayList;" (.ref a) ∧ Fld Z h t "java/util/ArrayList$Itr" "lastRet" "I" (.int (-1 : Int32)) ∧ Fld Z h t "java/util/ArrayList$Itr" "expectedModCount" "I" (.int mc) ∧ Fld Z h t "java/util/ArrayList$Itr" "cursor" "I" (.int (0 : Int32))
set_option maxRecDepth 65536 in
set_option maxHeartbeats 40000000 in
theorem itInit (l : Launch) (Z : State) (a0 : Array Value) (hw : Ht a0 Z) (t : Addr) (a : Addr) (mc : Int32) (h0 : Heap) (n0 : Nat) (Z0 : n0 ≤ h0.size) (P0 : Exa Z h0 t "java/util/ArrayList$Itr") (P1 : n0 ≤ t) (P2 : Fld Z h0 t "java/util/ArrayList$Itr" "this$0" "Ljava/util/ArrayList;" .null) (P3 : Fld Z h0 t "java/util/ArrayList$Itr" "lastRet" "I" (.int (0 : Int32))) (P4 : Fld Z h0 t "java/util/ArrayList$Itr" "expectedModCount" "I" (.int (0 : Int32))) (P5 : Fld Z h0 t "java/util/ArrayList$Itr" "cursor" "I" (.int (0 : Int32))) (P6 : Fld Z h0 a "java/util/AbstractList" "modCount" "I" (.int mc)) (P7 : Exa Z h0 a "java/util/ArrayList") :
    Con l Z (⟨"java/util/ArrayList$Itr", "<init>", "(Ljava/util/ArrayList;)V"⟩ : MethodName) jdk_49_method_1_code 2 none ({ frames := 1, cells := 0, slots := 0, locals := 12 } : Room) #[(.ref t), (.ref a)] h0 (Q_itInit Z t a mc h0 n0) := by
  refine OwnW.body (Ls := #[rS t, rS a]) (plainFor_of_name pn_3) (fun m => by first | (simp [entryFrame, mkF, argsToLocals, Value.category]; done) | rfl) ?_
  intro p e s m below meth c s₁ hx hy hml hown hnm hret hlk hZ X0 e0
  let QQ := Q_itInit Z t a mc h0 n0
  have N0 := Fr.nil n0
  show Go p e below (s₁.setTop (mkF m 0 #[rS t, rS a] [])) (EndQ s below ({ frames := 1, cells := 0, slots := 0, locals := 12 } : Room).cells ({ frames := 1, cells := 0, slots := 0, locals := 12 } : Room).slots QQ)
  refine gon s₁ (mkF m 2 #[rS t,rS a] [(.ref a), (.ref t)]) (fun _ k => XS.aloadN X0.here hx rfl (hb hy d49_1_0) rfl rfl (XS.aloadN X0.here hx rfl (hb hy d49_1_1) rfl rfl k)) ?_
  obtain ⟨T1, h1, X1, e1, W1, st1⟩ := putF X0 hx hZ hown (host := "") (Or.inl (w130 hw)) Via.refl e0 P2 P0 (Or.inr ⟨(w131 hw), rfl, hnm⟩) (w124 hw) (ty := (.object "java/util/ArrayList")) (by decide) rfl rfl (g := (mkF m 2 #[rS t,rS a] [(.ref a), (.ref t)])) rfl rfl (hb hy d49_1_2)
  have Fw1 : Fld Z h1 t "java/util/ArrayList$Itr" "this$0" "Ljava/util/ArrayList;" (.ref a) := Fld.same W1 P2
  have N1 := Fr.snoc X1 N0 P1
  refine gon T1 (mkF m 5 #[rS t,rS a] []) (st1) ?_
  refine gon T1 (mkF m 6 #[rS t,rS a] [(.ref t)]) (fun _ k => XS.aloadN X1.here hx rfl (hb hy d49_1_5) rfl rfl k) ?_
  obtain ⟨T2, X2, e2, st2⟩ := initO X1 hx hZ hown (w132 hw) (w19 hw) (w20 hw) e1 (g := (mkF m 6 #[rS t,rS a] [(.ref t)])) rfl (by rw [hml]; rfl) rfl (hb hy d49_1_6) (by decide) (W := 0) (by show 2 * 0 + _ ≤ _; exact Nat.le_of_eq rfl) (by decide)
  refine gon T2 (mkF m 9 #[rS t,rS a] []) (st2) ?_
  refine gon T2 (mkF m 11 #[rS t,rS a] [(.int (-1)), (.ref t)]) (fun _ k => XS.aloadN X2.here hx rfl (hb hy d49_1_9) rfl rfl (XS.iconst X2.here hx rfl (hb hy d49_1_10) k)) ?_
  have c_4 := Exa.wr W1 P0
  have c_5 := Fld.other W1 P3 (Or.inr (slot_ne (C := "java/util/ArrayList$Itr") (Or.inl (w134 hw)) (Or.inr (w131 hw)) (by decide) (t := .int) (t' := (.object "java/util/ArrayList")) (by decide) (by decide)))
  obtain ⟨T3, h3, X3, e3, W3, st3⟩ := putF X2 hx hZ hown (host := "") (Or.inl (w133 hw)) Via.refl e2 c_5 c_4 (Or.inl (w134 hw)) (w124 hw) (ty := .int) (by decide) rfl rfl (g := (mkF m 11 #[rS t,rS a] [(.int (-1)), (.ref t)])) rfl rfl (hb hy d49_1_11)
  have Fw3 : Fld Z h3 t "java/util/ArrayList$Itr" "lastRet" "I" (.int (-1 : Int32)) := Fld.same W3 c_5
  have N3 := Fr.snoc X3 N1 P1
  refine gon T3 (mkF m 14 #[rS t,rS a] []) (st3) ?_
  refine gon T3 (mkF m 16 #[rS t,rS a] [(.ref t), (.ref t)]) (fun _ k => XS.aloadN X3.here hx rfl (hb hy d49_1_14) rfl rfl (XS.aloadN X3.here hx rfl (hb hy d49_1_15) rfl rfl k)) ?_
  have c_7 := Fld.other W3 Fw1 (Or.inr (slot_ne (C := "java/util/ArrayList$Itr") (Or.inr (w131 hw)) (Or.inl (w134 hw)) (by decide) (t := (.object "java/util/ArrayList")) (t' := .int) (by decide) (by decide)))
  obtain ⟨T6, X6, e6, st6⟩ := getF X3 hx hZ hown (host := "") (Or.inl (w130 hw)) Via.refl e3 c_7 (g := (mkF m 16 #[rS t,rS a] [(.ref t), (.ref t)])) rfl rfl (hb hy d49_1_16)
  refine gon T6 (mkF m 19 #[rS t,rS a] [(.ref a), (.ref t)]) (st6) ?_
  have c_9 := Exa.wr W3 (Exa.wr W1 P7)
  have c_10 := Exa.wr W3 c_4
  have ne_11 : a ≠ t := ne_exa c_9 c_10 (by decide)
  have c_12 := Fld.other W3 (Fld.other W1 P6 (Or.inl ne_11)) (Or.inl ne_11)
  obtain ⟨T8, X8, e8, st8⟩ := getF X6 hx hZ hown (host := "") (Or.inl (w135 hw)) (Via.of (w80 hw)) e6 c_12 (g := (mkF m 19 #[rS t,rS a] [(.ref a), (.ref t)])) rfl rfl (hb hy d49_1_19)
  refine gon T8 (mkF m 22 #[rS t,rS a] [(.int mc), (.ref t)]) (st8) ?_
  have c_14 := Fld.other W3 (Fld.other W1 P4 (Or.inr (slot_ne (C := "java/util/ArrayList$Itr") (Or.inl (w137 hw)) (Or.inr (w131 hw)) (by decide) (t := .int) (t' := (.object "java/util/ArrayList")) (by decide) (by decide)))) (Or.inr (slot_ne (C := "java/util/ArrayList$Itr") (Or.inl (w137 hw)) (Or.inl (w134 hw)) (by decide) (t := .int) (t' := .int) (by decide) (by decide)))
  obtain ⟨T13, h13, X13, e13, W13, st13⟩ := putF X8 hx hZ hown (host := "") (Or.inl (w136 hw)) Via.refl e8 c_14 c_10 (Or.inl (w137 hw)) (w124 hw) (ty := .int) (by decide) rfl rfl (g := (mkF m 22 #[rS t,rS a] [(.int mc), (.ref t)])) rfl rfl (hb hy d49_1_22)
  have Fw13 : Fld Z h13 t "java/util/ArrayList$Itr" "expectedModCount" "I" (.int mc) := Fld.same W13 c_14
  have N13 := Fr.snoc X13 N3 P1
  refine gon T13 (mkF m 25 #[rS t,rS a] []) (st13) ?_
  have K_15 : Keep h0 h1 [t] := (Keep.refl h0 [t]).wr W1 (Or.inl (List.mem_of_getElem? (i := 0) rfl))
  have K_16 : Keep h0 h3 [t] := K_15.wr W3 (Or.inl (List.mem_of_getElem? (i := 0) rfl))
  have K_17 : Keep h0 h13 [t] := K_16.wr W13 (Or.inl (List.mem_of_getElem? (i := 0) rfl))
  have c_18 := Fld.other W13 c_7 (Or.inr (slot_ne (C := "java/util/ArrayList$Itr") (Or.inr (w131 hw)) (Or.inl (w137 hw)) (by decide) (t := (.object "java/util/ArrayList")) (t' := .int) (by decide) (by decide)))
  have c_19 := Fld.other W13 Fw3 (Or.inr (slot_ne (C := "java/util/ArrayList$Itr") (Or.inl (w134 hw)) (Or.inl (w137 hw)) (by decide) (t := .int) (t' := .int) (by decide) (by decide)))
  have c_20 := Fld.other W13 (Fld.other W3 (Fld.other W1 P5 (Or.inr (slot_ne (C := "java/util/ArrayList$Itr") (Or.inl (w148 hw)) (Or.inr (w131 hw)) (by decide) (t := .int) (t' := (.object "java/util/ArrayList")) (by decide) (by decide)))) (Or.inr (slot_ne (C := "java/util/ArrayList$Itr") (Or.inl (w148 hw)) (Or.inl (w134 hw)) (by decide) (t := .int) (t' := .int) (by decide) (by decide)))) (Or.inr (slot_ne (C := "java/util/ArrayList$Itr") (Or.inl (w148 hw)) (Or.inl (w137 hw)) (by decide) (t := .int) (t' := .int) (by decide) (by decide)))
  exact OwnW.retV X13 hx hlk hret (hb hy d49_1_25) (by decide) (by decide) (show QQ _ T13.heap _ from (by rw [e13]; exact ⟨rfl, N13, K_17, c_18, c_19, Fw13, c_20⟩))
abbrev k38_55 := jdk_38_method_55_code
theorem d38_55_0 : decode k38_55 0 = .ok (.new 267, 3) := by decide +kernel
theorem w123 {Z a0} (hw : Ht a0 Z) : (Cond.classLink "java/util/ArrayList" (267 : Nat) "java/util/ArrayList$Itr").before a0 Z = true := ht hw 123 rfl
theorem w125 {Z a0} (hw : Ht a0 Z) : (Cond.initialized "java/util/ArrayList$Itr").before a0 Z = true := ht hw 125 rfl
theorem d38_55_3 : decode k38_55 3 = .ok (.dup, 1) := by decide +kernel
theorem d38_55_4 : decode k38_55 4 = .ok (.aload_n 0, 1) := by decide +kernel
theorem d38_55_5 : decode k38_55 5 = .ok (.invokespecial 269, 3) := by decide +kernel
theorem w129 {Z a0} (hw : Ht a0 Z) : (Cond.code ⟨"java/util/ArrayList$Itr", "<init>", "(Ljava/util/ArrayList;)V"⟩ jdk_49_method_1_code (2 : Nat) (Option.none : Option Jvm.ClassFile.FieldType)).before a0 Z = true := ht hw 129 rfl
theorem w126 {Z a0} (hw : Ht a0 Z) : (Cond.methodLink "java/util/ArrayList" (269 : Nat) ⟨"java/util/ArrayList$Itr", "<init>", "(Ljava/util/ArrayList;)V"⟩).before a0 Z = true := ht hw 126 rfl
theorem w127 {Z a0} (hw : Ht a0 Z) : (Cond.instanceMethod ⟨"java/util/ArrayList$Itr", "<init>", "(Ljava/util/ArrayList;)V"⟩).before a0 Z = true := ht hw 127 rfl
theorem pd_5 : parseMethodDescriptor "(Ljava/util/ArrayList;)V" = some ⟨[(.object "java/util/ArrayList")], none⟩ := by decide +kernel
theorem d38_55_8 : decode k38_55 8 = .ok (.areturn, 1) := by decide +kernel
def Q_alIter (Z : State) (a : Addr) (mc : Int32) (h0 : Heap) (n0 : Nat) (v : Option Value) (h : Heap) (L : List Loc) : Prop := ∃ t : Addr, v = some (.ref t) ∧ Fr n0 L ∧ Keep h0 h [] ∧ h0.size ≤ t ∧ Exa Z h t "java/util/ArrayList$Itr" ∧ Fld Z h t "java/util/ArrayList$Itr" "this$0" "Ljava/util/ArrayList;" (.ref a) ∧ Fld Z h t "java/util/ArrayList$Itr" "lastRet" "I" (.int (-1 : Int32)) ∧ Fld Z h t "java/util/ArrayList$Itr" "expectedModCount" "I" (.int mc) ∧ Fld Z h t "java/util/ArrayList$Itr" "cursor" "I" (.int (0 : Int32))
set_option maxRecDepth 65536 in
set_option maxHeartbeats 40000000 in
theorem alIter (l : Launch) (Z : State) (a0 : Array Value) (hw : Ht a0 Z) (a : Addr) (mc : Int32) (h0 : Heap) (n0 : Nat) (Z0 : n0 ≤ h0.size) (P0 : Fld Z h0 a "java/util/AbstractList" "modCount" "I" (.int mc)) (P1 : Exa Z h0 a "java/util/ArrayList") :
    Con l Z (⟨"java/util/ArrayList", "iterator", "()Ljava/util/Iterator;"⟩ : MethodName) jdk_38_method_55_code 1 (some (.object "java/util/Iterator")) ({ frames := 2, cells := 1, slots := 4, locals := 26 } : Room) #[(.ref a)] h0 (Q_alIter Z a mc h0 n0) := by
  refine OwnW.body (Ls := #[rS a]) (plainFor_of_name pn_2) (fun m => by first | (simp [entryFrame, mkF, argsToLocals, Value.category]; done) | rfl) ?_
  intro p e s m below meth c s₁ hx hy hml hown hnm hret hlk hZ X0 e0
  let QQ := Q_alIter Z a mc h0 n0
  have N0 := Fr.nil n0
  show Go p e below (s₁.setTop (mkF m 0 #[rS a] [])) (EndQ s below ({ frames := 2, cells := 1, slots := 4, locals := 26 } : Room).cells ({ frames := 2, cells := 1, slots := 4, locals := 26 } : Room).slots QQ)
  obtain ⟨T1, h1, b1, X1, e1, E1, s1, A1, D1, st1⟩ := OwnW.newO X0 hx hZ hown (w123 hw) (w124 hw) (w125 hw) e0 (Ls := #[rS a]) (st := []) (hb hy d38_55_0) (by decide) (by decide)
  have F1_this_0 : Fld Z h1 b1 "java/util/ArrayList$Itr" "this$0" "Ljava/util/ArrayList;" .null := D1 (Or.inr (w131 hw)) (ty := (.object "java/util/ArrayList")) (by decide)
  have F1_lastRet : Fld Z h1 b1 "java/util/ArrayList$Itr" "lastRet" "I" (.int (0 : Int32)) := D1 (Or.inl (w134 hw)) (ty := .int) (by decide)
  have F1_expectedModCount : Fld Z h1 b1 "java/util/ArrayList$Itr" "expectedModCount" "I" (.int (0 : Int32)) := D1 (Or.inl (w137 hw)) (ty := .int) (by decide)
  have F1_cursor : Fld Z h1 b1 "java/util/ArrayList$Itr" "cursor" "I" (.int (0 : Int32)) := D1 (Or.inl (w148 hw)) (ty := .int) (by decide)
  refine gon T1 (mkF m 3 #[rS a] [(.ref b1)]) (st1) ?_
  refine gon T1 (mkF m 5 #[rS a] [(.ref a), (.ref b1), (.ref b1)]) (fun _ k => XS.dup X1.here hx rfl (hb hy d38_55_3) rfl rfl (XS.aloadN X1.here hx rfl (hb hy d38_55_4) rfl rfl k)) ?_
  have g_3 : n0 ≤ b1 := Nat.le_trans Z0 s1
  have c_4 := Fld.ext E1 P0
  have c_5 := Exa.ext E1 P1
  have Z_6 : n0 ≤ h1.size := Nat.le_trans Z0 E1.1
  obtain ⟨v2, T2, L2, X2, hQ2, st2⟩ := OwnW.callC (y := (⟨"java/util/ArrayList$Itr", "<init>", "(Ljava/util/ArrayList;)V"⟩ : MethodName)) X1 hx hZ hown rfl (w126 hw) (w127 hw) (w125 hw) (w129 hw) (by decide) (b := b1) (itInit l Z a0 hw b1 a mc h1 n0 Z_6 A1 g_3 F1_this_0 F1_lastRet F1_expectedModCount F1_cursor c_4 c_5) e1 (Ls := #[rS a]) (by rw [hml]; rfl) pd_5 (argsL := [(.ref a)]) rfl (rest := [(.ref b1)]) rfl (W := 1) rfl (hb hy d38_55_5) (by decide) (by decide) (by decide) (by decide)
  obtain ⟨rfl, Nq2, Kq2, q2_0, q2_1, q2_2, q2_3⟩ := hQ2
  have N2 := Fr.app N0 Nq2
  refine gon T2 (mkF m 8 #[rS a] [(.ref b1)]) (st2) ?_
  have K_7 : Keep h0 h1 [] := (Keep.refl h0 []).ext E1
  have K_8 : Keep h0 T2.heap [] := K_7.trans Kq2 (allS (Or.inr (Nat.le_trans (Nat.le_refl _) s1)) all0)
  have c_9 := Exa.keep A1 Kq2
  exact OwnW.retA X2 hx hlk hret rfl rfl (hb hy d38_55_8) (by decide) (by decide) (show QQ _ T2.heap _ from ⟨b1, rfl, N2, K_8, (Nat.le_trans (Nat.le_refl _) s1), c_9, q2_0, q2_1, q2_2, q2_3⟩)
abbrev k49_2 := jdk_49_method_2_code
theorem d49_2_0 : decode k49_2 0 = .ok (.aload_n 0, 1) := by decide +kernel
theorem d49_2_1 : decode k49_2 1 = .ok (.getfield 25, 3) := by decide +kernel
theorem w147 {Z a0} (hw : Ht a0 Z) : (Cond.fieldLink "java/util/ArrayList$Itr" (25 : Nat) "java/util/ArrayList$Itr" "cursor" "I").before a0 Z = true := ht hw 147 rfl
theorem d49_2_4 : decode k49_2 4 = .ok (.aload_n 0, 1) := by decide +kernel
theorem d49_2_5 : decode k49_2 5 = .ok (.getfield 1, 3) := by decide +kernel
theorem d49_2_8 : decode k49_2 8 = .ok (.getfield 28, 3) := by decide +kernel
theorem w149 {Z a0} (hw : Ht a0 Z) : (Cond.fieldLinkNest "java/util/ArrayList$Itr" (28 : Nat) "java/util/ArrayList" "size" "I" "java/util/ArrayList").before a0 Z = true := ht hw 149 rfl
theorem d49_2_11 : decode k49_2 11 = .ok (.if_icmp .eq 7, 3) := by decide +kernel
theorem d49_2_18 : decode k49_2 18 = .ok (.iconst 0, 1) := by decide +kernel
theorem d49_2_19 : decode k49_2 19 = .ok (.ireturn, 1) := by decide +kernel
def Q_hasNextF (Z : State) (t : Addr) (a : Addr) (n : Int32) (h0 : Heap) (n0 : Nat) (v : Option Value) (h : Heap) (L : List Loc) : Prop := v = some (.int (0 : Int32)) ∧ Fr n0 L ∧ h = h0
set_option maxRecDepth 65536 in
set_option maxHeartbeats 40000000 in
theorem hasNextF (l : Launch) (Z : State) (a0 : Array Value) (hw : Ht a0 Z) (t : Addr) (a : Addr) (n : Int32) (h0 : Heap) (n0 : Nat) (Z0 : n0 ≤ h0.size) (P0 : Fld Z h0 t "java/util/ArrayList$Itr" "this$0" "Ljava/util/ArrayList;" (.ref a)) (P1 : Fld Z h0 t "java/util/ArrayList$Itr" "cursor" "I" (.int n)) (P2 : Fld Z h0 a "java/util/ArrayList" "size" "I" (.int n)) :
    Con l Z (⟨"java/util/ArrayList$Itr", "hasNext", "()Z"⟩ : MethodName) jdk_49_method_2_code 1 (some .boolean) ({ frames := 0, cells := 0, slots := 0, locals := 0 } : Room) #[(.ref t)] h0 (Q_hasNextF Z t a n h0 n0) := by
  refine OwnW.body (Ls := #[rS t]) (plainFor_of_name pn_3) (fun m => by first | (simp [entryFrame, mkF, argsToLocals, Value.category]; done) | rfl) ?_
  intro p e s m below meth c s₁ hx hy hml hown hnm hret hlk hZ X0 e0
  let QQ := Q_hasNextF Z t a n h0 n0
  have N0 := Fr.nil n0
  show Go p e below (s₁.setTop (mkF m 0 #[rS t] [])) (EndQ s below ({ frames := 0, cells := 0, slots := 0, locals := 0 } : Room).cells ({ frames := 0, cells := 0, slots := 0, locals := 0 } : Room).slots QQ)
  refine gon s₁ (mkF m 1 #[rS t] [(.ref t)]) (fun _ k => XS.aloadN X0.here hx rfl (hb hy d49_2_0) rfl rfl k) ?_
  obtain ⟨T1, X1, e1, st1⟩ := getF X0 hx hZ hown (host := "") (Or.inl (w147 hw)) Via.refl e0 P1 (g := (mkF m 1 #[rS t] [(.ref t)])) rfl rfl (hb hy d49_2_1)
  refine gon T1 (mkF m 4 #[rS t] [(.int n)]) (st1) ?_
  refine gon T1 (mkF m 5 #[rS t] [(.ref t), (.int n)]) (fun _ k => XS.aloadN X1.here hx rfl (hb hy d49_2_4) rfl rfl k) ?_
  obtain ⟨T2, X2, e2, st2⟩ := getF X1 hx hZ hown (host := "") (Or.inl (w130 hw)) Via.refl e1 P0 (g := (mkF m 5 #[rS t] [(.ref t), (.int n)])) rfl rfl (hb hy d49_2_5)
  refine gon T2 (mkF m 8 #[rS t] [(.ref a), (.int n)]) (st2) ?_
  obtain ⟨T3, X3, e3, st3⟩ := getF X2 hx hZ hown (Or.inr (w149 hw)) Via.refl e2 P2 (g := (mkF m 8 #[rS t] [(.ref a), (.int n)])) rfl rfl (hb hy d49_2_8)
  refine gon T3 (mkF m 11 #[rS t] [(.int n), (.int n)]) (st3) ?_
  refine gon T3 (mkF m 19 #[rS t] [(.int 0)]) (fun _ k => XS.icmpYes X3.here hx rfl (pc0 := 11) (pc' := 18) rfl (hb hy d49_2_11) rfl (teq (rfl : n = n)).1 (by decide) (by decide) (XS.iconst X3.here hx rfl (hb hy d49_2_18) k)) ?_
  exact OwnW.retN X3 hx hlk hret (t := .boolean) (by simp) (z' := (0 : Int32)) (hb hy d49_2_19) (by decide) (by decide) rfl (show QQ _ T3.heap _ from ⟨rfl, N0, e3⟩)
theorem d49_2_14 : decode k49_2 14 = .ok (.iconst 1, 1) := by decide +kernel
theorem d49_2_15 : decode k49_2 15 = .ok (.goto 4, 3) := by decide +kernel
def Q_hasNextT (Z : State) (t : Addr) (a : Addr) (kc : Int32) (n : Int32) (h0 : Heap) (n0 : Nat) (v : Option Value) (h : Heap) (L : List Loc) : Prop := v = some (.int (1 : Int32)) ∧ Fr n0 L ∧ h = h0
set_option maxRecDepth 65536 in
set_option maxHeartbeats 40000000 in
theorem hasNextT (l : Launch) (Z : State) (a0 : Array Value) (hw : Ht a0 Z) (t : Addr) (a : Addr) (kc : Int32) (n : Int32) (h0 : Heap) (n0 : Nat) (Z0 : n0 ≤ h0.size) (P0 : Fld Z h0 t "java/util/ArrayList$Itr" "this$0" "Ljava/util/ArrayList;" (.ref a)) (P1 : Fld Z h0 t "java/util/ArrayList$Itr" "cursor" "I" (.int kc)) (P2 : Fld Z h0 a "java/util/ArrayList" "size" "I" (.int n)) (P3 : ¬ (kc = n)) :
    Con l Z (⟨"java/util/ArrayList$Itr", "hasNext", "()Z"⟩ : MethodName) jdk_49_method_2_code 1 (some .boolean) ({ frames := 0, cells := 0, slots := 0, locals := 0 } : Room) #[(.ref t)] h0 (Q_hasNextT Z t a kc n h0 n0) := by
  refine OwnW.body (Ls := #[rS t]) (plainFor_of_name pn_3) (fun m => by first | (simp [entryFrame, mkF, argsToLocals, Value.category]; done) | rfl) ?_
  intro p e s m below meth c s₁ hx hy hml hown hnm hret hlk hZ X0 e0
  let QQ := Q_hasNextT Z t a kc n h0 n0
  have N0 := Fr.nil n0
  show Go p e below (s₁.setTop (mkF m 0 #[rS t] [])) (EndQ s below ({ frames := 0, cells := 0, slots := 0, locals := 0 } : Room).cells ({ frames := 0, cells := 0, slots := 0, locals := 0 } : Room).slots QQ)
  refine gon s₁ (mkF m 1 #[rS t] [(.ref t)]) (fun _ k => XS.aloadN X0.here hx rfl (hb hy d49_2_0) rfl rfl k) ?_
  obtain ⟨T1, X1, e1, st1⟩ := getF X0 hx hZ hown (host := "") (Or.inl (w147 hw)) Via.refl e0 P1 (g := (mkF m 1 #[rS t] [(.ref t)])) rfl rfl (hb hy d49_2_1)
  refine gon T1 (mkF m 4 #[rS t] [(.int kc)]) (st1) ?_
  refine gon T1 (mkF m 5 #[rS t] [(.ref t), (.int kc)]) (fun _ k => XS.aloadN X1.here hx rfl (hb hy d49_2_4) rfl rfl k) ?_
  obtain ⟨T2, X2, e2, st2⟩ := getF X1 hx hZ hown (host := "") (Or.inl (w130 hw)) Via.refl e1 P0 (g := (mkF m 5 #[rS t] [(.ref t), (.int kc)])) rfl rfl (hb hy d49_2_5)
  refine gon T2 (mkF m 8 #[rS t] [(.ref a), (.int kc)]) (st2) ?_
  obtain ⟨T3, X3, e3, st3⟩ := getF X2 hx hZ hown (Or.inr (w149 hw)) Via.refl e2 P2 (g := (mkF m 8 #[rS t] [(.ref a), (.int kc)])) rfl rfl (hb hy d49_2_8)
  refine gon T3 (mkF m 11 #[rS t] [(.int n), (.int kc)]) (st3) ?_
  refine gon T3 (mkF m 19 #[rS t] [(.int 1)]) (fun _ k => XS.icmpNo X3.here hx rfl (hb hy d49_2_11) rfl (feq (P3 : ¬ (kc = n))).1 (XS.iconst X3.here hx rfl (hb hy d49_2_14) (XS.goto X3.here hx rfl (pc0 := 15) (pc' := 19) rfl (hb hy d49_2_15) (by decide) (by decide) k))) ?_
  exact OwnW.retN X3 hx hlk hret (t := .boolean) (by simp) (z' := (1 : Int32)) (hb hy d49_2_19) (by decide) (by decide) rfl (show QQ _ T3.heap _ from ⟨rfl, N0, e3⟩)
abbrev k49_6 := jdk_49_method_6_code
theorem d49_6_0 : decode k49_6 0 = .ok (.aload_n 0, 1) := by decide +kernel
theorem d49_6_1 : decode k49_6 1 = .ok (.getfield 1, 3) := by decide +kernel
theorem d49_6_4 : decode k49_6 4 = .ok (.getfield 17, 3) := by decide +kernel
theorem d49_6_7 : decode k49_6 7 = .ok (.aload_n 0, 1) := by decide +kernel
theorem d49_6_8 : decode k49_6 8 = .ok (.getfield 22, 3) := by decide +kernel
theorem d49_6_11 : decode k49_6 11 = .ok (.if_icmp .eq 11, 3) := by decide +kernel
theorem d49_6_22 : decode k49_6 22 = .ok (.return_, 1) := by decide +kernel
def Q_checkMod (Z : State) (t : Addr) (a : Addr) (mc : Int32) (h0 : Heap) (n0 : Nat) (v : Option Value) (h : Heap) (L : List Loc) : Prop := v = none ∧ Fr n0 L ∧ h = h0
set_option maxRecDepth 65536 in
set_option maxHeartbeats 40000000 in
theorem checkMod (l : Launch) (Z : State) (a0 : Array Value) (hw : Ht a0 Z) (t : Addr) (a : Addr) (mc : Int32) (h0 : Heap) (n0 : Nat) (Z0 : n0 ≤ h0.size) (P0 : Fld Z h0 t "java/util/ArrayList$Itr" "this$0" "Ljava/util/ArrayList;" (.ref a)) (P1 : Fld Z h0 t "java/util/ArrayList$Itr" "expectedModCount" "I" (.int mc)) (P2 : Fld Z h0 a "java/util/AbstractList" "modCount" "I" (.int mc)) :
    Con l Z (⟨"java/util/ArrayList$Itr", "checkForComodification", "()V"⟩ : MethodName) jdk_49_method_6_code 1 none ({ frames := 0, cells := 0, slots := 0, locals := 0 } : Room) #[(.ref t)] h0 (Q_checkMod Z t a mc h0 n0) := by
  refine OwnW.body (Ls := #[rS t]) (plainFor_of_name pn_3) (fun m => by first | (simp [entryFrame, mkF, argsToLocals, Value.category]; done) | rfl) ?_
  intro p e s m below meth c s₁ hx hy hml hown hnm hret hlk hZ X0 e0
  let QQ := Q_checkMod Z t a mc h0 n0
  have N0 := Fr.nil n0
  show Go p e below (s₁.setTop (mkF m 0 #[rS t] [])) (EndQ s below ({ frames := 0, cells := 0, slots := 0, locals := 0 } : Room).cells ({ frames := 0, cells := 0, slots := 0, locals := 0 } : Room).slots QQ)
  refine gon s₁ (mkF m 1 #[rS t] [(.ref t)]) (fun _ k => XS.aloadN X0.here hx rfl (hb hy d49_6_0) rfl rfl k) ?_
  obtain ⟨T1, X1, e1, st1⟩ := getF X0 hx hZ hown (host := "") (Or.inl (w130 hw)) Via.refl e0 P0 (g := (mkF m 1 #[rS t] [(.ref t)])) rfl rfl (hb hy d49_6_1)
  refine gon T1 (mkF m 4 #[rS t] [(.ref a)]) (st1) ?_
  obtain ⟨T2, X2, e2, st2⟩ := getF X1 hx hZ hown (host := "") (Or.inl (w135 hw)) (Via.of (w80 hw)) e1 P2 (g := (mkF m 4 #[rS t] [(.ref a)])) rfl rfl (hb hy d49_6_4)
  refine gon T2 (mkF m 7 #[rS t] [(.int mc)]) (st2) ?_
  refine gon T2 (mkF m 8 #[rS t] [(.ref t), (.int mc)]) (fun _ k => XS.aloadN X2.here hx rfl (hb hy d49_6_7) rfl rfl k) ?_
  obtain ⟨T3, X3, e3, st3⟩ := getF X2 hx hZ hown (host := "") (Or.inl (w136 hw)) Via.refl e2 P1 (g := (mkF m 8 #[rS t] [(.ref t), (.int mc)])) rfl rfl (hb hy d49_6_8)
  refine gon T3 (mkF m 11 #[rS t] [(.int mc), (.int mc)]) (st3) ?_
  refine gon T3 (mkF m 22 #[rS t] []) (fun _ k => XS.icmpYes X3.here hx rfl (pc0 := 11) (pc' := 22) rfl (hb hy d49_6_11) rfl (teq (rfl : mc = mc)).1 (by decide) (by decide) k) ?_
  exact OwnW.retV X3 hx hlk hret (hb hy d49_6_22) (by decide) (by decide) (show QQ _ T3.heap _ from ⟨rfl, N0, e3⟩)
abbrev k49_3 := jdk_49_method_3_code
theorem d49_3_0 : decode k49_3 0 = .ok (.aload_n 0, 1) := by decide +kernel
theorem d49_3_1 : decode k49_3 1 = .ok (.invokevirtual 31, 3) := by decide +kernel
theorem w161 {Z a0} (hw : Ht a0 Z) : (Cond.selects "java/util/ArrayList$Itr" ⟨"java/util/ArrayList$Itr", "checkForComodification", "()V"⟩ ⟨"java/util/ArrayList$Itr", "checkForComodification", "()V"⟩).before a0 Z = true := ht hw 161 rfl
theorem w162 {Z a0} (hw : Ht a0 Z) : (Cond.code ⟨"java/util/ArrayList$Itr", "checkForComodification", "()V"⟩ jdk_49_method_6_code (1 : Nat) (Option.none : Option Jvm.ClassFile.FieldType)).before a0 Z = true := ht hw 162 rfl
theorem w158 {Z a0} (hw : Ht a0 Z) : (Cond.methodLink "java/util/ArrayList$Itr" (31 : Nat) ⟨"java/util/ArrayList$Itr", "checkForComodification", "()V"⟩).before a0 Z = true := ht hw 158 rfl
theorem w159 {Z a0} (hw : Ht a0 Z) : (Cond.declares ⟨"java/util/ArrayList$Itr", "checkForComodification", "()V"⟩).before a0 Z = true := ht hw 159 rfl
theorem w160 {Z a0} (hw : Ht a0 Z) : (Cond.instanceMethod ⟨"java/util/ArrayList$Itr", "checkForComodification", "()V"⟩).before a0 Z = true := ht hw 160 rfl
theorem d49_3_4 : decode k49_3 4 = .ok (.aload_n 0, 1) := by decide +kernel
theorem d49_3_5 : decode k49_3 5 = .ok (.getfield 25, 3) := by decide +kernel
theorem d49_3_8 : decode k49_3 8 = .ok (.istore_n 1, 1) := by decide +kernel
theorem d49_3_9 : decode k49_3 9 = .ok (.iload_n 1, 1) := by decide +kernel
theorem d49_3_10 : decode k49_3 10 = .ok (.aload_n 0, 1) := by decide +kernel
theorem d49_3_11 : decode k49_3 11 = .ok (.getfield 1, 3) := by decide +kernel
theorem d49_3_14 : decode k49_3 14 = .ok (.getfield 28, 3) := by decide +kernel
theorem d49_3_17 : decode k49_3 17 = .ok (.if_icmp .lt 11, 3) := by decide +kernel
theorem d49_3_28 : decode k49_3 28 = .ok (.aload_n 0, 1) := by decide +kernel
theorem d49_3_29 : decode k49_3 29 = .ok (.getfield 1, 3) := by decide +kernel
theorem d49_3_32 : decode k49_3 32 = .ok (.getfield 37, 3) := by decide +kernel
theorem w163 {Z a0} (hw : Ht a0 Z) : (Cond.fieldLink "java/util/ArrayList$Itr" (37 : Nat) "java/util/ArrayList" "elementData" "[Ljava/lang/Object;").before a0 Z = true := ht hw 163 rfl
theorem d49_3_35 : decode k49_3 35 = .ok (.astore_n 2, 1) := by decide +kernel
theorem d49_3_36 : decode k49_3 36 = .ok (.iload_n 1, 1) := by decide +kernel
theorem d49_3_37 : decode k49_3 37 = .ok (.aload_n 2, 1) := by decide +kernel
theorem d49_3_38 : decode k49_3 38 = .ok (.arraylength, 1) := by decide +kernel
theorem d49_3_39 : decode k49_3 39 = .ok (.if_icmp .lt 11, 3) := by decide +kernel
theorem d49_3_50 : decode k49_3 50 = .ok (.aload_n 0, 1) := by decide +kernel
theorem d49_3_51 : decode k49_3 51 = .ok (.iload_n 1, 1) := by decide +kernel
theorem d49_3_52 : decode k49_3 52 = .ok (.iconst 1, 1) := by decide +kernel
theorem d49_3_53 : decode k49_3 53 = .ok (.iadd, 1) := by decide +kernel
theorem d49_3_54 : decode k49_3 54 = .ok (.putfield 25, 3) := by decide +kernel
theorem d49_3_57 : decode k49_3 57 = .ok (.aload_n 2, 1) := by decide +kernel
theorem d49_3_58 : decode k49_3 58 = .ok (.aload_n 0, 1) := by decide +kernel
theorem d49_3_59 : decode k49_3 59 = .ok (.iload_n 1, 1) := by decide +kernel
theorem d49_3_60 : decode k49_3 60 = .ok (.dup_x1, 1) := by decide +kernel
theorem d49_3_61 : decode k49_3 61 = .ok (.putfield 13, 3) := by decide +kernel
theorem d49_3_64 : decode k49_3 64 = .ok (.aaload, 1) := by decide +kernel
theorem d49_3_65 : decode k49_3 65 = .ok (.areturn, 1) := by decide +kernel
def Q_next0 (Z : State) (t : Addr) (a : Addr) (mc : Int32) (n : Int32) (lr : Int32) (el : Addr) (kel : ClassId) (vs : List Value) (ob : Addr) (h0 : Heap) (n0 : Nat) (v : Option Value) (h : Heap) (L : List Loc) : Prop := v = some (.ref ob) ∧ Fr n0 L ∧ Keep h0 h [t] ∧ Fld Z h t "java/util/ArrayList$Itr" "this$0" "Ljava/util/ArrayList;" (.ref a) ∧ Fld Z h t "java/util/ArrayList$Itr" "cursor" "I" (.int (1 : Int32)) ∧ Fld Z h t "java/util/ArrayList$Itr" "lastRet" "I" (.int (0 : Int32)) ∧ Fld Z h t "java/util/ArrayList$Itr" "expectedModCount" "I" (.int mc)
set_option maxRecDepth 65536 in
set_option maxHeartbeats 40000000 in
theorem next0 (l : Launch) (Z : State) (a0 : Array Value) (hw : Ht a0 Z) (t : Addr) (a : Addr) (mc : Int32) (n : Int32) (lr : Int32) (el : Addr) (kel : ClassId) (vs : List Value) (ob : Addr) (h0 : Heap) (n0 : Nat) (Z0 : n0 ≤ h0.size) (P0 : Exa Z h0 t "java/util/ArrayList$Itr") (P1 : n0 ≤ t) (P2 : Exa Z h0 a "java/util/ArrayList") (P3 : Fld Z h0 t "java/util/ArrayList$Itr" "this$0" "Ljava/util/ArrayList;" (.ref a)) (P4 : Fld Z h0 t "java/util/ArrayList$Itr" "cursor" "I" (.int (0 : Int32))) (P5 : Fld Z h0 t "java/util/ArrayList$Itr" "lastRet" "I" (.int lr)) (P6 : Fld Z h0 t "java/util/ArrayList$Itr" "expectedModCount" "I" (.int mc)) (P7 : Fld Z h0 a "java/util/AbstractList" "modCount" "I" (.int mc)) (P8 : Fld Z h0 a "java/util/ArrayList" "size" "I" (.int n)) (P9 : Fld Z h0 a "java/util/ArrayList" "elementData" "[Ljava/lang/Object;" (.ref el)) (P10 : Exa Z h0 el "[Ljava/lang/Object;") (P11 : Arv Z h0 el kel (.object "java/lang/Object") (10 : Int32) vs .null) (P12 : (0 : Int32) < n) (P13 : List.getD (α := Value) vs 0 Value.null = Value.ref ob) :
    Con l Z (⟨"java/util/ArrayList$Itr", "next", "()Ljava/lang/Object;"⟩ : MethodName) jdk_49_method_3_code 3 (some (.object "java/lang/Object")) ({ frames := 1, cells := 0, slots := 0, locals := 12 } : Room) #[(.ref t)] h0 (Q_next0 Z t a mc n lr el kel vs ob h0 n0) := by
  refine OwnW.body (Ls := #[rS t, uS, uS]) (plainFor_of_name pn_3) (fun m => by first | (simp [entryFrame, mkF, argsToLocals, Value.category]; done) | rfl) ?_
  intro p e s m below meth c s₁ hx hy hml hown hnm hret hlk hZ X0 e0
  let QQ := Q_next0 Z t a mc n lr el kel vs ob h0 n0
  have N0 := Fr.nil n0
  show Go p e below (s₁.setTop (mkF m 0 #[rS t, uS, uS] [])) (EndQ s below ({ frames := 1, cells := 0, slots := 0, locals := 12 } : Room).cells ({ frames := 1, cells := 0, slots := 0, locals := 12 } : Room).slots QQ)
  refine gon s₁ (mkF m 1 #[rS t,uS,uS] [(.ref t)]) (fun _ k => XS.aloadN X0.here hx rfl (hb hy d49_3_0) rfl rfl k) ?_
  obtain ⟨v1, T1, L1, X1, hQ1, st1⟩ := OwnW.callV X0 hx hZ hown (w158 hw) (w159 hw) (notFace_of_selects (args := #[]) (mvT hZ (w161 hw))) (w161 hw) (w160 hw) (w125 hw) (w162 hw) (by decide) (b := t) (checkMod l Z a0 hw t a mc h0 n0 Z0 P3 P6 P7) e0 P0 (Ls := #[rS t, uS, uS]) (by rw [hml]; rfl) pd_0 (argsL := []) rfl (rest := []) rfl (W := 0) rfl (hb hy d49_3_1) (by decide) (by decide) (by decide) (by decide)
  obtain ⟨rfl, Nq1, eq1⟩ := hQ1
  have N1 := Fr.app N0 Nq1
  refine gon T1 (mkF m 4 #[rS t,uS,uS] []) (st1) ?_
  refine gon T1 (mkF m 5 #[rS t,uS,uS] [(.ref t)]) (fun _ k => XS.aloadN X1.here hx rfl (hb hy d49_3_4) rfl rfl k) ?_
  obtain ⟨T2, X2, e2, st2⟩ := getF X1 hx hZ hown (host := "") (Or.inl (w147 hw)) Via.refl eq1 P4 (g := (mkF m 5 #[rS t,uS,uS] [(.ref t)])) rfl rfl (hb hy d49_3_5)
  refine gon T2 (mkF m 8 #[rS t,uS,uS] [(.int 0)]) (st2) ?_
  refine gon T2 (mkF m 11 #[rS t,iS 0,uS] [(.ref t), (.int 0)]) (fun _ k => XS.istoreN X2.here hx rfl (hb hy d49_3_8) rfl (l' := #[rS t, iS 0, uS]) rfl (XS.iloadN X2.here hx rfl (hb hy d49_3_9) rfl (XS.aloadN X2.here hx rfl (hb hy d49_3_10) rfl rfl k))) ?_
  obtain ⟨T3, X3, e3, st3⟩ := getF X2 hx hZ hown (host := "") (Or.inl (w130 hw)) Via.refl e2 P3 (g := (mkF m 11 #[rS t,iS 0,uS] [(.ref t), (.int 0)])) rfl rfl (hb hy d49_3_11)
  refine gon T3 (mkF m 14 #[rS t,iS 0,uS] [(.ref a), (.int 0)]) (st3) ?_
  obtain ⟨T4, X4, e4, st4⟩ := getF X3 hx hZ hown (Or.inr (w149 hw)) Via.refl e3 P8 (g := (mkF m 14 #[rS t,iS 0,uS] [(.ref a), (.int 0)])) rfl rfl (hb hy d49_3_14)
  refine gon T4 (mkF m 17 #[rS t,iS 0,uS] [(.int n), (.int 0)]) (st4) ?_
  refine gon T4 (mkF m 29 #[rS t,iS 0,uS] [(.ref t)]) (fun _ k => XS.icmpYes X4.here hx rfl (pc0 := 17) (pc' := 28) rfl (hb hy d49_3_17) rfl (tlt (P12 : (0 : Int32) < n)).1 (by decide) (by decide) (XS.aloadN X4.here hx rfl (hb hy d49_3_28) rfl rfl k)) ?_
  obtain ⟨T5, X5, e5, st5⟩ := getF X4 hx hZ hown (host := "") (Or.inl (w130 hw)) Via.refl e4 P3 (g := (mkF m 29 #[rS t,iS 0,uS] [(.ref t)])) rfl rfl (hb hy d49_3_29)
  refine gon T5 (mkF m 32 #[rS t,iS 0,uS] [(.ref a)]) (st5) ?_
  obtain ⟨T6, X6, e6, st6⟩ := getF X5 hx hZ hown (host := "") (Or.inl (w163 hw)) Via.refl e5 P9 (g := (mkF m 32 #[rS t,iS 0,uS] [(.ref a)])) rfl rfl (hb hy d49_3_32)
  refine gon T6 (mkF m 35 #[rS t,iS 0,uS] [(.ref el)]) (st6) ?_
  refine gon T6 (mkF m 38 #[rS t,iS 0,rS el] [(.ref el), (.int 0)]) (fun _ k => XS.astoreN X6.here hx rfl (hb hy d49_3_35) rfl rfl (l' := #[rS t, iS 0, rS el]) rfl (XS.iloadN X6.here hx rfl (hb hy d49_3_36) rfl (XS.aloadN X6.here hx rfl (hb hy d49_3_37) rfl rfl k))) ?_
  refine gon T6 (mkF m 39 #[rS t,iS 0,rS el] [(.int 10), (.int 0)]) (aLen X6 hx hZ e6 P11 (hb hy d49_3_38)) ?_
  refine gon T6 (mkF m 54 #[rS t,iS 0,rS el] [(.int 1), (.ref t)]) (fun _ k => XS.icmpYes X6.here hx rfl (pc0 := 39) (pc' := 50) rfl (hb hy d49_3_39) rfl (tlt (by decide : (0 : Int32) < (10 : Int32))).1 (by decide) (by decide) (XS.aloadN X6.here hx rfl (hb hy d49_3_50) rfl rfl (XS.iloadN X6.here hx rfl (hb hy d49_3_51) rfl (XS.iconst X6.here hx rfl (hb hy d49_3_52) (XS.iadd X6.here hx rfl (hb hy d49_3_53) rfl k))))) ?_
  obtain ⟨T7, h7, X7, e7, W7, st7⟩ := putF X6 hx hZ hown (host := "") (Or.inl (w147 hw)) Via.refl e6 P4 P0 (Or.inl (w148 hw)) (w124 hw) (ty := .int) (by decide) rfl rfl (g := (mkF m 54 #[rS t,iS 0,rS el] [(.int 1), (.ref t)])) rfl rfl (hb hy d49_3_54)
  have Fw7 : Fld Z h7 t "java/util/ArrayList$Itr" "cursor" "I" (.int (1 : Int32)) := Fld.same W7 P4
  have N7 := Fr.snoc X7 N1 P1
  refine gon T7 (mkF m 57 #[rS t,iS 0,rS el] []) (st7) ?_
  refine gon T7 (mkF m 61 #[rS t,iS 0,rS el] [(.int 0), (.ref t), (.int 0), (.ref el)]) (fun _ k => XS.aloadN X7.here hx rfl (hb hy d49_3_57) rfl rfl (XS.aloadN X7.here hx rfl (hb hy d49_3_58) rfl rfl (XS.iloadN X7.here hx rfl (hb hy d49_3_59) rfl (XS.dupX1 X7.here hx rfl (hb hy d49_3_60) rfl rfl rfl k)))) ?_
  have c_9 := Exa.wr W7 P0
  have c_10 := Fld.other W7 P5 (Or.inr (slot_ne (C := "java/util/ArrayList$Itr") (Or.inl (w134 hw)) (Or.inl (w148 hw)) (by decide) (t := .int) (t' := .int) (by decide) (by decide)))
  obtain ⟨T8, h8, X8, e8, W8, st8⟩ := putF X7 hx hZ hown (host := "") (Or.inl (w133 hw)) Via.refl e7 c_10 c_9 (Or.inl (w134 hw)) (w124 hw) (ty := .int) (by decide) rfl rfl (g := (mkF m 61 #[rS t,iS 0,rS el] [(.int 0), (.ref t), (.int 0), (.ref el)])) rfl rfl (hb hy d49_3_61)
  have Fw8 : Fld Z h8 t "java/util/ArrayList$Itr" "lastRet" "I" (.int (0 : Int32)) := Fld.same W8 c_10
  have N8 := Fr.snoc X8 N7 P1
  refine gon T8 (mkF m 64 #[rS t,iS 0,rS el] [(.int 0), (.ref el)]) (st8) ?_
  have c_11 := Exa.wr W8 (Exa.wr W7 P10)
  have c_12 := Exa.wr W8 c_9
  have ne_13 : el ≠ t := ne_exa c_11 c_12 (by decide)
  have c_14 := Arv.other (Arv.other P11 W7 ne_13) W8 ne_13
  refine gon T8 (mkF m 65 #[rS t,iS 0,rS el] [(.ref ob)]) (ldA X8 hx hZ e8 c_14 rfl ⟨by decide, by decide⟩ P13 (hb hy d49_3_64)) ?_
  have K_15 : Keep h0 h7 [t] := (Keep.refl h0 [t]).wr W7 (Or.inl (List.mem_of_getElem? (i := 0) rfl))
  have K_16 : Keep h0 h8 [t] := K_15.wr W8 (Or.inl (List.mem_of_getElem? (i := 0) rfl))
  have c_17 := Fld.other W8 (Fld.other W7 P3 (Or.inr (slot_ne (C := "java/util/ArrayList$Itr") (Or.inr (w131 hw)) (Or.inl (w148 hw)) (by decide) (t := (.object "java/util/ArrayList")) (t' := .int) (by decide) (by decide)))) (Or.inr (slot_ne (C := "java/util/ArrayList$Itr") (Or.inr (w131 hw)) (Or.inl (w134 hw)) (by decide) (t := (.object "java/util/ArrayList")) (t' := .int) (by decide) (by decide)))
  have c_18 := Fld.other W8 Fw7 (Or.inr (slot_ne (C := "java/util/ArrayList$Itr") (Or.inl (w148 hw)) (Or.inl (w134 hw)) (by decide) (t := .int) (t' := .int) (by decide) (by decide)))
  have c_19 := Fld.other W8 (Fld.other W7 P6 (Or.inr (slot_ne (C := "java/util/ArrayList$Itr") (Or.inl (w137 hw)) (Or.inl (w148 hw)) (by decide) (t := .int) (t' := .int) (by decide) (by decide)))) (Or.inr (slot_ne (C := "java/util/ArrayList$Itr") (Or.inl (w137 hw)) (Or.inl (w134 hw)) (by decide) (t := .int) (t' := .int) (by decide) (by decide)))
  exact OwnW.retA X8 hx hlk hret rfl rfl (hb hy d49_3_65) (by decide) (by decide) (show QQ _ T8.heap _ from (by rw [e8]; exact ⟨rfl, N8, K_16, c_17, c_18, Fw8, c_19⟩))
def Q_next1 (Z : State) (t : Addr) (a : Addr) (mc : Int32) (n : Int32) (lr : Int32) (el : Addr) (kel : ClassId) (vs : List Value) (ob : Addr) (h0 : Heap) (n0 : Nat) (v : Option Value) (h : Heap) (L : List Loc) : Prop := v = some (.ref ob) ∧ Fr n0 L ∧ Keep h0 h [t] ∧ Fld Z h t "java/util/ArrayList$Itr" "this$0" "Ljava/util/ArrayList;" (.ref a) ∧ Fld Z h t "java/util/ArrayList$Itr" "cursor" "I" (.int (2 : Int32)) ∧ Fld Z h t "java/util/ArrayList$Itr" "lastRet" "I" (.int (1 : Int32)) ∧ Fld Z h t "java/util/ArrayList$Itr" "expectedModCount" "I" (.int mc)
set_option maxRecDepth 65536 in
set_option maxHeartbeats 40000000 in
theorem next1 (l : Launch) (Z : State) (a0 : Array Value) (hw : Ht a0 Z) (t : Addr) (a : Addr) (mc : Int32) (n : Int32) (lr : Int32) (el : Addr) (kel : ClassId) (vs : List Value) (ob : Addr) (h0 : Heap) (n0 : Nat) (Z0 : n0 ≤ h0.size) (P0 : Exa Z h0 t "java/util/ArrayList$Itr") (P1 : n0 ≤ t) (P2 : Exa Z h0 a "java/util/ArrayList") (P3 : Fld Z h0 t "java/util/ArrayList$Itr" "this$0" "Ljava/util/ArrayList;" (.ref a)) (P4 : Fld Z h0 t "java/util/ArrayList$Itr" "cursor" "I" (.int (1 : Int32))) (P5 : Fld Z h0 t "java/util/ArrayList$Itr" "lastRet" "I" (.int lr)) (P6 : Fld Z h0 t "java/util/ArrayList$Itr" "expectedModCount" "I" (.int mc)) (P7 : Fld Z h0 a "java/util/AbstractList" "modCount" "I" (.int mc)) (P8 : Fld Z h0 a "java/util/ArrayList" "size" "I" (.int n)) (P9 : Fld Z h0 a "java/util/ArrayList" "elementData" "[Ljava/lang/Object;" (.ref el)) (P10 : Exa Z h0 el "[Ljava/lang/Object;") (P11 : Arv Z h0 el kel (.object "java/lang/Object") (10 : Int32) vs .null) (P12 : (1 : Int32) < n) (P13 : List.getD (α := Value) vs 1 Value.null = Value.ref ob) :
    Con l Z (⟨"java/util/ArrayList$Itr", "next", "()Ljava/lang/Object;"⟩ : MethodName) jdk_49_method_3_code 3 (some (.object "java/lang/Object")) ({ frames := 1, cells := 0, slots := 0, locals := 12 } : Room) #[(.ref t)] h0 (Q_next1 Z t a mc n lr el kel vs ob h0 n0) := by
  refine OwnW.body (Ls := #[rS t, uS, uS]) (plainFor_of_name pn_3) (fun m => by first | (simp [entryFrame, mkF, argsToLocals, Value.category]; done) | rfl) ?_
  intro p e s m below meth c s₁ hx hy hml hown hnm hret hlk hZ X0 e0
  let QQ := Q_next1 Z t a mc n lr el kel vs ob h0 n0
  have N0 := Fr.nil n0
  show Go p e below (s₁.setTop (mkF m 0 #[rS t, uS, uS] [])) (EndQ s below ({ frames := 1, cells := 0, slots := 0, locals := 12 } : Room).cells ({ frames := 1, cells := 0, slots := 0, locals := 12 } : Room).slots QQ)
  refine gon s₁ (mkF m 1 #[rS t,uS,uS] [(.ref t)]) (fun _ k => XS.aloadN X0.here hx rfl (hb hy d49_3_0) rfl rfl k) ?_
  obtain ⟨v1, T1, L1, X1, hQ1, st1⟩ := OwnW.callV X0 hx hZ hown (w158 hw) (w159 hw) (notFace_of_selects (args := #[]) (mvT hZ (w161 hw))) (w161 hw) (w160 hw) (w125 hw) (w162 hw) (by decide) (b := t) (checkMod l Z a0 hw t a mc h0 n0 Z0 P3 P6 P7) e0 P0 (Ls := #[rS t, uS, uS]) (by rw [hml]; rfl) pd_0 (argsL := []) rfl (rest := []) rfl (W := 0) rfl (hb hy d49_3_1) (by decide) (by decide) (by decide) (by decide)
  obtain ⟨rfl, Nq1, eq1⟩ := hQ1
  have N1 := Fr.app N0 Nq1
  refine gon T1 (mkF m 4 #[rS t,uS,uS] []) (st1) ?_
  refine gon T1 (mkF m 5 #[rS t,uS,uS] [(.ref t)]) (fun _ k => XS.aloadN X1.here hx rfl (hb hy d49_3_4) rfl rfl k) ?_
  obtain ⟨T2, X2, e2, st2⟩ := getF X1 hx hZ hown (host := "") (Or.inl (w147 hw)) Via.refl eq1 P4 (g := (mkF m 5 #[rS t,uS,uS] [(.ref t)])) rfl rfl (hb hy d49_3_5)
  refine gon T2 (mkF m 8 #[rS t,uS,uS] [(.int 1)]) (st2) ?_
  refine gon T2 (mkF m 11 #[rS t,iS 1,uS] [(.ref t), (.int 1)]) (fun _ k => XS.istoreN X2.here hx rfl (hb hy d49_3_8) rfl (l' := #[rS t, iS 1, uS]) rfl (XS.iloadN X2.here hx rfl (hb hy d49_3_9) rfl (XS.aloadN X2.here hx rfl (hb hy d49_3_10) rfl rfl k))) ?_
  obtain ⟨T3, X3, e3, st3⟩ := getF X2 hx hZ hown (host := "") (Or.inl (w130 hw)) Via.refl e2 P3 (g := (mkF m 11 #[rS t,iS 1,uS] [(.ref t), (.int 1)])) rfl rfl (hb hy d49_3_11)
  refine gon T3 (mkF m 14 #[rS t,iS 1,uS] [(.ref a), (.int 1)]) (st3) ?_
  obtain ⟨T4, X4, e4, st4⟩ := getF X3 hx hZ hown (Or.inr (w149 hw)) Via.refl e3 P8 (g := (mkF m 14 #[rS t,iS 1,uS] [(.ref a), (.int 1)])) rfl rfl (hb hy d49_3_14)
  refine gon T4 (mkF m 17 #[rS t,iS 1,uS] [(.int n), (.int 1)]) (st4) ?_
  refine gon T4 (mkF m 29 #[rS t,iS 1,uS] [(.ref t)]) (fun _ k => XS.icmpYes X4.here hx rfl (pc0 := 17) (pc' := 28) rfl (hb hy d49_3_17) rfl (tlt (P12 : (1 : Int32) < n)).1 (by decide) (by decide) (XS.aloadN X4.here hx rfl (hb hy d49_3_28) rfl rfl k)) ?_
  obtain ⟨T5, X5, e5, st5⟩ := getF X4 hx hZ hown (host := "") (Or.inl (w130 hw)) Via.refl e4 P3 (g := (mkF m 29 #[rS t,iS 1,uS] [(.ref t)])) rfl rfl (hb hy d49_3_29)
  refine gon T5 (mkF m 32 #[rS t,iS 1,uS] [(.ref a)]) (st5) ?_
  obtain ⟨T6, X6, e6, st6⟩ := getF X5 hx hZ hown (host := "") (Or.inl (w163 hw)) Via.refl e5 P9 (g := (mkF m 32 #[rS t,iS 1,uS] [(.ref a)])) rfl rfl (hb hy d49_3_32)
  refine gon T6 (mkF m 35 #[rS t,iS 1,uS] [(.ref el)]) (st6) ?_
  refine gon T6 (mkF m 38 #[rS t,iS 1,rS el] [(.ref el), (.int 1)]) (fun _ k => XS.astoreN X6.here hx rfl (hb hy d49_3_35) rfl rfl (l' := #[rS t, iS 1, rS el]) rfl (XS.iloadN X6.here hx rfl (hb hy d49_3_36) rfl (XS.aloadN X6.here hx rfl (hb hy d49_3_37) rfl rfl k))) ?_
  refine gon T6 (mkF m 39 #[rS t,iS 1,rS el] [(.int 10), (.int 1)]) (aLen X6 hx hZ e6 P11 (hb hy d49_3_38)) ?_
  refine gon T6 (mkF m 54 #[rS t,iS 1,rS el] [(.int 2), (.ref t)]) (fun _ k => XS.icmpYes X6.here hx rfl (pc0 := 39) (pc' := 50) rfl (hb hy d49_3_39) rfl (tlt (by decide : (1 : Int32) < (10 : Int32))).1 (by decide) (by decide) (XS.aloadN X6.here hx rfl (hb hy d49_3_50) rfl rfl (XS.iloadN X6.here hx rfl (hb hy d49_3_51) rfl (XS.iconst X6.here hx rfl (hb hy d49_3_52) (XS.iadd X6.here hx rfl (hb hy d49_3_53) rfl k))))) ?_
  obtain ⟨T7, h7, X7, e7, W7, st7⟩ := putF X6 hx hZ hown (host := "") (Or.inl (w147 hw)) Via.refl e6 P4 P0 (Or.inl (w148 hw)) (w124 hw) (ty := .int) (by decide) rfl rfl (g := (mkF m 54 #[rS t,iS 1,rS el] [(.int 2), (.ref t)])) rfl rfl (hb hy d49_3_54)
  have Fw7 : Fld Z h7 t "java/util/ArrayList$Itr" "cursor" "I" (.int (2 : Int32)) := Fld.same W7 P4
  have N7 := Fr.snoc X7 N1 P1
  refine gon T7 (mkF m 57 #[rS t,iS 1,rS el] []) (st7) ?_
  refine gon T7 (mkF m 61 #[rS t,iS 1,rS el] [(.int 1), (.ref t), (.int 1), (.ref el)]) (fun _ k => XS.aloadN X7.here hx rfl (hb hy d49_3_57) rfl rfl (XS.aloadN X7.here hx rfl (hb hy d49_3_58) rfl rfl (XS.iloadN X7.here hx rfl (hb hy d49_3_59) rfl (XS.dupX1 X7.here hx rfl (hb hy d49_3_60) rfl rfl rfl k)))) ?_
  have c_9 := Exa.wr W7 P0
  have c_10 := Fld.other W7 P5 (Or.inr (slot_ne (C := "java/util/ArrayList$Itr") (Or.inl (w134 hw)) (Or.inl (w148 hw)) (by decide) (t := .int) (t' := .int) (by decide) (by decide)))
  obtain ⟨T8, h8, X8, e8, W8, st8⟩ := putF X7 hx hZ hown (host := "") (Or.inl (w133 hw)) Via.refl e7 c_10 c_9 (Or.inl (w134 hw)) (w124 hw) (ty := .int) (by decide) rfl rfl (g := (mkF m 61 #[rS t,iS 1,rS el] [(.int 1), (.ref t), (.int 1), (.ref el)])) rfl rfl (hb hy d49_3_61)
  have Fw8 : Fld Z h8 t "java/util/ArrayList$Itr" "lastRet" "I" (.int (1 : Int32)) := Fld.same W8 c_10
  have N8 := Fr.snoc X8 N7 P1
  refine gon T8 (mkF m 64 #[rS t,iS 1,rS el] [(.int 1), (.ref el)]) (st8) ?_
  have c_11 := Exa.wr W8 (Exa.wr W7 P10)
  have c_12 := Exa.wr W8 c_9
  have ne_13 : el ≠ t := ne_exa c_11 c_12 (by decide)
  have c_14 := Arv.other (Arv.other P11 W7 ne_13) W8 ne_13
  refine gon T8 (mkF m 65 #[rS t,iS 1,rS el] [(.ref ob)]) (ldA X8 hx hZ e8 c_14 rfl ⟨by decide, by decide⟩ P13 (hb hy d49_3_64)) ?_
  have K_15 : Keep h0 h7 [t] := (Keep.refl h0 [t]).wr W7 (Or.inl (List.mem_of_getElem? (i := 0) rfl))
  have K_16 : Keep h0 h8 [t] := K_15.wr W8 (Or.inl (List.mem_of_getElem? (i := 0) rfl))
  have c_17 := Fld.other W8 (Fld.other W7 P3 (Or.inr (slot_ne (C := "java/util/ArrayList$Itr") (Or.inr (w131 hw)) (Or.inl (w148 hw)) (by decide) (t := (.object "java/util/ArrayList")) (t' := .int) (by decide) (by decide)))) (Or.inr (slot_ne (C := "java/util/ArrayList$Itr") (Or.inr (w131 hw)) (Or.inl (w134 hw)) (by decide) (t := (.object "java/util/ArrayList")) (t' := .int) (by decide) (by decide)))
  have c_18 := Fld.other W8 Fw7 (Or.inr (slot_ne (C := "java/util/ArrayList$Itr") (Or.inl (w148 hw)) (Or.inl (w134 hw)) (by decide) (t := .int) (t' := .int) (by decide) (by decide)))
  have c_19 := Fld.other W8 (Fld.other W7 P6 (Or.inr (slot_ne (C := "java/util/ArrayList$Itr") (Or.inl (w137 hw)) (Or.inl (w148 hw)) (by decide) (t := .int) (t' := .int) (by decide) (by decide)))) (Or.inr (slot_ne (C := "java/util/ArrayList$Itr") (Or.inl (w137 hw)) (Or.inl (w134 hw)) (by decide) (t := .int) (t' := .int) (by decide) (by decide)))
  exact OwnW.retA X8 hx hlk hret rfl rfl (hb hy d49_3_65) (by decide) (by decide) (show QQ _ T8.heap _ from (by rw [e8]; exact ⟨rfl, N8, K_16, c_17, c_18, Fw8, c_19⟩))
def Q_next2 (Z : State) (t : Addr) (a : Addr) (mc : Int32) (n : Int32) (lr : Int32) (el : Addr) (kel : ClassId) (vs : List Value) (ob : Addr) (h0 : Heap) (n0 : Nat) (v : Option Value) (h : Heap) (L : List Loc) : Prop := v = some (.ref ob) ∧ Fr n0 L ∧ Keep h0 h [t] ∧ Fld Z h t "java/util/ArrayList$Itr" "this$0" "Ljava/util/ArrayList;" (.ref a) ∧ Fld Z h t "java/util/ArrayList$Itr" "cursor" "I" (.int (3 : Int32)) ∧ Fld Z h t "java/util/ArrayList$Itr" "lastRet" "I" (.int (2 : Int32)) ∧ Fld Z h t "java/util/ArrayList$Itr" "expectedModCount" "I" (.int mc)
set_option maxRecDepth 65536 in
set_option maxHeartbeats 40000000 in
theorem next2 (l : Launch) (Z : State) (a0 : Array Value) (hw : Ht a0 Z) (t : Addr) (a : Addr) (mc : Int32) (n : Int32) (lr : Int32) (el : Addr) (kel : ClassId) (vs : List Value) (ob : Addr) (h0 : Heap) (n0 : Nat) (Z0 : n0 ≤ h0.size) (P0 : Exa Z h0 t "java/util/ArrayList$Itr") (P1 : n0 ≤ t) (P2 : Exa Z h0 a "java/util/ArrayList") (P3 : Fld Z h0 t "java/util/ArrayList$Itr" "this$0" "Ljava/util/ArrayList;" (.ref a)) (P4 : Fld Z h0 t "java/util/ArrayList$Itr" "cursor" "I" (.int (2 : Int32))) (P5 : Fld Z h0 t "java/util/ArrayList$Itr" "lastRet" "I" (.int lr)) (P6 : Fld Z h0 t "java/util/ArrayList$Itr" "expectedModCount" "I" (.int mc)) (P7 : Fld Z h0 a "java/util/AbstractList" "modCount" "I" (.int mc)) (P8 : Fld Z h0 a "java/util/ArrayList" "size" "I" (.int n)) (P9 : Fld Z h0 a "java/util/ArrayList" "elementData" "[Ljava/lang/Object;" (.ref el)) (P10 : Exa Z h0 el "[Ljava/lang/Object;") (P11 : Arv Z h0 el kel (.object "java/lang/Object") (10 : Int32) vs .null) (P12 : (2 : Int32) < n) (P13 : List.getD (α := Value) vs 2 Value.null = Value.ref ob) :
    Con l Z (⟨"java/util/ArrayList$Itr", "next", "()Ljava/lang/Object;"⟩ : MethodName) jdk_49_method_3_code 3 (some (.object "java/lang/Object")) ({ frames := 1, cells := 0, slots := 0, locals := 12 } : Room) #[(.ref t)] h0 (Q_next2 Z t a mc n lr el kel vs ob h0 n0) := by
  refine OwnW.body (Ls := #[rS t, uS, uS]) (plainFor_of_name pn_3) (fun m => by first | (simp [entryFrame, mkF, argsToLocals, Value.category]; done) | rfl) ?_
  intro p e s m below meth c s₁ hx hy hml hown hnm hret hlk hZ X0 e0
  let QQ := Q_next2 Z t a mc n lr el kel vs ob h0 n0
  have N0 := Fr.nil n0
  show Go p e below (s₁.setTop (mkF m 0 #[rS t, uS, uS] [])) (EndQ s below ({ frames := 1, cells := 0, slots := 0, locals := 12 } : Room).cells ({ frames := 1, cells := 0, slots := 0, locals := 12 } : Room).slots QQ)
  refine gon s₁ (mkF m 1 #[rS t,uS,uS] [(.ref t)]) (fun _ k => XS.aloadN X0.here hx rfl (hb hy d49_3_0) rfl rfl k) ?_
  obtain ⟨v1, T1, L1, X1, hQ1, st1⟩ := OwnW.callV X0 hx hZ hown (w158 hw) (w159 hw) (notFace_of_selects (args := #[]) (mvT hZ (w161 hw))) (w161 hw) (w160 hw) (w125 hw) (w162 hw) (by decide) (b := t) (checkMod l Z a0 hw t a mc h0 n0 Z0 P3 P6 P7) e0 P0 (Ls := #[rS t, uS, uS]) (by rw [hml]; rfl) pd_0 (argsL := []) rfl (rest := []) rfl (W := 0) rfl (hb hy d49_3_1) (by decide) (by decide) (by decide) (by decide)
  obtain ⟨rfl, Nq1, eq1⟩ := hQ1
  have N1 := Fr.app N0 Nq1
  refine gon T1 (mkF m 4 #[rS t,uS,uS] []) (st1) ?_
  refine gon T1 (mkF m 5 #[rS t,uS,uS] [(.ref t)]) (fun _ k => XS.aloadN X1.here hx rfl (hb hy d49_3_4) rfl rfl k) ?_
  obtain ⟨T2, X2, e2, st2⟩ := getF X1 hx hZ hown (host := "") (Or.inl (w147 hw)) Via.refl eq1 P4 (g := (mkF m 5 #[rS t,uS,uS] [(.ref t)])) rfl rfl (hb hy d49_3_5)
  refine gon T2 (mkF m 8 #[rS t,uS,uS] [(.int 2)]) (st2) ?_
  refine gon T2 (mkF m 11 #[rS t,iS 2,uS] [(.ref t), (.int 2)]) (fun _ k => XS.istoreN X2.here hx rfl (hb hy d49_3_8) rfl (l' := #[rS t, iS 2, uS]) rfl (XS.iloadN X2.here hx rfl (hb hy d49_3_9) rfl (XS.aloadN X2.here hx rfl (hb hy d49_3_10) rfl rfl k))) ?_
  obtain ⟨T3, X3, e3, st3⟩ := getF X2 hx hZ hown (host := "") (Or.inl (w130 hw)) Via.refl e2 P3 (g := (mkF m 11 #[rS t,iS 2,uS] [(.ref t), (.int 2)])) rfl rfl (hb hy d49_3_11)
  refine gon T3 (mkF m 14 #[rS t,iS 2,uS] [(.ref a), (.int 2)]) (st3) ?_
  obtain ⟨T4, X4, e4, st4⟩ := getF X3 hx hZ hown (Or.inr (w149 hw)) Via.refl e3 P8 (g := (mkF m 14 #[rS t,iS 2,uS] [(.ref a), (.int 2)])) rfl rfl (hb hy d49_3_14)
  refine gon T4 (mkF m 17 #[rS t,iS 2,uS] [(.int n), (.int 2)]) (st4) ?_
  refine gon T4 (mkF m 29 #[rS t,iS 2,uS] [(.ref t)]) (fun _ k => XS.icmpYes X4.here hx rfl (pc0 := 17) (pc' := 28) rfl (hb hy d49_3_17) rfl (tlt (P12 : (2 : Int32) < n)).1 (by decide) (by decide) (XS.aloadN X4.here hx rfl (hb hy d49_3_28) rfl rfl k)) ?_
  obtain ⟨T5, X5, e5, st5⟩ := getF X4 hx hZ hown (host := "") (Or.inl (w130 hw)) Via.refl e4 P3 (g := (mkF m 29 #[rS t,iS 2,uS] [(.ref t)])) rfl rfl (hb hy d49_3_29)
  refine gon T5 (mkF m 32 #[rS t,iS 2,uS] [(.ref a)]) (st5) ?_
  obtain ⟨T6, X6, e6, st6⟩ := getF X5 hx hZ hown (host := "") (Or.inl (w163 hw)) Via.refl e5 P9 (g := (mkF m 32 #[rS t,iS 2,uS] [(.ref a)])) rfl rfl (hb hy d49_3_32)
  refine gon T6 (mkF m 35 #[rS t,iS 2,uS] [(.ref el)]) (st6) ?_
  refine gon T6 (mkF m 38 #[rS t,iS 2,rS el] [(.ref el), (.int 2)]) (fun _ k => XS.astoreN X6.here hx rfl (hb hy d49_3_35) rfl rfl (l' := #[rS t, iS 2, rS el]) rfl (XS.iloadN X6.here hx rfl (hb hy d49_3_36) rfl (XS.aloadN X6.here hx rfl (hb hy d49_3_37) rfl rfl k))) ?_
  refine gon T6 (mkF m 39 #[rS t,iS 2,rS el] [(.int 10), (.int 2)]) (aLen X6 hx hZ e6 P11 (hb hy d49_3_38)) ?_
  refine gon T6 (mkF m 54 #[rS t,iS 2,rS el] [(.int 3), (.ref t)]) (fun _ k => XS.icmpYes X6.here hx rfl (pc0 := 39) (pc' := 50) rfl (hb hy d49_3_39) rfl (tlt (by decide : (2 : Int32) < (10 : Int32))).1 (by decide) (by decide) (XS.aloadN X6.here hx rfl (hb hy d49_3_50) rfl rfl (XS.iloadN X6.here hx rfl (hb hy d49_3_51) rfl (XS.iconst X6.here hx rfl (hb hy d49_3_52) (XS.iadd X6.here hx rfl (hb hy d49_3_53) rfl k))))) ?_
  obtain ⟨T7, h7, X7, e7, W7, st7⟩ := putF X6 hx hZ hown (host := "") (Or.inl (w147 hw)) Via.refl e6 P4 P0 (Or.inl (w148 hw)) (w124 hw) (ty := .int) (by decide) rfl rfl (g := (mkF m 54 #[rS t,iS 2,rS el] [(.int 3), (.ref t)])) rfl rfl (hb hy d49_3_54)
  have Fw7 : Fld Z h7 t "java/util/ArrayList$Itr" "cursor" "I" (.int (3 : Int32)) := Fld.same W7 P4
  have N7 := Fr.snoc X7 N1 P1
  refine gon T7 (mkF m 57 #[rS t,iS 2,rS el] []) (st7) ?_
  refine gon T7 (mkF m 61 #[rS t,iS 2,rS el] [(.int 2), (.ref t), (.int 2), (.ref el)]) (fun _ k => XS.aloadN X7.here hx rfl (hb hy d49_3_57) rfl rfl (XS.aloadN X7.here hx rfl (hb hy d49_3_58) rfl rfl (XS.iloadN X7.here hx rfl (hb hy d49_3_59) rfl (XS.dupX1 X7.here hx rfl (hb hy d49_3_60) rfl rfl rfl k)))) ?_
  have c_9 := Exa.wr W7 P0
  have c_10 := Fld.other W7 P5 (Or.inr (slot_ne (C := "java/util/ArrayList$Itr") (Or.inl (w134 hw)) (Or.inl (w148 hw)) (by decide) (t := .int) (t' := .int) (by decide) (by decide)))
  obtain ⟨T8, h8, X8, e8, W8, st8⟩ := putF X7 hx hZ hown (host := "") (Or.inl (w133 hw)) Via.refl e7 c_10 c_9 (Or.inl (w134 hw)) (w124 hw) (ty := .int) (by decide) rfl rfl (g := (mkF m 61 #[rS t,iS 2,rS el] [(.int 2), (.ref t), (.int 2), (.ref el)])) rfl rfl (hb hy d49_3_61)
  have Fw8 : Fld Z h8 t "java/util/ArrayList$Itr" "lastRet" "I" (.int (2 : Int32)) := Fld.same W8 c_10
  have N8 := Fr.snoc X8 N7 P1
  refine gon T8 (mkF m 64 #[rS t,iS 2,rS el] [(.int 2), (.ref el)]) (st8) ?_
  have c_11 := Exa.wr W8 (Exa.wr W7 P10)
  have c_12 := Exa.wr W8 c_9
  have ne_13 : el ≠ t := ne_exa c_11 c_12 (by decide)
  have c_14 := Arv.other (Arv.other P11 W7 ne_13) W8 ne_13
  refine gon T8 (mkF m 65 #[rS t,iS 2,rS el] [(.ref ob)]) (ldA X8 hx hZ e8 c_14 rfl ⟨by decide, by decide⟩ P13 (hb hy d49_3_64)) ?_
  have K_15 : Keep h0 h7 [t] := (Keep.refl h0 [t]).wr W7 (Or.inl (List.mem_of_getElem? (i := 0) rfl))
  have K_16 : Keep h0 h8 [t] := K_15.wr W8 (Or.inl (List.mem_of_getElem? (i := 0) rfl))
  have c_17 := Fld.other W8 (Fld.other W7 P3 (Or.inr (slot_ne (C := "java/util/ArrayList$Itr") (Or.inr (w131 hw)) (Or.inl (w148 hw)) (by decide) (t := (.object "java/util/ArrayList")) (t' := .int) (by decide) (by decide)))) (Or.inr (slot_ne (C := "java/util/ArrayList$Itr") (Or.inr (w131 hw)) (Or.inl (w134 hw)) (by decide) (t := (.object "java/util/ArrayList")) (t' := .int) (by decide) (by decide)))
  have c_18 := Fld.other W8 Fw7 (Or.inr (slot_ne (C := "java/util/ArrayList$Itr") (Or.inl (w148 hw)) (Or.inl (w134 hw)) (by decide) (t := .int) (t' := .int) (by decide) (by decide)))
  have c_19 := Fld.other W8 (Fld.other W7 P6 (Or.inr (slot_ne (C := "java/util/ArrayList$Itr") (Or.inl (w137 hw)) (Or.inl (w148 hw)) (by decide) (t := .int) (t' := .int) (by decide) (by decide)))) (Or.inr (slot_ne (C := "java/util/ArrayList$Itr") (Or.inl (w137 hw)) (Or.inl (w134 hw)) (by decide) (t := .int) (t' := .int) (by decide) (by decide)))
  exact OwnW.retA X8 hx hlk hret rfl rfl (hb hy d49_3_65) (by decide) (by decide) (show QQ _ T8.heap _ from (by rw [e8]; exact ⟨rfl, N8, K_16, c_17, c_18, Fw8, c_19⟩))
abbrev k18_1 := jdk_18_method_1_code
theorem d18_1_0 : decode k18_1 0 = .ok (.aload_n 0, 1) := by decide +kernel
theorem d18_1_1 : decode k18_1 1 = .ok (.invokespecial 1, 3) := by decide +kernel
theorem w226 {Z a0} (hw : Ht a0 Z) : (Cond.methodLink "java/lang/Number" (1 : Nat) ⟨"java/lang/Object", "<init>", "()V"⟩).before a0 Z = true := ht hw 226 rfl
theorem d18_1_4 : decode k18_1 4 = .ok (.return_, 1) := by decide +kernel
theorem pn_4 : plainName "java/lang/Number" = true := by first | (simp [plainName, overriddenIn]; done) | decide +kernel
def Q_numInit (Z : State) (a : Addr) (h0 : Heap) (n0 : Nat) (v : Option Value) (h : Heap) (L : List Loc) : Prop := v = none ∧ Fr n0 L ∧ h = h0
set_option maxRecDepth 65536 in
set_option maxHeartbeats 40000000 in
theorem numInit (l : Launch) (Z : State) (a0 : Array Value) (hw : Ht a0 Z) (a : Addr) (h0 : Heap) (n0 : Nat) (Z0 : n0 ≤ h0.size)  :
    Con l Z (⟨"java/lang/Number", "<init>", "()V"⟩ : MethodName) jdk_18_method_1_code 1 none ({ frames := 1, cells := 0, slots := 0, locals := 12 } : Room) #[(.ref a)] h0 (Q_numInit Z a h0 n0) := by
  refine OwnW.body (Ls := #[rS a]) (plainFor_of_name pn_4) (fun m => by first | (simp [entryFrame, mkF, argsToLocals, Value.category]; done) | rfl) ?_
  intro p e s m below meth c s₁ hx hy hml hown hnm hret hlk hZ X0 e0
  let QQ := Q_numInit Z a h0 n0
  have N0 := Fr.nil n0
  show Go p e below (s₁.setTop (mkF m 0 #[rS a] [])) (EndQ s below ({ frames := 1, cells := 0, slots := 0, locals := 12 } : Room).cells ({ frames := 1, cells := 0, slots := 0, locals := 12 } : Room).slots QQ)
  refine gon s₁ (mkF m 1 #[rS a] [(.ref a)]) (fun _ k => XS.aloadN X0.here hx rfl (hb hy d18_1_0) rfl rfl k) ?_
  obtain ⟨T1, X1, e1, st1⟩ := initO X0 hx hZ hown (w226 hw) (w19 hw) (w20 hw) e0 (g := (mkF m 1 #[rS a] [(.ref a)])) rfl (by rw [hml]; rfl) rfl (hb hy d18_1_1) (by decide) (W := 0) (by show 2 * 0 + _ ≤ _; exact Nat.le_of_eq rfl) (by decide)
  refine gon T1 (mkF m 4 #[rS a] []) (st1) ?_
  exact OwnW.retV X1 hx hlk hret (hb hy d18_1_4) (by decide) (by decide) (show QQ _ T1.heap _ from ⟨rfl, N0, e1⟩)
abbrev k17_1 := jdk_17_method_1_code
theorem d17_1_0 : decode k17_1 0 = .ok (.aload_n 0, 1) := by decide +kernel
theorem d17_1_1 : decode k17_1 1 = .ok (.invokespecial 11, 3) := by decide +kernel
theorem w225 {Z a0} (hw : Ht a0 Z) : (Cond.code ⟨"java/lang/Number", "<init>", "()V"⟩ jdk_18_method_1_code (1 : Nat) (Option.none : Option Jvm.ClassFile.FieldType)).before a0 Z = true := ht hw 225 rfl
theorem w220 {Z a0} (hw : Ht a0 Z) : (Cond.methodLink "java/math/BigDecimal" (11 : Nat) ⟨"java/lang/Number", "<init>", "()V"⟩).before a0 Z = true := ht hw 220 rfl
theorem w221 {Z a0} (hw : Ht a0 Z) : (Cond.instanceMethod ⟨"java/lang/Number", "<init>", "()V"⟩).before a0 Z = true := ht hw 221 rfl
theorem w224 {Z a0} (hw : Ht a0 Z) : (Cond.initialized "java/lang/Number").before a0 Z = true := ht hw 224 rfl
theorem d17_1_4 : decode k17_1 4 = .ok (.aload_n 0, 1) := by decide +kernel
theorem d17_1_5 : decode k17_1 5 = .ok (.iload 4, 2) := by decide +kernel
theorem d17_1_7 : decode k17_1 7 = .ok (.putfield 17, 3) := by decide +kernel
theorem w179 {Z a0} (hw : Ht a0 Z) : (Cond.fieldLink "java/math/BigDecimal" (17 : Nat) "java/math/BigDecimal" "scale" "I").before a0 Z = true := ht hw 179 rfl
theorem w180 {Z a0} (hw : Ht a0 Z) : (Cond.laysFinal "java/math/BigDecimal" "java/math/BigDecimal" "scale" "I").before a0 Z = true := ht hw 180 rfl
theorem w215 {Z a0} (hw : Ht a0 Z) : (Cond.instantiable "java/math/BigDecimal" (5 : Nat)).before a0 Z = true := ht hw 215 rfl
theorem d17_1_10 : decode k17_1 10 = .ok (.aload_n 0, 1) := by decide +kernel
theorem d17_1_11 : decode k17_1 11 = .ok (.iload 5, 2) := by decide +kernel
theorem d17_1_13 : decode k17_1 13 = .ok (.putfield 21, 3) := by decide +kernel
theorem w227 {Z a0} (hw : Ht a0 Z) : (Cond.fieldLink "java/math/BigDecimal" (21 : Nat) "java/math/BigDecimal" "precision" "I").before a0 Z = true := ht hw 227 rfl
theorem w228 {Z a0} (hw : Ht a0 Z) : (Cond.lays "java/math/BigDecimal" "java/math/BigDecimal" "precision" "I").before a0 Z = true := ht hw 228 rfl
theorem d17_1_16 : decode k17_1 16 = .ok (.aload_n 0, 1) := by decide +kernel
theorem d17_1_17 : decode k17_1 17 = .ok (.lload_n 2, 1) := by decide +kernel
theorem d17_1_18 : decode k17_1 18 = .ok (.putfield 24, 3) := by decide +kernel
theorem w176 {Z a0} (hw : Ht a0 Z) : (Cond.fieldLink "java/math/BigDecimal" (24 : Nat) "java/math/BigDecimal" "intCompact" "J").before a0 Z = true := ht hw 176 rfl
theorem w177 {Z a0} (hw : Ht a0 Z) : (Cond.laysFinal "java/math/BigDecimal" "java/math/BigDecimal" "intCompact" "J").before a0 Z = true := ht hw 177 rfl
theorem d17_1_21 : decode k17_1 21 = .ok (.aload_n 0, 1) := by decide +kernel
theorem d17_1_22 : decode k17_1 22 = .ok (.aload_n 1, 1) := by decide +kernel
theorem d17_1_23 : decode k17_1 23 = .ok (.putfield 28, 3) := by decide +kernel
theorem w229 {Z a0} (hw : Ht a0 Z) : (Cond.fieldLink "java/math/BigDecimal" (28 : Nat) "java/math/BigDecimal" "intVal" "Ljava/math/BigInteger;").before a0 Z = true := ht hw 229 rfl
theorem w230 {Z a0} (hw : Ht a0 Z) : (Cond.laysFinal "java/math/BigDecimal" "java/math/BigDecimal" "intVal" "Ljava/math/BigInteger;").before a0 Z = true := ht hw 230 rfl
theorem d17_1_26 : decode k17_1 26 = .ok (.return_, 1) := by decide +kernel
theorem pn_5 : plainName "java/math/BigDecimal" = true := by first | (simp [plainName, overriddenIn]; done) | decide +kernel
def Q_bdInit (Z : State) (a : Addr) (q : Int64) (r : Int32) (h0 : Heap) (n0 : Nat) (v : Option Value) (h : Heap) (L : List Loc) : Prop := v = none ∧ Fr n0 L ∧ Keep h0 h [a] ∧ Fld Z h a "java/math/BigDecimal" "scale" "I" (.int r) ∧ Fld Z h a "java/math/BigDecimal" "intCompact" "J" (.long q) ∧ Fld Z h a "java/math/BigDecimal" "precision" "I" (.int (0 : Int32))
set_option maxRecDepth 65536 in
set_option maxHeartbeats 40000000 in
theorem bdInit (l : Launch) (Z : State) (a0 : Array Value) (hw : Ht a0 Z) (a : Addr) (q : Int64) (r : Int32) (h0 : Heap) (n0 : Nat) (Z0 : n0 ≤ h0.size) (P0 : Exa Z h0 a "java/math/BigDecimal") (P1 : n0 ≤ a) (P2 : Fld Z h0 a "java/math/BigDecimal" "intVal" "Ljava/math/BigInteger;" .null) (P3 : Fld Z h0 a "java/math/BigDecimal" "scale" "I" (.int (0 : Int32))) (P4 : Fld Z h0 a "java/math/BigDecimal" "intCompact" "J" (.long (0 : Int64))) (P5 : Fld Z h0 a "java/math/BigDecimal" "precision" "I" (.int (0 : Int32))) :
    Con l Z (⟨"java/math/BigDecimal", "<init>", "(Ljava/math/BigInteger;JII)V"⟩ : MethodName) jdk_17_method_1_code 6 none ({ frames := 2, cells := 0, slots := 0, locals := 24 } : Room) #[(.ref a), .null, (.long q), (.int r), (.int (0 : Int32))] h0 (Q_bdInit Z a q r h0 n0) := by
  refine OwnW.body (Ls := #[rS a, .val .null, jS q, dS, iS r, iS 0]) (plainFor_of_name pn_5) (fun m => by first | (simp [entryFrame, mkF, argsToLocals, Value.category]; done) | rfl) ?_
  intro p e s m below meth c s₁ hx hy hml hown hnm hret hlk hZ X0 e0
  let QQ := Q_bdInit Z a q r h0 n0
  have N0 := Fr.nil n0
  show Go p e below (s₁.setTop (mkF m 0 #[rS a, .val .null, jS q, dS, iS r, iS 0] [])) (EndQ s below ({ frames := 2, cells := 0, slots := 0, locals := 24 } : Room).cells ({ frames := 2, cells := 0, slots := 0, locals := 24 } : Room).slots QQ)
  refine gon s₁ (mkF m 1 #[rS a,.val .null,jS q,dS,iS r,iS 0] [(.ref a)]) (fun _ k => XS.aloadN X0.here hx rfl (hb hy d17_1_0) rfl rfl k) ?_
  obtain ⟨v1, T1, L1, X1, hQ1, st1⟩ := OwnW.callC (y := (⟨"java/lang/Number", "<init>", "()V"⟩ : MethodName)) X0 hx hZ hown rfl (w220 hw) (w221 hw) (w224 hw) (w225 hw) (by decide) (b := a) (numInit l Z a0 hw a h0 n0 Z0 ) e0 (Ls := #[rS a, .val .null, jS q, dS, iS r, iS 0]) (by rw [hml]; rfl) pd_0 (argsL := []) rfl (rest := []) rfl (W := 0) rfl (hb hy d17_1_1) (by decide) (by decide) (by decide) (by decide)
  obtain ⟨rfl, Nq1, eq1⟩ := hQ1
  have N1 := Fr.app N0 Nq1
  refine gon T1 (mkF m 4 #[rS a,.val .null,jS q,dS,iS r,iS 0] []) (st1) ?_
  refine gon T1 (mkF m 7 #[rS a,.val .null,jS q,dS,iS r,iS 0] [(.int r), (.ref a)]) (fun _ k => XS.aloadN X1.here hx rfl (hb hy d17_1_4) rfl rfl (XS.iload X1.here hx rfl (hb hy d17_1_5) rfl k)) ?_
  obtain ⟨T2, h2, X2, e2, W2, st2⟩ := putF X1 hx hZ hown (host := "") (Or.inl (w179 hw)) Via.refl eq1 P3 P0 (Or.inr ⟨(w180 hw), rfl, hnm⟩) (w215 hw) (ty := .int) (by decide) rfl rfl (g := (mkF m 7 #[rS a,.val .null,jS q,dS,iS r,iS 0] [(.int r), (.ref a)])) rfl rfl (hb hy d17_1_7)
  have Fw2 : Fld Z h2 a "java/math/BigDecimal" "scale" "I" (.int r) := Fld.same W2 P3
  have N2 := Fr.snoc X2 N1 P1
  refine gon T2 (mkF m 10 #[rS a,.val .null,jS q,dS,iS r,iS 0] []) (st2) ?_
  refine gon T2 (mkF m 13 #[rS a,.val .null,jS q,dS,iS r,iS 0] [(.int 0), (.ref a)]) (fun _ k => XS.aloadN X2.here hx rfl (hb hy d17_1_10) rfl rfl (XS.iload X2.here hx rfl (hb hy d17_1_11) rfl k)) ?_
  have c_4 := Exa.wr W2 P0
  have c_5 := Fld.other W2 P5 (Or.inr (slot_ne (C := "java/math/BigDecimal") (Or.inl (w228 hw)) (Or.inr (w180 hw)) (by decide) (t := .int) (t' := .int) (by decide) (by decide)))
  obtain ⟨T3, h3, X3, e3, W3, st3⟩ := putF X2 hx hZ hown (host := "") (Or.inl (w227 hw)) Via.refl e2 c_5 c_4 (Or.inl (w228 hw)) (w215 hw) (ty := .int) (by decide) rfl rfl (g := (mkF m 13 #[rS a,.val .null,jS q,dS,iS r,iS 0] [(.int 0), (.ref a)])) rfl rfl (hb hy d17_1_13)
  have Fw3 : Fld Z h3 a "java/math/BigDecimal" "precision" "I" (.int (0 : Int32)) := Fld.same W3 c_5
  have N3 := Fr.snoc X3 N2 P1
  refine gon T3 (mkF m 16 #[rS a,.val .null,jS q,dS,iS r,iS 0] []) (st3) ?_
  refine gon T3 (mkF m 18 #[rS a,.val .null,jS q,dS,iS r,iS 0] [(.long q), (.ref a)]) (fun _ k => XS.aloadN X3.here hx rfl (hb hy d17_1_16) rfl rfl (XS.lloadN X3.here hx rfl (hb hy d17_1_17) rfl k)) ?_
  have c_7 := Exa.wr W3 c_4
  have c_8 := Fld.other W3 (Fld.other W2 P4 (Or.inr (slot_ne (C := "java/math/BigDecimal") (Or.inr (w177 hw)) (Or.inr (w180 hw)) (by decide) (t := .long) (t' := .int) (by decide) (by decide)))) (Or.inr (slot_ne (C := "java/math/BigDecimal") (Or.inr (w177 hw)) (Or.inl (w228 hw)) (by decide) (t := .long) (t' := .int) (by decide) (by decide)))
  obtain ⟨T6, h6, X6, e6, W6, st6⟩ := putF X3 hx hZ hown (host := "") (Or.inl (w176 hw)) Via.refl e3 c_8 c_7 (Or.inr ⟨(w177 hw), rfl, hnm⟩) (w215 hw) (ty := .long) (by decide) rfl rfl (g := (mkF m 18 #[rS a,.val .null,jS q,dS,iS r,iS 0] [(.long q), (.ref a)])) rfl rfl (hb hy d17_1_18)
  have Fw6 : Fld Z h6 a "java/math/BigDecimal" "intCompact" "J" (.long q) := Fld.same W6 c_8
  have N6 := Fr.snoc X6 N3 P1
  refine gon T6 (mkF m 21 #[rS a,.val .null,jS q,dS,iS r,iS 0] []) (st6) ?_
  refine gon T6 (mkF m 23 #[rS a,.val .null,jS q,dS,iS r,iS 0] [.null, (.ref a)]) (fun _ k => XS.aloadN X6.here hx rfl (hb hy d17_1_21) rfl rfl (XS.aloadN X6.here hx rfl (hb hy d17_1_22) rfl rfl k)) ?_
  have c_10 := Exa.wr W6 c_7
  have c_11 := Fld.other W6 (Fld.other W3 (Fld.other W2 P2 (Or.inr (slot_ne (C := "java/math/BigDecimal") (Or.inr (w230 hw)) (Or.inr (w180 hw)) (by decide) (t := (.object "java/math/BigInteger")) (t' := .int) (by decide) (by decide)))) (Or.inr (slot_ne (C := "java/math/BigDecimal") (Or.inr (w230 hw)) (Or.inl (w228 hw)) (by decide) (t := (.object "java/math/BigInteger")) (t' := .int) (by decide) (by decide)))) (Or.inr (slot_ne (C := "java/math/BigDecimal") (Or.inr (w230 hw)) (Or.inr (w177 hw)) (by decide) (t := (.object "java/math/BigInteger")) (t' := .long) (by decide) (by decide)))
  obtain ⟨T9, h9, X9, e9, W9, st9⟩ := putF X6 hx hZ hown (host := "") (Or.inl (w229 hw)) Via.refl e6 c_11 c_10 (Or.inr ⟨(w230 hw), rfl, hnm⟩) (w215 hw) (ty := (.object "java/math/BigInteger")) (by decide) rfl rfl (g := (mkF m 23 #[rS a,.val .null,jS q,dS,iS r,iS 0] [.null, (.ref a)])) rfl rfl (hb hy d17_1_23)
  have Fw9 : Fld Z h9 a "java/math/BigDecimal" "intVal" "Ljava/math/BigInteger;" .null := Fld.same W9 c_11
  have N9 := Fr.snoc X9 N6 P1
  refine gon T9 (mkF m 26 #[rS a,.val .null,jS q,dS,iS r,iS 0] []) (st9) ?_
  have K_12 : Keep h0 h2 [a] := (Keep.refl h0 [a]).wr W2 (Or.inl (List.mem_of_getElem? (i := 0) rfl))
  have K_13 : Keep h0 h3 [a] := K_12.wr W3 (Or.inl (List.mem_of_getElem? (i := 0) rfl))
  have K_14 : Keep h0 h6 [a] := K_13.wr W6 (Or.inl (List.mem_of_getElem? (i := 0) rfl))
  have K_15 : Keep h0 h9 [a] := K_14.wr W9 (Or.inl (List.mem_of_getElem? (i := 0) rfl))
  have c_16 := Fld.other W9 (Fld.other W6 (Fld.other W3 Fw2 (Or.inr (slot_ne (C := "java/math/BigDecimal") (Or.inr (w180 hw)) (Or.inl (w228 hw)) (by decide) (t := .int) (t' := .int) (by decide) (by decide)))) (Or.inr (slot_ne (C := "java/math/BigDecimal") (Or.inr (w180 hw)) (Or.inr (w177 hw)) (by decide) (t := .int) (t' := .long) (by decide) (by decide)))) (Or.inr (slot_ne (C := "java/math/BigDecimal") (Or.inr (w180 hw)) (Or.inr (w230 hw)) (by decide) (t := .int) (t' := (.object "java/math/BigInteger")) (by decide) (by decide)))
  have c_17 := Fld.other W9 Fw6 (Or.inr (slot_ne (C := "java/math/BigDecimal") (Or.inr (w177 hw)) (Or.inr (w230 hw)) (by decide) (t := .long) (t' := (.object "java/math/BigInteger")) (by decide) (by decide)))
  have c_18 := Fld.other W9 (Fld.other W6 Fw3 (Or.inr (slot_ne (C := "java/math/BigDecimal") (Or.inl (w228 hw)) (Or.inr (w177 hw)) (by decide) (t := .int) (t' := .long) (by decide) (by decide)))) (Or.inr (slot_ne (C := "java/math/BigDecimal") (Or.inl (w228 hw)) (Or.inr (w230 hw)) (by decide) (t := .int) (t' := (.object "java/math/BigInteger")) (by decide) (by decide)))
  exact OwnW.retV X9 hx hlk hret (hb hy d17_1_26) (by decide) (by decide) (show QQ _ T9.heap _ from (by rw [e9]; exact ⟨rfl, N9, K_15, c_16, c_17, c_18⟩))
abbrev k17_21 := jdk_17_method_21_code
theorem d17_21_0 : decode k17_21 0 = .ok (.lload_n 0, 1) := by decide +kernel
theorem d17_21_1 : decode k17_21 1 = .ok (.lconst 0, 1) := by decide +kernel
theorem d17_21_2 : decode k17_21 2 = .ok (.lcmp, 1) := by decide +kernel
theorem d17_21_3 : decode k17_21 3 = .ok (.ifCond .lt 20, 3) := by decide +kernel
theorem d17_21_23 : decode k17_21 23 = .ok (.lload_n 0, 1) := by decide +kernel
theorem d17_21_24 : decode k17_21 24 = .ok (.ldc2_w 125, 3) := by decide +kernel
theorem w178 {Z a0} (hw : Ht a0 Z) : (Cond.constantLong "java/math/BigDecimal" (125 : Nat) (-9223372036854775808 : Int64)).before a0 Z = true := ht hw 178 rfl
theorem d17_21_27 : decode k17_21 27 = .ok (.lcmp, 1) := by decide +kernel
theorem d17_21_28 : decode k17_21 28 = .ok (.ifCond .eq 15, 3) := by decide +kernel
theorem d17_21_31 : decode k17_21 31 = .ok (.new 3, 3) := by decide +kernel
theorem w214 {Z a0} (hw : Ht a0 Z) : (Cond.classLink "java/math/BigDecimal" (3 : Nat) "java/math/BigDecimal").before a0 Z = true := ht hw 214 rfl
theorem w35 {Z a0} (hw : Ht a0 Z) : (Cond.initialized "java/math/BigDecimal").before a0 Z = true := ht hw 35 rfl
theorem d17_21_34 : decode k17_21 34 = .ok (.dup, 1) := by decide +kernel
theorem d17_21_35 : decode k17_21 35 = .ok (.aconst_null, 1) := by decide +kernel
theorem d17_21_36 : decode k17_21 36 = .ok (.lload_n 0, 1) := by decide +kernel
theorem d17_21_37 : decode k17_21 37 = .ok (.iconst 0, 1) := by decide +kernel
theorem d17_21_38 : decode k17_21 38 = .ok (.iconst 0, 1) := by decide +kernel
theorem d17_21_39 : decode k17_21 39 = .ok (.invokespecial 243, 3) := by decide +kernel
theorem w219 {Z a0} (hw : Ht a0 Z) : (Cond.code ⟨"java/math/BigDecimal", "<init>", "(Ljava/math/BigInteger;JII)V"⟩ jdk_17_method_1_code (6 : Nat) (Option.none : Option Jvm.ClassFile.FieldType)).before a0 Z = true := ht hw 219 rfl
theorem w216 {Z a0} (hw : Ht a0 Z) : (Cond.methodLink "java/math/BigDecimal" (243 : Nat) ⟨"java/math/BigDecimal", "<init>", "(Ljava/math/BigInteger;JII)V"⟩).before a0 Z = true := ht hw 216 rfl
theorem w217 {Z a0} (hw : Ht a0 Z) : (Cond.instanceMethod ⟨"java/math/BigDecimal", "<init>", "(Ljava/math/BigInteger;JII)V"⟩).before a0 Z = true := ht hw 217 rfl
theorem pd_6 : parseMethodDescriptor "(Ljava/math/BigInteger;JII)V" = some ⟨[(.object "java/math/BigInteger"), .long, .int, .int], none⟩ := by decide +kernel
theorem d17_21_42 : decode k17_21 42 = .ok (.areturn, 1) := by decide +kernel
theorem d17_21_6 : decode k17_21 6 = .ok (.lload_n 0, 1) := by decide +kernel
theorem d17_21_7 : decode k17_21 7 = .ok (.getstatic 246, 3) := by decide +kernel
theorem w40 {Z a0} (hw : Ht a0 Z) : (Cond.fieldLink "java/math/BigDecimal" (246 : Nat) "java/math/BigDecimal" "ZERO_THROUGH_TEN" "[Ljava/math/BigDecimal;").before a0 Z = true := ht hw 40 rfl
theorem d17_21_10 : decode k17_21 10 = .ok (.arraylength, 1) := by decide +kernel
theorem d17_21_11 : decode k17_21 11 = .ok (.i2l, 1) := by decide +kernel
theorem d17_21_12 : decode k17_21 12 = .ok (.lcmp, 1) := by decide +kernel
theorem d17_21_13 : decode k17_21 13 = .ok (.ifCond .ge 10, 3) := by decide +kernel
theorem d17_21_16 : decode k17_21 16 = .ok (.getstatic 246, 3) := by decide +kernel
theorem d17_21_19 : decode k17_21 19 = .ok (.lload_n 0, 1) := by decide +kernel
theorem d17_21_20 : decode k17_21 20 = .ok (.l2i, 1) := by decide +kernel
theorem d17_21_21 : decode k17_21 21 = .ok (.aaload, 1) := by decide +kernel
theorem d17_21_22 : decode k17_21 22 = .ok (.areturn, 1) := by decide +kernel
def Q_valJ (Z : State) (q : Int64) (wZ : Addr) (wT : Addr) (wS : Addr) (wP : Addr) (wH : Addr) (kT : ClassId) (kS : ClassId) (kP : ClassId) (kH : ClassId) (zt : Nat → Addr) (zs : Nat → Addr) (h0 : Heap) (n0 : Nat) (v : Option Value) (h : Heap) (L : List Loc) : Prop := ∃ b : Addr, v = some (.ref b) ∧ Fr n0 L ∧ Keep h0 h [] ∧ BDV Z h n0 b q (0 : Int32)
set_option maxRecDepth 65536 in
set_option maxHeartbeats 40000000 in
theorem valJ (l : Launch) (Z : State) (a0 : Array Value) (hw : Ht a0 Z) (q : Int64) (wZ : Addr) (wT : Addr) (wS : Addr) (wP : Addr) (wH : Addr) (kT : ClassId) (kS : ClassId) (kP : ClassId) (kH : ClassId) (zt : Nat → Addr) (zs : Nat → Addr) (h0 : Heap) (n0 : Nat) (Z0 : n0 ≤ h0.size) (O0 : Old Z n0 h0) (P0 : BigS Z wZ wT wS wP wH kT kS kP kH zt zs) (P1 : ¬ (q = (-9223372036854775808 : Int64))) :
    Con l Z (⟨"java/math/BigDecimal", "valueOf", "(J)Ljava/math/BigDecimal;"⟩ : MethodName) jdk_17_method_21_code 2 (some (.object "java/math/BigDecimal")) ({ frames := 3, cells := 1, slots := 5, locals := 42 } : Room) #[(.long q)] h0 (Q_valJ Z q wZ wT wS wP wH kT kS kP kH zt zs h0 n0) := by
  refine OwnW.body (Ls := #[jS q, dS]) (plainFor_of_name pn_5) (fun m => by first | (simp [entryFrame, mkF, argsToLocals, Value.category]; done) | rfl) ?_
  intro p e s m below meth c s₁ hx hy hml hown hnm hret hlk hZ X0 e0
  let QQ := Q_valJ Z q wZ wT wS wP wH kT kS kP kH zt zs h0 n0
  have N0 := Fr.nil n0
  show Go p e below (s₁.setTop (mkF m 0 #[jS q, dS] [])) (EndQ s below ({ frames := 3, cells := 1, slots := 5, locals := 42 } : Room).cells ({ frames := 3, cells := 1, slots := 5, locals := 42 } : Room).slots QQ)
  have ⟨bZ, bZv, bT, bTv, bTa, bS, bSv, bSa, bP, bPv, bH, bHv, bA⟩ := P0
  refine gon s₁ (mkF m 3 #[jS q,dS] [(.int (lcmpW q (0 : Int64)))]) (fun _ k => XS.lloadN X0.here hx rfl (hb hy d17_21_0) rfl (XS.lconst X0.here hx rfl (hb hy d17_21_1) (XS.lcmp X0.here hx rfl (hb hy d17_21_2) rfl k))) ?_
  by_cases hc3_1 : q < (0 : Int64)
  · refine gon s₁ (mkF m 24 #[jS q,dS] [(.long q)]) (fun _ k => XS.ifYes X0.here hx rfl (pc0 := 3) (pc' := 23) rfl (hb hy d17_21_3) rfl ((if0 _ _).trans (tlt ((lw_lt q (0 : Int64)).mpr hc3_1)).1) (by decide) (by decide) (XS.lloadN X0.here hx rfl (hb hy d17_21_23) rfl k)) ?_
    refine gon s₁ (mkF m 27 #[jS q,dS] [(.long (-9223372036854775808)), (.long q)]) (X0.ldc2Long hx hown (mvT hZ (w178 hw)) (g := (mkF m 24 #[jS q,dS] [(.long q)])) rfl (hb hy d17_21_24)) ?_
    refine gon s₁ (mkF m 28 #[jS q,dS] [(.int (lcmpW q (-9223372036854775808 : Int64)))]) (fun _ k => XS.lcmp X0.here hx rfl (hb hy d17_21_27) rfl k) ?_
    refine gon s₁ (mkF m 31 #[jS q,dS] []) (fun _ k => XS.ifNo X0.here hx rfl (hb hy d17_21_28) rfl ((if0 _ _).trans (feq (fun zq => (P1 : ¬ (q = (-9223372036854775808 : Int64))) ((lw_eq q (-9223372036854775808 : Int64)).mp zq))).1) k) ?_
    obtain ⟨T2, h2, b2, X2, e2, E2, s2, A2, D2, st2⟩ := OwnW.newO X0 hx hZ hown (w214 hw) (w215 hw) (w35 hw) e0 (Ls := #[jS q, dS]) (st := []) (hb hy d17_21_31) (by decide) (by decide)
    have F2_intCompact : Fld Z h2 b2 "java/math/BigDecimal" "intCompact" "J" (.long (0 : Int64)) := D2 (Or.inr (w177 hw)) (ty := .long) (by decide)
    have F2_scale : Fld Z h2 b2 "java/math/BigDecimal" "scale" "I" (.int (0 : Int32)) := D2 (Or.inr (w180 hw)) (ty := .int) (by decide)
    have F2_precision : Fld Z h2 b2 "java/math/BigDecimal" "precision" "I" (.int (0 : Int32)) := D2 (Or.inl (w228 hw)) (ty := .int) (by decide)
    have F2_intVal : Fld Z h2 b2 "java/math/BigDecimal" "intVal" "Ljava/math/BigInteger;" .null := D2 (Or.inr (w230 hw)) (ty := (.object "java/math/BigInteger")) (by decide)
    refine gon T2 (mkF m 34 #[jS q,dS] [(.ref b2)]) (st2) ?_
    refine gon T2 (mkF m 39 #[jS q,dS] [(.int 0), (.int 0), (.long q), .null, (.ref b2), (.ref b2)]) (fun _ k => XS.dup X2.here hx rfl (hb hy d17_21_34) rfl rfl (XS.aconstNull X2.here hx rfl (hb hy d17_21_35) (XS.lloadN X2.here hx rfl (hb hy d17_21_36) rfl (XS.iconst X2.here hx rfl (hb hy d17_21_37) (XS.iconst X2.here hx rfl (hb hy d17_21_38) k))))) ?_
    have g_4 : n0 ≤ b2 := Nat.le_trans Z0 s2
    have Z_5 : n0 ≤ h2.size := Nat.le_trans Z0 E2.1
    obtain ⟨v3, T3, L3, X3, hQ3, st3⟩ := OwnW.callC (y := (⟨"java/math/BigDecimal", "<init>", "(Ljava/math/BigInteger;JII)V"⟩ : MethodName)) X2 hx hZ hown rfl (w216 hw) (w217 hw) (w35 hw) (w219 hw) (by decide) (b := b2) (bdInit l Z a0 hw b2 q (0 : Int32) h2 n0 Z_5 A2 g_4 F2_intVal F2_scale F2_intCompact F2_precision) e2 (Ls := #[jS q, dS]) (by rw [hml]; rfl) pd_6 (argsL := [.null, (.long q), (.int (0 : Int32)), (.int (0 : Int32))]) rfl (rest := [(.ref b2)]) rfl (W := 1) rfl (hb hy d17_21_39) (by decide) (by decide) (by decide) (by decide)
    obtain ⟨rfl, Nq3, Kq3, q3_0, q3_1, q3_2⟩ := hQ3
    have N3 := Fr.app N0 Nq3
    refine gon T3 (mkF m 42 #[jS q,dS] [(.ref b2)]) (st3) ?_
    have c_7 := Exa.keep A2 Kq3
    have B_6 : BDV Z T3.heap n0 b2 q (0 : Int32) := BDV.mk0 c_7 q3_0 q3_1 q3_2 g_4
    have K_8 : Keep h0 h2 [] := (Keep.refl h0 []).ext E2
    have K_9 : Keep h0 T3.heap [] := K_8.trans Kq3 (allS (Or.inr (Nat.le_trans (Nat.le_refl _) s2)) all0)
    exact OwnW.retA X3 hx hlk hret rfl rfl (hb hy d17_21_42) (by decide) (by decide) (show QQ _ T3.heap _ from ⟨b2, rfl, N3, K_9, B_6⟩)
  · refine gon s₁ (mkF m 7 #[jS q,dS] [(.long q)]) (fun _ k => XS.ifNo X0.here hx rfl (hb hy d17_21_3) rfl ((if0 _ _).trans (flt (fun zq => hc3_1 ((lw_lt q (0 : Int64)).mp zq))).1) (XS.lloadN X0.here hx rfl (hb hy d17_21_6) rfl k)) ?_
    have s_11 := Sta.ext O0.2 bT
    obtain ⟨T10, X10, e10, st10⟩ := getS2 X0 hx hZ hown (host := "") (Or.inl (w40 hw)) Via.refl e0 s_11 (g := (mkF m 7 #[jS q,dS] [(.long q)])) rfl (hb hy d17_21_7)
    refine gon T10 (mkF m 10 #[jS q,dS] [(.ref wT), (.long q)]) (st10) ?_
    have s_12 := Arv.ext bTv O0.2
    refine gon T10 (mkF m 11 #[jS q,dS] [(.int 11), (.long q)]) (aLen X10 hx hZ e10 s_12 (hb hy d17_21_10)) ?_
    refine gon T10 (mkF m 13 #[jS q,dS] [(.int (lcmpW q (11 : Int64)))]) (fun _ k => XS.i2l X10.here hx rfl (hb hy d17_21_11) rfl (XS.lcmp X10.here hx rfl (hb hy d17_21_12) rfl k)) ?_
    by_cases hc13_13 : q < (11 : Int64)
    · refine gon T10 (mkF m 16 #[jS q,dS] []) (fun _ k => XS.ifNo X10.here hx rfl (hb hy d17_21_13) rfl ((if0 _ _).trans (tlt ((lw_lt q (11 : Int64)).mpr hc13_13)).2.1) k) ?_
      obtain ⟨T14, X14, e14, st14⟩ := getS2 X10 hx hZ hown (host := "") (Or.inl (w40 hw)) Via.refl e10 s_11 (g := (mkF m 16 #[jS q,dS] [])) rfl (hb hy d17_21_16)
      refine gon T14 (mkF m 19 #[jS q,dS] [(.ref wT)]) (st14) ?_
      refine gon T14 (mkF m 21 #[jS q,dS] [(.int (q.toInt32)), (.ref wT)]) (fun _ k => XS.lloadN X14.here hx rfl (hb hy d17_21_19) rfl (XS.l2i X14.here hx rfl (hb hy d17_21_20) rfl k)) ?_
      obtain ⟨iz_15, hi, hq, hj, hj0, hj1⟩ := own_sz hc3_1 hc13_13
      obtain ⟨z_15, hz⟩ : ∃ z, z = zt iz_15 := ⟨_, rfl⟩
      have hB : BDV Z Z.heap n0 z_15 q (0 : Int32) := by
        obtain ⟨a1, a2, a3, d, a4, a5⟩ := bTa iz_15 hi
        rw [hz, hq]
        exact ⟨a1, a2, a3, fun ne => ⟨d, a4, Or.inr (a5 (own_ofNat0 hi ne))⟩⟩
      refine gon T14 (mkF m 22 #[jS q,dS] [(.ref z_15)]) (ldA X14 hx hZ e14 s_12 rfl ⟨hj0, hj1⟩ (hz ▸ own_get11 zt hi hj) (hb hy d17_21_21)) ?_
      have s_16 := BDV.ext hB O0.2
      exact OwnW.retA X14 hx hlk hret rfl rfl (hb hy d17_21_22) (by decide) (by decide) (show QQ _ T14.heap _ from (by rw [e14]; exact ⟨z_15, rfl, N0, (Keep.refl h0 []), s_16⟩))
    · refine gon T10 (mkF m 24 #[jS q,dS] [(.long q)]) (fun _ k => XS.ifYes X10.here hx rfl (pc0 := 13) (pc' := 23) rfl (hb hy d17_21_13) rfl ((if0 _ _).trans (flt (fun zq => hc13_13 ((lw_lt q (11 : Int64)).mp zq))).2.1) (by decide) (by decide) (XS.lloadN X10.here hx rfl (hb hy d17_21_23) rfl k)) ?_
      refine gon T10 (mkF m 27 #[jS q,dS] [(.long (-9223372036854775808)), (.long q)]) (X10.ldc2Long hx hown (mvT hZ (w178 hw)) (g := (mkF m 24 #[jS q,dS] [(.long q)])) rfl (hb hy d17_21_24)) ?_
      refine gon T10 (mkF m 28 #[jS q,dS] [(.int (lcmpW q (-9223372036854775808 : Int64)))]) (fun _ k => XS.lcmp X10.here hx rfl (hb hy d17_21_27) rfl k) ?_
      refine gon T10 (mkF m 31 #[jS q,dS] []) (fun _ k => XS.ifNo X10.here hx rfl (hb hy d17_21_28) rfl ((if0 _ _).trans (feq (fun zq => (P1 : ¬ (q = (-9223372036854775808 : Int64))) ((lw_eq q (-9223372036854775808 : Int64)).mp zq))).1) k) ?_
      obtain ⟨T17, h17, b17, X17, e17, E17, s17, A17, D17, st17⟩ := OwnW.newO X10 hx hZ hown (w214 hw) (w215 hw) (w35 hw) e10 (Ls := #[jS q, dS]) (st := []) (hb hy d17_21_31) (by decide) (by decide)
      have F17_intCompact : Fld Z h17 b17 "java/math/BigDecimal" "intCompact" "J" (.long (0 : Int64)) := D17 (Or.inr (w177 hw)) (ty := .long) (by decide)
      have F17_scale : Fld Z h17 b17 "java/math/BigDecimal" "scale" "I" (.int (0 : Int32)) := D17 (Or.inr (w180 hw)) (ty := .int) (by decide)
      have F17_precision : Fld Z h17 b17 "java/math/BigDecimal" "precision" "I" (.int (0 : Int32)) := D17 (Or.inl (w228 hw)) (ty := .int) (by decide)
      have F17_intVal : Fld Z h17 b17 "java/math/BigDecimal" "intVal" "Ljava/math/BigInteger;" .null := D17 (Or.inr (w230 hw)) (ty := (.object "java/math/BigInteger")) (by decide)
      refine gon T17 (mkF m 34 #[jS q,dS] [(.ref b17)]) (st17) ?_
      refine gon T17 (mkF m 39 #[jS q,dS] [(.int 0), (.int 0), (.long q), .null, (.ref b17), (.ref b17)]) (fun _ k => XS.dup X17.here hx rfl (hb hy d17_21_34) rfl rfl (XS.aconstNull X17.here hx rfl (hb hy d17_21_35) (XS.lloadN X17.here hx rfl (hb hy d17_21_36) rfl (XS.iconst X17.here hx rfl (hb hy d17_21_37) (XS.iconst X17.here hx rfl (hb hy d17_21_38) k))))) ?_
      have g_19 : n0 ≤ b17 := Nat.le_trans Z0 s17
      have Z_20 : n0 ≤ h17.size := Nat.le_trans Z0 E17.1
      obtain ⟨v18, T18, L18, X18, hQ18, st18⟩ := OwnW.callC (y := (⟨"java/math/BigDecimal", "<init>", "(Ljava/math/BigInteger;JII)V"⟩ : MethodName)) X17 hx hZ hown rfl (w216 hw) (w217 hw) (w35 hw) (w219 hw) (by decide) (b := b17) (bdInit l Z a0 hw b17 q (0 : Int32) h17 n0 Z_20 A17 g_19 F17_intVal F17_scale F17_intCompact F17_precision) e17 (Ls := #[jS q, dS]) (by rw [hml]; rfl) pd_6 (argsL := [.null, (.long q), (.int (0 : Int32)), (.int (0 : Int32))]) rfl (rest := [(.ref b17)]) rfl (W := 1) rfl (hb hy d17_21_39) (by decide) (by decide) (by decide) (by decide)
      obtain ⟨rfl, Nq18, Kq18, q18_0, q18_1, q18_2⟩ := hQ18
      have N18 := Fr.app N0 Nq18
      refine gon T18 (mkF m 42 #[jS q,dS] [(.ref b17)]) (st18) ?_
      have c_22 := Exa.keep A17 Kq18
      have B_21 : BDV Z T18.heap n0 b17 q (0 : Int32) := BDV.mk0 c_22 q18_0 q18_1 q18_2 g_19
      have K_23 : Keep h0 h17 [] := (Keep.refl h0 []).ext E17
      have K_24 : Keep h0 T18.heap [] := K_23.trans Kq18 (allS (Or.inr (Nat.le_trans (Nat.le_refl _) s17)) all0)
      exact OwnW.retA X18 hx hlk hret rfl rfl (hb hy d17_21_42) (by decide) (by decide) (show QQ _ T18.heap _ from ⟨b17, rfl, N18, K_24, B_21⟩)
abbrev k17_24 := jdk_17_method_24_code
theorem d17_24_0 : decode k17_24 0 = .ok (.iload_n 0, 1) := by decide +kernel
theorem d17_24_1 : decode k17_24 1 = .ok (.ifCond .lt 17, 3) := by decide +kernel
theorem d17_24_4 : decode k17_24 4 = .ok (.iload_n 0, 1) := by decide +kernel
theorem d17_24_5 : decode k17_24 5 = .ok (.getstatic 250, 3) := by decide +kernel
theorem w194 {Z a0} (hw : Ht a0 Z) : (Cond.fieldLink "java/math/BigDecimal" (250 : Nat) "java/math/BigDecimal" "ZERO_SCALED_BY" "[Ljava/math/BigDecimal;").before a0 Z = true := ht hw 194 rfl
theorem d17_24_8 : decode k17_24 8 = .ok (.arraylength, 1) := by decide +kernel
theorem d17_24_9 : decode k17_24 9 = .ok (.if_icmp .ge 9, 3) := by decide +kernel
theorem d17_24_12 : decode k17_24 12 = .ok (.getstatic 250, 3) := by decide +kernel
theorem d17_24_15 : decode k17_24 15 = .ok (.iload_n 0, 1) := by decide +kernel
theorem d17_24_16 : decode k17_24 16 = .ok (.aaload, 1) := by decide +kernel
theorem d17_24_17 : decode k17_24 17 = .ok (.areturn, 1) := by decide +kernel
def Q_zero1 (Z : State) (wZ : Addr) (wT : Addr) (wS : Addr) (wP : Addr) (wH : Addr) (kT : ClassId) (kS : ClassId) (kP : ClassId) (kH : ClassId) (zt : Nat → Addr) (zs : Nat → Addr) (h0 : Heap) (n0 : Nat) (v : Option Value) (h : Heap) (L : List Loc) : Prop := ∃ b : Addr, v = some (.ref b) ∧ Fr n0 L ∧ Keep h0 h [] ∧ BDV Z h n0 b (0 : Int64) (1 : Int32)
set_option maxRecDepth 65536 in
set_option maxHeartbeats 40000000 in
theorem zero1 (l : Launch) (Z : State) (a0 : Array Value) (hw : Ht a0 Z) (wZ : Addr) (wT : Addr) (wS : Addr) (wP : Addr) (wH : Addr) (kT : ClassId) (kS : ClassId) (kP : ClassId) (kH : ClassId) (zt : Nat → Addr) (zs : Nat → Addr) (h0 : Heap) (n0 : Nat) (Z0 : n0 ≤ h0.size) (O0 : Old Z n0 h0) (P0 : BigS Z wZ wT wS wP wH kT kS kP kH zt zs) :
    Con l Z (⟨"java/math/BigDecimal", "zeroValueOf", "(I)Ljava/math/BigDecimal;"⟩ : MethodName) jdk_17_method_24_code 1 (some (.object "java/math/BigDecimal")) ({ frames := 0, cells := 0, slots := 0, locals := 0 } : Room) #[(.int (1 : Int32))] h0 (Q_zero1 Z wZ wT wS wP wH kT kS kP kH zt zs h0 n0) := by
  refine OwnW.body (Ls := #[iS 1]) (plainFor_of_name pn_5) (fun m => by first | (simp [entryFrame, mkF, argsToLocals, Value.category]; done) | rfl) ?_
  intro p e s m below meth c s₁ hx hy hml hown hnm hret hlk hZ X0 e0
  let QQ := Q_zero1 Z wZ wT wS wP wH kT kS kP kH zt zs h0 n0
  have N0 := Fr.nil n0
  show Go p e below (s₁.setTop (mkF m 0 #[iS 1] [])) (EndQ s below ({ frames := 0, cells := 0, slots := 0, locals := 0 } : Room).cells ({ frames := 0, cells := 0, slots := 0, locals := 0 } : Room).slots QQ)
  have ⟨bZ, bZv, bT, bTv, bTa, bS, bSv, bSa, bP, bPv, bH, bHv, bA⟩ := P0
  refine gon s₁ (mkF m 1 #[iS 1] [(.int 1)]) (fun _ k => XS.iloadN X0.here hx rfl (hb hy d17_24_0) rfl k) ?_
  refine gon s₁ (mkF m 5 #[iS 1] [(.int 1)]) (fun _ k => XS.ifNo X0.here hx rfl (hb hy d17_24_1) rfl ((if0 _ _).trans (flt (by decide : ¬ ((1 : Int32) < (0 : Int32)))).1) (XS.iloadN X0.here hx rfl (hb hy d17_24_4) rfl k)) ?_
  have s_2 := Sta.ext O0.2 bS
  obtain ⟨T1, X1, e1, st1⟩ := getS2 X0 hx hZ hown (host := "") (Or.inl (w194 hw)) Via.refl e0 s_2 (g := (mkF m 5 #[iS 1] [(.int 1)])) rfl (hb hy d17_24_5)
  refine gon T1 (mkF m 8 #[iS 1] [(.ref wS), (.int 1)]) (st1) ?_
  have s_3 := Arv.ext bSv O0.2
  refine gon T1 (mkF m 9 #[iS 1] [(.int 16), (.int 1)]) (aLen X1 hx hZ e1 s_3 (hb hy d17_24_8)) ?_
  refine gon T1 (mkF m 12 #[iS 1] []) (fun _ k => XS.icmpNo X1.here hx rfl (hb hy d17_24_9) rfl (tlt (by decide : (1 : Int32) < (16 : Int32))).2.1 k) ?_
  obtain ⟨T4, X4, e4, st4⟩ := getS2 X1 hx hZ hown (host := "") (Or.inl (w194 hw)) Via.refl e1 s_2 (g := (mkF m 12 #[iS 1] [])) rfl (hb hy d17_24_12)
  refine gon T4 (mkF m 15 #[iS 1] [(.ref wS)]) (st4) ?_
  refine gon T4 (mkF m 16 #[iS 1] [(.int 1), (.ref wS)]) (fun _ k => XS.iloadN X4.here hx rfl (hb hy d17_24_15) rfl k) ?_
  refine gon T4 (mkF m 17 #[iS 1] [(.ref (zs 1))]) (ldA X4 hx hZ e4 s_3 rfl ⟨by decide, by decide⟩ rfl (hb hy d17_24_16)) ?_
  have hB : BDV Z Z.heap n0 (zs 1) (0 : Int64) (1 : Int32) := ⟨(bSa 1 (by decide)).1, (bSa 1 (by decide)).2.1, (bSa 1 (by decide)).2.2, fun q => absurd rfl q⟩
  have s_5 := BDV.ext hB O0.2
  exact OwnW.retA X4 hx hlk hret rfl rfl (hb hy d17_24_17) (by decide) (by decide) (show QQ _ T4.heap _ from (by rw [e4]; exact ⟨(zs 1), rfl, N0, (Keep.refl h0 []), s_5⟩))
def Q_zero2 (Z : State) (wZ : Addr) (wT : Addr) (wS : Addr) (wP : Addr) (wH : Addr) (kT : ClassId) (kS : ClassId) (kP : ClassId) (kH : ClassId) (zt : Nat → Addr) (zs : Nat → Addr) (h0 : Heap) (n0 : Nat) (v : Option Value) (h : Heap) (L : List Loc) : Prop := ∃ b : Addr, v = some (.ref b) ∧ Fr n0 L ∧ Keep h0 h [] ∧ BDV Z h n0 b (0 : Int64) (2 : Int32)
set_option maxRecDepth 65536 in
set_option maxHeartbeats 40000000 in
theorem zero2 (l : Launch) (Z : State) (a0 : Array Value) (hw : Ht a0 Z) (wZ : Addr) (wT : Addr) (wS : Addr) (wP : Addr) (wH : Addr) (kT : ClassId) (kS : ClassId) (kP : ClassId) (kH : ClassId) (zt : Nat → Addr) (zs : Nat → Addr) (h0 : Heap) (n0 : Nat) (Z0 : n0 ≤ h0.size) (O0 : Old Z n0 h0) (P0 : BigS Z wZ wT wS wP wH kT kS kP kH zt zs) :
    Con l Z (⟨"java/math/BigDecimal", "zeroValueOf", "(I)Ljava/math/BigDecimal;"⟩ : MethodName) jdk_17_method_24_code 1 (some (.object "java/math/BigDecimal")) ({ frames := 0, cells := 0, slots := 0, locals := 0 } : Room) #[(.int (2 : Int32))] h0 (Q_zero2 Z wZ wT wS wP wH kT kS kP kH zt zs h0 n0) := by
  refine OwnW.body (Ls := #[iS 2]) (plainFor_of_name pn_5) (fun m => by first | (simp [entryFrame, mkF, argsToLocals, Value.category]; done) | rfl) ?_
  intro p e s m below meth c s₁ hx hy hml hown hnm hret hlk hZ X0 e0
  let QQ := Q_zero2 Z wZ wT wS wP wH kT kS kP kH zt zs h0 n0
  have N0 := Fr.nil n0
  show Go p e below (s₁.setTop (mkF m 0 #[iS 2] [])) (EndQ s below ({ frames := 0, cells := 0, slots := 0, locals := 0 } : Room).cells ({ frames := 0, cells := 0, slots := 0, locals := 0 } : Room).slots QQ)
  have ⟨bZ, bZv, bT, bTv, bTa, bS, bSv, bSa, bP, bPv, bH, bHv, bA⟩ := P0
  refine gon s₁ (mkF m 1 #[iS 2] [(.int 2)]) (fun _ k => XS.iloadN X0.here hx rfl (hb hy d17_24_0) rfl k) ?_
  refine gon s₁ (mkF m 5 #[iS 2] [(.int 2)]) (fun _ k => XS.ifNo X0.here hx rfl (hb hy d17_24_1) rfl ((if0 _ _).trans (flt (by decide : ¬ ((2 : Int32) < (0 : Int32)))).1) (XS.iloadN X0.here hx rfl (hb hy d17_24_4) rfl k)) ?_
  have s_2 := Sta.ext O0.2 bS
  obtain ⟨T1, X1, e1, st1⟩ := getS2 X0 hx hZ hown (host := "") (Or.inl (w194 hw)) Via.refl e0 s_2 (g := (mkF m 5 #[iS 2] [(.int 2)])) rfl (hb hy d17_24_5)
  refine gon T1 (mkF m 8 #[iS 2] [(.ref wS), (.int 2)]) (st1) ?_
  have s_3 := Arv.ext bSv O0.2
  refine gon T1 (mkF m 9 #[iS 2] [(.int 16), (.int 2)]) (aLen X1 hx hZ e1 s_3 (hb hy d17_24_8)) ?_
  refine gon T1 (mkF m 12 #[iS 2] []) (fun _ k => XS.icmpNo X1.here hx rfl (hb hy d17_24_9) rfl (tlt (by decide : (2 : Int32) < (16 : Int32))).2.1 k) ?_
  obtain ⟨T4, X4, e4, st4⟩ := getS2 X1 hx hZ hown (host := "") (Or.inl (w194 hw)) Via.refl e1 s_2 (g := (mkF m 12 #[iS 2] [])) rfl (hb hy d17_24_12)
  refine gon T4 (mkF m 15 #[iS 2] [(.ref wS)]) (st4) ?_
  refine gon T4 (mkF m 16 #[iS 2] [(.int 2), (.ref wS)]) (fun _ k => XS.iloadN X4.here hx rfl (hb hy d17_24_15) rfl k) ?_
  refine gon T4 (mkF m 17 #[iS 2] [(.ref (zs 2))]) (ldA X4 hx hZ e4 s_3 rfl ⟨by decide, by decide⟩ rfl (hb hy d17_24_16)) ?_
  have hB : BDV Z Z.heap n0 (zs 2) (0 : Int64) (2 : Int32) := ⟨(bSa 2 (by decide)).1, (bSa 2 (by decide)).2.1, (bSa 2 (by decide)).2.2, fun q => absurd rfl q⟩
  have s_5 := BDV.ext hB O0.2
  exact OwnW.retA X4 hx hlk hret rfl rfl (hb hy d17_24_17) (by decide) (by decide) (show QQ _ T4.heap _ from (by rw [e4]; exact ⟨(zs 2), rfl, N0, (Keep.refl h0 []), s_5⟩))
def Q_zero3 (Z : State) (wZ : Addr) (wT : Addr) (wS : Addr) (wP : Addr) (wH : Addr) (kT : ClassId) (kS : ClassId) (kP : ClassId) (kH : ClassId) (zt : Nat → Addr) (zs : Nat → Addr) (h0 : Heap) (n0 : Nat) (v : Option Value) (h : Heap) (L : List Loc) : Prop := ∃ b : Addr, v = some (.ref b) ∧ Fr n0 L ∧ Keep h0 h [] ∧ BDV Z h n0 b (0 : Int64) (3 : Int32)
set_option maxRecDepth 65536 in
set_option maxHeartbeats 40000000 in
theorem zero3 (l : Launch) (Z : State) (a0 : Array Value) (hw : Ht a0 Z) (wZ : Addr) (wT : Addr) (wS : Addr) (wP : Addr) (wH : Addr) (kT : ClassId) (kS : ClassId) (kP : ClassId) (kH : ClassId) (zt : Nat → Addr) (zs : Nat → Addr) (h0 : Heap) (n0 : Nat) (Z0 : n0 ≤ h0.size) (O0 : Old Z n0 h0) (P0 : BigS Z wZ wT wS wP wH kT kS kP kH zt zs) :
    Con l Z (⟨"java/math/BigDecimal", "zeroValueOf", "(I)Ljava/math/BigDecimal;"⟩ : MethodName) jdk_17_method_24_code 1 (some (.object "java/math/BigDecimal")) ({ frames := 0, cells := 0, slots := 0, locals := 0 } : Room) #[(.int (3 : Int32))] h0 (Q_zero3 Z wZ wT wS wP wH kT kS kP kH zt zs h0 n0) := by
  refine OwnW.body (Ls := #[iS 3]) (plainFor_of_name pn_5) (fun m => by first | (simp [entryFrame, mkF, argsToLocals, Value.category]; done) | rfl) ?_
  intro p e s m below meth c s₁ hx hy hml hown hnm hret hlk hZ X0 e0
  let QQ := Q_zero3 Z wZ wT wS wP wH kT kS kP kH zt zs h0 n0
  have N0 := Fr.nil n0
  show Go p e below (s₁.setTop (mkF m 0 #[iS 3] [])) (EndQ s below ({ frames := 0, cells := 0, slots := 0, locals := 0 } : Room).cells ({ frames := 0, cells := 0, slots := 0, locals := 0 } : Room).slots QQ)
  have ⟨bZ, bZv, bT, bTv, bTa, bS, bSv, bSa, bP, bPv, bH, bHv, bA⟩ := P0
  refine gon s₁ (mkF m 1 #[iS 3] [(.int 3)]) (fun _ k => XS.iloadN X0.here hx rfl (hb hy d17_24_0) rfl k) ?_
  refine gon s₁ (mkF m 5 #[iS 3] [(.int 3)]) (fun _ k => XS.ifNo X0.here hx rfl (hb hy d17_24_1) rfl ((if0 _ _).trans (flt (by decide : ¬ ((3 : Int32) < (0 : Int32)))).1) (XS.iloadN X0.here hx rfl (hb hy d17_24_4) rfl k)) ?_
  have s_2 := Sta.ext O0.2 bS
  obtain ⟨T1, X1, e1, st1⟩ := getS2 X0 hx hZ hown (host := "") (Or.inl (w194 hw)) Via.refl e0 s_2 (g := (mkF m 5 #[iS 3] [(.int 3)])) rfl (hb hy d17_24_5)
  refine gon T1 (mkF m 8 #[iS 3] [(.ref wS), (.int 3)]) (st1) ?_
  have s_3 := Arv.ext bSv O0.2
  refine gon T1 (mkF m 9 #[iS 3] [(.int 16), (.int 3)]) (aLen X1 hx hZ e1 s_3 (hb hy d17_24_8)) ?_
  refine gon T1 (mkF m 12 #[iS 3] []) (fun _ k => XS.icmpNo X1.here hx rfl (hb hy d17_24_9) rfl (tlt (by decide : (3 : Int32) < (16 : Int32))).2.1 k) ?_
  obtain ⟨T4, X4, e4, st4⟩ := getS2 X1 hx hZ hown (host := "") (Or.inl (w194 hw)) Via.refl e1 s_2 (g := (mkF m 12 #[iS 3] [])) rfl (hb hy d17_24_12)
  refine gon T4 (mkF m 15 #[iS 3] [(.ref wS)]) (st4) ?_
  refine gon T4 (mkF m 16 #[iS 3] [(.int 3), (.ref wS)]) (fun _ k => XS.iloadN X4.here hx rfl (hb hy d17_24_15) rfl k) ?_
  refine gon T4 (mkF m 17 #[iS 3] [(.ref (zs 3))]) (ldA X4 hx hZ e4 s_3 rfl ⟨by decide, by decide⟩ rfl (hb hy d17_24_16)) ?_
  have hB : BDV Z Z.heap n0 (zs 3) (0 : Int64) (3 : Int32) := ⟨(bSa 3 (by decide)).1, (bSa 3 (by decide)).2.1, (bSa 3 (by decide)).2.2, fun q => absurd rfl q⟩
  have s_5 := BDV.ext hB O0.2
  exact OwnW.retA X4 hx hlk hret rfl rfl (hb hy d17_24_17) (by decide) (by decide) (show QQ _ T4.heap _ from (by rw [e4]; exact ⟨(zs 3), rfl, N0, (Keep.refl h0 []), s_5⟩))
abbrev k17_20 := jdk_17_method_20_code
theorem d17_20_0 : decode k17_20 0 = .ok (.iload_n 2, 1) := by decide +kernel
theorem d17_20_1 : decode k17_20 1 = .ok (.ifCond .ne 8, 3) := by decide +kernel
theorem d17_20_4 : decode k17_20 4 = .ok (.lload_n 0, 1) := by decide +kernel
theorem d17_20_5 : decode k17_20 5 = .ok (.invokestatic 236, 3) := by decide +kernel
theorem w39 {Z a0} (hw : Ht a0 Z) : (Cond.code ⟨"java/math/BigDecimal", "valueOf", "(J)Ljava/math/BigDecimal;"⟩ jdk_17_method_21_code (2 : Nat) (Option.some (Jvm.ClassFile.FieldType.object "java/math/BigDecimal"))).before a0 Z = true := ht hw 39 rfl
theorem w37 {Z a0} (hw : Ht a0 Z) : (Cond.methodLink "java/math/BigDecimal" (236 : Nat) ⟨"java/math/BigDecimal", "valueOf", "(J)Ljava/math/BigDecimal;"⟩).before a0 Z = true := ht hw 37 rfl
theorem w38 {Z a0} (hw : Ht a0 Z) : (Cond.static ⟨"java/math/BigDecimal", "valueOf", "(J)Ljava/math/BigDecimal;"⟩).before a0 Z = true := ht hw 38 rfl
theorem pd_7 : parseMethodDescriptor "(J)Ljava/math/BigDecimal;" = some ⟨[.long], some (.object "java/math/BigDecimal")⟩ := by decide +kernel
theorem d17_20_8 : decode k17_20 8 = .ok (.areturn, 1) := by decide +kernel
theorem d17_20_9 : decode k17_20 9 = .ok (.lload_n 0, 1) := by decide +kernel
theorem d17_20_10 : decode k17_20 10 = .ok (.lconst 0, 1) := by decide +kernel
theorem d17_20_11 : decode k17_20 11 = .ok (.lcmp, 1) := by decide +kernel
theorem d17_20_12 : decode k17_20 12 = .ok (.ifCond .ne 8, 3) := by decide +kernel
theorem d17_20_15 : decode k17_20 15 = .ok (.iload_n 2, 1) := by decide +kernel
theorem d17_20_16 : decode k17_20 16 = .ok (.invokestatic 239, 3) := by decide +kernel
theorem w193 {Z a0} (hw : Ht a0 Z) : (Cond.code ⟨"java/math/BigDecimal", "zeroValueOf", "(I)Ljava/math/BigDecimal;"⟩ jdk_17_method_24_code (1 : Nat) (Option.some (Jvm.ClassFile.FieldType.object "java/math/BigDecimal"))).before a0 Z = true := ht hw 193 rfl
theorem w191 {Z a0} (hw : Ht a0 Z) : (Cond.methodLink "java/math/BigDecimal" (239 : Nat) ⟨"java/math/BigDecimal", "zeroValueOf", "(I)Ljava/math/BigDecimal;"⟩).before a0 Z = true := ht hw 191 rfl
theorem w192 {Z a0} (hw : Ht a0 Z) : (Cond.static ⟨"java/math/BigDecimal", "zeroValueOf", "(I)Ljava/math/BigDecimal;"⟩).before a0 Z = true := ht hw 192 rfl
theorem pd_8 : parseMethodDescriptor "(I)Ljava/math/BigDecimal;" = some ⟨[.int], some (.object "java/math/BigDecimal")⟩ := by decide +kernel
theorem d17_20_19 : decode k17_20 19 = .ok (.areturn, 1) := by decide +kernel
theorem d17_20_20 : decode k17_20 20 = .ok (.new 3, 3) := by decide +kernel
theorem d17_20_23 : decode k17_20 23 = .ok (.dup, 1) := by decide +kernel
theorem d17_20_24 : decode k17_20 24 = .ok (.lload_n 0, 1) := by decide +kernel
theorem d17_20_25 : decode k17_20 25 = .ok (.ldc2_w 125, 3) := by decide +kernel
theorem d17_20_28 : decode k17_20 28 = .ok (.lcmp, 1) := by decide +kernel
theorem d17_20_29 : decode k17_20 29 = .ok (.ifCond .ne 9, 3) := by decide +kernel
theorem d17_20_38 : decode k17_20 38 = .ok (.aconst_null, 1) := by decide +kernel
theorem d17_20_39 : decode k17_20 39 = .ok (.lload_n 0, 1) := by decide +kernel
theorem d17_20_40 : decode k17_20 40 = .ok (.iload_n 2, 1) := by decide +kernel
theorem d17_20_41 : decode k17_20 41 = .ok (.iconst 0, 1) := by decide +kernel
theorem d17_20_42 : decode k17_20 42 = .ok (.invokespecial 243, 3) := by decide +kernel
theorem d17_20_45 : decode k17_20 45 = .ok (.areturn, 1) := by decide +kernel
def Q_valJI (Z : State) (q : Int64) (r : Int32) (wZ : Addr) (wT : Addr) (wS : Addr) (wP : Addr) (wH : Addr) (kT : ClassId) (kS : ClassId) (kP : ClassId) (kH : ClassId) (zt : Nat → Addr) (zs : Nat → Addr) (h0 : Heap) (n0 : Nat) (v : Option Value) (h : Heap) (L : List Loc) : Prop := ∃ b : Addr, v = some (.ref b) ∧ Fr n0 L ∧ Keep h0 h [] ∧ BDV Z h n0 b q r
set_option maxRecDepth 65536 in
set_option maxHeartbeats 40000000 in
theorem valJI (l : Launch) (Z : State) (a0 : Array Value) (hw : Ht a0 Z) (q : Int64) (r : Int32) (wZ : Addr) (wT : Addr) (wS : Addr) (wP : Addr) (wH : Addr) (kT : ClassId) (kS : ClassId) (kP : ClassId) (kH : ClassId) (zt : Nat → Addr) (zs : Nat → Addr) (h0 : Heap) (n0 : Nat) (Z0 : n0 ≤ h0.size) (O0 : Old Z n0 h0) (P0 : BigS Z wZ wT wS wP wH kT kS kP kH zt zs) (P1 : ¬ (q = (-9223372036854775808 : Int64))) (P2 : Sc r) :
    Con l Z (⟨"java/math/BigDecimal", "valueOf", "(JI)Ljava/math/BigDecimal;"⟩ : MethodName) jdk_17_method_20_code 3 (some (.object "java/math/BigDecimal")) ({ frames := 4, cells := 1, slots := 5, locals := 55 } : Room) #[(.long q), (.int r)] h0 (Q_valJI Z q r wZ wT wS wP wH kT kS kP kH zt zs h0 n0) := by
  refine OwnW.body (Ls := #[jS q, dS, iS r]) (plainFor_of_name pn_5) (fun m => by first | (simp [entryFrame, mkF, argsToLocals, Value.category]; done) | rfl) ?_
  intro p e s m below meth c s₁ hx hy hml hown hnm hret hlk hZ X0 e0
  let QQ := Q_valJI Z q r wZ wT wS wP wH kT kS kP kH zt zs h0 n0
  have N0 := Fr.nil n0
  show Go p e below (s₁.setTop (mkF m 0 #[jS q, dS, iS r] [])) (EndQ s below ({ frames := 4, cells := 1, slots := 5, locals := 55 } : Room).cells ({ frames := 4, cells := 1, slots := 5, locals := 55 } : Room).slots QQ)
  have ⟨bZ, bZv, bT, bTv, bTa, bS, bSv, bSa, bP, bPv, bH, bHv, bA⟩ := P0
  rcases P2 with rfl | rfl | rfl | rfl
  · refine gon s₁ (mkF m 1 #[jS q,dS,iS 0] [(.int 0)]) (fun _ k => XS.iloadN X0.here hx rfl (hb hy d17_20_0) rfl k) ?_
    refine gon s₁ (mkF m 5 #[jS q,dS,iS 0] [(.long q)]) (fun _ k => XS.ifNo X0.here hx rfl (hb hy d17_20_1) rfl ((if0 _ _).trans (teq (by decide : (0 : Int32) = (0 : Int32))).2) (XS.lloadN X0.here hx rfl (hb hy d17_20_4) rfl k)) ?_
    obtain ⟨v1, T1, L1, X1, hQ1, st1⟩ := OwnW.callS X0 hx hZ hown (w37 hw) (w38 hw) (w35 hw) (w39 hw) (by decide) (valJ l Z a0 hw q wZ wT wS wP wH kT kS kP kH zt zs h0 n0 Z0 O0 P0 P1) e0 (Ls := #[jS q, dS, iS 0]) (by rw [hml]; rfl) pd_7 (argsL := [(.long q)]) rfl (rest := []) rfl (W := 0) rfl (hb hy d17_20_5) (by decide) (by decide) (by decide) (by decide)
    obtain ⟨b_2, rfl, Nq1, Kq1, q1_0⟩ := hQ1
    have N1 := Fr.app N0 Nq1
    refine gon T1 (mkF m 8 #[jS q,dS,iS 0] [(.ref b_2)]) (st1) ?_
    have K_3 : Keep h0 T1.heap [] := (Keep.refl h0 []).trans Kq1 all0
    exact OwnW.retA X1 hx hlk hret rfl rfl (hb hy d17_20_8) (by decide) (by decide) (show QQ _ T1.heap _ from ⟨b_2, rfl, N1, K_3, q1_0⟩)
  · refine gon s₁ (mkF m 1 #[jS q,dS,iS 1] [(.int 1)]) (fun _ k => XS.iloadN X0.here hx rfl (hb hy d17_20_0) rfl k) ?_
    refine gon s₁ (mkF m 12 #[jS q,dS,iS 1] [(.int (lcmpW q (0 : Int64)))]) (fun _ k => XS.ifYes X0.here hx rfl (pc0 := 1) (pc' := 9) rfl (hb hy d17_20_1) rfl ((if0 _ _).trans (feq (by decide : ¬ ((1 : Int32) = (0 : Int32)))).2) (by decide) (by decide) (XS.lloadN X0.here hx rfl (hb hy d17_20_9) rfl (XS.lconst X0.here hx rfl (hb hy d17_20_10) (XS.lcmp X0.here hx rfl (hb hy d17_20_11) rfl k)))) ?_
    by_cases hc12_4 : q = (0 : Int64)
    · refine gon s₁ (mkF m 16 #[jS q,dS,iS 1] [(.int 1)]) (fun _ k => XS.ifNo X0.here hx rfl (hb hy d17_20_12) rfl ((if0 _ _).trans (teq ((lw_eq q (0 : Int64)).mpr hc12_4)).2) (XS.iloadN X0.here hx rfl (hb hy d17_20_15) rfl k)) ?_
      obtain ⟨v5, T5, L5, X5, hQ5, st5⟩ := OwnW.callS X0 hx hZ hown (w191 hw) (w192 hw) (w35 hw) (w193 hw) (by decide) (zero1 l Z a0 hw wZ wT wS wP wH kT kS kP kH zt zs h0 n0 Z0 O0 P0) e0 (Ls := #[jS q, dS, iS 1]) (by rw [hml]; rfl) pd_8 (argsL := [(.int (1 : Int32))]) rfl (rest := []) rfl (W := 0) rfl (hb hy d17_20_16) (by decide) (by decide) (by decide) (by decide)
      obtain ⟨b_6, rfl, Nq5, Kq5, q5_0⟩ := hQ5
      have N5 := Fr.app N0 Nq5
      refine gon T5 (mkF m 19 #[jS q,dS,iS 1] [(.ref b_6)]) (st5) ?_
      have B_7 : BDV Z T5.heap n0 b_6 q (1 : Int32) := by rw [hc12_4]; exact q5_0
      have K_8 : Keep h0 T5.heap [] := (Keep.refl h0 []).trans Kq5 all0
      exact OwnW.retA X5 hx hlk hret rfl rfl (hb hy d17_20_19) (by decide) (by decide) (show QQ _ T5.heap _ from ⟨b_6, rfl, N5, K_8, B_7⟩)
    · refine gon s₁ (mkF m 20 #[jS q,dS,iS 1] []) (fun _ k => XS.ifYes X0.here hx rfl (pc0 := 12) (pc' := 20) rfl (hb hy d17_20_12) rfl ((if0 _ _).trans (feq (fun zq => hc12_4 ((lw_eq q (0 : Int64)).mp zq))).2) (by decide) (by decide) k) ?_
      obtain ⟨T9, h9, b9, X9, e9, E9, s9, A9, D9, st9⟩ := OwnW.newO X0 hx hZ hown (w214 hw) (w215 hw) (w35 hw) e0 (Ls := #[jS q, dS, iS 1]) (st := []) (hb hy d17_20_20) (by decide) (by decide)
      have F9_intCompact : Fld Z h9 b9 "java/math/BigDecimal" "intCompact" "J" (.long (0 : Int64)) := D9 (Or.inr (w177 hw)) (ty := .long) (by decide)
      have F9_scale : Fld Z h9 b9 "java/math/BigDecimal" "scale" "I" (.int (0 : Int32)) := D9 (Or.inr (w180 hw)) (ty := .int) (by decide)
      have F9_precision : Fld Z h9 b9 "java/math/BigDecimal" "precision" "I" (.int (0 : Int32)) := D9 (Or.inl (w228 hw)) (ty := .int) (by decide)
      have F9_intVal : Fld Z h9 b9 "java/math/BigDecimal" "intVal" "Ljava/math/BigInteger;" .null := D9 (Or.inr (w230 hw)) (ty := (.object "java/math/BigInteger")) (by decide)
      refine gon T9 (mkF m 23 #[jS q,dS,iS 1] [(.ref b9)]) (st9) ?_
      refine gon T9 (mkF m 25 #[jS q,dS,iS 1] [(.long q), (.ref b9), (.ref b9)]) (fun _ k => XS.dup X9.here hx rfl (hb hy d17_20_23) rfl rfl (XS.lloadN X9.here hx rfl (hb hy d17_20_24) rfl k)) ?_
      refine gon T9 (mkF m 28 #[jS q,dS,iS 1] [(.long (-9223372036854775808)), (.long q), (.ref b9), (.ref b9)]) (X9.ldc2Long hx hown (mvT hZ (w178 hw)) (g := (mkF m 25 #[jS q,dS,iS 1] [(.long q), (.ref b9), (.ref b9)])) rfl (hb hy d17_20_25)) ?_
      refine gon T9 (mkF m 29 #[jS q,dS,iS 1] [(.int (lcmpW q (-9223372036854775808 : Int64))), (.ref b9), (.ref b9)]) (fun _ k => XS.lcmp X9.here hx rfl (hb hy d17_20_28) rfl k) ?_
      refine gon T9 (mkF m 42 #[jS q,dS,iS 1] [(.int 0), (.int 1), (.long q), .null, (.ref b9), (.ref b9)]) (fun _ k => XS.ifYes X9.here hx rfl (pc0 := 29) (pc' := 38) rfl (hb hy d17_20_29) rfl ((if0 _ _).trans (feq (fun zq => (P1 : ¬ (q = (-9223372036854775808 : Int64))) ((lw_eq q (-9223372036854775808 : Int64)).mp zq))).2) (by decide) (by decide) (XS.aconstNull X9.here hx rfl (hb hy d17_20_38) (XS.lloadN X9.here hx rfl (hb hy d17_20_39) rfl (XS.iloadN X9.here hx rfl (hb hy d17_20_40) rfl (XS.iconst X9.here hx rfl (hb hy d17_20_41) k))))) ?_
      have g_11 : n0 ≤ b9 := Nat.le_trans Z0 s9
      have Z_12 : n0 ≤ h9.size := Nat.le_trans Z0 E9.1
      obtain ⟨v10, T10, L10, X10, hQ10, st10⟩ := OwnW.callC (y := (⟨"java/math/BigDecimal", "<init>", "(Ljava/math/BigInteger;JII)V"⟩ : MethodName)) X9 hx hZ hown rfl (w216 hw) (w217 hw) (w35 hw) (w219 hw) (by decide) (b := b9) (bdInit l Z a0 hw b9 q (1 : Int32) h9 n0 Z_12 A9 g_11 F9_intVal F9_scale F9_intCompact F9_precision) e9 (Ls := #[jS q, dS, iS 1]) (by rw [hml]; rfl) pd_6 (argsL := [.null, (.long q), (.int (1 : Int32)), (.int (0 : Int32))]) rfl (rest := [(.ref b9)]) rfl (W := 1) rfl (hb hy d17_20_42) (by decide) (by decide) (by decide) (by decide)
      obtain ⟨rfl, Nq10, Kq10, q10_0, q10_1, q10_2⟩ := hQ10
      have N10 := Fr.app N0 Nq10
      refine gon T10 (mkF m 45 #[jS q,dS,iS 1] [(.ref b9)]) (st10) ?_
      have c_14 := Exa.keep A9 Kq10
      have B_13 : BDV Z T10.heap n0 b9 q (1 : Int32) := BDV.mk0 c_14 q10_0 q10_1 q10_2 g_11
      have K_15 : Keep h0 h9 [] := (Keep.refl h0 []).ext E9
      have K_16 : Keep h0 T10.heap [] := K_15.trans Kq10 (allS (Or.inr (Nat.le_trans (Nat.le_refl _) s9)) all0)
      exact OwnW.retA X10 hx hlk hret rfl rfl (hb hy d17_20_45) (by decide) (by decide) (show QQ _ T10.heap _ from ⟨b9, rfl, N10, K_16, B_13⟩)
  · refine gon s₁ (mkF m 1 #[jS q,dS,iS 2] [(.int 2)]) (fun _ k => XS.iloadN X0.here hx rfl (hb hy d17_20_0) rfl k) ?_
    refine gon s₁ (mkF m 12 #[jS q,dS,iS 2] [(.int (lcmpW q (0 : Int64)))]) (fun _ k => XS.ifYes X0.here hx rfl (pc0 := 1) (pc' := 9) rfl (hb hy d17_20_1) rfl ((if0 _ _).trans (feq (by decide : ¬ ((2 : Int32) = (0 : Int32)))).2) (by decide) (by decide) (XS.lloadN X0.here hx rfl (hb hy d17_20_9) rfl (XS.lconst X0.here hx rfl (hb hy d17_20_10) (XS.lcmp X0.here hx rfl (hb hy d17_20_11) rfl k)))) ?_
    by_cases hc12_17 : q = (0 : Int64)
    · refine gon s₁ (mkF m 16 #[jS q,dS,iS 2] [(.int 2)]) (fun _ k => XS.ifNo X0.here hx rfl (hb hy d17_20_12) rfl ((if0 _ _).trans (teq ((lw_eq q (0 : Int64)).mpr hc12_17)).2) (XS.iloadN X0.here hx rfl (hb hy d17_20_15) rfl k)) ?_
      obtain ⟨v18, T18, L18, X18, hQ18, st18⟩ := OwnW.callS X0 hx hZ hown (w191 hw) (w192 hw) (w35 hw) (w193 hw) (by decide) (zero2 l Z a0 hw wZ wT wS wP wH kT kS kP kH zt zs h0 n0 Z0 O0 P0) e0 (Ls := #[jS q, dS, iS 2]) (by rw [hml]; rfl) pd_8 (argsL := [(.int (2 : Int32))]) rfl (rest := []) rfl (W := 0) rfl (hb hy d17_20_16) (by decide) (by decide) (by decide) (by decide)
      obtain ⟨b_19, rfl, Nq18, Kq18, q18_0⟩ := hQ18
      have N18 := Fr.app N0 Nq18
      refine gon T18 (mkF m 19 #[jS q,dS,iS 2] [(.ref b_19)]) (st18) ?_
      have B_20 : BDV Z T18.heap n0 b_19 q (2 : Int32) := by rw [hc12_17]; exact q18_0
      have K_21 : Keep h0 T18.heap [] := (Keep.refl h0 []).trans Kq18 all0
      exact OwnW.retA X18 hx hlk hret rfl rfl (hb hy d17_20_19) (by decide) (by decide) (show QQ _ T18.heap _ from ⟨b_19, rfl, N18, K_21, B_20⟩)
    · refine gon s₁ (mkF m 20 #[jS q,dS,iS 2] []) (fun _ k => XS.ifYes X0.here hx rfl (pc0 := 12) (pc' := 20) rfl (hb hy d17_20_12) rfl ((if0 _ _).trans (feq (fun zq => hc12_17 ((lw_eq q (0 : Int64)).mp zq))).2) (by decide) (by decide) k) ?_
      obtain ⟨T22, h22, b22, X22, e22, E22, s22, A22, D22, st22⟩ := OwnW.newO X0 hx hZ hown (w214 hw) (w215 hw) (w35 hw) e0 (Ls := #[jS q, dS, iS 2]) (st := []) (hb hy d17_20_20) (by decide) (by decide)
      have F22_intCompact : Fld Z h22 b22 "java/math/BigDecimal" "intCompact" "J" (.long (0 : Int64)) := D22 (Or.inr (w177 hw)) (ty := .long) (by decide)
      have F22_scale : Fld Z h22 b22 "java/math/BigDecimal" "scale" "I" (.int (0 : Int32)) := D22 (Or.inr (w180 hw)) (ty := .int) (by decide)
      have F22_precision : Fld Z h22 b22 "java/math/BigDecimal" "precision" "I" (.int (0 : Int32)) := D22 (Or.inl (w228 hw)) (ty := .int) (by decide)
      have F22_intVal : Fld Z h22 b22 "java/math/BigDecimal" "intVal" "Ljava/math/BigInteger;" .null := D22 (Or.inr (w230 hw)) (ty := (.object "java/math/BigInteger")) (by decide)
      refine gon T22 (mkF m 23 #[jS q,dS,iS 2] [(.ref b22)]) (st22) ?_
      refine gon T22 (mkF m 25 #[jS q,dS,iS 2] [(.long q), (.ref b22), (.ref b22)]) (fun _ k => XS.dup X22.here hx rfl (hb hy d17_20_23) rfl rfl (XS.lloadN X22.here hx rfl (hb hy d17_20_24) rfl k)) ?_
      refine gon T22 (mkF m 28 #[jS q,dS,iS 2] [(.long (-9223372036854775808)), (.long q), (.ref b22), (.ref b22)]) (X22.ldc2Long hx hown (mvT hZ (w178 hw)) (g := (mkF m 25 #[jS q,dS,iS 2] [(.long q), (.ref b22), (.ref b22)])) rfl (hb hy d17_20_25)) ?_
      refine gon T22 (mkF m 29 #[jS q,dS,iS 2] [(.int (lcmpW q (-9223372036854775808 : Int64))), (.ref b22), (.ref b22)]) (fun _ k => XS.lcmp X22.here hx rfl (hb hy d17_20_28) rfl k) ?_
      refine gon T22 (mkF m 42 #[jS q,dS,iS 2] [(.int 0), (.int 2), (.long q), .null, (.ref b22), (.ref b22)]) (fun _ k => XS.ifYes X22.here hx rfl (pc0 := 29) (pc' := 38) rfl (hb hy d17_20_29) rfl ((if0 _ _).trans (feq (fun zq => (P1 : ¬ (q = (-9223372036854775808 : Int64))) ((lw_eq q (-9223372036854775808 : Int64)).mp zq))).2) (by decide) (by decide) (XS.aconstNull X22.here hx rfl (hb hy d17_20_38) (XS.lloadN X22.here hx rfl (hb hy d17_20_39) rfl (XS.iloadN X22.here hx rfl (hb hy d17_20_40) rfl (XS.iconst X22.here hx rfl (hb hy d17_20_41) k))))) ?_
      have g_24 : n0 ≤ b22 := Nat.le_trans Z0 s22
      have Z_25 : n0 ≤ h22.size := Nat.le_trans Z0 E22.1
      obtain ⟨v23, T23, L23, X23, hQ23, st23⟩ := OwnW.callC (y := (⟨"java/math/BigDecimal", "<init>", "(Ljava/math/BigInteger;JII)V"⟩ : MethodName)) X22 hx hZ hown rfl (w216 hw) (w217 hw) (w35 hw) (w219 hw) (by decide) (b := b22) (bdInit l Z a0 hw b22 q (2 : Int32) h22 n0 Z_25 A22 g_24 F22_intVal F22_scale F22_intCompact F22_precision) e22 (Ls := #[jS q, dS, iS 2]) (by rw [hml]; rfl) pd_6 (argsL := [.null, (.long q), (.int (2 : Int32)), (.int (0 : Int32))]) rfl (rest := [(.ref b22)]) rfl (W := 1) rfl (hb hy d17_20_42) (by decide) (by decide) (by decide) (by decide)
      obtain ⟨rfl, Nq23, Kq23, q23_0, q23_1, q23_2⟩ := hQ23
      have N23 := Fr.app N0 Nq23
      refine gon T23 (mkF m 45 #[jS q,dS,iS 2] [(.ref b22)]) (st23) ?_
      have c_27 := Exa.keep A22 Kq23
      have B_26 : BDV Z T23.heap n0 b22 q (2 : Int32) := BDV.mk0 c_27 q23_0 q23_1 q23_2 g_24
      have K_28 : Keep h0 h22 [] := (Keep.refl h0 []).ext E22
      have K_29 : Keep h0 T23.heap [] := K_28.trans Kq23 (allS (Or.inr (Nat.le_trans (Nat.le_refl _) s22)) all0)
      exact OwnW.retA X23 hx hlk hret rfl rfl (hb hy d17_20_45) (by decide) (by decide) (show QQ _ T23.heap _ from ⟨b22, rfl, N23, K_29, B_26⟩)
  · refine gon s₁ (mkF m 1 #[jS q,dS,iS 3] [(.int 3)]) (fun _ k => XS.iloadN X0.here hx rfl (hb hy d17_20_0) rfl k) ?_
    refine gon s₁ (mkF m 12 #[jS q,dS,iS 3] [(.int (lcmpW q (0 : Int64)))]) (fun _ k => XS.ifYes X0.here hx rfl (pc0 := 1) (pc' := 9) rfl (hb hy d17_20_1) rfl ((if0 _ _).trans (feq (by decide : ¬ ((3 : Int32) = (0 : Int32)))).2) (by decide) (by decide) (XS.lloadN X0.here hx rfl (hb hy d17_20_9) rfl (XS.lconst X0.here hx rfl (hb hy d17_20_10) (XS.lcmp X0.here hx rfl (hb hy d17_20_11) rfl k)))) ?_
    by_cases hc12_30 : q = (0 : Int64)
    · refine gon s₁ (mkF m 16 #[jS q,dS,iS 3] [(.int 3)]) (fun _ k => XS.ifNo X0.here hx rfl (hb hy d17_20_12) rfl ((if0 _ _).trans (teq ((lw_eq q (0 : Int64)).mpr hc12_30)).2) (XS.iloadN X0.here hx rfl (hb hy d17_20_15) rfl k)) ?_
      obtain ⟨v31, T31, L31, X31, hQ31, st31⟩ := OwnW.callS X0 hx hZ hown (w191 hw) (w192 hw) (w35 hw) (w193 hw) (by decide) (zero3 l Z a0 hw wZ wT wS wP wH kT kS kP kH zt zs h0 n0 Z0 O0 P0) e0 (Ls := #[jS q, dS, iS 3]) (by rw [hml]; rfl) pd_8 (argsL := [(.int (3 : Int32))]) rfl (rest := []) rfl (W := 0) rfl (hb hy d17_20_16) (by decide) (by decide) (by decide) (by decide)
      obtain ⟨b_32, rfl, Nq31, Kq31, q31_0⟩ := hQ31
      have N31 := Fr.app N0 Nq31
      refine gon T31 (mkF m 19 #[jS q,dS,iS 3] [(.ref b_32)]) (st31) ?_
      have B_33 : BDV Z T31.heap n0 b_32 q (3 : Int32) := by rw [hc12_30]; exact q31_0
      have K_34 : Keep h0 T31.heap [] := (Keep.refl h0 []).trans Kq31 all0
      exact OwnW.retA X31 hx hlk hret rfl rfl (hb hy d17_20_19) (by decide) (by decide) (show QQ _ T31.heap _ from ⟨b_32, rfl, N31, K_34, B_33⟩)
    · refine gon s₁ (mkF m 20 #[jS q,dS,iS 3] []) (fun _ k => XS.ifYes X0.here hx rfl (pc0 := 12) (pc' := 20) rfl (hb hy d17_20_12) rfl ((if0 _ _).trans (feq (fun zq => hc12_30 ((lw_eq q (0 : Int64)).mp zq))).2) (by decide) (by decide) k) ?_
      obtain ⟨T35, h35, b35, X35, e35, E35, s35, A35, D35, st35⟩ := OwnW.newO X0 hx hZ hown (w214 hw) (w215 hw) (w35 hw) e0 (Ls := #[jS q, dS, iS 3]) (st := []) (hb hy d17_20_20) (by decide) (by decide)
      have F35_intCompact : Fld Z h35 b35 "java/math/BigDecimal" "intCompact" "J" (.long (0 : Int64)) := D35 (Or.inr (w177 hw)) (ty := .long) (by decide)
      have F35_scale : Fld Z h35 b35 "java/math/BigDecimal" "scale" "I" (.int (0 : Int32)) := D35 (Or.inr (w180 hw)) (ty := .int) (by decide)
      have F35_precision : Fld Z h35 b35 "java/math/BigDecimal" "precision" "I" (.int (0 : Int32)) := D35 (Or.inl (w228 hw)) (ty := .int) (by decide)
      have F35_intVal : Fld Z h35 b35 "java/math/BigDecimal" "intVal" "Ljava/math/BigInteger;" .null := D35 (Or.inr (w230 hw)) (ty := (.object "java/math/BigInteger")) (by decide)
      refine gon T35 (mkF m 23 #[jS q,dS,iS 3] [(.ref b35)]) (st35) ?_
      refine gon T35 (mkF m 25 #[jS q,dS,iS 3] [(.long q), (.ref b35), (.ref b35)]) (fun _ k => XS.dup X35.here hx rfl (hb hy d17_20_23) rfl rfl (XS.lloadN X35.here hx rfl (hb hy d17_20_24) rfl k)) ?_
      refine gon T35 (mkF m 28 #[jS q,dS,iS 3] [(.long (-9223372036854775808)), (.long q), (.ref b35), (.ref b35)]) (X35.ldc2Long hx hown (mvT hZ (w178 hw)) (g := (mkF m 25 #[jS q,dS,iS 3] [(.long q), (.ref b35), (.ref b35)])) rfl (hb hy d17_20_25)) ?_
      refine gon T35 (mkF m 29 #[jS q,dS,iS 3] [(.int (lcmpW q (-9223372036854775808 : Int64))), (.ref b35), (.ref b35)]) (fun _ k => XS.lcmp X35.here hx rfl (hb hy d17_20_28) rfl k) ?_
      refine gon T35 (mkF m 42 #[jS q,dS,iS 3] [(.int 0), (.int 3), (.long q), .null, (.ref b35), (.ref b35)]) (fun _ k => XS.ifYes X35.here hx rfl (pc0 := 29) (pc' := 38) rfl (hb hy d17_20_29) rfl ((if0 _ _).trans (feq (fun zq => (P1 : ¬ (q = (-9223372036854775808 : Int64))) ((lw_eq q (-9223372036854775808 : Int64)).mp zq))).2) (by decide) (by decide) (XS.aconstNull X35.here hx rfl (hb hy d17_20_38) (XS.lloadN X35.here hx rfl (hb hy d17_20_39) rfl (XS.iloadN X35.here hx rfl (hb hy d17_20_40) rfl (XS.iconst X35.here hx rfl (hb hy d17_20_41) k))))) ?_
      have g_37 : n0 ≤ b35 := Nat.le_trans Z0 s35
      have Z_38 : n0 ≤ h35.size := Nat.le_trans Z0 E35.1
      obtain ⟨v36, T36, L36, X36, hQ36, st36⟩ := OwnW.callC (y := (⟨"java/math/BigDecimal", "<init>", "(Ljava/math/BigInteger;JII)V"⟩ : MethodName)) X35 hx hZ hown rfl (w216 hw) (w217 hw) (w35 hw) (w219 hw) (by decide) (b := b35) (bdInit l Z a0 hw b35 q (3 : Int32) h35 n0 Z_38 A35 g_37 F35_intVal F35_scale F35_intCompact F35_precision) e35 (Ls := #[jS q, dS, iS 3]) (by rw [hml]; rfl) pd_6 (argsL := [.null, (.long q), (.int (3 : Int32)), (.int (0 : Int32))]) rfl (rest := [(.ref b35)]) rfl (W := 1) rfl (hb hy d17_20_42) (by decide) (by decide) (by decide) (by decide)
      obtain ⟨rfl, Nq36, Kq36, q36_0, q36_1, q36_2⟩ := hQ36
      have N36 := Fr.app N0 Nq36
      refine gon T36 (mkF m 45 #[jS q,dS,iS 3] [(.ref b35)]) (st36) ?_
      have c_40 := Exa.keep A35 Kq36
      have B_39 : BDV Z T36.heap n0 b35 q (3 : Int32) := BDV.mk0 c_40 q36_0 q36_1 q36_2 g_37
      have K_41 : Keep h0 h35 [] := (Keep.refl h0 []).ext E35
      have K_42 : Keep h0 T36.heap [] := K_41.trans Kq36 (allS (Or.inr (Nat.le_trans (Nat.le_refl _) s35)) all0)
      exact OwnW.retA X36 hx hlk hret rfl rfl (hb hy d17_20_45) (by decide) (by decide) (show QQ _ T36.heap _ from ⟨b35, rfl, N36, K_42, B_39⟩)
abbrev k17_132 := jdk_17_method_132_code
theorem d17_132_0 : decode k17_132 0 = .ok (.lload_n 0, 1) := by decide +kernel
theorem d17_132_1 : decode k17_132 1 = .ok (.lload_n 2, 1) := by decide +kernel
theorem d17_132_2 : decode k17_132 2 = .ok (.ladd, 1) := by decide +kernel
theorem d17_132_3 : decode k17_132 3 = .ok (.lstore 4, 2) := by decide +kernel
theorem d17_132_5 : decode k17_132 5 = .ok (.lload 4, 2) := by decide +kernel
theorem d17_132_7 : decode k17_132 7 = .ok (.lload_n 0, 1) := by decide +kernel
theorem d17_132_8 : decode k17_132 8 = .ok (.lxor, 1) := by decide +kernel
theorem d17_132_9 : decode k17_132 9 = .ok (.lload 4, 2) := by decide +kernel
theorem d17_132_11 : decode k17_132 11 = .ok (.lload_n 2, 1) := by decide +kernel
theorem d17_132_12 : decode k17_132 12 = .ok (.lxor, 1) := by decide +kernel
theorem d17_132_13 : decode k17_132 13 = .ok (.land, 1) := by decide +kernel
theorem d17_132_14 : decode k17_132 14 = .ok (.lconst 0, 1) := by decide +kernel
theorem d17_132_15 : decode k17_132 15 = .ok (.lcmp, 1) := by decide +kernel
theorem d17_132_16 : decode k17_132 16 = .ok (.ifCond .lt 6, 3) := by decide +kernel
theorem d17_132_19 : decode k17_132 19 = .ok (.lload 4, 2) := by decide +kernel
theorem d17_132_21 : decode k17_132 21 = .ok (.lreturn, 1) := by decide +kernel
def Q_addJJ (Z : State) (qa : Int64) (qb : Int64) (h0 : Heap) (n0 : Nat) (v : Option Value) (h : Heap) (L : List Loc) : Prop := v = some (.long (qa + qb)) ∧ Fr n0 L ∧ h = h0
set_option maxRecDepth 65536 in
set_option maxHeartbeats 40000000 in
theorem addJJ (l : Launch) (Z : State) (a0 : Array Value) (hw : Ht a0 Z) (qa : Int64) (qb : Int64) (h0 : Heap) (n0 : Nat) (Z0 : n0 ≤ h0.size) (P0 : Bd qa) (P1 : Bd qb) :
    Con l Z (⟨"java/math/BigDecimal", "add", "(JJ)J"⟩ : MethodName) jdk_17_method_132_code 6 (some .long) ({ frames := 0, cells := 0, slots := 0, locals := 0 } : Room) #[(.long qa), (.long qb)] h0 (Q_addJJ Z qa qb h0 n0) := by
  refine OwnW.body (Ls := #[jS qa, dS, jS qb, dS, uS, uS]) (plainFor_of_name pn_5) (fun m => by first | (simp [entryFrame, mkF, argsToLocals, Value.category]; done) | rfl) ?_
  intro p e s m below meth c s₁ hx hy hml hown hnm hret hlk hZ X0 e0
  let QQ := Q_addJJ Z qa qb h0 n0
  have N0 := Fr.nil n0
  show Go p e below (s₁.setTop (mkF m 0 #[jS qa, dS, jS qb, dS, uS, uS] [])) (EndQ s below ({ frames := 0, cells := 0, slots := 0, locals := 0 } : Room).cells ({ frames := 0, cells := 0, slots := 0, locals := 0 } : Room).slots QQ)
  refine gon s₁ (mkF m 7 #[jS qa,dS,jS qb,dS,jS (qa + qb),dS] [(.long (qa + qb))]) (fun _ k => XS.lloadN X0.here hx rfl (hb hy d17_132_0) rfl (XS.lloadN X0.here hx rfl (hb hy d17_132_1) rfl (XS.ladd X0.here hx rfl (hb hy d17_132_2) rfl (XS.lstore X0.here hx rfl (hb hy d17_132_3) rfl (l' := #[jS qa, dS, jS qb, dS, jS (qa + qb), dS]) rfl (XS.lload X0.here hx rfl (hb hy d17_132_5) rfl k))))) ?_
  refine gon s₁ (mkF m 13 #[jS qa,dS,jS qb,dS,jS (qa + qb),dS] [(.long ((qa + qb) ^^^ qb)), (.long ((qa + qb) ^^^ qa))]) (fun _ k => XS.lloadN X0.here hx rfl (hb hy d17_132_7) rfl (XS.lxor X0.here hx rfl (hb hy d17_132_8) rfl (XS.lload X0.here hx rfl (hb hy d17_132_9) rfl (XS.lloadN X0.here hx rfl (hb hy d17_132_11) rfl (XS.lxor X0.here hx rfl (hb hy d17_132_12) rfl k))))) ?_
  refine gon s₁ (mkF m 16 #[jS qa,dS,jS qb,dS,jS (qa + qb),dS] [(.int (lcmpW (((qa + qb) ^^^ qa) &&& ((qa + qb) ^^^ qb)) (0 : Int64)))]) (fun _ k => XS.land X0.here hx rfl (hb hy d17_132_13) rfl (XS.lconst X0.here hx rfl (hb hy d17_132_14) (XS.lcmp X0.here hx rfl (hb hy d17_132_15) rfl k))) ?_
  refine gon s₁ (mkF m 21 #[jS qa,dS,jS qb,dS,jS (qa + qb),dS] [(.long (qa + qb))]) (fun _ k => XS.ifNo X0.here hx rfl (hb hy d17_132_16) rfl ((if0 _ _).trans (flt (fun zq => (own_noov P0 P1 : ¬ ((((qa + qb) ^^^ qa) &&& ((qa + qb) ^^^ qb)) < (0 : Int64))) ((lw_lt (((qa + qb) ^^^ qa) &&& ((qa + qb) ^^^ qb)) (0 : Int64)).mp zq))).1) (XS.lload X0.here hx rfl (hb hy d17_132_19) rfl k)) ?_
  exact OwnW.retJ X0 hx hlk hret (hb hy d17_132_21) (by decide) (by decide) (show QQ _ s₁.heap _ from ⟨rfl, N0, e0⟩)
abbrev k17_133 := jdk_17_method_133_code
theorem d17_133_0 : decode k17_133 0 = .ok (.lload_n 0, 1) := by decide +kernel
theorem d17_133_1 : decode k17_133 1 = .ok (.lload_n 2, 1) := by decide +kernel
theorem d17_133_2 : decode k17_133 2 = .ok (.invokestatic 996, 3) := by decide +kernel
theorem w189 {Z a0} (hw : Ht a0 Z) : (Cond.code ⟨"java/math/BigDecimal", "add", "(JJ)J"⟩ jdk_17_method_132_code (6 : Nat) (Option.some Jvm.ClassFile.FieldType.long)).before a0 Z = true := ht hw 189 rfl
theorem w187 {Z a0} (hw : Ht a0 Z) : (Cond.methodLink "java/math/BigDecimal" (996 : Nat) ⟨"java/math/BigDecimal", "add", "(JJ)J"⟩).before a0 Z = true := ht hw 187 rfl
theorem w188 {Z a0} (hw : Ht a0 Z) : (Cond.static ⟨"java/math/BigDecimal", "add", "(JJ)J"⟩).before a0 Z = true := ht hw 188 rfl
theorem pd_9 : parseMethodDescriptor "(JJ)J" = some ⟨[.long, .long], some .long⟩ := by decide +kernel
theorem d17_133_5 : decode k17_133 5 = .ok (.lstore 5, 2) := by decide +kernel
theorem d17_133_7 : decode k17_133 7 = .ok (.lload 5, 2) := by decide +kernel
theorem d17_133_9 : decode k17_133 9 = .ok (.ldc2_w 125, 3) := by decide +kernel
theorem d17_133_12 : decode k17_133 12 = .ok (.lcmp, 1) := by decide +kernel
theorem d17_133_13 : decode k17_133 13 = .ok (.ifCond .eq 11, 3) := by decide +kernel
theorem d17_133_16 : decode k17_133 16 = .ok (.lload 5, 2) := by decide +kernel
theorem d17_133_18 : decode k17_133 18 = .ok (.iload 4, 2) := by decide +kernel
theorem d17_133_20 : decode k17_133 20 = .ok (.invokestatic 328, 3) := by decide +kernel
theorem w36 {Z a0} (hw : Ht a0 Z) : (Cond.code ⟨"java/math/BigDecimal", "valueOf", "(JI)Ljava/math/BigDecimal;"⟩ jdk_17_method_20_code (3 : Nat) (Option.some (Jvm.ClassFile.FieldType.object "java/math/BigDecimal"))).before a0 Z = true := ht hw 36 rfl
theorem w190 {Z a0} (hw : Ht a0 Z) : (Cond.methodLink "java/math/BigDecimal" (328 : Nat) ⟨"java/math/BigDecimal", "valueOf", "(JI)Ljava/math/BigDecimal;"⟩).before a0 Z = true := ht hw 190 rfl
theorem w34 {Z a0} (hw : Ht a0 Z) : (Cond.static ⟨"java/math/BigDecimal", "valueOf", "(JI)Ljava/math/BigDecimal;"⟩).before a0 Z = true := ht hw 34 rfl
theorem pd_10 : parseMethodDescriptor "(JI)Ljava/math/BigDecimal;" = some ⟨[.long, .int], some (.object "java/math/BigDecimal")⟩ := by decide +kernel
theorem d17_133_23 : decode k17_133 23 = .ok (.areturn, 1) := by decide +kernel
def Q_addJJI (Z : State) (qa : Int64) (qb : Int64) (r : Int32) (wZ : Addr) (wT : Addr) (wS : Addr) (wP : Addr) (wH : Addr) (kT : ClassId) (kS : ClassId) (kP : ClassId) (kH : ClassId) (zt : Nat → Addr) (zs : Nat → Addr) (h0 : Heap) (n0 : Nat) (v : Option Value) (h : Heap) (L : List Loc) : Prop := ∃ b : Addr, v = some (.ref b) ∧ Fr n0 L ∧ Keep h0 h [] ∧ BDV Z h n0 b (qa + qb) r
set_option maxRecDepth 65536 in
set_option maxHeartbeats 40000000 in
theorem addJJI (l : Launch) (Z : State) (a0 : Array Value) (hw : Ht a0 Z) (qa : Int64) (qb : Int64) (r : Int32) (wZ : Addr) (wT : Addr) (wS : Addr) (wP : Addr) (wH : Addr) (kT : ClassId) (kS : ClassId) (kP : ClassId) (kH : ClassId) (zt : Nat → Addr) (zs : Nat → Addr) (h0 : Heap) (n0 : Nat) (Z0 : n0 ≤ h0.size) (O0 : Old Z n0 h0) (P0 : BigS Z wZ wT wS wP wH kT kS kP kH zt zs) (P1 : Bd qa) (P2 : Bd qb) (P3 : Sc r) :
    Con l Z (⟨"java/math/BigDecimal", "add", "(JJI)Ljava/math/BigDecimal;"⟩ : MethodName) jdk_17_method_133_code 7 (some (.object "java/math/BigDecimal")) ({ frames := 5, cells := 1, slots := 5, locals := 69 } : Room) #[(.long qa), (.long qb), (.int r)] h0 (Q_addJJI Z qa qb r wZ wT wS wP wH kT kS kP kH zt zs h0 n0) := by
  refine OwnW.body (Ls := #[jS qa, dS, jS qb, dS, iS r, uS, uS]) (plainFor_of_name pn_5) (fun m => by first | (simp [entryFrame, mkF, argsToLocals, Value.category]; done) | rfl) ?_
  intro p e s m below meth c s₁ hx hy hml hown hnm hret hlk hZ X0 e0
  let QQ := Q_addJJI Z qa qb r wZ wT wS wP wH kT kS kP kH zt zs h0 n0
  have N0 := Fr.nil n0
  show Go p e below (s₁.setTop (mkF m 0 #[jS qa, dS, jS qb, dS, iS r, uS, uS] [])) (EndQ s below ({ frames := 5, cells := 1, slots := 5, locals := 69 } : Room).cells ({ frames := 5, cells := 1, slots := 5, locals := 69 } : Room).slots QQ)
  refine gon s₁ (mkF m 2 #[jS qa,dS,jS qb,dS,iS r,uS,uS] [(.long qb), (.long qa)]) (fun _ k => XS.lloadN X0.here hx rfl (hb hy d17_133_0) rfl (XS.lloadN X0.here hx rfl (hb hy d17_133_1) rfl k)) ?_
  obtain ⟨v1, T1, L1, X1, hQ1, st1⟩ := OwnW.callS X0 hx hZ hown (w187 hw) (w188 hw) (w35 hw) (w189 hw) (by decide) (addJJ l Z a0 hw qa qb h0 n0 Z0 P1 P2) e0 (Ls := #[jS qa, dS, jS qb, dS, iS r, uS, uS]) (by rw [hml]; rfl) pd_9 (argsL := [(.long qa), (.long qb)]) rfl (rest := []) rfl (W := 0) rfl (hb hy d17_133_2) (by decide) (by decide) (by decide) (by decide)
  obtain ⟨rfl, Nq1, eq1⟩ := hQ1
  have N1 := Fr.app N0 Nq1
  refine gon T1 (mkF m 5 #[jS qa,dS,jS qb,dS,iS r,uS,uS] [(.long (qa + qb))]) (st1) ?_
  refine gon T1 (mkF m 9 #[jS qa,dS,jS qb,dS,iS r,jS (qa + qb),dS] [(.long (qa + qb))]) (fun _ k => XS.lstore X1.here hx rfl (hb hy d17_133_5) rfl (l' := #[jS qa, dS, jS qb, dS, iS r, jS (qa + qb), dS]) rfl (XS.lload X1.here hx rfl (hb hy d17_133_7) rfl k)) ?_
  refine gon T1 (mkF m 12 #[jS qa,dS,jS qb,dS,iS r,jS (qa + qb),dS] [(.long (-9223372036854775808)), (.long (qa + qb))]) (X1.ldc2Long hx hown (mvT hZ (w178 hw)) (g := (mkF m 9 #[jS qa,dS,jS qb,dS,iS r,jS (qa + qb),dS] [(.long (qa + qb))])) rfl (hb hy d17_133_9)) ?_
  refine gon T1 (mkF m 13 #[jS qa,dS,jS qb,dS,iS r,jS (qa + qb),dS] [(.int (lcmpW (qa + qb) (-9223372036854775808 : Int64)))]) (fun _ k => XS.lcmp X1.here hx rfl (hb hy d17_133_12) rfl k) ?_
  refine gon T1 (mkF m 20 #[jS qa,dS,jS qb,dS,iS r,jS (qa + qb),dS] [(.int r), (.long (qa + qb))]) (fun _ k => XS.ifNo X1.here hx rfl (hb hy d17_133_13) rfl ((if0 _ _).trans (feq (fun zq => (own_sumMin P1 P2 : ¬ ((qa + qb) = (-9223372036854775808 : Int64))) ((lw_eq (qa + qb) (-9223372036854775808 : Int64)).mp zq))).1) (XS.lload X1.here hx rfl (hb hy d17_133_16) rfl (XS.iload X1.here hx rfl (hb hy d17_133_18) rfl k))) ?_
  obtain ⟨v2, T2, L2, X2, hQ2, st2⟩ := OwnW.callS X1 hx hZ hown (w190 hw) (w34 hw) (w35 hw) (w36 hw) (by decide) (valJI l Z a0 hw (qa + qb) r wZ wT wS wP wH kT kS kP kH zt zs h0 n0 Z0 O0 P0 (own_sumMin P1 P2 : ¬ ((qa + qb) = (-9223372036854775808 : Int64))) P3) eq1 (Ls := #[jS qa, dS, jS qb, dS, iS r, jS (qa + qb), dS]) (by rw [hml]; rfl) pd_10 (argsL := [(.long (qa + qb)), (.int r)]) rfl (rest := []) rfl (W := 0) rfl (hb hy d17_133_20) (by decide) (by decide) (by decide) (by decide)
  obtain ⟨b_3, rfl, Nq2, Kq2, q2_0⟩ := hQ2
  have N2 := Fr.app N1 Nq2
  refine gon T2 (mkF m 23 #[jS qa,dS,jS qb,dS,iS r,jS (qa + qb),dS] [(.ref b_3)]) (st2) ?_
  have K_4 : Keep h0 T2.heap [] := (Keep.refl h0 []).trans Kq2 all0
  exact OwnW.retA X2 hx hlk hret rfl rfl (hb hy d17_133_23) (by decide) (by decide) (show QQ _ T2.heap _ from ⟨b_3, rfl, N2, K_4, q2_0⟩)
abbrev k29_61 := jdk_29_method_61_code
theorem d29_61_0 : decode k29_61 0 = .ok (.lload_n 0, 1) := by decide +kernel
theorem d29_61_1 : decode k29_61 1 = .ok (.lconst 0, 1) := by decide +kernel
theorem d29_61_2 : decode k29_61 2 = .ok (.lcmp, 1) := by decide +kernel
theorem d29_61_3 : decode k29_61 3 = .ok (.ifCond .ge 8, 3) := by decide +kernel
theorem d29_61_6 : decode k29_61 6 = .ok (.lload_n 0, 1) := by decide +kernel
theorem d29_61_7 : decode k29_61 7 = .ok (.lneg, 1) := by decide +kernel
theorem d29_61_8 : decode k29_61 8 = .ok (.goto 4, 3) := by decide +kernel
theorem d29_61_12 : decode k29_61 12 = .ok (.lreturn, 1) := by decide +kernel
theorem d29_61_11 : decode k29_61 11 = .ok (.lload_n 0, 1) := by decide +kernel
def Q_absJ (Z : State) (q : Int64) (h0 : Heap) (n0 : Nat) (v : Option Value) (h : Heap) (L : List Loc) : Prop := v = some (.long (labs q)) ∧ Fr n0 L ∧ h = h0
set_option maxRecDepth 65536 in
set_option maxHeartbeats 40000000 in
theorem absJ (l : Launch) (Z : State) (a0 : Array Value) (hw : Ht a0 Z) (q : Int64) (h0 : Heap) (n0 : Nat) (Z0 : n0 ≤ h0.size)  :
    Con l Z (⟨"java/lang/Math", "abs", "(J)J"⟩ : MethodName) jdk_29_method_61_code 2 (some .long) ({ frames := 0, cells := 0, slots := 0, locals := 0 } : Room) #[(.long q)] h0 (Q_absJ Z q h0 n0) := by
  refine OwnW.body (Ls := #[jS q, dS]) (Jvm.Free.JP.mathPlain rfl (by decide +kernel)) (fun m => by first | (simp [entryFrame, mkF, argsToLocals, Value.category]; done) | rfl) ?_
  intro p e s m below meth c s₁ hx hy hml hown hnm hret hlk hZ X0 e0
  let QQ := Q_absJ Z q h0 n0
  have N0 := Fr.nil n0
  show Go p e below (s₁.setTop (mkF m 0 #[jS q, dS] [])) (EndQ s below ({ frames := 0, cells := 0, slots := 0, locals := 0 } : Room).cells ({ frames := 0, cells := 0, slots := 0, locals := 0 } : Room).slots QQ)
  refine gon s₁ (mkF m 3 #[jS q,dS] [(.int (lcmpW q (0 : Int64)))]) (fun _ k => XS.lloadN X0.here hx rfl (hb hy d29_61_0) rfl (XS.lconst X0.here hx rfl (hb hy d29_61_1) (XS.lcmp X0.here hx rfl (hb hy d29_61_2) rfl k))) ?_
  by_cases hc3_1 : q < (0 : Int64)
  · refine gon s₁ (mkF m 12 #[jS q,dS] [(.long (-q))]) (fun _ k => XS.ifNo X0.here hx rfl (hb hy d29_61_3) rfl ((if0 _ _).trans (tlt ((lw_lt q (0 : Int64)).mpr hc3_1)).2.1) (XS.lloadN X0.here hx rfl (hb hy d29_61_6) rfl (XS.lneg X0.here hx rfl (hb hy d29_61_7) rfl (XS.goto X0.here hx rfl (pc0 := 8) (pc' := 12) rfl (hb hy d29_61_8) (by decide) (by decide) k)))) ?_
    exact OwnW.retJ X0 hx hlk hret (hb hy d29_61_12) (by decide) (by decide) (show QQ _ s₁.heap _ from ⟨(by simp [labs, hc3_1]), N0, e0⟩)
  · refine gon s₁ (mkF m 12 #[jS q,dS] [(.long q)]) (fun _ k => XS.ifYes X0.here hx rfl (pc0 := 3) (pc' := 11) rfl (hb hy d29_61_3) rfl ((if0 _ _).trans (flt (fun zq => hc3_1 ((lw_lt q (0 : Int64)).mp zq))).2.1) (by decide) (by decide) (XS.lloadN X0.here hx rfl (hb hy d29_61_11) rfl k)) ?_
    exact OwnW.retJ X0 hx hlk hret (hb hy d29_61_12) (by decide) (by decide) (show QQ _ s₁.heap _ from ⟨(by simp [labs, hc3_1]), N0, e0⟩)
abbrev k17_97 := jdk_17_method_97_code
theorem d17_97_0 : decode k17_97 0 = .ok (.lload_n 0, 1) := by decide +kernel
theorem d17_97_1 : decode k17_97 1 = .ok (.lconst 0, 1) := by decide +kernel
theorem d17_97_2 : decode k17_97 2 = .ok (.lcmp, 1) := by decide +kernel
theorem d17_97_3 : decode k17_97 3 = .ok (.ifCond .eq 7, 3) := by decide +kernel
theorem d17_97_10 : decode k17_97 10 = .ok (.lload_n 0, 1) := by decide +kernel
theorem d17_97_11 : decode k17_97 11 = .ok (.lreturn, 1) := by decide +kernel
theorem d17_97_6 : decode k17_97 6 = .ok (.iload_n 2, 1) := by decide +kernel
theorem d17_97_7 : decode k17_97 7 = .ok (.ifCond .gt 5, 3) := by decide +kernel
theorem d17_97_12 : decode k17_97 12 = .ok (.getstatic 95, 3) := by decide +kernel
theorem w254 {Z a0} (hw : Ht a0 Z) : (Cond.fieldLink "java/math/BigDecimal" (95 : Nat) "java/math/BigDecimal" "LONG_TEN_POWERS_TABLE" "[J").before a0 Z = true := ht hw 254 rfl
theorem d17_97_15 : decode k17_97 15 = .ok (.astore_n 3, 1) := by decide +kernel
theorem d17_97_16 : decode k17_97 16 = .ok (.getstatic 825, 3) := by decide +kernel
theorem w259 {Z a0} (hw : Ht a0 Z) : (Cond.fieldLink "java/math/BigDecimal" (825 : Nat) "java/math/BigDecimal" "THRESHOLDS_TABLE" "[J").before a0 Z = true := ht hw 259 rfl
theorem d17_97_19 : decode k17_97 19 = .ok (.astore 4, 2) := by decide +kernel
theorem d17_97_21 : decode k17_97 21 = .ok (.iload_n 2, 1) := by decide +kernel
theorem d17_97_22 : decode k17_97 22 = .ok (.aload_n 3, 1) := by decide +kernel
theorem d17_97_23 : decode k17_97 23 = .ok (.arraylength, 1) := by decide +kernel
theorem d17_97_24 : decode k17_97 24 = .ok (.if_icmp .ge 41, 3) := by decide +kernel
theorem d17_97_27 : decode k17_97 27 = .ok (.iload_n 2, 1) := by decide +kernel
theorem d17_97_28 : decode k17_97 28 = .ok (.aload 4, 2) := by decide +kernel
theorem d17_97_30 : decode k17_97 30 = .ok (.arraylength, 1) := by decide +kernel
theorem d17_97_31 : decode k17_97 31 = .ok (.if_icmp .ge 34, 3) := by decide +kernel
theorem d17_97_34 : decode k17_97 34 = .ok (.aload_n 3, 1) := by decide +kernel
theorem d17_97_35 : decode k17_97 35 = .ok (.iload_n 2, 1) := by decide +kernel
theorem d17_97_36 : decode k17_97 36 = .ok (.laload, 1) := by decide +kernel
theorem d17_97_37 : decode k17_97 37 = .ok (.lstore 5, 2) := by decide +kernel
theorem d17_97_39 : decode k17_97 39 = .ok (.lload_n 0, 1) := by decide +kernel
theorem d17_97_40 : decode k17_97 40 = .ok (.lconst 1, 1) := by decide +kernel
theorem d17_97_41 : decode k17_97 41 = .ok (.lcmp, 1) := by decide +kernel
theorem d17_97_42 : decode k17_97 42 = .ok (.ifCond .ne 6, 3) := by decide +kernel
theorem d17_97_45 : decode k17_97 45 = .ok (.lload 5, 2) := by decide +kernel
theorem d17_97_47 : decode k17_97 47 = .ok (.lreturn, 1) := by decide +kernel
theorem d17_97_48 : decode k17_97 48 = .ok (.lload_n 0, 1) := by decide +kernel
theorem d17_97_49 : decode k17_97 49 = .ok (.invokestatic 440, 3) := by decide +kernel
theorem w262 {Z a0} (hw : Ht a0 Z) : (Cond.code ⟨"java/lang/Math", "abs", "(J)J"⟩ jdk_29_method_61_code (2 : Nat) (Option.some Jvm.ClassFile.FieldType.long)).before a0 Z = true := ht hw 262 rfl
theorem w260 {Z a0} (hw : Ht a0 Z) : (Cond.methodLink "java/math/BigDecimal" (440 : Nat) ⟨"java/lang/Math", "abs", "(J)J"⟩).before a0 Z = true := ht hw 260 rfl
theorem w261 {Z a0} (hw : Ht a0 Z) : (Cond.static ⟨"java/lang/Math", "abs", "(J)J"⟩).before a0 Z = true := ht hw 261 rfl
theorem pd_11 : parseMethodDescriptor "(J)J" = some ⟨[.long], some .long⟩ := by decide +kernel
theorem d17_97_52 : decode k17_97 52 = .ok (.aload 4, 2) := by decide +kernel
theorem d17_97_54 : decode k17_97 54 = .ok (.iload_n 2, 1) := by decide +kernel
theorem d17_97_55 : decode k17_97 55 = .ok (.laload, 1) := by decide +kernel
theorem d17_97_56 : decode k17_97 56 = .ok (.lcmp, 1) := by decide +kernel
theorem d17_97_57 : decode k17_97 57 = .ok (.ifCond .gt 8, 3) := by decide +kernel
theorem d17_97_60 : decode k17_97 60 = .ok (.lload_n 0, 1) := by decide +kernel
theorem d17_97_61 : decode k17_97 61 = .ok (.lload 5, 2) := by decide +kernel
theorem d17_97_63 : decode k17_97 63 = .ok (.lmul, 1) := by decide +kernel
theorem d17_97_64 : decode k17_97 64 = .ok (.lreturn, 1) := by decide +kernel
def Q_lmp1 (Z : State) (q : Int64) (wZ : Addr) (wT : Addr) (wS : Addr) (wP : Addr) (wH : Addr) (kT : ClassId) (kS : ClassId) (kP : ClassId) (kH : ClassId) (zt : Nat → Addr) (zs : Nat → Addr) (h0 : Heap) (n0 : Nat) (v : Option Value) (h : Heap) (L : List Loc) : Prop := v = some (.long (q * (10 : Int64))) ∧ Fr n0 L ∧ h = h0
set_option maxRecDepth 65536 in
set_option maxHeartbeats 40000000 in
theorem lmp1 (l : Launch) (Z : State) (a0 : Array Value) (hw : Ht a0 Z) (q : Int64) (wZ : Addr) (wT : Addr) (wS : Addr) (wP : Addr) (wH : Addr) (kT : ClassId) (kS : ClassId) (kP : ClassId) (kH : ClassId) (zt : Nat → Addr) (zs : Nat → Addr) (h0 : Heap) (n0 : Nat) (Z0 : n0 ≤ h0.size) (O0 : Old Z n0 h0) (P0 : BigS Z wZ wT wS wP wH kT kS kP kH zt zs) (P1 : Bq q) :
    Con l Z (⟨"java/math/BigDecimal", "longMultiplyPowerTen", "(JI)J"⟩ : MethodName) jdk_17_method_97_code 7 (some .long) ({ frames := 1, cells := 0, slots := 0, locals := 13 } : Room) #[(.long q), (.int (1 : Int32))] h0 (Q_lmp1 Z q wZ wT wS wP wH kT kS kP kH zt zs h0 n0) := by
  refine OwnW.body (Ls := #[jS q, dS, iS 1, uS, uS, uS, uS]) (plainFor_of_name pn_5) (fun m => by first | (simp [entryFrame, mkF, argsToLocals, Value.category]; done) | rfl) ?_
  intro p e s m below meth c s₁ hx hy hml hown hnm hret hlk hZ X0 e0
  let QQ := Q_lmp1 Z q wZ wT wS wP wH kT kS kP kH zt zs h0 n0
  have N0 := Fr.nil n0
  show Go p e below (s₁.setTop (mkF m 0 #[jS q, dS, iS 1, uS, uS, uS, uS] [])) (EndQ s below ({ frames := 1, cells := 0, slots := 0, locals := 13 } : Room).cells ({ frames := 1, cells := 0, slots := 0, locals := 13 } : Room).slots QQ)
  have ⟨bZ, bZv, bT, bTv, bTa, bS, bSv, bSa, bP, bPv, bH, bHv, bA⟩ := P0
  refine gon s₁ (mkF m 3 #[jS q,dS,iS 1,uS,uS,uS,uS] [(.int (lcmpW q (0 : Int64)))]) (fun _ k => XS.lloadN X0.here hx rfl (hb hy d17_97_0) rfl (XS.lconst X0.here hx rfl (hb hy d17_97_1) (XS.lcmp X0.here hx rfl (hb hy d17_97_2) rfl k))) ?_
  by_cases hc3_1 : q = (0 : Int64)
  · refine gon s₁ (mkF m 11 #[jS q,dS,iS 1,uS,uS,uS,uS] [(.long q)]) (fun _ k => XS.ifYes X0.here hx rfl (pc0 := 3) (pc' := 10) rfl (hb hy d17_97_3) rfl ((if0 _ _).trans (teq ((lw_eq q (0 : Int64)).mpr hc3_1)).1) (by decide) (by decide) (XS.lloadN X0.here hx rfl (hb hy d17_97_10) rfl k)) ?_
    exact OwnW.retJ X0 hx hlk hret (hb hy d17_97_11) (by decide) (by decide) (show QQ _ s₁.heap _ from ⟨(by simp [hc3_1]), N0, e0⟩)
  · refine gon s₁ (mkF m 7 #[jS q,dS,iS 1,uS,uS,uS,uS] [(.int 1)]) (fun _ k => XS.ifNo X0.here hx rfl (hb hy d17_97_3) rfl ((if0 _ _).trans (feq (fun zq => hc3_1 ((lw_eq q (0 : Int64)).mp zq))).1) (XS.iloadN X0.here hx rfl (hb hy d17_97_6) rfl k)) ?_
    refine gon s₁ (mkF m 12 #[jS q,dS,iS 1,uS,uS,uS,uS] []) (fun _ k => XS.ifYes X0.here hx rfl (pc0 := 7) (pc' := 12) rfl (hb hy d17_97_7) rfl ((if0 _ _).trans (tlt (by decide : (0 : Int32) < (1 : Int32))).2.2.1) (by decide) (by decide) k) ?_
    have s_3 := Sta.ext O0.2 bP
    obtain ⟨T2, X2, e2, st2⟩ := getS2 X0 hx hZ hown (host := "") (Or.inl (w254 hw)) Via.refl e0 s_3 (g := (mkF m 12 #[jS q,dS,iS 1,uS,uS,uS,uS] [])) rfl (hb hy d17_97_12)
    refine gon T2 (mkF m 15 #[jS q,dS,iS 1,uS,uS,uS,uS] [(.ref wP)]) (st2) ?_
    refine gon T2 (mkF m 16 #[jS q,dS,iS 1,rS wP,uS,uS,uS] []) (fun _ k => XS.astoreN X2.here hx rfl (hb hy d17_97_15) rfl rfl (l' := #[jS q, dS, iS 1, rS wP, uS, uS, uS]) rfl k) ?_
    have s_5 := Sta.ext O0.2 bH
    obtain ⟨T4, X4, e4, st4⟩ := getS2 X2 hx hZ hown (host := "") (Or.inl (w259 hw)) Via.refl e2 s_5 (g := (mkF m 16 #[jS q,dS,iS 1,rS wP,uS,uS,uS] [])) rfl (hb hy d17_97_16)
    refine gon T4 (mkF m 19 #[jS q,dS,iS 1,rS wP,uS,uS,uS] [(.ref wH)]) (st4) ?_
    refine gon T4 (mkF m 23 #[jS q,dS,iS 1,rS wP,rS wH,uS,uS] [(.ref wP), (.int 1)]) (fun _ k => XS.astore X4.here hx rfl (hb hy d17_97_19) rfl rfl (l' := #[jS q, dS, iS 1, rS wP, rS wH, uS, uS]) rfl (XS.iloadN X4.here hx rfl (hb hy d17_97_21) rfl (XS.aloadN X4.here hx rfl (hb hy d17_97_22) rfl rfl k))) ?_
    have s_6 := Arv.ext bPv O0.2
    refine gon T4 (mkF m 24 #[jS q,dS,iS 1,rS wP,rS wH,uS,uS] [(.int 19), (.int 1)]) (aLen X4 hx hZ e4 s_6 (hb hy d17_97_23)) ?_
    refine gon T4 (mkF m 30 #[jS q,dS,iS 1,rS wP,rS wH,uS,uS] [(.ref wH), (.int 1)]) (fun _ k => XS.icmpNo X4.here hx rfl (hb hy d17_97_24) rfl (tlt (by decide : (1 : Int32) < (19 : Int32))).2.1 (XS.iloadN X4.here hx rfl (hb hy d17_97_27) rfl (XS.aload X4.here hx rfl (hb hy d17_97_28) rfl rfl k))) ?_
    have s_7 := Arv.ext bHv O0.2
    refine gon T4 (mkF m 31 #[jS q,dS,iS 1,rS wP,rS wH,uS,uS] [(.int 19), (.int 1)]) (aLen X4 hx hZ e4 s_7 (hb hy d17_97_30)) ?_
    refine gon T4 (mkF m 36 #[jS q,dS,iS 1,rS wP,rS wH,uS,uS] [(.int 1), (.ref wP)]) (fun _ k => XS.icmpNo X4.here hx rfl (hb hy d17_97_31) rfl (tlt (by decide : (1 : Int32) < (19 : Int32))).2.1 (XS.aloadN X4.here hx rfl (hb hy d17_97_34) rfl rfl (XS.iloadN X4.here hx rfl (hb hy d17_97_35) rfl k))) ?_
    refine gon T4 (mkF m 37 #[jS q,dS,iS 1,rS wP,rS wH,uS,uS] [(.long 10)]) (ldJ X4 hx hZ e4 s_6 ⟨by decide, by decide⟩ rfl (hb hy d17_97_36)) ?_
    refine gon T4 (mkF m 42 #[jS q,dS,iS 1,rS wP,rS wH,jS 10,dS] [(.int (lcmpW q (1 : Int64)))]) (fun _ k => XS.lstore X4.here hx rfl (hb hy d17_97_37) rfl (l' := #[jS q, dS, iS 1, rS wP, rS wH, jS 10, dS]) rfl (XS.lloadN X4.here hx rfl (hb hy d17_97_39) rfl (XS.lconst X4.here hx rfl (hb hy d17_97_40) (XS.lcmp X4.here hx rfl (hb hy d17_97_41) rfl k)))) ?_
    by_cases hc42_8 : q = (1 : Int64)
    · refine gon T4 (mkF m 47 #[jS q,dS,iS 1,rS wP,rS wH,jS 10,dS] [(.long 10)]) (fun _ k => XS.ifNo X4.here hx rfl (hb hy d17_97_42) rfl ((if0 _ _).trans (teq ((lw_eq q (1 : Int64)).mpr hc42_8)).2) (XS.lload X4.here hx rfl (hb hy d17_97_45) rfl k)) ?_
      exact OwnW.retJ X4 hx hlk hret (hb hy d17_97_47) (by decide) (by decide) (show QQ _ T4.heap _ from ⟨(by simp [hc3_1, hc42_8]), N0, e4⟩)
    · refine gon T4 (mkF m 49 #[jS q,dS,iS 1,rS wP,rS wH,jS 10,dS] [(.long q)]) (fun _ k => XS.ifYes X4.here hx rfl (pc0 := 42) (pc' := 48) rfl (hb hy d17_97_42) rfl ((if0 _ _).trans (feq (fun zq => hc42_8 ((lw_eq q (1 : Int64)).mp zq))).2) (by decide) (by decide) (XS.lloadN X4.here hx rfl (hb hy d17_97_48) rfl k)) ?_
      obtain ⟨v9, T9, L9, X9, hQ9, st9⟩ := OwnW.callS X4 hx hZ hown (w260 hw) (w261 hw) (w100 hw) (w262 hw) (by decide) (absJ l Z a0 hw q h0 n0 Z0 ) e4 (Ls := #[jS q, dS, iS 1, rS wP, rS wH, jS 10, dS]) (by rw [hml]; rfl) pd_11 (argsL := [(.long q)]) rfl (rest := []) rfl (W := 0) rfl (hb hy d17_97_49) (by decide) (by decide) (by decide) (by decide)
      obtain ⟨rfl, Nq9, eq9⟩ := hQ9
      have N9 := Fr.app N0 Nq9
      refine gon T9 (mkF m 52 #[jS q,dS,iS 1,rS wP,rS wH,jS 10,dS] [(.long (labs q))]) (st9) ?_
      refine gon T9 (mkF m 55 #[jS q,dS,iS 1,rS wP,rS wH,jS 10,dS] [(.int 1), (.ref wH), (.long (labs q))]) (fun _ k => XS.aload X9.here hx rfl (hb hy d17_97_52) rfl rfl (XS.iloadN X9.here hx rfl (hb hy d17_97_54) rfl k)) ?_
      refine gon T9 (mkF m 56 #[jS q,dS,iS 1,rS wP,rS wH,jS 10,dS] [(.long 922337203685477580), (.long (labs q))]) (ldJ X9 hx hZ eq9 s_7 ⟨by decide, by decide⟩ rfl (hb hy d17_97_55)) ?_
      refine gon T9 (mkF m 57 #[jS q,dS,iS 1,rS wP,rS wH,jS 10,dS] [(.int (lcmpW (labs q) (922337203685477580 : Int64)))]) (fun _ k => XS.lcmp X9.here hx rfl (hb hy d17_97_56) rfl k) ?_
      refine gon T9 (mkF m 64 #[jS q,dS,iS 1,rS wP,rS wH,jS 10,dS] [(.long (q * (10 : Int64)))]) (fun _ k => XS.ifNo X9.here hx rfl (hb hy d17_97_57) rfl ((if0 _ _).trans (flt (fun zq => (own_abs P1 (by decide) : ¬ ((922337203685477580 : Int64) < (labs q))) ((lw_gt (labs q) (922337203685477580 : Int64)).mp zq))).2.2.1) (XS.lloadN X9.here hx rfl (hb hy d17_97_60) rfl (XS.lload X9.here hx rfl (hb hy d17_97_61) rfl (XS.lmul X9.here hx rfl (hb hy d17_97_63) rfl k)))) ?_
      exact OwnW.retJ X9 hx hlk hret (hb hy d17_97_64) (by decide) (by decide) (show QQ _ T9.heap _ from ⟨rfl, N9, eq9⟩)
abbrev k17_113 := jdk_17_method_113_code
theorem d17_113_0 : decode k17_113 0 = .ok (.lload_n 2, 1) := by decide +kernel
theorem d17_113_1 : decode k17_113 1 = .ok (.l2i, 1) := by decide +kernel
theorem d17_113_2 : decode k17_113 2 = .ok (.istore 4, 2) := by decide +kernel
theorem d17_113_4 : decode k17_113 4 = .ok (.iload 4, 2) := by decide +kernel
theorem d17_113_6 : decode k17_113 6 = .ok (.i2l, 1) := by decide +kernel
theorem d17_113_7 : decode k17_113 7 = .ok (.lload_n 2, 1) := by decide +kernel
theorem d17_113_8 : decode k17_113 8 = .ok (.lcmp, 1) := by decide +kernel
theorem d17_113_9 : decode k17_113 9 = .ok (.ifCond .eq 50, 3) := by decide +kernel
theorem d17_113_59 : decode k17_113 59 = .ok (.iload 4, 2) := by decide +kernel
theorem d17_113_61 : decode k17_113 61 = .ok (.ireturn, 1) := by decide +kernel
def Q_chk1 (Z : State) (q : Int64) (h0 : Heap) (n0 : Nat) (v : Option Value) (h : Heap) (L : List Loc) : Prop := v = some (.int (1 : Int32)) ∧ Fr n0 L ∧ h = h0
set_option maxRecDepth 65536 in
set_option maxHeartbeats 40000000 in
theorem chk1 (l : Launch) (Z : State) (a0 : Array Value) (hw : Ht a0 Z) (q : Int64) (h0 : Heap) (n0 : Nat) (Z0 : n0 ≤ h0.size)  :
    Con l Z (⟨"java/math/BigDecimal", "checkScale", "(JJ)I"⟩ : MethodName) jdk_17_method_113_code 5 (some .int) ({ frames := 0, cells := 0, slots := 0, locals := 0 } : Room) #[(.long q), (.long (1 : Int64))] h0 (Q_chk1 Z q h0 n0) := by
  refine OwnW.body (Ls := #[jS q, dS, jS 1, dS, uS]) (plainFor_of_name pn_5) (fun m => by first | (simp [entryFrame, mkF, argsToLocals, Value.category]; done) | rfl) ?_
  intro p e s m below meth c s₁ hx hy hml hown hnm hret hlk hZ X0 e0
  let QQ := Q_chk1 Z q h0 n0
  have N0 := Fr.nil n0
  show Go p e below (s₁.setTop (mkF m 0 #[jS q, dS, jS 1, dS, uS] [])) (EndQ s below ({ frames := 0, cells := 0, slots := 0, locals := 0 } : Room).cells ({ frames := 0, cells := 0, slots := 0, locals := 0 } : Room).slots QQ)
  refine gon s₁ (mkF m 7 #[jS q,dS,jS 1,dS,iS 1] [(.long 1)]) (fun _ k => XS.lloadN X0.here hx rfl (hb hy d17_113_0) rfl (XS.l2i X0.here hx rfl (hb hy d17_113_1) rfl (XS.istore X0.here hx rfl (hb hy d17_113_2) rfl (l' := #[jS q, dS, jS 1, dS, iS 1]) rfl (XS.iload X0.here hx rfl (hb hy d17_113_4) rfl (XS.i2l X0.here hx rfl (hb hy d17_113_6) rfl k))))) ?_
  refine gon s₁ (mkF m 9 #[jS q,dS,jS 1,dS,iS 1] [(.int (lcmpW (1 : Int64) (1 : Int64)))]) (fun _ k => XS.lloadN X0.here hx rfl (hb hy d17_113_7) rfl (XS.lcmp X0.here hx rfl (hb hy d17_113_8) rfl k)) ?_
  refine gon s₁ (mkF m 61 #[jS q,dS,jS 1,dS,iS 1] [(.int 1)]) (fun _ k => XS.ifYes X0.here hx rfl (pc0 := 9) (pc' := 59) rfl (hb hy d17_113_9) rfl ((if0 _ _).trans (teq ((lw_eq (1 : Int64) (1 : Int64)).mpr (by decide : (1 : Int64) = (1 : Int64)))).1) (by decide) (by decide) (XS.iload X0.here hx rfl (hb hy d17_113_59) rfl k)) ?_
  exact OwnW.retI X0 hx hlk hret (hb hy d17_113_61) (by decide) (by decide) (show QQ _ s₁.heap _ from ⟨rfl, N0, e0⟩)
def Q_lmp2 (Z : State) (q : Int64) (wZ : Addr) (wT : Addr) (wS : Addr) (wP : Addr) (wH : Addr) (kT : ClassId) (kS : ClassId) (kP : ClassId) (kH : ClassId) (zt : Nat → Addr) (zs : Nat → Addr) (h0 : Heap) (n0 : Nat) (v : Option Value) (h : Heap) (L : List Loc) : Prop := v = some (.long (q * (100 : Int64))) ∧ Fr n0 L ∧ h = h0
set_option maxRecDepth 65536 in
set_option maxHeartbeats 40000000 in
theorem lmp2 (l : Launch) (Z : State) (a0 : Array Value) (hw : Ht a0 Z) (q : Int64) (wZ : Addr) (wT : Addr) (wS : Addr) (wP : Addr) (wH : Addr) (kT : ClassId) (kS : ClassId) (kP : ClassId) (kH : ClassId) (zt : Nat → Addr) (zs : Nat → Addr) (h0 : Heap) (n0 : Nat) (Z0 : n0 ≤ h0.size) (O0 : Old Z n0 h0) (P0 : BigS Z wZ wT wS wP wH kT kS kP kH zt zs) (P1 : Bq q) :
    Con l Z (⟨"java/math/BigDecimal", "longMultiplyPowerTen", "(JI)J"⟩ : MethodName) jdk_17_method_97_code 7 (some .long) ({ frames := 1, cells := 0, slots := 0, locals := 13 } : Room) #[(.long q), (.int (2 : Int32))] h0 (Q_lmp2 Z q wZ wT wS wP wH kT kS kP kH zt zs h0 n0) := by
  refine OwnW.body (Ls := #[jS q, dS, iS 2, uS, uS, uS, uS]) (plainFor_of_name pn_5) (fun m => by first | (simp [entryFrame, mkF, argsToLocals, Value.category]; done) | rfl) ?_
  intro p e s m below meth c s₁ hx hy hml hown hnm hret hlk hZ X0 e0
  let QQ := Q_lmp2 Z q wZ wT wS wP wH kT kS kP kH zt zs h0 n0
  have N0 := Fr.nil n0
  show Go p e below (s₁.setTop (mkF m 0 #[jS q, dS, iS 2, uS, uS, uS, uS] [])) (EndQ s below ({ frames := 1, cells := 0, slots := 0, locals := 13 } : Room).cells ({ frames := 1, cells := 0, slots := 0, locals := 13 } : Room).slots QQ)
  have ⟨bZ, bZv, bT, bTv, bTa, bS, bSv, bSa, bP, bPv, bH, bHv, bA⟩ := P0
  refine gon s₁ (mkF m 3 #[jS q,dS,iS 2,uS,uS,uS,uS] [(.int (lcmpW q (0 : Int64)))]) (fun _ k => XS.lloadN X0.here hx rfl (hb hy d17_97_0) rfl (XS.lconst X0.here hx rfl (hb hy d17_97_1) (XS.lcmp X0.here hx rfl (hb hy d17_97_2) rfl k))) ?_
  by_cases hc3_1 : q = (0 : Int64)
  · refine gon s₁ (mkF m 11 #[jS q,dS,iS 2,uS,uS,uS,uS] [(.long q)]) (fun _ k => XS.ifYes X0.here hx rfl (pc0 := 3) (pc' := 10) rfl (hb hy d17_97_3) rfl ((if0 _ _).trans (teq ((lw_eq q (0 : Int64)).mpr hc3_1)).1) (by decide) (by decide) (XS.lloadN X0.here hx rfl (hb hy d17_97_10) rfl k)) ?_
    exact OwnW.retJ X0 hx hlk hret (hb hy d17_97_11) (by decide) (by decide) (show QQ _ s₁.heap _ from ⟨(by simp [hc3_1]), N0, e0⟩)
  · refine gon s₁ (mkF m 7 #[jS q,dS,iS 2,uS,uS,uS,uS] [(.int 2)]) (fun _ k => XS.ifNo X0.here hx rfl (hb hy d17_97_3) rfl ((if0 _ _).trans (feq (fun zq => hc3_1 ((lw_eq q (0 : Int64)).mp zq))).1) (XS.iloadN X0.here hx rfl (hb hy d17_97_6) rfl k)) ?_
    refine gon s₁ (mkF m 12 #[jS q,dS,iS 2,uS,uS,uS,uS] []) (fun _ k => XS.ifYes X0.here hx rfl (pc0 := 7) (pc' := 12) rfl (hb hy d17_97_7) rfl ((if0 _ _).trans (tlt (by decide : (0 : Int32) < (2 : Int32))).2.2.1) (by decide) (by decide) k) ?_
    have s_3 := Sta.ext O0.2 bP
    obtain ⟨T2, X2, e2, st2⟩ := getS2 X0 hx hZ hown (host := "") (Or.inl (w254 hw)) Via.refl e0 s_3 (g := (mkF m 12 #[jS q,dS,iS 2,uS,uS,uS,uS] [])) rfl (hb hy d17_97_12)
    refine gon T2 (mkF m 15 #[jS q,dS,iS 2,uS,uS,uS,uS] [(.ref wP)]) (st2) ?_
    refine gon T2 (mkF m 16 #[jS q,dS,iS 2,rS wP,uS,uS,uS] []) (fun _ k => XS.astoreN X2.here hx rfl (hb hy d17_97_15) rfl rfl (l' := #[jS q, dS, iS 2, rS wP, uS, uS, uS]) rfl k) ?_
    have s_5 := Sta.ext O0.2 bH
    obtain ⟨T4, X4, e4, st4⟩ := getS2 X2 hx hZ hown (host := "") (Or.inl (w259 hw)) Via.refl e2 s_5 (g := (mkF m 16 #[jS q,dS,iS 2,rS wP,uS,uS,uS] [])) rfl (hb hy d17_97_16)
    refine gon T4 (mkF m 19 #[jS q,dS,iS 2,rS wP,uS,uS,uS] [(.ref wH)]) (st4) ?_
    refine gon T4 (mkF m 23 #[jS q,dS,iS 2,rS wP,rS wH,uS,uS] [(.ref wP), (.int 2)]) (fun _ k => XS.astore X4.here hx rfl (hb hy d17_97_19) rfl rfl (l' := #[jS q, dS, iS 2, rS wP, rS wH, uS, uS]) rfl (XS.iloadN X4.here hx rfl (hb hy d17_97_21) rfl (XS.aloadN X4.here hx rfl (hb hy d17_97_22) rfl rfl k))) ?_
    have s_6 := Arv.ext bPv O0.2
    refine gon T4 (mkF m 24 #[jS q,dS,iS 2,rS wP,rS wH,uS,uS] [(.int 19), (.int 2)]) (aLen X4 hx hZ e4 s_6 (hb hy d17_97_23)) ?_
    refine gon T4 (mkF m 30 #[jS q,dS,iS 2,rS wP,rS wH,uS,uS] [(.ref wH), (.int 2)]) (fun _ k => XS.icmpNo X4.here hx rfl (hb hy d17_97_24) rfl (tlt (by decide : (2 : Int32) < (19 : Int32))).2.1 (XS.iloadN X4.here hx rfl (hb hy d17_97_27) rfl (XS.aload X4.here hx rfl (hb hy d17_97_28) rfl rfl k))) ?_
    have s_7 := Arv.ext bHv O0.2
    refine gon T4 (mkF m 31 #[jS q,dS,iS 2,rS wP,rS wH,uS,uS] [(.int 19), (.int 2)]) (aLen X4 hx hZ e4 s_7 (hb hy d17_97_30)) ?_
    refine gon T4 (mkF m 36 #[jS q,dS,iS 2,rS wP,rS wH,uS,uS] [(.int 2), (.ref wP)]) (fun _ k => XS.icmpNo X4.here hx rfl (hb hy d17_97_31) rfl (tlt (by decide : (2 : Int32) < (19 : Int32))).2.1 (XS.aloadN X4.here hx rfl (hb hy d17_97_34) rfl rfl (XS.iloadN X4.here hx rfl (hb hy d17_97_35) rfl k))) ?_
    refine gon T4 (mkF m 37 #[jS q,dS,iS 2,rS wP,rS wH,uS,uS] [(.long 100)]) (ldJ X4 hx hZ e4 s_6 ⟨by decide, by decide⟩ rfl (hb hy d17_97_36)) ?_
    refine gon T4 (mkF m 42 #[jS q,dS,iS 2,rS wP,rS wH,jS 100,dS] [(.int (lcmpW q (1 : Int64)))]) (fun _ k => XS.lstore X4.here hx rfl (hb hy d17_97_37) rfl (l' := #[jS q, dS, iS 2, rS wP, rS wH, jS 100, dS]) rfl (XS.lloadN X4.here hx rfl (hb hy d17_97_39) rfl (XS.lconst X4.here hx rfl (hb hy d17_97_40) (XS.lcmp X4.here hx rfl (hb hy d17_97_41) rfl k)))) ?_
    by_cases hc42_8 : q = (1 : Int64)
    · refine gon T4 (mkF m 47 #[jS q,dS,iS 2,rS wP,rS wH,jS 100,dS] [(.long 100)]) (fun _ k => XS.ifNo X4.here hx rfl (hb hy d17_97_42) rfl ((if0 _ _).trans (teq ((lw_eq q (1 : Int64)).mpr hc42_8)).2) (XS.lload X4.here hx rfl (hb hy d17_97_45) rfl k)) ?_
      exact OwnW.retJ X4 hx hlk hret (hb hy d17_97_47) (by decide) (by decide) (show QQ _ T4.heap _ from ⟨(by simp [hc3_1, hc42_8]), N0, e4⟩)
    · refine gon T4 (mkF m 49 #[jS q,dS,iS 2,rS wP,rS wH,jS 100,dS] [(.long q)]) (fun _ k => XS.ifYes X4.here hx rfl (pc0 := 42) (pc' := 48) rfl (hb hy d17_97_42) rfl ((if0 _ _).trans (feq (fun zq => hc42_8 ((lw_eq q (1 : Int64)).mp zq))).2) (by decide) (by decide) (XS.lloadN X4.here hx rfl (hb hy d17_97_48) rfl k)) ?_
      obtain ⟨v9, T9, L9, X9, hQ9, st9⟩ := OwnW.callS X4 hx hZ hown (w260 hw) (w261 hw) (w100 hw) (w262 hw) (by decide) (absJ l Z a0 hw q h0 n0 Z0 ) e4 (Ls := #[jS q, dS, iS 2, rS wP, rS wH, jS 100, dS]) (by rw [hml]; rfl) pd_11 (argsL := [(.long q)]) rfl (rest := []) rfl (W := 0) rfl (hb hy d17_97_49) (by decide) (by decide) (by decide) (by decide)
      obtain ⟨rfl, Nq9, eq9⟩ := hQ9
      have N9 := Fr.app N0 Nq9
      refine gon T9 (mkF m 52 #[jS q,dS,iS 2,rS wP,rS wH,jS 100,dS] [(.long (labs q))]) (st9) ?_
      refine gon T9 (mkF m 55 #[jS q,dS,iS 2,rS wP,rS wH,jS 100,dS] [(.int 2), (.ref wH), (.long (labs q))]) (fun _ k => XS.aload X9.here hx rfl (hb hy d17_97_52) rfl rfl (XS.iloadN X9.here hx rfl (hb hy d17_97_54) rfl k)) ?_
      refine gon T9 (mkF m 56 #[jS q,dS,iS 2,rS wP,rS wH,jS 100,dS] [(.long 92233720368547758), (.long (labs q))]) (ldJ X9 hx hZ eq9 s_7 ⟨by decide, by decide⟩ rfl (hb hy d17_97_55)) ?_
      refine gon T9 (mkF m 57 #[jS q,dS,iS 2,rS wP,rS wH,jS 100,dS] [(.int (lcmpW (labs q) (92233720368547758 : Int64)))]) (fun _ k => XS.lcmp X9.here hx rfl (hb hy d17_97_56) rfl k) ?_
      refine gon T9 (mkF m 64 #[jS q,dS,iS 2,rS wP,rS wH,jS 100,dS] [(.long (q * (100 : Int64)))]) (fun _ k => XS.ifNo X9.here hx rfl (hb hy d17_97_57) rfl ((if0 _ _).trans (flt (fun zq => (own_abs P1 (by decide) : ¬ ((92233720368547758 : Int64) < (labs q))) ((lw_gt (labs q) (92233720368547758 : Int64)).mp zq))).2.2.1) (XS.lloadN X9.here hx rfl (hb hy d17_97_60) rfl (XS.lload X9.here hx rfl (hb hy d17_97_61) rfl (XS.lmul X9.here hx rfl (hb hy d17_97_63) rfl k)))) ?_
      exact OwnW.retJ X9 hx hlk hret (hb hy d17_97_64) (by decide) (by decide) (show QQ _ T9.heap _ from ⟨rfl, N9, eq9⟩)
def Q_chk2 (Z : State) (q : Int64) (h0 : Heap) (n0 : Nat) (v : Option Value) (h : Heap) (L : List Loc) : Prop := v = some (.int (2 : Int32)) ∧ Fr n0 L ∧ h = h0
set_option maxRecDepth 65536 in
set_option maxHeartbeats 40000000 in
theorem chk2 (l : Launch) (Z : State) (a0 : Array Value) (hw : Ht a0 Z) (q : Int64) (h0 : Heap) (n0 : Nat) (Z0 : n0 ≤ h0.size)  :
    Con l Z (⟨"java/math/BigDecimal", "checkScale", "(JJ)I"⟩ : MethodName) jdk_17_method_113_code 5 (some .int) ({ frames := 0, cells := 0, slots := 0, locals := 0 } : Room) #[(.long q), (.long (2 : Int64))] h0 (Q_chk2 Z q h0 n0) := by
  refine OwnW.body (Ls := #[jS q, dS, jS 2, dS, uS]) (plainFor_of_name pn_5) (fun m => by first | (simp [entryFrame, mkF, argsToLocals, Value.category]; done) | rfl) ?_
  intro p e s m below meth c s₁ hx hy hml hown hnm hret hlk hZ X0 e0
  let QQ := Q_chk2 Z q h0 n0
  have N0 := Fr.nil n0
  show Go p e below (s₁.setTop (mkF m 0 #[jS q, dS, jS 2, dS, uS] [])) (EndQ s below ({ frames := 0, cells := 0, slots := 0, locals := 0 } : Room).cells ({ frames := 0, cells := 0, slots := 0, locals := 0 } : Room).slots QQ)
  refine gon s₁ (mkF m 7 #[jS q,dS,jS 2,dS,iS 2] [(.long 2)]) (fun _ k => XS.lloadN X0.here hx rfl (hb hy d17_113_0) rfl (XS.l2i X0.here hx rfl (hb hy d17_113_1) rfl (XS.istore X0.here hx rfl (hb hy d17_113_2) rfl (l' := #[jS q, dS, jS 2, dS, iS 2]) rfl (XS.iload X0.here hx rfl (hb hy d17_113_4) rfl (XS.i2l X0.here hx rfl (hb hy d17_113_6) rfl k))))) ?_
  refine gon s₁ (mkF m 9 #[jS q,dS,jS 2,dS,iS 2] [(.int (lcmpW (2 : Int64) (2 : Int64)))]) (fun _ k => XS.lloadN X0.here hx rfl (hb hy d17_113_7) rfl (XS.lcmp X0.here hx rfl (hb hy d17_113_8) rfl k)) ?_
  refine gon s₁ (mkF m 61 #[jS q,dS,jS 2,dS,iS 2] [(.int 2)]) (fun _ k => XS.ifYes X0.here hx rfl (pc0 := 9) (pc' := 59) rfl (hb hy d17_113_9) rfl ((if0 _ _).trans (teq ((lw_eq (2 : Int64) (2 : Int64)).mpr (by decide : (2 : Int64) = (2 : Int64)))).1) (by decide) (by decide) (XS.iload X0.here hx rfl (hb hy d17_113_59) rfl k)) ?_
  exact OwnW.retI X0 hx hlk hret (hb hy d17_113_61) (by decide) (by decide) (show QQ _ s₁.heap _ from ⟨rfl, N0, e0⟩)
def Q_lmp3 (Z : State) (q : Int64) (wZ : Addr) (wT : Addr) (wS : Addr) (wP : Addr) (wH : Addr) (kT : ClassId) (kS : ClassId) (kP : ClassId) (kH : ClassId) (zt : Nat → Addr) (zs : Nat → Addr) (h0 : Heap) (n0 : Nat) (v : Option Value) (h : Heap) (L : List Loc) : Prop := v = some (.long (q * (1000 : Int64))) ∧ Fr n0 L ∧ h = h0
set_option maxRecDepth 65536 in
set_option maxHeartbeats 40000000 in
theorem lmp3 (l : Launch) (Z : State) (a0 : Array Value) (hw : Ht a0 Z) (q : Int64) (wZ : Addr) (wT : Addr) (wS : Addr) (wP : Addr) (wH : Addr) (kT : ClassId) (kS : ClassId) (kP : ClassId) (kH : ClassId) (zt : Nat → Addr) (zs : Nat → Addr) (h0 : Heap) (n0 : Nat) (Z0 : n0 ≤ h0.size) (O0 : Old Z n0 h0) (P0 : BigS Z wZ wT wS wP wH kT kS kP kH zt zs) (P1 : Bq q) :
    Con l Z (⟨"java/math/BigDecimal", "longMultiplyPowerTen", "(JI)J"⟩ : MethodName) jdk_17_method_97_code 7 (some .long) ({ frames := 1, cells := 0, slots := 0, locals := 13 } : Room) #[(.long q), (.int (3 : Int32))] h0 (Q_lmp3 Z q wZ wT wS wP wH kT kS kP kH zt zs h0 n0) := by
  refine OwnW.body (Ls := #[jS q, dS, iS 3, uS, uS, uS, uS]) (plainFor_of_name pn_5) (fun m => by first | (simp [entryFrame, mkF, argsToLocals, Value.category]; done) | rfl) ?_
  intro p e s m below meth c s₁ hx hy hml hown hnm hret hlk hZ X0 e0
  let QQ := Q_lmp3 Z q wZ wT wS wP wH kT kS kP kH zt zs h0 n0
  have N0 := Fr.nil n0
  show Go p e below (s₁.setTop (mkF m 0 #[jS q, dS, iS 3, uS, uS, uS, uS] [])) (EndQ s below ({ frames := 1, cells := 0, slots := 0, locals := 13 } : Room).cells ({ frames := 1, cells := 0, slots := 0, locals := 13 } : Room).slots QQ)
  have ⟨bZ, bZv, bT, bTv, bTa, bS, bSv, bSa, bP, bPv, bH, bHv, bA⟩ := P0
  refine gon s₁ (mkF m 3 #[jS q,dS,iS 3,uS,uS,uS,uS] [(.int (lcmpW q (0 : Int64)))]) (fun _ k => XS.lloadN X0.here hx rfl (hb hy d17_97_0) rfl (XS.lconst X0.here hx rfl (hb hy d17_97_1) (XS.lcmp X0.here hx rfl (hb hy d17_97_2) rfl k))) ?_
  by_cases hc3_1 : q = (0 : Int64)
  · refine gon s₁ (mkF m 11 #[jS q,dS,iS 3,uS,uS,uS,uS] [(.long q)]) (fun _ k => XS.ifYes X0.here hx rfl (pc0 := 3) (pc' := 10) rfl (hb hy d17_97_3) rfl ((if0 _ _).trans (teq ((lw_eq q (0 : Int64)).mpr hc3_1)).1) (by decide) (by decide) (XS.lloadN X0.here hx rfl (hb hy d17_97_10) rfl k)) ?_
    exact OwnW.retJ X0 hx hlk hret (hb hy d17_97_11) (by decide) (by decide) (show QQ _ s₁.heap _ from ⟨(by simp [hc3_1]), N0, e0⟩)
  · refine gon s₁ (mkF m 7 #[jS q,dS,iS 3,uS,uS,uS,uS] [(.int 3)]) (fun _ k => XS.ifNo X0.here hx rfl (hb hy d17_97_3) rfl ((if0 _ _).trans (feq (fun zq => hc3_1 ((lw_eq q (0 : Int64)).mp zq))).1) (XS.iloadN X0.here hx rfl (hb hy d17_97_6) rfl k)) ?_
    refine gon s₁ (mkF m 12 #[jS q,dS,iS 3,uS,uS,uS,uS] []) (fun _ k => XS.ifYes X0.here hx rfl (pc0 := 7) (pc' := 12) rfl (hb hy d17_97_7) rfl ((if0 _ _).trans (tlt (by decide : (0 : Int32) < (3 : Int32))).2.2.1) (by decide) (by decide) k) ?_
    have s_3 := Sta.ext O0.2 bP
    obtain ⟨T2, X2, e2, st2⟩ := getS2 X0 hx hZ hown (host := "") (Or.inl (w254 hw)) Via.refl e0 s_3 (g := (mkF m 12 #[jS q,dS,iS 3,uS,uS,uS,uS] [])) rfl (hb hy d17_97_12)
    refine gon T2 (mkF m 15 #[jS q,dS,iS 3,uS,uS,uS,uS] [(.ref wP)]) (st2) ?_
    refine gon T2 (mkF m 16 #[jS q,dS,iS 3,rS wP,uS,uS,uS] []) (fun _ k => XS.astoreN X2.here hx rfl (hb hy d17_97_15) rfl rfl (l' := #[jS q, dS, iS 3, rS wP, uS, uS, uS]) rfl k) ?_
    have s_5 := Sta.ext O0.2 bH
    obtain ⟨T4, X4, e4, st4⟩ := getS2 X2 hx hZ hown (host := "") (Or.inl (w259 hw)) Via.refl e2 s_5 (g := (mkF m 16 #[jS q,dS,iS 3,rS wP,uS,uS,uS] [])) rfl (hb hy d17_97_16)
    refine gon T4 (mkF m 19 #[jS q,dS,iS 3,rS wP,uS,uS,uS] [(.ref wH)]) (st4) ?_
    refine gon T4 (mkF m 23 #[jS q,dS,iS 3,rS wP,rS wH,uS,uS] [(.ref wP), (.int 3)]) (fun _ k => XS.astore X4.here hx rfl (hb hy d17_97_19) rfl rfl (l' := #[jS q, dS, iS 3, rS wP, rS wH, uS, uS]) rfl (XS.iloadN X4.here hx rfl (hb hy d17_97_21) rfl (XS.aloadN X4.here hx rfl (hb hy d17_97_22) rfl rfl k))) ?_
    have s_6 := Arv.ext bPv O0.2
    refine gon T4 (mkF m 24 #[jS q,dS,iS 3,rS wP,rS wH,uS,uS] [(.int 19), (.int 3)]) (aLen X4 hx hZ e4 s_6 (hb hy d17_97_23)) ?_
    refine gon T4 (mkF m 30 #[jS q,dS,iS 3,rS wP,rS wH,uS,uS] [(.ref wH), (.int 3)]) (fun _ k => XS.icmpNo X4.here hx rfl (hb hy d17_97_24) rfl (tlt (by decide : (3 : Int32) < (19 : Int32))).2.1 (XS.iloadN X4.here hx rfl (hb hy d17_97_27) rfl (XS.aload X4.here hx rfl (hb hy d17_97_28) rfl rfl k))) ?_
    have s_7 := Arv.ext bHv O0.2
    refine gon T4 (mkF m 31 #[jS q,dS,iS 3,rS wP,rS wH,uS,uS] [(.int 19), (.int 3)]) (aLen X4 hx hZ e4 s_7 (hb hy d17_97_30)) ?_
    refine gon T4 (mkF m 36 #[jS q,dS,iS 3,rS wP,rS wH,uS,uS] [(.int 3), (.ref wP)]) (fun _ k => XS.icmpNo X4.here hx rfl (hb hy d17_97_31) rfl (tlt (by decide : (3 : Int32) < (19 : Int32))).2.1 (XS.aloadN X4.here hx rfl (hb hy d17_97_34) rfl rfl (XS.iloadN X4.here hx rfl (hb hy d17_97_35) rfl k))) ?_
    refine gon T4 (mkF m 37 #[jS q,dS,iS 3,rS wP,rS wH,uS,uS] [(.long 1000)]) (ldJ X4 hx hZ e4 s_6 ⟨by decide, by decide⟩ rfl (hb hy d17_97_36)) ?_
    refine gon T4 (mkF m 42 #[jS q,dS,iS 3,rS wP,rS wH,jS 1000,dS] [(.int (lcmpW q (1 : Int64)))]) (fun _ k => XS.lstore X4.here hx rfl (hb hy d17_97_37) rfl (l' := #[jS q, dS, iS 3, rS wP, rS wH, jS 1000, dS]) rfl (XS.lloadN X4.here hx rfl (hb hy d17_97_39) rfl (XS.lconst X4.here hx rfl (hb hy d17_97_40) (XS.lcmp X4.here hx rfl (hb hy d17_97_41) rfl k)))) ?_
    by_cases hc42_8 : q = (1 : Int64)
    · refine gon T4 (mkF m 47 #[jS q,dS,iS 3,rS wP,rS wH,jS 1000,dS] [(.long 1000)]) (fun _ k => XS.ifNo X4.here hx rfl (hb hy d17_97_42) rfl ((if0 _ _).trans (teq ((lw_eq q (1 : Int64)).mpr hc42_8)).2) (XS.lload X4.here hx rfl (hb hy d17_97_45) rfl k)) ?_
      exact OwnW.retJ X4 hx hlk hret (hb hy d17_97_47) (by decide) (by decide) (show QQ _ T4.heap _ from ⟨(by simp [hc3_1, hc42_8]), N0, e4⟩)
    · refine gon T4 (mkF m 49 #[jS q,dS,iS 3,rS wP,rS wH,jS 1000,dS] [(.long q)]) (fun _ k => XS.ifYes X4.here hx rfl (pc0 := 42) (pc' := 48) rfl (hb hy d17_97_42) rfl ((if0 _ _).trans (feq (fun zq => hc42_8 ((lw_eq q (1 : Int64)).mp zq))).2) (by decide) (by decide) (XS.lloadN X4.here hx rfl (hb hy d17_97_48) rfl k)) ?_
      obtain ⟨v9, T9, L9, X9, hQ9, st9⟩ := OwnW.callS X4 hx hZ hown (w260 hw) (w261 hw) (w100 hw) (w262 hw) (by decide) (absJ l Z a0 hw q h0 n0 Z0 ) e4 (Ls := #[jS q, dS, iS 3, rS wP, rS wH, jS 1000, dS]) (by rw [hml]; rfl) pd_11 (argsL := [(.long q)]) rfl (rest := []) rfl (W := 0) rfl (hb hy d17_97_49) (by decide) (by decide) (by decide) (by decide)
      obtain ⟨rfl, Nq9, eq9⟩ := hQ9
      have N9 := Fr.app N0 Nq9
      refine gon T9 (mkF m 52 #[jS q,dS,iS 3,rS wP,rS wH,jS 1000,dS] [(.long (labs q))]) (st9) ?_
      refine gon T9 (mkF m 55 #[jS q,dS,iS 3,rS wP,rS wH,jS 1000,dS] [(.int 3), (.ref wH), (.long (labs q))]) (fun _ k => XS.aload X9.here hx rfl (hb hy d17_97_52) rfl rfl (XS.iloadN X9.here hx rfl (hb hy d17_97_54) rfl k)) ?_
      refine gon T9 (mkF m 56 #[jS q,dS,iS 3,rS wP,rS wH,jS 1000,dS] [(.long 9223372036854775), (.long (labs q))]) (ldJ X9 hx hZ eq9 s_7 ⟨by decide, by decide⟩ rfl (hb hy d17_97_55)) ?_
      refine gon T9 (mkF m 57 #[jS q,dS,iS 3,rS wP,rS wH,jS 1000,dS] [(.int (lcmpW (labs q) (9223372036854775 : Int64)))]) (fun _ k => XS.lcmp X9.here hx rfl (hb hy d17_97_56) rfl k) ?_
      refine gon T9 (mkF m 64 #[jS q,dS,iS 3,rS wP,rS wH,jS 1000,dS] [(.long (q * (1000 : Int64)))]) (fun _ k => XS.ifNo X9.here hx rfl (hb hy d17_97_57) rfl ((if0 _ _).trans (flt (fun zq => (own_abs P1 (by decide) : ¬ ((9223372036854775 : Int64) < (labs q))) ((lw_gt (labs q) (9223372036854775 : Int64)).mp zq))).2.2.1) (XS.lloadN X9.here hx rfl (hb hy d17_97_60) rfl (XS.lload X9.here hx rfl (hb hy d17_97_61) rfl (XS.lmul X9.here hx rfl (hb hy d17_97_63) rfl k)))) ?_
      exact OwnW.retJ X9 hx hlk hret (hb hy d17_97_64) (by decide) (by decide) (show QQ _ T9.heap _ from ⟨rfl, N9, eq9⟩)
def Q_chk3 (Z : State) (q : Int64) (h0 : Heap) (n0 : Nat) (v : Option Value) (h : Heap) (L : List Loc) : Prop := v = some (.int (3 : Int32)) ∧ Fr n0 L ∧ h = h0
set_option maxRecDepth 65536 in
set_option maxHeartbeats 40000000 in
theorem chk3 (l : Launch) (Z : State) (a0 : Array Value) (hw : Ht a0 Z) (q : Int64) (h0 : Heap) (n0 : Nat) (Z0 : n0 ≤ h0.size)  :
    Con l Z (⟨"java/math/BigDecimal", "checkScale", "(JJ)I"⟩ : MethodName) jdk_17_method_113_code 5 (some .int) ({ frames := 0, cells := 0, slots := 0, locals := 0 } : Room) #[(.long q), (.long (3 : Int64))] h0 (Q_chk3 Z q h0 n0) := by
  refine OwnW.body (Ls := #[jS q, dS, jS 3, dS, uS]) (plainFor_of_name pn_5) (fun m => by first | (simp [entryFrame, mkF, argsToLocals, Value.category]; done) | rfl) ?_
  intro p e s m below meth c s₁ hx hy hml hown hnm hret hlk hZ X0 e0
  let QQ := Q_chk3 Z q h0 n0
  have N0 := Fr.nil n0
  show Go p e below (s₁.setTop (mkF m 0 #[jS q, dS, jS 3, dS, uS] [])) (EndQ s below ({ frames := 0, cells := 0, slots := 0, locals := 0 } : Room).cells ({ frames := 0, cells := 0, slots := 0, locals := 0 } : Room).slots QQ)
  refine gon s₁ (mkF m 7 #[jS q,dS,jS 3,dS,iS 3] [(.long 3)]) (fun _ k => XS.lloadN X0.here hx rfl (hb hy d17_113_0) rfl (XS.l2i X0.here hx rfl (hb hy d17_113_1) rfl (XS.istore X0.here hx rfl (hb hy d17_113_2) rfl (l' := #[jS q, dS, jS 3, dS, iS 3]) rfl (XS.iload X0.here hx rfl (hb hy d17_113_4) rfl (XS.i2l X0.here hx rfl (hb hy d17_113_6) rfl k))))) ?_
  refine gon s₁ (mkF m 9 #[jS q,dS,jS 3,dS,iS 3] [(.int (lcmpW (3 : Int64) (3 : Int64)))]) (fun _ k => XS.lloadN X0.here hx rfl (hb hy d17_113_7) rfl (XS.lcmp X0.here hx rfl (hb hy d17_113_8) rfl k)) ?_
  refine gon s₁ (mkF m 61 #[jS q,dS,jS 3,dS,iS 3] [(.int 3)]) (fun _ k => XS.ifYes X0.here hx rfl (pc0 := 9) (pc' := 59) rfl (hb hy d17_113_9) rfl ((if0 _ _).trans (teq ((lw_eq (3 : Int64) (3 : Int64)).mpr (by decide : (3 : Int64) = (3 : Int64)))).1) (by decide) (by decide) (XS.iload X0.here hx rfl (hb hy d17_113_59) rfl k)) ?_
  exact OwnW.retI X0 hx hlk hret (hb hy d17_113_61) (by decide) (by decide) (show QQ _ s₁.heap _ from ⟨rfl, N0, e0⟩)
theorem own_w0 : wt3 0 = 1000 := by decide
theorem own_w1 : wt3 1 = 100 := by decide
theorem own_w2 : wt3 2 = 10 := by decide
theorem own_w3 : wt3 3 = 1 := by decide
theorem own_scMax {q r : Int32} (hq : Sc q) (hr : Sc r) : Sc (imax q r) := by unfold imax; split <;> assumption
theorem own_i2lMin (q : Int32) : ¬ q.toInt64 = (-9223372036854775808 : Int64) := fun e => by
  have h := c_i2l q
  rw [e] at h
  have := rng32 q
  have e0 : (-9223372036854775808 : Int64).toInt = -9223372036854775808 := by decide
  omega
theorem own_w3b {r : Int32} (h : Sc r) : 1 ≤ wt3 r ∧ wt3 r ≤ 1000 := by rcases h with rfl | rfl | rfl | rfl <;> decide
theorem own_bqN {q : Int64} {r : Int32} (h : Sc r) (h1 : -6500000000000 ≤ Nv3 q r) (h2 : Nv3 q r ≤ 6500000000000) : Bq q := by
  have hw := own_w3b h
  unfold Nv3 at h1 h2
  unfold Bq
  by_cases p : 0 ≤ q.toInt
  · have : q.toInt * 1 ≤ q.toInt * wt3 r := Int.mul_le_mul_of_nonneg_left hw.1 p
    omega
  · have : (-q.toInt) * 1 ≤ (-q.toInt) * wt3 r := Int.mul_le_mul_of_nonneg_left hw.1 (by omega)
    simp only [Int.neg_mul] at this
    omega
theorem own_nI (q : Int32) {r : Int32} (h : Sc r) : -2147483648000 ≤ Nv3 q.toInt64 r ∧ Nv3 q.toInt64 r ≤ 2147483648000 := by
  have h1 := c_i2l q
  have h2 := rng32 q
  unfold Nv3
  rcases h with rfl | rfl | rfl | rfl
  · rw [own_w0]; omega
  · rw [own_w1]; omega
  · rw [own_w2]; omega
  · rw [own_w3]; omega
theorem own_bqI (q : Int32) : Bq q.toInt64 := by
  have h1 := c_i2l q
  have h2 := rng32 q
  unfold Bq
  omega
theorem own_nZ : Nv3 0 0 = 0 := by decide
abbrev k17_134 := jdk_17_method_134_code
theorem d17_134_0 : decode k17_134 0 = .ok (.iload_n 2, 1) := by decide +kernel
theorem d17_134_1 : decode k17_134 1 = .ok (.i2l, 1) := by decide +kernel
theorem d17_134_2 : decode k17_134 2 = .ok (.iload 5, 2) := by decide +kernel
theorem d17_134_4 : decode k17_134 4 = .ok (.i2l, 1) := by decide +kernel
theorem d17_134_5 : decode k17_134 5 = .ok (.lsub, 1) := by decide +kernel
theorem d17_134_6 : decode k17_134 6 = .ok (.lstore 6, 2) := by decide +kernel
theorem d17_134_8 : decode k17_134 8 = .ok (.lload 6, 2) := by decide +kernel
theorem d17_134_10 : decode k17_134 10 = .ok (.lconst 0, 1) := by decide +kernel
theorem d17_134_11 : decode k17_134 11 = .ok (.lcmp, 1) := by decide +kernel
theorem d17_134_12 : decode k17_134 12 = .ok (.ifCond .ne 10, 3) := by decide +kernel
theorem d17_134_15 : decode k17_134 15 = .ok (.lload_n 0, 1) := by decide +kernel
theorem d17_134_16 : decode k17_134 16 = .ok (.lload_n 3, 1) := by decide +kernel
theorem d17_134_17 : decode k17_134 17 = .ok (.iload_n 2, 1) := by decide +kernel
theorem d17_134_18 : decode k17_134 18 = .ok (.invokestatic 1000, 3) := by decide +kernel
theorem w186 {Z a0} (hw : Ht a0 Z) : (Cond.code ⟨"java/math/BigDecimal", "add", "(JJI)Ljava/math/BigDecimal;"⟩ jdk_17_method_133_code (7 : Nat) (Option.some (Jvm.ClassFile.FieldType.object "java/math/BigDecimal"))).before a0 Z = true := ht hw 186 rfl
theorem w184 {Z a0} (hw : Ht a0 Z) : (Cond.methodLink "java/math/BigDecimal" (1000 : Nat) ⟨"java/math/BigDecimal", "add", "(JJI)Ljava/math/BigDecimal;"⟩).before a0 Z = true := ht hw 184 rfl
theorem w185 {Z a0} (hw : Ht a0 Z) : (Cond.static ⟨"java/math/BigDecimal", "add", "(JJI)Ljava/math/BigDecimal;"⟩).before a0 Z = true := ht hw 185 rfl
theorem pd_12 : parseMethodDescriptor "(JJI)Ljava/math/BigDecimal;" = some ⟨[.long, .long, .int], some (.object "java/math/BigDecimal")⟩ := by decide +kernel
theorem d17_134_21 : decode k17_134 21 = .ok (.areturn, 1) := by decide +kernel
theorem d17_134_22 : decode k17_134 22 = .ok (.lload 6, 2) := by decide +kernel
theorem d17_134_24 : decode k17_134 24 = .ok (.lconst 0, 1) := by decide +kernel
theorem d17_134_25 : decode k17_134 25 = .ok (.lcmp, 1) := by decide +kernel
theorem d17_134_26 : decode k17_134 26 = .ok (.ifCond .ge 85, 3) := by decide +kernel
theorem d17_134_29 : decode k17_134 29 = .ok (.lload_n 0, 1) := by decide +kernel
theorem d17_134_30 : decode k17_134 30 = .ok (.lload 6, 2) := by decide +kernel
theorem d17_134_32 : decode k17_134 32 = .ok (.lneg, 1) := by decide +kernel
theorem d17_134_33 : decode k17_134 33 = .ok (.invokestatic 994, 3) := by decide +kernel
theorem w272 {Z a0} (hw : Ht a0 Z) : (Cond.code ⟨"java/math/BigDecimal", "checkScale", "(JJ)I"⟩ jdk_17_method_113_code (5 : Nat) (Option.some Jvm.ClassFile.FieldType.int)).before a0 Z = true := ht hw 272 rfl
theorem w270 {Z a0} (hw : Ht a0 Z) : (Cond.methodLink "java/math/BigDecimal" (994 : Nat) ⟨"java/math/BigDecimal", "checkScale", "(JJ)I"⟩).before a0 Z = true := ht hw 270 rfl
theorem w271 {Z a0} (hw : Ht a0 Z) : (Cond.static ⟨"java/math/BigDecimal", "checkScale", "(JJ)I"⟩).before a0 Z = true := ht hw 271 rfl
theorem pd_13 : parseMethodDescriptor "(JJ)I" = some ⟨[.long, .long], some .int⟩ := by decide +kernel
theorem d17_134_36 : decode k17_134 36 = .ok (.istore 8, 2) := by decide +kernel
theorem d17_134_38 : decode k17_134 38 = .ok (.lload_n 0, 1) := by decide +kernel
theorem d17_134_39 : decode k17_134 39 = .ok (.iload 8, 2) := by decide +kernel
theorem d17_134_41 : decode k17_134 41 = .ok (.invokestatic 599, 3) := by decide +kernel
theorem w258 {Z a0} (hw : Ht a0 Z) : (Cond.code ⟨"java/math/BigDecimal", "longMultiplyPowerTen", "(JI)J"⟩ jdk_17_method_97_code (7 : Nat) (Option.some Jvm.ClassFile.FieldType.long)).before a0 Z = true := ht hw 258 rfl
theorem w256 {Z a0} (hw : Ht a0 Z) : (Cond.methodLink "java/math/BigDecimal" (599 : Nat) ⟨"java/math/BigDecimal", "longMultiplyPowerTen", "(JI)J"⟩).before a0 Z = true := ht hw 256 rfl
theorem w257 {Z a0} (hw : Ht a0 Z) : (Cond.static ⟨"java/math/BigDecimal", "longMultiplyPowerTen", "(JI)J"⟩).before a0 Z = true := ht hw 257 rfl
theorem pd_14 : parseMethodDescriptor "(JI)J" = some ⟨[.long, .int], some .long⟩ := by decide +kernel
theorem d17_134_44 : decode k17_134 44 = .ok (.lstore 9, 2) := by decide +kernel
theorem d17_134_46 : decode k17_134 46 = .ok (.lload 9, 2) := by decide +kernel
theorem d17_134_48 : decode k17_134 48 = .ok (.ldc2_w 125, 3) := by decide +kernel
theorem d17_134_51 : decode k17_134 51 = .ok (.lcmp, 1) := by decide +kernel
theorem d17_134_52 : decode k17_134 52 = .ok (.ifCond .eq 12, 3) := by decide +kernel
theorem d17_134_55 : decode k17_134 55 = .ok (.lload 9, 2) := by decide +kernel
theorem d17_134_57 : decode k17_134 57 = .ok (.lload_n 3, 1) := by decide +kernel
theorem d17_134_58 : decode k17_134 58 = .ok (.iload 5, 2) := by decide +kernel
theorem d17_134_60 : decode k17_134 60 = .ok (.invokestatic 1000, 3) := by decide +kernel
theorem d17_134_63 : decode k17_134 63 = .ok (.areturn, 1) := by decide +kernel
theorem d17_134_111 : decode k17_134 111 = .ok (.lload_n 3, 1) := by decide +kernel
theorem d17_134_112 : decode k17_134 112 = .ok (.lload 6, 2) := by decide +kernel
theorem d17_134_114 : decode k17_134 114 = .ok (.invokestatic 994, 3) := by decide +kernel
theorem d17_134_117 : decode k17_134 117 = .ok (.istore 8, 2) := by decide +kernel
theorem d17_134_119 : decode k17_134 119 = .ok (.lload_n 3, 1) := by decide +kernel
theorem d17_134_120 : decode k17_134 120 = .ok (.iload 8, 2) := by decide +kernel
theorem d17_134_122 : decode k17_134 122 = .ok (.invokestatic 599, 3) := by decide +kernel
theorem d17_134_125 : decode k17_134 125 = .ok (.lstore 9, 2) := by decide +kernel
theorem d17_134_127 : decode k17_134 127 = .ok (.lload 9, 2) := by decide +kernel
theorem d17_134_129 : decode k17_134 129 = .ok (.ldc2_w 125, 3) := by decide +kernel
theorem d17_134_132 : decode k17_134 132 = .ok (.lcmp, 1) := by decide +kernel
theorem d17_134_133 : decode k17_134 133 = .ok (.ifCond .eq 11, 3) := by decide +kernel
theorem d17_134_136 : decode k17_134 136 = .ok (.lload_n 0, 1) := by decide +kernel
theorem d17_134_137 : decode k17_134 137 = .ok (.lload 9, 2) := by decide +kernel
theorem d17_134_139 : decode k17_134 139 = .ok (.iload_n 2, 1) := by decide +kernel
theorem d17_134_140 : decode k17_134 140 = .ok (.invokestatic 1000, 3) := by decide +kernel
theorem d17_134_143 : decode k17_134 143 = .ok (.areturn, 1) := by decide +kernel
def Q_addJIJI (Z : State) (qa : Int64) (ra : Int32) (qb : Int64) (rb : Int32) (wZ : Addr) (wT : Addr) (wS : Addr) (wP : Addr) (wH : Addr) (kT : ClassId) (kS : ClassId) (kP : ClassId) (kH : ClassId) (zt : Nat → Addr) (zs : Nat → Addr) (h0 : Heap) (n0 : Nat) (v : Option Value) (h : Heap) (L : List Loc) : Prop := ∃ b : Addr, ∃ z : Int64, ∃ t : Int32, v = some (.ref b) ∧ Fr n0 L ∧ Keep h0 h [] ∧ BDV Z h n0 b z t ∧ Sc t ∧ t = imax ra rb ∧ Nv3 z t = Nv3 qa ra + Nv3 qb rb
set_option maxRecDepth 65536 in
set_option maxHeartbeats 40000000 in
theorem addJIJI (l : Launch) (Z : State) (a0 : Array Value) (hw : Ht a0 Z) (qa : Int64) (ra : Int32) (qb : Int64) (rb : Int32) (wZ : Addr) (wT : Addr) (wS : Addr) (wP : Addr) (wH : Addr) (kT : ClassId) (kS : ClassId) (kP : ClassId) (kH : ClassId) (zt : Nat → Addr) (zs : Nat → Addr) (h0 : Heap) (n0 : Nat) (Z0 : n0 ≤ h0.size) (O0 : Old Z n0 h0) (P0 : BigS Z wZ wT wS wP wH kT kS kP kH zt zs) (P1 : Bq qa) (P2 : Bq qb) (P3 : Sc ra) (P4 : Sc rb) :
    Con l Z (⟨"java/math/BigDecimal", "add", "(JIJI)Ljava/math/BigDecimal;"⟩ : MethodName) jdk_17_method_134_code 12 (some (.object "java/math/BigDecimal")) ({ frames := 6, cells := 1, slots := 5, locals := 87 } : Room) #[(.long qa), (.int ra), (.long qb), (.int rb)] h0 (Q_addJIJI Z qa ra qb rb wZ wT wS wP wH kT kS kP kH zt zs h0 n0) := by
  refine OwnW.body (Ls := #[jS qa, dS, iS ra, jS qb, dS, iS rb, uS, uS, uS, uS, uS, uS]) (plainFor_of_name pn_5) (fun m => by first | (simp [entryFrame, mkF, argsToLocals, Value.category]; done) | rfl) ?_
  intro p e s m below meth c s₁ hx hy hml hown hnm hret hlk hZ X0 e0
  let QQ := Q_addJIJI Z qa ra qb rb wZ wT wS wP wH kT kS kP kH zt zs h0 n0
  have N0 := Fr.nil n0
  show Go p e below (s₁.setTop (mkF m 0 #[jS qa, dS, iS ra, jS qb, dS, iS rb, uS, uS, uS, uS, uS, uS] [])) (EndQ s below ({ frames := 6, cells := 1, slots := 5, locals := 87 } : Room).cells ({ frames := 6, cells := 1, slots := 5, locals := 87 } : Room).slots QQ)
  rcases P3 with rfl | rfl | rfl | rfl <;> rcases P4 with rfl | rfl | rfl | rfl
  · refine gon s₁ (mkF m 6 #[jS qa,dS,iS 0,jS qb,dS,iS 0,uS,uS,uS,uS,uS,uS] [(.long 0)]) (fun _ k => XS.iloadN X0.here hx rfl (hb hy d17_134_0) rfl (XS.i2l X0.here hx rfl (hb hy d17_134_1) rfl (XS.iload X0.here hx rfl (hb hy d17_134_2) rfl (XS.i2l X0.here hx rfl (hb hy d17_134_4) rfl (XS.lsub X0.here hx rfl (hb hy d17_134_5) rfl k))))) ?_
    refine gon s₁ (mkF m 12 #[jS qa,dS,iS 0,jS qb,dS,iS 0,jS 0,dS,uS,uS,uS,uS] [(.int (lcmpW (0 : Int64) (0 : Int64)))]) (fun _ k => XS.lstore X0.here hx rfl (hb hy d17_134_6) rfl (l' := #[jS qa, dS, iS 0, jS qb, dS, iS 0, jS 0, dS, uS, uS, uS, uS]) rfl (XS.lload X0.here hx rfl (hb hy d17_134_8) rfl (XS.lconst X0.here hx rfl (hb hy d17_134_10) (XS.lcmp X0.here hx rfl (hb hy d17_134_11) rfl k)))) ?_
    refine gon s₁ (mkF m 18 #[jS qa,dS,iS 0,jS qb,dS,iS 0,jS 0,dS,uS,uS,uS,uS] [(.int 0), (.long qb), (.long qa)]) (fun _ k => XS.ifNo X0.here hx rfl (hb hy d17_134_12) rfl ((if0 _ _).trans (teq ((lw_eq (0 : Int64) (0 : Int64)).mpr (by decide : (0 : Int64) = (0 : Int64)))).2) (XS.lloadN X0.here hx rfl (hb hy d17_134_15) rfl (XS.lloadN X0.here hx rfl (hb hy d17_134_16) rfl (XS.iloadN X0.here hx rfl (hb hy d17_134_17) rfl k)))) ?_
    obtain ⟨v1, T1, L1, X1, hQ1, st1⟩ := OwnW.callS X0 hx hZ hown (w184 hw) (w185 hw) (w35 hw) (w186 hw) (by decide) (addJJI l Z a0 hw qa qb (0 : Int32) wZ wT wS wP wH kT kS kP kH zt zs h0 n0 Z0 O0 P0 (own_bd1 P1 : Bd qa) (own_bd1 P2 : Bd qb) (by unfold Sc; decide : Sc (0 : Int32))) e0 (Ls := #[jS qa, dS, iS 0, jS qb, dS, iS 0, jS 0, dS, uS, uS, uS, uS]) (by rw [hml]; rfl) pd_12 (argsL := [(.long qa), (.long qb), (.int (0 : Int32))]) rfl (rest := []) rfl (W := 0) rfl (hb hy d17_134_18) (by decide) (by decide) (by decide) (by decide)
    obtain ⟨b_2, rfl, Nq1, Kq1, q1_0⟩ := hQ1
    have N1 := Fr.app N0 Nq1
    refine gon T1 (mkF m 21 #[jS qa,dS,iS 0,jS qb,dS,iS 0,jS 0,dS,uS,uS,uS,uS] [(.ref b_2)]) (st1) ?_
    have K_3 : Keep h0 T1.heap [] := (Keep.refl h0 []).trans Kq1 all0
    exact OwnW.retA X1 hx hlk hret rfl rfl (hb hy d17_134_21) (by decide) (by decide) (show QQ _ T1.heap _ from ⟨b_2, (qa + qb), (0 : Int32), rfl, N1, K_3, q1_0, (by unfold Sc; decide : Sc (0 : Int32)), (by decide : (0 : Int32) = imax (0 : Int32) (0 : Int32)), (by simp only [Nv3, own_w0, own_w1, own_w2, own_w3, own_add (own_bd1 P1) (own_bd1 P2)]; omega : Nv3 (qa + qb) (0 : Int32) = Nv3 qa (0 : Int32) + Nv3 qb (0 : Int32))⟩)
  · refine gon s₁ (mkF m 6 #[jS qa,dS,iS 0,jS qb,dS,iS 1,uS,uS,uS,uS,uS,uS] [(.long (-1))]) (fun _ k => XS.iloadN X0.here hx rfl (hb hy d17_134_0) rfl (XS.i2l X0.here hx rfl (hb hy d17_134_1) rfl (XS.iload X0.here hx rfl (hb hy d17_134_2) rfl (XS.i2l X0.here hx rfl (hb hy d17_134_4) rfl (XS.lsub X0.here hx rfl (hb hy d17_134_5) rfl k))))) ?_
    refine gon s₁ (mkF m 12 #[jS qa,dS,iS 0,jS qb,dS,iS 1,jS (-1),dS,uS,uS,uS,uS] [(.int (lcmpW (-1 : Int64) (0 : Int64)))]) (fun _ k => XS.lstore X0.here hx rfl (hb hy d17_134_6) rfl (l' := #[jS qa, dS, iS 0, jS qb, dS, iS 1, jS (-1), dS, uS, uS, uS, uS]) rfl (XS.lload X0.here hx rfl (hb hy d17_134_8) rfl (XS.lconst X0.here hx rfl (hb hy d17_134_10) (XS.lcmp X0.here hx rfl (hb hy d17_134_11) rfl k)))) ?_
    refine gon s₁ (mkF m 26 #[jS qa,dS,iS 0,jS qb,dS,iS 1,jS (-1),dS,uS,uS,uS,uS] [(.int (lcmpW (-1 : Int64) (0 : Int64)))]) (fun _ k => XS.ifYes X0.here hx rfl (pc0 := 12) (pc' := 22) rfl (hb hy d17_134_12) rfl ((if0 _ _).trans (feq (fun zq => (by decide : ¬ ((-1 : Int64) = (0 : Int64))) ((lw_eq (-1 : Int64) (0 : Int64)).mp zq))).2) (by decide) (by decide) (XS.lload X0.here hx rfl (hb hy d17_134_22) rfl (XS.lconst X0.here hx rfl (hb hy d17_134_24) (XS.lcmp X0.here hx rfl (hb hy d17_134_25) rfl k)))) ?_
    refine gon s₁ (mkF m 33 #[jS qa,dS,iS 0,jS qb,dS,iS 1,jS (-1),dS,uS,uS,uS,uS] [(.long 1), (.long qa)]) (fun _ k => XS.ifNo X0.here hx rfl (hb hy d17_134_26) rfl ((if0 _ _).trans (tlt ((lw_lt (-1 : Int64) (0 : Int64)).mpr (by decide : (-1 : Int64) < (0 : Int64)))).2.1) (XS.lloadN X0.here hx rfl (hb hy d17_134_29) rfl (XS.lload X0.here hx rfl (hb hy d17_134_30) rfl (XS.lneg X0.here hx rfl (hb hy d17_134_32) rfl k)))) ?_
    obtain ⟨v4, T4, L4, X4, hQ4, st4⟩ := OwnW.callS X0 hx hZ hown (w270 hw) (w271 hw) (w35 hw) (w272 hw) (by decide) (chk1 l Z a0 hw qa h0 n0 Z0 ) e0 (Ls := #[jS qa, dS, iS 0, jS qb, dS, iS 1, jS (-1), dS, uS, uS, uS, uS]) (by rw [hml]; rfl) pd_13 (argsL := [(.long qa), (.long (1 : Int64))]) rfl (rest := []) rfl (W := 0) rfl (hb hy d17_134_33) (by decide) (by decide) (by decide) (by decide)
    obtain ⟨rfl, Nq4, eq4⟩ := hQ4
    have N4 := Fr.app N0 Nq4
    refine gon T4 (mkF m 36 #[jS qa,dS,iS 0,jS qb,dS,iS 1,jS (-1),dS,uS,uS,uS,uS] [(.int 1)]) (st4) ?_
    refine gon T4 (mkF m 41 #[jS qa,dS,iS 0,jS qb,dS,iS 1,jS (-1),dS,iS 1,uS,uS,uS] [(.int 1), (.long qa)]) (fun _ k => XS.istore X4.here hx rfl (hb hy d17_134_36) rfl (l' := #[jS qa, dS, iS 0, jS qb, dS, iS 1, jS (-1), dS, iS 1, uS, uS, uS]) rfl (XS.lloadN X4.here hx rfl (hb hy d17_134_38) rfl (XS.iload X4.here hx rfl (hb hy d17_134_39) rfl k))) ?_
    obtain ⟨v5, T5, L5, X5, hQ5, st5⟩ := OwnW.callS X4 hx hZ hown (w256 hw) (w257 hw) (w35 hw) (w258 hw) (by decide) (lmp1 l Z a0 hw qa wZ wT wS wP wH kT kS kP kH zt zs h0 n0 Z0 O0 P0 P1) eq4 (Ls := #[jS qa, dS, iS 0, jS qb, dS, iS 1, jS (-1), dS, iS 1, uS, uS, uS]) (by rw [hml]; rfl) pd_14 (argsL := [(.long qa), (.int (1 : Int32))]) rfl (rest := []) rfl (W := 0) rfl (hb hy d17_134_41) (by decide) (by decide) (by decide) (by decide)
    obtain ⟨rfl, Nq5, eq5⟩ := hQ5
    have N5 := Fr.app N4 Nq5
    refine gon T5 (mkF m 44 #[jS qa,dS,iS 0,jS qb,dS,iS 1,jS (-1),dS,iS 1,uS,uS,uS] [(.long (qa * (10 : Int64)))]) (st5) ?_
    refine gon T5 (mkF m 48 #[jS qa,dS,iS 0,jS qb,dS,iS 1,jS (-1),dS,iS 1,jS (qa * (10 : Int64)),dS,uS] [(.long (qa * (10 : Int64)))]) (fun _ k => XS.lstore X5.here hx rfl (hb hy d17_134_44) rfl (l' := #[jS qa, dS, iS 0, jS qb, dS, iS 1, jS (-1), dS, iS 1, jS (qa * (10 : Int64)), dS, uS]) rfl (XS.lload X5.here hx rfl (hb hy d17_134_46) rfl k)) ?_
    refine gon T5 (mkF m 51 #[jS qa,dS,iS 0,jS qb,dS,iS 1,jS (-1),dS,iS 1,jS (qa * (10 : Int64)),dS,uS] [(.long (-9223372036854775808)), (.long (qa * (10 : Int64)))]) (X5.ldc2Long hx hown (mvT hZ (w178 hw)) (g := (mkF m 48 #[jS qa,dS,iS 0,jS qb,dS,iS 1,jS (-1),dS,iS 1,jS (qa * (10 : Int64)),dS,uS] [(.long (qa * (10 : Int64)))])) rfl (hb hy d17_134_48)) ?_
    refine gon T5 (mkF m 52 #[jS qa,dS,iS 0,jS qb,dS,iS 1,jS (-1),dS,iS 1,jS (qa * (10 : Int64)),dS,uS] [(.int (lcmpW (qa * (10 : Int64)) (-9223372036854775808 : Int64)))]) (fun _ k => XS.lcmp X5.here hx rfl (hb hy d17_134_51) rfl k) ?_
    refine gon T5 (mkF m 60 #[jS qa,dS,iS 0,jS qb,dS,iS 1,jS (-1),dS,iS 1,jS (qa * (10 : Int64)),dS,uS] [(.int 1), (.long qb), (.long (qa * (10 : Int64)))]) (fun _ k => XS.ifNo X5.here hx rfl (hb hy d17_134_52) rfl ((if0 _ _).trans (feq (fun zq => (own_bdMin ((own_bd10 P1).2) : ¬ ((qa * (10 : Int64)) = (-9223372036854775808 : Int64))) ((lw_eq (qa * (10 : Int64)) (-9223372036854775808 : Int64)).mp zq))).1) (XS.lload X5.here hx rfl (hb hy d17_134_55) rfl (XS.lloadN X5.here hx rfl (hb hy d17_134_57) rfl (XS.iload X5.here hx rfl (hb hy d17_134_58) rfl k)))) ?_
    obtain ⟨v6, T6, L6, X6, hQ6, st6⟩ := OwnW.callS X5 hx hZ hown (w184 hw) (w185 hw) (w35 hw) (w186 hw) (by decide) (addJJI l Z a0 hw (qa * (10 : Int64)) qb (1 : Int32) wZ wT wS wP wH kT kS kP kH zt zs h0 n0 Z0 O0 P0 ((own_bd10 P1).2 : Bd (qa * (10 : Int64))) (own_bd1 P2 : Bd qb) (by unfold Sc; decide : Sc (1 : Int32))) eq5 (Ls := #[jS qa, dS, iS 0, jS qb, dS, iS 1, jS (-1), dS, iS 1, jS (qa * (10 : Int64)), dS, uS]) (by rw [hml]; rfl) pd_12 (argsL := [(.long (qa * (10 : Int64))), (.long qb), (.int (1 : Int32))]) rfl (rest := []) rfl (W := 0) rfl (hb hy d17_134_60) (by decide) (by decide) (by decide) (by decide)
    obtain ⟨b_7, rfl, Nq6, Kq6, q6_0⟩ := hQ6
    have N6 := Fr.app N5 Nq6
    refine gon T6 (mkF m 63 #[jS qa,dS,iS 0,jS qb,dS,iS 1,jS (-1),dS,iS 1,jS (qa * (10 : Int64)),dS,uS] [(.ref b_7)]) (st6) ?_
    have K_8 : Keep h0 T6.heap [] := (Keep.refl h0 []).trans Kq6 all0
    exact OwnW.retA X6 hx hlk hret rfl rfl (hb hy d17_134_63) (by decide) (by decide) (show QQ _ T6.heap _ from ⟨b_7, ((qa * (10 : Int64)) + qb), (1 : Int32), rfl, N6, K_8, q6_0, (by unfold Sc; decide : Sc (1 : Int32)), (by decide : (1 : Int32) = imax (0 : Int32) (1 : Int32)), (by simp only [Nv3, own_w0, own_w1, own_w2, own_w3, own_add (own_bd10 P1).2 (own_bd1 P2), (own_bd10 P1).1]; omega : Nv3 ((qa * (10 : Int64)) + qb) (1 : Int32) = Nv3 qa (0 : Int32) + Nv3 qb (1 : Int32))⟩)
  · refine gon s₁ (mkF m 6 #[jS qa,dS,iS 0,jS qb,dS,iS 2,uS,uS,uS,uS,uS,uS] [(.long (-2))]) (fun _ k => XS.iloadN X0.here hx rfl (hb hy d17_134_0) rfl (XS.i2l X0.here hx rfl (hb hy d17_134_1) rfl (XS.iload X0.here hx rfl (hb hy d17_134_2) rfl (XS.i2l X0.here hx rfl (hb hy d17_134_4) rfl (XS.lsub X0.here hx rfl (hb hy d17_134_5) rfl k))))) ?_
    refine gon s₁ (mkF m 12 #[jS qa,dS,iS 0,jS qb,dS,iS 2,jS (-2),dS,uS,uS,uS,uS] [(.int (lcmpW (-2 : Int64) (0 : Int64)))]) (fun _ k => XS.lstore X0.here hx rfl (hb hy d17_134_6) rfl (l' := #[jS qa, dS, iS 0, jS qb, dS, iS 2, jS (-2), dS, uS, uS, uS, uS]) rfl (XS.lload X0.here hx rfl (hb hy d17_134_8) rfl (XS.lconst X0.here hx rfl (hb hy d17_134_10) (XS.lcmp X0.here hx rfl (hb hy d17_134_11) rfl k)))) ?_
    refine gon s₁ (mkF m 26 #[jS qa,dS,iS 0,jS qb,dS,iS 2,jS (-2),dS,uS,uS,uS,uS] [(.int (lcmpW (-2 : Int64) (0 : Int64)))]) (fun _ k => XS.ifYes X0.here hx rfl (pc0 := 12) (pc' := 22) rfl (hb hy d17_134_12) rfl ((if0 _ _).trans (feq (fun zq => (by decide : ¬ ((-2 : Int64) = (0 : Int64))) ((lw_eq (-2 : Int64) (0 : Int64)).mp zq))).2) (by decide) (by decide) (XS.lload X0.here hx rfl (hb hy d17_134_22) rfl (XS.lconst X0.here hx rfl (hb hy d17_134_24) (XS.lcmp X0.here hx rfl (hb hy d17_134_25) rfl k)))) ?_
    refine gon s₁ (mkF m 33 #[jS qa,dS,iS 0,jS qb,dS,iS 2,jS (-2),dS,uS,uS,uS,uS] [(.long 2), (.long qa)]) (fun _ k => XS.ifNo X0.here hx rfl (hb hy d17_134_26) rfl ((if0 _ _).trans (tlt ((lw_lt (-2 : Int64) (0 : Int64)).mpr (by decide : (-2 : Int64) < (0 : Int64)))).2.1) (XS.lloadN X0.here hx rfl (hb hy d17_134_29) rfl (XS.lload X0.here hx rfl (hb hy d17_134_30) rfl (XS.lneg X0.here hx rfl (hb hy d17_134_32) rfl k)))) ?_
    obtain ⟨v9, T9, L9, X9, hQ9, st9⟩ := OwnW.callS X0 hx hZ hown (w270 hw) (w271 hw) (w35 hw) (w272 hw) (by decide) (chk2 l Z a0 hw qa h0 n0 Z0 ) e0 (Ls := #[jS qa, dS, iS 0, jS qb, dS, iS 2, jS (-2), dS, uS, uS, uS, uS]) (by rw [hml]; rfl) pd_13 (argsL := [(.long qa), (.long (2 : Int64))]) rfl (rest := []) rfl (W := 0) rfl (hb hy d17_134_33) (by decide) (by decide) (by decide) (by decide)
    obtain ⟨rfl, Nq9, eq9⟩ := hQ9
    have N9 := Fr.app N0 Nq9
    refine gon T9 (mkF m 36 #[jS qa,dS,iS 0,jS qb,dS,iS 2,jS (-2),dS,uS,uS,uS,uS] [(.int 2)]) (st9) ?_
    refine gon T9 (mkF m 41 #[jS qa,dS,iS 0,jS qb,dS,iS 2,jS (-2),dS,iS 2,uS,uS,uS] [(.int 2), (.long qa)]) (fun _ k => XS.istore X9.here hx rfl (hb hy d17_134_36) rfl (l' := #[jS qa, dS, iS 0, jS qb, dS, iS 2, jS (-2), dS, iS 2, uS, uS, uS]) rfl (XS.lloadN X9.here hx rfl (hb hy d17_134_38) rfl (XS.iload X9.here hx rfl (hb hy d17_134_39) rfl k))) ?_
    obtain ⟨v10, T10, L10, X10, hQ10, st10⟩ := OwnW.callS X9 hx hZ hown (w256 hw) (w257 hw) (w35 hw) (w258 hw) (by decide) (lmp2 l Z a0 hw qa wZ wT wS wP wH kT kS kP kH zt zs h0 n0 Z0 O0 P0 P1) eq9 (Ls := #[jS qa, dS, iS 0, jS qb, dS, iS 2, jS (-2), dS, iS 2, uS, uS, uS]) (by rw [hml]; rfl) pd_14 (argsL := [(.long qa), (.int (2 : Int32))]) rfl (rest := []) rfl (W := 0) rfl (hb hy d17_134_41) (by decide) (by decide) (by decide) (by decide)
    obtain ⟨rfl, Nq10, eq10⟩ := hQ10
    have N10 := Fr.app N9 Nq10
    refine gon T10 (mkF m 44 #[jS qa,dS,iS 0,jS qb,dS,iS 2,jS (-2),dS,iS 2,uS,uS,uS] [(.long (qa * (100 : Int64)))]) (st10) ?_
    refine gon T10 (mkF m 48 #[jS qa,dS,iS 0,jS qb,dS,iS 2,jS (-2),dS,iS 2,jS (qa * (100 : Int64)),dS,uS] [(.long (qa * (100 : Int64)))]) (fun _ k => XS.lstore X10.here hx rfl (hb hy d17_134_44) rfl (l' := #[jS qa, dS, iS 0, jS qb, dS, iS 2, jS (-2), dS, iS 2, jS (qa * (100 : Int64)), dS, uS]) rfl (XS.lload X10.here hx rfl (hb hy d17_134_46) rfl k)) ?_
    refine gon T10 (mkF m 51 #[jS qa,dS,iS 0,jS qb,dS,iS 2,jS (-2),dS,iS 2,jS (qa * (100 : Int64)),dS,uS] [(.long (-9223372036854775808)), (.long (qa * (100 : Int64)))]) (X10.ldc2Long hx hown (mvT hZ (w178 hw)) (g := (mkF m 48 #[jS qa,dS,iS 0,jS qb,dS,iS 2,jS (-2),dS,iS 2,jS (qa * (100 : Int64)),dS,uS] [(.long (qa * (100 : Int64)))])) rfl (hb hy d17_134_48)) ?_
    refine gon T10 (mkF m 52 #[jS qa,dS,iS 0,jS qb,dS,iS 2,jS (-2),dS,iS 2,jS (qa * (100 : Int64)),dS,uS] [(.int (lcmpW (qa * (100 : Int64)) (-9223372036854775808 : Int64)))]) (fun _ k => XS.lcmp X10.here hx rfl (hb hy d17_134_51) rfl k) ?_
    refine gon T10 (mkF m 60 #[jS qa,dS,iS 0,jS qb,dS,iS 2,jS (-2),dS,iS 2,jS (qa * (100 : Int64)),dS,uS] [(.int 2), (.long qb), (.long (qa * (100 : Int64)))]) (fun _ k => XS.ifNo X10.here hx rfl (hb hy d17_134_52) rfl ((if0 _ _).trans (feq (fun zq => (own_bdMin ((own_bd100 P1).2) : ¬ ((qa * (100 : Int64)) = (-9223372036854775808 : Int64))) ((lw_eq (qa * (100 : Int64)) (-9223372036854775808 : Int64)).mp zq))).1) (XS.lload X10.here hx rfl (hb hy d17_134_55) rfl (XS.lloadN X10.here hx rfl (hb hy d17_134_57) rfl (XS.iload X10.here hx rfl (hb hy d17_134_58) rfl k)))) ?_
    obtain ⟨v11, T11, L11, X11, hQ11, st11⟩ := OwnW.callS X10 hx hZ hown (w184 hw) (w185 hw) (w35 hw) (w186 hw) (by decide) (addJJI l Z a0 hw (qa * (100 : Int64)) qb (2 : Int32) wZ wT wS wP wH kT kS kP kH zt zs h0 n0 Z0 O0 P0 ((own_bd100 P1).2 : Bd (qa * (100 : Int64))) (own_bd1 P2 : Bd qb) (by unfold Sc; decide : Sc (2 : Int32))) eq10 (Ls := #[jS qa, dS, iS 0, jS qb, dS, iS 2, jS (-2), dS, iS 2, jS (qa * (100 : Int64)), dS, uS]) (by rw [hml]; rfl) pd_12 (argsL := [(.long (qa * (100 : Int64))), (.long qb), (.int (2 : Int32))]) rfl (rest := []) rfl (W := 0) rfl (hb hy d17_134_60) (by decide) (by decide) (by decide) (by decide)
    obtain ⟨b_12, rfl, Nq11, Kq11, q11_0⟩ := hQ11
    have N11 := Fr.app N10 Nq11
    refine gon T11 (mkF m 63 #[jS qa,dS,iS 0,jS qb,dS,iS 2,jS (-2),dS,iS 2,jS (qa * (100 : Int64)),dS,uS] [(.ref b_12)]) (st11) ?_
    have K_13 : Keep h0 T11.heap [] := (Keep.refl h0 []).trans Kq11 all0
    exact OwnW.retA X11 hx hlk hret rfl rfl (hb hy d17_134_63) (by decide) (by decide) (show QQ _ T11.heap _ from ⟨b_12, ((qa * (100 : Int64)) + qb), (2 : Int32), rfl, N11, K_13, q11_0, (by unfold Sc; decide : Sc (2 : Int32)), (by decide : (2 : Int32) = imax (0 : Int32) (2 : Int32)), (by simp only [Nv3, own_w0, own_w1, own_w2, own_w3, own_add (own_bd100 P1).2 (own_bd1 P2), (own_bd100 P1).1]; omega : Nv3 ((qa * (100 : Int64)) + qb) (2 : Int32) = Nv3 qa (0 : Int32) + Nv3 qb (2 : Int32))⟩)
  · refine gon s₁ (mkF m 6 #[jS qa,dS,iS 0,jS qb,dS,iS 3,uS,uS,uS,uS,uS,uS] [(.long (-3))]) (fun _ k => XS.iloadN X0.here hx rfl (hb hy d17_134_0) rfl (XS.i2l X0.here hx rfl (hb hy d17_134_1) rfl (XS.iload X0.here hx rfl (hb hy d17_134_2) rfl (XS.i2l X0.here hx rfl (hb hy d17_134_4) rfl (XS.lsub X0.here hx rfl (hb hy d17_134_5) rfl k))))) ?_
    refine gon s₁ (mkF m 12 #[jS qa,dS,iS 0,jS qb,dS,iS 3,jS (-3),dS,uS,uS,uS,uS] [(.int (lcmpW (-3 : Int64) (0 : Int64)))]) (fun _ k => XS.lstore X0.here hx rfl (hb hy d17_134_6) rfl (l' := #[jS qa, dS, iS 0, jS qb, dS, iS 3, jS (-3), dS, uS, uS, uS, uS]) rfl (XS.lload X0.here hx rfl (hb hy d17_134_8) rfl (XS.lconst X0.here hx rfl (hb hy d17_134_10) (XS.lcmp X0.here hx rfl (hb hy d17_134_11) rfl k)))) ?_
    refine gon s₁ (mkF m 26 #[jS qa,dS,iS 0,jS qb,dS,iS 3,jS (-3),dS,uS,uS,uS,uS] [(.int (lcmpW (-3 : Int64) (0 : Int64)))]) (fun _ k => XS.ifYes X0.here hx rfl (pc0 := 12) (pc' := 22) rfl (hb hy d17_134_12) rfl ((if0 _ _).trans (feq (fun zq => (by decide : ¬ ((-3 : Int64) = (0 : Int64))) ((lw_eq (-3 : Int64) (0 : Int64)).mp zq))).2) (by decide) (by decide) (XS.lload X0.here hx rfl (hb hy d17_134_22) rfl (XS.lconst X0.here hx rfl (hb hy d17_134_24) (XS.lcmp X0.here hx rfl (hb hy d17_134_25) rfl k)))) ?_
    refine gon s₁ (mkF m 33 #[jS qa,dS,iS 0,jS qb,dS,iS 3,jS (-3),dS,uS,uS,uS,uS] [(.long 3), (.long qa)]) (fun _ k => XS.ifNo X0.here hx rfl (hb hy d17_134_26) rfl ((if0 _ _).trans (tlt ((lw_lt (-3 : Int64) (0 : Int64)).mpr (by decide : (-3 : Int64) < (0 : Int64)))).2.1) (XS.lloadN X0.here hx rfl (hb hy d17_134_29) rfl (XS.lload X0.here hx rfl (hb hy d17_134_30) rfl (XS.lneg X0.here hx rfl (hb hy d17_134_32) rfl k)))) ?_
    obtain ⟨v14, T14, L14, X14, hQ14, st14⟩ := OwnW.callS X0 hx hZ hown (w270 hw) (w271 hw) (w35 hw) (w272 hw) (by decide) (chk3 l Z a0 hw qa h0 n0 Z0 ) e0 (Ls := #[jS qa, dS, iS 0, jS qb, dS, iS 3, jS (-3), dS, uS, uS, uS, uS]) (by rw [hml]; rfl) pd_13 (argsL := [(.long qa), (.long (3 : Int64))]) rfl (rest := []) rfl (W := 0) rfl (hb hy d17_134_33) (by decide) (by decide) (by decide) (by decide)
    obtain ⟨rfl, Nq14, eq14⟩ := hQ14
    have N14 := Fr.app N0 Nq14
    refine gon T14 (mkF m 36 #[jS qa,dS,iS 0,jS qb,dS,iS 3,jS (-3),dS,uS,uS,uS,uS] [(.int 3)]) (st14) ?_
    refine gon T14 (mkF m 41 #[jS qa,dS,iS 0,jS qb,dS,iS 3,jS (-3),dS,iS 3,uS,uS,uS] [(.int 3), (.long qa)]) (fun _ k => XS.istore X14.here hx rfl (hb hy d17_134_36) rfl (l' := #[jS qa, dS, iS 0, jS qb, dS, iS 3, jS (-3), dS, iS 3, uS, uS, uS]) rfl (XS.lloadN X14.here hx rfl (hb hy d17_134_38) rfl (XS.iload X14.here hx rfl (hb hy d17_134_39) rfl k))) ?_
    obtain ⟨v15, T15, L15, X15, hQ15, st15⟩ := OwnW.callS X14 hx hZ hown (w256 hw) (w257 hw) (w35 hw) (w258 hw) (by decide) (lmp3 l Z a0 hw qa wZ wT wS wP wH kT kS kP kH zt zs h0 n0 Z0 O0 P0 P1) eq14 (Ls := #[jS qa, dS, iS 0, jS qb, dS, iS 3, jS (-3), dS, iS 3, uS, uS, uS]) (by rw [hml]; rfl) pd_14 (argsL := [(.long qa), (.int (3 : Int32))]) rfl (rest := []) rfl (W := 0) rfl (hb hy d17_134_41) (by decide) (by decide) (by decide) (by decide)
    obtain ⟨rfl, Nq15, eq15⟩ := hQ15
    have N15 := Fr.app N14 Nq15
    refine gon T15 (mkF m 44 #[jS qa,dS,iS 0,jS qb,dS,iS 3,jS (-3),dS,iS 3,uS,uS,uS] [(.long (qa * (1000 : Int64)))]) (st15) ?_
    refine gon T15 (mkF m 48 #[jS qa,dS,iS 0,jS qb,dS,iS 3,jS (-3),dS,iS 3,jS (qa * (1000 : Int64)),dS,uS] [(.long (qa * (1000 : Int64)))]) (fun _ k => XS.lstore X15.here hx rfl (hb hy d17_134_44) rfl (l' := #[jS qa, dS, iS 0, jS qb, dS, iS 3, jS (-3), dS, iS 3, jS (qa * (1000 : Int64)), dS, uS]) rfl (XS.lload X15.here hx rfl (hb hy d17_134_46) rfl k)) ?_
    refine gon T15 (mkF m 51 #[jS qa,dS,iS 0,jS qb,dS,iS 3,jS (-3),dS,iS 3,jS (qa * (1000 : Int64)),dS,uS] [(.long (-9223372036854775808)), (.long (qa * (1000 : Int64)))]) (X15.ldc2Long hx hown (mvT hZ (w178 hw)) (g := (mkF m 48 #[jS qa,dS,iS 0,jS qb,dS,iS 3,jS (-3),dS,iS 3,jS (qa * (1000 : Int64)),dS,uS] [(.long (qa * (1000 : Int64)))])) rfl (hb hy d17_134_48)) ?_
    refine gon T15 (mkF m 52 #[jS qa,dS,iS 0,jS qb,dS,iS 3,jS (-3),dS,iS 3,jS (qa * (1000 : Int64)),dS,uS] [(.int (lcmpW (qa * (1000 : Int64)) (-9223372036854775808 : Int64)))]) (fun _ k => XS.lcmp X15.here hx rfl (hb hy d17_134_51) rfl k) ?_
    refine gon T15 (mkF m 60 #[jS qa,dS,iS 0,jS qb,dS,iS 3,jS (-3),dS,iS 3,jS (qa * (1000 : Int64)),dS,uS] [(.int 3), (.long qb), (.long (qa * (1000 : Int64)))]) (fun _ k => XS.ifNo X15.here hx rfl (hb hy d17_134_52) rfl ((if0 _ _).trans (feq (fun zq => (own_bdMin ((own_bd1000 P1).2) : ¬ ((qa * (1000 : Int64)) = (-9223372036854775808 : Int64))) ((lw_eq (qa * (1000 : Int64)) (-9223372036854775808 : Int64)).mp zq))).1) (XS.lload X15.here hx rfl (hb hy d17_134_55) rfl (XS.lloadN X15.here hx rfl (hb hy d17_134_57) rfl (XS.iload X15.here hx rfl (hb hy d17_134_58) rfl k)))) ?_
    obtain ⟨v16, T16, L16, X16, hQ16, st16⟩ := OwnW.callS X15 hx hZ hown (w184 hw) (w185 hw) (w35 hw) (w186 hw) (by decide) (addJJI l Z a0 hw (qa * (1000 : Int64)) qb (3 : Int32) wZ wT wS wP wH kT kS kP kH zt zs h0 n0 Z0 O0 P0 ((own_bd1000 P1).2 : Bd (qa * (1000 : Int64))) (own_bd1 P2 : Bd qb) (by unfold Sc; decide : Sc (3 : Int32))) eq15 (Ls := #[jS qa, dS, iS 0, jS qb, dS, iS 3, jS (-3), dS, iS 3, jS (qa * (1000 : Int64)), dS, uS]) (by rw [hml]; rfl) pd_12 (argsL := [(.long (qa * (1000 : Int64))), (.long qb), (.int (3 : Int32))]) rfl (rest := []) rfl (W := 0) rfl (hb hy d17_134_60) (by decide) (by decide) (by decide) (by decide)
    obtain ⟨b_17, rfl, Nq16, Kq16, q16_0⟩ := hQ16
    have N16 := Fr.app N15 Nq16
    refine gon T16 (mkF m 63 #[jS qa,dS,iS 0,jS qb,dS,iS 3,jS (-3),dS,iS 3,jS (qa * (1000 : Int64)),dS,uS] [(.ref b_17)]) (st16) ?_
    have K_18 : Keep h0 T16.heap [] := (Keep.refl h0 []).trans Kq16 all0
    exact OwnW.retA X16 hx hlk hret rfl rfl (hb hy d17_134_63) (by decide) (by decide) (show QQ _ T16.heap _ from ⟨b_17, ((qa * (1000 : Int64)) + qb), (3 : Int32), rfl, N16, K_18, q16_0, (by unfold Sc; decide : Sc (3 : Int32)), (by decide : (3 : Int32) = imax (0 : Int32) (3 : Int32)), (by simp only [Nv3, own_w0, own_w1, own_w2, own_w3, own_add (own_bd1000 P1).2 (own_bd1 P2), (own_bd1000 P1).1]; omega : Nv3 ((qa * (1000 : Int64)) + qb) (3 : Int32) = Nv3 qa (0 : Int32) + Nv3 qb (3 : Int32))⟩)
  · refine gon s₁ (mkF m 6 #[jS qa,dS,iS 1,jS qb,dS,iS 0,uS,uS,uS,uS,uS,uS] [(.long 1)]) (fun _ k => XS.iloadN X0.here hx rfl (hb hy d17_134_0) rfl (XS.i2l X0.here hx rfl (hb hy d17_134_1) rfl (XS.iload X0.here hx rfl (hb hy d17_134_2) rfl (XS.i2l X0.here hx rfl (hb hy d17_134_4) rfl (XS.lsub X0.here hx rfl (hb hy d17_134_5) rfl k))))) ?_
    refine gon s₁ (mkF m 12 #[jS qa,dS,iS 1,jS qb,dS,iS 0,jS 1,dS,uS,uS,uS,uS] [(.int (lcmpW (1 : Int64) (0 : Int64)))]) (fun _ k => XS.lstore X0.here hx rfl (hb hy d17_134_6) rfl (l' := #[jS qa, dS, iS 1, jS qb, dS, iS 0, jS 1, dS, uS, uS, uS, uS]) rfl (XS.lload X0.here hx rfl (hb hy d17_134_8) rfl (XS.lconst X0.here hx rfl (hb hy d17_134_10) (XS.lcmp X0.here hx rfl (hb hy d17_134_11) rfl k)))) ?_
    refine gon s₁ (mkF m 26 #[jS qa,dS,iS 1,jS qb,dS,iS 0,jS 1,dS,uS,uS,uS,uS] [(.int (lcmpW (1 : Int64) (0 : Int64)))]) (fun _ k => XS.ifYes X0.here hx rfl (pc0 := 12) (pc' := 22) rfl (hb hy d17_134_12) rfl ((if0 _ _).trans (feq (fun zq => (by decide : ¬ ((1 : Int64) = (0 : Int64))) ((lw_eq (1 : Int64) (0 : Int64)).mp zq))).2) (by decide) (by decide) (XS.lload X0.here hx rfl (hb hy d17_134_22) rfl (XS.lconst X0.here hx rfl (hb hy d17_134_24) (XS.lcmp X0.here hx rfl (hb hy d17_134_25) rfl k)))) ?_
    refine gon s₁ (mkF m 114 #[jS qa,dS,iS 1,jS qb,dS,iS 0,jS 1,dS,uS,uS,uS,uS] [(.long 1), (.long qb)]) (fun _ k => XS.ifYes X0.here hx rfl (pc0 := 26) (pc' := 111) rfl (hb hy d17_134_26) rfl ((if0 _ _).trans (flt (fun zq => (by decide : ¬ ((1 : Int64) < (0 : Int64))) ((lw_lt (1 : Int64) (0 : Int64)).mp zq))).2.1) (by decide) (by decide) (XS.lloadN X0.here hx rfl (hb hy d17_134_111) rfl (XS.lload X0.here hx rfl (hb hy d17_134_112) rfl k))) ?_
    obtain ⟨v19, T19, L19, X19, hQ19, st19⟩ := OwnW.callS X0 hx hZ hown (w270 hw) (w271 hw) (w35 hw) (w272 hw) (by decide) (chk1 l Z a0 hw qb h0 n0 Z0 ) e0 (Ls := #[jS qa, dS, iS 1, jS qb, dS, iS 0, jS 1, dS, uS, uS, uS, uS]) (by rw [hml]; rfl) pd_13 (argsL := [(.long qb), (.long (1 : Int64))]) rfl (rest := []) rfl (W := 0) rfl (hb hy d17_134_114) (by decide) (by decide) (by decide) (by decide)
    obtain ⟨rfl, Nq19, eq19⟩ := hQ19
    have N19 := Fr.app N0 Nq19
    refine gon T19 (mkF m 117 #[jS qa,dS,iS 1,jS qb,dS,iS 0,jS 1,dS,uS,uS,uS,uS] [(.int 1)]) (st19) ?_
    refine gon T19 (mkF m 122 #[jS qa,dS,iS 1,jS qb,dS,iS 0,jS 1,dS,iS 1,uS,uS,uS] [(.int 1), (.long qb)]) (fun _ k => XS.istore X19.here hx rfl (hb hy d17_134_117) rfl (l' := #[jS qa, dS, iS 1, jS qb, dS, iS 0, jS 1, dS, iS 1, uS, uS, uS]) rfl (XS.lloadN X19.here hx rfl (hb hy d17_134_119) rfl (XS.iload X19.here hx rfl (hb hy d17_134_120) rfl k))) ?_
    obtain ⟨v20, T20, L20, X20, hQ20, st20⟩ := OwnW.callS X19 hx hZ hown (w256 hw) (w257 hw) (w35 hw) (w258 hw) (by decide) (lmp1 l Z a0 hw qb wZ wT wS wP wH kT kS kP kH zt zs h0 n0 Z0 O0 P0 P2) eq19 (Ls := #[jS qa, dS, iS 1, jS qb, dS, iS 0, jS 1, dS, iS 1, uS, uS, uS]) (by rw [hml]; rfl) pd_14 (argsL := [(.long qb), (.int (1 : Int32))]) rfl (rest := []) rfl (W := 0) rfl (hb hy d17_134_122) (by decide) (by decide) (by decide) (by decide)
    obtain ⟨rfl, Nq20, eq20⟩ := hQ20
    have N20 := Fr.app N19 Nq20
    refine gon T20 (mkF m 125 #[jS qa,dS,iS 1,jS qb,dS,iS 0,jS 1,dS,iS 1,uS,uS,uS] [(.long (qb * (10 : Int64)))]) (st20) ?_
    refine gon T20 (mkF m 129 #[jS qa,dS,iS 1,jS qb,dS,iS 0,jS 1,dS,iS 1,jS (qb * (10 : Int64)),dS,uS] [(.long (qb * (10 : Int64)))]) (fun _ k => XS.lstore X20.here hx rfl (hb hy d17_134_125) rfl (l' := #[jS qa, dS, iS 1, jS qb, dS, iS 0, jS 1, dS, iS 1, jS (qb * (10 : Int64)), dS, uS]) rfl (XS.lload X20.here hx rfl (hb hy d17_134_127) rfl k)) ?_
    refine gon T20 (mkF m 132 #[jS qa,dS,iS 1,jS qb,dS,iS 0,jS 1,dS,iS 1,jS (qb * (10 : Int64)),dS,uS] [(.long (-9223372036854775808)), (.long (qb * (10 : Int64)))]) (X20.ldc2Long hx hown (mvT hZ (w178 hw)) (g := (mkF m 129 #[jS qa,dS,iS 1,jS qb,dS,iS 0,jS 1,dS,iS 1,jS (qb * (10 : Int64)),dS,uS] [(.long (qb * (10 : Int64)))])) rfl (hb hy d17_134_129)) ?_
    refine gon T20 (mkF m 133 #[jS qa,dS,iS 1,jS qb,dS,iS 0,jS 1,dS,iS 1,jS (qb * (10 : Int64)),dS,uS] [(.int (lcmpW (qb * (10 : Int64)) (-9223372036854775808 : Int64)))]) (fun _ k => XS.lcmp X20.here hx rfl (hb hy d17_134_132) rfl k) ?_
    refine gon T20 (mkF m 140 #[jS qa,dS,iS 1,jS qb,dS,iS 0,jS 1,dS,iS 1,jS (qb * (10 : Int64)),dS,uS] [(.int 1), (.long (qb * (10 : Int64))), (.long qa)]) (fun _ k => XS.ifNo X20.here hx rfl (hb hy d17_134_133) rfl ((if0 _ _).trans (feq (fun zq => (own_bdMin ((own_bd10 P2).2) : ¬ ((qb * (10 : Int64)) = (-9223372036854775808 : Int64))) ((lw_eq (qb * (10 : Int64)) (-9223372036854775808 : Int64)).mp zq))).1) (XS.lloadN X20.here hx rfl (hb hy d17_134_136) rfl (XS.lload X20.here hx rfl (hb hy d17_134_137) rfl (XS.iloadN X20.here hx rfl (hb hy d17_134_139) rfl k)))) ?_
    obtain ⟨v21, T21, L21, X21, hQ21, st21⟩ := OwnW.callS X20 hx hZ hown (w184 hw) (w185 hw) (w35 hw) (w186 hw) (by decide) (addJJI l Z a0 hw qa (qb * (10 : Int64)) (1 : Int32) wZ wT wS wP wH kT kS kP kH zt zs h0 n0 Z0 O0 P0 (own_bd1 P1 : Bd qa) ((own_bd10 P2).2 : Bd (qb * (10 : Int64))) (by unfold Sc; decide : Sc (1 : Int32))) eq20 (Ls := #[jS qa, dS, iS 1, jS qb, dS, iS 0, jS 1, dS, iS 1, jS (qb * (10 : Int64)), dS, uS]) (by rw [hml]; rfl) pd_12 (argsL := [(.long qa), (.long (qb * (10 : Int64))), (.int (1 : Int32))]) rfl (rest := []) rfl (W := 0) rfl (hb hy d17_134_140) (by decide) (by decide) (by decide) (by decide)
    obtain ⟨b_22, rfl, Nq21, Kq21, q21_0⟩ := hQ21
    have N21 := Fr.app N20 Nq21
    refine gon T21 (mkF m 143 #[jS qa,dS,iS 1,jS qb,dS,iS 0,jS 1,dS,iS 1,jS (qb * (10 : Int64)),dS,uS] [(.ref b_22)]) (st21) ?_
    have K_23 : Keep h0 T21.heap [] := (Keep.refl h0 []).trans Kq21 all0
    exact OwnW.retA X21 hx hlk hret rfl rfl (hb hy d17_134_143) (by decide) (by decide) (show QQ _ T21.heap _ from ⟨b_22, (qa + (qb * (10 : Int64))), (1 : Int32), rfl, N21, K_23, q21_0, (by unfold Sc; decide : Sc (1 : Int32)), (by decide : (1 : Int32) = imax (1 : Int32) (0 : Int32)), (by simp only [Nv3, own_w0, own_w1, own_w2, own_w3, own_add (own_bd1 P1) (own_bd10 P2).2, (own_bd10 P2).1]; omega : Nv3 (qa + (qb * (10 : Int64))) (1 : Int32) = Nv3 qa (1 : Int32) + Nv3 qb (0 : Int32))⟩)
  · refine gon s₁ (mkF m 6 #[jS qa,dS,iS 1,jS qb,dS,iS 1,uS,uS,uS,uS,uS,uS] [(.long 0)]) (fun _ k => XS.iloadN X0.here hx rfl (hb hy d17_134_0) rfl (XS.i2l X0.here hx rfl (hb hy d17_134_1) rfl (XS.iload X0.here hx rfl (hb hy d17_134_2) rfl (XS.i2l X0.here hx rfl (hb hy d17_134_4) rfl (XS.lsub X0.here hx rfl (hb hy d17_134_5) rfl k))))) ?_
    refine gon s₁ (mkF m 12 #[jS qa,dS,iS 1,jS qb,dS,iS 1,jS 0,dS,uS,uS,uS,uS] [(.int (lcmpW (0 : Int64) (0 : Int64)))]) (fun _ k => XS.lstore X0.here hx rfl (hb hy d17_134_6) rfl (l' := #[jS qa, dS, iS 1, jS qb, dS, iS 1, jS 0, dS, uS, uS, uS, uS]) rfl (XS.lload X0.here hx rfl (hb hy d17_134_8) rfl (XS.lconst X0.here hx rfl (hb hy d17_134_10) (XS.lcmp X0.here hx rfl (hb hy d17_134_11) rfl k)))) ?_
    refine gon s₁ (mkF m 18 #[jS qa,dS,iS 1,jS qb,dS,iS 1,jS 0,dS,uS,uS,uS,uS] [(.int 1), (.long qb), (.long qa)]) (fun _ k => XS.ifNo X0.here hx rfl (hb hy d17_134_12) rfl ((if0 _ _).trans (teq ((lw_eq (0 : Int64) (0 : Int64)).mpr (by decide : (0 : Int64) = (0 : Int64)))).2) (XS.lloadN X0.here hx rfl (hb hy d17_134_15) rfl (XS.lloadN X0.here hx rfl (hb hy d17_134_16) rfl (XS.iloadN X0.here hx rfl (hb hy d17_134_17) rfl k)))) ?_
    obtain ⟨v24, T24, L24, X24, hQ24, st24⟩ := OwnW.callS X0 hx hZ hown (w184 hw) (w185 hw) (w35 hw) (w186 hw) (by decide) (addJJI l Z a0 hw qa qb (1 : Int32) wZ wT wS wP wH kT kS kP kH zt zs h0 n0 Z0 O0 P0 (own_bd1 P1 : Bd qa) (own_bd1 P2 : Bd qb) (by unfold Sc; decide : Sc (1 : Int32))) e0 (Ls := #[jS qa, dS, iS 1, jS qb, dS, iS 1, jS 0, dS, uS, uS, uS, uS]) (by rw [hml]; rfl) pd_12 (argsL := [(.long qa), (.long qb), (.int (1 : Int32))]) rfl (rest := []) rfl (W := 0) rfl (hb hy d17_134_18) (by decide) (by decide) (by decide) (by decide)
    obtain ⟨b_25, rfl, Nq24, Kq24, q24_0⟩ := hQ24
    have N24 := Fr.app N0 Nq24
    refine gon T24 (mkF m 21 #[jS qa,dS,iS 1,jS qb,dS,iS 1,jS 0,dS,uS,uS,uS,uS] [(.ref b_25)]) (st24) ?_
    have K_26 : Keep h0 T24.heap [] := (Keep.refl h0 []).trans Kq24 all0
    exact OwnW.retA X24 hx hlk hret rfl rfl (hb hy d17_134_21) (by decide) (by decide) (show QQ _ T24.heap _ from ⟨b_25, (qa + qb), (1 : Int32), rfl, N24, K_26, q24_0, (by unfold Sc; decide : Sc (1 : Int32)), (by decide : (1 : Int32) = imax (1 : Int32) (1 : Int32)), (by simp only [Nv3, own_w0, own_w1, own_w2, own_w3, own_add (own_bd1 P1) (own_bd1 P2)]; omega : Nv3 (qa + qb) (1 : Int32) = Nv3 qa (1 : Int32) + Nv3 qb (1 : Int32))⟩)
  · refine gon s₁ (mkF m 6 #[jS qa,dS,iS 1,jS qb,dS,iS 2,uS,uS,uS,uS,uS,uS] [(.long (-1))]) (fun _ k => XS.iloadN X0.here hx rfl (hb hy d17_134_0) rfl (XS.i2l X0.here hx rfl (hb hy d17_134_1) rfl (XS.iload X0.here hx rfl (hb hy d17_134_2) rfl (XS.i2l X0.here hx rfl (hb hy d17_134_4) rfl (XS.lsub X0.here hx rfl (hb hy d17_134_5) rfl k))))) ?_
    refine gon s₁ (mkF m 12 #[jS qa,dS,iS 1,jS qb,dS,iS 2,jS (-1),dS,uS,uS,uS,uS] [(.int (lcmpW (-1 : Int64) (0 : Int64)))]) (fun _ k => XS.lstore X0.here hx rfl (hb hy d17_134_6) rfl (l' := #[jS qa, dS, iS 1, jS qb, dS, iS 2, jS (-1), dS, uS, uS, uS, uS]) rfl (XS.lload X0.here hx rfl (hb hy d17_134_8) rfl (XS.lconst X0.here hx rfl (hb hy d17_134_10) (XS.lcmp X0.here hx rfl (hb hy d17_134_11) rfl k)))) ?_
    refine gon s₁ (mkF m 26 #[jS qa,dS,iS 1,jS qb,dS,iS 2,jS (-1),dS,uS,uS,uS,uS] [(.int (lcmpW (-1 : Int64) (0 : Int64)))]) (fun _ k => XS.ifYes X0.here hx rfl (pc0 := 12) (pc' := 22) rfl (hb hy d17_134_12) rfl ((if0 _ _).trans (feq (fun zq => (by decide : ¬ ((-1 : Int64) = (0 : Int64))) ((lw_eq (-1 : Int64) (0 : Int64)).mp zq))).2) (by decide) (by decide) (XS.lload X0.here hx rfl (hb hy d17_134_22) rfl (XS.lconst X0.here hx rfl (hb hy d17_134_24) (XS.lcmp X0.here hx rfl (hb hy d17_134_25) rfl k)))) ?_
    refine gon s₁ (mkF m 33 #[jS qa,dS,iS 1,jS qb,dS,iS 2,jS (-1),dS,uS,uS,uS,uS] [(.long 1), (.long qa)]) (fun _ k => XS.ifNo X0.here hx rfl (hb hy d17_134_26) rfl ((if0 _ _).trans (tlt ((lw_lt (-1 : Int64) (0 : Int64)).mpr (by decide : (-1 : Int64) < (0 : Int64)))).2.1) (XS.lloadN X0.here hx rfl (hb hy d17_134_29) rfl (XS.lload X0.here hx rfl (hb hy d17_134_30) rfl (XS.lneg X0.here hx rfl (hb hy d17_134_32) rfl k)))) ?_
    obtain ⟨v27, T27, L27, X27, hQ27, st27⟩ := OwnW.callS X0 hx hZ hown (w270 hw) (w271 hw) (w35 hw) (w272 hw) (by decide) (chk1 l Z a0 hw qa h0 n0 Z0 ) e0 (Ls := #[jS qa, dS, iS 1, jS qb, dS, iS 2, jS (-1), dS, uS, uS, uS, uS]) (by rw [hml]; rfl) pd_13 (argsL := [(.long qa), (.long (1 : Int64))]) rfl (rest := []) rfl (W := 0) rfl (hb hy d17_134_33) (by decide) (by decide) (by decide) (by decide)
    obtain ⟨rfl, Nq27, eq27⟩ := hQ27
    have N27 := Fr.app N0 Nq27
    refine gon T27 (mkF m 36 #[jS qa,dS,iS 1,jS qb,dS,iS 2,jS (-1),dS,uS,uS,uS,uS] [(.int 1)]) (st27) ?_
    refine gon T27 (mkF m 41 #[jS qa,dS,iS 1,jS qb,dS,iS 2,jS (-1),dS,iS 1,uS,uS,uS] [(.int 1), (.long qa)]) (fun _ k => XS.istore X27.here hx rfl (hb hy d17_134_36) rfl (l' := #[jS qa, dS, iS 1, jS qb, dS, iS 2, jS (-1), dS, iS 1, uS, uS, uS]) rfl (XS.lloadN X27.here hx rfl (hb hy d17_134_38) rfl (XS.iload X27.here hx rfl (hb hy d17_134_39) rfl k))) ?_
    obtain ⟨v28, T28, L28, X28, hQ28, st28⟩ := OwnW.callS X27 hx hZ hown (w256 hw) (w257 hw) (w35 hw) (w258 hw) (by decide) (lmp1 l Z a0 hw qa wZ wT wS wP wH kT kS kP kH zt zs h0 n0 Z0 O0 P0 P1) eq27 (Ls := #[jS qa, dS, iS 1, jS qb, dS, iS 2, jS (-1), dS, iS 1, uS, uS, uS]) (by rw [hml]; rfl) pd_14 (argsL := [(.long qa), (.int (1 : Int32))]) rfl (rest := []) rfl (W := 0) rfl (hb hy d17_134_41) (by decide) (by decide) (by decide) (by decide)
    obtain ⟨rfl, Nq28, eq28⟩ := hQ28
    have N28 := Fr.app N27 Nq28
    refine gon T28 (mkF m 44 #[jS qa,dS,iS 1,jS qb,dS,iS 2,jS (-1),dS,iS 1,uS,uS,uS] [(.long (qa * (10 : Int64)))]) (st28) ?_
    refine gon T28 (mkF m 48 #[jS qa,dS,iS 1,jS qb,dS,iS 2,jS (-1),dS,iS 1,jS (qa * (10 : Int64)),dS,uS] [(.long (qa * (10 : Int64)))]) (fun _ k => XS.lstore X28.here hx rfl (hb hy d17_134_44) rfl (l' := #[jS qa, dS, iS 1, jS qb, dS, iS 2, jS (-1), dS, iS 1, jS (qa * (10 : Int64)), dS, uS]) rfl (XS.lload X28.here hx rfl (hb hy d17_134_46) rfl k)) ?_
    refine gon T28 (mkF m 51 #[jS qa,dS,iS 1,jS qb,dS,iS 2,jS (-1),dS,iS 1,jS (qa * (10 : Int64)),dS,uS] [(.long (-9223372036854775808)), (.long (qa * (10 : Int64)))]) (X28.ldc2Long hx hown (mvT hZ (w178 hw)) (g := (mkF m 48 #[jS qa,dS,iS 1,jS qb,dS,iS 2,jS (-1),dS,iS 1,jS (qa * (10 : Int64)),dS,uS] [(.long (qa * (10 : Int64)))])) rfl (hb hy d17_134_48)) ?_
    refine gon T28 (mkF m 52 #[jS qa,dS,iS 1,jS qb,dS,iS 2,jS (-1),dS,iS 1,jS (qa * (10 : Int64)),dS,uS] [(.int (lcmpW (qa * (10 : Int64)) (-9223372036854775808 : Int64)))]) (fun _ k => XS.lcmp X28.here hx rfl (hb hy d17_134_51) rfl k) ?_
    refine gon T28 (mkF m 60 #[jS qa,dS,iS 1,jS qb,dS,iS 2,jS (-1),dS,iS 1,jS (qa * (10 : Int64)),dS,uS] [(.int 2), (.long qb), (.long (qa * (10 : Int64)))]) (fun _ k => XS.ifNo X28.here hx rfl (hb hy d17_134_52) rfl ((if0 _ _).trans (feq (fun zq => (own_bdMin ((own_bd10 P1).2) : ¬ ((qa * (10 : Int64)) = (-9223372036854775808 : Int64))) ((lw_eq (qa * (10 : Int64)) (-9223372036854775808 : Int64)).mp zq))).1) (XS.lload X28.here hx rfl (hb hy d17_134_55) rfl (XS.lloadN X28.here hx rfl (hb hy d17_134_57) rfl (XS.iload X28.here hx rfl (hb hy d17_134_58) rfl k)))) ?_
    obtain ⟨v29, T29, L29, X29, hQ29, st29⟩ := OwnW.callS X28 hx hZ hown (w184 hw) (w185 hw) (w35 hw) (w186 hw) (by decide) (addJJI l Z a0 hw (qa * (10 : Int64)) qb (2 : Int32) wZ wT wS wP wH kT kS kP kH zt zs h0 n0 Z0 O0 P0 ((own_bd10 P1).2 : Bd (qa * (10 : Int64))) (own_bd1 P2 : Bd qb) (by unfold Sc; decide : Sc (2 : Int32))) eq28 (Ls := #[jS qa, dS, iS 1, jS qb, dS, iS 2, jS (-1), dS, iS 1, jS (qa * (10 : Int64)), dS, uS]) (by rw [hml]; rfl) pd_12 (argsL := [(.long (qa * (10 : Int64))), (.long qb), (.int (2 : Int32))]) rfl (rest := []) rfl (W := 0) rfl (hb hy d17_134_60) (by decide) (by decide) (by decide) (by decide)
    obtain ⟨b_30, rfl, Nq29, Kq29, q29_0⟩ := hQ29
    have N29 := Fr.app N28 Nq29
    refine gon T29 (mkF m 63 #[jS qa,dS,iS 1,jS qb,dS,iS 2,jS (-1),dS,iS 1,jS (qa * (10 : Int64)),dS,uS] [(.ref b_30)]) (st29) ?_
    have K_31 : Keep h0 T29.heap [] := (Keep.refl h0 []).trans Kq29 all0
    exact OwnW.retA X29 hx hlk hret rfl rfl (hb hy d17_134_63) (by decide) (by decide) (show QQ _ T29.heap _ from ⟨b_30, ((qa * (10 : Int64)) + qb), (2 : Int32), rfl, N29, K_31, q29_0, (by unfold Sc; decide : Sc (2 : Int32)), (by decide : (2 : Int32) = imax (1 : Int32) (2 : Int32)), (by simp only [Nv3, own_w0, own_w1, own_w2, own_w3, own_add (own_bd10 P1).2 (own_bd1 P2), (own_bd10 P1).1]; omega : Nv3 ((qa * (10 : Int64)) + qb) (2 : Int32) = Nv3 qa (1 : Int32) + Nv3 qb (2 : Int32))⟩)
  · refine gon s₁ (mkF m 6 #[jS qa,dS,iS 1,jS qb,dS,iS 3,uS,uS,uS,uS,uS,uS] [(.long (-2))]) (fun _ k => XS.iloadN X0.here hx rfl (hb hy d17_134_0) rfl (XS.i2l X0.here hx rfl (hb hy d17_134_1) rfl (XS.iload X0.here hx rfl (hb hy d17_134_2) rfl (XS.i2l X0.here hx rfl (hb hy d17_134_4) rfl (XS.lsub X0.here hx rfl (hb hy d17_134_5) rfl k))))) ?_
    refine gon s₁ (mkF m 12 #[jS qa,dS,iS 1,jS qb,dS,iS 3,jS (-2),dS,uS,uS,uS,uS] [(.int (lcmpW (-2 : Int64) (0 : Int64)))]) (fun _ k => XS.lstore X0.here hx rfl (hb hy d17_134_6) rfl (l' := #[jS qa, dS, iS 1, jS qb, dS, iS 3, jS (-2), dS, uS, uS, uS, uS]) rfl (XS.lload X0.here hx rfl (hb hy d17_134_8) rfl (XS.lconst X0.here hx rfl (hb hy d17_134_10) (XS.lcmp X0.here hx rfl (hb hy d17_134_11) rfl k)))) ?_
    refine gon s₁ (mkF m 26 #[jS qa,dS,iS 1,jS qb,dS,iS 3,jS (-2),dS,uS,uS,uS,uS] [(.int (lcmpW (-2 : Int64) (0 : Int64)))]) (fun _ k => XS.ifYes X0.here hx rfl (pc0 := 12) (pc' := 22) rfl (hb hy d17_134_12) rfl ((if0 _ _).trans (feq (fun zq => (by decide : ¬ ((-2 : Int64) = (0 : Int64))) ((lw_eq (-2 : Int64) (0 : Int64)).mp zq))).2) (by decide) (by decide) (XS.lload X0.here hx rfl (hb hy d17_134_22) rfl (XS.lconst X0.here hx rfl (hb hy d17_134_24) (XS.lcmp X0.here hx rfl (hb hy d17_134_25) rfl k)))) ?_
    refine gon s₁ (mkF m 33 #[jS qa,dS,iS 1,jS qb,dS,iS 3,jS (-2),dS,uS,uS,uS,uS] [(.long 2), (.long qa)]) (fun _ k => XS.ifNo X0.here hx rfl (hb hy d17_134_26) rfl ((if0 _ _).trans (tlt ((lw_lt (-2 : Int64) (0 : Int64)).mpr (by decide : (-2 : Int64) < (0 : Int64)))).2.1) (XS.lloadN X0.here hx rfl (hb hy d17_134_29) rfl (XS.lload X0.here hx rfl (hb hy d17_134_30) rfl (XS.lneg X0.here hx rfl (hb hy d17_134_32) rfl k)))) ?_
    obtain ⟨v32, T32, L32, X32, hQ32, st32⟩ := OwnW.callS X0 hx hZ hown (w270 hw) (w271 hw) (w35 hw) (w272 hw) (by decide) (chk2 l Z a0 hw qa h0 n0 Z0 ) e0 (Ls := #[jS qa, dS, iS 1, jS qb, dS, iS 3, jS (-2), dS, uS, uS, uS, uS]) (by rw [hml]; rfl) pd_13 (argsL := [(.long qa), (.long (2 : Int64))]) rfl (rest := []) rfl (W := 0) rfl (hb hy d17_134_33) (by decide) (by decide) (by decide) (by decide)
    obtain ⟨rfl, Nq32, eq32⟩ := hQ32
    have N32 := Fr.app N0 Nq32
    refine gon T32 (mkF m 36 #[jS qa,dS,iS 1,jS qb,dS,iS 3,jS (-2),dS,uS,uS,uS,uS] [(.int 2)]) (st32) ?_
    refine gon T32 (mkF m 41 #[jS qa,dS,iS 1,jS qb,dS,iS 3,jS (-2),dS,iS 2,uS,uS,uS] [(.int 2), (.long qa)]) (fun _ k => XS.istore X32.here hx rfl (hb hy d17_134_36) rfl (l' := #[jS qa, dS, iS 1, jS qb, dS, iS 3, jS (-2), dS, iS 2, uS, uS, uS]) rfl (XS.lloadN X32.here hx rfl (hb hy d17_134_38) rfl (XS.iload X32.here hx rfl (hb hy d17_134_39) rfl k))) ?_
    obtain ⟨v33, T33, L33, X33, hQ33, st33⟩ := OwnW.callS X32 hx hZ hown (w256 hw) (w257 hw) (w35 hw) (w258 hw) (by decide) (lmp2 l Z a0 hw qa wZ wT wS wP wH kT kS kP kH zt zs h0 n0 Z0 O0 P0 P1) eq32 (Ls := #[jS qa, dS, iS 1, jS qb, dS, iS 3, jS (-2), dS, iS 2, uS, uS, uS]) (by rw [hml]; rfl) pd_14 (argsL := [(.long qa), (.int (2 : Int32))]) rfl (rest := []) rfl (W := 0) rfl (hb hy d17_134_41) (by decide) (by decide) (by decide) (by decide)
    obtain ⟨rfl, Nq33, eq33⟩ := hQ33
    have N33 := Fr.app N32 Nq33
    refine gon T33 (mkF m 44 #[jS qa,dS,iS 1,jS qb,dS,iS 3,jS (-2),dS,iS 2,uS,uS,uS] [(.long (qa * (100 : Int64)))]) (st33) ?_
    refine gon T33 (mkF m 48 #[jS qa,dS,iS 1,jS qb,dS,iS 3,jS (-2),dS,iS 2,jS (qa * (100 : Int64)),dS,uS] [(.long (qa * (100 : Int64)))]) (fun _ k => XS.lstore X33.here hx rfl (hb hy d17_134_44) rfl (l' := #[jS qa, dS, iS 1, jS qb, dS, iS 3, jS (-2), dS, iS 2, jS (qa * (100 : Int64)), dS, uS]) rfl (XS.lload X33.here hx rfl (hb hy d17_134_46) rfl k)) ?_
    refine gon T33 (mkF m 51 #[jS qa,dS,iS 1,jS qb,dS,iS 3,jS (-2),dS,iS 2,jS (qa * (100 : Int64)),dS,uS] [(.long (-9223372036854775808)), (.long (qa * (100 : Int64)))]) (X33.ldc2Long hx hown (mvT hZ (w178 hw)) (g := (mkF m 48 #[jS qa,dS,iS 1,jS qb,dS,iS 3,jS (-2),dS,iS 2,jS (qa * (100 : Int64)),dS,uS] [(.long (qa * (100 : Int64)))])) rfl (hb hy d17_134_48)) ?_
    refine gon T33 (mkF m 52 #[jS qa,dS,iS 1,jS qb,dS,iS 3,jS (-2),dS,iS 2,jS (qa * (100 : Int64)),dS,uS] [(.int (lcmpW (qa * (100 : Int64)) (-9223372036854775808 : Int64)))]) (fun _ k => XS.lcmp X33.here hx rfl (hb hy d17_134_51) rfl k) ?_
    refine gon T33 (mkF m 60 #[jS qa,dS,iS 1,jS qb,dS,iS 3,jS (-2),dS,iS 2,jS (qa * (100 : Int64)),dS,uS] [(.int 3), (.long qb), (.long (qa * (100 : Int64)))]) (fun _ k => XS.ifNo X33.here hx rfl (hb hy d17_134_52) rfl ((if0 _ _).trans (feq (fun zq => (own_bdMin ((own_bd100 P1).2) : ¬ ((qa * (100 : Int64)) = (-9223372036854775808 : Int64))) ((lw_eq (qa * (100 : Int64)) (-9223372036854775808 : Int64)).mp zq))).1) (XS.lload X33.here hx rfl (hb hy d17_134_55) rfl (XS.lloadN X33.here hx rfl (hb hy d17_134_57) rfl (XS.iload X33.here hx rfl (hb hy d17_134_58) rfl k)))) ?_
    obtain ⟨v34, T34, L34, X34, hQ34, st34⟩ := OwnW.callS X33 hx hZ hown (w184 hw) (w185 hw) (w35 hw) (w186 hw) (by decide) (addJJI l Z a0 hw (qa * (100 : Int64)) qb (3 : Int32) wZ wT wS wP wH kT kS kP kH zt zs h0 n0 Z0 O0 P0 ((own_bd100 P1).2 : Bd (qa * (100 : Int64))) (own_bd1 P2 : Bd qb) (by unfold Sc; decide : Sc (3 : Int32))) eq33 (Ls := #[jS qa, dS, iS 1, jS qb, dS, iS 3, jS (-2), dS, iS 2, jS (qa * (100 : Int64)), dS, uS]) (by rw [hml]; rfl) pd_12 (argsL := [(.long (qa * (100 : Int64))), (.long qb), (.int (3 : Int32))]) rfl (rest := []) rfl (W := 0) rfl (hb hy d17_134_60) (by decide) (by decide) (by decide) (by decide)
    obtain ⟨b_35, rfl, Nq34, Kq34, q34_0⟩ := hQ34
    have N34 := Fr.app N33 Nq34
    refine gon T34 (mkF m 63 #[jS qa,dS,iS 1,jS qb,dS,iS 3,jS (-2),dS,iS 2,jS (qa * (100 : Int64)),dS,uS] [(.ref b_35)]) (st34) ?_
    have K_36 : Keep h0 T34.heap [] := (Keep.refl h0 []).trans Kq34 all0
    exact OwnW.retA X34 hx hlk hret rfl rfl (hb hy d17_134_63) (by decide) (by decide) (show QQ _ T34.heap _ from ⟨b_35, ((qa * (100 : Int64)) + qb), (3 : Int32), rfl, N34, K_36, q34_0, (by unfold Sc; decide : Sc (3 : Int32)), (by decide : (3 : Int32) = imax (1 : Int32) (3 : Int32)), (by simp only [Nv3, own_w0, own_w1, own_w2, own_w3, own_add (own_bd100 P1).2 (own_bd1 P2), (own_bd100 P1).1]; omega : Nv3 ((qa * (100 : Int64)) + qb) (3 : Int32) = Nv3 qa (1 : Int32) + Nv3 qb (3 : Int32))⟩)
  · refine gon s₁ (mkF m 6 #[jS qa,dS,iS 2,jS qb,dS,iS 0,uS,uS,uS,uS,uS,uS] [(.long 2)]) (fun _ k => XS.iloadN X0.here hx rfl (hb hy d17_134_0) rfl (XS.i2l X0.here hx rfl (hb hy d17_134_1) rfl (XS.iload X0.here hx rfl (hb hy d17_134_2) rfl (XS.i2l X0.here hx rfl (hb hy d17_134_4) rfl (XS.lsub X0.here hx rfl (hb hy d17_134_5) rfl k))))) ?_
    refine gon s₁ (mkF m 12 #[jS qa,dS,iS 2,jS qb,dS,iS 0,jS 2,dS,uS,uS,uS,uS] [(.int (lcmpW (2 : Int64) (0 : Int64)))]) (fun _ k => XS.lstore X0.here hx rfl (hb hy d17_134_6) rfl (l' := #[jS qa, dS, iS 2, jS qb, dS, iS 0, jS 2, dS, uS, uS, uS, uS]) rfl (XS.lload X0.here hx rfl (hb hy d17_134_8) rfl (XS.lconst X0.here hx rfl (hb hy d17_134_10) (XS.lcmp X0.here hx rfl (hb hy d17_134_11) rfl k)))) ?_
    refine gon s₁ (mkF m 26 #[jS qa,dS,iS 2,jS qb,dS,iS 0,jS 2,dS,uS,uS,uS,uS] [(.int (lcmpW (2 : Int64) (0 : Int64)))]) (fun _ k => XS.ifYes X0.here hx rfl (pc0 := 12) (pc' := 22) rfl (hb hy d17_134_12) rfl ((if0 _ _).trans (feq (fun zq => (by decide : ¬ ((2 : Int64) = (0 : Int64))) ((lw_eq (2 : Int64) (0 : Int64)).mp zq))).2) (by decide) (by decide) (XS.lload X0.here hx rfl (hb hy d17_134_22) rfl (XS.lconst X0.here hx rfl (hb hy d17_134_24) (XS.lcmp X0.here hx rfl (hb hy d17_134_25) rfl k)))) ?_
    refine gon s₁ (mkF m 114 #[jS qa,dS,iS 2,jS qb,dS,iS 0,jS 2,dS,uS,uS,uS,uS] [(.long 2), (.long qb)]) (fun _ k => XS.ifYes X0.here hx rfl (pc0 := 26) (pc' := 111) rfl (hb hy d17_134_26) rfl ((if0 _ _).trans (flt (fun zq => (by decide : ¬ ((2 : Int64) < (0 : Int64))) ((lw_lt (2 : Int64) (0 : Int64)).mp zq))).2.1) (by decide) (by decide) (XS.lloadN X0.here hx rfl (hb hy d17_134_111) rfl (XS.lload X0.here hx rfl (hb hy d17_134_112) rfl k))) ?_
    obtain ⟨v37, T37, L37, X37, hQ37, st37⟩ := OwnW.callS X0 hx hZ hown (w270 hw) (w271 hw) (w35 hw) (w272 hw) (by decide) (chk2 l Z a0 hw qb h0 n0 Z0 ) e0 (Ls := #[jS qa, dS, iS 2, jS qb, dS, iS 0, jS 2, dS, uS, uS, uS, uS]) (by rw [hml]; rfl) pd_13 (argsL := [(.long qb), (.long (2 : Int64))]) rfl (rest := []) rfl (W := 0) rfl (hb hy d17_134_114) (by decide) (by decide) (by decide) (by decide)
    obtain ⟨rfl, Nq37, eq37⟩ := hQ37
    have N37 := Fr.app N0 Nq37
    refine gon T37 (mkF m 117 #[jS qa,dS,iS 2,jS qb,dS,iS 0,jS 2,dS,uS,uS,uS,uS] [(.int 2)]) (st37) ?_
    refine gon T37 (mkF m 122 #[jS qa,dS,iS 2,jS qb,dS,iS 0,jS 2,dS,iS 2,uS,uS,uS] [(.int 2), (.long qb)]) (fun _ k => XS.istore X37.here hx rfl (hb hy d17_134_117) rfl (l' := #[jS qa, dS, iS 2, jS qb, dS, iS 0, jS 2, dS, iS 2, uS, uS, uS]) rfl (XS.lloadN X37.here hx rfl (hb hy d17_134_119) rfl (XS.iload X37.here hx rfl (hb hy d17_134_120) rfl k))) ?_
    obtain ⟨v38, T38, L38, X38, hQ38, st38⟩ := OwnW.callS X37 hx hZ hown (w256 hw) (w257 hw) (w35 hw) (w258 hw) (by decide) (lmp2 l Z a0 hw qb wZ wT wS wP wH kT kS kP kH zt zs h0 n0 Z0 O0 P0 P2) eq37 (Ls := #[jS qa, dS, iS 2, jS qb, dS, iS 0, jS 2, dS, iS 2, uS, uS, uS]) (by rw [hml]; rfl) pd_14 (argsL := [(.long qb), (.int (2 : Int32))]) rfl (rest := []) rfl (W := 0) rfl (hb hy d17_134_122) (by decide) (by decide) (by decide) (by decide)
    obtain ⟨rfl, Nq38, eq38⟩ := hQ38
    have N38 := Fr.app N37 Nq38
    refine gon T38 (mkF m 125 #[jS qa,dS,iS 2,jS qb,dS,iS 0,jS 2,dS,iS 2,uS,uS,uS] [(.long (qb * (100 : Int64)))]) (st38) ?_
    refine gon T38 (mkF m 129 #[jS qa,dS,iS 2,jS qb,dS,iS 0,jS 2,dS,iS 2,jS (qb * (100 : Int64)),dS,uS] [(.long (qb * (100 : Int64)))]) (fun _ k => XS.lstore X38.here hx rfl (hb hy d17_134_125) rfl (l' := #[jS qa, dS, iS 2, jS qb, dS, iS 0, jS 2, dS, iS 2, jS (qb * (100 : Int64)), dS, uS]) rfl (XS.lload X38.here hx rfl (hb hy d17_134_127) rfl k)) ?_
    refine gon T38 (mkF m 132 #[jS qa,dS,iS 2,jS qb,dS,iS 0,jS 2,dS,iS 2,jS (qb * (100 : Int64)),dS,uS] [(.long (-9223372036854775808)), (.long (qb * (100 : Int64)))]) (X38.ldc2Long hx hown (mvT hZ (w178 hw)) (g := (mkF m 129 #[jS qa,dS,iS 2,jS qb,dS,iS 0,jS 2,dS,iS 2,jS (qb * (100 : Int64)),dS,uS] [(.long (qb * (100 : Int64)))])) rfl (hb hy d17_134_129)) ?_
    refine gon T38 (mkF m 133 #[jS qa,dS,iS 2,jS qb,dS,iS 0,jS 2,dS,iS 2,jS (qb * (100 : Int64)),dS,uS] [(.int (lcmpW (qb * (100 : Int64)) (-9223372036854775808 : Int64)))]) (fun _ k => XS.lcmp X38.here hx rfl (hb hy d17_134_132) rfl k) ?_
    refine gon T38 (mkF m 140 #[jS qa,dS,iS 2,jS qb,dS,iS 0,jS 2,dS,iS 2,jS (qb * (100 : Int64)),dS,uS] [(.int 2), (.long (qb * (100 : Int64))), (.long qa)]) (fun _ k => XS.ifNo X38.here hx rfl (hb hy d17_134_133) rfl ((if0 _ _).trans (feq (fun zq => (own_bdMin ((own_bd100 P2).2) : ¬ ((qb * (100 : Int64)) = (-9223372036854775808 : Int64))) ((lw_eq (qb * (100 : Int64)) (-9223372036854775808 : Int64)).mp zq))).1) (XS.lloadN X38.here hx rfl (hb hy d17_134_136) rfl (XS.lload X38.here hx rfl (hb hy d17_134_137) rfl (XS.iloadN X38.here hx rfl (hb hy d17_134_139) rfl k)))) ?_
    obtain ⟨v39, T39, L39, X39, hQ39, st39⟩ := OwnW.callS X38 hx hZ hown (w184 hw) (w185 hw) (w35 hw) (w186 hw) (by decide) (addJJI l Z a0 hw qa (qb * (100 : Int64)) (2 : Int32) wZ wT wS wP wH kT kS kP kH zt zs h0 n0 Z0 O0 P0 (own_bd1 P1 : Bd qa) ((own_bd100 P2).2 : Bd (qb * (100 : Int64))) (by unfold Sc; decide : Sc (2 : Int32))) eq38 (Ls := #[jS qa, dS, iS 2, jS qb, dS, iS 0, jS 2, dS, iS 2, jS (qb * (100 : Int64)), dS, uS]) (by rw [hml]; rfl) pd_12 (argsL := [(.long qa), (.long (qb * (100 : Int64))), (.int (2 : Int32))]) rfl (rest := []) rfl (W := 0) rfl (hb hy d17_134_140) (by decide) (by decide) (by decide) (by decide)
    obtain ⟨b_40, rfl, Nq39, Kq39, q39_0⟩ := hQ39
    have N39 := Fr.app N38 Nq39
    refine gon T39 (mkF m 143 #[jS qa,dS,iS 2,jS qb,dS,iS 0,jS 2,dS,iS 2,jS (qb * (100 : Int64)),dS,uS] [(.ref b_40)]) (st39) ?_
    have K_41 : Keep h0 T39.heap [] := (Keep.refl h0 []).trans Kq39 all0
    exact OwnW.retA X39 hx hlk hret rfl rfl (hb hy d17_134_143) (by decide) (by decide) (show QQ _ T39.heap _ from ⟨b_40, (qa + (qb * (100 : Int64))), (2 : Int32), rfl, N39, K_41, q39_0, (by unfold Sc; decide : Sc (2 : Int32)), (by decide : (2 : Int32) = imax (2 : Int32) (0 : Int32)), (by simp only [Nv3, own_w0, own_w1, own_w2, own_w3, own_add (own_bd1 P1) (own_bd100 P2).2, (own_bd100 P2).1]; omega : Nv3 (qa + (qb * (100 : Int64))) (2 : Int32) = Nv3 qa (2 : Int32) + Nv3 qb (0 : Int32))⟩)
  · refine gon s₁ (mkF m 6 #[jS qa,dS,iS 2,jS qb,dS,iS 1,uS,uS,uS,uS,uS,uS] [(.long 1)]) (fun _ k => XS.iloadN X0.here hx rfl (hb hy d17_134_0) rfl (XS.i2l X0.here hx rfl (hb hy d17_134_1) rfl (XS.iload X0.here hx rfl (hb hy d17_134_2) rfl (XS.i2l X0.here hx rfl (hb hy d17_134_4) rfl (XS.lsub X0.here hx rfl (hb hy d17_134_5) rfl k))))) ?_
    refine gon s₁ (mkF m 12 #[jS qa,dS,iS 2,jS qb,dS,iS 1,jS 1,dS,uS,uS,uS,uS] [(.int (lcmpW (1 : Int64) (0 : Int64)))]) (fun _ k => XS.lstore X0.here hx rfl (hb hy d17_134_6) rfl (l' := #[jS qa, dS, iS 2, jS qb, dS, iS 1, jS 1, dS, uS, uS, uS, uS]) rfl (XS.lload X0.here hx rfl (hb hy d17_134_8) rfl (XS.lconst X0.here hx rfl (hb hy d17_134_10) (XS.lcmp X0.here hx rfl (hb hy d17_134_11) rfl k)))) ?_
    refine gon s₁ (mkF m 26 #[jS qa,dS,iS 2,jS qb,dS,iS 1,jS 1,dS,uS,uS,uS,uS] [(.int (lcmpW (1 : Int64) (0 : Int64)))]) (fun _ k => XS.ifYes X0.here hx rfl (pc0 := 12) (pc' := 22) rfl (hb hy d17_134_12) rfl ((if0 _ _).trans (feq (fun zq => (by decide : ¬ ((1 : Int64) = (0 : Int64))) ((lw_eq (1 : Int64) (0 : Int64)).mp zq))).2) (by decide) (by decide) (XS.lload X0.here hx rfl (hb hy d17_134_22) rfl (XS.lconst X0.here hx rfl (hb hy d17_134_24) (XS.lcmp X0.here hx rfl (hb hy d17_134_25) rfl k)))) ?_
    refine gon s₁ (mkF m 114 #[jS qa,dS,iS 2,jS qb,dS,iS 1,jS 1,dS,uS,uS,uS,uS] [(.long 1), (.long qb)]) (fun _ k => XS.ifYes X0.here hx rfl (pc0 := 26) (pc' := 111) rfl (hb hy d17_134_26) rfl ((if0 _ _).trans (flt (fun zq => (by decide : ¬ ((1 : Int64) < (0 : Int64))) ((lw_lt (1 : Int64) (0 : Int64)).mp zq))).2.1) (by decide) (by decide) (XS.lloadN X0.here hx rfl (hb hy d17_134_111) rfl (XS.lload X0.here hx rfl (hb hy d17_134_112) rfl k))) ?_
    obtain ⟨v42, T42, L42, X42, hQ42, st42⟩ := OwnW.callS X0 hx hZ hown (w270 hw) (w271 hw) (w35 hw) (w272 hw) (by decide) (chk1 l Z a0 hw qb h0 n0 Z0 ) e0 (Ls := #[jS qa, dS, iS 2, jS qb, dS, iS 1, jS 1, dS, uS, uS, uS, uS]) (by rw [hml]; rfl) pd_13 (argsL := [(.long qb), (.long (1 : Int64))]) rfl (rest := []) rfl (W := 0) rfl (hb hy d17_134_114) (by decide) (by decide) (by decide) (by decide)
    obtain ⟨rfl, Nq42, eq42⟩ := hQ42
    have N42 := Fr.app N0 Nq42
    refine gon T42 (mkF m 117 #[jS qa,dS,iS 2,jS qb,dS,iS 1,jS 1,dS,uS,uS,uS,uS] [(.int 1)]) (st42) ?_
    refine gon T42 (mkF m 122 #[jS qa,dS,iS 2,jS qb,dS,iS 1,jS 1,dS,iS 1,uS,uS,uS] [(.int 1), (.long qb)]) (fun _ k => XS.istore X42.here hx rfl (hb hy d17_134_117) rfl (l' := #[jS qa, dS, iS 2, jS qb, dS, iS 1, jS 1, dS, iS 1, uS, uS, uS]) rfl (XS.lloadN X42.here hx rfl (hb hy d17_134_119) rfl (XS.iload X42.here hx rfl (hb hy d17_134_120) rfl k))) ?_
    obtain ⟨v43, T43, L43, X43, hQ43, st43⟩ := OwnW.callS X42 hx hZ hown (w256 hw) (w257 hw) (w35 hw) (w258 hw) (by decide) (lmp1 l Z a0 hw qb wZ wT wS wP wH kT kS kP kH zt zs h0 n0 Z0 O0 P0 P2) eq42 (Ls := #[jS qa, dS, iS 2, jS qb, dS, iS 1, jS 1, dS, iS 1, uS, uS, uS]) (by rw [hml]; rfl) pd_14 (argsL := [(.long qb), (.int (1 : Int32))]) rfl (rest := []) rfl (W := 0) rfl (hb hy d17_134_122) (by decide) (by decide) (by decide) (by decide)
    obtain ⟨rfl, Nq43, eq43⟩ := hQ43
    have N43 := Fr.app N42 Nq43
    refine gon T43 (mkF m 125 #[jS qa,dS,iS 2,jS qb,dS,iS 1,jS 1,dS,iS 1,uS,uS,uS] [(.long (qb * (10 : Int64)))]) (st43) ?_
    refine gon T43 (mkF m 129 #[jS qa,dS,iS 2,jS qb,dS,iS 1,jS 1,dS,iS 1,jS (qb * (10 : Int64)),dS,uS] [(.long (qb * (10 : Int64)))]) (fun _ k => XS.lstore X43.here hx rfl (hb hy d17_134_125) rfl (l' := #[jS qa, dS, iS 2, jS qb, dS, iS 1, jS 1, dS, iS 1, jS (qb * (10 : Int64)), dS, uS]) rfl (XS.lload X43.here hx rfl (hb hy d17_134_127) rfl k)) ?_
    refine gon T43 (mkF m 132 #[jS qa,dS,iS 2,jS qb,dS,iS 1,jS 1,dS,iS 1,jS (qb * (10 : Int64)),dS,uS] [(.long (-9223372036854775808)), (.long (qb * (10 : Int64)))]) (X43.ldc2Long hx hown (mvT hZ (w178 hw)) (g := (mkF m 129 #[jS qa,dS,iS 2,jS qb,dS,iS 1,jS 1,dS,iS 1,jS (qb * (10 : Int64)),dS,uS] [(.long (qb * (10 : Int64)))])) rfl (hb hy d17_134_129)) ?_
    refine gon T43 (mkF m 133 #[jS qa,dS,iS 2,jS qb,dS,iS 1,jS 1,dS,iS 1,jS (qb * (10 : Int64)),dS,uS] [(.int (lcmpW (qb * (10 : Int64)) (-9223372036854775808 : Int64)))]) (fun _ k => XS.lcmp X43.here hx rfl (hb hy d17_134_132) rfl k) ?_
    refine gon T43 (mkF m 140 #[jS qa,dS,iS 2,jS qb,dS,iS 1,jS 1,dS,iS 1,jS (qb * (10 : Int64)),dS,uS] [(.int 2), (.long (qb * (10 : Int64))), (.long qa)]) (fun _ k => XS.ifNo X43.here hx rfl (hb hy d17_134_133) rfl ((if0 _ _).trans (feq (fun zq => (own_bdMin ((own_bd10 P2).2) : ¬ ((qb * (10 : Int64)) = (-9223372036854775808 : Int64))) ((lw_eq (qb * (10 : Int64)) (-9223372036854775808 : Int64)).mp zq))).1) (XS.lloadN X43.here hx rfl (hb hy d17_134_136) rfl (XS.lload X43.here hx rfl (hb hy d17_134_137) rfl (XS.iloadN X43.here hx rfl (hb hy d17_134_139) rfl k)))) ?_
    obtain ⟨v44, T44, L44, X44, hQ44, st44⟩ := OwnW.callS X43 hx hZ hown (w184 hw) (w185 hw) (w35 hw) (w186 hw) (by decide) (addJJI l Z a0 hw qa (qb * (10 : Int64)) (2 : Int32) wZ wT wS wP wH kT kS kP kH zt zs h0 n0 Z0 O0 P0 (own_bd1 P1 : Bd qa) ((own_bd10 P2).2 : Bd (qb * (10 : Int64))) (by unfold Sc; decide : Sc (2 : Int32))) eq43 (Ls := #[jS qa, dS, iS 2, jS qb, dS, iS 1, jS 1, dS, iS 1, jS (qb * (10 : Int64)), dS, uS]) (by rw [hml]; rfl) pd_12 (argsL := [(.long qa), (.long (qb * (10 : Int64))), (.int (2 : Int32))]) rfl (rest := []) rfl (W := 0) rfl (hb hy d17_134_140) (by decide) (by decide) (by decide) (by decide)
    obtain ⟨b_45, rfl, Nq44, Kq44, q44_0⟩ := hQ44
    have N44 := Fr.app N43 Nq44
    refine gon T44 (mkF m 143 #[jS qa,dS,iS 2,jS qb,dS,iS 1,jS 1,dS,iS 1,jS (qb * (10 : Int64)),dS,uS] [(.ref b_45)]) (st44) ?_
    have K_46 : Keep h0 T44.heap [] := (Keep.refl h0 []).trans Kq44 all0
    exact OwnW.retA X44 hx hlk hret rfl rfl (hb hy d17_134_143) (by decide) (by decide) (show QQ _ T44.heap _ from ⟨b_45, (qa + (qb * (10 : Int64))), (2 : Int32), rfl, N44, K_46, q44_0, (by unfold Sc; decide : Sc (2 : Int32)), (by decide : (2 : Int32) = imax (2 : Int32) (1 : Int32)), (by simp only [Nv3, own_w0, own_w1, own_w2, own_w3, own_add (own_bd1 P1) (own_bd10 P2).2, (own_bd10 P2).1]; omega : Nv3 (qa + (qb * (10 : Int64))) (2 : Int32) = Nv3 qa (2 : Int32) + Nv3 qb (1 : Int32))⟩)
  · refine gon s₁ (mkF m 6 #[jS qa,dS,iS 2,jS qb,dS,iS 2,uS,uS,uS,uS,uS,uS] [(.long 0)]) (fun _ k => XS.iloadN X0.here hx rfl (hb hy d17_134_0) rfl (XS.i2l X0.here hx rfl (hb hy d17_134_1) rfl (XS.iload X0.here hx rfl (hb hy d17_134_2) rfl (XS.i2l X0.here hx rfl (hb hy d17_134_4) rfl (XS.lsub X0.here hx rfl (hb hy d17_134_5) rfl k))))) ?_
    refine gon s₁ (mkF m 12 #[jS qa,dS,iS 2,jS qb,dS,iS 2,jS 0,dS,uS,uS,uS,uS] [(.int (lcmpW (0 : Int64) (0 : Int64)))]) (fun _ k => XS.lstore X0.here hx rfl (hb hy d17_134_6) rfl (l' := #[jS qa, dS, iS 2, jS qb, dS, iS 2, jS 0, dS, uS, uS, uS, uS]) rfl (XS.lload X0.here hx rfl (hb hy d17_134_8) rfl (XS.lconst X0.here hx rfl (hb hy d17_134_10) (XS.lcmp X0.here hx rfl (hb hy d17_134_11) rfl k)))) ?_
    refine gon s₁ (mkF m 18 #[jS qa,dS,iS 2,jS qb,dS,iS 2,jS 0,dS,uS,uS,uS,uS] [(.int 2), (.long qb), (.long qa)]) (fun _ k => XS.ifNo X0.here hx rfl (hb hy d17_134_12) rfl ((if0 _ _).trans (teq ((lw_eq (0 : Int64) (0 : Int64)).mpr (by decide : (0 : Int64) = (0 : Int64)))).2) (XS.lloadN X0.here hx rfl (hb hy d17_134_15) rfl (XS.lloadN X0.here hx rfl (hb hy d17_134_16) rfl (XS.iloadN X0.here hx rfl (hb hy d17_134_17) rfl k)))) ?_
    obtain ⟨v47, T47, L47, X47, hQ47, st47⟩ := OwnW.callS X0 hx hZ hown (w184 hw) (w185 hw) (w35 hw) (w186 hw) (by decide) (addJJI l Z a0 hw qa qb (2 : Int32) wZ wT wS wP wH kT kS kP kH zt zs h0 n0 Z0 O0 P0 (own_bd1 P1 : Bd qa) (own_bd1 P2 : Bd qb) (by unfold Sc; decide : Sc (2 : Int32))) e0 (Ls := #[jS qa, dS, iS 2, jS qb, dS, iS 2, jS 0, dS, uS, uS, uS, uS]) (by rw [hml]; rfl) pd_12 (argsL := [(.long qa), (.long qb), (.int (2 : Int32))]) rfl (rest := []) rfl (W := 0) rfl (hb hy d17_134_18) (by decide) (by decide) (by decide) (by decide)
    obtain ⟨b_48, rfl, Nq47, Kq47, q47_0⟩ := hQ47
    have N47 := Fr.app N0 Nq47
    refine gon T47 (mkF m 21 #[jS qa,dS,iS 2,jS qb,dS,iS 2,jS 0,dS,uS,uS,uS,uS] [(.ref b_48)]) (st47) ?_
    have K_49 : Keep h0 T47.heap [] := (Keep.refl h0 []).trans Kq47 all0
    exact OwnW.retA X47 hx hlk hret rfl rfl (hb hy d17_134_21) (by decide) (by decide) (show QQ _ T47.heap _ from ⟨b_48, (qa + qb), (2 : Int32), rfl, N47, K_49, q47_0, (by unfold Sc; decide : Sc (2 : Int32)), (by decide : (2 : Int32) = imax (2 : Int32) (2 : Int32)), (by simp only [Nv3, own_w0, own_w1, own_w2, own_w3, own_add (own_bd1 P1) (own_bd1 P2)]; omega : Nv3 (qa + qb) (2 : Int32) = Nv3 qa (2 : Int32) + Nv3 qb (2 : Int32))⟩)
  · refine gon s₁ (mkF m 6 #[jS qa,dS,iS 2,jS qb,dS,iS 3,uS,uS,uS,uS,uS,uS] [(.long (-1))]) (fun _ k => XS.iloadN X0.here hx rfl (hb hy d17_134_0) rfl (XS.i2l X0.here hx rfl (hb hy d17_134_1) rfl (XS.iload X0.here hx rfl (hb hy d17_134_2) rfl (XS.i2l X0.here hx rfl (hb hy d17_134_4) rfl (XS.lsub X0.here hx rfl (hb hy d17_134_5) rfl k))))) ?_
    refine gon s₁ (mkF m 12 #[jS qa,dS,iS 2,jS qb,dS,iS 3,jS (-1),dS,uS,uS,uS,uS] [(.int (lcmpW (-1 : Int64) (0 : Int64)))]) (fun _ k => XS.lstore X0.here hx rfl (hb hy d17_134_6) rfl (l' := #[jS qa, dS, iS 2, jS qb, dS, iS 3, jS (-1), dS, uS, uS, uS, uS]) rfl (XS.lload X0.here hx rfl (hb hy d17_134_8) rfl (XS.lconst X0.here hx rfl (hb hy d17_134_10) (XS.lcmp X0.here hx rfl (hb hy d17_134_11) rfl k)))) ?_
    refine gon s₁ (mkF m 26 #[jS qa,dS,iS 2,jS qb,dS,iS 3,jS (-1),dS,uS,uS,uS,uS] [(.int (lcmpW (-1 : Int64) (0 : Int64)))]) (fun _ k => XS.ifYes X0.here hx rfl (pc0 := 12) (pc' := 22) rfl (hb hy d17_134_12) rfl ((if0 _ _).trans (feq (fun zq => (by decide : ¬ ((-1 : Int64) = (0 : Int64))) ((lw_eq (-1 : Int64) (0 : Int64)).mp zq))).2) (by decide) (by decide) (XS.lload X0.here hx rfl (hb hy d17_134_22) rfl (XS.lconst X0.here hx rfl (hb hy d17_134_24) (XS.lcmp X0.here hx rfl (hb hy d17_134_25) rfl k)))) ?_
    refine gon s₁ (mkF m 33 #[jS qa,dS,iS 2,jS qb,dS,iS 3,jS (-1),dS,uS,uS,uS,uS] [(.long 1), (.long qa)]) (fun _ k => XS.ifNo X0.here hx rfl (hb hy d17_134_26) rfl ((if0 _ _).trans (tlt ((lw_lt (-1 : Int64) (0 : Int64)).mpr (by decide : (-1 : Int64) < (0 : Int64)))).2.1) (XS.lloadN X0.here hx rfl (hb hy d17_134_29) rfl (XS.lload X0.here hx rfl (hb hy d17_134_30) rfl (XS.lneg X0.here hx rfl (hb hy d17_134_32) rfl k)))) ?_
    obtain ⟨v50, T50, L50, X50, hQ50, st50⟩ := OwnW.callS X0 hx hZ hown (w270 hw) (w271 hw) (w35 hw) (w272 hw) (by decide) (chk1 l Z a0 hw qa h0 n0 Z0 ) e0 (Ls := #[jS qa, dS, iS 2, jS qb, dS, iS 3, jS (-1), dS, uS, uS, uS, uS]) (by rw [hml]; rfl) pd_13 (argsL := [(.long qa), (.long (1 : Int64))]) rfl (rest := []) rfl (W := 0) rfl (hb hy d17_134_33) (by decide) (by decide) (by decide) (by decide)
    obtain ⟨rfl, Nq50, eq50⟩ := hQ50
    have N50 := Fr.app N0 Nq50
    refine gon T50 (mkF m 36 #[jS qa,dS,iS 2,jS qb,dS,iS 3,jS (-1),dS,uS,uS,uS,uS] [(.int 1)]) (st50) ?_
    refine gon T50 (mkF m 41 #[jS qa,dS,iS 2,jS qb,dS,iS 3,jS (-1),dS,iS 1,uS,uS,uS] [(.int 1), (.long qa)]) (fun _ k => XS.istore X50.here hx rfl (hb hy d17_134_36) rfl (l' := #[jS qa, dS, iS 2, jS qb, dS, iS 3, jS (-1), dS, iS 1, uS, uS, uS]) rfl (XS.lloadN X50.here hx rfl (hb hy d17_134_38) rfl (XS.iload X50.here hx rfl (hb hy d17_134_39) rfl k))) ?_
    obtain ⟨v51, T51, L51, X51, hQ51, st51⟩ := OwnW.callS X50 hx hZ hown (w256 hw) (w257 hw) (w35 hw) (w258 hw) (by decide) (lmp1 l Z a0 hw qa wZ wT wS wP wH kT kS kP kH zt zs h0 n0 Z0 O0 P0 P1) eq50 (Ls := #[jS qa, dS, iS 2, jS qb, dS, iS 3, jS (-1), dS, iS 1, uS, uS, uS]) (by rw [hml]; rfl) pd_14 (argsL := [(.long qa), (.int (1 : Int32))]) rfl (rest := []) rfl (W := 0) rfl (hb hy d17_134_41) (by decide) (by decide) (by decide) (by decide)
    obtain ⟨rfl, Nq51, eq51⟩ := hQ51
    have N51 := Fr.app N50 Nq51
    refine gon T51 (mkF m 44 #[jS qa,dS,iS 2,jS qb,dS,iS 3,jS (-1),dS,iS 1,uS,uS,uS] [(.long (qa * (10 : Int64)))]) (st51) ?_
    refine gon T51 (mkF m 48 #[jS qa,dS,iS 2,jS qb,dS,iS 3,jS (-1),dS,iS 1,jS (qa * (10 : Int64)),dS,uS] [(.long (qa * (10 : Int64)))]) (fun _ k => XS.lstore X51.here hx rfl (hb hy d17_134_44) rfl (l' := #[jS qa, dS, iS 2, jS qb, dS, iS 3, jS (-1), dS, iS 1, jS (qa * (10 : Int64)), dS, uS]) rfl (XS.lload X51.here hx rfl (hb hy d17_134_46) rfl k)) ?_
    refine gon T51 (mkF m 51 #[jS qa,dS,iS 2,jS qb,dS,iS 3,jS (-1),dS,iS 1,jS (qa * (10 : Int64)),dS,uS] [(.long (-9223372036854775808)), (.long (qa * (10 : Int64)))]) (X51.ldc2Long hx hown (mvT hZ (w178 hw)) (g := (mkF m 48 #[jS qa,dS,iS 2,jS qb,dS,iS 3,jS (-1),dS,iS 1,jS (qa * (10 : Int64)),dS,uS] [(.long (qa * (10 : Int64)))])) rfl (hb hy d17_134_48)) ?_
    refine gon T51 (mkF m 52 #[jS qa,dS,iS 2,jS qb,dS,iS 3,jS (-1),dS,iS 1,jS (qa * (10 : Int64)),dS,uS] [(.int (lcmpW (qa * (10 : Int64)) (-9223372036854775808 : Int64)))]) (fun _ k => XS.lcmp X51.here hx rfl (hb hy d17_134_51) rfl k) ?_
    refine gon T51 (mkF m 60 #[jS qa,dS,iS 2,jS qb,dS,iS 3,jS (-1),dS,iS 1,jS (qa * (10 : Int64)),dS,uS] [(.int 3), (.long qb), (.long (qa * (10 : Int64)))]) (fun _ k => XS.ifNo X51.here hx rfl (hb hy d17_134_52) rfl ((if0 _ _).trans (feq (fun zq => (own_bdMin ((own_bd10 P1).2) : ¬ ((qa * (10 : Int64)) = (-9223372036854775808 : Int64))) ((lw_eq (qa * (10 : Int64)) (-9223372036854775808 : Int64)).mp zq))).1) (XS.lload X51.here hx rfl (hb hy d17_134_55) rfl (XS.lloadN X51.here hx rfl (hb hy d17_134_57) rfl (XS.iload X51.here hx rfl (hb hy d17_134_58) rfl k)))) ?_
    obtain ⟨v52, T52, L52, X52, hQ52, st52⟩ := OwnW.callS X51 hx hZ hown (w184 hw) (w185 hw) (w35 hw) (w186 hw) (by decide) (addJJI l Z a0 hw (qa * (10 : Int64)) qb (3 : Int32) wZ wT wS wP wH kT kS kP kH zt zs h0 n0 Z0 O0 P0 ((own_bd10 P1).2 : Bd (qa * (10 : Int64))) (own_bd1 P2 : Bd qb) (by unfold Sc; decide : Sc (3 : Int32))) eq51 (Ls := #[jS qa, dS, iS 2, jS qb, dS, iS 3, jS (-1), dS, iS 1, jS (qa * (10 : Int64)), dS, uS]) (by rw [hml]; rfl) pd_12 (argsL := [(.long (qa * (10 : Int64))), (.long qb), (.int (3 : Int32))]) rfl (rest := []) rfl (W := 0) rfl (hb hy d17_134_60) (by decide) (by decide) (by decide) (by decide)
    obtain ⟨b_53, rfl, Nq52, Kq52, q52_0⟩ := hQ52
    have N52 := Fr.app N51 Nq52
    refine gon T52 (mkF m 63 #[jS qa,dS,iS 2,jS qb,dS,iS 3,jS (-1),dS,iS 1,jS (qa * (10 : Int64)),dS,uS] [(.ref b_53)]) (st52) ?_
    have K_54 : Keep h0 T52.heap [] := (Keep.refl h0 []).trans Kq52 all0
    exact OwnW.retA X52 hx hlk hret rfl rfl (hb hy d17_134_63) (by decide) (by decide) (show QQ _ T52.heap _ from ⟨b_53, ((qa * (10 : Int64)) + qb), (3 : Int32), rfl, N52, K_54, q52_0, (by unfold Sc; decide : Sc (3 : Int32)), (by decide : (3 : Int32) = imax (2 : Int32) (3 : Int32)), (by simp only [Nv3, own_w0, own_w1, own_w2, own_w3, own_add (own_bd10 P1).2 (own_bd1 P2), (own_bd10 P1).1]; omega : Nv3 ((qa * (10 : Int64)) + qb) (3 : Int32) = Nv3 qa (2 : Int32) + Nv3 qb (3 : Int32))⟩)
  · refine gon s₁ (mkF m 6 #[jS qa,dS,iS 3,jS qb,dS,iS 0,uS,uS,uS,uS,uS,uS] [(.long 3)]) (fun _ k => XS.iloadN X0.here hx rfl (hb hy d17_134_0) rfl (XS.i2l X0.here hx rfl (hb hy d17_134_1) rfl (XS.iload X0.here hx rfl (hb hy d17_134_2) rfl (XS.i2l X0.here hx rfl (hb hy d17_134_4) rfl (XS.lsub X0.here hx rfl (hb hy d17_134_5) rfl k))))) ?_
    refine gon s₁ (mkF m 12 #[jS qa,dS,iS 3,jS qb,dS,iS 0,jS 3,dS,uS,uS,uS,uS] [(.int (lcmpW (3 : Int64) (0 : Int64)))]) (fun _ k => XS.lstore X0.here hx rfl (hb hy d17_134_6) rfl (l' := #[jS qa, dS, iS 3, jS qb, dS, iS 0, jS 3, dS, uS, uS, uS, uS]) rfl (XS.lload X0.here hx rfl (hb hy d17_134_8) rfl (XS.lconst X0.here hx rfl (hb hy d17_134_10) (XS.lcmp X0.here hx rfl (hb hy d17_134_11) rfl k)))) ?_
    refine gon s₁ (mkF m 26 #[jS qa,dS,iS 3,jS qb,dS,iS 0,jS 3,dS,uS,uS,uS,uS] [(.int (lcmpW (3 : Int64) (0 : Int64)))]) (fun _ k => XS.ifYes X0.here hx rfl (pc0 := 12) (pc' := 22) rfl (hb hy d17_134_12) rfl ((if0 _ _).trans (feq (fun zq => (by decide : ¬ ((3 : Int64) = (0 : Int64))) ((lw_eq (3 : Int64) (0 : Int64)).mp zq))).2) (by decide) (by decide) (XS.lload X0.here hx rfl (hb hy d17_134_22) rfl (XS.lconst X0.here hx rfl (hb hy d17_134_24) (XS.lcmp X0.here hx rfl (hb hy d17_134_25) rfl k)))) ?_
    refine gon s₁ (mkF m 114 #[jS qa,dS,iS 3,jS qb,dS,iS 0,jS 3,dS,uS,uS,uS,uS] [(.long 3), (.long qb)]) (fun _ k => XS.ifYes X0.here hx rfl (pc0 := 26) (pc' := 111) rfl (hb hy d17_134_26) rfl ((if0 _ _).trans (flt (fun zq => (by decide : ¬ ((3 : Int64) < (0 : Int64))) ((lw_lt (3 : Int64) (0 : Int64)).mp zq))).2.1) (by decide) (by decide) (XS.lloadN X0.here hx rfl (hb hy d17_134_111) rfl (XS.lload X0.here hx rfl (hb hy d17_134_112) rfl k))) ?_
    obtain ⟨v55, T55, L55, X55, hQ55, st55⟩ := OwnW.callS X0 hx hZ hown (w270 hw) (w271 hw) (w35 hw) (w272 hw) (by decide) (chk3 l Z a0 hw qb h0 n0 Z0 ) e0 (Ls := #[jS qa, dS, iS 3, jS qb, dS, iS 0, jS 3, dS, uS, uS, uS, uS]) (by rw [hml]; rfl) pd_13 (argsL := [(.long qb), (.long (3 : Int64))]) rfl (rest := []) rfl (W := 0) rfl (hb hy d17_134_114) (by decide) (by decide) (by decide) (by decide)
    obtain ⟨rfl, Nq55, eq55⟩ := hQ55
    have N55 := Fr.app N0 Nq55
    refine gon T55 (mkF m 117 #[jS qa,dS,iS 3,jS qb,dS,iS 0,jS 3,dS,uS,uS,uS,uS] [(.int 3)]) (st55) ?_
    refine gon T55 (mkF m 122 #[jS qa,dS,iS 3,jS qb,dS,iS 0,jS 3,dS,iS 3,uS,uS,uS] [(.int 3), (.long qb)]) (fun _ k => XS.istore X55.here hx rfl (hb hy d17_134_117) rfl (l' := #[jS qa, dS, iS 3, jS qb, dS, iS 0, jS 3, dS, iS 3, uS, uS, uS]) rfl (XS.lloadN X55.here hx rfl (hb hy d17_134_119) rfl (XS.iload X55.here hx rfl (hb hy d17_134_120) rfl k))) ?_
    obtain ⟨v56, T56, L56, X56, hQ56, st56⟩ := OwnW.callS X55 hx hZ hown (w256 hw) (w257 hw) (w35 hw) (w258 hw) (by decide) (lmp3 l Z a0 hw qb wZ wT wS wP wH kT kS kP kH zt zs h0 n0 Z0 O0 P0 P2) eq55 (Ls := #[jS qa, dS, iS 3, jS qb, dS, iS 0, jS 3, dS, iS 3, uS, uS, uS]) (by rw [hml]; rfl) pd_14 (argsL := [(.long qb), (.int (3 : Int32))]) rfl (rest := []) rfl (W := 0) rfl (hb hy d17_134_122) (by decide) (by decide) (by decide) (by decide)
    obtain ⟨rfl, Nq56, eq56⟩ := hQ56
    have N56 := Fr.app N55 Nq56
    refine gon T56 (mkF m 125 #[jS qa,dS,iS 3,jS qb,dS,iS 0,jS 3,dS,iS 3,uS,uS,uS] [(.long (qb * (1000 : Int64)))]) (st56) ?_
    refine gon T56 (mkF m 129 #[jS qa,dS,iS 3,jS qb,dS,iS 0,jS 3,dS,iS 3,jS (qb * (1000 : Int64)),dS,uS] [(.long (qb * (1000 : Int64)))]) (fun _ k => XS.lstore X56.here hx rfl (hb hy d17_134_125) rfl (l' := #[jS qa, dS, iS 3, jS qb, dS, iS 0, jS 3, dS, iS 3, jS (qb * (1000 : Int64)), dS, uS]) rfl (XS.lload X56.here hx rfl (hb hy d17_134_127) rfl k)) ?_
    refine gon T56 (mkF m 132 #[jS qa,dS,iS 3,jS qb,dS,iS 0,jS 3,dS,iS 3,jS (qb * (1000 : Int64)),dS,uS] [(.long (-9223372036854775808)), (.long (qb * (1000 : Int64)))]) (X56.ldc2Long hx hown (mvT hZ (w178 hw)) (g := (mkF m 129 #[jS qa,dS,iS 3,jS qb,dS,iS 0,jS 3,dS,iS 3,jS (qb * (1000 : Int64)),dS,uS] [(.long (qb * (1000 : Int64)))])) rfl (hb hy d17_134_129)) ?_
    refine gon T56 (mkF m 133 #[jS qa,dS,iS 3,jS qb,dS,iS 0,jS 3,dS,iS 3,jS (qb * (1000 : Int64)),dS,uS] [(.int (lcmpW (qb * (1000 : Int64)) (-9223372036854775808 : Int64)))]) (fun _ k => XS.lcmp X56.here hx rfl (hb hy d17_134_132) rfl k) ?_
    refine gon T56 (mkF m 140 #[jS qa,dS,iS 3,jS qb,dS,iS 0,jS 3,dS,iS 3,jS (qb * (1000 : Int64)),dS,uS] [(.int 3), (.long (qb * (1000 : Int64))), (.long qa)]) (fun _ k => XS.ifNo X56.here hx rfl (hb hy d17_134_133) rfl ((if0 _ _).trans (feq (fun zq => (own_bdMin ((own_bd1000 P2).2) : ¬ ((qb * (1000 : Int64)) = (-9223372036854775808 : Int64))) ((lw_eq (qb * (1000 : Int64)) (-9223372036854775808 : Int64)).mp zq))).1) (XS.lloadN X56.here hx rfl (hb hy d17_134_136) rfl (XS.lload X56.here hx rfl (hb hy d17_134_137) rfl (XS.iloadN X56.here hx rfl (hb hy d17_134_139) rfl k)))) ?_
    obtain ⟨v57, T57, L57, X57, hQ57, st57⟩ := OwnW.callS X56 hx hZ hown (w184 hw) (w185 hw) (w35 hw) (w186 hw) (by decide) (addJJI l Z a0 hw qa (qb * (1000 : Int64)) (3 : Int32) wZ wT wS wP wH kT kS kP kH zt zs h0 n0 Z0 O0 P0 (own_bd1 P1 : Bd qa) ((own_bd1000 P2).2 : Bd (qb * (1000 : Int64))) (by unfold Sc; decide : Sc (3 : Int32))) eq56 (Ls := #[jS qa, dS, iS 3, jS qb, dS, iS 0, jS 3, dS, iS 3, jS (qb * (1000 : Int64)), dS, uS]) (by rw [hml]; rfl) pd_12 (argsL := [(.long qa), (.long (qb * (1000 : Int64))), (.int (3 : Int32))]) rfl (rest := []) rfl (W := 0) rfl (hb hy d17_134_140) (by decide) (by decide) (by decide) (by decide)
    obtain ⟨b_58, rfl, Nq57, Kq57, q57_0⟩ := hQ57
    have N57 := Fr.app N56 Nq57
    refine gon T57 (mkF m 143 #[jS qa,dS,iS 3,jS qb,dS,iS 0,jS 3,dS,iS 3,jS (qb * (1000 : Int64)),dS,uS] [(.ref b_58)]) (st57) ?_
    have K_59 : Keep h0 T57.heap [] := (Keep.refl h0 []).trans Kq57 all0
    exact OwnW.retA X57 hx hlk hret rfl rfl (hb hy d17_134_143) (by decide) (by decide) (show QQ _ T57.heap _ from ⟨b_58, (qa + (qb * (1000 : Int64))), (3 : Int32), rfl, N57, K_59, q57_0, (by unfold Sc; decide : Sc (3 : Int32)), (by decide : (3 : Int32) = imax (3 : Int32) (0 : Int32)), (by simp only [Nv3, own_w0, own_w1, own_w2, own_w3, own_add (own_bd1 P1) (own_bd1000 P2).2, (own_bd1000 P2).1]; omega : Nv3 (qa + (qb * (1000 : Int64))) (3 : Int32) = Nv3 qa (3 : Int32) + Nv3 qb (0 : Int32))⟩)
  · refine gon s₁ (mkF m 6 #[jS qa,dS,iS 3,jS qb,dS,iS 1,uS,uS,uS,uS,uS,uS] [(.long 2)]) (fun _ k => XS.iloadN X0.here hx rfl (hb hy d17_134_0) rfl (XS.i2l X0.here hx rfl (hb hy d17_134_1) rfl (XS.iload X0.here hx rfl (hb hy d17_134_2) rfl (XS.i2l X0.here hx rfl (hb hy d17_134_4) rfl (XS.lsub X0.here hx rfl (hb hy d17_134_5) rfl k))))) ?_
    refine gon s₁ (mkF m 12 #[jS qa,dS,iS 3,jS qb,dS,iS 1,jS 2,dS,uS,uS,uS,uS] [(.int (lcmpW (2 : Int64) (0 : Int64)))]) (fun _ k => XS.lstore X0.here hx rfl (hb hy d17_134_6) rfl (l' := #[jS qa, dS, iS 3, jS qb, dS, iS 1, jS 2, dS, uS, uS, uS, uS]) rfl (XS.lload X0.here hx rfl (hb hy d17_134_8) rfl (XS.lconst X0.here hx rfl (hb hy d17_134_10) (XS.lcmp X0.here hx rfl (hb hy d17_134_11) rfl k)))) ?_
    refine gon s₁ (mkF m 26 #[jS qa,dS,iS 3,jS qb,dS,iS 1,jS 2,dS,uS,uS,uS,uS] [(.int (lcmpW (2 : Int64) (0 : Int64)))]) (fun _ k => XS.ifYes X0.here hx rfl (pc0 := 12) (pc' := 22) rfl (hb hy d17_134_12) rfl ((if0 _ _).trans (feq (fun zq => (by decide : ¬ ((2 : Int64) = (0 : Int64))) ((lw_eq (2 : Int64) (0 : Int64)).mp zq))).2) (by decide) (by decide) (XS.lload X0.here hx rfl (hb hy d17_134_22) rfl (XS.lconst X0.here hx rfl (hb hy d17_134_24) (XS.lcmp X0.here hx rfl (hb hy d17_134_25) rfl k)))) ?_
    refine gon s₁ (mkF m 114 #[jS qa,dS,iS 3,jS qb,dS,iS 1,jS 2,dS,uS,uS,uS,uS] [(.long 2), (.long qb)]) (fun _ k => XS.ifYes X0.here hx rfl (pc0 := 26) (pc' := 111) rfl (hb hy d17_134_26) rfl ((if0 _ _).trans (flt (fun zq => (by decide : ¬ ((2 : Int64) < (0 : Int64))) ((lw_lt (2 : Int64) (0 : Int64)).mp zq))).2.1) (by decide) (by decide) (XS.lloadN X0.here hx rfl (hb hy d17_134_111) rfl (XS.lload X0.here hx rfl (hb hy d17_134_112) rfl k))) ?_
    obtain ⟨v60, T60, L60, X60, hQ60, st60⟩ := OwnW.callS X0 hx hZ hown (w270 hw) (w271 hw) (w35 hw) (w272 hw) (by decide) (chk2 l Z a0 hw qb h0 n0 Z0 ) e0 (Ls := #[jS qa, dS, iS 3, jS qb, dS, iS 1, jS 2, dS, uS, uS, uS, uS]) (by rw [hml]; rfl) pd_13 (argsL := [(.long qb), (.long (2 : Int64))]) rfl (rest := []) rfl (W := 0) rfl (hb hy d17_134_114) (by decide) (by decide) (by decide) (by decide)
    obtain ⟨rfl, Nq60, eq60⟩ := hQ60
    have N60 := Fr.app N0 Nq60
    refine gon T60 (mkF m 117 #[jS qa,dS,iS 3,jS qb,dS,iS 1,jS 2,dS,uS,uS,uS,uS] [(.int 2)]) (st60) ?_
    refine gon T60 (mkF m 122 #[jS qa,dS,iS 3,jS qb,dS,iS 1,jS 2,dS,iS 2,uS,uS,uS] [(.int 2), (.long qb)]) (fun _ k => XS.istore X60.here hx rfl (hb hy d17_134_117) rfl (l' := #[jS qa, dS, iS 3, jS qb, dS, iS 1, jS 2, dS, iS 2, uS, uS, uS]) rfl (XS.lloadN X60.here hx rfl (hb hy d17_134_119) rfl (XS.iload X60.here hx rfl (hb hy d17_134_120) rfl k))) ?_
    obtain ⟨v61, T61, L61, X61, hQ61, st61⟩ := OwnW.callS X60 hx hZ hown (w256 hw) (w257 hw) (w35 hw) (w258 hw) (by decide) (lmp2 l Z a0 hw qb wZ wT wS wP wH kT kS kP kH zt zs h0 n0 Z0 O0 P0 P2) eq60 (Ls := #[jS qa, dS, iS 3, jS qb, dS, iS 1, jS 2, dS, iS 2, uS, uS, uS]) (by rw [hml]; rfl) pd_14 (argsL := [(.long qb), (.int (2 : Int32))]) rfl (rest := []) rfl (W := 0) rfl (hb hy d17_134_122) (by decide) (by decide) (by decide) (by decide)
    obtain ⟨rfl, Nq61, eq61⟩ := hQ61
    have N61 := Fr.app N60 Nq61
    refine gon T61 (mkF m 125 #[jS qa,dS,iS 3,jS qb,dS,iS 1,jS 2,dS,iS 2,uS,uS,uS] [(.long (qb * (100 : Int64)))]) (st61) ?_
    refine gon T61 (mkF m 129 #[jS qa,dS,iS 3,jS qb,dS,iS 1,jS 2,dS,iS 2,jS (qb * (100 : Int64)),dS,uS] [(.long (qb * (100 : Int64)))]) (fun _ k => XS.lstore X61.here hx rfl (hb hy d17_134_125) rfl (l' := #[jS qa, dS, iS 3, jS qb, dS, iS 1, jS 2, dS, iS 2, jS (qb * (100 : Int64)), dS, uS]) rfl (XS.lload X61.here hx rfl (hb hy d17_134_127) rfl k)) ?_
    refine gon T61 (mkF m 132 #[jS qa,dS,iS 3,jS qb,dS,iS 1,jS 2,dS,iS 2,jS (qb * (100 : Int64)),dS,uS] [(.long (-9223372036854775808)), (.long (qb * (100 : Int64)))]) (X61.ldc2Long hx hown (mvT hZ (w178 hw)) (g := (mkF m 129 #[jS qa,dS,iS 3,jS qb,dS,iS 1,jS 2,dS,iS 2,jS (qb * (100 : Int64)),dS,uS] [(.long (qb * (100 : Int64)))])) rfl (hb hy d17_134_129)) ?_
    refine gon T61 (mkF m 133 #[jS qa,dS,iS 3,jS qb,dS,iS 1,jS 2,dS,iS 2,jS (qb * (100 : Int64)),dS,uS] [(.int (lcmpW (qb * (100 : Int64)) (-9223372036854775808 : Int64)))]) (fun _ k => XS.lcmp X61.here hx rfl (hb hy d17_134_132) rfl k) ?_
    refine gon T61 (mkF m 140 #[jS qa,dS,iS 3,jS qb,dS,iS 1,jS 2,dS,iS 2,jS (qb * (100 : Int64)),dS,uS] [(.int 3), (.long (qb * (100 : Int64))), (.long qa)]) (fun _ k => XS.ifNo X61.here hx rfl (hb hy d17_134_133) rfl ((if0 _ _).trans (feq (fun zq => (own_bdMin ((own_bd100 P2).2) : ¬ ((qb * (100 : Int64)) = (-9223372036854775808 : Int64))) ((lw_eq (qb * (100 : Int64)) (-9223372036854775808 : Int64)).mp zq))).1) (XS.lloadN X61.here hx rfl (hb hy d17_134_136) rfl (XS.lload X61.here hx rfl (hb hy d17_134_137) rfl (XS.iloadN X61.here hx rfl (hb hy d17_134_139) rfl k)))) ?_
    obtain ⟨v62, T62, L62, X62, hQ62, st62⟩ := OwnW.callS X61 hx hZ hown (w184 hw) (w185 hw) (w35 hw) (w186 hw) (by decide) (addJJI l Z a0 hw qa (qb * (100 : Int64)) (3 : Int32) wZ wT wS wP wH kT kS kP kH zt zs h0 n0 Z0 O0 P0 (own_bd1 P1 : Bd qa) ((own_bd100 P2).2 : Bd (qb * (100 : Int64))) (by unfold Sc; decide : Sc (3 : Int32))) eq61 (Ls := #[jS qa, dS, iS 3, jS qb, dS, iS 1, jS 2, dS, iS 2, jS (qb * (100 : Int64)), dS, uS]) (by rw [hml]; rfl) pd_12 (argsL := [(.long qa), (.long (qb * (100 : Int64))), (.int (3 : Int32))]) rfl (rest := []) rfl (W := 0) rfl (hb hy d17_134_140) (by decide) (by decide) (by decide) (by decide)
    obtain ⟨b_63, rfl, Nq62, Kq62, q62_0⟩ := hQ62
    have N62 := Fr.app N61 Nq62
    refine gon T62 (mkF m 143 #[jS qa,dS,iS 3,jS qb,dS,iS 1,jS 2,dS,iS 2,jS (qb * (100 : Int64)),dS,uS] [(.ref b_63)]) (st62) ?_
    have K_64 : Keep h0 T62.heap [] := (Keep.refl h0 []).trans Kq62 all0
    exact OwnW.retA X62 hx hlk hret rfl rfl (hb hy d17_134_143) (by decide) (by decide) (show QQ _ T62.heap _ from ⟨b_63, (qa + (qb * (100 : Int64))), (3 : Int32), rfl, N62, K_64, q62_0, (by unfold Sc; decide : Sc (3 : Int32)), (by decide : (3 : Int32) = imax (3 : Int32) (1 : Int32)), (by simp only [Nv3, own_w0, own_w1, own_w2, own_w3, own_add (own_bd1 P1) (own_bd100 P2).2, (own_bd100 P2).1]; omega : Nv3 (qa + (qb * (100 : Int64))) (3 : Int32) = Nv3 qa (3 : Int32) + Nv3 qb (1 : Int32))⟩)
  · refine gon s₁ (mkF m 6 #[jS qa,dS,iS 3,jS qb,dS,iS 2,uS,uS,uS,uS,uS,uS] [(.long 1)]) (fun _ k => XS.iloadN X0.here hx rfl (hb hy d17_134_0) rfl (XS.i2l X0.here hx rfl (hb hy d17_134_1) rfl (XS.iload X0.here hx rfl (hb hy d17_134_2) rfl (XS.i2l X0.here hx rfl (hb hy d17_134_4) rfl (XS.lsub X0.here hx rfl (hb hy d17_134_5) rfl k))))) ?_
    refine gon s₁ (mkF m 12 #[jS qa,dS,iS 3,jS qb,dS,iS 2,jS 1,dS,uS,uS,uS,uS] [(.int (lcmpW (1 : Int64) (0 : Int64)))]) (fun _ k => XS.lstore X0.here hx rfl (hb hy d17_134_6) rfl (l' := #[jS qa, dS, iS 3, jS qb, dS, iS 2, jS 1, dS, uS, uS, uS, uS]) rfl (XS.lload X0.here hx rfl (hb hy d17_134_8) rfl (XS.lconst X0.here hx rfl (hb hy d17_134_10) (XS.lcmp X0.here hx rfl (hb hy d17_134_11) rfl k)))) ?_
    refine gon s₁ (mkF m 26 #[jS qa,dS,iS 3,jS qb,dS,iS 2,jS 1,dS,uS,uS,uS,uS] [(.int (lcmpW (1 : Int64) (0 : Int64)))]) (fun _ k => XS.ifYes X0.here hx rfl (pc0 := 12) (pc' := 22) rfl (hb hy d17_134_12) rfl ((if0 _ _).trans (feq (fun zq => (by decide : ¬ ((1 : Int64) = (0 : Int64))) ((lw_eq (1 : Int64) (0 : Int64)).mp zq))).2) (by decide) (by decide) (XS.lload X0.here hx rfl (hb hy d17_134_22) rfl (XS.lconst X0.here hx rfl (hb hy d17_134_24) (XS.lcmp X0.here hx rfl (hb hy d17_134_25) rfl k)))) ?_
    refine gon s₁ (mkF m 114 #[jS qa,dS,iS 3,jS qb,dS,iS 2,jS 1,dS,uS,uS,uS,uS] [(.long 1), (.long qb)]) (fun _ k => XS.ifYes X0.here hx rfl (pc0 := 26) (pc' := 111) rfl (hb hy d17_134_26) rfl ((if0 _ _).trans (flt (fun zq => (by decide : ¬ ((1 : Int64) < (0 : Int64))) ((lw_lt (1 : Int64) (0 : Int64)).mp zq))).2.1) (by decide) (by decide) (XS.lloadN X0.here hx rfl (hb hy d17_134_111) rfl (XS.lload X0.here hx rfl (hb hy d17_134_112) rfl k))) ?_
    obtain ⟨v65, T65, L65, X65, hQ65, st65⟩ := OwnW.callS X0 hx hZ hown (w270 hw) (w271 hw) (w35 hw) (w272 hw) (by decide) (chk1 l Z a0 hw qb h0 n0 Z0 ) e0 (Ls := #[jS qa, dS, iS 3, jS qb, dS, iS 2, jS 1, dS, uS, uS, uS, uS]) (by rw [hml]; rfl) pd_13 (argsL := [(.long qb), (.long (1 : Int64))]) rfl (rest := []) rfl (W := 0) rfl (hb hy d17_134_114) (by decide) (by decide) (by decide) (by decide)
    obtain ⟨rfl, Nq65, eq65⟩ := hQ65
    have N65 := Fr.app N0 Nq65
    refine gon T65 (mkF m 117 #[jS qa,dS,iS 3,jS qb,dS,iS 2,jS 1,dS,uS,uS,uS,uS] [(.int 1)]) (st65) ?_
    refine gon T65 (mkF m 122 #[jS qa,dS,iS 3,jS qb,dS,iS 2,jS 1,dS,iS 1,uS,uS,uS] [(.int 1), (.long qb)]) (fun _ k => XS.istore X65.here hx rfl (hb hy d17_134_117) rfl (l' := #[jS qa, dS, iS 3, jS qb, dS, iS 2, jS 1, dS, iS 1, uS, uS, uS]) rfl (XS.lloadN X65.here hx rfl (hb hy d17_134_119) rfl (XS.iload X65.here hx rfl (hb hy d17_134_120) rfl k))) ?_
    obtain ⟨v66, T66, L66, X66, hQ66, st66⟩ := OwnW.callS X65 hx hZ hown (w256 hw) (w257 hw) (w35 hw) (w258 hw) (by decide) (lmp1 l Z a0 hw qb wZ wT wS wP wH kT kS kP kH zt zs h0 n0 Z0 O0 P0 P2) eq65 (Ls := #[jS qa, dS, iS 3, jS qb, dS, iS 2, jS 1, dS, iS 1, uS, uS, uS]) (by rw [hml]; rfl) pd_14 (argsL := [(.long qb), (.int (1 : Int32))]) rfl (rest := []) rfl (W := 0) rfl (hb hy d17_134_122) (by decide) (by decide) (by decide) (by decide)
    obtain ⟨rfl, Nq66, eq66⟩ := hQ66
    have N66 := Fr.app N65 Nq66
    refine gon T66 (mkF m 125 #[jS qa,dS,iS 3,jS qb,dS,iS 2,jS 1,dS,iS 1,uS,uS,uS] [(.long (qb * (10 : Int64)))]) (st66) ?_
    refine gon T66 (mkF m 129 #[jS qa,dS,iS 3,jS qb,dS,iS 2,jS 1,dS,iS 1,jS (qb * (10 : Int64)),dS,uS] [(.long (qb * (10 : Int64)))]) (fun _ k => XS.lstore X66.here hx rfl (hb hy d17_134_125) rfl (l' := #[jS qa, dS, iS 3, jS qb, dS, iS 2, jS 1, dS, iS 1, jS (qb * (10 : Int64)), dS, uS]) rfl (XS.lload X66.here hx rfl (hb hy d17_134_127) rfl k)) ?_
    refine gon T66 (mkF m 132 #[jS qa,dS,iS 3,jS qb,dS,iS 2,jS 1,dS,iS 1,jS (qb * (10 : Int64)),dS,uS] [(.long (-9223372036854775808)), (.long (qb * (10 : Int64)))]) (X66.ldc2Long hx hown (mvT hZ (w178 hw)) (g := (mkF m 129 #[jS qa,dS,iS 3,jS qb,dS,iS 2,jS 1,dS,iS 1,jS (qb * (10 : Int64)),dS,uS] [(.long (qb * (10 : Int64)))])) rfl (hb hy d17_134_129)) ?_
    refine gon T66 (mkF m 133 #[jS qa,dS,iS 3,jS qb,dS,iS 2,jS 1,dS,iS 1,jS (qb * (10 : Int64)),dS,uS] [(.int (lcmpW (qb * (10 : Int64)) (-9223372036854775808 : Int64)))]) (fun _ k => XS.lcmp X66.here hx rfl (hb hy d17_134_132) rfl k) ?_
    refine gon T66 (mkF m 140 #[jS qa,dS,iS 3,jS qb,dS,iS 2,jS 1,dS,iS 1,jS (qb * (10 : Int64)),dS,uS] [(.int 3), (.long (qb * (10 : Int64))), (.long qa)]) (fun _ k => XS.ifNo X66.here hx rfl (hb hy d17_134_133) rfl ((if0 _ _).trans (feq (fun zq => (own_bdMin ((own_bd10 P2).2) : ¬ ((qb * (10 : Int64)) = (-9223372036854775808 : Int64))) ((lw_eq (qb * (10 : Int64)) (-9223372036854775808 : Int64)).mp zq))).1) (XS.lloadN X66.here hx rfl (hb hy d17_134_136) rfl (XS.lload X66.here hx rfl (hb hy d17_134_137) rfl (XS.iloadN X66.here hx rfl (hb hy d17_134_139) rfl k)))) ?_
    obtain ⟨v67, T67, L67, X67, hQ67, st67⟩ := OwnW.callS X66 hx hZ hown (w184 hw) (w185 hw) (w35 hw) (w186 hw) (by decide) (addJJI l Z a0 hw qa (qb * (10 : Int64)) (3 : Int32) wZ wT wS wP wH kT kS kP kH zt zs h0 n0 Z0 O0 P0 (own_bd1 P1 : Bd qa) ((own_bd10 P2).2 : Bd (qb * (10 : Int64))) (by unfold Sc; decide : Sc (3 : Int32))) eq66 (Ls := #[jS qa, dS, iS 3, jS qb, dS, iS 2, jS 1, dS, iS 1, jS (qb * (10 : Int64)), dS, uS]) (by rw [hml]; rfl) pd_12 (argsL := [(.long qa), (.long (qb * (10 : Int64))), (.int (3 : Int32))]) rfl (rest := []) rfl (W := 0) rfl (hb hy d17_134_140) (by decide) (by decide) (by decide) (by decide)
    obtain ⟨b_68, rfl, Nq67, Kq67, q67_0⟩ := hQ67
    have N67 := Fr.app N66 Nq67
    refine gon T67 (mkF m 143 #[jS qa,dS,iS 3,jS qb,dS,iS 2,jS 1,dS,iS 1,jS (qb * (10 : Int64)),dS,uS] [(.ref b_68)]) (st67) ?_
    have K_69 : Keep h0 T67.heap [] := (Keep.refl h0 []).trans Kq67 all0
    exact OwnW.retA X67 hx hlk hret rfl rfl (hb hy d17_134_143) (by decide) (by decide) (show QQ _ T67.heap _ from ⟨b_68, (qa + (qb * (10 : Int64))), (3 : Int32), rfl, N67, K_69, q67_0, (by unfold Sc; decide : Sc (3 : Int32)), (by decide : (3 : Int32) = imax (3 : Int32) (2 : Int32)), (by simp only [Nv3, own_w0, own_w1, own_w2, own_w3, own_add (own_bd1 P1) (own_bd10 P2).2, (own_bd10 P2).1]; omega : Nv3 (qa + (qb * (10 : Int64))) (3 : Int32) = Nv3 qa (3 : Int32) + Nv3 qb (2 : Int32))⟩)
  · refine gon s₁ (mkF m 6 #[jS qa,dS,iS 3,jS qb,dS,iS 3,uS,uS,uS,uS,uS,uS] [(.long 0)]) (fun _ k => XS.iloadN X0.here hx rfl (hb hy d17_134_0) rfl (XS.i2l X0.here hx rfl (hb hy d17_134_1) rfl (XS.iload X0.here hx rfl (hb hy d17_134_2) rfl (XS.i2l X0.here hx rfl (hb hy d17_134_4) rfl (XS.lsub X0.here hx rfl (hb hy d17_134_5) rfl k))))) ?_
    refine gon s₁ (mkF m 12 #[jS qa,dS,iS 3,jS qb,dS,iS 3,jS 0,dS,uS,uS,uS,uS] [(.int (lcmpW (0 : Int64) (0 : Int64)))]) (fun _ k => XS.lstore X0.here hx rfl (hb hy d17_134_6) rfl (l' := #[jS qa, dS, iS 3, jS qb, dS, iS 3, jS 0, dS, uS, uS, uS, uS]) rfl (XS.lload X0.here hx rfl (hb hy d17_134_8) rfl (XS.lconst X0.here hx rfl (hb hy d17_134_10) (XS.lcmp X0.here hx rfl (hb hy d17_134_11) rfl k)))) ?_
    refine gon s₁ (mkF m 18 #[jS qa,dS,iS 3,jS qb,dS,iS 3,jS 0,dS,uS,uS,uS,uS] [(.int 3), (.long qb), (.long qa)]) (fun _ k => XS.ifNo X0.here hx rfl (hb hy d17_134_12) rfl ((if0 _ _).trans (teq ((lw_eq (0 : Int64) (0 : Int64)).mpr (by decide : (0 : Int64) = (0 : Int64)))).2) (XS.lloadN X0.here hx rfl (hb hy d17_134_15) rfl (XS.lloadN X0.here hx rfl (hb hy d17_134_16) rfl (XS.iloadN X0.here hx rfl (hb hy d17_134_17) rfl k)))) ?_
    obtain ⟨v70, T70, L70, X70, hQ70, st70⟩ := OwnW.callS X0 hx hZ hown (w184 hw) (w185 hw) (w35 hw) (w186 hw) (by decide) (addJJI l Z a0 hw qa qb (3 : Int32) wZ wT wS wP wH kT kS kP kH zt zs h0 n0 Z0 O0 P0 (own_bd1 P1 : Bd qa) (own_bd1 P2 : Bd qb) (by unfold Sc; decide : Sc (3 : Int32))) e0 (Ls := #[jS qa, dS, iS 3, jS qb, dS, iS 3, jS 0, dS, uS, uS, uS, uS]) (by rw [hml]; rfl) pd_12 (argsL := [(.long qa), (.long qb), (.int (3 : Int32))]) rfl (rest := []) rfl (W := 0) rfl (hb hy d17_134_18) (by decide) (by decide) (by decide) (by decide)
    obtain ⟨b_71, rfl, Nq70, Kq70, q70_0⟩ := hQ70
    have N70 := Fr.app N0 Nq70
    refine gon T70 (mkF m 21 #[jS qa,dS,iS 3,jS qb,dS,iS 3,jS 0,dS,uS,uS,uS,uS] [(.ref b_71)]) (st70) ?_
    have K_72 : Keep h0 T70.heap [] := (Keep.refl h0 []).trans Kq70 all0
    exact OwnW.retA X70 hx hlk hret rfl rfl (hb hy d17_134_21) (by decide) (by decide) (show QQ _ T70.heap _ from ⟨b_71, (qa + qb), (3 : Int32), rfl, N70, K_72, q70_0, (by unfold Sc; decide : Sc (3 : Int32)), (by decide : (3 : Int32) = imax (3 : Int32) (3 : Int32)), (by simp only [Nv3, own_w0, own_w1, own_w2, own_w3, own_add (own_bd1 P1) (own_bd1 P2)]; omega : Nv3 (qa + qb) (3 : Int32) = Nv3 qa (3 : Int32) + Nv3 qb (3 : Int32))⟩)
abbrev k17_26 := jdk_17_method_26_code
theorem d17_26_0 : decode k17_26 0 = .ok (.aload_n 0, 1) := by decide +kernel
theorem d17_26_1 : decode k17_26 1 = .ok (.getfield 24, 3) := by decide +kernel
theorem d17_26_4 : decode k17_26 4 = .ok (.ldc2_w 125, 3) := by decide +kernel
theorem d17_26_7 : decode k17_26 7 = .ok (.lcmp, 1) := by decide +kernel
theorem d17_26_8 : decode k17_26 8 = .ok (.ifCond .eq 54, 3) := by decide +kernel
theorem d17_26_11 : decode k17_26 11 = .ok (.aload_n 1, 1) := by decide +kernel
theorem d17_26_12 : decode k17_26 12 = .ok (.getfield 24, 3) := by decide +kernel
theorem d17_26_15 : decode k17_26 15 = .ok (.ldc2_w 125, 3) := by decide +kernel
theorem d17_26_18 : decode k17_26 18 = .ok (.lcmp, 1) := by decide +kernel
theorem d17_26_19 : decode k17_26 19 = .ok (.ifCond .eq 23, 3) := by decide +kernel
theorem d17_26_22 : decode k17_26 22 = .ok (.aload_n 0, 1) := by decide +kernel
theorem d17_26_23 : decode k17_26 23 = .ok (.getfield 24, 3) := by decide +kernel
theorem d17_26_26 : decode k17_26 26 = .ok (.aload_n 0, 1) := by decide +kernel
theorem d17_26_27 : decode k17_26 27 = .ok (.getfield 17, 3) := by decide +kernel
theorem d17_26_30 : decode k17_26 30 = .ok (.aload_n 1, 1) := by decide +kernel
theorem d17_26_31 : decode k17_26 31 = .ok (.getfield 24, 3) := by decide +kernel
theorem d17_26_34 : decode k17_26 34 = .ok (.aload_n 1, 1) := by decide +kernel
theorem d17_26_35 : decode k17_26 35 = .ok (.getfield 17, 3) := by decide +kernel
theorem d17_26_38 : decode k17_26 38 = .ok (.invokestatic 257, 3) := by decide +kernel
theorem w183 {Z a0} (hw : Ht a0 Z) : (Cond.code ⟨"java/math/BigDecimal", "add", "(JIJI)Ljava/math/BigDecimal;"⟩ jdk_17_method_134_code (12 : Nat) (Option.some (Jvm.ClassFile.FieldType.object "java/math/BigDecimal"))).before a0 Z = true := ht hw 183 rfl
theorem w181 {Z a0} (hw : Ht a0 Z) : (Cond.methodLink "java/math/BigDecimal" (257 : Nat) ⟨"java/math/BigDecimal", "add", "(JIJI)Ljava/math/BigDecimal;"⟩).before a0 Z = true := ht hw 181 rfl
theorem w182 {Z a0} (hw : Ht a0 Z) : (Cond.static ⟨"java/math/BigDecimal", "add", "(JIJI)Ljava/math/BigDecimal;"⟩).before a0 Z = true := ht hw 182 rfl
theorem pd_15 : parseMethodDescriptor "(JIJI)Ljava/math/BigDecimal;" = some ⟨[.long, .int, .long, .int], some (.object "java/math/BigDecimal")⟩ := by decide +kernel
theorem d17_26_41 : decode k17_26 41 = .ok (.areturn, 1) := by decide +kernel
def Q_bdAdd (Z : State) (a : Addr) (d : Addr) (wZ : Addr) (wT : Addr) (wS : Addr) (wP : Addr) (wH : Addr) (kT : ClassId) (kS : ClassId) (kP : ClassId) (kH : ClassId) (zt : Nat → Addr) (zs : Nat → Addr) (qa : Int64) (ra : Int32) (qb : Int64) (rb : Int32) (h0 : Heap) (n0 : Nat) (v : Option Value) (h : Heap) (L : List Loc) : Prop := ∃ b : Addr, ∃ z : Int64, ∃ t : Int32, v = some (.ref b) ∧ Fr n0 L ∧ Keep h0 h [] ∧ BDV Z h n0 b z t ∧ Sc t ∧ t = imax ra rb ∧ Nv3 z t = Nv3 qa ra + Nv3 qb rb
set_option maxRecDepth 65536 in
set_option maxHeartbeats 40000000 in
theorem bdAdd (l : Launch) (Z : State) (a0 : Array Value) (hw : Ht a0 Z) (a : Addr) (d : Addr) (wZ : Addr) (wT : Addr) (wS : Addr) (wP : Addr) (wH : Addr) (kT : ClassId) (kS : ClassId) (kP : ClassId) (kH : ClassId) (zt : Nat → Addr) (zs : Nat → Addr) (qa : Int64) (ra : Int32) (qb : Int64) (rb : Int32) (h0 : Heap) (n0 : Nat) (Z0 : n0 ≤ h0.size) (O0 : Old Z n0 h0) (P0 : BigS Z wZ wT wS wP wH kT kS kP kH zt zs) (P1 : BDV Z h0 n0 a qa ra) (P2 : BDV Z h0 n0 d qb rb) (P3 : Bq qa) (P4 : Bq qb) (P5 : Sc ra) (P6 : Sc rb) :
    Con l Z (⟨"java/math/BigDecimal", "add", "(Ljava/math/BigDecimal;)Ljava/math/BigDecimal;"⟩ : MethodName) jdk_17_method_26_code 2 (some (.object "java/math/BigDecimal")) ({ frames := 7, cells := 1, slots := 5, locals := 110 } : Room) #[(.ref a), (.ref d)] h0 (Q_bdAdd Z a d wZ wT wS wP wH kT kS kP kH zt zs qa ra qb rb h0 n0) := by
  refine OwnW.body (Ls := #[rS a, rS d]) (plainFor_of_name pn_5) (fun m => by first | (simp [entryFrame, mkF, argsToLocals, Value.category]; done) | rfl) ?_
  intro p e s m below meth c s₁ hx hy hml hown hnm hret hlk hZ X0 e0
  let QQ := Q_bdAdd Z a d wZ wT wS wP wH kT kS kP kH zt zs qa ra qb rb h0 n0
  have N0 := Fr.nil n0
  show Go p e below (s₁.setTop (mkF m 0 #[rS a, rS d] [])) (EndQ s below ({ frames := 7, cells := 1, slots := 5, locals := 110 } : Room).cells ({ frames := 7, cells := 1, slots := 5, locals := 110 } : Room).slots QQ)
  refine gon s₁ (mkF m 1 #[rS a,rS d] [(.ref a)]) (fun _ k => XS.aloadN X0.here hx rfl (hb hy d17_26_0) rfl rfl k) ?_
  obtain ⟨T1, X1, e1, st1⟩ := getF X0 hx hZ hown (host := "") (Or.inl (w176 hw)) Via.refl e0 P1.2.2.1 (g := (mkF m 1 #[rS a,rS d] [(.ref a)])) rfl rfl (hb hy d17_26_1)
  refine gon T1 (mkF m 4 #[rS a,rS d] [(.long qa)]) (st1) ?_
  refine gon T1 (mkF m 7 #[rS a,rS d] [(.long (-9223372036854775808)), (.long qa)]) (X1.ldc2Long hx hown (mvT hZ (w178 hw)) (g := (mkF m 4 #[rS a,rS d] [(.long qa)])) rfl (hb hy d17_26_4)) ?_
  refine gon T1 (mkF m 8 #[rS a,rS d] [(.int (lcmpW qa (-9223372036854775808 : Int64)))]) (fun _ k => XS.lcmp X1.here hx rfl (hb hy d17_26_7) rfl k) ?_
  refine gon T1 (mkF m 12 #[rS a,rS d] [(.ref d)]) (fun _ k => XS.ifNo X1.here hx rfl (hb hy d17_26_8) rfl ((if0 _ _).trans (feq (fun zq => (own_bdMin (own_bd1 P3) : ¬ (qa = (-9223372036854775808 : Int64))) ((lw_eq qa (-9223372036854775808 : Int64)).mp zq))).1) (XS.aloadN X1.here hx rfl (hb hy d17_26_11) rfl rfl k)) ?_
  obtain ⟨T2, X2, e2, st2⟩ := getF X1 hx hZ hown (host := "") (Or.inl (w176 hw)) Via.refl e1 P2.2.2.1 (g := (mkF m 12 #[rS a,rS d] [(.ref d)])) rfl rfl (hb hy d17_26_12)
  refine gon T2 (mkF m 15 #[rS a,rS d] [(.long qb)]) (st2) ?_
  refine gon T2 (mkF m 18 #[rS a,rS d] [(.long (-9223372036854775808)), (.long qb)]) (X2.ldc2Long hx hown (mvT hZ (w178 hw)) (g := (mkF m 15 #[rS a,rS d] [(.long qb)])) rfl (hb hy d17_26_15)) ?_
  refine gon T2 (mkF m 19 #[rS a,rS d] [(.int (lcmpW qb (-9223372036854775808 : Int64)))]) (fun _ k => XS.lcmp X2.here hx rfl (hb hy d17_26_18) rfl k) ?_
  refine gon T2 (mkF m 23 #[rS a,rS d] [(.ref a)]) (fun _ k => XS.ifNo X2.here hx rfl (hb hy d17_26_19) rfl ((if0 _ _).trans (feq (fun zq => (own_bdMin (own_bd1 P4) : ¬ (qb = (-9223372036854775808 : Int64))) ((lw_eq qb (-9223372036854775808 : Int64)).mp zq))).1) (XS.aloadN X2.here hx rfl (hb hy d17_26_22) rfl rfl k)) ?_
  obtain ⟨T3, X3, e3, st3⟩ := getF X2 hx hZ hown (host := "") (Or.inl (w176 hw)) Via.refl e2 P1.2.2.1 (g := (mkF m 23 #[rS a,rS d] [(.ref a)])) rfl rfl (hb hy d17_26_23)
  refine gon T3 (mkF m 26 #[rS a,rS d] [(.long qa)]) (st3) ?_
  refine gon T3 (mkF m 27 #[rS a,rS d] [(.ref a), (.long qa)]) (fun _ k => XS.aloadN X3.here hx rfl (hb hy d17_26_26) rfl rfl k) ?_
  obtain ⟨T4, X4, e4, st4⟩ := getF X3 hx hZ hown (host := "") (Or.inl (w179 hw)) Via.refl e3 P1.2.1 (g := (mkF m 27 #[rS a,rS d] [(.ref a), (.long qa)])) rfl rfl (hb hy d17_26_27)
  refine gon T4 (mkF m 30 #[rS a,rS d] [(.int ra), (.long qa)]) (st4) ?_
  refine gon T4 (mkF m 31 #[rS a,rS d] [(.ref d), (.int ra), (.long qa)]) (fun _ k => XS.aloadN X4.here hx rfl (hb hy d17_26_30) rfl rfl k) ?_
  obtain ⟨T5, X5, e5, st5⟩ := getF X4 hx hZ hown (host := "") (Or.inl (w176 hw)) Via.refl e4 P2.2.2.1 (g := (mkF m 31 #[rS a,rS d] [(.ref d), (.int ra), (.long qa)])) rfl rfl (hb hy d17_26_31)
  refine gon T5 (mkF m 34 #[rS a,rS d] [(.long qb), (.int ra), (.long qa)]) (st5) ?_
  refine gon T5 (mkF m 35 #[rS a,rS d] [(.ref d), (.long qb), (.int ra), (.long qa)]) (fun _ k => XS.aloadN X5.here hx rfl (hb hy d17_26_34) rfl rfl k) ?_
  obtain ⟨T6, X6, e6, st6⟩ := getF X5 hx hZ hown (host := "") (Or.inl (w179 hw)) Via.refl e5 P2.2.1 (g := (mkF m 35 #[rS a,rS d] [(.ref d), (.long qb), (.int ra), (.long qa)])) rfl rfl (hb hy d17_26_35)
  refine gon T6 (mkF m 38 #[rS a,rS d] [(.int rb), (.long qb), (.int ra), (.long qa)]) (st6) ?_
  obtain ⟨v7, T7, L7, X7, hQ7, st7⟩ := OwnW.callS X6 hx hZ hown (w181 hw) (w182 hw) (w35 hw) (w183 hw) (by decide) (addJIJI l Z a0 hw qa ra qb rb wZ wT wS wP wH kT kS kP kH zt zs h0 n0 Z0 O0 P0 P3 P4 P5 P6) e6 (Ls := #[rS a, rS d]) (by rw [hml]; rfl) pd_15 (argsL := [(.long qa), (.int ra), (.long qb), (.int rb)]) rfl (rest := []) rfl (W := 0) rfl (hb hy d17_26_38) (by decide) (by decide) (by decide) (by decide)
  obtain ⟨b_8, z_9, t_10, rfl, Nq7, Kq7, q7_0, q7_1, q7_2, q7_3⟩ := hQ7
  have N7 := Fr.app N0 Nq7
  refine gon T7 (mkF m 41 #[rS a,rS d] [(.ref b_8)]) (st7) ?_
  have K_11 : Keep h0 T7.heap [] := (Keep.refl h0 []).trans Kq7 all0
  exact OwnW.retA X7 hx hlk hret rfl rfl (hb hy d17_26_41) (by decide) (by decide) (show QQ _ T7.heap _ from ⟨b_8, z_9, t_10, rfl, N7, K_11, q7_0, q7_1, q7_2, q7_3⟩)
abbrev kp8_1 := prog_8_method_1_code
theorem dp8_1_0 : decode kp8_1 0 = .ok (.aload_n 0, 1) := by decide +kernel
theorem dp8_1_1 : decode kp8_1 1 = .ok (.invokespecial 1, 3) := by decide +kernel
theorem w45 {Z a0} (hw : Ht a0 Z) : (Cond.methodLink "com/example/tipple/tipple/Lot" (1 : Nat) ⟨"java/lang/Object", "<init>", "()V"⟩).before a0 Z = true := ht hw 45 rfl
theorem dp8_1_4 : decode kp8_1 4 = .ok (.aload_n 0, 1) := by decide +kernel
theorem dp8_1_5 : decode kp8_1 5 = .ok (.aload_n 1, 1) := by decide +kernel
theorem dp8_1_6 : decode kp8_1 6 = .ok (.putfield 7, 3) := by decide +kernel
theorem w46 {Z a0} (hw : Ht a0 Z) : (Cond.fieldLink "com/example/tipple/tipple/Lot" (7 : Nat) "com/example/tipple/tipple/Lot" "id" "Ljava/lang/String;").before a0 Z = true := ht hw 46 rfl
theorem w47 {Z a0} (hw : Ht a0 Z) : (Cond.laysFinal "com/example/tipple/tipple/Lot" "com/example/tipple/tipple/Lot" "id" "Ljava/lang/String;").before a0 Z = true := ht hw 47 rfl
theorem w31 {Z a0} (hw : Ht a0 Z) : (Cond.instantiable "com/example/tipple/tipple/Lot" (12 : Nat)).before a0 Z = true := ht hw 31 rfl
theorem dp8_1_9 : decode kp8_1 9 = .ok (.aload_n 0, 1) := by decide +kernel
theorem dp8_1_10 : decode kp8_1 10 = .ok (.aload_n 2, 1) := by decide +kernel
theorem dp8_1_11 : decode kp8_1 11 = .ok (.putfield 13, 3) := by decide +kernel
theorem w48 {Z a0} (hw : Ht a0 Z) : (Cond.fieldLink "com/example/tipple/tipple/Lot" (13 : Nat) "com/example/tipple/tipple/Lot" "file" "Ljava/lang/String;").before a0 Z = true := ht hw 48 rfl
theorem w49 {Z a0} (hw : Ht a0 Z) : (Cond.laysFinal "com/example/tipple/tipple/Lot" "com/example/tipple/tipple/Lot" "file" "Ljava/lang/String;").before a0 Z = true := ht hw 49 rfl
theorem dp8_1_14 : decode kp8_1 14 = .ok (.aload_n 0, 1) := by decide +kernel
theorem dp8_1_15 : decode kp8_1 15 = .ok (.lload_n 3, 1) := by decide +kernel
theorem dp8_1_16 : decode kp8_1 16 = .ok (.putfield 16, 3) := by decide +kernel
theorem w50 {Z a0} (hw : Ht a0 Z) : (Cond.fieldLink "com/example/tipple/tipple/Lot" (16 : Nat) "com/example/tipple/tipple/Lot" "line" "J").before a0 Z = true := ht hw 50 rfl
theorem w51 {Z a0} (hw : Ht a0 Z) : (Cond.laysFinal "com/example/tipple/tipple/Lot" "com/example/tipple/tipple/Lot" "line" "J").before a0 Z = true := ht hw 51 rfl
theorem dp8_1_19 : decode kp8_1 19 = .ok (.aload_n 0, 1) := by decide +kernel
theorem dp8_1_20 : decode kp8_1 20 = .ok (.aload 5, 2) := by decide +kernel
theorem dp8_1_22 : decode kp8_1 22 = .ok (.putfield 20, 3) := by decide +kernel
theorem w52 {Z a0} (hw : Ht a0 Z) : (Cond.fieldLink "com/example/tipple/tipple/Lot" (20 : Nat) "com/example/tipple/tipple/Lot" "deliveredOn" "Ljava/time/LocalDate;").before a0 Z = true := ht hw 52 rfl
theorem w53 {Z a0} (hw : Ht a0 Z) : (Cond.laysFinal "com/example/tipple/tipple/Lot" "com/example/tipple/tipple/Lot" "deliveredOn" "Ljava/time/LocalDate;").before a0 Z = true := ht hw 53 rfl
theorem dp8_1_25 : decode kp8_1 25 = .ok (.aload_n 0, 1) := by decide +kernel
theorem dp8_1_26 : decode kp8_1 26 = .ok (.aload 6, 2) := by decide +kernel
theorem dp8_1_28 : decode kp8_1 28 = .ok (.putfield 24, 3) := by decide +kernel
theorem w54 {Z a0} (hw : Ht a0 Z) : (Cond.fieldLink "com/example/tipple/tipple/Lot" (24 : Nat) "com/example/tipple/tipple/Lot" "group" "Ljava/lang/String;").before a0 Z = true := ht hw 54 rfl
theorem w55 {Z a0} (hw : Ht a0 Z) : (Cond.laysFinal "com/example/tipple/tipple/Lot" "com/example/tipple/tipple/Lot" "group" "Ljava/lang/String;").before a0 Z = true := ht hw 55 rfl
theorem dp8_1_31 : decode kp8_1 31 = .ok (.aload_n 0, 1) := by decide +kernel
theorem dp8_1_32 : decode kp8_1 32 = .ok (.aload 7, 2) := by decide +kernel
theorem dp8_1_34 : decode kp8_1 34 = .ok (.putfield 27, 3) := by decide +kernel
theorem w56 {Z a0} (hw : Ht a0 Z) : (Cond.fieldLink "com/example/tipple/tipple/Lot" (27 : Nat) "com/example/tipple/tipple/Lot" "tons" "Ljava/math/BigDecimal;").before a0 Z = true := ht hw 56 rfl
theorem w57 {Z a0} (hw : Ht a0 Z) : (Cond.laysFinal "com/example/tipple/tipple/Lot" "com/example/tipple/tipple/Lot" "tons" "Ljava/math/BigDecimal;").before a0 Z = true := ht hw 57 rfl
theorem dp8_1_37 : decode kp8_1 37 = .ok (.aload_n 0, 1) := by decide +kernel
theorem dp8_1_38 : decode kp8_1 38 = .ok (.aload 8, 2) := by decide +kernel
theorem dp8_1_40 : decode kp8_1 40 = .ok (.putfield 31, 3) := by decide +kernel
theorem w58 {Z a0} (hw : Ht a0 Z) : (Cond.fieldLink "com/example/tipple/tipple/Lot" (31 : Nat) "com/example/tipple/tipple/Lot" "btuPerLb" "Ljava/math/BigDecimal;").before a0 Z = true := ht hw 58 rfl
theorem w59 {Z a0} (hw : Ht a0 Z) : (Cond.laysFinal "com/example/tipple/tipple/Lot" "com/example/tipple/tipple/Lot" "btuPerLb" "Ljava/math/BigDecimal;").before a0 Z = true := ht hw 59 rfl
theorem dp8_1_43 : decode kp8_1 43 = .ok (.aload_n 0, 1) := by decide +kernel
theorem dp8_1_44 : decode kp8_1 44 = .ok (.aload 9, 2) := by decide +kernel
theorem dp8_1_46 : decode kp8_1 46 = .ok (.putfield 34, 3) := by decide +kernel
theorem w60 {Z a0} (hw : Ht a0 Z) : (Cond.fieldLink "com/example/tipple/tipple/Lot" (34 : Nat) "com/example/tipple/tipple/Lot" "moisturePct" "Ljava/math/BigDecimal;").before a0 Z = true := ht hw 60 rfl
theorem w61 {Z a0} (hw : Ht a0 Z) : (Cond.laysFinal "com/example/tipple/tipple/Lot" "com/example/tipple/tipple/Lot" "moisturePct" "Ljava/math/BigDecimal;").before a0 Z = true := ht hw 61 rfl
theorem dp8_1_49 : decode kp8_1 49 = .ok (.aload_n 0, 1) := by decide +kernel
theorem dp8_1_50 : decode kp8_1 50 = .ok (.aload 10, 2) := by decide +kernel
theorem dp8_1_52 : decode kp8_1 52 = .ok (.putfield 37, 3) := by decide +kernel
theorem w62 {Z a0} (hw : Ht a0 Z) : (Cond.fieldLink "com/example/tipple/tipple/Lot" (37 : Nat) "com/example/tipple/tipple/Lot" "ashPct" "Ljava/math/BigDecimal;").before a0 Z = true := ht hw 62 rfl
theorem w63 {Z a0} (hw : Ht a0 Z) : (Cond.laysFinal "com/example/tipple/tipple/Lot" "com/example/tipple/tipple/Lot" "ashPct" "Ljava/math/BigDecimal;").before a0 Z = true := ht hw 63 rfl
theorem dp8_1_55 : decode kp8_1 55 = .ok (.aload_n 0, 1) := by decide +kernel
theorem dp8_1_56 : decode kp8_1 56 = .ok (.aload 11, 2) := by decide +kernel
theorem dp8_1_58 : decode kp8_1 58 = .ok (.putfield 40, 3) := by decide +kernel
theorem w64 {Z a0} (hw : Ht a0 Z) : (Cond.fieldLink "com/example/tipple/tipple/Lot" (40 : Nat) "com/example/tipple/tipple/Lot" "sulfurPct" "Ljava/math/BigDecimal;").before a0 Z = true := ht hw 64 rfl
theorem w65 {Z a0} (hw : Ht a0 Z) : (Cond.laysFinal "com/example/tipple/tipple/Lot" "com/example/tipple/tipple/Lot" "sulfurPct" "Ljava/math/BigDecimal;").before a0 Z = true := ht hw 65 rfl
theorem dp8_1_61 : decode kp8_1 61 = .ok (.aload_n 0, 1) := by decide +kernel
theorem dp8_1_62 : decode kp8_1 62 = .ok (.aload 12, 2) := by decide +kernel
theorem dp8_1_64 : decode kp8_1 64 = .ok (.putfield 43, 3) := by decide +kernel
theorem w66 {Z a0} (hw : Ht a0 Z) : (Cond.fieldLink "com/example/tipple/tipple/Lot" (43 : Nat) "com/example/tipple/tipple/Lot" "chlorinePpm" "Ljava/util/Optional;").before a0 Z = true := ht hw 66 rfl
theorem w67 {Z a0} (hw : Ht a0 Z) : (Cond.laysFinal "com/example/tipple/tipple/Lot" "com/example/tipple/tipple/Lot" "chlorinePpm" "Ljava/util/Optional;").before a0 Z = true := ht hw 67 rfl
theorem dp8_1_67 : decode kp8_1 67 = .ok (.aload_n 0, 1) := by decide +kernel
theorem dp8_1_68 : decode kp8_1 68 = .ok (.iload 13, 2) := by decide +kernel
theorem dp8_1_70 : decode kp8_1 70 = .ok (.putfield 47, 3) := by decide +kernel
theorem w68 {Z a0} (hw : Ht a0 Z) : (Cond.fieldLink "com/example/tipple/tipple/Lot" (47 : Nat) "com/example/tipple/tipple/Lot" "rejected" "Z").before a0 Z = true := ht hw 68 rfl
theorem w69 {Z a0} (hw : Ht a0 Z) : (Cond.laysFinal "com/example/tipple/tipple/Lot" "com/example/tipple/tipple/Lot" "rejected" "Z").before a0 Z = true := ht hw 69 rfl
theorem dp8_1_73 : decode kp8_1 73 = .ok (.return_, 1) := by decide +kernel
theorem pn_6 : plainName "com/example/tipple/tipple/Lot" = true := by first | (simp [plainName, overriddenIn]; done) | decide +kernel
def Q_lotInit (Z : State) (a : Addr) (tn : Addr) (zz : Addr) (rj : Int32) (h0 : Heap) (n0 : Nat) (v : Option Value) (h : Heap) (L : List Loc) : Prop := v = none ∧ Fr n0 L ∧ Keep h0 h [a] ∧ Fld Z h a "com/example/tipple/tipple/Lot" "tons" "Ljava/math/BigDecimal;" (.ref tn)
set_option maxRecDepth 65536 in
set_option maxHeartbeats 40000000 in
theorem lotInit (l : Launch) (Z : State) (a0 : Array Value) (hw : Ht a0 Z) (a : Addr) (tn : Addr) (zz : Addr) (rj : Int32) (h0 : Heap) (n0 : Nat) (Z0 : n0 ≤ h0.size) (P0 : Exa Z h0 a "com/example/tipple/tipple/Lot") (P1 : n0 ≤ a) (P2 : Fld Z h0 a "com/example/tipple/tipple/Lot" "id" "Ljava/lang/String;" .null) (P3 : Fld Z h0 a "com/example/tipple/tipple/Lot" "file" "Ljava/lang/String;" .null) (P4 : Fld Z h0 a "com/example/tipple/tipple/Lot" "line" "J" (.long (0 : Int64))) (P5 : Fld Z h0 a "com/example/tipple/tipple/Lot" "deliveredOn" "Ljava/time/LocalDate;" .null) (P6 : Fld Z h0 a "com/example/tipple/tipple/Lot" "group" "Ljava/lang/String;" .null) (P7 : Fld Z h0 a "com/example/tipple/tipple/Lot" "tons" "Ljava/math/BigDecimal;" .null) (P8 : Fld Z h0 a "com/example/tipple/tipple/Lot" "btuPerLb" "Ljava/math/BigDecimal;" .null) (P9 : Fld Z h0 a "com/example/tipple/tipple/Lot" "moisturePct" "Ljava/math/BigDecimal;" .null) (P10 : Fld Z h0 a "com/example/tipple/tipple/Lot" "ashPct" "Ljava/math/BigDecimal;" .null) (P11 : Fld Z h0 a "com/example/tipple/tipple/Lot" "sulfurPct" "Ljava/math/BigDecimal;" .null) (P12 : Fld Z h0 a "com/example/tipple/tipple/Lot" "chlorinePpm" "Ljava/util/Optional;" .null) (P13 : Fld Z h0 a "com/example/tipple/tipple/Lot" "rejected" "Z" (.int (0 : Int32))) :
    Con l Z (⟨"com/example/tipple/tipple/Lot", "<init>", "(Ljava/lang/String;Ljava/lang/String;JLjava/time/LocalDate;Ljava/lang/String;Ljava/math/BigDecimal;Ljava/math/BigDecimal;Ljava/math/BigDecimal;Ljava/math/BigDecimal;Ljava/math/BigDecimal;Ljava/util/Optional;Z)V"⟩ : MethodName) prog_8_method_1_code 14 none ({ frames := 1, cells := 0, slots := 0, locals := 12 } : Room) #[(.ref a), .null, .null, (.long (0 : Int64)), .null, .null, (.ref tn), (.ref zz), (.ref zz), (.ref zz), (.ref zz), .null, (.int rj)] h0 (Q_lotInit Z a tn zz rj h0 n0) := by
  refine OwnW.body (Ls := #[rS a, .val .null, .val .null, jS 0, dS, .val .null, .val .null, rS tn, rS zz, rS zz, rS zz, rS zz, .val .null, iS rj]) (plainFor_of_name pn_6) (fun m => by first | (simp [entryFrame, mkF, argsToLocals, Value.category]; done) | rfl) ?_
  intro p e s m below meth c s₁ hx hy hml hown hnm hret hlk hZ X0 e0
  let QQ := Q_lotInit Z a tn zz rj h0 n0
  have N0 := Fr.nil n0
  show Go p e below (s₁.setTop (mkF m 0 #[rS a, .val .null, .val .null, jS 0, dS, .val .null, .val .null, rS tn, rS zz, rS zz, rS zz, rS zz, .val .null, iS rj] [])) (EndQ s below ({ frames := 1, cells := 0, slots := 0, locals := 12 } : Room).cells ({ frames := 1, cells := 0, slots := 0, locals := 12 } : Room).slots QQ)
  refine gon s₁ (mkF m 1 #[rS a,.val .null,.val .null,jS 0,dS,.val .null,.val .null,rS tn,rS zz,rS zz,rS zz,rS zz,.val .null,iS rj] [(.ref a)]) (fun _ k => XS.aloadN X0.here hx rfl (hb hy dp8_1_0) rfl rfl k) ?_
  obtain ⟨T1, X1, e1, st1⟩ := initO X0 hx hZ hown (w45 hw) (w19 hw) (w20 hw) e0 (g := (mkF m 1 #[rS a,.val .null,.val .null,jS 0,dS,.val .null,.val .null,rS tn,rS zz,rS zz,rS zz,rS zz,.val .null,iS rj] [(.ref a)])) rfl (by rw [hml]; rfl) rfl (hb hy dp8_1_1) (by decide) (W := 0) (by show 2 * 0 + _ ≤ _; exact Nat.le_of_eq rfl) (by decide)
  refine gon T1 (mkF m 4 #[rS a,.val .null,.val .null,jS 0,dS,.val .null,.val .null,rS tn,rS zz,rS zz,rS zz,rS zz,.val .null,iS rj] []) (st1) ?_
  refine gon T1 (mkF m 6 #[rS a,.val .null,.val .null,jS 0,dS,.val .null,.val .null,rS tn,rS zz,rS zz,rS zz,rS zz,.val .null,iS rj] [.null, (.ref a)]) (fun _ k => XS.aloadN X1.here hx rfl (hb hy dp8_1_4) rfl rfl (XS.aloadN X1.here hx rfl (hb hy dp8_1_5) rfl rfl k)) ?_
  obtain ⟨T2, h2, X2, e2, W2, st2⟩ := putF X1 hx hZ hown (host := "") (Or.inl (w46 hw)) Via.refl e1 P2 P0 (Or.inr ⟨(w47 hw), rfl, hnm⟩) (w31 hw) (ty := (.object "java/lang/String")) (by decide) rfl rfl (g := (mkF m 6 #[rS a,.val .null,.val .null,jS 0,dS,.val .null,.val .null,rS tn,rS zz,rS zz,rS zz,rS zz,.val .null,iS rj] [.null, (.ref a)])) rfl rfl (hb hy dp8_1_6)
  have Fw2 : Fld Z h2 a "com/example/tipple/tipple/Lot" "id" "Ljava/lang/String;" .null := Fld.same W2 P2
  have N2 := Fr.snoc X2 N0 P1
  refine gon T2 (mkF m 9 #[rS a,.val .null,.val .null,jS 0,dS,.val .null,.val .null,rS tn,rS zz,rS zz,rS zz,rS zz,.val .null,iS rj] []) (st2) ?_
  refine gon T2 (mkF m 11 #[rS a,.val .null,.val .null,jS 0,dS,.val .null,.val .null,rS tn,rS zz,rS zz,rS zz,rS zz,.val .null,iS rj] [.null, (.ref a)]) (fun _ k => XS.aloadN X2.here hx rfl (hb hy dp8_1_9) rfl rfl (XS.aloadN X2.here hx rfl (hb hy dp8_1_10) rfl rfl k)) ?_
  have c_4 := Exa.wr W2 P0
  have c_5 := Fld.other W2 P3 (Or.inr (slot_ne (C := "com/example/tipple/tipple/Lot") (Or.inr (w49 hw)) (Or.inr (w47 hw)) (by decide) (t := (.object "java/lang/String")) (t' := (.object "java/lang/String")) (by decide) (by decide)))
  obtain ⟨T3, h3, X3, e3, W3, st3⟩ := putF X2 hx hZ hown (host := "") (Or.inl (w48 hw)) Via.refl e2 c_5 c_4 (Or.inr ⟨(w49 hw), rfl, hnm⟩) (w31 hw) (ty := (.object "java/lang/String")) (by decide) rfl rfl (g := (mkF m 11 #[rS a,.val .null,.val .null,jS 0,dS,.val .null,.val .null,rS tn,rS zz,rS zz,rS zz,rS zz,.val .null,iS rj] [.null, (.ref a)])) rfl rfl (hb hy dp8_1_11)
  have Fw3 : Fld Z h3 a "com/example/tipple/tipple/Lot" "file" "Ljava/lang/String;" .null := Fld.same W3 c_5
  have N3 := Fr.snoc X3 N2 P1
  refine gon T3 (mkF m 14 #[rS a,.val .null,.val .null,jS 0,dS,.val .null,.val .null,rS tn,rS zz,rS zz,rS zz,rS zz,.val .null,iS rj] []) (st3) ?_
  refine gon T3 (mkF m 16 #[rS a,.val .null,.val .null,jS 0,dS,.val .null,.val .null,rS tn,rS zz,rS zz,rS zz,rS zz,.val .null,iS rj] [(.long 0), (.ref a)]) (fun _ k => XS.aloadN X3.here hx rfl (hb hy dp8_1_14) rfl rfl (XS.lloadN X3.here hx rfl (hb hy dp8_1_15) rfl k)) ?_
  have c_7 := Exa.wr W3 c_4
  have c_8 := Fld.other W3 (Fld.other W2 P4 (Or.inr (slot_ne (C := "com/example/tipple/tipple/Lot") (Or.inr (w51 hw)) (Or.inr (w47 hw)) (by decide) (t := .long) (t' := (.object "java/lang/String")) (by decide) (by decide)))) (Or.inr (slot_ne (C := "com/example/tipple/tipple/Lot") (Or.inr (w51 hw)) (Or.inr (w49 hw)) (by decide) (t := .long) (t' := (.object "java/lang/String")) (by decide) (by decide)))
  obtain ⟨T6, h6, X6, e6, W6, st6⟩ := putF X3 hx hZ hown (host := "") (Or.inl (w50 hw)) Via.refl e3 c_8 c_7 (Or.inr ⟨(w51 hw), rfl, hnm⟩) (w31 hw) (ty := .long) (by decide) rfl rfl (g := (mkF m 16 #[rS a,.val .null,.val .null,jS 0,dS,.val .null,.val .null,rS tn,rS zz,rS zz,rS zz,rS zz,.val .null,iS rj] [(.long 0), (.ref a)])) rfl rfl (hb hy dp8_1_16)
  have Fw6 : Fld Z h6 a "com/example/tipple/tipple/Lot" "line" "J" (.long (0 : Int64)) := Fld.same W6 c_8
  have N6 := Fr.snoc X6 N3 P1
  refine gon T6 (mkF m 19 #[rS a,.val .null,.val .null,jS 0,dS,.val .null,.val .null,rS tn,rS zz,rS zz,rS zz,rS zz,.val .null,iS rj] []) (st6) ?_
  refine gon T6 (mkF m 22 #[rS a,.val .null,.val .null,jS 0,dS,.val .null,.val .null,rS tn,rS zz,rS zz,rS zz,rS zz,.val .null,iS rj] [.null, (.ref a)]) (fun _ k => XS.aloadN X6.here hx rfl (hb hy dp8_1_19) rfl rfl (XS.aload X6.here hx rfl (hb hy dp8_1_20) rfl rfl k)) ?_
  have c_10 := Exa.wr W6 c_7
  have c_11 := Fld.other W6 (Fld.other W3 (Fld.other W2 P5 (Or.inr (slot_ne (C := "com/example/tipple/tipple/Lot") (Or.inr (w53 hw)) (Or.inr (w47 hw)) (by decide) (t := (.object "java/time/LocalDate")) (t' := (.object "java/lang/String")) (by decide) (by decide)))) (Or.inr (slot_ne (C := "com/example/tipple/tipple/Lot") (Or.inr (w53 hw)) (Or.inr (w49 hw)) (by decide) (t := (.object "java/time/LocalDate")) (t' := (.object "java/lang/String")) (by decide) (by decide)))) (Or.inr (slot_ne (C := "com/example/tipple/tipple/Lot") (Or.inr (w53 hw)) (Or.inr (w51 hw)) (by decide) (t := (.object "java/time/LocalDate")) (t' := .long) (by decide) (by decide)))
  obtain ⟨T9, h9, X9, e9, W9, st9⟩ := putF X6 hx hZ hown (host := "") (Or.inl (w52 hw)) Via.refl e6 c_11 c_10 (Or.inr ⟨(w53 hw), rfl, hnm⟩) (w31 hw) (ty := (.object "java/time/LocalDate")) (by decide) rfl rfl (g := (mkF m 22 #[rS a,.val .null,.val .null,jS 0,dS,.val .null,.val .null,rS tn,rS zz,rS zz,rS zz,rS zz,.val .null,iS rj] [.null, (.ref a)])) rfl rfl (hb hy dp8_1_22)
  have Fw9 : Fld Z h9 a "com/example/tipple/tipple/Lot" "deliveredOn" "Ljava/time/LocalDate;" .null := Fld.same W9 c_11
  have N9 := Fr.snoc X9 N6 P1
  refine gon T9 (mkF m 25 #[rS a,.val .null,.val .null,jS 0,dS,.val .null,.val .null,rS tn,rS zz,rS zz,rS zz,rS zz,.val .null,iS rj] []) (st9) ?_
  refine gon T9 (mkF m 28 #[rS a,.val .null,.val .null,jS 0,dS,.val .null,.val .null,rS tn,rS zz,rS zz,rS zz,rS zz,.val .null,iS rj] [.null, (.ref a)]) (fun _ k => XS.aloadN X9.here hx rfl (hb hy dp8_1_25) rfl rfl (XS.aload X9.here hx rfl (hb hy dp8_1_26) rfl rfl k)) ?_
  have c_13 := Exa.wr W9 c_10
  have c_14 := Fld.other W9 (Fld.other W6 (Fld.other W3 (Fld.other W2 P6 (Or.inr (slot_ne (C := "com/example/tipple/tipple/Lot") (Or.inr (w55 hw)) (Or.inr (w47 hw)) (by decide) (t := (.object "java/lang/String")) (t' := (.object "java/lang/String")) (by decide) (by decide)))) (Or.inr (slot_ne (C := "com/example/tipple/tipple/Lot") (Or.inr (w55 hw)) (Or.inr (w49 hw)) (by decide) (t := (.object "java/lang/String")) (t' := (.object "java/lang/String")) (by decide) (by decide)))) (Or.inr (slot_ne (C := "com/example/tipple/tipple/Lot") (Or.inr (w55 hw)) (Or.inr (w51 hw)) (by decide) (t := (.object "java/lang/String")) (t' := .long) (by decide) (by decide)))) (Or.inr (slot_ne (C := "com/example/tipple/tipple/Lot") (Or.inr (w55 hw)) (Or.inr (w53 hw)) (by decide) (t := (.object "java/lang/String")) (t' := (.object "java/time/LocalDate")) (by decide) (by decide)))
  obtain ⟨T12, h12, X12, e12, W12, st12⟩ := putF X9 hx hZ hown (host := "") (Or.inl (w54 hw)) Via.refl e9 c_14 c_13 (Or.inr ⟨(w55 hw), rfl, hnm⟩) (w31 hw) (ty := (.object "java/lang/String")) (by decide) rfl rfl (g := (mkF m 28 #[rS a,.val .null,.val .null,jS 0,dS,.val .null,.val .null,rS tn,rS zz,rS zz,rS zz,rS zz,.val .null,iS rj] [.null, (.ref a)])) rfl rfl (hb hy dp8_1_28)
  have Fw12 : Fld Z h12 a "com/example/tipple/tipple/Lot" "group" "Ljava/lang/String;" .null := Fld.same W12 c_14
  have N12 := Fr.snoc X12 N9 P1
  refine gon T12 (mkF m 31 #[rS a,.val .null,.val .null,jS 0,dS,.val .null,.val .null,rS tn,rS zz,rS zz,rS zz,rS zz,.val .null,iS rj] []) (st12) ?_
  refine gon T12 (mkF m 34 #[rS a,.val .null,.val .null,jS 0,dS,.val .null,.val .null,rS tn,rS zz,rS zz,rS zz,rS zz,.val .null,iS rj] [(.ref tn), (.ref a)]) (fun _ k => XS.aloadN X12.here hx rfl (hb hy dp8_1_31) rfl rfl (XS.aload X12.here hx rfl (hb hy dp8_1_32) rfl rfl k)) ?_
  have c_16 := Exa.wr W12 c_13
  have c_17 := Fld.other W12 (Fld.other W9 (Fld.other W6 (Fld.other W3 (Fld.other W2 P7 (Or.inr (slot_ne (C := "com/example/tipple/tipple/Lot") (Or.inr (w57 hw)) (Or.inr (w47 hw)) (by decide) (t := (.object "java/math/BigDecimal")) (t' := (.object "java/lang/String")) (by decide) (by decide)))) (Or.inr (slot_ne (C := "com/example/tipple/tipple/Lot") (Or.inr (w57 hw)) (Or.inr (w49 hw)) (by decide) (t := (.object "java/math/BigDecimal")) (t' := (.object "java/lang/String")) (by decide) (by decide)))) (Or.inr (slot_ne (C := "com/example/tipple/tipple/Lot") (Or.inr (w57 hw)) (Or.inr (w51 hw)) (by decide) (t := (.object "java/math/BigDecimal")) (t' := .long) (by decide) (by decide)))) (Or.inr (slot_ne (C := "com/example/tipple/tipple/Lot") (Or.inr (w57 hw)) (Or.inr (w53 hw)) (by decide) (t := (.object "java/math/BigDecimal")) (t' := (.object "java/time/LocalDate")) (by decide) (by decide)))) (Or.inr (slot_ne (C := "com/example/tipple/tipple/Lot") (Or.inr (w57 hw)) (Or.inr (w55 hw)) (by decide) (t := (.object "java/math/BigDecimal")) (t' := (.object "java/lang/String")) (by decide) (by decide)))
  obtain ⟨T15, h15, X15, e15, W15, st15⟩ := putF X12 hx hZ hown (host := "") (Or.inl (w56 hw)) Via.refl e12 c_17 c_16 (Or.inr ⟨(w57 hw), rfl, hnm⟩) (w31 hw) (ty := (.object "java/math/BigDecimal")) (by decide) rfl rfl (g := (mkF m 34 #[rS a,.val .null,.val .null,jS 0,dS,.val .null,.val .null,rS tn,rS zz,rS zz,rS zz,rS zz,.val .null,iS rj] [(.ref tn), (.ref a)])) rfl rfl (hb hy dp8_1_34)
  have Fw15 : Fld Z h15 a "com/example/tipple/tipple/Lot" "tons" "Ljava/math/BigDecimal;" (.ref tn) := Fld.same W15 c_17
  have N15 := Fr.snoc X15 N12 P1
  refine gon T15 (mkF m 37 #[rS a,.val .null,.val .null,jS 0,dS,.val .null,.val .null,rS tn,rS zz,rS zz,rS zz,rS zz,.val .null,iS rj] []) (st15) ?_
  refine gon T15 (mkF m 40 #[rS a,.val .null,.val .null,jS 0,dS,.val .null,.val .null,rS tn,rS zz,rS zz,rS zz,rS zz,.val .null,iS rj] [(.ref zz), (.ref a)]) (fun _ k => XS.aloadN X15.here hx rfl (hb hy dp8_1_37) rfl rfl (XS.aload X15.here hx rfl (hb hy dp8_1_38) rfl rfl k)) ?_
  have c_19 := Exa.wr W15 c_16
  have c_20 := Fld.other W15 (Fld.other W12 (Fld.other W9 (Fld.other W6 (Fld.other W3 (Fld.other W2 P8 (Or.inr (slot_ne (C := "com/example/tipple/tipple/Lot") (Or.inr (w59 hw)) (Or.inr (w47 hw)) (by decide) (t := (.object "java/math/BigDecimal")) (t' := (.object "java/lang/String")) (by decide) (by decide)))) (Or.inr (slot_ne (C := "com/example/tipple/tipple/Lot") (Or.inr (w59 hw)) (Or.inr (w49 hw)) (by decide) (t := (.object "java/math/BigDecimal")) (t' := (.object "java/lang/String")) (by decide) (by decide)))) (Or.inr (slot_ne (C := "com/example/tipple/tipple/Lot") (Or.inr (w59 hw)) (Or.inr (w51 hw)) (by decide) (t := (.object "java/math/BigDecimal")) (t' := .long) (by decide) (by decide)))) (Or.inr (slot_ne (C := "com/example/tipple/tipple/Lot") (Or.inr (w59 hw)) (Or.inr (w53 hw)) (by decide) (t := (.object "java/math/BigDecimal")) (t' := (.object "java/time/LocalDate")) (by decide) (by decide)))) (Or.inr (slot_ne (C := "com/example/tipple/tipple/Lot") (Or.inr (w59 hw)) (Or.inr (w55 hw)) (by decide) (t := (.object "java/math/BigDecimal")) (t' := (.object "java/lang/String")) (by decide) (by decide)))) (Or.inr (slot_ne (C := "com/example/tipple/tipple/Lot") (Or.inr (w59 hw)) (Or.inr (w57 hw)) (by decide) (t := (.object "java/math/BigDecimal")) (t' := (.object "java/math/BigDecimal")) (by decide) (by decide)))
  obtain ⟨T18, h18, X18, e18, W18, st18⟩ := putF X15 hx hZ hown (host := "") (Or.inl (w58 hw)) Via.refl e15 c_20 c_19 (Or.inr ⟨(w59 hw), rfl, hnm⟩) (w31 hw) (ty := (.object "java/math/BigDecimal")) (by decide) rfl rfl (g := (mkF m 40 #[rS a,.val .null,.val .null,jS 0,dS,.val .null,.val .null,rS tn,rS zz,rS zz,rS zz,rS zz,.val .null,iS rj] [(.ref zz), (.ref a)])) rfl rfl (hb hy dp8_1_40)
  have Fw18 : Fld Z h18 a "com/example/tipple/tipple/Lot" "btuPerLb" "Ljava/math/BigDecimal;" (.ref zz) := Fld.same W18 c_20
  have N18 := Fr.snoc X18 N15 P1
  refine gon T18 (mkF m 43 #[rS a,.val .null,.val .null,jS 0,dS,.val .null,.val .null,rS tn,rS zz,rS zz,rS zz,rS zz,.val .null,iS rj] []) (st18) ?_
  refine gon T18 (mkF m 46 #[rS a,.val .null,.val .null,jS 0,dS,.val .null,.val .null,rS tn,rS zz,rS zz,rS zz,rS zz,.val .null,iS rj] [(.ref zz), (.ref a)]) (fun _ k => XS.aloadN X18.here hx rfl (hb hy dp8_1_43) rfl rfl (XS.aload X18.here hx rfl (hb hy dp8_1_44) rfl rfl k)) ?_
  have c_22 := Exa.wr W18 c_19
  have c_23 := Fld.other W18 (Fld.other W15 (Fld.other W12 (Fld.other W9 (Fld.other W6 (Fld.other W3 (Fld.other W2 P9 (Or.inr (slot_ne (C := "com/example/tipple/tipple/Lot") (Or.inr (w61 hw)) (Or.inr (w47 hw)) (by decide) (t := (.object "java/math/BigDecimal")) (t' := (.object "java/lang/String")) (by decide) (by decide)))) (Or.inr (slot_ne (C := "com/example/tipple/tipple/Lot") (Or.inr (w61 hw)) (Or.inr (w49 hw)) (by decide) (t := (.object "java/math/BigDecimal")) (t' := (.object "java/lang/String")) (by decide) (by decide)))) (Or.inr (slot_ne (C := "com/example/tipple/tipple/Lot") (Or.inr (w61 hw)) (Or.inr (w51 hw)) (by decide) (t := (.object "java/math/BigDecimal")) (t' := .long) (by decide) (by decide)))) (Or.inr (slot_ne (C := "com/example/tipple/tipple/Lot") (Or.inr (w61 hw)) (Or.inr (w53 hw)) (by decide) (t := (.object "java/math/BigDecimal")) (t' := (.object "java/time/LocalDate")) (by decide) (by decide)))) (Or.inr (slot_ne (C := "com/example/tipple/tipple/Lot") (Or.inr (w61 hw)) (Or.inr (w55 hw)) (by decide) (t := (.object "java/math/BigDecimal")) (t' := (.object "java/lang/String")) (by decide) (by decide)))) (Or.inr (slot_ne (C := "com/example/tipple/tipple/Lot") (Or.inr (w61 hw)) (Or.inr (w57 hw)) (by decide) (t := (.object "java/math/BigDecimal")) (t' := (.object "java/math/BigDecimal")) (by decide) (by decide)))) (Or.inr (slot_ne (C := "com/example/tipple/tipple/Lot") (Or.inr (w61 hw)) (Or.inr (w59 hw)) (by decide) (t := (.object "java/math/BigDecimal")) (t' := (.object "java/math/BigDecimal")) (by decide) (by decide)))
  obtain ⟨T21, h21, X21, e21, W21, st21⟩ := putF X18 hx hZ hown (host := "") (Or.inl (w60 hw)) Via.refl e18 c_23 c_22 (Or.inr ⟨(w61 hw), rfl, hnm⟩) (w31 hw) (ty := (.object "java/math/BigDecimal")) (by decide) rfl rfl (g := (mkF m 46 #[rS a,.val .null,.val .null,jS 0,dS,.val .null,.val .null,rS tn,rS zz,rS zz,rS zz,rS zz,.val .null,iS rj] [(.ref zz), (.ref a)])) rfl rfl (hb hy dp8_1_46)
  have Fw21 : Fld Z h21 a "com/example/tipple/tipple/Lot" "moisturePct" "Ljava/math/BigDecimal;" (.ref zz) := Fld.same W21 c_23
  have N21 := Fr.snoc X21 N18 P1
  refine gon T21 (mkF m 49 #[rS a,.val .null,.val .null,jS 0,dS,.val .null,.val .null,rS tn,rS zz,rS zz,rS zz,rS zz,.val .null,iS rj] []) (st21) ?_
  refine gon T21 (mkF m 52 #[rS a,.val .null,.val .null,jS 0,dS,.val .null,.val .null,rS tn,rS zz,rS zz,rS zz,rS zz,.val .null,iS rj] [(.ref zz), (.ref a)]) (fun _ k => XS.aloadN X21.here hx rfl (hb hy dp8_1_49) rfl rfl (XS.aload X21.here hx rfl (hb hy dp8_1_50) rfl rfl k)) ?_
  have c_25 := Exa.wr W21 c_22
  have c_26 := Fld.other W21 (Fld.other W18 (Fld.other W15 (Fld.other W12 (Fld.other W9 (Fld.other W6 (Fld.other W3 (Fld.other W2 P10 (Or.inr (slot_ne (C := "com/example/tipple/tipple/Lot") (Or.inr (w63 hw)) (Or.inr (w47 hw)) (by decide) (t := (.object "java/math/BigDecimal")) (t' := (.object "java/lang/String")) (by decide) (by decide)))) (Or.inr (slot_ne (C := "com/example/tipple/tipple/Lot") (Or.inr (w63 hw)) (Or.inr (w49 hw)) (by decide) (t := (.object "java/math/BigDecimal")) (t' := (.object "java/lang/String")) (by decide) (by decide)))) (Or.inr (slot_ne (C := "com/example/tipple/tipple/Lot") (Or.inr (w63 hw)) (Or.inr (w51 hw)) (by decide) (t := (.object "java/math/BigDecimal")) (t' := .long) (by decide) (by decide)))) (Or.inr (slot_ne (C := "com/example/tipple/tipple/Lot") (Or.inr (w63 hw)) (Or.inr (w53 hw)) (by decide) (t := (.object "java/math/BigDecimal")) (t' := (.object "java/time/LocalDate")) (by decide) (by decide)))) (Or.inr (slot_ne (C := "com/example/tipple/tipple/Lot") (Or.inr (w63 hw)) (Or.inr (w55 hw)) (by decide) (t := (.object "java/math/BigDecimal")) (t' := (.object "java/lang/String")) (by decide) (by decide)))) (Or.inr (slot_ne (C := "com/example/tipple/tipple/Lot") (Or.inr (w63 hw)) (Or.inr (w57 hw)) (by decide) (t := (.object "java/math/BigDecimal")) (t' := (.object "java/math/BigDecimal")) (by decide) (by decide)))) (Or.inr (slot_ne (C := "com/example/tipple/tipple/Lot") (Or.inr (w63 hw)) (Or.inr (w59 hw)) (by decide) (t := (.object "java/math/BigDecimal")) (t' := (.object "java/math/BigDecimal")) (by decide) (by decide)))) (Or.inr (slot_ne (C := "com/example/tipple/tipple/Lot") (Or.inr (w63 hw)) (Or.inr (w61 hw)) (by decide) (t := (.object "java/math/BigDecimal")) (t' := (.object "java/math/BigDecimal")) (by decide) (by decide)))
  obtain ⟨T24, h24, X24, e24, W24, st24⟩ := putF X21 hx hZ hown (host := "") (Or.inl (w62 hw)) Via.refl e21 c_26 c_25 (Or.inr ⟨(w63 hw), rfl, hnm⟩) (w31 hw) (ty := (.object "java/math/BigDecimal")) (by decide) rfl rfl (g := (mkF m 52 #[rS a,.val .null,.val .null,jS 0,dS,.val .null,.val .null,rS tn,rS zz,rS zz,rS zz,rS zz,.val .null,iS rj] [(.ref zz), (.ref a)])) rfl rfl (hb hy dp8_1_52)
  have Fw24 : Fld Z h24 a "com/example/tipple/tipple/Lot" "ashPct" "Ljava/math/BigDecimal;" (.ref zz) := Fld.same W24 c_26
  have N24 := Fr.snoc X24 N21 P1
  refine gon T24 (mkF m 55 #[rS a,.val .null,.val .null,jS 0,dS,.val .null,.val .null,rS tn,rS zz,rS zz,rS zz,rS zz,.val .null,iS rj] []) (st24) ?_
  refine gon T24 (mkF m 58 #[rS a,.val .null,.val .null,jS 0,dS,.val .null,.val .null,rS tn,rS zz,rS zz,rS zz,rS zz,.val .null,iS rj] [(.ref zz), (.ref a)]) (fun _ k => XS.aloadN X24.here hx rfl (hb hy dp8_1_55) rfl rfl (XS.aload X24.here hx rfl (hb hy dp8_1_56) rfl rfl k)) ?_
  have c_28 := Exa.wr W24 c_25
  have c_29 := Fld.other W24 (Fld.other W21 (Fld.other W18 (Fld.other W15 (Fld.other W12 (Fld.other W9 (Fld.other W6 (Fld.other W3 (Fld.other W2 P11 (Or.inr (slot_ne (C := "com/example/tipple/tipple/Lot") (Or.inr (w65 hw)) (Or.inr (w47 hw)) (by decide) (t := (.object "java/math/BigDecimal")) (t' := (.object "java/lang/String")) (by decide) (by decide)))) (Or.inr (slot_ne (C := "com/example/tipple/tipple/Lot") (Or.inr (w65 hw)) (Or.inr (w49 hw)) (by decide) (t := (.object "java/math/BigDecimal")) (t' := (.object "java/lang/String")) (by decide) (by decide)))) (Or.inr (slot_ne (C := "com/example/tipple/tipple/Lot") (Or.inr (w65 hw)) (Or.inr (w51 hw)) (by decide) (t := (.object "java/math/BigDecimal")) (t' := .long) (by decide) (by decide)))) (Or.inr (slot_ne (C := "com/example/tipple/tipple/Lot") (Or.inr (w65 hw)) (Or.inr (w53 hw)) (by decide) (t := (.object "java/math/BigDecimal")) (t' := (.object "java/time/LocalDate")) (by decide) (by decide)))) (Or.inr (slot_ne (C := "com/example/tipple/tipple/Lot") (Or.inr (w65 hw)) (Or.inr (w55 hw)) (by decide) (t := (.object "java/math/BigDecimal")) (t' := (.object "java/lang/String")) (by decide) (by decide)))) (Or.inr (slot_ne (C := "com/example/tipple/tipple/Lot") (Or.inr (w65 hw)) (Or.inr (w57 hw)) (by decide) (t := (.object "java/math/BigDecimal")) (t' := (.object "java/math/BigDecimal")) (by decide) (by decide)))) (Or.inr (slot_ne (C := "com/example/tipple/tipple/Lot") (Or.inr (w65 hw)) (Or.inr (w59 hw)) (by decide) (t := (.object "java/math/BigDecimal")) (t' := (.object "java/math/BigDecimal")) (by decide) (by decide)))) (Or.inr (slot_ne (C := "com/example/tipple/tipple/Lot") (Or.inr (w65 hw)) (Or.inr (w61 hw)) (by decide) (t := (.object "java/math/BigDecimal")) (t' := (.object "java/math/BigDecimal")) (by decide) (by decide)))) (Or.inr (slot_ne (C := "com/example/tipple/tipple/Lot") (Or.inr (w65 hw)) (Or.inr (w63 hw)) (by decide) (t := (.object "java/math/BigDecimal")) (t' := (.object "java/math/BigDecimal")) (by decide) (by decide)))
  obtain ⟨T27, h27, X27, e27, W27, st27⟩ := putF X24 hx hZ hown (host := "") (Or.inl (w64 hw)) Via.refl e24 c_29 c_28 (Or.inr ⟨(w65 hw), rfl, hnm⟩) (w31 hw) (ty := (.object "java/math/BigDecimal")) (by decide) rfl rfl (g := (mkF m 58 #[rS a,.val .null,.val .null,jS 0,dS,.val .null,.val .null,rS tn,rS zz,rS zz,rS zz,rS zz,.val .null,iS rj] [(.ref zz), (.ref a)])) rfl rfl (hb hy dp8_1_58)
  have Fw27 : Fld Z h27 a "com/example/tipple/tipple/Lot" "sulfurPct" "Ljava/math/BigDecimal;" (.ref zz) := Fld.same W27 c_29
  have N27 := Fr.snoc X27 N24 P1
  refine gon T27 (mkF m 61 #[rS a,.val .null,.val .null,jS 0,dS,.val .null,.val .null,rS tn,rS zz,rS zz,rS zz,rS zz,.val .null,iS rj] []) (st27) ?_
  refine gon T27 (mkF m 64 #[rS a,.val .null,.val .null,jS 0,dS,.val .null,.val .null,rS tn,rS zz,rS zz,rS zz,rS zz,.val .null,iS rj] [.null, (.ref a)]) (fun _ k => XS.aloadN X27.here hx rfl (hb hy dp8_1_61) rfl rfl (XS.aload X27.here hx rfl (hb hy dp8_1_62) rfl rfl k)) ?_
  have c_31 := Exa.wr W27 c_28
  have c_32 := Fld.other W27 (Fld.other W24 (Fld.other W21 (Fld.other W18 (Fld.other W15 (Fld.other W12 (Fld.other W9 (Fld.other W6 (Fld.other W3 (Fld.other W2 P12 (Or.inr (slot_ne (C := "com/example/tipple/tipple/Lot") (Or.inr (w67 hw)) (Or.inr (w47 hw)) (by decide) (t := (.object "java/util/Optional")) (t' := (.object "java/lang/String")) (by decide) (by decide)))) (Or.inr (slot_ne (C := "com/example/tipple/tipple/Lot") (Or.inr (w67 hw)) (Or.inr (w49 hw)) (by decide) (t := (.object "java/util/Optional")) (t' := (.object "java/lang/String")) (by decide) (by decide)))) (Or.inr (slot_ne (C := "com/example/tipple/tipple/Lot") (Or.inr (w67 hw)) (Or.inr (w51 hw)) (by decide) (t := (.object "java/util/Optional")) (t' := .long) (by decide) (by decide)))) (Or.inr (slot_ne (C := "com/example/tipple/tipple/Lot") (Or.inr (w67 hw)) (Or.inr (w53 hw)) (by decide) (t := (.object "java/util/Optional")) (t' := (.object "java/time/LocalDate")) (by decide) (by decide)))) (Or.inr (slot_ne (C := "com/example/tipple/tipple/Lot") (Or.inr (w67 hw)) (Or.inr (w55 hw)) (by decide) (t := (.object "java/util/Optional")) (t' := (.object "java/lang/String")) (by decide) (by decide)))) (Or.inr (slot_ne (C := "com/example/tipple/tipple/Lot") (Or.inr (w67 hw)) (Or.inr (w57 hw)) (by decide) (t := (.object "java/util/Optional")) (t' := (.object "java/math/BigDecimal")) (by decide) (by decide)))) (Or.inr (slot_ne (C := "com/example/tipple/tipple/Lot") (Or.inr (w67 hw)) (Or.inr (w59 hw)) (by decide) (t := (.object "java/util/Optional")) (t' := (.object "java/math/BigDecimal")) (by decide) (by decide)))) (Or.inr (slot_ne (C := "com/example/tipple/tipple/Lot") (Or.inr (w67 hw)) (Or.inr (w61 hw)) (by decide) (t := (.object "java/util/Optional")) (t' := (.object "java/math/BigDecimal")) (by decide) (by decide)))) (Or.inr (slot_ne (C := "com/example/tipple/tipple/Lot") (Or.inr (w67 hw)) (Or.inr (w63 hw)) (by decide) (t := (.object "java/util/Optional")) (t' := (.object "java/math/BigDecimal")) (by decide) (by decide)))) (Or.inr (slot_ne (C := "com/example/tipple/tipple/Lot") (Or.inr (w67 hw)) (Or.inr (w65 hw)) (by decide) (t := (.object "java/util/Optional")) (t' := (.object "java/math/BigDecimal")) (by decide) (by decide)))
  obtain ⟨T30, h30, X30, e30, W30, st30⟩ := putF X27 hx hZ hown (host := "") (Or.inl (w66 hw)) Via.refl e27 c_32 c_31 (Or.inr ⟨(w67 hw), rfl, hnm⟩) (w31 hw) (ty := (.object "java/util/Optional")) (by decide) rfl rfl (g := (mkF m 64 #[rS a,.val .null,.val .null,jS 0,dS,.val .null,.val .null,rS tn,rS zz,rS zz,rS zz,rS zz,.val .null,iS rj] [.null, (.ref a)])) rfl rfl (hb hy dp8_1_64)
  have Fw30 : Fld Z h30 a "com/example/tipple/tipple/Lot" "chlorinePpm" "Ljava/util/Optional;" .null := Fld.same W30 c_32
  have N30 := Fr.snoc X30 N27 P1
  refine gon T30 (mkF m 67 #[rS a,.val .null,.val .null,jS 0,dS,.val .null,.val .null,rS tn,rS zz,rS zz,rS zz,rS zz,.val .null,iS rj] []) (st30) ?_
  refine gon T30 (mkF m 70 #[rS a,.val .null,.val .null,jS 0,dS,.val .null,.val .null,rS tn,rS zz,rS zz,rS zz,rS zz,.val .null,iS rj] [(.int rj), (.ref a)]) (fun _ k => XS.aloadN X30.here hx rfl (hb hy dp8_1_67) rfl rfl (XS.iload X30.here hx rfl (hb hy dp8_1_68) rfl k)) ?_
  have c_34 := Exa.wr W30 c_31
  have c_35 := Fld.other W30 (Fld.other W27 (Fld.other W24 (Fld.other W21 (Fld.other W18 (Fld.other W15 (Fld.other W12 (Fld.other W9 (Fld.other W6 (Fld.other W3 (Fld.other W2 P13 (Or.inr (slot_ne (C := "com/example/tipple/tipple/Lot") (Or.inr (w69 hw)) (Or.inr (w47 hw)) (by decide) (t := .boolean) (t' := (.object "java/lang/String")) (by decide) (by decide)))) (Or.inr (slot_ne (C := "com/example/tipple/tipple/Lot") (Or.inr (w69 hw)) (Or.inr (w49 hw)) (by decide) (t := .boolean) (t' := (.object "java/lang/String")) (by decide) (by decide)))) (Or.inr (slot_ne (C := "com/example/tipple/tipple/Lot") (Or.inr (w69 hw)) (Or.inr (w51 hw)) (by decide) (t := .boolean) (t' := .long) (by decide) (by decide)))) (Or.inr (slot_ne (C := "com/example/tipple/tipple/Lot") (Or.inr (w69 hw)) (Or.inr (w53 hw)) (by decide) (t := .boolean) (t' := (.object "java/time/LocalDate")) (by decide) (by decide)))) (Or.inr (slot_ne (C := "com/example/tipple/tipple/Lot") (Or.inr (w69 hw)) (Or.inr (w55 hw)) (by decide) (t := .boolean) (t' := (.object "java/lang/String")) (by decide) (by decide)))) (Or.inr (slot_ne (C := "com/example/tipple/tipple/Lot") (Or.inr (w69 hw)) (Or.inr (w57 hw)) (by decide) (t := .boolean) (t' := (.object "java/math/BigDecimal")) (by decide) (by decide)))) (Or.inr (slot_ne (C := "com/example/tipple/tipple/Lot") (Or.inr (w69 hw)) (Or.inr (w59 hw)) (by decide) (t := .boolean) (t' := (.object "java/math/BigDecimal")) (by decide) (by decide)))) (Or.inr (slot_ne (C := "com/example/tipple/tipple/Lot") (Or.inr (w69 hw)) (Or.inr (w61 hw)) (by decide) (t := .boolean) (t' := (.object "java/math/BigDecimal")) (by decide) (by decide)))) (Or.inr (slot_ne (C := "com/example/tipple/tipple/Lot") (Or.inr (w69 hw)) (Or.inr (w63 hw)) (by decide) (t := .boolean) (t' := (.object "java/math/BigDecimal")) (by decide) (by decide)))) (Or.inr (slot_ne (C := "com/example/tipple/tipple/Lot") (Or.inr (w69 hw)) (Or.inr (w65 hw)) (by decide) (t := .boolean) (t' := (.object "java/math/BigDecimal")) (by decide) (by decide)))) (Or.inr (slot_ne (C := "com/example/tipple/tipple/Lot") (Or.inr (w69 hw)) (Or.inr (w67 hw)) (by decide) (t := .boolean) (t' := (.object "java/util/Optional")) (by decide) (by decide)))
  obtain ⟨T33, h33, X33, e33, W33, st33⟩ := putFN X30 hx hZ hown (w68 hw) Via.refl e30 c_35 c_34 (Or.inr ⟨(w69 hw), rfl, hnm⟩) (w31 hw) (ty := .boolean) (v' := (.int (nar .boolean rj))) (by decide) rfl (fits_nar_bool _) (g := (mkF m 70 #[rS a,.val .null,.val .null,jS 0,dS,.val .null,.val .null,rS tn,rS zz,rS zz,rS zz,rS zz,.val .null,iS rj] [(.int rj), (.ref a)])) rfl rfl (hb hy dp8_1_70)
  have Fw33 : Fld Z h33 a "com/example/tipple/tipple/Lot" "rejected" "Z" (.int (nar .boolean rj)) := Fld.same W33 c_35
  have N33 := Fr.snoc X33 N30 P1
  refine gon T33 (mkF m 73 #[rS a,.val .null,.val .null,jS 0,dS,.val .null,.val .null,rS tn,rS zz,rS zz,rS zz,rS zz,.val .null,iS rj] []) (st33) ?_
  have K_36 : Keep h0 h2 [a] := (Keep.refl h0 [a]).wr W2 (Or.inl (List.mem_of_getElem? (i := 0) rfl))
  have K_37 : Keep h0 h3 [a] := K_36.wr W3 (Or.inl (List.mem_of_getElem? (i := 0) rfl))
  have K_38 : Keep h0 h6 [a] := K_37.wr W6 (Or.inl (List.mem_of_getElem? (i := 0) rfl))
  have K_39 : Keep h0 h9 [a] := K_38.wr W9 (Or.inl (List.mem_of_getElem? (i := 0) rfl))
  have K_40 : Keep h0 h12 [a] := K_39.wr W12 (Or.inl (List.mem_of_getElem? (i := 0) rfl))
  have K_41 : Keep h0 h15 [a] := K_40.wr W15 (Or.inl (List.mem_of_getElem? (i := 0) rfl))
  have K_42 : Keep h0 h18 [a] := K_41.wr W18 (Or.inl (List.mem_of_getElem? (i := 0) rfl))
  have K_43 : Keep h0 h21 [a] := K_42.wr W21 (Or.inl (List.mem_of_getElem? (i := 0) rfl))
  have K_44 : Keep h0 h24 [a] := K_43.wr W24 (Or.inl (List.mem_of_getElem? (i := 0) rfl))
  have K_45 : Keep h0 h27 [a] := K_44.wr W27 (Or.inl (List.mem_of_getElem? (i := 0) rfl))
  have K_46 : Keep h0 h30 [a] := K_45.wr W30 (Or.inl (List.mem_of_getElem? (i := 0) rfl))
  have K_47 : Keep h0 h33 [a] := K_46.wr W33 (Or.inl (List.mem_of_getElem? (i := 0) rfl))
  have c_48 := Fld.other W33 (Fld.other W30 (Fld.other W27 (Fld.other W24 (Fld.other W21 (Fld.other W18 Fw15 (Or.inr (slot_ne (C := "com/example/tipple/tipple/Lot") (Or.inr (w57 hw)) (Or.inr (w59 hw)) (by decide) (t := (.object "java/math/BigDecimal")) (t' := (.object "java/math/BigDecimal")) (by decide) (by decide)))) (Or.inr (slot_ne (C := "com/example/tipple/tipple/Lot") (Or.inr (w57 hw)) (Or.inr (w61 hw)) (by decide) (t := (.object "java/math/BigDecimal")) (t' := (.object "java/math/BigDecimal")) (by decide) (by decide)))) (Or.inr (slot_ne (C := "com/example/tipple/tipple/Lot") (Or.inr (w57 hw)) (Or.inr (w63 hw)) (by decide) (t := (.object "java/math/BigDecimal")) (t' := (.object "java/math/BigDecimal")) (by decide) (by decide)))) (Or.inr (slot_ne (C := "com/example/tipple/tipple/Lot") (Or.inr (w57 hw)) (Or.inr (w65 hw)) (by decide) (t := (.object "java/math/BigDecimal")) (t' := (.object "java/math/BigDecimal")) (by decide) (by decide)))) (Or.inr (slot_ne (C := "com/example/tipple/tipple/Lot") (Or.inr (w57 hw)) (Or.inr (w67 hw)) (by decide) (t := (.object "java/math/BigDecimal")) (t' := (.object "java/util/Optional")) (by decide) (by decide)))) (Or.inr (slot_ne (C := "com/example/tipple/tipple/Lot") (Or.inr (w57 hw)) (Or.inr (w69 hw)) (by decide) (t := (.object "java/math/BigDecimal")) (t' := .boolean) (by decide) (by decide)))
  exact OwnW.retV X33 hx hlk hret (hb hy dp8_1_73) (by decide) (by decide) (show QQ _ T33.heap _ from (by rw [e33]; exact ⟨rfl, N33, K_47, c_48⟩))
abbrev kmethod_3 := method_3_code
theorem dmethod_3_0 : decode kmethod_3 0 = .ok (.new 13, 3) := by decide +kernel
theorem w30 {Z a0} (hw : Ht a0 Z) : (Cond.classLink "com/example/tipple/tipple/TotalsTonsPinLaw" (13 : Nat) "com/example/tipple/tipple/Lot").before a0 Z = true := ht hw 30 rfl
theorem w32 {Z a0} (hw : Ht a0 Z) : (Cond.initialized "com/example/tipple/tipple/Lot").before a0 Z = true := ht hw 32 rfl
theorem dmethod_3_3 : decode kmethod_3 3 = .ok (.dup, 1) := by decide +kernel
theorem dmethod_3_4 : decode kmethod_3 4 = .ok (.aconst_null, 1) := by decide +kernel
theorem dmethod_3_5 : decode kmethod_3 5 = .ok (.aconst_null, 1) := by decide +kernel
theorem dmethod_3_6 : decode kmethod_3 6 = .ok (.lconst 0, 1) := by decide +kernel
theorem dmethod_3_7 : decode kmethod_3 7 = .ok (.aconst_null, 1) := by decide +kernel
theorem dmethod_3_8 : decode kmethod_3 8 = .ok (.aconst_null, 1) := by decide +kernel
theorem dmethod_3_9 : decode kmethod_3 9 = .ok (.iload_n 0, 1) := by decide +kernel
theorem dmethod_3_10 : decode kmethod_3 10 = .ok (.i2l, 1) := by decide +kernel
theorem dmethod_3_11 : decode kmethod_3 11 = .ok (.iload_n 1, 1) := by decide +kernel
theorem dmethod_3_12 : decode kmethod_3 12 = .ok (.invokestatic 15, 3) := by decide +kernel
theorem w33 {Z a0} (hw : Ht a0 Z) : (Cond.methodLink "com/example/tipple/tipple/TotalsTonsPinLaw" (15 : Nat) ⟨"java/math/BigDecimal", "valueOf", "(JI)Ljava/math/BigDecimal;"⟩).before a0 Z = true := ht hw 33 rfl
theorem dmethod_3_15 : decode kmethod_3 15 = .ok (.getstatic 21, 3) := by decide +kernel
theorem w41 {Z a0} (hw : Ht a0 Z) : (Cond.fieldLink "com/example/tipple/tipple/TotalsTonsPinLaw" (21 : Nat) "java/math/BigDecimal" "ZERO" "Ljava/math/BigDecimal;").before a0 Z = true := ht hw 41 rfl
theorem dmethod_3_18 : decode kmethod_3 18 = .ok (.getstatic 21, 3) := by decide +kernel
theorem dmethod_3_21 : decode kmethod_3 21 = .ok (.getstatic 21, 3) := by decide +kernel
theorem dmethod_3_24 : decode kmethod_3 24 = .ok (.getstatic 21, 3) := by decide +kernel
theorem dmethod_3_27 : decode kmethod_3 27 = .ok (.aconst_null, 1) := by decide +kernel
theorem dmethod_3_28 : decode kmethod_3 28 = .ok (.iload_n 2, 1) := by decide +kernel
theorem dmethod_3_29 : decode kmethod_3 29 = .ok (.invokespecial 25, 3) := by decide +kernel
theorem w44 {Z a0} (hw : Ht a0 Z) : (Cond.code ⟨"com/example/tipple/tipple/Lot", "<init>", "(Ljava/lang/String;Ljava/lang/String;JLjava/time/LocalDate;Ljava/lang/String;Ljava/math/BigDecimal;Ljava/math/BigDecimal;Ljava/math/BigDecimal;Ljava/math/BigDecimal;Ljava/math/BigDecimal;Ljava/util/Optional;Z)V"⟩ prog_8_method_1_code (14 : Nat) (Option.none : Option Jvm.ClassFile.FieldType)).before a0 Z = true := ht hw 44 rfl
theorem w42 {Z a0} (hw : Ht a0 Z) : (Cond.methodLink "com/example/tipple/tipple/TotalsTonsPinLaw" (25 : Nat) ⟨"com/example/tipple/tipple/Lot", "<init>", "(Ljava/lang/String;Ljava/lang/String;JLjava/time/LocalDate;Ljava/lang/String;Ljava/math/BigDecimal;Ljava/math/BigDecimal;Ljava/math/BigDecimal;Ljava/math/BigDecimal;Ljava/math/BigDecimal;Ljava/util/Optional;Z)V"⟩).before a0 Z = true := ht hw 42 rfl
theorem w43 {Z a0} (hw : Ht a0 Z) : (Cond.instanceMethod ⟨"com/example/tipple/tipple/Lot", "<init>", "(Ljava/lang/String;Ljava/lang/String;JLjava/time/LocalDate;Ljava/lang/String;Ljava/math/BigDecimal;Ljava/math/BigDecimal;Ljava/math/BigDecimal;Ljava/math/BigDecimal;Ljava/math/BigDecimal;Ljava/util/Optional;Z)V"⟩).before a0 Z = true := ht hw 43 rfl
theorem pd_16 : parseMethodDescriptor "(Ljava/lang/String;Ljava/lang/String;JLjava/time/LocalDate;Ljava/lang/String;Ljava/math/BigDecimal;Ljava/math/BigDecimal;Ljava/math/BigDecimal;Ljava/math/BigDecimal;Ljava/math/BigDecimal;Ljava/util/Optional;Z)V" = some ⟨[(.object "java/lang/String"), (.object "java/lang/String"), .long, (.object "java/time/LocalDate"), (.object "java/lang/String"), (.object "java/math/BigDecimal"), (.object "java/math/BigDecimal"), (.object "java/math/BigDecimal"), (.object "java/math/BigDecimal"), (.object "java/math/BigDecimal"), (.object "java/util/Optional"), .boolean], none⟩ := by decide +kernel
theorem dmethod_3_32 : decode kmethod_3 32 = .ok (.areturn, 1) := by decide +kernel
theorem pn_7 : plainName "com/example/tipple/tipple/TotalsTonsPinLaw" = true := by first | (simp [plainName, overriddenIn]; done) | decide +kernel
def Q_lot (Z : State) (pa : Int32) (r : Int32) (rj : Int32) (wZ : Addr) (wT : Addr) (wS : Addr) (wP : Addr) (wH : Addr) (kT : ClassId) (kS : ClassId) (kP : ClassId) (kH : ClassId) (zt : Nat → Addr) (zs : Nat → Addr) (h0 : Heap) (n0 : Nat) (v : Option Value) (h : Heap) (L : List Loc) : Prop := ∃ lt : Addr, ∃ b : Addr, v = some (.ref lt) ∧ Fr n0 L ∧ Keep h0 h [] ∧ h0.size ≤ lt ∧ Exa Z h lt "com/example/tipple/tipple/Lot" ∧ Fld Z h lt "com/example/tipple/tipple/Lot" "tons" "Ljava/math/BigDecimal;" (.ref b) ∧ BDV Z h n0 b (pa.toInt64) r
set_option maxRecDepth 65536 in
set_option maxHeartbeats 40000000 in
theorem lot (l : Launch) (Z : State) (a0 : Array Value) (hw : Ht a0 Z) (pa : Int32) (r : Int32) (rj : Int32) (wZ : Addr) (wT : Addr) (wS : Addr) (wP : Addr) (wH : Addr) (kT : ClassId) (kS : ClassId) (kP : ClassId) (kH : ClassId) (zt : Nat → Addr) (zs : Nat → Addr) (h0 : Heap) (n0 : Nat) (Z0 : n0 ≤ h0.size) (O0 : Old Z n0 h0) (P0 : BigS Z wZ wT wS wP wH kT kS kP kH zt zs) (P1 : Sc r) :
    Con l Z (⟨"com/example/tipple/tipple/TotalsTonsPinLaw", "lot", "(IIZ)Lcom/example/tipple/tipple/Lot;"⟩ : MethodName) method_3_code 3 (some (.object "com/example/tipple/tipple/Lot")) ({ frames := 5, cells := 2, slots := 17, locals := 77 } : Room) #[(.int pa), (.int r), (.int rj)] h0 (Q_lot Z pa r rj wZ wT wS wP wH kT kS kP kH zt zs h0 n0) := by
  refine OwnW.body (Ls := #[iS pa, iS r, iS rj]) (plainFor_of_name pn_7) (fun m => by first | (simp [entryFrame, mkF, argsToLocals, Value.category]; done) | rfl) ?_
  intro p e s m below meth c s₁ hx hy hml hown hnm hret hlk hZ X0 e0
  let QQ := Q_lot Z pa r rj wZ wT wS wP wH kT kS kP kH zt zs h0 n0
  have N0 := Fr.nil n0
  show Go p e below (s₁.setTop (mkF m 0 #[iS pa, iS r, iS rj] [])) (EndQ s below ({ frames := 5, cells := 2, slots := 17, locals := 77 } : Room).cells ({ frames := 5, cells := 2, slots := 17, locals := 77 } : Room).slots QQ)
  have ⟨bZ, bZv, bT, bTv, bTa, bS, bSv, bSa, bP, bPv, bH, bHv, bA⟩ := P0
  obtain ⟨T1, h1, b1, X1, e1, E1, s1, A1, D1, st1⟩ := OwnW.newO X0 hx hZ hown (w30 hw) (w31 hw) (w32 hw) e0 (Ls := #[iS pa, iS r, iS rj]) (st := []) (hb hy dmethod_3_0) (by decide) (by decide)
  have F1_id : Fld Z h1 b1 "com/example/tipple/tipple/Lot" "id" "Ljava/lang/String;" .null := D1 (Or.inr (w47 hw)) (ty := (.object "java/lang/String")) (by decide)
  have F1_file : Fld Z h1 b1 "com/example/tipple/tipple/Lot" "file" "Ljava/lang/String;" .null := D1 (Or.inr (w49 hw)) (ty := (.object "java/lang/String")) (by decide)
  have F1_line : Fld Z h1 b1 "com/example/tipple/tipple/Lot" "line" "J" (.long (0 : Int64)) := D1 (Or.inr (w51 hw)) (ty := .long) (by decide)
  have F1_deliveredOn : Fld Z h1 b1 "com/example/tipple/tipple/Lot" "deliveredOn" "Ljava/time/LocalDate;" .null := D1 (Or.inr (w53 hw)) (ty := (.object "java/time/LocalDate")) (by decide)
  have F1_group : Fld Z h1 b1 "com/example/tipple/tipple/Lot" "group" "Ljava/lang/String;" .null := D1 (Or.inr (w55 hw)) (ty := (.object "java/lang/String")) (by decide)
  have F1_tons : Fld Z h1 b1 "com/example/tipple/tipple/Lot" "tons" "Ljava/math/BigDecimal;" .null := D1 (Or.inr (w57 hw)) (ty := (.object "java/math/BigDecimal")) (by decide)
  have F1_btuPerLb : Fld Z h1 b1 "com/example/tipple/tipple/Lot" "btuPerLb" "Ljava/math/BigDecimal;" .null := D1 (Or.inr (w59 hw)) (ty := (.object "java/math/BigDecimal")) (by decide)
  have F1_moisturePct : Fld Z h1 b1 "com/example/tipple/tipple/Lot" "moisturePct" "Ljava/math/BigDecimal;" .null := D1 (Or.inr (w61 hw)) (ty := (.object "java/math/BigDecimal")) (by decide)
  have F1_ashPct : Fld Z h1 b1 "com/example/tipple/tipple/Lot" "ashPct" "Ljava/math/BigDecimal;" .null := D1 (Or.inr (w63 hw)) (ty := (.object "java/math/BigDecimal")) (by decide)
  have F1_sulfurPct : Fld Z h1 b1 "com/example/tipple/tipple/Lot" "sulfurPct" "Ljava/math/BigDecimal;" .null := D1 (Or.inr (w65 hw)) (ty := (.object "java/math/BigDecimal")) (by decide)
  have F1_chlorinePpm : Fld Z h1 b1 "com/example/tipple/tipple/Lot" "chlorinePpm" "Ljava/util/Optional;" .null := D1 (Or.inr (w67 hw)) (ty := (.object "java/util/Optional")) (by decide)
  have F1_rejected : Fld Z h1 b1 "com/example/tipple/tipple/Lot" "rejected" "Z" (.int (0 : Int32)) := D1 (Or.inr (w69 hw)) (ty := .boolean) (by decide)
  refine gon T1 (mkF m 3 #[iS pa,iS r,iS rj] [(.ref b1)]) (st1) ?_
  refine gon T1 (mkF m 8 #[iS pa,iS r,iS rj] [.null, (.long 0), .null, .null, (.ref b1), (.ref b1)]) (fun _ k => XS.dup X1.here hx rfl (hb hy dmethod_3_3) rfl rfl (XS.aconstNull X1.here hx rfl (hb hy dmethod_3_4) (XS.aconstNull X1.here hx rfl (hb hy dmethod_3_5) (XS.lconst X1.here hx rfl (hb hy dmethod_3_6) (XS.aconstNull X1.here hx rfl (hb hy dmethod_3_7) k))))) ?_
  refine gon T1 (mkF m 12 #[iS pa,iS r,iS rj] [(.int r), (.long (pa.toInt64)), .null, .null, (.long 0), .null, .null, (.ref b1), (.ref b1)]) (fun _ k => XS.aconstNull X1.here hx rfl (hb hy dmethod_3_8) (XS.iloadN X1.here hx rfl (hb hy dmethod_3_9) rfl (XS.i2l X1.here hx rfl (hb hy dmethod_3_10) rfl (XS.iloadN X1.here hx rfl (hb hy dmethod_3_11) rfl k)))) ?_
  have Z_3 : n0 ≤ h1.size := Nat.le_trans Z0 E1.1
  have O_4 : Old Z n0 h1 := O0.ext E1
  obtain ⟨v2, T2, L2, X2, hQ2, st2⟩ := OwnW.callS X1 hx hZ hown (w33 hw) (w34 hw) (w35 hw) (w36 hw) (by decide) (valJI l Z a0 hw (pa.toInt64) r wZ wT wS wP wH kT kS kP kH zt zs h1 n0 Z_3 O_4 P0 (own_i2lMin _ : ¬ ((pa.toInt64) = (-9223372036854775808 : Int64))) P1) e1 (Ls := #[iS pa, iS r, iS rj]) (by rw [hml]; rfl) pd_10 (argsL := [(.long (pa.toInt64)), (.int r)]) rfl (rest := [.null, .null, (.long (0 : Int64)), .null, .null, (.ref b1), (.ref b1)]) rfl (W := 8) rfl (hb hy dmethod_3_12) (by decide) (by decide) (by decide) (by decide)
  obtain ⟨b_5, rfl, Nq2, Kq2, q2_0⟩ := hQ2
  have N2 := Fr.app N0 Nq2
  refine gon T2 (mkF m 15 #[iS pa,iS r,iS rj] [(.ref b_5), .null, .null, (.long 0), .null, .null, (.ref b1), (.ref b1)]) (st2) ?_
  have O_7 : Old Z n0 T2.heap := O_4.keep Kq2 all0
  have s_8 := Sta.ext O_7.2 bZ
  obtain ⟨T6, X6, e6, st6⟩ := getS2 X2 hx hZ hown (host := "") (Or.inl (w41 hw)) Via.refl rfl s_8 (g := (mkF m 15 #[iS pa,iS r,iS rj] [(.ref b_5), .null, .null, (.long 0), .null, .null, (.ref b1), (.ref b1)])) rfl (hb hy dmethod_3_15)
  refine gon T6 (mkF m 18 #[iS pa,iS r,iS rj] [(.ref wZ), (.ref b_5), .null, .null, (.long 0), .null, .null, (.ref b1), (.ref b1)]) (st6) ?_
  obtain ⟨T9, X9, e9, st9⟩ := getS2 X6 hx hZ hown (host := "") (Or.inl (w41 hw)) Via.refl e6 s_8 (g := (mkF m 18 #[iS pa,iS r,iS rj] [(.ref wZ), (.ref b_5), .null, .null, (.long 0), .null, .null, (.ref b1), (.ref b1)])) rfl (hb hy dmethod_3_18)
  refine gon T9 (mkF m 21 #[iS pa,iS r,iS rj] [(.ref wZ), (.ref wZ), (.ref b_5), .null, .null, (.long 0), .null, .null, (.ref b1), (.ref b1)]) (st9) ?_
  obtain ⟨T10, X10, e10, st10⟩ := getS2 X9 hx hZ hown (host := "") (Or.inl (w41 hw)) Via.refl e9 s_8 (g := (mkF m 21 #[iS pa,iS r,iS rj] [(.ref wZ), (.ref wZ), (.ref b_5), .null, .null, (.long 0), .null, .null, (.ref b1), (.ref b1)])) rfl (hb hy dmethod_3_21)
  refine gon T10 (mkF m 24 #[iS pa,iS r,iS rj] [(.ref wZ), (.ref wZ), (.ref wZ), (.ref b_5), .null, .null, (.long 0), .null, .null, (.ref b1), (.ref b1)]) (st10) ?_
  obtain ⟨T11, X11, e11, st11⟩ := getS2 X10 hx hZ hown (host := "") (Or.inl (w41 hw)) Via.refl e10 s_8 (g := (mkF m 24 #[iS pa,iS r,iS rj] [(.ref wZ), (.ref wZ), (.ref wZ), (.ref b_5), .null, .null, (.long 0), .null, .null, (.ref b1), (.ref b1)])) rfl (hb hy dmethod_3_24)
  refine gon T11 (mkF m 27 #[iS pa,iS r,iS rj] [(.ref wZ), (.ref wZ), (.ref wZ), (.ref wZ), (.ref b_5), .null, .null, (.long 0), .null, .null, (.ref b1), (.ref b1)]) (st11) ?_
  refine gon T11 (mkF m 29 #[iS pa,iS r,iS rj] [(.int rj), .null, (.ref wZ), (.ref wZ), (.ref wZ), (.ref wZ), (.ref b_5), .null, .null, (.long 0), .null, .null, (.ref b1), (.ref b1)]) (fun _ k => XS.aconstNull X11.here hx rfl (hb hy dmethod_3_27) (XS.iloadN X11.here hx rfl (hb hy dmethod_3_28) rfl k)) ?_
  have c_13 := Exa.keep A1 Kq2
  have g_14 : n0 ≤ b1 := Nat.le_trans Z0 s1
  have c_15 := Fld.keep F1_id Kq2 nin0
  have c_16 := Fld.keep F1_file Kq2 nin0
  have c_17 := Fld.keep F1_line Kq2 nin0
  have c_18 := Fld.keep F1_deliveredOn Kq2 nin0
  have c_19 := Fld.keep F1_group Kq2 nin0
  have c_20 := Fld.keep F1_tons Kq2 nin0
  have c_21 := Fld.keep F1_btuPerLb Kq2 nin0
  have c_22 := Fld.keep F1_moisturePct Kq2 nin0
  have c_23 := Fld.keep F1_ashPct Kq2 nin0
  have c_24 := Fld.keep F1_sulfurPct Kq2 nin0
  have c_25 := Fld.keep F1_chlorinePpm Kq2 nin0
  have c_26 := Fld.keep F1_rejected Kq2 nin0
  have Z_27 : n0 ≤ T2.heap.size := Nat.le_trans Z_3 Kq2.1
  obtain ⟨v12, T12, L12, X12, hQ12, st12⟩ := OwnW.callC (y := (⟨"com/example/tipple/tipple/Lot", "<init>", "(Ljava/lang/String;Ljava/lang/String;JLjava/time/LocalDate;Ljava/lang/String;Ljava/math/BigDecimal;Ljava/math/BigDecimal;Ljava/math/BigDecimal;Ljava/math/BigDecimal;Ljava/math/BigDecimal;Ljava/util/Optional;Z)V"⟩ : MethodName)) X11 hx hZ hown rfl (w42 hw) (w43 hw) (w32 hw) (w44 hw) (by decide) (b := b1) (lotInit l Z a0 hw b1 b_5 wZ rj T2.heap n0 Z_27 c_13 g_14 c_15 c_16 c_17 c_18 c_19 c_20 c_21 c_22 c_23 c_24 c_25 c_26) e11 (Ls := #[iS pa, iS r, iS rj]) (by rw [hml]; rfl) pd_16 (argsL := [.null, .null, (.long (0 : Int64)), .null, .null, (.ref b_5), (.ref wZ), (.ref wZ), (.ref wZ), (.ref wZ), .null, (.int rj)]) rfl (rest := [(.ref b1)]) rfl (W := 1) rfl (hb hy dmethod_3_29) (by decide) (by decide) (by decide) (by decide)
  obtain ⟨rfl, Nq12, Kq12, q12_0⟩ := hQ12
  have N12 := Fr.app N2 Nq12
  refine gon T12 (mkF m 32 #[iS pa,iS r,iS rj] [(.ref b1)]) (st12) ?_
  have K_28 : Keep h0 h1 [] := (Keep.refl h0 []).ext E1
  have K_29 : Keep h0 T2.heap [] := K_28.trans Kq2 all0
  have K_30 : Keep h0 T12.heap [] := K_29.trans Kq12 (allS (Or.inr (Nat.le_trans (Nat.le_refl _) s1)) all0)
  have c_31 := Exa.keep c_13 Kq12
  have c_32 := Exa.keep q2_0.1 Kq12
  have ne_33 : b_5 ≠ b1 := ne_exa c_32 c_31 (by decide)
  have c_34 := BDV.keep q2_0 Kq12 (ninS ne_33 nin0)
  exact OwnW.retA X12 hx hlk hret rfl rfl (hb hy dmethod_3_32) (by decide) (by decide) (show QQ _ T12.heap _ from ⟨b1, b_5, rfl, N12, K_30, (Nat.le_trans (Nat.le_refl _) s1), c_31, q12_0, c_34⟩)
def p10 (q : Int32) : Int64 := if q = 0 then 1 else if q = 1 then 10 else if q = 2 then 100 else 1000
abbrev kmethod_2 := method_2_code
theorem dmethod_2_0 : decode kmethod_2 0 = .ok (.iload_n 0, 1) := by decide +kernel
theorem dmethod_2_1 : decode kmethod_2 1 = .ok (.ifCond .ne 5, 3) := by decide +kernel
theorem dmethod_2_4 : decode kmethod_2 4 = .ok (.lconst 1, 1) := by decide +kernel
theorem dmethod_2_5 : decode kmethod_2 5 = .ok (.lreturn, 1) := by decide +kernel
theorem dmethod_2_6 : decode kmethod_2 6 = .ok (.iload_n 0, 1) := by decide +kernel
theorem dmethod_2_7 : decode kmethod_2 7 = .ok (.iconst 1, 1) := by decide +kernel
theorem dmethod_2_8 : decode kmethod_2 8 = .ok (.if_icmp .ne 7, 3) := by decide +kernel
theorem dmethod_2_11 : decode kmethod_2 11 = .ok (.ldc2_w 7, 3) := by decide +kernel
theorem w273 {Z a0} (hw : Ht a0 Z) : (Cond.constantLong "com/example/tipple/tipple/TotalsTonsPinLaw" (7 : Nat) (10 : Int64)).before a0 Z = true := ht hw 273 rfl
theorem dmethod_2_14 : decode kmethod_2 14 = .ok (.lreturn, 1) := by decide +kernel
theorem dmethod_2_15 : decode kmethod_2 15 = .ok (.iload_n 0, 1) := by decide +kernel
theorem dmethod_2_16 : decode kmethod_2 16 = .ok (.iconst 2, 1) := by decide +kernel
theorem dmethod_2_17 : decode kmethod_2 17 = .ok (.if_icmp .ne 7, 3) := by decide +kernel
theorem dmethod_2_20 : decode kmethod_2 20 = .ok (.ldc2_w 9, 3) := by decide +kernel
theorem w269 {Z a0} (hw : Ht a0 Z) : (Cond.constantLong "com/example/tipple/tipple/TotalsTonsPinLaw" (9 : Nat) (100 : Int64)).before a0 Z = true := ht hw 269 rfl
theorem dmethod_2_23 : decode kmethod_2 23 = .ok (.lreturn, 1) := by decide +kernel
theorem dmethod_2_24 : decode kmethod_2 24 = .ok (.ldc2_w 11, 3) := by decide +kernel
theorem w108 {Z a0} (hw : Ht a0 Z) : (Cond.constantLong "com/example/tipple/tipple/TotalsTonsPinLaw" (11 : Nat) (1000 : Int64)).before a0 Z = true := ht hw 108 rfl
theorem dmethod_2_27 : decode kmethod_2 27 = .ok (.lreturn, 1) := by decide +kernel
def Q_pow10 (Z : State) (q : Int32) (h0 : Heap) (n0 : Nat) (v : Option Value) (h : Heap) (L : List Loc) : Prop := v = some (.long (p10 q)) ∧ Fr n0 L ∧ h = h0
set_option maxRecDepth 65536 in
set_option maxHeartbeats 40000000 in
theorem pow10 (l : Launch) (Z : State) (a0 : Array Value) (hw : Ht a0 Z) (q : Int32) (h0 : Heap) (n0 : Nat) (Z0 : n0 ≤ h0.size)  :
    Con l Z (⟨"com/example/tipple/tipple/TotalsTonsPinLaw", "pow10", "(I)J"⟩ : MethodName) method_2_code 1 (some .long) ({ frames := 0, cells := 0, slots := 0, locals := 0 } : Room) #[(.int q)] h0 (Q_pow10 Z q h0 n0) := by
  refine OwnW.body (Ls := #[iS q]) (plainFor_of_name pn_7) (fun m => by first | (simp [entryFrame, mkF, argsToLocals, Value.category]; done) | rfl) ?_
  intro p e s m below meth c s₁ hx hy hml hown hnm hret hlk hZ X0 e0
  let QQ := Q_pow10 Z q h0 n0
  have N0 := Fr.nil n0
  show Go p e below (s₁.setTop (mkF m 0 #[iS q] [])) (EndQ s below ({ frames := 0, cells := 0, slots := 0, locals := 0 } : Room).cells ({ frames := 0, cells := 0, slots := 0, locals := 0 } : Room).slots QQ)
  refine gon s₁ (mkF m 1 #[iS q] [(.int q)]) (fun _ k => XS.iloadN X0.here hx rfl (hb hy dmethod_2_0) rfl k) ?_
  by_cases hc1_1 : q = (0 : Int32)
  · refine gon s₁ (mkF m 5 #[iS q] [(.long 1)]) (fun _ k => XS.ifNo X0.here hx rfl (hb hy dmethod_2_1) rfl ((if0 _ _).trans (teq hc1_1).2) (XS.lconst X0.here hx rfl (hb hy dmethod_2_4) k)) ?_
    exact OwnW.retJ X0 hx hlk hret (hb hy dmethod_2_5) (by decide) (by decide) (show QQ _ s₁.heap _ from ⟨(by simp [p10, hc1_1]), N0, e0⟩)
  · refine gon s₁ (mkF m 8 #[iS q] [(.int 1), (.int q)]) (fun _ k => XS.ifYes X0.here hx rfl (pc0 := 1) (pc' := 6) rfl (hb hy dmethod_2_1) rfl ((if0 _ _).trans (feq hc1_1).2) (by decide) (by decide) (XS.iloadN X0.here hx rfl (hb hy dmethod_2_6) rfl (XS.iconst X0.here hx rfl (hb hy dmethod_2_7) k))) ?_
    by_cases hc8_2 : q = (1 : Int32)
    · refine gon s₁ (mkF m 11 #[iS q] []) (fun _ k => XS.icmpNo X0.here hx rfl (hb hy dmethod_2_8) rfl (teq hc8_2).2 k) ?_
      refine gon s₁ (mkF m 14 #[iS q] [(.long 10)]) (X0.ldc2Long hx hown (mvT hZ (w273 hw)) (g := (mkF m 11 #[iS q] [])) rfl (hb hy dmethod_2_11)) ?_
      exact OwnW.retJ X0 hx hlk hret (hb hy dmethod_2_14) (by decide) (by decide) (show QQ _ s₁.heap _ from ⟨(by simp [p10, hc1_1, hc8_2]), N0, e0⟩)
    · refine gon s₁ (mkF m 17 #[iS q] [(.int 2), (.int q)]) (fun _ k => XS.icmpYes X0.here hx rfl (pc0 := 8) (pc' := 15) rfl (hb hy dmethod_2_8) rfl (feq hc8_2).2 (by decide) (by decide) (XS.iloadN X0.here hx rfl (hb hy dmethod_2_15) rfl (XS.iconst X0.here hx rfl (hb hy dmethod_2_16) k))) ?_
      by_cases hc17_3 : q = (2 : Int32)
      · refine gon s₁ (mkF m 20 #[iS q] []) (fun _ k => XS.icmpNo X0.here hx rfl (hb hy dmethod_2_17) rfl (teq hc17_3).2 k) ?_
        refine gon s₁ (mkF m 23 #[iS q] [(.long 100)]) (X0.ldc2Long hx hown (mvT hZ (w269 hw)) (g := (mkF m 20 #[iS q] [])) rfl (hb hy dmethod_2_20)) ?_
        exact OwnW.retJ X0 hx hlk hret (hb hy dmethod_2_23) (by decide) (by decide) (show QQ _ s₁.heap _ from ⟨(by simp [p10, hc1_1, hc8_2, hc17_3]), N0, e0⟩)
      · refine gon s₁ (mkF m 24 #[iS q] []) (fun _ k => XS.icmpYes X0.here hx rfl (pc0 := 17) (pc' := 24) rfl (hb hy dmethod_2_17) rfl (feq hc17_3).2 (by decide) (by decide) k) ?_
        refine gon s₁ (mkF m 27 #[iS q] [(.long 1000)]) (X0.ldc2Long hx hown (mvT hZ (w108 hw)) (g := (mkF m 24 #[iS q] [])) rfl (hb hy dmethod_2_24)) ?_
        exact OwnW.retJ X0 hx hlk hret (hb hy dmethod_2_27) (by decide) (by decide) (show QQ _ s₁.heap _ from ⟨(by simp [p10, hc1_1, hc8_2, hc17_3]), N0, e0⟩)
abbrev kp8_7 := prog_8_method_7_code
theorem dp8_7_0 : decode kp8_7 0 = .ok (.aload_n 0, 1) := by decide +kernel
theorem dp8_7_1 : decode kp8_7 1 = .ok (.getfield 27, 3) := by decide +kernel
theorem dp8_7_4 : decode kp8_7 4 = .ok (.areturn, 1) := by decide +kernel
def Q_lotTons (Z : State) (a : Addr) (vv : Addr) (h0 : Heap) (n0 : Nat) (v : Option Value) (h : Heap) (L : List Loc) : Prop := v = some (.ref vv) ∧ Fr n0 L ∧ h = h0
set_option maxRecDepth 65536 in
set_option maxHeartbeats 40000000 in
theorem lotTons (l : Launch) (Z : State) (a0 : Array Value) (hw : Ht a0 Z) (a : Addr) (vv : Addr) (h0 : Heap) (n0 : Nat) (Z0 : n0 ≤ h0.size) (P0 : Fld Z h0 a "com/example/tipple/tipple/Lot" "tons" "Ljava/math/BigDecimal;" (.ref vv)) :
    Con l Z (⟨"com/example/tipple/tipple/Lot", "tons", "()Ljava/math/BigDecimal;"⟩ : MethodName) prog_8_method_7_code 1 (some (.object "java/math/BigDecimal")) ({ frames := 0, cells := 0, slots := 0, locals := 0 } : Room) #[(.ref a)] h0 (Q_lotTons Z a vv h0 n0) := by
  refine OwnW.body (Ls := #[rS a]) (plainFor_of_name pn_6) (fun m => by first | (simp [entryFrame, mkF, argsToLocals, Value.category]; done) | rfl) ?_
  intro p e s m below meth c s₁ hx hy hml hown hnm hret hlk hZ X0 e0
  let QQ := Q_lotTons Z a vv h0 n0
  have N0 := Fr.nil n0
  show Go p e below (s₁.setTop (mkF m 0 #[rS a] [])) (EndQ s below ({ frames := 0, cells := 0, slots := 0, locals := 0 } : Room).cells ({ frames := 0, cells := 0, slots := 0, locals := 0 } : Room).slots QQ)
  refine gon s₁ (mkF m 1 #[rS a] [(.ref a)]) (fun _ k => XS.aloadN X0.here hx rfl (hb hy dp8_7_0) rfl rfl k) ?_
  obtain ⟨T1, X1, e1, st1⟩ := getF X0 hx hZ hown (host := "") (Or.inl (w56 hw)) Via.refl e0 P0 (g := (mkF m 1 #[rS a] [(.ref a)])) rfl rfl (hb hy dp8_7_1)
  refine gon T1 (mkF m 4 #[rS a] [(.ref vv)]) (st1) ?_
  exact OwnW.retA X1 hx hlk hret rfl rfl (hb hy dp8_7_4) (by decide) (by decide) (show QQ _ T1.heap _ from ⟨rfl, N0, e1⟩)
abbrev kp16_3 := prog_16_method_3_code
theorem dp16_3_0 : decode kp16_3 0 = .ok (.getstatic 7, 3) := by decide +kernel
theorem w114 {Z a0} (hw : Ht a0 Z) : (Cond.fieldLink "com/example/tipple/tipple/Totals" (7 : Nat) "java/math/BigDecimal" "ZERO" "Ljava/math/BigDecimal;").before a0 Z = true := ht hw 114 rfl
theorem dp16_3_3 : decode kp16_3 3 = .ok (.astore_n 1, 1) := by decide +kernel
theorem dp16_3_4 : decode kp16_3 4 = .ok (.aload_n 0, 1) := by decide +kernel
theorem dp16_3_5 : decode kp16_3 5 = .ok (.invokeinterface 30 1, 5) := by decide +kernel
theorem w118 {Z a0} (hw : Ht a0 Z) : (Cond.selects "java/util/ArrayList" ⟨"java/util/List", "iterator", "()Ljava/util/Iterator;"⟩ ⟨"java/util/ArrayList", "iterator", "()Ljava/util/Iterator;"⟩).before a0 Z = true := ht hw 118 rfl
theorem w122 {Z a0} (hw : Ht a0 Z) : (Cond.code ⟨"java/util/ArrayList", "iterator", "()Ljava/util/Iterator;"⟩ jdk_38_method_55_code (1 : Nat) (Option.some (Jvm.ClassFile.FieldType.object "java/util/Iterator"))).before a0 Z = true := ht hw 122 rfl
theorem w115 {Z a0} (hw : Ht a0 Z) : (Cond.methodLink "com/example/tipple/tipple/Totals" (30 : Nat) ⟨"java/util/List", "iterator", "()Ljava/util/Iterator;"⟩).before a0 Z = true := ht hw 115 rfl
theorem w116 {Z a0} (hw : Ht a0 Z) : (Cond.declares ⟨"java/util/List", "iterator", "()Ljava/util/Iterator;"⟩).before a0 Z = true := ht hw 116 rfl
theorem w117 {Z a0} (hw : Ht a0 Z) : (Cond.interfaceMethod "java/util/List" "java/util/List" "iterator" "()Ljava/util/Iterator;").before a0 Z = true := ht hw 117 rfl
theorem w119 {Z a0} (hw : Ht a0 Z) : (Cond.instanceMethod ⟨"java/util/ArrayList", "iterator", "()Ljava/util/Iterator;"⟩).before a0 Z = true := ht hw 119 rfl
theorem w120 {Z a0} (hw : Ht a0 Z) : (Cond.publicMethod ⟨"java/util/ArrayList", "iterator", "()Ljava/util/Iterator;"⟩).before a0 Z = true := ht hw 120 rfl
theorem w121 {Z a0} (hw : Ht a0 Z) : (Cond.unhidden "java/util/ArrayList" "iterator" "()Ljava/util/Iterator;").before a0 Z = true := ht hw 121 rfl
theorem w77 {Z a0} (hw : Ht a0 Z) : (Cond.castable "java/util/ArrayList" "java/util/List").before a0 Z = true := ht hw 77 rfl
theorem pd_17 : parseMethodDescriptor "()Ljava/util/Iterator;" = some ⟨[], some (.object "java/util/Iterator")⟩ := by decide +kernel
theorem dp16_3_10 : decode kp16_3 10 = .ok (.astore_n 2, 1) := by decide +kernel
theorem dp16_3_11 : decode kp16_3 11 = .ok (.aload_n 2, 1) := by decide +kernel
theorem dp16_3_12 : decode kp16_3 12 = .ok (.invokeinterface 36 1, 5) := by decide +kernel
theorem w141 {Z a0} (hw : Ht a0 Z) : (Cond.selects "java/util/ArrayList$Itr" ⟨"java/util/Iterator", "hasNext", "()Z"⟩ ⟨"java/util/ArrayList$Itr", "hasNext", "()Z"⟩).before a0 Z = true := ht hw 141 rfl
theorem w146 {Z a0} (hw : Ht a0 Z) : (Cond.code ⟨"java/util/ArrayList$Itr", "hasNext", "()Z"⟩ jdk_49_method_2_code (1 : Nat) (Option.some Jvm.ClassFile.FieldType.boolean)).before a0 Z = true := ht hw 146 rfl
theorem w138 {Z a0} (hw : Ht a0 Z) : (Cond.methodLink "com/example/tipple/tipple/Totals" (36 : Nat) ⟨"java/util/Iterator", "hasNext", "()Z"⟩).before a0 Z = true := ht hw 138 rfl
theorem w139 {Z a0} (hw : Ht a0 Z) : (Cond.declares ⟨"java/util/Iterator", "hasNext", "()Z"⟩).before a0 Z = true := ht hw 139 rfl
theorem w140 {Z a0} (hw : Ht a0 Z) : (Cond.interfaceMethod "java/util/Iterator" "java/util/Iterator" "hasNext" "()Z").before a0 Z = true := ht hw 140 rfl
theorem w142 {Z a0} (hw : Ht a0 Z) : (Cond.instanceMethod ⟨"java/util/ArrayList$Itr", "hasNext", "()Z"⟩).before a0 Z = true := ht hw 142 rfl
theorem w143 {Z a0} (hw : Ht a0 Z) : (Cond.publicMethod ⟨"java/util/ArrayList$Itr", "hasNext", "()Z"⟩).before a0 Z = true := ht hw 143 rfl
theorem w144 {Z a0} (hw : Ht a0 Z) : (Cond.unhidden "java/util/ArrayList$Itr" "hasNext" "()Z").before a0 Z = true := ht hw 144 rfl
theorem w145 {Z a0} (hw : Ht a0 Z) : (Cond.castable "java/util/ArrayList$Itr" "java/util/Iterator").before a0 Z = true := ht hw 145 rfl
theorem pd_18 : parseMethodDescriptor "()Z" = some ⟨[], some .boolean⟩ := by decide +kernel
theorem dp16_3_17 : decode kp16_3 17 = .ok (.ifCond .eq 25, 3) := by decide +kernel
theorem dp16_3_42 : decode kp16_3 42 = .ok (.aload_n 1, 1) := by decide +kernel
theorem dp16_3_43 : decode kp16_3 43 = .ok (.areturn, 1) := by decide +kernel
theorem pn_8 : plainName "com/example/tipple/tipple/Totals" = true := by first | (simp [plainName, overriddenIn]; done) | decide +kernel
def Q_tons0 (Z : State) (a : Addr) (wZ : Addr) (wT : Addr) (wS : Addr) (wP : Addr) (wH : Addr) (kT : ClassId) (kS : ClassId) (kP : ClassId) (kH : ClassId) (zt : Nat → Addr) (zs : Nat → Addr) (h0 : Heap) (n0 : Nat) (v : Option Value) (h : Heap) (L : List Loc) : Prop := ∃ b : Addr, ∃ z : Int64, ∃ t : Int32, v = some (.ref b) ∧ Fr n0 L ∧ Keep h0 h [] ∧ BDV Z h n0 b z t ∧ Sc t ∧ t = (0 : Int32) ∧ Nv3 z t = 0
set_option maxRecDepth 65536 in
set_option maxHeartbeats 40000000 in
theorem tons0 (l : Launch) (Z : State) (a0 : Array Value) (hw : Ht a0 Z) (a : Addr) (wZ : Addr) (wT : Addr) (wS : Addr) (wP : Addr) (wH : Addr) (kT : ClassId) (kS : ClassId) (kP : ClassId) (kH : ClassId) (zt : Nat → Addr) (zs : Nat → Addr) (h0 : Heap) (n0 : Nat) (Z0 : n0 ≤ h0.size) (O0 : Old Z n0 h0) (P0 : BigS Z wZ wT wS wP wH kT kS kP kH zt zs) (P1 : Exa Z h0 a "java/util/ArrayList") (P2 : Fld Z h0 a "java/util/ArrayList" "size" "I" (.int (0 : Int32))) (P3 : Fld Z h0 a "java/util/AbstractList" "modCount" "I" (.int (0 : Int32))) :
    Con l Z (⟨"com/example/tipple/tipple/Totals", "tons", "(Ljava/util/List;)Ljava/math/BigDecimal;"⟩ : MethodName) prog_16_method_3_code 4 (some (.object "java/math/BigDecimal")) ({ frames := 3, cells := 1, slots := 4, locals := 38 } : Room) #[(.ref a)] h0 (Q_tons0 Z a wZ wT wS wP wH kT kS kP kH zt zs h0 n0) := by
  refine OwnW.body (Ls := #[rS a, uS, uS, uS]) (plainFor_of_name pn_8) (fun m => by first | (simp [entryFrame, mkF, argsToLocals, Value.category]; done) | rfl) ?_
  intro p e s m below meth c s₁ hx hy hml hown hnm hret hlk hZ X0 e0
  let QQ := Q_tons0 Z a wZ wT wS wP wH kT kS kP kH zt zs h0 n0
  have N0 := Fr.nil n0
  show Go p e below (s₁.setTop (mkF m 0 #[rS a, uS, uS, uS] [])) (EndQ s below ({ frames := 3, cells := 1, slots := 4, locals := 38 } : Room).cells ({ frames := 3, cells := 1, slots := 4, locals := 38 } : Room).slots QQ)
  have ⟨bZ, bZv, bT, bTv, bTa, bS, bSv, bSa, bP, bPv, bH, bHv, bA⟩ := P0
  have s_2 := Sta.ext O0.2 bZ
  obtain ⟨T1, X1, e1, st1⟩ := getS2 X0 hx hZ hown (host := "") (Or.inl (w114 hw)) Via.refl e0 s_2 (g := (mkF m 0 #[rS a,uS,uS,uS] [])) rfl (hb hy dp16_3_0)
  refine gon T1 (mkF m 3 #[rS a,uS,uS,uS] [(.ref wZ)]) (st1) ?_
  refine gon T1 (mkF m 5 #[rS a,rS wZ,uS,uS] [(.ref a)]) (fun _ k => XS.astoreN X1.here hx rfl (hb hy dp16_3_3) rfl rfl (l' := #[rS a, rS wZ, uS, uS]) rfl (XS.aloadN X1.here hx rfl (hb hy dp16_3_4) rfl rfl k)) ?_
  obtain ⟨v3, T3, L3, X3, hQ3, st3⟩ := OwnW.callI X1 hx hZ hown (w115 hw) (w116 hw) (mvT hZ (w117 hw)) (w118 hw) (w119 hw) (w120 hw) (w121 hw) (w77 hw) (w2 hw) (w122 hw) (by decide) (b := a) (alIter l Z a0 hw a (0 : Int32) h0 n0 Z0 P3 P1) e1 P1 (Ls := #[rS a, rS wZ, uS, uS]) (by rw [hml]; rfl) pd_17 (argsL := []) rfl (rest := []) rfl (W := 0) rfl (hb hy dp16_3_5) (by decide) (by decide) (by decide) (by decide)
  obtain ⟨t_4, rfl, Nq3, Kq3, q3_0, q3_1, q3_2, q3_3, q3_4, q3_5⟩ := hQ3
  have N3 := Fr.app N0 Nq3
  refine gon T3 (mkF m 10 #[rS a,rS wZ,uS,uS] [(.ref t_4)]) (st3) ?_
  refine gon T3 (mkF m 12 #[rS a,rS wZ,rS t_4,uS] [(.ref t_4)]) (fun _ k => XS.astoreN X3.here hx rfl (hb hy dp16_3_10) rfl rfl (l' := #[rS a, rS wZ, rS t_4, uS]) rfl (XS.aloadN X3.here hx rfl (hb hy dp16_3_11) rfl rfl k)) ?_
  have c_6 := Fld.keep P2 Kq3 nin0
  have Z_7 : n0 ≤ T3.heap.size := Nat.le_trans Z0 Kq3.1
  obtain ⟨v5, T5, L5, X5, hQ5, st5⟩ := OwnW.callI X3 hx hZ hown (w138 hw) (w139 hw) (mvT hZ (w140 hw)) (w141 hw) (w142 hw) (w143 hw) (w144 hw) (w145 hw) (w125 hw) (w146 hw) (by decide) (b := t_4) (hasNextF l Z a0 hw t_4 a (0 : Int32) T3.heap n0 Z_7 q3_2 q3_5 c_6) rfl q3_1 (Ls := #[rS a, rS wZ, rS t_4, uS]) (by rw [hml]; rfl) pd_18 (argsL := []) rfl (rest := []) rfl (W := 0) rfl (hb hy dp16_3_12) (by decide) (by decide) (by decide) (by decide)
  obtain ⟨rfl, Nq5, eq5⟩ := hQ5
  have N5 := Fr.app N3 Nq5
  refine gon T5 (mkF m 17 #[rS a,rS wZ,rS t_4,uS] [(.int 0)]) (st5) ?_
  refine gon T5 (mkF m 43 #[rS a,rS wZ,rS t_4,uS] [(.ref wZ)]) (fun _ k => XS.ifYes X5.here hx rfl (pc0 := 17) (pc' := 42) rfl (hb hy dp16_3_17) rfl ((if0 _ _).trans (teq (by decide : (0 : Int32) = (0 : Int32))).1) (by decide) (by decide) (XS.aloadN X5.here hx rfl (hb hy dp16_3_42) rfl rfl k)) ?_
  have K_8 : Keep h0 T3.heap [] := (Keep.refl h0 []).trans Kq3 all0
  have O_9 : Old Z n0 T3.heap := O0.keep Kq3 all0
  have s_10 := BDV.ext (bZv n0) O_9.2
  exact OwnW.retA X5 hx hlk hret rfl rfl (hb hy dp16_3_43) (by decide) (by decide) (show QQ _ T5.heap _ from (by rw [eq5]; exact ⟨wZ, (0 : Int64), (0 : Int32), rfl, N5, K_8, s_10, (by unfold Sc; decide : Sc (0 : Int32)), (rfl : (0 : Int32) = (0 : Int32)), (own_nZ : Nv3 (0 : Int64) (0 : Int32) = 0)⟩))
theorem dp16_3_20 : decode kp16_3 20 = .ok (.aload_n 2, 1) := by decide +kernel
theorem dp16_3_21 : decode kp16_3 21 = .ok (.invokeinterface 42 1, 5) := by decide +kernel
theorem w153 {Z a0} (hw : Ht a0 Z) : (Cond.selects "java/util/ArrayList$Itr" ⟨"java/util/Iterator", "next", "()Ljava/lang/Object;"⟩ ⟨"java/util/ArrayList$Itr", "next", "()Ljava/lang/Object;"⟩).before a0 Z = true := ht hw 153 rfl
theorem w157 {Z a0} (hw : Ht a0 Z) : (Cond.code ⟨"java/util/ArrayList$Itr", "next", "()Ljava/lang/Object;"⟩ jdk_49_method_3_code (3 : Nat) (Option.some (Jvm.ClassFile.FieldType.object "java/lang/Object"))).before a0 Z = true := ht hw 157 rfl
theorem w150 {Z a0} (hw : Ht a0 Z) : (Cond.methodLink "com/example/tipple/tipple/Totals" (42 : Nat) ⟨"java/util/Iterator", "next", "()Ljava/lang/Object;"⟩).before a0 Z = true := ht hw 150 rfl
theorem w151 {Z a0} (hw : Ht a0 Z) : (Cond.declares ⟨"java/util/Iterator", "next", "()Ljava/lang/Object;"⟩).before a0 Z = true := ht hw 151 rfl
theorem w152 {Z a0} (hw : Ht a0 Z) : (Cond.interfaceMethod "java/util/Iterator" "java/util/Iterator" "next" "()Ljava/lang/Object;").before a0 Z = true := ht hw 152 rfl
theorem w154 {Z a0} (hw : Ht a0 Z) : (Cond.instanceMethod ⟨"java/util/ArrayList$Itr", "next", "()Ljava/lang/Object;"⟩).before a0 Z = true := ht hw 154 rfl
theorem w155 {Z a0} (hw : Ht a0 Z) : (Cond.publicMethod ⟨"java/util/ArrayList$Itr", "next", "()Ljava/lang/Object;"⟩).before a0 Z = true := ht hw 155 rfl
theorem w156 {Z a0} (hw : Ht a0 Z) : (Cond.unhidden "java/util/ArrayList$Itr" "next" "()Ljava/lang/Object;").before a0 Z = true := ht hw 156 rfl
theorem pd_19 : parseMethodDescriptor "()Ljava/lang/Object;" = some ⟨[], some (.object "java/lang/Object")⟩ := by decide +kernel
theorem dp16_3_26 : decode kp16_3 26 = .ok (.checkcast 46, 3) := by decide +kernel
theorem w164 {Z a0} (hw : Ht a0 Z) : (Cond.classLink "com/example/tipple/tipple/Totals" (46 : Nat) "com/example/tipple/tipple/Lot").before a0 Z = true := ht hw 164 rfl
theorem dp16_3_29 : decode kp16_3 29 = .ok (.astore_n 3, 1) := by decide +kernel
theorem dp16_3_30 : decode kp16_3 30 = .ok (.aload_n 1, 1) := by decide +kernel
theorem dp16_3_31 : decode kp16_3 31 = .ok (.aload_n 3, 1) := by decide +kernel
theorem dp16_3_32 : decode kp16_3 32 = .ok (.invokevirtual 55, 3) := by decide +kernel
theorem w169 {Z a0} (hw : Ht a0 Z) : (Cond.selects "com/example/tipple/tipple/Lot" ⟨"com/example/tipple/tipple/Lot", "tons", "()Ljava/math/BigDecimal;"⟩ ⟨"com/example/tipple/tipple/Lot", "tons", "()Ljava/math/BigDecimal;"⟩).before a0 Z = true := ht hw 169 rfl
theorem w170 {Z a0} (hw : Ht a0 Z) : (Cond.code ⟨"com/example/tipple/tipple/Lot", "tons", "()Ljava/math/BigDecimal;"⟩ prog_8_method_7_code (1 : Nat) (Option.some (Jvm.ClassFile.FieldType.object "java/math/BigDecimal"))).before a0 Z = true := ht hw 170 rfl
theorem w166 {Z a0} (hw : Ht a0 Z) : (Cond.methodLink "com/example/tipple/tipple/Totals" (55 : Nat) ⟨"com/example/tipple/tipple/Lot", "tons", "()Ljava/math/BigDecimal;"⟩).before a0 Z = true := ht hw 166 rfl
theorem w167 {Z a0} (hw : Ht a0 Z) : (Cond.declares ⟨"com/example/tipple/tipple/Lot", "tons", "()Ljava/math/BigDecimal;"⟩).before a0 Z = true := ht hw 167 rfl
theorem w168 {Z a0} (hw : Ht a0 Z) : (Cond.instanceMethod ⟨"com/example/tipple/tipple/Lot", "tons", "()Ljava/math/BigDecimal;"⟩).before a0 Z = true := ht hw 168 rfl
theorem pd_20 : parseMethodDescriptor "()Ljava/math/BigDecimal;" = some ⟨[], some (.object "java/math/BigDecimal")⟩ := by decide +kernel
theorem dp16_3_35 : decode kp16_3 35 = .ok (.invokevirtual 58, 3) := by decide +kernel
theorem w174 {Z a0} (hw : Ht a0 Z) : (Cond.selects "java/math/BigDecimal" ⟨"java/math/BigDecimal", "add", "(Ljava/math/BigDecimal;)Ljava/math/BigDecimal;"⟩ ⟨"java/math/BigDecimal", "add", "(Ljava/math/BigDecimal;)Ljava/math/BigDecimal;"⟩).before a0 Z = true := ht hw 174 rfl
theorem w175 {Z a0} (hw : Ht a0 Z) : (Cond.code ⟨"java/math/BigDecimal", "add", "(Ljava/math/BigDecimal;)Ljava/math/BigDecimal;"⟩ jdk_17_method_26_code (2 : Nat) (Option.some (Jvm.ClassFile.FieldType.object "java/math/BigDecimal"))).before a0 Z = true := ht hw 175 rfl
theorem w171 {Z a0} (hw : Ht a0 Z) : (Cond.methodLink "com/example/tipple/tipple/Totals" (58 : Nat) ⟨"java/math/BigDecimal", "add", "(Ljava/math/BigDecimal;)Ljava/math/BigDecimal;"⟩).before a0 Z = true := ht hw 171 rfl
theorem w172 {Z a0} (hw : Ht a0 Z) : (Cond.declares ⟨"java/math/BigDecimal", "add", "(Ljava/math/BigDecimal;)Ljava/math/BigDecimal;"⟩).before a0 Z = true := ht hw 172 rfl
theorem w173 {Z a0} (hw : Ht a0 Z) : (Cond.instanceMethod ⟨"java/math/BigDecimal", "add", "(Ljava/math/BigDecimal;)Ljava/math/BigDecimal;"⟩).before a0 Z = true := ht hw 173 rfl
theorem pd_21 : parseMethodDescriptor "(Ljava/math/BigDecimal;)Ljava/math/BigDecimal;" = some ⟨[(.object "java/math/BigDecimal")], some (.object "java/math/BigDecimal")⟩ := by decide +kernel
theorem dp16_3_38 : decode kp16_3 38 = .ok (.astore_n 1, 1) := by decide +kernel
theorem dp16_3_39 : decode kp16_3 39 = .ok (.goto (-28), 3) := by decide +kernel
def Q_tons1 (Z : State) (a : Addr) (wZ : Addr) (wT : Addr) (wS : Addr) (wP : Addr) (wH : Addr) (kT : ClassId) (kS : ClassId) (kP : ClassId) (kH : ClassId) (zt : Nat → Addr) (zs : Nat → Addr) (el : Addr) (kel : ClassId) (l0 : Addr) (d0 : Addr) (x0 : Int32) (s0 : Int32) (h0 : Heap) (n0 : Nat) (v : Option Value) (h : Heap) (L : List Loc) : Prop := ∃ b : Addr, ∃ z : Int64, ∃ t : Int32, v = some (.ref b) ∧ Fr n0 L ∧ Keep h0 h [] ∧ BDV Z h n0 b z t ∧ Sc t ∧ t = (imax (0 : Int32) s0) ∧ Nv3 z t = Nv3 (x0.toInt64) s0
set_option maxRecDepth 65536 in
set_option maxHeartbeats 40000000 in
theorem tons1 (l : Launch) (Z : State) (a0 : Array Value) (hw : Ht a0 Z) (a : Addr) (wZ : Addr) (wT : Addr) (wS : Addr) (wP : Addr) (wH : Addr) (kT : ClassId) (kS : ClassId) (kP : ClassId) (kH : ClassId) (zt : Nat → Addr) (zs : Nat → Addr) (el : Addr) (kel : ClassId) (l0 : Addr) (d0 : Addr) (x0 : Int32) (s0 : Int32) (h0 : Heap) (n0 : Nat) (Z0 : n0 ≤ h0.size) (O0 : Old Z n0 h0) (P0 : BigS Z wZ wT wS wP wH kT kS kP kH zt zs) (P1 : Exa Z h0 a "java/util/ArrayList") (P2 : Fld Z h0 a "java/util/ArrayList" "size" "I" (.int (1 : Int32))) (P3 : Fld Z h0 a "java/util/AbstractList" "modCount" "I" (.int (1 : Int32))) (P4 : Fld Z h0 a "java/util/ArrayList" "elementData" "[Ljava/lang/Object;" (.ref el)) (P5 : Exa Z h0 el "[Ljava/lang/Object;") (P6 : Arv Z h0 el kel (.object "java/lang/Object") (10 : Int32) [(.ref l0), .null, .null, .null, .null, .null, .null, .null, .null, .null] .null) (P7 : Exa Z h0 l0 "com/example/tipple/tipple/Lot") (P8 : Fld Z h0 l0 "com/example/tipple/tipple/Lot" "tons" "Ljava/math/BigDecimal;" (.ref d0)) (P9 : BDV Z h0 n0 d0 (x0.toInt64) s0) (P10 : Sc s0) :
    Con l Z (⟨"com/example/tipple/tipple/Totals", "tons", "(Ljava/util/List;)Ljava/math/BigDecimal;"⟩ : MethodName) prog_16_method_3_code 4 (some (.object "java/math/BigDecimal")) ({ frames := 8, cells := 2, slots := 9, locals := 123 } : Room) #[(.ref a)] h0 (Q_tons1 Z a wZ wT wS wP wH kT kS kP kH zt zs el kel l0 d0 x0 s0 h0 n0) := by
  refine OwnW.body (Ls := #[rS a, uS, uS, uS]) (plainFor_of_name pn_8) (fun m => by first | (simp [entryFrame, mkF, argsToLocals, Value.category]; done) | rfl) ?_
  intro p e s m below meth c s₁ hx hy hml hown hnm hret hlk hZ X0 e0
  let QQ := Q_tons1 Z a wZ wT wS wP wH kT kS kP kH zt zs el kel l0 d0 x0 s0 h0 n0
  have N0 := Fr.nil n0
  show Go p e below (s₁.setTop (mkF m 0 #[rS a, uS, uS, uS] [])) (EndQ s below ({ frames := 8, cells := 2, slots := 9, locals := 123 } : Room).cells ({ frames := 8, cells := 2, slots := 9, locals := 123 } : Room).slots QQ)
  have ⟨bZ, bZv, bT, bTv, bTa, bS, bSv, bSa, bP, bPv, bH, bHv, bA⟩ := P0
  have s_2 := Sta.ext O0.2 bZ
  obtain ⟨T1, X1, e1, st1⟩ := getS2 X0 hx hZ hown (host := "") (Or.inl (w114 hw)) Via.refl e0 s_2 (g := (mkF m 0 #[rS a,uS,uS,uS] [])) rfl (hb hy dp16_3_0)
  refine gon T1 (mkF m 3 #[rS a,uS,uS,uS] [(.ref wZ)]) (st1) ?_
  refine gon T1 (mkF m 5 #[rS a,rS wZ,uS,uS] [(.ref a)]) (fun _ k => XS.astoreN X1.here hx rfl (hb hy dp16_3_3) rfl rfl (l' := #[rS a, rS wZ, uS, uS]) rfl (XS.aloadN X1.here hx rfl (hb hy dp16_3_4) rfl rfl k)) ?_
  obtain ⟨v3, T3, L3, X3, hQ3, st3⟩ := OwnW.callI X1 hx hZ hown (w115 hw) (w116 hw) (mvT hZ (w117 hw)) (w118 hw) (w119 hw) (w120 hw) (w121 hw) (w77 hw) (w2 hw) (w122 hw) (by decide) (b := a) (alIter l Z a0 hw a (1 : Int32) h0 n0 Z0 P3 P1) e1 P1 (Ls := #[rS a, rS wZ, uS, uS]) (by rw [hml]; rfl) pd_17 (argsL := []) rfl (rest := []) rfl (W := 0) rfl (hb hy dp16_3_5) (by decide) (by decide) (by decide) (by decide)
  obtain ⟨t_4, rfl, Nq3, Kq3, q3_0, q3_1, q3_2, q3_3, q3_4, q3_5⟩ := hQ3
  have N3 := Fr.app N0 Nq3
  refine gon T3 (mkF m 10 #[rS a,rS wZ,uS,uS] [(.ref t_4)]) (st3) ?_
  refine gon T3 (mkF m 12 #[rS a,rS wZ,rS t_4,uS] [(.ref t_4)]) (fun _ k => XS.astoreN X3.here hx rfl (hb hy dp16_3_10) rfl rfl (l' := #[rS a, rS wZ, rS t_4, uS]) rfl (XS.aloadN X3.here hx rfl (hb hy dp16_3_11) rfl rfl k)) ?_
  have c_6 := Fld.keep P2 Kq3 nin0
  have Z_7 : n0 ≤ T3.heap.size := Nat.le_trans Z0 Kq3.1
  obtain ⟨v5, T5, L5, X5, hQ5, st5⟩ := OwnW.callI X3 hx hZ hown (w138 hw) (w139 hw) (mvT hZ (w140 hw)) (w141 hw) (w142 hw) (w143 hw) (w144 hw) (w145 hw) (w125 hw) (w146 hw) (by decide) (b := t_4) (hasNextT l Z a0 hw t_4 a (0 : Int32) (1 : Int32) T3.heap n0 Z_7 q3_2 q3_5 c_6 (by decide : ¬ ((0 : Int32) = (1 : Int32)))) rfl q3_1 (Ls := #[rS a, rS wZ, rS t_4, uS]) (by rw [hml]; rfl) pd_18 (argsL := []) rfl (rest := []) rfl (W := 0) rfl (hb hy dp16_3_12) (by decide) (by decide) (by decide) (by decide)
  obtain ⟨rfl, Nq5, eq5⟩ := hQ5
  have N5 := Fr.app N3 Nq5
  refine gon T5 (mkF m 17 #[rS a,rS wZ,rS t_4,uS] [(.int 1)]) (st5) ?_
  refine gon T5 (mkF m 21 #[rS a,rS wZ,rS t_4,uS] [(.ref t_4)]) (fun _ k => XS.ifNo X5.here hx rfl (hb hy dp16_3_17) rfl ((if0 _ _).trans (feq (by decide : ¬ ((1 : Int32) = (0 : Int32)))).1) (XS.aloadN X5.here hx rfl (hb hy dp16_3_20) rfl rfl k)) ?_
  have g_9 : n0 ≤ t_4 := Nat.le_trans Z0 q3_0
  have c_10 := Exa.keep P1 Kq3
  have c_11 := Fld.keep P3 Kq3 nin0
  have c_12 := Fld.keep P4 Kq3 nin0
  have c_13 := Exa.keep P5 Kq3
  have c_14 := Arv.keep P6 Kq3 nin0
  obtain ⟨v8, T8, L8, X8, hQ8, st8⟩ := OwnW.callI X5 hx hZ hown (w150 hw) (w151 hw) (mvT hZ (w152 hw)) (w153 hw) (w154 hw) (w155 hw) (w156 hw) (w145 hw) (w125 hw) (w157 hw) (by decide) (b := t_4) (next0 l Z a0 hw t_4 a (1 : Int32) (1 : Int32) (-1 : Int32) el kel ([(.ref l0), .null, .null, .null, .null, .null, .null, .null, .null, .null]) l0 T3.heap n0 Z_7 q3_1 g_9 c_10 q3_2 q3_5 q3_3 q3_4 c_11 c_6 c_12 c_13 c_14 (by decide : (0 : Int32) < (1 : Int32)) (rfl : List.getD (α := Value) [(.ref l0), .null, .null, .null, .null, .null, .null, .null, .null, .null] 0 Value.null = Value.ref l0)) eq5 q3_1 (Ls := #[rS a, rS wZ, rS t_4, uS]) (by rw [hml]; rfl) pd_19 (argsL := []) rfl (rest := []) rfl (W := 0) rfl (hb hy dp16_3_21) (by decide) (by decide) (by decide) (by decide)
  obtain ⟨rfl, Nq8, Kq8, q8_0, q8_1, q8_2, q8_3⟩ := hQ8
  have N8 := Fr.app N5 Nq8
  refine gon T8 (mkF m 26 #[rS a,rS wZ,rS t_4,uS] [(.ref l0)]) (st8) ?_
  have c_16 := Exa.keep (Exa.keep P7 Kq3) Kq8
  obtain ⟨T15, X15, e15, st15⟩ := castY X8 hx hZ hown (w164 hw) rfl (Ins.self c_16) (g := (mkF m 26 #[rS a,rS wZ,rS t_4,uS] [(.ref l0)])) rfl rfl (hb hy dp16_3_26)
  refine gon T15 (mkF m 29 #[rS a,rS wZ,rS t_4,uS] [(.ref l0)]) (st15) ?_
  refine gon T15 (mkF m 32 #[rS a,rS wZ,rS t_4,rS l0] [(.ref l0), (.ref wZ)]) (fun _ k => XS.astoreN X15.here hx rfl (hb hy dp16_3_29) rfl rfl (l' := #[rS a, rS wZ, rS t_4, rS l0]) rfl (XS.aloadN X15.here hx rfl (hb hy dp16_3_30) rfl rfl (XS.aloadN X15.here hx rfl (hb hy dp16_3_31) rfl rfl k))) ?_
  have ne_18 : l0 ≠ t_4 := ne_of_born P7.lt q3_0
  have c_19 := Fld.keep (Fld.keep P8 Kq3 nin0) Kq8 (ninS ne_18 nin0)
  have Z_20 : n0 ≤ T8.heap.size := Nat.le_trans Z_7 Kq8.1
  obtain ⟨v17, T17, L17, X17, hQ17, st17⟩ := OwnW.callV X15 hx hZ hown (w166 hw) (w167 hw) (notFace_of_selects (args := #[]) (mvT hZ (w169 hw))) (w169 hw) (w168 hw) (w32 hw) (w170 hw) (by decide) (b := l0) (lotTons l Z a0 hw l0 d0 T8.heap n0 Z_20 c_19) e15 c_16 (Ls := #[rS a, rS wZ, rS t_4, rS l0]) (by rw [hml]; rfl) pd_20 (argsL := []) rfl (rest := [(.ref wZ)]) rfl (W := 1) rfl (hb hy dp16_3_32) (by decide) (by decide) (by decide) (by decide)
  obtain ⟨rfl, Nq17, eq17⟩ := hQ17
  have N17 := Fr.app N8 Nq17
  refine gon T17 (mkF m 35 #[rS a,rS wZ,rS t_4,rS l0] [(.ref d0), (.ref wZ)]) (st17) ?_
  have O_22 : Old Z n0 T3.heap := O0.keep Kq3 all0
  have O_23 : Old Z n0 T8.heap := O_22.keep Kq8 (allS g_9 all0)
  have s_24 := Exa.ext O_23.2 ((bZv n0)).1
  have s_25 := BDV.ext (bZv n0) O_23.2
  have ne_26 : d0 ≠ t_4 := ne_of_born (P9.1).lt q3_0
  have c_27 := BDV.keep (BDV.keep P9 Kq3 nin0) Kq8 (ninS ne_26 nin0)
  obtain ⟨v21, T21, L21, X21, hQ21, st21⟩ := OwnW.callV X17 hx hZ hown (w171 hw) (w172 hw) (notFace_of_selects (args := #[]) (mvT hZ (w174 hw))) (w174 hw) (w173 hw) (w35 hw) (w175 hw) (by decide) (b := wZ) (bdAdd l Z a0 hw wZ d0 wZ wT wS wP wH kT kS kP kH zt zs (0 : Int64) (0 : Int32) (x0.toInt64) s0 T8.heap n0 Z_20 O_23 P0 s_25 c_27 (by unfold Bq; decide : Bq (0 : Int64)) (own_bqI _ : Bq (x0.toInt64)) (by unfold Sc; decide : Sc (0 : Int32)) P10) eq17 s_24 (Ls := #[rS a, rS wZ, rS t_4, rS l0]) (by rw [hml]; rfl) pd_21 (argsL := [(.ref d0)]) rfl (rest := []) rfl (W := 0) rfl (hb hy dp16_3_35) (by decide) (by decide) (by decide) (by decide)
  obtain ⟨b_28, z_29, t_30, rfl, Nq21, Kq21, q21_0, q21_1, q21_2, q21_3⟩ := hQ21
  have N21 := Fr.app N17 Nq21
  refine gon T21 (mkF m 38 #[rS a,rS wZ,rS t_4,rS l0] [(.ref b_28)]) (st21) ?_
  have hm_31 : Nv3 z_29 t_30 = Nv3 (x0.toInt64) s0 := by rw [q21_3, own_nZ]; omega
  have hm_31b : Bq z_29 := own_bqN q21_1 (by rw [hm_31]; have := own_nI x0 P10; omega) (by rw [hm_31]; have := own_nI x0 P10; omega)
  refine gon T21 (mkF m 12 #[rS a,rS b_28,rS t_4,rS l0] [(.ref t_4)]) (fun _ k => XS.astoreN X21.here hx rfl (hb hy dp16_3_38) rfl rfl (l' := #[rS a, rS b_28, rS t_4, rS l0]) rfl (XS.goto X21.here hx rfl (pc0 := 39) (pc' := 11) rfl (hb hy dp16_3_39) (by decide) (by decide) (XS.aloadN X21.here hx rfl (hb hy dp16_3_11) rfl rfl k))) ?_
  have c_33 := Exa.keep (Exa.keep q3_1 Kq8) Kq21
  have c_34 := Fld.keep q8_0 Kq21 nin0
  have c_35 := Fld.keep q8_1 Kq21 nin0
  have ne_36 : a ≠ t_4 := ne_of_born P1.lt q3_0
  have c_37 := Fld.keep (Fld.keep c_6 Kq8 (ninS ne_36 nin0)) Kq21 nin0
  have Z_38 : n0 ≤ T21.heap.size := Nat.le_trans Z_20 Kq21.1
  obtain ⟨v32, T32, L32, X32, hQ32, st32⟩ := OwnW.callI X21 hx hZ hown (w138 hw) (w139 hw) (mvT hZ (w140 hw)) (w141 hw) (w142 hw) (w143 hw) (w144 hw) (w145 hw) (w125 hw) (w146 hw) (by decide) (b := t_4) (hasNextF l Z a0 hw t_4 a (1 : Int32) T21.heap n0 Z_38 c_34 c_35 c_37) rfl c_33 (Ls := #[rS a, rS b_28, rS t_4, rS l0]) (by rw [hml]; rfl) pd_18 (argsL := []) rfl (rest := []) rfl (W := 0) rfl (hb hy dp16_3_12) (by decide) (by decide) (by decide) (by decide)
  obtain ⟨rfl, Nq32, eq32⟩ := hQ32
  have N32 := Fr.app N21 Nq32
  refine gon T32 (mkF m 17 #[rS a,rS b_28,rS t_4,rS l0] [(.int 0)]) (st32) ?_
  refine gon T32 (mkF m 43 #[rS a,rS b_28,rS t_4,rS l0] [(.ref b_28)]) (fun _ k => XS.ifYes X32.here hx rfl (pc0 := 17) (pc' := 42) rfl (hb hy dp16_3_17) rfl ((if0 _ _).trans (teq (by decide : (0 : Int32) = (0 : Int32))).1) (by decide) (by decide) (XS.aloadN X32.here hx rfl (hb hy dp16_3_42) rfl rfl k)) ?_
  have K_39 : Keep h0 T3.heap [] := (Keep.refl h0 []).trans Kq3 all0
  have K_40 : Keep h0 T8.heap [] := K_39.trans Kq8 (allS (Or.inr (Nat.le_trans (Nat.le_refl _) q3_0)) all0)
  have K_41 : Keep h0 T21.heap [] := K_40.trans Kq21 all0
  exact OwnW.retA X32 hx hlk hret rfl rfl (hb hy dp16_3_43) (by decide) (by decide) (show QQ _ T32.heap _ from (by rw [eq32]; exact ⟨b_28, z_29, t_30, rfl, N32, K_41, q21_0, q21_1, (by first | rfl | (rw [q21_2]) : t_30 = (imax (0 : Int32) s0)), (hm_31 : Nv3 z_29 t_30 = Nv3 (x0.toInt64) s0)⟩))
def Q_tons2 (Z : State) (a : Addr) (wZ : Addr) (wT : Addr) (wS : Addr) (wP : Addr) (wH : Addr) (kT : ClassId) (kS : ClassId) (kP : ClassId) (kH : ClassId) (zt : Nat → Addr) (zs : Nat → Addr) (el : Addr) (kel : ClassId) (l0 : Addr) (d0 : Addr) (x0 : Int32) (s0 : Int32) (l1 : Addr) (d1 : Addr) (x1 : Int32) (s1 : Int32) (h0 : Heap) (n0 : Nat) (v : Option Value) (h : Heap) (L : List Loc) : Prop := ∃ b : Addr, ∃ z : Int64, ∃ t : Int32, v = some (.ref b) ∧ Fr n0 L ∧ Keep h0 h [] ∧ BDV Z h n0 b z t ∧ Sc t ∧ t = (imax (imax (0 : Int32) s0) s1) ∧ Nv3 z t = Nv3 (x0.toInt64) s0 + Nv3 (x1.toInt64) s1
set_option maxRecDepth 65536 in
set_option maxHeartbeats 40000000 in
theorem tons2 (l : Launch) (Z : State) (a0 : Array Value) (hw : Ht a0 Z) (a : Addr) (wZ : Addr) (wT : Addr) (wS : Addr) (wP : Addr) (wH : Addr) (kT : ClassId) (kS : ClassId) (kP : ClassId) (kH : ClassId) (zt : Nat → Addr) (zs : Nat → Addr) (el : Addr) (kel : ClassId) (l0 : Addr) (d0 : Addr) (x0 : Int32) (s0 : Int32) (l1 : Addr) (d1 : Addr) (x1 : Int32) (s1 : Int32) (h0 : Heap) (n0 : Nat) (Z0 : n0 ≤ h0.size) (O0 : Old Z n0 h0) (P0 : BigS Z wZ wT wS wP wH kT kS kP kH zt zs) (P1 : Exa Z h0 a "java/util/ArrayList") (P2 : Fld Z h0 a "java/util/ArrayList" "size" "I" (.int (2 : Int32))) (P3 : Fld Z h0 a "java/util/AbstractList" "modCount" "I" (.int (2 : Int32))) (P4 : Fld Z h0 a "java/util/ArrayList" "elementData" "[Ljava/lang/Object;" (.ref el)) (P5 : Exa Z h0 el "[Ljava/lang/Object;") (P6 : Arv Z h0 el kel (.object "java/lang/Object") (10 : Int32) [(.ref l0), (.ref l1), .null, .null, .null, .null, .null, .null, .null, .null] .null) (P7 : Exa Z h0 l0 "com/example/tipple/tipple/Lot") (P8 : Fld Z h0 l0 "com/example/tipple/tipple/Lot" "tons" "Ljava/math/BigDecimal;" (.ref d0)) (P9 : BDV Z h0 n0 d0 (x0.toInt64) s0) (P10 : Sc s0) (P11 : Exa Z h0 l1 "com/example/tipple/tipple/Lot") (P12 : Fld Z h0 l1 "com/example/tipple/tipple/Lot" "tons" "Ljava/math/BigDecimal;" (.ref d1)) (P13 : BDV Z h0 n0 d1 (x1.toInt64) s1) (P14 : Sc s1) :
    Con l Z (⟨"com/example/tipple/tipple/Totals", "tons", "(Ljava/util/List;)Ljava/math/BigDecimal;"⟩ : MethodName) prog_16_method_3_code 4 (some (.object "java/math/BigDecimal")) ({ frames := 8, cells := 3, slots := 14, locals := 123 } : Room) #[(.ref a)] h0 (Q_tons2 Z a wZ wT wS wP wH kT kS kP kH zt zs el kel l0 d0 x0 s0 l1 d1 x1 s1 h0 n0) := by
  refine OwnW.body (Ls := #[rS a, uS, uS, uS]) (plainFor_of_name pn_8) (fun m => by first | (simp [entryFrame, mkF, argsToLocals, Value.category]; done) | rfl) ?_
  intro p e s m below meth c s₁ hx hy hml hown hnm hret hlk hZ X0 e0
  let QQ := Q_tons2 Z a wZ wT wS wP wH kT kS kP kH zt zs el kel l0 d0 x0 s0 l1 d1 x1 s1 h0 n0
  have N0 := Fr.nil n0
  show Go p e below (s₁.setTop (mkF m 0 #[rS a, uS, uS, uS] [])) (EndQ s below ({ frames := 8, cells := 3, slots := 14, locals := 123 } : Room).cells ({ frames := 8, cells := 3, slots := 14, locals := 123 } : Room).slots QQ)
  have ⟨bZ, bZv, bT, bTv, bTa, bS, bSv, bSa, bP, bPv, bH, bHv, bA⟩ := P0
  have s_2 := Sta.ext O0.2 bZ
  obtain ⟨T1, X1, e1, st1⟩ := getS2 X0 hx hZ hown (host := "") (Or.inl (w114 hw)) Via.refl e0 s_2 (g := (mkF m 0 #[rS a,uS,uS,uS] [])) rfl (hb hy dp16_3_0)
  refine gon T1 (mkF m 3 #[rS a,uS,uS,uS] [(.ref wZ)]) (st1) ?_
  refine gon T1 (mkF m 5 #[rS a,rS wZ,uS,uS] [(.ref a)]) (fun _ k => XS.astoreN X1.here hx rfl (hb hy dp16_3_3) rfl rfl (l' := #[rS a, rS wZ, uS, uS]) rfl (XS.aloadN X1.here hx rfl (hb hy dp16_3_4) rfl rfl k)) ?_
  obtain ⟨v3, T3, L3, X3, hQ3, st3⟩ := OwnW.callI X1 hx hZ hown (w115 hw) (w116 hw) (mvT hZ (w117 hw)) (w118 hw) (w119 hw) (w120 hw) (w121 hw) (w77 hw) (w2 hw) (w122 hw) (by decide) (b := a) (alIter l Z a0 hw a (2 : Int32) h0 n0 Z0 P3 P1) e1 P1 (Ls := #[rS a, rS wZ, uS, uS]) (by rw [hml]; rfl) pd_17 (argsL := []) rfl (rest := []) rfl (W := 0) rfl (hb hy dp16_3_5) (by decide) (by decide) (by decide) (by decide)
  obtain ⟨t_4, rfl, Nq3, Kq3, q3_0, q3_1, q3_2, q3_3, q3_4, q3_5⟩ := hQ3
  have N3 := Fr.app N0 Nq3
  refine gon T3 (mkF m 10 #[rS a,rS wZ,uS,uS] [(.ref t_4)]) (st3) ?_
  refine gon T3 (mkF m 12 #[rS a,rS wZ,rS t_4,uS] [(.ref t_4)]) (fun _ k => XS.astoreN X3.here hx rfl (hb hy dp16_3_10) rfl rfl (l' := #[rS a, rS wZ, rS t_4, uS]) rfl (XS.aloadN X3.here hx rfl (hb hy dp16_3_11) rfl rfl k)) ?_
  have c_6 := Fld.keep P2 Kq3 nin0
  have Z_7 : n0 ≤ T3.heap.size := Nat.le_trans Z0 Kq3.1
  obtain ⟨v5, T5, L5, X5, hQ5, st5⟩ := OwnW.callI X3 hx hZ hown (w138 hw) (w139 hw) (mvT hZ (w140 hw)) (w141 hw) (w142 hw) (w143 hw) (w144 hw) (w145 hw) (w125 hw) (w146 hw) (by decide) (b := t_4) (hasNextT l Z a0 hw t_4 a (0 : Int32) (2 : Int32) T3.heap n0 Z_7 q3_2 q3_5 c_6 (by decide : ¬ ((0 : Int32) = (2 : Int32)))) rfl q3_1 (Ls := #[rS a, rS wZ, rS t_4, uS]) (by rw [hml]; rfl) pd_18 (argsL := []) rfl (rest := []) rfl (W := 0) rfl (hb hy dp16_3_12) (by decide) (by decide) (by decide) (by decide)
  obtain ⟨rfl, Nq5, eq5⟩ := hQ5
  have N5 := Fr.app N3 Nq5
  refine gon T5 (mkF m 17 #[rS a,rS wZ,rS t_4,uS] [(.int 1)]) (st5) ?_
  refine gon T5 (mkF m 21 #[rS a,rS wZ,rS t_4,uS] [(.ref t_4)]) (fun _ k => XS.ifNo X5.here hx rfl (hb hy dp16_3_17) rfl ((if0 _ _).trans (feq (by decide : ¬ ((1 : Int32) = (0 : Int32)))).1) (XS.aloadN X5.here hx rfl (hb hy dp16_3_20) rfl rfl k)) ?_
  have g_9 : n0 ≤ t_4 := Nat.le_trans Z0 q3_0
  have c_10 := Exa.keep P1 Kq3
  have c_11 := Fld.keep P3 Kq3 nin0
  have c_12 := Fld.keep P4 Kq3 nin0
  have c_13 := Exa.keep P5 Kq3
  have c_14 := Arv.keep P6 Kq3 nin0
  obtain ⟨v8, T8, L8, X8, hQ8, st8⟩ := OwnW.callI X5 hx hZ hown (w150 hw) (w151 hw) (mvT hZ (w152 hw)) (w153 hw) (w154 hw) (w155 hw) (w156 hw) (w145 hw) (w125 hw) (w157 hw) (by decide) (b := t_4) (next0 l Z a0 hw t_4 a (2 : Int32) (2 : Int32) (-1 : Int32) el kel ([(.ref l0), (.ref l1), .null, .null, .null, .null, .null, .null, .null, .null]) l0 T3.heap n0 Z_7 q3_1 g_9 c_10 q3_2 q3_5 q3_3 q3_4 c_11 c_6 c_12 c_13 c_14 (by decide : (0 : Int32) < (2 : Int32)) (rfl : List.getD (α := Value) [(.ref l0), (.ref l1), .null, .null, .null, .null, .null, .null, .null, .null] 0 Value.null = Value.ref l0)) eq5 q3_1 (Ls := #[rS a, rS wZ, rS t_4, uS]) (by rw [hml]; rfl) pd_19 (argsL := []) rfl (rest := []) rfl (W := 0) rfl (hb hy dp16_3_21) (by decide) (by decide) (by decide) (by decide)
  obtain ⟨rfl, Nq8, Kq8, q8_0, q8_1, q8_2, q8_3⟩ := hQ8
  have N8 := Fr.app N5 Nq8
  refine gon T8 (mkF m 26 #[rS a,rS wZ,rS t_4,uS] [(.ref l0)]) (st8) ?_
  have c_16 := Exa.keep (Exa.keep P7 Kq3) Kq8
  obtain ⟨T15, X15, e15, st15⟩ := castY X8 hx hZ hown (w164 hw) rfl (Ins.self c_16) (g := (mkF m 26 #[rS a,rS wZ,rS t_4,uS] [(.ref l0)])) rfl rfl (hb hy dp16_3_26)
  refine gon T15 (mkF m 29 #[rS a,rS wZ,rS t_4,uS] [(.ref l0)]) (st15) ?_
  refine gon T15 (mkF m 32 #[rS a,rS wZ,rS t_4,rS l0] [(.ref l0), (.ref wZ)]) (fun _ k => XS.astoreN X15.here hx rfl (hb hy dp16_3_29) rfl rfl (l' := #[rS a, rS wZ, rS t_4, rS l0]) rfl (XS.aloadN X15.here hx rfl (hb hy dp16_3_30) rfl rfl (XS.aloadN X15.here hx rfl (hb hy dp16_3_31) rfl rfl k))) ?_
  have ne_18 : l0 ≠ t_4 := ne_of_born P7.lt q3_0
  have c_19 := Fld.keep (Fld.keep P8 Kq3 nin0) Kq8 (ninS ne_18 nin0)
  have Z_20 : n0 ≤ T8.heap.size := Nat.le_trans Z_7 Kq8.1
  obtain ⟨v17, T17, L17, X17, hQ17, st17⟩ := OwnW.callV X15 hx hZ hown (w166 hw) (w167 hw) (notFace_of_selects (args := #[]) (mvT hZ (w169 hw))) (w169 hw) (w168 hw) (w32 hw) (w170 hw) (by decide) (b := l0) (lotTons l Z a0 hw l0 d0 T8.heap n0 Z_20 c_19) e15 c_16 (Ls := #[rS a, rS wZ, rS t_4, rS l0]) (by rw [hml]; rfl) pd_20 (argsL := []) rfl (rest := [(.ref wZ)]) rfl (W := 1) rfl (hb hy dp16_3_32) (by decide) (by decide) (by decide) (by decide)
  obtain ⟨rfl, Nq17, eq17⟩ := hQ17
  have N17 := Fr.app N8 Nq17
  refine gon T17 (mkF m 35 #[rS a,rS wZ,rS t_4,rS l0] [(.ref d0), (.ref wZ)]) (st17) ?_
  have O_22 : Old Z n0 T3.heap := O0.keep Kq3 all0
  have O_23 : Old Z n0 T8.heap := O_22.keep Kq8 (allS g_9 all0)
  have s_24 := Exa.ext O_23.2 ((bZv n0)).1
  have s_25 := BDV.ext (bZv n0) O_23.2
  have ne_26 : d0 ≠ t_4 := ne_of_born (P9.1).lt q3_0
  have c_27 := BDV.keep (BDV.keep P9 Kq3 nin0) Kq8 (ninS ne_26 nin0)
  obtain ⟨v21, T21, L21, X21, hQ21, st21⟩ := OwnW.callV X17 hx hZ hown (w171 hw) (w172 hw) (notFace_of_selects (args := #[]) (mvT hZ (w174 hw))) (w174 hw) (w173 hw) (w35 hw) (w175 hw) (by decide) (b := wZ) (bdAdd l Z a0 hw wZ d0 wZ wT wS wP wH kT kS kP kH zt zs (0 : Int64) (0 : Int32) (x0.toInt64) s0 T8.heap n0 Z_20 O_23 P0 s_25 c_27 (by unfold Bq; decide : Bq (0 : Int64)) (own_bqI _ : Bq (x0.toInt64)) (by unfold Sc; decide : Sc (0 : Int32)) P10) eq17 s_24 (Ls := #[rS a, rS wZ, rS t_4, rS l0]) (by rw [hml]; rfl) pd_21 (argsL := [(.ref d0)]) rfl (rest := []) rfl (W := 0) rfl (hb hy dp16_3_35) (by decide) (by decide) (by decide) (by decide)
  obtain ⟨b_28, z_29, t_30, rfl, Nq21, Kq21, q21_0, q21_1, q21_2, q21_3⟩ := hQ21
  have N21 := Fr.app N17 Nq21
  refine gon T21 (mkF m 38 #[rS a,rS wZ,rS t_4,rS l0] [(.ref b_28)]) (st21) ?_
  have hm_31 : Nv3 z_29 t_30 = Nv3 (x0.toInt64) s0 := by rw [q21_3, own_nZ]; omega
  have hm_31b : Bq z_29 := own_bqN q21_1 (by rw [hm_31]; have := own_nI x0 P10; omega) (by rw [hm_31]; have := own_nI x0 P10; omega)
  refine gon T21 (mkF m 12 #[rS a,rS b_28,rS t_4,rS l0] [(.ref t_4)]) (fun _ k => XS.astoreN X21.here hx rfl (hb hy dp16_3_38) rfl rfl (l' := #[rS a, rS b_28, rS t_4, rS l0]) rfl (XS.goto X21.here hx rfl (pc0 := 39) (pc' := 11) rfl (hb hy dp16_3_39) (by decide) (by decide) (XS.aloadN X21.here hx rfl (hb hy dp16_3_11) rfl rfl k))) ?_
  have c_33 := Exa.keep (Exa.keep q3_1 Kq8) Kq21
  have c_34 := Fld.keep q8_0 Kq21 nin0
  have c_35 := Fld.keep q8_1 Kq21 nin0
  have ne_36 : a ≠ t_4 := ne_of_born P1.lt q3_0
  have c_37 := Fld.keep (Fld.keep c_6 Kq8 (ninS ne_36 nin0)) Kq21 nin0
  have Z_38 : n0 ≤ T21.heap.size := Nat.le_trans Z_20 Kq21.1
  obtain ⟨v32, T32, L32, X32, hQ32, st32⟩ := OwnW.callI X21 hx hZ hown (w138 hw) (w139 hw) (mvT hZ (w140 hw)) (w141 hw) (w142 hw) (w143 hw) (w144 hw) (w145 hw) (w125 hw) (w146 hw) (by decide) (b := t_4) (hasNextT l Z a0 hw t_4 a (1 : Int32) (2 : Int32) T21.heap n0 Z_38 c_34 c_35 c_37 (by decide : ¬ ((1 : Int32) = (2 : Int32)))) rfl c_33 (Ls := #[rS a, rS b_28, rS t_4, rS l0]) (by rw [hml]; rfl) pd_18 (argsL := []) rfl (rest := []) rfl (W := 0) rfl (hb hy dp16_3_12) (by decide) (by decide) (by decide) (by decide)
  obtain ⟨rfl, Nq32, eq32⟩ := hQ32
  have N32 := Fr.app N21 Nq32
  refine gon T32 (mkF m 17 #[rS a,rS b_28,rS t_4,rS l0] [(.int 1)]) (st32) ?_
  refine gon T32 (mkF m 21 #[rS a,rS b_28,rS t_4,rS l0] [(.ref t_4)]) (fun _ k => XS.ifNo X32.here hx rfl (hb hy dp16_3_17) rfl ((if0 _ _).trans (feq (by decide : ¬ ((1 : Int32) = (0 : Int32)))).1) (XS.aloadN X32.here hx rfl (hb hy dp16_3_20) rfl rfl k)) ?_
  have c_40 := Exa.keep (Exa.keep c_10 Kq8) Kq21
  have c_41 := Fld.keep q8_2 Kq21 nin0
  have c_42 := Fld.keep q8_3 Kq21 nin0
  have c_43 := Fld.keep (Fld.keep c_11 Kq8 (ninS ne_36 nin0)) Kq21 nin0
  have c_44 := Fld.keep (Fld.keep c_12 Kq8 (ninS ne_36 nin0)) Kq21 nin0
  have c_45 := Exa.keep (Exa.keep c_13 Kq8) Kq21
  have ne_46 : el ≠ t_4 := ne_of_born P5.lt q3_0
  have c_47 := Arv.keep (Arv.keep c_14 Kq8 (ninS ne_46 nin0)) Kq21 nin0
  obtain ⟨v39, T39, L39, X39, hQ39, st39⟩ := OwnW.callI X32 hx hZ hown (w150 hw) (w151 hw) (mvT hZ (w152 hw)) (w153 hw) (w154 hw) (w155 hw) (w156 hw) (w145 hw) (w125 hw) (w157 hw) (by decide) (b := t_4) (next1 l Z a0 hw t_4 a (2 : Int32) (2 : Int32) (0 : Int32) el kel ([(.ref l0), (.ref l1), .null, .null, .null, .null, .null, .null, .null, .null]) l1 T21.heap n0 Z_38 c_33 g_9 c_40 c_34 c_35 c_41 c_42 c_43 c_37 c_44 c_45 c_47 (by decide : (1 : Int32) < (2 : Int32)) (rfl : List.getD (α := Value) [(.ref l0), (.ref l1), .null, .null, .null, .null, .null, .null, .null, .null] 1 Value.null = Value.ref l1)) eq32 c_33 (Ls := #[rS a, rS b_28, rS t_4, rS l0]) (by rw [hml]; rfl) pd_19 (argsL := []) rfl (rest := []) rfl (W := 0) rfl (hb hy dp16_3_21) (by decide) (by decide) (by decide) (by decide)
  obtain ⟨rfl, Nq39, Kq39, q39_0, q39_1, q39_2, q39_3⟩ := hQ39
  have N39 := Fr.app N32 Nq39
  refine gon T39 (mkF m 26 #[rS a,rS b_28,rS t_4,rS l0] [(.ref l1)]) (st39) ?_
  have c_49 := Exa.keep (Exa.keep (Exa.keep (Exa.keep P11 Kq3) Kq8) Kq21) Kq39
  obtain ⟨T48, X48, e48, st48⟩ := castY X39 hx hZ hown (w164 hw) rfl (Ins.self c_49) (g := (mkF m 26 #[rS a,rS b_28,rS t_4,rS l0] [(.ref l1)])) rfl rfl (hb hy dp16_3_26)
  refine gon T48 (mkF m 29 #[rS a,rS b_28,rS t_4,rS l0] [(.ref l1)]) (st48) ?_
  refine gon T48 (mkF m 32 #[rS a,rS b_28,rS t_4,rS l1] [(.ref l1), (.ref b_28)]) (fun _ k => XS.astoreN X48.here hx rfl (hb hy dp16_3_29) rfl rfl (l' := #[rS a, rS b_28, rS t_4, rS l1]) rfl (XS.aloadN X48.here hx rfl (hb hy dp16_3_30) rfl rfl (XS.aloadN X48.here hx rfl (hb hy dp16_3_31) rfl rfl k))) ?_
  have ne_51 : l1 ≠ t_4 := ne_of_born P11.lt q3_0
  have c_52 := Fld.keep (Fld.keep (Fld.keep (Fld.keep P12 Kq3 nin0) Kq8 (ninS ne_51 nin0)) Kq21 nin0) Kq39 (ninS ne_51 nin0)
  have Z_53 : n0 ≤ T39.heap.size := Nat.le_trans Z_38 Kq39.1
  obtain ⟨v50, T50, L50, X50, hQ50, st50⟩ := OwnW.callV X48 hx hZ hown (w166 hw) (w167 hw) (notFace_of_selects (args := #[]) (mvT hZ (w169 hw))) (w169 hw) (w168 hw) (w32 hw) (w170 hw) (by decide) (b := l1) (lotTons l Z a0 hw l1 d1 T39.heap n0 Z_53 c_52) e48 c_49 (Ls := #[rS a, rS b_28, rS t_4, rS l1]) (by rw [hml]; rfl) pd_20 (argsL := []) rfl (rest := [(.ref b_28)]) rfl (W := 1) rfl (hb hy dp16_3_32) (by decide) (by decide) (by decide) (by decide)
  obtain ⟨rfl, Nq50, eq50⟩ := hQ50
  have N50 := Fr.app N39 Nq50
  refine gon T50 (mkF m 35 #[rS a,rS b_28,rS t_4,rS l1] [(.ref d1), (.ref b_28)]) (st50) ?_
  have c_55 := Exa.keep q21_0.1 Kq39
  have c_56 := Exa.keep c_33 Kq39
  have ne_57 : b_28 ≠ t_4 := ne_exa c_55 c_56 (by decide)
  have c_58 := BDV.keep q21_0 Kq39 (ninS ne_57 nin0)
  have ne_59 : d1 ≠ t_4 := ne_of_born (P13.1).lt q3_0
  have c_60 := BDV.keep (BDV.keep (BDV.keep (BDV.keep P13 Kq3 nin0) Kq8 (ninS ne_59 nin0)) Kq21 nin0) Kq39 (ninS ne_59 nin0)
  have O_61 : Old Z n0 T21.heap := O_23.keep Kq21 all0
  have O_62 : Old Z n0 T39.heap := O_61.keep Kq39 (allS g_9 all0)
  obtain ⟨v54, T54, L54, X54, hQ54, st54⟩ := OwnW.callV X50 hx hZ hown (w171 hw) (w172 hw) (notFace_of_selects (args := #[]) (mvT hZ (w174 hw))) (w174 hw) (w173 hw) (w35 hw) (w175 hw) (by decide) (b := b_28) (bdAdd l Z a0 hw b_28 d1 wZ wT wS wP wH kT kS kP kH zt zs z_29 t_30 (x1.toInt64) s1 T39.heap n0 Z_53 O_62 P0 c_58 c_60 hm_31b (own_bqI _ : Bq (x1.toInt64)) q21_1 P14) eq50 c_55 (Ls := #[rS a, rS b_28, rS t_4, rS l1]) (by rw [hml]; rfl) pd_21 (argsL := [(.ref d1)]) rfl (rest := []) rfl (W := 0) rfl (hb hy dp16_3_35) (by decide) (by decide) (by decide) (by decide)
  obtain ⟨b_63, z_64, t_65, rfl, Nq54, Kq54, q54_0, q54_1, q54_2, q54_3⟩ := hQ54
  have N54 := Fr.app N50 Nq54
  refine gon T54 (mkF m 38 #[rS a,rS b_28,rS t_4,rS l1] [(.ref b_63)]) (st54) ?_
  have hm_66 : Nv3 z_64 t_65 = Nv3 (x0.toInt64) s0 + Nv3 (x1.toInt64) s1 := by rw [q54_3, hm_31]
  have hm_66b : Bq z_64 := own_bqN q54_1 (by rw [hm_66]; have := own_nI x0 P10; have := own_nI x1 P14; omega) (by rw [hm_66]; have := own_nI x0 P10; have := own_nI x1 P14; omega)
  refine gon T54 (mkF m 12 #[rS a,rS b_63,rS t_4,rS l1] [(.ref t_4)]) (fun _ k => XS.astoreN X54.here hx rfl (hb hy dp16_3_38) rfl rfl (l' := #[rS a, rS b_63, rS t_4, rS l1]) rfl (XS.goto X54.here hx rfl (pc0 := 39) (pc' := 11) rfl (hb hy dp16_3_39) (by decide) (by decide) (XS.aloadN X54.here hx rfl (hb hy dp16_3_11) rfl rfl k))) ?_
  have c_68 := Exa.keep (Exa.keep c_33 Kq39) Kq54
  have c_69 := Fld.keep q39_0 Kq54 nin0
  have c_70 := Fld.keep q39_1 Kq54 nin0
  have c_71 := Fld.keep (Fld.keep c_37 Kq39 (ninS ne_36 nin0)) Kq54 nin0
  have Z_72 : n0 ≤ T54.heap.size := Nat.le_trans Z_53 Kq54.1
  obtain ⟨v67, T67, L67, X67, hQ67, st67⟩ := OwnW.callI X54 hx hZ hown (w138 hw) (w139 hw) (mvT hZ (w140 hw)) (w141 hw) (w142 hw) (w143 hw) (w144 hw) (w145 hw) (w125 hw) (w146 hw) (by decide) (b := t_4) (hasNextF l Z a0 hw t_4 a (2 : Int32) T54.heap n0 Z_72 c_69 c_70 c_71) rfl c_68 (Ls := #[rS a, rS b_63, rS t_4, rS l1]) (by rw [hml]; rfl) pd_18 (argsL := []) rfl (rest := []) rfl (W := 0) rfl (hb hy dp16_3_12) (by decide) (by decide) (by decide) (by decide)
  obtain ⟨rfl, Nq67, eq67⟩ := hQ67
  have N67 := Fr.app N54 Nq67
  refine gon T67 (mkF m 17 #[rS a,rS b_63,rS t_4,rS l1] [(.int 0)]) (st67) ?_
  refine gon T67 (mkF m 43 #[rS a,rS b_63,rS t_4,rS l1] [(.ref b_63)]) (fun _ k => XS.ifYes X67.here hx rfl (pc0 := 17) (pc' := 42) rfl (hb hy dp16_3_17) rfl ((if0 _ _).trans (teq (by decide : (0 : Int32) = (0 : Int32))).1) (by decide) (by decide) (XS.aloadN X67.here hx rfl (hb hy dp16_3_42) rfl rfl k)) ?_
  have K_73 : Keep h0 T3.heap [] := (Keep.refl h0 []).trans Kq3 all0
  have K_74 : Keep h0 T8.heap [] := K_73.trans Kq8 (allS (Or.inr (Nat.le_trans (Nat.le_refl _) q3_0)) all0)
  have K_75 : Keep h0 T21.heap [] := K_74.trans Kq21 all0
  have K_76 : Keep h0 T39.heap [] := K_75.trans Kq39 (allS (Or.inr (Nat.le_trans (Nat.le_refl _) q3_0)) all0)
  have K_77 : Keep h0 T54.heap [] := K_76.trans Kq54 all0
  exact OwnW.retA X67 hx hlk hret rfl rfl (hb hy dp16_3_43) (by decide) (by decide) (show QQ _ T67.heap _ from (by rw [eq67]; exact ⟨b_63, z_64, t_65, rfl, N67, K_77, q54_0, q54_1, (by first | rfl | (rw [q54_2, q21_2]) : t_65 = (imax (imax (0 : Int32) s0) s1)), (hm_66 : Nv3 z_64 t_65 = Nv3 (x0.toInt64) s0 + Nv3 (x1.toInt64) s1)⟩))
def Q_tons3 (Z : State) (a : Addr) (wZ : Addr) (wT : Addr) (wS : Addr) (wP : Addr) (wH : Addr) (kT : ClassId) (kS : ClassId) (kP : ClassId) (kH : ClassId) (zt : Nat → Addr) (zs : Nat → Addr) (el : Addr) (kel : ClassId) (l0 : Addr) (d0 : Addr) (x0 : Int32) (s0 : Int32) (l1 : Addr) (d1 : Addr) (x1 : Int32) (s1 : Int32) (l2 : Addr) (d2 : Addr) (x2 : Int32) (s2 : Int32) (h0 : Heap) (n0 : Nat) (v : Option Value) (h : Heap) (L : List Loc) : Prop := ∃ b : Addr, ∃ z : Int64, ∃ t : Int32, v = some (.ref b) ∧ Fr n0 L ∧ Keep h0 h [] ∧ BDV Z h n0 b z t ∧ Sc t ∧ t = (imax (imax (imax (0 : Int32) s0) s1) s2) ∧ Nv3 z t = Nv3 (x0.toInt64) s0 + Nv3 (x1.toInt64) s1 + Nv3 (x2.toInt64) s2
set_option maxRecDepth 65536 in
set_option maxHeartbeats 40000000 in
theorem tons3 (l : Launch) (Z : State) (a0 : Array Value) (hw : Ht a0 Z) (a : Addr) (wZ : Addr) (wT : Addr) (wS : Addr) (wP : Addr) (wH : Addr) (kT : ClassId) (kS : ClassId) (kP : ClassId) (kH : ClassId) (zt : Nat → Addr) (zs : Nat → Addr) (el : Addr) (kel : ClassId) (l0 : Addr) (d0 : Addr) (x0 : Int32) (s0 : Int32) (l1 : Addr) (d1 : Addr) (x1 : Int32) (s1 : Int32) (l2 : Addr) (d2 : Addr) (x2 : Int32) (s2 : Int32) (h0 : Heap) (n0 : Nat) (Z0 : n0 ≤ h0.size) (O0 : Old Z n0 h0) (P0 : BigS Z wZ wT wS wP wH kT kS kP kH zt zs) (P1 : Exa Z h0 a "java/util/ArrayList") (P2 : Fld Z h0 a "java/util/ArrayList" "size" "I" (.int (3 : Int32))) (P3 : Fld Z h0 a "java/util/AbstractList" "modCount" "I" (.int (3 : Int32))) (P4 : Fld Z h0 a "java/util/ArrayList" "elementData" "[Ljava/lang/Object;" (.ref el)) (P5 : Exa Z h0 el "[Ljava/lang/Object;") (P6 : Arv Z h0 el kel (.object "java/lang/Object") (10 : Int32) [(.ref l0), (.ref l1), (.ref l2), .null, .null, .null, .null, .null, .null, .null] .null) (P7 : Exa Z h0 l0 "com/example/tipple/tipple/Lot") (P8 : Fld Z h0 l0 "com/example/tipple/tipple/Lot" "tons" "Ljava/math/BigDecimal;" (.ref d0)) (P9 : BDV Z h0 n0 d0 (x0.toInt64) s0) (P10 : Sc s0) (P11 : Exa Z h0 l1 "com/example/tipple/tipple/Lot") (P12 : Fld Z h0 l1 "com/example/tipple/tipple/Lot" "tons" "Ljava/math/BigDecimal;" (.ref d1)) (P13 : BDV Z h0 n0 d1 (x1.toInt64) s1) (P14 : Sc s1) (P15 : Exa Z h0 l2 "com/example/tipple/tipple/Lot") (P16 : Fld Z h0 l2 "com/example/tipple/tipple/Lot" "tons" "Ljava/math/BigDecimal;" (.ref d2)) (P17 : BDV Z h0 n0 d2 (x2.toInt64) s2) (P18 : Sc s2) :
    Con l Z (⟨"com/example/tipple/tipple/Totals", "tons", "(Ljava/util/List;)Ljava/math/BigDecimal;"⟩ : MethodName) prog_16_method_3_code 4 (some (.object "java/math/BigDecimal")) ({ frames := 8, cells := 4, slots := 19, locals := 123 } : Room) #[(.ref a)] h0 (Q_tons3 Z a wZ wT wS wP wH kT kS kP kH zt zs el kel l0 d0 x0 s0 l1 d1 x1 s1 l2 d2 x2 s2 h0 n0) := by
  refine OwnW.body (Ls := #[rS a, uS, uS, uS]) (plainFor_of_name pn_8) (fun m => by first | (simp [entryFrame, mkF, argsToLocals, Value.category]; done) | rfl) ?_
  intro p e s m below meth c s₁ hx hy hml hown hnm hret hlk hZ X0 e0
  let QQ := Q_tons3 Z a wZ wT wS wP wH kT kS kP kH zt zs el kel l0 d0 x0 s0 l1 d1 x1 s1 l2 d2 x2 s2 h0 n0
  have N0 := Fr.nil n0
  show Go p e below (s₁.setTop (mkF m 0 #[rS a, uS, uS, uS] [])) (EndQ s below ({ frames := 8, cells := 4, slots := 19, locals := 123 } : Room).cells ({ frames := 8, cells := 4, slots := 19, locals := 123 } : Room).slots QQ)
  have ⟨bZ, bZv, bT, bTv, bTa, bS, bSv, bSa, bP, bPv, bH, bHv, bA⟩ := P0
  have s_2 := Sta.ext O0.2 bZ
  obtain ⟨T1, X1, e1, st1⟩ := getS2 X0 hx hZ hown (host := "") (Or.inl (w114 hw)) Via.refl e0 s_2 (g := (mkF m 0 #[rS a,uS,uS,uS] [])) rfl (hb hy dp16_3_0)
  refine gon T1 (mkF m 3 #[rS a,uS,uS,uS] [(.ref wZ)]) (st1) ?_
  refine gon T1 (mkF m 5 #[rS a,rS wZ,uS,uS] [(.ref a)]) (fun _ k => XS.astoreN X1.here hx rfl (hb hy dp16_3_3) rfl rfl (l' := #[rS a, rS wZ, uS, uS]) rfl (XS.aloadN X1.here hx rfl (hb hy dp16_3_4) rfl rfl k)) ?_
  obtain ⟨v3, T3, L3, X3, hQ3, st3⟩ := OwnW.callI X1 hx hZ hown (w115 hw) (w116 hw) (mvT hZ (w117 hw)) (w118 hw) (w119 hw) (w120 hw) (w121 hw) (w77 hw) (w2 hw) (w122 hw) (by decide) (b := a) (alIter l Z a0 hw a (3 : Int32) h0 n0 Z0 P3 P1) e1 P1 (Ls := #[rS a, rS wZ, uS, uS]) (by rw [hml]; rfl) pd_17 (argsL := []) rfl (rest := []) rfl (W := 0) rfl (hb hy dp16_3_5) (by decide) (by decide) (by decide) (by decide)
  obtain ⟨t_4, rfl, Nq3, Kq3, q3_0, q3_1, q3_2, q3_3, q3_4, q3_5⟩ := hQ3
  have N3 := Fr.app N0 Nq3
  refine gon T3 (mkF m 10 #[rS a,rS wZ,uS,uS] [(.ref t_4)]) (st3) ?_
  refine gon T3 (mkF m 12 #[rS a,rS wZ,rS t_4,uS] [(.ref t_4)]) (fun _ k => XS.astoreN X3.here hx rfl (hb hy dp16_3_10) rfl rfl (l' := #[rS a, rS wZ, rS t_4, uS]) rfl (XS.aloadN X3.here hx rfl (hb hy dp16_3_11) rfl rfl k)) ?_
  have c_6 := Fld.keep P2 Kq3 nin0
  have Z_7 : n0 ≤ T3.heap.size := Nat.le_trans Z0 Kq3.1
  obtain ⟨v5, T5, L5, X5, hQ5, st5⟩ := OwnW.callI X3 hx hZ hown (w138 hw) (w139 hw) (mvT hZ (w140 hw)) (w141 hw) (w142 hw) (w143 hw) (w144 hw) (w145 hw) (w125 hw) (w146 hw) (by decide) (b := t_4) (hasNextT l Z a0 hw t_4 a (0 : Int32) (3 : Int32) T3.heap n0 Z_7 q3_2 q3_5 c_6 (by decide : ¬ ((0 : Int32) = (3 : Int32)))) rfl q3_1 (Ls := #[rS a, rS wZ, rS t_4, uS]) (by rw [hml]; rfl) pd_18 (argsL := []) rfl (rest := []) rfl (W := 0) rfl (hb hy dp16_3_12) (by decide) (by decide) (by decide) (by decide)
  obtain ⟨rfl, Nq5, eq5⟩ := hQ5
  have N5 := Fr.app N3 Nq5
  refine gon T5 (mkF m 17 #[rS a,rS wZ,rS t_4,uS] [(.int 1)]) (st5) ?_
  refine gon T5 (mkF m 21 #[rS a,rS wZ,rS t_4,uS] [(.ref t_4)]) (fun _ k => XS.ifNo X5.here hx rfl (hb hy dp16_3_17) rfl ((if0 _ _).trans (feq (by decide : ¬ ((1 : Int32) = (0 : Int32)))).1) (XS.aloadN X5.here hx rfl (hb hy dp16_3_20) rfl rfl k)) ?_
  have g_9 : n0 ≤ t_4 := Nat.le_trans Z0 q3_0
  have c_10 := Exa.keep P1 Kq3
  have c_11 := Fld.keep P3 Kq3 nin0
  have c_12 := Fld.keep P4 Kq3 nin0
  have c_13 := Exa.keep P5 Kq3
  have c_14 := Arv.keep P6 Kq3 nin0
  obtain ⟨v8, T8, L8, X8, hQ8, st8⟩ := OwnW.callI X5 hx hZ hown (w150 hw) (w151 hw) (mvT hZ (w152 hw)) (w153 hw) (w154 hw) (w155 hw) (w156 hw) (w145 hw) (w125 hw) (w157 hw) (by decide) (b := t_4) (next0 l Z a0 hw t_4 a (3 : Int32) (3 : Int32) (-1 : Int32) el kel ([(.ref l0), (.ref l1), (.ref l2), .null, .null, .null, .null, .null, .null, .null]) l0 T3.heap n0 Z_7 q3_1 g_9 c_10 q3_2 q3_5 q3_3 q3_4 c_11 c_6 c_12 c_13 c_14 (by decide : (0 : Int32) < (3 : Int32)) (rfl : List.getD (α := Value) [(.ref l0), (.ref l1), (.ref l2), .null, .null, .null, .null, .null, .null, .null] 0 Value.null = Value.ref l0)) eq5 q3_1 (Ls := #[rS a, rS wZ, rS t_4, uS]) (by rw [hml]; rfl) pd_19 (argsL := []) rfl (rest := []) rfl (W := 0) rfl (hb hy dp16_3_21) (by decide) (by decide) (by decide) (by decide)
  obtain ⟨rfl, Nq8, Kq8, q8_0, q8_1, q8_2, q8_3⟩ := hQ8
  have N8 := Fr.app N5 Nq8
  refine gon T8 (mkF m 26 #[rS a,rS wZ,rS t_4,uS] [(.ref l0)]) (st8) ?_
  have c_16 := Exa.keep (Exa.keep P7 Kq3) Kq8
  obtain ⟨T15, X15, e15, st15⟩ := castY X8 hx hZ hown (w164 hw) rfl (Ins.self c_16) (g := (mkF m 26 #[rS a,rS wZ,rS t_4,uS] [(.ref l0)])) rfl rfl (hb hy dp16_3_26)
  refine gon T15 (mkF m 29 #[rS a,rS wZ,rS t_4,uS] [(.ref l0)]) (st15) ?_
  refine gon T15 (mkF m 32 #[rS a,rS wZ,rS t_4,rS l0] [(.ref l0), (.ref wZ)]) (fun _ k => XS.astoreN X15.here hx rfl (hb hy dp16_3_29) rfl rfl (l' := #[rS a, rS wZ, rS t_4, rS l0]) rfl (XS.aloadN X15.here hx rfl (hb hy dp16_3_30) rfl rfl (XS.aloadN X15.here hx rfl (hb hy dp16_3_31) rfl rfl k))) ?_
  have ne_18 : l0 ≠ t_4 := ne_of_born P7.lt q3_0
  have c_19 := Fld.keep (Fld.keep P8 Kq3 nin0) Kq8 (ninS ne_18 nin0)
  have Z_20 : n0 ≤ T8.heap.size := Nat.le_trans Z_7 Kq8.1
  obtain ⟨v17, T17, L17, X17, hQ17, st17⟩ := OwnW.callV X15 hx hZ hown (w166 hw) (w167 hw) (notFace_of_selects (args := #[]) (mvT hZ (w169 hw))) (w169 hw) (w168 hw) (w32 hw) (w170 hw) (by decide) (b := l0) (lotTons l Z a0 hw l0 d0 T8.heap n0 Z_20 c_19) e15 c_16 (Ls := #[rS a, rS wZ, rS t_4, rS l0]) (by rw [hml]; rfl) pd_20 (argsL := []) rfl (rest := [(.ref wZ)]) rfl (W := 1) rfl (hb hy dp16_3_32) (by decide) (by decide) (by decide) (by decide)
  obtain ⟨rfl, Nq17, eq17⟩ := hQ17
  have N17 := Fr.app N8 Nq17
  refine gon T17 (mkF m 35 #[rS a,rS wZ,rS t_4,rS l0] [(.ref d0), (.ref wZ)]) (st17) ?_
  have O_22 : Old Z n0 T3.heap := O0.keep Kq3 all0
  have O_23 : Old Z n0 T8.heap := O_22.keep Kq8 (allS g_9 all0)
  have s_24 := Exa.ext O_23.2 ((bZv n0)).1
  have s_25 := BDV.ext (bZv n0) O_23.2
  have ne_26 : d0 ≠ t_4 := ne_of_born (P9.1).lt q3_0
  have c_27 := BDV.keep (BDV.keep P9 Kq3 nin0) Kq8 (ninS ne_26 nin0)
  obtain ⟨v21, T21, L21, X21, hQ21, st21⟩ := OwnW.callV X17 hx hZ hown (w171 hw) (w172 hw) (notFace_of_selects (args := #[]) (mvT hZ (w174 hw))) (w174 hw) (w173 hw) (w35 hw) (w175 hw) (by decide) (b := wZ) (bdAdd l Z a0 hw wZ d0 wZ wT wS wP wH kT kS kP kH zt zs (0 : Int64) (0 : Int32) (x0.toInt64) s0 T8.heap n0 Z_20 O_23 P0 s_25 c_27 (by unfold Bq; decide : Bq (0 : Int64)) (own_bqI _ : Bq (x0.toInt64)) (by unfold Sc; decide : Sc (0 : Int32)) P10) eq17 s_24 (Ls := #[rS a, rS wZ, rS t_4, rS l0]) (by rw [hml]; rfl) pd_21 (argsL := [(.ref d0)]) rfl (rest := []) rfl (W := 0) rfl (hb hy dp16_3_35) (by decide) (by decide) (by decide) (by decide)
  obtain ⟨b_28, z_29, t_30, rfl, Nq21, Kq21, q21_0, q21_1, q21_2, q21_3⟩ := hQ21
  have N21 := Fr.app N17 Nq21
  refine gon T21 (mkF m 38 #[rS a,rS wZ,rS t_4,rS l0] [(.ref b_28)]) (st21) ?_
  have hm_31 : Nv3 z_29 t_30 = Nv3 (x0.toInt64) s0 := by rw [q21_3, own_nZ]; omega
  have hm_31b : Bq z_29 := own_bqN q21_1 (by rw [hm_31]; have := own_nI x0 P10; omega) (by rw [hm_31]; have := own_nI x0 P10; omega)
  refine gon T21 (mkF m 12 #[rS a,rS b_28,rS t_4,rS l0] [(.ref t_4)]) (fun _ k => XS.astoreN X21.here hx rfl (hb hy dp16_3_38) rfl rfl (l' := #[rS a, rS b_28, rS t_4, rS l0]) rfl (XS.goto X21.here hx rfl (pc0 := 39) (pc' := 11) rfl (hb hy dp16_3_39) (by decide) (by decide) (XS.aloadN X21.here hx rfl (hb hy dp16_3_11) rfl rfl k))) ?_
  have c_33 := Exa.keep (Exa.keep q3_1 Kq8) Kq21
  have c_34 := Fld.keep q8_0 Kq21 nin0
  have c_35 := Fld.keep q8_1 Kq21 nin0
  have ne_36 : a ≠ t_4 := ne_of_born P1.lt q3_0
  have c_37 := Fld.keep (Fld.keep c_6 Kq8 (ninS ne_36 nin0)) Kq21 nin0
  have Z_38 : n0 ≤ T21.heap.size := Nat.le_trans Z_20 Kq21.1
  obtain ⟨v32, T32, L32, X32, hQ32, st32⟩ := OwnW.callI X21 hx hZ hown (w138 hw) (w139 hw) (mvT hZ (w140 hw)) (w141 hw) (w142 hw) (w143 hw) (w144 hw) (w145 hw) (w125 hw) (w146 hw) (by decide) (b := t_4) (hasNextT l Z a0 hw t_4 a (1 : Int32) (3 : Int32) T21.heap n0 Z_38 c_34 c_35 c_37 (by decide : ¬ ((1 : Int32) = (3 : Int32)))) rfl c_33 (Ls := #[rS a, rS b_28, rS t_4, rS l0]) (by rw [hml]; rfl) pd_18 (argsL := []) rfl (rest := []) rfl (W := 0) rfl (hb hy dp16_3_12) (by decide) (by decide) (by decide) (by decide)
  obtain ⟨rfl, Nq32, eq32⟩ := hQ32
  have N32 := Fr.app N21 Nq32
  refine gon T32 (mkF m 17 #[rS a,rS b_28,rS t_4,rS l0] [(.int 1)]) (st32) ?_
  refine gon T32 (mkF m 21 #[rS a,rS b_28,rS t_4,rS l0] [(.ref t_4)]) (fun _ k => XS.ifNo X32.here hx rfl (hb hy dp16_3_17) rfl ((if0 _ _).trans (feq (by decide : ¬ ((1 : Int32) = (0 : Int32)))).1) (XS.aloadN X32.here hx rfl (hb hy dp16_3_20) rfl rfl k)) ?_
  have c_40 := Exa.keep (Exa.keep c_10 Kq8) Kq21
  have c_41 := Fld.keep q8_2 Kq21 nin0
  have c_42 := Fld.keep q8_3 Kq21 nin0
  have c_43 := Fld.keep (Fld.keep c_11 Kq8 (ninS ne_36 nin0)) Kq21 nin0
  have c_44 := Fld.keep (Fld.keep c_12 Kq8 (ninS ne_36 nin0)) Kq21 nin0
  have c_45 := Exa.keep (Exa.keep c_13 Kq8) Kq21
  have ne_46 : el ≠ t_4 := ne_of_born P5.lt q3_0
  have c_47 := Arv.keep (Arv.keep c_14 Kq8 (ninS ne_46 nin0)) Kq21 nin0
  obtain ⟨v39, T39, L39, X39, hQ39, st39⟩ := OwnW.callI X32 hx hZ hown (w150 hw) (w151 hw) (mvT hZ (w152 hw)) (w153 hw) (w154 hw) (w155 hw) (w156 hw) (w145 hw) (w125 hw) (w157 hw) (by decide) (b := t_4) (next1 l Z a0 hw t_4 a (3 : Int32) (3 : Int32) (0 : Int32) el kel ([(.ref l0), (.ref l1), (.ref l2), .null, .null, .null, .null, .null, .null, .null]) l1 T21.heap n0 Z_38 c_33 g_9 c_40 c_34 c_35 c_41 c_42 c_43 c_37 c_44 c_45 c_47 (by decide : (1 : Int32) < (3 : Int32)) (rfl : List.getD (α := Value) [(.ref l0), (.ref l1), (.ref l2), .null, .null, .null, .null, .null, .null, .null] 1 Value.null = Value.ref l1)) eq32 c_33 (Ls := #[rS a, rS b_28, rS t_4, rS l0]) (by rw [hml]; rfl) pd_19 (argsL := []) rfl (rest := []) rfl (W := 0) rfl (hb hy dp16_3_21) (by decide) (by decide) (by decide) (by decide)
  obtain ⟨rfl, Nq39, Kq39, q39_0, q39_1, q39_2, q39_3⟩ := hQ39
  have N39 := Fr.app N32 Nq39
  refine gon T39 (mkF m 26 #[rS a,rS b_28,rS t_4,rS l0] [(.ref l1)]) (st39) ?_
  have c_49 := Exa.keep (Exa.keep (Exa.keep (Exa.keep P11 Kq3) Kq8) Kq21) Kq39
  obtain ⟨T48, X48, e48, st48⟩ := castY X39 hx hZ hown (w164 hw) rfl (Ins.self c_49) (g := (mkF m 26 #[rS a,rS b_28,rS t_4,rS l0] [(.ref l1)])) rfl rfl (hb hy dp16_3_26)
  refine gon T48 (mkF m 29 #[rS a,rS b_28,rS t_4,rS l0] [(.ref l1)]) (st48) ?_
  refine gon T48 (mkF m 32 #[rS a,rS b_28,rS t_4,rS l1] [(.ref l1), (.ref b_28)]) (fun _ k => XS.astoreN X48.here hx rfl (hb hy dp16_3_29) rfl rfl (l' := #[rS a, rS b_28, rS t_4, rS l1]) rfl (XS.aloadN X48.here hx rfl (hb hy dp16_3_30) rfl rfl (XS.aloadN X48.here hx rfl (hb hy dp16_3_31) rfl rfl k))) ?_
  have ne_51 : l1 ≠ t_4 := ne_of_born P11.lt q3_0
  have c_52 := Fld.keep (Fld.keep (Fld.keep (Fld.keep P12 Kq3 nin0) Kq8 (ninS ne_51 nin0)) Kq21 nin0) Kq39 (ninS ne_51 nin0)
  have Z_53 : n0 ≤ T39.heap.size := Nat.le_trans Z_38 Kq39.1
  obtain ⟨v50, T50, L50, X50, hQ50, st50⟩ := OwnW.callV X48 hx hZ hown (w166 hw) (w167 hw) (notFace_of_selects (args := #[]) (mvT hZ (w169 hw))) (w169 hw) (w168 hw) (w32 hw) (w170 hw) (by decide) (b := l1) (lotTons l Z a0 hw l1 d1 T39.heap n0 Z_53 c_52) e48 c_49 (Ls := #[rS a, rS b_28, rS t_4, rS l1]) (by rw [hml]; rfl) pd_20 (argsL := []) rfl (rest := [(.ref b_28)]) rfl (W := 1) rfl (hb hy dp16_3_32) (by decide) (by decide) (by decide) (by decide)
  obtain ⟨rfl, Nq50, eq50⟩ := hQ50
  have N50 := Fr.app N39 Nq50
  refine gon T50 (mkF m 35 #[rS a,rS b_28,rS t_4,rS l1] [(.ref d1), (.ref b_28)]) (st50) ?_
  have c_55 := Exa.keep q21_0.1 Kq39
  have c_56 := Exa.keep c_33 Kq39
  have ne_57 : b_28 ≠ t_4 := ne_exa c_55 c_56 (by decide)
  have c_58 := BDV.keep q21_0 Kq39 (ninS ne_57 nin0)
  have ne_59 : d1 ≠ t_4 := ne_of_born (P13.1).lt q3_0
  have c_60 := BDV.keep (BDV.keep (BDV.keep (BDV.keep P13 Kq3 nin0) Kq8 (ninS ne_59 nin0)) Kq21 nin0) Kq39 (ninS ne_59 nin0)
  have O_61 : Old Z n0 T21.heap := O_23.keep Kq21 all0
  have O_62 : Old Z n0 T39.heap := O_61.keep Kq39 (allS g_9 all0)
  obtain ⟨v54, T54, L54, X54, hQ54, st54⟩ := OwnW.callV X50 hx hZ hown (w171 hw) (w172 hw) (notFace_of_selects (args := #[]) (mvT hZ (w174 hw))) (w174 hw) (w173 hw) (w35 hw) (w175 hw) (by decide) (b := b_28) (bdAdd l Z a0 hw b_28 d1 wZ wT wS wP wH kT kS kP kH zt zs z_29 t_30 (x1.toInt64) s1 T39.heap n0 Z_53 O_62 P0 c_58 c_60 hm_31b (own_bqI _ : Bq (x1.toInt64)) q21_1 P14) eq50 c_55 (Ls := #[rS a, rS b_28, rS t_4, rS l1]) (by rw [hml]; rfl) pd_21 (argsL := [(.ref d1)]) rfl (rest := []) rfl (W := 0) rfl (hb hy dp16_3_35) (by decide) (by decide) (by decide) (by decide)
  obtain ⟨b_63, z_64, t_65, rfl, Nq54, Kq54, q54_0, q54_1, q54_2, q54_3⟩ := hQ54
  have N54 := Fr.app N50 Nq54
  refine gon T54 (mkF m 38 #[rS a,rS b_28,rS t_4,rS l1] [(.ref b_63)]) (st54) ?_
  have hm_66 : Nv3 z_64 t_65 = Nv3 (x0.toInt64) s0 + Nv3 (x1.toInt64) s1 := by rw [q54_3, hm_31]
  have hm_66b : Bq z_64 := own_bqN q54_1 (by rw [hm_66]; have := own_nI x0 P10; have := own_nI x1 P14; omega) (by rw [hm_66]; have := own_nI x0 P10; have := own_nI x1 P14; omega)
  refine gon T54 (mkF m 12 #[rS a,rS b_63,rS t_4,rS l1] [(.ref t_4)]) (fun _ k => XS.astoreN X54.here hx rfl (hb hy dp16_3_38) rfl rfl (l' := #[rS a, rS b_63, rS t_4, rS l1]) rfl (XS.goto X54.here hx rfl (pc0 := 39) (pc' := 11) rfl (hb hy dp16_3_39) (by decide) (by decide) (XS.aloadN X54.here hx rfl (hb hy dp16_3_11) rfl rfl k))) ?_
  have c_68 := Exa.keep (Exa.keep c_33 Kq39) Kq54
  have c_69 := Fld.keep q39_0 Kq54 nin0
  have c_70 := Fld.keep q39_1 Kq54 nin0
  have c_71 := Fld.keep (Fld.keep c_37 Kq39 (ninS ne_36 nin0)) Kq54 nin0
  have Z_72 : n0 ≤ T54.heap.size := Nat.le_trans Z_53 Kq54.1
  obtain ⟨v67, T67, L67, X67, hQ67, st67⟩ := OwnW.callI X54 hx hZ hown (w138 hw) (w139 hw) (mvT hZ (w140 hw)) (w141 hw) (w142 hw) (w143 hw) (w144 hw) (w145 hw) (w125 hw) (w146 hw) (by decide) (b := t_4) (hasNextT l Z a0 hw t_4 a (2 : Int32) (3 : Int32) T54.heap n0 Z_72 c_69 c_70 c_71 (by decide : ¬ ((2 : Int32) = (3 : Int32)))) rfl c_68 (Ls := #[rS a, rS b_63, rS t_4, rS l1]) (by rw [hml]; rfl) pd_18 (argsL := []) rfl (rest := []) rfl (W := 0) rfl (hb hy dp16_3_12) (by decide) (by decide) (by decide) (by decide)
  obtain ⟨rfl, Nq67, eq67⟩ := hQ67
  have N67 := Fr.app N54 Nq67
  refine gon T67 (mkF m 17 #[rS a,rS b_63,rS t_4,rS l1] [(.int 1)]) (st67) ?_
  refine gon T67 (mkF m 21 #[rS a,rS b_63,rS t_4,rS l1] [(.ref t_4)]) (fun _ k => XS.ifNo X67.here hx rfl (hb hy dp16_3_17) rfl ((if0 _ _).trans (feq (by decide : ¬ ((1 : Int32) = (0 : Int32)))).1) (XS.aloadN X67.here hx rfl (hb hy dp16_3_20) rfl rfl k)) ?_
  have c_74 := Exa.keep (Exa.keep c_40 Kq39) Kq54
  have c_75 := Fld.keep q39_2 Kq54 nin0
  have c_76 := Fld.keep q39_3 Kq54 nin0
  have c_77 := Fld.keep (Fld.keep c_43 Kq39 (ninS ne_36 nin0)) Kq54 nin0
  have c_78 := Fld.keep (Fld.keep c_44 Kq39 (ninS ne_36 nin0)) Kq54 nin0
  have c_79 := Exa.keep (Exa.keep c_45 Kq39) Kq54
  have c_80 := Arv.keep (Arv.keep c_47 Kq39 (ninS ne_46 nin0)) Kq54 nin0
  obtain ⟨v73, T73, L73, X73, hQ73, st73⟩ := OwnW.callI X67 hx hZ hown (w150 hw) (w151 hw) (mvT hZ (w152 hw)) (w153 hw) (w154 hw) (w155 hw) (w156 hw) (w145 hw) (w125 hw) (w157 hw) (by decide) (b := t_4) (next2 l Z a0 hw t_4 a (3 : Int32) (3 : Int32) (1 : Int32) el kel ([(.ref l0), (.ref l1), (.ref l2), .null, .null, .null, .null, .null, .null, .null]) l2 T54.heap n0 Z_72 c_68 g_9 c_74 c_69 c_70 c_75 c_76 c_77 c_71 c_78 c_79 c_80 (by decide : (2 : Int32) < (3 : Int32)) (rfl : List.getD (α := Value) [(.ref l0), (.ref l1), (.ref l2), .null, .null, .null, .null, .null, .null, .null] 2 Value.null = Value.ref l2)) eq67 c_68 (Ls := #[rS a, rS b_63, rS t_4, rS l1]) (by rw [hml]; rfl) pd_19 (argsL := []) rfl (rest := []) rfl (W := 0) rfl (hb hy dp16_3_21) (by decide) (by decide) (by decide) (by decide)
  obtain ⟨rfl, Nq73, Kq73, q73_0, q73_1, q73_2, q73_3⟩ := hQ73
  have N73 := Fr.app N67 Nq73
  refine gon T73 (mkF m 26 #[rS a,rS b_63,rS t_4,rS l1] [(.ref l2)]) (st73) ?_
  have c_82 := Exa.keep (Exa.keep (Exa.keep (Exa.keep (Exa.keep (Exa.keep P15 Kq3) Kq8) Kq21) Kq39) Kq54) Kq73
  obtain ⟨T81, X81, e81, st81⟩ := castY X73 hx hZ hown (w164 hw) rfl (Ins.self c_82) (g := (mkF m 26 #[rS a,rS b_63,rS t_4,rS l1] [(.ref l2)])) rfl rfl (hb hy dp16_3_26)
  refine gon T81 (mkF m 29 #[rS a,rS b_63,rS t_4,rS l1] [(.ref l2)]) (st81) ?_
  refine gon T81 (mkF m 32 #[rS a,rS b_63,rS t_4,rS l2] [(.ref l2), (.ref b_63)]) (fun _ k => XS.astoreN X81.here hx rfl (hb hy dp16_3_29) rfl rfl (l' := #[rS a, rS b_63, rS t_4, rS l2]) rfl (XS.aloadN X81.here hx rfl (hb hy dp16_3_30) rfl rfl (XS.aloadN X81.here hx rfl (hb hy dp16_3_31) rfl rfl k))) ?_
  have ne_84 : l2 ≠ t_4 := ne_of_born P15.lt q3_0
  have c_85 := Fld.keep (Fld.keep (Fld.keep (Fld.keep (Fld.keep (Fld.keep P16 Kq3 nin0) Kq8 (ninS ne_84 nin0)) Kq21 nin0) Kq39 (ninS ne_84 nin0)) Kq54 nin0) Kq73 (ninS ne_84 nin0)
  have Z_86 : n0 ≤ T73.heap.size := Nat.le_trans Z_72 Kq73.1
  obtain ⟨v83, T83, L83, X83, hQ83, st83⟩ := OwnW.callV X81 hx hZ hown (w166 hw) (w167 hw) (notFace_of_selects (args := #[]) (mvT hZ (w169 hw))) (w169 hw) (w168 hw) (w32 hw) (w170 hw) (by decide) (b := l2) (lotTons l Z a0 hw l2 d2 T73.heap n0 Z_86 c_85) e81 c_82 (Ls := #[rS a, rS b_63, rS t_4, rS l2]) (by rw [hml]; rfl) pd_20 (argsL := []) rfl (rest := [(.ref b_63)]) rfl (W := 1) rfl (hb hy dp16_3_32) (by decide) (by decide) (by decide) (by decide)
  obtain ⟨rfl, Nq83, eq83⟩ := hQ83
  have N83 := Fr.app N73 Nq83
  refine gon T83 (mkF m 35 #[rS a,rS b_63,rS t_4,rS l2] [(.ref d2), (.ref b_63)]) (st83) ?_
  have c_88 := Exa.keep q54_0.1 Kq73
  have c_89 := Exa.keep c_68 Kq73
  have ne_90 : b_63 ≠ t_4 := ne_exa c_88 c_89 (by decide)
  have c_91 := BDV.keep q54_0 Kq73 (ninS ne_90 nin0)
  have ne_92 : d2 ≠ t_4 := ne_of_born (P17.1).lt q3_0
  have c_93 := BDV.keep (BDV.keep (BDV.keep (BDV.keep (BDV.keep (BDV.keep P17 Kq3 nin0) Kq8 (ninS ne_92 nin0)) Kq21 nin0) Kq39 (ninS ne_92 nin0)) Kq54 nin0) Kq73 (ninS ne_92 nin0)
  have O_94 : Old Z n0 T54.heap := O_62.keep Kq54 all0
  have O_95 : Old Z n0 T73.heap := O_94.keep Kq73 (allS g_9 all0)
  obtain ⟨v87, T87, L87, X87, hQ87, st87⟩ := OwnW.callV X83 hx hZ hown (w171 hw) (w172 hw) (notFace_of_selects (args := #[]) (mvT hZ (w174 hw))) (w174 hw) (w173 hw) (w35 hw) (w175 hw) (by decide) (b := b_63) (bdAdd l Z a0 hw b_63 d2 wZ wT wS wP wH kT kS kP kH zt zs z_64 t_65 (x2.toInt64) s2 T73.heap n0 Z_86 O_95 P0 c_91 c_93 hm_66b (own_bqI _ : Bq (x2.toInt64)) q54_1 P18) eq83 c_88 (Ls := #[rS a, rS b_63, rS t_4, rS l2]) (by rw [hml]; rfl) pd_21 (argsL := [(.ref d2)]) rfl (rest := []) rfl (W := 0) rfl (hb hy dp16_3_35) (by decide) (by decide) (by decide) (by decide)
  obtain ⟨b_96, z_97, t_98, rfl, Nq87, Kq87, q87_0, q87_1, q87_2, q87_3⟩ := hQ87
  have N87 := Fr.app N83 Nq87
  refine gon T87 (mkF m 38 #[rS a,rS b_63,rS t_4,rS l2] [(.ref b_96)]) (st87) ?_
  have hm_99 : Nv3 z_97 t_98 = Nv3 (x0.toInt64) s0 + Nv3 (x1.toInt64) s1 + Nv3 (x2.toInt64) s2 := by rw [q87_3, hm_66]
  have hm_99b : Bq z_97 := own_bqN q87_1 (by rw [hm_99]; have := own_nI x0 P10; have := own_nI x1 P14; have := own_nI x2 P18; omega) (by rw [hm_99]; have := own_nI x0 P10; have := own_nI x1 P14; have := own_nI x2 P18; omega)
  refine gon T87 (mkF m 12 #[rS a,rS b_96,rS t_4,rS l2] [(.ref t_4)]) (fun _ k => XS.astoreN X87.here hx rfl (hb hy dp16_3_38) rfl rfl (l' := #[rS a, rS b_96, rS t_4, rS l2]) rfl (XS.goto X87.here hx rfl (pc0 := 39) (pc' := 11) rfl (hb hy dp16_3_39) (by decide) (by decide) (XS.aloadN X87.here hx rfl (hb hy dp16_3_11) rfl rfl k))) ?_
  have c_101 := Exa.keep (Exa.keep c_68 Kq73) Kq87
  have c_102 := Fld.keep q73_0 Kq87 nin0
  have c_103 := Fld.keep q73_1 Kq87 nin0
  have c_104 := Fld.keep (Fld.keep c_71 Kq73 (ninS ne_36 nin0)) Kq87 nin0
  have Z_105 : n0 ≤ T87.heap.size := Nat.le_trans Z_86 Kq87.1
  obtain ⟨v100, T100, L100, X100, hQ100, st100⟩ := OwnW.callI X87 hx hZ hown (w138 hw) (w139 hw) (mvT hZ (w140 hw)) (w141 hw) (w142 hw) (w143 hw) (w144 hw) (w145 hw) (w125 hw) (w146 hw) (by decide) (b := t_4) (hasNextF l Z a0 hw t_4 a (3 : Int32) T87.heap n0 Z_105 c_102 c_103 c_104) rfl c_101 (Ls := #[rS a, rS b_96, rS t_4, rS l2]) (by rw [hml]; rfl) pd_18 (argsL := []) rfl (rest := []) rfl (W := 0) rfl (hb hy dp16_3_12) (by decide) (by decide) (by decide) (by decide)
  obtain ⟨rfl, Nq100, eq100⟩ := hQ100
  have N100 := Fr.app N87 Nq100
  refine gon T100 (mkF m 17 #[rS a,rS b_96,rS t_4,rS l2] [(.int 0)]) (st100) ?_
  refine gon T100 (mkF m 43 #[rS a,rS b_96,rS t_4,rS l2] [(.ref b_96)]) (fun _ k => XS.ifYes X100.here hx rfl (pc0 := 17) (pc' := 42) rfl (hb hy dp16_3_17) rfl ((if0 _ _).trans (teq (by decide : (0 : Int32) = (0 : Int32))).1) (by decide) (by decide) (XS.aloadN X100.here hx rfl (hb hy dp16_3_42) rfl rfl k)) ?_
  have K_106 : Keep h0 T3.heap [] := (Keep.refl h0 []).trans Kq3 all0
  have K_107 : Keep h0 T8.heap [] := K_106.trans Kq8 (allS (Or.inr (Nat.le_trans (Nat.le_refl _) q3_0)) all0)
  have K_108 : Keep h0 T21.heap [] := K_107.trans Kq21 all0
  have K_109 : Keep h0 T39.heap [] := K_108.trans Kq39 (allS (Or.inr (Nat.le_trans (Nat.le_refl _) q3_0)) all0)
  have K_110 : Keep h0 T54.heap [] := K_109.trans Kq54 all0
  have K_111 : Keep h0 T73.heap [] := K_110.trans Kq73 (allS (Or.inr (Nat.le_trans (Nat.le_refl _) q3_0)) all0)
  have K_112 : Keep h0 T87.heap [] := K_111.trans Kq87 all0
  exact OwnW.retA X100 hx hlk hret rfl rfl (hb hy dp16_3_43) (by decide) (by decide) (show QQ _ T100.heap _ from (by rw [eq100]; exact ⟨b_96, z_97, t_98, rfl, N100, K_112, q87_0, q87_1, (by first | rfl | (rw [q87_2, q54_2, q21_2]) : t_98 = (imax (imax (imax (0 : Int32) s0) s1) s2)), (hm_99 : Nv3 z_97 t_98 = Nv3 (x0.toInt64) s0 + Nv3 (x1.toInt64) s1 + Nv3 (x2.toInt64) s2)⟩))
def Nlz32 (q n : Int32) : Prop := (q.toInt < 0 → n.toInt = 0) ∧ (0 < q.toInt → ∃ m : Nat, n.toInt = 31 - m ∧ m ≤ 30 ∧ (2 : Int) ^ m ≤ q.toInt ∧ q.toInt < (2 : Int) ^ (m + 1))
def Nlz64 (q : Int64) (n : Int32) : Prop := ∃ m : Nat, n.toInt = 63 - m ∧ m ≤ 42 ∧ (2 : Int) ^ m ≤ q.toInt ∧ q.toInt < (2 : Int) ^ (m + 1)
theorem own_shr {q s : Int32} {k : Nat} {K : Int} (h : 0 ≤ q.toInt) (hk : s.toBitVec.toNat % 32 = k) (h0 : 0 < k) (hK : ((2 ^ k : Nat) : Int) = K) : ∃ u : Int32, ((q.toUInt32 >>> (s &&& 31).toUInt32).toInt32) = u ∧ u.toInt = q.toInt / K := by
  refine ⟨_, rfl, ?_⟩
  have := c_iushr q s k hk h0
  rw [hK] at this
  have r := rng32 q
  rw [Int.emod_eq_of_lt (by omega) (by omega)] at this
  exact this
theorem own_ltI {x y : Int32} {Y : Int} (h : x < y) (e : y.toInt = Y) : x.toInt < Y := by rw [Int32.lt_iff_toInt_lt] at h; omega
theorem own_geI {x y : Int32} {Y : Int} (h : ¬ x < y) (e : y.toInt = Y) : Y ≤ x.toInt := by rw [Int32.lt_iff_toInt_lt] at h; omega
theorem own_gtI {x : Int32} (h : (0 : Int32) < x) : 0 < x.toInt := by
  rw [Int32.lt_iff_toInt_lt] at h
  exact h
theorem own_subI {c u : Int32} {C : Int} (e : c.toInt = C) (h1 : 0 ≤ u.toInt) (h2 : u.toInt ≤ 1) (h3 : 0 ≤ C) (h4 : C ≤ 31) : (c - u).toInt = C - u.toInt := by
  have := c_isub c u
  have := rng32 (c - u)
  omega
abbrev k33_47 := jdk_33_method_47_code
theorem d33_47_0 : decode k33_47 0 = .ok (.iload_n 0, 1) := by decide +kernel
theorem d33_47_1 : decode k33_47 1 = .ok (.ifCond .gt 14, 3) := by decide +kernel
theorem d33_47_15 : decode k33_47 15 = .ok (.bipush 31, 2) := by decide +kernel
theorem d33_47_17 : decode k33_47 17 = .ok (.istore_n 1, 1) := by decide +kernel
theorem d33_47_18 : decode k33_47 18 = .ok (.iload_n 0, 1) := by decide +kernel
theorem d33_47_19 : decode k33_47 19 = .ok (.ldc_w 264, 3) := by decide +kernel
theorem w253 {Z a0} (hw : Ht a0 Z) : (Cond.constant "java/lang/Integer" (264 : Nat) (65536 : Int32)).before a0 Z = true := ht hw 253 rfl
theorem d33_47_22 : decode k33_47 22 = .ok (.if_icmp .lt 11, 3) := by decide +kernel
theorem d33_47_33 : decode k33_47 33 = .ok (.iload_n 0, 1) := by decide +kernel
theorem d33_47_34 : decode k33_47 34 = .ok (.sipush 256, 3) := by decide +kernel
theorem d33_47_37 : decode k33_47 37 = .ok (.if_icmp .lt 11, 3) := by decide +kernel
theorem d33_47_48 : decode k33_47 48 = .ok (.iload_n 0, 1) := by decide +kernel
theorem d33_47_49 : decode k33_47 49 = .ok (.bipush 16, 2) := by decide +kernel
theorem d33_47_51 : decode k33_47 51 = .ok (.if_icmp .lt 10, 3) := by decide +kernel
theorem d33_47_61 : decode k33_47 61 = .ok (.iload_n 0, 1) := by decide +kernel
theorem d33_47_62 : decode k33_47 62 = .ok (.iconst 4, 1) := by decide +kernel
theorem d33_47_63 : decode k33_47 63 = .ok (.if_icmp .lt 10, 3) := by decide +kernel
theorem d33_47_73 : decode k33_47 73 = .ok (.iload_n 1, 1) := by decide +kernel
theorem d33_47_74 : decode k33_47 74 = .ok (.iload_n 0, 1) := by decide +kernel
theorem d33_47_75 : decode k33_47 75 = .ok (.iconst 1, 1) := by decide +kernel
theorem d33_47_76 : decode k33_47 76 = .ok (.iushr, 1) := by decide +kernel
theorem d33_47_77 : decode k33_47 77 = .ok (.isub, 1) := by decide +kernel
theorem d33_47_78 : decode k33_47 78 = .ok (.ireturn, 1) := by decide +kernel
theorem d33_47_66 : decode k33_47 66 = .ok (.iinc 1 (-2), 3) := by decide +kernel
theorem d33_47_69 : decode k33_47 69 = .ok (.iload_n 0, 1) := by decide +kernel
theorem d33_47_70 : decode k33_47 70 = .ok (.iconst 2, 1) := by decide +kernel
theorem d33_47_71 : decode k33_47 71 = .ok (.iushr, 1) := by decide +kernel
theorem d33_47_72 : decode k33_47 72 = .ok (.istore_n 0, 1) := by decide +kernel
theorem d33_47_54 : decode k33_47 54 = .ok (.iinc 1 (-4), 3) := by decide +kernel
theorem d33_47_57 : decode k33_47 57 = .ok (.iload_n 0, 1) := by decide +kernel
theorem d33_47_58 : decode k33_47 58 = .ok (.iconst 4, 1) := by decide +kernel
theorem d33_47_59 : decode k33_47 59 = .ok (.iushr, 1) := by decide +kernel
theorem d33_47_60 : decode k33_47 60 = .ok (.istore_n 0, 1) := by decide +kernel
theorem d33_47_40 : decode k33_47 40 = .ok (.iinc 1 (-8), 3) := by decide +kernel
theorem d33_47_43 : decode k33_47 43 = .ok (.iload_n 0, 1) := by decide +kernel
theorem d33_47_44 : decode k33_47 44 = .ok (.bipush 8, 2) := by decide +kernel
theorem d33_47_46 : decode k33_47 46 = .ok (.iushr, 1) := by decide +kernel
theorem d33_47_47 : decode k33_47 47 = .ok (.istore_n 0, 1) := by decide +kernel
theorem d33_47_25 : decode k33_47 25 = .ok (.iinc 1 (-16), 3) := by decide +kernel
theorem d33_47_28 : decode k33_47 28 = .ok (.iload_n 0, 1) := by decide +kernel
theorem d33_47_29 : decode k33_47 29 = .ok (.bipush 16, 2) := by decide +kernel
theorem d33_47_31 : decode k33_47 31 = .ok (.iushr, 1) := by decide +kernel
theorem d33_47_32 : decode k33_47 32 = .ok (.istore_n 0, 1) := by decide +kernel
theorem d33_47_4 : decode k33_47 4 = .ok (.iload_n 0, 1) := by decide +kernel
theorem d33_47_5 : decode k33_47 5 = .ok (.ifCond .ne 8, 3) := by decide +kernel
theorem d33_47_8 : decode k33_47 8 = .ok (.bipush 32, 2) := by decide +kernel
theorem d33_47_10 : decode k33_47 10 = .ok (.goto 4, 3) := by decide +kernel
theorem d33_47_14 : decode k33_47 14 = .ok (.ireturn, 1) := by decide +kernel
theorem d33_47_13 : decode k33_47 13 = .ok (.iconst 0, 1) := by decide +kernel
theorem pn_9 : plainName "java/lang/Integer" = true := by first | (simp [plainName, overriddenIn]; done) | decide +kernel
def Q_inlz (Z : State) (q : Int32) (h0 : Heap) (n0 : Nat) (v : Option Value) (h : Heap) (L : List Loc) : Prop := ∃ nn : Int32, v = some (.int nn) ∧ Fr n0 L ∧ h = h0 ∧ Nlz32 q nn
set_option maxRecDepth 65536 in
set_option maxHeartbeats 40000000 in
theorem inlz (l : Launch) (Z : State) (a0 : Array Value) (hw : Ht a0 Z) (q : Int32) (h0 : Heap) (n0 : Nat) (Z0 : n0 ≤ h0.size)  :
    Con l Z (⟨"java/lang/Integer", "numberOfLeadingZeros", "(I)I"⟩ : MethodName) jdk_33_method_47_code 2 (some .int) ({ frames := 0, cells := 0, slots := 0, locals := 0 } : Room) #[(.int q)] h0 (Q_inlz Z q h0 n0) := by
  refine OwnW.body (Ls := #[iS q, uS]) (plainFor_of_name pn_9) (fun m => by first | (simp [entryFrame, mkF, argsToLocals, Value.category]; done) | rfl) ?_
  intro p e s m below meth c s₁ hx hy hml hown hnm hret hlk hZ X0 e0
  let QQ := Q_inlz Z q h0 n0
  have N0 := Fr.nil n0
  show Go p e below (s₁.setTop (mkF m 0 #[iS q, uS] [])) (EndQ s below ({ frames := 0, cells := 0, slots := 0, locals := 0 } : Room).cells ({ frames := 0, cells := 0, slots := 0, locals := 0 } : Room).slots QQ)
  have hrng := rng32 q
  refine gon s₁ (mkF m 1 #[iS q,uS] [(.int q)]) (fun _ k => XS.iloadN X0.here hx rfl (hb hy d33_47_0) rfl k) ?_
  by_cases hc1_1 : (0 : Int32) < q
  · refine gon s₁ (mkF m 19 #[iS q,iS 31] [(.int q)]) (fun _ k => XS.ifYes X0.here hx rfl (pc0 := 1) (pc' := 15) rfl (hb hy d33_47_1) rfl ((if0 _ _).trans (tlt hc1_1).2.2.1) (by decide) (by decide) (XS.bipush X0.here hx rfl (hb hy d33_47_15) (XS.istoreN X0.here hx rfl (hb hy d33_47_17) rfl (l' := #[iS q, iS 31]) rfl (XS.iloadN X0.here hx rfl (hb hy d33_47_18) rfl k)))) ?_
    refine gon s₁ (mkF m 22 #[iS q,iS 31] [(.int 65536), (.int q)]) (X0.ldcWInt hx hown (mvT hZ (w253 hw)) (g := (mkF m 19 #[iS q,iS 31] [(.int q)])) rfl (hb hy d33_47_19)) ?_
    by_cases hc22_2 : q < (65536 : Int32)
    · refine gon s₁ (mkF m 37 #[iS q,iS 31] [(.int 256), (.int q)]) (fun _ k => XS.icmpYes X0.here hx rfl (pc0 := 22) (pc' := 33) rfl (hb hy d33_47_22) rfl (tlt hc22_2).1 (by decide) (by decide) (XS.iloadN X0.here hx rfl (hb hy d33_47_33) rfl (XS.sipush X0.here hx rfl (hb hy d33_47_34) k))) ?_
      by_cases hc37_3 : q < (256 : Int32)
      · refine gon s₁ (mkF m 51 #[iS q,iS 31] [(.int 16), (.int q)]) (fun _ k => XS.icmpYes X0.here hx rfl (pc0 := 37) (pc' := 48) rfl (hb hy d33_47_37) rfl (tlt hc37_3).1 (by decide) (by decide) (XS.iloadN X0.here hx rfl (hb hy d33_47_48) rfl (XS.bipush X0.here hx rfl (hb hy d33_47_49) k))) ?_
        by_cases hc51_4 : q < (16 : Int32)
        · refine gon s₁ (mkF m 63 #[iS q,iS 31] [(.int 4), (.int q)]) (fun _ k => XS.icmpYes X0.here hx rfl (pc0 := 51) (pc' := 61) rfl (hb hy d33_47_51) rfl (tlt hc51_4).1 (by decide) (by decide) (XS.iloadN X0.here hx rfl (hb hy d33_47_61) rfl (XS.iconst X0.here hx rfl (hb hy d33_47_62) k))) ?_
          by_cases hc63_5 : q < (4 : Int32)
          · refine gon s₁ (mkF m 76 #[iS q,iS 31] [(.int 1), (.int q), (.int 31)]) (fun _ k => XS.icmpYes X0.here hx rfl (pc0 := 63) (pc' := 73) rfl (hb hy d33_47_63) rfl (tlt hc63_5).1 (by decide) (by decide) (XS.iloadN X0.here hx rfl (hb hy d33_47_73) rfl (XS.iloadN X0.here hx rfl (hb hy d33_47_74) rfl (XS.iconst X0.here hx rfl (hb hy d33_47_75) k)))) ?_
            have hc1_1i := own_gtI hc1_1
            have hc22_2i := own_ltI hc22_2 (Y := 65536) (by decide)
            have hc37_3i := own_ltI hc37_3 (Y := 256) (by decide)
            have hc51_4i := own_ltI hc51_4 (Y := 16) (by decide)
            have hc63_5i := own_ltI hc63_5 (Y := 4) (by decide)
            refine gon s₁ (mkF m 77 #[iS q,iS 31] [(.int ((q.toUInt32 >>> ((1 : Int32) &&& 31).toUInt32).toInt32)), (.int 31)]) (fun _ k => XS.iushr X0.here hx rfl (hb hy d33_47_76) rfl k) ?_
            obtain ⟨u_6, hsu_6, hdu_6⟩ := own_shr (q := q) (s := (1 : Int32)) (k := 1) (K := 2) (by omega) (by decide) (by decide) (by decide)
            rw [hsu_6]
            refine gon s₁ (mkF m 78 #[iS q,iS 31] [(.int ((31 : Int32) - u_6))]) (fun _ k => XS.isub X0.here hx rfl (hb hy d33_47_77) rfl k) ?_
            have hfin := own_subI (c := (31 : Int32)) (u := u_6) (C := 31) (by decide) (by omega) (by omega) (by decide) (by decide)
            have hleaf : Nlz32 q ((31 : Int32) - u_6) := by
              refine ⟨fun h => absurd h (by omega), fun _ => ?_⟩
              by_cases hu : u_6.toInt = 0
              · exact ⟨0, by rw [hfin]; omega, by omega, by show (1 : Int) ≤ q.toInt; omega, by show q.toInt < (2 : Int); omega⟩
              · exact ⟨1, by rw [hfin]; omega, by omega, by show (2 : Int) ≤ q.toInt; omega, by show q.toInt < (4 : Int); omega⟩
            exact OwnW.retI X0 hx hlk hret (hb hy d33_47_78) (by decide) (by decide) (show QQ _ s₁.heap _ from ⟨((31 : Int32) - u_6), rfl, N0, e0, (hleaf : Nlz32 q ((31 : Int32) - u_6))⟩)
          · refine gon s₁ (mkF m 71 #[iS q,iS 29] [(.int 2), (.int q)]) (fun _ k => XS.icmpNo X0.here hx rfl (hb hy d33_47_63) rfl (flt hc63_5).1 (XS.iinc X0.here hx rfl (hb hy d33_47_66) rfl (l' := #[iS q, iS 29]) rfl (XS.iloadN X0.here hx rfl (hb hy d33_47_69) rfl (XS.iconst X0.here hx rfl (hb hy d33_47_70) k)))) ?_
            have hc1_1i := own_gtI hc1_1
            have hc22_2i := own_ltI hc22_2 (Y := 65536) (by decide)
            have hc37_3i := own_ltI hc37_3 (Y := 256) (by decide)
            have hc51_4i := own_ltI hc51_4 (Y := 16) (by decide)
            have hc63_5i := own_geI hc63_5 (Y := 4) (by decide)
            refine gon s₁ (mkF m 72 #[iS q,iS 29] [(.int ((q.toUInt32 >>> ((2 : Int32) &&& 31).toUInt32).toInt32))]) (fun _ k => XS.iushr X0.here hx rfl (hb hy d33_47_71) rfl k) ?_
            obtain ⟨u_7, hsu_7, hdu_7⟩ := own_shr (q := q) (s := (2 : Int32)) (k := 2) (K := 4) (by omega) (by decide) (by decide) (by decide)
            rw [hsu_7]
            refine gon s₁ (mkF m 76 #[iS u_7,iS 29] [(.int 1), (.int u_7), (.int 29)]) (fun _ k => XS.istoreN X0.here hx rfl (hb hy d33_47_72) rfl (l' := #[iS u_7, iS 29]) rfl (XS.iloadN X0.here hx rfl (hb hy d33_47_73) rfl (XS.iloadN X0.here hx rfl (hb hy d33_47_74) rfl (XS.iconst X0.here hx rfl (hb hy d33_47_75) k)))) ?_
            refine gon s₁ (mkF m 77 #[iS u_7,iS 29] [(.int ((u_7.toUInt32 >>> ((1 : Int32) &&& 31).toUInt32).toInt32)), (.int 29)]) (fun _ k => XS.iushr X0.here hx rfl (hb hy d33_47_76) rfl k) ?_
            obtain ⟨u_8, hsu_8, hdu_8⟩ := own_shr (q := u_7) (s := (1 : Int32)) (k := 1) (K := 2) (by omega) (by decide) (by decide) (by decide)
            rw [hsu_8]
            refine gon s₁ (mkF m 78 #[iS u_7,iS 29] [(.int ((29 : Int32) - u_8))]) (fun _ k => XS.isub X0.here hx rfl (hb hy d33_47_77) rfl k) ?_
            have hfin := own_subI (c := (29 : Int32)) (u := u_8) (C := 29) (by decide) (by omega) (by omega) (by decide) (by decide)
            have hleaf : Nlz32 q ((29 : Int32) - u_8) := by
              refine ⟨fun h => absurd h (by omega), fun _ => ?_⟩
              by_cases hu : u_8.toInt = 0
              · exact ⟨2, by rw [hfin]; omega, by omega, by show (4 : Int) ≤ q.toInt; omega, by show q.toInt < (8 : Int); omega⟩
              · exact ⟨3, by rw [hfin]; omega, by omega, by show (8 : Int) ≤ q.toInt; omega, by show q.toInt < (16 : Int); omega⟩
            exact OwnW.retI X0 hx hlk hret (hb hy d33_47_78) (by decide) (by decide) (show QQ _ s₁.heap _ from ⟨((29 : Int32) - u_8), rfl, N0, e0, (hleaf : Nlz32 q ((29 : Int32) - u_8))⟩)
        · refine gon s₁ (mkF m 59 #[iS q,iS 27] [(.int 4), (.int q)]) (fun _ k => XS.icmpNo X0.here hx rfl (hb hy d33_47_51) rfl (flt hc51_4).1 (XS.iinc X0.here hx rfl (hb hy d33_47_54) rfl (l' := #[iS q, iS 27]) rfl (XS.iloadN X0.here hx rfl (hb hy d33_47_57) rfl (XS.iconst X0.here hx rfl (hb hy d33_47_58) k)))) ?_
          have hc1_1i := own_gtI hc1_1
          have hc22_2i := own_ltI hc22_2 (Y := 65536) (by decide)
          have hc37_3i := own_ltI hc37_3 (Y := 256) (by decide)
          have hc51_4i := own_geI hc51_4 (Y := 16) (by decide)
          refine gon s₁ (mkF m 60 #[iS q,iS 27] [(.int ((q.toUInt32 >>> ((4 : Int32) &&& 31).toUInt32).toInt32))]) (fun _ k => XS.iushr X0.here hx rfl (hb hy d33_47_59) rfl k) ?_
          obtain ⟨u_9, hsu_9, hdu_9⟩ := own_shr (q := q) (s := (4 : Int32)) (k := 4) (K := 16) (by omega) (by decide) (by decide) (by decide)
          rw [hsu_9]
          refine gon s₁ (mkF m 63 #[iS u_9,iS 27] [(.int 4), (.int u_9)]) (fun _ k => XS.istoreN X0.here hx rfl (hb hy d33_47_60) rfl (l' := #[iS u_9, iS 27]) rfl (XS.iloadN X0.here hx rfl (hb hy d33_47_61) rfl (XS.iconst X0.here hx rfl (hb hy d33_47_62) k))) ?_
          by_cases hc63_10 : u_9 < (4 : Int32)
          · refine gon s₁ (mkF m 76 #[iS u_9,iS 27] [(.int 1), (.int u_9), (.int 27)]) (fun _ k => XS.icmpYes X0.here hx rfl (pc0 := 63) (pc' := 73) rfl (hb hy d33_47_63) rfl (tlt hc63_10).1 (by decide) (by decide) (XS.iloadN X0.here hx rfl (hb hy d33_47_73) rfl (XS.iloadN X0.here hx rfl (hb hy d33_47_74) rfl (XS.iconst X0.here hx rfl (hb hy d33_47_75) k)))) ?_
            have hc63_10i := own_ltI hc63_10 (Y := 4) (by decide)
            refine gon s₁ (mkF m 77 #[iS u_9,iS 27] [(.int ((u_9.toUInt32 >>> ((1 : Int32) &&& 31).toUInt32).toInt32)), (.int 27)]) (fun _ k => XS.iushr X0.here hx rfl (hb hy d33_47_76) rfl k) ?_
            obtain ⟨u_11, hsu_11, hdu_11⟩ := own_shr (q := u_9) (s := (1 : Int32)) (k := 1) (K := 2) (by omega) (by decide) (by decide) (by decide)
            rw [hsu_11]
            refine gon s₁ (mkF m 78 #[iS u_9,iS 27] [(.int ((27 : Int32) - u_11))]) (fun _ k => XS.isub X0.here hx rfl (hb hy d33_47_77) rfl k) ?_
            have hfin := own_subI (c := (27 : Int32)) (u := u_11) (C := 27) (by decide) (by omega) (by omega) (by decide) (by decide)
            have hleaf : Nlz32 q ((27 : Int32) - u_11) := by
              refine ⟨fun h => absurd h (by omega), fun _ => ?_⟩
              by_cases hu : u_11.toInt = 0
              · exact ⟨4, by rw [hfin]; omega, by omega, by show (16 : Int) ≤ q.toInt; omega, by show q.toInt < (32 : Int); omega⟩
              · exact ⟨5, by rw [hfin]; omega, by omega, by show (32 : Int) ≤ q.toInt; omega, by show q.toInt < (64 : Int); omega⟩
            exact OwnW.retI X0 hx hlk hret (hb hy d33_47_78) (by decide) (by decide) (show QQ _ s₁.heap _ from ⟨((27 : Int32) - u_11), rfl, N0, e0, (hleaf : Nlz32 q ((27 : Int32) - u_11))⟩)
          · refine gon s₁ (mkF m 71 #[iS u_9,iS 25] [(.int 2), (.int u_9)]) (fun _ k => XS.icmpNo X0.here hx rfl (hb hy d33_47_63) rfl (flt hc63_10).1 (XS.iinc X0.here hx rfl (hb hy d33_47_66) rfl (l' := #[iS u_9, iS 25]) rfl (XS.iloadN X0.here hx rfl (hb hy d33_47_69) rfl (XS.iconst X0.here hx rfl (hb hy d33_47_70) k)))) ?_
            have hc63_10i := own_geI hc63_10 (Y := 4) (by decide)
            refine gon s₁ (mkF m 72 #[iS u_9,iS 25] [(.int ((u_9.toUInt32 >>> ((2 : Int32) &&& 31).toUInt32).toInt32))]) (fun _ k => XS.iushr X0.here hx rfl (hb hy d33_47_71) rfl k) ?_
            obtain ⟨u_12, hsu_12, hdu_12⟩ := own_shr (q := u_9) (s := (2 : Int32)) (k := 2) (K := 4) (by omega) (by decide) (by decide) (by decide)
            rw [hsu_12]
            refine gon s₁ (mkF m 76 #[iS u_12,iS 25] [(.int 1), (.int u_12), (.int 25)]) (fun _ k => XS.istoreN X0.here hx rfl (hb hy d33_47_72) rfl (l' := #[iS u_12, iS 25]) rfl (XS.iloadN X0.here hx rfl (hb hy d33_47_73) rfl (XS.iloadN X0.here hx rfl (hb hy d33_47_74) rfl (XS.iconst X0.here hx rfl (hb hy d33_47_75) k)))) ?_
            refine gon s₁ (mkF m 77 #[iS u_12,iS 25] [(.int ((u_12.toUInt32 >>> ((1 : Int32) &&& 31).toUInt32).toInt32)), (.int 25)]) (fun _ k => XS.iushr X0.here hx rfl (hb hy d33_47_76) rfl k) ?_
            obtain ⟨u_13, hsu_13, hdu_13⟩ := own_shr (q := u_12) (s := (1 : Int32)) (k := 1) (K := 2) (by omega) (by decide) (by decide) (by decide)
            rw [hsu_13]
            refine gon s₁ (mkF m 78 #[iS u_12,iS 25] [(.int ((25 : Int32) - u_13))]) (fun _ k => XS.isub X0.here hx rfl (hb hy d33_47_77) rfl k) ?_
            have hfin := own_subI (c := (25 : Int32)) (u := u_13) (C := 25) (by decide) (by omega) (by omega) (by decide) (by decide)
            have hleaf : Nlz32 q ((25 : Int32) - u_13) := by
              refine ⟨fun h => absurd h (by omega), fun _ => ?_⟩
              by_cases hu : u_13.toInt = 0
              · exact ⟨6, by rw [hfin]; omega, by omega, by show (64 : Int) ≤ q.toInt; omega, by show q.toInt < (128 : Int); omega⟩
              · exact ⟨7, by rw [hfin]; omega, by omega, by show (128 : Int) ≤ q.toInt; omega, by show q.toInt < (256 : Int); omega⟩
            exact OwnW.retI X0 hx hlk hret (hb hy d33_47_78) (by decide) (by decide) (show QQ _ s₁.heap _ from ⟨((25 : Int32) - u_13), rfl, N0, e0, (hleaf : Nlz32 q ((25 : Int32) - u_13))⟩)
      · refine gon s₁ (mkF m 46 #[iS q,iS 23] [(.int 8), (.int q)]) (fun _ k => XS.icmpNo X0.here hx rfl (hb hy d33_47_37) rfl (flt hc37_3).1 (XS.iinc X0.here hx rfl (hb hy d33_47_40) rfl (l' := #[iS q, iS 23]) rfl (XS.iloadN X0.here hx rfl (hb hy d33_47_43) rfl (XS.bipush X0.here hx rfl (hb hy d33_47_44) k)))) ?_
        have hc1_1i := own_gtI hc1_1
        have hc22_2i := own_ltI hc22_2 (Y := 65536) (by decide)
        have hc37_3i := own_geI hc37_3 (Y := 256) (by decide)
        refine gon s₁ (mkF m 47 #[iS q,iS 23] [(.int ((q.toUInt32 >>> ((8 : Int32) &&& 31).toUInt32).toInt32))]) (fun _ k => XS.iushr X0.here hx rfl (hb hy d33_47_46) rfl k) ?_
        obtain ⟨u_14, hsu_14, hdu_14⟩ := own_shr (q := q) (s := (8 : Int32)) (k := 8) (K := 256) (by omega) (by decide) (by decide) (by decide)
        rw [hsu_14]
        refine gon s₁ (mkF m 51 #[iS u_14,iS 23] [(.int 16), (.int u_14)]) (fun _ k => XS.istoreN X0.here hx rfl (hb hy d33_47_47) rfl (l' := #[iS u_14, iS 23]) rfl (XS.iloadN X0.here hx rfl (hb hy d33_47_48) rfl (XS.bipush X0.here hx rfl (hb hy d33_47_49) k))) ?_
        by_cases hc51_15 : u_14 < (16 : Int32)
        · refine gon s₁ (mkF m 63 #[iS u_14,iS 23] [(.int 4), (.int u_14)]) (fun _ k => XS.icmpYes X0.here hx rfl (pc0 := 51) (pc' := 61) rfl (hb hy d33_47_51) rfl (tlt hc51_15).1 (by decide) (by decide) (XS.iloadN X0.here hx rfl (hb hy d33_47_61) rfl (XS.iconst X0.here hx rfl (hb hy d33_47_62) k))) ?_
          by_cases hc63_16 : u_14 < (4 : Int32)
          · refine gon s₁ (mkF m 76 #[iS u_14,iS 23] [(.int 1), (.int u_14), (.int 23)]) (fun _ k => XS.icmpYes X0.here hx rfl (pc0 := 63) (pc' := 73) rfl (hb hy d33_47_63) rfl (tlt hc63_16).1 (by decide) (by decide) (XS.iloadN X0.here hx rfl (hb hy d33_47_73) rfl (XS.iloadN X0.here hx rfl (hb hy d33_47_74) rfl (XS.iconst X0.here hx rfl (hb hy d33_47_75) k)))) ?_
            have hc51_15i := own_ltI hc51_15 (Y := 16) (by decide)
            have hc63_16i := own_ltI hc63_16 (Y := 4) (by decide)
            refine gon s₁ (mkF m 77 #[iS u_14,iS 23] [(.int ((u_14.toUInt32 >>> ((1 : Int32) &&& 31).toUInt32).toInt32)), (.int 23)]) (fun _ k => XS.iushr X0.here hx rfl (hb hy d33_47_76) rfl k) ?_
            obtain ⟨u_17, hsu_17, hdu_17⟩ := own_shr (q := u_14) (s := (1 : Int32)) (k := 1) (K := 2) (by omega) (by decide) (by decide) (by decide)
            rw [hsu_17]
            refine gon s₁ (mkF m 78 #[iS u_14,iS 23] [(.int ((23 : Int32) - u_17))]) (fun _ k => XS.isub X0.here hx rfl (hb hy d33_47_77) rfl k) ?_
            have hfin := own_subI (c := (23 : Int32)) (u := u_17) (C := 23) (by decide) (by omega) (by omega) (by decide) (by decide)
            have hleaf : Nlz32 q ((23 : Int32) - u_17) := by
              refine ⟨fun h => absurd h (by omega), fun _ => ?_⟩
              by_cases hu : u_17.toInt = 0
              · exact ⟨8, by rw [hfin]; omega, by omega, by show (256 : Int) ≤ q.toInt; omega, by show q.toInt < (512 : Int); omega⟩
              · exact ⟨9, by rw [hfin]; omega, by omega, by show (512 : Int) ≤ q.toInt; omega, by show q.toInt < (1024 : Int); omega⟩
            exact OwnW.retI X0 hx hlk hret (hb hy d33_47_78) (by decide) (by decide) (show QQ _ s₁.heap _ from ⟨((23 : Int32) - u_17), rfl, N0, e0, (hleaf : Nlz32 q ((23 : Int32) - u_17))⟩)
          · refine gon s₁ (mkF m 71 #[iS u_14,iS 21] [(.int 2), (.int u_14)]) (fun _ k => XS.icmpNo X0.here hx rfl (hb hy d33_47_63) rfl (flt hc63_16).1 (XS.iinc X0.here hx rfl (hb hy d33_47_66) rfl (l' := #[iS u_14, iS 21]) rfl (XS.iloadN X0.here hx rfl (hb hy d33_47_69) rfl (XS.iconst X0.here hx rfl (hb hy d33_47_70) k)))) ?_
            have hc51_15i := own_ltI hc51_15 (Y := 16) (by decide)
            have hc63_16i := own_geI hc63_16 (Y := 4) (by decide)
            refine gon s₁ (mkF m 72 #[iS u_14,iS 21] [(.int ((u_14.toUInt32 >>> ((2 : Int32) &&& 31).toUInt32).toInt32))]) (fun _ k => XS.iushr X0.here hx rfl (hb hy d33_47_71) rfl k) ?_
            obtain ⟨u_18, hsu_18, hdu_18⟩ := own_shr (q := u_14) (s := (2 : Int32)) (k := 2) (K := 4) (by omega) (by decide) (by decide) (by decide)
            rw [hsu_18]
            refine gon s₁ (mkF m 76 #[iS u_18,iS 21] [(.int 1), (.int u_18), (.int 21)]) (fun _ k => XS.istoreN X0.here hx rfl (hb hy d33_47_72) rfl (l' := #[iS u_18, iS 21]) rfl (XS.iloadN X0.here hx rfl (hb hy d33_47_73) rfl (XS.iloadN X0.here hx rfl (hb hy d33_47_74) rfl (XS.iconst X0.here hx rfl (hb hy d33_47_75) k)))) ?_
            refine gon s₁ (mkF m 77 #[iS u_18,iS 21] [(.int ((u_18.toUInt32 >>> ((1 : Int32) &&& 31).toUInt32).toInt32)), (.int 21)]) (fun _ k => XS.iushr X0.here hx rfl (hb hy d33_47_76) rfl k) ?_
            obtain ⟨u_19, hsu_19, hdu_19⟩ := own_shr (q := u_18) (s := (1 : Int32)) (k := 1) (K := 2) (by omega) (by decide) (by decide) (by decide)
            rw [hsu_19]
            refine gon s₁ (mkF m 78 #[iS u_18,iS 21] [(.int ((21 : Int32) - u_19))]) (fun _ k => XS.isub X0.here hx rfl (hb hy d33_47_77) rfl k) ?_
            have hfin := own_subI (c := (21 : Int32)) (u := u_19) (C := 21) (by decide) (by omega) (by omega) (by decide) (by decide)
            have hleaf : Nlz32 q ((21 : Int32) - u_19) := by
              refine ⟨fun h => absurd h (by omega), fun _ => ?_⟩
              by_cases hu : u_19.toInt = 0
              · exact ⟨10, by rw [hfin]; omega, by omega, by show (1024 : Int) ≤ q.toInt; omega, by show q.toInt < (2048 : Int); omega⟩
              · exact ⟨11, by rw [hfin]; omega, by omega, by show (2048 : Int) ≤ q.toInt; omega, by show q.toInt < (4096 : Int); omega⟩
            exact OwnW.retI X0 hx hlk hret (hb hy d33_47_78) (by decide) (by decide) (show QQ _ s₁.heap _ from ⟨((21 : Int32) - u_19), rfl, N0, e0, (hleaf : Nlz32 q ((21 : Int32) - u_19))⟩)
        · refine gon s₁ (mkF m 59 #[iS u_14,iS 19] [(.int 4), (.int u_14)]) (fun _ k => XS.icmpNo X0.here hx rfl (hb hy d33_47_51) rfl (flt hc51_15).1 (XS.iinc X0.here hx rfl (hb hy d33_47_54) rfl (l' := #[iS u_14, iS 19]) rfl (XS.iloadN X0.here hx rfl (hb hy d33_47_57) rfl (XS.iconst X0.here hx rfl (hb hy d33_47_58) k)))) ?_
          have hc51_15i := own_geI hc51_15 (Y := 16) (by decide)
          refine gon s₁ (mkF m 60 #[iS u_14,iS 19] [(.int ((u_14.toUInt32 >>> ((4 : Int32) &&& 31).toUInt32).toInt32))]) (fun _ k => XS.iushr X0.here hx rfl (hb hy d33_47_59) rfl k) ?_
          obtain ⟨u_20, hsu_20, hdu_20⟩ := own_shr (q := u_14) (s := (4 : Int32)) (k := 4) (K := 16) (by omega) (by decide) (by decide) (by decide)
          rw [hsu_20]
          refine gon s₁ (mkF m 63 #[iS u_20,iS 19] [(.int 4), (.int u_20)]) (fun _ k => XS.istoreN X0.here hx rfl (hb hy d33_47_60) rfl (l' := #[iS u_20, iS 19]) rfl (XS.iloadN X0.here hx rfl (hb hy d33_47_61) rfl (XS.iconst X0.here hx rfl (hb hy d33_47_62) k))) ?_
          by_cases hc63_21 : u_20 < (4 : Int32)
          · refine gon s₁ (mkF m 76 #[iS u_20,iS 19] [(.int 1), (.int u_20), (.int 19)]) (fun _ k => XS.icmpYes X0.here hx rfl (pc0 := 63) (pc' := 73) rfl (hb hy d33_47_63) rfl (tlt hc63_21).1 (by decide) (by decide) (XS.iloadN X0.here hx rfl (hb hy d33_47_73) rfl (XS.iloadN X0.here hx rfl (hb hy d33_47_74) rfl (XS.iconst X0.here hx rfl (hb hy d33_47_75) k)))) ?_
            have hc63_21i := own_ltI hc63_21 (Y := 4) (by decide)
            refine gon s₁ (mkF m 77 #[iS u_20,iS 19] [(.int ((u_20.toUInt32 >>> ((1 : Int32) &&& 31).toUInt32).toInt32)), (.int 19)]) (fun _ k => XS.iushr X0.here hx rfl (hb hy d33_47_76) rfl k) ?_
            obtain ⟨u_22, hsu_22, hdu_22⟩ := own_shr (q := u_20) (s := (1 : Int32)) (k := 1) (K := 2) (by omega) (by decide) (by decide) (by decide)
            rw [hsu_22]
            refine gon s₁ (mkF m 78 #[iS u_20,iS 19] [(.int ((19 : Int32) - u_22))]) (fun _ k => XS.isub X0.here hx rfl (hb hy d33_47_77) rfl k) ?_
            have hfin := own_subI (c := (19 : Int32)) (u := u_22) (C := 19) (by decide) (by omega) (by omega) (by decide) (by decide)
            have hleaf : Nlz32 q ((19 : Int32) - u_22) := by
              refine ⟨fun h => absurd h (by omega), fun _ => ?_⟩
              by_cases hu : u_22.toInt = 0
              · exact ⟨12, by rw [hfin]; omega, by omega, by show (4096 : Int) ≤ q.toInt; omega, by show q.toInt < (8192 : Int); omega⟩
              · exact ⟨13, by rw [hfin]; omega, by omega, by show (8192 : Int) ≤ q.toInt; omega, by show q.toInt < (16384 : Int); omega⟩
            exact OwnW.retI X0 hx hlk hret (hb hy d33_47_78) (by decide) (by decide) (show QQ _ s₁.heap _ from ⟨((19 : Int32) - u_22), rfl, N0, e0, (hleaf : Nlz32 q ((19 : Int32) - u_22))⟩)
          · refine gon s₁ (mkF m 71 #[iS u_20,iS 17] [(.int 2), (.int u_20)]) (fun _ k => XS.icmpNo X0.here hx rfl (hb hy d33_47_63) rfl (flt hc63_21).1 (XS.iinc X0.here hx rfl (hb hy d33_47_66) rfl (l' := #[iS u_20, iS 17]) rfl (XS.iloadN X0.here hx rfl (hb hy d33_47_69) rfl (XS.iconst X0.here hx rfl (hb hy d33_47_70) k)))) ?_
            have hc63_21i := own_geI hc63_21 (Y := 4) (by decide)
            refine gon s₁ (mkF m 72 #[iS u_20,iS 17] [(.int ((u_20.toUInt32 >>> ((2 : Int32) &&& 31).toUInt32).toInt32))]) (fun _ k => XS.iushr X0.here hx rfl (hb hy d33_47_71) rfl k) ?_
            obtain ⟨u_23, hsu_23, hdu_23⟩ := own_shr (q := u_20) (s := (2 : Int32)) (k := 2) (K := 4) (by omega) (by decide) (by decide) (by decide)
            rw [hsu_23]
            refine gon s₁ (mkF m 76 #[iS u_23,iS 17] [(.int 1), (.int u_23), (.int 17)]) (fun _ k => XS.istoreN X0.here hx rfl (hb hy d33_47_72) rfl (l' := #[iS u_23, iS 17]) rfl (XS.iloadN X0.here hx rfl (hb hy d33_47_73) rfl (XS.iloadN X0.here hx rfl (hb hy d33_47_74) rfl (XS.iconst X0.here hx rfl (hb hy d33_47_75) k)))) ?_
            refine gon s₁ (mkF m 77 #[iS u_23,iS 17] [(.int ((u_23.toUInt32 >>> ((1 : Int32) &&& 31).toUInt32).toInt32)), (.int 17)]) (fun _ k => XS.iushr X0.here hx rfl (hb hy d33_47_76) rfl k) ?_
            obtain ⟨u_24, hsu_24, hdu_24⟩ := own_shr (q := u_23) (s := (1 : Int32)) (k := 1) (K := 2) (by omega) (by decide) (by decide) (by decide)
            rw [hsu_24]
            refine gon s₁ (mkF m 78 #[iS u_23,iS 17] [(.int ((17 : Int32) - u_24))]) (fun _ k => XS.isub X0.here hx rfl (hb hy d33_47_77) rfl k) ?_
            have hfin := own_subI (c := (17 : Int32)) (u := u_24) (C := 17) (by decide) (by omega) (by omega) (by decide) (by decide)
            have hleaf : Nlz32 q ((17 : Int32) - u_24) := by
              refine ⟨fun h => absurd h (by omega), fun _ => ?_⟩
              by_cases hu : u_24.toInt = 0
              · exact ⟨14, by rw [hfin]; omega, by omega, by show (16384 : Int) ≤ q.toInt; omega, by show q.toInt < (32768 : Int); omega⟩
              · exact ⟨15, by rw [hfin]; omega, by omega, by show (32768 : Int) ≤ q.toInt; omega, by show q.toInt < (65536 : Int); omega⟩
            exact OwnW.retI X0 hx hlk hret (hb hy d33_47_78) (by decide) (by decide) (show QQ _ s₁.heap _ from ⟨((17 : Int32) - u_24), rfl, N0, e0, (hleaf : Nlz32 q ((17 : Int32) - u_24))⟩)
    · refine gon s₁ (mkF m 31 #[iS q,iS 15] [(.int 16), (.int q)]) (fun _ k => XS.icmpNo X0.here hx rfl (hb hy d33_47_22) rfl (flt hc22_2).1 (XS.iinc X0.here hx rfl (hb hy d33_47_25) rfl (l' := #[iS q, iS 15]) rfl (XS.iloadN X0.here hx rfl (hb hy d33_47_28) rfl (XS.bipush X0.here hx rfl (hb hy d33_47_29) k)))) ?_
      have hc1_1i := own_gtI hc1_1
      have hc22_2i := own_geI hc22_2 (Y := 65536) (by decide)
      refine gon s₁ (mkF m 32 #[iS q,iS 15] [(.int ((q.toUInt32 >>> ((16 : Int32) &&& 31).toUInt32).toInt32))]) (fun _ k => XS.iushr X0.here hx rfl (hb hy d33_47_31) rfl k) ?_
      obtain ⟨u_25, hsu_25, hdu_25⟩ := own_shr (q := q) (s := (16 : Int32)) (k := 16) (K := 65536) (by omega) (by decide) (by decide) (by decide)
      rw [hsu_25]
      refine gon s₁ (mkF m 37 #[iS u_25,iS 15] [(.int 256), (.int u_25)]) (fun _ k => XS.istoreN X0.here hx rfl (hb hy d33_47_32) rfl (l' := #[iS u_25, iS 15]) rfl (XS.iloadN X0.here hx rfl (hb hy d33_47_33) rfl (XS.sipush X0.here hx rfl (hb hy d33_47_34) k))) ?_
      by_cases hc37_26 : u_25 < (256 : Int32)
      · refine gon s₁ (mkF m 51 #[iS u_25,iS 15] [(.int 16), (.int u_25)]) (fun _ k => XS.icmpYes X0.here hx rfl (pc0 := 37) (pc' := 48) rfl (hb hy d33_47_37) rfl (tlt hc37_26).1 (by decide) (by decide) (XS.iloadN X0.here hx rfl (hb hy d33_47_48) rfl (XS.bipush X0.here hx rfl (hb hy d33_47_49) k))) ?_
        by_cases hc51_27 : u_25 < (16 : Int32)
        · refine gon s₁ (mkF m 63 #[iS u_25,iS 15] [(.int 4), (.int u_25)]) (fun _ k => XS.icmpYes X0.here hx rfl (pc0 := 51) (pc' := 61) rfl (hb hy d33_47_51) rfl (tlt hc51_27).1 (by decide) (by decide) (XS.iloadN X0.here hx rfl (hb hy d33_47_61) rfl (XS.iconst X0.here hx rfl (hb hy d33_47_62) k))) ?_
          by_cases hc63_28 : u_25 < (4 : Int32)
          · refine gon s₁ (mkF m 76 #[iS u_25,iS 15] [(.int 1), (.int u_25), (.int 15)]) (fun _ k => XS.icmpYes X0.here hx rfl (pc0 := 63) (pc' := 73) rfl (hb hy d33_47_63) rfl (tlt hc63_28).1 (by decide) (by decide) (XS.iloadN X0.here hx rfl (hb hy d33_47_73) rfl (XS.iloadN X0.here hx rfl (hb hy d33_47_74) rfl (XS.iconst X0.here hx rfl (hb hy d33_47_75) k)))) ?_
            have hc37_26i := own_ltI hc37_26 (Y := 256) (by decide)
            have hc51_27i := own_ltI hc51_27 (Y := 16) (by decide)
            have hc63_28i := own_ltI hc63_28 (Y := 4) (by decide)
            refine gon s₁ (mkF m 77 #[iS u_25,iS 15] [(.int ((u_25.toUInt32 >>> ((1 : Int32) &&& 31).toUInt32).toInt32)), (.int 15)]) (fun _ k => XS.iushr X0.here hx rfl (hb hy d33_47_76) rfl k) ?_
            obtain ⟨u_29, hsu_29, hdu_29⟩ := own_shr (q := u_25) (s := (1 : Int32)) (k := 1) (K := 2) (by omega) (by decide) (by decide) (by decide)
            rw [hsu_29]
            refine gon s₁ (mkF m 78 #[iS u_25,iS 15] [(.int ((15 : Int32) - u_29))]) (fun _ k => XS.isub X0.here hx rfl (hb hy d33_47_77) rfl k) ?_
            have hfin := own_subI (c := (15 : Int32)) (u := u_29) (C := 15) (by decide) (by omega) (by omega) (by decide) (by decide)
            have hleaf : Nlz32 q ((15 : Int32) - u_29) := by
              refine ⟨fun h => absurd h (by omega), fun _ => ?_⟩
              by_cases hu : u_29.toInt = 0
              · exact ⟨16, by rw [hfin]; omega, by omega, by show (65536 : Int) ≤ q.toInt; omega, by show q.toInt < (131072 : Int); omega⟩
              · exact ⟨17, by rw [hfin]; omega, by omega, by show (131072 : Int) ≤ q.toInt; omega, by show q.toInt < (262144 : Int); omega⟩
            exact OwnW.retI X0 hx hlk hret (hb hy d33_47_78) (by decide) (by decide) (show QQ _ s₁.heap _ from ⟨((15 : Int32) - u_29), rfl, N0, e0, (hleaf : Nlz32 q ((15 : Int32) - u_29))⟩)
          · refine gon s₁ (mkF m 71 #[iS u_25,iS 13] [(.int 2), (.int u_25)]) (fun _ k => XS.icmpNo X0.here hx rfl (hb hy d33_47_63) rfl (flt hc63_28).1 (XS.iinc X0.here hx rfl (hb hy d33_47_66) rfl (l' := #[iS u_25, iS 13]) rfl (XS.iloadN X0.here hx rfl (hb hy d33_47_69) rfl (XS.iconst X0.here hx rfl (hb hy d33_47_70) k)))) ?_
            have hc37_26i := own_ltI hc37_26 (Y := 256) (by decide)
            have hc51_27i := own_ltI hc51_27 (Y := 16) (by decide)
            have hc63_28i := own_geI hc63_28 (Y := 4) (by decide)
            refine gon s₁ (mkF m 72 #[iS u_25,iS 13] [(.int ((u_25.toUInt32 >>> ((2 : Int32) &&& 31).toUInt32).toInt32))]) (fun _ k => XS.iushr X0.here hx rfl (hb hy d33_47_71) rfl k) ?_
            obtain ⟨u_30, hsu_30, hdu_30⟩ := own_shr (q := u_25) (s := (2 : Int32)) (k := 2) (K := 4) (by omega) (by decide) (by decide) (by decide)
            rw [hsu_30]
            refine gon s₁ (mkF m 76 #[iS u_30,iS 13] [(.int 1), (.int u_30), (.int 13)]) (fun _ k => XS.istoreN X0.here hx rfl (hb hy d33_47_72) rfl (l' := #[iS u_30, iS 13]) rfl (XS.iloadN X0.here hx rfl (hb hy d33_47_73) rfl (XS.iloadN X0.here hx rfl (hb hy d33_47_74) rfl (XS.iconst X0.here hx rfl (hb hy d33_47_75) k)))) ?_
            refine gon s₁ (mkF m 77 #[iS u_30,iS 13] [(.int ((u_30.toUInt32 >>> ((1 : Int32) &&& 31).toUInt32).toInt32)), (.int 13)]) (fun _ k => XS.iushr X0.here hx rfl (hb hy d33_47_76) rfl k) ?_
            obtain ⟨u_31, hsu_31, hdu_31⟩ := own_shr (q := u_30) (s := (1 : Int32)) (k := 1) (K := 2) (by omega) (by decide) (by decide) (by decide)
            rw [hsu_31]
            refine gon s₁ (mkF m 78 #[iS u_30,iS 13] [(.int ((13 : Int32) - u_31))]) (fun _ k => XS.isub X0.here hx rfl (hb hy d33_47_77) rfl k) ?_
            have hfin := own_subI (c := (13 : Int32)) (u := u_31) (C := 13) (by decide) (by omega) (by omega) (by decide) (by decide)
            have hleaf : Nlz32 q ((13 : Int32) - u_31) := by
              refine ⟨fun h => absurd h (by omega), fun _ => ?_⟩
              by_cases hu : u_31.toInt = 0
              · exact ⟨18, by rw [hfin]; omega, by omega, by show (262144 : Int) ≤ q.toInt; omega, by show q.toInt < (524288 : Int); omega⟩
              · exact ⟨19, by rw [hfin]; omega, by omega, by show (524288 : Int) ≤ q.toInt; omega, by show q.toInt < (1048576 : Int); omega⟩
            exact OwnW.retI X0 hx hlk hret (hb hy d33_47_78) (by decide) (by decide) (show QQ _ s₁.heap _ from ⟨((13 : Int32) - u_31), rfl, N0, e0, (hleaf : Nlz32 q ((13 : Int32) - u_31))⟩)
        · refine gon s₁ (mkF m 59 #[iS u_25,iS 11] [(.int 4), (.int u_25)]) (fun _ k => XS.icmpNo X0.here hx rfl (hb hy d33_47_51) rfl (flt hc51_27).1 (XS.iinc X0.here hx rfl (hb hy d33_47_54) rfl (l' := #[iS u_25, iS 11]) rfl (XS.iloadN X0.here hx rfl (hb hy d33_47_57) rfl (XS.iconst X0.here hx rfl (hb hy d33_47_58) k)))) ?_
          have hc37_26i := own_ltI hc37_26 (Y := 256) (by decide)
          have hc51_27i := own_geI hc51_27 (Y := 16) (by decide)
          refine gon s₁ (mkF m 60 #[iS u_25,iS 11] [(.int ((u_25.toUInt32 >>> ((4 : Int32) &&& 31).toUInt32).toInt32))]) (fun _ k => XS.iushr X0.here hx rfl (hb hy d33_47_59) rfl k) ?_
          obtain ⟨u_32, hsu_32, hdu_32⟩ := own_shr (q := u_25) (s := (4 : Int32)) (k := 4) (K := 16) (by omega) (by decide) (by decide) (by decide)
          rw [hsu_32]
          refine gon s₁ (mkF m 63 #[iS u_32,iS 11] [(.int 4), (.int u_32)]) (fun _ k => XS.istoreN X0.here hx rfl (hb hy d33_47_60) rfl (l' := #[iS u_32, iS 11]) rfl (XS.iloadN X0.here hx rfl (hb hy d33_47_61) rfl (XS.iconst X0.here hx rfl (hb hy d33_47_62) k))) ?_
          by_cases hc63_33 : u_32 < (4 : Int32)
          · refine gon s₁ (mkF m 76 #[iS u_32,iS 11] [(.int 1), (.int u_32), (.int 11)]) (fun _ k => XS.icmpYes X0.here hx rfl (pc0 := 63) (pc' := 73) rfl (hb hy d33_47_63) rfl (tlt hc63_33).1 (by decide) (by decide) (XS.iloadN X0.here hx rfl (hb hy d33_47_73) rfl (XS.iloadN X0.here hx rfl (hb hy d33_47_74) rfl (XS.iconst X0.here hx rfl (hb hy d33_47_75) k)))) ?_
            have hc63_33i := own_ltI hc63_33 (Y := 4) (by decide)
            refine gon s₁ (mkF m 77 #[iS u_32,iS 11] [(.int ((u_32.toUInt32 >>> ((1 : Int32) &&& 31).toUInt32).toInt32)), (.int 11)]) (fun _ k => XS.iushr X0.here hx rfl (hb hy d33_47_76) rfl k) ?_
            obtain ⟨u_34, hsu_34, hdu_34⟩ := own_shr (q := u_32) (s := (1 : Int32)) (k := 1) (K := 2) (by omega) (by decide) (by decide) (by decide)
            rw [hsu_34]
            refine gon s₁ (mkF m 78 #[iS u_32,iS 11] [(.int ((11 : Int32) - u_34))]) (fun _ k => XS.isub X0.here hx rfl (hb hy d33_47_77) rfl k) ?_
            have hfin := own_subI (c := (11 : Int32)) (u := u_34) (C := 11) (by decide) (by omega) (by omega) (by decide) (by decide)
            have hleaf : Nlz32 q ((11 : Int32) - u_34) := by
              refine ⟨fun h => absurd h (by omega), fun _ => ?_⟩
              by_cases hu : u_34.toInt = 0
              · exact ⟨20, by rw [hfin]; omega, by omega, by show (1048576 : Int) ≤ q.toInt; omega, by show q.toInt < (2097152 : Int); omega⟩
              · exact ⟨21, by rw [hfin]; omega, by omega, by show (2097152 : Int) ≤ q.toInt; omega, by show q.toInt < (4194304 : Int); omega⟩
            exact OwnW.retI X0 hx hlk hret (hb hy d33_47_78) (by decide) (by decide) (show QQ _ s₁.heap _ from ⟨((11 : Int32) - u_34), rfl, N0, e0, (hleaf : Nlz32 q ((11 : Int32) - u_34))⟩)
          · refine gon s₁ (mkF m 71 #[iS u_32,iS 9] [(.int 2), (.int u_32)]) (fun _ k => XS.icmpNo X0.here hx rfl (hb hy d33_47_63) rfl (flt hc63_33).1 (XS.iinc X0.here hx rfl (hb hy d33_47_66) rfl (l' := #[iS u_32, iS 9]) rfl (XS.iloadN X0.here hx rfl (hb hy d33_47_69) rfl (XS.iconst X0.here hx rfl (hb hy d33_47_70) k)))) ?_
            have hc63_33i := own_geI hc63_33 (Y := 4) (by decide)
            refine gon s₁ (mkF m 72 #[iS u_32,iS 9] [(.int ((u_32.toUInt32 >>> ((2 : Int32) &&& 31).toUInt32).toInt32))]) (fun _ k => XS.iushr X0.here hx rfl (hb hy d33_47_71) rfl k) ?_
            obtain ⟨u_35, hsu_35, hdu_35⟩ := own_shr (q := u_32) (s := (2 : Int32)) (k := 2) (K := 4) (by omega) (by decide) (by decide) (by decide)
            rw [hsu_35]
            refine gon s₁ (mkF m 76 #[iS u_35,iS 9] [(.int 1), (.int u_35), (.int 9)]) (fun _ k => XS.istoreN X0.here hx rfl (hb hy d33_47_72) rfl (l' := #[iS u_35, iS 9]) rfl (XS.iloadN X0.here hx rfl (hb hy d33_47_73) rfl (XS.iloadN X0.here hx rfl (hb hy d33_47_74) rfl (XS.iconst X0.here hx rfl (hb hy d33_47_75) k)))) ?_
            refine gon s₁ (mkF m 77 #[iS u_35,iS 9] [(.int ((u_35.toUInt32 >>> ((1 : Int32) &&& 31).toUInt32).toInt32)), (.int 9)]) (fun _ k => XS.iushr X0.here hx rfl (hb hy d33_47_76) rfl k) ?_
            obtain ⟨u_36, hsu_36, hdu_36⟩ := own_shr (q := u_35) (s := (1 : Int32)) (k := 1) (K := 2) (by omega) (by decide) (by decide) (by decide)
            rw [hsu_36]
            refine gon s₁ (mkF m 78 #[iS u_35,iS 9] [(.int ((9 : Int32) - u_36))]) (fun _ k => XS.isub X0.here hx rfl (hb hy d33_47_77) rfl k) ?_
            have hfin := own_subI (c := (9 : Int32)) (u := u_36) (C := 9) (by decide) (by omega) (by omega) (by decide) (by decide)
            have hleaf : Nlz32 q ((9 : Int32) - u_36) := by
              refine ⟨fun h => absurd h (by omega), fun _ => ?_⟩
              by_cases hu : u_36.toInt = 0
              · exact ⟨22, by rw [hfin]; omega, by omega, by show (4194304 : Int) ≤ q.toInt; omega, by show q.toInt < (8388608 : Int); omega⟩
              · exact ⟨23, by rw [hfin]; omega, by omega, by show (8388608 : Int) ≤ q.toInt; omega, by show q.toInt < (16777216 : Int); omega⟩
            exact OwnW.retI X0 hx hlk hret (hb hy d33_47_78) (by decide) (by decide) (show QQ _ s₁.heap _ from ⟨((9 : Int32) - u_36), rfl, N0, e0, (hleaf : Nlz32 q ((9 : Int32) - u_36))⟩)
      · refine gon s₁ (mkF m 46 #[iS u_25,iS 7] [(.int 8), (.int u_25)]) (fun _ k => XS.icmpNo X0.here hx rfl (hb hy d33_47_37) rfl (flt hc37_26).1 (XS.iinc X0.here hx rfl (hb hy d33_47_40) rfl (l' := #[iS u_25, iS 7]) rfl (XS.iloadN X0.here hx rfl (hb hy d33_47_43) rfl (XS.bipush X0.here hx rfl (hb hy d33_47_44) k)))) ?_
        have hc37_26i := own_geI hc37_26 (Y := 256) (by decide)
        refine gon s₁ (mkF m 47 #[iS u_25,iS 7] [(.int ((u_25.toUInt32 >>> ((8 : Int32) &&& 31).toUInt32).toInt32))]) (fun _ k => XS.iushr X0.here hx rfl (hb hy d33_47_46) rfl k) ?_
        obtain ⟨u_37, hsu_37, hdu_37⟩ := own_shr (q := u_25) (s := (8 : Int32)) (k := 8) (K := 256) (by omega) (by decide) (by decide) (by decide)
        rw [hsu_37]
        refine gon s₁ (mkF m 51 #[iS u_37,iS 7] [(.int 16), (.int u_37)]) (fun _ k => XS.istoreN X0.here hx rfl (hb hy d33_47_47) rfl (l' := #[iS u_37, iS 7]) rfl (XS.iloadN X0.here hx rfl (hb hy d33_47_48) rfl (XS.bipush X0.here hx rfl (hb hy d33_47_49) k))) ?_
        by_cases hc51_38 : u_37 < (16 : Int32)
        · refine gon s₁ (mkF m 63 #[iS u_37,iS 7] [(.int 4), (.int u_37)]) (fun _ k => XS.icmpYes X0.here hx rfl (pc0 := 51) (pc' := 61) rfl (hb hy d33_47_51) rfl (tlt hc51_38).1 (by decide) (by decide) (XS.iloadN X0.here hx rfl (hb hy d33_47_61) rfl (XS.iconst X0.here hx rfl (hb hy d33_47_62) k))) ?_
          by_cases hc63_39 : u_37 < (4 : Int32)
          · refine gon s₁ (mkF m 76 #[iS u_37,iS 7] [(.int 1), (.int u_37), (.int 7)]) (fun _ k => XS.icmpYes X0.here hx rfl (pc0 := 63) (pc' := 73) rfl (hb hy d33_47_63) rfl (tlt hc63_39).1 (by decide) (by decide) (XS.iloadN X0.here hx rfl (hb hy d33_47_73) rfl (XS.iloadN X0.here hx rfl (hb hy d33_47_74) rfl (XS.iconst X0.here hx rfl (hb hy d33_47_75) k)))) ?_
            have hc51_38i := own_ltI hc51_38 (Y := 16) (by decide)
            have hc63_39i := own_ltI hc63_39 (Y := 4) (by decide)
            refine gon s₁ (mkF m 77 #[iS u_37,iS 7] [(.int ((u_37.toUInt32 >>> ((1 : Int32) &&& 31).toUInt32).toInt32)), (.int 7)]) (fun _ k => XS.iushr X0.here hx rfl (hb hy d33_47_76) rfl k) ?_
            obtain ⟨u_40, hsu_40, hdu_40⟩ := own_shr (q := u_37) (s := (1 : Int32)) (k := 1) (K := 2) (by omega) (by decide) (by decide) (by decide)
            rw [hsu_40]
            refine gon s₁ (mkF m 78 #[iS u_37,iS 7] [(.int ((7 : Int32) - u_40))]) (fun _ k => XS.isub X0.here hx rfl (hb hy d33_47_77) rfl k) ?_
            have hfin := own_subI (c := (7 : Int32)) (u := u_40) (C := 7) (by decide) (by omega) (by omega) (by decide) (by decide)
            have hleaf : Nlz32 q ((7 : Int32) - u_40) := by
              refine ⟨fun h => absurd h (by omega), fun _ => ?_⟩
              by_cases hu : u_40.toInt = 0
              · exact ⟨24, by rw [hfin]; omega, by omega, by show (16777216 : Int) ≤ q.toInt; omega, by show q.toInt < (33554432 : Int); omega⟩
              · exact ⟨25, by rw [hfin]; omega, by omega, by show (33554432 : Int) ≤ q.toInt; omega, by show q.toInt < (67108864 : Int); omega⟩
            exact OwnW.retI X0 hx hlk hret (hb hy d33_47_78) (by decide) (by decide) (show QQ _ s₁.heap _ from ⟨((7 : Int32) - u_40), rfl, N0, e0, (hleaf : Nlz32 q ((7 : Int32) - u_40))⟩)
          · refine gon s₁ (mkF m 71 #[iS u_37,iS 5] [(.int 2), (.int u_37)]) (fun _ k => XS.icmpNo X0.here hx rfl (hb hy d33_47_63) rfl (flt hc63_39).1 (XS.iinc X0.here hx rfl (hb hy d33_47_66) rfl (l' := #[iS u_37, iS 5]) rfl (XS.iloadN X0.here hx rfl (hb hy d33_47_69) rfl (XS.iconst X0.here hx rfl (hb hy d33_47_70) k)))) ?_
            have hc51_38i := own_ltI hc51_38 (Y := 16) (by decide)
            have hc63_39i := own_geI hc63_39 (Y := 4) (by decide)
            refine gon s₁ (mkF m 72 #[iS u_37,iS 5] [(.int ((u_37.toUInt32 >>> ((2 : Int32) &&& 31).toUInt32).toInt32))]) (fun _ k => XS.iushr X0.here hx rfl (hb hy d33_47_71) rfl k) ?_
            obtain ⟨u_41, hsu_41, hdu_41⟩ := own_shr (q := u_37) (s := (2 : Int32)) (k := 2) (K := 4) (by omega) (by decide) (by decide) (by decide)
            rw [hsu_41]
            refine gon s₁ (mkF m 76 #[iS u_41,iS 5] [(.int 1), (.int u_41), (.int 5)]) (fun _ k => XS.istoreN X0.here hx rfl (hb hy d33_47_72) rfl (l' := #[iS u_41, iS 5]) rfl (XS.iloadN X0.here hx rfl (hb hy d33_47_73) rfl (XS.iloadN X0.here hx rfl (hb hy d33_47_74) rfl (XS.iconst X0.here hx rfl (hb hy d33_47_75) k)))) ?_
            refine gon s₁ (mkF m 77 #[iS u_41,iS 5] [(.int ((u_41.toUInt32 >>> ((1 : Int32) &&& 31).toUInt32).toInt32)), (.int 5)]) (fun _ k => XS.iushr X0.here hx rfl (hb hy d33_47_76) rfl k) ?_
            obtain ⟨u_42, hsu_42, hdu_42⟩ := own_shr (q := u_41) (s := (1 : Int32)) (k := 1) (K := 2) (by omega) (by decide) (by decide) (by decide)
            rw [hsu_42]
            refine gon s₁ (mkF m 78 #[iS u_41,iS 5] [(.int ((5 : Int32) - u_42))]) (fun _ k => XS.isub X0.here hx rfl (hb hy d33_47_77) rfl k) ?_
            have hfin := own_subI (c := (5 : Int32)) (u := u_42) (C := 5) (by decide) (by omega) (by omega) (by decide) (by decide)
            have hleaf : Nlz32 q ((5 : Int32) - u_42) := by
              refine ⟨fun h => absurd h (by omega), fun _ => ?_⟩
              by_cases hu : u_42.toInt = 0
              · exact ⟨26, by rw [hfin]; omega, by omega, by show (67108864 : Int) ≤ q.toInt; omega, by show q.toInt < (134217728 : Int); omega⟩
              · exact ⟨27, by rw [hfin]; omega, by omega, by show (134217728 : Int) ≤ q.toInt; omega, by show q.toInt < (268435456 : Int); omega⟩
            exact OwnW.retI X0 hx hlk hret (hb hy d33_47_78) (by decide) (by decide) (show QQ _ s₁.heap _ from ⟨((5 : Int32) - u_42), rfl, N0, e0, (hleaf : Nlz32 q ((5 : Int32) - u_42))⟩)
        · refine gon s₁ (mkF m 59 #[iS u_37,iS 3] [(.int 4), (.int u_37)]) (fun _ k => XS.icmpNo X0.here hx rfl (hb hy d33_47_51) rfl (flt hc51_38).1 (XS.iinc X0.here hx rfl (hb hy d33_47_54) rfl (l' := #[iS u_37, iS 3]) rfl (XS.iloadN X0.here hx rfl (hb hy d33_47_57) rfl (XS.iconst X0.here hx rfl (hb hy d33_47_58) k)))) ?_
          have hc51_38i := own_geI hc51_38 (Y := 16) (by decide)
          refine gon s₁ (mkF m 60 #[iS u_37,iS 3] [(.int ((u_37.toUInt32 >>> ((4 : Int32) &&& 31).toUInt32).toInt32))]) (fun _ k => XS.iushr X0.here hx rfl (hb hy d33_47_59) rfl k) ?_
          obtain ⟨u_43, hsu_43, hdu_43⟩ := own_shr (q := u_37) (s := (4 : Int32)) (k := 4) (K := 16) (by omega) (by decide) (by decide) (by decide)
          rw [hsu_43]
          refine gon s₁ (mkF m 63 #[iS u_43,iS 3] [(.int 4), (.int u_43)]) (fun _ k => XS.istoreN X0.here hx rfl (hb hy d33_47_60) rfl (l' := #[iS u_43, iS 3]) rfl (XS.iloadN X0.here hx rfl (hb hy d33_47_61) rfl (XS.iconst X0.here hx rfl (hb hy d33_47_62) k))) ?_
          by_cases hc63_44 : u_43 < (4 : Int32)
          · refine gon s₁ (mkF m 76 #[iS u_43,iS 3] [(.int 1), (.int u_43), (.int 3)]) (fun _ k => XS.icmpYes X0.here hx rfl (pc0 := 63) (pc' := 73) rfl (hb hy d33_47_63) rfl (tlt hc63_44).1 (by decide) (by decide) (XS.iloadN X0.here hx rfl (hb hy d33_47_73) rfl (XS.iloadN X0.here hx rfl (hb hy d33_47_74) rfl (XS.iconst X0.here hx rfl (hb hy d33_47_75) k)))) ?_
            have hc63_44i := own_ltI hc63_44 (Y := 4) (by decide)
            refine gon s₁ (mkF m 77 #[iS u_43,iS 3] [(.int ((u_43.toUInt32 >>> ((1 : Int32) &&& 31).toUInt32).toInt32)), (.int 3)]) (fun _ k => XS.iushr X0.here hx rfl (hb hy d33_47_76) rfl k) ?_
            obtain ⟨u_45, hsu_45, hdu_45⟩ := own_shr (q := u_43) (s := (1 : Int32)) (k := 1) (K := 2) (by omega) (by decide) (by decide) (by decide)
            rw [hsu_45]
            refine gon s₁ (mkF m 78 #[iS u_43,iS 3] [(.int ((3 : Int32) - u_45))]) (fun _ k => XS.isub X0.here hx rfl (hb hy d33_47_77) rfl k) ?_
            have hfin := own_subI (c := (3 : Int32)) (u := u_45) (C := 3) (by decide) (by omega) (by omega) (by decide) (by decide)
            have hleaf : Nlz32 q ((3 : Int32) - u_45) := by
              refine ⟨fun h => absurd h (by omega), fun _ => ?_⟩
              by_cases hu : u_45.toInt = 0
              · exact ⟨28, by rw [hfin]; omega, by omega, by show (268435456 : Int) ≤ q.toInt; omega, by show q.toInt < (536870912 : Int); omega⟩
              · exact ⟨29, by rw [hfin]; omega, by omega, by show (536870912 : Int) ≤ q.toInt; omega, by show q.toInt < (1073741824 : Int); omega⟩
            exact OwnW.retI X0 hx hlk hret (hb hy d33_47_78) (by decide) (by decide) (show QQ _ s₁.heap _ from ⟨((3 : Int32) - u_45), rfl, N0, e0, (hleaf : Nlz32 q ((3 : Int32) - u_45))⟩)
          · refine gon s₁ (mkF m 71 #[iS u_43,iS 1] [(.int 2), (.int u_43)]) (fun _ k => XS.icmpNo X0.here hx rfl (hb hy d33_47_63) rfl (flt hc63_44).1 (XS.iinc X0.here hx rfl (hb hy d33_47_66) rfl (l' := #[iS u_43, iS 1]) rfl (XS.iloadN X0.here hx rfl (hb hy d33_47_69) rfl (XS.iconst X0.here hx rfl (hb hy d33_47_70) k)))) ?_
            have hc63_44i := own_geI hc63_44 (Y := 4) (by decide)
            refine gon s₁ (mkF m 72 #[iS u_43,iS 1] [(.int ((u_43.toUInt32 >>> ((2 : Int32) &&& 31).toUInt32).toInt32))]) (fun _ k => XS.iushr X0.here hx rfl (hb hy d33_47_71) rfl k) ?_
            obtain ⟨u_46, hsu_46, hdu_46⟩ := own_shr (q := u_43) (s := (2 : Int32)) (k := 2) (K := 4) (by omega) (by decide) (by decide) (by decide)
            rw [hsu_46]
            refine gon s₁ (mkF m 76 #[iS u_46,iS 1] [(.int 1), (.int u_46), (.int 1)]) (fun _ k => XS.istoreN X0.here hx rfl (hb hy d33_47_72) rfl (l' := #[iS u_46, iS 1]) rfl (XS.iloadN X0.here hx rfl (hb hy d33_47_73) rfl (XS.iloadN X0.here hx rfl (hb hy d33_47_74) rfl (XS.iconst X0.here hx rfl (hb hy d33_47_75) k)))) ?_
            refine gon s₁ (mkF m 77 #[iS u_46,iS 1] [(.int ((u_46.toUInt32 >>> ((1 : Int32) &&& 31).toUInt32).toInt32)), (.int 1)]) (fun _ k => XS.iushr X0.here hx rfl (hb hy d33_47_76) rfl k) ?_
            obtain ⟨u_47, hsu_47, hdu_47⟩ := own_shr (q := u_46) (s := (1 : Int32)) (k := 1) (K := 2) (by omega) (by decide) (by decide) (by decide)
            rw [hsu_47]
            refine gon s₁ (mkF m 78 #[iS u_46,iS 1] [(.int ((1 : Int32) - u_47))]) (fun _ k => XS.isub X0.here hx rfl (hb hy d33_47_77) rfl k) ?_
            have hfin := own_subI (c := (1 : Int32)) (u := u_47) (C := 1) (by decide) (by omega) (by omega) (by decide) (by decide)
            have hleaf : Nlz32 q ((1 : Int32) - u_47) := by
              refine ⟨fun h => absurd h (by omega), fun _ => ?_⟩
              by_cases hu : u_47.toInt = 0
              · exact ⟨30, by rw [hfin]; omega, by omega, by show (1073741824 : Int) ≤ q.toInt; omega, by show q.toInt < (2147483648 : Int); omega⟩
              · exact ⟨31, by rw [hfin]; omega, by omega, by show (2147483648 : Int) ≤ q.toInt; omega, by show q.toInt < (4294967296 : Int); omega⟩
            exact OwnW.retI X0 hx hlk hret (hb hy d33_47_78) (by decide) (by decide) (show QQ _ s₁.heap _ from ⟨((1 : Int32) - u_47), rfl, N0, e0, (hleaf : Nlz32 q ((1 : Int32) - u_47))⟩)
  · refine gon s₁ (mkF m 5 #[iS q,uS] [(.int q)]) (fun _ k => XS.ifNo X0.here hx rfl (hb hy d33_47_1) rfl ((if0 _ _).trans (flt hc1_1).2.2.1) (XS.iloadN X0.here hx rfl (hb hy d33_47_4) rfl k)) ?_
    by_cases hc5_48 : q = (0 : Int32)
    · refine gon s₁ (mkF m 14 #[iS q,uS] [(.int 32)]) (fun _ k => XS.ifNo X0.here hx rfl (hb hy d33_47_5) rfl ((if0 _ _).trans (teq hc5_48).2) (XS.bipush X0.here hx rfl (hb hy d33_47_8) (XS.goto X0.here hx rfl (pc0 := 10) (pc' := 14) rfl (hb hy d33_47_10) (by decide) (by decide) k))) ?_
      have hc1_1i : ¬ (0 < q.toInt) := fun h => hc1_1 (by rw [Int32.lt_iff_toInt_lt]; exact h)
      have hq0 : q.toInt = 0 := by rw [hc5_48]; decide
      exact OwnW.retI X0 hx hlk hret (hb hy d33_47_14) (by decide) (by decide) (show QQ _ s₁.heap _ from ⟨(32 : Int32), rfl, N0, e0, (⟨fun h => absurd h (by omega), fun h => absurd h (by omega)⟩ : Nlz32 q (32 : Int32))⟩)
    · refine gon s₁ (mkF m 14 #[iS q,uS] [(.int 0)]) (fun _ k => XS.ifYes X0.here hx rfl (pc0 := 5) (pc' := 13) rfl (hb hy d33_47_5) rfl ((if0 _ _).trans (feq hc5_48).2) (by decide) (by decide) (XS.iconst X0.here hx rfl (hb hy d33_47_13) k)) ?_
      have hc1_1i : ¬ (0 < q.toInt) := fun h => hc1_1 (by rw [Int32.lt_iff_toInt_lt]; exact h)
      exact OwnW.retI X0 hx hlk hret (hb hy d33_47_14) (by decide) (by decide) (show QQ _ s₁.heap _ from ⟨(0 : Int32), rfl, N0, e0, (⟨fun _ => by decide, fun h => absurd h (by omega)⟩ : Nlz32 q (0 : Int32))⟩)
theorem own_hi {q : Int64} (h0 : 0 < q.toInt) (h1 : q.toInt ≤ 6500000000000) : ∃ u : Int32, (((q.toUInt64 >>> ((32 : Int32) &&& 0x3f).toInt64.toUInt64).toInt64).toInt32) = u ∧ u.toInt = q.toInt / 4294967296 := by
  refine ⟨_, rfl, ?_⟩
  have a := c_lushr q 32 32 (by decide) (by decide)
  generalize (q.toUInt64 >>> ((32 : Int32) &&& 0x3f).toInt64.toUInt64).toInt64 = w at a ⊢
  have e : ((2 ^ 32 : Nat) : Int) = 4294967296 := by decide
  rw [e, Int.emod_eq_of_lt (by omega) (by omega)] at a
  have b := c_l2i w
  have c := rng32 w.toInt32
  omega
theorem own_ne0I {x : Int32} (h : ¬ x = 0) : x.toInt ≠ 0 := fun e => h (Int32.toInt_inj.mp e)
theorem own_eq0I {x : Int32} (h : x = 0) : x.toInt = 0 := by rw [h]; decide
theorem own_lo {q : Int64} {n : Int32} (h0 : 0 < q.toInt) (h1 : q.toInt < 4294967296) (H : Nlz32 q.toInt32 n) : Nlz64 q (32 + n) := by
  have a := c_l2i q
  have b := rng32 q.toInt32
  have c := c_iadd 32 n
  have r := rng32 (32 + n)
  have e32 : (32 : Int32).toInt = 32 := by decide
  have rn := rng32 n
  by_cases hs : q.toInt32.toInt < 0
  · have hn := H.1 hs
    refine ⟨31, by omega, by omega, ?_, ?_⟩
    · show (2147483648 : Int) ≤ q.toInt; omega
    · show q.toInt < (4294967296 : Int); omega
  · obtain ⟨m, h2, h3, h4, h5⟩ := H.2 (by omega)
    have e : q.toInt32.toInt = q.toInt := by omega
    exact ⟨m, by omega, by omega, by rw [← e]; exact h4, by rw [← e]; exact h5⟩
theorem own_up {q : Int64} {u n : Int32} (h1 : q.toInt ≤ 6500000000000) (e : u.toInt = q.toInt / 4294967296) (hu : 0 < u.toInt) (H : Nlz32 u n) : Nlz64 q n := by
  obtain ⟨m, h2, h3, h4, h5⟩ := H.2 hu
  have hm : m ≤ 10 := by
    by_cases hm : m ≤ 10
    · exact hm
    · have : (2 : Int) ^ 11 ≤ 2 ^ m := by
        have := Nat.pow_le_pow_right (n := 2) (by decide) (show 11 ≤ m by omega)
        have e2 : ((2 ^ m : Nat) : Int) = (2 : Int) ^ m := by simp
        have e3 : ((2 ^ 11 : Nat) : Int) = (2 : Int) ^ 11 := by simp
        rw [← e2, ← e3]
        exact Int.ofNat_le.mpr this
      have e4 : (2 : Int) ^ 11 = 2048 := by decide
      omega
  have e1 : (2 : Int) ^ (32 + m) = 4294967296 * 2 ^ m := by rw [Int.pow_add]; rfl
  have e2 : (2 : Int) ^ (32 + m + 1) = 4294967296 * 2 ^ (m + 1) := by rw [Nat.add_assoc, Int.pow_add]; rfl
  exact ⟨32 + m, by omega, by omega, by rw [e1]; omega, by rw [e2]; omega⟩
abbrev k35_48 := jdk_35_method_48_code
theorem d35_48_0 : decode k35_48 0 = .ok (.lload_n 0, 1) := by decide +kernel
theorem d35_48_1 : decode k35_48 1 = .ok (.bipush 32, 2) := by decide +kernel
theorem d35_48_3 : decode k35_48 3 = .ok (.lushr, 1) := by decide +kernel
theorem d35_48_4 : decode k35_48 4 = .ok (.l2i, 1) := by decide +kernel
theorem d35_48_5 : decode k35_48 5 = .ok (.istore_n 2, 1) := by decide +kernel
theorem d35_48_6 : decode k35_48 6 = .ok (.iload_n 2, 1) := by decide +kernel
theorem d35_48_7 : decode k35_48 7 = .ok (.ifCond .ne 14, 3) := by decide +kernel
theorem d35_48_10 : decode k35_48 10 = .ok (.bipush 32, 2) := by decide +kernel
theorem d35_48_12 : decode k35_48 12 = .ok (.lload_n 0, 1) := by decide +kernel
theorem d35_48_13 : decode k35_48 13 = .ok (.l2i, 1) := by decide +kernel
theorem d35_48_14 : decode k35_48 14 = .ok (.invokestatic 308, 3) := by decide +kernel
theorem w252 {Z a0} (hw : Ht a0 Z) : (Cond.code ⟨"java/lang/Integer", "numberOfLeadingZeros", "(I)I"⟩ jdk_33_method_47_code (2 : Nat) (Option.some Jvm.ClassFile.FieldType.int)).before a0 Z = true := ht hw 252 rfl
theorem w249 {Z a0} (hw : Ht a0 Z) : (Cond.methodLink "java/lang/Long" (308 : Nat) ⟨"java/lang/Integer", "numberOfLeadingZeros", "(I)I"⟩).before a0 Z = true := ht hw 249 rfl
theorem w250 {Z a0} (hw : Ht a0 Z) : (Cond.static ⟨"java/lang/Integer", "numberOfLeadingZeros", "(I)I"⟩).before a0 Z = true := ht hw 250 rfl
theorem w251 {Z a0} (hw : Ht a0 Z) : (Cond.initialized "java/lang/Integer").before a0 Z = true := ht hw 251 rfl
theorem pd_22 : parseMethodDescriptor "(I)I" = some ⟨[.int], some .int⟩ := by decide +kernel
theorem d35_48_17 : decode k35_48 17 = .ok (.iadd, 1) := by decide +kernel
theorem d35_48_18 : decode k35_48 18 = .ok (.goto 7, 3) := by decide +kernel
theorem d35_48_25 : decode k35_48 25 = .ok (.ireturn, 1) := by decide +kernel
theorem d35_48_21 : decode k35_48 21 = .ok (.iload_n 2, 1) := by decide +kernel
theorem d35_48_22 : decode k35_48 22 = .ok (.invokestatic 308, 3) := by decide +kernel
theorem pn_10 : plainName "java/lang/Long" = true := by first | (simp [plainName, overriddenIn]; done) | decide +kernel
def Q_lnlz (Z : State) (q : Int64) (h0 : Heap) (n0 : Nat) (v : Option Value) (h : Heap) (L : List Loc) : Prop := ∃ nn : Int32, v = some (.int nn) ∧ Fr n0 L ∧ h = h0 ∧ Nlz64 q nn
set_option maxRecDepth 65536 in
set_option maxHeartbeats 40000000 in
theorem lnlz (l : Launch) (Z : State) (a0 : Array Value) (hw : Ht a0 Z) (q : Int64) (h0 : Heap) (n0 : Nat) (Z0 : n0 ≤ h0.size) (P0 : 0 < q.toInt) (P1 : q.toInt ≤ 6500000000000) :
    Con l Z (⟨"java/lang/Long", "numberOfLeadingZeros", "(J)I"⟩ : MethodName) jdk_35_method_48_code 3 (some .int) ({ frames := 1, cells := 0, slots := 0, locals := 14 } : Room) #[(.long q)] h0 (Q_lnlz Z q h0 n0) := by
  refine OwnW.body (Ls := #[jS q, dS, uS]) (plainFor_of_name pn_10) (fun m => by first | (simp [entryFrame, mkF, argsToLocals, Value.category]; done) | rfl) ?_
  intro p e s m below meth c s₁ hx hy hml hown hnm hret hlk hZ X0 e0
  let QQ := Q_lnlz Z q h0 n0
  have N0 := Fr.nil n0
  show Go p e below (s₁.setTop (mkF m 0 #[jS q, dS, uS] [])) (EndQ s below ({ frames := 1, cells := 0, slots := 0, locals := 14 } : Room).cells ({ frames := 1, cells := 0, slots := 0, locals := 14 } : Room).slots QQ)
  refine gon s₁ (mkF m 5 #[jS q,dS,uS] [(.int (((q.toUInt64 >>> ((32 : Int32) &&& 0x3f).toInt64.toUInt64).toInt64).toInt32))]) (fun _ k => XS.lloadN X0.here hx rfl (hb hy d35_48_0) rfl (XS.bipush X0.here hx rfl (hb hy d35_48_1) (XS.lushr X0.here hx rfl (hb hy d35_48_3) rfl (XS.l2i X0.here hx rfl (hb hy d35_48_4) rfl k)))) ?_
  obtain ⟨u_1, hsu_1, hdu_1⟩ := own_hi P0 P1
  rw [hsu_1]
  refine gon s₁ (mkF m 7 #[jS q,dS,iS u_1] [(.int u_1)]) (fun _ k => XS.istoreN X0.here hx rfl (hb hy d35_48_5) rfl (l' := #[jS q, dS, iS u_1]) rfl (XS.iloadN X0.here hx rfl (hb hy d35_48_6) rfl k)) ?_
  by_cases hc7_2 : u_1 = (0 : Int32)
  · refine gon s₁ (mkF m 14 #[jS q,dS,iS u_1] [(.int (q.toInt32)), (.int 32)]) (fun _ k => XS.ifNo X0.here hx rfl (hb hy d35_48_7) rfl ((if0 _ _).trans (teq hc7_2).2) (XS.bipush X0.here hx rfl (hb hy d35_48_10) (XS.lloadN X0.here hx rfl (hb hy d35_48_12) rfl (XS.l2i X0.here hx rfl (hb hy d35_48_13) rfl k)))) ?_
    obtain ⟨v3, T3, L3, X3, hQ3, st3⟩ := OwnW.callS X0 hx hZ hown (w249 hw) (w250 hw) (w251 hw) (w252 hw) (by decide) (inlz l Z a0 hw (q.toInt32) h0 n0 Z0 ) e0 (Ls := #[jS q, dS, iS u_1]) (by rw [hml]; rfl) pd_22 (argsL := [(.int (q.toInt32))]) rfl (rest := [(.int (32 : Int32))]) rfl (W := 1) rfl (hb hy d35_48_14) (by decide) (by decide) (by decide) (by decide)
    obtain ⟨nn_4, rfl, Nq3, eq3, q3_0⟩ := hQ3
    have N3 := Fr.app N0 Nq3
    refine gon T3 (mkF m 17 #[jS q,dS,iS u_1] [(.int nn_4), (.int 32)]) (st3) ?_
    refine gon T3 (mkF m 25 #[jS q,dS,iS u_1] [(.int ((32 : Int32) + nn_4))]) (fun _ k => XS.iadd X3.here hx rfl (hb hy d35_48_17) rfl (XS.goto X3.here hx rfl (pc0 := 18) (pc' := 25) rfl (hb hy d35_48_18) (by decide) (by decide) k)) ?_
    exact OwnW.retI X3 hx hlk hret (hb hy d35_48_25) (by decide) (by decide) (show QQ _ T3.heap _ from ⟨((32 : Int32) + nn_4), rfl, N3, eq3, (own_lo P0 (by have := own_eq0I hc7_2; omega) q3_0 : Nlz64 q ((32 : Int32) + nn_4))⟩)
  · refine gon s₁ (mkF m 22 #[jS q,dS,iS u_1] [(.int u_1)]) (fun _ k => XS.ifYes X0.here hx rfl (pc0 := 7) (pc' := 21) rfl (hb hy d35_48_7) rfl ((if0 _ _).trans (feq hc7_2).2) (by decide) (by decide) (XS.iloadN X0.here hx rfl (hb hy d35_48_21) rfl k)) ?_
    obtain ⟨v5, T5, L5, X5, hQ5, st5⟩ := OwnW.callS X0 hx hZ hown (w249 hw) (w250 hw) (w251 hw) (w252 hw) (by decide) (inlz l Z a0 hw u_1 h0 n0 Z0 ) e0 (Ls := #[jS q, dS, iS u_1]) (by rw [hml]; rfl) pd_22 (argsL := [(.int u_1)]) rfl (rest := []) rfl (W := 0) rfl (hb hy d35_48_22) (by decide) (by decide) (by decide) (by decide)
    obtain ⟨nn_6, rfl, Nq5, eq5, q5_0⟩ := hQ5
    have N5 := Fr.app N0 Nq5
    refine gon T5 (mkF m 25 #[jS q,dS,iS u_1] [(.int nn_6)]) (st5) ?_
    exact OwnW.retI X5 hx hlk hret (hb hy d35_48_25) (by decide) (by decide) (show QQ _ T5.heap _ from ⟨nn_6, rfl, N5, eq5, (own_up P1 hdu_1 (by have := own_ne0I hc7_2; omega) q5_0 : Nlz64 q nn_6)⟩)
def rr (n : Int32) : Int32 := (((((64 : Int32) - n) + (1 : Int32)) * (1233 : Int32)).toUInt32 >>> ((12 : Int32) &&& 31).toUInt32).toInt32
theorem own_tab : ∀ m : Fin 43, 3 ≤ m.1 → ∃ i : Fin 14, 1 ≤ i.1 ∧ rr (Int32.ofInt (63 - (m.1 : Int))) = Int32.ofNat i.1 ∧ 10 ^ (i.1 - 1) ≤ 2 ^ m.1 ∧ 2 ^ (m.1 + 1) ≤ 10 ^ (i.1 + 1) := by decide +kernel
theorem own_r {q : Int64} {n : Int32} (H : Nlz64 q n) (h : 10 ≤ q.toInt) : ∃ i : Nat, 1 ≤ i ∧ i ≤ 13 ∧ rr n = Int32.ofNat i ∧ ((10 ^ (i - 1) : Nat) : Int) ≤ q.toInt ∧ q.toInt < ((10 ^ (i + 1) : Nat) : Int) := by
  obtain ⟨m, h1, h2, h3, h4⟩ := H
  have hm : 3 ≤ m := by
    rcases m with _ | _ | _ | m
    · have : q.toInt < 2 := h4
      omega
    · have : q.toInt < 4 := h4
      omega
    · have : q.toInt < 8 := h4
      omega
    · omega
  obtain ⟨i, i1, i2, i3, i4⟩ := own_tab ⟨m, by omega⟩ hm
  have hi := i.2
  have en : n = Int32.ofInt (63 - (m : Int)) := by
    apply Int32.toInt_inj.mp
    rw [Int32.toInt_ofInt_of_le (by simp; omega) (by simp; omega)]
    exact h1
  have e1 : ((2 ^ m : Nat) : Int) = (2 : Int) ^ m := by simp
  have e2 : ((2 ^ (m + 1) : Nat) : Int) = (2 : Int) ^ (m + 1) := by simp
  refine ⟨i.1, i1, by omega, by rw [en]; exact i2, ?_, ?_⟩
  · rw [← e1] at h3
    exact Int.le_trans (Int.ofNat_le.mpr i3) h3
  · rw [← e2] at h4
    exact Int.lt_of_lt_of_le h4 (Int.ofNat_le.mpr i4)
theorem own_digI {q : Int64} {d : Int32} {n : Nat} {A B : Nat} (u : Int64) (hu : u.toInt = (q.toInt.natAbs : Int)) (hd : d.toInt = n + 1) (hn : n < 18) (hA : A = 10 ^ n) (hB : B = 10 ^ (n + 1)) (h1 : (A : Int) ≤ u.toInt) (h2 : u.toInt < B) : Dig q d := ⟨n, hd, hn, by omega, by omega⟩
theorem own_negabs {q : Int64} (h : Bq q) (hs : q < 0) : 0 < (-q).toInt ∧ (-q).toInt = (q.toInt.natAbs : Int) ∧ (-q).toInt ≤ 6500000000000 := by
  have e0 : (0 : Int64).toInt = 0 := by decide
  have c := c_lneg q
  have r := rng64 (-q)
  obtain ⟨a1, a2⟩ := h
  rw [Int64.lt_iff_toInt_lt] at hs
  omega
theorem own_posabs {q : Int64} (h : Bq q) (hn : ¬ q = 0) (hs : ¬ q < 0) : 0 < q.toInt ∧ q.toInt = (q.toInt.natAbs : Int) ∧ q.toInt ≤ 6500000000000 := by
  have e0 : (0 : Int64).toInt = 0 := by decide
  have hne : q.toInt ≠ 0 := fun e => hn (Int64.toInt_inj.mp e)
  obtain ⟨a1, a2⟩ := h
  rw [Int64.lt_iff_toInt_lt] at hs
  omega
theorem own_ltL {x y : Int64} {Y : Int} (h : x < y) (e : y.toInt = Y) : x.toInt < Y := by rw [Int64.lt_iff_toInt_lt] at h; omega
theorem own_geL {x y : Int64} {Y : Int} (h : ¬ x < y) (e : y.toInt = Y) : Y ≤ x.toInt := by rw [Int64.lt_iff_toInt_lt] at h; omega
abbrev k17_104 := jdk_17_method_104_code
theorem d17_104_0 : decode k17_104 0 = .ok (.getstatic 311, 3) := by decide +kernel
theorem w244 {Z a0} (hw : Ht a0 Z) : (Cond.fieldLink "java/math/BigDecimal" (311 : Nat) "java/math/BigDecimal" "$assertionsDisabled" "Z").before a0 Z = true := ht hw 244 rfl
theorem d17_104_3 : decode k17_104 3 = .ok (.ifCond .ne 19, 3) := by decide +kernel
theorem d17_104_22 : decode k17_104 22 = .ok (.lload_n 0, 1) := by decide +kernel
theorem d17_104_23 : decode k17_104 23 = .ok (.lconst 0, 1) := by decide +kernel
theorem d17_104_24 : decode k17_104 24 = .ok (.lcmp, 1) := by decide +kernel
theorem d17_104_25 : decode k17_104 25 = .ok (.ifCond .ge 6, 3) := by decide +kernel
theorem d17_104_28 : decode k17_104 28 = .ok (.lload_n 0, 1) := by decide +kernel
theorem d17_104_29 : decode k17_104 29 = .ok (.lneg, 1) := by decide +kernel
theorem d17_104_30 : decode k17_104 30 = .ok (.lstore_n 0, 1) := by decide +kernel
theorem d17_104_31 : decode k17_104 31 = .ok (.lload_n 0, 1) := by decide +kernel
theorem d17_104_32 : decode k17_104 32 = .ok (.ldc2_w 56, 3) := by decide +kernel
theorem w245 {Z a0} (hw : Ht a0 Z) : (Cond.constantLong "java/math/BigDecimal" (56 : Nat) (10 : Int64)).before a0 Z = true := ht hw 245 rfl
theorem d17_104_35 : decode k17_104 35 = .ok (.lcmp, 1) := by decide +kernel
theorem d17_104_36 : decode k17_104 36 = .ok (.ifCond .ge 5, 3) := by decide +kernel
theorem d17_104_39 : decode k17_104 39 = .ok (.iconst 1, 1) := by decide +kernel
theorem d17_104_40 : decode k17_104 40 = .ok (.ireturn, 1) := by decide +kernel
theorem d17_104_41 : decode k17_104 41 = .ok (.bipush 64, 2) := by decide +kernel
theorem d17_104_43 : decode k17_104 43 = .ok (.lload_n 0, 1) := by decide +kernel
theorem d17_104_44 : decode k17_104 44 = .ok (.invokestatic 761, 3) := by decide +kernel
theorem w248 {Z a0} (hw : Ht a0 Z) : (Cond.code ⟨"java/lang/Long", "numberOfLeadingZeros", "(J)I"⟩ jdk_35_method_48_code (3 : Nat) (Option.some Jvm.ClassFile.FieldType.int)).before a0 Z = true := ht hw 248 rfl
theorem w246 {Z a0} (hw : Ht a0 Z) : (Cond.methodLink "java/math/BigDecimal" (761 : Nat) ⟨"java/lang/Long", "numberOfLeadingZeros", "(J)I"⟩).before a0 Z = true := ht hw 246 rfl
theorem w247 {Z a0} (hw : Ht a0 Z) : (Cond.static ⟨"java/lang/Long", "numberOfLeadingZeros", "(J)I"⟩).before a0 Z = true := ht hw 247 rfl
theorem w207 {Z a0} (hw : Ht a0 Z) : (Cond.initialized "java/lang/Long").before a0 Z = true := ht hw 207 rfl
theorem pd_23 : parseMethodDescriptor "(J)I" = some ⟨[.long], some .int⟩ := by decide +kernel
theorem d17_104_47 : decode k17_104 47 = .ok (.isub, 1) := by decide +kernel
theorem d17_104_48 : decode k17_104 48 = .ok (.iconst 1, 1) := by decide +kernel
theorem d17_104_49 : decode k17_104 49 = .ok (.iadd, 1) := by decide +kernel
theorem d17_104_50 : decode k17_104 50 = .ok (.sipush 1233, 3) := by decide +kernel
theorem d17_104_53 : decode k17_104 53 = .ok (.imul, 1) := by decide +kernel
theorem d17_104_54 : decode k17_104 54 = .ok (.bipush 12, 2) := by decide +kernel
theorem d17_104_56 : decode k17_104 56 = .ok (.iushr, 1) := by decide +kernel
theorem d17_104_57 : decode k17_104 57 = .ok (.istore_n 2, 1) := by decide +kernel
theorem d17_104_58 : decode k17_104 58 = .ok (.getstatic 95, 3) := by decide +kernel
theorem d17_104_61 : decode k17_104 61 = .ok (.astore_n 3, 1) := by decide +kernel
theorem d17_104_62 : decode k17_104 62 = .ok (.iload_n 2, 1) := by decide +kernel
theorem d17_104_63 : decode k17_104 63 = .ok (.aload_n 3, 1) := by decide +kernel
theorem d17_104_64 : decode k17_104 64 = .ok (.arraylength, 1) := by decide +kernel
theorem d17_104_65 : decode k17_104 65 = .ok (.if_icmp .ge 11, 3) := by decide +kernel
theorem d17_104_68 : decode k17_104 68 = .ok (.lload_n 0, 1) := by decide +kernel
theorem d17_104_69 : decode k17_104 69 = .ok (.aload_n 3, 1) := by decide +kernel
theorem d17_104_70 : decode k17_104 70 = .ok (.iload_n 2, 1) := by decide +kernel
theorem d17_104_71 : decode k17_104 71 = .ok (.laload, 1) := by decide +kernel
theorem d17_104_72 : decode k17_104 72 = .ok (.lcmp, 1) := by decide +kernel
theorem d17_104_73 : decode k17_104 73 = .ok (.ifCond .ge 7, 3) := by decide +kernel
theorem d17_104_80 : decode k17_104 80 = .ok (.iload_n 2, 1) := by decide +kernel
theorem d17_104_81 : decode k17_104 81 = .ok (.iconst 1, 1) := by decide +kernel
theorem d17_104_82 : decode k17_104 82 = .ok (.iadd, 1) := by decide +kernel
theorem d17_104_83 : decode k17_104 83 = .ok (.ireturn, 1) := by decide +kernel
theorem d17_104_76 : decode k17_104 76 = .ok (.iload_n 2, 1) := by decide +kernel
theorem d17_104_77 : decode k17_104 77 = .ok (.goto 6, 3) := by decide +kernel
def Q_ldl (Z : State) (q : Int64) (wZ : Addr) (wT : Addr) (wS : Addr) (wP : Addr) (wH : Addr) (kT : ClassId) (kS : ClassId) (kP : ClassId) (kH : ClassId) (zt : Nat → Addr) (zs : Nat → Addr) (h0 : Heap) (n0 : Nat) (v : Option Value) (h : Heap) (L : List Loc) : Prop := ∃ dd : Int32, v = some (.int dd) ∧ Fr n0 L ∧ h = h0 ∧ Dig q dd
set_option maxRecDepth 65536 in
set_option maxHeartbeats 40000000 in
theorem ldl (l : Launch) (Z : State) (a0 : Array Value) (hw : Ht a0 Z) (q : Int64) (wZ : Addr) (wT : Addr) (wS : Addr) (wP : Addr) (wH : Addr) (kT : ClassId) (kS : ClassId) (kP : ClassId) (kH : ClassId) (zt : Nat → Addr) (zs : Nat → Addr) (h0 : Heap) (n0 : Nat) (Z0 : n0 ≤ h0.size) (O0 : Old Z n0 h0) (P0 : BigS Z wZ wT wS wP wH kT kS kP kH zt zs) (P1 : ¬ (q = (0 : Int64))) (P2 : Bq q) :
    Con l Z (⟨"java/math/BigDecimal", "longDigitLength", "(J)I"⟩ : MethodName) jdk_17_method_104_code 4 (some .int) ({ frames := 2, cells := 0, slots := 0, locals := 29 } : Room) #[(.long q)] h0 (Q_ldl Z q wZ wT wS wP wH kT kS kP kH zt zs h0 n0) := by
  refine OwnW.body (Ls := #[jS q, dS, uS, uS]) (plainFor_of_name pn_5) (fun m => by first | (simp [entryFrame, mkF, argsToLocals, Value.category]; done) | rfl) ?_
  intro p e s m below meth c s₁ hx hy hml hown hnm hret hlk hZ X0 e0
  let QQ := Q_ldl Z q wZ wT wS wP wH kT kS kP kH zt zs h0 n0
  have N0 := Fr.nil n0
  show Go p e below (s₁.setTop (mkF m 0 #[jS q, dS, uS, uS] [])) (EndQ s below ({ frames := 2, cells := 0, slots := 0, locals := 29 } : Room).cells ({ frames := 2, cells := 0, slots := 0, locals := 29 } : Room).slots QQ)
  have ⟨bZ, bZv, bT, bTv, bTa, bS, bSv, bSa, bP, bPv, bH, bHv, bA⟩ := P0
  have s_2 := Sta.ext O0.2 bA
  obtain ⟨T1, X1, e1, st1⟩ := getS2 X0 hx hZ hown (host := "") (Or.inl (w244 hw)) Via.refl e0 s_2 (g := (mkF m 0 #[jS q,dS,uS,uS] [])) rfl (hb hy d17_104_0)
  refine gon T1 (mkF m 3 #[jS q,dS,uS,uS] [(.int 1)]) (st1) ?_
  refine gon T1 (mkF m 25 #[jS q,dS,uS,uS] [(.int (lcmpW q (0 : Int64)))]) (fun _ k => XS.ifYes X1.here hx rfl (pc0 := 3) (pc' := 22) rfl (hb hy d17_104_3) rfl ((if0 _ _).trans (feq (by decide : ¬ ((1 : Int32) = (0 : Int32)))).2) (by decide) (by decide) (XS.lloadN X1.here hx rfl (hb hy d17_104_22) rfl (XS.lconst X1.here hx rfl (hb hy d17_104_23) (XS.lcmp X1.here hx rfl (hb hy d17_104_24) rfl k)))) ?_
  suffices hj_3 : ∀ (u : Int64), (0 < u.toInt ∧ u.toInt = (q.toInt.natAbs : Int) ∧ u.toInt ≤ 6500000000000) → Go p e below (T1.setTop (mkF m 31 #[jS u,dS,uS,uS] [])) (EndQ s below ({ frames := 2, cells := 0, slots := 0, locals := 29 } : Room).cells ({ frames := 2, cells := 0, slots := 0, locals := 29 } : Room).slots QQ) by
    by_cases hc25_hj_3 : q < (0 : Int64)
    · refine gon T1 (mkF m 31 #[jS (-q),dS,uS,uS] []) (fun _ k => XS.ifNo X1.here hx rfl (hb hy d17_104_25) rfl ((if0 _ _).trans (tlt ((lw_lt q (0 : Int64)).mpr hc25_hj_3)).2.1) (XS.lloadN X1.here hx rfl (hb hy d17_104_28) rfl (XS.lneg X1.here hx rfl (hb hy d17_104_29) rfl (XS.lstoreN X1.here hx rfl (hb hy d17_104_30) rfl (l' := #[jS (-q), dS, uS, uS]) rfl k)))) ?_
      exact hj_3 (-q) (own_negabs P2 hc25_hj_3)
    · refine gon T1 (mkF m 31 #[jS q,dS,uS,uS] []) (fun _ k => XS.ifYes X1.here hx rfl (pc0 := 25) (pc' := 31) rfl (hb hy d17_104_25) rfl ((if0 _ _).trans (flt (fun zq => hc25_hj_3 ((lw_lt q (0 : Int64)).mp zq))).2.1) (by decide) (by decide) k) ?_
      exact hj_3 q (own_posabs P2 P1 hc25_hj_3)
  intro u hg_4
  refine gon T1 (mkF m 32 #[jS u,dS,uS,uS] [(.long u)]) (fun _ k => XS.lloadN X1.here hx rfl (hb hy d17_104_31) rfl k) ?_
  refine gon T1 (mkF m 35 #[jS u,dS,uS,uS] [(.long 10), (.long u)]) (X1.ldc2Long hx hown (mvT hZ (w245 hw)) (g := (mkF m 32 #[jS u,dS,uS,uS] [(.long u)])) rfl (hb hy d17_104_32)) ?_
  refine gon T1 (mkF m 36 #[jS u,dS,uS,uS] [(.int (lcmpW u (10 : Int64)))]) (fun _ k => XS.lcmp X1.here hx rfl (hb hy d17_104_35) rfl k) ?_
  by_cases hc36_5 : u < (10 : Int64)
  · refine gon T1 (mkF m 40 #[jS u,dS,uS,uS] [(.int 1)]) (fun _ k => XS.ifNo X1.here hx rfl (hb hy d17_104_36) rfl ((if0 _ _).trans (tlt ((lw_lt u (10 : Int64)).mpr hc36_5)).2.1) (XS.iconst X1.here hx rfl (hb hy d17_104_39) k)) ?_
    exact OwnW.retI X1 hx hlk hret (hb hy d17_104_40) (by decide) (by decide) (show QQ _ T1.heap _ from ⟨(1 : Int32), rfl, N0, e1, (own_digI u hg_4.2.1 (n := 0) (A := 1) (B := 10) (by decide) (by decide) (by decide) (by decide) (by have := hg_4.1; omega) (own_ltL hc36_5 (by decide)) : Dig q (1 : Int32))⟩)
  · refine gon T1 (mkF m 44 #[jS u,dS,uS,uS] [(.long u), (.int 64)]) (fun _ k => XS.ifYes X1.here hx rfl (pc0 := 36) (pc' := 41) rfl (hb hy d17_104_36) rfl ((if0 _ _).trans (flt (fun zq => hc36_5 ((lw_lt u (10 : Int64)).mp zq))).2.1) (by decide) (by decide) (XS.bipush X1.here hx rfl (hb hy d17_104_41) (XS.lloadN X1.here hx rfl (hb hy d17_104_43) rfl k))) ?_
    obtain ⟨v6, T6, L6, X6, hQ6, st6⟩ := OwnW.callS X1 hx hZ hown (w246 hw) (w247 hw) (w207 hw) (w248 hw) (by decide) (lnlz l Z a0 hw u h0 n0 Z0 (hg_4.1 : 0 < u.toInt) (hg_4.2.2 : u.toInt ≤ 6500000000000)) e1 (Ls := #[jS u, dS, uS, uS]) (by rw [hml]; rfl) pd_23 (argsL := [(.long u)]) rfl (rest := [(.int (64 : Int32))]) rfl (W := 1) rfl (hb hy d17_104_44) (by decide) (by decide) (by decide) (by decide)
    obtain ⟨nn_7, rfl, Nq6, eq6, q6_0⟩ := hQ6
    have N6 := Fr.app N0 Nq6
    refine gon T6 (mkF m 47 #[jS u,dS,uS,uS] [(.int nn_7), (.int 64)]) (st6) ?_
    refine gon T6 (mkF m 54 #[jS u,dS,uS,uS] [(.int ((((64 : Int32) - nn_7) + (1 : Int32)) * (1233 : Int32)))]) (fun _ k => XS.isub X6.here hx rfl (hb hy d17_104_47) rfl (XS.iconst X6.here hx rfl (hb hy d17_104_48) (XS.iadd X6.here hx rfl (hb hy d17_104_49) rfl (XS.sipush X6.here hx rfl (hb hy d17_104_50) (XS.imul X6.here hx rfl (hb hy d17_104_53) rfl k))))) ?_
    refine gon T6 (mkF m 57 #[jS u,dS,uS,uS] [(.int ((((((64 : Int32) - nn_7) + (1 : Int32)) * (1233 : Int32)).toUInt32 >>> ((12 : Int32) &&& 31).toUInt32).toInt32))]) (fun _ k => XS.bipush X6.here hx rfl (hb hy d17_104_54) (XS.iushr X6.here hx rfl (hb hy d17_104_56) rfl k)) ?_
    have h10 := own_geL hc36_5 (Y := 10) (by decide)
    obtain ⟨i, i1, i2, i3, i4, i5⟩ := own_r q6_0 h10
    have hi : i = 1 ∨ i = 2 ∨ i = 3 ∨ i = 4 ∨ i = 5 ∨ i = 6 ∨ i = 7 ∨ i = 8 ∨ i = 9 ∨ i = 10 ∨ i = 11 ∨ i = 12 ∨ i = 13 := by omega
    rcases hi with rfl | rfl | rfl | rfl | rfl | rfl | rfl | rfl | rfl | rfl | rfl | rfl | rfl
    · rw [show ((((((64 : Int32) - nn_7) + (1 : Int32)) * (1233 : Int32)).toUInt32 >>> ((12 : Int32) &&& 31).toUInt32).toInt32) = (1 : Int32) from i3]
      refine gon T6 (mkF m 58 #[jS u,dS,iS 1,uS] []) (fun _ k => XS.istoreN X6.here hx rfl (hb hy d17_104_57) rfl (l' := #[jS u, dS, iS 1, uS]) rfl k) ?_
      have s_9 := Sta.ext O0.2 bP
      obtain ⟨T8, X8, e8, st8⟩ := getS2 X6 hx hZ hown (host := "") (Or.inl (w254 hw)) Via.refl eq6 s_9 (g := (mkF m 58 #[jS u,dS,iS 1,uS] [])) rfl (hb hy d17_104_58)
      refine gon T8 (mkF m 61 #[jS u,dS,iS 1,uS] [(.ref wP)]) (st8) ?_
      refine gon T8 (mkF m 64 #[jS u,dS,iS 1,rS wP] [(.ref wP), (.int 1)]) (fun _ k => XS.astoreN X8.here hx rfl (hb hy d17_104_61) rfl rfl (l' := #[jS u, dS, iS 1, rS wP]) rfl (XS.iloadN X8.here hx rfl (hb hy d17_104_62) rfl (XS.aloadN X8.here hx rfl (hb hy d17_104_63) rfl rfl k))) ?_
      have s_10 := Arv.ext bPv O0.2
      refine gon T8 (mkF m 65 #[jS u,dS,iS 1,rS wP] [(.int 19), (.int 1)]) (aLen X8 hx hZ e8 s_10 (hb hy d17_104_64)) ?_
      refine gon T8 (mkF m 71 #[jS u,dS,iS 1,rS wP] [(.int 1), (.ref wP), (.long u)]) (fun _ k => XS.icmpNo X8.here hx rfl (hb hy d17_104_65) rfl (tlt (by decide : (1 : Int32) < (19 : Int32))).2.1 (XS.lloadN X8.here hx rfl (hb hy d17_104_68) rfl (XS.aloadN X8.here hx rfl (hb hy d17_104_69) rfl rfl (XS.iloadN X8.here hx rfl (hb hy d17_104_70) rfl k)))) ?_
      refine gon T8 (mkF m 72 #[jS u,dS,iS 1,rS wP] [(.long 10), (.long u)]) (ldJ X8 hx hZ e8 s_10 ⟨by decide, by decide⟩ rfl (hb hy d17_104_71)) ?_
      refine gon T8 (mkF m 73 #[jS u,dS,iS 1,rS wP] [(.int (lcmpW u (10 : Int64)))]) (fun _ k => XS.lcmp X8.here hx rfl (hb hy d17_104_72) rfl k) ?_
      refine gon T8 (mkF m 83 #[jS u,dS,iS 1,rS wP] [(.int 2)]) (fun _ k => XS.ifYes X8.here hx rfl (pc0 := 73) (pc' := 80) rfl (hb hy d17_104_73) rfl ((if0 _ _).trans (flt (fun zq => (hc36_5 : ¬ (u < (10 : Int64))) ((lw_lt u (10 : Int64)).mp zq))).2.1) (by decide) (by decide) (XS.iloadN X8.here hx rfl (hb hy d17_104_80) rfl (XS.iconst X8.here hx rfl (hb hy d17_104_81) (XS.iadd X8.here hx rfl (hb hy d17_104_82) rfl k)))) ?_
      exact OwnW.retI X8 hx hlk hret (hb hy d17_104_83) (by decide) (by decide) (show QQ _ T8.heap _ from ⟨(2 : Int32), rfl, N6, e8, (own_digI u hg_4.2.1 (n := 1) (A := 10) (B := 100) (by decide) (by decide) (by decide) (by decide) (own_geL hc36_5 (by decide)) i5 : Dig q (2 : Int32))⟩)
    · rw [show ((((((64 : Int32) - nn_7) + (1 : Int32)) * (1233 : Int32)).toUInt32 >>> ((12 : Int32) &&& 31).toUInt32).toInt32) = (2 : Int32) from i3]
      refine gon T6 (mkF m 58 #[jS u,dS,iS 2,uS] []) (fun _ k => XS.istoreN X6.here hx rfl (hb hy d17_104_57) rfl (l' := #[jS u, dS, iS 2, uS]) rfl k) ?_
      have s_12 := Sta.ext O0.2 bP
      obtain ⟨T11, X11, e11, st11⟩ := getS2 X6 hx hZ hown (host := "") (Or.inl (w254 hw)) Via.refl eq6 s_12 (g := (mkF m 58 #[jS u,dS,iS 2,uS] [])) rfl (hb hy d17_104_58)
      refine gon T11 (mkF m 61 #[jS u,dS,iS 2,uS] [(.ref wP)]) (st11) ?_
      refine gon T11 (mkF m 64 #[jS u,dS,iS 2,rS wP] [(.ref wP), (.int 2)]) (fun _ k => XS.astoreN X11.here hx rfl (hb hy d17_104_61) rfl rfl (l' := #[jS u, dS, iS 2, rS wP]) rfl (XS.iloadN X11.here hx rfl (hb hy d17_104_62) rfl (XS.aloadN X11.here hx rfl (hb hy d17_104_63) rfl rfl k))) ?_
      have s_13 := Arv.ext bPv O0.2
      refine gon T11 (mkF m 65 #[jS u,dS,iS 2,rS wP] [(.int 19), (.int 2)]) (aLen X11 hx hZ e11 s_13 (hb hy d17_104_64)) ?_
      refine gon T11 (mkF m 71 #[jS u,dS,iS 2,rS wP] [(.int 2), (.ref wP), (.long u)]) (fun _ k => XS.icmpNo X11.here hx rfl (hb hy d17_104_65) rfl (tlt (by decide : (2 : Int32) < (19 : Int32))).2.1 (XS.lloadN X11.here hx rfl (hb hy d17_104_68) rfl (XS.aloadN X11.here hx rfl (hb hy d17_104_69) rfl rfl (XS.iloadN X11.here hx rfl (hb hy d17_104_70) rfl k)))) ?_
      refine gon T11 (mkF m 72 #[jS u,dS,iS 2,rS wP] [(.long 100), (.long u)]) (ldJ X11 hx hZ e11 s_13 ⟨by decide, by decide⟩ rfl (hb hy d17_104_71)) ?_
      refine gon T11 (mkF m 73 #[jS u,dS,iS 2,rS wP] [(.int (lcmpW u (100 : Int64)))]) (fun _ k => XS.lcmp X11.here hx rfl (hb hy d17_104_72) rfl k) ?_
      by_cases hc73_14 : u < (100 : Int64)
      · refine gon T11 (mkF m 83 #[jS u,dS,iS 2,rS wP] [(.int 2)]) (fun _ k => XS.ifNo X11.here hx rfl (hb hy d17_104_73) rfl ((if0 _ _).trans (tlt ((lw_lt u (100 : Int64)).mpr hc73_14)).2.1) (XS.iloadN X11.here hx rfl (hb hy d17_104_76) rfl (XS.goto X11.here hx rfl (pc0 := 77) (pc' := 83) rfl (hb hy d17_104_77) (by decide) (by decide) k))) ?_
        exact OwnW.retI X11 hx hlk hret (hb hy d17_104_83) (by decide) (by decide) (show QQ _ T11.heap _ from ⟨(2 : Int32), rfl, N6, e11, (own_digI u hg_4.2.1 (n := 1) (A := 10) (B := 100) (by decide) (by decide) (by decide) (by decide) i4 (own_ltL hc73_14 (by decide)) : Dig q (2 : Int32))⟩)
      · refine gon T11 (mkF m 83 #[jS u,dS,iS 2,rS wP] [(.int 3)]) (fun _ k => XS.ifYes X11.here hx rfl (pc0 := 73) (pc' := 80) rfl (hb hy d17_104_73) rfl ((if0 _ _).trans (flt (fun zq => hc73_14 ((lw_lt u (100 : Int64)).mp zq))).2.1) (by decide) (by decide) (XS.iloadN X11.here hx rfl (hb hy d17_104_80) rfl (XS.iconst X11.here hx rfl (hb hy d17_104_81) (XS.iadd X11.here hx rfl (hb hy d17_104_82) rfl k)))) ?_
        exact OwnW.retI X11 hx hlk hret (hb hy d17_104_83) (by decide) (by decide) (show QQ _ T11.heap _ from ⟨(3 : Int32), rfl, N6, e11, (own_digI u hg_4.2.1 (n := 2) (A := 100) (B := 1000) (by decide) (by decide) (by decide) (by decide) (own_geL hc73_14 (by decide)) i5 : Dig q (3 : Int32))⟩)
    · rw [show ((((((64 : Int32) - nn_7) + (1 : Int32)) * (1233 : Int32)).toUInt32 >>> ((12 : Int32) &&& 31).toUInt32).toInt32) = (3 : Int32) from i3]
      refine gon T6 (mkF m 58 #[jS u,dS,iS 3,uS] []) (fun _ k => XS.istoreN X6.here hx rfl (hb hy d17_104_57) rfl (l' := #[jS u, dS, iS 3, uS]) rfl k) ?_
      have s_16 := Sta.ext O0.2 bP
      obtain ⟨T15, X15, e15, st15⟩ := getS2 X6 hx hZ hown (host := "") (Or.inl (w254 hw)) Via.refl eq6 s_16 (g := (mkF m 58 #[jS u,dS,iS 3,uS] [])) rfl (hb hy d17_104_58)
      refine gon T15 (mkF m 61 #[jS u,dS,iS 3,uS] [(.ref wP)]) (st15) ?_
      refine gon T15 (mkF m 64 #[jS u,dS,iS 3,rS wP] [(.ref wP), (.int 3)]) (fun _ k => XS.astoreN X15.here hx rfl (hb hy d17_104_61) rfl rfl (l' := #[jS u, dS, iS 3, rS wP]) rfl (XS.iloadN X15.here hx rfl (hb hy d17_104_62) rfl (XS.aloadN X15.here hx rfl (hb hy d17_104_63) rfl rfl k))) ?_
      have s_17 := Arv.ext bPv O0.2
      refine gon T15 (mkF m 65 #[jS u,dS,iS 3,rS wP] [(.int 19), (.int 3)]) (aLen X15 hx hZ e15 s_17 (hb hy d17_104_64)) ?_
      refine gon T15 (mkF m 71 #[jS u,dS,iS 3,rS wP] [(.int 3), (.ref wP), (.long u)]) (fun _ k => XS.icmpNo X15.here hx rfl (hb hy d17_104_65) rfl (tlt (by decide : (3 : Int32) < (19 : Int32))).2.1 (XS.lloadN X15.here hx rfl (hb hy d17_104_68) rfl (XS.aloadN X15.here hx rfl (hb hy d17_104_69) rfl rfl (XS.iloadN X15.here hx rfl (hb hy d17_104_70) rfl k)))) ?_
      refine gon T15 (mkF m 72 #[jS u,dS,iS 3,rS wP] [(.long 1000), (.long u)]) (ldJ X15 hx hZ e15 s_17 ⟨by decide, by decide⟩ rfl (hb hy d17_104_71)) ?_
      refine gon T15 (mkF m 73 #[jS u,dS,iS 3,rS wP] [(.int (lcmpW u (1000 : Int64)))]) (fun _ k => XS.lcmp X15.here hx rfl (hb hy d17_104_72) rfl k) ?_
      by_cases hc73_18 : u < (1000 : Int64)
      · refine gon T15 (mkF m 83 #[jS u,dS,iS 3,rS wP] [(.int 3)]) (fun _ k => XS.ifNo X15.here hx rfl (hb hy d17_104_73) rfl ((if0 _ _).trans (tlt ((lw_lt u (1000 : Int64)).mpr hc73_18)).2.1) (XS.iloadN X15.here hx rfl (hb hy d17_104_76) rfl (XS.goto X15.here hx rfl (pc0 := 77) (pc' := 83) rfl (hb hy d17_104_77) (by decide) (by decide) k))) ?_
        exact OwnW.retI X15 hx hlk hret (hb hy d17_104_83) (by decide) (by decide) (show QQ _ T15.heap _ from ⟨(3 : Int32), rfl, N6, e15, (own_digI u hg_4.2.1 (n := 2) (A := 100) (B := 1000) (by decide) (by decide) (by decide) (by decide) i4 (own_ltL hc73_18 (by decide)) : Dig q (3 : Int32))⟩)
      · refine gon T15 (mkF m 83 #[jS u,dS,iS 3,rS wP] [(.int 4)]) (fun _ k => XS.ifYes X15.here hx rfl (pc0 := 73) (pc' := 80) rfl (hb hy d17_104_73) rfl ((if0 _ _).trans (flt (fun zq => hc73_18 ((lw_lt u (1000 : Int64)).mp zq))).2.1) (by decide) (by decide) (XS.iloadN X15.here hx rfl (hb hy d17_104_80) rfl (XS.iconst X15.here hx rfl (hb hy d17_104_81) (XS.iadd X15.here hx rfl (hb hy d17_104_82) rfl k)))) ?_
        exact OwnW.retI X15 hx hlk hret (hb hy d17_104_83) (by decide) (by decide) (show QQ _ T15.heap _ from ⟨(4 : Int32), rfl, N6, e15, (own_digI u hg_4.2.1 (n := 3) (A := 1000) (B := 10000) (by decide) (by decide) (by decide) (by decide) (own_geL hc73_18 (by decide)) i5 : Dig q (4 : Int32))⟩)
    · rw [show ((((((64 : Int32) - nn_7) + (1 : Int32)) * (1233 : Int32)).toUInt32 >>> ((12 : Int32) &&& 31).toUInt32).toInt32) = (4 : Int32) from i3]
      refine gon T6 (mkF m 58 #[jS u,dS,iS 4,uS] []) (fun _ k => XS.istoreN X6.here hx rfl (hb hy d17_104_57) rfl (l' := #[jS u, dS, iS 4, uS]) rfl k) ?_
      have s_20 := Sta.ext O0.2 bP
      obtain ⟨T19, X19, e19, st19⟩ := getS2 X6 hx hZ hown (host := "") (Or.inl (w254 hw)) Via.refl eq6 s_20 (g := (mkF m 58 #[jS u,dS,iS 4,uS] [])) rfl (hb hy d17_104_58)
      refine gon T19 (mkF m 61 #[jS u,dS,iS 4,uS] [(.ref wP)]) (st19) ?_
      refine gon T19 (mkF m 64 #[jS u,dS,iS 4,rS wP] [(.ref wP), (.int 4)]) (fun _ k => XS.astoreN X19.here hx rfl (hb hy d17_104_61) rfl rfl (l' := #[jS u, dS, iS 4, rS wP]) rfl (XS.iloadN X19.here hx rfl (hb hy d17_104_62) rfl (XS.aloadN X19.here hx rfl (hb hy d17_104_63) rfl rfl k))) ?_
      have s_21 := Arv.ext bPv O0.2
      refine gon T19 (mkF m 65 #[jS u,dS,iS 4,rS wP] [(.int 19), (.int 4)]) (aLen X19 hx hZ e19 s_21 (hb hy d17_104_64)) ?_
      refine gon T19 (mkF m 71 #[jS u,dS,iS 4,rS wP] [(.int 4), (.ref wP), (.long u)]) (fun _ k => XS.icmpNo X19.here hx rfl (hb hy d17_104_65) rfl (tlt (by decide : (4 : Int32) < (19 : Int32))).2.1 (XS.lloadN X19.here hx rfl (hb hy d17_104_68) rfl (XS.aloadN X19.here hx rfl (hb hy d17_104_69) rfl rfl (XS.iloadN X19.here hx rfl (hb hy d17_104_70) rfl k)))) ?_
      refine gon T19 (mkF m 72 #[jS u,dS,iS 4,rS wP] [(.long 10000), (.long u)]) (ldJ X19 hx hZ e19 s_21 ⟨by decide, by decide⟩ rfl (hb hy d17_104_71)) ?_
      refine gon T19 (mkF m 73 #[jS u,dS,iS 4,rS wP] [(.int (lcmpW u (10000 : Int64)))]) (fun _ k => XS.lcmp X19.here hx rfl (hb hy d17_104_72) rfl k) ?_
      by_cases hc73_22 : u < (10000 : Int64)
      · refine gon T19 (mkF m 83 #[jS u,dS,iS 4,rS wP] [(.int 4)]) (fun _ k => XS.ifNo X19.here hx rfl (hb hy d17_104_73) rfl ((if0 _ _).trans (tlt ((lw_lt u (10000 : Int64)).mpr hc73_22)).2.1) (XS.iloadN X19.here hx rfl (hb hy d17_104_76) rfl (XS.goto X19.here hx rfl (pc0 := 77) (pc' := 83) rfl (hb hy d17_104_77) (by decide) (by decide) k))) ?_
        exact OwnW.retI X19 hx hlk hret (hb hy d17_104_83) (by decide) (by decide) (show QQ _ T19.heap _ from ⟨(4 : Int32), rfl, N6, e19, (own_digI u hg_4.2.1 (n := 3) (A := 1000) (B := 10000) (by decide) (by decide) (by decide) (by decide) i4 (own_ltL hc73_22 (by decide)) : Dig q (4 : Int32))⟩)
      · refine gon T19 (mkF m 83 #[jS u,dS,iS 4,rS wP] [(.int 5)]) (fun _ k => XS.ifYes X19.here hx rfl (pc0 := 73) (pc' := 80) rfl (hb hy d17_104_73) rfl ((if0 _ _).trans (flt (fun zq => hc73_22 ((lw_lt u (10000 : Int64)).mp zq))).2.1) (by decide) (by decide) (XS.iloadN X19.here hx rfl (hb hy d17_104_80) rfl (XS.iconst X19.here hx rfl (hb hy d17_104_81) (XS.iadd X19.here hx rfl (hb hy d17_104_82) rfl k)))) ?_
        exact OwnW.retI X19 hx hlk hret (hb hy d17_104_83) (by decide) (by decide) (show QQ _ T19.heap _ from ⟨(5 : Int32), rfl, N6, e19, (own_digI u hg_4.2.1 (n := 4) (A := 10000) (B := 100000) (by decide) (by decide) (by decide) (by decide) (own_geL hc73_22 (by decide)) i5 : Dig q (5 : Int32))⟩)
    · rw [show ((((((64 : Int32) - nn_7) + (1 : Int32)) * (1233 : Int32)).toUInt32 >>> ((12 : Int32) &&& 31).toUInt32).toInt32) = (5 : Int32) from i3]
      refine gon T6 (mkF m 58 #[jS u,dS,iS 5,uS] []) (fun _ k => XS.istoreN X6.here hx rfl (hb hy d17_104_57) rfl (l' := #[jS u, dS, iS 5, uS]) rfl k) ?_
      have s_24 := Sta.ext O0.2 bP
      obtain ⟨T23, X23, e23, st23⟩ := getS2 X6 hx hZ hown (host := "") (Or.inl (w254 hw)) Via.refl eq6 s_24 (g := (mkF m 58 #[jS u,dS,iS 5,uS] [])) rfl (hb hy d17_104_58)
      refine gon T23 (mkF m 61 #[jS u,dS,iS 5,uS] [(.ref wP)]) (st23) ?_
      refine gon T23 (mkF m 64 #[jS u,dS,iS 5,rS wP] [(.ref wP), (.int 5)]) (fun _ k => XS.astoreN X23.here hx rfl (hb hy d17_104_61) rfl rfl (l' := #[jS u, dS, iS 5, rS wP]) rfl (XS.iloadN X23.here hx rfl (hb hy d17_104_62) rfl (XS.aloadN X23.here hx rfl (hb hy d17_104_63) rfl rfl k))) ?_
      have s_25 := Arv.ext bPv O0.2
      refine gon T23 (mkF m 65 #[jS u,dS,iS 5,rS wP] [(.int 19), (.int 5)]) (aLen X23 hx hZ e23 s_25 (hb hy d17_104_64)) ?_
      refine gon T23 (mkF m 71 #[jS u,dS,iS 5,rS wP] [(.int 5), (.ref wP), (.long u)]) (fun _ k => XS.icmpNo X23.here hx rfl (hb hy d17_104_65) rfl (tlt (by decide : (5 : Int32) < (19 : Int32))).2.1 (XS.lloadN X23.here hx rfl (hb hy d17_104_68) rfl (XS.aloadN X23.here hx rfl (hb hy d17_104_69) rfl rfl (XS.iloadN X23.here hx rfl (hb hy d17_104_70) rfl k)))) ?_
      refine gon T23 (mkF m 72 #[jS u,dS,iS 5,rS wP] [(.long 100000), (.long u)]) (ldJ X23 hx hZ e23 s_25 ⟨by decide, by decide⟩ rfl (hb hy d17_104_71)) ?_
      refine gon T23 (mkF m 73 #[jS u,dS,iS 5,rS wP] [(.int (lcmpW u (100000 : Int64)))]) (fun _ k => XS.lcmp X23.here hx rfl (hb hy d17_104_72) rfl k) ?_
      by_cases hc73_26 : u < (100000 : Int64)
      · refine gon T23 (mkF m 83 #[jS u,dS,iS 5,rS wP] [(.int 5)]) (fun _ k => XS.ifNo X23.here hx rfl (hb hy d17_104_73) rfl ((if0 _ _).trans (tlt ((lw_lt u (100000 : Int64)).mpr hc73_26)).2.1) (XS.iloadN X23.here hx rfl (hb hy d17_104_76) rfl (XS.goto X23.here hx rfl (pc0 := 77) (pc' := 83) rfl (hb hy d17_104_77) (by decide) (by decide) k))) ?_
        exact OwnW.retI X23 hx hlk hret (hb hy d17_104_83) (by decide) (by decide) (show QQ _ T23.heap _ from ⟨(5 : Int32), rfl, N6, e23, (own_digI u hg_4.2.1 (n := 4) (A := 10000) (B := 100000) (by decide) (by decide) (by decide) (by decide) i4 (own_ltL hc73_26 (by decide)) : Dig q (5 : Int32))⟩)
      · refine gon T23 (mkF m 83 #[jS u,dS,iS 5,rS wP] [(.int 6)]) (fun _ k => XS.ifYes X23.here hx rfl (pc0 := 73) (pc' := 80) rfl (hb hy d17_104_73) rfl ((if0 _ _).trans (flt (fun zq => hc73_26 ((lw_lt u (100000 : Int64)).mp zq))).2.1) (by decide) (by decide) (XS.iloadN X23.here hx rfl (hb hy d17_104_80) rfl (XS.iconst X23.here hx rfl (hb hy d17_104_81) (XS.iadd X23.here hx rfl (hb hy d17_104_82) rfl k)))) ?_
        exact OwnW.retI X23 hx hlk hret (hb hy d17_104_83) (by decide) (by decide) (show QQ _ T23.heap _ from ⟨(6 : Int32), rfl, N6, e23, (own_digI u hg_4.2.1 (n := 5) (A := 100000) (B := 1000000) (by decide) (by decide) (by decide) (by decide) (own_geL hc73_26 (by decide)) i5 : Dig q (6 : Int32))⟩)
    · rw [show ((((((64 : Int32) - nn_7) + (1 : Int32)) * (1233 : Int32)).toUInt32 >>> ((12 : Int32) &&& 31).toUInt32).toInt32) = (6 : Int32) from i3]
      refine gon T6 (mkF m 58 #[jS u,dS,iS 6,uS] []) (fun _ k => XS.istoreN X6.here hx rfl (hb hy d17_104_57) rfl (l' := #[jS u, dS, iS 6, uS]) rfl k) ?_
      have s_28 := Sta.ext O0.2 bP
      obtain ⟨T27, X27, e27, st27⟩ := getS2 X6 hx hZ hown (host := "") (Or.inl (w254 hw)) Via.refl eq6 s_28 (g := (mkF m 58 #[jS u,dS,iS 6,uS] [])) rfl (hb hy d17_104_58)
      refine gon T27 (mkF m 61 #[jS u,dS,iS 6,uS] [(.ref wP)]) (st27) ?_
      refine gon T27 (mkF m 64 #[jS u,dS,iS 6,rS wP] [(.ref wP), (.int 6)]) (fun _ k => XS.astoreN X27.here hx rfl (hb hy d17_104_61) rfl rfl (l' := #[jS u, dS, iS 6, rS wP]) rfl (XS.iloadN X27.here hx rfl (hb hy d17_104_62) rfl (XS.aloadN X27.here hx rfl (hb hy d17_104_63) rfl rfl k))) ?_
      have s_29 := Arv.ext bPv O0.2
      refine gon T27 (mkF m 65 #[jS u,dS,iS 6,rS wP] [(.int 19), (.int 6)]) (aLen X27 hx hZ e27 s_29 (hb hy d17_104_64)) ?_
      refine gon T27 (mkF m 71 #[jS u,dS,iS 6,rS wP] [(.int 6), (.ref wP), (.long u)]) (fun _ k => XS.icmpNo X27.here hx rfl (hb hy d17_104_65) rfl (tlt (by decide : (6 : Int32) < (19 : Int32))).2.1 (XS.lloadN X27.here hx rfl (hb hy d17_104_68) rfl (XS.aloadN X27.here hx rfl (hb hy d17_104_69) rfl rfl (XS.iloadN X27.here hx rfl (hb hy d17_104_70) rfl k)))) ?_
      refine gon T27 (mkF m 72 #[jS u,dS,iS 6,rS wP] [(.long 1000000), (.long u)]) (ldJ X27 hx hZ e27 s_29 ⟨by decide, by decide⟩ rfl (hb hy d17_104_71)) ?_
      refine gon T27 (mkF m 73 #[jS u,dS,iS 6,rS wP] [(.int (lcmpW u (1000000 : Int64)))]) (fun _ k => XS.lcmp X27.here hx rfl (hb hy d17_104_72) rfl k) ?_
      by_cases hc73_30 : u < (1000000 : Int64)
      · refine gon T27 (mkF m 83 #[jS u,dS,iS 6,rS wP] [(.int 6)]) (fun _ k => XS.ifNo X27.here hx rfl (hb hy d17_104_73) rfl ((if0 _ _).trans (tlt ((lw_lt u (1000000 : Int64)).mpr hc73_30)).2.1) (XS.iloadN X27.here hx rfl (hb hy d17_104_76) rfl (XS.goto X27.here hx rfl (pc0 := 77) (pc' := 83) rfl (hb hy d17_104_77) (by decide) (by decide) k))) ?_
        exact OwnW.retI X27 hx hlk hret (hb hy d17_104_83) (by decide) (by decide) (show QQ _ T27.heap _ from ⟨(6 : Int32), rfl, N6, e27, (own_digI u hg_4.2.1 (n := 5) (A := 100000) (B := 1000000) (by decide) (by decide) (by decide) (by decide) i4 (own_ltL hc73_30 (by decide)) : Dig q (6 : Int32))⟩)
      · refine gon T27 (mkF m 83 #[jS u,dS,iS 6,rS wP] [(.int 7)]) (fun _ k => XS.ifYes X27.here hx rfl (pc0 := 73) (pc' := 80) rfl (hb hy d17_104_73) rfl ((if0 _ _).trans (flt (fun zq => hc73_30 ((lw_lt u (1000000 : Int64)).mp zq))).2.1) (by decide) (by decide) (XS.iloadN X27.here hx rfl (hb hy d17_104_80) rfl (XS.iconst X27.here hx rfl (hb hy d17_104_81) (XS.iadd X27.here hx rfl (hb hy d17_104_82) rfl k)))) ?_
        exact OwnW.retI X27 hx hlk hret (hb hy d17_104_83) (by decide) (by decide) (show QQ _ T27.heap _ from ⟨(7 : Int32), rfl, N6, e27, (own_digI u hg_4.2.1 (n := 6) (A := 1000000) (B := 10000000) (by decide) (by decide) (by decide) (by decide) (own_geL hc73_30 (by decide)) i5 : Dig q (7 : Int32))⟩)
    · rw [show ((((((64 : Int32) - nn_7) + (1 : Int32)) * (1233 : Int32)).toUInt32 >>> ((12 : Int32) &&& 31).toUInt32).toInt32) = (7 : Int32) from i3]
      refine gon T6 (mkF m 58 #[jS u,dS,iS 7,uS] []) (fun _ k => XS.istoreN X6.here hx rfl (hb hy d17_104_57) rfl (l' := #[jS u, dS, iS 7, uS]) rfl k) ?_
      have s_32 := Sta.ext O0.2 bP
      obtain ⟨T31, X31, e31, st31⟩ := getS2 X6 hx hZ hown (host := "") (Or.inl (w254 hw)) Via.refl eq6 s_32 (g := (mkF m 58 #[jS u,dS,iS 7,uS] [])) rfl (hb hy d17_104_58)
      refine gon T31 (mkF m 61 #[jS u,dS,iS 7,uS] [(.ref wP)]) (st31) ?_
      refine gon T31 (mkF m 64 #[jS u,dS,iS 7,rS wP] [(.ref wP), (.int 7)]) (fun _ k => XS.astoreN X31.here hx rfl (hb hy d17_104_61) rfl rfl (l' := #[jS u, dS, iS 7, rS wP]) rfl (XS.iloadN X31.here hx rfl (hb hy d17_104_62) rfl (XS.aloadN X31.here hx rfl (hb hy d17_104_63) rfl rfl k))) ?_
      have s_33 := Arv.ext bPv O0.2
      refine gon T31 (mkF m 65 #[jS u,dS,iS 7,rS wP] [(.int 19), (.int 7)]) (aLen X31 hx hZ e31 s_33 (hb hy d17_104_64)) ?_
      refine gon T31 (mkF m 71 #[jS u,dS,iS 7,rS wP] [(.int 7), (.ref wP), (.long u)]) (fun _ k => XS.icmpNo X31.here hx rfl (hb hy d17_104_65) rfl (tlt (by decide : (7 : Int32) < (19 : Int32))).2.1 (XS.lloadN X31.here hx rfl (hb hy d17_104_68) rfl (XS.aloadN X31.here hx rfl (hb hy d17_104_69) rfl rfl (XS.iloadN X31.here hx rfl (hb hy d17_104_70) rfl k)))) ?_
      refine gon T31 (mkF m 72 #[jS u,dS,iS 7,rS wP] [(.long 10000000), (.long u)]) (ldJ X31 hx hZ e31 s_33 ⟨by decide, by decide⟩ rfl (hb hy d17_104_71)) ?_
      refine gon T31 (mkF m 73 #[jS u,dS,iS 7,rS wP] [(.int (lcmpW u (10000000 : Int64)))]) (fun _ k => XS.lcmp X31.here hx rfl (hb hy d17_104_72) rfl k) ?_
      by_cases hc73_34 : u < (10000000 : Int64)
      · refine gon T31 (mkF m 83 #[jS u,dS,iS 7,rS wP] [(.int 7)]) (fun _ k => XS.ifNo X31.here hx rfl (hb hy d17_104_73) rfl ((if0 _ _).trans (tlt ((lw_lt u (10000000 : Int64)).mpr hc73_34)).2.1) (XS.iloadN X31.here hx rfl (hb hy d17_104_76) rfl (XS.goto X31.here hx rfl (pc0 := 77) (pc' := 83) rfl (hb hy d17_104_77) (by decide) (by decide) k))) ?_
        exact OwnW.retI X31 hx hlk hret (hb hy d17_104_83) (by decide) (by decide) (show QQ _ T31.heap _ from ⟨(7 : Int32), rfl, N6, e31, (own_digI u hg_4.2.1 (n := 6) (A := 1000000) (B := 10000000) (by decide) (by decide) (by decide) (by decide) i4 (own_ltL hc73_34 (by decide)) : Dig q (7 : Int32))⟩)
      · refine gon T31 (mkF m 83 #[jS u,dS,iS 7,rS wP] [(.int 8)]) (fun _ k => XS.ifYes X31.here hx rfl (pc0 := 73) (pc' := 80) rfl (hb hy d17_104_73) rfl ((if0 _ _).trans (flt (fun zq => hc73_34 ((lw_lt u (10000000 : Int64)).mp zq))).2.1) (by decide) (by decide) (XS.iloadN X31.here hx rfl (hb hy d17_104_80) rfl (XS.iconst X31.here hx rfl (hb hy d17_104_81) (XS.iadd X31.here hx rfl (hb hy d17_104_82) rfl k)))) ?_
        exact OwnW.retI X31 hx hlk hret (hb hy d17_104_83) (by decide) (by decide) (show QQ _ T31.heap _ from ⟨(8 : Int32), rfl, N6, e31, (own_digI u hg_4.2.1 (n := 7) (A := 10000000) (B := 100000000) (by decide) (by decide) (by decide) (by decide) (own_geL hc73_34 (by decide)) i5 : Dig q (8 : Int32))⟩)
    · rw [show ((((((64 : Int32) - nn_7) + (1 : Int32)) * (1233 : Int32)).toUInt32 >>> ((12 : Int32) &&& 31).toUInt32).toInt32) = (8 : Int32) from i3]
      refine gon T6 (mkF m 58 #[jS u,dS,iS 8,uS] []) (fun _ k => XS.istoreN X6.here hx rfl (hb hy d17_104_57) rfl (l' := #[jS u, dS, iS 8, uS]) rfl k) ?_
      have s_36 := Sta.ext O0.2 bP
      obtain ⟨T35, X35, e35, st35⟩ := getS2 X6 hx hZ hown (host := "") (Or.inl (w254 hw)) Via.refl eq6 s_36 (g := (mkF m 58 #[jS u,dS,iS 8,uS] [])) rfl (hb hy d17_104_58)
      refine gon T35 (mkF m 61 #[jS u,dS,iS 8,uS] [(.ref wP)]) (st35) ?_
      refine gon T35 (mkF m 64 #[jS u,dS,iS 8,rS wP] [(.ref wP), (.int 8)]) (fun _ k => XS.astoreN X35.here hx rfl (hb hy d17_104_61) rfl rfl (l' := #[jS u, dS, iS 8, rS wP]) rfl (XS.iloadN X35.here hx rfl (hb hy d17_104_62) rfl (XS.aloadN X35.here hx rfl (hb hy d17_104_63) rfl rfl k))) ?_
      have s_37 := Arv.ext bPv O0.2
      refine gon T35 (mkF m 65 #[jS u,dS,iS 8,rS wP] [(.int 19), (.int 8)]) (aLen X35 hx hZ e35 s_37 (hb hy d17_104_64)) ?_
      refine gon T35 (mkF m 71 #[jS u,dS,iS 8,rS wP] [(.int 8), (.ref wP), (.long u)]) (fun _ k => XS.icmpNo X35.here hx rfl (hb hy d17_104_65) rfl (tlt (by decide : (8 : Int32) < (19 : Int32))).2.1 (XS.lloadN X35.here hx rfl (hb hy d17_104_68) rfl (XS.aloadN X35.here hx rfl (hb hy d17_104_69) rfl rfl (XS.iloadN X35.here hx rfl (hb hy d17_104_70) rfl k)))) ?_
      refine gon T35 (mkF m 72 #[jS u,dS,iS 8,rS wP] [(.long 100000000), (.long u)]) (ldJ X35 hx hZ e35 s_37 ⟨by decide, by decide⟩ rfl (hb hy d17_104_71)) ?_
      refine gon T35 (mkF m 73 #[jS u,dS,iS 8,rS wP] [(.int (lcmpW u (100000000 : Int64)))]) (fun _ k => XS.lcmp X35.here hx rfl (hb hy d17_104_72) rfl k) ?_
      by_cases hc73_38 : u < (100000000 : Int64)
      · refine gon T35 (mkF m 83 #[jS u,dS,iS 8,rS wP] [(.int 8)]) (fun _ k => XS.ifNo X35.here hx rfl (hb hy d17_104_73) rfl ((if0 _ _).trans (tlt ((lw_lt u (100000000 : Int64)).mpr hc73_38)).2.1) (XS.iloadN X35.here hx rfl (hb hy d17_104_76) rfl (XS.goto X35.here hx rfl (pc0 := 77) (pc' := 83) rfl (hb hy d17_104_77) (by decide) (by decide) k))) ?_
        exact OwnW.retI X35 hx hlk hret (hb hy d17_104_83) (by decide) (by decide) (show QQ _ T35.heap _ from ⟨(8 : Int32), rfl, N6, e35, (own_digI u hg_4.2.1 (n := 7) (A := 10000000) (B := 100000000) (by decide) (by decide) (by decide) (by decide) i4 (own_ltL hc73_38 (by decide)) : Dig q (8 : Int32))⟩)
      · refine gon T35 (mkF m 83 #[jS u,dS,iS 8,rS wP] [(.int 9)]) (fun _ k => XS.ifYes X35.here hx rfl (pc0 := 73) (pc' := 80) rfl (hb hy d17_104_73) rfl ((if0 _ _).trans (flt (fun zq => hc73_38 ((lw_lt u (100000000 : Int64)).mp zq))).2.1) (by decide) (by decide) (XS.iloadN X35.here hx rfl (hb hy d17_104_80) rfl (XS.iconst X35.here hx rfl (hb hy d17_104_81) (XS.iadd X35.here hx rfl (hb hy d17_104_82) rfl k)))) ?_
        exact OwnW.retI X35 hx hlk hret (hb hy d17_104_83) (by decide) (by decide) (show QQ _ T35.heap _ from ⟨(9 : Int32), rfl, N6, e35, (own_digI u hg_4.2.1 (n := 8) (A := 100000000) (B := 1000000000) (by decide) (by decide) (by decide) (by decide) (own_geL hc73_38 (by decide)) i5 : Dig q (9 : Int32))⟩)
    · rw [show ((((((64 : Int32) - nn_7) + (1 : Int32)) * (1233 : Int32)).toUInt32 >>> ((12 : Int32) &&& 31).toUInt32).toInt32) = (9 : Int32) from i3]
      refine gon T6 (mkF m 58 #[jS u,dS,iS 9,uS] []) (fun _ k => XS.istoreN X6.here hx rfl (hb hy d17_104_57) rfl (l' := #[jS u, dS, iS 9, uS]) rfl k) ?_
      have s_40 := Sta.ext O0.2 bP
      obtain ⟨T39, X39, e39, st39⟩ := getS2 X6 hx hZ hown (host := "") (Or.inl (w254 hw)) Via.refl eq6 s_40 (g := (mkF m 58 #[jS u,dS,iS 9,uS] [])) rfl (hb hy d17_104_58)
      refine gon T39 (mkF m 61 #[jS u,dS,iS 9,uS] [(.ref wP)]) (st39) ?_
      refine gon T39 (mkF m 64 #[jS u,dS,iS 9,rS wP] [(.ref wP), (.int 9)]) (fun _ k => XS.astoreN X39.here hx rfl (hb hy d17_104_61) rfl rfl (l' := #[jS u, dS, iS 9, rS wP]) rfl (XS.iloadN X39.here hx rfl (hb hy d17_104_62) rfl (XS.aloadN X39.here hx rfl (hb hy d17_104_63) rfl rfl k))) ?_
      have s_41 := Arv.ext bPv O0.2
      refine gon T39 (mkF m 65 #[jS u,dS,iS 9,rS wP] [(.int 19), (.int 9)]) (aLen X39 hx hZ e39 s_41 (hb hy d17_104_64)) ?_
      refine gon T39 (mkF m 71 #[jS u,dS,iS 9,rS wP] [(.int 9), (.ref wP), (.long u)]) (fun _ k => XS.icmpNo X39.here hx rfl (hb hy d17_104_65) rfl (tlt (by decide : (9 : Int32) < (19 : Int32))).2.1 (XS.lloadN X39.here hx rfl (hb hy d17_104_68) rfl (XS.aloadN X39.here hx rfl (hb hy d17_104_69) rfl rfl (XS.iloadN X39.here hx rfl (hb hy d17_104_70) rfl k)))) ?_
      refine gon T39 (mkF m 72 #[jS u,dS,iS 9,rS wP] [(.long 1000000000), (.long u)]) (ldJ X39 hx hZ e39 s_41 ⟨by decide, by decide⟩ rfl (hb hy d17_104_71)) ?_
      refine gon T39 (mkF m 73 #[jS u,dS,iS 9,rS wP] [(.int (lcmpW u (1000000000 : Int64)))]) (fun _ k => XS.lcmp X39.here hx rfl (hb hy d17_104_72) rfl k) ?_
      by_cases hc73_42 : u < (1000000000 : Int64)
      · refine gon T39 (mkF m 83 #[jS u,dS,iS 9,rS wP] [(.int 9)]) (fun _ k => XS.ifNo X39.here hx rfl (hb hy d17_104_73) rfl ((if0 _ _).trans (tlt ((lw_lt u (1000000000 : Int64)).mpr hc73_42)).2.1) (XS.iloadN X39.here hx rfl (hb hy d17_104_76) rfl (XS.goto X39.here hx rfl (pc0 := 77) (pc' := 83) rfl (hb hy d17_104_77) (by decide) (by decide) k))) ?_
        exact OwnW.retI X39 hx hlk hret (hb hy d17_104_83) (by decide) (by decide) (show QQ _ T39.heap _ from ⟨(9 : Int32), rfl, N6, e39, (own_digI u hg_4.2.1 (n := 8) (A := 100000000) (B := 1000000000) (by decide) (by decide) (by decide) (by decide) i4 (own_ltL hc73_42 (by decide)) : Dig q (9 : Int32))⟩)
      · refine gon T39 (mkF m 83 #[jS u,dS,iS 9,rS wP] [(.int 10)]) (fun _ k => XS.ifYes X39.here hx rfl (pc0 := 73) (pc' := 80) rfl (hb hy d17_104_73) rfl ((if0 _ _).trans (flt (fun zq => hc73_42 ((lw_lt u (1000000000 : Int64)).mp zq))).2.1) (by decide) (by decide) (XS.iloadN X39.here hx rfl (hb hy d17_104_80) rfl (XS.iconst X39.here hx rfl (hb hy d17_104_81) (XS.iadd X39.here hx rfl (hb hy d17_104_82) rfl k)))) ?_
        exact OwnW.retI X39 hx hlk hret (hb hy d17_104_83) (by decide) (by decide) (show QQ _ T39.heap _ from ⟨(10 : Int32), rfl, N6, e39, (own_digI u hg_4.2.1 (n := 9) (A := 1000000000) (B := 10000000000) (by decide) (by decide) (by decide) (by decide) (own_geL hc73_42 (by decide)) i5 : Dig q (10 : Int32))⟩)
    · rw [show ((((((64 : Int32) - nn_7) + (1 : Int32)) * (1233 : Int32)).toUInt32 >>> ((12 : Int32) &&& 31).toUInt32).toInt32) = (10 : Int32) from i3]
      refine gon T6 (mkF m 58 #[jS u,dS,iS 10,uS] []) (fun _ k => XS.istoreN X6.here hx rfl (hb hy d17_104_57) rfl (l' := #[jS u, dS, iS 10, uS]) rfl k) ?_
      have s_44 := Sta.ext O0.2 bP
      obtain ⟨T43, X43, e43, st43⟩ := getS2 X6 hx hZ hown (host := "") (Or.inl (w254 hw)) Via.refl eq6 s_44 (g := (mkF m 58 #[jS u,dS,iS 10,uS] [])) rfl (hb hy d17_104_58)
      refine gon T43 (mkF m 61 #[jS u,dS,iS 10,uS] [(.ref wP)]) (st43) ?_
      refine gon T43 (mkF m 64 #[jS u,dS,iS 10,rS wP] [(.ref wP), (.int 10)]) (fun _ k => XS.astoreN X43.here hx rfl (hb hy d17_104_61) rfl rfl (l' := #[jS u, dS, iS 10, rS wP]) rfl (XS.iloadN X43.here hx rfl (hb hy d17_104_62) rfl (XS.aloadN X43.here hx rfl (hb hy d17_104_63) rfl rfl k))) ?_
      have s_45 := Arv.ext bPv O0.2
      refine gon T43 (mkF m 65 #[jS u,dS,iS 10,rS wP] [(.int 19), (.int 10)]) (aLen X43 hx hZ e43 s_45 (hb hy d17_104_64)) ?_
      refine gon T43 (mkF m 71 #[jS u,dS,iS 10,rS wP] [(.int 10), (.ref wP), (.long u)]) (fun _ k => XS.icmpNo X43.here hx rfl (hb hy d17_104_65) rfl (tlt (by decide : (10 : Int32) < (19 : Int32))).2.1 (XS.lloadN X43.here hx rfl (hb hy d17_104_68) rfl (XS.aloadN X43.here hx rfl (hb hy d17_104_69) rfl rfl (XS.iloadN X43.here hx rfl (hb hy d17_104_70) rfl k)))) ?_
      refine gon T43 (mkF m 72 #[jS u,dS,iS 10,rS wP] [(.long 10000000000), (.long u)]) (ldJ X43 hx hZ e43 s_45 ⟨by decide, by decide⟩ rfl (hb hy d17_104_71)) ?_
      refine gon T43 (mkF m 73 #[jS u,dS,iS 10,rS wP] [(.int (lcmpW u (10000000000 : Int64)))]) (fun _ k => XS.lcmp X43.here hx rfl (hb hy d17_104_72) rfl k) ?_
      by_cases hc73_46 : u < (10000000000 : Int64)
      · refine gon T43 (mkF m 83 #[jS u,dS,iS 10,rS wP] [(.int 10)]) (fun _ k => XS.ifNo X43.here hx rfl (hb hy d17_104_73) rfl ((if0 _ _).trans (tlt ((lw_lt u (10000000000 : Int64)).mpr hc73_46)).2.1) (XS.iloadN X43.here hx rfl (hb hy d17_104_76) rfl (XS.goto X43.here hx rfl (pc0 := 77) (pc' := 83) rfl (hb hy d17_104_77) (by decide) (by decide) k))) ?_
        exact OwnW.retI X43 hx hlk hret (hb hy d17_104_83) (by decide) (by decide) (show QQ _ T43.heap _ from ⟨(10 : Int32), rfl, N6, e43, (own_digI u hg_4.2.1 (n := 9) (A := 1000000000) (B := 10000000000) (by decide) (by decide) (by decide) (by decide) i4 (own_ltL hc73_46 (by decide)) : Dig q (10 : Int32))⟩)
      · refine gon T43 (mkF m 83 #[jS u,dS,iS 10,rS wP] [(.int 11)]) (fun _ k => XS.ifYes X43.here hx rfl (pc0 := 73) (pc' := 80) rfl (hb hy d17_104_73) rfl ((if0 _ _).trans (flt (fun zq => hc73_46 ((lw_lt u (10000000000 : Int64)).mp zq))).2.1) (by decide) (by decide) (XS.iloadN X43.here hx rfl (hb hy d17_104_80) rfl (XS.iconst X43.here hx rfl (hb hy d17_104_81) (XS.iadd X43.here hx rfl (hb hy d17_104_82) rfl k)))) ?_
        exact OwnW.retI X43 hx hlk hret (hb hy d17_104_83) (by decide) (by decide) (show QQ _ T43.heap _ from ⟨(11 : Int32), rfl, N6, e43, (own_digI u hg_4.2.1 (n := 10) (A := 10000000000) (B := 100000000000) (by decide) (by decide) (by decide) (by decide) (own_geL hc73_46 (by decide)) i5 : Dig q (11 : Int32))⟩)
    · rw [show ((((((64 : Int32) - nn_7) + (1 : Int32)) * (1233 : Int32)).toUInt32 >>> ((12 : Int32) &&& 31).toUInt32).toInt32) = (11 : Int32) from i3]
      refine gon T6 (mkF m 58 #[jS u,dS,iS 11,uS] []) (fun _ k => XS.istoreN X6.here hx rfl (hb hy d17_104_57) rfl (l' := #[jS u, dS, iS 11, uS]) rfl k) ?_
      have s_48 := Sta.ext O0.2 bP
      obtain ⟨T47, X47, e47, st47⟩ := getS2 X6 hx hZ hown (host := "") (Or.inl (w254 hw)) Via.refl eq6 s_48 (g := (mkF m 58 #[jS u,dS,iS 11,uS] [])) rfl (hb hy d17_104_58)
      refine gon T47 (mkF m 61 #[jS u,dS,iS 11,uS] [(.ref wP)]) (st47) ?_
      refine gon T47 (mkF m 64 #[jS u,dS,iS 11,rS wP] [(.ref wP), (.int 11)]) (fun _ k => XS.astoreN X47.here hx rfl (hb hy d17_104_61) rfl rfl (l' := #[jS u, dS, iS 11, rS wP]) rfl (XS.iloadN X47.here hx rfl (hb hy d17_104_62) rfl (XS.aloadN X47.here hx rfl (hb hy d17_104_63) rfl rfl k))) ?_
      have s_49 := Arv.ext bPv O0.2
      refine gon T47 (mkF m 65 #[jS u,dS,iS 11,rS wP] [(.int 19), (.int 11)]) (aLen X47 hx hZ e47 s_49 (hb hy d17_104_64)) ?_
      refine gon T47 (mkF m 71 #[jS u,dS,iS 11,rS wP] [(.int 11), (.ref wP), (.long u)]) (fun _ k => XS.icmpNo X47.here hx rfl (hb hy d17_104_65) rfl (tlt (by decide : (11 : Int32) < (19 : Int32))).2.1 (XS.lloadN X47.here hx rfl (hb hy d17_104_68) rfl (XS.aloadN X47.here hx rfl (hb hy d17_104_69) rfl rfl (XS.iloadN X47.here hx rfl (hb hy d17_104_70) rfl k)))) ?_
      refine gon T47 (mkF m 72 #[jS u,dS,iS 11,rS wP] [(.long 100000000000), (.long u)]) (ldJ X47 hx hZ e47 s_49 ⟨by decide, by decide⟩ rfl (hb hy d17_104_71)) ?_
      refine gon T47 (mkF m 73 #[jS u,dS,iS 11,rS wP] [(.int (lcmpW u (100000000000 : Int64)))]) (fun _ k => XS.lcmp X47.here hx rfl (hb hy d17_104_72) rfl k) ?_
      by_cases hc73_50 : u < (100000000000 : Int64)
      · refine gon T47 (mkF m 83 #[jS u,dS,iS 11,rS wP] [(.int 11)]) (fun _ k => XS.ifNo X47.here hx rfl (hb hy d17_104_73) rfl ((if0 _ _).trans (tlt ((lw_lt u (100000000000 : Int64)).mpr hc73_50)).2.1) (XS.iloadN X47.here hx rfl (hb hy d17_104_76) rfl (XS.goto X47.here hx rfl (pc0 := 77) (pc' := 83) rfl (hb hy d17_104_77) (by decide) (by decide) k))) ?_
        exact OwnW.retI X47 hx hlk hret (hb hy d17_104_83) (by decide) (by decide) (show QQ _ T47.heap _ from ⟨(11 : Int32), rfl, N6, e47, (own_digI u hg_4.2.1 (n := 10) (A := 10000000000) (B := 100000000000) (by decide) (by decide) (by decide) (by decide) i4 (own_ltL hc73_50 (by decide)) : Dig q (11 : Int32))⟩)
      · refine gon T47 (mkF m 83 #[jS u,dS,iS 11,rS wP] [(.int 12)]) (fun _ k => XS.ifYes X47.here hx rfl (pc0 := 73) (pc' := 80) rfl (hb hy d17_104_73) rfl ((if0 _ _).trans (flt (fun zq => hc73_50 ((lw_lt u (100000000000 : Int64)).mp zq))).2.1) (by decide) (by decide) (XS.iloadN X47.here hx rfl (hb hy d17_104_80) rfl (XS.iconst X47.here hx rfl (hb hy d17_104_81) (XS.iadd X47.here hx rfl (hb hy d17_104_82) rfl k)))) ?_
        exact OwnW.retI X47 hx hlk hret (hb hy d17_104_83) (by decide) (by decide) (show QQ _ T47.heap _ from ⟨(12 : Int32), rfl, N6, e47, (own_digI u hg_4.2.1 (n := 11) (A := 100000000000) (B := 1000000000000) (by decide) (by decide) (by decide) (by decide) (own_geL hc73_50 (by decide)) i5 : Dig q (12 : Int32))⟩)
    · rw [show ((((((64 : Int32) - nn_7) + (1 : Int32)) * (1233 : Int32)).toUInt32 >>> ((12 : Int32) &&& 31).toUInt32).toInt32) = (12 : Int32) from i3]
      refine gon T6 (mkF m 58 #[jS u,dS,iS 12,uS] []) (fun _ k => XS.istoreN X6.here hx rfl (hb hy d17_104_57) rfl (l' := #[jS u, dS, iS 12, uS]) rfl k) ?_
      have s_52 := Sta.ext O0.2 bP
      obtain ⟨T51, X51, e51, st51⟩ := getS2 X6 hx hZ hown (host := "") (Or.inl (w254 hw)) Via.refl eq6 s_52 (g := (mkF m 58 #[jS u,dS,iS 12,uS] [])) rfl (hb hy d17_104_58)
      refine gon T51 (mkF m 61 #[jS u,dS,iS 12,uS] [(.ref wP)]) (st51) ?_
      refine gon T51 (mkF m 64 #[jS u,dS,iS 12,rS wP] [(.ref wP), (.int 12)]) (fun _ k => XS.astoreN X51.here hx rfl (hb hy d17_104_61) rfl rfl (l' := #[jS u, dS, iS 12, rS wP]) rfl (XS.iloadN X51.here hx rfl (hb hy d17_104_62) rfl (XS.aloadN X51.here hx rfl (hb hy d17_104_63) rfl rfl k))) ?_
      have s_53 := Arv.ext bPv O0.2
      refine gon T51 (mkF m 65 #[jS u,dS,iS 12,rS wP] [(.int 19), (.int 12)]) (aLen X51 hx hZ e51 s_53 (hb hy d17_104_64)) ?_
      refine gon T51 (mkF m 71 #[jS u,dS,iS 12,rS wP] [(.int 12), (.ref wP), (.long u)]) (fun _ k => XS.icmpNo X51.here hx rfl (hb hy d17_104_65) rfl (tlt (by decide : (12 : Int32) < (19 : Int32))).2.1 (XS.lloadN X51.here hx rfl (hb hy d17_104_68) rfl (XS.aloadN X51.here hx rfl (hb hy d17_104_69) rfl rfl (XS.iloadN X51.here hx rfl (hb hy d17_104_70) rfl k)))) ?_
      refine gon T51 (mkF m 72 #[jS u,dS,iS 12,rS wP] [(.long 1000000000000), (.long u)]) (ldJ X51 hx hZ e51 s_53 ⟨by decide, by decide⟩ rfl (hb hy d17_104_71)) ?_
      refine gon T51 (mkF m 73 #[jS u,dS,iS 12,rS wP] [(.int (lcmpW u (1000000000000 : Int64)))]) (fun _ k => XS.lcmp X51.here hx rfl (hb hy d17_104_72) rfl k) ?_
      by_cases hc73_54 : u < (1000000000000 : Int64)
      · refine gon T51 (mkF m 83 #[jS u,dS,iS 12,rS wP] [(.int 12)]) (fun _ k => XS.ifNo X51.here hx rfl (hb hy d17_104_73) rfl ((if0 _ _).trans (tlt ((lw_lt u (1000000000000 : Int64)).mpr hc73_54)).2.1) (XS.iloadN X51.here hx rfl (hb hy d17_104_76) rfl (XS.goto X51.here hx rfl (pc0 := 77) (pc' := 83) rfl (hb hy d17_104_77) (by decide) (by decide) k))) ?_
        exact OwnW.retI X51 hx hlk hret (hb hy d17_104_83) (by decide) (by decide) (show QQ _ T51.heap _ from ⟨(12 : Int32), rfl, N6, e51, (own_digI u hg_4.2.1 (n := 11) (A := 100000000000) (B := 1000000000000) (by decide) (by decide) (by decide) (by decide) i4 (own_ltL hc73_54 (by decide)) : Dig q (12 : Int32))⟩)
      · refine gon T51 (mkF m 83 #[jS u,dS,iS 12,rS wP] [(.int 13)]) (fun _ k => XS.ifYes X51.here hx rfl (pc0 := 73) (pc' := 80) rfl (hb hy d17_104_73) rfl ((if0 _ _).trans (flt (fun zq => hc73_54 ((lw_lt u (1000000000000 : Int64)).mp zq))).2.1) (by decide) (by decide) (XS.iloadN X51.here hx rfl (hb hy d17_104_80) rfl (XS.iconst X51.here hx rfl (hb hy d17_104_81) (XS.iadd X51.here hx rfl (hb hy d17_104_82) rfl k)))) ?_
        exact OwnW.retI X51 hx hlk hret (hb hy d17_104_83) (by decide) (by decide) (show QQ _ T51.heap _ from ⟨(13 : Int32), rfl, N6, e51, (own_digI u hg_4.2.1 (n := 12) (A := 1000000000000) (B := 10000000000000) (by decide) (by decide) (by decide) (by decide) (own_geL hc73_54 (by decide)) i5 : Dig q (13 : Int32))⟩)
    · rw [show ((((((64 : Int32) - nn_7) + (1 : Int32)) * (1233 : Int32)).toUInt32 >>> ((12 : Int32) &&& 31).toUInt32).toInt32) = (13 : Int32) from i3]
      refine gon T6 (mkF m 58 #[jS u,dS,iS 13,uS] []) (fun _ k => XS.istoreN X6.here hx rfl (hb hy d17_104_57) rfl (l' := #[jS u, dS, iS 13, uS]) rfl k) ?_
      have s_56 := Sta.ext O0.2 bP
      obtain ⟨T55, X55, e55, st55⟩ := getS2 X6 hx hZ hown (host := "") (Or.inl (w254 hw)) Via.refl eq6 s_56 (g := (mkF m 58 #[jS u,dS,iS 13,uS] [])) rfl (hb hy d17_104_58)
      refine gon T55 (mkF m 61 #[jS u,dS,iS 13,uS] [(.ref wP)]) (st55) ?_
      refine gon T55 (mkF m 64 #[jS u,dS,iS 13,rS wP] [(.ref wP), (.int 13)]) (fun _ k => XS.astoreN X55.here hx rfl (hb hy d17_104_61) rfl rfl (l' := #[jS u, dS, iS 13, rS wP]) rfl (XS.iloadN X55.here hx rfl (hb hy d17_104_62) rfl (XS.aloadN X55.here hx rfl (hb hy d17_104_63) rfl rfl k))) ?_
      have s_57 := Arv.ext bPv O0.2
      refine gon T55 (mkF m 65 #[jS u,dS,iS 13,rS wP] [(.int 19), (.int 13)]) (aLen X55 hx hZ e55 s_57 (hb hy d17_104_64)) ?_
      refine gon T55 (mkF m 71 #[jS u,dS,iS 13,rS wP] [(.int 13), (.ref wP), (.long u)]) (fun _ k => XS.icmpNo X55.here hx rfl (hb hy d17_104_65) rfl (tlt (by decide : (13 : Int32) < (19 : Int32))).2.1 (XS.lloadN X55.here hx rfl (hb hy d17_104_68) rfl (XS.aloadN X55.here hx rfl (hb hy d17_104_69) rfl rfl (XS.iloadN X55.here hx rfl (hb hy d17_104_70) rfl k)))) ?_
      refine gon T55 (mkF m 72 #[jS u,dS,iS 13,rS wP] [(.long 10000000000000), (.long u)]) (ldJ X55 hx hZ e55 s_57 ⟨by decide, by decide⟩ rfl (hb hy d17_104_71)) ?_
      refine gon T55 (mkF m 73 #[jS u,dS,iS 13,rS wP] [(.int (lcmpW u (10000000000000 : Int64)))]) (fun _ k => XS.lcmp X55.here hx rfl (hb hy d17_104_72) rfl k) ?_
      by_cases hc73_58 : u < (10000000000000 : Int64)
      · refine gon T55 (mkF m 83 #[jS u,dS,iS 13,rS wP] [(.int 13)]) (fun _ k => XS.ifNo X55.here hx rfl (hb hy d17_104_73) rfl ((if0 _ _).trans (tlt ((lw_lt u (10000000000000 : Int64)).mpr hc73_58)).2.1) (XS.iloadN X55.here hx rfl (hb hy d17_104_76) rfl (XS.goto X55.here hx rfl (pc0 := 77) (pc' := 83) rfl (hb hy d17_104_77) (by decide) (by decide) k))) ?_
        exact OwnW.retI X55 hx hlk hret (hb hy d17_104_83) (by decide) (by decide) (show QQ _ T55.heap _ from ⟨(13 : Int32), rfl, N6, e55, (own_digI u hg_4.2.1 (n := 12) (A := 1000000000000) (B := 10000000000000) (by decide) (by decide) (by decide) (by decide) i4 (own_ltL hc73_58 (by decide)) : Dig q (13 : Int32))⟩)
      · refine gon T55 (mkF m 83 #[jS u,dS,iS 13,rS wP] [(.int 14)]) (fun _ k => XS.ifYes X55.here hx rfl (pc0 := 73) (pc' := 80) rfl (hb hy d17_104_73) rfl ((if0 _ _).trans (flt (fun zq => hc73_58 ((lw_lt u (10000000000000 : Int64)).mp zq))).2.1) (by decide) (by decide) (XS.iloadN X55.here hx rfl (hb hy d17_104_80) rfl (XS.iconst X55.here hx rfl (hb hy d17_104_81) (XS.iadd X55.here hx rfl (hb hy d17_104_82) rfl k)))) ?_
        exact OwnW.retI X55 hx hlk hret (hb hy d17_104_83) (by decide) (by decide) (show QQ _ T55.heap _ from ⟨(14 : Int32), rfl, N6, e55, (own_digI u hg_4.2.1 (n := 13) (A := 10000000000000) (B := 100000000000000) (by decide) (by decide) (by decide) (by decide) (own_geL hc73_58 (by decide)) i5 : Dig q (14 : Int32))⟩)
theorem own_dig0 {q : Int64} {d : Int32} (h : Dig q d) : ¬ d = 0 := fun e => by
  obtain ⟨n, h1, -⟩ := h
  rw [e] at h1
  have : (0 : Int32).toInt = 0 := by decide
  omega
abbrev k17_60 := jdk_17_method_60_code
theorem d17_60_0 : decode k17_60 0 = .ok (.aload_n 0, 1) := by decide +kernel
theorem d17_60_1 : decode k17_60 1 = .ok (.getfield 21, 3) := by decide +kernel
theorem d17_60_4 : decode k17_60 4 = .ok (.istore_n 1, 1) := by decide +kernel
theorem d17_60_5 : decode k17_60 5 = .ok (.iload_n 1, 1) := by decide +kernel
theorem d17_60_6 : decode k17_60 6 = .ok (.ifCond .ne 37, 3) := by decide +kernel
theorem d17_60_9 : decode k17_60 9 = .ok (.aload_n 0, 1) := by decide +kernel
theorem d17_60_10 : decode k17_60 10 = .ok (.getfield 24, 3) := by decide +kernel
theorem d17_60_13 : decode k17_60 13 = .ok (.lstore_n 2, 1) := by decide +kernel
theorem d17_60_14 : decode k17_60 14 = .ok (.lload_n 2, 1) := by decide +kernel
theorem d17_60_15 : decode k17_60 15 = .ok (.ldc2_w 125, 3) := by decide +kernel
theorem d17_60_18 : decode k17_60 18 = .ok (.lcmp, 1) := by decide +kernel
theorem d17_60_19 : decode k17_60 19 = .ok (.ifCond .eq 11, 3) := by decide +kernel
theorem d17_60_22 : decode k17_60 22 = .ok (.lload_n 2, 1) := by decide +kernel
theorem d17_60_23 : decode k17_60 23 = .ok (.invokestatic 112, 3) := by decide +kernel
theorem w243 {Z a0} (hw : Ht a0 Z) : (Cond.code ⟨"java/math/BigDecimal", "longDigitLength", "(J)I"⟩ jdk_17_method_104_code (4 : Nat) (Option.some Jvm.ClassFile.FieldType.int)).before a0 Z = true := ht hw 243 rfl
theorem w241 {Z a0} (hw : Ht a0 Z) : (Cond.methodLink "java/math/BigDecimal" (112 : Nat) ⟨"java/math/BigDecimal", "longDigitLength", "(J)I"⟩).before a0 Z = true := ht hw 241 rfl
theorem w242 {Z a0} (hw : Ht a0 Z) : (Cond.static ⟨"java/math/BigDecimal", "longDigitLength", "(J)I"⟩).before a0 Z = true := ht hw 242 rfl
theorem d17_60_26 : decode k17_60 26 = .ok (.istore_n 1, 1) := by decide +kernel
theorem d17_60_27 : decode k17_60 27 = .ok (.goto 11, 3) := by decide +kernel
theorem d17_60_38 : decode k17_60 38 = .ok (.aload_n 0, 1) := by decide +kernel
theorem d17_60_39 : decode k17_60 39 = .ok (.iload_n 1, 1) := by decide +kernel
theorem d17_60_40 : decode k17_60 40 = .ok (.putfield 21, 3) := by decide +kernel
theorem d17_60_43 : decode k17_60 43 = .ok (.iload_n 1, 1) := by decide +kernel
theorem d17_60_44 : decode k17_60 44 = .ok (.ireturn, 1) := by decide +kernel
def Q_prec (Z : State) (a : Addr) (wZ : Addr) (wT : Addr) (wS : Addr) (wP : Addr) (wH : Addr) (kT : ClassId) (kS : ClassId) (kP : ClassId) (kH : ClassId) (zt : Nat → Addr) (zs : Nat → Addr) (q : Int64) (r : Int32) (h0 : Heap) (n0 : Nat) (v : Option Value) (h : Heap) (L : List Loc) : Prop := ∃ dd : Int32, v = some (.int dd) ∧ Fr n0 L ∧ Keep h0 h [a] ∧ Fld Z h a "java/math/BigDecimal" "scale" "I" (.int r) ∧ Fld Z h a "java/math/BigDecimal" "intCompact" "J" (.long q) ∧ Dig q dd ∧ Old Z n0 h
set_option maxRecDepth 65536 in
set_option maxHeartbeats 40000000 in
theorem prec (l : Launch) (Z : State) (a0 : Array Value) (hw : Ht a0 Z) (a : Addr) (wZ : Addr) (wT : Addr) (wS : Addr) (wP : Addr) (wH : Addr) (kT : ClassId) (kS : ClassId) (kP : ClassId) (kH : ClassId) (zt : Nat → Addr) (zs : Nat → Addr) (q : Int64) (r : Int32) (h0 : Heap) (n0 : Nat) (Z0 : n0 ≤ h0.size) (O0 : Old Z n0 h0) (P0 : BigS Z wZ wT wS wP wH kT kS kP kH zt zs) (P1 : BDV Z h0 n0 a q r) (P2 : ¬ (q = (0 : Int64))) (P3 : Bq q) :
    Con l Z (⟨"java/math/BigDecimal", "precision", "()I"⟩ : MethodName) jdk_17_method_60_code 4 (some .int) ({ frames := 3, cells := 0, slots := 0, locals := 44 } : Room) #[(.ref a)] h0 (Q_prec Z a wZ wT wS wP wH kT kS kP kH zt zs q r h0 n0) := by
  refine OwnW.body (Ls := #[rS a, uS, uS, uS]) (plainFor_of_name pn_5) (fun m => by first | (simp [entryFrame, mkF, argsToLocals, Value.category]; done) | rfl) ?_
  intro p e s m below meth c s₁ hx hy hml hown hnm hret hlk hZ X0 e0
  let QQ := Q_prec Z a wZ wT wS wP wH kT kS kP kH zt zs q r h0 n0
  have N0 := Fr.nil n0
  show Go p e below (s₁.setTop (mkF m 0 #[rS a, uS, uS, uS] [])) (EndQ s below ({ frames := 3, cells := 0, slots := 0, locals := 44 } : Room).cells ({ frames := 3, cells := 0, slots := 0, locals := 44 } : Room).slots QQ)
  obtain ⟨da, fa, oa⟩ := P1.2.2.2 P2
  rcases oa with ⟨rfl, ga⟩ | oa
  · refine gon s₁ (mkF m 1 #[rS a,uS,uS,uS] [(.ref a)]) (fun _ k => XS.aloadN X0.here hx rfl (hb hy d17_60_0) rfl rfl k) ?_
    obtain ⟨T1, X1, e1, st1⟩ := getF X0 hx hZ hown (host := "") (Or.inl (w227 hw)) Via.refl e0 fa (g := (mkF m 1 #[rS a,uS,uS,uS] [(.ref a)])) rfl rfl (hb hy d17_60_1)
    refine gon T1 (mkF m 4 #[rS a,uS,uS,uS] [(.int 0)]) (st1) ?_
    refine gon T1 (mkF m 6 #[rS a,iS 0,uS,uS] [(.int 0)]) (fun _ k => XS.istoreN X1.here hx rfl (hb hy d17_60_4) rfl (l' := #[rS a, iS 0, uS, uS]) rfl (XS.iloadN X1.here hx rfl (hb hy d17_60_5) rfl k)) ?_
    refine gon T1 (mkF m 10 #[rS a,iS 0,uS,uS] [(.ref a)]) (fun _ k => XS.ifNo X1.here hx rfl (hb hy d17_60_6) rfl ((if0 _ _).trans (teq (by decide : (0 : Int32) = (0 : Int32))).2) (XS.aloadN X1.here hx rfl (hb hy d17_60_9) rfl rfl k)) ?_
    obtain ⟨T2, X2, e2, st2⟩ := getF X1 hx hZ hown (host := "") (Or.inl (w176 hw)) Via.refl e1 P1.2.2.1 (g := (mkF m 10 #[rS a,iS 0,uS,uS] [(.ref a)])) rfl rfl (hb hy d17_60_10)
    refine gon T2 (mkF m 13 #[rS a,iS 0,uS,uS] [(.long q)]) (st2) ?_
    refine gon T2 (mkF m 15 #[rS a,iS 0,jS q,dS] [(.long q)]) (fun _ k => XS.lstoreN X2.here hx rfl (hb hy d17_60_13) rfl (l' := #[rS a, iS 0, jS q, dS]) rfl (XS.lloadN X2.here hx rfl (hb hy d17_60_14) rfl k)) ?_
    refine gon T2 (mkF m 18 #[rS a,iS 0,jS q,dS] [(.long (-9223372036854775808)), (.long q)]) (X2.ldc2Long hx hown (mvT hZ (w178 hw)) (g := (mkF m 15 #[rS a,iS 0,jS q,dS] [(.long q)])) rfl (hb hy d17_60_15)) ?_
    refine gon T2 (mkF m 19 #[rS a,iS 0,jS q,dS] [(.int (lcmpW q (-9223372036854775808 : Int64)))]) (fun _ k => XS.lcmp X2.here hx rfl (hb hy d17_60_18) rfl k) ?_
    refine gon T2 (mkF m 23 #[rS a,iS 0,jS q,dS] [(.long q)]) (fun _ k => XS.ifNo X2.here hx rfl (hb hy d17_60_19) rfl ((if0 _ _).trans (feq (fun zq => (own_bdMin (own_bd1 P3) : ¬ (q = (-9223372036854775808 : Int64))) ((lw_eq q (-9223372036854775808 : Int64)).mp zq))).1) (XS.lloadN X2.here hx rfl (hb hy d17_60_22) rfl k)) ?_
    obtain ⟨v3, T3, L3, X3, hQ3, st3⟩ := OwnW.callS X2 hx hZ hown (w241 hw) (w242 hw) (w35 hw) (w243 hw) (by decide) (ldl l Z a0 hw q wZ wT wS wP wH kT kS kP kH zt zs h0 n0 Z0 O0 P0 P2 P3) e2 (Ls := #[rS a, iS 0, jS q, dS]) (by rw [hml]; rfl) pd_23 (argsL := [(.long q)]) rfl (rest := []) rfl (W := 0) rfl (hb hy d17_60_23) (by decide) (by decide) (by decide) (by decide)
    obtain ⟨dd_4, rfl, Nq3, eq3, q3_0⟩ := hQ3
    have N3 := Fr.app N0 Nq3
    refine gon T3 (mkF m 26 #[rS a,iS 0,jS q,dS] [(.int dd_4)]) (st3) ?_
    refine gon T3 (mkF m 40 #[rS a,iS dd_4,jS q,dS] [(.int dd_4), (.ref a)]) (fun _ k => XS.istoreN X3.here hx rfl (hb hy d17_60_26) rfl (l' := #[rS a, iS dd_4, jS q, dS]) rfl (XS.goto X3.here hx rfl (pc0 := 27) (pc' := 38) rfl (hb hy d17_60_27) (by decide) (by decide) (XS.aloadN X3.here hx rfl (hb hy d17_60_38) rfl rfl (XS.iloadN X3.here hx rfl (hb hy d17_60_39) rfl k)))) ?_
    obtain ⟨T5, h5, X5, e5, W5, st5⟩ := putF X3 hx hZ hown (host := "") (Or.inl (w227 hw)) Via.refl eq3 fa P1.1 (Or.inl (w228 hw)) (w215 hw) (ty := .int) (by decide) rfl rfl (g := (mkF m 40 #[rS a,iS dd_4,jS q,dS] [(.int dd_4), (.ref a)])) rfl rfl (hb hy d17_60_40)
    have Fw5 : Fld Z h5 a "java/math/BigDecimal" "precision" "I" (.int dd_4) := Fld.same W5 fa
    have N5 := Fr.snoc X5 N3 ga
    refine gon T5 (mkF m 43 #[rS a,iS dd_4,jS q,dS] []) (st5) ?_
    refine gon T5 (mkF m 44 #[rS a,iS dd_4,jS q,dS] [(.int dd_4)]) (fun _ k => XS.iloadN X5.here hx rfl (hb hy d17_60_43) rfl k) ?_
    have K_6 : Keep h0 h5 [a] := (Keep.refl h0 [a]).wr W5 (Or.inl (List.mem_of_getElem? (i := 0) rfl))
    have c_7 := Fld.other W5 P1.2.1 (Or.inr (slot_ne (C := "java/math/BigDecimal") (Or.inr (w180 hw)) (Or.inl (w228 hw)) (by decide) (t := .int) (t' := .int) (by decide) (by decide)))
    have c_8 := Fld.other W5 P1.2.2.1 (Or.inr (slot_ne (C := "java/math/BigDecimal") (Or.inr (w177 hw)) (Or.inl (w228 hw)) (by decide) (t := .long) (t' := .int) (by decide) (by decide)))
    have O_9 : Old Z n0 h5 := O0.wr W5 ga
    exact OwnW.retI X5 hx hlk hret (hb hy d17_60_44) (by decide) (by decide) (show QQ _ T5.heap _ from (by rw [e5]; exact ⟨dd_4, rfl, N5, K_6, c_7, c_8, q3_0, O_9⟩))
  · refine gon s₁ (mkF m 1 #[rS a,uS,uS,uS] [(.ref a)]) (fun _ k => XS.aloadN X0.here hx rfl (hb hy d17_60_0) rfl rfl k) ?_
    obtain ⟨T10, X10, e10, st10⟩ := getF X0 hx hZ hown (host := "") (Or.inl (w227 hw)) Via.refl e0 fa (g := (mkF m 1 #[rS a,uS,uS,uS] [(.ref a)])) rfl rfl (hb hy d17_60_1)
    refine gon T10 (mkF m 4 #[rS a,uS,uS,uS] [(.int da)]) (st10) ?_
    refine gon T10 (mkF m 6 #[rS a,iS da,uS,uS] [(.int da)]) (fun _ k => XS.istoreN X10.here hx rfl (hb hy d17_60_4) rfl (l' := #[rS a, iS da, uS, uS]) rfl (XS.iloadN X10.here hx rfl (hb hy d17_60_5) rfl k)) ?_
    refine gon T10 (mkF m 44 #[rS a,iS da,uS,uS] [(.int da)]) (fun _ k => XS.ifYes X10.here hx rfl (pc0 := 6) (pc' := 43) rfl (hb hy d17_60_6) rfl ((if0 _ _).trans (feq ((own_dig0 oa) : ¬ (da = (0 : Int32)))).2) (by decide) (by decide) (XS.iloadN X10.here hx rfl (hb hy d17_60_43) rfl k)) ?_
    exact OwnW.retI X10 hx hlk hret (hb hy d17_60_44) (by decide) (by decide) (show QQ _ T10.heap _ from (by rw [e10]; exact ⟨da, rfl, N0, (Keep.refl h0 [a]), P1.2.1, P1.2.2.1, oa, O0⟩))
def sgn (q : Int64) : Int32 := if q < 0 then -1 else if q = 0 then 0 else 1
theorem own_sgn (q : Int64) : (((q >>> ((63 : Int32) &&& 0x3f).toInt64) ||| (((-q).toUInt64 >>> ((63 : Int32) &&& 0x3f).toInt64.toUInt64).toInt64)).toInt32) = sgn q := by
  have a := c_lshr q 63 63 (by decide)
  have b := c_lushr (-q) 63 63 (by decide) (by decide)
  have c := c_lneg q
  have r := rng64 q
  have r' := rng64 (-q)
  have e : ((2 ^ 63 : Nat) : Int) = 9223372036854775808 := by decide
  rw [e] at a b
  generalize q >>> ((63 : Int32) &&& 0x3f).toInt64 = x at a ⊢
  generalize ((-q).toUInt64 >>> ((63 : Int32) &&& 0x3f).toInt64.toUInt64).toInt64 = y at b ⊢
  have e0 : (0 : Int64).toInt = 0 := by decide
  unfold sgn
  by_cases h : q < 0
  · rw [if_pos h]
    rw [Int64.lt_iff_toInt_lt] at h
    have hx : x = -1 := by
      apply Int64.toInt_inj.mp
      have : (-1 : Int64).toInt = -1 := by decide
      omega
    have hy : y = 0 ∨ y = 1 := by
      have h1 : (1 : Int64).toInt = 1 := by decide
      have : y.toInt = 0 ∨ y.toInt = 1 := by omega
      rcases this with t | t
      · exact Or.inl (Int64.toInt_inj.mp (by omega))
      · exact Or.inr (Int64.toInt_inj.mp (by omega))
    rw [hx]
    rcases hy with rfl | rfl <;> decide
  · rw [if_neg h]
    rw [Int64.lt_iff_toInt_lt] at h
    have hx : x = 0 := by
      apply Int64.toInt_inj.mp
      omega
    by_cases hz : q = 0
    · rw [if_pos hz]
      have hq : q.toInt = 0 := by rw [hz]; decide
      have hy : y = 0 := by
        apply Int64.toInt_inj.mp
        omega
      rw [hx, hy]; decide
    · rw [if_neg hz]
      have hq : q.toInt ≠ 0 := fun t => hz (Int64.toInt_inj.mp t)
      have hy : y = 1 := by
        apply Int64.toInt_inj.mp
        have h1 : (1 : Int64).toInt = 1 := by decide
        omega
      rw [hx, hy]; decide
theorem own_sgnEq {x y : Int64} {k : Int} (h : y.toInt = x.toInt * k) (hk : 0 < k) : sgn x = sgn y := by
  have e0 : (0 : Int64).toInt = 0 := by decide
  unfold sgn
  simp only [Int64.lt_iff_toInt_lt, ← Int64.toInt_inj, e0]
  rcases Int.lt_trichotomy x.toInt 0 with p | p | p
  · have : y.toInt < 0 := by rw [h]; exact Int.mul_neg_of_neg_of_pos p hk
    simp [p, this]
  · have : y.toInt = 0 := by rw [h, p]; simp
    simp [p, this]
  · have : 0 < y.toInt := by rw [h]; exact Int.mul_pos p hk
    have h1 : ¬ x.toInt < 0 := by omega
    have h2 : ¬ y.toInt < 0 := by omega
    have h3 : ¬ x.toInt = 0 := by omega
    have h4 : ¬ y.toInt = 0 := by omega
    simp [h1, h2, h3, h4]
theorem own_sgn0 {x : Int64} (h : sgn x = 0) : x = 0 := by
  unfold sgn at h
  split at h
  · cases h
  · split at h
    · assumption
    · cases h
theorem own_sgnN {x : Int64} (h : ¬ sgn x = 0) : ¬ x = 0 := fun e => h (by rw [e]; decide)
theorem own_irr (q : Int64) : ¬ q < q := by rw [Int64.lt_iff_toInt_lt]; omega
theorem own_dig {p q : Int64} {d e : Int32} {n : Nat} (h1 : Dig p d) (h2 : Dig q e) (he : q.toInt = p.toInt * ((10 ^ n : Nat) : Int)) : e.toInt = d.toInt + n := by
  obtain ⟨a, a1, a2, a3, a4⟩ := h1
  obtain ⟨b, b1, b2, b3, b4⟩ := h2
  have hq : q.toInt.natAbs = p.toInt.natAbs * 10 ^ n := by rw [he, Int.natAbs_mul]; simp
  have c1 : 10 ^ (a + n) ≤ q.toInt.natAbs := by rw [hq, Nat.pow_add]; exact Nat.mul_le_mul_right _ a3
  have c2 : q.toInt.natAbs < 10 ^ (a + 1 + n) := by rw [hq, Nat.pow_add]; exact Nat.mul_lt_mul_of_pos_right a4 (Nat.pow_pos (by decide))
  have d1 : ¬ b + 1 ≤ a + n := fun t => by
    have := Nat.pow_le_pow_right (n := 10) (by decide) t
    omega
  have d2 : ¬ a + 1 + n ≤ b := fun t => by
    have := Nat.pow_le_pow_right (n := 10) (by decide) t
    omega
  omega
theorem own_digEq {p q c : Int64} {d e : Int32} {n : Nat} (h1 : Dig p d) (h2 : Dig q e) (he : q.toInt = p.toInt * ((10 ^ n : Nat) : Int)) (hc : c.toInt = 3 - n) (hn : n ≤ 3) : d.toInt64 - c = e.toInt64 - 3 := by
  have hd := own_dig h1 h2 he
  apply Int64.toInt_inj.mp
  have a1 := c_i2l d
  have a2 := c_i2l e
  have a3 := c_lsub d.toInt64 c
  have a4 := c_lsub e.toInt64 3
  have a5 := rng64 (d.toInt64 - c)
  have a6 := rng64 (e.toInt64 - 3)
  have a7 := rng32 d
  have a8 := rng32 e
  have e3 : (3 : Int64).toInt = 3 := by decide
  omega
theorem own_nlt {x y : Int64} (e : x = y) : ¬ x < y := by rw [e]; exact own_irr y
abbrev k35_57 := jdk_35_method_57_code
theorem d35_57_0 : decode k35_57 0 = .ok (.lload_n 0, 1) := by decide +kernel
theorem d35_57_1 : decode k35_57 1 = .ok (.bipush 63, 2) := by decide +kernel
theorem d35_57_3 : decode k35_57 3 = .ok (.lshr, 1) := by decide +kernel
theorem d35_57_4 : decode k35_57 4 = .ok (.lload_n 0, 1) := by decide +kernel
theorem d35_57_5 : decode k35_57 5 = .ok (.lneg, 1) := by decide +kernel
theorem d35_57_6 : decode k35_57 6 = .ok (.bipush 63, 2) := by decide +kernel
theorem d35_57_8 : decode k35_57 8 = .ok (.lushr, 1) := by decide +kernel
theorem d35_57_9 : decode k35_57 9 = .ok (.lor, 1) := by decide +kernel
theorem d35_57_10 : decode k35_57 10 = .ok (.l2i, 1) := by decide +kernel
theorem d35_57_11 : decode k35_57 11 = .ok (.ireturn, 1) := by decide +kernel
def Q_lsig (Z : State) (q : Int64) (h0 : Heap) (n0 : Nat) (v : Option Value) (h : Heap) (L : List Loc) : Prop := v = some (.int (sgn q)) ∧ Fr n0 L ∧ h = h0
set_option maxRecDepth 65536 in
set_option maxHeartbeats 40000000 in
theorem lsig (l : Launch) (Z : State) (a0 : Array Value) (hw : Ht a0 Z) (q : Int64) (h0 : Heap) (n0 : Nat) (Z0 : n0 ≤ h0.size)  :
    Con l Z (⟨"java/lang/Long", "signum", "(J)I"⟩ : MethodName) jdk_35_method_57_code 2 (some .int) ({ frames := 0, cells := 0, slots := 0, locals := 0 } : Room) #[(.long q)] h0 (Q_lsig Z q h0 n0) := by
  refine OwnW.body (Ls := #[jS q, dS]) (plainFor_of_name pn_10) (fun m => by first | (simp [entryFrame, mkF, argsToLocals, Value.category]; done) | rfl) ?_
  intro p e s m below meth c s₁ hx hy hml hown hnm hret hlk hZ X0 e0
  let QQ := Q_lsig Z q h0 n0
  have N0 := Fr.nil n0
  show Go p e below (s₁.setTop (mkF m 0 #[jS q, dS] [])) (EndQ s below ({ frames := 0, cells := 0, slots := 0, locals := 0 } : Room).cells ({ frames := 0, cells := 0, slots := 0, locals := 0 } : Room).slots QQ)
  refine gon s₁ (mkF m 6 #[jS q,dS] [(.long (-q)), (.long (q >>> ((63 : Int32) &&& 0x3f).toInt64))]) (fun _ k => XS.lloadN X0.here hx rfl (hb hy d35_57_0) rfl (XS.bipush X0.here hx rfl (hb hy d35_57_1) (XS.lshr X0.here hx rfl (hb hy d35_57_3) rfl (XS.lloadN X0.here hx rfl (hb hy d35_57_4) rfl (XS.lneg X0.here hx rfl (hb hy d35_57_5) rfl k))))) ?_
  refine gon s₁ (mkF m 11 #[jS q,dS] [(.int (((q >>> ((63 : Int32) &&& 0x3f).toInt64) ||| (((-q).toUInt64 >>> ((63 : Int32) &&& 0x3f).toInt64.toUInt64).toInt64)).toInt32))]) (fun _ k => XS.bipush X0.here hx rfl (hb hy d35_57_6) (XS.lushr X0.here hx rfl (hb hy d35_57_8) rfl (XS.lor X0.here hx rfl (hb hy d35_57_9) rfl (XS.l2i X0.here hx rfl (hb hy d35_57_10) rfl k)))) ?_
  exact OwnW.retI X0 hx hlk hret (hb hy d35_57_11) (by decide) (by decide) (show QQ _ s₁.heap _ from ⟨(congrArg some (congrArg Value.int (own_sgn q))), N0, e0⟩)
abbrev k17_58 := jdk_17_method_58_code
theorem d17_58_0 : decode k17_58 0 = .ok (.aload_n 0, 1) := by decide +kernel
theorem d17_58_1 : decode k17_58 1 = .ok (.getfield 24, 3) := by decide +kernel
theorem d17_58_4 : decode k17_58 4 = .ok (.ldc2_w 125, 3) := by decide +kernel
theorem d17_58_7 : decode k17_58 7 = .ok (.lcmp, 1) := by decide +kernel
theorem d17_58_8 : decode k17_58 8 = .ok (.ifCond .eq 13, 3) := by decide +kernel
theorem d17_58_11 : decode k17_58 11 = .ok (.aload_n 0, 1) := by decide +kernel
theorem d17_58_12 : decode k17_58 12 = .ok (.getfield 24, 3) := by decide +kernel
theorem d17_58_15 : decode k17_58 15 = .ok (.invokestatic 596, 3) := by decide +kernel
theorem w208 {Z a0} (hw : Ht a0 Z) : (Cond.code ⟨"java/lang/Long", "signum", "(J)I"⟩ jdk_35_method_57_code (2 : Nat) (Option.some Jvm.ClassFile.FieldType.int)).before a0 Z = true := ht hw 208 rfl
theorem w205 {Z a0} (hw : Ht a0 Z) : (Cond.methodLink "java/math/BigDecimal" (596 : Nat) ⟨"java/lang/Long", "signum", "(J)I"⟩).before a0 Z = true := ht hw 205 rfl
theorem w206 {Z a0} (hw : Ht a0 Z) : (Cond.static ⟨"java/lang/Long", "signum", "(J)I"⟩).before a0 Z = true := ht hw 206 rfl
theorem d17_58_18 : decode k17_58 18 = .ok (.goto 10, 3) := by decide +kernel
theorem d17_58_28 : decode k17_58 28 = .ok (.ireturn, 1) := by decide +kernel
def Q_bsig (Z : State) (a : Addr) (q : Int64) (h0 : Heap) (n0 : Nat) (v : Option Value) (h : Heap) (L : List Loc) : Prop := v = some (.int (sgn q)) ∧ Fr n0 L ∧ h = h0
set_option maxRecDepth 65536 in
set_option maxHeartbeats 40000000 in
theorem bsig (l : Launch) (Z : State) (a0 : Array Value) (hw : Ht a0 Z) (a : Addr) (q : Int64) (h0 : Heap) (n0 : Nat) (Z0 : n0 ≤ h0.size) (P0 : Fld Z h0 a "java/math/BigDecimal" "intCompact" "J" (.long q)) (P1 : ¬ (q = (-9223372036854775808 : Int64))) :
    Con l Z (⟨"java/math/BigDecimal", "signum", "()I"⟩ : MethodName) jdk_17_method_58_code 1 (some .int) ({ frames := 1, cells := 0, slots := 0, locals := 13 } : Room) #[(.ref a)] h0 (Q_bsig Z a q h0 n0) := by
  refine OwnW.body (Ls := #[rS a]) (plainFor_of_name pn_5) (fun m => by first | (simp [entryFrame, mkF, argsToLocals, Value.category]; done) | rfl) ?_
  intro p e s m below meth c s₁ hx hy hml hown hnm hret hlk hZ X0 e0
  let QQ := Q_bsig Z a q h0 n0
  have N0 := Fr.nil n0
  show Go p e below (s₁.setTop (mkF m 0 #[rS a] [])) (EndQ s below ({ frames := 1, cells := 0, slots := 0, locals := 13 } : Room).cells ({ frames := 1, cells := 0, slots := 0, locals := 13 } : Room).slots QQ)
  refine gon s₁ (mkF m 1 #[rS a] [(.ref a)]) (fun _ k => XS.aloadN X0.here hx rfl (hb hy d17_58_0) rfl rfl k) ?_
  obtain ⟨T1, X1, e1, st1⟩ := getF X0 hx hZ hown (host := "") (Or.inl (w176 hw)) Via.refl e0 P0 (g := (mkF m 1 #[rS a] [(.ref a)])) rfl rfl (hb hy d17_58_1)
  refine gon T1 (mkF m 4 #[rS a] [(.long q)]) (st1) ?_
  refine gon T1 (mkF m 7 #[rS a] [(.long (-9223372036854775808)), (.long q)]) (X1.ldc2Long hx hown (mvT hZ (w178 hw)) (g := (mkF m 4 #[rS a] [(.long q)])) rfl (hb hy d17_58_4)) ?_
  refine gon T1 (mkF m 8 #[rS a] [(.int (lcmpW q (-9223372036854775808 : Int64)))]) (fun _ k => XS.lcmp X1.here hx rfl (hb hy d17_58_7) rfl k) ?_
  refine gon T1 (mkF m 12 #[rS a] [(.ref a)]) (fun _ k => XS.ifNo X1.here hx rfl (hb hy d17_58_8) rfl ((if0 _ _).trans (feq (fun zq => (P1 : ¬ (q = (-9223372036854775808 : Int64))) ((lw_eq q (-9223372036854775808 : Int64)).mp zq))).1) (XS.aloadN X1.here hx rfl (hb hy d17_58_11) rfl rfl k)) ?_
  obtain ⟨T2, X2, e2, st2⟩ := getF X1 hx hZ hown (host := "") (Or.inl (w176 hw)) Via.refl e1 P0 (g := (mkF m 12 #[rS a] [(.ref a)])) rfl rfl (hb hy d17_58_12)
  refine gon T2 (mkF m 15 #[rS a] [(.long q)]) (st2) ?_
  obtain ⟨v3, T3, L3, X3, hQ3, st3⟩ := OwnW.callS X2 hx hZ hown (w205 hw) (w206 hw) (w207 hw) (w208 hw) (by decide) (lsig l Z a0 hw q h0 n0 Z0 ) e2 (Ls := #[rS a]) (by rw [hml]; rfl) pd_23 (argsL := [(.long q)]) rfl (rest := []) rfl (W := 0) rfl (hb hy d17_58_15) (by decide) (by decide) (by decide) (by decide)
  obtain ⟨rfl, Nq3, eq3⟩ := hQ3
  have N3 := Fr.app N0 Nq3
  refine gon T3 (mkF m 18 #[rS a] [(.int (sgn q))]) (st3) ?_
  refine gon T3 (mkF m 28 #[rS a] [(.int (sgn q))]) (fun _ k => XS.goto X3.here hx rfl (pc0 := 18) (pc' := 28) rfl (hb hy d17_58_18) (by decide) (by decide) k) ?_
  exact OwnW.retI X3 hx hlk hret (hb hy d17_58_28) (by decide) (by decide) (show QQ _ T3.heap _ from ⟨rfl, N3, eq3⟩)
abbrev k35_42 := jdk_35_method_42_code
theorem d35_42_0 : decode k35_42 0 = .ok (.lload_n 0, 1) := by decide +kernel
theorem d35_42_1 : decode k35_42 1 = .ok (.lload_n 2, 1) := by decide +kernel
theorem d35_42_2 : decode k35_42 2 = .ok (.lcmp, 1) := by decide +kernel
theorem d35_42_3 : decode k35_42 3 = .ok (.ifCond .ge 7, 3) := by decide +kernel
theorem d35_42_10 : decode k35_42 10 = .ok (.lload_n 0, 1) := by decide +kernel
theorem d35_42_11 : decode k35_42 11 = .ok (.lload_n 2, 1) := by decide +kernel
theorem d35_42_12 : decode k35_42 12 = .ok (.lcmp, 1) := by decide +kernel
theorem d35_42_13 : decode k35_42 13 = .ok (.ifCond .ne 7, 3) := by decide +kernel
theorem d35_42_16 : decode k35_42 16 = .ok (.iconst 0, 1) := by decide +kernel
theorem d35_42_17 : decode k35_42 17 = .ok (.goto 4, 3) := by decide +kernel
theorem d35_42_21 : decode k35_42 21 = .ok (.ireturn, 1) := by decide +kernel
def Q_lcmp0 (Z : State) (q : Int64) (h0 : Heap) (n0 : Nat) (v : Option Value) (h : Heap) (L : List Loc) : Prop := v = some (.int (0 : Int32)) ∧ Fr n0 L ∧ h = h0
set_option maxRecDepth 65536 in
set_option maxHeartbeats 40000000 in
theorem lcmp0 (l : Launch) (Z : State) (a0 : Array Value) (hw : Ht a0 Z) (q : Int64) (h0 : Heap) (n0 : Nat) (Z0 : n0 ≤ h0.size)  :
    Con l Z (⟨"java/lang/Long", "compare", "(JJ)I"⟩ : MethodName) jdk_35_method_42_code 4 (some .int) ({ frames := 0, cells := 0, slots := 0, locals := 0 } : Room) #[(.long q), (.long q)] h0 (Q_lcmp0 Z q h0 n0) := by
  refine OwnW.body (Ls := #[jS q, dS, jS q, dS]) (plainFor_of_name pn_10) (fun m => by first | (simp [entryFrame, mkF, argsToLocals, Value.category]; done) | rfl) ?_
  intro p e s m below meth c s₁ hx hy hml hown hnm hret hlk hZ X0 e0
  let QQ := Q_lcmp0 Z q h0 n0
  have N0 := Fr.nil n0
  show Go p e below (s₁.setTop (mkF m 0 #[jS q, dS, jS q, dS] [])) (EndQ s below ({ frames := 0, cells := 0, slots := 0, locals := 0 } : Room).cells ({ frames := 0, cells := 0, slots := 0, locals := 0 } : Room).slots QQ)
  refine gon s₁ (mkF m 3 #[jS q,dS,jS q,dS] [(.int (lcmpW q q))]) (fun _ k => XS.lloadN X0.here hx rfl (hb hy d35_42_0) rfl (XS.lloadN X0.here hx rfl (hb hy d35_42_1) rfl (XS.lcmp X0.here hx rfl (hb hy d35_42_2) rfl k))) ?_
  refine gon s₁ (mkF m 13 #[jS q,dS,jS q,dS] [(.int (lcmpW q q))]) (fun _ k => XS.ifYes X0.here hx rfl (pc0 := 3) (pc' := 10) rfl (hb hy d35_42_3) rfl ((if0 _ _).trans (flt (fun zq => (own_irr _ : ¬ (q < q)) ((lw_lt q q).mp zq))).2.1) (by decide) (by decide) (XS.lloadN X0.here hx rfl (hb hy d35_42_10) rfl (XS.lloadN X0.here hx rfl (hb hy d35_42_11) rfl (XS.lcmp X0.here hx rfl (hb hy d35_42_12) rfl k)))) ?_
  refine gon s₁ (mkF m 21 #[jS q,dS,jS q,dS] [(.int 0)]) (fun _ k => XS.ifNo X0.here hx rfl (hb hy d35_42_13) rfl ((if0 _ _).trans (teq ((lw_eq q q).mpr (rfl : q = q))).2) (XS.iconst X0.here hx rfl (hb hy d35_42_16) (XS.goto X0.here hx rfl (pc0 := 17) (pc' := 21) rfl (hb hy d35_42_17) (by decide) (by decide) k))) ?_
  exact OwnW.retI X0 hx hlk hret (hb hy d35_42_21) (by decide) (by decide) (show QQ _ s₁.heap _ from ⟨rfl, N0, e0⟩)
abbrev k17_108 := jdk_17_method_108_code
theorem d17_108_0 : decode k17_108 0 = .ok (.lload_n 0, 1) := by decide +kernel
theorem d17_108_1 : decode k17_108 1 = .ok (.lconst 0, 1) := by decide +kernel
theorem d17_108_2 : decode k17_108 2 = .ok (.lcmp, 1) := by decide +kernel
theorem d17_108_3 : decode k17_108 3 = .ok (.ifCond .ge 6, 3) := by decide +kernel
theorem d17_108_6 : decode k17_108 6 = .ok (.lload_n 0, 1) := by decide +kernel
theorem d17_108_7 : decode k17_108 7 = .ok (.lneg, 1) := by decide +kernel
theorem d17_108_8 : decode k17_108 8 = .ok (.lstore_n 0, 1) := by decide +kernel
theorem d17_108_9 : decode k17_108 9 = .ok (.lload_n 2, 1) := by decide +kernel
theorem d17_108_10 : decode k17_108 10 = .ok (.lconst 0, 1) := by decide +kernel
theorem d17_108_11 : decode k17_108 11 = .ok (.lcmp, 1) := by decide +kernel
theorem d17_108_12 : decode k17_108 12 = .ok (.ifCond .ge 6, 3) := by decide +kernel
theorem d17_108_15 : decode k17_108 15 = .ok (.lload_n 2, 1) := by decide +kernel
theorem d17_108_16 : decode k17_108 16 = .ok (.lneg, 1) := by decide +kernel
theorem d17_108_17 : decode k17_108 17 = .ok (.lstore_n 2, 1) := by decide +kernel
theorem d17_108_18 : decode k17_108 18 = .ok (.lload_n 0, 1) := by decide +kernel
theorem d17_108_19 : decode k17_108 19 = .ok (.lload_n 2, 1) := by decide +kernel
theorem d17_108_20 : decode k17_108 20 = .ok (.invokestatic 881, 3) := by decide +kernel
theorem w268 {Z a0} (hw : Ht a0 Z) : (Cond.code ⟨"java/lang/Long", "compare", "(JJ)I"⟩ jdk_35_method_42_code (4 : Nat) (Option.some Jvm.ClassFile.FieldType.int)).before a0 Z = true := ht hw 268 rfl
theorem w266 {Z a0} (hw : Ht a0 Z) : (Cond.methodLink "java/math/BigDecimal" (881 : Nat) ⟨"java/lang/Long", "compare", "(JJ)I"⟩).before a0 Z = true := ht hw 266 rfl
theorem w267 {Z a0} (hw : Ht a0 Z) : (Cond.static ⟨"java/lang/Long", "compare", "(JJ)I"⟩).before a0 Z = true := ht hw 267 rfl
theorem d17_108_23 : decode k17_108 23 = .ok (.ireturn, 1) := by decide +kernel
def Q_lcm0 (Z : State) (q : Int64) (h0 : Heap) (n0 : Nat) (v : Option Value) (h : Heap) (L : List Loc) : Prop := v = some (.int (0 : Int32)) ∧ Fr n0 L ∧ h = h0
set_option maxRecDepth 65536 in
set_option maxHeartbeats 40000000 in
theorem lcm0 (l : Launch) (Z : State) (a0 : Array Value) (hw : Ht a0 Z) (q : Int64) (h0 : Heap) (n0 : Nat) (Z0 : n0 ≤ h0.size)  :
    Con l Z (⟨"java/math/BigDecimal", "longCompareMagnitude", "(JJ)I"⟩ : MethodName) jdk_17_method_108_code 4 (some .int) ({ frames := 1, cells := 0, slots := 0, locals := 15 } : Room) #[(.long q), (.long q)] h0 (Q_lcm0 Z q h0 n0) := by
  refine OwnW.body (Ls := #[jS q, dS, jS q, dS]) (plainFor_of_name pn_5) (fun m => by first | (simp [entryFrame, mkF, argsToLocals, Value.category]; done) | rfl) ?_
  intro p e s m below meth c s₁ hx hy hml hown hnm hret hlk hZ X0 e0
  let QQ := Q_lcm0 Z q h0 n0
  have N0 := Fr.nil n0
  show Go p e below (s₁.setTop (mkF m 0 #[jS q, dS, jS q, dS] [])) (EndQ s below ({ frames := 1, cells := 0, slots := 0, locals := 15 } : Room).cells ({ frames := 1, cells := 0, slots := 0, locals := 15 } : Room).slots QQ)
  refine gon s₁ (mkF m 3 #[jS q,dS,jS q,dS] [(.int (lcmpW q (0 : Int64)))]) (fun _ k => XS.lloadN X0.here hx rfl (hb hy d17_108_0) rfl (XS.lconst X0.here hx rfl (hb hy d17_108_1) (XS.lcmp X0.here hx rfl (hb hy d17_108_2) rfl k))) ?_
  by_cases hc3_1 : q < (0 : Int64)
  · refine gon s₁ (mkF m 10 #[jS (-q),dS,jS q,dS] [(.long q)]) (fun _ k => XS.ifNo X0.here hx rfl (hb hy d17_108_3) rfl ((if0 _ _).trans (tlt ((lw_lt q (0 : Int64)).mpr hc3_1)).2.1) (XS.lloadN X0.here hx rfl (hb hy d17_108_6) rfl (XS.lneg X0.here hx rfl (hb hy d17_108_7) rfl (XS.lstoreN X0.here hx rfl (hb hy d17_108_8) rfl (l' := #[jS (-q), dS, jS q, dS]) rfl (XS.lloadN X0.here hx rfl (hb hy d17_108_9) rfl k))))) ?_
    refine gon s₁ (mkF m 12 #[jS (-q),dS,jS q,dS] [(.int (lcmpW q (0 : Int64)))]) (fun _ k => XS.lconst X0.here hx rfl (hb hy d17_108_10) (XS.lcmp X0.here hx rfl (hb hy d17_108_11) rfl k)) ?_
    refine gon s₁ (mkF m 19 #[jS (-q),dS,jS (-q),dS] [(.long (-q))]) (fun _ k => XS.ifNo X0.here hx rfl (hb hy d17_108_12) rfl ((if0 _ _).trans (tlt ((lw_lt q (0 : Int64)).mpr (hc3_1 : q < (0 : Int64)))).2.1) (XS.lloadN X0.here hx rfl (hb hy d17_108_15) rfl (XS.lneg X0.here hx rfl (hb hy d17_108_16) rfl (XS.lstoreN X0.here hx rfl (hb hy d17_108_17) rfl (l' := #[jS (-q), dS, jS (-q), dS]) rfl (XS.lloadN X0.here hx rfl (hb hy d17_108_18) rfl k))))) ?_
    refine gon s₁ (mkF m 20 #[jS (-q),dS,jS (-q),dS] [(.long (-q)), (.long (-q))]) (fun _ k => XS.lloadN X0.here hx rfl (hb hy d17_108_19) rfl k) ?_
    obtain ⟨v2, T2, L2, X2, hQ2, st2⟩ := OwnW.callS X0 hx hZ hown (w266 hw) (w267 hw) (w207 hw) (w268 hw) (by decide) (lcmp0 l Z a0 hw (-q) h0 n0 Z0 ) e0 (Ls := #[jS (-q), dS, jS (-q), dS]) (by rw [hml]; rfl) pd_13 (argsL := [(.long (-q)), (.long (-q))]) rfl (rest := []) rfl (W := 0) rfl (hb hy d17_108_20) (by decide) (by decide) (by decide) (by decide)
    obtain ⟨rfl, Nq2, eq2⟩ := hQ2
    have N2 := Fr.app N0 Nq2
    refine gon T2 (mkF m 23 #[jS (-q),dS,jS (-q),dS] [(.int 0)]) (st2) ?_
    exact OwnW.retI X2 hx hlk hret (hb hy d17_108_23) (by decide) (by decide) (show QQ _ T2.heap _ from ⟨rfl, N2, eq2⟩)
  · refine gon s₁ (mkF m 12 #[jS q,dS,jS q,dS] [(.int (lcmpW q (0 : Int64)))]) (fun _ k => XS.ifYes X0.here hx rfl (pc0 := 3) (pc' := 9) rfl (hb hy d17_108_3) rfl ((if0 _ _).trans (flt (fun zq => hc3_1 ((lw_lt q (0 : Int64)).mp zq))).2.1) (by decide) (by decide) (XS.lloadN X0.here hx rfl (hb hy d17_108_9) rfl (XS.lconst X0.here hx rfl (hb hy d17_108_10) (XS.lcmp X0.here hx rfl (hb hy d17_108_11) rfl k)))) ?_
    refine gon s₁ (mkF m 20 #[jS q,dS,jS q,dS] [(.long q), (.long q)]) (fun _ k => XS.ifYes X0.here hx rfl (pc0 := 12) (pc' := 18) rfl (hb hy d17_108_12) rfl ((if0 _ _).trans (flt (fun zq => (hc3_1 : ¬ (q < (0 : Int64))) ((lw_lt q (0 : Int64)).mp zq))).2.1) (by decide) (by decide) (XS.lloadN X0.here hx rfl (hb hy d17_108_18) rfl (XS.lloadN X0.here hx rfl (hb hy d17_108_19) rfl k))) ?_
    obtain ⟨v3, T3, L3, X3, hQ3, st3⟩ := OwnW.callS X0 hx hZ hown (w266 hw) (w267 hw) (w207 hw) (w268 hw) (by decide) (lcmp0 l Z a0 hw q h0 n0 Z0 ) e0 (Ls := #[jS q, dS, jS q, dS]) (by rw [hml]; rfl) pd_13 (argsL := [(.long q), (.long q)]) rfl (rest := []) rfl (W := 0) rfl (hb hy d17_108_20) (by decide) (by decide) (by decide) (by decide)
    obtain ⟨rfl, Nq3, eq3⟩ := hQ3
    have N3 := Fr.app N0 Nq3
    refine gon T3 (mkF m 23 #[jS q,dS,jS q,dS] [(.int 0)]) (st3) ?_
    exact OwnW.retI X3 hx hlk hret (hb hy d17_108_23) (by decide) (by decide) (show QQ _ T3.heap _ from ⟨rfl, N3, eq3⟩)
theorem own_mulne {x y : Int64} {k : Int} (h : y.toInt = x.toInt * k) (hk : 0 < k) (hx : ¬ x = 0) : ¬ y = 0 := fun e => by
  have e0 : (0 : Int64).toInt = 0 := by decide
  rw [e, e0] at h
  rcases Int.mul_eq_zero.mp h.symm with t | t
  · exact hx (Int64.toInt_inj.mp t)
  · omega
abbrev k17_71 := jdk_17_method_71_code
theorem d17_71_0 : decode k17_71 0 = .ok (.aload_n 1, 1) := by decide +kernel
theorem d17_71_1 : decode k17_71 1 = .ok (.getfield 24, 3) := by decide +kernel
theorem d17_71_4 : decode k17_71 4 = .ok (.lstore_n 2, 1) := by decide +kernel
theorem d17_71_5 : decode k17_71 5 = .ok (.aload_n 0, 1) := by decide +kernel
theorem d17_71_6 : decode k17_71 6 = .ok (.getfield 24, 3) := by decide +kernel
theorem d17_71_9 : decode k17_71 9 = .ok (.lstore 4, 2) := by decide +kernel
theorem d17_71_11 : decode k17_71 11 = .ok (.lload 4, 2) := by decide +kernel
theorem d17_71_13 : decode k17_71 13 = .ok (.lconst 0, 1) := by decide +kernel
theorem d17_71_14 : decode k17_71 14 = .ok (.lcmp, 1) := by decide +kernel
theorem d17_71_15 : decode k17_71 15 = .ok (.ifCond .ne 15, 3) := by decide +kernel
theorem d17_71_30 : decode k17_71 30 = .ok (.lload_n 2, 1) := by decide +kernel
theorem d17_71_31 : decode k17_71 31 = .ok (.lconst 0, 1) := by decide +kernel
theorem d17_71_32 : decode k17_71 32 = .ok (.lcmp, 1) := by decide +kernel
theorem d17_71_33 : decode k17_71 33 = .ok (.ifCond .ne 5, 3) := by decide +kernel
theorem d17_71_38 : decode k17_71 38 = .ok (.aload_n 0, 1) := by decide +kernel
theorem d17_71_39 : decode k17_71 39 = .ok (.getfield 17, 3) := by decide +kernel
theorem d17_71_42 : decode k17_71 42 = .ok (.i2l, 1) := by decide +kernel
theorem d17_71_43 : decode k17_71 43 = .ok (.aload_n 1, 1) := by decide +kernel
theorem d17_71_44 : decode k17_71 44 = .ok (.getfield 17, 3) := by decide +kernel
theorem d17_71_47 : decode k17_71 47 = .ok (.i2l, 1) := by decide +kernel
theorem d17_71_48 : decode k17_71 48 = .ok (.lsub, 1) := by decide +kernel
theorem d17_71_49 : decode k17_71 49 = .ok (.lstore 6, 2) := by decide +kernel
theorem d17_71_51 : decode k17_71 51 = .ok (.lload 6, 2) := by decide +kernel
theorem d17_71_53 : decode k17_71 53 = .ok (.lconst 0, 1) := by decide +kernel
theorem d17_71_54 : decode k17_71 54 = .ok (.lcmp, 1) := by decide +kernel
theorem d17_71_55 : decode k17_71 55 = .ok (.ifCond .eq 182, 3) := by decide +kernel
theorem d17_71_58 : decode k17_71 58 = .ok (.aload_n 0, 1) := by decide +kernel
theorem d17_71_59 : decode k17_71 59 = .ok (.invokevirtual 289, 3) := by decide +kernel
theorem w239 {Z a0} (hw : Ht a0 Z) : (Cond.selects "java/math/BigDecimal" ⟨"java/math/BigDecimal", "precision", "()I"⟩ ⟨"java/math/BigDecimal", "precision", "()I"⟩).before a0 Z = true := ht hw 239 rfl
theorem w240 {Z a0} (hw : Ht a0 Z) : (Cond.code ⟨"java/math/BigDecimal", "precision", "()I"⟩ jdk_17_method_60_code (4 : Nat) (Option.some Jvm.ClassFile.FieldType.int)).before a0 Z = true := ht hw 240 rfl
theorem w236 {Z a0} (hw : Ht a0 Z) : (Cond.methodLink "java/math/BigDecimal" (289 : Nat) ⟨"java/math/BigDecimal", "precision", "()I"⟩).before a0 Z = true := ht hw 236 rfl
theorem w237 {Z a0} (hw : Ht a0 Z) : (Cond.declares ⟨"java/math/BigDecimal", "precision", "()I"⟩).before a0 Z = true := ht hw 237 rfl
theorem w238 {Z a0} (hw : Ht a0 Z) : (Cond.instanceMethod ⟨"java/math/BigDecimal", "precision", "()I"⟩).before a0 Z = true := ht hw 238 rfl
theorem pd_24 : parseMethodDescriptor "()I" = some ⟨[], some .int⟩ := by decide +kernel
theorem d17_71_62 : decode k17_71 62 = .ok (.i2l, 1) := by decide +kernel
theorem d17_71_63 : decode k17_71 63 = .ok (.aload_n 0, 1) := by decide +kernel
theorem d17_71_64 : decode k17_71 64 = .ok (.getfield 17, 3) := by decide +kernel
theorem d17_71_67 : decode k17_71 67 = .ok (.i2l, 1) := by decide +kernel
theorem d17_71_68 : decode k17_71 68 = .ok (.lsub, 1) := by decide +kernel
theorem d17_71_69 : decode k17_71 69 = .ok (.lstore 8, 2) := by decide +kernel
theorem d17_71_71 : decode k17_71 71 = .ok (.aload_n 1, 1) := by decide +kernel
theorem d17_71_72 : decode k17_71 72 = .ok (.invokevirtual 289, 3) := by decide +kernel
theorem d17_71_75 : decode k17_71 75 = .ok (.i2l, 1) := by decide +kernel
theorem d17_71_76 : decode k17_71 76 = .ok (.aload_n 1, 1) := by decide +kernel
theorem d17_71_77 : decode k17_71 77 = .ok (.getfield 17, 3) := by decide +kernel
theorem d17_71_80 : decode k17_71 80 = .ok (.i2l, 1) := by decide +kernel
theorem d17_71_81 : decode k17_71 81 = .ok (.lsub, 1) := by decide +kernel
theorem d17_71_82 : decode k17_71 82 = .ok (.lstore 10, 2) := by decide +kernel
theorem d17_71_84 : decode k17_71 84 = .ok (.lload 8, 2) := by decide +kernel
theorem d17_71_86 : decode k17_71 86 = .ok (.lload 10, 2) := by decide +kernel
theorem d17_71_88 : decode k17_71 88 = .ok (.lcmp, 1) := by decide +kernel
theorem d17_71_89 : decode k17_71 89 = .ok (.ifCond .ge 5, 3) := by decide +kernel
theorem d17_71_94 : decode k17_71 94 = .ok (.lload 8, 2) := by decide +kernel
theorem d17_71_96 : decode k17_71 96 = .ok (.lload 10, 2) := by decide +kernel
theorem d17_71_98 : decode k17_71 98 = .ok (.lcmp, 1) := by decide +kernel
theorem d17_71_99 : decode k17_71 99 = .ok (.ifCond .le 5, 3) := by decide +kernel
theorem d17_71_104 : decode k17_71 104 = .ok (.lload 6, 2) := by decide +kernel
theorem d17_71_106 : decode k17_71 106 = .ok (.lconst 0, 1) := by decide +kernel
theorem d17_71_107 : decode k17_71 107 = .ok (.lcmp, 1) := by decide +kernel
theorem d17_71_108 : decode k17_71 108 = .ok (.ifCond .ge 68, 3) := by decide +kernel
theorem d17_71_111 : decode k17_71 111 = .ok (.lload 6, 2) := by decide +kernel
theorem d17_71_113 : decode k17_71 113 = .ok (.ldc2_w 628, 3) := by decide +kernel
theorem w255 {Z a0} (hw : Ht a0 Z) : (Cond.constantLong "java/math/BigDecimal" (628 : Nat) (-2147483648 : Int64)).before a0 Z = true := ht hw 255 rfl
theorem d17_71_116 : decode k17_71 116 = .ok (.lcmp, 1) := by decide +kernel
theorem d17_71_117 : decode k17_71 117 = .ok (.ifCond .le 120, 3) := by decide +kernel
theorem d17_71_120 : decode k17_71 120 = .ok (.lload 4, 2) := by decide +kernel
theorem d17_71_122 : decode k17_71 122 = .ok (.ldc2_w 125, 3) := by decide +kernel
theorem d17_71_125 : decode k17_71 125 = .ok (.lcmp, 1) := by decide +kernel
theorem d17_71_126 : decode k17_71 126 = .ok (.ifCond .eq 22, 3) := by decide +kernel
theorem d17_71_129 : decode k17_71 129 = .ok (.lload 4, 2) := by decide +kernel
theorem d17_71_131 : decode k17_71 131 = .ok (.lload 6, 2) := by decide +kernel
theorem d17_71_133 : decode k17_71 133 = .ok (.lneg, 1) := by decide +kernel
theorem d17_71_134 : decode k17_71 134 = .ok (.l2i, 1) := by decide +kernel
theorem d17_71_135 : decode k17_71 135 = .ok (.invokestatic 599, 3) := by decide +kernel
theorem d17_71_138 : decode k17_71 138 = .ok (.dup2, 1) := by decide +kernel
theorem d17_71_139 : decode k17_71 139 = .ok (.lstore 4, 2) := by decide +kernel
theorem d17_71_141 : decode k17_71 141 = .ok (.ldc2_w 125, 3) := by decide +kernel
theorem d17_71_144 : decode k17_71 144 = .ok (.lcmp, 1) := by decide +kernel
theorem d17_71_145 : decode k17_71 145 = .ok (.ifCond .ne 92, 3) := by decide +kernel
theorem d17_71_237 : decode k17_71 237 = .ok (.lload 4, 2) := by decide +kernel
theorem d17_71_239 : decode k17_71 239 = .ok (.ldc2_w 125, 3) := by decide +kernel
theorem d17_71_242 : decode k17_71 242 = .ok (.lcmp, 1) := by decide +kernel
theorem d17_71_243 : decode k17_71 243 = .ok (.ifCond .eq 22, 3) := by decide +kernel
theorem d17_71_246 : decode k17_71 246 = .ok (.lload_n 2, 1) := by decide +kernel
theorem d17_71_247 : decode k17_71 247 = .ok (.ldc2_w 125, 3) := by decide +kernel
theorem d17_71_250 : decode k17_71 250 = .ok (.lcmp, 1) := by decide +kernel
theorem d17_71_251 : decode k17_71 251 = .ok (.ifCond .eq 12, 3) := by decide +kernel
theorem d17_71_254 : decode k17_71 254 = .ok (.lload 4, 2) := by decide +kernel
theorem d17_71_256 : decode k17_71 256 = .ok (.lload_n 2, 1) := by decide +kernel
theorem d17_71_257 : decode k17_71 257 = .ok (.invokestatic 632, 3) := by decide +kernel
theorem w265 {Z a0} (hw : Ht a0 Z) : (Cond.code ⟨"java/math/BigDecimal", "longCompareMagnitude", "(JJ)I"⟩ jdk_17_method_108_code (4 : Nat) (Option.some Jvm.ClassFile.FieldType.int)).before a0 Z = true := ht hw 265 rfl
theorem w263 {Z a0} (hw : Ht a0 Z) : (Cond.methodLink "java/math/BigDecimal" (632 : Nat) ⟨"java/math/BigDecimal", "longCompareMagnitude", "(JJ)I"⟩).before a0 Z = true := ht hw 263 rfl
theorem w264 {Z a0} (hw : Ht a0 Z) : (Cond.static ⟨"java/math/BigDecimal", "longCompareMagnitude", "(JJ)I"⟩).before a0 Z = true := ht hw 264 rfl
theorem d17_71_260 : decode k17_71 260 = .ok (.goto 4, 3) := by decide +kernel
theorem d17_71_264 : decode k17_71 264 = .ok (.ireturn, 1) := by decide +kernel
def Q_cmag0 (Z : State) (a : Addr) (d : Addr) (wZ : Addr) (wT : Addr) (wS : Addr) (wP : Addr) (wH : Addr) (kT : ClassId) (kS : ClassId) (kP : ClassId) (kH : ClassId) (zt : Nat → Addr) (zs : Nat → Addr) (qa : Int64) (qb : Int64) (h0 : Heap) (n0 : Nat) (v : Option Value) (h : Heap) (L : List Loc) : Prop := v = some (.int (0 : Int32)) ∧ Fr n0 L ∧ Keep h0 h [a, d] ∧ Fld Z h a "java/math/BigDecimal" "scale" "I" (.int (0 : Int32))
set_option maxRecDepth 65536 in
set_option maxHeartbeats 40000000 in
theorem cmag0 (l : Launch) (Z : State) (a0 : Array Value) (hw : Ht a0 Z) (a : Addr) (d : Addr) (wZ : Addr) (wT : Addr) (wS : Addr) (wP : Addr) (wH : Addr) (kT : ClassId) (kS : ClassId) (kP : ClassId) (kH : ClassId) (zt : Nat → Addr) (zs : Nat → Addr) (qa : Int64) (qb : Int64) (h0 : Heap) (n0 : Nat) (Z0 : n0 ≤ h0.size) (O0 : Old Z n0 h0) (P0 : BigS Z wZ wT wS wP wH kT kS kP kH zt zs) (P1 : BDV Z h0 n0 a qa (0 : Int32)) (P2 : BDV Z h0 n0 d qb (3 : Int32)) (P3 : ¬ (qa = (0 : Int64))) (P4 : Bq qa) (P5 : Bq qb) (P6 : qb.toInt = qa.toInt * ((10 ^ 3 : Nat) : Int)) :
    Con l Z (⟨"java/math/BigDecimal", "compareMagnitude", "(Ljava/math/BigDecimal;)I"⟩ : MethodName) jdk_17_method_71_code 13 (some .int) ({ frames := 4, cells := 0, slots := 0, locals := 59 } : Room) #[(.ref a), (.ref d)] h0 (Q_cmag0 Z a d wZ wT wS wP wH kT kS kP kH zt zs qa qb h0 n0) := by
  refine OwnW.body (Ls := #[rS a, rS d, uS, uS, uS, uS, uS, uS, uS, uS, uS, uS, uS]) (plainFor_of_name pn_5) (fun m => by first | (simp [entryFrame, mkF, argsToLocals, Value.category]; done) | rfl) ?_
  intro p e s m below meth c s₁ hx hy hml hown hnm hret hlk hZ X0 e0
  let QQ := Q_cmag0 Z a d wZ wT wS wP wH kT kS kP kH zt zs qa qb h0 n0
  have N0 := Fr.nil n0
  show Go p e below (s₁.setTop (mkF m 0 #[rS a, rS d, uS, uS, uS, uS, uS, uS, uS, uS, uS, uS, uS] [])) (EndQ s below ({ frames := 4, cells := 0, slots := 0, locals := 59 } : Room).cells ({ frames := 4, cells := 0, slots := 0, locals := 59 } : Room).slots QQ)
  have ⟨bZ, bZv, bT, bTv, bTa, bS, bSv, bSa, bP, bPv, bH, bHv, bA⟩ := P0
  have nead : a ≠ d := Fld.ne P1.2.1 P2.2.1 (by decide)
  have hqb0 : ¬ (qb = (0 : Int64)) := own_mulne P6 (by decide) P3
  refine gon s₁ (mkF m 1 #[rS a,rS d,uS,uS,uS,uS,uS,uS,uS,uS,uS,uS,uS] [(.ref d)]) (fun _ k => XS.aloadN X0.here hx rfl (hb hy d17_71_0) rfl rfl k) ?_
  obtain ⟨T1, X1, e1, st1⟩ := getF X0 hx hZ hown (host := "") (Or.inl (w176 hw)) Via.refl e0 P2.2.2.1 (g := (mkF m 1 #[rS a,rS d,uS,uS,uS,uS,uS,uS,uS,uS,uS,uS,uS] [(.ref d)])) rfl rfl (hb hy d17_71_1)
  refine gon T1 (mkF m 4 #[rS a,rS d,uS,uS,uS,uS,uS,uS,uS,uS,uS,uS,uS] [(.long qb)]) (st1) ?_
  refine gon T1 (mkF m 6 #[rS a,rS d,jS qb,dS,uS,uS,uS,uS,uS,uS,uS,uS,uS] [(.ref a)]) (fun _ k => XS.lstoreN X1.here hx rfl (hb hy d17_71_4) rfl (l' := #[rS a, rS d, jS qb, dS, uS, uS, uS, uS, uS, uS, uS, uS, uS]) rfl (XS.aloadN X1.here hx rfl (hb hy d17_71_5) rfl rfl k)) ?_
  obtain ⟨T2, X2, e2, st2⟩ := getF X1 hx hZ hown (host := "") (Or.inl (w176 hw)) Via.refl e1 P1.2.2.1 (g := (mkF m 6 #[rS a,rS d,jS qb,dS,uS,uS,uS,uS,uS,uS,uS,uS,uS] [(.ref a)])) rfl rfl (hb hy d17_71_6)
  refine gon T2 (mkF m 9 #[rS a,rS d,jS qb,dS,uS,uS,uS,uS,uS,uS,uS,uS,uS] [(.long qa)]) (st2) ?_
  refine gon T2 (mkF m 15 #[rS a,rS d,jS qb,dS,jS qa,dS,uS,uS,uS,uS,uS,uS,uS] [(.int (lcmpW qa (0 : Int64)))]) (fun _ k => XS.lstore X2.here hx rfl (hb hy d17_71_9) rfl (l' := #[rS a, rS d, jS qb, dS, jS qa, dS, uS, uS, uS, uS, uS, uS, uS]) rfl (XS.lload X2.here hx rfl (hb hy d17_71_11) rfl (XS.lconst X2.here hx rfl (hb hy d17_71_13) (XS.lcmp X2.here hx rfl (hb hy d17_71_14) rfl k)))) ?_
  refine gon T2 (mkF m 33 #[rS a,rS d,jS qb,dS,jS qa,dS,uS,uS,uS,uS,uS,uS,uS] [(.int (lcmpW qb (0 : Int64)))]) (fun _ k => XS.ifYes X2.here hx rfl (pc0 := 15) (pc' := 30) rfl (hb hy d17_71_15) rfl ((if0 _ _).trans (feq (fun zq => (P3 : ¬ (qa = (0 : Int64))) ((lw_eq qa (0 : Int64)).mp zq))).2) (by decide) (by decide) (XS.lloadN X2.here hx rfl (hb hy d17_71_30) rfl (XS.lconst X2.here hx rfl (hb hy d17_71_31) (XS.lcmp X2.here hx rfl (hb hy d17_71_32) rfl k)))) ?_
  refine gon T2 (mkF m 39 #[rS a,rS d,jS qb,dS,jS qa,dS,uS,uS,uS,uS,uS,uS,uS] [(.ref a)]) (fun _ k => XS.ifYes X2.here hx rfl (pc0 := 33) (pc' := 38) rfl (hb hy d17_71_33) rfl ((if0 _ _).trans (feq (fun zq => (hqb0 : ¬ (qb = (0 : Int64))) ((lw_eq qb (0 : Int64)).mp zq))).2) (by decide) (by decide) (XS.aloadN X2.here hx rfl (hb hy d17_71_38) rfl rfl k)) ?_
  obtain ⟨T3, X3, e3, st3⟩ := getF X2 hx hZ hown (host := "") (Or.inl (w179 hw)) Via.refl e2 P1.2.1 (g := (mkF m 39 #[rS a,rS d,jS qb,dS,jS qa,dS,uS,uS,uS,uS,uS,uS,uS] [(.ref a)])) rfl rfl (hb hy d17_71_39)
  refine gon T3 (mkF m 42 #[rS a,rS d,jS qb,dS,jS qa,dS,uS,uS,uS,uS,uS,uS,uS] [(.int 0)]) (st3) ?_
  refine gon T3 (mkF m 44 #[rS a,rS d,jS qb,dS,jS qa,dS,uS,uS,uS,uS,uS,uS,uS] [(.ref d), (.long 0)]) (fun _ k => XS.i2l X3.here hx rfl (hb hy d17_71_42) rfl (XS.aloadN X3.here hx rfl (hb hy d17_71_43) rfl rfl k)) ?_
  obtain ⟨T4, X4, e4, st4⟩ := getF X3 hx hZ hown (host := "") (Or.inl (w179 hw)) Via.refl e3 P2.2.1 (g := (mkF m 44 #[rS a,rS d,jS qb,dS,jS qa,dS,uS,uS,uS,uS,uS,uS,uS] [(.ref d), (.long 0)])) rfl rfl (hb hy d17_71_44)
  refine gon T4 (mkF m 47 #[rS a,rS d,jS qb,dS,jS qa,dS,uS,uS,uS,uS,uS,uS,uS] [(.int 3), (.long 0)]) (st4) ?_
  refine gon T4 (mkF m 54 #[rS a,rS d,jS qb,dS,jS qa,dS,jS (-3),dS,uS,uS,uS,uS,uS] [(.long 0), (.long (-3))]) (fun _ k => XS.i2l X4.here hx rfl (hb hy d17_71_47) rfl (XS.lsub X4.here hx rfl (hb hy d17_71_48) rfl (XS.lstore X4.here hx rfl (hb hy d17_71_49) rfl (l' := #[rS a, rS d, jS qb, dS, jS qa, dS, jS (-3), dS, uS, uS, uS, uS, uS]) rfl (XS.lload X4.here hx rfl (hb hy d17_71_51) rfl (XS.lconst X4.here hx rfl (hb hy d17_71_53) k))))) ?_
  refine gon T4 (mkF m 55 #[rS a,rS d,jS qb,dS,jS qa,dS,jS (-3),dS,uS,uS,uS,uS,uS] [(.int (lcmpW (-3 : Int64) (0 : Int64)))]) (fun _ k => XS.lcmp X4.here hx rfl (hb hy d17_71_54) rfl k) ?_
  refine gon T4 (mkF m 59 #[rS a,rS d,jS qb,dS,jS qa,dS,jS (-3),dS,uS,uS,uS,uS,uS] [(.ref a)]) (fun _ k => XS.ifNo X4.here hx rfl (hb hy d17_71_55) rfl ((if0 _ _).trans (feq (fun zq => (by decide : ¬ ((-3 : Int64) = (0 : Int64))) ((lw_eq (-3 : Int64) (0 : Int64)).mp zq))).1) (XS.aloadN X4.here hx rfl (hb hy d17_71_58) rfl rfl k)) ?_
  obtain ⟨v5, T5, L5, X5, hQ5, st5⟩ := OwnW.callV X4 hx hZ hown (w236 hw) (w237 hw) (notFace_of_selects (args := #[]) (mvT hZ (w239 hw))) (w239 hw) (w238 hw) (w35 hw) (w240 hw) (by decide) (b := a) (prec l Z a0 hw a wZ wT wS wP wH kT kS kP kH zt zs qa (0 : Int32) h0 n0 Z0 O0 P0 P1 P3 P4) e4 P1.1 (Ls := #[rS a, rS d, jS qb, dS, jS qa, dS, jS (-3), dS, uS, uS, uS, uS, uS]) (by rw [hml]; rfl) pd_24 (argsL := []) rfl (rest := []) rfl (W := 0) rfl (hb hy d17_71_59) (by decide) (by decide) (by decide) (by decide)
  obtain ⟨dd_6, rfl, Nq5, Kq5, q5_0, q5_1, q5_2, q5_3⟩ := hQ5
  have N5 := Fr.app N0 Nq5
  refine gon T5 (mkF m 62 #[rS a,rS d,jS qb,dS,jS qa,dS,jS (-3),dS,uS,uS,uS,uS,uS] [(.int dd_6)]) (st5) ?_
  refine gon T5 (mkF m 64 #[rS a,rS d,jS qb,dS,jS qa,dS,jS (-3),dS,uS,uS,uS,uS,uS] [(.ref a), (.long (dd_6.toInt64))]) (fun _ k => XS.i2l X5.here hx rfl (hb hy d17_71_62) rfl (XS.aloadN X5.here hx rfl (hb hy d17_71_63) rfl rfl k)) ?_
  obtain ⟨T7, X7, e7, st7⟩ := getF X5 hx hZ hown (host := "") (Or.inl (w179 hw)) Via.refl rfl q5_0 (g := (mkF m 64 #[rS a,rS d,jS qb,dS,jS qa,dS,jS (-3),dS,uS,uS,uS,uS,uS] [(.ref a), (.long (dd_6.toInt64))])) rfl rfl (hb hy d17_71_64)
  refine gon T7 (mkF m 67 #[rS a,rS d,jS qb,dS,jS qa,dS,jS (-3),dS,uS,uS,uS,uS,uS] [(.int 0), (.long (dd_6.toInt64))]) (st7) ?_
  refine gon T7 (mkF m 72 #[rS a,rS d,jS qb,dS,jS qa,dS,jS (-3),dS,jS ((dd_6.toInt64) - (0 : Int64)),dS,uS,uS,uS] [(.ref d)]) (fun _ k => XS.i2l X7.here hx rfl (hb hy d17_71_67) rfl (XS.lsub X7.here hx rfl (hb hy d17_71_68) rfl (XS.lstore X7.here hx rfl (hb hy d17_71_69) rfl (l' := #[rS a, rS d, jS qb, dS, jS qa, dS, jS (-3), dS, jS ((dd_6.toInt64) - (0 : Int64)), dS, uS, uS, uS]) rfl (XS.aloadN X7.here hx rfl (hb hy d17_71_71) rfl rfl k)))) ?_
  have c_9 := Exa.keep P2.1 Kq5
  have c_10 := BDV.keep P2 Kq5 (ninS (Ne.symm nead) nin0)
  have Z_11 : n0 ≤ T5.heap.size := Nat.le_trans Z0 Kq5.1
  obtain ⟨v8, T8, L8, X8, hQ8, st8⟩ := OwnW.callV X7 hx hZ hown (w236 hw) (w237 hw) (notFace_of_selects (args := #[]) (mvT hZ (w239 hw))) (w239 hw) (w238 hw) (w35 hw) (w240 hw) (by decide) (b := d) (prec l Z a0 hw d wZ wT wS wP wH kT kS kP kH zt zs qb (3 : Int32) T5.heap n0 Z_11 q5_3 P0 c_10 hqb0 P5) e7 c_9 (Ls := #[rS a, rS d, jS qb, dS, jS qa, dS, jS (-3), dS, jS ((dd_6.toInt64) - (0 : Int64)), dS, uS, uS, uS]) (by rw [hml]; rfl) pd_24 (argsL := []) rfl (rest := []) rfl (W := 0) rfl (hb hy d17_71_72) (by decide) (by decide) (by decide) (by decide)
  obtain ⟨dd_12, rfl, Nq8, Kq8, q8_0, q8_1, q8_2, q8_3⟩ := hQ8
  have N8 := Fr.app N5 Nq8
  refine gon T8 (mkF m 75 #[rS a,rS d,jS qb,dS,jS qa,dS,jS (-3),dS,jS ((dd_6.toInt64) - (0 : Int64)),dS,uS,uS,uS] [(.int dd_12)]) (st8) ?_
  refine gon T8 (mkF m 77 #[rS a,rS d,jS qb,dS,jS qa,dS,jS (-3),dS,jS ((dd_6.toInt64) - (0 : Int64)),dS,uS,uS,uS] [(.ref d), (.long (dd_12.toInt64))]) (fun _ k => XS.i2l X8.here hx rfl (hb hy d17_71_75) rfl (XS.aloadN X8.here hx rfl (hb hy d17_71_76) rfl rfl k)) ?_
  obtain ⟨T13, X13, e13, st13⟩ := getF X8 hx hZ hown (host := "") (Or.inl (w179 hw)) Via.refl rfl q8_0 (g := (mkF m 77 #[rS a,rS d,jS qb,dS,jS qa,dS,jS (-3),dS,jS ((dd_6.toInt64) - (0 : Int64)),dS,uS,uS,uS] [(.ref d), (.long (dd_12.toInt64))])) rfl rfl (hb hy d17_71_77)
  refine gon T13 (mkF m 80 #[rS a,rS d,jS qb,dS,jS qa,dS,jS (-3),dS,jS ((dd_6.toInt64) - (0 : Int64)),dS,uS,uS,uS] [(.int 3), (.long (dd_12.toInt64))]) (st13) ?_
  refine gon T13 (mkF m 88 #[rS a,rS d,jS qb,dS,jS qa,dS,jS (-3),dS,jS ((dd_6.toInt64) - (0 : Int64)),dS,jS ((dd_12.toInt64) - (3 : Int64)),dS,uS] [(.long ((dd_12.toInt64) - (3 : Int64))), (.long ((dd_6.toInt64) - (0 : Int64)))]) (fun _ k => XS.i2l X13.here hx rfl (hb hy d17_71_80) rfl (XS.lsub X13.here hx rfl (hb hy d17_71_81) rfl (XS.lstore X13.here hx rfl (hb hy d17_71_82) rfl (l' := #[rS a, rS d, jS qb, dS, jS qa, dS, jS (-3), dS, jS ((dd_6.toInt64) - (0 : Int64)), dS, jS ((dd_12.toInt64) - (3 : Int64)), dS, uS]) rfl (XS.lload X13.here hx rfl (hb hy d17_71_84) rfl (XS.lload X13.here hx rfl (hb hy d17_71_86) rfl k))))) ?_
  refine gon T13 (mkF m 89 #[rS a,rS d,jS qb,dS,jS qa,dS,jS (-3),dS,jS ((dd_6.toInt64) - (0 : Int64)),dS,jS ((dd_12.toInt64) - (3 : Int64)),dS,uS] [(.int (lcmpW ((dd_6.toInt64) - (0 : Int64)) ((dd_12.toInt64) - (3 : Int64))))]) (fun _ k => XS.lcmp X13.here hx rfl (hb hy d17_71_88) rfl k) ?_
  refine gon T13 (mkF m 99 #[rS a,rS d,jS qb,dS,jS qa,dS,jS (-3),dS,jS ((dd_6.toInt64) - (0 : Int64)),dS,jS ((dd_12.toInt64) - (3 : Int64)),dS,uS] [(.int (lcmpW ((dd_6.toInt64) - (0 : Int64)) ((dd_12.toInt64) - (3 : Int64))))]) (fun _ k => XS.ifYes X13.here hx rfl (pc0 := 89) (pc' := 94) rfl (hb hy d17_71_89) rfl ((if0 _ _).trans (flt (fun zq => (own_nlt (own_digEq q5_2 q8_2 P6 (by decide) (by decide)) : ¬ (((dd_6.toInt64) - (0 : Int64)) < ((dd_12.toInt64) - (3 : Int64)))) ((lw_lt ((dd_6.toInt64) - (0 : Int64)) ((dd_12.toInt64) - (3 : Int64))).mp zq))).2.1) (by decide) (by decide) (XS.lload X13.here hx rfl (hb hy d17_71_94) rfl (XS.lload X13.here hx rfl (hb hy d17_71_96) rfl (XS.lcmp X13.here hx rfl (hb hy d17_71_98) rfl k)))) ?_
  refine gon T13 (mkF m 108 #[rS a,rS d,jS qb,dS,jS qa,dS,jS (-3),dS,jS ((dd_6.toInt64) - (0 : Int64)),dS,jS ((dd_12.toInt64) - (3 : Int64)),dS,uS] [(.int (lcmpW (-3 : Int64) (0 : Int64)))]) (fun _ k => XS.ifYes X13.here hx rfl (pc0 := 99) (pc' := 104) rfl (hb hy d17_71_99) rfl ((if0 _ _).trans (flt (fun zq => (own_nlt (own_digEq q5_2 q8_2 P6 (by decide) (by decide)).symm : ¬ (((dd_12.toInt64) - (3 : Int64)) < ((dd_6.toInt64) - (0 : Int64)))) ((lw_gt ((dd_6.toInt64) - (0 : Int64)) ((dd_12.toInt64) - (3 : Int64))).mp zq))).2.2.2) (by decide) (by decide) (XS.lload X13.here hx rfl (hb hy d17_71_104) rfl (XS.lconst X13.here hx rfl (hb hy d17_71_106) (XS.lcmp X13.here hx rfl (hb hy d17_71_107) rfl k)))) ?_
  refine gon T13 (mkF m 113 #[rS a,rS d,jS qb,dS,jS qa,dS,jS (-3),dS,jS ((dd_6.toInt64) - (0 : Int64)),dS,jS ((dd_12.toInt64) - (3 : Int64)),dS,uS] [(.long (-3))]) (fun _ k => XS.ifNo X13.here hx rfl (hb hy d17_71_108) rfl ((if0 _ _).trans (tlt ((lw_lt (-3 : Int64) (0 : Int64)).mpr (by decide : (-3 : Int64) < (0 : Int64)))).2.1) (XS.lload X13.here hx rfl (hb hy d17_71_111) rfl k)) ?_
  refine gon T13 (mkF m 116 #[rS a,rS d,jS qb,dS,jS qa,dS,jS (-3),dS,jS ((dd_6.toInt64) - (0 : Int64)),dS,jS ((dd_12.toInt64) - (3 : Int64)),dS,uS] [(.long (-2147483648)), (.long (-3))]) (X13.ldc2Long hx hown (mvT hZ (w255 hw)) (g := (mkF m 113 #[rS a,rS d,jS qb,dS,jS qa,dS,jS (-3),dS,jS ((dd_6.toInt64) - (0 : Int64)),dS,jS ((dd_12.toInt64) - (3 : Int64)),dS,uS] [(.long (-3))])) rfl (hb hy d17_71_113)) ?_
  refine gon T13 (mkF m 117 #[rS a,rS d,jS qb,dS,jS qa,dS,jS (-3),dS,jS ((dd_6.toInt64) - (0 : Int64)),dS,jS ((dd_12.toInt64) - (3 : Int64)),dS,uS] [(.int (lcmpW (-3 : Int64) (-2147483648 : Int64)))]) (fun _ k => XS.lcmp X13.here hx rfl (hb hy d17_71_116) rfl k) ?_
  refine gon T13 (mkF m 122 #[rS a,rS d,jS qb,dS,jS qa,dS,jS (-3),dS,jS ((dd_6.toInt64) - (0 : Int64)),dS,jS ((dd_12.toInt64) - (3 : Int64)),dS,uS] [(.long qa)]) (fun _ k => XS.ifNo X13.here hx rfl (hb hy d17_71_117) rfl ((if0 _ _).trans (tlt ((lw_gt (-3 : Int64) (-2147483648 : Int64)).mpr (by decide : (-2147483648 : Int64) < (-3 : Int64)))).2.2.2) (XS.lload X13.here hx rfl (hb hy d17_71_120) rfl k)) ?_
  refine gon T13 (mkF m 125 #[rS a,rS d,jS qb,dS,jS qa,dS,jS (-3),dS,jS ((dd_6.toInt64) - (0 : Int64)),dS,jS ((dd_12.toInt64) - (3 : Int64)),dS,uS] [(.long (-9223372036854775808)), (.long qa)]) (X13.ldc2Long hx hown (mvT hZ (w178 hw)) (g := (mkF m 122 #[rS a,rS d,jS qb,dS,jS qa,dS,jS (-3),dS,jS ((dd_6.toInt64) - (0 : Int64)),dS,jS ((dd_12.toInt64) - (3 : Int64)),dS,uS] [(.long qa)])) rfl (hb hy d17_71_122)) ?_
  refine gon T13 (mkF m 126 #[rS a,rS d,jS qb,dS,jS qa,dS,jS (-3),dS,jS ((dd_6.toInt64) - (0 : Int64)),dS,jS ((dd_12.toInt64) - (3 : Int64)),dS,uS] [(.int (lcmpW qa (-9223372036854775808 : Int64)))]) (fun _ k => XS.lcmp X13.here hx rfl (hb hy d17_71_125) rfl k) ?_
  refine gon T13 (mkF m 135 #[rS a,rS d,jS qb,dS,jS qa,dS,jS (-3),dS,jS ((dd_6.toInt64) - (0 : Int64)),dS,jS ((dd_12.toInt64) - (3 : Int64)),dS,uS] [(.int 3), (.long qa)]) (fun _ k => XS.ifNo X13.here hx rfl (hb hy d17_71_126) rfl ((if0 _ _).trans (feq (fun zq => (own_bdMin (own_bd1 P4) : ¬ (qa = (-9223372036854775808 : Int64))) ((lw_eq qa (-9223372036854775808 : Int64)).mp zq))).1) (XS.lload X13.here hx rfl (hb hy d17_71_129) rfl (XS.lload X13.here hx rfl (hb hy d17_71_131) rfl (XS.lneg X13.here hx rfl (hb hy d17_71_133) rfl (XS.l2i X13.here hx rfl (hb hy d17_71_134) rfl k))))) ?_
  have Z_15 : n0 ≤ T8.heap.size := Nat.le_trans Z_11 Kq8.1
  obtain ⟨v14, T14, L14, X14, hQ14, st14⟩ := OwnW.callS X13 hx hZ hown (w256 hw) (w257 hw) (w35 hw) (w258 hw) (by decide) (lmp3 l Z a0 hw qa wZ wT wS wP wH kT kS kP kH zt zs T8.heap n0 Z_15 q8_3 P0 P4) e13 (Ls := #[rS a, rS d, jS qb, dS, jS qa, dS, jS (-3), dS, jS ((dd_6.toInt64) - (0 : Int64)), dS, jS ((dd_12.toInt64) - (3 : Int64)), dS, uS]) (by rw [hml]; rfl) pd_14 (argsL := [(.long qa), (.int (3 : Int32))]) rfl (rest := []) rfl (W := 0) rfl (hb hy d17_71_135) (by decide) (by decide) (by decide) (by decide)
  obtain ⟨rfl, Nq14, eq14⟩ := hQ14
  have N14 := Fr.app N8 Nq14
  refine gon T14 (mkF m 138 #[rS a,rS d,jS qb,dS,jS qa,dS,jS (-3),dS,jS ((dd_6.toInt64) - (0 : Int64)),dS,jS ((dd_12.toInt64) - (3 : Int64)),dS,uS] [(.long (qa * (1000 : Int64)))]) (st14) ?_
  refine gon T14 (mkF m 141 #[rS a,rS d,jS qb,dS,jS (qa * (1000 : Int64)),dS,jS (-3),dS,jS ((dd_6.toInt64) - (0 : Int64)),dS,jS ((dd_12.toInt64) - (3 : Int64)),dS,uS] [(.long (qa * (1000 : Int64)))]) (fun _ k => Jvm.Free.XT.dup2L X14.here hx rfl (hb hy d17_71_138) rfl (XS.lstore X14.here hx rfl (hb hy d17_71_139) rfl (l' := #[rS a, rS d, jS qb, dS, jS (qa * (1000 : Int64)), dS, jS (-3), dS, jS ((dd_6.toInt64) - (0 : Int64)), dS, jS ((dd_12.toInt64) - (3 : Int64)), dS, uS]) rfl k)) ?_
  refine gon T14 (mkF m 144 #[rS a,rS d,jS qb,dS,jS (qa * (1000 : Int64)),dS,jS (-3),dS,jS ((dd_6.toInt64) - (0 : Int64)),dS,jS ((dd_12.toInt64) - (3 : Int64)),dS,uS] [(.long (-9223372036854775808)), (.long (qa * (1000 : Int64)))]) (X14.ldc2Long hx hown (mvT hZ (w178 hw)) (g := (mkF m 141 #[rS a,rS d,jS qb,dS,jS (qa * (1000 : Int64)),dS,jS (-3),dS,jS ((dd_6.toInt64) - (0 : Int64)),dS,jS ((dd_12.toInt64) - (3 : Int64)),dS,uS] [(.long (qa * (1000 : Int64)))])) rfl (hb hy d17_71_141)) ?_
  refine gon T14 (mkF m 145 #[rS a,rS d,jS qb,dS,jS (qa * (1000 : Int64)),dS,jS (-3),dS,jS ((dd_6.toInt64) - (0 : Int64)),dS,jS ((dd_12.toInt64) - (3 : Int64)),dS,uS] [(.int (lcmpW (qa * (1000 : Int64)) (-9223372036854775808 : Int64)))]) (fun _ k => XS.lcmp X14.here hx rfl (hb hy d17_71_144) rfl k) ?_
  refine gon T14 (mkF m 239 #[rS a,rS d,jS qb,dS,jS (qa * (1000 : Int64)),dS,jS (-3),dS,jS ((dd_6.toInt64) - (0 : Int64)),dS,jS ((dd_12.toInt64) - (3 : Int64)),dS,uS] [(.long (qa * (1000 : Int64)))]) (fun _ k => XS.ifYes X14.here hx rfl (pc0 := 145) (pc' := 237) rfl (hb hy d17_71_145) rfl ((if0 _ _).trans (feq (fun zq => (own_bdMin (own_bd1000 P4).2 : ¬ ((qa * (1000 : Int64)) = (-9223372036854775808 : Int64))) ((lw_eq (qa * (1000 : Int64)) (-9223372036854775808 : Int64)).mp zq))).2) (by decide) (by decide) (XS.lload X14.here hx rfl (hb hy d17_71_237) rfl k)) ?_
  refine gon T14 (mkF m 242 #[rS a,rS d,jS qb,dS,jS (qa * (1000 : Int64)),dS,jS (-3),dS,jS ((dd_6.toInt64) - (0 : Int64)),dS,jS ((dd_12.toInt64) - (3 : Int64)),dS,uS] [(.long (-9223372036854775808)), (.long (qa * (1000 : Int64)))]) (X14.ldc2Long hx hown (mvT hZ (w178 hw)) (g := (mkF m 239 #[rS a,rS d,jS qb,dS,jS (qa * (1000 : Int64)),dS,jS (-3),dS,jS ((dd_6.toInt64) - (0 : Int64)),dS,jS ((dd_12.toInt64) - (3 : Int64)),dS,uS] [(.long (qa * (1000 : Int64)))])) rfl (hb hy d17_71_239)) ?_
  refine gon T14 (mkF m 243 #[rS a,rS d,jS qb,dS,jS (qa * (1000 : Int64)),dS,jS (-3),dS,jS ((dd_6.toInt64) - (0 : Int64)),dS,jS ((dd_12.toInt64) - (3 : Int64)),dS,uS] [(.int (lcmpW (qa * (1000 : Int64)) (-9223372036854775808 : Int64)))]) (fun _ k => XS.lcmp X14.here hx rfl (hb hy d17_71_242) rfl k) ?_
  refine gon T14 (mkF m 247 #[rS a,rS d,jS qb,dS,jS (qa * (1000 : Int64)),dS,jS (-3),dS,jS ((dd_6.toInt64) - (0 : Int64)),dS,jS ((dd_12.toInt64) - (3 : Int64)),dS,uS] [(.long qb)]) (fun _ k => XS.ifNo X14.here hx rfl (hb hy d17_71_243) rfl ((if0 _ _).trans (feq (fun zq => (own_bdMin (own_bd1000 P4).2 : ¬ ((qa * (1000 : Int64)) = (-9223372036854775808 : Int64))) ((lw_eq (qa * (1000 : Int64)) (-9223372036854775808 : Int64)).mp zq))).1) (XS.lloadN X14.here hx rfl (hb hy d17_71_246) rfl k)) ?_
  refine gon T14 (mkF m 250 #[rS a,rS d,jS qb,dS,jS (qa * (1000 : Int64)),dS,jS (-3),dS,jS ((dd_6.toInt64) - (0 : Int64)),dS,jS ((dd_12.toInt64) - (3 : Int64)),dS,uS] [(.long (-9223372036854775808)), (.long qb)]) (X14.ldc2Long hx hown (mvT hZ (w178 hw)) (g := (mkF m 247 #[rS a,rS d,jS qb,dS,jS (qa * (1000 : Int64)),dS,jS (-3),dS,jS ((dd_6.toInt64) - (0 : Int64)),dS,jS ((dd_12.toInt64) - (3 : Int64)),dS,uS] [(.long qb)])) rfl (hb hy d17_71_247)) ?_
  refine gon T14 (mkF m 251 #[rS a,rS d,jS qb,dS,jS (qa * (1000 : Int64)),dS,jS (-3),dS,jS ((dd_6.toInt64) - (0 : Int64)),dS,jS ((dd_12.toInt64) - (3 : Int64)),dS,uS] [(.int (lcmpW qb (-9223372036854775808 : Int64)))]) (fun _ k => XS.lcmp X14.here hx rfl (hb hy d17_71_250) rfl k) ?_
  refine gon T14 (mkF m 254 #[rS a,rS d,jS qb,dS,jS (qa * (1000 : Int64)),dS,jS (-3),dS,jS ((dd_6.toInt64) - (0 : Int64)),dS,jS ((dd_12.toInt64) - (3 : Int64)),dS,uS] []) (fun _ k => XS.ifNo X14.here hx rfl (hb hy d17_71_251) rfl ((if0 _ _).trans (feq (fun zq => (own_bdMin (own_bd1 P5) : ¬ (qb = (-9223372036854775808 : Int64))) ((lw_eq qb (-9223372036854775808 : Int64)).mp zq))).1) k) ?_
  rw [show (qa * (1000 : Int64)) = qb from Int64.toInt_inj.mp (by rw [(own_bd1000 P4).1, P6]; rfl)]
  refine gon T14 (mkF m 257 #[rS a,rS d,jS qb,dS,jS qb,dS,jS (-3),dS,jS ((dd_6.toInt64) - (0 : Int64)),dS,jS ((dd_12.toInt64) - (3 : Int64)),dS,uS] [(.long qb), (.long qb)]) (fun _ k => XS.lload X14.here hx rfl (hb hy d17_71_254) rfl (XS.lloadN X14.here hx rfl (hb hy d17_71_256) rfl k)) ?_
  obtain ⟨v16, T16, L16, X16, hQ16, st16⟩ := OwnW.callS X14 hx hZ hown (w263 hw) (w264 hw) (w35 hw) (w265 hw) (by decide) (lcm0 l Z a0 hw qb T8.heap n0 Z_15 ) eq14 (Ls := #[rS a, rS d, jS qb, dS, jS qb, dS, jS (-3), dS, jS ((dd_6.toInt64) - (0 : Int64)), dS, jS ((dd_12.toInt64) - (3 : Int64)), dS, uS]) (by rw [hml]; rfl) pd_13 (argsL := [(.long qb), (.long qb)]) rfl (rest := []) rfl (W := 0) rfl (hb hy d17_71_257) (by decide) (by decide) (by decide) (by decide)
  obtain ⟨rfl, Nq16, eq16⟩ := hQ16
  have N16 := Fr.app N14 Nq16
  refine gon T16 (mkF m 260 #[rS a,rS d,jS qb,dS,jS qb,dS,jS (-3),dS,jS ((dd_6.toInt64) - (0 : Int64)),dS,jS ((dd_12.toInt64) - (3 : Int64)),dS,uS] [(.int 0)]) (st16) ?_
  refine gon T16 (mkF m 264 #[rS a,rS d,jS qb,dS,jS qb,dS,jS (-3),dS,jS ((dd_6.toInt64) - (0 : Int64)),dS,jS ((dd_12.toInt64) - (3 : Int64)),dS,uS] [(.int 0)]) (fun _ k => XS.goto X16.here hx rfl (pc0 := 260) (pc' := 264) rfl (hb hy d17_71_260) (by decide) (by decide) k) ?_
  have K_17 : Keep h0 T5.heap [a, d] := (Keep.refl h0 [a, d]).trans Kq5 (allS (Or.inl (List.mem_of_getElem? (i := 0) rfl)) all0)
  have K_18 : Keep h0 T8.heap [a, d] := K_17.trans Kq8 (allS (Or.inl (List.mem_of_getElem? (i := 1) rfl)) all0)
  have c_19 := Fld.keep q5_0 Kq8 (ninS nead nin0)
  exact OwnW.retI X16 hx hlk hret (hb hy d17_71_264) (by decide) (by decide) (show QQ _ T16.heap _ from (by rw [eq16]; exact ⟨rfl, N16, K_18, c_19⟩))
def Q_cmag1 (Z : State) (a : Addr) (d : Addr) (wZ : Addr) (wT : Addr) (wS : Addr) (wP : Addr) (wH : Addr) (kT : ClassId) (kS : ClassId) (kP : ClassId) (kH : ClassId) (zt : Nat → Addr) (zs : Nat → Addr) (qa : Int64) (qb : Int64) (h0 : Heap) (n0 : Nat) (v : Option Value) (h : Heap) (L : List Loc) : Prop := v = some (.int (0 : Int32)) ∧ Fr n0 L ∧ Keep h0 h [a, d] ∧ Fld Z h a "java/math/BigDecimal" "scale" "I" (.int (1 : Int32))
set_option maxRecDepth 65536 in
set_option maxHeartbeats 40000000 in
theorem cmag1 (l : Launch) (Z : State) (a0 : Array Value) (hw : Ht a0 Z) (a : Addr) (d : Addr) (wZ : Addr) (wT : Addr) (wS : Addr) (wP : Addr) (wH : Addr) (kT : ClassId) (kS : ClassId) (kP : ClassId) (kH : ClassId) (zt : Nat → Addr) (zs : Nat → Addr) (qa : Int64) (qb : Int64) (h0 : Heap) (n0 : Nat) (Z0 : n0 ≤ h0.size) (O0 : Old Z n0 h0) (P0 : BigS Z wZ wT wS wP wH kT kS kP kH zt zs) (P1 : BDV Z h0 n0 a qa (1 : Int32)) (P2 : BDV Z h0 n0 d qb (3 : Int32)) (P3 : ¬ (qa = (0 : Int64))) (P4 : Bq qa) (P5 : Bq qb) (P6 : qb.toInt = qa.toInt * ((10 ^ 2 : Nat) : Int)) :
    Con l Z (⟨"java/math/BigDecimal", "compareMagnitude", "(Ljava/math/BigDecimal;)I"⟩ : MethodName) jdk_17_method_71_code 13 (some .int) ({ frames := 4, cells := 0, slots := 0, locals := 59 } : Room) #[(.ref a), (.ref d)] h0 (Q_cmag1 Z a d wZ wT wS wP wH kT kS kP kH zt zs qa qb h0 n0) := by
  refine OwnW.body (Ls := #[rS a, rS d, uS, uS, uS, uS, uS, uS, uS, uS, uS, uS, uS]) (plainFor_of_name pn_5) (fun m => by first | (simp [entryFrame, mkF, argsToLocals, Value.category]; done) | rfl) ?_
  intro p e s m below meth c s₁ hx hy hml hown hnm hret hlk hZ X0 e0
  let QQ := Q_cmag1 Z a d wZ wT wS wP wH kT kS kP kH zt zs qa qb h0 n0
  have N0 := Fr.nil n0
  show Go p e below (s₁.setTop (mkF m 0 #[rS a, rS d, uS, uS, uS, uS, uS, uS, uS, uS, uS, uS, uS] [])) (EndQ s below ({ frames := 4, cells := 0, slots := 0, locals := 59 } : Room).cells ({ frames := 4, cells := 0, slots := 0, locals := 59 } : Room).slots QQ)
  have ⟨bZ, bZv, bT, bTv, bTa, bS, bSv, bSa, bP, bPv, bH, bHv, bA⟩ := P0
  have nead : a ≠ d := Fld.ne P1.2.1 P2.2.1 (by decide)
  have hqb0 : ¬ (qb = (0 : Int64)) := own_mulne P6 (by decide) P3
  refine gon s₁ (mkF m 1 #[rS a,rS d,uS,uS,uS,uS,uS,uS,uS,uS,uS,uS,uS] [(.ref d)]) (fun _ k => XS.aloadN X0.here hx rfl (hb hy d17_71_0) rfl rfl k) ?_
  obtain ⟨T1, X1, e1, st1⟩ := getF X0 hx hZ hown (host := "") (Or.inl (w176 hw)) Via.refl e0 P2.2.2.1 (g := (mkF m 1 #[rS a,rS d,uS,uS,uS,uS,uS,uS,uS,uS,uS,uS,uS] [(.ref d)])) rfl rfl (hb hy d17_71_1)
  refine gon T1 (mkF m 4 #[rS a,rS d,uS,uS,uS,uS,uS,uS,uS,uS,uS,uS,uS] [(.long qb)]) (st1) ?_
  refine gon T1 (mkF m 6 #[rS a,rS d,jS qb,dS,uS,uS,uS,uS,uS,uS,uS,uS,uS] [(.ref a)]) (fun _ k => XS.lstoreN X1.here hx rfl (hb hy d17_71_4) rfl (l' := #[rS a, rS d, jS qb, dS, uS, uS, uS, uS, uS, uS, uS, uS, uS]) rfl (XS.aloadN X1.here hx rfl (hb hy d17_71_5) rfl rfl k)) ?_
  obtain ⟨T2, X2, e2, st2⟩ := getF X1 hx hZ hown (host := "") (Or.inl (w176 hw)) Via.refl e1 P1.2.2.1 (g := (mkF m 6 #[rS a,rS d,jS qb,dS,uS,uS,uS,uS,uS,uS,uS,uS,uS] [(.ref a)])) rfl rfl (hb hy d17_71_6)
  refine gon T2 (mkF m 9 #[rS a,rS d,jS qb,dS,uS,uS,uS,uS,uS,uS,uS,uS,uS] [(.long qa)]) (st2) ?_
  refine gon T2 (mkF m 15 #[rS a,rS d,jS qb,dS,jS qa,dS,uS,uS,uS,uS,uS,uS,uS] [(.int (lcmpW qa (0 : Int64)))]) (fun _ k => XS.lstore X2.here hx rfl (hb hy d17_71_9) rfl (l' := #[rS a, rS d, jS qb, dS, jS qa, dS, uS, uS, uS, uS, uS, uS, uS]) rfl (XS.lload X2.here hx rfl (hb hy d17_71_11) rfl (XS.lconst X2.here hx rfl (hb hy d17_71_13) (XS.lcmp X2.here hx rfl (hb hy d17_71_14) rfl k)))) ?_
  refine gon T2 (mkF m 33 #[rS a,rS d,jS qb,dS,jS qa,dS,uS,uS,uS,uS,uS,uS,uS] [(.int (lcmpW qb (0 : Int64)))]) (fun _ k => XS.ifYes X2.here hx rfl (pc0 := 15) (pc' := 30) rfl (hb hy d17_71_15) rfl ((if0 _ _).trans (feq (fun zq => (P3 : ¬ (qa = (0 : Int64))) ((lw_eq qa (0 : Int64)).mp zq))).2) (by decide) (by decide) (XS.lloadN X2.here hx rfl (hb hy d17_71_30) rfl (XS.lconst X2.here hx rfl (hb hy d17_71_31) (XS.lcmp X2.here hx rfl (hb hy d17_71_32) rfl k)))) ?_
  refine gon T2 (mkF m 39 #[rS a,rS d,jS qb,dS,jS qa,dS,uS,uS,uS,uS,uS,uS,uS] [(.ref a)]) (fun _ k => XS.ifYes X2.here hx rfl (pc0 := 33) (pc' := 38) rfl (hb hy d17_71_33) rfl ((if0 _ _).trans (feq (fun zq => (hqb0 : ¬ (qb = (0 : Int64))) ((lw_eq qb (0 : Int64)).mp zq))).2) (by decide) (by decide) (XS.aloadN X2.here hx rfl (hb hy d17_71_38) rfl rfl k)) ?_
  obtain ⟨T3, X3, e3, st3⟩ := getF X2 hx hZ hown (host := "") (Or.inl (w179 hw)) Via.refl e2 P1.2.1 (g := (mkF m 39 #[rS a,rS d,jS qb,dS,jS qa,dS,uS,uS,uS,uS,uS,uS,uS] [(.ref a)])) rfl rfl (hb hy d17_71_39)
  refine gon T3 (mkF m 42 #[rS a,rS d,jS qb,dS,jS qa,dS,uS,uS,uS,uS,uS,uS,uS] [(.int 1)]) (st3) ?_
  refine gon T3 (mkF m 44 #[rS a,rS d,jS qb,dS,jS qa,dS,uS,uS,uS,uS,uS,uS,uS] [(.ref d), (.long 1)]) (fun _ k => XS.i2l X3.here hx rfl (hb hy d17_71_42) rfl (XS.aloadN X3.here hx rfl (hb hy d17_71_43) rfl rfl k)) ?_
  obtain ⟨T4, X4, e4, st4⟩ := getF X3 hx hZ hown (host := "") (Or.inl (w179 hw)) Via.refl e3 P2.2.1 (g := (mkF m 44 #[rS a,rS d,jS qb,dS,jS qa,dS,uS,uS,uS,uS,uS,uS,uS] [(.ref d), (.long 1)])) rfl rfl (hb hy d17_71_44)
  refine gon T4 (mkF m 47 #[rS a,rS d,jS qb,dS,jS qa,dS,uS,uS,uS,uS,uS,uS,uS] [(.int 3), (.long 1)]) (st4) ?_
  refine gon T4 (mkF m 54 #[rS a,rS d,jS qb,dS,jS qa,dS,jS (-2),dS,uS,uS,uS,uS,uS] [(.long 0), (.long (-2))]) (fun _ k => XS.i2l X4.here hx rfl (hb hy d17_71_47) rfl (XS.lsub X4.here hx rfl (hb hy d17_71_48) rfl (XS.lstore X4.here hx rfl (hb hy d17_71_49) rfl (l' := #[rS a, rS d, jS qb, dS, jS qa, dS, jS (-2), dS, uS, uS, uS, uS, uS]) rfl (XS.lload X4.here hx rfl (hb hy d17_71_51) rfl (XS.lconst X4.here hx rfl (hb hy d17_71_53) k))))) ?_
  refine gon T4 (mkF m 55 #[rS a,rS d,jS qb,dS,jS qa,dS,jS (-2),dS,uS,uS,uS,uS,uS] [(.int (lcmpW (-2 : Int64) (0 : Int64)))]) (fun _ k => XS.lcmp X4.here hx rfl (hb hy d17_71_54) rfl k) ?_
  refine gon T4 (mkF m 59 #[rS a,rS d,jS qb,dS,jS qa,dS,jS (-2),dS,uS,uS,uS,uS,uS] [(.ref a)]) (fun _ k => XS.ifNo X4.here hx rfl (hb hy d17_71_55) rfl ((if0 _ _).trans (feq (fun zq => (by decide : ¬ ((-2 : Int64) = (0 : Int64))) ((lw_eq (-2 : Int64) (0 : Int64)).mp zq))).1) (XS.aloadN X4.here hx rfl (hb hy d17_71_58) rfl rfl k)) ?_
  obtain ⟨v5, T5, L5, X5, hQ5, st5⟩ := OwnW.callV X4 hx hZ hown (w236 hw) (w237 hw) (notFace_of_selects (args := #[]) (mvT hZ (w239 hw))) (w239 hw) (w238 hw) (w35 hw) (w240 hw) (by decide) (b := a) (prec l Z a0 hw a wZ wT wS wP wH kT kS kP kH zt zs qa (1 : Int32) h0 n0 Z0 O0 P0 P1 P3 P4) e4 P1.1 (Ls := #[rS a, rS d, jS qb, dS, jS qa, dS, jS (-2), dS, uS, uS, uS, uS, uS]) (by rw [hml]; rfl) pd_24 (argsL := []) rfl (rest := []) rfl (W := 0) rfl (hb hy d17_71_59) (by decide) (by decide) (by decide) (by decide)
  obtain ⟨dd_6, rfl, Nq5, Kq5, q5_0, q5_1, q5_2, q5_3⟩ := hQ5
  have N5 := Fr.app N0 Nq5
  refine gon T5 (mkF m 62 #[rS a,rS d,jS qb,dS,jS qa,dS,jS (-2),dS,uS,uS,uS,uS,uS] [(.int dd_6)]) (st5) ?_
  refine gon T5 (mkF m 64 #[rS a,rS d,jS qb,dS,jS qa,dS,jS (-2),dS,uS,uS,uS,uS,uS] [(.ref a), (.long (dd_6.toInt64))]) (fun _ k => XS.i2l X5.here hx rfl (hb hy d17_71_62) rfl (XS.aloadN X5.here hx rfl (hb hy d17_71_63) rfl rfl k)) ?_
  obtain ⟨T7, X7, e7, st7⟩ := getF X5 hx hZ hown (host := "") (Or.inl (w179 hw)) Via.refl rfl q5_0 (g := (mkF m 64 #[rS a,rS d,jS qb,dS,jS qa,dS,jS (-2),dS,uS,uS,uS,uS,uS] [(.ref a), (.long (dd_6.toInt64))])) rfl rfl (hb hy d17_71_64)
  refine gon T7 (mkF m 67 #[rS a,rS d,jS qb,dS,jS qa,dS,jS (-2),dS,uS,uS,uS,uS,uS] [(.int 1), (.long (dd_6.toInt64))]) (st7) ?_
  refine gon T7 (mkF m 72 #[rS a,rS d,jS qb,dS,jS qa,dS,jS (-2),dS,jS ((dd_6.toInt64) - (1 : Int64)),dS,uS,uS,uS] [(.ref d)]) (fun _ k => XS.i2l X7.here hx rfl (hb hy d17_71_67) rfl (XS.lsub X7.here hx rfl (hb hy d17_71_68) rfl (XS.lstore X7.here hx rfl (hb hy d17_71_69) rfl (l' := #[rS a, rS d, jS qb, dS, jS qa, dS, jS (-2), dS, jS ((dd_6.toInt64) - (1 : Int64)), dS, uS, uS, uS]) rfl (XS.aloadN X7.here hx rfl (hb hy d17_71_71) rfl rfl k)))) ?_
  have c_9 := Exa.keep P2.1 Kq5
  have c_10 := BDV.keep P2 Kq5 (ninS (Ne.symm nead) nin0)
  have Z_11 : n0 ≤ T5.heap.size := Nat.le_trans Z0 Kq5.1
  obtain ⟨v8, T8, L8, X8, hQ8, st8⟩ := OwnW.callV X7 hx hZ hown (w236 hw) (w237 hw) (notFace_of_selects (args := #[]) (mvT hZ (w239 hw))) (w239 hw) (w238 hw) (w35 hw) (w240 hw) (by decide) (b := d) (prec l Z a0 hw d wZ wT wS wP wH kT kS kP kH zt zs qb (3 : Int32) T5.heap n0 Z_11 q5_3 P0 c_10 hqb0 P5) e7 c_9 (Ls := #[rS a, rS d, jS qb, dS, jS qa, dS, jS (-2), dS, jS ((dd_6.toInt64) - (1 : Int64)), dS, uS, uS, uS]) (by rw [hml]; rfl) pd_24 (argsL := []) rfl (rest := []) rfl (W := 0) rfl (hb hy d17_71_72) (by decide) (by decide) (by decide) (by decide)
  obtain ⟨dd_12, rfl, Nq8, Kq8, q8_0, q8_1, q8_2, q8_3⟩ := hQ8
  have N8 := Fr.app N5 Nq8
  refine gon T8 (mkF m 75 #[rS a,rS d,jS qb,dS,jS qa,dS,jS (-2),dS,jS ((dd_6.toInt64) - (1 : Int64)),dS,uS,uS,uS] [(.int dd_12)]) (st8) ?_
  refine gon T8 (mkF m 77 #[rS a,rS d,jS qb,dS,jS qa,dS,jS (-2),dS,jS ((dd_6.toInt64) - (1 : Int64)),dS,uS,uS,uS] [(.ref d), (.long (dd_12.toInt64))]) (fun _ k => XS.i2l X8.here hx rfl (hb hy d17_71_75) rfl (XS.aloadN X8.here hx rfl (hb hy d17_71_76) rfl rfl k)) ?_
  obtain ⟨T13, X13, e13, st13⟩ := getF X8 hx hZ hown (host := "") (Or.inl (w179 hw)) Via.refl rfl q8_0 (g := (mkF m 77 #[rS a,rS d,jS qb,dS,jS qa,dS,jS (-2),dS,jS ((dd_6.toInt64) - (1 : Int64)),dS,uS,uS,uS] [(.ref d), (.long (dd_12.toInt64))])) rfl rfl (hb hy d17_71_77)
  refine gon T13 (mkF m 80 #[rS a,rS d,jS qb,dS,jS qa,dS,jS (-2),dS,jS ((dd_6.toInt64) - (1 : Int64)),dS,uS,uS,uS] [(.int 3), (.long (dd_12.toInt64))]) (st13) ?_
  refine gon T13 (mkF m 88 #[rS a,rS d,jS qb,dS,jS qa,dS,jS (-2),dS,jS ((dd_6.toInt64) - (1 : Int64)),dS,jS ((dd_12.toInt64) - (3 : Int64)),dS,uS] [(.long ((dd_12.toInt64) - (3 : Int64))), (.long ((dd_6.toInt64) - (1 : Int64)))]) (fun _ k => XS.i2l X13.here hx rfl (hb hy d17_71_80) rfl (XS.lsub X13.here hx rfl (hb hy d17_71_81) rfl (XS.lstore X13.here hx rfl (hb hy d17_71_82) rfl (l' := #[rS a, rS d, jS qb, dS, jS qa, dS, jS (-2), dS, jS ((dd_6.toInt64) - (1 : Int64)), dS, jS ((dd_12.toInt64) - (3 : Int64)), dS, uS]) rfl (XS.lload X13.here hx rfl (hb hy d17_71_84) rfl (XS.lload X13.here hx rfl (hb hy d17_71_86) rfl k))))) ?_
  refine gon T13 (mkF m 89 #[rS a,rS d,jS qb,dS,jS qa,dS,jS (-2),dS,jS ((dd_6.toInt64) - (1 : Int64)),dS,jS ((dd_12.toInt64) - (3 : Int64)),dS,uS] [(.int (lcmpW ((dd_6.toInt64) - (1 : Int64)) ((dd_12.toInt64) - (3 : Int64))))]) (fun _ k => XS.lcmp X13.here hx rfl (hb hy d17_71_88) rfl k) ?_
  refine gon T13 (mkF m 99 #[rS a,rS d,jS qb,dS,jS qa,dS,jS (-2),dS,jS ((dd_6.toInt64) - (1 : Int64)),dS,jS ((dd_12.toInt64) - (3 : Int64)),dS,uS] [(.int (lcmpW ((dd_6.toInt64) - (1 : Int64)) ((dd_12.toInt64) - (3 : Int64))))]) (fun _ k => XS.ifYes X13.here hx rfl (pc0 := 89) (pc' := 94) rfl (hb hy d17_71_89) rfl ((if0 _ _).trans (flt (fun zq => (own_nlt (own_digEq q5_2 q8_2 P6 (by decide) (by decide)) : ¬ (((dd_6.toInt64) - (1 : Int64)) < ((dd_12.toInt64) - (3 : Int64)))) ((lw_lt ((dd_6.toInt64) - (1 : Int64)) ((dd_12.toInt64) - (3 : Int64))).mp zq))).2.1) (by decide) (by decide) (XS.lload X13.here hx rfl (hb hy d17_71_94) rfl (XS.lload X13.here hx rfl (hb hy d17_71_96) rfl (XS.lcmp X13.here hx rfl (hb hy d17_71_98) rfl k)))) ?_
  refine gon T13 (mkF m 108 #[rS a,rS d,jS qb,dS,jS qa,dS,jS (-2),dS,jS ((dd_6.toInt64) - (1 : Int64)),dS,jS ((dd_12.toInt64) - (3 : Int64)),dS,uS] [(.int (lcmpW (-2 : Int64) (0 : Int64)))]) (fun _ k => XS.ifYes X13.here hx rfl (pc0 := 99) (pc' := 104) rfl (hb hy d17_71_99) rfl ((if0 _ _).trans (flt (fun zq => (own_nlt (own_digEq q5_2 q8_2 P6 (by decide) (by decide)).symm : ¬ (((dd_12.toInt64) - (3 : Int64)) < ((dd_6.toInt64) - (1 : Int64)))) ((lw_gt ((dd_6.toInt64) - (1 : Int64)) ((dd_12.toInt64) - (3 : Int64))).mp zq))).2.2.2) (by decide) (by decide) (XS.lload X13.here hx rfl (hb hy d17_71_104) rfl (XS.lconst X13.here hx rfl (hb hy d17_71_106) (XS.lcmp X13.here hx rfl (hb hy d17_71_107) rfl k)))) ?_
  refine gon T13 (mkF m 113 #[rS a,rS d,jS qb,dS,jS qa,dS,jS (-2),dS,jS ((dd_6.toInt64) - (1 : Int64)),dS,jS ((dd_12.toInt64) - (3 : Int64)),dS,uS] [(.long (-2))]) (fun _ k => XS.ifNo X13.here hx rfl (hb hy d17_71_108) rfl ((if0 _ _).trans (tlt ((lw_lt (-2 : Int64) (0 : Int64)).mpr (by decide : (-2 : Int64) < (0 : Int64)))).2.1) (XS.lload X13.here hx rfl (hb hy d17_71_111) rfl k)) ?_
  refine gon T13 (mkF m 116 #[rS a,rS d,jS qb,dS,jS qa,dS,jS (-2),dS,jS ((dd_6.toInt64) - (1 : Int64)),dS,jS ((dd_12.toInt64) - (3 : Int64)),dS,uS] [(.long (-2147483648)), (.long (-2))]) (X13.ldc2Long hx hown (mvT hZ (w255 hw)) (g := (mkF m 113 #[rS a,rS d,jS qb,dS,jS qa,dS,jS (-2),dS,jS ((dd_6.toInt64) - (1 : Int64)),dS,jS ((dd_12.toInt64) - (3 : Int64)),dS,uS] [(.long (-2))])) rfl (hb hy d17_71_113)) ?_
  refine gon T13 (mkF m 117 #[rS a,rS d,jS qb,dS,jS qa,dS,jS (-2),dS,jS ((dd_6.toInt64) - (1 : Int64)),dS,jS ((dd_12.toInt64) - (3 : Int64)),dS,uS] [(.int (lcmpW (-2 : Int64) (-2147483648 : Int64)))]) (fun _ k => XS.lcmp X13.here hx rfl (hb hy d17_71_116) rfl k) ?_
  refine gon T13 (mkF m 122 #[rS a,rS d,jS qb,dS,jS qa,dS,jS (-2),dS,jS ((dd_6.toInt64) - (1 : Int64)),dS,jS ((dd_12.toInt64) - (3 : Int64)),dS,uS] [(.long qa)]) (fun _ k => XS.ifNo X13.here hx rfl (hb hy d17_71_117) rfl ((if0 _ _).trans (tlt ((lw_gt (-2 : Int64) (-2147483648 : Int64)).mpr (by decide : (-2147483648 : Int64) < (-2 : Int64)))).2.2.2) (XS.lload X13.here hx rfl (hb hy d17_71_120) rfl k)) ?_
  refine gon T13 (mkF m 125 #[rS a,rS d,jS qb,dS,jS qa,dS,jS (-2),dS,jS ((dd_6.toInt64) - (1 : Int64)),dS,jS ((dd_12.toInt64) - (3 : Int64)),dS,uS] [(.long (-9223372036854775808)), (.long qa)]) (X13.ldc2Long hx hown (mvT hZ (w178 hw)) (g := (mkF m 122 #[rS a,rS d,jS qb,dS,jS qa,dS,jS (-2),dS,jS ((dd_6.toInt64) - (1 : Int64)),dS,jS ((dd_12.toInt64) - (3 : Int64)),dS,uS] [(.long qa)])) rfl (hb hy d17_71_122)) ?_
  refine gon T13 (mkF m 126 #[rS a,rS d,jS qb,dS,jS qa,dS,jS (-2),dS,jS ((dd_6.toInt64) - (1 : Int64)),dS,jS ((dd_12.toInt64) - (3 : Int64)),dS,uS] [(.int (lcmpW qa (-9223372036854775808 : Int64)))]) (fun _ k => XS.lcmp X13.here hx rfl (hb hy d17_71_125) rfl k) ?_
  refine gon T13 (mkF m 135 #[rS a,rS d,jS qb,dS,jS qa,dS,jS (-2),dS,jS ((dd_6.toInt64) - (1 : Int64)),dS,jS ((dd_12.toInt64) - (3 : Int64)),dS,uS] [(.int 2), (.long qa)]) (fun _ k => XS.ifNo X13.here hx rfl (hb hy d17_71_126) rfl ((if0 _ _).trans (feq (fun zq => (own_bdMin (own_bd1 P4) : ¬ (qa = (-9223372036854775808 : Int64))) ((lw_eq qa (-9223372036854775808 : Int64)).mp zq))).1) (XS.lload X13.here hx rfl (hb hy d17_71_129) rfl (XS.lload X13.here hx rfl (hb hy d17_71_131) rfl (XS.lneg X13.here hx rfl (hb hy d17_71_133) rfl (XS.l2i X13.here hx rfl (hb hy d17_71_134) rfl k))))) ?_
  have Z_15 : n0 ≤ T8.heap.size := Nat.le_trans Z_11 Kq8.1
  obtain ⟨v14, T14, L14, X14, hQ14, st14⟩ := OwnW.callS X13 hx hZ hown (w256 hw) (w257 hw) (w35 hw) (w258 hw) (by decide) (lmp2 l Z a0 hw qa wZ wT wS wP wH kT kS kP kH zt zs T8.heap n0 Z_15 q8_3 P0 P4) e13 (Ls := #[rS a, rS d, jS qb, dS, jS qa, dS, jS (-2), dS, jS ((dd_6.toInt64) - (1 : Int64)), dS, jS ((dd_12.toInt64) - (3 : Int64)), dS, uS]) (by rw [hml]; rfl) pd_14 (argsL := [(.long qa), (.int (2 : Int32))]) rfl (rest := []) rfl (W := 0) rfl (hb hy d17_71_135) (by decide) (by decide) (by decide) (by decide)
  obtain ⟨rfl, Nq14, eq14⟩ := hQ14
  have N14 := Fr.app N8 Nq14
  refine gon T14 (mkF m 138 #[rS a,rS d,jS qb,dS,jS qa,dS,jS (-2),dS,jS ((dd_6.toInt64) - (1 : Int64)),dS,jS ((dd_12.toInt64) - (3 : Int64)),dS,uS] [(.long (qa * (100 : Int64)))]) (st14) ?_
  refine gon T14 (mkF m 141 #[rS a,rS d,jS qb,dS,jS (qa * (100 : Int64)),dS,jS (-2),dS,jS ((dd_6.toInt64) - (1 : Int64)),dS,jS ((dd_12.toInt64) - (3 : Int64)),dS,uS] [(.long (qa * (100 : Int64)))]) (fun _ k => Jvm.Free.XT.dup2L X14.here hx rfl (hb hy d17_71_138) rfl (XS.lstore X14.here hx rfl (hb hy d17_71_139) rfl (l' := #[rS a, rS d, jS qb, dS, jS (qa * (100 : Int64)), dS, jS (-2), dS, jS ((dd_6.toInt64) - (1 : Int64)), dS, jS ((dd_12.toInt64) - (3 : Int64)), dS, uS]) rfl k)) ?_
  refine gon T14 (mkF m 144 #[rS a,rS d,jS qb,dS,jS (qa * (100 : Int64)),dS,jS (-2),dS,jS ((dd_6.toInt64) - (1 : Int64)),dS,jS ((dd_12.toInt64) - (3 : Int64)),dS,uS] [(.long (-9223372036854775808)), (.long (qa * (100 : Int64)))]) (X14.ldc2Long hx hown (mvT hZ (w178 hw)) (g := (mkF m 141 #[rS a,rS d,jS qb,dS,jS (qa * (100 : Int64)),dS,jS (-2),dS,jS ((dd_6.toInt64) - (1 : Int64)),dS,jS ((dd_12.toInt64) - (3 : Int64)),dS,uS] [(.long (qa * (100 : Int64)))])) rfl (hb hy d17_71_141)) ?_
  refine gon T14 (mkF m 145 #[rS a,rS d,jS qb,dS,jS (qa * (100 : Int64)),dS,jS (-2),dS,jS ((dd_6.toInt64) - (1 : Int64)),dS,jS ((dd_12.toInt64) - (3 : Int64)),dS,uS] [(.int (lcmpW (qa * (100 : Int64)) (-9223372036854775808 : Int64)))]) (fun _ k => XS.lcmp X14.here hx rfl (hb hy d17_71_144) rfl k) ?_
  refine gon T14 (mkF m 239 #[rS a,rS d,jS qb,dS,jS (qa * (100 : Int64)),dS,jS (-2),dS,jS ((dd_6.toInt64) - (1 : Int64)),dS,jS ((dd_12.toInt64) - (3 : Int64)),dS,uS] [(.long (qa * (100 : Int64)))]) (fun _ k => XS.ifYes X14.here hx rfl (pc0 := 145) (pc' := 237) rfl (hb hy d17_71_145) rfl ((if0 _ _).trans (feq (fun zq => (own_bdMin (own_bd100 P4).2 : ¬ ((qa * (100 : Int64)) = (-9223372036854775808 : Int64))) ((lw_eq (qa * (100 : Int64)) (-9223372036854775808 : Int64)).mp zq))).2) (by decide) (by decide) (XS.lload X14.here hx rfl (hb hy d17_71_237) rfl k)) ?_
  refine gon T14 (mkF m 242 #[rS a,rS d,jS qb,dS,jS (qa * (100 : Int64)),dS,jS (-2),dS,jS ((dd_6.toInt64) - (1 : Int64)),dS,jS ((dd_12.toInt64) - (3 : Int64)),dS,uS] [(.long (-9223372036854775808)), (.long (qa * (100 : Int64)))]) (X14.ldc2Long hx hown (mvT hZ (w178 hw)) (g := (mkF m 239 #[rS a,rS d,jS qb,dS,jS (qa * (100 : Int64)),dS,jS (-2),dS,jS ((dd_6.toInt64) - (1 : Int64)),dS,jS ((dd_12.toInt64) - (3 : Int64)),dS,uS] [(.long (qa * (100 : Int64)))])) rfl (hb hy d17_71_239)) ?_
  refine gon T14 (mkF m 243 #[rS a,rS d,jS qb,dS,jS (qa * (100 : Int64)),dS,jS (-2),dS,jS ((dd_6.toInt64) - (1 : Int64)),dS,jS ((dd_12.toInt64) - (3 : Int64)),dS,uS] [(.int (lcmpW (qa * (100 : Int64)) (-9223372036854775808 : Int64)))]) (fun _ k => XS.lcmp X14.here hx rfl (hb hy d17_71_242) rfl k) ?_
  refine gon T14 (mkF m 247 #[rS a,rS d,jS qb,dS,jS (qa * (100 : Int64)),dS,jS (-2),dS,jS ((dd_6.toInt64) - (1 : Int64)),dS,jS ((dd_12.toInt64) - (3 : Int64)),dS,uS] [(.long qb)]) (fun _ k => XS.ifNo X14.here hx rfl (hb hy d17_71_243) rfl ((if0 _ _).trans (feq (fun zq => (own_bdMin (own_bd100 P4).2 : ¬ ((qa * (100 : Int64)) = (-9223372036854775808 : Int64))) ((lw_eq (qa * (100 : Int64)) (-9223372036854775808 : Int64)).mp zq))).1) (XS.lloadN X14.here hx rfl (hb hy d17_71_246) rfl k)) ?_
  refine gon T14 (mkF m 250 #[rS a,rS d,jS qb,dS,jS (qa * (100 : Int64)),dS,jS (-2),dS,jS ((dd_6.toInt64) - (1 : Int64)),dS,jS ((dd_12.toInt64) - (3 : Int64)),dS,uS] [(.long (-9223372036854775808)), (.long qb)]) (X14.ldc2Long hx hown (mvT hZ (w178 hw)) (g := (mkF m 247 #[rS a,rS d,jS qb,dS,jS (qa * (100 : Int64)),dS,jS (-2),dS,jS ((dd_6.toInt64) - (1 : Int64)),dS,jS ((dd_12.toInt64) - (3 : Int64)),dS,uS] [(.long qb)])) rfl (hb hy d17_71_247)) ?_
  refine gon T14 (mkF m 251 #[rS a,rS d,jS qb,dS,jS (qa * (100 : Int64)),dS,jS (-2),dS,jS ((dd_6.toInt64) - (1 : Int64)),dS,jS ((dd_12.toInt64) - (3 : Int64)),dS,uS] [(.int (lcmpW qb (-9223372036854775808 : Int64)))]) (fun _ k => XS.lcmp X14.here hx rfl (hb hy d17_71_250) rfl k) ?_
  refine gon T14 (mkF m 254 #[rS a,rS d,jS qb,dS,jS (qa * (100 : Int64)),dS,jS (-2),dS,jS ((dd_6.toInt64) - (1 : Int64)),dS,jS ((dd_12.toInt64) - (3 : Int64)),dS,uS] []) (fun _ k => XS.ifNo X14.here hx rfl (hb hy d17_71_251) rfl ((if0 _ _).trans (feq (fun zq => (own_bdMin (own_bd1 P5) : ¬ (qb = (-9223372036854775808 : Int64))) ((lw_eq qb (-9223372036854775808 : Int64)).mp zq))).1) k) ?_
  rw [show (qa * (100 : Int64)) = qb from Int64.toInt_inj.mp (by rw [(own_bd100 P4).1, P6]; rfl)]
  refine gon T14 (mkF m 257 #[rS a,rS d,jS qb,dS,jS qb,dS,jS (-2),dS,jS ((dd_6.toInt64) - (1 : Int64)),dS,jS ((dd_12.toInt64) - (3 : Int64)),dS,uS] [(.long qb), (.long qb)]) (fun _ k => XS.lload X14.here hx rfl (hb hy d17_71_254) rfl (XS.lloadN X14.here hx rfl (hb hy d17_71_256) rfl k)) ?_
  obtain ⟨v16, T16, L16, X16, hQ16, st16⟩ := OwnW.callS X14 hx hZ hown (w263 hw) (w264 hw) (w35 hw) (w265 hw) (by decide) (lcm0 l Z a0 hw qb T8.heap n0 Z_15 ) eq14 (Ls := #[rS a, rS d, jS qb, dS, jS qb, dS, jS (-2), dS, jS ((dd_6.toInt64) - (1 : Int64)), dS, jS ((dd_12.toInt64) - (3 : Int64)), dS, uS]) (by rw [hml]; rfl) pd_13 (argsL := [(.long qb), (.long qb)]) rfl (rest := []) rfl (W := 0) rfl (hb hy d17_71_257) (by decide) (by decide) (by decide) (by decide)
  obtain ⟨rfl, Nq16, eq16⟩ := hQ16
  have N16 := Fr.app N14 Nq16
  refine gon T16 (mkF m 260 #[rS a,rS d,jS qb,dS,jS qb,dS,jS (-2),dS,jS ((dd_6.toInt64) - (1 : Int64)),dS,jS ((dd_12.toInt64) - (3 : Int64)),dS,uS] [(.int 0)]) (st16) ?_
  refine gon T16 (mkF m 264 #[rS a,rS d,jS qb,dS,jS qb,dS,jS (-2),dS,jS ((dd_6.toInt64) - (1 : Int64)),dS,jS ((dd_12.toInt64) - (3 : Int64)),dS,uS] [(.int 0)]) (fun _ k => XS.goto X16.here hx rfl (pc0 := 260) (pc' := 264) rfl (hb hy d17_71_260) (by decide) (by decide) k) ?_
  have K_17 : Keep h0 T5.heap [a, d] := (Keep.refl h0 [a, d]).trans Kq5 (allS (Or.inl (List.mem_of_getElem? (i := 0) rfl)) all0)
  have K_18 : Keep h0 T8.heap [a, d] := K_17.trans Kq8 (allS (Or.inl (List.mem_of_getElem? (i := 1) rfl)) all0)
  have c_19 := Fld.keep q5_0 Kq8 (ninS nead nin0)
  exact OwnW.retI X16 hx hlk hret (hb hy d17_71_264) (by decide) (by decide) (show QQ _ T16.heap _ from (by rw [eq16]; exact ⟨rfl, N16, K_18, c_19⟩))
def Q_cmag2 (Z : State) (a : Addr) (d : Addr) (wZ : Addr) (wT : Addr) (wS : Addr) (wP : Addr) (wH : Addr) (kT : ClassId) (kS : ClassId) (kP : ClassId) (kH : ClassId) (zt : Nat → Addr) (zs : Nat → Addr) (qa : Int64) (qb : Int64) (h0 : Heap) (n0 : Nat) (v : Option Value) (h : Heap) (L : List Loc) : Prop := v = some (.int (0 : Int32)) ∧ Fr n0 L ∧ Keep h0 h [a, d] ∧ Fld Z h a "java/math/BigDecimal" "scale" "I" (.int (2 : Int32))
set_option maxRecDepth 65536 in
set_option maxHeartbeats 40000000 in
theorem cmag2 (l : Launch) (Z : State) (a0 : Array Value) (hw : Ht a0 Z) (a : Addr) (d : Addr) (wZ : Addr) (wT : Addr) (wS : Addr) (wP : Addr) (wH : Addr) (kT : ClassId) (kS : ClassId) (kP : ClassId) (kH : ClassId) (zt : Nat → Addr) (zs : Nat → Addr) (qa : Int64) (qb : Int64) (h0 : Heap) (n0 : Nat) (Z0 : n0 ≤ h0.size) (O0 : Old Z n0 h0) (P0 : BigS Z wZ wT wS wP wH kT kS kP kH zt zs) (P1 : BDV Z h0 n0 a qa (2 : Int32)) (P2 : BDV Z h0 n0 d qb (3 : Int32)) (P3 : ¬ (qa = (0 : Int64))) (P4 : Bq qa) (P5 : Bq qb) (P6 : qb.toInt = qa.toInt * ((10 ^ 1 : Nat) : Int)) :
    Con l Z (⟨"java/math/BigDecimal", "compareMagnitude", "(Ljava/math/BigDecimal;)I"⟩ : MethodName) jdk_17_method_71_code 13 (some .int) ({ frames := 4, cells := 0, slots := 0, locals := 59 } : Room) #[(.ref a), (.ref d)] h0 (Q_cmag2 Z a d wZ wT wS wP wH kT kS kP kH zt zs qa qb h0 n0) := by
  refine OwnW.body (Ls := #[rS a, rS d, uS, uS, uS, uS, uS, uS, uS, uS, uS, uS, uS]) (plainFor_of_name pn_5) (fun m => by first | (simp [entryFrame, mkF, argsToLocals, Value.category]; done) | rfl) ?_
  intro p e s m below meth c s₁ hx hy hml hown hnm hret hlk hZ X0 e0
  let QQ := Q_cmag2 Z a d wZ wT wS wP wH kT kS kP kH zt zs qa qb h0 n0
  have N0 := Fr.nil n0
  show Go p e below (s₁.setTop (mkF m 0 #[rS a, rS d, uS, uS, uS, uS, uS, uS, uS, uS, uS, uS, uS] [])) (EndQ s below ({ frames := 4, cells := 0, slots := 0, locals := 59 } : Room).cells ({ frames := 4, cells := 0, slots := 0, locals := 59 } : Room).slots QQ)
  have ⟨bZ, bZv, bT, bTv, bTa, bS, bSv, bSa, bP, bPv, bH, bHv, bA⟩ := P0
  have nead : a ≠ d := Fld.ne P1.2.1 P2.2.1 (by decide)
  have hqb0 : ¬ (qb = (0 : Int64)) := own_mulne P6 (by decide) P3
  refine gon s₁ (mkF m 1 #[rS a,rS d,uS,uS,uS,uS,uS,uS,uS,uS,uS,uS,uS] [(.ref d)]) (fun _ k => XS.aloadN X0.here hx rfl (hb hy d17_71_0) rfl rfl k) ?_
  obtain ⟨T1, X1, e1, st1⟩ := getF X0 hx hZ hown (host := "") (Or.inl (w176 hw)) Via.refl e0 P2.2.2.1 (g := (mkF m 1 #[rS a,rS d,uS,uS,uS,uS,uS,uS,uS,uS,uS,uS,uS] [(.ref d)])) rfl rfl (hb hy d17_71_1)
  refine gon T1 (mkF m 4 #[rS a,rS d,uS,uS,uS,uS,uS,uS,uS,uS,uS,uS,uS] [(.long qb)]) (st1) ?_
  refine gon T1 (mkF m 6 #[rS a,rS d,jS qb,dS,uS,uS,uS,uS,uS,uS,uS,uS,uS] [(.ref a)]) (fun _ k => XS.lstoreN X1.here hx rfl (hb hy d17_71_4) rfl (l' := #[rS a, rS d, jS qb, dS, uS, uS, uS, uS, uS, uS, uS, uS, uS]) rfl (XS.aloadN X1.here hx rfl (hb hy d17_71_5) rfl rfl k)) ?_
  obtain ⟨T2, X2, e2, st2⟩ := getF X1 hx hZ hown (host := "") (Or.inl (w176 hw)) Via.refl e1 P1.2.2.1 (g := (mkF m 6 #[rS a,rS d,jS qb,dS,uS,uS,uS,uS,uS,uS,uS,uS,uS] [(.ref a)])) rfl rfl (hb hy d17_71_6)
  refine gon T2 (mkF m 9 #[rS a,rS d,jS qb,dS,uS,uS,uS,uS,uS,uS,uS,uS,uS] [(.long qa)]) (st2) ?_
  refine gon T2 (mkF m 15 #[rS a,rS d,jS qb,dS,jS qa,dS,uS,uS,uS,uS,uS,uS,uS] [(.int (lcmpW qa (0 : Int64)))]) (fun _ k => XS.lstore X2.here hx rfl (hb hy d17_71_9) rfl (l' := #[rS a, rS d, jS qb, dS, jS qa, dS, uS, uS, uS, uS, uS, uS, uS]) rfl (XS.lload X2.here hx rfl (hb hy d17_71_11) rfl (XS.lconst X2.here hx rfl (hb hy d17_71_13) (XS.lcmp X2.here hx rfl (hb hy d17_71_14) rfl k)))) ?_
  refine gon T2 (mkF m 33 #[rS a,rS d,jS qb,dS,jS qa,dS,uS,uS,uS,uS,uS,uS,uS] [(.int (lcmpW qb (0 : Int64)))]) (fun _ k => XS.ifYes X2.here hx rfl (pc0 := 15) (pc' := 30) rfl (hb hy d17_71_15) rfl ((if0 _ _).trans (feq (fun zq => (P3 : ¬ (qa = (0 : Int64))) ((lw_eq qa (0 : Int64)).mp zq))).2) (by decide) (by decide) (XS.lloadN X2.here hx rfl (hb hy d17_71_30) rfl (XS.lconst X2.here hx rfl (hb hy d17_71_31) (XS.lcmp X2.here hx rfl (hb hy d17_71_32) rfl k)))) ?_
  refine gon T2 (mkF m 39 #[rS a,rS d,jS qb,dS,jS qa,dS,uS,uS,uS,uS,uS,uS,uS] [(.ref a)]) (fun _ k => XS.ifYes X2.here hx rfl (pc0 := 33) (pc' := 38) rfl (hb hy d17_71_33) rfl ((if0 _ _).trans (feq (fun zq => (hqb0 : ¬ (qb = (0 : Int64))) ((lw_eq qb (0 : Int64)).mp zq))).2) (by decide) (by decide) (XS.aloadN X2.here hx rfl (hb hy d17_71_38) rfl rfl k)) ?_
  obtain ⟨T3, X3, e3, st3⟩ := getF X2 hx hZ hown (host := "") (Or.inl (w179 hw)) Via.refl e2 P1.2.1 (g := (mkF m 39 #[rS a,rS d,jS qb,dS,jS qa,dS,uS,uS,uS,uS,uS,uS,uS] [(.ref a)])) rfl rfl (hb hy d17_71_39)
  refine gon T3 (mkF m 42 #[rS a,rS d,jS qb,dS,jS qa,dS,uS,uS,uS,uS,uS,uS,uS] [(.int 2)]) (st3) ?_
  refine gon T3 (mkF m 44 #[rS a,rS d,jS qb,dS,jS qa,dS,uS,uS,uS,uS,uS,uS,uS] [(.ref d), (.long 2)]) (fun _ k => XS.i2l X3.here hx rfl (hb hy d17_71_42) rfl (XS.aloadN X3.here hx rfl (hb hy d17_71_43) rfl rfl k)) ?_
  obtain ⟨T4, X4, e4, st4⟩ := getF X3 hx hZ hown (host := "") (Or.inl (w179 hw)) Via.refl e3 P2.2.1 (g := (mkF m 44 #[rS a,rS d,jS qb,dS,jS qa,dS,uS,uS,uS,uS,uS,uS,uS] [(.ref d), (.long 2)])) rfl rfl (hb hy d17_71_44)
  refine gon T4 (mkF m 47 #[rS a,rS d,jS qb,dS,jS qa,dS,uS,uS,uS,uS,uS,uS,uS] [(.int 3), (.long 2)]) (st4) ?_
  refine gon T4 (mkF m 54 #[rS a,rS d,jS qb,dS,jS qa,dS,jS (-1),dS,uS,uS,uS,uS,uS] [(.long 0), (.long (-1))]) (fun _ k => XS.i2l X4.here hx rfl (hb hy d17_71_47) rfl (XS.lsub X4.here hx rfl (hb hy d17_71_48) rfl (XS.lstore X4.here hx rfl (hb hy d17_71_49) rfl (l' := #[rS a, rS d, jS qb, dS, jS qa, dS, jS (-1), dS, uS, uS, uS, uS, uS]) rfl (XS.lload X4.here hx rfl (hb hy d17_71_51) rfl (XS.lconst X4.here hx rfl (hb hy d17_71_53) k))))) ?_
  refine gon T4 (mkF m 55 #[rS a,rS d,jS qb,dS,jS qa,dS,jS (-1),dS,uS,uS,uS,uS,uS] [(.int (lcmpW (-1 : Int64) (0 : Int64)))]) (fun _ k => XS.lcmp X4.here hx rfl (hb hy d17_71_54) rfl k) ?_
  refine gon T4 (mkF m 59 #[rS a,rS d,jS qb,dS,jS qa,dS,jS (-1),dS,uS,uS,uS,uS,uS] [(.ref a)]) (fun _ k => XS.ifNo X4.here hx rfl (hb hy d17_71_55) rfl ((if0 _ _).trans (feq (fun zq => (by decide : ¬ ((-1 : Int64) = (0 : Int64))) ((lw_eq (-1 : Int64) (0 : Int64)).mp zq))).1) (XS.aloadN X4.here hx rfl (hb hy d17_71_58) rfl rfl k)) ?_
  obtain ⟨v5, T5, L5, X5, hQ5, st5⟩ := OwnW.callV X4 hx hZ hown (w236 hw) (w237 hw) (notFace_of_selects (args := #[]) (mvT hZ (w239 hw))) (w239 hw) (w238 hw) (w35 hw) (w240 hw) (by decide) (b := a) (prec l Z a0 hw a wZ wT wS wP wH kT kS kP kH zt zs qa (2 : Int32) h0 n0 Z0 O0 P0 P1 P3 P4) e4 P1.1 (Ls := #[rS a, rS d, jS qb, dS, jS qa, dS, jS (-1), dS, uS, uS, uS, uS, uS]) (by rw [hml]; rfl) pd_24 (argsL := []) rfl (rest := []) rfl (W := 0) rfl (hb hy d17_71_59) (by decide) (by decide) (by decide) (by decide)
  obtain ⟨dd_6, rfl, Nq5, Kq5, q5_0, q5_1, q5_2, q5_3⟩ := hQ5
  have N5 := Fr.app N0 Nq5
  refine gon T5 (mkF m 62 #[rS a,rS d,jS qb,dS,jS qa,dS,jS (-1),dS,uS,uS,uS,uS,uS] [(.int dd_6)]) (st5) ?_
  refine gon T5 (mkF m 64 #[rS a,rS d,jS qb,dS,jS qa,dS,jS (-1),dS,uS,uS,uS,uS,uS] [(.ref a), (.long (dd_6.toInt64))]) (fun _ k => XS.i2l X5.here hx rfl (hb hy d17_71_62) rfl (XS.aloadN X5.here hx rfl (hb hy d17_71_63) rfl rfl k)) ?_
  obtain ⟨T7, X7, e7, st7⟩ := getF X5 hx hZ hown (host := "") (Or.inl (w179 hw)) Via.refl rfl q5_0 (g := (mkF m 64 #[rS a,rS d,jS qb,dS,jS qa,dS,jS (-1),dS,uS,uS,uS,uS,uS] [(.ref a), (.long (dd_6.toInt64))])) rfl rfl (hb hy d17_71_64)
  refine gon T7 (mkF m 67 #[rS a,rS d,jS qb,dS,jS qa,dS,jS (-1),dS,uS,uS,uS,uS,uS] [(.int 2), (.long (dd_6.toInt64))]) (st7) ?_
  refine gon T7 (mkF m 72 #[rS a,rS d,jS qb,dS,jS qa,dS,jS (-1),dS,jS ((dd_6.toInt64) - (2 : Int64)),dS,uS,uS,uS] [(.ref d)]) (fun _ k => XS.i2l X7.here hx rfl (hb hy d17_71_67) rfl (XS.lsub X7.here hx rfl (hb hy d17_71_68) rfl (XS.lstore X7.here hx rfl (hb hy d17_71_69) rfl (l' := #[rS a, rS d, jS qb, dS, jS qa, dS, jS (-1), dS, jS ((dd_6.toInt64) - (2 : Int64)), dS, uS, uS, uS]) rfl (XS.aloadN X7.here hx rfl (hb hy d17_71_71) rfl rfl k)))) ?_
  have c_9 := Exa.keep P2.1 Kq5
  have c_10 := BDV.keep P2 Kq5 (ninS (Ne.symm nead) nin0)
  have Z_11 : n0 ≤ T5.heap.size := Nat.le_trans Z0 Kq5.1
  obtain ⟨v8, T8, L8, X8, hQ8, st8⟩ := OwnW.callV X7 hx hZ hown (w236 hw) (w237 hw) (notFace_of_selects (args := #[]) (mvT hZ (w239 hw))) (w239 hw) (w238 hw) (w35 hw) (w240 hw) (by decide) (b := d) (prec l Z a0 hw d wZ wT wS wP wH kT kS kP kH zt zs qb (3 : Int32) T5.heap n0 Z_11 q5_3 P0 c_10 hqb0 P5) e7 c_9 (Ls := #[rS a, rS d, jS qb, dS, jS qa, dS, jS (-1), dS, jS ((dd_6.toInt64) - (2 : Int64)), dS, uS, uS, uS]) (by rw [hml]; rfl) pd_24 (argsL := []) rfl (rest := []) rfl (W := 0) rfl (hb hy d17_71_72) (by decide) (by decide) (by decide) (by decide)
  obtain ⟨dd_12, rfl, Nq8, Kq8, q8_0, q8_1, q8_2, q8_3⟩ := hQ8
  have N8 := Fr.app N5 Nq8
  refine gon T8 (mkF m 75 #[rS a,rS d,jS qb,dS,jS qa,dS,jS (-1),dS,jS ((dd_6.toInt64) - (2 : Int64)),dS,uS,uS,uS] [(.int dd_12)]) (st8) ?_
  refine gon T8 (mkF m 77 #[rS a,rS d,jS qb,dS,jS qa,dS,jS (-1),dS,jS ((dd_6.toInt64) - (2 : Int64)),dS,uS,uS,uS] [(.ref d), (.long (dd_12.toInt64))]) (fun _ k => XS.i2l X8.here hx rfl (hb hy d17_71_75) rfl (XS.aloadN X8.here hx rfl (hb hy d17_71_76) rfl rfl k)) ?_
  obtain ⟨T13, X13, e13, st13⟩ := getF X8 hx hZ hown (host := "") (Or.inl (w179 hw)) Via.refl rfl q8_0 (g := (mkF m 77 #[rS a,rS d,jS qb,dS,jS qa,dS,jS (-1),dS,jS ((dd_6.toInt64) - (2 : Int64)),dS,uS,uS,uS] [(.ref d), (.long (dd_12.toInt64))])) rfl rfl (hb hy d17_71_77)
  refine gon T13 (mkF m 80 #[rS a,rS d,jS qb,dS,jS qa,dS,jS (-1),dS,jS ((dd_6.toInt64) - (2 : Int64)),dS,uS,uS,uS] [(.int 3), (.long (dd_12.toInt64))]) (st13) ?_
  refine gon T13 (mkF m 88 #[rS a,rS d,jS qb,dS,jS qa,dS,jS (-1),dS,jS ((dd_6.toInt64) - (2 : Int64)),dS,jS ((dd_12.toInt64) - (3 : Int64)),dS,uS] [(.long ((dd_12.toInt64) - (3 : Int64))), (.long ((dd_6.toInt64) - (2 : Int64)))]) (fun _ k => XS.i2l X13.here hx rfl (hb hy d17_71_80) rfl (XS.lsub X13.here hx rfl (hb hy d17_71_81) rfl (XS.lstore X13.here hx rfl (hb hy d17_71_82) rfl (l' := #[rS a, rS d, jS qb, dS, jS qa, dS, jS (-1), dS, jS ((dd_6.toInt64) - (2 : Int64)), dS, jS ((dd_12.toInt64) - (3 : Int64)), dS, uS]) rfl (XS.lload X13.here hx rfl (hb hy d17_71_84) rfl (XS.lload X13.here hx rfl (hb hy d17_71_86) rfl k))))) ?_
  refine gon T13 (mkF m 89 #[rS a,rS d,jS qb,dS,jS qa,dS,jS (-1),dS,jS ((dd_6.toInt64) - (2 : Int64)),dS,jS ((dd_12.toInt64) - (3 : Int64)),dS,uS] [(.int (lcmpW ((dd_6.toInt64) - (2 : Int64)) ((dd_12.toInt64) - (3 : Int64))))]) (fun _ k => XS.lcmp X13.here hx rfl (hb hy d17_71_88) rfl k) ?_
  refine gon T13 (mkF m 99 #[rS a,rS d,jS qb,dS,jS qa,dS,jS (-1),dS,jS ((dd_6.toInt64) - (2 : Int64)),dS,jS ((dd_12.toInt64) - (3 : Int64)),dS,uS] [(.int (lcmpW ((dd_6.toInt64) - (2 : Int64)) ((dd_12.toInt64) - (3 : Int64))))]) (fun _ k => XS.ifYes X13.here hx rfl (pc0 := 89) (pc' := 94) rfl (hb hy d17_71_89) rfl ((if0 _ _).trans (flt (fun zq => (own_nlt (own_digEq q5_2 q8_2 P6 (by decide) (by decide)) : ¬ (((dd_6.toInt64) - (2 : Int64)) < ((dd_12.toInt64) - (3 : Int64)))) ((lw_lt ((dd_6.toInt64) - (2 : Int64)) ((dd_12.toInt64) - (3 : Int64))).mp zq))).2.1) (by decide) (by decide) (XS.lload X13.here hx rfl (hb hy d17_71_94) rfl (XS.lload X13.here hx rfl (hb hy d17_71_96) rfl (XS.lcmp X13.here hx rfl (hb hy d17_71_98) rfl k)))) ?_
  refine gon T13 (mkF m 108 #[rS a,rS d,jS qb,dS,jS qa,dS,jS (-1),dS,jS ((dd_6.toInt64) - (2 : Int64)),dS,jS ((dd_12.toInt64) - (3 : Int64)),dS,uS] [(.int (lcmpW (-1 : Int64) (0 : Int64)))]) (fun _ k => XS.ifYes X13.here hx rfl (pc0 := 99) (pc' := 104) rfl (hb hy d17_71_99) rfl ((if0 _ _).trans (flt (fun zq => (own_nlt (own_digEq q5_2 q8_2 P6 (by decide) (by decide)).symm : ¬ (((dd_12.toInt64) - (3 : Int64)) < ((dd_6.toInt64) - (2 : Int64)))) ((lw_gt ((dd_6.toInt64) - (2 : Int64)) ((dd_12.toInt64) - (3 : Int64))).mp zq))).2.2.2) (by decide) (by decide) (XS.lload X13.here hx rfl (hb hy d17_71_104) rfl (XS.lconst X13.here hx rfl (hb hy d17_71_106) (XS.lcmp X13.here hx rfl (hb hy d17_71_107) rfl k)))) ?_
  refine gon T13 (mkF m 113 #[rS a,rS d,jS qb,dS,jS qa,dS,jS (-1),dS,jS ((dd_6.toInt64) - (2 : Int64)),dS,jS ((dd_12.toInt64) - (3 : Int64)),dS,uS] [(.long (-1))]) (fun _ k => XS.ifNo X13.here hx rfl (hb hy d17_71_108) rfl ((if0 _ _).trans (tlt ((lw_lt (-1 : Int64) (0 : Int64)).mpr (by decide : (-1 : Int64) < (0 : Int64)))).2.1) (XS.lload X13.here hx rfl (hb hy d17_71_111) rfl k)) ?_
  refine gon T13 (mkF m 116 #[rS a,rS d,jS qb,dS,jS qa,dS,jS (-1),dS,jS ((dd_6.toInt64) - (2 : Int64)),dS,jS ((dd_12.toInt64) - (3 : Int64)),dS,uS] [(.long (-2147483648)), (.long (-1))]) (X13.ldc2Long hx hown (mvT hZ (w255 hw)) (g := (mkF m 113 #[rS a,rS d,jS qb,dS,jS qa,dS,jS (-1),dS,jS ((dd_6.toInt64) - (2 : Int64)),dS,jS ((dd_12.toInt64) - (3 : Int64)),dS,uS] [(.long (-1))])) rfl (hb hy d17_71_113)) ?_
  refine gon T13 (mkF m 117 #[rS a,rS d,jS qb,dS,jS qa,dS,jS (-1),dS,jS ((dd_6.toInt64) - (2 : Int64)),dS,jS ((dd_12.toInt64) - (3 : Int64)),dS,uS] [(.int (lcmpW (-1 : Int64) (-2147483648 : Int64)))]) (fun _ k => XS.lcmp X13.here hx rfl (hb hy d17_71_116) rfl k) ?_
  refine gon T13 (mkF m 122 #[rS a,rS d,jS qb,dS,jS qa,dS,jS (-1),dS,jS ((dd_6.toInt64) - (2 : Int64)),dS,jS ((dd_12.toInt64) - (3 : Int64)),dS,uS] [(.long qa)]) (fun _ k => XS.ifNo X13.here hx rfl (hb hy d17_71_117) rfl ((if0 _ _).trans (tlt ((lw_gt (-1 : Int64) (-2147483648 : Int64)).mpr (by decide : (-2147483648 : Int64) < (-1 : Int64)))).2.2.2) (XS.lload X13.here hx rfl (hb hy d17_71_120) rfl k)) ?_
  refine gon T13 (mkF m 125 #[rS a,rS d,jS qb,dS,jS qa,dS,jS (-1),dS,jS ((dd_6.toInt64) - (2 : Int64)),dS,jS ((dd_12.toInt64) - (3 : Int64)),dS,uS] [(.long (-9223372036854775808)), (.long qa)]) (X13.ldc2Long hx hown (mvT hZ (w178 hw)) (g := (mkF m 122 #[rS a,rS d,jS qb,dS,jS qa,dS,jS (-1),dS,jS ((dd_6.toInt64) - (2 : Int64)),dS,jS ((dd_12.toInt64) - (3 : Int64)),dS,uS] [(.long qa)])) rfl (hb hy d17_71_122)) ?_
  refine gon T13 (mkF m 126 #[rS a,rS d,jS qb,dS,jS qa,dS,jS (-1),dS,jS ((dd_6.toInt64) - (2 : Int64)),dS,jS ((dd_12.toInt64) - (3 : Int64)),dS,uS] [(.int (lcmpW qa (-9223372036854775808 : Int64)))]) (fun _ k => XS.lcmp X13.here hx rfl (hb hy d17_71_125) rfl k) ?_
  refine gon T13 (mkF m 135 #[rS a,rS d,jS qb,dS,jS qa,dS,jS (-1),dS,jS ((dd_6.toInt64) - (2 : Int64)),dS,jS ((dd_12.toInt64) - (3 : Int64)),dS,uS] [(.int 1), (.long qa)]) (fun _ k => XS.ifNo X13.here hx rfl (hb hy d17_71_126) rfl ((if0 _ _).trans (feq (fun zq => (own_bdMin (own_bd1 P4) : ¬ (qa = (-9223372036854775808 : Int64))) ((lw_eq qa (-9223372036854775808 : Int64)).mp zq))).1) (XS.lload X13.here hx rfl (hb hy d17_71_129) rfl (XS.lload X13.here hx rfl (hb hy d17_71_131) rfl (XS.lneg X13.here hx rfl (hb hy d17_71_133) rfl (XS.l2i X13.here hx rfl (hb hy d17_71_134) rfl k))))) ?_
  have Z_15 : n0 ≤ T8.heap.size := Nat.le_trans Z_11 Kq8.1
  obtain ⟨v14, T14, L14, X14, hQ14, st14⟩ := OwnW.callS X13 hx hZ hown (w256 hw) (w257 hw) (w35 hw) (w258 hw) (by decide) (lmp1 l Z a0 hw qa wZ wT wS wP wH kT kS kP kH zt zs T8.heap n0 Z_15 q8_3 P0 P4) e13 (Ls := #[rS a, rS d, jS qb, dS, jS qa, dS, jS (-1), dS, jS ((dd_6.toInt64) - (2 : Int64)), dS, jS ((dd_12.toInt64) - (3 : Int64)), dS, uS]) (by rw [hml]; rfl) pd_14 (argsL := [(.long qa), (.int (1 : Int32))]) rfl (rest := []) rfl (W := 0) rfl (hb hy d17_71_135) (by decide) (by decide) (by decide) (by decide)
  obtain ⟨rfl, Nq14, eq14⟩ := hQ14
  have N14 := Fr.app N8 Nq14
  refine gon T14 (mkF m 138 #[rS a,rS d,jS qb,dS,jS qa,dS,jS (-1),dS,jS ((dd_6.toInt64) - (2 : Int64)),dS,jS ((dd_12.toInt64) - (3 : Int64)),dS,uS] [(.long (qa * (10 : Int64)))]) (st14) ?_
  refine gon T14 (mkF m 141 #[rS a,rS d,jS qb,dS,jS (qa * (10 : Int64)),dS,jS (-1),dS,jS ((dd_6.toInt64) - (2 : Int64)),dS,jS ((dd_12.toInt64) - (3 : Int64)),dS,uS] [(.long (qa * (10 : Int64)))]) (fun _ k => Jvm.Free.XT.dup2L X14.here hx rfl (hb hy d17_71_138) rfl (XS.lstore X14.here hx rfl (hb hy d17_71_139) rfl (l' := #[rS a, rS d, jS qb, dS, jS (qa * (10 : Int64)), dS, jS (-1), dS, jS ((dd_6.toInt64) - (2 : Int64)), dS, jS ((dd_12.toInt64) - (3 : Int64)), dS, uS]) rfl k)) ?_
  refine gon T14 (mkF m 144 #[rS a,rS d,jS qb,dS,jS (qa * (10 : Int64)),dS,jS (-1),dS,jS ((dd_6.toInt64) - (2 : Int64)),dS,jS ((dd_12.toInt64) - (3 : Int64)),dS,uS] [(.long (-9223372036854775808)), (.long (qa * (10 : Int64)))]) (X14.ldc2Long hx hown (mvT hZ (w178 hw)) (g := (mkF m 141 #[rS a,rS d,jS qb,dS,jS (qa * (10 : Int64)),dS,jS (-1),dS,jS ((dd_6.toInt64) - (2 : Int64)),dS,jS ((dd_12.toInt64) - (3 : Int64)),dS,uS] [(.long (qa * (10 : Int64)))])) rfl (hb hy d17_71_141)) ?_
  refine gon T14 (mkF m 145 #[rS a,rS d,jS qb,dS,jS (qa * (10 : Int64)),dS,jS (-1),dS,jS ((dd_6.toInt64) - (2 : Int64)),dS,jS ((dd_12.toInt64) - (3 : Int64)),dS,uS] [(.int (lcmpW (qa * (10 : Int64)) (-9223372036854775808 : Int64)))]) (fun _ k => XS.lcmp X14.here hx rfl (hb hy d17_71_144) rfl k) ?_
  refine gon T14 (mkF m 239 #[rS a,rS d,jS qb,dS,jS (qa * (10 : Int64)),dS,jS (-1),dS,jS ((dd_6.toInt64) - (2 : Int64)),dS,jS ((dd_12.toInt64) - (3 : Int64)),dS,uS] [(.long (qa * (10 : Int64)))]) (fun _ k => XS.ifYes X14.here hx rfl (pc0 := 145) (pc' := 237) rfl (hb hy d17_71_145) rfl ((if0 _ _).trans (feq (fun zq => (own_bdMin (own_bd10 P4).2 : ¬ ((qa * (10 : Int64)) = (-9223372036854775808 : Int64))) ((lw_eq (qa * (10 : Int64)) (-9223372036854775808 : Int64)).mp zq))).2) (by decide) (by decide) (XS.lload X14.here hx rfl (hb hy d17_71_237) rfl k)) ?_
  refine gon T14 (mkF m 242 #[rS a,rS d,jS qb,dS,jS (qa * (10 : Int64)),dS,jS (-1),dS,jS ((dd_6.toInt64) - (2 : Int64)),dS,jS ((dd_12.toInt64) - (3 : Int64)),dS,uS] [(.long (-9223372036854775808)), (.long (qa * (10 : Int64)))]) (X14.ldc2Long hx hown (mvT hZ (w178 hw)) (g := (mkF m 239 #[rS a,rS d,jS qb,dS,jS (qa * (10 : Int64)),dS,jS (-1),dS,jS ((dd_6.toInt64) - (2 : Int64)),dS,jS ((dd_12.toInt64) - (3 : Int64)),dS,uS] [(.long (qa * (10 : Int64)))])) rfl (hb hy d17_71_239)) ?_
  refine gon T14 (mkF m 243 #[rS a,rS d,jS qb,dS,jS (qa * (10 : Int64)),dS,jS (-1),dS,jS ((dd_6.toInt64) - (2 : Int64)),dS,jS ((dd_12.toInt64) - (3 : Int64)),dS,uS] [(.int (lcmpW (qa * (10 : Int64)) (-9223372036854775808 : Int64)))]) (fun _ k => XS.lcmp X14.here hx rfl (hb hy d17_71_242) rfl k) ?_
  refine gon T14 (mkF m 247 #[rS a,rS d,jS qb,dS,jS (qa * (10 : Int64)),dS,jS (-1),dS,jS ((dd_6.toInt64) - (2 : Int64)),dS,jS ((dd_12.toInt64) - (3 : Int64)),dS,uS] [(.long qb)]) (fun _ k => XS.ifNo X14.here hx rfl (hb hy d17_71_243) rfl ((if0 _ _).trans (feq (fun zq => (own_bdMin (own_bd10 P4).2 : ¬ ((qa * (10 : Int64)) = (-9223372036854775808 : Int64))) ((lw_eq (qa * (10 : Int64)) (-9223372036854775808 : Int64)).mp zq))).1) (XS.lloadN X14.here hx rfl (hb hy d17_71_246) rfl k)) ?_
  refine gon T14 (mkF m 250 #[rS a,rS d,jS qb,dS,jS (qa * (10 : Int64)),dS,jS (-1),dS,jS ((dd_6.toInt64) - (2 : Int64)),dS,jS ((dd_12.toInt64) - (3 : Int64)),dS,uS] [(.long (-9223372036854775808)), (.long qb)]) (X14.ldc2Long hx hown (mvT hZ (w178 hw)) (g := (mkF m 247 #[rS a,rS d,jS qb,dS,jS (qa * (10 : Int64)),dS,jS (-1),dS,jS ((dd_6.toInt64) - (2 : Int64)),dS,jS ((dd_12.toInt64) - (3 : Int64)),dS,uS] [(.long qb)])) rfl (hb hy d17_71_247)) ?_
  refine gon T14 (mkF m 251 #[rS a,rS d,jS qb,dS,jS (qa * (10 : Int64)),dS,jS (-1),dS,jS ((dd_6.toInt64) - (2 : Int64)),dS,jS ((dd_12.toInt64) - (3 : Int64)),dS,uS] [(.int (lcmpW qb (-9223372036854775808 : Int64)))]) (fun _ k => XS.lcmp X14.here hx rfl (hb hy d17_71_250) rfl k) ?_
  refine gon T14 (mkF m 254 #[rS a,rS d,jS qb,dS,jS (qa * (10 : Int64)),dS,jS (-1),dS,jS ((dd_6.toInt64) - (2 : Int64)),dS,jS ((dd_12.toInt64) - (3 : Int64)),dS,uS] []) (fun _ k => XS.ifNo X14.here hx rfl (hb hy d17_71_251) rfl ((if0 _ _).trans (feq (fun zq => (own_bdMin (own_bd1 P5) : ¬ (qb = (-9223372036854775808 : Int64))) ((lw_eq qb (-9223372036854775808 : Int64)).mp zq))).1) k) ?_
  rw [show (qa * (10 : Int64)) = qb from Int64.toInt_inj.mp (by rw [(own_bd10 P4).1, P6]; rfl)]
  refine gon T14 (mkF m 257 #[rS a,rS d,jS qb,dS,jS qb,dS,jS (-1),dS,jS ((dd_6.toInt64) - (2 : Int64)),dS,jS ((dd_12.toInt64) - (3 : Int64)),dS,uS] [(.long qb), (.long qb)]) (fun _ k => XS.lload X14.here hx rfl (hb hy d17_71_254) rfl (XS.lloadN X14.here hx rfl (hb hy d17_71_256) rfl k)) ?_
  obtain ⟨v16, T16, L16, X16, hQ16, st16⟩ := OwnW.callS X14 hx hZ hown (w263 hw) (w264 hw) (w35 hw) (w265 hw) (by decide) (lcm0 l Z a0 hw qb T8.heap n0 Z_15 ) eq14 (Ls := #[rS a, rS d, jS qb, dS, jS qb, dS, jS (-1), dS, jS ((dd_6.toInt64) - (2 : Int64)), dS, jS ((dd_12.toInt64) - (3 : Int64)), dS, uS]) (by rw [hml]; rfl) pd_13 (argsL := [(.long qb), (.long qb)]) rfl (rest := []) rfl (W := 0) rfl (hb hy d17_71_257) (by decide) (by decide) (by decide) (by decide)
  obtain ⟨rfl, Nq16, eq16⟩ := hQ16
  have N16 := Fr.app N14 Nq16
  refine gon T16 (mkF m 260 #[rS a,rS d,jS qb,dS,jS qb,dS,jS (-1),dS,jS ((dd_6.toInt64) - (2 : Int64)),dS,jS ((dd_12.toInt64) - (3 : Int64)),dS,uS] [(.int 0)]) (st16) ?_
  refine gon T16 (mkF m 264 #[rS a,rS d,jS qb,dS,jS qb,dS,jS (-1),dS,jS ((dd_6.toInt64) - (2 : Int64)),dS,jS ((dd_12.toInt64) - (3 : Int64)),dS,uS] [(.int 0)]) (fun _ k => XS.goto X16.here hx rfl (pc0 := 260) (pc' := 264) rfl (hb hy d17_71_260) (by decide) (by decide) k) ?_
  have K_17 : Keep h0 T5.heap [a, d] := (Keep.refl h0 [a, d]).trans Kq5 (allS (Or.inl (List.mem_of_getElem? (i := 0) rfl)) all0)
  have K_18 : Keep h0 T8.heap [a, d] := K_17.trans Kq8 (allS (Or.inl (List.mem_of_getElem? (i := 1) rfl)) all0)
  have c_19 := Fld.keep q5_0 Kq8 (ninS nead nin0)
  exact OwnW.retI X16 hx hlk hret (hb hy d17_71_264) (by decide) (by decide) (show QQ _ T16.heap _ from (by rw [eq16]; exact ⟨rfl, N16, K_18, c_19⟩))
abbrev k17_70 := jdk_17_method_70_code
theorem d17_70_0 : decode k17_70 0 = .ok (.aload_n 0, 1) := by decide +kernel
theorem d17_70_1 : decode k17_70 1 = .ok (.getfield 17, 3) := by decide +kernel
theorem d17_70_4 : decode k17_70 4 = .ok (.aload_n 1, 1) := by decide +kernel
theorem d17_70_5 : decode k17_70 5 = .ok (.getfield 17, 3) := by decide +kernel
theorem d17_70_8 : decode k17_70 8 = .ok (.if_icmp .ne 55, 3) := by decide +kernel
theorem d17_70_63 : decode k17_70 63 = .ok (.aload_n 0, 1) := by decide +kernel
theorem d17_70_64 : decode k17_70 64 = .ok (.invokevirtual 270, 3) := by decide +kernel
theorem w203 {Z a0} (hw : Ht a0 Z) : (Cond.selects "java/math/BigDecimal" ⟨"java/math/BigDecimal", "signum", "()I"⟩ ⟨"java/math/BigDecimal", "signum", "()I"⟩).before a0 Z = true := ht hw 203 rfl
theorem w204 {Z a0} (hw : Ht a0 Z) : (Cond.code ⟨"java/math/BigDecimal", "signum", "()I"⟩ jdk_17_method_58_code (1 : Nat) (Option.some Jvm.ClassFile.FieldType.int)).before a0 Z = true := ht hw 204 rfl
theorem w200 {Z a0} (hw : Ht a0 Z) : (Cond.methodLink "java/math/BigDecimal" (270 : Nat) ⟨"java/math/BigDecimal", "signum", "()I"⟩).before a0 Z = true := ht hw 200 rfl
theorem w201 {Z a0} (hw : Ht a0 Z) : (Cond.declares ⟨"java/math/BigDecimal", "signum", "()I"⟩).before a0 Z = true := ht hw 201 rfl
theorem w202 {Z a0} (hw : Ht a0 Z) : (Cond.instanceMethod ⟨"java/math/BigDecimal", "signum", "()I"⟩).before a0 Z = true := ht hw 202 rfl
theorem d17_70_67 : decode k17_70 67 = .ok (.istore_n 2, 1) := by decide +kernel
theorem d17_70_68 : decode k17_70 68 = .ok (.aload_n 1, 1) := by decide +kernel
theorem d17_70_69 : decode k17_70 69 = .ok (.invokevirtual 270, 3) := by decide +kernel
theorem d17_70_72 : decode k17_70 72 = .ok (.istore_n 3, 1) := by decide +kernel
theorem d17_70_73 : decode k17_70 73 = .ok (.iload_n 2, 1) := by decide +kernel
theorem d17_70_74 : decode k17_70 74 = .ok (.iload_n 3, 1) := by decide +kernel
theorem d17_70_75 : decode k17_70 75 = .ok (.if_icmp .eq 14, 3) := by decide +kernel
theorem d17_70_89 : decode k17_70 89 = .ok (.iload_n 2, 1) := by decide +kernel
theorem d17_70_90 : decode k17_70 90 = .ok (.ifCond .ne 5, 3) := by decide +kernel
theorem d17_70_93 : decode k17_70 93 = .ok (.iconst 0, 1) := by decide +kernel
theorem d17_70_94 : decode k17_70 94 = .ok (.ireturn, 1) := by decide +kernel
theorem d17_70_95 : decode k17_70 95 = .ok (.aload_n 0, 1) := by decide +kernel
theorem d17_70_96 : decode k17_70 96 = .ok (.aload_n 1, 1) := by decide +kernel
theorem d17_70_97 : decode k17_70 97 = .ok (.invokevirtual 436, 3) := by decide +kernel
theorem w235 {Z a0} (hw : Ht a0 Z) : (Cond.code ⟨"java/math/BigDecimal", "compareMagnitude", "(Ljava/math/BigDecimal;)I"⟩ jdk_17_method_71_code (13 : Nat) (Option.some Jvm.ClassFile.FieldType.int)).before a0 Z = true := ht hw 235 rfl
theorem w231 {Z a0} (hw : Ht a0 Z) : (Cond.methodLink "java/math/BigDecimal" (436 : Nat) ⟨"java/math/BigDecimal", "compareMagnitude", "(Ljava/math/BigDecimal;)I"⟩).before a0 Z = true := ht hw 231 rfl
theorem w234 {Z a0} (hw : Ht a0 Z) : (Cond.selects "java/math/BigDecimal" ⟨"java/math/BigDecimal", "compareMagnitude", "(Ljava/math/BigDecimal;)I"⟩ ⟨"java/math/BigDecimal", "compareMagnitude", "(Ljava/math/BigDecimal;)I"⟩).before a0 Z = true := ht hw 234 rfl
theorem w232 {Z a0} (hw : Ht a0 Z) : (Cond.instanceMethod ⟨"java/math/BigDecimal", "compareMagnitude", "(Ljava/math/BigDecimal;)I"⟩).before a0 Z = true := ht hw 232 rfl
theorem w233 {Z a0} (hw : Ht a0 Z) : (Cond.privateMethod ⟨"java/math/BigDecimal", "compareMagnitude", "(Ljava/math/BigDecimal;)I"⟩).before a0 Z = true := ht hw 233 rfl
theorem pd_25 : parseMethodDescriptor "(Ljava/math/BigDecimal;)I" = some ⟨[(.object "java/math/BigDecimal")], some .int⟩ := by decide +kernel
theorem d17_70_100 : decode k17_70 100 = .ok (.istore 4, 2) := by decide +kernel
theorem d17_70_102 : decode k17_70 102 = .ok (.iload_n 2, 1) := by decide +kernel
theorem d17_70_103 : decode k17_70 103 = .ok (.ifCond .le 8, 3) := by decide +kernel
theorem d17_70_106 : decode k17_70 106 = .ok (.iload 4, 2) := by decide +kernel
theorem d17_70_108 : decode k17_70 108 = .ok (.goto 6, 3) := by decide +kernel
theorem d17_70_114 : decode k17_70 114 = .ok (.ireturn, 1) := by decide +kernel
theorem d17_70_111 : decode k17_70 111 = .ok (.iload 4, 2) := by decide +kernel
theorem d17_70_113 : decode k17_70 113 = .ok (.ineg, 1) := by decide +kernel
theorem d17_70_11 : decode k17_70 11 = .ok (.aload_n 0, 1) := by decide +kernel
theorem d17_70_12 : decode k17_70 12 = .ok (.getfield 24, 3) := by decide +kernel
theorem d17_70_15 : decode k17_70 15 = .ok (.lstore_n 2, 1) := by decide +kernel
theorem d17_70_16 : decode k17_70 16 = .ok (.aload_n 1, 1) := by decide +kernel
theorem d17_70_17 : decode k17_70 17 = .ok (.getfield 24, 3) := by decide +kernel
theorem d17_70_20 : decode k17_70 20 = .ok (.lstore 4, 2) := by decide +kernel
theorem d17_70_22 : decode k17_70 22 = .ok (.lload_n 2, 1) := by decide +kernel
theorem d17_70_23 : decode k17_70 23 = .ok (.ldc2_w 125, 3) := by decide +kernel
theorem d17_70_26 : decode k17_70 26 = .ok (.lcmp, 1) := by decide +kernel
theorem d17_70_27 : decode k17_70 27 = .ok (.ifCond .eq 36, 3) := by decide +kernel
theorem d17_70_30 : decode k17_70 30 = .ok (.lload 4, 2) := by decide +kernel
theorem d17_70_32 : decode k17_70 32 = .ok (.ldc2_w 125, 3) := by decide +kernel
theorem d17_70_35 : decode k17_70 35 = .ok (.lcmp, 1) := by decide +kernel
theorem d17_70_36 : decode k17_70 36 = .ok (.ifCond .eq 27, 3) := by decide +kernel
theorem d17_70_39 : decode k17_70 39 = .ok (.lload_n 2, 1) := by decide +kernel
theorem d17_70_40 : decode k17_70 40 = .ok (.lload 4, 2) := by decide +kernel
theorem d17_70_42 : decode k17_70 42 = .ok (.lcmp, 1) := by decide +kernel
theorem d17_70_43 : decode k17_70 43 = .ok (.ifCond .eq 18, 3) := by decide +kernel
theorem d17_70_61 : decode k17_70 61 = .ok (.iconst 0, 1) := by decide +kernel
theorem d17_70_62 : decode k17_70 62 = .ok (.ireturn, 1) := by decide +kernel
def Q_cmpT (Z : State) (a : Addr) (d : Addr) (wZ : Addr) (wT : Addr) (wS : Addr) (wP : Addr) (wH : Addr) (kT : ClassId) (kS : ClassId) (kP : ClassId) (kH : ClassId) (zt : Nat → Addr) (zs : Nat → Addr) (qa : Int64) (ra : Int32) (qb : Int64) (h0 : Heap) (n0 : Nat) (v : Option Value) (h : Heap) (L : List Loc) : Prop := v = some (.int (0 : Int32)) ∧ Fr n0 L ∧ Keep h0 h [a, d] ∧ Fld Z h a "java/math/BigDecimal" "scale" "I" (.int ra)
set_option maxRecDepth 65536 in
set_option maxHeartbeats 40000000 in
theorem cmpT (l : Launch) (Z : State) (a0 : Array Value) (hw : Ht a0 Z) (a : Addr) (d : Addr) (wZ : Addr) (wT : Addr) (wS : Addr) (wP : Addr) (wH : Addr) (kT : ClassId) (kS : ClassId) (kP : ClassId) (kH : ClassId) (zt : Nat → Addr) (zs : Nat → Addr) (qa : Int64) (ra : Int32) (qb : Int64) (h0 : Heap) (n0 : Nat) (Z0 : n0 ≤ h0.size) (O0 : Old Z n0 h0) (P0 : BigS Z wZ wT wS wP wH kT kS kP kH zt zs) (P1 : BDV Z h0 n0 a qa ra) (P2 : BDV Z h0 n0 d qb (3 : Int32)) (P3 : Bq qa) (P4 : Bq qb) (P5 : Sc ra) (P6 : qb.toInt = Nv3 qa ra) :
    Con l Z (⟨"java/math/BigDecimal", "compareTo", "(Ljava/math/BigDecimal;)I"⟩ : MethodName) jdk_17_method_70_code 6 (some .int) ({ frames := 5, cells := 0, slots := 0, locals := 83 } : Room) #[(.ref a), (.ref d)] h0 (Q_cmpT Z a d wZ wT wS wP wH kT kS kP kH zt zs qa ra qb h0 n0) := by
  refine OwnW.body (Ls := #[rS a, rS d, uS, uS, uS, uS]) (plainFor_of_name pn_5) (fun m => by first | (simp [entryFrame, mkF, argsToLocals, Value.category]; done) | rfl) ?_
  intro p e s m below meth c s₁ hx hy hml hown hnm hret hlk hZ X0 e0
  let QQ := Q_cmpT Z a d wZ wT wS wP wH kT kS kP kH zt zs qa ra qb h0 n0
  have N0 := Fr.nil n0
  show Go p e below (s₁.setTop (mkF m 0 #[rS a, rS d, uS, uS, uS, uS] [])) (EndQ s below ({ frames := 5, cells := 0, slots := 0, locals := 83 } : Room).cells ({ frames := 5, cells := 0, slots := 0, locals := 83 } : Room).slots QQ)
  rcases P5 with rfl | rfl | rfl | rfl
  · have hN : qb.toInt = qa.toInt * 1000 := by rw [P6, Nv3, own_w0]
    refine gon s₁ (mkF m 1 #[rS a,rS d,uS,uS,uS,uS] [(.ref a)]) (fun _ k => XS.aloadN X0.here hx rfl (hb hy d17_70_0) rfl rfl k) ?_
    obtain ⟨T1, X1, e1, st1⟩ := getF X0 hx hZ hown (host := "") (Or.inl (w179 hw)) Via.refl e0 P1.2.1 (g := (mkF m 1 #[rS a,rS d,uS,uS,uS,uS] [(.ref a)])) rfl rfl (hb hy d17_70_1)
    refine gon T1 (mkF m 4 #[rS a,rS d,uS,uS,uS,uS] [(.int 0)]) (st1) ?_
    refine gon T1 (mkF m 5 #[rS a,rS d,uS,uS,uS,uS] [(.ref d), (.int 0)]) (fun _ k => XS.aloadN X1.here hx rfl (hb hy d17_70_4) rfl rfl k) ?_
    obtain ⟨T2, X2, e2, st2⟩ := getF X1 hx hZ hown (host := "") (Or.inl (w179 hw)) Via.refl e1 P2.2.1 (g := (mkF m 5 #[rS a,rS d,uS,uS,uS,uS] [(.ref d), (.int 0)])) rfl rfl (hb hy d17_70_5)
    refine gon T2 (mkF m 8 #[rS a,rS d,uS,uS,uS,uS] [(.int 3), (.int 0)]) (st2) ?_
    refine gon T2 (mkF m 64 #[rS a,rS d,uS,uS,uS,uS] [(.ref a)]) (fun _ k => XS.icmpYes X2.here hx rfl (pc0 := 8) (pc' := 63) rfl (hb hy d17_70_8) rfl (feq (by decide : ¬ ((0 : Int32) = (3 : Int32)))).2 (by decide) (by decide) (XS.aloadN X2.here hx rfl (hb hy d17_70_63) rfl rfl k)) ?_
    obtain ⟨v3, T3, L3, X3, hQ3, st3⟩ := OwnW.callV X2 hx hZ hown (w200 hw) (w201 hw) (notFace_of_selects (args := #[]) (mvT hZ (w203 hw))) (w203 hw) (w202 hw) (w35 hw) (w204 hw) (by decide) (b := a) (bsig l Z a0 hw a qa h0 n0 Z0 P1.2.2.1 (own_bdMin (own_bd1 P3) : ¬ (qa = (-9223372036854775808 : Int64)))) e2 P1.1 (Ls := #[rS a, rS d, uS, uS, uS, uS]) (by rw [hml]; rfl) pd_24 (argsL := []) rfl (rest := []) rfl (W := 0) rfl (hb hy d17_70_64) (by decide) (by decide) (by decide) (by decide)
    obtain ⟨rfl, Nq3, eq3⟩ := hQ3
    have N3 := Fr.app N0 Nq3
    refine gon T3 (mkF m 67 #[rS a,rS d,uS,uS,uS,uS] [(.int (sgn qa))]) (st3) ?_
    refine gon T3 (mkF m 69 #[rS a,rS d,iS (sgn qa),uS,uS,uS] [(.ref d)]) (fun _ k => XS.istoreN X3.here hx rfl (hb hy d17_70_67) rfl (l' := #[rS a, rS d, iS (sgn qa), uS, uS, uS]) rfl (XS.aloadN X3.here hx rfl (hb hy d17_70_68) rfl rfl k)) ?_
    obtain ⟨v4, T4, L4, X4, hQ4, st4⟩ := OwnW.callV X3 hx hZ hown (w200 hw) (w201 hw) (notFace_of_selects (args := #[]) (mvT hZ (w203 hw))) (w203 hw) (w202 hw) (w35 hw) (w204 hw) (by decide) (b := d) (bsig l Z a0 hw d qb h0 n0 Z0 P2.2.2.1 (own_bdMin (own_bd1 P4) : ¬ (qb = (-9223372036854775808 : Int64)))) eq3 P2.1 (Ls := #[rS a, rS d, iS (sgn qa), uS, uS, uS]) (by rw [hml]; rfl) pd_24 (argsL := []) rfl (rest := []) rfl (W := 0) rfl (hb hy d17_70_69) (by decide) (by decide) (by decide) (by decide)
    obtain ⟨rfl, Nq4, eq4⟩ := hQ4
    have N4 := Fr.app N3 Nq4
    refine gon T4 (mkF m 72 #[rS a,rS d,iS (sgn qa),uS,uS,uS] [(.int (sgn qb))]) (st4) ?_
    refine gon T4 (mkF m 75 #[rS a,rS d,iS (sgn qa),iS (sgn qb),uS,uS] [(.int (sgn qb)), (.int (sgn qa))]) (fun _ k => XS.istoreN X4.here hx rfl (hb hy d17_70_72) rfl (l' := #[rS a, rS d, iS (sgn qa), iS (sgn qb), uS, uS]) rfl (XS.iloadN X4.here hx rfl (hb hy d17_70_73) rfl (XS.iloadN X4.here hx rfl (hb hy d17_70_74) rfl k))) ?_
    refine gon T4 (mkF m 90 #[rS a,rS d,iS (sgn qa),iS (sgn qb),uS,uS] [(.int (sgn qa))]) (fun _ k => XS.icmpYes X4.here hx rfl (pc0 := 75) (pc' := 89) rfl (hb hy d17_70_75) rfl (teq (own_sgnEq hN (by decide) : (sgn qa) = (sgn qb))).1 (by decide) (by decide) (XS.iloadN X4.here hx rfl (hb hy d17_70_89) rfl k)) ?_
    by_cases hc90_5 : (sgn qa) = (0 : Int32)
    · refine gon T4 (mkF m 94 #[rS a,rS d,iS (sgn qa),iS (sgn qb),uS,uS] [(.int 0)]) (fun _ k => XS.ifNo X4.here hx rfl (hb hy d17_70_90) rfl ((if0 _ _).trans (teq hc90_5).2) (XS.iconst X4.here hx rfl (hb hy d17_70_93) k)) ?_
      exact OwnW.retI X4 hx hlk hret (hb hy d17_70_94) (by decide) (by decide) (show QQ _ T4.heap _ from (by rw [eq4]; exact ⟨rfl, N4, (Keep.refl h0 [a, d]), P1.2.1⟩))
    · refine gon T4 (mkF m 97 #[rS a,rS d,iS (sgn qa),iS (sgn qb),uS,uS] [(.ref d), (.ref a)]) (fun _ k => XS.ifYes X4.here hx rfl (pc0 := 90) (pc' := 95) rfl (hb hy d17_70_90) rfl ((if0 _ _).trans (feq hc90_5).2) (by decide) (by decide) (XS.aloadN X4.here hx rfl (hb hy d17_70_95) rfl rfl (XS.aloadN X4.here hx rfl (hb hy d17_70_96) rfl rfl k))) ?_
      obtain ⟨v6, T6, L6, X6, hQ6, st6⟩ := OwnW.callP (y := (⟨"java/math/BigDecimal", "compareMagnitude", "(Ljava/math/BigDecimal;)I"⟩ : MethodName)) X4 hx hZ hown (w231 hw) (w234 hw) (w232 hw) (w233 hw) (w35 hw) (w235 hw) (by decide) (b := a) (cmag0 l Z a0 hw a d wZ wT wS wP wH kT kS kP kH zt zs qa qb h0 n0 Z0 O0 P0 P1 P2 (own_sgnN hc90_5 : ¬ (qa = (0 : Int64))) P3 P4 (by rw [hN]; rfl : qb.toInt = qa.toInt * ((10 ^ 3 : Nat) : Int))) eq4 P1.1 (Ls := #[rS a, rS d, iS (sgn qa), iS (sgn qb), uS, uS]) (by rw [hml]; rfl) pd_25 (argsL := [(.ref d)]) rfl (rest := []) rfl (W := 0) rfl (hb hy d17_70_97) (by decide) (by decide) (by decide) (by decide)
      obtain ⟨rfl, Nq6, Kq6, q6_0⟩ := hQ6
      have N6 := Fr.app N4 Nq6
      refine gon T6 (mkF m 100 #[rS a,rS d,iS (sgn qa),iS (sgn qb),uS,uS] [(.int 0)]) (st6) ?_
      refine gon T6 (mkF m 103 #[rS a,rS d,iS (sgn qa),iS (sgn qb),iS 0,uS] [(.int (sgn qa))]) (fun _ k => XS.istore X6.here hx rfl (hb hy d17_70_100) rfl (l' := #[rS a, rS d, iS (sgn qa), iS (sgn qb), iS 0, uS]) rfl (XS.iloadN X6.here hx rfl (hb hy d17_70_102) rfl k)) ?_
      by_cases hc103_7 : (0 : Int32) < (sgn qa)
      · refine gon T6 (mkF m 114 #[rS a,rS d,iS (sgn qa),iS (sgn qb),iS 0,uS] [(.int 0)]) (fun _ k => XS.ifNo X6.here hx rfl (hb hy d17_70_103) rfl ((if0 _ _).trans (tlt hc103_7).2.2.2) (XS.iload X6.here hx rfl (hb hy d17_70_106) rfl (XS.goto X6.here hx rfl (pc0 := 108) (pc' := 114) rfl (hb hy d17_70_108) (by decide) (by decide) k))) ?_
        have K_8 : Keep h0 T6.heap [a, d] := (Keep.refl h0 [a, d]).trans Kq6 (allS (Or.inl (List.mem_of_getElem? (i := 0) rfl)) (allS (Or.inl (List.mem_of_getElem? (i := 1) rfl)) all0))
        exact OwnW.retI X6 hx hlk hret (hb hy d17_70_114) (by decide) (by decide) (show QQ _ T6.heap _ from ⟨rfl, N6, K_8, q6_0⟩)
      · refine gon T6 (mkF m 114 #[rS a,rS d,iS (sgn qa),iS (sgn qb),iS 0,uS] [(.int 0)]) (fun _ k => XS.ifYes X6.here hx rfl (pc0 := 103) (pc' := 111) rfl (hb hy d17_70_103) rfl ((if0 _ _).trans (flt hc103_7).2.2.2) (by decide) (by decide) (XS.iload X6.here hx rfl (hb hy d17_70_111) rfl (XS.ineg X6.here hx rfl (hb hy d17_70_113) rfl k))) ?_
        have K_9 : Keep h0 T6.heap [a, d] := (Keep.refl h0 [a, d]).trans Kq6 (allS (Or.inl (List.mem_of_getElem? (i := 0) rfl)) (allS (Or.inl (List.mem_of_getElem? (i := 1) rfl)) all0))
        exact OwnW.retI X6 hx hlk hret (hb hy d17_70_114) (by decide) (by decide) (show QQ _ T6.heap _ from ⟨rfl, N6, K_9, q6_0⟩)
  · have hN : qb.toInt = qa.toInt * 100 := by rw [P6, Nv3, own_w1]
    refine gon s₁ (mkF m 1 #[rS a,rS d,uS,uS,uS,uS] [(.ref a)]) (fun _ k => XS.aloadN X0.here hx rfl (hb hy d17_70_0) rfl rfl k) ?_
    obtain ⟨T10, X10, e10, st10⟩ := getF X0 hx hZ hown (host := "") (Or.inl (w179 hw)) Via.refl e0 P1.2.1 (g := (mkF m 1 #[rS a,rS d,uS,uS,uS,uS] [(.ref a)])) rfl rfl (hb hy d17_70_1)
    refine gon T10 (mkF m 4 #[rS a,rS d,uS,uS,uS,uS] [(.int 1)]) (st10) ?_
    refine gon T10 (mkF m 5 #[rS a,rS d,uS,uS,uS,uS] [(.ref d), (.int 1)]) (fun _ k => XS.aloadN X10.here hx rfl (hb hy d17_70_4) rfl rfl k) ?_
    obtain ⟨T11, X11, e11, st11⟩ := getF X10 hx hZ hown (host := "") (Or.inl (w179 hw)) Via.refl e10 P2.2.1 (g := (mkF m 5 #[rS a,rS d,uS,uS,uS,uS] [(.ref d), (.int 1)])) rfl rfl (hb hy d17_70_5)
    refine gon T11 (mkF m 8 #[rS a,rS d,uS,uS,uS,uS] [(.int 3), (.int 1)]) (st11) ?_
    refine gon T11 (mkF m 64 #[rS a,rS d,uS,uS,uS,uS] [(.ref a)]) (fun _ k => XS.icmpYes X11.here hx rfl (pc0 := 8) (pc' := 63) rfl (hb hy d17_70_8) rfl (feq (by decide : ¬ ((1 : Int32) = (3 : Int32)))).2 (by decide) (by decide) (XS.aloadN X11.here hx rfl (hb hy d17_70_63) rfl rfl k)) ?_
    obtain ⟨v12, T12, L12, X12, hQ12, st12⟩ := OwnW.callV X11 hx hZ hown (w200 hw) (w201 hw) (notFace_of_selects (args := #[]) (mvT hZ (w203 hw))) (w203 hw) (w202 hw) (w35 hw) (w204 hw) (by decide) (b := a) (bsig l Z a0 hw a qa h0 n0 Z0 P1.2.2.1 (own_bdMin (own_bd1 P3) : ¬ (qa = (-9223372036854775808 : Int64)))) e11 P1.1 (Ls := #[rS a, rS d, uS, uS, uS, uS]) (by rw [hml]; rfl) pd_24 (argsL := []) rfl (rest := []) rfl (W := 0) rfl (hb hy d17_70_64) (by decide) (by decide) (by decide) (by decide)
    obtain ⟨rfl, Nq12, eq12⟩ := hQ12
    have N12 := Fr.app N0 Nq12
    refine gon T12 (mkF m 67 #[rS a,rS d,uS,uS,uS,uS] [(.int (sgn qa))]) (st12) ?_
    refine gon T12 (mkF m 69 #[rS a,rS d,iS (sgn qa),uS,uS,uS] [(.ref d)]) (fun _ k => XS.istoreN X12.here hx rfl (hb hy d17_70_67) rfl (l' := #[rS a, rS d, iS (sgn qa), uS, uS, uS]) rfl (XS.aloadN X12.here hx rfl (hb hy d17_70_68) rfl rfl k)) ?_
    obtain ⟨v13, T13, L13, X13, hQ13, st13⟩ := OwnW.callV X12 hx hZ hown (w200 hw) (w201 hw) (notFace_of_selects (args := #[]) (mvT hZ (w203 hw))) (w203 hw) (w202 hw) (w35 hw) (w204 hw) (by decide) (b := d) (bsig l Z a0 hw d qb h0 n0 Z0 P2.2.2.1 (own_bdMin (own_bd1 P4) : ¬ (qb = (-9223372036854775808 : Int64)))) eq12 P2.1 (Ls := #[rS a, rS d, iS (sgn qa), uS, uS, uS]) (by rw [hml]; rfl) pd_24 (argsL := []) rfl (rest := []) rfl (W := 0) rfl (hb hy d17_70_69) (by decide) (by decide) (by decide) (by decide)
    obtain ⟨rfl, Nq13, eq13⟩ := hQ13
    have N13 := Fr.app N12 Nq13
    refine gon T13 (mkF m 72 #[rS a,rS d,iS (sgn qa),uS,uS,uS] [(.int (sgn qb))]) (st13) ?_
    refine gon T13 (mkF m 75 #[rS a,rS d,iS (sgn qa),iS (sgn qb),uS,uS] [(.int (sgn qb)), (.int (sgn qa))]) (fun _ k => XS.istoreN X13.here hx rfl (hb hy d17_70_72) rfl (l' := #[rS a, rS d, iS (sgn qa), iS (sgn qb), uS, uS]) rfl (XS.iloadN X13.here hx rfl (hb hy d17_70_73) rfl (XS.iloadN X13.here hx rfl (hb hy d17_70_74) rfl k))) ?_
    refine gon T13 (mkF m 90 #[rS a,rS d,iS (sgn qa),iS (sgn qb),uS,uS] [(.int (sgn qa))]) (fun _ k => XS.icmpYes X13.here hx rfl (pc0 := 75) (pc' := 89) rfl (hb hy d17_70_75) rfl (teq (own_sgnEq hN (by decide) : (sgn qa) = (sgn qb))).1 (by decide) (by decide) (XS.iloadN X13.here hx rfl (hb hy d17_70_89) rfl k)) ?_
    by_cases hc90_14 : (sgn qa) = (0 : Int32)
    · refine gon T13 (mkF m 94 #[rS a,rS d,iS (sgn qa),iS (sgn qb),uS,uS] [(.int 0)]) (fun _ k => XS.ifNo X13.here hx rfl (hb hy d17_70_90) rfl ((if0 _ _).trans (teq hc90_14).2) (XS.iconst X13.here hx rfl (hb hy d17_70_93) k)) ?_
      exact OwnW.retI X13 hx hlk hret (hb hy d17_70_94) (by decide) (by decide) (show QQ _ T13.heap _ from (by rw [eq13]; exact ⟨rfl, N13, (Keep.refl h0 [a, d]), P1.2.1⟩))
    · refine gon T13 (mkF m 97 #[rS a,rS d,iS (sgn qa),iS (sgn qb),uS,uS] [(.ref d), (.ref a)]) (fun _ k => XS.ifYes X13.here hx rfl (pc0 := 90) (pc' := 95) rfl (hb hy d17_70_90) rfl ((if0 _ _).trans (feq hc90_14).2) (by decide) (by decide) (XS.aloadN X13.here hx rfl (hb hy d17_70_95) rfl rfl (XS.aloadN X13.here hx rfl (hb hy d17_70_96) rfl rfl k))) ?_
      obtain ⟨v15, T15, L15, X15, hQ15, st15⟩ := OwnW.callP (y := (⟨"java/math/BigDecimal", "compareMagnitude", "(Ljava/math/BigDecimal;)I"⟩ : MethodName)) X13 hx hZ hown (w231 hw) (w234 hw) (w232 hw) (w233 hw) (w35 hw) (w235 hw) (by decide) (b := a) (cmag1 l Z a0 hw a d wZ wT wS wP wH kT kS kP kH zt zs qa qb h0 n0 Z0 O0 P0 P1 P2 (own_sgnN hc90_14 : ¬ (qa = (0 : Int64))) P3 P4 (by rw [hN]; rfl : qb.toInt = qa.toInt * ((10 ^ 2 : Nat) : Int))) eq13 P1.1 (Ls := #[rS a, rS d, iS (sgn qa), iS (sgn qb), uS, uS]) (by rw [hml]; rfl) pd_25 (argsL := [(.ref d)]) rfl (rest := []) rfl (W := 0) rfl (hb hy d17_70_97) (by decide) (by decide) (by decide) (by decide)
      obtain ⟨rfl, Nq15, Kq15, q15_0⟩ := hQ15
      have N15 := Fr.app N13 Nq15
      refine gon T15 (mkF m 100 #[rS a,rS d,iS (sgn qa),iS (sgn qb),uS,uS] [(.int 0)]) (st15) ?_
      refine gon T15 (mkF m 103 #[rS a,rS d,iS (sgn qa),iS (sgn qb),iS 0,uS] [(.int (sgn qa))]) (fun _ k => XS.istore X15.here hx rfl (hb hy d17_70_100) rfl (l' := #[rS a, rS d, iS (sgn qa), iS (sgn qb), iS 0, uS]) rfl (XS.iloadN X15.here hx rfl (hb hy d17_70_102) rfl k)) ?_
      by_cases hc103_16 : (0 : Int32) < (sgn qa)
      · refine gon T15 (mkF m 114 #[rS a,rS d,iS (sgn qa),iS (sgn qb),iS 0,uS] [(.int 0)]) (fun _ k => XS.ifNo X15.here hx rfl (hb hy d17_70_103) rfl ((if0 _ _).trans (tlt hc103_16).2.2.2) (XS.iload X15.here hx rfl (hb hy d17_70_106) rfl (XS.goto X15.here hx rfl (pc0 := 108) (pc' := 114) rfl (hb hy d17_70_108) (by decide) (by decide) k))) ?_
        have K_17 : Keep h0 T15.heap [a, d] := (Keep.refl h0 [a, d]).trans Kq15 (allS (Or.inl (List.mem_of_getElem? (i := 0) rfl)) (allS (Or.inl (List.mem_of_getElem? (i := 1) rfl)) all0))
        exact OwnW.retI X15 hx hlk hret (hb hy d17_70_114) (by decide) (by decide) (show QQ _ T15.heap _ from ⟨rfl, N15, K_17, q15_0⟩)
      · refine gon T15 (mkF m 114 #[rS a,rS d,iS (sgn qa),iS (sgn qb),iS 0,uS] [(.int 0)]) (fun _ k => XS.ifYes X15.here hx rfl (pc0 := 103) (pc' := 111) rfl (hb hy d17_70_103) rfl ((if0 _ _).trans (flt hc103_16).2.2.2) (by decide) (by decide) (XS.iload X15.here hx rfl (hb hy d17_70_111) rfl (XS.ineg X15.here hx rfl (hb hy d17_70_113) rfl k))) ?_
        have K_18 : Keep h0 T15.heap [a, d] := (Keep.refl h0 [a, d]).trans Kq15 (allS (Or.inl (List.mem_of_getElem? (i := 0) rfl)) (allS (Or.inl (List.mem_of_getElem? (i := 1) rfl)) all0))
        exact OwnW.retI X15 hx hlk hret (hb hy d17_70_114) (by decide) (by decide) (show QQ _ T15.heap _ from ⟨rfl, N15, K_18, q15_0⟩)
  · have hN : qb.toInt = qa.toInt * 10 := by rw [P6, Nv3, own_w2]
    refine gon s₁ (mkF m 1 #[rS a,rS d,uS,uS,uS,uS] [(.ref a)]) (fun _ k => XS.aloadN X0.here hx rfl (hb hy d17_70_0) rfl rfl k) ?_
    obtain ⟨T19, X19, e19, st19⟩ := getF X0 hx hZ hown (host := "") (Or.inl (w179 hw)) Via.refl e0 P1.2.1 (g := (mkF m 1 #[rS a,rS d,uS,uS,uS,uS] [(.ref a)])) rfl rfl (hb hy d17_70_1)
    refine gon T19 (mkF m 4 #[rS a,rS d,uS,uS,uS,uS] [(.int 2)]) (st19) ?_
    refine gon T19 (mkF m 5 #[rS a,rS d,uS,uS,uS,uS] [(.ref d), (.int 2)]) (fun _ k => XS.aloadN X19.here hx rfl (hb hy d17_70_4) rfl rfl k) ?_
    obtain ⟨T20, X20, e20, st20⟩ := getF X19 hx hZ hown (host := "") (Or.inl (w179 hw)) Via.refl e19 P2.2.1 (g := (mkF m 5 #[rS a,rS d,uS,uS,uS,uS] [(.ref d), (.int 2)])) rfl rfl (hb hy d17_70_5)
    refine gon T20 (mkF m 8 #[rS a,rS d,uS,uS,uS,uS] [(.int 3), (.int 2)]) (st20) ?_
    refine gon T20 (mkF m 64 #[rS a,rS d,uS,uS,uS,uS] [(.ref a)]) (fun _ k => XS.icmpYes X20.here hx rfl (pc0 := 8) (pc' := 63) rfl (hb hy d17_70_8) rfl (feq (by decide : ¬ ((2 : Int32) = (3 : Int32)))).2 (by decide) (by decide) (XS.aloadN X20.here hx rfl (hb hy d17_70_63) rfl rfl k)) ?_
    obtain ⟨v21, T21, L21, X21, hQ21, st21⟩ := OwnW.callV X20 hx hZ hown (w200 hw) (w201 hw) (notFace_of_selects (args := #[]) (mvT hZ (w203 hw))) (w203 hw) (w202 hw) (w35 hw) (w204 hw) (by decide) (b := a) (bsig l Z a0 hw a qa h0 n0 Z0 P1.2.2.1 (own_bdMin (own_bd1 P3) : ¬ (qa = (-9223372036854775808 : Int64)))) e20 P1.1 (Ls := #[rS a, rS d, uS, uS, uS, uS]) (by rw [hml]; rfl) pd_24 (argsL := []) rfl (rest := []) rfl (W := 0) rfl (hb hy d17_70_64) (by decide) (by decide) (by decide) (by decide)
    obtain ⟨rfl, Nq21, eq21⟩ := hQ21
    have N21 := Fr.app N0 Nq21
    refine gon T21 (mkF m 67 #[rS a,rS d,uS,uS,uS,uS] [(.int (sgn qa))]) (st21) ?_
    refine gon T21 (mkF m 69 #[rS a,rS d,iS (sgn qa),uS,uS,uS] [(.ref d)]) (fun _ k => XS.istoreN X21.here hx rfl (hb hy d17_70_67) rfl (l' := #[rS a, rS d, iS (sgn qa), uS, uS, uS]) rfl (XS.aloadN X21.here hx rfl (hb hy d17_70_68) rfl rfl k)) ?_
    obtain ⟨v22, T22, L22, X22, hQ22, st22⟩ := OwnW.callV X21 hx hZ hown (w200 hw) (w201 hw) (notFace_of_selects (args := #[]) (mvT hZ (w203 hw))) (w203 hw) (w202 hw) (w35 hw) (w204 hw) (by decide) (b := d) (bsig l Z a0 hw d qb h0 n0 Z0 P2.2.2.1 (own_bdMin (own_bd1 P4) : ¬ (qb = (-9223372036854775808 : Int64)))) eq21 P2.1 (Ls := #[rS a, rS d, iS (sgn qa), uS, uS, uS]) (by rw [hml]; rfl) pd_24 (argsL := []) rfl (rest := []) rfl (W := 0) rfl (hb hy d17_70_69) (by decide) (by decide) (by decide) (by decide)
    obtain ⟨rfl, Nq22, eq22⟩ := hQ22
    have N22 := Fr.app N21 Nq22
    refine gon T22 (mkF m 72 #[rS a,rS d,iS (sgn qa),uS,uS,uS] [(.int (sgn qb))]) (st22) ?_
    refine gon T22 (mkF m 75 #[rS a,rS d,iS (sgn qa),iS (sgn qb),uS,uS] [(.int (sgn qb)), (.int (sgn qa))]) (fun _ k => XS.istoreN X22.here hx rfl (hb hy d17_70_72) rfl (l' := #[rS a, rS d, iS (sgn qa), iS (sgn qb), uS, uS]) rfl (XS.iloadN X22.here hx rfl (hb hy d17_70_73) rfl (XS.iloadN X22.here hx rfl (hb hy d17_70_74) rfl k))) ?_
    refine gon T22 (mkF m 90 #[rS a,rS d,iS (sgn qa),iS (sgn qb),uS,uS] [(.int (sgn qa))]) (fun _ k => XS.icmpYes X22.here hx rfl (pc0 := 75) (pc' := 89) rfl (hb hy d17_70_75) rfl (teq (own_sgnEq hN (by decide) : (sgn qa) = (sgn qb))).1 (by decide) (by decide) (XS.iloadN X22.here hx rfl (hb hy d17_70_89) rfl k)) ?_
    by_cases hc90_23 : (sgn qa) = (0 : Int32)
    · refine gon T22 (mkF m 94 #[rS a,rS d,iS (sgn qa),iS (sgn qb),uS,uS] [(.int 0)]) (fun _ k => XS.ifNo X22.here hx rfl (hb hy d17_70_90) rfl ((if0 _ _).trans (teq hc90_23).2) (XS.iconst X22.here hx rfl (hb hy d17_70_93) k)) ?_
      exact OwnW.retI X22 hx hlk hret (hb hy d17_70_94) (by decide) (by decide) (show QQ _ T22.heap _ from (by rw [eq22]; exact ⟨rfl, N22, (Keep.refl h0 [a, d]), P1.2.1⟩))
    · refine gon T22 (mkF m 97 #[rS a,rS d,iS (sgn qa),iS (sgn qb),uS,uS] [(.ref d), (.ref a)]) (fun _ k => XS.ifYes X22.here hx rfl (pc0 := 90) (pc' := 95) rfl (hb hy d17_70_90) rfl ((if0 _ _).trans (feq hc90_23).2) (by decide) (by decide) (XS.aloadN X22.here hx rfl (hb hy d17_70_95) rfl rfl (XS.aloadN X22.here hx rfl (hb hy d17_70_96) rfl rfl k))) ?_
      obtain ⟨v24, T24, L24, X24, hQ24, st24⟩ := OwnW.callP (y := (⟨"java/math/BigDecimal", "compareMagnitude", "(Ljava/math/BigDecimal;)I"⟩ : MethodName)) X22 hx hZ hown (w231 hw) (w234 hw) (w232 hw) (w233 hw) (w35 hw) (w235 hw) (by decide) (b := a) (cmag2 l Z a0 hw a d wZ wT wS wP wH kT kS kP kH zt zs qa qb h0 n0 Z0 O0 P0 P1 P2 (own_sgnN hc90_23 : ¬ (qa = (0 : Int64))) P3 P4 (by rw [hN]; rfl : qb.toInt = qa.toInt * ((10 ^ 1 : Nat) : Int))) eq22 P1.1 (Ls := #[rS a, rS d, iS (sgn qa), iS (sgn qb), uS, uS]) (by rw [hml]; rfl) pd_25 (argsL := [(.ref d)]) rfl (rest := []) rfl (W := 0) rfl (hb hy d17_70_97) (by decide) (by decide) (by decide) (by decide)
      obtain ⟨rfl, Nq24, Kq24, q24_0⟩ := hQ24
      have N24 := Fr.app N22 Nq24
      refine gon T24 (mkF m 100 #[rS a,rS d,iS (sgn qa),iS (sgn qb),uS,uS] [(.int 0)]) (st24) ?_
      refine gon T24 (mkF m 103 #[rS a,rS d,iS (sgn qa),iS (sgn qb),iS 0,uS] [(.int (sgn qa))]) (fun _ k => XS.istore X24.here hx rfl (hb hy d17_70_100) rfl (l' := #[rS a, rS d, iS (sgn qa), iS (sgn qb), iS 0, uS]) rfl (XS.iloadN X24.here hx rfl (hb hy d17_70_102) rfl k)) ?_
      by_cases hc103_25 : (0 : Int32) < (sgn qa)
      · refine gon T24 (mkF m 114 #[rS a,rS d,iS (sgn qa),iS (sgn qb),iS 0,uS] [(.int 0)]) (fun _ k => XS.ifNo X24.here hx rfl (hb hy d17_70_103) rfl ((if0 _ _).trans (tlt hc103_25).2.2.2) (XS.iload X24.here hx rfl (hb hy d17_70_106) rfl (XS.goto X24.here hx rfl (pc0 := 108) (pc' := 114) rfl (hb hy d17_70_108) (by decide) (by decide) k))) ?_
        have K_26 : Keep h0 T24.heap [a, d] := (Keep.refl h0 [a, d]).trans Kq24 (allS (Or.inl (List.mem_of_getElem? (i := 0) rfl)) (allS (Or.inl (List.mem_of_getElem? (i := 1) rfl)) all0))
        exact OwnW.retI X24 hx hlk hret (hb hy d17_70_114) (by decide) (by decide) (show QQ _ T24.heap _ from ⟨rfl, N24, K_26, q24_0⟩)
      · refine gon T24 (mkF m 114 #[rS a,rS d,iS (sgn qa),iS (sgn qb),iS 0,uS] [(.int 0)]) (fun _ k => XS.ifYes X24.here hx rfl (pc0 := 103) (pc' := 111) rfl (hb hy d17_70_103) rfl ((if0 _ _).trans (flt hc103_25).2.2.2) (by decide) (by decide) (XS.iload X24.here hx rfl (hb hy d17_70_111) rfl (XS.ineg X24.here hx rfl (hb hy d17_70_113) rfl k))) ?_
        have K_27 : Keep h0 T24.heap [a, d] := (Keep.refl h0 [a, d]).trans Kq24 (allS (Or.inl (List.mem_of_getElem? (i := 0) rfl)) (allS (Or.inl (List.mem_of_getElem? (i := 1) rfl)) all0))
        exact OwnW.retI X24 hx hlk hret (hb hy d17_70_114) (by decide) (by decide) (show QQ _ T24.heap _ from ⟨rfl, N24, K_27, q24_0⟩)
  · have hN : qb.toInt = qa.toInt * 1 := by rw [P6, Nv3, own_w3]
    refine gon s₁ (mkF m 1 #[rS a,rS d,uS,uS,uS,uS] [(.ref a)]) (fun _ k => XS.aloadN X0.here hx rfl (hb hy d17_70_0) rfl rfl k) ?_
    obtain ⟨T28, X28, e28, st28⟩ := getF X0 hx hZ hown (host := "") (Or.inl (w179 hw)) Via.refl e0 P1.2.1 (g := (mkF m 1 #[rS a,rS d,uS,uS,uS,uS] [(.ref a)])) rfl rfl (hb hy d17_70_1)
    refine gon T28 (mkF m 4 #[rS a,rS d,uS,uS,uS,uS] [(.int 3)]) (st28) ?_
    refine gon T28 (mkF m 5 #[rS a,rS d,uS,uS,uS,uS] [(.ref d), (.int 3)]) (fun _ k => XS.aloadN X28.here hx rfl (hb hy d17_70_4) rfl rfl k) ?_
    obtain ⟨T29, X29, e29, st29⟩ := getF X28 hx hZ hown (host := "") (Or.inl (w179 hw)) Via.refl e28 P2.2.1 (g := (mkF m 5 #[rS a,rS d,uS,uS,uS,uS] [(.ref d), (.int 3)])) rfl rfl (hb hy d17_70_5)
    refine gon T29 (mkF m 8 #[rS a,rS d,uS,uS,uS,uS] [(.int 3), (.int 3)]) (st29) ?_
    refine gon T29 (mkF m 12 #[rS a,rS d,uS,uS,uS,uS] [(.ref a)]) (fun _ k => XS.icmpNo X29.here hx rfl (hb hy d17_70_8) rfl (teq (by decide : (3 : Int32) = (3 : Int32))).2 (XS.aloadN X29.here hx rfl (hb hy d17_70_11) rfl rfl k)) ?_
    obtain ⟨T30, X30, e30, st30⟩ := getF X29 hx hZ hown (host := "") (Or.inl (w176 hw)) Via.refl e29 P1.2.2.1 (g := (mkF m 12 #[rS a,rS d,uS,uS,uS,uS] [(.ref a)])) rfl rfl (hb hy d17_70_12)
    refine gon T30 (mkF m 15 #[rS a,rS d,uS,uS,uS,uS] [(.long qa)]) (st30) ?_
    refine gon T30 (mkF m 17 #[rS a,rS d,jS qa,dS,uS,uS] [(.ref d)]) (fun _ k => XS.lstoreN X30.here hx rfl (hb hy d17_70_15) rfl (l' := #[rS a, rS d, jS qa, dS, uS, uS]) rfl (XS.aloadN X30.here hx rfl (hb hy d17_70_16) rfl rfl k)) ?_
    obtain ⟨T31, X31, e31, st31⟩ := getF X30 hx hZ hown (host := "") (Or.inl (w176 hw)) Via.refl e30 P2.2.2.1 (g := (mkF m 17 #[rS a,rS d,jS qa,dS,uS,uS] [(.ref d)])) rfl rfl (hb hy d17_70_17)
    refine gon T31 (mkF m 20 #[rS a,rS d,jS qa,dS,uS,uS] [(.long qb)]) (st31) ?_
    refine gon T31 (mkF m 23 #[rS a,rS d,jS qa,dS,jS qb,dS] [(.long qa)]) (fun _ k => XS.lstore X31.here hx rfl (hb hy d17_70_20) rfl (l' := #[rS a, rS d, jS qa, dS, jS qb, dS]) rfl (XS.lloadN X31.here hx rfl (hb hy d17_70_22) rfl k)) ?_
    refine gon T31 (mkF m 26 #[rS a,rS d,jS qa,dS,jS qb,dS] [(.long (-9223372036854775808)), (.long qa)]) (X31.ldc2Long hx hown (mvT hZ (w178 hw)) (g := (mkF m 23 #[rS a,rS d,jS qa,dS,jS qb,dS] [(.long qa)])) rfl (hb hy d17_70_23)) ?_
    refine gon T31 (mkF m 27 #[rS a,rS d,jS qa,dS,jS qb,dS] [(.int (lcmpW qa (-9223372036854775808 : Int64)))]) (fun _ k => XS.lcmp X31.here hx rfl (hb hy d17_70_26) rfl k) ?_
    refine gon T31 (mkF m 32 #[rS a,rS d,jS qa,dS,jS qb,dS] [(.long qb)]) (fun _ k => XS.ifNo X31.here hx rfl (hb hy d17_70_27) rfl ((if0 _ _).trans (feq (fun zq => (own_bdMin (own_bd1 P3) : ¬ (qa = (-9223372036854775808 : Int64))) ((lw_eq qa (-9223372036854775808 : Int64)).mp zq))).1) (XS.lload X31.here hx rfl (hb hy d17_70_30) rfl k)) ?_
    refine gon T31 (mkF m 35 #[rS a,rS d,jS qa,dS,jS qb,dS] [(.long (-9223372036854775808)), (.long qb)]) (X31.ldc2Long hx hown (mvT hZ (w178 hw)) (g := (mkF m 32 #[rS a,rS d,jS qa,dS,jS qb,dS] [(.long qb)])) rfl (hb hy d17_70_32)) ?_
    refine gon T31 (mkF m 36 #[rS a,rS d,jS qa,dS,jS qb,dS] [(.int (lcmpW qb (-9223372036854775808 : Int64)))]) (fun _ k => XS.lcmp X31.here hx rfl (hb hy d17_70_35) rfl k) ?_
    refine gon T31 (mkF m 43 #[rS a,rS d,jS qa,dS,jS qb,dS] [(.int (lcmpW qa qb))]) (fun _ k => XS.ifNo X31.here hx rfl (hb hy d17_70_36) rfl ((if0 _ _).trans (feq (fun zq => (own_bdMin (own_bd1 P4) : ¬ (qb = (-9223372036854775808 : Int64))) ((lw_eq qb (-9223372036854775808 : Int64)).mp zq))).1) (XS.lloadN X31.here hx rfl (hb hy d17_70_39) rfl (XS.lload X31.here hx rfl (hb hy d17_70_40) rfl (XS.lcmp X31.here hx rfl (hb hy d17_70_42) rfl k)))) ?_
    refine gon T31 (mkF m 62 #[rS a,rS d,jS qa,dS,jS qb,dS] [(.int 0)]) (fun _ k => XS.ifYes X31.here hx rfl (pc0 := 43) (pc' := 61) rfl (hb hy d17_70_43) rfl ((if0 _ _).trans (teq ((lw_eq qa qb).mpr (Int64.toInt_inj.mp (by rw [hN]; omega) : qa = qb))).1) (by decide) (by decide) (XS.iconst X31.here hx rfl (hb hy d17_70_61) k)) ?_
    exact OwnW.retI X31 hx hlk hret (hb hy d17_70_62) (by decide) (by decide) (show QQ _ T31.heap _ from (by rw [e31]; exact ⟨rfl, N0, (Keep.refl h0 [a, d]), P1.2.1⟩))
abbrev k17_59 := jdk_17_method_59_code
theorem d17_59_0 : decode k17_59 0 = .ok (.aload_n 0, 1) := by decide +kernel
theorem d17_59_1 : decode k17_59 1 = .ok (.getfield 17, 3) := by decide +kernel
theorem d17_59_4 : decode k17_59 4 = .ok (.ireturn, 1) := by decide +kernel
def Q_bscale (Z : State) (a : Addr) (r : Int32) (h0 : Heap) (n0 : Nat) (v : Option Value) (h : Heap) (L : List Loc) : Prop := v = some (.int r) ∧ Fr n0 L ∧ h = h0
set_option maxRecDepth 65536 in
set_option maxHeartbeats 40000000 in
theorem bscale (l : Launch) (Z : State) (a0 : Array Value) (hw : Ht a0 Z) (a : Addr) (r : Int32) (h0 : Heap) (n0 : Nat) (Z0 : n0 ≤ h0.size) (P0 : Fld Z h0 a "java/math/BigDecimal" "scale" "I" (.int r)) :
    Con l Z (⟨"java/math/BigDecimal", "scale", "()I"⟩ : MethodName) jdk_17_method_59_code 1 (some .int) ({ frames := 0, cells := 0, slots := 0, locals := 0 } : Room) #[(.ref a)] h0 (Q_bscale Z a r h0 n0) := by
  refine OwnW.body (Ls := #[rS a]) (plainFor_of_name pn_5) (fun m => by first | (simp [entryFrame, mkF, argsToLocals, Value.category]; done) | rfl) ?_
  intro p e s m below meth c s₁ hx hy hml hown hnm hret hlk hZ X0 e0
  let QQ := Q_bscale Z a r h0 n0
  have N0 := Fr.nil n0
  show Go p e below (s₁.setTop (mkF m 0 #[rS a] [])) (EndQ s below ({ frames := 0, cells := 0, slots := 0, locals := 0 } : Room).cells ({ frames := 0, cells := 0, slots := 0, locals := 0 } : Room).slots QQ)
  refine gon s₁ (mkF m 1 #[rS a] [(.ref a)]) (fun _ k => XS.aloadN X0.here hx rfl (hb hy d17_59_0) rfl rfl k) ?_
  obtain ⟨T1, X1, e1, st1⟩ := getF X0 hx hZ hown (host := "") (Or.inl (w179 hw)) Via.refl e0 P0 (g := (mkF m 1 #[rS a] [(.ref a)])) rfl rfl (hb hy d17_59_1)
  refine gon T1 (mkF m 4 #[rS a] [(.int r)]) (st1) ?_
  exact OwnW.retI X1 hx hlk hret (hb hy d17_59_4) (by decide) (by decide) (show QQ _ T1.heap _ from ⟨rfl, N0, e1⟩)
theorem own_sc3 (q : Int32) : Sc (q &&& 3) := by
  have h := c_mask q 3 2 (by decide) (by decide)
  have e0 : (0 : Int32).toInt = 0 := by decide
  have e1 : (1 : Int32).toInt = 1 := by decide
  have e2 : (2 : Int32).toInt = 2 := by decide
  have e3 : (3 : Int32).toInt = 3 := by decide
  unfold Sc
  simp only [← Int32.toInt_inj]
  omega
theorem own_lt12 {x : Int32} (h : x < 1) : x < 2 := by
  rw [Int32.lt_iff_toInt_lt] at *
  have e1 : (1 : Int32).toInt = 1 := by decide
  have e2 : (2 : Int32).toInt = 2 := by decide
  omega
theorem own_lt23 {x : Int32} (h : x < 2) : x < 3 := by
  rw [Int32.lt_iff_toInt_lt] at *
  have e3 : (3 : Int32).toInt = 3 := by decide
  have e2 : (2 : Int32).toInt = 2 := by decide
  omega
theorem own_term (q : Int32) {r : Int32} (h : Sc r) : (q.toInt64 * p10 ((3 : Int32) - r)).toInt = Nv3 q.toInt64 r := by
  have hb := own_bqI q
  rcases h with rfl | rfl | rfl | rfl
  · rw [show p10 ((3 : Int32) - 0) = 1000 from by decide, (own_bd1000 hb).1]; rfl
  · rw [show p10 ((3 : Int32) - 1) = 100 from by decide, (own_bd100 hb).1]; rfl
  · rw [show p10 ((3 : Int32) - 2) = 10 from by decide, (own_bd10 hb).1]; rfl
  · rw [show p10 ((3 : Int32) - 3) = 1 from by decide, Int64.mul_one]; show _ = _ * (1 : Int); omega
theorem w0 {Z a0} (hw : Ht a0 Z) : (Cond.classLink "com/example/tipple/tipple/TotalsTonsPinLaw" (28 : Nat) "java/util/ArrayList").before a0 Z = true := ht hw 0 rfl
theorem w5 {Z a0} (hw : Ht a0 Z) : (Cond.code ⟨"java/util/ArrayList", "<init>", "()V"⟩ jdk_38_method_2_code (1 : Nat) (Option.none : Option Jvm.ClassFile.FieldType)).before a0 Z = true := ht hw 5 rfl
theorem w3 {Z a0} (hw : Ht a0 Z) : (Cond.methodLink "com/example/tipple/tipple/TotalsTonsPinLaw" (30 : Nat) ⟨"java/util/ArrayList", "<init>", "()V"⟩).before a0 Z = true := ht hw 3 rfl
theorem w4 {Z a0} (hw : Ht a0 Z) : (Cond.instanceMethod ⟨"java/util/ArrayList", "<init>", "()V"⟩).before a0 Z = true := ht hw 4 rfl
theorem w113 {Z a0} (hw : Ht a0 Z) : (Cond.code ⟨"com/example/tipple/tipple/Totals", "tons", "(Ljava/util/List;)Ljava/math/BigDecimal;"⟩ prog_16_method_3_code (4 : Nat) (Option.some (Jvm.ClassFile.FieldType.object "java/math/BigDecimal"))).before a0 Z = true := ht hw 113 rfl
theorem w110 {Z a0} (hw : Ht a0 Z) : (Cond.methodLink "com/example/tipple/tipple/TotalsTonsPinLaw" (53 : Nat) ⟨"com/example/tipple/tipple/Totals", "tons", "(Ljava/util/List;)Ljava/math/BigDecimal;"⟩).before a0 Z = true := ht hw 110 rfl
theorem w111 {Z a0} (hw : Ht a0 Z) : (Cond.static ⟨"com/example/tipple/tipple/Totals", "tons", "(Ljava/util/List;)Ljava/math/BigDecimal;"⟩).before a0 Z = true := ht hw 111 rfl
theorem w112 {Z a0} (hw : Ht a0 Z) : (Cond.initialized "com/example/tipple/tipple/Totals").before a0 Z = true := ht hw 112 rfl
theorem pd_26 : parseMethodDescriptor "(Ljava/util/List;)Ljava/math/BigDecimal;" = some ⟨[(.object "java/util/List")], some (.object "java/math/BigDecimal")⟩ := by decide +kernel
theorem w198 {Z a0} (hw : Ht a0 Z) : (Cond.selects "java/math/BigDecimal" ⟨"java/math/BigDecimal", "compareTo", "(Ljava/math/BigDecimal;)I"⟩ ⟨"java/math/BigDecimal", "compareTo", "(Ljava/math/BigDecimal;)I"⟩).before a0 Z = true := ht hw 198 rfl
theorem w199 {Z a0} (hw : Ht a0 Z) : (Cond.code ⟨"java/math/BigDecimal", "compareTo", "(Ljava/math/BigDecimal;)I"⟩ jdk_17_method_70_code (6 : Nat) (Option.some Jvm.ClassFile.FieldType.int)).before a0 Z = true := ht hw 199 rfl
theorem w195 {Z a0} (hw : Ht a0 Z) : (Cond.methodLink "com/example/tipple/tipple/TotalsTonsPinLaw" (59 : Nat) ⟨"java/math/BigDecimal", "compareTo", "(Ljava/math/BigDecimal;)I"⟩).before a0 Z = true := ht hw 195 rfl
theorem w196 {Z a0} (hw : Ht a0 Z) : (Cond.declares ⟨"java/math/BigDecimal", "compareTo", "(Ljava/math/BigDecimal;)I"⟩).before a0 Z = true := ht hw 196 rfl
theorem w197 {Z a0} (hw : Ht a0 Z) : (Cond.instanceMethod ⟨"java/math/BigDecimal", "compareTo", "(Ljava/math/BigDecimal;)I"⟩).before a0 Z = true := ht hw 197 rfl
theorem w212 {Z a0} (hw : Ht a0 Z) : (Cond.selects "java/math/BigDecimal" ⟨"java/math/BigDecimal", "scale", "()I"⟩ ⟨"java/math/BigDecimal", "scale", "()I"⟩).before a0 Z = true := ht hw 212 rfl
theorem w213 {Z a0} (hw : Ht a0 Z) : (Cond.code ⟨"java/math/BigDecimal", "scale", "()I"⟩ jdk_17_method_59_code (1 : Nat) (Option.some Jvm.ClassFile.FieldType.int)).before a0 Z = true := ht hw 213 rfl
theorem w209 {Z a0} (hw : Ht a0 Z) : (Cond.methodLink "com/example/tipple/tipple/TotalsTonsPinLaw" (63 : Nat) ⟨"java/math/BigDecimal", "scale", "()I"⟩).before a0 Z = true := ht hw 209 rfl
theorem w210 {Z a0} (hw : Ht a0 Z) : (Cond.declares ⟨"java/math/BigDecimal", "scale", "()I"⟩).before a0 Z = true := ht hw 210 rfl
theorem w211 {Z a0} (hw : Ht a0 Z) : (Cond.instanceMethod ⟨"java/math/BigDecimal", "scale", "()I"⟩).before a0 Z = true := ht hw 211 rfl
theorem w29 {Z a0} (hw : Ht a0 Z) : (Cond.code ⟨"com/example/tipple/tipple/TotalsTonsPinLaw", "lot", "(IIZ)Lcom/example/tipple/tipple/Lot;"⟩ method_3_code (3 : Nat) (Option.some (Jvm.ClassFile.FieldType.object "com/example/tipple/tipple/Lot"))).before a0 Z = true := ht hw 29 rfl
theorem w26 {Z a0} (hw : Ht a0 Z) : (Cond.methodLink "com/example/tipple/tipple/TotalsTonsPinLaw" (31 : Nat) ⟨"com/example/tipple/tipple/TotalsTonsPinLaw", "lot", "(IIZ)Lcom/example/tipple/tipple/Lot;"⟩).before a0 Z = true := ht hw 26 rfl
theorem w27 {Z a0} (hw : Ht a0 Z) : (Cond.static ⟨"com/example/tipple/tipple/TotalsTonsPinLaw", "lot", "(IIZ)Lcom/example/tipple/tipple/Lot;"⟩).before a0 Z = true := ht hw 27 rfl
theorem w28 {Z a0} (hw : Ht a0 Z) : (Cond.initialized "com/example/tipple/tipple/TotalsTonsPinLaw").before a0 Z = true := ht hw 28 rfl
theorem pd_27 : parseMethodDescriptor "(IIZ)Lcom/example/tipple/tipple/Lot;" = some ⟨[.int, .int, .boolean], some (.object "com/example/tipple/tipple/Lot")⟩ := by decide +kernel
theorem w73 {Z a0} (hw : Ht a0 Z) : (Cond.selects "java/util/ArrayList" ⟨"java/util/List", "add", "(Ljava/lang/Object;)Z"⟩ ⟨"java/util/ArrayList", "add", "(Ljava/lang/Object;)Z"⟩).before a0 Z = true := ht hw 73 rfl
theorem w78 {Z a0} (hw : Ht a0 Z) : (Cond.code ⟨"java/util/ArrayList", "add", "(Ljava/lang/Object;)Z"⟩ jdk_38_method_25_code (2 : Nat) (Option.some Jvm.ClassFile.FieldType.boolean)).before a0 Z = true := ht hw 78 rfl
theorem w70 {Z a0} (hw : Ht a0 Z) : (Cond.methodLink "com/example/tipple/tipple/TotalsTonsPinLaw" (37 : Nat) ⟨"java/util/List", "add", "(Ljava/lang/Object;)Z"⟩).before a0 Z = true := ht hw 70 rfl
theorem w71 {Z a0} (hw : Ht a0 Z) : (Cond.declares ⟨"java/util/List", "add", "(Ljava/lang/Object;)Z"⟩).before a0 Z = true := ht hw 71 rfl
theorem w72 {Z a0} (hw : Ht a0 Z) : (Cond.interfaceMethod "java/util/List" "java/util/List" "add" "(Ljava/lang/Object;)Z").before a0 Z = true := ht hw 72 rfl
theorem w74 {Z a0} (hw : Ht a0 Z) : (Cond.instanceMethod ⟨"java/util/ArrayList", "add", "(Ljava/lang/Object;)Z"⟩).before a0 Z = true := ht hw 74 rfl
theorem w75 {Z a0} (hw : Ht a0 Z) : (Cond.publicMethod ⟨"java/util/ArrayList", "add", "(Ljava/lang/Object;)Z"⟩).before a0 Z = true := ht hw 75 rfl
theorem w76 {Z a0} (hw : Ht a0 Z) : (Cond.unhidden "java/util/ArrayList" "add" "(Ljava/lang/Object;)Z").before a0 Z = true := ht hw 76 rfl
theorem pd_28 : parseMethodDescriptor "(Ljava/lang/Object;)Z" = some ⟨[(.object "java/lang/Object")], some .boolean⟩ := by decide +kernel
theorem w107 {Z a0} (hw : Ht a0 Z) : (Cond.code ⟨"com/example/tipple/tipple/TotalsTonsPinLaw", "pow10", "(I)J"⟩ method_2_code (1 : Nat) (Option.some Jvm.ClassFile.FieldType.long)).before a0 Z = true := ht hw 107 rfl
theorem w105 {Z a0} (hw : Ht a0 Z) : (Cond.methodLink "com/example/tipple/tipple/TotalsTonsPinLaw" (43 : Nat) ⟨"com/example/tipple/tipple/TotalsTonsPinLaw", "pow10", "(I)J"⟩).before a0 Z = true := ht hw 105 rfl
theorem w106 {Z a0} (hw : Ht a0 Z) : (Cond.static ⟨"com/example/tipple/tipple/TotalsTonsPinLaw", "pow10", "(I)J"⟩).before a0 Z = true := ht hw 106 rfl
theorem pd_29 : parseMethodDescriptor "(I)J" = some ⟨[.int], some .long⟩ := by decide +kernel
theorem w109 {Z a0} (hw : Ht a0 Z) : (Cond.methodLink "com/example/tipple/tipple/TotalsTonsPinLaw" (47 : Nat) ⟨"java/lang/Math", "max", "(II)I"⟩).before a0 Z = true := ht hw 109 rfl
def Q_law0 (Z : State) (p0 : Int32) (p1 : Int32) (p2 : Int32) (p3 : Int32) (wZ : Addr) (wT : Addr) (wS : Addr) (wP : Addr) (wH : Addr) (kT : ClassId) (kS : ClassId) (kP : ClassId) (kH : ClassId) (zt : Nat → Addr) (zs : Nat → Addr) (wD : Addr) (kD : ClassId) (vD : List Value) (h0 : Heap) (n0 : Nat) (v : Option Value) (h : Heap) (L : List Loc) : Prop := v = some (.int (1 : Int32)) ∧ Fr n0 L
set_option maxRecDepth 65536 in
set_option maxHeartbeats 40000000 in
theorem law0 (l : Launch) (Z : State) (a0 : Array Value) (hw : Ht a0 Z) (p0 : Int32) (p1 : Int32) (p2 : Int32) (p3 : Int32) (wZ : Addr) (wT : Addr) (wS : Addr) (wP : Addr) (wH : Addr) (kT : ClassId) (kS : ClassId) (kP : ClassId) (kH : ClassId) (zt : Nat → Addr) (zs : Nat → Addr) (wD : Addr) (kD : ClassId) (vD : List Value) (h0 : Heap) (n0 : Nat) (Z0 : n0 ≤ h0.size) (O0 : Old Z n0 h0) (P0 : BigS Z wZ wT wS wP wH kT kS kP kH zt zs) (P1 : Sta Z Z.heap "java/util/ArrayList" "DEFAULTCAPACITY_EMPTY_ELEMENTDATA" "[Ljava/lang/Object;" (.ref wD)) (P2 : Arv Z Z.heap wD kD (.object "java/lang/Object") (0 : Int32) vD .null) :
    Con l Z x code maxLocals ret room_1 #[(.int p0), (.int p1), (.int p2), (.int p3)] h0 (Q_law0 Z p0 p1 p2 p3 wZ wT wS wP wH kT kS kP kH zt zs wD kD vD h0 n0) := by
  refine OwnW.body (Ls := #[iS p0, iS p1, iS p2, iS p3, uS, uS, uS, uS, uS, uS, uS, uS, uS, uS, uS, uS]) (plainFor_of_name pn_7) (fun m => by first | (simp [entryFrame, mkF, argsToLocals, Value.category, maxLocals]; done) | rfl) ?_
  intro p e s m below meth c s₁ hx hy hml hown hnm hret hlk hZ X0 e0
  let QQ := Q_law0 Z p0 p1 p2 p3 wZ wT wS wP wH kT kS kP kH zt zs wD kD vD h0 n0
  have N0 := Fr.nil n0
  show Go p e below (s₁.setTop (mkF m 0 #[iS p0, iS p1, iS p2, iS p3, uS, uS, uS, uS, uS, uS, uS, uS, uS, uS, uS, uS] [])) (EndQ s below room_1.cells room_1.slots QQ)
  have ⟨bZ, bZv, bT, bTv, bTa, bS, bSv, bSa, bP, bPv, bH, bHv, bA⟩ := P0
  refine gon s₁ (mkF m 6 #[iS p0,iS p1,iS p2,iS p3,iS (p3 &&& (3 : Int32)),uS,uS,uS,uS,uS,uS,uS,uS,uS,uS,uS] [(.int p3)]) (fun _ k => XS.iloadN X0.here hx rfl (hb hy at_0) rfl (XS.iconst X0.here hx rfl (hb hy at_1) (XS.iand X0.here hx rfl (hb hy at_2) rfl (XS.istore X0.here hx rfl (hb hy at_3) rfl (l' := #[iS p0, iS p1, iS p2, iS p3, iS (p3 &&& (3 : Int32)), uS, uS, uS, uS, uS, uS, uS, uS, uS, uS, uS]) rfl (XS.iloadN X0.here hx rfl (hb hy at_5) rfl k))))) ?_
  refine gon s₁ (mkF m 10 #[iS p0,iS p1,iS p2,iS p3,iS (p3 &&& (3 : Int32)),uS,uS,uS,uS,uS,uS,uS,uS,uS,uS,uS] [(.int (((p3.toUInt32 >>> ((2 : Int32) &&& 31).toUInt32).toInt32) &&& (1 : Int32)))]) (fun _ k => XS.iconst X0.here hx rfl (hb hy at_6) (XS.iushr X0.here hx rfl (hb hy at_7) rfl (XS.iconst X0.here hx rfl (hb hy at_8) (XS.iand X0.here hx rfl (hb hy at_9) rfl k)))) ?_
  suffices hj_1 : ∀ (rja : Int32), Go p e below (s₁.setTop (mkF m 18 #[iS p0,iS p1,iS p2,iS p3,iS (p3 &&& (3 : Int32)),uS,uS,uS,uS,uS,uS,uS,uS,uS,uS,uS] [(.int rja)])) (EndQ s below room_1.cells room_1.slots QQ) by
    by_cases hc10_hj_1 : (((p3.toUInt32 >>> ((2 : Int32) &&& 31).toUInt32).toInt32) &&& (1 : Int32)) = (0 : Int32)
    · refine gon s₁ (mkF m 18 #[iS p0,iS p1,iS p2,iS p3,iS (p3 &&& (3 : Int32)),uS,uS,uS,uS,uS,uS,uS,uS,uS,uS,uS] [(.int 0)]) (fun _ k => XS.ifYes X0.here hx rfl (pc0 := 10) (pc' := 17) rfl (hb hy at_10) rfl ((if0 _ _).trans (teq hc10_hj_1).1) (by decide) (by decide) (XS.iconst X0.here hx rfl (hb hy at_17) k)) ?_
      exact hj_1 (0 : Int32)
    · refine gon s₁ (mkF m 18 #[iS p0,iS p1,iS p2,iS p3,iS (p3 &&& (3 : Int32)),uS,uS,uS,uS,uS,uS,uS,uS,uS,uS,uS] [(.int 1)]) (fun _ k => XS.ifNo X0.here hx rfl (hb hy at_10) rfl ((if0 _ _).trans (feq hc10_hj_1).1) (XS.iconst X0.here hx rfl (hb hy at_13) (XS.goto X0.here hx rfl (pc0 := 14) (pc' := 18) rfl (hb hy at_14) (by decide) (by decide) k))) ?_
      exact hj_1 (1 : Int32)
  intro rja
  refine gon s₁ (mkF m 24 #[iS p0,iS p1,iS p2,iS p3,iS (p3 &&& (3 : Int32)),iS rja,uS,uS,uS,uS,uS,uS,uS,uS,uS,uS] [(.int 1), (.int ((p3.toUInt32 >>> ((3 : Int32) &&& 31).toUInt32).toInt32))]) (fun _ k => XS.istore X0.here hx rfl (hb hy at_18) rfl (l' := #[iS p0, iS p1, iS p2, iS p3, iS (p3 &&& (3 : Int32)), iS rja, uS, uS, uS, uS, uS, uS, uS, uS, uS, uS]) rfl (XS.iloadN X0.here hx rfl (hb hy at_20) rfl (XS.iconst X0.here hx rfl (hb hy at_21) (XS.iushr X0.here hx rfl (hb hy at_22) rfl (XS.iconst X0.here hx rfl (hb hy at_23) k))))) ?_
  refine gon s₁ (mkF m 25 #[iS p0,iS p1,iS p2,iS p3,iS (p3 &&& (3 : Int32)),iS rja,uS,uS,uS,uS,uS,uS,uS,uS,uS,uS] [(.int (((p3.toUInt32 >>> ((3 : Int32) &&& 31).toUInt32).toInt32) &&& (1 : Int32)))]) (fun _ k => XS.iand X0.here hx rfl (hb hy at_24) rfl k) ?_
  suffices hj_2 : ∀ (rjb : Int32), Go p e below (s₁.setTop (mkF m 33 #[iS p0,iS p1,iS p2,iS p3,iS (p3 &&& (3 : Int32)),iS rja,uS,uS,uS,uS,uS,uS,uS,uS,uS,uS] [(.int rjb)])) (EndQ s below room_1.cells room_1.slots QQ) by
    by_cases hc25_hj_2 : (((p3.toUInt32 >>> ((3 : Int32) &&& 31).toUInt32).toInt32) &&& (1 : Int32)) = (0 : Int32)
    · refine gon s₁ (mkF m 33 #[iS p0,iS p1,iS p2,iS p3,iS (p3 &&& (3 : Int32)),iS rja,uS,uS,uS,uS,uS,uS,uS,uS,uS,uS] [(.int 0)]) (fun _ k => XS.ifYes X0.here hx rfl (pc0 := 25) (pc' := 32) rfl (hb hy at_25) rfl ((if0 _ _).trans (teq hc25_hj_2).1) (by decide) (by decide) (XS.iconst X0.here hx rfl (hb hy at_32) k)) ?_
      exact hj_2 (0 : Int32)
    · refine gon s₁ (mkF m 33 #[iS p0,iS p1,iS p2,iS p3,iS (p3 &&& (3 : Int32)),iS rja,uS,uS,uS,uS,uS,uS,uS,uS,uS,uS] [(.int 1)]) (fun _ k => XS.ifNo X0.here hx rfl (hb hy at_25) rfl ((if0 _ _).trans (feq hc25_hj_2).1) (XS.iconst X0.here hx rfl (hb hy at_28) (XS.goto X0.here hx rfl (pc0 := 29) (pc' := 33) rfl (hb hy at_29) (by decide) (by decide) k))) ?_
      exact hj_2 (1 : Int32)
  intro rjb
  refine gon s₁ (mkF m 39 #[iS p0,iS p1,iS p2,iS p3,iS (p3 &&& (3 : Int32)),iS rja,iS rjb,uS,uS,uS,uS,uS,uS,uS,uS,uS] [(.int 1), (.int ((p3.toUInt32 >>> ((4 : Int32) &&& 31).toUInt32).toInt32))]) (fun _ k => XS.istore X0.here hx rfl (hb hy at_33) rfl (l' := #[iS p0, iS p1, iS p2, iS p3, iS (p3 &&& (3 : Int32)), iS rja, iS rjb, uS, uS, uS, uS, uS, uS, uS, uS, uS]) rfl (XS.iloadN X0.here hx rfl (hb hy at_35) rfl (XS.iconst X0.here hx rfl (hb hy at_36) (XS.iushr X0.here hx rfl (hb hy at_37) rfl (XS.iconst X0.here hx rfl (hb hy at_38) k))))) ?_
  refine gon s₁ (mkF m 40 #[iS p0,iS p1,iS p2,iS p3,iS (p3 &&& (3 : Int32)),iS rja,iS rjb,uS,uS,uS,uS,uS,uS,uS,uS,uS] [(.int (((p3.toUInt32 >>> ((4 : Int32) &&& 31).toUInt32).toInt32) &&& (1 : Int32)))]) (fun _ k => XS.iand X0.here hx rfl (hb hy at_39) rfl k) ?_
  suffices hj_3 : ∀ (rjc : Int32), Go p e below (s₁.setTop (mkF m 48 #[iS p0,iS p1,iS p2,iS p3,iS (p3 &&& (3 : Int32)),iS rja,iS rjb,uS,uS,uS,uS,uS,uS,uS,uS,uS] [(.int rjc)])) (EndQ s below room_1.cells room_1.slots QQ) by
    by_cases hc40_hj_3 : (((p3.toUInt32 >>> ((4 : Int32) &&& 31).toUInt32).toInt32) &&& (1 : Int32)) = (0 : Int32)
    · refine gon s₁ (mkF m 48 #[iS p0,iS p1,iS p2,iS p3,iS (p3 &&& (3 : Int32)),iS rja,iS rjb,uS,uS,uS,uS,uS,uS,uS,uS,uS] [(.int 0)]) (fun _ k => XS.ifYes X0.here hx rfl (pc0 := 40) (pc' := 47) rfl (hb hy at_40) rfl ((if0 _ _).trans (teq hc40_hj_3).1) (by decide) (by decide) (XS.iconst X0.here hx rfl (hb hy at_47) k)) ?_
      exact hj_3 (0 : Int32)
    · refine gon s₁ (mkF m 48 #[iS p0,iS p1,iS p2,iS p3,iS (p3 &&& (3 : Int32)),iS rja,iS rjb,uS,uS,uS,uS,uS,uS,uS,uS,uS] [(.int 1)]) (fun _ k => XS.ifNo X0.here hx rfl (hb hy at_40) rfl ((if0 _ _).trans (feq hc40_hj_3).1) (XS.iconst X0.here hx rfl (hb hy at_43) (XS.goto X0.here hx rfl (pc0 := 44) (pc' := 48) rfl (hb hy at_44) (by decide) (by decide) k))) ?_
      exact hj_3 (1 : Int32)
  intro rjc
  refine gon s₁ (mkF m 54 #[iS p0,iS p1,iS p2,iS p3,iS (p3 &&& (3 : Int32)),iS rja,iS rjb,iS rjc,uS,uS,uS,uS,uS,uS,uS,uS] [(.int 3), (.int ((p3.toUInt32 >>> ((5 : Int32) &&& 31).toUInt32).toInt32))]) (fun _ k => XS.istore X0.here hx rfl (hb hy at_48) rfl (l' := #[iS p0, iS p1, iS p2, iS p3, iS (p3 &&& (3 : Int32)), iS rja, iS rjb, iS rjc, uS, uS, uS, uS, uS, uS, uS, uS]) rfl (XS.iloadN X0.here hx rfl (hb hy at_50) rfl (XS.iconst X0.here hx rfl (hb hy at_51) (XS.iushr X0.here hx rfl (hb hy at_52) rfl (XS.iconst X0.here hx rfl (hb hy at_53) k))))) ?_
  refine gon s₁ (mkF m 55 #[iS p0,iS p1,iS p2,iS p3,iS (p3 &&& (3 : Int32)),iS rja,iS rjb,iS rjc,uS,uS,uS,uS,uS,uS,uS,uS] [(.int (((p3.toUInt32 >>> ((5 : Int32) &&& 31).toUInt32).toInt32) &&& (3 : Int32)))]) (fun _ k => XS.iand X0.here hx rfl (hb hy at_54) rfl k) ?_
  obtain ⟨sa, hsa⟩ : ∃ z, (((p3.toUInt32 >>> ((5 : Int32) &&& 31).toUInt32).toInt32) &&& (3 : Int32)) = z := ⟨_, rfl⟩
  have Psa : Sc sa := hsa ▸ own_sc3 _
  rw [hsa]
  refine gon s₁ (mkF m 62 #[iS p0,iS p1,iS p2,iS p3,iS (p3 &&& (3 : Int32)),iS rja,iS rjb,iS rjc,iS sa,uS,uS,uS,uS,uS,uS,uS] [(.int 3), (.int ((p3.toUInt32 >>> ((7 : Int32) &&& 31).toUInt32).toInt32))]) (fun _ k => XS.istore X0.here hx rfl (hb hy at_55) rfl (l' := #[iS p0, iS p1, iS p2, iS p3, iS (p3 &&& (3 : Int32)), iS rja, iS rjb, iS rjc, iS sa, uS, uS, uS, uS, uS, uS, uS]) rfl (XS.iloadN X0.here hx rfl (hb hy at_57) rfl (XS.bipush X0.here hx rfl (hb hy at_58) (XS.iushr X0.here hx rfl (hb hy at_60) rfl (XS.iconst X0.here hx rfl (hb hy at_61) k))))) ?_
  refine gon s₁ (mkF m 63 #[iS p0,iS p1,iS p2,iS p3,iS (p3 &&& (3 : Int32)),iS rja,iS rjb,iS rjc,iS sa,uS,uS,uS,uS,uS,uS,uS] [(.int (((p3.toUInt32 >>> ((7 : Int32) &&& 31).toUInt32).toInt32) &&& (3 : Int32)))]) (fun _ k => XS.iand X0.here hx rfl (hb hy at_62) rfl k) ?_
  obtain ⟨sb, hsb⟩ : ∃ z, (((p3.toUInt32 >>> ((7 : Int32) &&& 31).toUInt32).toInt32) &&& (3 : Int32)) = z := ⟨_, rfl⟩
  have Psb : Sc sb := hsb ▸ own_sc3 _
  rw [hsb]
  refine gon s₁ (mkF m 70 #[iS p0,iS p1,iS p2,iS p3,iS (p3 &&& (3 : Int32)),iS rja,iS rjb,iS rjc,iS sa,iS sb,uS,uS,uS,uS,uS,uS] [(.int 3), (.int ((p3.toUInt32 >>> ((9 : Int32) &&& 31).toUInt32).toInt32))]) (fun _ k => XS.istore X0.here hx rfl (hb hy at_63) rfl (l' := #[iS p0, iS p1, iS p2, iS p3, iS (p3 &&& (3 : Int32)), iS rja, iS rjb, iS rjc, iS sa, iS sb, uS, uS, uS, uS, uS, uS]) rfl (XS.iloadN X0.here hx rfl (hb hy at_65) rfl (XS.bipush X0.here hx rfl (hb hy at_66) (XS.iushr X0.here hx rfl (hb hy at_68) rfl (XS.iconst X0.here hx rfl (hb hy at_69) k))))) ?_
  refine gon s₁ (mkF m 71 #[iS p0,iS p1,iS p2,iS p3,iS (p3 &&& (3 : Int32)),iS rja,iS rjb,iS rjc,iS sa,iS sb,uS,uS,uS,uS,uS,uS] [(.int (((p3.toUInt32 >>> ((9 : Int32) &&& 31).toUInt32).toInt32) &&& (3 : Int32)))]) (fun _ k => XS.iand X0.here hx rfl (hb hy at_70) rfl k) ?_
  obtain ⟨sc, hsc⟩ : ∃ z, (((p3.toUInt32 >>> ((9 : Int32) &&& 31).toUInt32).toInt32) &&& (3 : Int32)) = z := ⟨_, rfl⟩
  have Psc : Sc sc := hsc ▸ own_sc3 _
  rw [hsc]
  refine gon s₁ (mkF m 73 #[iS p0,iS p1,iS p2,iS p3,iS (p3 &&& (3 : Int32)),iS rja,iS rjb,iS rjc,iS sa,iS sb,iS sc,uS,uS,uS,uS,uS] []) (fun _ k => XS.istore X0.here hx rfl (hb hy at_71) rfl (l' := #[iS p0, iS p1, iS p2, iS p3, iS (p3 &&& (3 : Int32)), iS rja, iS rjb, iS rjc, iS sa, iS sb, iS sc, uS, uS, uS, uS, uS]) rfl k) ?_
  obtain ⟨T4, h4, b4, X4, e4, E4, s4, A4, D4, st4⟩ := OwnW.newO X0 hx hZ hown (w0 hw) (w1 hw) (w2 hw) e0 (Ls := #[iS p0, iS p1, iS p2, iS p3, iS (p3 &&& (3 : Int32)), iS rja, iS rjb, iS rjc, iS sa, iS sb, iS sc, uS, uS, uS, uS, uS]) (st := []) (hb hy at_73) (by decide) (by decide)
  have F4_modCount : Fld Z h4 b4 "java/util/AbstractList" "modCount" "I" (.int (0 : Int32)) := D4 (Or.inl (w22 hw)) (ty := .int) (by decide)
  have F4_elementData : Fld Z h4 b4 "java/util/ArrayList" "elementData" "[Ljava/lang/Object;" .null := D4 (Or.inl (w25 hw)) (ty := (.array (.object "java/lang/Object"))) (by decide)
  have F4_size : Fld Z h4 b4 "java/util/ArrayList" "size" "I" (.int (0 : Int32)) := D4 (Or.inl (w82 hw)) (ty := .int) (by decide)
  refine gon T4 (mkF m 76 #[iS p0,iS p1,iS p2,iS p3,iS (p3 &&& (3 : Int32)),iS rja,iS rjb,iS rjc,iS sa,iS sb,iS sc,uS,uS,uS,uS,uS] [(.ref b4)]) (st4) ?_
  refine gon T4 (mkF m 77 #[iS p0,iS p1,iS p2,iS p3,iS (p3 &&& (3 : Int32)),iS rja,iS rjb,iS rjc,iS sa,iS sb,iS sc,uS,uS,uS,uS,uS] [(.ref b4), (.ref b4)]) (fun _ k => XS.dup X4.here hx rfl (hb hy at_76) rfl rfl k) ?_
  have g_6 : n0 ≤ b4 := Nat.le_trans Z0 s4
  have Z_7 : n0 ≤ h4.size := Nat.le_trans Z0 E4.1
  have O_8 : Old Z n0 h4 := O0.ext E4
  obtain ⟨v5, T5, L5, X5, hQ5, st5⟩ := OwnW.callC (y := (⟨"java/util/ArrayList", "<init>", "()V"⟩ : MethodName)) X4 hx hZ hown rfl (w3 hw) (w4 hw) (w2 hw) (w5 hw) (by decide) (b := b4) (alInit l Z a0 hw b4 wD h4 n0 Z_7 O_8 A4 F4_modCount F4_elementData g_6 P1 F4_size) e4 (Ls := #[iS p0, iS p1, iS p2, iS p3, iS (p3 &&& (3 : Int32)), iS rja, iS rjb, iS rjc, iS sa, iS sb, iS sc, uS, uS, uS, uS, uS]) (by rw [hml]; rfl) pd_0 (argsL := []) rfl (rest := [(.ref b4)]) rfl (W := 1) rfl (hb hy at_77) (by decide) (by decide) (by decide) (by decide)
  obtain ⟨rfl, Nq5, Kq5, q5_0, q5_1, q5_2⟩ := hQ5
  have N5 := Fr.app N0 Nq5
  refine gon T5 (mkF m 80 #[iS p0,iS p1,iS p2,iS p3,iS (p3 &&& (3 : Int32)),iS rja,iS rjb,iS rjc,iS sa,iS sb,iS sc,uS,uS,uS,uS,uS] [(.ref b4)]) (st5) ?_
  refine gon T5 (mkF m 88 #[iS p0,iS p1,iS p2,iS p3,iS (p3 &&& (3 : Int32)),iS rja,iS rjb,iS rjc,iS sa,iS sb,iS sc,rS b4,jS 0,dS,iS 0,uS] []) (fun _ k => XS.astore X5.here hx rfl (hb hy at_80) rfl rfl (l' := #[iS p0, iS p1, iS p2, iS p3, iS (p3 &&& (3 : Int32)), iS rja, iS rjb, iS rjc, iS sa, iS sb, iS sc, rS b4, uS, uS, uS, uS]) rfl (XS.lconst X5.here hx rfl (hb hy at_82) (XS.lstore X5.here hx rfl (hb hy at_83) rfl (l' := #[iS p0, iS p1, iS p2, iS p3, iS (p3 &&& (3 : Int32)), iS rja, iS rjb, iS rjc, iS sa, iS sb, iS sc, rS b4, jS 0, dS, uS, uS]) rfl (XS.iconst X5.here hx rfl (hb hy at_85) (XS.istore X5.here hx rfl (hb hy at_86) rfl (l' := #[iS p0, iS p1, iS p2, iS p3, iS (p3 &&& (3 : Int32)), iS rja, iS rjb, iS rjc, iS sa, iS sb, iS sc, rS b4, jS 0, dS, iS 0, uS]) rfl k))))) ?_
  refine gon T5 (mkF m 91 #[iS p0,iS p1,iS p2,iS p3,iS (p3 &&& (3 : Int32)),iS rja,iS rjb,iS rjc,iS sa,iS sb,iS sc,rS b4,jS 0,dS,iS 0,uS] [(.int 1), (.int (p3 &&& (3 : Int32)))]) (fun _ k => XS.iload X5.here hx rfl (hb hy at_88) rfl (XS.iconst X5.here hx rfl (hb hy at_90) k)) ?_
  by_cases hc91_9 : (p3 &&& (3 : Int32)) < (1 : Int32)
  · refine gon T5 (mkF m 137 #[iS p0,iS p1,iS p2,iS p3,iS (p3 &&& (3 : Int32)),iS rja,iS rjb,iS rjc,iS sa,iS sb,iS sc,rS b4,jS 0,dS,iS 0,uS] [(.int 2), (.int (p3 &&& (3 : Int32)))]) (fun _ k => XS.icmpYes X5.here hx rfl (pc0 := 91) (pc' := 134) rfl (hb hy at_91) rfl (tlt hc91_9).1 (by decide) (by decide) (XS.iload X5.here hx rfl (hb hy at_134) rfl (XS.iconst X5.here hx rfl (hb hy at_136) k))) ?_
    refine gon T5 (mkF m 183 #[iS p0,iS p1,iS p2,iS p3,iS (p3 &&& (3 : Int32)),iS rja,iS rjb,iS rjc,iS sa,iS sb,iS sc,rS b4,jS 0,dS,iS 0,uS] [(.int 3), (.int (p3 &&& (3 : Int32)))]) (fun _ k => XS.icmpYes X5.here hx rfl (pc0 := 137) (pc' := 180) rfl (hb hy at_137) rfl (tlt (own_lt12 hc91_9 : (p3 &&& (3 : Int32)) < (2 : Int32))).1 (by decide) (by decide) (XS.iload X5.here hx rfl (hb hy at_180) rfl (XS.iconst X5.here hx rfl (hb hy at_182) k))) ?_
    refine gon T5 (mkF m 226 #[iS p0,iS p1,iS p2,iS p3,iS (p3 &&& (3 : Int32)),iS rja,iS rjb,iS rjc,iS sa,iS sb,iS sc,rS b4,jS 0,dS,iS 0,uS] []) (fun _ k => XS.icmpYes X5.here hx rfl (pc0 := 183) (pc' := 226) rfl (hb hy at_183) rfl (tlt (own_lt23 (own_lt12 hc91_9) : (p3 &&& (3 : Int32)) < (3 : Int32))).1 (by decide) (by decide) k) ?_
    have e0_ : (0 : Int64).toInt = 0 := by decide
    have hsm0 : ((0 : Int64)).toInt = 0 := by omega
    obtain ⟨sm, hsm⟩ : ∃ z, (0 : Int64) = z := ⟨_, rfl⟩
    rw [hsm] at hsm0
    subst hsm
    have hsmB : Bq (0 : Int64) := by unfold Bq; omega
    refine gon T5 (mkF m 228 #[iS p0,iS p1,iS p2,iS p3,iS (p3 &&& (3 : Int32)),iS rja,iS rjb,iS rjc,iS sa,iS sb,iS sc,rS b4,jS 0,dS,iS 0,uS] [(.ref b4)]) (fun _ k => XS.aload X5.here hx rfl (hb hy at_226) rfl rfl k) ?_
    have c_11 := Exa.keep A4 Kq5
    have Z_12 : n0 ≤ T5.heap.size := Nat.le_trans Z_7 Kq5.1
    have O_13 : Old Z n0 T5.heap := O_8.keep Kq5 (allS g_6 all0)
    obtain ⟨v10, T10, L10, X10, hQ10, st10⟩ := OwnW.callS X5 hx hZ hown (w110 hw) (w111 hw) (w112 hw) (w113 hw) (by decide) (tons0 l Z a0 hw b4 wZ wT wS wP wH kT kS kP kH zt zs T5.heap n0 Z_12 O_13 P0 c_11 q5_2 q5_1) rfl (Ls := #[iS p0, iS p1, iS p2, iS p3, iS (p3 &&& (3 : Int32)), iS rja, iS rjb, iS rjc, iS sa, iS sb, iS sc, rS b4, jS 0, dS, iS 0, uS]) (by rw [hml]; rfl) pd_26 (argsL := [(.ref b4)]) rfl (rest := []) rfl (W := 0) rfl (hb hy at_228) (by decide) (by decide) (by decide) (by decide)
    obtain ⟨b_14, z_15, t_16, rfl, Nq10, Kq10, q10_0, q10_1, q10_2, q10_3⟩ := hQ10
    have N10 := Fr.app N5 Nq10
    refine gon T10 (mkF m 231 #[iS p0,iS p1,iS p2,iS p3,iS (p3 &&& (3 : Int32)),iS rja,iS rjb,iS rjc,iS sa,iS sb,iS sc,rS b4,jS 0,dS,iS 0,uS] [(.ref b_14)]) (st10) ?_
    refine gon T10 (mkF m 238 #[iS p0,iS p1,iS p2,iS p3,iS (p3 &&& (3 : Int32)),iS rja,iS rjb,iS rjc,iS sa,iS sb,iS sc,rS b4,jS 0,dS,iS 0,rS b_14] [(.int 3), (.long 0), (.ref b_14)]) (fun _ k => XS.astore X10.here hx rfl (hb hy at_231) rfl rfl (l' := #[iS p0, iS p1, iS p2, iS p3, iS (p3 &&& (3 : Int32)), iS rja, iS rjb, iS rjc, iS sa, iS sb, iS sc, rS b4, jS 0, dS, iS 0, rS b_14]) rfl (XS.aload X10.here hx rfl (hb hy at_233) rfl rfl (XS.lload X10.here hx rfl (hb hy at_235) rfl (XS.iconst X10.here hx rfl (hb hy at_237) k)))) ?_
    have Z_18 : n0 ≤ T10.heap.size := Nat.le_trans Z_12 Kq10.1
    have O_19 : Old Z n0 T10.heap := O_13.keep Kq10 all0
    obtain ⟨v17, T17, L17, X17, hQ17, st17⟩ := OwnW.callS X10 hx hZ hown (w33 hw) (w34 hw) (w35 hw) (w36 hw) (by decide) (valJI l Z a0 hw (0 : Int64) (3 : Int32) wZ wT wS wP wH kT kS kP kH zt zs T10.heap n0 Z_18 O_19 P0 (own_bdMin (own_bd1 hsmB) : ¬ ((0 : Int64) = (-9223372036854775808 : Int64))) (by unfold Sc; decide : Sc (3 : Int32))) rfl (Ls := #[iS p0, iS p1, iS p2, iS p3, iS (p3 &&& (3 : Int32)), iS rja, iS rjb, iS rjc, iS sa, iS sb, iS sc, rS b4, jS 0, dS, iS 0, rS b_14]) (by rw [hml]; rfl) pd_10 (argsL := [(.long (0 : Int64)), (.int (3 : Int32))]) rfl (rest := [(.ref b_14)]) rfl (W := 1) rfl (hb hy at_238) (by decide) (by decide) (by decide) (by decide)
    obtain ⟨b_20, rfl, Nq17, Kq17, q17_0⟩ := hQ17
    have N17 := Fr.app N10 Nq17
    refine gon T17 (mkF m 241 #[iS p0,iS p1,iS p2,iS p3,iS (p3 &&& (3 : Int32)),iS rja,iS rjb,iS rjc,iS sa,iS sb,iS sc,rS b4,jS 0,dS,iS 0,rS b_14] [(.ref b_20), (.ref b_14)]) (st17) ?_
    have c_22 := Exa.keep q10_0.1 Kq17
    have c_23 := BDV.keep q10_0 Kq17 nin0
    have Z_24 : n0 ≤ T17.heap.size := Nat.le_trans Z_18 Kq17.1
    have O_25 : Old Z n0 T17.heap := O_19.keep Kq17 all0
    obtain ⟨v21, T21, L21, X21, hQ21, st21⟩ := OwnW.callV X17 hx hZ hown (w195 hw) (w196 hw) (notFace_of_selects (args := #[]) (mvT hZ (w198 hw))) (w198 hw) (w197 hw) (w35 hw) (w199 hw) (by decide) (b := b_14) (cmpT l Z a0 hw b_14 b_20 wZ wT wS wP wH kT kS kP kH zt zs z_15 t_16 (0 : Int64) T17.heap n0 Z_24 O_25 P0 c_23 q17_0 (own_bqN q10_1 (by rw [q10_3]; omega) (by rw [q10_3]; omega) : Bq z_15) hsmB q10_1 (hsm0.trans q10_3.symm : (0 : Int64).toInt = Nv3 z_15 t_16)) rfl c_22 (Ls := #[iS p0, iS p1, iS p2, iS p3, iS (p3 &&& (3 : Int32)), iS rja, iS rjb, iS rjc, iS sa, iS sb, iS sc, rS b4, jS 0, dS, iS 0, rS b_14]) (by rw [hml]; rfl) pd_25 (argsL := [(.ref b_20)]) rfl (rest := []) rfl (W := 0) rfl (hb hy at_241) (by decide) (by decide) (by decide) (by decide)
    obtain ⟨rfl, Nq21, Kq21, q21_0⟩ := hQ21
    have N21 := Fr.app N17 Nq21
    refine gon T21 (mkF m 244 #[iS p0,iS p1,iS p2,iS p3,iS (p3 &&& (3 : Int32)),iS rja,iS rjb,iS rjc,iS sa,iS sb,iS sc,rS b4,jS 0,dS,iS 0,rS b_14] [(.int 0)]) (st21) ?_
    refine gon T21 (mkF m 249 #[iS p0,iS p1,iS p2,iS p3,iS (p3 &&& (3 : Int32)),iS rja,iS rjb,iS rjc,iS sa,iS sb,iS sc,rS b4,jS 0,dS,iS 0,rS b_14] [(.ref b_14)]) (fun _ k => XS.ifNo X21.here hx rfl (hb hy at_244) rfl ((if0 _ _).trans (teq (by decide : (0 : Int32) = (0 : Int32))).2) (XS.aload X21.here hx rfl (hb hy at_247) rfl rfl k)) ?_
    have c_27 := Exa.keep c_22 Kq21
    have Z_28 : n0 ≤ T21.heap.size := Nat.le_trans Z_24 Kq21.1
    obtain ⟨v26, T26, L26, X26, hQ26, st26⟩ := OwnW.callV X21 hx hZ hown (w209 hw) (w210 hw) (notFace_of_selects (args := #[]) (mvT hZ (w212 hw))) (w212 hw) (w211 hw) (w35 hw) (w213 hw) (by decide) (b := b_14) (bscale l Z a0 hw b_14 t_16 T21.heap n0 Z_28 q21_0) rfl c_27 (Ls := #[iS p0, iS p1, iS p2, iS p3, iS (p3 &&& (3 : Int32)), iS rja, iS rjb, iS rjc, iS sa, iS sb, iS sc, rS b4, jS 0, dS, iS 0, rS b_14]) (by rw [hml]; rfl) pd_24 (argsL := []) rfl (rest := []) rfl (W := 0) rfl (hb hy at_249) (by decide) (by decide) (by decide) (by decide)
    obtain ⟨rfl, Nq26, eq26⟩ := hQ26
    have N26 := Fr.app N21 Nq26
    refine gon T26 (mkF m 252 #[iS p0,iS p1,iS p2,iS p3,iS (p3 &&& (3 : Int32)),iS rja,iS rjb,iS rjc,iS sa,iS sb,iS sc,rS b4,jS 0,dS,iS 0,rS b_14] [(.int t_16)]) (st26) ?_
    refine gon T26 (mkF m 254 #[iS p0,iS p1,iS p2,iS p3,iS (p3 &&& (3 : Int32)),iS rja,iS rjb,iS rjc,iS sa,iS sb,iS sc,rS b4,jS 0,dS,iS 0,rS b_14] [(.int 0), (.int t_16)]) (fun _ k => XS.iload X26.here hx rfl (hb hy at_252) rfl k) ?_
    refine gon T26 (mkF m 262 #[iS p0,iS p1,iS p2,iS p3,iS (p3 &&& (3 : Int32)),iS rja,iS rjb,iS rjc,iS sa,iS sb,iS sc,rS b4,jS 0,dS,iS 0,rS b_14] [(.int 1)]) (fun _ k => XS.icmpNo X26.here hx rfl (hb hy at_254) rfl (teq (q10_2 : t_16 = (0 : Int32))).2 (XS.iconst X26.here hx rfl (hb hy at_257) (XS.goto X26.here hx rfl (pc0 := 258) (pc' := 262) rfl (hb hy at_258) (by decide) (by decide) k))) ?_
    exact OwnW.retN X26 hx hlk hret (t := .boolean) (by simp) (z' := (1 : Int32)) (hb hy at_262) (by decide) (by decide) rfl (show QQ _ T26.heap _ from (by rw [eq26]; exact ⟨rfl, N26⟩))
  · refine gon T5 (mkF m 101 #[iS p0,iS p1,iS p2,iS p3,iS (p3 &&& (3 : Int32)),iS rja,iS rjb,iS rjc,iS sa,iS sb,iS sc,rS b4,jS 0,dS,iS 0,uS] [(.int rja), (.int sa), (.int p0), (.ref b4)]) (fun _ k => XS.icmpNo X5.here hx rfl (hb hy at_91) rfl (flt hc91_9).1 (XS.aload X5.here hx rfl (hb hy at_94) rfl rfl (XS.iloadN X5.here hx rfl (hb hy at_96) rfl (XS.iload X5.here hx rfl (hb hy at_97) rfl (XS.iload X5.here hx rfl (hb hy at_99) rfl k))))) ?_
    have Z_30 : n0 ≤ T5.heap.size := Nat.le_trans Z_7 Kq5.1
    have O_31 : Old Z n0 T5.heap := O_8.keep Kq5 (allS g_6 all0)
    obtain ⟨v29, T29, L29, X29, hQ29, st29⟩ := OwnW.callS X5 hx hZ hown (w26 hw) (w27 hw) (w28 hw) (w29 hw) (by decide) (lot l Z a0 hw p0 sa rja wZ wT wS wP wH kT kS kP kH zt zs T5.heap n0 Z_30 O_31 P0 Psa) rfl (Ls := #[iS p0, iS p1, iS p2, iS p3, iS (p3 &&& (3 : Int32)), iS rja, iS rjb, iS rjc, iS sa, iS sb, iS sc, rS b4, jS 0, dS, iS 0, uS]) (by rw [hml]; rfl) pd_27 (argsL := [(.int p0), (.int sa), (.int rja)]) rfl (rest := [(.ref b4)]) rfl (W := 1) rfl (hb hy at_101) (by decide) (by decide) (by decide) (by decide)
    obtain ⟨lt_32, b_33, rfl, Nq29, Kq29, q29_0, q29_1, q29_2, q29_3⟩ := hQ29
    have N29 := Fr.app N5 Nq29
    refine gon T29 (mkF m 104 #[iS p0,iS p1,iS p2,iS p3,iS (p3 &&& (3 : Int32)),iS rja,iS rjb,iS rjc,iS sa,iS sb,iS sc,rS b4,jS 0,dS,iS 0,uS] [(.ref lt_32), (.ref b4)]) (st29) ?_
    have c_35 := Exa.keep (Exa.keep A4 Kq5) Kq29
    have c_36 := Fld.keep q5_0 Kq29 nin0
    have c_37 := Fld.keep q5_2 Kq29 nin0
    have c_38 := Fld.keep q5_1 Kq29 nin0
    have Z_39 : n0 ≤ T29.heap.size := Nat.le_trans Z_30 Kq29.1
    have O_40 : Old Z n0 T29.heap := O_31.keep Kq29 all0
    obtain ⟨v34, T34, L34, X34, hQ34, st34⟩ := OwnW.callI X29 hx hZ hown (w70 hw) (w71 hw) (mvT hZ (w72 hw)) (w73 hw) (w74 hw) (w75 hw) (w76 hw) (w77 hw) (w2 hw) (w78 hw) (by decide) (b := b4) (add0 l Z a0 hw b4 lt_32 wD kD vD T29.heap n0 Z_39 O_40 c_35 g_6 q29_1 c_36 c_37 c_38 P1 P2) rfl c_35 (Ls := #[iS p0, iS p1, iS p2, iS p3, iS (p3 &&& (3 : Int32)), iS rja, iS rjb, iS rjc, iS sa, iS sb, iS sc, rS b4, jS 0, dS, iS 0, uS]) (by rw [hml]; rfl) pd_28 (argsL := [(.ref lt_32)]) rfl (rest := []) rfl (W := 0) rfl (hb hy at_104) (by decide) (by decide) (by decide) (by decide)
    obtain ⟨el_41, kel_42, rfl, Nq34, Kq34, q34_0, q34_1, q34_2, q34_3, q34_4, q34_5, q34_6⟩ := hQ34
    have N34 := Fr.app N29 Nq34
    refine gon T34 (mkF m 109 #[iS p0,iS p1,iS p2,iS p3,iS (p3 &&& (3 : Int32)),iS rja,iS rjb,iS rjc,iS sa,iS sb,iS sc,rS b4,jS 0,dS,iS 0,uS] [(.int 1)]) (st34) ?_
    refine gon T34 (mkF m 115 #[iS p0,iS p1,iS p2,iS p3,iS (p3 &&& (3 : Int32)),iS rja,iS rjb,iS rjc,iS sa,iS sb,iS sc,rS b4,jS 0,dS,iS 0,uS] [(.int 3), (.long (p0.toInt64)), (.long 0)]) (fun _ k => XS.pop X34.here hx rfl (hb hy at_109) rfl rfl (XS.lload X34.here hx rfl (hb hy at_110) rfl (XS.iloadN X34.here hx rfl (hb hy at_112) rfl (XS.i2l X34.here hx rfl (hb hy at_113) rfl (XS.iconst X34.here hx rfl (hb hy at_114) k))))) ?_
    refine gon T34 (mkF m 118 #[iS p0,iS p1,iS p2,iS p3,iS (p3 &&& (3 : Int32)),iS rja,iS rjb,iS rjc,iS sa,iS sb,iS sc,rS b4,jS 0,dS,iS 0,uS] [(.int ((3 : Int32) - sa)), (.long (p0.toInt64)), (.long 0)]) (fun _ k => XS.iload X34.here hx rfl (hb hy at_115) rfl (XS.isub X34.here hx rfl (hb hy at_117) rfl k)) ?_
    have Z_44 : n0 ≤ T34.heap.size := Nat.le_trans Z_39 Kq34.1
    obtain ⟨v43, T43, L43, X43, hQ43, st43⟩ := OwnW.callS X34 hx hZ hown (w105 hw) (w106 hw) (w28 hw) (w107 hw) (by decide) (pow10 l Z a0 hw ((3 : Int32) - sa) T34.heap n0 Z_44 ) rfl (Ls := #[iS p0, iS p1, iS p2, iS p3, iS (p3 &&& (3 : Int32)), iS rja, iS rjb, iS rjc, iS sa, iS sb, iS sc, rS b4, jS 0, dS, iS 0, uS]) (by rw [hml]; rfl) pd_29 (argsL := [(.int ((3 : Int32) - sa))]) rfl (rest := [(.long (p0.toInt64)), (.long (0 : Int64))]) rfl (W := 4) rfl (hb hy at_118) (by decide) (by decide) (by decide) (by decide)
    obtain ⟨rfl, Nq43, eq43⟩ := hQ43
    have N43 := Fr.app N34 Nq43
    refine gon T43 (mkF m 121 #[iS p0,iS p1,iS p2,iS p3,iS (p3 &&& (3 : Int32)),iS rja,iS rjb,iS rjc,iS sa,iS sb,iS sc,rS b4,jS 0,dS,iS 0,uS] [(.long (p10 ((3 : Int32) - sa))), (.long (p0.toInt64)), (.long 0)]) (st43) ?_
    refine gon T43 (mkF m 129 #[iS p0,iS p1,iS p2,iS p3,iS (p3 &&& (3 : Int32)),iS rja,iS rjb,iS rjc,iS sa,iS sb,iS sc,rS b4,jS ((0 : Int64) + ((p0.toInt64) * (p10 ((3 : Int32) - sa)))),dS,iS 0,uS] [(.int sa), (.int 0)]) (fun _ k => XS.lmul X43.here hx rfl (hb hy at_121) rfl (XS.ladd X43.here hx rfl (hb hy at_122) rfl (XS.lstore X43.here hx rfl (hb hy at_123) rfl (l' := #[iS p0, iS p1, iS p2, iS p3, iS (p3 &&& (3 : Int32)), iS rja, iS rjb, iS rjc, iS sa, iS sb, iS sc, rS b4, jS ((0 : Int64) + ((p0.toInt64) * (p10 ((3 : Int32) - sa)))), dS, iS 0, uS]) rfl (XS.iload X43.here hx rfl (hb hy at_125) rfl (XS.iload X43.here hx rfl (hb hy at_127) rfl k))))) ?_
    obtain ⟨v45, T45, L45, X45, hQ45, st45⟩ := OwnW.callS X43 hx hZ hown (w109 hw) (w99 hw) (w100 hw) (w101 hw) (by decide) (maxI l Z a0 hw (0 : Int32) sa T34.heap n0 Z_44 ) eq43 (Ls := #[iS p0, iS p1, iS p2, iS p3, iS (p3 &&& (3 : Int32)), iS rja, iS rjb, iS rjc, iS sa, iS sb, iS sc, rS b4, jS ((0 : Int64) + ((p0.toInt64) * (p10 ((3 : Int32) - sa)))), dS, iS 0, uS]) (by rw [hml]; rfl) pd_1 (argsL := [(.int (0 : Int32)), (.int sa)]) rfl (rest := []) rfl (W := 0) rfl (hb hy at_129) (by decide) (by decide) (by decide) (by decide)
    obtain ⟨rfl, Nq45, eq45⟩ := hQ45
    have N45 := Fr.app N43 Nq45
    refine gon T45 (mkF m 132 #[iS p0,iS p1,iS p2,iS p3,iS (p3 &&& (3 : Int32)),iS rja,iS rjb,iS rjc,iS sa,iS sb,iS sc,rS b4,jS ((0 : Int64) + ((p0.toInt64) * (p10 ((3 : Int32) - sa)))),dS,iS 0,uS] [(.int (imax (0 : Int32) sa))]) (st45) ?_
    refine gon T45 (mkF m 137 #[iS p0,iS p1,iS p2,iS p3,iS (p3 &&& (3 : Int32)),iS rja,iS rjb,iS rjc,iS sa,iS sb,iS sc,rS b4,jS ((0 : Int64) + ((p0.toInt64) * (p10 ((3 : Int32) - sa)))),dS,iS (imax (0 : Int32) sa),uS] [(.int 2), (.int (p3 &&& (3 : Int32)))]) (fun _ k => XS.istore X45.here hx rfl (hb hy at_132) rfl (l' := #[iS p0, iS p1, iS p2, iS p3, iS (p3 &&& (3 : Int32)), iS rja, iS rjb, iS rjc, iS sa, iS sb, iS sc, rS b4, jS ((0 : Int64) + ((p0.toInt64) * (p10 ((3 : Int32) - sa)))), dS, iS (imax (0 : Int32) sa), uS]) rfl (XS.iload X45.here hx rfl (hb hy at_134) rfl (XS.iconst X45.here hx rfl (hb hy at_136) k))) ?_
    by_cases hc137_46 : (p3 &&& (3 : Int32)) < (2 : Int32)
    · refine gon T45 (mkF m 183 #[iS p0,iS p1,iS p2,iS p3,iS (p3 &&& (3 : Int32)),iS rja,iS rjb,iS rjc,iS sa,iS sb,iS sc,rS b4,jS ((0 : Int64) + ((p0.toInt64) * (p10 ((3 : Int32) - sa)))),dS,iS (imax (0 : Int32) sa),uS] [(.int 3), (.int (p3 &&& (3 : Int32)))]) (fun _ k => XS.icmpYes X45.here hx rfl (pc0 := 137) (pc' := 180) rfl (hb hy at_137) rfl (tlt hc137_46).1 (by decide) (by decide) (XS.iload X45.here hx rfl (hb hy at_180) rfl (XS.iconst X45.here hx rfl (hb hy at_182) k))) ?_
      refine gon T45 (mkF m 226 #[iS p0,iS p1,iS p2,iS p3,iS (p3 &&& (3 : Int32)),iS rja,iS rjb,iS rjc,iS sa,iS sb,iS sc,rS b4,jS ((0 : Int64) + ((p0.toInt64) * (p10 ((3 : Int32) - sa)))),dS,iS (imax (0 : Int32) sa),uS] []) (fun _ k => XS.icmpYes X45.here hx rfl (pc0 := 183) (pc' := 226) rfl (hb hy at_183) rfl (tlt (own_lt23 hc137_46 : (p3 &&& (3 : Int32)) < (3 : Int32))).1 (by decide) (by decide) k) ?_
      have e0_ : (0 : Int64).toInt = 0 := by decide
      have t0_ := own_term p0 Psa
      have b0_ := own_nI p0 Psa
      have c0_ := c_ladd (0 : Int64) ((p0.toInt64) * (p10 ((3 : Int32) - sa)))
      have r0_ := rng64 ((0 : Int64) + ((p0.toInt64) * (p10 ((3 : Int32) - sa))))
      have hsm0 : (((0 : Int64) + ((p0.toInt64) * (p10 ((3 : Int32) - sa))))).toInt = Nv3 (p0.toInt64) sa := by omega
      obtain ⟨sm, hsm⟩ : ∃ z, ((0 : Int64) + ((p0.toInt64) * (p10 ((3 : Int32) - sa)))) = z := ⟨_, rfl⟩
      rw [hsm] at hsm0 ⊢
      have hsmB : Bq sm := by unfold Bq; omega
      refine gon T45 (mkF m 228 #[iS p0,iS p1,iS p2,iS p3,iS (p3 &&& (3 : Int32)),iS rja,iS rjb,iS rjc,iS sa,iS sb,iS sc,rS b4,jS sm,dS,iS (imax (0 : Int32) sa),uS] [(.ref b4)]) (fun _ k => XS.aload X45.here hx rfl (hb hy at_226) rfl rfl k) ?_
      have c_48 := Exa.keep c_35 Kq34
      have c_49 := Exa.keep q29_1 Kq34
      have ne_50 : lt_32 ≠ b4 := Ne.symm (ne_of_born (Exa.keep A4 Kq5).lt q29_0)
      have c_51 := Fld.keep q29_2 Kq34 (ninS ne_50 nin0)
      have c_52 := Exa.keep q29_3.1 Kq34
      have ne_53 : b_33 ≠ b4 := ne_exa c_52 c_48 (by decide)
      have c_54 := BDV.keep q29_3 Kq34 (ninS ne_53 nin0)
      have O_55 : Old Z n0 T34.heap := O_40.keep Kq34 (allS g_6 all0)
      obtain ⟨v47, T47, L47, X47, hQ47, st47⟩ := OwnW.callS X45 hx hZ hown (w110 hw) (w111 hw) (w112 hw) (w113 hw) (by decide) (tons1 l Z a0 hw b4 wZ wT wS wP wH kT kS kP kH zt zs el_41 kel_42 lt_32 b_33 p0 sa T34.heap n0 Z_44 O_55 P0 c_48 q34_5 q34_6 q34_4 q34_1 q34_2 c_49 c_51 c_54 Psa) eq45 (Ls := #[iS p0, iS p1, iS p2, iS p3, iS (p3 &&& (3 : Int32)), iS rja, iS rjb, iS rjc, iS sa, iS sb, iS sc, rS b4, jS sm, dS, iS (imax (0 : Int32) sa), uS]) (by rw [hml]; rfl) pd_26 (argsL := [(.ref b4)]) rfl (rest := []) rfl (W := 0) rfl (hb hy at_228) (by decide) (by decide) (by decide) (by decide)
      obtain ⟨b_56, z_57, t_58, rfl, Nq47, Kq47, q47_0, q47_1, q47_2, q47_3⟩ := hQ47
      have N47 := Fr.app N45 Nq47
      refine gon T47 (mkF m 231 #[iS p0,iS p1,iS p2,iS p3,iS (p3 &&& (3 : Int32)),iS rja,iS rjb,iS rjc,iS sa,iS sb,iS sc,rS b4,jS sm,dS,iS (imax (0 : Int32) sa),uS] [(.ref b_56)]) (st47) ?_
      refine gon T47 (mkF m 238 #[iS p0,iS p1,iS p2,iS p3,iS (p3 &&& (3 : Int32)),iS rja,iS rjb,iS rjc,iS sa,iS sb,iS sc,rS b4,jS sm,dS,iS (imax (0 : Int32) sa),rS b_56] [(.int 3), (.long sm), (.ref b_56)]) (fun _ k => XS.astore X47.here hx rfl (hb hy at_231) rfl rfl (l' := #[iS p0, iS p1, iS p2, iS p3, iS (p3 &&& (3 : Int32)), iS rja, iS rjb, iS rjc, iS sa, iS sb, iS sc, rS b4, jS sm, dS, iS (imax (0 : Int32) sa), rS b_56]) rfl (XS.aload X47.here hx rfl (hb hy at_233) rfl rfl (XS.lload X47.here hx rfl (hb hy at_235) rfl (XS.iconst X47.here hx rfl (hb hy at_237) k)))) ?_
      have Z_60 : n0 ≤ T47.heap.size := Nat.le_trans Z_44 Kq47.1
      have O_61 : Old Z n0 T47.heap := O_55.keep Kq47 all0
      obtain ⟨v59, T59, L59, X59, hQ59, st59⟩ := OwnW.callS X47 hx hZ hown (w33 hw) (w34 hw) (w35 hw) (w36 hw) (by decide) (valJI l Z a0 hw sm (3 : Int32) wZ wT wS wP wH kT kS kP kH zt zs T47.heap n0 Z_60 O_61 P0 (own_bdMin (own_bd1 hsmB) : ¬ (sm = (-9223372036854775808 : Int64))) (by unfold Sc; decide : Sc (3 : Int32))) rfl (Ls := #[iS p0, iS p1, iS p2, iS p3, iS (p3 &&& (3 : Int32)), iS rja, iS rjb, iS rjc, iS sa, iS sb, iS sc, rS b4, jS sm, dS, iS (imax (0 : Int32) sa), rS b_56]) (by rw [hml]; rfl) pd_10 (argsL := [(.long sm), (.int (3 : Int32))]) rfl (rest := [(.ref b_56)]) rfl (W := 1) rfl (hb hy at_238) (by decide) (by decide) (by decide) (by decide)
      obtain ⟨b_62, rfl, Nq59, Kq59, q59_0⟩ := hQ59
      have N59 := Fr.app N47 Nq59
      refine gon T59 (mkF m 241 #[iS p0,iS p1,iS p2,iS p3,iS (p3 &&& (3 : Int32)),iS rja,iS rjb,iS rjc,iS sa,iS sb,iS sc,rS b4,jS sm,dS,iS (imax (0 : Int32) sa),rS b_56] [(.ref b_62), (.ref b_56)]) (st59) ?_
      have c_64 := Exa.keep q47_0.1 Kq59
      have c_65 := BDV.keep q47_0 Kq59 nin0
      have Z_66 : n0 ≤ T59.heap.size := Nat.le_trans Z_60 Kq59.1
      have O_67 : Old Z n0 T59.heap := O_61.keep Kq59 all0
      obtain ⟨v63, T63, L63, X63, hQ63, st63⟩ := OwnW.callV X59 hx hZ hown (w195 hw) (w196 hw) (notFace_of_selects (args := #[]) (mvT hZ (w198 hw))) (w198 hw) (w197 hw) (w35 hw) (w199 hw) (by decide) (b := b_56) (cmpT l Z a0 hw b_56 b_62 wZ wT wS wP wH kT kS kP kH zt zs z_57 t_58 sm T59.heap n0 Z_66 O_67 P0 c_65 q59_0 (own_bqN q47_1 (by rw [q47_3]; omega) (by rw [q47_3]; omega) : Bq z_57) hsmB q47_1 (hsm0.trans q47_3.symm : sm.toInt = Nv3 z_57 t_58)) rfl c_64 (Ls := #[iS p0, iS p1, iS p2, iS p3, iS (p3 &&& (3 : Int32)), iS rja, iS rjb, iS rjc, iS sa, iS sb, iS sc, rS b4, jS sm, dS, iS (imax (0 : Int32) sa), rS b_56]) (by rw [hml]; rfl) pd_25 (argsL := [(.ref b_62)]) rfl (rest := []) rfl (W := 0) rfl (hb hy at_241) (by decide) (by decide) (by decide) (by decide)
      obtain ⟨rfl, Nq63, Kq63, q63_0⟩ := hQ63
      have N63 := Fr.app N59 Nq63
      refine gon T63 (mkF m 244 #[iS p0,iS p1,iS p2,iS p3,iS (p3 &&& (3 : Int32)),iS rja,iS rjb,iS rjc,iS sa,iS sb,iS sc,rS b4,jS sm,dS,iS (imax (0 : Int32) sa),rS b_56] [(.int 0)]) (st63) ?_
      refine gon T63 (mkF m 249 #[iS p0,iS p1,iS p2,iS p3,iS (p3 &&& (3 : Int32)),iS rja,iS rjb,iS rjc,iS sa,iS sb,iS sc,rS b4,jS sm,dS,iS (imax (0 : Int32) sa),rS b_56] [(.ref b_56)]) (fun _ k => XS.ifNo X63.here hx rfl (hb hy at_244) rfl ((if0 _ _).trans (teq (by decide : (0 : Int32) = (0 : Int32))).2) (XS.aload X63.here hx rfl (hb hy at_247) rfl rfl k)) ?_
      have c_69 := Exa.keep c_64 Kq63
      have Z_70 : n0 ≤ T63.heap.size := Nat.le_trans Z_66 Kq63.1
      obtain ⟨v68, T68, L68, X68, hQ68, st68⟩ := OwnW.callV X63 hx hZ hown (w209 hw) (w210 hw) (notFace_of_selects (args := #[]) (mvT hZ (w212 hw))) (w212 hw) (w211 hw) (w35 hw) (w213 hw) (by decide) (b := b_56) (bscale l Z a0 hw b_56 t_58 T63.heap n0 Z_70 q63_0) rfl c_69 (Ls := #[iS p0, iS p1, iS p2, iS p3, iS (p3 &&& (3 : Int32)), iS rja, iS rjb, iS rjc, iS sa, iS sb, iS sc, rS b4, jS sm, dS, iS (imax (0 : Int32) sa), rS b_56]) (by rw [hml]; rfl) pd_24 (argsL := []) rfl (rest := []) rfl (W := 0) rfl (hb hy at_249) (by decide) (by decide) (by decide) (by decide)
      obtain ⟨rfl, Nq68, eq68⟩ := hQ68
      have N68 := Fr.app N63 Nq68
      refine gon T68 (mkF m 252 #[iS p0,iS p1,iS p2,iS p3,iS (p3 &&& (3 : Int32)),iS rja,iS rjb,iS rjc,iS sa,iS sb,iS sc,rS b4,jS sm,dS,iS (imax (0 : Int32) sa),rS b_56] [(.int t_58)]) (st68) ?_
      refine gon T68 (mkF m 254 #[iS p0,iS p1,iS p2,iS p3,iS (p3 &&& (3 : Int32)),iS rja,iS rjb,iS rjc,iS sa,iS sb,iS sc,rS b4,jS sm,dS,iS (imax (0 : Int32) sa),rS b_56] [(.int (imax (0 : Int32) sa)), (.int t_58)]) (fun _ k => XS.iload X68.here hx rfl (hb hy at_252) rfl k) ?_
      refine gon T68 (mkF m 262 #[iS p0,iS p1,iS p2,iS p3,iS (p3 &&& (3 : Int32)),iS rja,iS rjb,iS rjc,iS sa,iS sb,iS sc,rS b4,jS sm,dS,iS (imax (0 : Int32) sa),rS b_56] [(.int 1)]) (fun _ k => XS.icmpNo X68.here hx rfl (hb hy at_254) rfl (teq (q47_2 : t_58 = (imax (0 : Int32) sa))).2 (XS.iconst X68.here hx rfl (hb hy at_257) (XS.goto X68.here hx rfl (pc0 := 258) (pc' := 262) rfl (hb hy at_258) (by decide) (by decide) k))) ?_
      exact OwnW.retN X68 hx hlk hret (t := .boolean) (by simp) (z' := (1 : Int32)) (hb hy at_262) (by decide) (by decide) rfl (show QQ _ T68.heap _ from (by rw [eq68]; exact ⟨rfl, N68⟩))
    · refine gon T45 (mkF m 147 #[iS p0,iS p1,iS p2,iS p3,iS (p3 &&& (3 : Int32)),iS rja,iS rjb,iS rjc,iS sa,iS sb,iS sc,rS b4,jS ((0 : Int64) + ((p0.toInt64) * (p10 ((3 : Int32) - sa)))),dS,iS (imax (0 : Int32) sa),uS] [(.int rjb), (.int sb), (.int p1), (.ref b4)]) (fun _ k => XS.icmpNo X45.here hx rfl (hb hy at_137) rfl (flt hc137_46).1 (XS.aload X45.here hx rfl (hb hy at_140) rfl rfl (XS.iloadN X45.here hx rfl (hb hy at_142) rfl (XS.iload X45.here hx rfl (hb hy at_143) rfl (XS.iload X45.here hx rfl (hb hy at_145) rfl k))))) ?_
      have O_72 : Old Z n0 T34.heap := O_40.keep Kq34 (allS g_6 all0)
      obtain ⟨v71, T71, L71, X71, hQ71, st71⟩ := OwnW.callS X45 hx hZ hown (w26 hw) (w27 hw) (w28 hw) (w29 hw) (by decide) (lot l Z a0 hw p1 sb rjb wZ wT wS wP wH kT kS kP kH zt zs T34.heap n0 Z_44 O_72 P0 Psb) eq45 (Ls := #[iS p0, iS p1, iS p2, iS p3, iS (p3 &&& (3 : Int32)), iS rja, iS rjb, iS rjc, iS sa, iS sb, iS sc, rS b4, jS ((0 : Int64) + ((p0.toInt64) * (p10 ((3 : Int32) - sa)))), dS, iS (imax (0 : Int32) sa), uS]) (by rw [hml]; rfl) pd_27 (argsL := [(.int p1), (.int sb), (.int rjb)]) rfl (rest := [(.ref b4)]) rfl (W := 1) rfl (hb hy at_147) (by decide) (by decide) (by decide) (by decide)
      obtain ⟨lt_73, b_74, rfl, Nq71, Kq71, q71_0, q71_1, q71_2, q71_3⟩ := hQ71
      have N71 := Fr.app N45 Nq71
      refine gon T71 (mkF m 150 #[iS p0,iS p1,iS p2,iS p3,iS (p3 &&& (3 : Int32)),iS rja,iS rjb,iS rjc,iS sa,iS sb,iS sc,rS b4,jS ((0 : Int64) + ((p0.toInt64) * (p10 ((3 : Int32) - sa)))),dS,iS (imax (0 : Int32) sa),uS] [(.ref lt_73), (.ref b4)]) (st71) ?_
      have c_76 := Exa.keep (Exa.keep c_35 Kq34) Kq71
      have c_77 := Fld.keep q34_4 Kq71 nin0
      have c_78 := Fld.keep q34_5 Kq71 nin0
      have c_79 := Fld.keep q34_6 Kq71 nin0
      have c_80 := Exa.keep q34_1 Kq71
      have g_81 : n0 ≤ el_41 := Nat.le_trans Z_39 q34_0
      have c_82 := Arv.keep q34_2 Kq71 nin0
      have Z_83 : n0 ≤ T71.heap.size := Nat.le_trans Z_44 Kq71.1
      obtain ⟨v75, T75, L75, X75, hQ75, st75⟩ := OwnW.callI X71 hx hZ hown (w70 hw) (w71 hw) (mvT hZ (w72 hw)) (w73 hw) (w74 hw) (w75 hw) (w76 hw) (w77 hw) (w2 hw) (w78 hw) (by decide) (b := b4) (add1 l Z a0 hw b4 lt_73 el_41 kel_42 lt_32 T71.heap n0 Z_83 c_76 g_6 q71_1 c_77 c_78 c_79 c_80 g_81 c_82 q34_3) rfl c_76 (Ls := #[iS p0, iS p1, iS p2, iS p3, iS (p3 &&& (3 : Int32)), iS rja, iS rjb, iS rjc, iS sa, iS sb, iS sc, rS b4, jS ((0 : Int64) + ((p0.toInt64) * (p10 ((3 : Int32) - sa)))), dS, iS (imax (0 : Int32) sa), uS]) (by rw [hml]; rfl) pd_28 (argsL := [(.ref lt_73)]) rfl (rest := []) rfl (W := 0) rfl (hb hy at_150) (by decide) (by decide) (by decide) (by decide)
      obtain ⟨rfl, Nq75, Kq75, q75_0, q75_1, q75_2, q75_3⟩ := hQ75
      have N75 := Fr.app N71 Nq75
      refine gon T75 (mkF m 155 #[iS p0,iS p1,iS p2,iS p3,iS (p3 &&& (3 : Int32)),iS rja,iS rjb,iS rjc,iS sa,iS sb,iS sc,rS b4,jS ((0 : Int64) + ((p0.toInt64) * (p10 ((3 : Int32) - sa)))),dS,iS (imax (0 : Int32) sa),uS] [(.int 1)]) (st75) ?_
      refine gon T75 (mkF m 161 #[iS p0,iS p1,iS p2,iS p3,iS (p3 &&& (3 : Int32)),iS rja,iS rjb,iS rjc,iS sa,iS sb,iS sc,rS b4,jS ((0 : Int64) + ((p0.toInt64) * (p10 ((3 : Int32) - sa)))),dS,iS (imax (0 : Int32) sa),uS] [(.int 3), (.long (p1.toInt64)), (.long ((0 : Int64) + ((p0.toInt64) * (p10 ((3 : Int32) - sa)))))]) (fun _ k => XS.pop X75.here hx rfl (hb hy at_155) rfl rfl (XS.lload X75.here hx rfl (hb hy at_156) rfl (XS.iloadN X75.here hx rfl (hb hy at_158) rfl (XS.i2l X75.here hx rfl (hb hy at_159) rfl (XS.iconst X75.here hx rfl (hb hy at_160) k))))) ?_
      refine gon T75 (mkF m 164 #[iS p0,iS p1,iS p2,iS p3,iS (p3 &&& (3 : Int32)),iS rja,iS rjb,iS rjc,iS sa,iS sb,iS sc,rS b4,jS ((0 : Int64) + ((p0.toInt64) * (p10 ((3 : Int32) - sa)))),dS,iS (imax (0 : Int32) sa),uS] [(.int ((3 : Int32) - sb)), (.long (p1.toInt64)), (.long ((0 : Int64) + ((p0.toInt64) * (p10 ((3 : Int32) - sa)))))]) (fun _ k => XS.iload X75.here hx rfl (hb hy at_161) rfl (XS.isub X75.here hx rfl (hb hy at_163) rfl k)) ?_
      have Z_85 : n0 ≤ T75.heap.size := Nat.le_trans Z_83 Kq75.1
      obtain ⟨v84, T84, L84, X84, hQ84, st84⟩ := OwnW.callS X75 hx hZ hown (w105 hw) (w106 hw) (w28 hw) (w107 hw) (by decide) (pow10 l Z a0 hw ((3 : Int32) - sb) T75.heap n0 Z_85 ) rfl (Ls := #[iS p0, iS p1, iS p2, iS p3, iS (p3 &&& (3 : Int32)), iS rja, iS rjb, iS rjc, iS sa, iS sb, iS sc, rS b4, jS ((0 : Int64) + ((p0.toInt64) * (p10 ((3 : Int32) - sa)))), dS, iS (imax (0 : Int32) sa), uS]) (by rw [hml]; rfl) pd_29 (argsL := [(.int ((3 : Int32) - sb))]) rfl (rest := [(.long (p1.toInt64)), (.long ((0 : Int64) + ((p0.toInt64) * (p10 ((3 : Int32) - sa)))))]) rfl (W := 4) rfl (hb hy at_164) (by decide) (by decide) (by decide) (by decide)
      obtain ⟨rfl, Nq84, eq84⟩ := hQ84
      have N84 := Fr.app N75 Nq84
      refine gon T84 (mkF m 167 #[iS p0,iS p1,iS p2,iS p3,iS (p3 &&& (3 : Int32)),iS rja,iS rjb,iS rjc,iS sa,iS sb,iS sc,rS b4,jS ((0 : Int64) + ((p0.toInt64) * (p10 ((3 : Int32) - sa)))),dS,iS (imax (0 : Int32) sa),uS] [(.long (p10 ((3 : Int32) - sb))), (.long (p1.toInt64)), (.long ((0 : Int64) + ((p0.toInt64) * (p10 ((3 : Int32) - sa)))))]) (st84) ?_
      refine gon T84 (mkF m 175 #[iS p0,iS p1,iS p2,iS p3,iS (p3 &&& (3 : Int32)),iS rja,iS rjb,iS rjc,iS sa,iS sb,iS sc,rS b4,jS (((0 : Int64) + ((p0.toInt64) * (p10 ((3 : Int32) - sa)))) + ((p1.toInt64) * (p10 ((3 : Int32) - sb)))),dS,iS (imax (0 : Int32) sa),uS] [(.int sb), (.int (imax (0 : Int32) sa))]) (fun _ k => XS.lmul X84.here hx rfl (hb hy at_167) rfl (XS.ladd X84.here hx rfl (hb hy at_168) rfl (XS.lstore X84.here hx rfl (hb hy at_169) rfl (l' := #[iS p0, iS p1, iS p2, iS p3, iS (p3 &&& (3 : Int32)), iS rja, iS rjb, iS rjc, iS sa, iS sb, iS sc, rS b4, jS (((0 : Int64) + ((p0.toInt64) * (p10 ((3 : Int32) - sa)))) + ((p1.toInt64) * (p10 ((3 : Int32) - sb)))), dS, iS (imax (0 : Int32) sa), uS]) rfl (XS.iload X84.here hx rfl (hb hy at_171) rfl (XS.iload X84.here hx rfl (hb hy at_173) rfl k))))) ?_
      obtain ⟨v86, T86, L86, X86, hQ86, st86⟩ := OwnW.callS X84 hx hZ hown (w109 hw) (w99 hw) (w100 hw) (w101 hw) (by decide) (maxI l Z a0 hw (imax (0 : Int32) sa) sb T75.heap n0 Z_85 ) eq84 (Ls := #[iS p0, iS p1, iS p2, iS p3, iS (p3 &&& (3 : Int32)), iS rja, iS rjb, iS rjc, iS sa, iS sb, iS sc, rS b4, jS (((0 : Int64) + ((p0.toInt64) * (p10 ((3 : Int32) - sa)))) + ((p1.toInt64) * (p10 ((3 : Int32) - sb)))), dS, iS (imax (0 : Int32) sa), uS]) (by rw [hml]; rfl) pd_1 (argsL := [(.int (imax (0 : Int32) sa)), (.int sb)]) rfl (rest := []) rfl (W := 0) rfl (hb hy at_175) (by decide) (by decide) (by decide) (by decide)
      obtain ⟨rfl, Nq86, eq86⟩ := hQ86
      have N86 := Fr.app N84 Nq86
      refine gon T86 (mkF m 178 #[iS p0,iS p1,iS p2,iS p3,iS (p3 &&& (3 : Int32)),iS rja,iS rjb,iS rjc,iS sa,iS sb,iS sc,rS b4,jS (((0 : Int64) + ((p0.toInt64) * (p10 ((3 : Int32) - sa)))) + ((p1.toInt64) * (p10 ((3 : Int32) - sb)))),dS,iS (imax (0 : Int32) sa),uS] [(.int (imax (imax (0 : Int32) sa) sb))]) (st86) ?_
      refine gon T86 (mkF m 183 #[iS p0,iS p1,iS p2,iS p3,iS (p3 &&& (3 : Int32)),iS rja,iS rjb,iS rjc,iS sa,iS sb,iS sc,rS b4,jS (((0 : Int64) + ((p0.toInt64) * (p10 ((3 : Int32) - sa)))) + ((p1.toInt64) * (p10 ((3 : Int32) - sb)))),dS,iS (imax (imax (0 : Int32) sa) sb),uS] [(.int 3), (.int (p3 &&& (3 : Int32)))]) (fun _ k => XS.istore X86.here hx rfl (hb hy at_178) rfl (l' := #[iS p0, iS p1, iS p2, iS p3, iS (p3 &&& (3 : Int32)), iS rja, iS rjb, iS rjc, iS sa, iS sb, iS sc, rS b4, jS (((0 : Int64) + ((p0.toInt64) * (p10 ((3 : Int32) - sa)))) + ((p1.toInt64) * (p10 ((3 : Int32) - sb)))), dS, iS (imax (imax (0 : Int32) sa) sb), uS]) rfl (XS.iload X86.here hx rfl (hb hy at_180) rfl (XS.iconst X86.here hx rfl (hb hy at_182) k))) ?_
      by_cases hc183_87 : (p3 &&& (3 : Int32)) < (3 : Int32)
      · refine gon T86 (mkF m 226 #[iS p0,iS p1,iS p2,iS p3,iS (p3 &&& (3 : Int32)),iS rja,iS rjb,iS rjc,iS sa,iS sb,iS sc,rS b4,jS (((0 : Int64) + ((p0.toInt64) * (p10 ((3 : Int32) - sa)))) + ((p1.toInt64) * (p10 ((3 : Int32) - sb)))),dS,iS (imax (imax (0 : Int32) sa) sb),uS] []) (fun _ k => XS.icmpYes X86.here hx rfl (pc0 := 183) (pc' := 226) rfl (hb hy at_183) rfl (tlt hc183_87).1 (by decide) (by decide) k) ?_
        have e0_ : (0 : Int64).toInt = 0 := by decide
        have t0_ := own_term p0 Psa
        have t1_ := own_term p1 Psb
        have b0_ := own_nI p0 Psa
        have b1_ := own_nI p1 Psb
        have c0_ := c_ladd (0 : Int64) ((p0.toInt64) * (p10 ((3 : Int32) - sa)))
        have r0_ := rng64 ((0 : Int64) + ((p0.toInt64) * (p10 ((3 : Int32) - sa))))
        have c1_ := c_ladd ((0 : Int64) + ((p0.toInt64) * (p10 ((3 : Int32) - sa)))) ((p1.toInt64) * (p10 ((3 : Int32) - sb)))
        have r1_ := rng64 (((0 : Int64) + ((p0.toInt64) * (p10 ((3 : Int32) - sa)))) + ((p1.toInt64) * (p10 ((3 : Int32) - sb))))
        have hsm0 : ((((0 : Int64) + ((p0.toInt64) * (p10 ((3 : Int32) - sa)))) + ((p1.toInt64) * (p10 ((3 : Int32) - sb))))).toInt = Nv3 (p0.toInt64) sa + Nv3 (p1.toInt64) sb := by omega
        obtain ⟨sm, hsm⟩ : ∃ z, (((0 : Int64) + ((p0.toInt64) * (p10 ((3 : Int32) - sa)))) + ((p1.toInt64) * (p10 ((3 : Int32) - sb)))) = z := ⟨_, rfl⟩
        rw [hsm] at hsm0 ⊢
        have hsmB : Bq sm := by unfold Bq; omega
        refine gon T86 (mkF m 228 #[iS p0,iS p1,iS p2,iS p3,iS (p3 &&& (3 : Int32)),iS rja,iS rjb,iS rjc,iS sa,iS sb,iS sc,rS b4,jS sm,dS,iS (imax (imax (0 : Int32) sa) sb),uS] [(.ref b4)]) (fun _ k => XS.aload X86.here hx rfl (hb hy at_226) rfl rfl k) ?_
        have c_89 := Exa.keep c_76 Kq75
        have c_90 := Exa.keep c_80 Kq75
        have c_91 := Exa.keep (Exa.keep (Exa.keep q29_1 Kq34) Kq71) Kq75
        have ne_92 : lt_32 ≠ b4 := Ne.symm (ne_of_born (Exa.keep A4 Kq5).lt q29_0)
        have ne_93 : lt_32 ≠ el_41 := ne_of_born q29_1.lt q34_0
        have c_94 := Fld.keep (Fld.keep (Fld.keep q29_2 Kq34 (ninS ne_92 nin0)) Kq71 nin0) Kq75 (ninS ne_92 (ninS ne_93 nin0))
        have c_95 := Exa.keep (Exa.keep (Exa.keep q29_3.1 Kq34) Kq71) Kq75
        have ne_96 : b_33 ≠ b4 := ne_exa c_95 c_89 (by decide)
        have ne_97 : b_33 ≠ el_41 := ne_of_born (q29_3.1).lt q34_0
        have c_98 := BDV.keep (BDV.keep (BDV.keep q29_3 Kq34 (ninS ne_96 nin0)) Kq71 nin0) Kq75 (ninS ne_96 (ninS ne_97 nin0))
        have c_99 := Exa.keep q71_1 Kq75
        have ne_100 : lt_73 ≠ b4 := Ne.symm (ne_of_born (Exa.keep (Exa.keep (Exa.keep A4 Kq5) Kq29) Kq34).lt q71_0)
        have ne_101 : lt_73 ≠ el_41 := Ne.symm (ne_of_born q34_1.lt q71_0)
        have c_102 := Fld.keep q71_2 Kq75 (ninS ne_100 (ninS ne_101 nin0))
        have c_103 := Exa.keep q71_3.1 Kq75
        have ne_104 : b_74 ≠ b4 := ne_exa c_103 c_89 (by decide)
        have ne_105 : b_74 ≠ el_41 := ne_exa c_103 c_90 (by decide)
        have c_106 := BDV.keep q71_3 Kq75 (ninS ne_104 (ninS ne_105 nin0))
        have O_107 : Old Z n0 T71.heap := O_72.keep Kq71 all0
        have O_108 : Old Z n0 T75.heap := O_107.keep Kq75 (allS g_6 (allS g_81 all0))
        obtain ⟨v88, T88, L88, X88, hQ88, st88⟩ := OwnW.callS X86 hx hZ hown (w110 hw) (w111 hw) (w112 hw) (w113 hw) (by decide) (tons2 l Z a0 hw b4 wZ wT wS wP wH kT kS kP kH zt zs el_41 kel_42 lt_32 b_33 p0 sa lt_73 b_74 p1 sb T75.heap n0 Z_85 O_108 P0 c_89 q75_2 q75_3 q75_1 c_90 q75_0 c_91 c_94 c_98 Psa c_99 c_102 c_106 Psb) eq86 (Ls := #[iS p0, iS p1, iS p2, iS p3, iS (p3 &&& (3 : Int32)), iS rja, iS rjb, iS rjc, iS sa, iS sb, iS sc, rS b4, jS sm, dS, iS (imax (imax (0 : Int32) sa) sb), uS]) (by rw [hml]; rfl) pd_26 (argsL := [(.ref b4)]) rfl (rest := []) rfl (W := 0) rfl (hb hy at_228) (by decide) (by decide) (by decide) (by decide)
        obtain ⟨b_109, z_110, t_111, rfl, Nq88, Kq88, q88_0, q88_1, q88_2, q88_3⟩ := hQ88
        have N88 := Fr.app N86 Nq88
        refine gon T88 (mkF m 231 #[iS p0,iS p1,iS p2,iS p3,iS (p3 &&& (3 : Int32)),iS rja,iS rjb,iS rjc,iS sa,iS sb,iS sc,rS b4,jS sm,dS,iS (imax (imax (0 : Int32) sa) sb),uS] [(.ref b_109)]) (st88) ?_
        refine gon T88 (mkF m 238 #[iS p0,iS p1,iS p2,iS p3,iS (p3 &&& (3 : Int32)),iS rja,iS rjb,iS rjc,iS sa,iS sb,iS sc,rS b4,jS sm,dS,iS (imax (imax (0 : Int32) sa) sb),rS b_109] [(.int 3), (.long sm), (.ref b_109)]) (fun _ k => XS.astore X88.here hx rfl (hb hy at_231) rfl rfl (l' := #[iS p0, iS p1, iS p2, iS p3, iS (p3 &&& (3 : Int32)), iS rja, iS rjb, iS rjc, iS sa, iS sb, iS sc, rS b4, jS sm, dS, iS (imax (imax (0 : Int32) sa) sb), rS b_109]) rfl (XS.aload X88.here hx rfl (hb hy at_233) rfl rfl (XS.lload X88.here hx rfl (hb hy at_235) rfl (XS.iconst X88.here hx rfl (hb hy at_237) k)))) ?_
        have Z_113 : n0 ≤ T88.heap.size := Nat.le_trans Z_85 Kq88.1
        have O_114 : Old Z n0 T88.heap := O_108.keep Kq88 all0
        obtain ⟨v112, T112, L112, X112, hQ112, st112⟩ := OwnW.callS X88 hx hZ hown (w33 hw) (w34 hw) (w35 hw) (w36 hw) (by decide) (valJI l Z a0 hw sm (3 : Int32) wZ wT wS wP wH kT kS kP kH zt zs T88.heap n0 Z_113 O_114 P0 (own_bdMin (own_bd1 hsmB) : ¬ (sm = (-9223372036854775808 : Int64))) (by unfold Sc; decide : Sc (3 : Int32))) rfl (Ls := #[iS p0, iS p1, iS p2, iS p3, iS (p3 &&& (3 : Int32)), iS rja, iS rjb, iS rjc, iS sa, iS sb, iS sc, rS b4, jS sm, dS, iS (imax (imax (0 : Int32) sa) sb), rS b_109]) (by rw [hml]; rfl) pd_10 (argsL := [(.long sm), (.int (3 : Int32))]) rfl (rest := [(.ref b_109)]) rfl (W := 1) rfl (hb hy at_238) (by decide) (by decide) (by decide) (by decide)
        obtain ⟨b_115, rfl, Nq112, Kq112, q112_0⟩ := hQ112
        have N112 := Fr.app N88 Nq112
        refine gon T112 (mkF m 241 #[iS p0,iS p1,iS p2,iS p3,iS (p3 &&& (3 : Int32)),iS rja,iS rjb,iS rjc,iS sa,iS sb,iS sc,rS b4,jS sm,dS,iS (imax (imax (0 : Int32) sa) sb),rS b_109] [(.ref b_115), (.ref b_109)]) (st112) ?_
        have c_117 := Exa.keep q88_0.1 Kq112
        have c_118 := BDV.keep q88_0 Kq112 nin0
        have Z_119 : n0 ≤ T112.heap.size := Nat.le_trans Z_113 Kq112.1
        have O_120 : Old Z n0 T112.heap := O_114.keep Kq112 all0
        obtain ⟨v116, T116, L116, X116, hQ116, st116⟩ := OwnW.callV X112 hx hZ hown (w195 hw) (w196 hw) (notFace_of_selects (args := #[]) (mvT hZ (w198 hw))) (w198 hw) (w197 hw) (w35 hw) (w199 hw) (by decide) (b := b_109) (cmpT l Z a0 hw b_109 b_115 wZ wT wS wP wH kT kS kP kH zt zs z_110 t_111 sm T112.heap n0 Z_119 O_120 P0 c_118 q112_0 (own_bqN q88_1 (by rw [q88_3]; omega) (by rw [q88_3]; omega) : Bq z_110) hsmB q88_1 (hsm0.trans q88_3.symm : sm.toInt = Nv3 z_110 t_111)) rfl c_117 (Ls := #[iS p0, iS p1, iS p2, iS p3, iS (p3 &&& (3 : Int32)), iS rja, iS rjb, iS rjc, iS sa, iS sb, iS sc, rS b4, jS sm, dS, iS (imax (imax (0 : Int32) sa) sb), rS b_109]) (by rw [hml]; rfl) pd_25 (argsL := [(.ref b_115)]) rfl (rest := []) rfl (W := 0) rfl (hb hy at_241) (by decide) (by decide) (by decide) (by decide)
        obtain ⟨rfl, Nq116, Kq116, q116_0⟩ := hQ116
        have N116 := Fr.app N112 Nq116
        refine gon T116 (mkF m 244 #[iS p0,iS p1,iS p2,iS p3,iS (p3 &&& (3 : Int32)),iS rja,iS rjb,iS rjc,iS sa,iS sb,iS sc,rS b4,jS sm,dS,iS (imax (imax (0 : Int32) sa) sb),rS b_109] [(.int 0)]) (st116) ?_
        refine gon T116 (mkF m 249 #[iS p0,iS p1,iS p2,iS p3,iS (p3 &&& (3 : Int32)),iS rja,iS rjb,iS rjc,iS sa,iS sb,iS sc,rS b4,jS sm,dS,iS (imax (imax (0 : Int32) sa) sb),rS b_109] [(.ref b_109)]) (fun _ k => XS.ifNo X116.here hx rfl (hb hy at_244) rfl ((if0 _ _).trans (teq (by decide : (0 : Int32) = (0 : Int32))).2) (XS.aload X116.here hx rfl (hb hy at_247) rfl rfl k)) ?_
        have c_122 := Exa.keep c_117 Kq116
        have Z_123 : n0 ≤ T116.heap.size := Nat.le_trans Z_119 Kq116.1
        obtain ⟨v121, T121, L121, X121, hQ121, st121⟩ := OwnW.callV X116 hx hZ hown (w209 hw) (w210 hw) (notFace_of_selects (args := #[]) (mvT hZ (w212 hw))) (w212 hw) (w211 hw) (w35 hw) (w213 hw) (by decide) (b := b_109) (bscale l Z a0 hw b_109 t_111 T116.heap n0 Z_123 q116_0) rfl c_122 (Ls := #[iS p0, iS p1, iS p2, iS p3, iS (p3 &&& (3 : Int32)), iS rja, iS rjb, iS rjc, iS sa, iS sb, iS sc, rS b4, jS sm, dS, iS (imax (imax (0 : Int32) sa) sb), rS b_109]) (by rw [hml]; rfl) pd_24 (argsL := []) rfl (rest := []) rfl (W := 0) rfl (hb hy at_249) (by decide) (by decide) (by decide) (by decide)
        obtain ⟨rfl, Nq121, eq121⟩ := hQ121
        have N121 := Fr.app N116 Nq121
        refine gon T121 (mkF m 252 #[iS p0,iS p1,iS p2,iS p3,iS (p3 &&& (3 : Int32)),iS rja,iS rjb,iS rjc,iS sa,iS sb,iS sc,rS b4,jS sm,dS,iS (imax (imax (0 : Int32) sa) sb),rS b_109] [(.int t_111)]) (st121) ?_
        refine gon T121 (mkF m 254 #[iS p0,iS p1,iS p2,iS p3,iS (p3 &&& (3 : Int32)),iS rja,iS rjb,iS rjc,iS sa,iS sb,iS sc,rS b4,jS sm,dS,iS (imax (imax (0 : Int32) sa) sb),rS b_109] [(.int (imax (imax (0 : Int32) sa) sb)), (.int t_111)]) (fun _ k => XS.iload X121.here hx rfl (hb hy at_252) rfl k) ?_
        refine gon T121 (mkF m 262 #[iS p0,iS p1,iS p2,iS p3,iS (p3 &&& (3 : Int32)),iS rja,iS rjb,iS rjc,iS sa,iS sb,iS sc,rS b4,jS sm,dS,iS (imax (imax (0 : Int32) sa) sb),rS b_109] [(.int 1)]) (fun _ k => XS.icmpNo X121.here hx rfl (hb hy at_254) rfl (teq (q88_2 : t_111 = (imax (imax (0 : Int32) sa) sb))).2 (XS.iconst X121.here hx rfl (hb hy at_257) (XS.goto X121.here hx rfl (pc0 := 258) (pc' := 262) rfl (hb hy at_258) (by decide) (by decide) k))) ?_
        exact OwnW.retN X121 hx hlk hret (t := .boolean) (by simp) (z' := (1 : Int32)) (hb hy at_262) (by decide) (by decide) rfl (show QQ _ T121.heap _ from (by rw [eq121]; exact ⟨rfl, N121⟩))
      · refine gon T86 (mkF m 193 #[iS p0,iS p1,iS p2,iS p3,iS (p3 &&& (3 : Int32)),iS rja,iS rjb,iS rjc,iS sa,iS sb,iS sc,rS b4,jS (((0 : Int64) + ((p0.toInt64) * (p10 ((3 : Int32) - sa)))) + ((p1.toInt64) * (p10 ((3 : Int32) - sb)))),dS,iS (imax (imax (0 : Int32) sa) sb),uS] [(.int rjc), (.int sc), (.int p2), (.ref b4)]) (fun _ k => XS.icmpNo X86.here hx rfl (hb hy at_183) rfl (flt hc183_87).1 (XS.aload X86.here hx rfl (hb hy at_186) rfl rfl (XS.iloadN X86.here hx rfl (hb hy at_188) rfl (XS.iload X86.here hx rfl (hb hy at_189) rfl (XS.iload X86.here hx rfl (hb hy at_191) rfl k))))) ?_
        have O_125 : Old Z n0 T71.heap := O_72.keep Kq71 all0
        have O_126 : Old Z n0 T75.heap := O_125.keep Kq75 (allS g_6 (allS g_81 all0))
        obtain ⟨v124, T124, L124, X124, hQ124, st124⟩ := OwnW.callS X86 hx hZ hown (w26 hw) (w27 hw) (w28 hw) (w29 hw) (by decide) (lot l Z a0 hw p2 sc rjc wZ wT wS wP wH kT kS kP kH zt zs T75.heap n0 Z_85 O_126 P0 Psc) eq86 (Ls := #[iS p0, iS p1, iS p2, iS p3, iS (p3 &&& (3 : Int32)), iS rja, iS rjb, iS rjc, iS sa, iS sb, iS sc, rS b4, jS (((0 : Int64) + ((p0.toInt64) * (p10 ((3 : Int32) - sa)))) + ((p1.toInt64) * (p10 ((3 : Int32) - sb)))), dS, iS (imax (imax (0 : Int32) sa) sb), uS]) (by rw [hml]; rfl) pd_27 (argsL := [(.int p2), (.int sc), (.int rjc)]) rfl (rest := [(.ref b4)]) rfl (W := 1) rfl (hb hy at_193) (by decide) (by decide) (by decide) (by decide)
        obtain ⟨lt_127, b_128, rfl, Nq124, Kq124, q124_0, q124_1, q124_2, q124_3⟩ := hQ124
        have N124 := Fr.app N86 Nq124
        refine gon T124 (mkF m 196 #[iS p0,iS p1,iS p2,iS p3,iS (p3 &&& (3 : Int32)),iS rja,iS rjb,iS rjc,iS sa,iS sb,iS sc,rS b4,jS (((0 : Int64) + ((p0.toInt64) * (p10 ((3 : Int32) - sa)))) + ((p1.toInt64) * (p10 ((3 : Int32) - sb)))),dS,iS (imax (imax (0 : Int32) sa) sb),uS] [(.ref lt_127), (.ref b4)]) (st124) ?_
        have c_130 := Exa.keep (Exa.keep c_76 Kq75) Kq124
        have c_131 := Fld.keep q75_1 Kq124 nin0
        have c_132 := Fld.keep q75_2 Kq124 nin0
        have c_133 := Fld.keep q75_3 Kq124 nin0
        have c_134 := Exa.keep (Exa.keep c_80 Kq75) Kq124
        have c_135 := Arv.keep q75_0 Kq124 nin0
        have Z_136 : n0 ≤ T124.heap.size := Nat.le_trans Z_85 Kq124.1
        obtain ⟨v129, T129, L129, X129, hQ129, st129⟩ := OwnW.callI X124 hx hZ hown (w70 hw) (w71 hw) (mvT hZ (w72 hw)) (w73 hw) (w74 hw) (w75 hw) (w76 hw) (w77 hw) (w2 hw) (w78 hw) (by decide) (b := b4) (add2 l Z a0 hw b4 lt_127 el_41 kel_42 lt_32 lt_73 T124.heap n0 Z_136 c_130 g_6 q124_1 c_131 c_132 c_133 c_134 g_81 c_135 q34_3) rfl c_130 (Ls := #[iS p0, iS p1, iS p2, iS p3, iS (p3 &&& (3 : Int32)), iS rja, iS rjb, iS rjc, iS sa, iS sb, iS sc, rS b4, jS (((0 : Int64) + ((p0.toInt64) * (p10 ((3 : Int32) - sa)))) + ((p1.toInt64) * (p10 ((3 : Int32) - sb)))), dS, iS (imax (imax (0 : Int32) sa) sb), uS]) (by rw [hml]; rfl) pd_28 (argsL := [(.ref lt_127)]) rfl (rest := []) rfl (W := 0) rfl (hb hy at_196) (by decide) (by decide) (by decide) (by decide)
        obtain ⟨rfl, Nq129, Kq129, q129_0, q129_1, q129_2, q129_3⟩ := hQ129
        have N129 := Fr.app N124 Nq129
        refine gon T129 (mkF m 201 #[iS p0,iS p1,iS p2,iS p3,iS (p3 &&& (3 : Int32)),iS rja,iS rjb,iS rjc,iS sa,iS sb,iS sc,rS b4,jS (((0 : Int64) + ((p0.toInt64) * (p10 ((3 : Int32) - sa)))) + ((p1.toInt64) * (p10 ((3 : Int32) - sb)))),dS,iS (imax (imax (0 : Int32) sa) sb),uS] [(.int 1)]) (st129) ?_
        refine gon T129 (mkF m 207 #[iS p0,iS p1,iS p2,iS p3,iS (p3 &&& (3 : Int32)),iS rja,iS rjb,iS rjc,iS sa,iS sb,iS sc,rS b4,jS (((0 : Int64) + ((p0.toInt64) * (p10 ((3 : Int32) - sa)))) + ((p1.toInt64) * (p10 ((3 : Int32) - sb)))),dS,iS (imax (imax (0 : Int32) sa) sb),uS] [(.int 3), (.long (p2.toInt64)), (.long (((0 : Int64) + ((p0.toInt64) * (p10 ((3 : Int32) - sa)))) + ((p1.toInt64) * (p10 ((3 : Int32) - sb)))))]) (fun _ k => XS.pop X129.here hx rfl (hb hy at_201) rfl rfl (XS.lload X129.here hx rfl (hb hy at_202) rfl (XS.iloadN X129.here hx rfl (hb hy at_204) rfl (XS.i2l X129.here hx rfl (hb hy at_205) rfl (XS.iconst X129.here hx rfl (hb hy at_206) k))))) ?_
        refine gon T129 (mkF m 210 #[iS p0,iS p1,iS p2,iS p3,iS (p3 &&& (3 : Int32)),iS rja,iS rjb,iS rjc,iS sa,iS sb,iS sc,rS b4,jS (((0 : Int64) + ((p0.toInt64) * (p10 ((3 : Int32) - sa)))) + ((p1.toInt64) * (p10 ((3 : Int32) - sb)))),dS,iS (imax (imax (0 : Int32) sa) sb),uS] [(.int ((3 : Int32) - sc)), (.long (p2.toInt64)), (.long (((0 : Int64) + ((p0.toInt64) * (p10 ((3 : Int32) - sa)))) + ((p1.toInt64) * (p10 ((3 : Int32) - sb)))))]) (fun _ k => XS.iload X129.here hx rfl (hb hy at_207) rfl (XS.isub X129.here hx rfl (hb hy at_209) rfl k)) ?_
        have Z_138 : n0 ≤ T129.heap.size := Nat.le_trans Z_136 Kq129.1
        obtain ⟨v137, T137, L137, X137, hQ137, st137⟩ := OwnW.callS X129 hx hZ hown (w105 hw) (w106 hw) (w28 hw) (w107 hw) (by decide) (pow10 l Z a0 hw ((3 : Int32) - sc) T129.heap n0 Z_138 ) rfl (Ls := #[iS p0, iS p1, iS p2, iS p3, iS (p3 &&& (3 : Int32)), iS rja, iS rjb, iS rjc, iS sa, iS sb, iS sc, rS b4, jS (((0 : Int64) + ((p0.toInt64) * (p10 ((3 : Int32) - sa)))) + ((p1.toInt64) * (p10 ((3 : Int32) - sb)))), dS, iS (imax (imax (0 : Int32) sa) sb), uS]) (by rw [hml]; rfl) pd_29 (argsL := [(.int ((3 : Int32) - sc))]) rfl (rest := [(.long (p2.toInt64)), (.long (((0 : Int64) + ((p0.toInt64) * (p10 ((3 : Int32) - sa)))) + ((p1.toInt64) * (p10 ((3 : Int32) - sb)))))]) rfl (W := 4) rfl (hb hy at_210) (by decide) (by decide) (by decide) (by decide)
        obtain ⟨rfl, Nq137, eq137⟩ := hQ137
        have N137 := Fr.app N129 Nq137
        refine gon T137 (mkF m 213 #[iS p0,iS p1,iS p2,iS p3,iS (p3 &&& (3 : Int32)),iS rja,iS rjb,iS rjc,iS sa,iS sb,iS sc,rS b4,jS (((0 : Int64) + ((p0.toInt64) * (p10 ((3 : Int32) - sa)))) + ((p1.toInt64) * (p10 ((3 : Int32) - sb)))),dS,iS (imax (imax (0 : Int32) sa) sb),uS] [(.long (p10 ((3 : Int32) - sc))), (.long (p2.toInt64)), (.long (((0 : Int64) + ((p0.toInt64) * (p10 ((3 : Int32) - sa)))) + ((p1.toInt64) * (p10 ((3 : Int32) - sb)))))]) (st137) ?_
        refine gon T137 (mkF m 221 #[iS p0,iS p1,iS p2,iS p3,iS (p3 &&& (3 : Int32)),iS rja,iS rjb,iS rjc,iS sa,iS sb,iS sc,rS b4,jS ((((0 : Int64) + ((p0.toInt64) * (p10 ((3 : Int32) - sa)))) + ((p1.toInt64) * (p10 ((3 : Int32) - sb)))) + ((p2.toInt64) * (p10 ((3 : Int32) - sc)))),dS,iS (imax (imax (0 : Int32) sa) sb),uS] [(.int sc), (.int (imax (imax (0 : Int32) sa) sb))]) (fun _ k => XS.lmul X137.here hx rfl (hb hy at_213) rfl (XS.ladd X137.here hx rfl (hb hy at_214) rfl (XS.lstore X137.here hx rfl (hb hy at_215) rfl (l' := #[iS p0, iS p1, iS p2, iS p3, iS (p3 &&& (3 : Int32)), iS rja, iS rjb, iS rjc, iS sa, iS sb, iS sc, rS b4, jS ((((0 : Int64) + ((p0.toInt64) * (p10 ((3 : Int32) - sa)))) + ((p1.toInt64) * (p10 ((3 : Int32) - sb)))) + ((p2.toInt64) * (p10 ((3 : Int32) - sc)))), dS, iS (imax (imax (0 : Int32) sa) sb), uS]) rfl (XS.iload X137.here hx rfl (hb hy at_217) rfl (XS.iload X137.here hx rfl (hb hy at_219) rfl k))))) ?_
        obtain ⟨v139, T139, L139, X139, hQ139, st139⟩ := OwnW.callS X137 hx hZ hown (w109 hw) (w99 hw) (w100 hw) (w101 hw) (by decide) (maxI l Z a0 hw (imax (imax (0 : Int32) sa) sb) sc T129.heap n0 Z_138 ) eq137 (Ls := #[iS p0, iS p1, iS p2, iS p3, iS (p3 &&& (3 : Int32)), iS rja, iS rjb, iS rjc, iS sa, iS sb, iS sc, rS b4, jS ((((0 : Int64) + ((p0.toInt64) * (p10 ((3 : Int32) - sa)))) + ((p1.toInt64) * (p10 ((3 : Int32) - sb)))) + ((p2.toInt64) * (p10 ((3 : Int32) - sc)))), dS, iS (imax (imax (0 : Int32) sa) sb), uS]) (by rw [hml]; rfl) pd_1 (argsL := [(.int (imax (imax (0 : Int32) sa) sb)), (.int sc)]) rfl (rest := []) rfl (W := 0) rfl (hb hy at_221) (by decide) (by decide) (by decide) (by decide)
        obtain ⟨rfl, Nq139, eq139⟩ := hQ139
        have N139 := Fr.app N137 Nq139
        refine gon T139 (mkF m 224 #[iS p0,iS p1,iS p2,iS p3,iS (p3 &&& (3 : Int32)),iS rja,iS rjb,iS rjc,iS sa,iS sb,iS sc,rS b4,jS ((((0 : Int64) + ((p0.toInt64) * (p10 ((3 : Int32) - sa)))) + ((p1.toInt64) * (p10 ((3 : Int32) - sb)))) + ((p2.toInt64) * (p10 ((3 : Int32) - sc)))),dS,iS (imax (imax (0 : Int32) sa) sb),uS] [(.int (imax (imax (imax (0 : Int32) sa) sb) sc))]) (st139) ?_
        refine gon T139 (mkF m 226 #[iS p0,iS p1,iS p2,iS p3,iS (p3 &&& (3 : Int32)),iS rja,iS rjb,iS rjc,iS sa,iS sb,iS sc,rS b4,jS ((((0 : Int64) + ((p0.toInt64) * (p10 ((3 : Int32) - sa)))) + ((p1.toInt64) * (p10 ((3 : Int32) - sb)))) + ((p2.toInt64) * (p10 ((3 : Int32) - sc)))),dS,iS (imax (imax (imax (0 : Int32) sa) sb) sc),uS] []) (fun _ k => XS.istore X139.here hx rfl (hb hy at_224) rfl (l' := #[iS p0, iS p1, iS p2, iS p3, iS (p3 &&& (3 : Int32)), iS rja, iS rjb, iS rjc, iS sa, iS sb, iS sc, rS b4, jS ((((0 : Int64) + ((p0.toInt64) * (p10 ((3 : Int32) - sa)))) + ((p1.toInt64) * (p10 ((3 : Int32) - sb)))) + ((p2.toInt64) * (p10 ((3 : Int32) - sc)))), dS, iS (imax (imax (imax (0 : Int32) sa) sb) sc), uS]) rfl k) ?_
        have e0_ : (0 : Int64).toInt = 0 := by decide
        have t0_ := own_term p0 Psa
        have t1_ := own_term p1 Psb
        have t2_ := own_term p2 Psc
        have b0_ := own_nI p0 Psa
        have b1_ := own_nI p1 Psb
        have b2_ := own_nI p2 Psc
        have c0_ := c_ladd (0 : Int64) ((p0.toInt64) * (p10 ((3 : Int32) - sa)))
        have r0_ := rng64 ((0 : Int64) + ((p0.toInt64) * (p10 ((3 : Int32) - sa))))
        have c1_ := c_ladd ((0 : Int64) + ((p0.toInt64) * (p10 ((3 : Int32) - sa)))) ((p1.toInt64) * (p10 ((3 : Int32) - sb)))
        have r1_ := rng64 (((0 : Int64) + ((p0.toInt64) * (p10 ((3 : Int32) - sa)))) + ((p1.toInt64) * (p10 ((3 : Int32) - sb))))
        have c2_ := c_ladd (((0 : Int64) + ((p0.toInt64) * (p10 ((3 : Int32) - sa)))) + ((p1.toInt64) * (p10 ((3 : Int32) - sb)))) ((p2.toInt64) * (p10 ((3 : Int32) - sc)))
        have r2_ := rng64 ((((0 : Int64) + ((p0.toInt64) * (p10 ((3 : Int32) - sa)))) + ((p1.toInt64) * (p10 ((3 : Int32) - sb)))) + ((p2.toInt64) * (p10 ((3 : Int32) - sc))))
        have hsm0 : (((((0 : Int64) + ((p0.toInt64) * (p10 ((3 : Int32) - sa)))) + ((p1.toInt64) * (p10 ((3 : Int32) - sb)))) + ((p2.toInt64) * (p10 ((3 : Int32) - sc))))).toInt = Nv3 (p0.toInt64) sa + Nv3 (p1.toInt64) sb + Nv3 (p2.toInt64) sc := by omega
        obtain ⟨sm, hsm⟩ : ∃ z, ((((0 : Int64) + ((p0.toInt64) * (p10 ((3 : Int32) - sa)))) + ((p1.toInt64) * (p10 ((3 : Int32) - sb)))) + ((p2.toInt64) * (p10 ((3 : Int32) - sc)))) = z := ⟨_, rfl⟩
        rw [hsm] at hsm0 ⊢
        have hsmB : Bq sm := by unfold Bq; omega
        refine gon T139 (mkF m 228 #[iS p0,iS p1,iS p2,iS p3,iS (p3 &&& (3 : Int32)),iS rja,iS rjb,iS rjc,iS sa,iS sb,iS sc,rS b4,jS sm,dS,iS (imax (imax (imax (0 : Int32) sa) sb) sc),uS] [(.ref b4)]) (fun _ k => XS.aload X139.here hx rfl (hb hy at_226) rfl rfl k) ?_
        have c_141 := Exa.keep c_130 Kq129
        have c_142 := Exa.keep c_134 Kq129
        have c_143 := Exa.keep (Exa.keep (Exa.keep (Exa.keep (Exa.keep q29_1 Kq34) Kq71) Kq75) Kq124) Kq129
        have ne_144 : lt_32 ≠ b4 := Ne.symm (ne_of_born (Exa.keep A4 Kq5).lt q29_0)
        have ne_145 : lt_32 ≠ el_41 := ne_of_born q29_1.lt q34_0
        have c_146 := Fld.keep (Fld.keep (Fld.keep (Fld.keep (Fld.keep q29_2 Kq34 (ninS ne_144 nin0)) Kq71 nin0) Kq75 (ninS ne_144 (ninS ne_145 nin0))) Kq124 nin0) Kq129 (ninS ne_144 (ninS ne_145 nin0))
        have c_147 := Exa.keep (Exa.keep (Exa.keep (Exa.keep (Exa.keep q29_3.1 Kq34) Kq71) Kq75) Kq124) Kq129
        have ne_148 : b_33 ≠ b4 := ne_exa c_147 c_141 (by decide)
        have ne_149 : b_33 ≠ el_41 := ne_of_born (q29_3.1).lt q34_0
        have c_150 := BDV.keep (BDV.keep (BDV.keep (BDV.keep (BDV.keep q29_3 Kq34 (ninS ne_148 nin0)) Kq71 nin0) Kq75 (ninS ne_148 (ninS ne_149 nin0))) Kq124 nin0) Kq129 (ninS ne_148 (ninS ne_149 nin0))
        have c_151 := Exa.keep (Exa.keep (Exa.keep q71_1 Kq75) Kq124) Kq129
        have ne_152 : lt_73 ≠ b4 := Ne.symm (ne_of_born (Exa.keep (Exa.keep (Exa.keep A4 Kq5) Kq29) Kq34).lt q71_0)
        have ne_153 : lt_73 ≠ el_41 := Ne.symm (ne_of_born q34_1.lt q71_0)
        have c_154 := Fld.keep (Fld.keep (Fld.keep q71_2 Kq75 (ninS ne_152 (ninS ne_153 nin0))) Kq124 nin0) Kq129 (ninS ne_152 (ninS ne_153 nin0))
        have c_155 := Exa.keep (Exa.keep (Exa.keep q71_3.1 Kq75) Kq124) Kq129
        have ne_156 : b_74 ≠ b4 := ne_exa c_155 c_141 (by decide)
        have ne_157 : b_74 ≠ el_41 := ne_exa c_155 c_142 (by decide)
        have c_158 := BDV.keep (BDV.keep (BDV.keep q71_3 Kq75 (ninS ne_156 (ninS ne_157 nin0))) Kq124 nin0) Kq129 (ninS ne_156 (ninS ne_157 nin0))
        have c_159 := Exa.keep q124_1 Kq129
        have ne_160 : lt_127 ≠ b4 := Ne.symm (ne_of_born (Exa.keep (Exa.keep (Exa.keep (Exa.keep (Exa.keep A4 Kq5) Kq29) Kq34) Kq71) Kq75).lt q124_0)
        have ne_161 : lt_127 ≠ el_41 := Ne.symm (ne_of_born (Exa.keep (Exa.keep q34_1 Kq71) Kq75).lt q124_0)
        have c_162 := Fld.keep q124_2 Kq129 (ninS ne_160 (ninS ne_161 nin0))
        have c_163 := Exa.keep q124_3.1 Kq129
        have ne_164 : b_128 ≠ b4 := ne_exa c_163 c_141 (by decide)
        have ne_165 : b_128 ≠ el_41 := ne_exa c_163 c_142 (by decide)
        have c_166 := BDV.keep q124_3 Kq129 (ninS ne_164 (ninS ne_165 nin0))
        have O_167 : Old Z n0 T124.heap := O_126.keep Kq124 all0
        have O_168 : Old Z n0 T129.heap := O_167.keep Kq129 (allS g_6 (allS g_81 all0))
        obtain ⟨v140, T140, L140, X140, hQ140, st140⟩ := OwnW.callS X139 hx hZ hown (w110 hw) (w111 hw) (w112 hw) (w113 hw) (by decide) (tons3 l Z a0 hw b4 wZ wT wS wP wH kT kS kP kH zt zs el_41 kel_42 lt_32 b_33 p0 sa lt_73 b_74 p1 sb lt_127 b_128 p2 sc T129.heap n0 Z_138 O_168 P0 c_141 q129_2 q129_3 q129_1 c_142 q129_0 c_143 c_146 c_150 Psa c_151 c_154 c_158 Psb c_159 c_162 c_166 Psc) eq139 (Ls := #[iS p0, iS p1, iS p2, iS p3, iS (p3 &&& (3 : Int32)), iS rja, iS rjb, iS rjc, iS sa, iS sb, iS sc, rS b4, jS sm, dS, iS (imax (imax (imax (0 : Int32) sa) sb) sc), uS]) (by rw [hml]; rfl) pd_26 (argsL := [(.ref b4)]) rfl (rest := []) rfl (W := 0) rfl (hb hy at_228) (by decide) (by decide) (by decide) (by decide)
        obtain ⟨b_169, z_170, t_171, rfl, Nq140, Kq140, q140_0, q140_1, q140_2, q140_3⟩ := hQ140
        have N140 := Fr.app N139 Nq140
        refine gon T140 (mkF m 231 #[iS p0,iS p1,iS p2,iS p3,iS (p3 &&& (3 : Int32)),iS rja,iS rjb,iS rjc,iS sa,iS sb,iS sc,rS b4,jS sm,dS,iS (imax (imax (imax (0 : Int32) sa) sb) sc),uS] [(.ref b_169)]) (st140) ?_
        refine gon T140 (mkF m 238 #[iS p0,iS p1,iS p2,iS p3,iS (p3 &&& (3 : Int32)),iS rja,iS rjb,iS rjc,iS sa,iS sb,iS sc,rS b4,jS sm,dS,iS (imax (imax (imax (0 : Int32) sa) sb) sc),rS b_169] [(.int 3), (.long sm), (.ref b_169)]) (fun _ k => XS.astore X140.here hx rfl (hb hy at_231) rfl rfl (l' := #[iS p0, iS p1, iS p2, iS p3, iS (p3 &&& (3 : Int32)), iS rja, iS rjb, iS rjc, iS sa, iS sb, iS sc, rS b4, jS sm, dS, iS (imax (imax (imax (0 : Int32) sa) sb) sc), rS b_169]) rfl (XS.aload X140.here hx rfl (hb hy at_233) rfl rfl (XS.lload X140.here hx rfl (hb hy at_235) rfl (XS.iconst X140.here hx rfl (hb hy at_237) k)))) ?_
        have Z_173 : n0 ≤ T140.heap.size := Nat.le_trans Z_138 Kq140.1
        have O_174 : Old Z n0 T140.heap := O_168.keep Kq140 all0
        obtain ⟨v172, T172, L172, X172, hQ172, st172⟩ := OwnW.callS X140 hx hZ hown (w33 hw) (w34 hw) (w35 hw) (w36 hw) (by decide) (valJI l Z a0 hw sm (3 : Int32) wZ wT wS wP wH kT kS kP kH zt zs T140.heap n0 Z_173 O_174 P0 (own_bdMin (own_bd1 hsmB) : ¬ (sm = (-9223372036854775808 : Int64))) (by unfold Sc; decide : Sc (3 : Int32))) rfl (Ls := #[iS p0, iS p1, iS p2, iS p3, iS (p3 &&& (3 : Int32)), iS rja, iS rjb, iS rjc, iS sa, iS sb, iS sc, rS b4, jS sm, dS, iS (imax (imax (imax (0 : Int32) sa) sb) sc), rS b_169]) (by rw [hml]; rfl) pd_10 (argsL := [(.long sm), (.int (3 : Int32))]) rfl (rest := [(.ref b_169)]) rfl (W := 1) rfl (hb hy at_238) (by decide) (by decide) (by decide) (by decide)
        obtain ⟨b_175, rfl, Nq172, Kq172, q172_0⟩ := hQ172
        have N172 := Fr.app N140 Nq172
        refine gon T172 (mkF m 241 #[iS p0,iS p1,iS p2,iS p3,iS (p3 &&& (3 : Int32)),iS rja,iS rjb,iS rjc,iS sa,iS sb,iS sc,rS b4,jS sm,dS,iS (imax (imax (imax (0 : Int32) sa) sb) sc),rS b_169] [(.ref b_175), (.ref b_169)]) (st172) ?_
        have c_177 := Exa.keep q140_0.1 Kq172
        have c_178 := BDV.keep q140_0 Kq172 nin0
        have Z_179 : n0 ≤ T172.heap.size := Nat.le_trans Z_173 Kq172.1
        have O_180 : Old Z n0 T172.heap := O_174.keep Kq172 all0
        obtain ⟨v176, T176, L176, X176, hQ176, st176⟩ := OwnW.callV X172 hx hZ hown (w195 hw) (w196 hw) (notFace_of_selects (args := #[]) (mvT hZ (w198 hw))) (w198 hw) (w197 hw) (w35 hw) (w199 hw) (by decide) (b := b_169) (cmpT l Z a0 hw b_169 b_175 wZ wT wS wP wH kT kS kP kH zt zs z_170 t_171 sm T172.heap n0 Z_179 O_180 P0 c_178 q172_0 (own_bqN q140_1 (by rw [q140_3]; omega) (by rw [q140_3]; omega) : Bq z_170) hsmB q140_1 (hsm0.trans q140_3.symm : sm.toInt = Nv3 z_170 t_171)) rfl c_177 (Ls := #[iS p0, iS p1, iS p2, iS p3, iS (p3 &&& (3 : Int32)), iS rja, iS rjb, iS rjc, iS sa, iS sb, iS sc, rS b4, jS sm, dS, iS (imax (imax (imax (0 : Int32) sa) sb) sc), rS b_169]) (by rw [hml]; rfl) pd_25 (argsL := [(.ref b_175)]) rfl (rest := []) rfl (W := 0) rfl (hb hy at_241) (by decide) (by decide) (by decide) (by decide)
        obtain ⟨rfl, Nq176, Kq176, q176_0⟩ := hQ176
        have N176 := Fr.app N172 Nq176
        refine gon T176 (mkF m 244 #[iS p0,iS p1,iS p2,iS p3,iS (p3 &&& (3 : Int32)),iS rja,iS rjb,iS rjc,iS sa,iS sb,iS sc,rS b4,jS sm,dS,iS (imax (imax (imax (0 : Int32) sa) sb) sc),rS b_169] [(.int 0)]) (st176) ?_
        refine gon T176 (mkF m 249 #[iS p0,iS p1,iS p2,iS p3,iS (p3 &&& (3 : Int32)),iS rja,iS rjb,iS rjc,iS sa,iS sb,iS sc,rS b4,jS sm,dS,iS (imax (imax (imax (0 : Int32) sa) sb) sc),rS b_169] [(.ref b_169)]) (fun _ k => XS.ifNo X176.here hx rfl (hb hy at_244) rfl ((if0 _ _).trans (teq (by decide : (0 : Int32) = (0 : Int32))).2) (XS.aload X176.here hx rfl (hb hy at_247) rfl rfl k)) ?_
        have c_182 := Exa.keep c_177 Kq176
        have Z_183 : n0 ≤ T176.heap.size := Nat.le_trans Z_179 Kq176.1
        obtain ⟨v181, T181, L181, X181, hQ181, st181⟩ := OwnW.callV X176 hx hZ hown (w209 hw) (w210 hw) (notFace_of_selects (args := #[]) (mvT hZ (w212 hw))) (w212 hw) (w211 hw) (w35 hw) (w213 hw) (by decide) (b := b_169) (bscale l Z a0 hw b_169 t_171 T176.heap n0 Z_183 q176_0) rfl c_182 (Ls := #[iS p0, iS p1, iS p2, iS p3, iS (p3 &&& (3 : Int32)), iS rja, iS rjb, iS rjc, iS sa, iS sb, iS sc, rS b4, jS sm, dS, iS (imax (imax (imax (0 : Int32) sa) sb) sc), rS b_169]) (by rw [hml]; rfl) pd_24 (argsL := []) rfl (rest := []) rfl (W := 0) rfl (hb hy at_249) (by decide) (by decide) (by decide) (by decide)
        obtain ⟨rfl, Nq181, eq181⟩ := hQ181
        have N181 := Fr.app N176 Nq181
        refine gon T181 (mkF m 252 #[iS p0,iS p1,iS p2,iS p3,iS (p3 &&& (3 : Int32)),iS rja,iS rjb,iS rjc,iS sa,iS sb,iS sc,rS b4,jS sm,dS,iS (imax (imax (imax (0 : Int32) sa) sb) sc),rS b_169] [(.int t_171)]) (st181) ?_
        refine gon T181 (mkF m 254 #[iS p0,iS p1,iS p2,iS p3,iS (p3 &&& (3 : Int32)),iS rja,iS rjb,iS rjc,iS sa,iS sb,iS sc,rS b4,jS sm,dS,iS (imax (imax (imax (0 : Int32) sa) sb) sc),rS b_169] [(.int (imax (imax (imax (0 : Int32) sa) sb) sc)), (.int t_171)]) (fun _ k => XS.iload X181.here hx rfl (hb hy at_252) rfl k) ?_
        refine gon T181 (mkF m 262 #[iS p0,iS p1,iS p2,iS p3,iS (p3 &&& (3 : Int32)),iS rja,iS rjb,iS rjc,iS sa,iS sb,iS sc,rS b4,jS sm,dS,iS (imax (imax (imax (0 : Int32) sa) sb) sc),rS b_169] [(.int 1)]) (fun _ k => XS.icmpNo X181.here hx rfl (hb hy at_254) rfl (teq (q140_2 : t_171 = (imax (imax (imax (0 : Int32) sa) sb) sc))).2 (XS.iconst X181.here hx rfl (hb hy at_257) (XS.goto X181.here hx rfl (pc0 := 258) (pc' := 262) rfl (hb hy at_258) (by decide) (by decide) k))) ?_
        exact OwnW.retN X181 hx hlk hret (t := .boolean) (by simp) (z' := (1 : Int32)) (hb hy at_262) (by decide) (by decide) rfl (show QQ _ T181.heap _ from (by rw [eq181]; exact ⟨rfl, N181⟩))
theorem eq_long_v {args : Array Value} {s : State} {a : Term} {n : Int64} (q : (Jvm.Cond.eq a (.long n)).value args s none s [] = some true) : a.eval args s none [] s = some (.long n) := by
  cases ha : a.eval args s none [] s with
  | none => simp [Jvm.Cond.value, Term.eval, ha] at q
  | some x => cases x <;> simp [Jvm.Cond.value, Term.eval, ha] at q ⊢; exact q
def EvL (args : Array Value) (s : State) (t : Term) : Nat → List Value → Prop
  | _, [] => True
  | i, v :: r => (Term.elem t (.int (Int32.ofNat i))).eval args s none [] s = some v ∧ EvL args s t (i + 1) r
theorem own_ofN {i : Nat} (h : i < 100) : (Int32.ofNat i).toNatClampNeg = i := by
  have h1 : (Int32.ofNat i).toInt = i := Int32.toInt_ofNat_of_lt (by omega)
  have h2 : ¬ Int32.ofNat i < 0 := by
    rw [Int32.lt_iff_toInt_lt, h1, show (0 : Int32).toInt = 0 from by decide]
    omega
  have := nat_of h2
  omega
theorem evl_has {args : Array Value} {s : State} {t : Term} {a : Addr} {c : Cell} (ev : t.eval args s none [] s = some (.ref a)) (hc : s.heap[a]? = some c) : ∀ (vs : List Value) (i : Nat), i + vs.length ≤ 100 → EvL args s t i vs → HasL c i vs
  | [], _, _, _ => trivial
  | v :: r, i, q, H => by
    have q' : i + (r.length + 1) ≤ 100 := q
    have h := (elem_in (j := Int32.ofNat i) H.1 ev (by simp [Term.eval]) hc).2
    rw [own_ofN (by omega)] at h
    exact ⟨h, evl_has ev hc r (i + 1) (by omega) H.2⟩
theorem arv_list {args : Array Value} {s : State} {t : Term} {ty : FieldType} {z : Int32} {a : Addr} {vs : List Value} (dv : Value) (hf : Fit s) (ev : t.eval args s none [] s = some (.ref a)) (ha : (Jvm.Cond.arrayOf t ty).value args s none s [] = some true) (hl : (Term.length t).eval args s none [] s = some (.int z)) (hz : ¬ z < 0) (hn : z.toNatClampNeg = vs.length) (hb : vs.length ≤ 100) (H : EvL args s t 0 vs) : ∃ k : ClassId, Arv s s.heap a k ty z vs dv := by
  obtain ⟨c, A⟩ := Arr.start ev ha
  have h2 : s.arrayAt? a = some c := A.fin (Vm.Alike.refl _)
  have h3 : c.slots.size < 2 ^ 31 ∧ c.slots.size.toInt32 = z := by simpa [Term.eval, ev, h2] using hl
  exact ⟨c.cls, Arv.start hf A h3.1 h3.2 hz hn (evl_has ev A.1 vs 0 (by omega) H)⟩
set_option maxRecDepth 65536 in
set_option maxHeartbeats 40000000 in
theorem bigS_start {args : Array Value} {s : State} (hfit : Fit s) (hsets : ∀ d ∈ jdkStatics_1, d.before args s = true) : ∃ wZ wT wS wP wH kT kS kP kH zt zs, BigS s wZ wT wS wP wH kT kS kP kH zt zs := by
  have g : ∀ (q : Nat) (d : Cond), jdkStatics_1[q]? = some d → d.value args s none s [] = some true := fun q d e => Cond.before_iff.mp (hsets _ (List.mem_of_getElem? e))
  have gb : ∀ (q : Nat) (d : Cond), jdkStatics_1[q]? = some d → d.before args s = true := fun q d e => hsets _ (List.mem_of_getElem? e)
  obtain ⟨wZ, ev_wZ⟩ := exa_v (g 151 _ rfl)
  have S_wZ := Sta.start ev_wZ (Or.inl (gb 12 _ rfl))
  have E_wZ := Exa.start ev_wZ (g 151 _ rfl)
  have F_wZ := Fld.start ((fld_at ev_wZ).symm.trans (eq_int_v (g 152 _ rfl)))
  have J_wZ := Fld.start ((fld_at ev_wZ).symm.trans (eq_long_v (g 153 _ rfl)))
  obtain ⟨wT, ev_wT⟩ := exa_v (g 28 _ rfl)
  have S_wT := Sta.start ev_wT (Or.inl (gb 10 _ rfl))
  obtain ⟨t0, ev_t0⟩ := exa_v (g 31 _ rfl)
  have E_t0 := Exa.start ev_t0 (g 31 _ rfl)
  have F_t0 := Fld.start ((fld_at ev_t0).symm.trans (eq_int_v (g 32 _ rfl)))
  have J_t0 := Fld.start ((fld_at ev_t0).symm.trans (eq_long_v (g 33 _ rfl)))
  have D_t0 := Fld.start ((fld_at ev_t0).symm.trans (eq_int_v (g 126 _ rfl)))
  obtain ⟨t1, ev_t1⟩ := exa_v (g 41 _ rfl)
  have E_t1 := Exa.start ev_t1 (g 41 _ rfl)
  have F_t1 := Fld.start ((fld_at ev_t1).symm.trans (eq_int_v (g 42 _ rfl)))
  have J_t1 := Fld.start ((fld_at ev_t1).symm.trans (eq_long_v (g 43 _ rfl)))
  have D_t1 := Fld.start ((fld_at ev_t1).symm.trans (eq_int_v (g 128 _ rfl)))
  obtain ⟨t2, ev_t2⟩ := exa_v (g 51 _ rfl)
  have E_t2 := Exa.start ev_t2 (g 51 _ rfl)
  have F_t2 := Fld.start ((fld_at ev_t2).symm.trans (eq_int_v (g 52 _ rfl)))
  have J_t2 := Fld.start ((fld_at ev_t2).symm.trans (eq_long_v (g 53 _ rfl)))
  have D_t2 := Fld.start ((fld_at ev_t2).symm.trans (eq_int_v (g 130 _ rfl)))
  obtain ⟨t3, ev_t3⟩ := exa_v (g 60 _ rfl)
  have E_t3 := Exa.start ev_t3 (g 60 _ rfl)
  have F_t3 := Fld.start ((fld_at ev_t3).symm.trans (eq_int_v (g 61 _ rfl)))
  have J_t3 := Fld.start ((fld_at ev_t3).symm.trans (eq_long_v (g 62 _ rfl)))
  have D_t3 := Fld.start ((fld_at ev_t3).symm.trans (eq_int_v (g 132 _ rfl)))
  obtain ⟨t4, ev_t4⟩ := exa_v (g 68 _ rfl)
  have E_t4 := Exa.start ev_t4 (g 68 _ rfl)
  have F_t4 := Fld.start ((fld_at ev_t4).symm.trans (eq_int_v (g 69 _ rfl)))
  have J_t4 := Fld.start ((fld_at ev_t4).symm.trans (eq_long_v (g 70 _ rfl)))
  have D_t4 := Fld.start ((fld_at ev_t4).symm.trans (eq_int_v (g 134 _ rfl)))
  obtain ⟨t5, ev_t5⟩ := exa_v (g 76 _ rfl)
  have E_t5 := Exa.start ev_t5 (g 76 _ rfl)
  have F_t5 := Fld.start ((fld_at ev_t5).symm.trans (eq_int_v (g 77 _ rfl)))
  have J_t5 := Fld.start ((fld_at ev_t5).symm.trans (eq_long_v (g 78 _ rfl)))
  have D_t5 := Fld.start ((fld_at ev_t5).symm.trans (eq_int_v (g 136 _ rfl)))
  obtain ⟨t6, ev_t6⟩ := exa_v (g 84 _ rfl)
  have E_t6 := Exa.start ev_t6 (g 84 _ rfl)
  have F_t6 := Fld.start ((fld_at ev_t6).symm.trans (eq_int_v (g 85 _ rfl)))
  have J_t6 := Fld.start ((fld_at ev_t6).symm.trans (eq_long_v (g 86 _ rfl)))
  have D_t6 := Fld.start ((fld_at ev_t6).symm.trans (eq_int_v (g 138 _ rfl)))
  obtain ⟨t7, ev_t7⟩ := exa_v (g 92 _ rfl)
  have E_t7 := Exa.start ev_t7 (g 92 _ rfl)
  have F_t7 := Fld.start ((fld_at ev_t7).symm.trans (eq_int_v (g 93 _ rfl)))
  have J_t7 := Fld.start ((fld_at ev_t7).symm.trans (eq_long_v (g 94 _ rfl)))
  have D_t7 := Fld.start ((fld_at ev_t7).symm.trans (eq_int_v (g 140 _ rfl)))
  obtain ⟨t8, ev_t8⟩ := exa_v (g 100 _ rfl)
  have E_t8 := Exa.start ev_t8 (g 100 _ rfl)
  have F_t8 := Fld.start ((fld_at ev_t8).symm.trans (eq_int_v (g 101 _ rfl)))
  have J_t8 := Fld.start ((fld_at ev_t8).symm.trans (eq_long_v (g 102 _ rfl)))
  have D_t8 := Fld.start ((fld_at ev_t8).symm.trans (eq_int_v (g 142 _ rfl)))
  obtain ⟨t9, ev_t9⟩ := exa_v (g 108 _ rfl)
  have E_t9 := Exa.start ev_t9 (g 108 _ rfl)
  have F_t9 := Fld.start ((fld_at ev_t9).symm.trans (eq_int_v (g 109 _ rfl)))
  have J_t9 := Fld.start ((fld_at ev_t9).symm.trans (eq_long_v (g 110 _ rfl)))
  have D_t9 := Fld.start ((fld_at ev_t9).symm.trans (eq_int_v (g 144 _ rfl)))
  obtain ⟨t10, ev_t10⟩ := exa_v (g 117 _ rfl)
  have E_t10 := Exa.start ev_t10 (g 117 _ rfl)
  have F_t10 := Fld.start ((fld_at ev_t10).symm.trans (eq_int_v (g 118 _ rfl)))
  have J_t10 := Fld.start ((fld_at ev_t10).symm.trans (eq_long_v (g 119 _ rfl)))
  have D_t10 := Fld.start ((fld_at ev_t10).symm.trans (eq_int_v (g 146 _ rfl)))
  obtain ⟨kT, V_wT⟩ := arv_list (vs := [.ref t0, .ref t1, .ref t2, .ref t3, .ref t4, .ref t5, .ref t6, .ref t7, .ref t8, .ref t9, .ref t10]) .null hfit ev_wT (g 27 _ rfl) (eq_int_v (g 29 _ rfl)) (by decide) rfl (by simp) ⟨ev_t0, ev_t1, ev_t2, ev_t3, ev_t4, ev_t5, ev_t6, ev_t7, ev_t8, ev_t9, ev_t10, trivial⟩
  obtain ⟨wS, ev_wS⟩ := exa_v (g 167 _ rfl)
  have S_wS := Sta.start ev_wS (Or.inl (gb 161 _ rfl))
  obtain ⟨u0, ev_u0⟩ := exa_v (g 170 _ rfl)
  have E_u0 := Exa.start ev_u0 (g 170 _ rfl)
  have F_u0 := Fld.start ((fld_at ev_u0).symm.trans (eq_int_v (g 171 _ rfl)))
  have J_u0 := Fld.start ((fld_at ev_u0).symm.trans (eq_long_v (g 172 _ rfl)))
  obtain ⟨u1, ev_u1⟩ := exa_v (g 179 _ rfl)
  have E_u1 := Exa.start ev_u1 (g 179 _ rfl)
  have F_u1 := Fld.start ((fld_at ev_u1).symm.trans (eq_int_v (g 180 _ rfl)))
  have J_u1 := Fld.start ((fld_at ev_u1).symm.trans (eq_long_v (g 181 _ rfl)))
  obtain ⟨u2, ev_u2⟩ := exa_v (g 188 _ rfl)
  have E_u2 := Exa.start ev_u2 (g 188 _ rfl)
  have F_u2 := Fld.start ((fld_at ev_u2).symm.trans (eq_int_v (g 189 _ rfl)))
  have J_u2 := Fld.start ((fld_at ev_u2).symm.trans (eq_long_v (g 190 _ rfl)))
  obtain ⟨u3, ev_u3⟩ := exa_v (g 197 _ rfl)
  have E_u3 := Exa.start ev_u3 (g 197 _ rfl)
  have F_u3 := Fld.start ((fld_at ev_u3).symm.trans (eq_int_v (g 198 _ rfl)))
  have J_u3 := Fld.start ((fld_at ev_u3).symm.trans (eq_long_v (g 199 _ rfl)))
  obtain ⟨u4, ev_u4⟩ := exa_v (g 206 _ rfl)
  have E_u4 := Exa.start ev_u4 (g 206 _ rfl)
  have F_u4 := Fld.start ((fld_at ev_u4).symm.trans (eq_int_v (g 207 _ rfl)))
  have J_u4 := Fld.start ((fld_at ev_u4).symm.trans (eq_long_v (g 208 _ rfl)))
  obtain ⟨u5, ev_u5⟩ := exa_v (g 215 _ rfl)
  have E_u5 := Exa.start ev_u5 (g 215 _ rfl)
  have F_u5 := Fld.start ((fld_at ev_u5).symm.trans (eq_int_v (g 216 _ rfl)))
  have J_u5 := Fld.start ((fld_at ev_u5).symm.trans (eq_long_v (g 217 _ rfl)))
  obtain ⟨u6, ev_u6⟩ := exa_v (g 224 _ rfl)
  have E_u6 := Exa.start ev_u6 (g 224 _ rfl)
  have F_u6 := Fld.start ((fld_at ev_u6).symm.trans (eq_int_v (g 225 _ rfl)))
  have J_u6 := Fld.start ((fld_at ev_u6).symm.trans (eq_long_v (g 226 _ rfl)))
  obtain ⟨u7, ev_u7⟩ := exa_v (g 233 _ rfl)
  have E_u7 := Exa.start ev_u7 (g 233 _ rfl)
  have F_u7 := Fld.start ((fld_at ev_u7).symm.trans (eq_int_v (g 234 _ rfl)))
  have J_u7 := Fld.start ((fld_at ev_u7).symm.trans (eq_long_v (g 235 _ rfl)))
  obtain ⟨u8, ev_u8⟩ := exa_v (g 242 _ rfl)
  have E_u8 := Exa.start ev_u8 (g 242 _ rfl)
  have F_u8 := Fld.start ((fld_at ev_u8).symm.trans (eq_int_v (g 243 _ rfl)))
  have J_u8 := Fld.start ((fld_at ev_u8).symm.trans (eq_long_v (g 244 _ rfl)))
  obtain ⟨u9, ev_u9⟩ := exa_v (g 251 _ rfl)
  have E_u9 := Exa.start ev_u9 (g 251 _ rfl)
  have F_u9 := Fld.start ((fld_at ev_u9).symm.trans (eq_int_v (g 252 _ rfl)))
  have J_u9 := Fld.start ((fld_at ev_u9).symm.trans (eq_long_v (g 253 _ rfl)))
  obtain ⟨u10, ev_u10⟩ := exa_v (g 260 _ rfl)
  have E_u10 := Exa.start ev_u10 (g 260 _ rfl)
  have F_u10 := Fld.start ((fld_at ev_u10).symm.trans (eq_int_v (g 261 _ rfl)))
  have J_u10 := Fld.start ((fld_at ev_u10).symm.trans (eq_long_v (g 262 _ rfl)))
  obtain ⟨u11, ev_u11⟩ := exa_v (g 269 _ rfl)
  have E_u11 := Exa.start ev_u11 (g 269 _ rfl)
  have F_u11 := Fld.start ((fld_at ev_u11).symm.trans (eq_int_v (g 270 _ rfl)))
  have J_u11 := Fld.start ((fld_at ev_u11).symm.trans (eq_long_v (g 271 _ rfl)))
  obtain ⟨u12, ev_u12⟩ := exa_v (g 278 _ rfl)
  have E_u12 := Exa.start ev_u12 (g 278 _ rfl)
  have F_u12 := Fld.start ((fld_at ev_u12).symm.trans (eq_int_v (g 279 _ rfl)))
  have J_u12 := Fld.start ((fld_at ev_u12).symm.trans (eq_long_v (g 280 _ rfl)))
  obtain ⟨u13, ev_u13⟩ := exa_v (g 287 _ rfl)
  have E_u13 := Exa.start ev_u13 (g 287 _ rfl)
  have F_u13 := Fld.start ((fld_at ev_u13).symm.trans (eq_int_v (g 288 _ rfl)))
  have J_u13 := Fld.start ((fld_at ev_u13).symm.trans (eq_long_v (g 289 _ rfl)))
  obtain ⟨u14, ev_u14⟩ := exa_v (g 296 _ rfl)
  have E_u14 := Exa.start ev_u14 (g 296 _ rfl)
  have F_u14 := Fld.start ((fld_at ev_u14).symm.trans (eq_int_v (g 297 _ rfl)))
  have J_u14 := Fld.start ((fld_at ev_u14).symm.trans (eq_long_v (g 298 _ rfl)))
  obtain ⟨u15, ev_u15⟩ := exa_v (g 305 _ rfl)
  have E_u15 := Exa.start ev_u15 (g 305 _ rfl)
  have F_u15 := Fld.start ((fld_at ev_u15).symm.trans (eq_int_v (g 306 _ rfl)))
  have J_u15 := Fld.start ((fld_at ev_u15).symm.trans (eq_long_v (g 307 _ rfl)))
  obtain ⟨kS, V_wS⟩ := arv_list (vs := [.ref u0, .ref u1, .ref u2, .ref u3, .ref u4, .ref u5, .ref u6, .ref u7, .ref u8, .ref u9, .ref u10, .ref u11, .ref u12, .ref u13, .ref u14, .ref u15]) .null hfit ev_wS (g 166 _ rfl) (eq_int_v (g 168 _ rfl)) (by decide) rfl (by simp) ⟨ev_u0, ev_u1, ev_u2, ev_u3, ev_u4, ev_u5, ev_u6, ev_u7, ev_u8, ev_u9, ev_u10, ev_u11, ev_u12, ev_u13, ev_u14, ev_u15, trivial⟩
  obtain ⟨wP, ev_wP⟩ := exa_v (g 320 _ rfl)
  have S_wP := Sta.start ev_wP (Or.inl (gb 318 _ rfl))
  obtain ⟨kP, V_wP⟩ := arv_list (vs := [.long 1, .long 10, .long 100, .long 1000, .long 10000, .long 100000, .long 1000000, .long 10000000, .long 100000000, .long 1000000000, .long 10000000000, .long 100000000000, .long 1000000000000, .long 10000000000000, .long 100000000000000, .long 1000000000000000, .long 10000000000000000, .long 100000000000000000, .long 1000000000000000000]) (.long 0) hfit ev_wP (g 319 _ rfl) (eq_int_v (g 321 _ rfl)) (by decide) rfl (by simp) ⟨eq_long_v (g 322 _ rfl), eq_long_v (g 323 _ rfl), eq_long_v (g 324 _ rfl), eq_long_v (g 325 _ rfl), eq_long_v (g 326 _ rfl), eq_long_v (g 327 _ rfl), eq_long_v (g 328 _ rfl), eq_long_v (g 329 _ rfl), eq_long_v (g 330 _ rfl), eq_long_v (g 331 _ rfl), eq_long_v (g 332 _ rfl), eq_long_v (g 333 _ rfl), eq_long_v (g 334 _ rfl), eq_long_v (g 335 _ rfl), eq_long_v (g 336 _ rfl), eq_long_v (g 337 _ rfl), eq_long_v (g 338 _ rfl), eq_long_v (g 339 _ rfl), eq_long_v (g 340 _ rfl), trivial⟩
  obtain ⟨wH, ev_wH⟩ := exa_v (g 344 _ rfl)
  have S_wH := Sta.start ev_wH (Or.inl (gb 342 _ rfl))
  obtain ⟨kH, V_wH⟩ := arv_list (vs := [.long 9223372036854775807, .long 922337203685477580, .long 92233720368547758, .long 9223372036854775, .long 922337203685477, .long 92233720368547, .long 9223372036854, .long 922337203685, .long 92233720368, .long 9223372036, .long 922337203, .long 92233720, .long 9223372, .long 922337, .long 92233, .long 9223, .long 922, .long 92, .long 9]) (.long 0) hfit ev_wH (g 343 _ rfl) (eq_int_v (g 345 _ rfl)) (by decide) rfl (by simp) ⟨eq_long_v (g 346 _ rfl), eq_long_v (g 347 _ rfl), eq_long_v (g 348 _ rfl), eq_long_v (g 349 _ rfl), eq_long_v (g 350 _ rfl), eq_long_v (g 351 _ rfl), eq_long_v (g 352 _ rfl), eq_long_v (g 353 _ rfl), eq_long_v (g 354 _ rfl), eq_long_v (g 355 _ rfl), eq_long_v (g 356 _ rfl), eq_long_v (g 357 _ rfl), eq_long_v (g 358 _ rfl), eq_long_v (g 359 _ rfl), eq_long_v (g 360 _ rfl), eq_long_v (g 361 _ rfl), eq_long_v (g 362 _ rfl), eq_long_v (g 363 _ rfl), eq_long_v (g 364 _ rfl), trivial⟩
  have S_A := Sta.start (eq_int_v (g 316 _ rfl)) (Or.inl (gb 315 _ rfl))
  refine ⟨wZ, wT, wS, wP, wH, kT, kS, kP, kH, fun i => [t0, t1, t2, t3, t4, t5, t6, t7, t8, t9, t10].getD i t0, fun i => [u0, u1, u2, u3, u4, u5, u6, u7, u8, u9, u10, u11, u12, u13, u14, u15].getD i u0, S_wZ, fun _ => ⟨E_wZ, F_wZ, J_wZ, fun q => absurd rfl q⟩, S_wT, V_wT, ?_, S_wS, V_wS, ?_, S_wP, V_wP, S_wH, V_wH, S_A⟩
  · intro i hi
    match i, hi with
    | 0, _ => exact ⟨E_t0, F_t0, J_t0, 1, D_t0, fun h => absurd rfl h⟩
    | 1, _ => exact ⟨E_t1, F_t1, J_t1, 1, D_t1, fun _ => ⟨0, by decide, by decide, by decide, by decide⟩⟩
    | 2, _ => exact ⟨E_t2, F_t2, J_t2, 1, D_t2, fun _ => ⟨0, by decide, by decide, by decide, by decide⟩⟩
    | 3, _ => exact ⟨E_t3, F_t3, J_t3, 1, D_t3, fun _ => ⟨0, by decide, by decide, by decide, by decide⟩⟩
    | 4, _ => exact ⟨E_t4, F_t4, J_t4, 1, D_t4, fun _ => ⟨0, by decide, by decide, by decide, by decide⟩⟩
    | 5, _ => exact ⟨E_t5, F_t5, J_t5, 1, D_t5, fun _ => ⟨0, by decide, by decide, by decide, by decide⟩⟩
    | 6, _ => exact ⟨E_t6, F_t6, J_t6, 1, D_t6, fun _ => ⟨0, by decide, by decide, by decide, by decide⟩⟩
    | 7, _ => exact ⟨E_t7, F_t7, J_t7, 1, D_t7, fun _ => ⟨0, by decide, by decide, by decide, by decide⟩⟩
    | 8, _ => exact ⟨E_t8, F_t8, J_t8, 1, D_t8, fun _ => ⟨0, by decide, by decide, by decide, by decide⟩⟩
    | 9, _ => exact ⟨E_t9, F_t9, J_t9, 1, D_t9, fun _ => ⟨0, by decide, by decide, by decide, by decide⟩⟩
    | 10, _ => exact ⟨E_t10, F_t10, J_t10, 2, D_t10, fun _ => ⟨1, by decide, by decide, by decide, by decide⟩⟩
    | n + 11, h => omega
  · intro i hi
    match i, hi with
    | 0, _ => exact ⟨E_u0, F_u0, J_u0⟩
    | 1, _ => exact ⟨E_u1, F_u1, J_u1⟩
    | 2, _ => exact ⟨E_u2, F_u2, J_u2⟩
    | 3, _ => exact ⟨E_u3, F_u3, J_u3⟩
    | 4, _ => exact ⟨E_u4, F_u4, J_u4⟩
    | 5, _ => exact ⟨E_u5, F_u5, J_u5⟩
    | 6, _ => exact ⟨E_u6, F_u6, J_u6⟩
    | 7, _ => exact ⟨E_u7, F_u7, J_u7⟩
    | 8, _ => exact ⟨E_u8, F_u8, J_u8⟩
    | 9, _ => exact ⟨E_u9, F_u9, J_u9⟩
    | 10, _ => exact ⟨E_u10, F_u10, J_u10⟩
    | 11, _ => exact ⟨E_u11, F_u11, J_u11⟩
    | 12, _ => exact ⟨E_u12, F_u12, J_u12⟩
    | 13, _ => exact ⟨E_u13, F_u13, J_u13⟩
    | 14, _ => exact ⟨E_u14, F_u14, J_u14⟩
    | 15, _ => exact ⟨E_u15, F_u15, J_u15⟩
    | n + 16, h => omega
set_option maxRecDepth 65536 in
set_option maxHeartbeats 40000000 in
theorem comes_1 {Post : Tables → Env → Array Value → State → Outcome → State → Prop} (hpost : ∀ tb e args s v u, (limb_1_1.after args s (.returned v) u = true ∧ limb_1_2.after args s (.returned v) u = true ∧ True) → FrameEnd s (.returned v) u (Jvm.fieldLocs frame_1_writes args s ++ Jvm.arrayLocs frame_1_arrays args s ++ Jvm.staticLocs frame_1_statics s) 40 256 → Post tb e args s (.returned v) u) :
    ArmFor flags0 classFile x code maxLocals ret World_1 tables_1 room_1 Calls_1 rest_1 Pre_1 Post := by
  intro l hfl _ _ p e ha hc hk s m args below hf hA hF happ hP
  obtain ⟨hcalls, hrest, hpre⟩ := hP
  obtain ⟨-, -, -, hnamed, -, -, -, hat⟩ := (Spec.applies_iff hf).mp happ
  obtain ⟨hg, hn⟩ := and_e (Cond.before_iff.mp (show (Jvm.Cond.and given_1 narrow_1).before args s = true from hpre))
  obtain ⟨g1, g2⟩ := and_e hg
  obtain ⟨g3, g4⟩ := and_e g2
  obtain ⟨g5, g6⟩ := and_e g4
  obtain ⟨g7, g8⟩ := and_e g6
  obtain ⟨w0_, w1_, w2_, w3_, rfl⟩ : ∃ w0_ w1_ w2_ w3_ : Value, args = #[w0_, w1_, w2_, w3_] := by
    have hs : args.size = 4 := by simpa [Cond.value, given_1] using g1
    obtain ⟨L⟩ := args
    match L, hs with
    | [w0_, w1_, w2_, w3_], _ => exact ⟨w0_, w1_, w2_, w3_, rfl⟩
  have hw := fun d (hd : d ∈ tables_1) => atoms_spec (ws := Jvm.Cond.code x code maxLocals ret :: tables_1) hat d (List.mem_cons_of_mem _ hd)
  have hfit : Fit s := fun {y c} hc i hi => by
    obtain ⟨ha, rfl⟩ := Array.getElem?_eq_some_iff.mp hc
    have q := List.all_eq_true.mp ((Array.all_eq_true_iff_forall_mem.mp hF) _ (Array.getElem_mem ha)) i (List.mem_range.mpr hi)
    simpa [Array.getElem?_eq_getElem hi] using q
  obtain ⟨hsets, hown0⟩ := atoms_of _ (rest_1_c_eq ▸ (show rest_1_c.before _ s = true from hrest))
  have hr0 := Cond.before_iff.mp hown0
  obtain ⟨i0_, ei0_⟩ := is_v g3
  obtain rfl : w0_ = (.int i0_) := Option.some.inj ei0_
  obtain ⟨i1_, ei1_⟩ := is_v g5
  obtain rfl : w1_ = (.int i1_) := Option.some.inj ei1_
  obtain ⟨i2_, ei2_⟩ := is_v g7
  obtain rfl : w2_ = (.int i2_) := Option.some.inj ei2_
  obtain ⟨i3_, ei3_⟩ := is_v g8
  obtain rfl : w3_ = (.int i3_) := Option.some.inj ei3_
  obtain ⟨wZ, wT, wS, wP, wH, kT, kS, kP, kH, zt, zs, hBS⟩ := bigS_start hfit hsets
  obtain ⟨wD, ev_wD⟩ := exa_v (Cond.before_iff.mp (hsets _ (List.mem_of_getElem? (i := 7) rfl)))
  have E_wD := Exa.start ev_wD (Cond.before_iff.mp (hsets _ (List.mem_of_getElem? (i := 7) rfl)))
  have S_wD := Sta.start ev_wD (Or.inr ⟨(w2 hw), (hsets _ (List.mem_of_getElem? (i := 2) rfl))⟩)
  obtain ⟨kD, vD, V_wD⟩ := arv_start .null hfit ev_wD (Cond.before_iff.mp (hsets _ (List.mem_of_getElem? (i := 6) rfl))) (eq_int_v (Cond.before_iff.mp (hsets _ (List.mem_of_getElem? (i := 8) rfl))))
  obtain ⟨n, o, h1, h2, h3, _, L, rfl, ⟨rfl, N⟩, hq⟩ := law0 l s _ hw i0_ i1_ i2_ i3_ wZ wT wS wP wH kT kS kP kH zt zs wD kD vD s.heap s.heap.size (Nat.le_refl _) (Old.start s) hBS S_wD V_wD tables_1 p e ha hc hk s m _ below hf ((Spec.applies_iff_loose hf).mp happ).1 ⟨rfl, State.Warmed39.refl s, rfl⟩ trivial
  refine ⟨n, _, h1, h2, h3, hpost _ _ _ _ _ _ ⟨Cond.after_iff.mpr rfl, Cond.after_iff.mpr (eq_i res_at (Term.int_eval (1)) rfl), trivial⟩ ⟨hq.1, hq.2.1, (hq.2.2.sift fun y hy => Or.inr (N y hy)).mono (by decide) (by decide)⟩⟩
theorem main_1_1 : Claimed_1_1 := comes_1 fun _ _ _ _ _ _ h hF => ⟨h.1, hF⟩
theorem main_1_2 : Claimed_1_2 := comes_1 fun _ _ _ _ _ _ h hF => ⟨h.2.1, hF⟩
end Jvm.Pilot.@@N@@
namespace Jvm.Pilot.@@N@@
open Jvm Jvm.ClassFile Sem Op Lib Jvm.Free Jvm.Stand Jvm.Pilot.@@N@@.Jvm.D
/-! MADE BY PROGRAM (witnessworld.py) out of the Statement's table words and the real class files: 33 classes; the members and pool entries that the words name. The judged class is class 1, her method 3. -/
namespace start1
open Jvm.ClassFile
def u (s : String) : CpInfo := .utf8 (stringToUtf16 s)
/-- a pool by its gaps: so many unusable entries, then the entry; so many at the end -/
def gap : Nat → List CpInfo → List CpInfo
  | 0, r => r
  | n + 1, r => .unusable :: gap n r
def poolList (es : List (Nat × CpInfo)) (last : Nat) : List CpInfo := es.foldr (fun e r => gap e.1 (e.2 :: r)) (gap last [])
def pool (es : List (Nat × CpInfo)) (last : Nat) : Array CpInfo := ⟨poolList es last⟩
def fileOf (pool : Array CpInfo) (this : Nat) (attrs : Array Attribute := #[]) (ms : Array MethodInfo := #[]) (fl : Nat := 33) (sup : Nat := 0) (ifs : Array Nat := #[]) (fds : Array FieldInfo := #[]) : ClassFile where
  minorVersion := 0
  majorVersion := 65
  constantPool := pool
  accessFlags := fl
  thisClass := this
  superClass := sup
  interfaces := ifs
  fields := fds
  methods := ms
  attributes := attrs
def plain (name : String) (sup : Option ClassId) : Class where
  name := name
  kind := .ordinary
  loader := none
  accessFlags := 33
  super := sup
  interfaces := #[]
  cf := none
  fields := #[]
  methods := #[]
  instanceTypes := #[]
  staticTypes := #[]
  resolved := #[]
  callSites := []
  init := .initialized
  statics := none
  mirror := none

def pool0 : Array CpInfo := pool [(5, u "<init>"), (0, u "()V"), (1, .class_ 10), (1, u "java/lang/Object")] 113

def k0c0 : Code := { maxStack := 0, maxLocals := 1, code := object_method_1_code, exceptionTable := #[], attributes := #[] }
def k0m0 : Method := { name := "<init>", desc := "()V", sig := { parameters := [], returnType := none }, accessFlags := 1, code := some k0c0 }
/-- java/lang/Object -/
def k0 : Class := { plain "java/lang/Object" none with
  accessFlags := 33
  interfaces := #[]
  cf := some (fileOf pool0 8 #[] #[{ accessFlags := 1, nameIndex := 5, descriptorIndex := 6, attributes := #[] }] 33 0 #[] #[])
  fields := #[]
  methods := #[k0m0]
  instanceTypes := #[]
  staticTypes := #[]
  resolved := Array.replicate 124 none
  statics := none }

def pool1 : Array CpInfo := pool [(2, .class_ 4), (0, .nameAndType 5 6), (0, u "java/lang/Object"), (0, u "<init>"), (0, u "()V"), (0, .long 10), (1, .long 100), (1, .long 1000), (1, .class_ 14), (0, u "com/example/tipple/tipple/Lot"), (0, .methodref 16 17), (0, .class_ 18), (0, .nameAndType 19 20), (0, u "java/math/BigDecimal"), (0, u "valueOf"), (0, u "(JI)Ljava/math/BigDecimal;"), (0, .fieldref 16 22), (0, .nameAndType 23 24), (0, u "ZERO"), (0, u "Ljava/math/BigDecimal;"), (0, .methodref 13 26), (0, .nameAndType 5 27), (0, u "(Ljava/lang/String;Ljava/lang/String;JLjava/time/LocalDate;Ljava/lang/String;Ljava/math/BigDecimal;Ljava/math/BigDecimal;Ljava/math/BigDecimal;Ljava/math/BigDecimal;Ljava/math/BigDecimal;Ljava/util/Optional;Z)V"), (0, .class_ 29), (0, u "java/util/ArrayList"), (0, .methodref 28 3), (0, .methodref 32 33), (0, .class_ 34), (0, .nameAndType 35 36), (0, u "com/example/tipple/tipple/TotalsTonsPinLaw"), (0, u "lot"), (0, u "(IIZ)Lcom/example/tipple/tipple/Lot;"), (0, .interfaceMethodref 38 39), (0, .class_ 40), (0, .nameAndType 41 42), (0, u "java/util/List"), (0, u "add"), (0, u "(Ljava/lang/Object;)Z"), (0, .methodref 32 44), (0, .nameAndType 45 46), (0, u "pow10"), (0, u "(I)J"), (0, .methodref 48 49), (0, .class_ 50), (0, .nameAndType 51 52), (0, u "java/lang/Math"), (0, u "max"), (0, u "(II)I"), (0, .methodref 54 55), (0, .class_ 56), (0, .nameAndType 57 58), (0, u "com/example/tipple/tipple/Totals"), (0, u "tons"), (0, u "(Ljava/util/List;)Ljava/math/BigDecimal;"), (0, .methodref 16 60), (0, .nameAndType 61 62), (0, u "compareTo"), (0, u "(Ljava/math/BigDecimal;)I"), (0, .methodref 16 64), (0, .nameAndType 65 66), (0, u "scale"), (0, u "()I"), (3, u "law"), (0, u "(IIII)Z")] 2

def k1m0 : Method := { name := "<init>", desc := "()V", sig := { parameters := [], returnType := none }, accessFlags := 1, code := none }
def k1c1 : Code := { maxStack := 2, maxLocals := 1, code := method_2_code, exceptionTable := #[], attributes := #[] }
def k1m1 : Method := { name := "pow10", desc := "(I)J", sig := { parameters := [.int], returnType := some .long }, accessFlags := 10, code := some k1c1 }
def k1c2 : Code := { maxStack := 15, maxLocals := 3, code := method_3_code, exceptionTable := #[], attributes := #[] }
def k1m2 : Method := { name := "lot", desc := "(IIZ)Lcom/example/tipple/tipple/Lot;", sig := { parameters := [.int, .int, .boolean], returnType := some (.object "com/example/tipple/tipple/Lot") }, accessFlags := 10, code := some k1c2 }
def k1c3 : Code := { maxStack := 6, maxLocals := 16, code := code, exceptionTable := #[], attributes := #[] }
def k1m3 : Method := { name := "law", desc := "(IIII)Z", sig := { parameters := [.int, .int, .int, .int], returnType := some .boolean }, accessFlags := 9, code := some k1c3 }
/-- com/example/tipple/tipple/TotalsTonsPinLaw -/
def k1 : Class := { plain "com/example/tipple/tipple/TotalsTonsPinLaw" (some 0) with
  accessFlags := 49
  interfaces := #[]
  cf := some (fileOf pool1 32 #[] #[{ accessFlags := 1, nameIndex := 5, descriptorIndex := 6, attributes := #[] }, { accessFlags := 10, nameIndex := 45, descriptorIndex := 46, attributes := #[] }, { accessFlags := 10, nameIndex := 35, descriptorIndex := 36, attributes := #[] }, { accessFlags := 9, nameIndex := 70, descriptorIndex := 71, attributes := #[] }] 49 2 #[] #[])
  fields := #[]
  methods := #[k1m0, k1m1, k1m2, k1m3]
  instanceTypes := #[]
  staticTypes := #[]
  resolved := Array.replicate 74 none
  statics := none }

def pool2 : Array CpInfo := pool [(8, .class_ 10), (1, u "java/lang/Iterable"), (24, .class_ 36), (0, u "java/lang/Object")] 25

/-- java/lang/Iterable -/
def k2 : Class := { plain "java/lang/Iterable" (some 0) with
  accessFlags := 1537
  interfaces := #[]
  cf := some (fileOf pool2 8 #[] #[] 1537 35 #[] #[])
  fields := #[]
  methods := #[]
  instanceTypes := #[]
  staticTypes := #[]
  resolved := Array.replicate 62 none
  statics := none }

def pool3 : Array CpInfo := pool [(10, .class_ 12), (1, u "java/util/Collection"), (47, .class_ 61), (0, u "java/lang/Object"), (0, .class_ 63), (0, u "java/lang/Iterable")] 51

/-- java/util/Collection -/
def k3 : Class := { plain "java/util/Collection" (some 0) with
  accessFlags := 1537
  interfaces := #[2]
  cf := some (fileOf pool3 10 #[] #[] 1537 60 #[62] #[])
  fields := #[]
  methods := #[]
  instanceTypes := #[]
  staticTypes := #[]
  resolved := Array.replicate 115 none
  statics := none }

def pool4 : Array CpInfo := pool [(1, .methodref 2 3), (0, .class_ 4), (0, .nameAndType 5 6), (0, u "java/lang/Object"), (0, u "<init>"), (0, u "()V"), (1, .class_ 10), (1, u "java/util/AbstractCollection"), (66, .class_ 78), (0, u "java/util/Collection")] 81

def k4c0 : Code := { maxStack := 1, maxLocals := 1, code := jdk_22_method_1_code, exceptionTable := #[], attributes := #[] }
def k4m0 : Method := { name := "<init>", desc := "()V", sig := { parameters := [], returnType := none }, accessFlags := 4, code := some k4c0 }
/-- java/util/AbstractCollection -/
def k4 : Class := { plain "java/util/AbstractCollection" (some 0) with
  accessFlags := 1057
  interfaces := #[3]
  cf := some (fileOf pool4 8 #[] #[{ accessFlags := 4, nameIndex := 5, descriptorIndex := 6, attributes := #[] }] 1057 2 #[77] #[])
  fields := #[]
  methods := #[k4m0]
  instanceTypes := #[]
  staticTypes := #[]
  resolved := Array.replicate 160 none
  statics := none }

def pool5 : Array CpInfo := pool [(8, .class_ 10), (1, u "java/util/SequencedCollection"), (15, .class_ 27), (0, u "java/lang/Object"), (0, .class_ 29), (0, u "java/util/Collection")] 27

/-- java/util/SequencedCollection -/
def k5 : Class := { plain "java/util/SequencedCollection" (some 0) with
  accessFlags := 1537
  interfaces := #[3]
  cf := some (fileOf pool5 8 #[] #[] 1537 26 #[28] #[])
  fields := #[]
  methods := #[]
  instanceTypes := #[]
  staticTypes := #[]
  resolved := Array.replicate 57 none
  statics := none }

def pool6 : Array CpInfo := pool [(8, .class_ 10), (1, u "java/util/List"), (49, u "add"), (3, u "(Ljava/lang/Object;)Z"), (38, .class_ 104), (0, u "java/lang/Object"), (15, .class_ 121), (0, u "java/util/SequencedCollection"), (1, u "iterator"), (0, u "()Ljava/util/Iterator;")] 126

def k6m0 : Method := { name := "iterator", desc := "()Ljava/util/Iterator;", sig := { parameters := [], returnType := some (.object "java/util/Iterator") }, accessFlags := 1025, code := none }
def k6m1 : Method := { name := "add", desc := "(Ljava/lang/Object;)Z", sig := { parameters := [(.object "java/lang/Object")], returnType := some .boolean }, accessFlags := 1025, code := none }
/-- java/util/List -/
def k6 : Class := { plain "java/util/List" (some 0) with
  accessFlags := 1537
  interfaces := #[5]
  cf := some (fileOf pool6 8 #[] #[{ accessFlags := 1025, nameIndex := 123, descriptorIndex := 124, attributes := #[] }, { accessFlags := 1025, nameIndex := 60, descriptorIndex := 64, attributes := #[] }] 1537 103 #[120] #[])
  fields := #[]
  methods := #[k6m0, k6m1]
  instanceTypes := #[]
  staticTypes := #[]
  resolved := Array.replicate 251 none
  statics := none }

def pool7 : Array CpInfo := pool [(1, .methodref 2 3), (0, .class_ 4), (0, .nameAndType 5 6), (0, u "java/util/AbstractCollection"), (0, u "<init>"), (0, u "()V"), (0, .fieldref 8 9), (0, .class_ 10), (0, .nameAndType 11 12), (0, u "java/util/AbstractList"), (0, u "modCount"), (0, u "I"), (64, .class_ 78), (0, u "java/util/AbstractList$Itr"), (3, .class_ 83), (0, u "java/util/AbstractList$ListItr"), (9, .class_ 94), (0, u "java/util/AbstractList$RandomAccessSubList"), (3, .class_ 99), (0, u "java/util/AbstractList$SubList"), (33, .class_ 134), (0, u "java/util/List"), (73, .class_ 209), (0, u "java/util/AbstractList$SubList$1"), (0, .class_ 211), (0, u "java/util/AbstractList$RandomAccessSpliterator")] 6

def k7c0 : Code := { maxStack := 2, maxLocals := 1, code := jdk_39_method_1_code, exceptionTable := #[], attributes := #[] }
def k7m0 : Method := { name := "<init>", desc := "()V", sig := { parameters := [], returnType := none }, accessFlags := 4, code := some k7c0 }
/-- java/util/AbstractList -/
def k7 : Class := { plain "java/util/AbstractList" (some 4) with
  accessFlags := 1057
  interfaces := #[6]
  cf := some (fileOf pool7 8 #[.nestMembers #[93, 98, 208, 210, 82, 77]] #[{ accessFlags := 4, nameIndex := 5, descriptorIndex := 6, attributes := #[] }] 1057 2 #[133] #[{ accessFlags := 132, nameIndex := 11, descriptorIndex := 12, attributes := #[] }])
  fields := #[{ name := "modCount", type := .int, accessFlags := 132, slot := 0, constantValue := 0 }]
  methods := #[k7m0]
  instanceTypes := #[.int]
  staticTypes := #[]
  resolved := Array.replicate 218 none
  statics := none }

def pool8 : Array CpInfo := pool [(1, .class_ 2), (0, u "java/util/RandomAccess"), (0, .class_ 4), (0, u "java/lang/Object")] 2

/-- java/util/RandomAccess -/
def k8 : Class := { plain "java/util/RandomAccess" (some 0) with
  accessFlags := 1537
  interfaces := #[]
  cf := some (fileOf pool8 1 #[] #[] 1537 3 #[] #[])
  fields := #[]
  methods := #[]
  instanceTypes := #[]
  staticTypes := #[]
  resolved := Array.replicate 7 none
  statics := none }

def pool9 : Array CpInfo := pool [(1, .class_ 2), (0, u "java/lang/Cloneable"), (0, .class_ 4), (0, u "java/lang/Object")] 2

/-- java/lang/Cloneable -/
def k9 : Class := { plain "java/lang/Cloneable" (some 0) with
  accessFlags := 1537
  interfaces := #[]
  cf := some (fileOf pool9 1 #[] #[] 1537 3 #[] #[])
  fields := #[]
  methods := #[]
  instanceTypes := #[]
  staticTypes := #[]
  resolved := Array.replicate 7 none
  statics := none }

def pool10 : Array CpInfo := pool [(1, .class_ 2), (0, u "java/io/Serializable"), (0, .class_ 4), (0, u "java/lang/Object")] 2

/-- java/io/Serializable -/
def k10 : Class := { plain "java/io/Serializable" (some 0) with
  accessFlags := 1537
  interfaces := #[]
  cf := some (fileOf pool10 1 #[] #[] 1537 3 #[] #[])
  fields := #[]
  methods := #[]
  instanceTypes := #[]
  staticTypes := #[]
  resolved := Array.replicate 7 none
  statics := none }

def pool11 : Array CpInfo := pool [(1, .methodref 2 3), (0, .class_ 4), (0, .nameAndType 5 6), (0, u "java/util/AbstractList"), (0, u "<init>"), (0, u "()V"), (0, .class_ 8), (0, u "java/lang/Object"), (0, .fieldref 10 11), (0, .class_ 12), (0, .nameAndType 13 14), (0, u "java/util/ArrayList"), (0, u "elementData"), (0, u "[Ljava/lang/Object;"), (2, u "EMPTY_ELEMENTDATA"), (21, .fieldref 10 40), (0, .nameAndType 41 14), (0, u "DEFAULTCAPACITY_EMPTY_ELEMENTDATA"), (5, u "()[Ljava/lang/Object;"), (0, .fieldref 10 49), (0, .nameAndType 50 51), (0, u "size"), (0, u "I"), (11, .fieldref 10 64), (0, .nameAndType 65 51), (0, u "modCount"), (3, .methodref 10 70), (0, .nameAndType 71 72), (0, u "grow"), (0, u "(I)[Ljava/lang/Object;"), (6, .methodref 80 81), (0, .class_ 82), (0, .nameAndType 83 84), (0, u "java/lang/Math"), (0, u "max"), (0, u "(II)I"), (11, u "(Ljava/lang/Object;)Z"), (32, .methodref 10 130), (0, .nameAndType 71 47), (0, .methodref 10 132), (0, .nameAndType 133 134), (0, u "add"), (0, u "(Ljava/lang/Object;[Ljava/lang/Object;I)V"), (13, .class_ 149), (0, u "java/util/List"), (16, u "iterator"), (0, u "()Ljava/util/Iterator;"), (94, .class_ 263), (0, u "java/util/ArrayList$ListItr"), (3, .class_ 268), (0, u "java/util/ArrayList$Itr"), (0, .methodref 267 270), (0, .nameAndType 5 271), (0, u "(Ljava/util/ArrayList;)V"), (4, .class_ 277), (0, u "java/util/ArrayList$SubList"), (12, .class_ 291), (0, u "java/util/ArrayList$ArrayListSpliterator"), (37, .class_ 330), (0, u "java/util/RandomAccess"), (0, .class_ 332), (0, u "java/lang/Cloneable"), (0, .class_ 334), (0, u "java/io/Serializable"), (0, u "serialVersionUID"), (0, u "J"), (3, u "DEFAULT_CAPACITY"), (159, .class_ 501), (0, u "java/util/ArrayList$SubList$2"), (0, .class_ 503), (0, u "java/util/ArrayList$SubList$1")] 5

def k11c0 : Code := { maxStack := 2, maxLocals := 1, code := jdk_38_method_2_code, exceptionTable := #[], attributes := #[] }
def k11m0 : Method := { name := "<init>", desc := "()V", sig := { parameters := [], returnType := none }, accessFlags := 1, code := some k11c0 }
def k11c1 : Code := { maxStack := 4, maxLocals := 4, code := jdk_38_method_6_code, exceptionTable := #[], attributes := #[] }
def k11m1 : Method := { name := "grow", desc := "(I)[Ljava/lang/Object;", sig := { parameters := [.int], returnType := some (.array (.object "java/lang/Object")) }, accessFlags := 2, code := some k11c1 }
def k11c2 : Code := { maxStack := 3, maxLocals := 1, code := jdk_38_method_7_code, exceptionTable := #[], attributes := #[] }
def k11m2 : Method := { name := "grow", desc := "()[Ljava/lang/Object;", sig := { parameters := [], returnType := some (.array (.object "java/lang/Object")) }, accessFlags := 2, code := some k11c2 }
def k11c3 : Code := { maxStack := 3, maxLocals := 4, code := jdk_38_method_24_code, exceptionTable := #[], attributes := #[] }
def k11m3 : Method := { name := "add", desc := "(Ljava/lang/Object;[Ljava/lang/Object;I)V", sig := { parameters := [(.object "java/lang/Object"), (.array (.object "java/lang/Object")), .int], returnType := none }, accessFlags := 2, code := some k11c3 }
def k11c4 : Code := { maxStack := 4, maxLocals := 2, code := jdk_38_method_25_code, exceptionTable := #[], attributes := #[] }
def k11m4 : Method := { name := "add", desc := "(Ljava/lang/Object;)Z", sig := { parameters := [(.object "java/lang/Object")], returnType := some .boolean }, accessFlags := 1, code := some k11c4 }
def k11c5 : Code := { maxStack := 3, maxLocals := 1, code := jdk_38_method_55_code, exceptionTable := #[], attributes := #[] }
def k11m5 : Method := { name := "iterator", desc := "()Ljava/util/Iterator;", sig := { parameters := [], returnType := some (.object "java/util/Iterator") }, accessFlags := 1, code := some k11c5 }
/-- java/util/ArrayList -/
def k11 : Class := { plain "java/util/ArrayList" (some 7) with
  accessFlags := 33
  interfaces := #[6, 8, 9, 10]
  cf := some (fileOf pool11 10 #[.nestMembers #[290, 276, 500, 502, 262, 267]] #[{ accessFlags := 1, nameIndex := 5, descriptorIndex := 6, attributes := #[] }, { accessFlags := 2, nameIndex := 71, descriptorIndex := 72, attributes := #[] }, { accessFlags := 2, nameIndex := 71, descriptorIndex := 47, attributes := #[] }, { accessFlags := 2, nameIndex := 133, descriptorIndex := 134, attributes := #[] }, { accessFlags := 1, nameIndex := 133, descriptorIndex := 96, attributes := #[] }, { accessFlags := 1, nameIndex := 166, descriptorIndex := 167, attributes := #[] }] 33 2 #[148, 329, 331, 333] #[{ accessFlags := 26, nameIndex := 335, descriptorIndex := 336, attributes := #[] }, { accessFlags := 26, nameIndex := 340, descriptorIndex := 51, attributes := #[] }, { accessFlags := 26, nameIndex := 17, descriptorIndex := 14, attributes := #[] }, { accessFlags := 26, nameIndex := 41, descriptorIndex := 14, attributes := #[] }, { accessFlags := 128, nameIndex := 13, descriptorIndex := 14, attributes := #[] }, { accessFlags := 2, nameIndex := 50, descriptorIndex := 51, attributes := #[] }])
  fields := #[{ name := "serialVersionUID", type := .long, accessFlags := 26, slot := 0, constantValue := 0 }, { name := "DEFAULT_CAPACITY", type := .int, accessFlags := 26, slot := 1, constantValue := 0 }, { name := "EMPTY_ELEMENTDATA", type := (.array (.object "java/lang/Object")), accessFlags := 26, slot := 2, constantValue := 0 }, { name := "DEFAULTCAPACITY_EMPTY_ELEMENTDATA", type := (.array (.object "java/lang/Object")), accessFlags := 26, slot := 3, constantValue := 0 }, { name := "elementData", type := (.array (.object "java/lang/Object")), accessFlags := 128, slot := 1, constantValue := 0 }, { name := "size", type := .int, accessFlags := 2, slot := 2, constantValue := 0 }]
  methods := #[k11m0, k11m1, k11m2, k11m3, k11m4, k11m5]
  instanceTypes := #[.int, (.array (.object "java/lang/Object")), .int]
  staticTypes := #[.long, .int, (.array (.object "java/lang/Object")), (.array (.object "java/lang/Object"))]
  resolved := Array.replicate 509 none
  statics := some 0 }

def pool12 : Array CpInfo := pool [(1, .methodref 2 3), (0, .class_ 4), (0, .nameAndType 5 6), (0, u "java/lang/Object"), (0, u "<init>"), (0, u "()V"), (0, .fieldref 8 9), (0, .class_ 10), (0, .nameAndType 11 12), (0, u "com/example/tipple/tipple/Lot"), (0, u "id"), (0, u "Ljava/lang/String;"), (0, .fieldref 8 14), (0, .nameAndType 15 12), (0, u "file"), (0, .fieldref 8 17), (0, .nameAndType 18 19), (0, u "line"), (0, u "J"), (0, .fieldref 8 21), (0, .nameAndType 22 23), (0, u "deliveredOn"), (0, u "Ljava/time/LocalDate;"), (0, .fieldref 8 25), (0, .nameAndType 26 12), (0, u "group"), (0, .fieldref 8 28), (0, .nameAndType 29 30), (0, u "tons"), (0, u "Ljava/math/BigDecimal;"), (0, .fieldref 8 32), (0, .nameAndType 33 30), (0, u "btuPerLb"), (0, .fieldref 8 35), (0, .nameAndType 36 30), (0, u "moisturePct"), (0, .fieldref 8 38), (0, .nameAndType 39 30), (0, u "ashPct"), (0, .fieldref 8 41), (0, .nameAndType 42 30), (0, u "sulfurPct"), (0, .fieldref 8 44), (0, .nameAndType 45 46), (0, u "chlorinePpm"), (0, u "Ljava/util/Optional;"), (0, .fieldref 8 48), (0, .nameAndType 49 50), (0, u "rejected"), (0, u "Z"), (12, u "GROUP_COLUMNS"), (0, u "Ljava/util/List;"), (0, u "BUYER"), (1, u "DESTINATION"), (2, u "DELIVERED_ON"), (3, u "(Ljava/lang/String;Ljava/lang/String;JLjava/time/LocalDate;Ljava/lang/String;Ljava/math/BigDecimal;Ljava/math/BigDecimal;Ljava/math/BigDecimal;Ljava/math/BigDecimal;Ljava/math/BigDecimal;Ljava/util/Optional;Z)V"), (6, u "()Ljava/math/BigDecimal;")] 6

def k12c0 : Code := { maxStack := 3, maxLocals := 14, code := prog_8_method_1_code, exceptionTable := #[], attributes := #[] }
def k12m0 : Method := { name := "<init>", desc := "(Ljava/lang/String;Ljava/lang/String;JLjava/time/LocalDate;Ljava/lang/String;Ljava/math/BigDecimal;Ljava/math/BigDecimal;Ljava/math/BigDecimal;Ljava/math/BigDecimal;Ljava/math/BigDecimal;Ljava/util/Optional;Z)V", sig := { parameters := [(.object "java/lang/String"), (.object "java/lang/String"), .long, (.object "java/time/LocalDate"), (.object "java/lang/String"), (.object "java/math/BigDecimal"), (.object "java/math/BigDecimal"), (.object "java/math/BigDecimal"), (.object "java/math/BigDecimal"), (.object "java/math/BigDecimal"), (.object "java/util/Optional"), .boolean], returnType := none }, accessFlags := 0, code := some k12c0 }
def k12c1 : Code := { maxStack := 1, maxLocals := 1, code := prog_8_method_7_code, exceptionTable := #[], attributes := #[] }
def k12m1 : Method := { name := "tons", desc := "()Ljava/math/BigDecimal;", sig := { parameters := [], returnType := some (.object "java/math/BigDecimal") }, accessFlags := 1, code := some k12c1 }
/-- com/example/tipple/tipple/Lot -/
def k12 : Class := { plain "com/example/tipple/tipple/Lot" (some 0) with
  accessFlags := 49
  interfaces := #[]
  cf := some (fileOf pool12 8 #[] #[{ accessFlags := 0, nameIndex := 5, descriptorIndex := 74, attributes := #[] }, { accessFlags := 1, nameIndex := 29, descriptorIndex := 81, attributes := #[] }] 49 2 #[] #[{ accessFlags := 24, nameIndex := 65, descriptorIndex := 12, attributes := #[] }, { accessFlags := 24, nameIndex := 67, descriptorIndex := 12, attributes := #[] }, { accessFlags := 24, nameIndex := 63, descriptorIndex := 64, attributes := #[] }, { accessFlags := 24, nameIndex := 70, descriptorIndex := 12, attributes := #[] }, { accessFlags := 18, nameIndex := 11, descriptorIndex := 12, attributes := #[] }, { accessFlags := 18, nameIndex := 15, descriptorIndex := 12, attributes := #[] }, { accessFlags := 18, nameIndex := 18, descriptorIndex := 19, attributes := #[] }, { accessFlags := 18, nameIndex := 22, descriptorIndex := 23, attributes := #[] }, { accessFlags := 18, nameIndex := 26, descriptorIndex := 12, attributes := #[] }, { accessFlags := 18, nameIndex := 29, descriptorIndex := 30, attributes := #[] }, { accessFlags := 18, nameIndex := 33, descriptorIndex := 30, attributes := #[] }, { accessFlags := 18, nameIndex := 36, descriptorIndex := 30, attributes := #[] }, { accessFlags := 18, nameIndex := 39, descriptorIndex := 30, attributes := #[] }, { accessFlags := 18, nameIndex := 42, descriptorIndex := 30, attributes := #[] }, { accessFlags := 18, nameIndex := 45, descriptorIndex := 46, attributes := #[] }, { accessFlags := 18, nameIndex := 49, descriptorIndex := 50, attributes := #[] }])
  fields := #[{ name := "BUYER", type := (.object "java/lang/String"), accessFlags := 24, slot := 0, constantValue := 0 }, { name := "DESTINATION", type := (.object "java/lang/String"), accessFlags := 24, slot := 1, constantValue := 0 }, { name := "GROUP_COLUMNS", type := (.object "java/util/List"), accessFlags := 24, slot := 2, constantValue := 0 }, { name := "DELIVERED_ON", type := (.object "java/lang/String"), accessFlags := 24, slot := 3, constantValue := 0 }, { name := "id", type := (.object "java/lang/String"), accessFlags := 18, slot := 0, constantValue := 0 }, { name := "file", type := (.object "java/lang/String"), accessFlags := 18, slot := 1, constantValue := 0 }, { name := "line", type := .long, accessFlags := 18, slot := 2, constantValue := 0 }, { name := "deliveredOn", type := (.object "java/time/LocalDate"), accessFlags := 18, slot := 3, constantValue := 0 }, { name := "group", type := (.object "java/lang/String"), accessFlags := 18, slot := 4, constantValue := 0 }, { name := "tons", type := (.object "java/math/BigDecimal"), accessFlags := 18, slot := 5, constantValue := 0 }, { name := "btuPerLb", type := (.object "java/math/BigDecimal"), accessFlags := 18, slot := 6, constantValue := 0 }, { name := "moisturePct", type := (.object "java/math/BigDecimal"), accessFlags := 18, slot := 7, constantValue := 0 }, { name := "ashPct", type := (.object "java/math/BigDecimal"), accessFlags := 18, slot := 8, constantValue := 0 }, { name := "sulfurPct", type := (.object "java/math/BigDecimal"), accessFlags := 18, slot := 9, constantValue := 0 }, { name := "chlorinePpm", type := (.object "java/util/Optional"), accessFlags := 18, slot := 10, constantValue := 0 }, { name := "rejected", type := .boolean, accessFlags := 18, slot := 11, constantValue := 0 }]
  methods := #[k12m0, k12m1]
  instanceTypes := #[(.object "java/lang/String"), (.object "java/lang/String"), .long, (.object "java/time/LocalDate"), (.object "java/lang/String"), (.object "java/math/BigDecimal"), (.object "java/math/BigDecimal"), (.object "java/math/BigDecimal"), (.object "java/math/BigDecimal"), (.object "java/math/BigDecimal"), (.object "java/util/Optional"), .boolean]
  staticTypes := #[(.object "java/lang/String"), (.object "java/lang/String"), (.object "java/util/List"), (.object "java/lang/String")]
  resolved := Array.replicate 88 none
  statics := none }

def pool13 : Array CpInfo := pool [(1, .methodref 2 3), (0, .class_ 4), (0, .nameAndType 5 6), (0, u "java/lang/Object"), (0, u "<init>"), (0, u "()V"), (1, .class_ 10), (1, u "java/lang/Number"), (2, .class_ 14), (0, u "java/io/Serializable"), (0, u "serialVersionUID"), (0, u "J")] 20

def k13c0 : Code := { maxStack := 1, maxLocals := 1, code := jdk_18_method_1_code, exceptionTable := #[], attributes := #[] }
def k13m0 : Method := { name := "<init>", desc := "()V", sig := { parameters := [], returnType := none }, accessFlags := 1, code := some k13c0 }
/-- java/lang/Number -/
def k13 : Class := { plain "java/lang/Number" (some 0) with
  accessFlags := 1057
  interfaces := #[10]
  cf := some (fileOf pool13 8 #[] #[{ accessFlags := 1, nameIndex := 5, descriptorIndex := 6, attributes := #[] }] 1057 2 #[13] #[{ accessFlags := 26, nameIndex := 15, descriptorIndex := 16, attributes := #[] }])
  fields := #[{ name := "serialVersionUID", type := .long, accessFlags := 26, slot := 0, constantValue := 0 }]
  methods := #[k13m0]
  instanceTypes := #[]
  staticTypes := #[.long]
  resolved := Array.replicate 37 none
  statics := none }

def pool14 : Array CpInfo := pool [(1, .class_ 2), (0, u "java/lang/Comparable"), (0, .class_ 4), (0, u "java/lang/Object")] 7

/-- java/lang/Comparable -/
def k14 : Class := { plain "java/lang/Comparable" (some 0) with
  accessFlags := 1537
  interfaces := #[]
  cf := some (fileOf pool14 1 #[] #[] 1537 3 #[] #[])
  fields := #[]
  methods := #[]
  instanceTypes := #[]
  staticTypes := #[]
  resolved := Array.replicate 12 none
  statics := none }

def pool15 : Array CpInfo := pool [(3, .class_ 4), (0, u "java/math/BigDecimal"), (2, .class_ 8), (0, u "java/lang/Long"), (2, .methodref 12 13), (0, .class_ 14), (0, .nameAndType 15 16), (0, u "java/lang/Number"), (0, u "<init>"), (0, u "()V"), (0, .fieldref 3 18), (0, .nameAndType 19 20), (0, u "scale"), (0, u "I"), (0, .fieldref 3 22), (0, .nameAndType 23 20), (0, u "precision"), (0, .fieldref 3 25), (0, .nameAndType 26 27), (0, u "intCompact"), (0, u "J"), (0, .fieldref 3 29), (0, .nameAndType 30 31), (0, u "intVal"), (0, u "Ljava/math/BigInteger;"), (24, .long 10), (38, .fieldref 3 96), (0, .nameAndType 97 98), (0, u "LONG_TEN_POWERS_TABLE"), (0, u "[J"), (13, .methodref 3 113), (0, .nameAndType 114 115), (0, u "longDigitLength"), (0, u "(J)I"), (9, .long 9223372036854775808), (36, u "()I"), (24, u "ZERO"), (2, u "INFLATED_BIGINT"), (4, u "valueOf"), (10, u "TWO"), (29, .methodref 3 237), (0, .nameAndType 195 238), (0, u "(J)Ljava/math/BigDecimal;"), (0, .methodref 3 240), (0, .nameAndType 241 242), (0, u "zeroValueOf"), (0, u "(I)Ljava/math/BigDecimal;"), (0, .methodref 3 244), (0, .nameAndType 15 245), (0, u "(Ljava/math/BigInteger;JII)V"), (0, .fieldref 3 247), (0, .nameAndType 248 249), (0, u "ZERO_THROUGH_TEN"), (0, u "[Ljava/math/BigDecimal;"), (0, .fieldref 3 251), (0, .nameAndType 252 249), (0, u "ZERO_SCALED_BY"), (4, .methodref 3 258), (0, .nameAndType 259 260), (0, u "add"), (0, u "(JIJI)Ljava/math/BigDecimal;"), (8, u "(Ljava/math/BigDecimal;)Ljava/math/BigDecimal;"), (0, .methodref 3 271), (0, .nameAndType 272 162), (0, u "signum"), (3, .class_ 278), (1, u "java/lang/Math"), (10, .methodref 3 290), (0, .nameAndType 23 162), (20, .fieldref 3 312), (0, .nameAndType 313 314), (0, u "$assertionsDisabled"), (0, u "Z"), (7, u "(JJ)J"), (4, u "checkScale"), (0, .methodref 3 329), (0, .nameAndType 195 330), (0, u "(JI)Ljava/math/BigDecimal;"), (13, u "(JJI)Ljava/math/BigDecimal;"), (91, .methodref 3 437), (0, .nameAndType 438 439), (0, u "compareMagnitude"), (0, u "(Ljava/math/BigDecimal;)I"), (0, .methodref 276 441), (0, .nameAndType 442 443), (0, u "abs"), (0, u "(J)J"), (34, u "ONE_TENTH"), (0, u "Ljava/math/BigDecimal;"), (2, u "compareTo"), (2, u "TEN"), (14, .class_ 502), (1, u "java/math/BigDecimal$1"), (15, u "ONE_HALF"), (16, u "ONE"), (60, .methodref 7 597), (0, .nameAndType 272 115), (1, .methodref 3 600), (0, .nameAndType 601 602), (0, u "longMultiplyPowerTen"), (0, u "(JI)J"), (25, .long 18446744071562067968), (3, .methodref 3 633), (0, .nameAndType 634 635), (0, u "longCompareMagnitude"), (0, u "(JJ)I"), (7, u "stringCache"), (0, u "Ljava/lang/String;"), (52, .class_ 699), (1, u "java/math/BigDecimal$LongOverflow"), (8, u "FLOAT_10_POW"), (0, u "[F"), (30, u "numberOfLeadingZeros"), (8, u "DOUBLE_10_POW"), (0, u "[D"), (10, .methodref 7 762), (0, .nameAndType 740 115), (7, .class_ 772), (1, u "java/math/BigDecimal$StringBuilderHelper"), (35, u "BIG_TEN_POWERS_TABLE_MAX"), (2, u "BIG_TEN_POWERS_TABLE"), (0, u "[Ljava/math/BigInteger;"), (12, .fieldref 3 826), (0, .nameAndType 827 98), (0, u "THRESHOLDS_TABLE"), (23, .class_ 853), (1, u "java/math/BigDecimal$UnsafeHolder"), (27, .methodref 7 882), (0, .nameAndType 883 635), (0, u "compare"), (110, .methodref 3 995), (0, .nameAndType 327 635), (0, .methodref 3 997), (0, .nameAndType 259 322), (2, .methodref 3 1001), (0, .nameAndType 259 344), (66, u "LONGLONG_TEN_POWERS_TABLE"), (0, u "[[J"), (112, u "BIG_TEN_POWERS_TABLE_INITLEN"), (113, .class_ 1297), (0, u "java/lang/Comparable"), (0, u "L"), (0, u "D"), (1, u "P_F"), (1, u "Q_MIN_F"), (1, u "Q_MAX_F"), (1, u "P_D"), (1, u "Q_MIN_D"), (1, u "Q_MAX_D"), (1, u "INFLATED"), (0, u "MAX_COMPACT_DIGITS"), (1, u "serialVersionUID"), (2, u "HALF_LONG_MAX_VALUE"), (0, u "HALF_LONG_MIN_VALUE"), (0, u "ROUND_UP"), (6, u "ROUND_DOWN"), (1, u "ROUND_CEILING"), (1, u "ROUND_FLOOR"), (1, u "ROUND_HALF_UP"), (1, u "ROUND_HALF_DOWN"), (1, u "ROUND_HALF_EVEN"), (1, u "ROUND_UNNECESSARY"), (1, u "DIV_NUM_BASE")] 294

def k15c0 : Code := { maxStack := 3, maxLocals := 6, code := jdk_17_method_1_code, exceptionTable := #[], attributes := #[] }
def k15m0 : Method := { name := "<init>", desc := "(Ljava/math/BigInteger;JII)V", sig := { parameters := [(.object "java/math/BigInteger"), .long, .int, .int], returnType := none }, accessFlags := 0, code := some k15c0 }
def k15c1 : Code := { maxStack := 7, maxLocals := 3, code := jdk_17_method_20_code, exceptionTable := #[], attributes := #[] }
def k15m1 : Method := { name := "valueOf", desc := "(JI)Ljava/math/BigDecimal;", sig := { parameters := [.long, .int], returnType := some (.object "java/math/BigDecimal") }, accessFlags := 9, code := some k15c1 }
def k15c2 : Code := { maxStack := 7, maxLocals := 2, code := jdk_17_method_21_code, exceptionTable := #[], attributes := #[] }
def k15m2 : Method := { name := "valueOf", desc := "(J)Ljava/math/BigDecimal;", sig := { parameters := [.long], returnType := some (.object "java/math/BigDecimal") }, accessFlags := 9, code := some k15c2 }
def k15c3 : Code := { maxStack := 7, maxLocals := 1, code := jdk_17_method_24_code, exceptionTable := #[], attributes := #[] }
def k15m3 : Method := { name := "zeroValueOf", desc := "(I)Ljava/math/BigDecimal;", sig := { parameters := [.int], returnType := some (.object "java/math/BigDecimal") }, accessFlags := 8, code := some k15c3 }
def k15c4 : Code := { maxStack := 6, maxLocals := 2, code := jdk_17_method_26_code, exceptionTable := #[], attributes := #[] }
def k15m4 : Method := { name := "add", desc := "(Ljava/math/BigDecimal;)Ljava/math/BigDecimal;", sig := { parameters := [(.object "java/math/BigDecimal")], returnType := some (.object "java/math/BigDecimal") }, accessFlags := 1, code := some k15c4 }
def k15c5 : Code := { maxStack := 4, maxLocals := 1, code := jdk_17_method_58_code, exceptionTable := #[], attributes := #[] }
def k15m5 : Method := { name := "signum", desc := "()I", sig := { parameters := [], returnType := some .int }, accessFlags := 1, code := some k15c5 }
def k15c6 : Code := { maxStack := 1, maxLocals := 1, code := jdk_17_method_59_code, exceptionTable := #[], attributes := #[] }
def k15m6 : Method := { name := "scale", desc := "()I", sig := { parameters := [], returnType := some .int }, accessFlags := 1, code := some k15c6 }
def k15c7 : Code := { maxStack := 4, maxLocals := 4, code := jdk_17_method_60_code, exceptionTable := #[], attributes := #[] }
def k15m7 : Method := { name := "precision", desc := "()I", sig := { parameters := [], returnType := some .int }, accessFlags := 1, code := some k15c7 }
def k15c8 : Code := { maxStack := 4, maxLocals := 6, code := jdk_17_method_70_code, exceptionTable := #[], attributes := #[] }
def k15m8 : Method := { name := "compareTo", desc := "(Ljava/math/BigDecimal;)I", sig := { parameters := [(.object "java/math/BigDecimal")], returnType := some .int }, accessFlags := 1, code := some k15c8 }
def k15c9 : Code := { maxStack := 4, maxLocals := 13, code := jdk_17_method_71_code, exceptionTable := #[], attributes := #[] }
def k15m9 : Method := { name := "compareMagnitude", desc := "(Ljava/math/BigDecimal;)I", sig := { parameters := [(.object "java/math/BigDecimal")], returnType := some .int }, accessFlags := 2, code := some k15c9 }
def k15c10 : Code := { maxStack := 4, maxLocals := 7, code := jdk_17_method_97_code, exceptionTable := #[], attributes := #[] }
def k15m10 : Method := { name := "longMultiplyPowerTen", desc := "(JI)J", sig := { parameters := [.long, .int], returnType := some .long }, accessFlags := 10, code := some k15c10 }
def k15c11 : Code := { maxStack := 4, maxLocals := 4, code := jdk_17_method_104_code, exceptionTable := #[], attributes := #[] }
def k15m11 : Method := { name := "longDigitLength", desc := "(J)I", sig := { parameters := [.long], returnType := some .int }, accessFlags := 8, code := some k15c11 }
def k15c12 : Code := { maxStack := 4, maxLocals := 4, code := jdk_17_method_108_code, exceptionTable := #[], attributes := #[] }
def k15m12 : Method := { name := "longCompareMagnitude", desc := "(JJ)I", sig := { parameters := [.long, .long], returnType := some .int }, accessFlags := 10, code := some k15c12 }
def k15c13 : Code := { maxStack := 4, maxLocals := 5, code := jdk_17_method_113_code, exceptionTable := #[], attributes := #[] }
def k15m13 : Method := { name := "checkScale", desc := "(JJ)I", sig := { parameters := [.long, .long], returnType := some .int }, accessFlags := 10, code := some k15c13 }
def k15c14 : Code := { maxStack := 6, maxLocals := 6, code := jdk_17_method_132_code, exceptionTable := #[], attributes := #[] }
def k15m14 : Method := { name := "add", desc := "(JJ)J", sig := { parameters := [.long, .long], returnType := some .long }, accessFlags := 10, code := some k15c14 }
def k15c15 : Code := { maxStack := 5, maxLocals := 7, code := jdk_17_method_133_code, exceptionTable := #[], attributes := #[] }
def k15m15 : Method := { name := "add", desc := "(JJI)Ljava/math/BigDecimal;", sig := { parameters := [.long, .long, .int], returnType := some (.object "java/math/BigDecimal") }, accessFlags := 10, code := some k15c15 }
def k15c16 : Code := { maxStack := 7, maxLocals := 12, code := jdk_17_method_134_code, exceptionTable := #[], attributes := #[] }
def k15m16 : Method := { name := "add", desc := "(JIJI)Ljava/math/BigDecimal;", sig := { parameters := [.long, .int, .long, .int], returnType := some (.object "java/math/BigDecimal") }, accessFlags := 10, code := some k15c16 }
/-- java/math/BigDecimal -/
def k15 : Class := { plain "java/math/BigDecimal" (some 13) with
  accessFlags := 33
  interfaces := #[14]
  cf := some (fileOf pool15 3 #[.nestMembers #[500, 851, 770, 697]] #[{ accessFlags := 0, nameIndex := 15, descriptorIndex := 245, attributes := #[] }, { accessFlags := 9, nameIndex := 195, descriptorIndex := 330, attributes := #[] }, { accessFlags := 9, nameIndex := 195, descriptorIndex := 238, attributes := #[] }, { accessFlags := 8, nameIndex := 241, descriptorIndex := 242, attributes := #[] }, { accessFlags := 1, nameIndex := 259, descriptorIndex := 269, attributes := #[] }, { accessFlags := 1, nameIndex := 272, descriptorIndex := 162, attributes := #[] }, { accessFlags := 1, nameIndex := 19, descriptorIndex := 162, attributes := #[] }, { accessFlags := 1, nameIndex := 23, descriptorIndex := 162, attributes := #[] }, { accessFlags := 1, nameIndex := 482, descriptorIndex := 439, attributes := #[] }, { accessFlags := 2, nameIndex := 438, descriptorIndex := 439, attributes := #[] }, { accessFlags := 10, nameIndex := 601, descriptorIndex := 602, attributes := #[] }, { accessFlags := 8, nameIndex := 114, descriptorIndex := 115, attributes := #[] }, { accessFlags := 10, nameIndex := 634, descriptorIndex := 635, attributes := #[] }, { accessFlags := 10, nameIndex := 327, descriptorIndex := 635, attributes := #[] }, { accessFlags := 10, nameIndex := 259, descriptorIndex := 322, attributes := #[] }, { accessFlags := 10, nameIndex := 259, descriptorIndex := 344, attributes := #[] }, { accessFlags := 10, nameIndex := 259, descriptorIndex := 260, attributes := #[] }] 33 12 #[1296] #[{ accessFlags := 26, nameIndex := 1298, descriptorIndex := 1299, attributes := #[] }, { accessFlags := 26, nameIndex := 1301, descriptorIndex := 20, attributes := #[] }, { accessFlags := 26, nameIndex := 1303, descriptorIndex := 20, attributes := #[] }, { accessFlags := 26, nameIndex := 1305, descriptorIndex := 20, attributes := #[] }, { accessFlags := 26, nameIndex := 1307, descriptorIndex := 20, attributes := #[] }, { accessFlags := 26, nameIndex := 1309, descriptorIndex := 20, attributes := #[] }, { accessFlags := 26, nameIndex := 1311, descriptorIndex := 20, attributes := #[] }, { accessFlags := 18, nameIndex := 30, descriptorIndex := 31, attributes := #[] }, { accessFlags := 18, nameIndex := 19, descriptorIndex := 20, attributes := #[] }, { accessFlags := 130, nameIndex := 23, descriptorIndex := 20, attributes := #[] }, { accessFlags := 130, nameIndex := 643, descriptorIndex := 644, attributes := #[] }, { accessFlags := 24, nameIndex := 1313, descriptorIndex := 27, attributes := #[] }, { accessFlags := 26, nameIndex := 190, descriptorIndex := 31, attributes := #[] }, { accessFlags := 146, nameIndex := 26, descriptorIndex := 27, attributes := #[] }, { accessFlags := 26, nameIndex := 1314, descriptorIndex := 20, attributes := #[] }, { accessFlags := 26, nameIndex := 1316, descriptorIndex := 27, attributes := #[] }, { accessFlags := 26, nameIndex := 248, descriptorIndex := 249, attributes := #[] }, { accessFlags := 26, nameIndex := 252, descriptorIndex := 249, attributes := #[] }, { accessFlags := 26, nameIndex := 1319, descriptorIndex := 27, attributes := #[] }, { accessFlags := 26, nameIndex := 1320, descriptorIndex := 27, attributes := #[] }, { accessFlags := 25, nameIndex := 187, descriptorIndex := 479, attributes := #[] }, { accessFlags := 25, nameIndex := 535, descriptorIndex := 479, attributes := #[] }, { accessFlags := 25, nameIndex := 206, descriptorIndex := 479, attributes := #[] }, { accessFlags := 25, nameIndex := 485, descriptorIndex := 479, attributes := #[] }, { accessFlags := 26, nameIndex := 478, descriptorIndex := 479, attributes := #[] }, { accessFlags := 26, nameIndex := 518, descriptorIndex := 479, attributes := #[] }, { accessFlags := 25, nameIndex := 1321, descriptorIndex := 20, attributes := #[] }, { accessFlags := 25, nameIndex := 1328, descriptorIndex := 20, attributes := #[] }, { accessFlags := 25, nameIndex := 1330, descriptorIndex := 20, attributes := #[] }, { accessFlags := 25, nameIndex := 1332, descriptorIndex := 20, attributes := #[] }, { accessFlags := 25, nameIndex := 1334, descriptorIndex := 20, attributes := #[] }, { accessFlags := 25, nameIndex := 1336, descriptorIndex := 20, attributes := #[] }, { accessFlags := 25, nameIndex := 1338, descriptorIndex := 20, attributes := #[] }, { accessFlags := 25, nameIndex := 1340, descriptorIndex := 20, attributes := #[] }, { accessFlags := 26, nameIndex := 749, descriptorIndex := 750, attributes := #[] }, { accessFlags := 26, nameIndex := 708, descriptorIndex := 709, attributes := #[] }, { accessFlags := 26, nameIndex := 97, descriptorIndex := 98, attributes := #[] }, { accessFlags := 74, nameIndex := 811, descriptorIndex := 812, attributes := #[] }, { accessFlags := 26, nameIndex := 1182, descriptorIndex := 20, attributes := #[] }, { accessFlags := 26, nameIndex := 808, descriptorIndex := 20, attributes := #[] }, { accessFlags := 26, nameIndex := 827, descriptorIndex := 98, attributes := #[] }, { accessFlags := 26, nameIndex := 1342, descriptorIndex := 27, attributes := #[] }, { accessFlags := 26, nameIndex := 1068, descriptorIndex := 1069, attributes := #[] }, { accessFlags := 4120, nameIndex := 313, descriptorIndex := 314, attributes := #[] }])
  fields := #[{ name := "L", type := .double, accessFlags := 26, slot := 0, constantValue := 0 }, { name := "P_F", type := .int, accessFlags := 26, slot := 1, constantValue := 0 }, { name := "Q_MIN_F", type := .int, accessFlags := 26, slot := 2, constantValue := 0 }, { name := "Q_MAX_F", type := .int, accessFlags := 26, slot := 3, constantValue := 0 }, { name := "P_D", type := .int, accessFlags := 26, slot := 4, constantValue := 0 }, { name := "Q_MIN_D", type := .int, accessFlags := 26, slot := 5, constantValue := 0 }, { name := "Q_MAX_D", type := .int, accessFlags := 26, slot := 6, constantValue := 0 }, { name := "intVal", type := (.object "java/math/BigInteger"), accessFlags := 18, slot := 0, constantValue := 0 }, { name := "scale", type := .int, accessFlags := 18, slot := 1, constantValue := 0 }, { name := "precision", type := .int, accessFlags := 130, slot := 2, constantValue := 0 }, { name := "stringCache", type := (.object "java/lang/String"), accessFlags := 130, slot := 3, constantValue := 0 }, { name := "INFLATED", type := .long, accessFlags := 24, slot := 7, constantValue := 0 }, { name := "INFLATED_BIGINT", type := (.object "java/math/BigInteger"), accessFlags := 26, slot := 8, constantValue := 0 }, { name := "intCompact", type := .long, accessFlags := 146, slot := 4, constantValue := 0 }, { name := "MAX_COMPACT_DIGITS", type := .int, accessFlags := 26, slot := 9, constantValue := 0 }, { name := "serialVersionUID", type := .long, accessFlags := 26, slot := 10, constantValue := 0 }, { name := "ZERO_THROUGH_TEN", type := (.array (.object "java/math/BigDecimal")), accessFlags := 26, slot := 11, constantValue := 0 }, { name := "ZERO_SCALED_BY", type := (.array (.object "java/math/BigDecimal")), accessFlags := 26, slot := 12, constantValue := 0 }, { name := "HALF_LONG_MAX_VALUE", type := .long, accessFlags := 26, slot := 13, constantValue := 0 }, { name := "HALF_LONG_MIN_VALUE", type := .long, accessFlags := 26, slot := 14, constantValue := 0 }, { name := "ZERO", type := (.object "java/math/BigDecimal"), accessFlags := 25, slot := 15, constantValue := 0 }, { name := "ONE", type := (.object "java/math/BigDecimal"), accessFlags := 25, slot := 16, constantValue := 0 }, { name := "TWO", type := (.object "java/math/BigDecimal"), accessFlags := 25, slot := 17, constantValue := 0 }, { name := "TEN", type := (.object "java/math/BigDecimal"), accessFlags := 25, slot := 18, constantValue := 0 }, { name := "ONE_TENTH", type := (.object "java/math/BigDecimal"), accessFlags := 26, slot := 19, constantValue := 0 }, { name := "ONE_HALF", type := (.object "java/math/BigDecimal"), accessFlags := 26, slot := 20, constantValue := 0 }, { name := "ROUND_UP", type := .int, accessFlags := 25, slot := 21, constantValue := 0 }, { name := "ROUND_DOWN", type := .int, accessFlags := 25, slot := 22, constantValue := 0 }, { name := "ROUND_CEILING", type := .int, accessFlags := 25, slot := 23, constantValue := 0 }, { name := "ROUND_FLOOR", type := .int, accessFlags := 25, slot := 24, constantValue := 0 }, { name := "ROUND_HALF_UP", type := .int, accessFlags := 25, slot := 25, constantValue := 0 }, { name := "ROUND_HALF_DOWN", type := .int, accessFlags := 25, slot := 26, constantValue := 0 }, { name := "ROUND_HALF_EVEN", type := .int, accessFlags := 25, slot := 27, constantValue := 0 }, { name := "ROUND_UNNECESSARY", type := .int, accessFlags := 25, slot := 28, constantValue := 0 }, { name := "DOUBLE_10_POW", type := (.array .double), accessFlags := 26, slot := 29, constantValue := 0 }, { name := "FLOAT_10_POW", type := (.array .float), accessFlags := 26, slot := 30, constantValue := 0 }, { name := "LONG_TEN_POWERS_TABLE", type := (.array .long), accessFlags := 26, slot := 31, constantValue := 0 }, { name := "BIG_TEN_POWERS_TABLE", type := (.array (.object "java/math/BigInteger")), accessFlags := 74, slot := 32, constantValue := 0 }, { name := "BIG_TEN_POWERS_TABLE_INITLEN", type := .int, accessFlags := 26, slot := 33, constantValue := 0 }, { name := "BIG_TEN_POWERS_TABLE_MAX", type := .int, accessFlags := 26, slot := 34, constantValue := 0 }, { name := "THRESHOLDS_TABLE", type := (.array .long), accessFlags := 26, slot := 35, constantValue := 0 }, { name := "DIV_NUM_BASE", type := .long, accessFlags := 26, slot := 36, constantValue := 0 }, { name := "LONGLONG_TEN_POWERS_TABLE", type := (.array (.array .long)), accessFlags := 26, slot := 37, constantValue := 0 }, { name := "$assertionsDisabled", type := .boolean, accessFlags := 4120, slot := 38, constantValue := 0 }]
  methods := #[k15m0, k15m1, k15m2, k15m3, k15m4, k15m5, k15m6, k15m7, k15m8, k15m9, k15m10, k15m11, k15m12, k15m13, k15m14, k15m15, k15m16]
  instanceTypes := #[(.object "java/math/BigInteger"), .int, .int, (.object "java/lang/String"), .long]
  staticTypes := #[.double, .int, .int, .int, .int, .int, .int, .long, (.object "java/math/BigInteger"), .int, .long, (.array (.object "java/math/BigDecimal")), (.array (.object "java/math/BigDecimal")), .long, .long, (.object "java/math/BigDecimal"), (.object "java/math/BigDecimal"), (.object "java/math/BigDecimal"), (.object "java/math/BigDecimal"), (.object "java/math/BigDecimal"), (.object "java/math/BigDecimal"), .int, .int, .int, .int, .int, .int, .int, .int, (.array .double), (.array .float), (.array .long), (.array (.object "java/math/BigInteger")), .int, .int, (.array .long), .long, (.array (.array .long)), .boolean]
  resolved := Array.replicate 1637 none
  statics := some 1 }

def pool16 : Array CpInfo := pool [(1, .class_ 2), (0, u "java/lang/Math"), (1, .class_ 6), (1, u "java/lang/Object"), (0, u "<init>"), (0, u "()V"), (89, .class_ 100), (1, u "java/lang/Math$RandomNumberGeneratorHolder"), (23, u "abs"), (0, u "(J)J"), (46, u "negativeZeroFloatBits"), (0, u "J"), (2, u "negativeZeroDoubleBits"), (21, u "max"), (46, u "$assertionsDisabled"), (0, u "Z"), (88, u "(II)I"), (2, u "twoToTheDoubleScaleDown"), (0, u "D"), (4, u "twoToTheDoubleScaleUp"), (9, u "E"), (3, u "PI"), (2, u "TAU"), (2, u "DEGREES_TO_RADIANS"), (0, u "RADIANS_TO_DEGREES")] 94

def k16m0 : Method := { name := "<init>", desc := "()V", sig := { parameters := [], returnType := none }, accessFlags := 2, code := none }
def k16c1 : Code := { maxStack := 4, maxLocals := 2, code := jdk_29_method_61_code, exceptionTable := #[], attributes := #[] }
def k16m1 : Method := { name := "abs", desc := "(J)J", sig := { parameters := [.long], returnType := some .long }, accessFlags := 9, code := some k16c1 }
def k16c2 : Code := { maxStack := 2, maxLocals := 2, code := jdk_29_method_65_code, exceptionTable := #[], attributes := #[] }
def k16m2 : Method := { name := "max", desc := "(II)I", sig := { parameters := [.int, .int], returnType := some .int }, accessFlags := 9, code := some k16c2 }
/-- java/lang/Math -/
def k16 : Class := { plain "java/lang/Math" (some 0) with
  accessFlags := 49
  interfaces := #[]
  cf := some (fileOf pool16 1 #[.nestMembers #[98]] #[{ accessFlags := 2, nameIndex := 7, descriptorIndex := 8, attributes := #[] }, { accessFlags := 9, nameIndex := 124, descriptorIndex := 125, attributes := #[] }, { accessFlags := 9, nameIndex := 198, descriptorIndex := 335, attributes := #[] }] 49 4 #[] #[{ accessFlags := 25, nameIndex := 354, descriptorIndex := 339, attributes := #[] }, { accessFlags := 25, nameIndex := 358, descriptorIndex := 339, attributes := #[] }, { accessFlags := 25, nameIndex := 361, descriptorIndex := 339, attributes := #[] }, { accessFlags := 26, nameIndex := 364, descriptorIndex := 339, attributes := #[] }, { accessFlags := 26, nameIndex := 365, descriptorIndex := 339, attributes := #[] }, { accessFlags := 26, nameIndex := 172, descriptorIndex := 173, attributes := #[] }, { accessFlags := 26, nameIndex := 176, descriptorIndex := 173, attributes := #[] }, { accessFlags := 8, nameIndex := 344, descriptorIndex := 339, attributes := #[] }, { accessFlags := 8, nameIndex := 338, descriptorIndex := 339, attributes := #[] }, { accessFlags := 4120, nameIndex := 245, descriptorIndex := 246, attributes := #[] }])
  fields := #[{ name := "E", type := .double, accessFlags := 25, slot := 0, constantValue := 0 }, { name := "PI", type := .double, accessFlags := 25, slot := 1, constantValue := 0 }, { name := "TAU", type := .double, accessFlags := 25, slot := 2, constantValue := 0 }, { name := "DEGREES_TO_RADIANS", type := .double, accessFlags := 26, slot := 3, constantValue := 0 }, { name := "RADIANS_TO_DEGREES", type := .double, accessFlags := 26, slot := 4, constantValue := 0 }, { name := "negativeZeroFloatBits", type := .long, accessFlags := 26, slot := 5, constantValue := 0 }, { name := "negativeZeroDoubleBits", type := .long, accessFlags := 26, slot := 6, constantValue := 0 }, { name := "twoToTheDoubleScaleUp", type := .double, accessFlags := 8, slot := 7, constantValue := 0 }, { name := "twoToTheDoubleScaleDown", type := .double, accessFlags := 8, slot := 8, constantValue := 0 }, { name := "$assertionsDisabled", type := .boolean, accessFlags := 4120, slot := 9, constantValue := 0 }]
  methods := #[k16m0, k16m1, k16m2]
  instanceTypes := #[]
  staticTypes := #[.double, .double, .double, .double, .double, .long, .long, .double, .double, .boolean]
  resolved := Array.replicate 460 none
  statics := none }

def pool17 : Array CpInfo := pool [(2, .class_ 4), (1, u "java/lang/Object"), (0, u "<init>"), (0, u "()V"), (0, .fieldref 8 9), (0, .class_ 10), (0, .nameAndType 11 12), (0, u "java/math/BigDecimal"), (0, u "ZERO"), (0, u "Ljava/math/BigDecimal;"), (1, .class_ 16), (1, u "com/example/tipple/tipple/Totals"), (0, u "tons"), (9, u "tonsTimes"), (0, u "Ljava/util/Map;"), (1, .interfaceMethodref 31 32), (0, .class_ 33), (0, .nameAndType 34 35), (0, u "java/util/List"), (0, u "iterator"), (0, u "()Ljava/util/Iterator;"), (0, .interfaceMethodref 37 38), (0, .class_ 39), (0, .nameAndType 40 41), (0, u "java/util/Iterator"), (0, u "hasNext"), (0, u "()Z"), (0, .interfaceMethodref 37 43), (0, .nameAndType 44 45), (0, u "next"), (0, u "()Ljava/lang/Object;"), (0, .class_ 47), (0, u "com/example/tipple/tipple/Lot"), (5, u "add"), (1, .methodref 46 56), (0, .nameAndType 17 57), (0, u "()Ljava/math/BigDecimal;"), (0, .methodref 8 59), (0, .nameAndType 53 60), (0, u "(Ljava/math/BigDecimal;)Ljava/math/BigDecimal;"), (5, u "lots"), (0, u "I"), (67, u "(Ljava/util/List;)Ljava/math/BigDecimal;")] 26

def k17m0 : Method := { name := "<init>", desc := "()V", sig := { parameters := [], returnType := none }, accessFlags := 0, code := none }
def k17c1 : Code := { maxStack := 2, maxLocals := 4, code := prog_16_method_3_code, exceptionTable := #[], attributes := #[] }
def k17m1 : Method := { name := "tons", desc := "(Ljava/util/List;)Ljava/math/BigDecimal;", sig := { parameters := [(.object "java/util/List")], returnType := some (.object "java/math/BigDecimal") }, accessFlags := 8, code := some k17c1 }
/-- com/example/tipple/tipple/Totals -/
def k17 : Class := { plain "com/example/tipple/tipple/Totals" (some 0) with
  accessFlags := 48
  interfaces := #[]
  cf := some (fileOf pool17 14 #[] #[{ accessFlags := 0, nameIndex := 5, descriptorIndex := 6, attributes := #[] }, { accessFlags := 8, nameIndex := 17, descriptorIndex := 135, attributes := #[] }] 48 2 #[] #[{ accessFlags := 2, nameIndex := 66, descriptorIndex := 67, attributes := #[] }, { accessFlags := 2, nameIndex := 17, descriptorIndex := 12, attributes := #[] }, { accessFlags := 18, nameIndex := 27, descriptorIndex := 28, attributes := #[] }])
  fields := #[{ name := "lots", type := .int, accessFlags := 2, slot := 0, constantValue := 0 }, { name := "tons", type := (.object "java/math/BigDecimal"), accessFlags := 2, slot := 1, constantValue := 0 }, { name := "tonsTimes", type := (.object "java/util/Map"), accessFlags := 18, slot := 2, constantValue := 0 }]
  methods := #[k17m0, k17m1]
  instanceTypes := #[.int, (.object "java/math/BigDecimal"), (.object "java/util/Map")]
  staticTypes := #[]
  resolved := Array.replicate 162 none
  statics := none }

def pool18 : Array CpInfo := pool [(16, .class_ 18), (1, u "java/util/Iterator"), (0, u "hasNext"), (0, u "()Z"), (2, u "next"), (0, u "()Ljava/lang/Object;"), (6, .class_ 32), (0, u "java/lang/Object")] 20

def k18m0 : Method := { name := "hasNext", desc := "()Z", sig := { parameters := [], returnType := some .boolean }, accessFlags := 1025, code := none }
def k18m1 : Method := { name := "next", desc := "()Ljava/lang/Object;", sig := { parameters := [], returnType := some (.object "java/lang/Object") }, accessFlags := 1025, code := none }
/-- java/util/Iterator -/
def k18 : Class := { plain "java/util/Iterator" (some 0) with
  accessFlags := 1537
  interfaces := #[]
  cf := some (fileOf pool18 16 #[] #[{ accessFlags := 1025, nameIndex := 19, descriptorIndex := 20, attributes := #[] }, { accessFlags := 1025, nameIndex := 23, descriptorIndex := 24, attributes := #[] }] 1537 31 #[] #[])
  fields := #[]
  methods := #[k18m0, k18m1]
  instanceTypes := #[]
  staticTypes := #[]
  resolved := Array.replicate 53 none
  statics := none }

def pool19 : Array CpInfo := pool [(1, .fieldref 2 3), (0, .class_ 4), (0, .nameAndType 5 6), (0, u "java/util/ArrayList$Itr"), (0, u "this$0"), (0, u "Ljava/util/ArrayList;"), (0, .methodref 8 9), (0, .class_ 10), (0, .nameAndType 11 12), (0, u "java/lang/Object"), (0, u "<init>"), (0, u "()V"), (0, .fieldref 2 14), (0, .nameAndType 15 16), (0, u "lastRet"), (0, u "I"), (0, .fieldref 18 19), (0, .class_ 20), (0, .nameAndType 21 16), (0, u "java/util/ArrayList"), (0, u "modCount"), (0, .fieldref 2 23), (0, .nameAndType 24 16), (0, u "expectedModCount"), (0, .fieldref 2 26), (0, .nameAndType 27 16), (0, u "cursor"), (0, .fieldref 18 29), (0, .nameAndType 30 16), (0, u "size"), (0, .methodref 2 32), (0, .nameAndType 33 12), (0, u "checkForComodification"), (3, .fieldref 18 38), (0, .nameAndType 39 40), (0, u "elementData"), (0, u "[Ljava/lang/Object;"), (28, .class_ 70), (0, u "java/util/Iterator"), (0, u "(Ljava/util/ArrayList;)V"), (8, u "hasNext"), (0, u "()Z"), (1, u "next"), (0, u "()Ljava/lang/Object;")] 19

def k19c0 : Code := { maxStack := 2, maxLocals := 2, code := jdk_49_method_1_code, exceptionTable := #[], attributes := #[] }
def k19m0 : Method := { name := "<init>", desc := "(Ljava/util/ArrayList;)V", sig := { parameters := [(.object "java/util/ArrayList")], returnType := none }, accessFlags := 0, code := some k19c0 }
def k19c1 : Code := { maxStack := 2, maxLocals := 1, code := jdk_49_method_2_code, exceptionTable := #[], attributes := #[] }
def k19m1 : Method := { name := "hasNext", desc := "()Z", sig := { parameters := [], returnType := some .boolean }, accessFlags := 1, code := some k19c1 }
def k19c2 : Code := { maxStack := 4, maxLocals := 3, code := jdk_49_method_3_code, exceptionTable := #[], attributes := #[] }
def k19m2 : Method := { name := "next", desc := "()Ljava/lang/Object;", sig := { parameters := [], returnType := some (.object "java/lang/Object") }, accessFlags := 1, code := some k19c2 }
def k19c3 : Code := { maxStack := 2, maxLocals := 1, code := jdk_49_method_6_code, exceptionTable := #[], attributes := #[] }
def k19m3 : Method := { name := "checkForComodification", desc := "()V", sig := { parameters := [], returnType := none }, accessFlags := 16, code := some k19c3 }
/-- java/util/ArrayList$Itr -/
def k19 : Class := { plain "java/util/ArrayList$Itr" (some 0) with
  accessFlags := 32
  interfaces := #[18]
  cf := some (fileOf pool19 2 #[.nestHost 18] #[{ accessFlags := 0, nameIndex := 11, descriptorIndex := 71, attributes := #[] }, { accessFlags := 1, nameIndex := 80, descriptorIndex := 81, attributes := #[] }, { accessFlags := 1, nameIndex := 83, descriptorIndex := 84, attributes := #[] }, { accessFlags := 16, nameIndex := 33, descriptorIndex := 12, attributes := #[] }] 32 8 #[69] #[{ accessFlags := 0, nameIndex := 27, descriptorIndex := 16, attributes := #[] }, { accessFlags := 0, nameIndex := 15, descriptorIndex := 16, attributes := #[] }, { accessFlags := 0, nameIndex := 24, descriptorIndex := 16, attributes := #[] }, { accessFlags := 4112, nameIndex := 5, descriptorIndex := 6, attributes := #[] }])
  fields := #[{ name := "cursor", type := .int, accessFlags := 0, slot := 0, constantValue := 0 }, { name := "lastRet", type := .int, accessFlags := 0, slot := 1, constantValue := 0 }, { name := "expectedModCount", type := .int, accessFlags := 0, slot := 2, constantValue := 0 }, { name := "this$0", type := (.object "java/util/ArrayList"), accessFlags := 4112, slot := 3, constantValue := 0 }]
  methods := #[k19m0, k19m1, k19m2, k19m3]
  instanceTypes := #[.int, .int, .int, (.object "java/util/ArrayList")]
  staticTypes := #[]
  resolved := Array.replicate 104 none
  statics := none }

def pool20 : Array CpInfo := pool [(1, .class_ 2), (0, u "java/lang/constant/Constable"), (0, .class_ 4), (0, u "java/lang/Object")] 6

/-- java/lang/constant/Constable -/
def k20 : Class := { plain "java/lang/constant/Constable" (some 0) with
  accessFlags := 1537
  interfaces := #[]
  cf := some (fileOf pool20 1 #[] #[] 1537 3 #[] #[])
  fields := #[]
  methods := #[]
  instanceTypes := #[]
  staticTypes := #[]
  resolved := Array.replicate 11 none
  statics := none }

def pool21 : Array CpInfo := pool [(1, .class_ 2), (0, u "java/lang/constant/ConstantDesc"), (0, .class_ 4), (0, u "java/lang/Object")] 32

/-- java/lang/constant/ConstantDesc -/
def k21 : Class := { plain "java/lang/constant/ConstantDesc" (some 0) with
  accessFlags := 1537
  interfaces := #[]
  cf := some (fileOf pool21 1 #[] #[] 1537 3 #[] #[])
  fields := #[]
  methods := #[]
  instanceTypes := #[]
  staticTypes := #[]
  resolved := Array.replicate 37 none
  statics := none }

def pool22 : Array CpInfo := pool [(1, .class_ 2), (0, u "java/lang/Long"), (15, .class_ 20), (1, u "java/lang/Integer"), (79, u "numberOfLeadingZeros"), (0, u "(J)I"), (133, .class_ 237), (1, u "java/lang/Long$LongCache"), (33, .class_ 272), (0, u "java/lang/Number"), (2, u "value"), (0, u "J"), (27, u "compare"), (0, u "(JJ)I"), (2, .methodref 18 309), (0, .nameAndType 100 310), (0, u "(I)I"), (50, u "TYPE"), (0, u "Ljava/lang/Class;"), (0, .class_ 364), (0, u "java/lang/Comparable"), (0, .class_ 366), (0, u "java/lang/constant/Constable"), (0, .class_ 368), (0, u "java/lang/constant/ConstantDesc"), (0, u "MIN_VALUE"), (1, u "MAX_VALUE"), (4, u "SIZE"), (0, u "I"), (1, u "BYTES"), (1, u "serialVersionUID"), (115, u "signum")] 26

def k22c0 : Code := { maxStack := 4, maxLocals := 4, code := jdk_35_method_42_code, exceptionTable := #[], attributes := #[] }
def k22m0 : Method := { name := "compare", desc := "(JJ)I", sig := { parameters := [.long, .long], returnType := some .int }, accessFlags := 9, code := some k22c0 }
def k22c1 : Code := { maxStack := 3, maxLocals := 3, code := jdk_35_method_48_code, exceptionTable := #[], attributes := #[] }
def k22m1 : Method := { name := "numberOfLeadingZeros", desc := "(J)I", sig := { parameters := [.long], returnType := some .int }, accessFlags := 9, code := some k22c1 }
def k22c2 : Code := { maxStack := 5, maxLocals := 2, code := jdk_35_method_57_code, exceptionTable := #[], attributes := #[] }
def k22m2 : Method := { name := "signum", desc := "(J)I", sig := { parameters := [.long], returnType := some .int }, accessFlags := 9, code := some k22c2 }
/-- java/lang/Long -/
def k22 : Class := { plain "java/lang/Long" (some 13) with
  accessFlags := 49
  interfaces := #[14, 20, 21]
  cf := some (fileOf pool22 1 #[.nestMembers #[235]] #[{ accessFlags := 9, nameIndex := 304, descriptorIndex := 305, attributes := #[] }, { accessFlags := 9, nameIndex := 100, descriptorIndex := 101, attributes := #[] }, { accessFlags := 9, nameIndex := 497, descriptorIndex := 101, attributes := #[] }] 49 271 #[363, 365, 367] #[{ accessFlags := 25, nameIndex := 369, descriptorIndex := 276, attributes := #[] }, { accessFlags := 25, nameIndex := 371, descriptorIndex := 276, attributes := #[] }, { accessFlags := 25, nameIndex := 361, descriptorIndex := 362, attributes := #[] }, { accessFlags := 18, nameIndex := 275, descriptorIndex := 276, attributes := #[] }, { accessFlags := 25, nameIndex := 376, descriptorIndex := 377, attributes := #[] }, { accessFlags := 25, nameIndex := 379, descriptorIndex := 377, attributes := #[] }, { accessFlags := 26, nameIndex := 381, descriptorIndex := 276, attributes := #[] }])
  fields := #[{ name := "MIN_VALUE", type := .long, accessFlags := 25, slot := 0, constantValue := 0 }, { name := "MAX_VALUE", type := .long, accessFlags := 25, slot := 1, constantValue := 0 }, { name := "TYPE", type := (.object "java/lang/Class"), accessFlags := 25, slot := 2, constantValue := 0 }, { name := "value", type := .long, accessFlags := 18, slot := 0, constantValue := 0 }, { name := "SIZE", type := .int, accessFlags := 25, slot := 3, constantValue := 0 }, { name := "BYTES", type := .int, accessFlags := 25, slot := 4, constantValue := 0 }, { name := "serialVersionUID", type := .long, accessFlags := 26, slot := 5, constantValue := 0 }]
  methods := #[k22m0, k22m1, k22m2]
  instanceTypes := #[.long]
  staticTypes := #[.long, .long, (.object "java/lang/Class"), .int, .int, .long]
  resolved := Array.replicate 524 none
  statics := none }

def pool23 : Array CpInfo := pool [(1, .class_ 2), (0, u "java/lang/Integer"), (16, u "digits"), (0, u "[C"), (32, u "numberOfLeadingZeros"), (0, u "(I)I"), (30, u "DigitOnes"), (0, u "[B"), (2, u "DigitTens"), (99, .class_ 190), (0, u "java/lang/Integer$IntegerCache"), (3, u "I"), (8, .class_ 204), (0, u "java/lang/Number"), (2, u "value"), (56, .integer 65536), (37, u "TYPE"), (0, u "Ljava/lang/Class;"), (0, .class_ 305), (0, u "java/lang/Comparable"), (0, .class_ 307), (0, u "java/lang/constant/Constable"), (0, .class_ 309), (0, u "java/lang/constant/ConstantDesc"), (0, u "MIN_VALUE"), (1, u "MAX_VALUE"), (3, u "SIZE"), (1, u "BYTES"), (1, u "serialVersionUID"), (0, u "J")] 131

def k23c0 : Code := { maxStack := 3, maxLocals := 2, code := jdk_33_method_47_code, exceptionTable := #[], attributes := #[] }
def k23m0 : Method := { name := "numberOfLeadingZeros", desc := "(I)I", sig := { parameters := [.int], returnType := some .int }, accessFlags := 9, code := some k23c0 }
/-- java/lang/Integer -/
def k23 : Class := { plain "java/lang/Integer" (some 13) with
  accessFlags := 49
  interfaces := #[14, 20, 21]
  cf := some (fileOf pool23 1 #[.nestMembers #[189]] #[{ accessFlags := 9, nameIndex := 53, descriptorIndex := 54, attributes := #[] }] 49 203 #[304, 306, 308] #[{ accessFlags := 25, nameIndex := 310, descriptorIndex := 194, attributes := #[] }, { accessFlags := 25, nameIndex := 312, descriptorIndex := 194, attributes := #[] }, { accessFlags := 25, nameIndex := 302, descriptorIndex := 303, attributes := #[] }, { accessFlags := 24, nameIndex := 19, descriptorIndex := 20, attributes := #[] }, { accessFlags := 24, nameIndex := 89, descriptorIndex := 86, attributes := #[] }, { accessFlags := 24, nameIndex := 85, descriptorIndex := 86, attributes := #[] }, { accessFlags := 18, nameIndex := 207, descriptorIndex := 194, attributes := #[] }, { accessFlags := 25, nameIndex := 316, descriptorIndex := 194, attributes := #[] }, { accessFlags := 25, nameIndex := 318, descriptorIndex := 194, attributes := #[] }, { accessFlags := 26, nameIndex := 320, descriptorIndex := 321, attributes := #[] }])
  fields := #[{ name := "MIN_VALUE", type := .int, accessFlags := 25, slot := 0, constantValue := 0 }, { name := "MAX_VALUE", type := .int, accessFlags := 25, slot := 1, constantValue := 0 }, { name := "TYPE", type := (.object "java/lang/Class"), accessFlags := 25, slot := 2, constantValue := 0 }, { name := "digits", type := (.array .char), accessFlags := 24, slot := 3, constantValue := 0 }, { name := "DigitTens", type := (.array .byte), accessFlags := 24, slot := 4, constantValue := 0 }, { name := "DigitOnes", type := (.array .byte), accessFlags := 24, slot := 5, constantValue := 0 }, { name := "value", type := .int, accessFlags := 18, slot := 0, constantValue := 0 }, { name := "SIZE", type := .int, accessFlags := 25, slot := 6, constantValue := 0 }, { name := "BYTES", type := .int, accessFlags := 25, slot := 7, constantValue := 0 }, { name := "serialVersionUID", type := .long, accessFlags := 26, slot := 8, constantValue := 0 }]
  methods := #[k23m0]
  instanceTypes := #[.int]
  staticTypes := #[.int, .int, (.object "java/lang/Class"), (.array .char), (.array .byte), (.array .byte), .int, .int, .long]
  resolved := Array.replicate 453 none
  statics := none }

def pool24 : Array CpInfo := pool [(4, .class_ 6), (1, u "java/lang/Number"), (16, .class_ 25), (1, u "java/math/BigInteger"), (0, u "ZERO"), (0, u "Ljava/math/BigInteger;"), (2, u "mag"), (0, u "[I"), (2, u "signum"), (0, u "I"), (59, u "bitsPerDigit"), (0, u "[J"), (9, u "digitsPerInt"), (12, u "intRadix"), (60, u "SMALL_PRIME_PRODUCT"), (79, u "ONE"), (6, u "TWO"), (43, u "$assertionsDisabled"), (0, u "Z"), (36, u "posConst"), (0, u "[Ljava/math/BigInteger;"), (4, u "negConst"), (116, .class_ 474), (1, u "java/math/BigInteger$RecursiveOp"), (106, u "NEGATIVE_ONE"), (91, u "bnExpModThreshTable"), (72, u "lowestSetBitPlusTwo"), (2, u "bitLengthPlusOne"), (2, u "bitCountPlusOne"), (6, u "LOG_TWO"), (0, u "D"), (2, u "logCache"), (0, u "[D"), (13, u "NUM_ZEROS"), (2, u "ZEROS"), (0, u "Ljava/lang/String;"), (9, u "longRadix"), (5, u "digitsPerLong"), (22, u "powerCache"), (0, u "[[Ljava/math/BigInteger;"), (45, u "firstNonzeroIntNumPlusTwo"), (38, .class_ 909), (1, u "java/math/BigInteger$UnsafeHolder"), (141, u "TEN"), (106, u "serialPersistentFields"), (0, u "[Ljava/io/ObjectStreamField;"), (0, .class_ 1161), (0, u "java/lang/Comparable"), (0, u "LONG_MASK"), (0, u "J"), (1, u "MAX_MAG_LENGTH"), (0, u "PRIME_SEARCH_BIT_LENGTH_LIMIT"), (1, u "KARATSUBA_THRESHOLD"), (1, u "TOOM_COOK_THRESHOLD"), (1, u "KARATSUBA_SQUARE_THRESHOLD"), (1, u "TOOM_COOK_SQUARE_THRESHOLD"), (1, u "BURNIKEL_ZIEGLER_THRESHOLD"), (0, u "BURNIKEL_ZIEGLER_OFFSET"), (1, u "SCHOENHAGE_BASE_CONVERSION_THRESHOLD"), (1, u "MULTIPLY_SQUARE_THRESHOLD"), (0, u "MONTGOMERY_INTRINSIC_THRESHOLD"), (1, u "SMALL_PRIME_THRESHOLD"), (1, u "DEFAULT_PRIME_CERTAINTY"), (1, u "MAX_CONSTANT"), (3, u "serialVersionUID"), (338, .class_ 1532), (0, u "java/math/BigInteger$RecursiveOp$RecursiveSquare"), (0, .class_ 1534), (0, u "java/math/BigInteger$RecursiveOp$RecursiveMultiply")] 7

/-- java/math/BigInteger -/
def k24 : Class := { plain "java/math/BigInteger" (some 13) with
  accessFlags := 33
  interfaces := #[14]
  cf := some (fileOf pool24 23 #[.nestMembers #[907, 472, 1531, 1533]] #[] 33 4 #[1160] #[{ accessFlags := 16, nameIndex := 34, descriptorIndex := 35, attributes := #[] }, { accessFlags := 16, nameIndex := 30, descriptorIndex := 31, attributes := #[] }, { accessFlags := 2, nameIndex := 752, descriptorIndex := 35, attributes := #[] }, { accessFlags := 2, nameIndex := 749, descriptorIndex := 35, attributes := #[] }, { accessFlags := 2, nameIndex := 746, descriptorIndex := 35, attributes := #[] }, { accessFlags := 2, nameIndex := 868, descriptorIndex := 35, attributes := #[] }, { accessFlags := 24, nameIndex := 1162, descriptorIndex := 1163, attributes := #[] }, { accessFlags := 26, nameIndex := 1165, descriptorIndex := 35, attributes := #[] }, { accessFlags := 26, nameIndex := 1166, descriptorIndex := 35, attributes := #[] }, { accessFlags := 26, nameIndex := 1168, descriptorIndex := 35, attributes := #[] }, { accessFlags := 26, nameIndex := 1170, descriptorIndex := 35, attributes := #[] }, { accessFlags := 26, nameIndex := 1172, descriptorIndex := 35, attributes := #[] }, { accessFlags := 26, nameIndex := 1174, descriptorIndex := 35, attributes := #[] }, { accessFlags := 24, nameIndex := 1176, descriptorIndex := 35, attributes := #[] }, { accessFlags := 24, nameIndex := 1177, descriptorIndex := 35, attributes := #[] }, { accessFlags := 26, nameIndex := 1179, descriptorIndex := 35, attributes := #[] }, { accessFlags := 26, nameIndex := 1181, descriptorIndex := 35, attributes := #[] }, { accessFlags := 26, nameIndex := 1182, descriptorIndex := 35, attributes := #[] }, { accessFlags := 10, nameIndex := 95, descriptorIndex := 96, attributes := #[] }, { accessFlags := 26, nameIndex := 1184, descriptorIndex := 35, attributes := #[] }, { accessFlags := 26, nameIndex := 1186, descriptorIndex := 35, attributes := #[] }, { accessFlags := 26, nameIndex := 180, descriptorIndex := 27, attributes := #[] }, { accessFlags := 26, nameIndex := 1188, descriptorIndex := 35, attributes := #[] }, { accessFlags := 26, nameIndex := 349, descriptorIndex := 350, attributes := #[] }, { accessFlags := 26, nameIndex := 355, descriptorIndex := 350, attributes := #[] }, { accessFlags := 74, nameIndex := 821, descriptorIndex := 822, attributes := #[] }, { accessFlags := 26, nameIndex := 763, descriptorIndex := 764, attributes := #[] }, { accessFlags := 26, nameIndex := 759, descriptorIndex := 760, attributes := #[] }, { accessFlags := 25, nameIndex := 26, descriptorIndex := 27, attributes := #[] }, { accessFlags := 25, nameIndex := 260, descriptorIndex := 27, attributes := #[] }, { accessFlags := 25, nameIndex := 267, descriptorIndex := 27, attributes := #[] }, { accessFlags := 26, nameIndex := 581, descriptorIndex := 27, attributes := #[] }, { accessFlags := 25, nameIndex := 1051, descriptorIndex := 27, attributes := #[] }, { accessFlags := 8, nameIndex := 673, descriptorIndex := 31, attributes := #[] }, { accessFlags := 10, nameIndex := 778, descriptorIndex := 35, attributes := #[] }, { accessFlags := 26, nameIndex := 781, descriptorIndex := 782, attributes := #[] }, { accessFlags := 10, nameIndex := 798, descriptorIndex := 31, attributes := #[] }, { accessFlags := 10, nameIndex := 792, descriptorIndex := 350, attributes := #[] }, { accessFlags := 10, nameIndex := 106, descriptorIndex := 31, attributes := #[] }, { accessFlags := 10, nameIndex := 119, descriptorIndex := 31, attributes := #[] }, { accessFlags := 26, nameIndex := 1192, descriptorIndex := 1163, attributes := #[] }, { accessFlags := 26, nameIndex := 1158, descriptorIndex := 1159, attributes := #[] }, { accessFlags := 4120, nameIndex := 311, descriptorIndex := 312, attributes := #[] }])
  fields := #[{ name := "signum", type := .int, accessFlags := 16, slot := 0, constantValue := 0 }, { name := "mag", type := (.array .int), accessFlags := 16, slot := 1, constantValue := 0 }, { name := "bitCountPlusOne", type := .int, accessFlags := 2, slot := 2, constantValue := 0 }, { name := "bitLengthPlusOne", type := .int, accessFlags := 2, slot := 3, constantValue := 0 }, { name := "lowestSetBitPlusTwo", type := .int, accessFlags := 2, slot := 4, constantValue := 0 }, { name := "firstNonzeroIntNumPlusTwo", type := .int, accessFlags := 2, slot := 5, constantValue := 0 }, { name := "LONG_MASK", type := .long, accessFlags := 24, slot := 0, constantValue := 0 }, { name := "MAX_MAG_LENGTH", type := .int, accessFlags := 26, slot := 1, constantValue := 0 }, { name := "PRIME_SEARCH_BIT_LENGTH_LIMIT", type := .int, accessFlags := 26, slot := 2, constantValue := 0 }, { name := "KARATSUBA_THRESHOLD", type := .int, accessFlags := 26, slot := 3, constantValue := 0 }, { name := "TOOM_COOK_THRESHOLD", type := .int, accessFlags := 26, slot := 4, constantValue := 0 }, { name := "KARATSUBA_SQUARE_THRESHOLD", type := .int, accessFlags := 26, slot := 5, constantValue := 0 }, { name := "TOOM_COOK_SQUARE_THRESHOLD", type := .int, accessFlags := 26, slot := 6, constantValue := 0 }, { name := "BURNIKEL_ZIEGLER_THRESHOLD", type := .int, accessFlags := 24, slot := 7, constantValue := 0 }, { name := "BURNIKEL_ZIEGLER_OFFSET", type := .int, accessFlags := 24, slot := 8, constantValue := 0 }, { name := "SCHOENHAGE_BASE_CONVERSION_THRESHOLD", type := .int, accessFlags := 26, slot := 9, constantValue := 0 }, { name := "MULTIPLY_SQUARE_THRESHOLD", type := .int, accessFlags := 26, slot := 10, constantValue := 0 }, { name := "MONTGOMERY_INTRINSIC_THRESHOLD", type := .int, accessFlags := 26, slot := 11, constantValue := 0 }, { name := "bitsPerDigit", type := (.array .long), accessFlags := 10, slot := 12, constantValue := 0 }, { name := "SMALL_PRIME_THRESHOLD", type := .int, accessFlags := 26, slot := 13, constantValue := 0 }, { name := "DEFAULT_PRIME_CERTAINTY", type := .int, accessFlags := 26, slot := 14, constantValue := 0 }, { name := "SMALL_PRIME_PRODUCT", type := (.object "java/math/BigInteger"), accessFlags := 26, slot := 15, constantValue := 0 }, { name := "MAX_CONSTANT", type := .int, accessFlags := 26, slot := 16, constantValue := 0 }, { name := "posConst", type := (.array (.object "java/math/BigInteger")), accessFlags := 26, slot := 17, constantValue := 0 }, { name := "negConst", type := (.array (.object "java/math/BigInteger")), accessFlags := 26, slot := 18, constantValue := 0 }, { name := "powerCache", type := (.array (.array (.object "java/math/BigInteger"))), accessFlags := 74, slot := 19, constantValue := 0 }, { name := "logCache", type := (.array .double), accessFlags := 26, slot := 20, constantValue := 0 }, { name := "LOG_TWO", type := .double, accessFlags := 26, slot := 21, constantValue := 0 }, { name := "ZERO", type := (.object "java/math/BigInteger"), accessFlags := 25, slot := 22, constantValue := 0 }, { name := "ONE", type := (.object "java/math/BigInteger"), accessFlags := 25, slot := 23, constantValue := 0 }, { name := "TWO", type := (.object "java/math/BigInteger"), accessFlags := 25, slot := 24, constantValue := 0 }, { name := "NEGATIVE_ONE", type := (.object "java/math/BigInteger"), accessFlags := 26, slot := 25, constantValue := 0 }, { name := "TEN", type := (.object "java/math/BigInteger"), accessFlags := 25, slot := 26, constantValue := 0 }, { name := "bnExpModThreshTable", type := (.array .int), accessFlags := 8, slot := 27, constantValue := 0 }, { name := "NUM_ZEROS", type := .int, accessFlags := 10, slot := 28, constantValue := 0 }, { name := "ZEROS", type := (.object "java/lang/String"), accessFlags := 26, slot := 29, constantValue := 0 }, { name := "digitsPerLong", type := (.array .int), accessFlags := 10, slot := 30, constantValue := 0 }, { name := "longRadix", type := (.array (.object "java/math/BigInteger")), accessFlags := 10, slot := 31, constantValue := 0 }, { name := "digitsPerInt", type := (.array .int), accessFlags := 10, slot := 32, constantValue := 0 }, { name := "intRadix", type := (.array .int), accessFlags := 10, slot := 33, constantValue := 0 }, { name := "serialVersionUID", type := .long, accessFlags := 26, slot := 34, constantValue := 0 }, { name := "serialPersistentFields", type := (.array (.object "java/io/ObjectStreamField")), accessFlags := 26, slot := 35, constantValue := 0 }, { name := "$assertionsDisabled", type := .boolean, accessFlags := 4120, slot := 36, constantValue := 0 }]
  methods := #[]
  instanceTypes := #[.int, (.array .int), .int, .int, .int, .int]
  staticTypes := #[.long, .int, .int, .int, .int, .int, .int, .int, .int, .int, .int, .int, (.array .long), .int, .int, (.object "java/math/BigInteger"), .int, (.array (.object "java/math/BigInteger")), (.array (.object "java/math/BigInteger")), (.array (.array (.object "java/math/BigInteger"))), (.array .double), .double, (.object "java/math/BigInteger"), (.object "java/math/BigInteger"), (.object "java/math/BigInteger"), (.object "java/math/BigInteger"), (.object "java/math/BigInteger"), (.array .int), .int, (.object "java/lang/String"), (.array .int), (.array (.object "java/math/BigInteger")), (.array .int), (.array .int), .long, (.array (.object "java/io/ObjectStreamField")), .boolean]
  resolved := Array.replicate 1542 none
  statics := some 2 }

/-- the primitive byte -/
def k25 : Class := { plain "byte" none with kind := .primitive 'B', accessFlags := 0x411 }
/-- [B -/
def k26 : Class := { plain "[B" (some 0) with kind := .array 25 .byte, interfaces := #[9, 10], accessFlags := 1041 }

/-- the primitive int -/
def k27 : Class := { plain "int" none with kind := .primitive 'I', accessFlags := 0x411 }
/-- [I -/
def k28 : Class := { plain "[I" (some 0) with kind := .array 27 .int, interfaces := #[9, 10], accessFlags := 1041 }

/-- the primitive long -/
def k29 : Class := { plain "long" none with kind := .primitive 'J', accessFlags := 0x411 }
/-- [J -/
def k30 : Class := { plain "[J" (some 0) with kind := .array 29 .long, interfaces := #[9, 10], accessFlags := 1041 }

/-- [Ljava/lang/Object; -/
def k31 : Class := { plain "[Ljava/lang/Object;" (some 0) with kind := .array 0 (.object "java/lang/Object"), interfaces := #[9, 10], accessFlags := 1041 }

/-- [Ljava/math/BigDecimal; -/
def k32 : Class := { plain "[Ljava/math/BigDecimal;" (some 0) with kind := .array 15 (.object "java/math/BigDecimal"), interfaces := #[9, 10], accessFlags := 1041 }

def heap : Heap := #[{ cls := 11, slots := #[.long 0, .int 0, .ref 53, .ref 54], vm := .statics 11 },
  { cls := 15, slots := #[.double 0, .int 0, .int 0, .int 0, .int 0, .int 0, .int 0, .long 0, .null, .int 0, .long 0, .ref 6, .ref 37, .long 0, .long 0, .ref 3, .ref 7, .ref 10, .ref 34, .null, .null, .int 0, .int 0, .int 0, .int 0, .int 0, .int 0, .int 0, .int 0, .null, .null, .ref 55, .null, .int 0, .int 0, .ref 56, .long 0, .null, .int 1], vm := .statics 15 },
  { cls := 24, slots := #[.long 0, .int 0, .int 0, .int 0, .int 0, .int 0, .int 0, .int 0, .int 0, .int 0, .int 0, .int 0, .null, .int 0, .int 0, .null, .int 0, .null, .null, .null, .null, .double 0, .ref 4, .ref 8, .ref 11, .null, .ref 35, .null, .int 0, .null, .null, .null, .null, .null, .long 0, .null, .int 0], vm := .statics 24 },
  { cls := 15, slots := #[.ref 4, .int 0, .int 1, .null, .long 0], vm := .none },
  { cls := 24, slots := #[.int 0, .ref 5, .int 0, .int 0, .int 0, .int 0], vm := .none },
  { cls := 28, slots := #[], vm := .none },
  { cls := 32, slots := #[.ref 3, .ref 7, .ref 10, .ref 13, .ref 16, .ref 19, .ref 22, .ref 25, .ref 28, .ref 31, .ref 34], vm := .none },
  { cls := 15, slots := #[.ref 8, .int 0, .int 1, .null, .long 1], vm := .none },
  { cls := 24, slots := #[.int 1, .ref 9, .int 0, .int 0, .int 0, .int 0], vm := .none },
  { cls := 28, slots := #[.int 1], vm := .none },
  { cls := 15, slots := #[.ref 11, .int 0, .int 1, .null, .long 2], vm := .none },
  { cls := 24, slots := #[.int 1, .ref 12, .int 0, .int 0, .int 0, .int 0], vm := .none },
  { cls := 28, slots := #[.int 2], vm := .none },
  { cls := 15, slots := #[.ref 14, .int 0, .int 1, .null, .long 3], vm := .none },
  { cls := 24, slots := #[.int 1, .ref 15, .int 0, .int 0, .int 0, .int 0], vm := .none },
  { cls := 28, slots := #[.int 3], vm := .none },
  { cls := 15, slots := #[.ref 17, .int 0, .int 1, .null, .long 4], vm := .none },
  { cls := 24, slots := #[.int 1, .ref 18, .int 0, .int 0, .int 0, .int 0], vm := .none },
  { cls := 28, slots := #[.int 4], vm := .none },
  { cls := 15, slots := #[.ref 20, .int 0, .int 1, .null, .long 5], vm := .none },
  { cls := 24, slots := #[.int 1, .ref 21, .int 0, .int 0, .int 0, .int 0], vm := .none },
  { cls := 28, slots := #[.int 5], vm := .none },
  { cls := 15, slots := #[.ref 23, .int 0, .int 1, .null, .long 6], vm := .none },
  { cls := 24, slots := #[.int 1, .ref 24, .int 0, .int 0, .int 0, .int 0], vm := .none },
  { cls := 28, slots := #[.int 6], vm := .none },
  { cls := 15, slots := #[.ref 26, .int 0, .int 1, .null, .long 7], vm := .none },
  { cls := 24, slots := #[.int 1, .ref 27, .int 0, .int 0, .int 0, .int 0], vm := .none },
  { cls := 28, slots := #[.int 7], vm := .none },
  { cls := 15, slots := #[.ref 29, .int 0, .int 1, .null, .long 8], vm := .none },
  { cls := 24, slots := #[.int 1, .ref 30, .int 0, .int 0, .int 0, .int 0], vm := .none },
  { cls := 28, slots := #[.int 8], vm := .none },
  { cls := 15, slots := #[.ref 32, .int 0, .int 1, .null, .long 9], vm := .none },
  { cls := 24, slots := #[.int 1, .ref 33, .int 0, .int 0, .int 0, .int 0], vm := .none },
  { cls := 28, slots := #[.int 9], vm := .none },
  { cls := 15, slots := #[.ref 35, .int 0, .int 2, .null, .long 10], vm := .none },
  { cls := 24, slots := #[.int 1, .ref 36, .int 0, .int 0, .int 0, .int 0], vm := .none },
  { cls := 28, slots := #[.int 10], vm := .none },
  { cls := 32, slots := #[.ref 3, .ref 38, .ref 39, .ref 40, .ref 41, .ref 42, .ref 43, .ref 44, .ref 45, .ref 46, .ref 47, .ref 48, .ref 49, .ref 50, .ref 51, .ref 52], vm := .none },
  { cls := 15, slots := #[.ref 4, .int 1, .int 0, .null, .long 0], vm := .none },
  { cls := 15, slots := #[.ref 4, .int 2, .int 0, .null, .long 0], vm := .none },
  { cls := 15, slots := #[.ref 4, .int 3, .int 0, .null, .long 0], vm := .none },
  { cls := 15, slots := #[.ref 4, .int 4, .int 0, .null, .long 0], vm := .none },
  { cls := 15, slots := #[.ref 4, .int 5, .int 0, .null, .long 0], vm := .none },
  { cls := 15, slots := #[.ref 4, .int 6, .int 0, .null, .long 0], vm := .none },
  { cls := 15, slots := #[.ref 4, .int 7, .int 0, .null, .long 0], vm := .none },
  { cls := 15, slots := #[.ref 4, .int 8, .int 0, .null, .long 0], vm := .none },
  { cls := 15, slots := #[.ref 4, .int 9, .int 0, .null, .long 0], vm := .none },
  { cls := 15, slots := #[.ref 4, .int 10, .int 0, .null, .long 0], vm := .none },
  { cls := 15, slots := #[.ref 4, .int 11, .int 0, .null, .long 0], vm := .none },
  { cls := 15, slots := #[.ref 4, .int 12, .int 0, .null, .long 0], vm := .none },
  { cls := 15, slots := #[.ref 4, .int 13, .int 0, .null, .long 0], vm := .none },
  { cls := 15, slots := #[.ref 4, .int 14, .int 0, .null, .long 0], vm := .none },
  { cls := 15, slots := #[.ref 4, .int 15, .int 0, .null, .long 0], vm := .none },
  { cls := 31, slots := #[], vm := .none },
  { cls := 31, slots := #[], vm := .none },
  { cls := 30, slots := #[.long 1, .long 10, .long 100, .long 1000, .long 10000, .long 100000, .long 1000000, .long 10000000, .long 100000000, .long 1000000000, .long 10000000000, .long 100000000000, .long 1000000000000, .long 10000000000000, .long 100000000000000, .long 1000000000000000, .long 10000000000000000, .long 100000000000000000, .long 1000000000000000000], vm := .none },
  { cls := 30, slots := #[.long 9223372036854775807, .long 922337203685477580, .long 92233720368547758, .long 9223372036854775, .long 922337203685477, .long 92233720368547, .long 9223372036854, .long 922337203685, .long 92233720368, .long 9223372036, .long 922337203, .long 92233720, .long 9223372, .long 922337, .long 92233, .long 9223, .long 922, .long 92, .long 9], vm := .none }]
def classes : Array Class := #[k0, k1, k2, k3, k4, k5, k6, k7, k8, k9, k10, k11, k12, k13, k14, k15, k16, k17, k18, k19, k20, k21, k22, k23, k24, k25, k26, k27, k28, k29, k30, k31, k32]
def interned : List (Array UInt16 × Addr) := []
def slotsUsed : Nat := 351
def theMethod : MethodId := ⟨1, 3⟩
def args0 : Array Value := #[.int 5, .int 5, .int 5, .int 5]
def aboutOver (below : List Frame) : State where
  vm := { classes := classes, interned := interned.toArray }
  heap := heap
  slotsUsed := slotsUsed
  threads := #[{ frames := .invoking theMethod args0 :: below }]
def below0 : List Frame := [.native { method := ⟨0, 0⟩, args := #[] }]
def about1 : State := aboutOver below0
def p0 : Program := .bare "" "" ""
def e0 : Env := launch0.env 0 0 0
theorem w_frames : about1.frames = Frame.invoking theMethod args0 :: below0 := rfl
set_option maxRecDepth 65536 in
theorem w_args : argsFit about1.vm theMethod args0 = true := by decide +kernel
set_option maxRecDepth 65536 in
theorem w_heap : heapFits about1 = true := by decide +kernel
set_option maxRecDepth 65536 in
theorem w_runnable : about1.curStatus? = some .runnable := by decide +kernel
set_option maxRecDepth 65536 in
theorem w_alone : about1.alone = true := by decide +kernel
set_option maxRecDepth 65536 in
theorem w_named : about1.methodNamed? x = some theMethod := by decide +kernel
set_option maxRecDepth 65536 in
theorem w_hears : about1.hears theMethod below0 = true := by decide +kernel
set_option maxRecDepth 65536 in
theorem w_ripe : about1.ripe theMethod args0 below0 = true := by decide +kernel
theorem w_running : about1.status = .running := rfl
set_option maxRecDepth 65536 in
theorem w_room : about1.hasRoom e0.platform room_1 = true :=
  launch0.hasRoom_least _ room_1 (by decide +kernel) (by decide +kernel) (by decide +kernel) (by decide +kernel) (by decide +kernel) (by decide +kernel)
theorem allAtoms_all (ts : List Jvm.Cond) (a : Array Jvm.Value) (st : Jvm.State) : (allAtoms ts).before a st = ts.all (fun c => c.before a st) := by
  induction ts with
  | nil => rfl
  | cons c t ih =>
    show (Jvm.Cond.and c (allAtoms t)).before a st = _
    rw [Jvm.Cond.before_and, ih, List.all_cons]
def words1 : List Jvm.Cond := Jvm.Cond.code x code maxLocals ret :: tables_1
/-- a 'code' word, met by the world's own term for the bytes: nothing is compared byte by byte -/
theorem code_word {y : MethodName} {bytes : ByteArray} {mx : Nat} {rt : Option FieldType} {a : Array Value} {s : State} {m : MethodId} {meth : Method} {c : Code} (h1 : s.methodNamed? y = some m) (h2 : s.vm.method? m = some meth) (h3 : meth.code = some c) (h4 : c.code = bytes)
    (h5 : (c.maxLocals == mx && c.exceptionTable.isEmpty && decide (c.maxStack ≤ mostOperands) && decide (meth.sig.returnType = rt) && !meth.locks && decide (parseMethodDescriptor y.desc = some meth.sig)) = true) : (Jvm.Cond.code y bytes mx rt).before a s = true := by
  simp only [Bool.and_eq_true, beq_iff_eq, Bool.not_eq_true', decide_eq_true_eq] at h5
  obtain ⟨⟨⟨⟨⟨g1, g2⟩, g3⟩, g4⟩, g5⟩, g6⟩ := h5
  simp [Cond.before, Cond.holds, Cond.value, h1, h2, h3, h4, g1, g2, g3, g4, g5, g6]
def isCode : Jvm.Cond → Bool
  | .code _ _ _ _ => true
  | _ => false
theorem all_split {L : List Jvm.Cond} {P : Jvm.Cond → Bool} (h1 : L.all (fun c => isCode c || P c) = true) (h2 : ∀ c ∈ L.filter isCode, P c = true) : L.all P = true := by
  refine List.all_eq_true.mpr fun c hc => ?_
  have h := List.all_eq_true.mp h1 c hc
  rcases Bool.eq_false_or_eq_true (isCode c) with hi | hi
  · exact h2 c (List.mem_filter.mpr ⟨hc, hi⟩)
  · simpa [hi] using h
set_option maxRecDepth 65536 in
theorem w_c0 : (Jvm.Cond.code x code maxLocals ret).before args0 about1 = true := code_word (m := ⟨1, 3⟩) (meth := k1m3) (c := k1c3) (by decide +kernel) rfl rfl rfl (by decide +kernel)
set_option maxRecDepth 65536 in
theorem w_c1 : (Jvm.Cond.code ({ cls := "java/util/ArrayList", name := "<init>", desc := "()V" } : Jvm.MethodName) jdk_38_method_2_code (1 : Nat) (Option.none : Option Jvm.ClassFile.FieldType)).before args0 about1 = true := code_word (m := ⟨11, 0⟩) (meth := k11m0) (c := k11c0) (by decide +kernel) rfl rfl rfl (by decide +kernel)
set_option maxRecDepth 65536 in
theorem w_c2 : (Jvm.Cond.code ({ cls := "java/util/AbstractList", name := "<init>", desc := "()V" } : Jvm.MethodName) jdk_39_method_1_code (1 : Nat) (Option.none : Option Jvm.ClassFile.FieldType)).before args0 about1 = true := code_word (m := ⟨7, 0⟩) (meth := k7m0) (c := k7c0) (by decide +kernel) rfl rfl rfl (by decide +kernel)
set_option maxRecDepth 65536 in
theorem w_c3 : (Jvm.Cond.code ({ cls := "java/util/AbstractCollection", name := "<init>", desc := "()V" } : Jvm.MethodName) jdk_22_method_1_code (1 : Nat) (Option.none : Option Jvm.ClassFile.FieldType)).before args0 about1 = true := code_word (m := ⟨4, 0⟩) (meth := k4m0) (c := k4c0) (by decide +kernel) rfl rfl rfl (by decide +kernel)
set_option maxRecDepth 65536 in
theorem w_c4 : (Jvm.Cond.code ({ cls := "java/lang/Object", name := "<init>", desc := "()V" } : Jvm.MethodName) object_method_1_code (1 : Nat) (Option.none : Option Jvm.ClassFile.FieldType)).before args0 about1 = true := code_word (m := ⟨0, 0⟩) (meth := k0m0) (c := k0c0) (by decide +kernel) rfl rfl rfl (by decide +kernel)
set_option maxRecDepth 65536 in
theorem w_c5 : (Jvm.Cond.code ({ cls := "com/example/tipple/tipple/TotalsTonsPinLaw", name := "lot", desc := "(IIZ)Lcom/example/tipple/tipple/Lot;" } : Jvm.MethodName) method_3_code (3 : Nat) (Option.some (Jvm.ClassFile.FieldType.object "com/example/tipple/tipple/Lot"))).before args0 about1 = true := code_word (m := ⟨1, 2⟩) (meth := k1m2) (c := k1c2) (by decide +kernel) rfl rfl rfl (by decide +kernel)
set_option maxRecDepth 65536 in
theorem w_c6 : (Jvm.Cond.code ({ cls := "java/math/BigDecimal", name := "valueOf", desc := "(JI)Ljava/math/BigDecimal;" } : Jvm.MethodName) jdk_17_method_20_code (3 : Nat) (Option.some (Jvm.ClassFile.FieldType.object "java/math/BigDecimal"))).before args0 about1 = true := code_word (m := ⟨15, 1⟩) (meth := k15m1) (c := k15c1) (by decide +kernel) rfl rfl rfl (by decide +kernel)
set_option maxRecDepth 65536 in
theorem w_c7 : (Jvm.Cond.code ({ cls := "java/math/BigDecimal", name := "valueOf", desc := "(J)Ljava/math/BigDecimal;" } : Jvm.MethodName) jdk_17_method_21_code (2 : Nat) (Option.some (Jvm.ClassFile.FieldType.object "java/math/BigDecimal"))).before args0 about1 = true := code_word (m := ⟨15, 2⟩) (meth := k15m2) (c := k15c2) (by decide +kernel) rfl rfl rfl (by decide +kernel)
set_option maxRecDepth 65536 in
theorem w_c8 : (Jvm.Cond.code ({ cls := "com/example/tipple/tipple/Lot", name := "<init>", desc := "(Ljava/lang/String;Ljava/lang/String;JLjava/time/LocalDate;Ljava/lang/String;Ljava/math/BigDecimal;Ljava/math/BigDecimal;Ljava/math/BigDecimal;Ljava/math/BigDecimal;Ljava/math/BigDecimal;Ljava/util/Optional;Z)V" } : Jvm.MethodName) prog_8_method_1_code (14 : Nat) (Option.none : Option Jvm.ClassFile.FieldType)).before args0 about1 = true := code_word (m := ⟨12, 0⟩) (meth := k12m0) (c := k12c0) (by decide +kernel) rfl rfl rfl (by decide +kernel)
set_option maxRecDepth 65536 in
theorem w_c9 : (Jvm.Cond.code ({ cls := "java/util/ArrayList", name := "add", desc := "(Ljava/lang/Object;)Z" } : Jvm.MethodName) jdk_38_method_25_code (2 : Nat) (Option.some Jvm.ClassFile.FieldType.boolean)).before args0 about1 = true := code_word (m := ⟨11, 4⟩) (meth := k11m4) (c := k11c4) (by decide +kernel) rfl rfl rfl (by decide +kernel)
set_option maxRecDepth 65536 in
theorem w_c10 : (Jvm.Cond.code ({ cls := "java/util/ArrayList", name := "add", desc := "(Ljava/lang/Object;[Ljava/lang/Object;I)V" } : Jvm.MethodName) jdk_38_method_24_code (4 : Nat) (Option.none : Option Jvm.ClassFile.FieldType)).before args0 about1 = true := code_word (m := ⟨11, 3⟩) (meth := k11m3) (c := k11c3) (by decide +kernel) rfl rfl rfl (by decide +kernel)
set_option maxRecDepth 65536 in
theorem w_c11 : (Jvm.Cond.code ({ cls := "java/util/ArrayList", name := "grow", desc := "()[Ljava/lang/Object;" } : Jvm.MethodName) jdk_38_method_7_code (1 : Nat) (Option.some (Jvm.ClassFile.FieldType.array (Jvm.ClassFile.FieldType.object "java/lang/Object")))).before args0 about1 = true := code_word (m := ⟨11, 2⟩) (meth := k11m2) (c := k11c2) (by decide +kernel) rfl rfl rfl (by decide +kernel)
set_option maxRecDepth 65536 in
theorem w_c12 : (Jvm.Cond.code ({ cls := "java/util/ArrayList", name := "grow", desc := "(I)[Ljava/lang/Object;" } : Jvm.MethodName) jdk_38_method_6_code (4 : Nat) (Option.some (Jvm.ClassFile.FieldType.array (Jvm.ClassFile.FieldType.object "java/lang/Object")))).before args0 about1 = true := code_word (m := ⟨11, 1⟩) (meth := k11m1) (c := k11c1) (by decide +kernel) rfl rfl rfl (by decide +kernel)
set_option maxRecDepth 65536 in
theorem w_c13 : (Jvm.Cond.code ({ cls := "java/lang/Math", name := "max", desc := "(II)I" } : Jvm.MethodName) jdk_29_method_65_code (2 : Nat) (Option.some Jvm.ClassFile.FieldType.int)).before args0 about1 = true := code_word (m := ⟨16, 2⟩) (meth := k16m2) (c := k16c2) (by decide +kernel) rfl rfl rfl (by decide +kernel)
set_option maxRecDepth 65536 in
theorem w_c14 : (Jvm.Cond.code ({ cls := "com/example/tipple/tipple/TotalsTonsPinLaw", name := "pow10", desc := "(I)J" } : Jvm.MethodName) method_2_code (1 : Nat) (Option.some Jvm.ClassFile.FieldType.long)).before args0 about1 = true := code_word (m := ⟨1, 1⟩) (meth := k1m1) (c := k1c1) (by decide +kernel) rfl rfl rfl (by decide +kernel)
set_option maxRecDepth 65536 in
theorem w_c15 : (Jvm.Cond.code ({ cls := "com/example/tipple/tipple/Totals", name := "tons", desc := "(Ljava/util/List;)Ljava/math/BigDecimal;" } : Jvm.MethodName) prog_16_method_3_code (4 : Nat) (Option.some (Jvm.ClassFile.FieldType.object "java/math/BigDecimal"))).before args0 about1 = true := code_word (m := ⟨17, 1⟩) (meth := k17m1) (c := k17c1) (by decide +kernel) rfl rfl rfl (by decide +kernel)
set_option maxRecDepth 65536 in
theorem w_c16 : (Jvm.Cond.code ({ cls := "java/util/ArrayList", name := "iterator", desc := "()Ljava/util/Iterator;" } : Jvm.MethodName) jdk_38_method_55_code (1 : Nat) (Option.some (Jvm.ClassFile.FieldType.object "java/util/Iterator"))).before args0 about1 = true := code_word (m := ⟨11, 5⟩) (meth := k11m5) (c := k11c5) (by decide +kernel) rfl rfl rfl (by decide +kernel)
set_option maxRecDepth 65536 in
theorem w_c17 : (Jvm.Cond.code ({ cls := "java/util/ArrayList$Itr", name := "<init>", desc := "(Ljava/util/ArrayList;)V" } : Jvm.MethodName) jdk_49_method_1_code (2 : Nat) (Option.none : Option Jvm.ClassFile.FieldType)).before args0 about1 = true := code_word (m := ⟨19, 0⟩) (meth := k19m0) (c := k19c0) (by decide +kernel) rfl rfl rfl (by decide +kernel)
set_option maxRecDepth 65536 in
theorem w_c18 : (Jvm.Cond.code ({ cls := "java/util/ArrayList$Itr", name := "hasNext", desc := "()Z" } : Jvm.MethodName) jdk_49_method_2_code (1 : Nat) (Option.some Jvm.ClassFile.FieldType.boolean)).before args0 about1 = true := code_word (m := ⟨19, 1⟩) (meth := k19m1) (c := k19c1) (by decide +kernel) rfl rfl rfl (by decide +kernel)
set_option maxRecDepth 65536 in
theorem w_c19 : (Jvm.Cond.code ({ cls := "java/util/ArrayList$Itr", name := "next", desc := "()Ljava/lang/Object;" } : Jvm.MethodName) jdk_49_method_3_code (3 : Nat) (Option.some (Jvm.ClassFile.FieldType.object "java/lang/Object"))).before args0 about1 = true := code_word (m := ⟨19, 2⟩) (meth := k19m2) (c := k19c2) (by decide +kernel) rfl rfl rfl (by decide +kernel)
set_option maxRecDepth 65536 in
theorem w_c20 : (Jvm.Cond.code ({ cls := "java/util/ArrayList$Itr", name := "checkForComodification", desc := "()V" } : Jvm.MethodName) jdk_49_method_6_code (1 : Nat) (Option.none : Option Jvm.ClassFile.FieldType)).before args0 about1 = true := code_word (m := ⟨19, 3⟩) (meth := k19m3) (c := k19c3) (by decide +kernel) rfl rfl rfl (by decide +kernel)
set_option maxRecDepth 65536 in
theorem w_c21 : (Jvm.Cond.code ({ cls := "com/example/tipple/tipple/Lot", name := "tons", desc := "()Ljava/math/BigDecimal;" } : Jvm.MethodName) prog_8_method_7_code (1 : Nat) (Option.some (Jvm.ClassFile.FieldType.object "java/math/BigDecimal"))).before args0 about1 = true := code_word (m := ⟨12, 1⟩) (meth := k12m1) (c := k12c1) (by decide +kernel) rfl rfl rfl (by decide +kernel)
set_option maxRecDepth 65536 in
theorem w_c22 : (Jvm.Cond.code ({ cls := "java/math/BigDecimal", name := "add", desc := "(Ljava/math/BigDecimal;)Ljava/math/BigDecimal;" } : Jvm.MethodName) jdk_17_method_26_code (2 : Nat) (Option.some (Jvm.ClassFile.FieldType.object "java/math/BigDecimal"))).before args0 about1 = true := code_word (m := ⟨15, 4⟩) (meth := k15m4) (c := k15c4) (by decide +kernel) rfl rfl rfl (by decide +kernel)
set_option maxRecDepth 65536 in
theorem w_c23 : (Jvm.Cond.code ({ cls := "java/math/BigDecimal", name := "add", desc := "(JIJI)Ljava/math/BigDecimal;" } : Jvm.MethodName) jdk_17_method_134_code (12 : Nat) (Option.some (Jvm.ClassFile.FieldType.object "java/math/BigDecimal"))).before args0 about1 = true := code_word (m := ⟨15, 16⟩) (meth := k15m16) (c := k15c16) (by decide +kernel) rfl rfl rfl (by decide +kernel)
set_option maxRecDepth 65536 in
theorem w_c24 : (Jvm.Cond.code ({ cls := "java/math/BigDecimal", name := "add", desc := "(JJI)Ljava/math/BigDecimal;" } : Jvm.MethodName) jdk_17_method_133_code (7 : Nat) (Option.some (Jvm.ClassFile.FieldType.object "java/math/BigDecimal"))).before args0 about1 = true := code_word (m := ⟨15, 15⟩) (meth := k15m15) (c := k15c15) (by decide +kernel) rfl rfl rfl (by decide +kernel)
set_option maxRecDepth 65536 in
theorem w_c25 : (Jvm.Cond.code ({ cls := "java/math/BigDecimal", name := "add", desc := "(JJ)J" } : Jvm.MethodName) jdk_17_method_132_code (6 : Nat) (Option.some Jvm.ClassFile.FieldType.long)).before args0 about1 = true := code_word (m := ⟨15, 14⟩) (meth := k15m14) (c := k15c14) (by decide +kernel) rfl rfl rfl (by decide +kernel)
set_option maxRecDepth 65536 in
theorem w_c26 : (Jvm.Cond.code ({ cls := "java/math/BigDecimal", name := "zeroValueOf", desc := "(I)Ljava/math/BigDecimal;" } : Jvm.MethodName) jdk_17_method_24_code (1 : Nat) (Option.some (Jvm.ClassFile.FieldType.object "java/math/BigDecimal"))).before args0 about1 = true := code_word (m := ⟨15, 3⟩) (meth := k15m3) (c := k15c3) (by decide +kernel) rfl rfl rfl (by decide +kernel)
set_option maxRecDepth 65536 in
theorem w_c27 : (Jvm.Cond.code ({ cls := "java/math/BigDecimal", name := "compareTo", desc := "(Ljava/math/BigDecimal;)I" } : Jvm.MethodName) jdk_17_method_70_code (6 : Nat) (Option.some Jvm.ClassFile.FieldType.int)).before args0 about1 = true := code_word (m := ⟨15, 8⟩) (meth := k15m8) (c := k15c8) (by decide +kernel) rfl rfl rfl (by decide +kernel)
set_option maxRecDepth 65536 in
theorem w_c28 : (Jvm.Cond.code ({ cls := "java/math/BigDecimal", name := "signum", desc := "()I" } : Jvm.MethodName) jdk_17_method_58_code (1 : Nat) (Option.some Jvm.ClassFile.FieldType.int)).before args0 about1 = true := code_word (m := ⟨15, 5⟩) (meth := k15m5) (c := k15c5) (by decide +kernel) rfl rfl rfl (by decide +kernel)
set_option maxRecDepth 65536 in
theorem w_c29 : (Jvm.Cond.code ({ cls := "java/lang/Long", name := "signum", desc := "(J)I" } : Jvm.MethodName) jdk_35_method_57_code (2 : Nat) (Option.some Jvm.ClassFile.FieldType.int)).before args0 about1 = true := code_word (m := ⟨22, 2⟩) (meth := k22m2) (c := k22c2) (by decide +kernel) rfl rfl rfl (by decide +kernel)
set_option maxRecDepth 65536 in
theorem w_c30 : (Jvm.Cond.code ({ cls := "java/math/BigDecimal", name := "scale", desc := "()I" } : Jvm.MethodName) jdk_17_method_59_code (1 : Nat) (Option.some Jvm.ClassFile.FieldType.int)).before args0 about1 = true := code_word (m := ⟨15, 6⟩) (meth := k15m6) (c := k15c6) (by decide +kernel) rfl rfl rfl (by decide +kernel)
set_option maxRecDepth 65536 in
theorem w_c31 : (Jvm.Cond.code ({ cls := "java/math/BigDecimal", name := "<init>", desc := "(Ljava/math/BigInteger;JII)V" } : Jvm.MethodName) jdk_17_method_1_code (6 : Nat) (Option.none : Option Jvm.ClassFile.FieldType)).before args0 about1 = true := code_word (m := ⟨15, 0⟩) (meth := k15m0) (c := k15c0) (by decide +kernel) rfl rfl rfl (by decide +kernel)
set_option maxRecDepth 65536 in
theorem w_c32 : (Jvm.Cond.code ({ cls := "java/lang/Number", name := "<init>", desc := "()V" } : Jvm.MethodName) jdk_18_method_1_code (1 : Nat) (Option.none : Option Jvm.ClassFile.FieldType)).before args0 about1 = true := code_word (m := ⟨13, 0⟩) (meth := k13m0) (c := k13c0) (by decide +kernel) rfl rfl rfl (by decide +kernel)
set_option maxRecDepth 65536 in
theorem w_c33 : (Jvm.Cond.code ({ cls := "java/math/BigDecimal", name := "compareMagnitude", desc := "(Ljava/math/BigDecimal;)I" } : Jvm.MethodName) jdk_17_method_71_code (13 : Nat) (Option.some Jvm.ClassFile.FieldType.int)).before args0 about1 = true := code_word (m := ⟨15, 9⟩) (meth := k15m9) (c := k15c9) (by decide +kernel) rfl rfl rfl (by decide +kernel)
set_option maxRecDepth 65536 in
theorem w_c34 : (Jvm.Cond.code ({ cls := "java/math/BigDecimal", name := "precision", desc := "()I" } : Jvm.MethodName) jdk_17_method_60_code (4 : Nat) (Option.some Jvm.ClassFile.FieldType.int)).before args0 about1 = true := code_word (m := ⟨15, 7⟩) (meth := k15m7) (c := k15c7) (by decide +kernel) rfl rfl rfl (by decide +kernel)
set_option maxRecDepth 65536 in
theorem w_c35 : (Jvm.Cond.code ({ cls := "java/math/BigDecimal", name := "longDigitLength", desc := "(J)I" } : Jvm.MethodName) jdk_17_method_104_code (4 : Nat) (Option.some Jvm.ClassFile.FieldType.int)).before args0 about1 = true := code_word (m := ⟨15, 11⟩) (meth := k15m11) (c := k15c11) (by decide +kernel) rfl rfl rfl (by decide +kernel)
set_option maxRecDepth 65536 in
theorem w_c36 : (Jvm.Cond.code ({ cls := "java/lang/Long", name := "numberOfLeadingZeros", desc := "(J)I" } : Jvm.MethodName) jdk_35_method_48_code (3 : Nat) (Option.some Jvm.ClassFile.FieldType.int)).before args0 about1 = true := code_word (m := ⟨22, 1⟩) (meth := k22m1) (c := k22c1) (by decide +kernel) rfl rfl rfl (by decide +kernel)
set_option maxRecDepth 65536 in
theorem w_c37 : (Jvm.Cond.code ({ cls := "java/lang/Integer", name := "numberOfLeadingZeros", desc := "(I)I" } : Jvm.MethodName) jdk_33_method_47_code (2 : Nat) (Option.some Jvm.ClassFile.FieldType.int)).before args0 about1 = true := code_word (m := ⟨23, 0⟩) (meth := k23m0) (c := k23c0) (by decide +kernel) rfl rfl rfl (by decide +kernel)
set_option maxRecDepth 65536 in
theorem w_c38 : (Jvm.Cond.code ({ cls := "java/math/BigDecimal", name := "longMultiplyPowerTen", desc := "(JI)J" } : Jvm.MethodName) jdk_17_method_97_code (7 : Nat) (Option.some Jvm.ClassFile.FieldType.long)).before args0 about1 = true := code_word (m := ⟨15, 10⟩) (meth := k15m10) (c := k15c10) (by decide +kernel) rfl rfl rfl (by decide +kernel)
set_option maxRecDepth 65536 in
theorem w_c39 : (Jvm.Cond.code ({ cls := "java/lang/Math", name := "abs", desc := "(J)J" } : Jvm.MethodName) jdk_29_method_61_code (2 : Nat) (Option.some Jvm.ClassFile.FieldType.long)).before args0 about1 = true := code_word (m := ⟨16, 1⟩) (meth := k16m1) (c := k16c1) (by decide +kernel) rfl rfl rfl (by decide +kernel)
set_option maxRecDepth 65536 in
theorem w_c40 : (Jvm.Cond.code ({ cls := "java/math/BigDecimal", name := "longCompareMagnitude", desc := "(JJ)I" } : Jvm.MethodName) jdk_17_method_108_code (4 : Nat) (Option.some Jvm.ClassFile.FieldType.int)).before args0 about1 = true := code_word (m := ⟨15, 12⟩) (meth := k15m12) (c := k15c12) (by decide +kernel) rfl rfl rfl (by decide +kernel)
set_option maxRecDepth 65536 in
theorem w_c41 : (Jvm.Cond.code ({ cls := "java/lang/Long", name := "compare", desc := "(JJ)I" } : Jvm.MethodName) jdk_35_method_42_code (4 : Nat) (Option.some Jvm.ClassFile.FieldType.int)).before args0 about1 = true := code_word (m := ⟨22, 0⟩) (meth := k22m0) (c := k22c0) (by decide +kernel) rfl rfl rfl (by decide +kernel)
set_option maxRecDepth 65536 in
theorem w_c42 : (Jvm.Cond.code ({ cls := "java/math/BigDecimal", name := "checkScale", desc := "(JJ)I" } : Jvm.MethodName) jdk_17_method_113_code (5 : Nat) (Option.some Jvm.ClassFile.FieldType.int)).before args0 about1 = true := code_word (m := ⟨15, 13⟩) (meth := k15m13) (c := k15c13) (by decide +kernel) rfl rfl rfl (by decide +kernel)
def codes1 : List Jvm.Cond := [Jvm.Cond.code x code maxLocals ret, Jvm.Cond.code ({ cls := "java/util/ArrayList", name := "<init>", desc := "()V" } : Jvm.MethodName) jdk_38_method_2_code (1 : Nat) (Option.none : Option Jvm.ClassFile.FieldType), Jvm.Cond.code ({ cls := "java/util/AbstractList", name := "<init>", desc := "()V" } : Jvm.MethodName) jdk_39_method_1_code (1 : Nat) (Option.none : Option Jvm.ClassFile.FieldType), Jvm.Cond.code ({ cls := "java/util/AbstractCollection", name := "<init>", desc := "()V" } : Jvm.MethodName) jdk_22_method_1_code (1 : Nat) (Option.none : Option Jvm.ClassFile.FieldType), Jvm.Cond.code ({ cls := "java/lang/Object", name := "<init>", desc := "()V" } : Jvm.MethodName) object_method_1_code (1 : Nat) (Option.none : Option Jvm.ClassFile.FieldType), Jvm.Cond.code ({ cls := "com/example/tipple/tipple/TotalsTonsPinLaw", name := "lot", desc := "(IIZ)Lcom/example/tipple/tipple/Lot;" } : Jvm.MethodName) method_3_code (3 : Nat) (Option.some (Jvm.ClassFile.FieldType.object "com/example/tipple/tipple/Lot")), Jvm.Cond.code ({ cls := "java/math/BigDecimal", name := "valueOf", desc := "(JI)Ljava/math/BigDecimal;" } : Jvm.MethodName) jdk_17_method_20_code (3 : Nat) (Option.some (Jvm.ClassFile.FieldType.object "java/math/BigDecimal")), Jvm.Cond.code ({ cls := "java/math/BigDecimal", name := "valueOf", desc := "(J)Ljava/math/BigDecimal;" } : Jvm.MethodName) jdk_17_method_21_code (2 : Nat) (Option.some (Jvm.ClassFile.FieldType.object "java/math/BigDecimal")), Jvm.Cond.code ({ cls := "com/example/tipple/tipple/Lot", name := "<init>", desc := "(Ljava/lang/String;Ljava/lang/String;JLjava/time/LocalDate;Ljava/lang/String;Ljava/math/BigDecimal;Ljava/math/BigDecimal;Ljava/math/BigDecimal;Ljava/math/BigDecimal;Ljava/math/BigDecimal;Ljava/util/Optional;Z)V" } : Jvm.MethodName) prog_8_method_1_code (14 : Nat) (Option.none : Option Jvm.ClassFile.FieldType), Jvm.Cond.code ({ cls := "java/util/ArrayList", name := "add", desc := "(Ljava/lang/Object;)Z" } : Jvm.MethodName) jdk_38_method_25_code (2 : Nat) (Option.some Jvm.ClassFile.FieldType.boolean), Jvm.Cond.code ({ cls := "java/util/ArrayList", name := "add", desc := "(Ljava/lang/Object;[Ljava/lang/Object;I)V" } : Jvm.MethodName) jdk_38_method_24_code (4 : Nat) (Option.none : Option Jvm.ClassFile.FieldType), Jvm.Cond.code ({ cls := "java/util/ArrayList", name := "grow", desc := "()[Ljava/lang/Object;" } : Jvm.MethodName) jdk_38_method_7_code (1 : Nat) (Option.some (Jvm.ClassFile.FieldType.array (Jvm.ClassFile.FieldType.object "java/lang/Object"))), Jvm.Cond.code ({ cls := "java/util/ArrayList", name := "grow", desc := "(I)[Ljava/lang/Object;" } : Jvm.MethodName) jdk_38_method_6_code (4 : Nat) (Option.some (Jvm.ClassFile.FieldType.array (Jvm.ClassFile.FieldType.object "java/lang/Object"))), Jvm.Cond.code ({ cls := "java/lang/Math", name := "max", desc := "(II)I" } : Jvm.MethodName) jdk_29_method_65_code (2 : Nat) (Option.some Jvm.ClassFile.FieldType.int), Jvm.Cond.code ({ cls := "com/example/tipple/tipple/TotalsTonsPinLaw", name := "pow10", desc := "(I)J" } : Jvm.MethodName) method_2_code (1 : Nat) (Option.some Jvm.ClassFile.FieldType.long), Jvm.Cond.code ({ cls := "com/example/tipple/tipple/Totals", name := "tons", desc := "(Ljava/util/List;)Ljava/math/BigDecimal;" } : Jvm.MethodName) prog_16_method_3_code (4 : Nat) (Option.some (Jvm.ClassFile.FieldType.object "java/math/BigDecimal")), Jvm.Cond.code ({ cls := "java/util/ArrayList", name := "iterator", desc := "()Ljava/util/Iterator;" } : Jvm.MethodName) jdk_38_method_55_code (1 : Nat) (Option.some (Jvm.ClassFile.FieldType.object "java/util/Iterator")), Jvm.Cond.code ({ cls := "java/util/ArrayList$Itr", name := "<init>", desc := "(Ljava/util/ArrayList;)V" } : Jvm.MethodName) jdk_49_method_1_code (2 : Nat) (Option.none : Option Jvm.ClassFile.FieldType), Jvm.Cond.code ({ cls := "java/util/ArrayList$Itr", name := "hasNext", desc := "()Z" } : Jvm.MethodName) jdk_49_method_2_code (1 : Nat) (Option.some Jvm.ClassFile.FieldType.boolean), Jvm.Cond.code ({ cls := "java/util/ArrayList$Itr", name := "next", desc := "()Ljava/lang/Object;" } : Jvm.MethodName) jdk_49_method_3_code (3 : Nat) (Option.some (Jvm.ClassFile.FieldType.object "java/lang/Object")), Jvm.Cond.code ({ cls := "java/util/ArrayList$Itr", name := "checkForComodification", desc := "()V" } : Jvm.MethodName) jdk_49_method_6_code (1 : Nat) (Option.none : Option Jvm.ClassFile.FieldType), Jvm.Cond.code ({ cls := "com/example/tipple/tipple/Lot", name := "tons", desc := "()Ljava/math/BigDecimal;" } : Jvm.MethodName) prog_8_method_7_code (1 : Nat) (Option.some (Jvm.ClassFile.FieldType.object "java/math/BigDecimal")), Jvm.Cond.code ({ cls := "java/math/BigDecimal", name := "add", desc := "(Ljava/math/BigDecimal;)Ljava/math/BigDecimal;" } : Jvm.MethodName) jdk_17_method_26_code (2 : Nat) (Option.some (Jvm.ClassFile.FieldType.object "java/math/BigDecimal")), Jvm.Cond.code ({ cls := "java/math/BigDecimal", name := "add", desc := "(JIJI)Ljava/math/BigDecimal;" } : Jvm.MethodName) jdk_17_method_134_code (12 : Nat) (Option.some (Jvm.ClassFile.FieldType.object "java/math/BigDecimal")), Jvm.Cond.code ({ cls := "java/math/BigDecimal", name := "add", desc := "(JJI)Ljava/math/BigDecimal;" } : Jvm.MethodName) jdk_17_method_133_code (7 : Nat) (Option.some (Jvm.ClassFile.FieldType.object "java/math/BigDecimal")), Jvm.Cond.code ({ cls := "java/math/BigDecimal", name := "add", desc := "(JJ)J" } : Jvm.MethodName) jdk_17_method_132_code (6 : Nat) (Option.some Jvm.ClassFile.FieldType.long), Jvm.Cond.code ({ cls := "java/math/BigDecimal", name := "zeroValueOf", desc := "(I)Ljava/math/BigDecimal;" } : Jvm.MethodName) jdk_17_method_24_code (1 : Nat) (Option.some (Jvm.ClassFile.FieldType.object "java/math/BigDecimal")), Jvm.Cond.code ({ cls := "java/math/BigDecimal", name := "compareTo", desc := "(Ljava/math/BigDecimal;)I" } : Jvm.MethodName) jdk_17_method_70_code (6 : Nat) (Option.some Jvm.ClassFile.FieldType.int), Jvm.Cond.code ({ cls := "java/math/BigDecimal", name := "signum", desc := "()I" } : Jvm.MethodName) jdk_17_method_58_code (1 : Nat) (Option.some Jvm.ClassFile.FieldType.int), Jvm.Cond.code ({ cls := "java/lang/Long", name := "signum", desc := "(J)I" } : Jvm.MethodName) jdk_35_method_57_code (2 : Nat) (Option.some Jvm.ClassFile.FieldType.int), Jvm.Cond.code ({ cls := "java/math/BigDecimal", name := "scale", desc := "()I" } : Jvm.MethodName) jdk_17_method_59_code (1 : Nat) (Option.some Jvm.ClassFile.FieldType.int), Jvm.Cond.code ({ cls := "java/math/BigDecimal", name := "<init>", desc := "(Ljava/math/BigInteger;JII)V" } : Jvm.MethodName) jdk_17_method_1_code (6 : Nat) (Option.none : Option Jvm.ClassFile.FieldType), Jvm.Cond.code ({ cls := "java/lang/Number", name := "<init>", desc := "()V" } : Jvm.MethodName) jdk_18_method_1_code (1 : Nat) (Option.none : Option Jvm.ClassFile.FieldType), Jvm.Cond.code ({ cls := "java/math/BigDecimal", name := "compareMagnitude", desc := "(Ljava/math/BigDecimal;)I" } : Jvm.MethodName) jdk_17_method_71_code (13 : Nat) (Option.some Jvm.ClassFile.FieldType.int), Jvm.Cond.code ({ cls := "java/math/BigDecimal", name := "precision", desc := "()I" } : Jvm.MethodName) jdk_17_method_60_code (4 : Nat) (Option.some Jvm.ClassFile.FieldType.int), Jvm.Cond.code ({ cls := "java/math/BigDecimal", name := "longDigitLength", desc := "(J)I" } : Jvm.MethodName) jdk_17_method_104_code (4 : Nat) (Option.some Jvm.ClassFile.FieldType.int), Jvm.Cond.code ({ cls := "java/lang/Long", name := "numberOfLeadingZeros", desc := "(J)I" } : Jvm.MethodName) jdk_35_method_48_code (3 : Nat) (Option.some Jvm.ClassFile.FieldType.int), Jvm.Cond.code ({ cls := "java/lang/Integer", name := "numberOfLeadingZeros", desc := "(I)I" } : Jvm.MethodName) jdk_33_method_47_code (2 : Nat) (Option.some Jvm.ClassFile.FieldType.int), Jvm.Cond.code ({ cls := "java/math/BigDecimal", name := "longMultiplyPowerTen", desc := "(JI)J" } : Jvm.MethodName) jdk_17_method_97_code (7 : Nat) (Option.some Jvm.ClassFile.FieldType.long), Jvm.Cond.code ({ cls := "java/lang/Math", name := "abs", desc := "(J)J" } : Jvm.MethodName) jdk_29_method_61_code (2 : Nat) (Option.some Jvm.ClassFile.FieldType.long), Jvm.Cond.code ({ cls := "java/math/BigDecimal", name := "longCompareMagnitude", desc := "(JJ)I" } : Jvm.MethodName) jdk_17_method_108_code (4 : Nat) (Option.some Jvm.ClassFile.FieldType.int), Jvm.Cond.code ({ cls := "java/lang/Long", name := "compare", desc := "(JJ)I" } : Jvm.MethodName) jdk_35_method_42_code (4 : Nat) (Option.some Jvm.ClassFile.FieldType.int), Jvm.Cond.code ({ cls := "java/math/BigDecimal", name := "checkScale", desc := "(JJ)I" } : Jvm.MethodName) jdk_17_method_113_code (5 : Nat) (Option.some Jvm.ClassFile.FieldType.int)]
set_option maxRecDepth 65536 in
theorem codes_eq : words1.filter isCode = codes1 := rfl
theorem w_codes : ∀ c ∈ words1.filter isCode, c.before args0 about1 = true := by
  rw [codes_eq]
  intro c hc
  simp only [codes1, List.mem_cons, List.not_mem_nil, or_false] at hc
  rcases hc with rfl | rfl | rfl | rfl | rfl | rfl | rfl | rfl | rfl | rfl | rfl | rfl | rfl | rfl | rfl | rfl | rfl | rfl | rfl | rfl | rfl | rfl | rfl | rfl | rfl | rfl | rfl | rfl | rfl | rfl | rfl | rfl | rfl | rfl | rfl | rfl | rfl | rfl | rfl | rfl | rfl | rfl | rfl
  · exact w_c0
  · exact w_c1
  · exact w_c2
  · exact w_c3
  · exact w_c4
  · exact w_c5
  · exact w_c6
  · exact w_c7
  · exact w_c8
  · exact w_c9
  · exact w_c10
  · exact w_c11
  · exact w_c12
  · exact w_c13
  · exact w_c14
  · exact w_c15
  · exact w_c16
  · exact w_c17
  · exact w_c18
  · exact w_c19
  · exact w_c20
  · exact w_c21
  · exact w_c22
  · exact w_c23
  · exact w_c24
  · exact w_c25
  · exact w_c26
  · exact w_c27
  · exact w_c28
  · exact w_c29
  · exact w_c30
  · exact w_c31
  · exact w_c32
  · exact w_c33
  · exact w_c34
  · exact w_c35
  · exact w_c36
  · exact w_c37
  · exact w_c38
  · exact w_c39
  · exact w_c40
  · exact w_c41
  · exact w_c42
set_option maxRecDepth 65536 in
theorem w_t1 : (words1.take 24).all (fun c => isCode c || c.before args0 about1) = true := by decide +kernel
set_option maxRecDepth 65536 in
theorem w_t2 : ((words1.drop 24).take 24).all (fun c => isCode c || c.before args0 about1) = true := by decide +kernel
set_option maxRecDepth 65536 in
theorem w_t3 : (((words1.drop 24).drop 24).take 24).all (fun c => isCode c || c.before args0 about1) = true := by decide +kernel
set_option maxRecDepth 65536 in
theorem w_t4 : ((((words1.drop 24).drop 24).drop 24).take 24).all (fun c => isCode c || c.before args0 about1) = true := by decide +kernel
set_option maxRecDepth 65536 in
theorem w_t5 : (((((words1.drop 24).drop 24).drop 24).drop 24).take 24).all (fun c => isCode c || c.before args0 about1) = true := by decide +kernel
set_option maxRecDepth 65536 in
theorem w_t6 : ((((((words1.drop 24).drop 24).drop 24).drop 24).drop 24).take 24).all (fun c => isCode c || c.before args0 about1) = true := by decide +kernel
set_option maxRecDepth 65536 in
theorem w_t7 : (((((((words1.drop 24).drop 24).drop 24).drop 24).drop 24).drop 24).take 24).all (fun c => isCode c || c.before args0 about1) = true := by decide +kernel
set_option maxRecDepth 65536 in
theorem w_t8 : ((((((((words1.drop 24).drop 24).drop 24).drop 24).drop 24).drop 24).drop 24).take 24).all (fun c => isCode c || c.before args0 about1) = true := by decide +kernel
set_option maxRecDepth 65536 in
theorem w_t9 : (((((((((words1.drop 24).drop 24).drop 24).drop 24).drop 24).drop 24).drop 24).drop 24).take 24).all (fun c => isCode c || c.before args0 about1) = true := by decide +kernel
set_option maxRecDepth 65536 in
theorem w_t10 : ((((((((((words1.drop 24).drop 24).drop 24).drop 24).drop 24).drop 24).drop 24).drop 24).drop 24).take 24).all (fun c => isCode c || c.before args0 about1) = true := by decide +kernel
set_option maxRecDepth 65536 in
theorem w_t11 : (((((((((((words1.drop 24).drop 24).drop 24).drop 24).drop 24).drop 24).drop 24).drop 24).drop 24).drop 24).take 24).all (fun c => isCode c || c.before args0 about1) = true := by decide +kernel
set_option maxRecDepth 65536 in
theorem w_t12 : (((((((((((words1.drop 24).drop 24).drop 24).drop 24).drop 24).drop 24).drop 24).drop 24).drop 24).drop 24).drop 24).all (fun c => isCode c || c.before args0 about1) = true := by decide +kernel
theorem w_tables : (allAtoms (Jvm.Cond.code x code maxLocals ret :: tables_1)).before args0 about1 = true := by
  rw [allAtoms_all]
  show words1.all (fun c => c.before args0 about1) = true
  refine all_split ?_ w_codes
  rw [← List.take_append_drop 24 words1, List.all_append, w_t1, ← List.take_append_drop 24 (words1.drop 24), List.all_append, w_t2, ← List.take_append_drop 24 ((words1.drop 24).drop 24), List.all_append, w_t3, ← List.take_append_drop 24 (((words1.drop 24).drop 24).drop 24), List.all_append, w_t4, ← List.take_append_drop 24 ((((words1.drop 24).drop 24).drop 24).drop 24), List.all_append, w_t5, ← List.take_append_drop 24 (((((words1.drop 24).drop 24).drop 24).drop 24).drop 24), List.all_append, w_t6, ← List.take_append_drop 24 ((((((words1.drop 24).drop 24).drop 24).drop 24).drop 24).drop 24), List.all_append, w_t7, ← List.take_append_drop 24 (((((((words1.drop 24).drop 24).drop 24).drop 24).drop 24).drop 24).drop 24), List.all_append, w_t8, ← List.take_append_drop 24 ((((((((words1.drop 24).drop 24).drop 24).drop 24).drop 24).drop 24).drop 24).drop 24), List.all_append, w_t9, ← List.take_append_drop 24 (((((((((words1.drop 24).drop 24).drop 24).drop 24).drop 24).drop 24).drop 24).drop 24).drop 24), List.all_append, w_t10, ← List.take_append_drop 24 ((((((((((words1.drop 24).drop 24).drop 24).drop 24).drop 24).drop 24).drop 24).drop 24).drop 24).drop 24), List.all_append, w_t11, w_t12]
  rfl
set_option maxRecDepth 65536 in
theorem w_rest : rest_1_c.before args0 about1 = true := by decide +kernel
set_option maxRecDepth 65536 in
theorem w_case : (Jvm.Cond.and given_1 narrow_1).before args0 about1 = true := by decide +kernel
theorem w_applies : (headSpec (Jvm.Cond.code x code maxLocals ret :: tables_1) room_1).applies x e0.platform about1 = true :=
  (Spec.applies_iff w_frames).mpr ⟨w_running, w_runnable, w_alone, w_named, w_hears, w_ripe, w_room, w_tables⟩
theorem atStart : AtStart classFile x code maxLocals ret World_1 tables_1 room_1 Calls_1 rest_1 Pre_1 launch0 p0 e0 about1 theMethod args0 below0 :=
  ⟨lists_1, trivial, launch0.admits_env _ _ _, launch0.least_env, fairChoices_fair.cas, fairChoices_fair.clock, w_frames, w_args, w_heap, w_applies, trivial, w_rest, w_case⟩
end start1
theorem witness_1 : WitnessClaimed_1 := ⟨start1.p0, start1.e0, start1.about1, start1.theMethod, start1.args0, start1.below0, start1.atStart⟩
end Jvm.Pilot.@@N@@
