import JvmDerived
import JvmDerived.Pilot.@@N@@Statement
import JvmDerived.Pilot.@@N@@Code
set_option linter.unusedVariables false
set_option linter.unusedSimpArgs false
namespace Jvm.OwnW
open Sem ClassFile Op Lib Jvm.Stand Jvm.Free Jvm.LawKit Jvm.RoadKit
section
variable {p : Program} {l : Launch} {e : Env} {R : Room} {s : State} {m : MethodId} {args : Array Value} {below : List Frame} {meth : Method} {c : Code} {T : State} {locs : List Loc} {cells slots : Nat} {Z : State} {a0 : Array Value} {h : Heap} {P : State → Outcome → Prop} {Y Y' : State} {Q : Option Value → Heap → List Loc → Prop} {rc rs : Nat} {pc : Nat} {Ls : Array Slot}
/-- the run goes on from Y to an end of which P says what is so -/
def Go (p : Program) (e : Env) (below : List Frame) (Y : State) (P : State → Outcome → Prop) : Prop := ∃ s₂ o, Steps p.tables e below Y s₂ ∧ P s₂ o
theorem Go.on (k : ∀ t, Steps p.tables e below Y' t → Steps p.tables e below Y t) (g : Go p e below Y' P) : Go p e below Y P := by
  obtain ⟨s₂, o, h1, h2⟩ := g
  exact ⟨s₂, o, k _ h1, h2⟩
def EndQ (s : State) (below : List Frame) (rc rs : Nat) (Q : Option Value → Heap → List Loc → Prop) : State → Outcome → Prop := fun s₂ o => s₂.status = .running ∧ Ended s₂ below o ∧ ∃ v L, o = .returned v ∧ Q v s₂.heap L ∧ FrameEnd s o s₂ L rc rs
theorem fin (X : Stand p l e R s m args below meth c T locs cells slots) (hlk : meth.locks = false) {v : Option Value} (hv : meth.sig.returnType = none → v = none) (q : Q v T.heap locs) (hc : cells ≤ rc) (hs : slots ≤ rs)
    (st : ∀ fs, (∀ (f : JFrame) (acts : List Action), f.method = m → f.locked = none → f.entered = [] → (doReturn e (T.setTop f) acts v).1 = T.setFrames fs) → Steps p.tables e below Y (T.setFrames fs)) : Go p e below Y (EndQ s below rc rs Q) := by
  obtain ⟨fs, hr, hrun, hended, hW, hsame⟩ := X.leave (v := v) hv hlk
  exact ⟨_, _, st fs hr, hrun, hended, v, locs, rfl, q, ⟨_, rfl⟩, hW, hsame.mono hc hs⟩
theorem retV (X : Stand p l e R s m args below meth c T locs cells slots) (hx : p.tables.exec = Jvm.exec) (hlk : meth.locks = false) (hret : meth.sig.returnType = none) (hd : decode c.code pc = .ok (.return_, 1)) (hc : cells ≤ rc) (hs : slots ≤ rs) (q : Q none T.heap locs) :
    Go p e below (T.setTop (mkF m pc Ls [])) (EndQ s below rc rs Q) := fin X hlk (fun _ => rfl) q hc hs fun _ hr => X.returnOut hx hret hd hr
theorem retI (X : Stand p l e R s m args below meth c T locs cells slots) (hx : p.tables.exec = Jvm.exec) (hlk : meth.locks = false) (hret : meth.sig.returnType = some .int) {z : Int32} {rest : List Value} (hd : decode c.code pc = .ok (.ireturn, 1)) (hc : cells ≤ rc) (hs : slots ≤ rs) (q : Q (some (.int z)) T.heap locs) :
    Go p e below (T.setTop (mkF m pc Ls (.int z :: rest))) (EndQ s below rc rs Q) :=
  fin X hlk (fun h => by rw [hret] at h; cases h) q hc hs fun _ hr => retOut X hx hret rfl (Or.inl ⟨rfl, Or.inl rfl, _, rfl⟩) hd hr
theorem retN (X : Stand p l e R s m args below meth c T locs cells slots) (hx : p.tables.exec = Jvm.exec) (hlk : meth.locks = false) {t : FieldType} (hret : meth.sig.returnType = some t) (ht : t = .boolean ∨ t = .byte ∨ t = .char ∨ t = .short) {z z' : Int32} {rest : List Value} (hd : decode c.code pc = .ok (.ireturn, 1)) (hc : cells ≤ rc) (hs : slots ≤ rs) (hz : nar t z = z') (q : Q (some (.int z')) T.heap locs) :
    Go p e below (T.setTop (mkF m pc Ls (.int z :: rest))) (EndQ s below rc rs Q) :=
  fin X hlk (fun h => by rw [hret] at h; cases h) q hc hs fun _ hr => RoadKit.retN X hx hret ht hd (by rw [hz]; exact hr)
theorem retJ (X : Stand p l e R s m args below meth c T locs cells slots) (hx : p.tables.exec = Jvm.exec) (hlk : meth.locks = false) (hret : meth.sig.returnType = some .long) {z : Int64} {rest : List Value} (hd : decode c.code pc = .ok (.lreturn, 1)) (hc : cells ≤ rc) (hs : slots ≤ rs) (q : Q (some (.long z)) T.heap locs) :
    Go p e below (T.setTop (mkF m pc Ls (.long z :: rest))) (EndQ s below rc rs Q) :=
  fin X hlk (fun h => by rw [hret] at h; cases h) q hc hs fun _ hr => retOut X hx hret rfl (Or.inr (Or.inl ⟨rfl, rfl, _, rfl⟩)) hd hr
theorem narrow_ref {t : FieldType} (ht : t.isReference = true) {w : Value} : narrow t w = w := by cases t <;> first | rfl | (cases ht)
theorem retA (X : Stand p l e R s m args below meth c T locs cells slots) (hx : p.tables.exec = Jvm.exec) (hlk : meth.locks = false) {t : FieldType} (hret : meth.sig.returnType = some t) (ht : t.isReference = true) {w : Value} (hw : w.isRef = true) {rest : List Value} (hd : decode c.code pc = .ok (.areturn, 1)) (hc : cells ≤ rc) (hs : slots ≤ rs) (q : Q (some w) T.heap locs) :
    Go p e below (T.setTop (mkF m pc Ls (w :: rest))) (EndQ s below rc rs Q) :=
  fin X hlk (fun h => by rw [hret] at h; cases h) q hc hs fun _ hr => retOut X hx hret (narrow_ref ht) (Or.inr (Or.inr (Or.inr (Or.inr ⟨rfl, ht, hw⟩)))) hd hr
/-- a body's contract at a heap -/
def Con (l : Launch) (Z : State) (y : MethodName) (bytes : ByteArray) (maxL : Nat) (ret : Option FieldType) (rm : Room) (as' : Array Value) (h0 : Heap) (Q : Option Value → Heap → List Loc → Prop) : Prop := ∀ ws, MetFree l y (head1 (Jvm.Cond.code y bytes maxL ret :: ws) rm) (fun a U => a = as' ∧ Z.Warmed39 U.vm ∧ U.heap = h0) (fun _ _ _ _ _ => True) (fun _ U o U' => ∃ v L, o = .returned v ∧ Q v U'.heap L ∧ FrameEnd U o U' L rm.cells rm.slots)
theorem body {y : MethodName} {bytes : ByteArray} {maxL : Nat} {ret : Option FieldType} {rm : Room} {as' : Array Value} {h0 : Heap} (hpl : plainFor y = true) (hef : ∀ m, entryFrame m as' maxL = mkF m 0 Ls [])
    (bd : ∀ (p : Program) (e : Env) (s : State) (m : MethodId) (below : List Frame) (meth : Method) (c : Code) (s₁ : State), p.tables.exec = Jvm.exec → c.code = bytes → c.maxLocals = maxL → s.vm.findClass y.cls = some m.cls → meth.name = y.name → meth.sig.returnType = ret → meth.locks = false → Z.Warmed39 s.vm → Stand p l e rm s m as' below meth c s₁ [] 0 0 → s₁.heap = h0 →
      Go p e below (s₁.setTop (mkF m 0 Ls [])) (EndQ s below rm.cells rm.slots Q)) : Con l Z y bytes maxL ret rm as' h0 Q := by
  intro ws
  refine MetFree.of_bodySF hpl hisR ?_
  intro p e s m args below meth c s₁ Bd hml0 hP hK
  obtain ⟨rfl, hZ, hh⟩ := hP
  have X0 : Stand p l e rm s m _ below meth c s₁ [] 0 0 := Stand.of_body Bd
  have e0 : s₁.heap = h0 := by rw [← hh, Bd.state]; rfl
  obtain ⟨s₂, o, h1, h2⟩ := bd p e s m below meth c s₁ Bd.exec Bd.bytes hml0 (findClass_of_methodNamed Bd.named) (name_of_methodNamed Bd.named Bd.method).1 Bd.returns (BodyLoose.notSynchronized Bd) hZ X0 e0
  exact ⟨s₂, o, castTop (hef m) h1, h2⟩
section Calls
variable {own : String} {index : Nat} {y z : MethodName} {bytes : ByteArray} {maxL : Nat} {ret : Option FieldType} {rm : Room} {as' : Array Value} {ps : List FieldType} {r : Option FieldType} {argsL rest st : List Value} {W : Nat}
theorem callS (X : Stand p l e R s m args below meth c T locs cells slots) (hx : p.tables.exec = Jvm.exec) (hZ : Z.Warmed39 s.vm) (hown : s.vm.findClass own = some m.cls)
    (w1 : (Jvm.Cond.methodLink own index y).before a0 Z = true) (w2 : (Jvm.Cond.static y).before a0 Z = true) (w3 : (Jvm.Cond.initialized y.cls).before a0 Z = true) (w4 : (Jvm.Cond.code y bytes maxL ret).before a0 Z = true) (hy : y.cls ≠ "java/lang/invoke/MethodHandle" ∧ y.cls ≠ "java/lang/invoke/VarHandle")
    (hM : Con l Z y bytes maxL ret rm argsL.toArray h Q) (eT : T.heap = h) (hsz : Ls.size = c.maxLocals) (hpd : parseMethodDescriptor y.desc = some ⟨ps, r⟩) (hlen : argsL.length = ps.length) (hst : st = argsL.reverse ++ rest) (hW : (rest.map fun v => v.category).sum = W) (hd : decode c.code pc = .ok (.invokestatic index, 3))
    (hf : rm.frames + 1 ≤ R.frames) (hl : W + (maxL + 11) + rm.locals ≤ R.locals) (hc : cells + rm.cells ≤ R.cells) (hs : slots + rm.slots ≤ R.slots) :
    ∃ v T' L, Stand p l e R s m args below meth c T' (locs ++ L) (cells + rm.cells) (slots + rm.slots) ∧ Q v T'.heap L ∧ ∀ target, Steps p.tables e below (T'.setTop (mkF m (pc + 3) Ls (v.toList ++ rest))) target → Steps p.tables e below (T.setTop (mkF m pc Ls st)) target := by
  obtain ⟨v, _, ⟨T', L', k', n'⟩, -, X', ⟨Lc, hQ, l1, l2, l3⟩, k⟩ := Jvm.LawKit.callS X hx (y := y) hown (mvT hZ w1) (mvT hZ w2) (mvT hZ w3) (mvT hZ w4) hy (backOf (W := W) (hM []) hZ w4 w3 hf hl) (g := mkF m pc Ls st) rfl hsz (argsL := argsL) (rest := rest) (lenOf hpd hlen) hst (by show 2 * 0 + _ ≤ _; omega) hd (fun _ _ => ⟨rfl, eT, hc, hs⟩)
  dsimp only [Pt.U, Pt.locs, Pt.cells, Pt.slots] at X' l1 l2 l3 k hQ
  subst l1 l2 l3
  exact ⟨v, T', Lc, X', hQ, k⟩
theorem callC (X : Stand p l e R s m args below meth c T locs cells slots) (hx : p.tables.exec = Jvm.exec) (hZ : Z.Warmed39 s.vm) (hown : s.vm.findClass own = some m.cls) (hyn : y.name = "<init>")
    (w1 : (Jvm.Cond.methodLink own index y).before a0 Z = true) (w2 : (Jvm.Cond.instanceMethod y).before a0 Z = true) (w3 : (Jvm.Cond.initialized y.cls).before a0 Z = true) (w4 : (Jvm.Cond.code y bytes maxL none).before a0 Z = true) (hy : y.cls ≠ "java/lang/invoke/MethodHandle" ∧ y.cls ≠ "java/lang/invoke/VarHandle") {b : Addr}
    (hM : Con l Z y bytes maxL none rm (.ref b :: argsL).toArray h Q) (eT : T.heap = h) (hsz : Ls.size = c.maxLocals) (hpd : parseMethodDescriptor y.desc = some ⟨ps, r⟩) (hlen : argsL.length = ps.length) (hst : st = argsL.reverse ++ .ref b :: rest) (hW : (rest.map fun v => v.category).sum = W) (hd : decode c.code pc = .ok (.invokespecial index, 3))
    (hf : rm.frames + 1 ≤ R.frames) (hl : W + (maxL + 11) + rm.locals ≤ R.locals) (hc : cells + rm.cells ≤ R.cells) (hs : slots + rm.slots ≤ R.slots) :
    ∃ v T' L, Stand p l e R s m args below meth c T' (locs ++ L) (cells + rm.cells) (slots + rm.slots) ∧ Q v T'.heap L ∧ ∀ target, Steps p.tables e below (T'.setTop (mkF m (pc + 3) Ls (v.toList ++ rest))) target → Steps p.tables e below (T.setTop (mkF m pc Ls st)) target := by
  obtain ⟨v, _, ⟨T', L', k', n'⟩, -, X', ⟨Lc, hQ, l1, l2, l3⟩, k⟩ := X.specialBack hx (y := y) hyn hown (mvT hZ w1) (mvT hZ w2) (mvT hZ w4) hy (backOf (W := W) (hM []) hZ w4 w3 hf hl) (g := mkF m pc Ls st) rfl hsz (Steps.refl _) (a := b) (argsL := argsL) (rest := rest) (lenOf hpd hlen) hst (by show 2 * 0 + _ ≤ _; omega) hd (fun _ _ => ⟨rfl, eT, hc, hs⟩)
  dsimp only [Pt.U, Pt.locs, Pt.cells, Pt.slots] at X' l1 l2 l3 k hQ
  subst l1 l2 l3
  exact ⟨v, T', Lc, X', hQ, fun _ q => k.trans q⟩
theorem callV (X : Stand p l e R s m args below meth c T locs cells slots) (hx : p.tables.exec = Jvm.exec) (hZ : Z.Warmed39 s.vm) (hown : s.vm.findClass own = some m.cls) {C : String}
    (w1 : (Jvm.Cond.methodLink own index y).before a0 Z = true) (w2 : (Jvm.Cond.declares y).before a0 Z = true) (nf : NotFace s y) (w5 : (Jvm.Cond.selects C y z).before a0 Z = true) (w6 : (Jvm.Cond.instanceMethod z).before a0 Z = true) (w3 : (Jvm.Cond.initialized z.cls).before a0 Z = true) (w4 : (Jvm.Cond.code z bytes maxL ret).before a0 Z = true) (hy : y.cls ≠ "java/lang/invoke/MethodHandle" ∧ y.cls ≠ "java/lang/invoke/VarHandle") {b : Addr}
    (hM : Con l Z z bytes maxL ret rm (.ref b :: argsL).toArray h Q) (eT : T.heap = h) (E : Exa Z h b C) (hsz : Ls.size = c.maxLocals) (hpd : parseMethodDescriptor y.desc = some ⟨ps, r⟩) (hlen : argsL.length = ps.length) (hst : st = argsL.reverse ++ .ref b :: rest) (hW : (rest.map fun v => v.category).sum = W) (hd : decode c.code pc = .ok (.invokevirtual index, 3))
    (hf : rm.frames + 1 ≤ R.frames) (hl : W + (maxL + 11) + rm.locals ≤ R.locals) (hc : cells + rm.cells ≤ R.cells) (hs : slots + rm.slots ≤ R.slots) :
    ∃ v T' L, Stand p l e R s m args below meth c T' (locs ++ L) (cells + rm.cells) (slots + rm.slots) ∧ Q v T'.heap L ∧ ∀ target, Steps p.tables e below (T'.setTop (mkF m (pc + 3) Ls (v.toList ++ rest))) target → Steps p.tables e below (T.setTop (mkF m pc Ls st)) target := by
  obtain ⟨cq, kq, qa, qb, qc⟩ := isOf hZ eT E
  obtain ⟨v, _, ⟨T', L', k', n'⟩, -, X', ⟨Lc, hQ, l1, l2, l3⟩, k⟩ := X.virtualBack hx (y := y) (z := z) hown (mvT hZ w1) (mvT hZ w2) nf (mvT hZ w5) (mvT hZ w6) hy (backOf (W := W) (hM []) hZ w4 w3 hf hl) qa qc (g := mkF m pc Ls st) rfl hsz (Steps.refl _) (argsL := argsL) (rest := rest) (lenOf hpd hlen) hst (by show 2 * 0 + _ ≤ _; omega) hd (fun _ _ => ⟨rfl, eT, hc, hs⟩)
  dsimp only [Pt.U, Pt.locs, Pt.cells, Pt.slots] at X' l1 l2 l3 k hQ
  subst l1 l2 l3
  exact ⟨v, T', Lc, X', hQ, fun _ q => k.trans q⟩
theorem callI (X : Stand p l e R s m args below meth c T locs cells slots) (hx : p.tables.exec = Jvm.exec) (hZ : Z.Warmed39 s.vm) (hown : s.vm.findClass own = some m.cls) {C : String} {count : Nat}
    (w1 : (Jvm.Cond.methodLink own index y).before a0 Z = true) (w2 : (Jvm.Cond.declares y).before a0 Z = true) (wf : (Jvm.Cond.interfaceMethod y.cls y.cls y.name y.desc).before args s = true) (w5 : (Jvm.Cond.selects C y z).before a0 Z = true) (w6 : (Jvm.Cond.instanceMethod z).before a0 Z = true) (w7 : (Jvm.Cond.publicMethod z).before a0 Z = true) (w8 : (Jvm.Cond.unhidden C y.name y.desc).before a0 Z = true) (w9 : (Jvm.Cond.castable C y.cls).before a0 Z = true) (w3 : (Jvm.Cond.initialized z.cls).before a0 Z = true) (w4 : (Jvm.Cond.code z bytes maxL ret).before a0 Z = true) (hy : y.cls ≠ "java/lang/invoke/MethodHandle" ∧ y.cls ≠ "java/lang/invoke/VarHandle") {b : Addr}
    (hM : Con l Z z bytes maxL ret rm (.ref b :: argsL).toArray h Q) (eT : T.heap = h) (E : Exa Z h b C) (hsz : Ls.size = c.maxLocals) (hpd : parseMethodDescriptor y.desc = some ⟨ps, r⟩) (hlen : argsL.length = ps.length) (hst : st = argsL.reverse ++ .ref b :: rest) (hW : (rest.map fun v => v.category).sum = W) (hd : decode c.code pc = .ok (.invokeinterface index count, 5))
    (hf : rm.frames + 1 ≤ R.frames) (hl : W + (maxL + 11) + rm.locals ≤ R.locals) (hc : cells + rm.cells ≤ R.cells) (hs : slots + rm.slots ≤ R.slots) :
    ∃ v T' L, Stand p l e R s m args below meth c T' (locs ++ L) (cells + rm.cells) (slots + rm.slots) ∧ Q v T'.heap L ∧ ∀ target, Steps p.tables e below (T'.setTop (mkF m (pc + 5) Ls (v.toList ++ rest))) target → Steps p.tables e below (T.setTop (mkF m pc Ls st)) target := by
  obtain ⟨cq, kq, qa, qb, qc⟩ := isOf hZ eT E
  obtain ⟨v, _, ⟨T', L', k', n'⟩, -, X', ⟨Lc, hQ, l1, l2, l3⟩, k⟩ := X.interfaceBack hx (xi := y) (y := z) hown (mvT hZ w1) (mvT hZ w2) wf (mvT hZ w5) (mvT hZ w6) (mvT hZ w7) (mvT hZ w8) (mvT hZ w9) hy (backOf (W := W) (hM []) hZ w4 w3 hf hl) qa qb qc (g := mkF m pc Ls st) rfl hsz (Steps.refl _) (argsL := argsL) (rest := rest) (lenOf hpd hlen) hst (by show 2 * 0 + _ ≤ _; omega) hd (fun _ _ => ⟨rfl, eT, hc, hs⟩)
  dsimp only [Pt.U, Pt.locs, Pt.cells, Pt.slots] at X' l1 l2 l3 k hQ
  subst l1 l2 l3
  exact ⟨v, T', Lc, X', hQ, fun _ q => k.trans q⟩
theorem callP (X : Stand p l e R s m args below meth c T locs cells slots) (hx : p.tables.exec = Jvm.exec) (hZ : Z.Warmed39 s.vm) (hown : s.vm.findClass own = some m.cls) {C : String}
    (w1 : (Jvm.Cond.methodLink own index y).before a0 Z = true) (w5 : (Jvm.Cond.selects y.cls y y).before a0 Z = true) (w6 : (Jvm.Cond.instanceMethod y).before a0 Z = true) (w7 : (Jvm.Cond.privateMethod y).before a0 Z = true) (w3 : (Jvm.Cond.initialized y.cls).before a0 Z = true) (w4 : (Jvm.Cond.code y bytes maxL ret).before a0 Z = true) (hy : y.cls ≠ "java/lang/invoke/MethodHandle" ∧ y.cls ≠ "java/lang/invoke/VarHandle") {b : Addr}
    (hM : Con l Z y bytes maxL ret rm (.ref b :: argsL).toArray h Q) (eT : T.heap = h) (E : Exa Z h b C) (hsz : Ls.size = c.maxLocals) (hpd : parseMethodDescriptor y.desc = some ⟨ps, r⟩) (hlen : argsL.length = ps.length) (hst : st = argsL.reverse ++ .ref b :: rest) (hW : (rest.map fun v => v.category).sum = W) (hd : decode c.code pc = .ok (.invokevirtual index, 3))
    (hf : rm.frames + 1 ≤ R.frames) (hl : W + (maxL + 11) + rm.locals ≤ R.locals) (hc : cells + rm.cells ≤ R.cells) (hs : slots + rm.slots ≤ R.slots) :
    ∃ v T' L, Stand p l e R s m args below meth c T' (locs ++ L) (cells + rm.cells) (slots + rm.slots) ∧ Q v T'.heap L ∧ ∀ target, Steps p.tables e below (T'.setTop (mkF m (pc + 3) Ls (v.toList ++ rest))) target → Steps p.tables e below (T.setTop (mkF m pc Ls st)) target := by
  obtain ⟨cq, q1, q2⟩ := E.cell
  obtain ⟨v, _, ⟨T', L', k', n'⟩, -, X', ⟨Lc, hQ, l1, l2, l3⟩, k⟩ := X.privateBack hx (y := y) hown (mvT hZ w1) (mvT hZ w6) (mvT hZ w5) (Cond.privateMethod_at (mvP hZ w7 (args := #[]))) (mvT hZ w4) hy (backOf (W := W) (hM []) hZ w4 w3 hf hl) (g := mkF m pc Ls st) rfl hsz (Steps.refl _) (a := b) (by rw [eT]; exact q1) q2 (argsL := argsL) (rest := rest) (lenOf hpd hlen) hst (by show 2 * 0 + _ ≤ _; omega) hd (fun _ _ => ⟨rfl, eT, hc, hs⟩)
  dsimp only [Pt.U, Pt.locs, Pt.cells, Pt.slots] at X' l1 l2 l3 k hQ
  subst l1 l2 l3
  exact ⟨v, T', Lc, X', hQ, fun _ q => k.trans q⟩
end Calls
theorem newO (X : Stand p l e R s m args below meth c T locs cells slots) (hx : p.tables.exec = Jvm.exec) (hZ : Z.Warmed39 s.vm) {own C : String} {index n : Nat} (hown : s.vm.findClass own = some m.cls) (w : (Jvm.Cond.classLink own index C).before a0 Z = true) (wi : (Jvm.Cond.instantiable C n).before a0 Z = true) (wz : (Jvm.Cond.initialized C).before a0 Z = true) (eT : T.heap = h) {st : List Value}
    (hd : decode c.code pc = .ok (.new index, 3)) (hc : cells + 1 ≤ R.cells) (hl : slots + n ≤ R.slots) :
    ∃ T' h' b, Stand p l e R s m args below meth c T' locs (cells + 1) (slots + n) ∧ T'.heap = h' ∧ Ext h h' ∧ h.size ≤ b ∧ Exa Z h' b C ∧ (∀ {O nm d : String} {ty : FieldType}, Laid Z a0 C O nm d → parseFieldDescriptor d = some ty → Fld Z h' b O nm d (defaultValue ty)) ∧
      ∀ target, Steps p.tables e below (T'.setTop (mkF m (pc + 3) Ls (.ref b :: st))) target → Steps p.tables e below (T.setTop (mkF m pc Ls st)) target := by
  obtain ⟨T', h', X', e', E', A', D', -, k⟩ := RoadKit.newO X hx hZ hown w wi wz eT (g := mkF m pc Ls st) rfl hd hc hl
  exact ⟨T', h', h.size, X', e', E', Nat.le_refl _, A', D', k⟩
theorem newP (X : Stand p l e R s m args below meth c T locs cells slots) (hx : p.tables.exec = Jvm.exec) (hZ : Z.Warmed39 s.vm) {aty : ArrayType} (w : (Jvm.Cond.arrayClass (newarray.typeOf aty)).before a0 Z = true) (eT : T.heap = h) (hd : decode c.code pc = .ok (.newarray aty, 2)) {n : Int32} {rest : List Value}
    (hn : ¬ n < 0) {cap : Nat} (hcap : n.toNatClampNeg ≤ cap) (hb : cap * 8 ≤ 536870912) (hc : cells + 1 ≤ R.cells) (hl : slots + cap ≤ R.slots) {ad : String} (had : "[" ++ (newarray.typeOf aty).toString = ad) (k0 : Nat) :
    ∃ T' h' cA b, Stand p l e R s m args below meth c T' locs (cells + 1) (slots + cap) ∧ T'.heap = h' ∧ Ext h h' ∧ h.size ≤ b ∧ Arv Z h' b cA (newarray.typeOf aty) n (List.replicate k0 (defaultValue (newarray.typeOf aty))) (defaultValue (newarray.typeOf aty)) ∧ Exa Z h' b ad ∧
      ∀ target, Steps p.tables e below (T'.setTop (mkF m (pc + 2) Ls (.ref b :: rest))) target → Steps p.tables e below (T.setTop (mkF m pc Ls (.int n :: rest))) target := by
  obtain ⟨T', h', cA, X', e', E', A', E2, k⟩ := RoadKit.newPE X hx hZ w eT (g := mkF m pc Ls (.int n :: rest)) rfl hd rfl hn hcap hb hc hl had
  exact ⟨T', h', cA, h.size, X', e', E', Nat.le_refl _, (Arv.new A' hn).pad (pad_rep [] _ k0), E2, k⟩
theorem newR (X : Stand p l e R s m args below meth c T locs cells slots) (hx : p.tables.exec = Jvm.exec) (hZ : Z.Warmed39 s.vm) {own C : String} {index : Nat} (hown : s.vm.findClass own = some m.cls) (w1 : (Jvm.Cond.classLink own index C).before a0 Z = true) (w2 : (Jvm.Cond.arrayOver (.object C)).before a0 Z = true) (eT : T.heap = h) (hd : decode c.code pc = .ok (.anewarray index, 3)) {n : Int32} {rest : List Value}
    (hn : ¬ n < 0) {cap : Nat} (hcap : n.toNatClampNeg ≤ cap) (hb : cap * 8 ≤ 536870912) (hc : cells + 1 ≤ R.cells) (hl : slots + cap ≤ R.slots) {ad : String} (had : "[" ++ (FieldType.object C).toString = ad) (k0 : Nat) :
    ∃ T' h' cA b, Stand p l e R s m args below meth c T' locs (cells + 1) (slots + cap) ∧ T'.heap = h' ∧ Ext h h' ∧ h.size ≤ b ∧ Arv Z h' b cA (.object C) n (List.replicate k0 .null) .null ∧ Exa Z h' b ad ∧ Ovr Z cA C ∧
      ∀ target, Steps p.tables e below (T'.setTop (mkF m (pc + 3) Ls (.ref b :: rest))) target → Steps p.tables e below (T.setTop (mkF m pc Ls (.int n :: rest))) target := by
  obtain ⟨T', h', cA, X', e', E', A', E2, O', k⟩ := RoadKit.newRE X hx hZ hown w1 w2 eT (g := mkF m pc Ls (.int n :: rest)) rfl hd rfl hn hcap hb hc hl had
  exact ⟨T', h', cA, h.size, X', e', E', Nat.le_refl _, (Arv.new A' hn).pad (pad_rep [] _ k0), E2, O', k⟩
section Arrays
variable {a : Addr} {k : ClassId} {ty : FieldType} {z j : Int32} {vs : List Value} {dv v : Value} {rest : List Value}
theorem ldA (X : Stand p l e R s m args below meth c T locs cells slots) (hx : p.tables.exec = Jvm.exec) (hZ : Z.Warmed39 s.vm) (eT : T.heap = h) (F : Arv Z h a k ty z vs dv) (hty : ty.isReference = true) (hj : ¬ j < 0 ∧ j < z) (hv : vs.getD j.toNatClampNeg dv = v) (hd : decode c.code pc = .ok (.aaload, 1)) :
    ∀ target, Steps p.tables e below (T.setTop (mkF m (pc + 1) Ls (v :: rest))) target → Steps p.tables e below (T.setTop (mkF m pc Ls (.int j :: .ref a :: rest))) target := fun target q => by
  obtain ⟨cl, A, q1, S, q3, H, G⟩ := F
  exact X.aaload hx (by rw [eT]; exact A.1) (State.isArrayOf_alike hZ.alike A.2.1) hty A.2.2 (inb_of S hj) (H.at (inb_of S hj) hv) (g := mkF m pc Ls (.int j :: .ref a :: rest)) rfl rfl hd _ q
theorem ldI (X : Stand p l e R s m args below meth c T locs cells slots) (hx : p.tables.exec = Jvm.exec) (hZ : Z.Warmed39 s.vm) (eT : T.heap = h) (F : Arv Z h a k .int z vs dv) (hj : ¬ j < 0 ∧ j < z) (hv : vs.getD j.toNatClampNeg dv = v) (hd : decode c.code pc = .ok (.iaload, 1)) :
    ∀ target, Steps p.tables e below (T.setTop (mkF m (pc + 1) Ls (v :: rest))) target → Steps p.tables e below (T.setTop (mkF m pc Ls (.int j :: .ref a :: rest))) target := fun target q => by
  obtain ⟨cl, A, q1, S, q3, H, G⟩ := F
  exact X.iaload hx (by rw [eT]; exact A.1) (State.isArrayOf_alike hZ.alike A.2.1) A.2.2 (inb_of S hj) (H.at (inb_of S hj) hv) (g := mkF m pc Ls (.int j :: .ref a :: rest)) rfl rfl hd _ q
theorem ldJ (X : Stand p l e R s m args below meth c T locs cells slots) (hx : p.tables.exec = Jvm.exec) (hZ : Z.Warmed39 s.vm) (eT : T.heap = h) (F : Arv Z h a k .long z vs dv) (hj : ¬ j < 0 ∧ j < z) (hv : vs.getD j.toNatClampNeg dv = v) (hd : decode c.code pc = .ok (.laload, 1)) :
    ∀ target, Steps p.tables e below (T.setTop (mkF m (pc + 1) Ls (v :: rest))) target → Steps p.tables e below (T.setTop (mkF m pc Ls (.int j :: .ref a :: rest))) target := fun target q => by
  obtain ⟨cl, A, q1, S, q3, H, G⟩ := F
  exact X.laload hx (by rw [eT]; exact A.1) (State.isArrayOf_alike hZ.alike A.2.1) A.2.2 (inb_of S hj) (H.at (inb_of S hj) hv) (g := mkF m pc Ls (.int j :: .ref a :: rest)) rfl rfl hd _ q
theorem ldC (X : Stand p l e R s m args below meth c T locs cells slots) (hx : p.tables.exec = Jvm.exec) (hZ : Z.Warmed39 s.vm) (eT : T.heap = h) (F : Arv Z h a k .char z vs dv) (hj : ¬ j < 0 ∧ j < z) (hv : vs.getD j.toNatClampNeg dv = v) (hd : decode c.code pc = .ok (.caload, 1)) :
    ∀ target, Steps p.tables e below (T.setTop (mkF m (pc + 1) Ls (v :: rest))) target → Steps p.tables e below (T.setTop (mkF m pc Ls (.int j :: .ref a :: rest))) target := fun target q => by
  obtain ⟨cl, A, q1, S, q3, H, G⟩ := F
  exact X.caload hx (by rw [eT]; exact A.1) (State.isArrayOf_alike hZ.alike A.2.1) A.2.2 (inb_of S hj) (H.at (inb_of S hj) hv) (g := mkF m pc Ls (.int j :: .ref a :: rest)) rfl rfl hd _ q
theorem ldB (X : Stand p l e R s m args below meth c T locs cells slots) (hx : p.tables.exec = Jvm.exec) (hZ : Z.Warmed39 s.vm) (eT : T.heap = h) (F : Arv Z h a k .byte z vs dv) (hj : ¬ j < 0 ∧ j < z) (hv : vs.getD j.toNatClampNeg dv = v) (hd : decode c.code pc = .ok (.baload, 1)) :
    ∀ target, Steps p.tables e below (T.setTop (mkF m (pc + 1) Ls (v :: rest))) target → Steps p.tables e below (T.setTop (mkF m pc Ls (.int j :: .ref a :: rest))) target := fun target q => by
  obtain ⟨cl, A, q1, S, q3, H, G⟩ := F
  exact X.baloadBytes hx (by rw [eT]; exact A.1) (State.isArrayOf_alike hZ.alike A.2.1) A.2.2 (inb_of S hj) (H.at (inb_of S hj) hv) (g := mkF m pc Ls (.int j :: .ref a :: rest)) rfl rfl hd _ q
theorem aLen (X : Stand p l e R s m args below meth c T locs cells slots) (hx : p.tables.exec = Jvm.exec) (hZ : Z.Warmed39 s.vm) (eT : T.heap = h) (F : Arv Z h a k ty z vs dv) (hd : decode c.code pc = .ok (.arraylength, 1)) :
    ∀ target, Steps p.tables e below (T.setTop (mkF m (pc + 1) Ls (.int z :: rest))) target → Steps p.tables e below (T.setTop (mkF m pc Ls (.ref a :: rest))) target := fun target q => by
  obtain ⟨cl, A, q1, S, q3, H, G⟩ := F
  refine X.arraylength hx (by rw [eT]; exact A.1) (State.isArrayOf_alike hZ.alike A.2.1) (g := mkF m pc Ls (.ref a :: rest)) rfl rfl hd _ ?_
  rw [len_of S q3]
  exact q
theorem stA (X : Stand p l e R s m args below meth c T locs cells slots) (hx : p.tables.exec = Jvm.exec) (hZ : Z.Warmed39 s.vm) (eT : T.heap = h) (F : Arv Z h a k ty z vs dv) (hty : ty.isReference = true) (hvr : v.isRef = true) (hs : ∀ cl, Arr Z h a cl ty → cl.cls = k → Sto Z h a v) (hj : ¬ j < 0 ∧ j < z) (i : Nat) (hi : j.toNatClampNeg = i) (hl : i < vs.length) (hd : decode c.code pc = .ok (.aastore, 1)) :
    ∃ T' h', Stand p l e R s m args below meth c T' (locs ++ [⟨a, j.toNatClampNeg⟩]) cells slots ∧ T'.heap = h' ∧ Wr h h' a j.toNatClampNeg v ∧ Arv Z h' a k ty z (vs.set i v) dv ∧ ∀ target, Steps p.tables e below (T'.setTop (mkF m (pc + 1) Ls rest)) target → Steps p.tables e below (T.setTop (mkF m pc Ls (v :: .int j :: .ref a :: rest))) target := by
  obtain ⟨cl, A, q1, S, q3, H, G⟩ := F
  obtain ⟨T', h', X', e', W', k'⟩ := stR X hx hZ eT A (inb_of S hj) hty (hs cl A q1) (g := mkF m pc Ls (v :: .int j :: .ref a :: rest)) rfl rfl hd
  refine ⟨T', h', X', e', W', Arv.set A q1 S q3 H G ?_ W' i hi hl, k'⟩
  cases ty <;> first | (cases hty; done) | (cases v <;> first | (cases hvr; done) | rfl)
theorem stI (X : Stand p l e R s m args below meth c T locs cells slots) (hx : p.tables.exec = Jvm.exec) (hZ : Z.Warmed39 s.vm) (eT : T.heap = h) (F : Arv Z h a k .int z vs dv) {x : Int32} (hj : ¬ j < 0 ∧ j < z) (i : Nat) (hi : j.toNatClampNeg = i) (hl : i < vs.length) (hd : decode c.code pc = .ok (.iastore, 1)) :
    ∃ T' h', Stand p l e R s m args below meth c T' (locs ++ [⟨a, j.toNatClampNeg⟩]) cells slots ∧ T'.heap = h' ∧ Wr h h' a j.toNatClampNeg (.int x) ∧ Arv Z h' a k .int z (vs.set i (.int x)) dv ∧ ∀ target, Steps p.tables e below (T'.setTop (mkF m (pc + 1) Ls rest)) target → Steps p.tables e below (T.setTop (mkF m pc Ls (.int x :: .int j :: .ref a :: rest))) target := by
  obtain ⟨cl, A, q1, S, q3, H, G⟩ := F
  obtain ⟨T', h', X', e', W', k'⟩ := RoadKit.stI X hx hZ eT A (inb_of S hj) (g := mkF m pc Ls (.int x :: .int j :: .ref a :: rest)) rfl rfl hd
  exact ⟨T', h', X', e', W', Arv.set A q1 S q3 H G rfl W' i hi hl, k'⟩
theorem stC (X : Stand p l e R s m args below meth c T locs cells slots) (hx : p.tables.exec = Jvm.exec) (hZ : Z.Warmed39 s.vm) (eT : T.heap = h) (F : Arv Z h a k .char z vs dv) {x : Int32} (hj : ¬ j < 0 ∧ j < z) (i : Nat) (hi : j.toNatClampNeg = i) (hl : i < vs.length) (hd : decode c.code pc = .ok (.castore, 1)) :
    ∃ T' h', Stand p l e R s m args below meth c T' (locs ++ [⟨a, j.toNatClampNeg⟩]) cells slots ∧ T'.heap = h' ∧ Wr h h' a j.toNatClampNeg (.int (nar .char x)) ∧ Arv Z h' a k .char z (vs.set i (.int (nar .char x))) dv ∧ ∀ target, Steps p.tables e below (T'.setTop (mkF m (pc + 1) Ls rest)) target → Steps p.tables e below (T.setTop (mkF m pc Ls (.int x :: .int j :: .ref a :: rest))) target := by
  obtain ⟨cl, A, q1, S, q3, H, G⟩ := F
  obtain ⟨T', h', X', e', W', k'⟩ := RoadKit.stC X hx hZ eT A (inb_of S hj) (g := mkF m pc Ls (.int x :: .int j :: .ref a :: rest)) rfl rfl hd
  exact ⟨T', h', X', e', W', Arv.set A q1 S q3 H G (fits_nar_char _) W' i hi hl, k'⟩
theorem stB (X : Stand p l e R s m args below meth c T locs cells slots) (hx : p.tables.exec = Jvm.exec) (hZ : Z.Warmed39 s.vm) (eT : T.heap = h) (F : Arv Z h a k .byte z vs dv) {x : Int32} (hj : ¬ j < 0 ∧ j < z) (i : Nat) (hi : j.toNatClampNeg = i) (hl : i < vs.length) (hd : decode c.code pc = .ok (.bastore, 1)) :
    ∃ T' h', Stand p l e R s m args below meth c T' (locs ++ [⟨a, j.toNatClampNeg⟩]) cells slots ∧ T'.heap = h' ∧ Wr h h' a j.toNatClampNeg (.int (nar .byte x)) ∧ Arv Z h' a k .byte z (vs.set i (.int (nar .byte x))) dv ∧ ∀ target, Steps p.tables e below (T'.setTop (mkF m (pc + 1) Ls rest)) target → Steps p.tables e below (T.setTop (mkF m pc Ls (.int x :: .int j :: .ref a :: rest))) target := by
  obtain ⟨cl, A, q1, S, q3, H, G⟩ := F
  obtain ⟨T', h', X', e', W', k'⟩ := RoadKit.stB X hx hZ eT A (inb_of S hj) (g := mkF m pc Ls (.int x :: .int j :: .ref a :: rest)) rfl rfl hd
  exact ⟨T', h', X', e', W', Arv.set A q1 S q3 H G (fits_nar_byte _) W' i hi hl, k'⟩
end Arrays
theorem eq_int_v {a : Term} {n : Int32} (q : (Jvm.Cond.eq a (.int n)).value args s none s [] = some true) : a.eval args s none [] s = some (.int n) := by
  cases ha : a.eval args s none [] s with
  | none => simp [Jvm.Cond.value, Term.eval, ha] at q
  | some x => cases x <;> simp [Jvm.Cond.value, Term.eval, ha] at q ⊢; exact q
theorem arv_start {t : Term} {ty : FieldType} {z : Int32} {a : Addr} (dv : Value) (hf : Fit s) (ev : t.eval args s none [] s = some (.ref a)) (ha : (Jvm.Cond.arrayOf t ty).value args s none s [] = some true) (hl : (Term.length t).eval args s none [] s = some (.int z)) : ∃ (k : ClassId) (vs : List Value), Arv s s.heap a k ty z vs dv := by
  obtain ⟨cl, A⟩ := Arr.start ev ha
  have h2 : s.arrayAt? a = some cl := A.fin (Vm.Alike.refl _)
  have h3 : cl.slots.size < 2 ^ 31 ∧ cl.slots.size.toInt32 = z := by simpa [Term.eval, ev, h2] using hl
  have hn := len_toInt h3.1
  rw [h3.2] at hn
  have hz : ¬ z < 0 := by rw [Int32.lt_iff_toInt_lt, hn]; simp
  have hs : cl.slots.size = z.toNatClampNeg := by
    have := nat_of hz
    omega
  have hH : ∀ i, i < cl.slots.size → cl.slots[i]? = some (cl.slots.toList.getD i dv) := fun i hi => by simp [hi, List.getD_eq_getElem?_getD]
  refine ⟨cl.cls, cl.slots.toList, cl, A, rfl, hs, hz, hH, fun i hi => ?_⟩
  obtain ⟨v, hv, hfv⟩ := elem_fit hf A (j := i.toInt32) (idx_in hi h3.1)
  have e : i.toInt32.toNatClampNeg = i := by
    have h5 := len_toInt (n := i) (by omega)
    have h6 : ¬ i.toInt32 < 0 := by rw [Int32.lt_iff_toInt_lt, h5]; simp
    have := nat_of h6
    omega
  rw [e, hH i hi] at hv
  cases hv
  exact hfv
theorem Ext.keep {h0 h1 : Heap} (E : Ext h0 h1) (ws : List Addr) : Keep h0 h1 ws := (Keep.refl _ _).ext E
theorem ne_of_born {x b : Addr} {h1 : Heap} (q : x < h1.size) (r : h1.size ≤ b) : x ≠ b := Nat.ne_of_lt (Nat.lt_of_lt_of_le q r)
theorem i2c_id {x : Int32} (h0 : 0 ≤ x.toInt) (h1 : x.toInt < 65536) : x.toUInt32.toUInt16.toUInt32.toInt32 = x := by
  apply Int32.toInt_inj.mp
  have := c_i2c x
  omega
theorem m255v (q : Int32) : (q &&& 255).toInt = q.toInt % 256 := c_mask q 255 8 (by decide) (by decide)
theorem i2c_m (q : Int32) : (q &&& 255).toUInt32.toUInt16.toUInt32.toInt32 = q &&& 255 := i2c_id (by rw [m255v]; omega) (by rw [m255v]; omega)
theorem narc_m (q : Int32) : nar .char (q &&& 255) = q &&& 255 := i2c_m q
theorem m255 (q : Int32) : ¬ (255 : Int32) < q &&& 255 := by
  rw [Int32.lt_iff_toInt_lt, m255v, show (255 : Int32).toInt = 255 from by decide]
  omega
end
end Jvm.OwnW
namespace Jvm.Pilot.@@N@@
open Jvm Jvm.ClassFile Sem Op Lib Jvm.Free Jvm.Stand Jvm.LawKit Jvm.RoadKit Jvm.OwnW Bundle Jvm.Pilot.@@N@@.Jvm.D
theorem d_jdk_52_m21_0 : decode jdk_52_method_21_code 0 = .ok (.iconst 0, 1) := by decide +kernel
theorem d_jdk_52_m21_1 : decode jdk_52_method_21_code 1 = .ok (.istore 5, 2) := by decide +kernel
theorem d_jdk_52_m21_3 : decode jdk_52_method_21_code 3 = .ok (.iload 5, 2) := by decide +kernel
theorem d_jdk_52_m21_5 : decode jdk_52_method_21_code 5 = .ok (.iload 4, 2) := by decide +kernel
theorem d_jdk_52_m21_7 : decode jdk_52_method_21_code 7 = .ok (.if_icmp .ge 37, 3) := by decide +kernel
theorem d_jdk_52_m21_10 : decode jdk_52_method_21_code 10 = .ok (.aload_n 0, 1) := by decide +kernel
theorem d_jdk_52_m21_11 : decode jdk_52_method_21_code 11 = .ok (.iload_n 1, 1) := by decide +kernel
theorem d_jdk_52_m21_12 : decode jdk_52_method_21_code 12 = .ok (.caload, 1) := by decide +kernel
theorem d_jdk_52_m21_13 : decode jdk_52_method_21_code 13 = .ok (.istore 6, 2) := by decide +kernel
theorem d_jdk_52_m21_15 : decode jdk_52_method_21_code 15 = .ok (.iload 6, 2) := by decide +kernel
theorem d_jdk_52_m21_17 : decode jdk_52_method_21_code 17 = .ok (.sipush 255, 3) := by decide +kernel
theorem d_jdk_52_m21_20 : decode jdk_52_method_21_code 20 = .ok (.if_icmp .le 6, 3) := by decide +kernel
theorem d_jdk_52_m21_26 : decode jdk_52_method_21_code 26 = .ok (.aload_n 2, 1) := by decide +kernel
theorem d_jdk_52_m21_27 : decode jdk_52_method_21_code 27 = .ok (.iload_n 3, 1) := by decide +kernel
theorem d_jdk_52_m21_28 : decode jdk_52_method_21_code 28 = .ok (.iload 6, 2) := by decide +kernel
theorem d_jdk_52_m21_30 : decode jdk_52_method_21_code 30 = .ok (.i2b, 1) := by decide +kernel
theorem d_jdk_52_m21_31 : decode jdk_52_method_21_code 31 = .ok (.bastore, 1) := by decide +kernel
theorem d_jdk_52_m21_32 : decode jdk_52_method_21_code 32 = .ok (.iinc 1 1, 3) := by decide +kernel
theorem d_jdk_52_m21_35 : decode jdk_52_method_21_code 35 = .ok (.iinc 3 1, 3) := by decide +kernel
theorem d_jdk_52_m21_38 : decode jdk_52_method_21_code 38 = .ok (.iinc 5 1, 3) := by decide +kernel
theorem d_jdk_52_m21_41 : decode jdk_52_method_21_code 41 = .ok (.goto (-38), 3) := by decide +kernel
theorem d_jdk_52_m21_44 : decode jdk_52_method_21_code 44 = .ok (.iload 4, 2) := by decide +kernel
theorem d_jdk_52_m21_46 : decode jdk_52_method_21_code 46 = .ok (.ireturn, 1) := by decide +kernel
theorem pn_0 : plainName "java/lang/StringUTF16" = true := by first | (simp [plainName, overriddenIn]; done) | decide +kernel
def Q_comp2 (Z : State) (src : Addr) (dst : Addr) (ks : ClassId) (kd : ClassId) (c0 : Int32) (c1 : Int32) (h0 : Heap) (n0 : Nat) (v : Option Value) (h : Heap) (L : List Loc) : Prop := v = some (.int (2 : Int32)) ∧ Fr n0 L ∧ Keep h0 h [dst] ∧ Arv Z h dst kd .byte (2 : Int32) [(.int (nar .byte (c0.toInt8.toInt32))), (.int (nar .byte (c1.toInt8.toInt32)))] (.int (0 : Int32))
set_option maxRecDepth 65536 in
set_option maxHeartbeats 40000000 in
theorem comp2 (l : Launch) (Z : State) (a0 : Array Value) (hw : ∀ d ∈ tables_1, d.before a0 Z = true) (src : Addr) (dst : Addr) (ks : ClassId) (kd : ClassId) (c0 : Int32) (c1 : Int32) (h0 : Heap) (n0 : Nat) (Z0 : n0 ≤ h0.size) (P0 : Arv Z h0 src ks .char (2 : Int32) [(.int c0), (.int c1)] (.int (0 : Int32))) (P1 : Arv Z h0 dst kd .byte (2 : Int32) [(.int (0 : Int32)), (.int (0 : Int32))] (.int (0 : Int32))) (P2 : Exa Z h0 src "[C") (P3 : Exa Z h0 dst "[B") (P4 : n0 ≤ dst) (P5 : ¬ ((255 : Int32) < c0)) (P6 : ¬ ((255 : Int32) < c1)) :
    Con l Z (⟨"java/lang/StringUTF16", "compress", "([CI[BII)I"⟩ : MethodName) jdk_52_method_21_code 7 (some .int) ({ frames := 0, cells := 0, slots := 0, locals := 0 } : Room) #[(.ref src), (.int (0 : Int32)), (.ref dst), (.int (0 : Int32)), (.int (2 : Int32))] h0 (Q_comp2 Z src dst ks kd c0 c1 h0 n0) := by
  refine OwnW.body (Ls := #[.val (.ref src), .val (.int (0 : Int32)), .val (.ref dst), .val (.int (0 : Int32)), .val (.int (2 : Int32)), .unset, .unset]) (plainFor_of_name pn_0) (fun m => by first | (simp [entryFrame, mkF, argsToLocals, Value.category]; done) | rfl) ?_
  intro p e s m below meth c s₁ hx hby hml hown hnm hret hlk hZ X0 e0
  let QQ := Q_comp2 Z src dst ks kd c0 c1 h0 n0
  have N0 := Fr.nil n0
  show Go p e below (s₁.setTop (mkF m 0 #[.val (.ref src), .val (.int (0 : Int32)), .val (.ref dst), .val (.int (0 : Int32)), .val (.int (2 : Int32)), .unset, .unset] [])) (EndQ s below ({ frames := 0, cells := 0, slots := 0, locals := 0 } : Room).cells ({ frames := 0, cells := 0, slots := 0, locals := 0 } : Room).slots QQ)
  refine Go.on (Y' := s₁.setTop (mkF m 1 #[.val (.ref src), .val (.int (0 : Int32)), .val (.ref dst), .val (.int (0 : Int32)), .val (.int (2 : Int32)), .unset, .unset] [(.int (0 : Int32))])) (fun _ k => XS.iconst X0.here hx rfl (hb hby d_jdk_52_m21_0) k) ?_
  refine Go.on (Y' := s₁.setTop (mkF m 3 #[.val (.ref src), .val (.int (0 : Int32)), .val (.ref dst), .val (.int (0 : Int32)), .val (.int (2 : Int32)), .val (.int (0 : Int32)), .unset] [])) (fun _ k => XS.istore X0.here hx rfl (hb hby d_jdk_52_m21_1) rfl (l' := #[.val (.ref src), .val (.int (0 : Int32)), .val (.ref dst), .val (.int (0 : Int32)), .val (.int (2 : Int32)), .val (.int (0 : Int32)), .unset]) rfl k) ?_
  refine Go.on (Y' := s₁.setTop (mkF m 5 #[.val (.ref src), .val (.int (0 : Int32)), .val (.ref dst), .val (.int (0 : Int32)), .val (.int (2 : Int32)), .val (.int (0 : Int32)), .unset] [(.int (0 : Int32))])) (fun _ k => XS.iload X0.here hx rfl (hb hby d_jdk_52_m21_3) rfl  k) ?_
  refine Go.on (Y' := s₁.setTop (mkF m 7 #[.val (.ref src), .val (.int (0 : Int32)), .val (.ref dst), .val (.int (0 : Int32)), .val (.int (2 : Int32)), .val (.int (0 : Int32)), .unset] [(.int (2 : Int32)), (.int (0 : Int32))])) (fun _ k => XS.iload X0.here hx rfl (hb hby d_jdk_52_m21_5) rfl  k) ?_
  refine Go.on (Y' := s₁.setTop (mkF m 10 #[.val (.ref src), .val (.int (0 : Int32)), .val (.ref dst), .val (.int (0 : Int32)), .val (.int (2 : Int32)), .val (.int (0 : Int32)), .unset] [])) (fun _ k => XS.icmpNo X0.here hx rfl (hb hby d_jdk_52_m21_7) rfl (tlt (by decide : (0 : Int32) < (2 : Int32))).2.1 k) ?_
  refine Go.on (Y' := s₁.setTop (mkF m 11 #[.val (.ref src), .val (.int (0 : Int32)), .val (.ref dst), .val (.int (0 : Int32)), .val (.int (2 : Int32)), .val (.int (0 : Int32)), .unset] [(.ref src)])) (fun _ k => XS.aloadN X0.here hx rfl (hb hby d_jdk_52_m21_10) rfl rfl k) ?_
  refine Go.on (Y' := s₁.setTop (mkF m 12 #[.val (.ref src), .val (.int (0 : Int32)), .val (.ref dst), .val (.int (0 : Int32)), .val (.int (2 : Int32)), .val (.int (0 : Int32)), .unset] [(.int (0 : Int32)), (.ref src)])) (fun _ k => XS.iloadN X0.here hx rfl (hb hby d_jdk_52_m21_11) rfl  k) ?_
  refine Go.on (Y' := s₁.setTop (mkF m 13 #[.val (.ref src), .val (.int (0 : Int32)), .val (.ref dst), .val (.int (0 : Int32)), .val (.int (2 : Int32)), .val (.int (0 : Int32)), .unset] [(.int c0)])) (ldC X0 hx hZ e0 P0 ⟨by decide, by decide⟩ rfl (hb hby d_jdk_52_m21_12)) ?_
  refine Go.on (Y' := s₁.setTop (mkF m 15 #[.val (.ref src), .val (.int (0 : Int32)), .val (.ref dst), .val (.int (0 : Int32)), .val (.int (2 : Int32)), .val (.int (0 : Int32)), .val (.int c0)] [])) (fun _ k => XS.istore X0.here hx rfl (hb hby d_jdk_52_m21_13) rfl (l' := #[.val (.ref src), .val (.int (0 : Int32)), .val (.ref dst), .val (.int (0 : Int32)), .val (.int (2 : Int32)), .val (.int (0 : Int32)), .val (.int c0)]) rfl k) ?_
  refine Go.on (Y' := s₁.setTop (mkF m 17 #[.val (.ref src), .val (.int (0 : Int32)), .val (.ref dst), .val (.int (0 : Int32)), .val (.int (2 : Int32)), .val (.int (0 : Int32)), .val (.int c0)] [(.int c0)])) (fun _ k => XS.iload X0.here hx rfl (hb hby d_jdk_52_m21_15) rfl  k) ?_
  refine Go.on (Y' := s₁.setTop (mkF m 20 #[.val (.ref src), .val (.int (0 : Int32)), .val (.ref dst), .val (.int (0 : Int32)), .val (.int (2 : Int32)), .val (.int (0 : Int32)), .val (.int c0)] [(.int (255 : Int32)), (.int c0)])) (fun _ k => XS.sipush X0.here hx rfl (hb hby d_jdk_52_m21_17) k) ?_
  refine Go.on (Y' := s₁.setTop (mkF m 26 #[.val (.ref src), .val (.int (0 : Int32)), .val (.ref dst), .val (.int (0 : Int32)), .val (.int (2 : Int32)), .val (.int (0 : Int32)), .val (.int c0)] [])) (fun _ k => XS.icmpYes X0.here hx rfl (pc0 := 20) (pc' := 26) rfl (hb hby d_jdk_52_m21_20) rfl (flt (P5 : ¬ ((255 : Int32) < c0))).2.2.2 (by decide) (by decide) k) ?_
  refine Go.on (Y' := s₁.setTop (mkF m 27 #[.val (.ref src), .val (.int (0 : Int32)), .val (.ref dst), .val (.int (0 : Int32)), .val (.int (2 : Int32)), .val (.int (0 : Int32)), .val (.int c0)] [(.ref dst)])) (fun _ k => XS.aloadN X0.here hx rfl (hb hby d_jdk_52_m21_26) rfl rfl k) ?_
  refine Go.on (Y' := s₁.setTop (mkF m 28 #[.val (.ref src), .val (.int (0 : Int32)), .val (.ref dst), .val (.int (0 : Int32)), .val (.int (2 : Int32)), .val (.int (0 : Int32)), .val (.int c0)] [(.int (0 : Int32)), (.ref dst)])) (fun _ k => XS.iloadN X0.here hx rfl (hb hby d_jdk_52_m21_27) rfl  k) ?_
  refine Go.on (Y' := s₁.setTop (mkF m 30 #[.val (.ref src), .val (.int (0 : Int32)), .val (.ref dst), .val (.int (0 : Int32)), .val (.int (2 : Int32)), .val (.int (0 : Int32)), .val (.int c0)] [(.int c0), (.int (0 : Int32)), (.ref dst)])) (fun _ k => XS.iload X0.here hx rfl (hb hby d_jdk_52_m21_28) rfl  k) ?_
  refine Go.on (Y' := s₁.setTop (mkF m 31 #[.val (.ref src), .val (.int (0 : Int32)), .val (.ref dst), .val (.int (0 : Int32)), .val (.int (2 : Int32)), .val (.int (0 : Int32)), .val (.int c0)] [(.int (c0.toInt8.toInt32)), (.int (0 : Int32)), (.ref dst)])) (fun _ k => XS.i2b X0.here hx rfl (hb hby d_jdk_52_m21_30) rfl k) ?_
  obtain ⟨T1, h1, X1, e1, W1, V1, st1⟩ := OwnW.stB X0 hx hZ e0 P1  (x := (c0.toInt8.toInt32)) (j := (0 : Int32)) ⟨by decide, by decide⟩ 0 rfl (Nat.le_of_ble_eq_true rfl) (Ls := #[.val (.ref src), .val (.int (0 : Int32)), .val (.ref dst), .val (.int (0 : Int32)), .val (.int (2 : Int32)), .val (.int (0 : Int32)), .val (.int c0)]) (rest := []) (hb hby d_jdk_52_m21_31)
  have V1' : Arv Z h1 dst kd .byte (2 : Int32) [(.int (nar .byte (c0.toInt8.toInt32))), (.int (0 : Int32))] (.int (0 : Int32)) := V1
  have N1 := Fr.snoc X1 N0 P4
  refine Go.on (Y' := T1.setTop (mkF m 32 #[.val (.ref src), .val (.int (0 : Int32)), .val (.ref dst), .val (.int (0 : Int32)), .val (.int (2 : Int32)), .val (.int (0 : Int32)), .val (.int c0)] [])) (st1) ?_
  refine Go.on (Y' := T1.setTop (mkF m 35 #[.val (.ref src), .val (.int (1 : Int32)), .val (.ref dst), .val (.int (0 : Int32)), .val (.int (2 : Int32)), .val (.int (0 : Int32)), .val (.int c0)] [])) (fun _ k => XS.iinc X1.here hx rfl (hb hby d_jdk_52_m21_32) rfl (l' := #[.val (.ref src), .val (.int (1 : Int32)), .val (.ref dst), .val (.int (0 : Int32)), .val (.int (2 : Int32)), .val (.int (0 : Int32)), .val (.int c0)]) rfl k) ?_
  refine Go.on (Y' := T1.setTop (mkF m 38 #[.val (.ref src), .val (.int (1 : Int32)), .val (.ref dst), .val (.int (1 : Int32)), .val (.int (2 : Int32)), .val (.int (0 : Int32)), .val (.int c0)] [])) (fun _ k => XS.iinc X1.here hx rfl (hb hby d_jdk_52_m21_35) rfl (l' := #[.val (.ref src), .val (.int (1 : Int32)), .val (.ref dst), .val (.int (1 : Int32)), .val (.int (2 : Int32)), .val (.int (0 : Int32)), .val (.int c0)]) rfl k) ?_
  refine Go.on (Y' := T1.setTop (mkF m 41 #[.val (.ref src), .val (.int (1 : Int32)), .val (.ref dst), .val (.int (1 : Int32)), .val (.int (2 : Int32)), .val (.int (1 : Int32)), .val (.int c0)] [])) (fun _ k => XS.iinc X1.here hx rfl (hb hby d_jdk_52_m21_38) rfl (l' := #[.val (.ref src), .val (.int (1 : Int32)), .val (.ref dst), .val (.int (1 : Int32)), .val (.int (2 : Int32)), .val (.int (1 : Int32)), .val (.int c0)]) rfl k) ?_
  refine Go.on (Y' := T1.setTop (mkF m 3 #[.val (.ref src), .val (.int (1 : Int32)), .val (.ref dst), .val (.int (1 : Int32)), .val (.int (2 : Int32)), .val (.int (1 : Int32)), .val (.int c0)] [])) (fun _ k => XS.goto X1.here hx rfl (pc0 := 41) (pc' := 3) rfl (hb hby d_jdk_52_m21_41) (by decide) (by decide) k) ?_
  refine Go.on (Y' := T1.setTop (mkF m 5 #[.val (.ref src), .val (.int (1 : Int32)), .val (.ref dst), .val (.int (1 : Int32)), .val (.int (2 : Int32)), .val (.int (1 : Int32)), .val (.int c0)] [(.int (1 : Int32))])) (fun _ k => XS.iload X1.here hx rfl (hb hby d_jdk_52_m21_3) rfl  k) ?_
  refine Go.on (Y' := T1.setTop (mkF m 7 #[.val (.ref src), .val (.int (1 : Int32)), .val (.ref dst), .val (.int (1 : Int32)), .val (.int (2 : Int32)), .val (.int (1 : Int32)), .val (.int c0)] [(.int (2 : Int32)), (.int (1 : Int32))])) (fun _ k => XS.iload X1.here hx rfl (hb hby d_jdk_52_m21_5) rfl  k) ?_
  refine Go.on (Y' := T1.setTop (mkF m 10 #[.val (.ref src), .val (.int (1 : Int32)), .val (.ref dst), .val (.int (1 : Int32)), .val (.int (2 : Int32)), .val (.int (1 : Int32)), .val (.int c0)] [])) (fun _ k => XS.icmpNo X1.here hx rfl (hb hby d_jdk_52_m21_7) rfl (tlt (by decide : (1 : Int32) < (2 : Int32))).2.1 k) ?_
  refine Go.on (Y' := T1.setTop (mkF m 11 #[.val (.ref src), .val (.int (1 : Int32)), .val (.ref dst), .val (.int (1 : Int32)), .val (.int (2 : Int32)), .val (.int (1 : Int32)), .val (.int c0)] [(.ref src)])) (fun _ k => XS.aloadN X1.here hx rfl (hb hby d_jdk_52_m21_10) rfl rfl k) ?_
  refine Go.on (Y' := T1.setTop (mkF m 12 #[.val (.ref src), .val (.int (1 : Int32)), .val (.ref dst), .val (.int (1 : Int32)), .val (.int (2 : Int32)), .val (.int (1 : Int32)), .val (.int c0)] [(.int (1 : Int32)), (.ref src)])) (fun _ k => XS.iloadN X1.here hx rfl (hb hby d_jdk_52_m21_11) rfl  k) ?_
  have c2 : Exa Z h1 src "[C" := Exa.wr W1 P2
  have c3 : Exa Z h1 dst "[B" := Exa.wr W1 P3
  have ne4 : src ≠ dst := ne_exa c2 c3 (by decide)
  have c5 : Arv Z h1 src ks .char (2 : Int32) [(.int c0), (.int c1)] (.int (0 : Int32)) := Arv.other P0 W1 ne4
  refine Go.on (Y' := T1.setTop (mkF m 13 #[.val (.ref src), .val (.int (1 : Int32)), .val (.ref dst), .val (.int (1 : Int32)), .val (.int (2 : Int32)), .val (.int (1 : Int32)), .val (.int c0)] [(.int c1)])) (ldC X1 hx hZ e1 c5 ⟨by decide, by decide⟩ rfl (hb hby d_jdk_52_m21_12)) ?_
  refine Go.on (Y' := T1.setTop (mkF m 15 #[.val (.ref src), .val (.int (1 : Int32)), .val (.ref dst), .val (.int (1 : Int32)), .val (.int (2 : Int32)), .val (.int (1 : Int32)), .val (.int c1)] [])) (fun _ k => XS.istore X1.here hx rfl (hb hby d_jdk_52_m21_13) rfl (l' := #[.val (.ref src), .val (.int (1 : Int32)), .val (.ref dst), .val (.int (1 : Int32)), .val (.int (2 : Int32)), .val (.int (1 : Int32)), .val (.int c1)]) rfl k) ?_
  refine Go.on (Y' := T1.setTop (mkF m 17 #[.val (.ref src), .val (.int (1 : Int32)), .val (.ref dst), .val (.int (1 : Int32)), .val (.int (2 : Int32)), .val (.int (1 : Int32)), .val (.int c1)] [(.int c1)])) (fun _ k => XS.iload X1.here hx rfl (hb hby d_jdk_52_m21_15) rfl  k) ?_
  refine Go.on (Y' := T1.setTop (mkF m 20 #[.val (.ref src), .val (.int (1 : Int32)), .val (.ref dst), .val (.int (1 : Int32)), .val (.int (2 : Int32)), .val (.int (1 : Int32)), .val (.int c1)] [(.int (255 : Int32)), (.int c1)])) (fun _ k => XS.sipush X1.here hx rfl (hb hby d_jdk_52_m21_17) k) ?_
  refine Go.on (Y' := T1.setTop (mkF m 26 #[.val (.ref src), .val (.int (1 : Int32)), .val (.ref dst), .val (.int (1 : Int32)), .val (.int (2 : Int32)), .val (.int (1 : Int32)), .val (.int c1)] [])) (fun _ k => XS.icmpYes X1.here hx rfl (pc0 := 20) (pc' := 26) rfl (hb hby d_jdk_52_m21_20) rfl (flt (P6 : ¬ ((255 : Int32) < c1))).2.2.2 (by decide) (by decide) k) ?_
  refine Go.on (Y' := T1.setTop (mkF m 27 #[.val (.ref src), .val (.int (1 : Int32)), .val (.ref dst), .val (.int (1 : Int32)), .val (.int (2 : Int32)), .val (.int (1 : Int32)), .val (.int c1)] [(.ref dst)])) (fun _ k => XS.aloadN X1.here hx rfl (hb hby d_jdk_52_m21_26) rfl rfl k) ?_
  refine Go.on (Y' := T1.setTop (mkF m 28 #[.val (.ref src), .val (.int (1 : Int32)), .val (.ref dst), .val (.int (1 : Int32)), .val (.int (2 : Int32)), .val (.int (1 : Int32)), .val (.int c1)] [(.int (1 : Int32)), (.ref dst)])) (fun _ k => XS.iloadN X1.here hx rfl (hb hby d_jdk_52_m21_27) rfl  k) ?_
  refine Go.on (Y' := T1.setTop (mkF m 30 #[.val (.ref src), .val (.int (1 : Int32)), .val (.ref dst), .val (.int (1 : Int32)), .val (.int (2 : Int32)), .val (.int (1 : Int32)), .val (.int c1)] [(.int c1), (.int (1 : Int32)), (.ref dst)])) (fun _ k => XS.iload X1.here hx rfl (hb hby d_jdk_52_m21_28) rfl  k) ?_
  refine Go.on (Y' := T1.setTop (mkF m 31 #[.val (.ref src), .val (.int (1 : Int32)), .val (.ref dst), .val (.int (1 : Int32)), .val (.int (2 : Int32)), .val (.int (1 : Int32)), .val (.int c1)] [(.int (c1.toInt8.toInt32)), (.int (1 : Int32)), (.ref dst)])) (fun _ k => XS.i2b X1.here hx rfl (hb hby d_jdk_52_m21_30) rfl k) ?_
  obtain ⟨T6, h6, X6, e6, W6, V6, st6⟩ := OwnW.stB X1 hx hZ e1 V1'  (x := (c1.toInt8.toInt32)) (j := (1 : Int32)) ⟨by decide, by decide⟩ 1 rfl (Nat.le_of_ble_eq_true rfl) (Ls := #[.val (.ref src), .val (.int (1 : Int32)), .val (.ref dst), .val (.int (1 : Int32)), .val (.int (2 : Int32)), .val (.int (1 : Int32)), .val (.int c1)]) (rest := []) (hb hby d_jdk_52_m21_31)
  have V6' : Arv Z h6 dst kd .byte (2 : Int32) [(.int (nar .byte (c0.toInt8.toInt32))), (.int (nar .byte (c1.toInt8.toInt32)))] (.int (0 : Int32)) := V6
  have N6 := Fr.snoc X6 N1 P4
  refine Go.on (Y' := T6.setTop (mkF m 32 #[.val (.ref src), .val (.int (1 : Int32)), .val (.ref dst), .val (.int (1 : Int32)), .val (.int (2 : Int32)), .val (.int (1 : Int32)), .val (.int c1)] [])) (st6) ?_
  refine Go.on (Y' := T6.setTop (mkF m 35 #[.val (.ref src), .val (.int (2 : Int32)), .val (.ref dst), .val (.int (1 : Int32)), .val (.int (2 : Int32)), .val (.int (1 : Int32)), .val (.int c1)] [])) (fun _ k => XS.iinc X6.here hx rfl (hb hby d_jdk_52_m21_32) rfl (l' := #[.val (.ref src), .val (.int (2 : Int32)), .val (.ref dst), .val (.int (1 : Int32)), .val (.int (2 : Int32)), .val (.int (1 : Int32)), .val (.int c1)]) rfl k) ?_
  refine Go.on (Y' := T6.setTop (mkF m 38 #[.val (.ref src), .val (.int (2 : Int32)), .val (.ref dst), .val (.int (2 : Int32)), .val (.int (2 : Int32)), .val (.int (1 : Int32)), .val (.int c1)] [])) (fun _ k => XS.iinc X6.here hx rfl (hb hby d_jdk_52_m21_35) rfl (l' := #[.val (.ref src), .val (.int (2 : Int32)), .val (.ref dst), .val (.int (2 : Int32)), .val (.int (2 : Int32)), .val (.int (1 : Int32)), .val (.int c1)]) rfl k) ?_
  refine Go.on (Y' := T6.setTop (mkF m 41 #[.val (.ref src), .val (.int (2 : Int32)), .val (.ref dst), .val (.int (2 : Int32)), .val (.int (2 : Int32)), .val (.int (2 : Int32)), .val (.int c1)] [])) (fun _ k => XS.iinc X6.here hx rfl (hb hby d_jdk_52_m21_38) rfl (l' := #[.val (.ref src), .val (.int (2 : Int32)), .val (.ref dst), .val (.int (2 : Int32)), .val (.int (2 : Int32)), .val (.int (2 : Int32)), .val (.int c1)]) rfl k) ?_
  refine Go.on (Y' := T6.setTop (mkF m 3 #[.val (.ref src), .val (.int (2 : Int32)), .val (.ref dst), .val (.int (2 : Int32)), .val (.int (2 : Int32)), .val (.int (2 : Int32)), .val (.int c1)] [])) (fun _ k => XS.goto X6.here hx rfl (pc0 := 41) (pc' := 3) rfl (hb hby d_jdk_52_m21_41) (by decide) (by decide) k) ?_
  refine Go.on (Y' := T6.setTop (mkF m 5 #[.val (.ref src), .val (.int (2 : Int32)), .val (.ref dst), .val (.int (2 : Int32)), .val (.int (2 : Int32)), .val (.int (2 : Int32)), .val (.int c1)] [(.int (2 : Int32))])) (fun _ k => XS.iload X6.here hx rfl (hb hby d_jdk_52_m21_3) rfl  k) ?_
  refine Go.on (Y' := T6.setTop (mkF m 7 #[.val (.ref src), .val (.int (2 : Int32)), .val (.ref dst), .val (.int (2 : Int32)), .val (.int (2 : Int32)), .val (.int (2 : Int32)), .val (.int c1)] [(.int (2 : Int32)), (.int (2 : Int32))])) (fun _ k => XS.iload X6.here hx rfl (hb hby d_jdk_52_m21_5) rfl  k) ?_
  refine Go.on (Y' := T6.setTop (mkF m 44 #[.val (.ref src), .val (.int (2 : Int32)), .val (.ref dst), .val (.int (2 : Int32)), .val (.int (2 : Int32)), .val (.int (2 : Int32)), .val (.int c1)] [])) (fun _ k => XS.icmpYes X6.here hx rfl (pc0 := 7) (pc' := 44) rfl (hb hby d_jdk_52_m21_7) rfl (flt (by decide : ¬ ((2 : Int32) < (2 : Int32)))).2.1 (by decide) (by decide) k) ?_
  refine Go.on (Y' := T6.setTop (mkF m 46 #[.val (.ref src), .val (.int (2 : Int32)), .val (.ref dst), .val (.int (2 : Int32)), .val (.int (2 : Int32)), .val (.int (2 : Int32)), .val (.int c1)] [(.int (2 : Int32))])) (fun _ k => XS.iload X6.here hx rfl (hb hby d_jdk_52_m21_44) rfl  k) ?_
  have K7 : Keep h0 h1 [dst] := (Keep.refl h0 [dst]).wr W1 (Or.inl (List.mem_of_getElem? (i := 0) rfl))
  have K8 : Keep h0 h6 [dst] := K7.wr W6 (Or.inl (List.mem_of_getElem? (i := 0) rfl))
  exact OwnW.retI X6 hx hlk hret (hb hby d_jdk_52_m21_46) (by decide) (by decide) (show QQ _ T6.heap _ from (by rw [e6]; exact ⟨rfl, N6, K8, V6'⟩))
theorem d_jdk_52_m16_0 : decode jdk_52_method_16_code 0 = .ok (.iload_n 2, 1) := by decide +kernel
theorem d_jdk_52_m16_1 : decode jdk_52_method_16_code 1 = .ok (.newarray .byte, 2) := by decide +kernel
theorem w19 {Z : State} {a0 : Array Value} (hw : ∀ d ∈ tables_1, d.before a0 Z = true) : (Jvm.Cond.arrayClass Jvm.ClassFile.FieldType.byte).before a0 Z = true := hw _ (List.mem_of_getElem? (i := 19) rfl)
theorem d_jdk_52_m16_3 : decode jdk_52_method_16_code 3 = .ok (.astore_n 3, 1) := by decide +kernel
theorem d_jdk_52_m16_4 : decode jdk_52_method_16_code 4 = .ok (.aload_n 0, 1) := by decide +kernel
theorem d_jdk_52_m16_5 : decode jdk_52_method_16_code 5 = .ok (.iload_n 1, 1) := by decide +kernel
theorem d_jdk_52_m16_6 : decode jdk_52_method_16_code 6 = .ok (.aload_n 3, 1) := by decide +kernel
theorem d_jdk_52_m16_7 : decode jdk_52_method_16_code 7 = .ok (.iconst 0, 1) := by decide +kernel
theorem d_jdk_52_m16_8 : decode jdk_52_method_16_code 8 = .ok (.iload_n 2, 1) := by decide +kernel
theorem d_jdk_52_m16_9 : decode jdk_52_method_16_code 9 = .ok (.invokestatic 115, 3) := by decide +kernel
theorem w22 {Z : State} {a0 : Array Value} (hw : ∀ d ∈ tables_1, d.before a0 Z = true) : (Jvm.Cond.code ({ cls := "java/lang/StringUTF16", name := "compress", desc := "([CI[BII)I" } : Jvm.MethodName) jdk_52_method_21_code (7 : Nat) (Option.some Jvm.ClassFile.FieldType.int)).before a0 Z = true := hw _ (List.mem_of_getElem? (i := 22) rfl)
theorem w20 {Z : State} {a0 : Array Value} (hw : ∀ d ∈ tables_1, d.before a0 Z = true) : (Jvm.Cond.methodLink "java/lang/StringUTF16" (115 : Nat) ({ cls := "java/lang/StringUTF16", name := "compress", desc := "([CI[BII)I" } : Jvm.MethodName)).before a0 Z = true := hw _ (List.mem_of_getElem? (i := 20) rfl)
theorem w21 {Z : State} {a0 : Array Value} (hw : ∀ d ∈ tables_1, d.before a0 Z = true) : (Jvm.Cond.static ({ cls := "java/lang/StringUTF16", name := "compress", desc := "([CI[BII)I" } : Jvm.MethodName)).before a0 Z = true := hw _ (List.mem_of_getElem? (i := 21) rfl)
theorem w17 {Z : State} {a0 : Array Value} (hw : ∀ d ∈ tables_1, d.before a0 Z = true) : (Jvm.Cond.initialized "java/lang/StringUTF16").before a0 Z = true := hw _ (List.mem_of_getElem? (i := 17) rfl)
theorem pd_0 : parseMethodDescriptor "([CI[BII)I" = some ⟨[(.array .char), .int, (.array .byte), .int, .int], some .int⟩ := by decide +kernel
theorem d_jdk_52_m16_12 : decode jdk_52_method_16_code 12 = .ok (.istore 4, 2) := by decide +kernel
theorem d_jdk_52_m16_14 : decode jdk_52_method_16_code 14 = .ok (.iload 4, 2) := by decide +kernel
theorem d_jdk_52_m16_16 : decode jdk_52_method_16_code 16 = .ok (.iload_n 2, 1) := by decide +kernel
theorem d_jdk_52_m16_17 : decode jdk_52_method_16_code 17 = .ok (.if_icmp .eq 40, 3) := by decide +kernel
theorem d_jdk_52_m16_57 : decode jdk_52_method_16_code 57 = .ok (.aload_n 3, 1) := by decide +kernel
theorem d_jdk_52_m16_58 : decode jdk_52_method_16_code 58 = .ok (.areturn, 1) := by decide +kernel
def Q_comp1 (Z : State) (src : Addr) (ks : ClassId) (c0 : Int32) (c1 : Int32) (h0 : Heap) (n0 : Nat) (v : Option Value) (h : Heap) (L : List Loc) : Prop := ∃ bb : Addr, ∃ kb : ClassId, v = some (.ref bb) ∧ Fr n0 L ∧ Keep h0 h [] ∧ h0.size ≤ bb ∧ Exa Z h bb "[B" ∧ Arv Z h bb kb .byte (2 : Int32) [(.int (nar .byte (c0.toInt8.toInt32))), (.int (nar .byte (c1.toInt8.toInt32)))] (.int (0 : Int32))
set_option maxRecDepth 65536 in
set_option maxHeartbeats 40000000 in
theorem comp1 (l : Launch) (Z : State) (a0 : Array Value) (hw : ∀ d ∈ tables_1, d.before a0 Z = true) (src : Addr) (ks : ClassId) (c0 : Int32) (c1 : Int32) (h0 : Heap) (n0 : Nat) (Z0 : n0 ≤ h0.size) (P0 : Arv Z h0 src ks .char (2 : Int32) [(.int c0), (.int c1)] (.int (0 : Int32))) (P1 : Exa Z h0 src "[C") (P2 : ¬ ((255 : Int32) < c0)) (P3 : ¬ ((255 : Int32) < c1)) :
    Con l Z (⟨"java/lang/StringUTF16", "compress", "([CII)[B"⟩ : MethodName) jdk_52_method_16_code 6 (some (.array .byte)) ({ frames := 1, cells := 1, slots := 2, locals := 18 } : Room) #[(.ref src), (.int (0 : Int32)), (.int (2 : Int32))] h0 (Q_comp1 Z src ks c0 c1 h0 n0) := by
  refine OwnW.body (Ls := #[.val (.ref src), .val (.int (0 : Int32)), .val (.int (2 : Int32)), .unset, .unset, .unset]) (plainFor_of_name pn_0) (fun m => by first | (simp [entryFrame, mkF, argsToLocals, Value.category]; done) | rfl) ?_
  intro p e s m below meth c s₁ hx hby hml hown hnm hret hlk hZ X0 e0
  let QQ := Q_comp1 Z src ks c0 c1 h0 n0
  have N0 := Fr.nil n0
  show Go p e below (s₁.setTop (mkF m 0 #[.val (.ref src), .val (.int (0 : Int32)), .val (.int (2 : Int32)), .unset, .unset, .unset] [])) (EndQ s below ({ frames := 1, cells := 1, slots := 2, locals := 18 } : Room).cells ({ frames := 1, cells := 1, slots := 2, locals := 18 } : Room).slots QQ)
  refine Go.on (Y' := s₁.setTop (mkF m 1 #[.val (.ref src), .val (.int (0 : Int32)), .val (.int (2 : Int32)), .unset, .unset, .unset] [(.int (2 : Int32))])) (fun _ k => XS.iloadN X0.here hx rfl (hb hby d_jdk_52_m16_0) rfl  k) ?_
  obtain ⟨T1, h1, k1, b1, X1, e1, E1, s1, V1, A1, st1⟩ := OwnW.newP (aty := .byte) X0 hx hZ (w19 hw) e0 (Ls := #[.val (.ref src), .val (.int (0 : Int32)), .val (.int (2 : Int32)), .unset, .unset, .unset]) (rest := []) (hb hby d_jdk_52_m16_1) (n := (2 : Int32)) (by decide) (cap := 2) (by decide) (by decide) (by decide) (by decide) (ad := "[B") (by decide +kernel) 2
  have V1' : Arv Z h1 b1 k1 .byte (2 : Int32) [(.int (0 : Int32)), (.int (0 : Int32))] (.int (0 : Int32)) := V1
  refine Go.on (Y' := T1.setTop (mkF m 3 #[.val (.ref src), .val (.int (0 : Int32)), .val (.int (2 : Int32)), .unset, .unset, .unset] [(.ref b1)])) (st1) ?_
  refine Go.on (Y' := T1.setTop (mkF m 4 #[.val (.ref src), .val (.int (0 : Int32)), .val (.int (2 : Int32)), .val (.ref b1), .unset, .unset] [])) (fun _ k => XS.astoreN X1.here hx rfl (hb hby d_jdk_52_m16_3) rfl rfl (l' := #[.val (.ref src), .val (.int (0 : Int32)), .val (.int (2 : Int32)), .val (.ref b1), .unset, .unset]) rfl k) ?_
  refine Go.on (Y' := T1.setTop (mkF m 5 #[.val (.ref src), .val (.int (0 : Int32)), .val (.int (2 : Int32)), .val (.ref b1), .unset, .unset] [(.ref src)])) (fun _ k => XS.aloadN X1.here hx rfl (hb hby d_jdk_52_m16_4) rfl rfl k) ?_
  refine Go.on (Y' := T1.setTop (mkF m 6 #[.val (.ref src), .val (.int (0 : Int32)), .val (.int (2 : Int32)), .val (.ref b1), .unset, .unset] [(.int (0 : Int32)), (.ref src)])) (fun _ k => XS.iloadN X1.here hx rfl (hb hby d_jdk_52_m16_5) rfl  k) ?_
  refine Go.on (Y' := T1.setTop (mkF m 7 #[.val (.ref src), .val (.int (0 : Int32)), .val (.int (2 : Int32)), .val (.ref b1), .unset, .unset] [(.ref b1), (.int (0 : Int32)), (.ref src)])) (fun _ k => XS.aloadN X1.here hx rfl (hb hby d_jdk_52_m16_6) rfl rfl k) ?_
  refine Go.on (Y' := T1.setTop (mkF m 8 #[.val (.ref src), .val (.int (0 : Int32)), .val (.int (2 : Int32)), .val (.ref b1), .unset, .unset] [(.int (0 : Int32)), (.ref b1), (.int (0 : Int32)), (.ref src)])) (fun _ k => XS.iconst X1.here hx rfl (hb hby d_jdk_52_m16_7) k) ?_
  refine Go.on (Y' := T1.setTop (mkF m 9 #[.val (.ref src), .val (.int (0 : Int32)), .val (.int (2 : Int32)), .val (.ref b1), .unset, .unset] [(.int (2 : Int32)), (.int (0 : Int32)), (.ref b1), (.int (0 : Int32)), (.ref src)])) (fun _ k => XS.iloadN X1.here hx rfl (hb hby d_jdk_52_m16_8) rfl  k) ?_
  have c3 : Arv Z h1 src ks .char (2 : Int32) [(.int c0), (.int c1)] (.int (0 : Int32)) := Arv.ext P0 E1
  have c4 : Exa Z h1 src "[C" := Exa.ext E1 P1
  have g5 : n0 ≤ b1 := Nat.le_trans Z0 s1
  have Z6 : n0 ≤ h1.size := Nat.le_trans Z0 E1.1
  obtain ⟨v2, T2, L2, X2, hQ2, st2⟩ := OwnW.callS (y := (⟨"java/lang/StringUTF16", "compress", "([CI[BII)I"⟩ : MethodName)) X1 hx hZ hown (w20 hw) (w21 hw) (w17 hw) (w22 hw) (by decide) (comp2 l Z a0 hw src b1 ks k1 c0 c1 h1 n0 Z6 c3 V1' c4 A1 g5 P2 P3) e1 (Ls := #[.val (.ref src), .val (.int (0 : Int32)), .val (.int (2 : Int32)), .val (.ref b1), .unset, .unset]) (by rw [hml]; rfl) pd_0 (argsL := [(.ref src), (.int (0 : Int32)), (.ref b1), (.int (0 : Int32)), (.int (2 : Int32))]) rfl (rest := []) rfl (W := 0) rfl (hb hby d_jdk_52_m16_9) (by decide) (by decide) (by decide) (by decide)
  obtain ⟨rfl, Nq2, Kq2, q2_0⟩ := hQ2
  have N2 := Fr.app N0 Nq2
  refine Go.on (Y' := T2.setTop (mkF m 12 #[.val (.ref src), .val (.int (0 : Int32)), .val (.int (2 : Int32)), .val (.ref b1), .unset, .unset] [(.int (2 : Int32))])) (st2) ?_
  refine Go.on (Y' := T2.setTop (mkF m 14 #[.val (.ref src), .val (.int (0 : Int32)), .val (.int (2 : Int32)), .val (.ref b1), .val (.int (2 : Int32)), .unset] [])) (fun _ k => XS.istore X2.here hx rfl (hb hby d_jdk_52_m16_12) rfl (l' := #[.val (.ref src), .val (.int (0 : Int32)), .val (.int (2 : Int32)), .val (.ref b1), .val (.int (2 : Int32)), .unset]) rfl k) ?_
  refine Go.on (Y' := T2.setTop (mkF m 16 #[.val (.ref src), .val (.int (0 : Int32)), .val (.int (2 : Int32)), .val (.ref b1), .val (.int (2 : Int32)), .unset] [(.int (2 : Int32))])) (fun _ k => XS.iload X2.here hx rfl (hb hby d_jdk_52_m16_14) rfl  k) ?_
  refine Go.on (Y' := T2.setTop (mkF m 17 #[.val (.ref src), .val (.int (0 : Int32)), .val (.int (2 : Int32)), .val (.ref b1), .val (.int (2 : Int32)), .unset] [(.int (2 : Int32)), (.int (2 : Int32))])) (fun _ k => XS.iloadN X2.here hx rfl (hb hby d_jdk_52_m16_16) rfl  k) ?_
  refine Go.on (Y' := T2.setTop (mkF m 57 #[.val (.ref src), .val (.int (0 : Int32)), .val (.int (2 : Int32)), .val (.ref b1), .val (.int (2 : Int32)), .unset] [])) (fun _ k => XS.icmpYes X2.here hx rfl (pc0 := 17) (pc' := 57) rfl (hb hby d_jdk_52_m16_17) rfl (teq (by decide : (2 : Int32) = (2 : Int32))).1 (by decide) (by decide) k) ?_
  refine Go.on (Y' := T2.setTop (mkF m 58 #[.val (.ref src), .val (.int (0 : Int32)), .val (.int (2 : Int32)), .val (.ref b1), .val (.int (2 : Int32)), .unset] [(.ref b1)])) (fun _ k => XS.aloadN X2.here hx rfl (hb hby d_jdk_52_m16_57) rfl rfl k) ?_
  have K7 : Keep h0 h1 [] := (Keep.refl h0 []).ext E1
  have K8 : Keep h0 T2.heap [] := K7.trans Kq2 (allS (Or.inr (Nat.le_trans (Nat.le_refl _) s1)) all0)
  have c9 : Exa Z T2.heap b1 "[B" := Exa.keep A1 Kq2
  exact OwnW.retA X2 hx hlk hret rfl rfl (hb hby d_jdk_52_m16_58) (by decide) (by decide) (show QQ _ T2.heap _ from ⟨b1, k1, rfl, N2, K8, (Nat.le_trans (Nat.le_refl _) s1), c9, q2_0⟩)
theorem d_jdk_52_m15_0 : decode jdk_52_method_15_code 0 = .ok (.iload_n 1, 1) := by decide +kernel
theorem d_jdk_52_m15_1 : decode jdk_52_method_15_code 1 = .ok (.aload_n 0, 1) := by decide +kernel
theorem d_jdk_52_m15_2 : decode jdk_52_method_15_code 2 = .ok (.arraylength, 1) := by decide +kernel
theorem d_jdk_52_m15_3 : decode jdk_52_method_15_code 3 = .ok (.isub, 1) := by decide +kernel
theorem d_jdk_52_m15_4 : decode jdk_52_method_15_code 4 = .ok (.bipush 31, 2) := by decide +kernel
theorem d_jdk_52_m15_6 : decode jdk_52_method_15_code 6 = .ok (.iushr, 1) := by decide +kernel
theorem d_jdk_52_m15_7 : decode jdk_52_method_15_code 7 = .ok (.i2b, 1) := by decide +kernel
theorem d_jdk_52_m15_8 : decode jdk_52_method_15_code 8 = .ok (.ireturn, 1) := by decide +kernel
def Q_coderLen (Z : State) (bb : Addr) (kb : ClassId) (vs : List Value) (h0 : Heap) (n0 : Nat) (v : Option Value) (h : Heap) (L : List Loc) : Prop := v = some (.int (0 : Int32)) ∧ Fr n0 L ∧ h = h0
set_option maxRecDepth 65536 in
set_option maxHeartbeats 40000000 in
theorem coderLen (l : Launch) (Z : State) (a0 : Array Value) (hw : ∀ d ∈ tables_1, d.before a0 Z = true) (bb : Addr) (kb : ClassId) (vs : List Value) (h0 : Heap) (n0 : Nat) (Z0 : n0 ≤ h0.size) (P0 : Arv Z h0 bb kb .byte (2 : Int32) vs (.int (0 : Int32))) :
    Con l Z (⟨"java/lang/StringUTF16", "coderFromArrayLen", "([BI)B"⟩ : MethodName) jdk_52_method_15_code 2 (some .byte) ({ frames := 0, cells := 0, slots := 0, locals := 0 } : Room) #[(.ref bb), (.int (2 : Int32))] h0 (Q_coderLen Z bb kb vs h0 n0) := by
  refine OwnW.body (Ls := #[.val (.ref bb), .val (.int (2 : Int32))]) (plainFor_of_name pn_0) (fun m => by first | (simp [entryFrame, mkF, argsToLocals, Value.category]; done) | rfl) ?_
  intro p e s m below meth c s₁ hx hby hml hown hnm hret hlk hZ X0 e0
  let QQ := Q_coderLen Z bb kb vs h0 n0
  have N0 := Fr.nil n0
  show Go p e below (s₁.setTop (mkF m 0 #[.val (.ref bb), .val (.int (2 : Int32))] [])) (EndQ s below ({ frames := 0, cells := 0, slots := 0, locals := 0 } : Room).cells ({ frames := 0, cells := 0, slots := 0, locals := 0 } : Room).slots QQ)
  refine Go.on (Y' := s₁.setTop (mkF m 1 #[.val (.ref bb), .val (.int (2 : Int32))] [(.int (2 : Int32))])) (fun _ k => XS.iloadN X0.here hx rfl (hb hby d_jdk_52_m15_0) rfl  k) ?_
  refine Go.on (Y' := s₁.setTop (mkF m 2 #[.val (.ref bb), .val (.int (2 : Int32))] [(.ref bb), (.int (2 : Int32))])) (fun _ k => XS.aloadN X0.here hx rfl (hb hby d_jdk_52_m15_1) rfl rfl k) ?_
  refine Go.on (Y' := s₁.setTop (mkF m 3 #[.val (.ref bb), .val (.int (2 : Int32))] [(.int (2 : Int32)), (.int (2 : Int32))])) (aLen X0 hx hZ e0 P0 (hb hby d_jdk_52_m15_2)) ?_
  refine Go.on (Y' := s₁.setTop (mkF m 4 #[.val (.ref bb), .val (.int (2 : Int32))] [(.int (0 : Int32))])) (fun _ k => XS.isub X0.here hx rfl (hb hby d_jdk_52_m15_3) rfl k) ?_
  refine Go.on (Y' := s₁.setTop (mkF m 6 #[.val (.ref bb), .val (.int (2 : Int32))] [(.int (31 : Int32)), (.int (0 : Int32))])) (fun _ k => XS.bipush X0.here hx rfl (hb hby d_jdk_52_m15_4) k) ?_
  refine Go.on (Y' := s₁.setTop (mkF m 7 #[.val (.ref bb), .val (.int (2 : Int32))] [(.int (0 : Int32))])) (fun _ k => XS.iushr X0.here hx rfl (hb hby d_jdk_52_m15_6) rfl k) ?_
  refine Go.on (Y' := s₁.setTop (mkF m 8 #[.val (.ref bb), .val (.int (2 : Int32))] [(.int (0 : Int32))])) (fun _ k => XS.i2b X0.here hx rfl (hb hby d_jdk_52_m15_7) rfl k) ?_
  exact OwnW.retN X0 hx hlk hret (t := .byte) (by simp) (hb hby d_jdk_52_m15_8) (by decide) (by decide) rfl (show QQ _ s₁.heap _ from ⟨rfl, N0, e0⟩)
theorem d_jdk_42_m149_0 : decode jdk_42_method_149_code 0 = .ok (.aload_n 0, 1) := by decide +kernel
theorem d_jdk_42_m149_1 : decode jdk_42_method_149_code 1 = .ok (.invokespecial 1, 3) := by decide +kernel
theorem w11 {Z : State} {a0 : Array Value} (hw : ∀ d ∈ tables_1, d.before a0 Z = true) : (Jvm.Cond.methodLink "java/lang/String" (1 : Nat) ({ cls := "java/lang/Object", name := "<init>", desc := "()V" } : Jvm.MethodName)).before a0 Z = true := hw _ (List.mem_of_getElem? (i := 11) rfl)
theorem w12 {Z : State} {a0 : Array Value} (hw : ∀ d ∈ tables_1, d.before a0 Z = true) : (Jvm.Cond.instanceMethod ({ cls := "java/lang/Object", name := "<init>", desc := "()V" } : Jvm.MethodName)).before a0 Z = true := hw _ (List.mem_of_getElem? (i := 12) rfl)
theorem w13 {Z : State} {a0 : Array Value} (hw : ∀ d ∈ tables_1, d.before a0 Z = true) : (Jvm.Cond.code ({ cls := "java/lang/Object", name := "<init>", desc := "()V" } : Jvm.MethodName) object_method_1_code (1 : Nat) (Option.none : Option Jvm.ClassFile.FieldType)).before a0 Z = true := hw _ (List.mem_of_getElem? (i := 13) rfl)
theorem d_jdk_42_m149_4 : decode jdk_42_method_149_code 4 = .ok (.iload_n 3, 1) := by decide +kernel
theorem d_jdk_42_m149_5 : decode jdk_42_method_149_code 5 = .ok (.ifCond .ne 22, 3) := by decide +kernel
theorem d_jdk_42_m149_27 : decode jdk_42_method_149_code 27 = .ok (.getstatic 38, 3) := by decide +kernel
theorem w14 {Z : State} {a0 : Array Value} (hw : ∀ d ∈ tables_1, d.before a0 Z = true) : (Jvm.Cond.fieldLink "java/lang/String" (38 : Nat) "java/lang/String" "COMPACT_STRINGS" "Z").before a0 Z = true := hw _ (List.mem_of_getElem? (i := 14) rfl)
theorem d_jdk_42_m149_30 : decode jdk_42_method_149_code 30 = .ok (.ifCond .eq 28, 3) := by decide +kernel
theorem d_jdk_42_m149_33 : decode jdk_42_method_149_code 33 = .ok (.aload_n 1, 1) := by decide +kernel
theorem d_jdk_42_m149_34 : decode jdk_42_method_149_code 34 = .ok (.iload_n 2, 1) := by decide +kernel
theorem d_jdk_42_m149_35 : decode jdk_42_method_149_code 35 = .ok (.iload_n 3, 1) := by decide +kernel
theorem d_jdk_42_m149_36 : decode jdk_42_method_149_code 36 = .ok (.invokestatic 177, 3) := by decide +kernel
theorem w18 {Z : State} {a0 : Array Value} (hw : ∀ d ∈ tables_1, d.before a0 Z = true) : (Jvm.Cond.code ({ cls := "java/lang/StringUTF16", name := "compress", desc := "([CII)[B" } : Jvm.MethodName) jdk_52_method_16_code (6 : Nat) (Option.some (Jvm.ClassFile.FieldType.array Jvm.ClassFile.FieldType.byte))).before a0 Z = true := hw _ (List.mem_of_getElem? (i := 18) rfl)
theorem w15 {Z : State} {a0 : Array Value} (hw : ∀ d ∈ tables_1, d.before a0 Z = true) : (Jvm.Cond.methodLink "java/lang/String" (177 : Nat) ({ cls := "java/lang/StringUTF16", name := "compress", desc := "([CII)[B" } : Jvm.MethodName)).before a0 Z = true := hw _ (List.mem_of_getElem? (i := 15) rfl)
theorem w16 {Z : State} {a0 : Array Value} (hw : ∀ d ∈ tables_1, d.before a0 Z = true) : (Jvm.Cond.static ({ cls := "java/lang/StringUTF16", name := "compress", desc := "([CII)[B" } : Jvm.MethodName)).before a0 Z = true := hw _ (List.mem_of_getElem? (i := 16) rfl)
theorem pd_1 : parseMethodDescriptor "([CII)[B" = some ⟨[(.array .char), .int, .int], some (.array .byte)⟩ := by decide +kernel
theorem d_jdk_42_m149_39 : decode jdk_42_method_149_code 39 = .ok (.astore 5, 2) := by decide +kernel
theorem d_jdk_42_m149_41 : decode jdk_42_method_149_code 41 = .ok (.aload_n 0, 1) := by decide +kernel
theorem d_jdk_42_m149_42 : decode jdk_42_method_149_code 42 = .ok (.aload 5, 2) := by decide +kernel
theorem d_jdk_42_m149_44 : decode jdk_42_method_149_code 44 = .ok (.iload_n 3, 1) := by decide +kernel
theorem d_jdk_42_m149_45 : decode jdk_42_method_149_code 45 = .ok (.invokestatic 47, 3) := by decide +kernel
theorem w25 {Z : State} {a0 : Array Value} (hw : ∀ d ∈ tables_1, d.before a0 Z = true) : (Jvm.Cond.code ({ cls := "java/lang/StringUTF16", name := "coderFromArrayLen", desc := "([BI)B" } : Jvm.MethodName) jdk_52_method_15_code (2 : Nat) (Option.some Jvm.ClassFile.FieldType.byte)).before a0 Z = true := hw _ (List.mem_of_getElem? (i := 25) rfl)
theorem w23 {Z : State} {a0 : Array Value} (hw : ∀ d ∈ tables_1, d.before a0 Z = true) : (Jvm.Cond.methodLink "java/lang/String" (47 : Nat) ({ cls := "java/lang/StringUTF16", name := "coderFromArrayLen", desc := "([BI)B" } : Jvm.MethodName)).before a0 Z = true := hw _ (List.mem_of_getElem? (i := 23) rfl)
theorem w24 {Z : State} {a0 : Array Value} (hw : ∀ d ∈ tables_1, d.before a0 Z = true) : (Jvm.Cond.static ({ cls := "java/lang/StringUTF16", name := "coderFromArrayLen", desc := "([BI)B" } : Jvm.MethodName)).before a0 Z = true := hw _ (List.mem_of_getElem? (i := 24) rfl)
theorem pd_2 : parseMethodDescriptor "([BI)B" = some ⟨[(.array .byte), .int], some .byte⟩ := by decide +kernel
theorem d_jdk_42_m149_48 : decode jdk_42_method_149_code 48 = .ok (.putfield 15, 3) := by decide +kernel
theorem w26 {Z : State} {a0 : Array Value} (hw : ∀ d ∈ tables_1, d.before a0 Z = true) : (Jvm.Cond.fieldLink "java/lang/String" (15 : Nat) "java/lang/String" "coder" "B").before a0 Z = true := hw _ (List.mem_of_getElem? (i := 26) rfl)
theorem w27 {Z : State} {a0 : Array Value} (hw : ∀ d ∈ tables_1, d.before a0 Z = true) : (Jvm.Cond.laysFinal "java/lang/String" "java/lang/String" "coder" "B").before a0 Z = true := hw _ (List.mem_of_getElem? (i := 27) rfl)
theorem w2 {Z : State} {a0 : Array Value} (hw : ∀ d ∈ tables_1, d.before a0 Z = true) : (Jvm.Cond.instantiable "java/lang/String" (4 : Nat)).before a0 Z = true := hw _ (List.mem_of_getElem? (i := 2) rfl)
theorem d_jdk_42_m149_51 : decode jdk_42_method_149_code 51 = .ok (.aload_n 0, 1) := by decide +kernel
theorem d_jdk_42_m149_52 : decode jdk_42_method_149_code 52 = .ok (.aload 5, 2) := by decide +kernel
theorem d_jdk_42_m149_54 : decode jdk_42_method_149_code 54 = .ok (.putfield 9, 3) := by decide +kernel
theorem w28 {Z : State} {a0 : Array Value} (hw : ∀ d ∈ tables_1, d.before a0 Z = true) : (Jvm.Cond.fieldLink "java/lang/String" (9 : Nat) "java/lang/String" "value" "[B").before a0 Z = true := hw _ (List.mem_of_getElem? (i := 28) rfl)
theorem w29 {Z : State} {a0 : Array Value} (hw : ∀ d ∈ tables_1, d.before a0 Z = true) : (Jvm.Cond.laysFinal "java/lang/String" "java/lang/String" "value" "[B").before a0 Z = true := hw _ (List.mem_of_getElem? (i := 29) rfl)
theorem d_jdk_42_m149_57 : decode jdk_42_method_149_code 57 = .ok (.return_, 1) := by decide +kernel
theorem pn_1 : plainName "java/lang/String" = true := by first | (simp [plainName, overriddenIn]; done) | decide +kernel
def Q_strInit4 (Z : State) (a : Addr) (src : Addr) (ks : ClassId) (cs : Int32) (c0 : Int32) (c1 : Int32) (h0 : Heap) (n0 : Nat) (v : Option Value) (h : Heap) (L : List Loc) : Prop := ∃ bb : Addr, ∃ kb : ClassId, v = none ∧ Fr n0 L ∧ Keep h0 h [a] ∧ h0.size ≤ bb ∧ Fld Z h a "java/lang/String" "coder" "B" (.int (0 : Int32)) ∧ Fld Z h a "java/lang/String" "value" "[B" (.ref bb) ∧ Exa Z h bb "[B" ∧ Arv Z h bb kb .byte (2 : Int32) [(.int (nar .byte (c0.toInt8.toInt32))), (.int (nar .byte (c1.toInt8.toInt32)))] (.int (0 : Int32))
set_option maxRecDepth 65536 in
set_option maxHeartbeats 40000000 in
theorem strInit4 (l : Launch) (Z : State) (a0 : Array Value) (hw : ∀ d ∈ tables_1, d.before a0 Z = true) (a : Addr) (src : Addr) (ks : ClassId) (cs : Int32) (c0 : Int32) (c1 : Int32) (h0 : Heap) (n0 : Nat) (Z0 : n0 ≤ h0.size) (O0 : Old Z n0 h0) (P0 : Arv Z h0 src ks .char (2 : Int32) [(.int c0), (.int c1)] (.int (0 : Int32))) (P1 : Exa Z h0 src "[C") (P2 : Sta Z Z.heap "java/lang/String" "COMPACT_STRINGS" "Z" (.int cs)) (P3 : ¬ (cs = (0 : Int32))) (P4 : ¬ ((255 : Int32) < c0)) (P5 : ¬ ((255 : Int32) < c1)) (P6 : Exa Z h0 a "java/lang/String") (P7 : Fld Z h0 a "java/lang/String" "coder" "B" (.int (0 : Int32))) (P8 : Fld Z h0 a "java/lang/String" "value" "[B" .null) (P9 : n0 ≤ a) :
    Con l Z (⟨"java/lang/String", "<init>", "([CIILjava/lang/Void;)V"⟩ : MethodName) jdk_42_method_149_code 6 none ({ frames := 2, cells := 1, slots := 2, locals := 35 } : Room) #[(.ref a), (.ref src), (.int (0 : Int32)), (.int (2 : Int32)), .null] h0 (Q_strInit4 Z a src ks cs c0 c1 h0 n0) := by
  refine OwnW.body (Ls := #[.val (.ref a), .val (.ref src), .val (.int (0 : Int32)), .val (.int (2 : Int32)), .val .null, .unset]) (plainFor_of_name pn_1) (fun m => by first | (simp [entryFrame, mkF, argsToLocals, Value.category]; done) | rfl) ?_
  intro p e s m below meth c s₁ hx hby hml hown hnm hret hlk hZ X0 e0
  let QQ := Q_strInit4 Z a src ks cs c0 c1 h0 n0
  have N0 := Fr.nil n0
  show Go p e below (s₁.setTop (mkF m 0 #[.val (.ref a), .val (.ref src), .val (.int (0 : Int32)), .val (.int (2 : Int32)), .val .null, .unset] [])) (EndQ s below ({ frames := 2, cells := 1, slots := 2, locals := 35 } : Room).cells ({ frames := 2, cells := 1, slots := 2, locals := 35 } : Room).slots QQ)
  refine Go.on (Y' := s₁.setTop (mkF m 1 #[.val (.ref a), .val (.ref src), .val (.int (0 : Int32)), .val (.int (2 : Int32)), .val .null, .unset] [(.ref a)])) (fun _ k => XS.aloadN X0.here hx rfl (hb hby d_jdk_42_m149_0) rfl rfl k) ?_
  obtain ⟨T1, X1, e1, st1⟩ := initO X0 hx hZ hown (w11 hw) (w12 hw) (w13 hw) e0 (g := (mkF m 1 #[.val (.ref a), .val (.ref src), .val (.int (0 : Int32)), .val (.int (2 : Int32)), .val .null, .unset] [(.ref a)])) rfl (by rw [hml]; rfl) rfl (hb hby d_jdk_42_m149_1) (by decide) (W := 0) (by show 2 * 0 + _ ≤ _; exact Nat.le_of_eq rfl) (by decide)
  refine Go.on (Y' := T1.setTop (mkF m 4 #[.val (.ref a), .val (.ref src), .val (.int (0 : Int32)), .val (.int (2 : Int32)), .val .null, .unset] [])) (st1) ?_
  refine Go.on (Y' := T1.setTop (mkF m 5 #[.val (.ref a), .val (.ref src), .val (.int (0 : Int32)), .val (.int (2 : Int32)), .val .null, .unset] [(.int (2 : Int32))])) (fun _ k => XS.iloadN X1.here hx rfl (hb hby d_jdk_42_m149_4) rfl  k) ?_
  refine Go.on (Y' := T1.setTop (mkF m 27 #[.val (.ref a), .val (.ref src), .val (.int (0 : Int32)), .val (.int (2 : Int32)), .val .null, .unset] [])) (fun _ k => XS.ifYes X1.here hx rfl (pc0 := 5) (pc' := 27) rfl (hb hby d_jdk_42_m149_5) rfl ((if0 _ _).trans (feq (by decide : ¬ ((2 : Int32) = (0 : Int32)))).2) (by decide) (by decide) k) ?_
  have s3 : Sta Z h0 "java/lang/String" "COMPACT_STRINGS" "Z" (.int cs) := Sta.ext O0.2 P2
  obtain ⟨T2, X2, e2, st2⟩ := getS2 X1 hx hZ hown (host := "") (Or.inl (w14 hw)) Via.refl e1 s3 (g := (mkF m 27 #[.val (.ref a), .val (.ref src), .val (.int (0 : Int32)), .val (.int (2 : Int32)), .val .null, .unset] [])) rfl (hb hby d_jdk_42_m149_27)
  refine Go.on (Y' := T2.setTop (mkF m 30 #[.val (.ref a), .val (.ref src), .val (.int (0 : Int32)), .val (.int (2 : Int32)), .val .null, .unset] [(.int cs)])) (st2) ?_
  refine Go.on (Y' := T2.setTop (mkF m 33 #[.val (.ref a), .val (.ref src), .val (.int (0 : Int32)), .val (.int (2 : Int32)), .val .null, .unset] [])) (fun _ k => XS.ifNo X2.here hx rfl (hb hby d_jdk_42_m149_30) rfl ((if0 _ _).trans (feq (P3 : ¬ (cs = (0 : Int32)))).1) k) ?_
  refine Go.on (Y' := T2.setTop (mkF m 34 #[.val (.ref a), .val (.ref src), .val (.int (0 : Int32)), .val (.int (2 : Int32)), .val .null, .unset] [(.ref src)])) (fun _ k => XS.aloadN X2.here hx rfl (hb hby d_jdk_42_m149_33) rfl rfl k) ?_
  refine Go.on (Y' := T2.setTop (mkF m 35 #[.val (.ref a), .val (.ref src), .val (.int (0 : Int32)), .val (.int (2 : Int32)), .val .null, .unset] [(.int (0 : Int32)), (.ref src)])) (fun _ k => XS.iloadN X2.here hx rfl (hb hby d_jdk_42_m149_34) rfl  k) ?_
  refine Go.on (Y' := T2.setTop (mkF m 36 #[.val (.ref a), .val (.ref src), .val (.int (0 : Int32)), .val (.int (2 : Int32)), .val .null, .unset] [(.int (2 : Int32)), (.int (0 : Int32)), (.ref src)])) (fun _ k => XS.iloadN X2.here hx rfl (hb hby d_jdk_42_m149_35) rfl  k) ?_
  obtain ⟨v4, T4, L4, X4, hQ4, st4⟩ := OwnW.callS (y := (⟨"java/lang/StringUTF16", "compress", "([CII)[B"⟩ : MethodName)) X2 hx hZ hown (w15 hw) (w16 hw) (w17 hw) (w18 hw) (by decide) (comp1 l Z a0 hw src ks c0 c1 h0 n0 Z0 P0 P1 P4 P5) e2 (Ls := #[.val (.ref a), .val (.ref src), .val (.int (0 : Int32)), .val (.int (2 : Int32)), .val .null, .unset]) (by rw [hml]; rfl) pd_1 (argsL := [(.ref src), (.int (0 : Int32)), (.int (2 : Int32))]) rfl (rest := []) rfl (W := 0) rfl (hb hby d_jdk_42_m149_36) (by decide) (by decide) (by decide) (by decide)
  obtain ⟨bb_5, kb_6, rfl, Nq4, Kq4, q4_0, q4_1, q4_2⟩ := hQ4
  have N4 := Fr.app N0 Nq4
  refine Go.on (Y' := T4.setTop (mkF m 39 #[.val (.ref a), .val (.ref src), .val (.int (0 : Int32)), .val (.int (2 : Int32)), .val .null, .unset] [(.ref bb_5)])) (st4) ?_
  refine Go.on (Y' := T4.setTop (mkF m 41 #[.val (.ref a), .val (.ref src), .val (.int (0 : Int32)), .val (.int (2 : Int32)), .val .null, .val (.ref bb_5)] [])) (fun _ k => XS.astore X4.here hx rfl (hb hby d_jdk_42_m149_39) rfl rfl (l' := #[.val (.ref a), .val (.ref src), .val (.int (0 : Int32)), .val (.int (2 : Int32)), .val .null, .val (.ref bb_5)]) rfl k) ?_
  refine Go.on (Y' := T4.setTop (mkF m 42 #[.val (.ref a), .val (.ref src), .val (.int (0 : Int32)), .val (.int (2 : Int32)), .val .null, .val (.ref bb_5)] [(.ref a)])) (fun _ k => XS.aloadN X4.here hx rfl (hb hby d_jdk_42_m149_41) rfl rfl k) ?_
  refine Go.on (Y' := T4.setTop (mkF m 44 #[.val (.ref a), .val (.ref src), .val (.int (0 : Int32)), .val (.int (2 : Int32)), .val .null, .val (.ref bb_5)] [(.ref bb_5), (.ref a)])) (fun _ k => XS.aload X4.here hx rfl (hb hby d_jdk_42_m149_42) rfl rfl k) ?_
  refine Go.on (Y' := T4.setTop (mkF m 45 #[.val (.ref a), .val (.ref src), .val (.int (0 : Int32)), .val (.int (2 : Int32)), .val .null, .val (.ref bb_5)] [(.int (2 : Int32)), (.ref bb_5), (.ref a)])) (fun _ k => XS.iloadN X4.here hx rfl (hb hby d_jdk_42_m149_44) rfl  k) ?_
  have Z8 : n0 ≤ T4.heap.size := Nat.le_trans Z0 Kq4.1
  obtain ⟨v7, T7, L7, X7, hQ7, st7⟩ := OwnW.callS (y := (⟨"java/lang/StringUTF16", "coderFromArrayLen", "([BI)B"⟩ : MethodName)) X4 hx hZ hown (w23 hw) (w24 hw) (w17 hw) (w25 hw) (by decide) (coderLen l Z a0 hw bb_5 kb_6 ([(.int (nar .byte (c0.toInt8.toInt32))), (.int (nar .byte (c1.toInt8.toInt32)))]) T4.heap n0 Z8 q4_2) rfl (Ls := #[.val (.ref a), .val (.ref src), .val (.int (0 : Int32)), .val (.int (2 : Int32)), .val .null, .val (.ref bb_5)]) (by rw [hml]; rfl) pd_2 (argsL := [(.ref bb_5), (.int (2 : Int32))]) rfl (rest := [(.ref a)]) rfl (W := 1) rfl (hb hby d_jdk_42_m149_45) (by decide) (by decide) (by decide) (by decide)
  obtain ⟨rfl, Nq7, eq7⟩ := hQ7
  have N7 := Fr.app N4 Nq7
  refine Go.on (Y' := T7.setTop (mkF m 48 #[.val (.ref a), .val (.ref src), .val (.int (0 : Int32)), .val (.int (2 : Int32)), .val .null, .val (.ref bb_5)] [(.int (0 : Int32)), (.ref a)])) (st7) ?_
  have c10 : Exa Z T4.heap a "java/lang/String" := Exa.keep P6 Kq4
  have c11 : Fld Z T4.heap a "java/lang/String" "coder" "B" (.int (0 : Int32)) := Fld.keep P7 Kq4 nin0
  obtain ⟨T9, h9, X9, e9, W9, st9⟩ := putFN X7 hx hZ hown (w26 hw) Via.refl eq7 c11 c10 (Or.inr ⟨(w27 hw), rfl, hnm⟩) (w2 hw) (ty := .byte) (v' := (.int (0 : Int32))) (by decide) rfl rfl (g := (mkF m 48 #[.val (.ref a), .val (.ref src), .val (.int (0 : Int32)), .val (.int (2 : Int32)), .val .null, .val (.ref bb_5)] [(.int (0 : Int32)), (.ref a)])) rfl rfl (hb hby d_jdk_42_m149_48)
  have Fw9 : Fld Z h9 a "java/lang/String" "coder" "B" (.int (0 : Int32)) := Fld.same W9 c11
  have N9 := Fr.snoc X9 N7 P9
  refine Go.on (Y' := T9.setTop (mkF m 51 #[.val (.ref a), .val (.ref src), .val (.int (0 : Int32)), .val (.int (2 : Int32)), .val .null, .val (.ref bb_5)] [])) (st9) ?_
  refine Go.on (Y' := T9.setTop (mkF m 52 #[.val (.ref a), .val (.ref src), .val (.int (0 : Int32)), .val (.int (2 : Int32)), .val .null, .val (.ref bb_5)] [(.ref a)])) (fun _ k => XS.aloadN X9.here hx rfl (hb hby d_jdk_42_m149_51) rfl rfl k) ?_
  refine Go.on (Y' := T9.setTop (mkF m 54 #[.val (.ref a), .val (.ref src), .val (.int (0 : Int32)), .val (.int (2 : Int32)), .val .null, .val (.ref bb_5)] [(.ref bb_5), (.ref a)])) (fun _ k => XS.aload X9.here hx rfl (hb hby d_jdk_42_m149_52) rfl rfl k) ?_
  have c13 : Exa Z h9 a "java/lang/String" := Exa.wr W9 c10
  have c14 : Fld Z h9 a "java/lang/String" "value" "[B" .null := Fld.other W9 (Fld.keep P8 Kq4 nin0) (Or.inr (slot_ne (C := "java/lang/String") (Or.inr (w29 hw)) (Or.inr (w27 hw)) (by decide) (t := (.array .byte)) (t' := .byte) (by decide) (by decide)))
  obtain ⟨T12, h12, X12, e12, W12, st12⟩ := putF X9 hx hZ hown (host := "") (Or.inl (w28 hw)) Via.refl e9 c14 c13 (Or.inr ⟨(w29 hw), rfl, hnm⟩) (w2 hw) (ty := (.array .byte)) (by decide) rfl rfl (g := (mkF m 54 #[.val (.ref a), .val (.ref src), .val (.int (0 : Int32)), .val (.int (2 : Int32)), .val .null, .val (.ref bb_5)] [(.ref bb_5), (.ref a)])) rfl rfl (hb hby d_jdk_42_m149_54)
  have Fw12 : Fld Z h12 a "java/lang/String" "value" "[B" (.ref bb_5) := Fld.same W12 c14
  have N12 := Fr.snoc X12 N9 P9
  refine Go.on (Y' := T12.setTop (mkF m 57 #[.val (.ref a), .val (.ref src), .val (.int (0 : Int32)), .val (.int (2 : Int32)), .val .null, .val (.ref bb_5)] [])) (st12) ?_
  have K15 : Keep h0 T4.heap [a] := (Keep.refl h0 [a]).trans Kq4 all0
  have K16 : Keep h0 h9 [a] := K15.wr W9 (Or.inl (List.mem_of_getElem? (i := 0) rfl))
  have K17 : Keep h0 h12 [a] := K16.wr W12 (Or.inl (List.mem_of_getElem? (i := 0) rfl))
  have c18 : Fld Z h12 a "java/lang/String" "coder" "B" (.int (0 : Int32)) := Fld.other W12 Fw9 (Or.inr (slot_ne (C := "java/lang/String") (Or.inr (w27 hw)) (Or.inr (w29 hw)) (by decide) (t := .byte) (t' := (.array .byte)) (by decide) (by decide)))
  have c19 : Exa Z h12 bb_5 "[B" := Exa.wr W12 (Exa.wr W9 q4_1)
  have ne20 : bb_5 ≠ a := Ne.symm (ne_of_born P6.lt q4_0)
  have c21 : Arv Z h12 bb_5 kb_6 .byte (2 : Int32) [(.int (nar .byte (c0.toInt8.toInt32))), (.int (nar .byte (c1.toInt8.toInt32)))] (.int (0 : Int32)) := Arv.other (Arv.other q4_2 W9 ne20) W12 ne20
  exact OwnW.retV X12 hx hlk hret (hb hby d_jdk_42_m149_57) (by decide) (by decide) (show QQ _ T12.heap _ from (by rw [e12]; exact ⟨bb_5, kb_6, rfl, N12, K17, (Nat.le_trans (Nat.le_refl _) q4_0), c18, Fw12, c19, c21⟩))
theorem d_jdk_42_m3_0 : decode jdk_42_method_3_code 0 = .ok (.aload_n 0, 1) := by decide +kernel
theorem d_jdk_42_m3_1 : decode jdk_42_method_3_code 1 = .ok (.aload_n 1, 1) := by decide +kernel
theorem d_jdk_42_m3_2 : decode jdk_42_method_3_code 2 = .ok (.iconst 0, 1) := by decide +kernel
theorem d_jdk_42_m3_3 : decode jdk_42_method_3_code 3 = .ok (.aload_n 1, 1) := by decide +kernel
theorem d_jdk_42_m3_4 : decode jdk_42_method_3_code 4 = .ok (.arraylength, 1) := by decide +kernel
theorem d_jdk_42_m3_5 : decode jdk_42_method_3_code 5 = .ok (.aconst_null, 1) := by decide +kernel
theorem d_jdk_42_m3_6 : decode jdk_42_method_3_code 6 = .ok (.invokespecial 27, 3) := by decide +kernel
theorem w10 {Z : State} {a0 : Array Value} (hw : ∀ d ∈ tables_1, d.before a0 Z = true) : (Jvm.Cond.code ({ cls := "java/lang/String", name := "<init>", desc := "([CIILjava/lang/Void;)V" } : Jvm.MethodName) jdk_42_method_149_code (6 : Nat) (Option.none : Option Jvm.ClassFile.FieldType)).before a0 Z = true := hw _ (List.mem_of_getElem? (i := 10) rfl)
theorem w7 {Z : State} {a0 : Array Value} (hw : ∀ d ∈ tables_1, d.before a0 Z = true) : (Jvm.Cond.methodLink "java/lang/String" (27 : Nat) ({ cls := "java/lang/String", name := "<init>", desc := "([CIILjava/lang/Void;)V" } : Jvm.MethodName)).before a0 Z = true := hw _ (List.mem_of_getElem? (i := 7) rfl)
theorem w8 {Z : State} {a0 : Array Value} (hw : ∀ d ∈ tables_1, d.before a0 Z = true) : (Jvm.Cond.instanceMethod ({ cls := "java/lang/String", name := "<init>", desc := "([CIILjava/lang/Void;)V" } : Jvm.MethodName)).before a0 Z = true := hw _ (List.mem_of_getElem? (i := 8) rfl)
theorem w3 {Z : State} {a0 : Array Value} (hw : ∀ d ∈ tables_1, d.before a0 Z = true) : (Jvm.Cond.initialized "java/lang/String").before a0 Z = true := hw _ (List.mem_of_getElem? (i := 3) rfl)
theorem pd_3 : parseMethodDescriptor "([CIILjava/lang/Void;)V" = some ⟨[(.array .char), .int, .int, (.object "java/lang/Void")], none⟩ := by decide +kernel
theorem d_jdk_42_m3_9 : decode jdk_42_method_3_code 9 = .ok (.return_, 1) := by decide +kernel
def Q_strInit (Z : State) (a : Addr) (src : Addr) (ks : ClassId) (cs : Int32) (c0 : Int32) (c1 : Int32) (h0 : Heap) (n0 : Nat) (v : Option Value) (h : Heap) (L : List Loc) : Prop := ∃ bb : Addr, ∃ kb : ClassId, v = none ∧ Fr n0 L ∧ Keep h0 h [a] ∧ h0.size ≤ bb ∧ Fld Z h a "java/lang/String" "coder" "B" (.int (0 : Int32)) ∧ Fld Z h a "java/lang/String" "value" "[B" (.ref bb) ∧ Exa Z h bb "[B" ∧ Arv Z h bb kb .byte (2 : Int32) [(.int (nar .byte (c0.toInt8.toInt32))), (.int (nar .byte (c1.toInt8.toInt32)))] (.int (0 : Int32))
set_option maxRecDepth 65536 in
set_option maxHeartbeats 40000000 in
theorem strInit (l : Launch) (Z : State) (a0 : Array Value) (hw : ∀ d ∈ tables_1, d.before a0 Z = true) (a : Addr) (src : Addr) (ks : ClassId) (cs : Int32) (c0 : Int32) (c1 : Int32) (h0 : Heap) (n0 : Nat) (Z0 : n0 ≤ h0.size) (O0 : Old Z n0 h0) (P0 : Arv Z h0 src ks .char (2 : Int32) [(.int c0), (.int c1)] (.int (0 : Int32))) (P1 : Exa Z h0 src "[C") (P2 : Sta Z Z.heap "java/lang/String" "COMPACT_STRINGS" "Z" (.int cs)) (P3 : ¬ (cs = (0 : Int32))) (P4 : ¬ ((255 : Int32) < c0)) (P5 : ¬ ((255 : Int32) < c1)) (P6 : Exa Z h0 a "java/lang/String") (P7 : Fld Z h0 a "java/lang/String" "coder" "B" (.int (0 : Int32))) (P8 : Fld Z h0 a "java/lang/String" "value" "[B" .null) (P9 : n0 ≤ a) :
    Con l Z (⟨"java/lang/String", "<init>", "([C)V"⟩ : MethodName) jdk_42_method_3_code 2 none ({ frames := 3, cells := 1, slots := 2, locals := 52 } : Room) #[(.ref a), (.ref src)] h0 (Q_strInit Z a src ks cs c0 c1 h0 n0) := by
  refine OwnW.body (Ls := #[.val (.ref a), .val (.ref src)]) (plainFor_of_name pn_1) (fun m => by first | (simp [entryFrame, mkF, argsToLocals, Value.category]; done) | rfl) ?_
  intro p e s m below meth c s₁ hx hby hml hown hnm hret hlk hZ X0 e0
  let QQ := Q_strInit Z a src ks cs c0 c1 h0 n0
  have N0 := Fr.nil n0
  show Go p e below (s₁.setTop (mkF m 0 #[.val (.ref a), .val (.ref src)] [])) (EndQ s below ({ frames := 3, cells := 1, slots := 2, locals := 52 } : Room).cells ({ frames := 3, cells := 1, slots := 2, locals := 52 } : Room).slots QQ)
  refine Go.on (Y' := s₁.setTop (mkF m 1 #[.val (.ref a), .val (.ref src)] [(.ref a)])) (fun _ k => XS.aloadN X0.here hx rfl (hb hby d_jdk_42_m3_0) rfl rfl k) ?_
  refine Go.on (Y' := s₁.setTop (mkF m 2 #[.val (.ref a), .val (.ref src)] [(.ref src), (.ref a)])) (fun _ k => XS.aloadN X0.here hx rfl (hb hby d_jdk_42_m3_1) rfl rfl k) ?_
  refine Go.on (Y' := s₁.setTop (mkF m 3 #[.val (.ref a), .val (.ref src)] [(.int (0 : Int32)), (.ref src), (.ref a)])) (fun _ k => XS.iconst X0.here hx rfl (hb hby d_jdk_42_m3_2) k) ?_
  refine Go.on (Y' := s₁.setTop (mkF m 4 #[.val (.ref a), .val (.ref src)] [(.ref src), (.int (0 : Int32)), (.ref src), (.ref a)])) (fun _ k => XS.aloadN X0.here hx rfl (hb hby d_jdk_42_m3_3) rfl rfl k) ?_
  refine Go.on (Y' := s₁.setTop (mkF m 5 #[.val (.ref a), .val (.ref src)] [(.int (2 : Int32)), (.int (0 : Int32)), (.ref src), (.ref a)])) (aLen X0 hx hZ e0 P0 (hb hby d_jdk_42_m3_4)) ?_
  refine Go.on (Y' := s₁.setTop (mkF m 6 #[.val (.ref a), .val (.ref src)] [.null, (.int (2 : Int32)), (.int (0 : Int32)), (.ref src), (.ref a)])) (fun _ k => XS.aconstNull X0.here hx rfl (hb hby d_jdk_42_m3_5) k) ?_
  obtain ⟨v1, T1, L1, X1, hQ1, st1⟩ := OwnW.callC (y := (⟨"java/lang/String", "<init>", "([CIILjava/lang/Void;)V"⟩ : MethodName)) X0 hx hZ hown rfl (w7 hw) (w8 hw) (w3 hw) (w10 hw) (by decide) (b := a) (strInit4 l Z a0 hw a src ks cs c0 c1 h0 n0 Z0 O0 P0 P1 P2 P3 P4 P5 P6 P7 P8 P9) e0 (Ls := #[.val (.ref a), .val (.ref src)]) (by rw [hml]; rfl) pd_3 (argsL := [(.ref src), (.int (0 : Int32)), (.int (2 : Int32)), .null]) rfl (rest := []) rfl (W := 0) rfl (hb hby d_jdk_42_m3_6) (by decide) (by decide) (by decide) (by decide)
  obtain ⟨bb_2, kb_3, rfl, Nq1, Kq1, q1_0, q1_1, q1_2, q1_3, q1_4⟩ := hQ1
  have N1 := Fr.app N0 Nq1
  refine Go.on (Y' := T1.setTop (mkF m 9 #[.val (.ref a), .val (.ref src)] [])) (st1) ?_
  have K4 : Keep h0 T1.heap [a] := (Keep.refl h0 [a]).trans Kq1 (allS (Or.inl (List.mem_of_getElem? (i := 0) rfl)) all0)
  exact OwnW.retV X1 hx hlk hret (hb hby d_jdk_42_m3_9) (by decide) (by decide) (show QQ _ T1.heap _ from ⟨bb_2, kb_3, rfl, N1, K4, (Nat.le_trans (Nat.le_refl _) q1_0), q1_1, q1_2, q1_3, q1_4⟩)
theorem d_jdk_30_m1_0 : decode jdk_30_method_1_code 0 = .ok (.aload_n 0, 1) := by decide +kernel
theorem d_jdk_30_m1_1 : decode jdk_30_method_1_code 1 = .ok (.invokespecial 1, 3) := by decide +kernel
theorem w41 {Z : State} {a0 : Array Value} (hw : ∀ d ∈ tables_1, d.before a0 Z = true) : (Jvm.Cond.methodLink "java/lang/Record" (1 : Nat) ({ cls := "java/lang/Object", name := "<init>", desc := "()V" } : Jvm.MethodName)).before a0 Z = true := hw _ (List.mem_of_getElem? (i := 41) rfl)
theorem d_jdk_30_m1_4 : decode jdk_30_method_1_code 4 = .ok (.return_, 1) := by decide +kernel
theorem pn_2 : plainName "java/lang/Record" = true := by first | (simp [plainName, overriddenIn]; done) | decide +kernel
def Q_recInit (Z : State) (a : Addr) (h0 : Heap) (n0 : Nat) (v : Option Value) (h : Heap) (L : List Loc) : Prop := v = none ∧ Fr n0 L ∧ h = h0
set_option maxRecDepth 65536 in
set_option maxHeartbeats 40000000 in
theorem recInit (l : Launch) (Z : State) (a0 : Array Value) (hw : ∀ d ∈ tables_1, d.before a0 Z = true) (a : Addr) (h0 : Heap) (n0 : Nat) (Z0 : n0 ≤ h0.size)  :
    Con l Z (⟨"java/lang/Record", "<init>", "()V"⟩ : MethodName) jdk_30_method_1_code 1 none ({ frames := 1, cells := 0, slots := 0, locals := 12 } : Room) #[(.ref a)] h0 (Q_recInit Z a h0 n0) := by
  refine OwnW.body (Ls := #[.val (.ref a)]) (plainFor_of_name pn_2) (fun m => by first | (simp [entryFrame, mkF, argsToLocals, Value.category]; done) | rfl) ?_
  intro p e s m below meth c s₁ hx hby hml hown hnm hret hlk hZ X0 e0
  let QQ := Q_recInit Z a h0 n0
  have N0 := Fr.nil n0
  show Go p e below (s₁.setTop (mkF m 0 #[.val (.ref a)] [])) (EndQ s below ({ frames := 1, cells := 0, slots := 0, locals := 12 } : Room).cells ({ frames := 1, cells := 0, slots := 0, locals := 12 } : Room).slots QQ)
  refine Go.on (Y' := s₁.setTop (mkF m 1 #[.val (.ref a)] [(.ref a)])) (fun _ k => XS.aloadN X0.here hx rfl (hb hby d_jdk_30_m1_0) rfl rfl k) ?_
  obtain ⟨T1, X1, e1, st1⟩ := initO X0 hx hZ hown (w41 hw) (w12 hw) (w13 hw) e0 (g := (mkF m 1 #[.val (.ref a)] [(.ref a)])) rfl (by rw [hml]; rfl) rfl (hb hby d_jdk_30_m1_1) (by decide) (W := 0) (by show 2 * 0 + _ ≤ _; exact Nat.le_of_eq rfl) (by decide)
  refine Go.on (Y' := T1.setTop (mkF m 4 #[.val (.ref a)] [])) (st1) ?_
  exact OwnW.retV X1 hx hlk hret (hb hby d_jdk_30_m1_4) (by decide) (by decide) (show QQ _ T1.heap _ from ⟨rfl, N0, e1⟩)
theorem d_jdk_42_m66_0 : decode jdk_42_method_66_code 0 = .ok (.aload_n 0, 1) := by decide +kernel
theorem d_jdk_42_m66_1 : decode jdk_42_method_66_code 1 = .ok (.aload_n 1, 1) := by decide +kernel
theorem d_jdk_42_m66_2 : decode jdk_42_method_66_code 2 = .ok (.if_acmp .ne 5, 3) := by decide +kernel
theorem d_jdk_42_m66_5 : decode jdk_42_method_66_code 5 = .ok (.iconst 1, 1) := by decide +kernel
theorem d_jdk_42_m66_6 : decode jdk_42_method_66_code 6 = .ok (.ireturn, 1) := by decide +kernel
def Q_strEqSame (Z : State) (a : Addr) (h0 : Heap) (n0 : Nat) (v : Option Value) (h : Heap) (L : List Loc) : Prop := v = some (.int (1 : Int32)) ∧ Fr n0 L ∧ h = h0
set_option maxRecDepth 65536 in
set_option maxHeartbeats 40000000 in
theorem strEqSame (l : Launch) (Z : State) (a0 : Array Value) (hw : ∀ d ∈ tables_1, d.before a0 Z = true) (a : Addr) (h0 : Heap) (n0 : Nat) (Z0 : n0 ≤ h0.size)  :
    Con l Z (⟨"java/lang/String", "equals", "(Ljava/lang/Object;)Z"⟩ : MethodName) jdk_42_method_66_code 3 (some .boolean) ({ frames := 0, cells := 0, slots := 0, locals := 0 } : Room) #[(.ref a), (.ref a)] h0 (Q_strEqSame Z a h0 n0) := by
  refine OwnW.body (Ls := #[.val (.ref a), .val (.ref a), .unset]) (plainFor_of_name pn_1) (fun m => by first | (simp [entryFrame, mkF, argsToLocals, Value.category]; done) | rfl) ?_
  intro p e s m below meth c s₁ hx hby hml hown hnm hret hlk hZ X0 e0
  let QQ := Q_strEqSame Z a h0 n0
  have N0 := Fr.nil n0
  show Go p e below (s₁.setTop (mkF m 0 #[.val (.ref a), .val (.ref a), .unset] [])) (EndQ s below ({ frames := 0, cells := 0, slots := 0, locals := 0 } : Room).cells ({ frames := 0, cells := 0, slots := 0, locals := 0 } : Room).slots QQ)
  refine Go.on (Y' := s₁.setTop (mkF m 1 #[.val (.ref a), .val (.ref a), .unset] [(.ref a)])) (fun _ k => XS.aloadN X0.here hx rfl (hb hby d_jdk_42_m66_0) rfl rfl k) ?_
  refine Go.on (Y' := s₁.setTop (mkF m 2 #[.val (.ref a), .val (.ref a), .unset] [(.ref a), (.ref a)])) (fun _ k => XS.aloadN X0.here hx rfl (hb hby d_jdk_42_m66_1) rfl rfl k) ?_
  refine Go.on (Y' := s₁.setTop (mkF m 5 #[.val (.ref a), .val (.ref a), .unset] [])) (fun _ k => Jvm.RoadKit.acmp (g := (mkF m 2 #[.val (.ref a), .val (.ref a), .unset] [(.ref a), (.ref a)])) X0 hx rfl rfl rfl (pc0 := 2) (pc' := 5) (same := true) rfl (hb hby d_jdk_42_m66_2) rfl (decide_eq_true rfl) (by decide) (by decide) k) ?_
  refine Go.on (Y' := s₁.setTop (mkF m 6 #[.val (.ref a), .val (.ref a), .unset] [(.int (1 : Int32))])) (fun _ k => XS.iconst X0.here hx rfl (hb hby d_jdk_42_m66_5) k) ?_
  exact OwnW.retN X0 hx hlk hret (t := .boolean) (by simp) (hb hby d_jdk_42_m66_6) (by decide) (by decide) rfl (show QQ _ s₁.heap _ from ⟨rfl, N0, e0⟩)
theorem d_prog_34_m1_0 : decode prog_34_method_1_code 0 = .ok (.aload_n 0, 1) := by decide +kernel
theorem d_prog_34_m1_1 : decode prog_34_method_1_code 1 = .ok (.invokespecial 1, 3) := by decide +kernel
theorem w40 {Z : State} {a0 : Array Value} (hw : ∀ d ∈ tables_1, d.before a0 Z = true) : (Jvm.Cond.code ({ cls := "java/lang/Record", name := "<init>", desc := "()V" } : Jvm.MethodName) jdk_30_method_1_code (1 : Nat) (Option.none : Option Jvm.ClassFile.FieldType)).before a0 Z = true := hw _ (List.mem_of_getElem? (i := 40) rfl)
theorem w36 {Z : State} {a0 : Array Value} (hw : ∀ d ∈ tables_1, d.before a0 Z = true) : (Jvm.Cond.methodLink "com/example/tradeloom/tradeloom/core/Shipment" (1 : Nat) ({ cls := "java/lang/Record", name := "<init>", desc := "()V" } : Jvm.MethodName)).before a0 Z = true := hw _ (List.mem_of_getElem? (i := 36) rfl)
theorem w37 {Z : State} {a0 : Array Value} (hw : ∀ d ∈ tables_1, d.before a0 Z = true) : (Jvm.Cond.instanceMethod ({ cls := "java/lang/Record", name := "<init>", desc := "()V" } : Jvm.MethodName)).before a0 Z = true := hw _ (List.mem_of_getElem? (i := 37) rfl)
theorem w39 {Z : State} {a0 : Array Value} (hw : ∀ d ∈ tables_1, d.before a0 Z = true) : (Jvm.Cond.initialized "java/lang/Record").before a0 Z = true := hw _ (List.mem_of_getElem? (i := 39) rfl)
theorem pd_4 : parseMethodDescriptor "()V" = some ⟨[], none⟩ := by decide +kernel
theorem d_prog_34_m1_4 : decode prog_34_method_1_code 4 = .ok (.aload_n 0, 1) := by decide +kernel
theorem d_prog_34_m1_5 : decode prog_34_method_1_code 5 = .ok (.aload_n 1, 1) := by decide +kernel
theorem d_prog_34_m1_6 : decode prog_34_method_1_code 6 = .ok (.putfield 7, 3) := by decide +kernel
theorem w42 {Z : State} {a0 : Array Value} (hw : ∀ d ∈ tables_1, d.before a0 Z = true) : (Jvm.Cond.fieldLink "com/example/tradeloom/tradeloom/core/Shipment" (7 : Nat) "com/example/tradeloom/tradeloom/core/Shipment" "carrier" "Ljava/lang/String;").before a0 Z = true := hw _ (List.mem_of_getElem? (i := 42) rfl)
theorem w43 {Z : State} {a0 : Array Value} (hw : ∀ d ∈ tables_1, d.before a0 Z = true) : (Jvm.Cond.laysFinal "com/example/tradeloom/tradeloom/core/Shipment" "com/example/tradeloom/tradeloom/core/Shipment" "carrier" "Ljava/lang/String;").before a0 Z = true := hw _ (List.mem_of_getElem? (i := 43) rfl)
theorem w31 {Z : State} {a0 : Array Value} (hw : ∀ d ∈ tables_1, d.before a0 Z = true) : (Jvm.Cond.instantiable "com/example/tradeloom/tradeloom/core/Shipment" (2 : Nat)).before a0 Z = true := hw _ (List.mem_of_getElem? (i := 31) rfl)
theorem d_prog_34_m1_9 : decode prog_34_method_1_code 9 = .ok (.aload_n 0, 1) := by decide +kernel
theorem d_prog_34_m1_10 : decode prog_34_method_1_code 10 = .ok (.aload_n 2, 1) := by decide +kernel
theorem d_prog_34_m1_11 : decode prog_34_method_1_code 11 = .ok (.putfield 13, 3) := by decide +kernel
theorem w44 {Z : State} {a0 : Array Value} (hw : ∀ d ∈ tables_1, d.before a0 Z = true) : (Jvm.Cond.fieldLink "com/example/tradeloom/tradeloom/core/Shipment" (13 : Nat) "com/example/tradeloom/tradeloom/core/Shipment" "trackingNo" "Ljava/lang/String;").before a0 Z = true := hw _ (List.mem_of_getElem? (i := 44) rfl)
theorem w45 {Z : State} {a0 : Array Value} (hw : ∀ d ∈ tables_1, d.before a0 Z = true) : (Jvm.Cond.laysFinal "com/example/tradeloom/tradeloom/core/Shipment" "com/example/tradeloom/tradeloom/core/Shipment" "trackingNo" "Ljava/lang/String;").before a0 Z = true := hw _ (List.mem_of_getElem? (i := 45) rfl)
theorem d_prog_34_m1_14 : decode prog_34_method_1_code 14 = .ok (.return_, 1) := by decide +kernel
theorem pn_3 : plainName "com/example/tradeloom/tradeloom/core/Shipment" = true := by first | (simp [plainName, overriddenIn]; done) | decide +kernel
def Q_shInit (Z : State) (a : Addr) (v0 : Addr) (v1 : Addr) (h0 : Heap) (n0 : Nat) (v : Option Value) (h : Heap) (L : List Loc) : Prop := v = none ∧ Fr n0 L ∧ Keep h0 h [a] ∧ Fld Z h a "com/example/tradeloom/tradeloom/core/Shipment" "carrier" "Ljava/lang/String;" (.ref v0) ∧ Fld Z h a "com/example/tradeloom/tradeloom/core/Shipment" "trackingNo" "Ljava/lang/String;" (.ref v1)
set_option maxRecDepth 65536 in
set_option maxHeartbeats 40000000 in
theorem shInit (l : Launch) (Z : State) (a0 : Array Value) (hw : ∀ d ∈ tables_1, d.before a0 Z = true) (a : Addr) (v0 : Addr) (v1 : Addr) (h0 : Heap) (n0 : Nat) (Z0 : n0 ≤ h0.size) (P0 : Exa Z h0 a "com/example/tradeloom/tradeloom/core/Shipment") (P1 : n0 ≤ a) (P2 : Fld Z h0 a "com/example/tradeloom/tradeloom/core/Shipment" "carrier" "Ljava/lang/String;" .null) (P3 : Fld Z h0 a "com/example/tradeloom/tradeloom/core/Shipment" "trackingNo" "Ljava/lang/String;" .null) :
    Con l Z (⟨"com/example/tradeloom/tradeloom/core/Shipment", "<init>", "(Ljava/lang/String;Ljava/lang/String;)V"⟩ : MethodName) prog_34_method_1_code 3 none ({ frames := 2, cells := 0, slots := 0, locals := 24 } : Room) #[(.ref a), (.ref v0), (.ref v1)] h0 (Q_shInit Z a v0 v1 h0 n0) := by
  refine OwnW.body (Ls := #[.val (.ref a), .val (.ref v0), .val (.ref v1)]) (plainFor_of_name pn_3) (fun m => by first | (simp [entryFrame, mkF, argsToLocals, Value.category]; done) | rfl) ?_
  intro p e s m below meth c s₁ hx hby hml hown hnm hret hlk hZ X0 e0
  let QQ := Q_shInit Z a v0 v1 h0 n0
  have N0 := Fr.nil n0
  show Go p e below (s₁.setTop (mkF m 0 #[.val (.ref a), .val (.ref v0), .val (.ref v1)] [])) (EndQ s below ({ frames := 2, cells := 0, slots := 0, locals := 24 } : Room).cells ({ frames := 2, cells := 0, slots := 0, locals := 24 } : Room).slots QQ)
  refine Go.on (Y' := s₁.setTop (mkF m 1 #[.val (.ref a), .val (.ref v0), .val (.ref v1)] [(.ref a)])) (fun _ k => XS.aloadN X0.here hx rfl (hb hby d_prog_34_m1_0) rfl rfl k) ?_
  obtain ⟨v1, T1, L1, X1, hQ1, st1⟩ := OwnW.callC (y := (⟨"java/lang/Record", "<init>", "()V"⟩ : MethodName)) X0 hx hZ hown rfl (w36 hw) (w37 hw) (w39 hw) (w40 hw) (by decide) (b := a) (recInit l Z a0 hw a h0 n0 Z0 ) e0 (Ls := #[.val (.ref a), .val (.ref v0), .val (.ref v1)]) (by rw [hml]; rfl) pd_4 (argsL := []) rfl (rest := []) rfl (W := 0) rfl (hb hby d_prog_34_m1_1) (by decide) (by decide) (by decide) (by decide)
  obtain ⟨rfl, Nq1, eq1⟩ := hQ1
  have N1 := Fr.app N0 Nq1
  refine Go.on (Y' := T1.setTop (mkF m 4 #[.val (.ref a), .val (.ref v0), .val (.ref v1)] [])) (st1) ?_
  refine Go.on (Y' := T1.setTop (mkF m 5 #[.val (.ref a), .val (.ref v0), .val (.ref v1)] [(.ref a)])) (fun _ k => XS.aloadN X1.here hx rfl (hb hby d_prog_34_m1_4) rfl rfl k) ?_
  refine Go.on (Y' := T1.setTop (mkF m 6 #[.val (.ref a), .val (.ref v0), .val (.ref v1)] [(.ref v0), (.ref a)])) (fun _ k => XS.aloadN X1.here hx rfl (hb hby d_prog_34_m1_5) rfl rfl k) ?_
  obtain ⟨T2, h2, X2, e2, W2, st2⟩ := putF X1 hx hZ hown (host := "") (Or.inl (w42 hw)) Via.refl eq1 P2 P0 (Or.inr ⟨(w43 hw), rfl, hnm⟩) (w31 hw) (ty := (.object "java/lang/String")) (by decide) rfl rfl (g := (mkF m 6 #[.val (.ref a), .val (.ref v0), .val (.ref v1)] [(.ref v0), (.ref a)])) rfl rfl (hb hby d_prog_34_m1_6)
  have Fw2 : Fld Z h2 a "com/example/tradeloom/tradeloom/core/Shipment" "carrier" "Ljava/lang/String;" (.ref v0) := Fld.same W2 P2
  have N2 := Fr.snoc X2 N1 P1
  refine Go.on (Y' := T2.setTop (mkF m 9 #[.val (.ref a), .val (.ref v0), .val (.ref v1)] [])) (st2) ?_
  refine Go.on (Y' := T2.setTop (mkF m 10 #[.val (.ref a), .val (.ref v0), .val (.ref v1)] [(.ref a)])) (fun _ k => XS.aloadN X2.here hx rfl (hb hby d_prog_34_m1_9) rfl rfl k) ?_
  refine Go.on (Y' := T2.setTop (mkF m 11 #[.val (.ref a), .val (.ref v0), .val (.ref v1)] [(.ref v1), (.ref a)])) (fun _ k => XS.aloadN X2.here hx rfl (hb hby d_prog_34_m1_10) rfl rfl k) ?_
  have c4 : Exa Z h2 a "com/example/tradeloom/tradeloom/core/Shipment" := Exa.wr W2 P0
  have c5 : Fld Z h2 a "com/example/tradeloom/tradeloom/core/Shipment" "trackingNo" "Ljava/lang/String;" .null := Fld.other W2 P3 (Or.inr (slot_ne (C := "com/example/tradeloom/tradeloom/core/Shipment") (Or.inr (w45 hw)) (Or.inr (w43 hw)) (by decide) (t := (.object "java/lang/String")) (t' := (.object "java/lang/String")) (by decide) (by decide)))
  obtain ⟨T3, h3, X3, e3, W3, st3⟩ := putF X2 hx hZ hown (host := "") (Or.inl (w44 hw)) Via.refl e2 c5 c4 (Or.inr ⟨(w45 hw), rfl, hnm⟩) (w31 hw) (ty := (.object "java/lang/String")) (by decide) rfl rfl (g := (mkF m 11 #[.val (.ref a), .val (.ref v0), .val (.ref v1)] [(.ref v1), (.ref a)])) rfl rfl (hb hby d_prog_34_m1_11)
  have Fw3 : Fld Z h3 a "com/example/tradeloom/tradeloom/core/Shipment" "trackingNo" "Ljava/lang/String;" (.ref v1) := Fld.same W3 c5
  have N3 := Fr.snoc X3 N2 P1
  refine Go.on (Y' := T3.setTop (mkF m 14 #[.val (.ref a), .val (.ref v0), .val (.ref v1)] [])) (st3) ?_
  have K6 : Keep h0 h2 [a] := (Keep.refl h0 [a]).wr W2 (Or.inl (List.mem_of_getElem? (i := 0) rfl))
  have K7 : Keep h0 h3 [a] := K6.wr W3 (Or.inl (List.mem_of_getElem? (i := 0) rfl))
  have c8 : Fld Z h3 a "com/example/tradeloom/tradeloom/core/Shipment" "carrier" "Ljava/lang/String;" (.ref v0) := Fld.other W3 Fw2 (Or.inr (slot_ne (C := "com/example/tradeloom/tradeloom/core/Shipment") (Or.inr (w43 hw)) (Or.inr (w45 hw)) (by decide) (t := (.object "java/lang/String")) (t' := (.object "java/lang/String")) (by decide) (by decide)))
  exact OwnW.retV X3 hx hlk hret (hb hby d_prog_34_m1_14) (by decide) (by decide) (show QQ _ T3.heap _ from (by rw [e3]; exact ⟨rfl, N3, K7, c8, Fw3⟩))
theorem d_prog_58_m1_0 : decode prog_58_method_1_code 0 = .ok (.aload_n 0, 1) := by decide +kernel
theorem d_prog_58_m1_1 : decode prog_58_method_1_code 1 = .ok (.invokespecial 1, 3) := by decide +kernel
theorem w65 {Z : State} {a0 : Array Value} (hw : ∀ d ∈ tables_1, d.before a0 Z = true) : (Jvm.Cond.methodLink "com/example/tradeloom/tradeloom/core/event/OrderShipped" (1 : Nat) ({ cls := "java/lang/Record", name := "<init>", desc := "()V" } : Jvm.MethodName)).before a0 Z = true := hw _ (List.mem_of_getElem? (i := 65) rfl)
theorem d_prog_58_m1_4 : decode prog_58_method_1_code 4 = .ok (.aload_n 0, 1) := by decide +kernel
theorem d_prog_58_m1_5 : decode prog_58_method_1_code 5 = .ok (.aload_n 1, 1) := by decide +kernel
theorem d_prog_58_m1_6 : decode prog_58_method_1_code 6 = .ok (.putfield 7, 3) := by decide +kernel
theorem w66 {Z : State} {a0 : Array Value} (hw : ∀ d ∈ tables_1, d.before a0 Z = true) : (Jvm.Cond.fieldLink "com/example/tradeloom/tradeloom/core/event/OrderShipped" (7 : Nat) "com/example/tradeloom/tradeloom/core/event/OrderShipped" "carrier" "Ljava/lang/String;").before a0 Z = true := hw _ (List.mem_of_getElem? (i := 66) rfl)
theorem w67 {Z : State} {a0 : Array Value} (hw : ∀ d ∈ tables_1, d.before a0 Z = true) : (Jvm.Cond.laysFinal "com/example/tradeloom/tradeloom/core/event/OrderShipped" "com/example/tradeloom/tradeloom/core/event/OrderShipped" "carrier" "Ljava/lang/String;").before a0 Z = true := hw _ (List.mem_of_getElem? (i := 67) rfl)
theorem w51 {Z : State} {a0 : Array Value} (hw : ∀ d ∈ tables_1, d.before a0 Z = true) : (Jvm.Cond.instantiable "com/example/tradeloom/tradeloom/core/event/OrderShipped" (2 : Nat)).before a0 Z = true := hw _ (List.mem_of_getElem? (i := 51) rfl)
theorem d_prog_58_m1_9 : decode prog_58_method_1_code 9 = .ok (.aload_n 0, 1) := by decide +kernel
theorem d_prog_58_m1_10 : decode prog_58_method_1_code 10 = .ok (.aload_n 2, 1) := by decide +kernel
theorem d_prog_58_m1_11 : decode prog_58_method_1_code 11 = .ok (.putfield 13, 3) := by decide +kernel
theorem w68 {Z : State} {a0 : Array Value} (hw : ∀ d ∈ tables_1, d.before a0 Z = true) : (Jvm.Cond.fieldLink "com/example/tradeloom/tradeloom/core/event/OrderShipped" (13 : Nat) "com/example/tradeloom/tradeloom/core/event/OrderShipped" "trackingNo" "Ljava/lang/String;").before a0 Z = true := hw _ (List.mem_of_getElem? (i := 68) rfl)
theorem w69 {Z : State} {a0 : Array Value} (hw : ∀ d ∈ tables_1, d.before a0 Z = true) : (Jvm.Cond.laysFinal "com/example/tradeloom/tradeloom/core/event/OrderShipped" "com/example/tradeloom/tradeloom/core/event/OrderShipped" "trackingNo" "Ljava/lang/String;").before a0 Z = true := hw _ (List.mem_of_getElem? (i := 69) rfl)
theorem d_prog_58_m1_14 : decode prog_58_method_1_code 14 = .ok (.return_, 1) := by decide +kernel
theorem pn_4 : plainName "com/example/tradeloom/tradeloom/core/event/OrderShipped" = true := by first | (simp [plainName, overriddenIn]; done) | decide +kernel
def Q_osInit (Z : State) (a : Addr) (v0 : Addr) (v1 : Addr) (h0 : Heap) (n0 : Nat) (v : Option Value) (h : Heap) (L : List Loc) : Prop := v = none ∧ Fr n0 L ∧ Keep h0 h [a] ∧ Fld Z h a "com/example/tradeloom/tradeloom/core/event/OrderShipped" "carrier" "Ljava/lang/String;" (.ref v0) ∧ Fld Z h a "com/example/tradeloom/tradeloom/core/event/OrderShipped" "trackingNo" "Ljava/lang/String;" (.ref v1)
set_option maxRecDepth 65536 in
set_option maxHeartbeats 40000000 in
theorem osInit (l : Launch) (Z : State) (a0 : Array Value) (hw : ∀ d ∈ tables_1, d.before a0 Z = true) (a : Addr) (v0 : Addr) (v1 : Addr) (h0 : Heap) (n0 : Nat) (Z0 : n0 ≤ h0.size) (P0 : Exa Z h0 a "com/example/tradeloom/tradeloom/core/event/OrderShipped") (P1 : n0 ≤ a) (P2 : Fld Z h0 a "com/example/tradeloom/tradeloom/core/event/OrderShipped" "carrier" "Ljava/lang/String;" .null) (P3 : Fld Z h0 a "com/example/tradeloom/tradeloom/core/event/OrderShipped" "trackingNo" "Ljava/lang/String;" .null) :
    Con l Z (⟨"com/example/tradeloom/tradeloom/core/event/OrderShipped", "<init>", "(Ljava/lang/String;Ljava/lang/String;)V"⟩ : MethodName) prog_58_method_1_code 3 none ({ frames := 2, cells := 0, slots := 0, locals := 24 } : Room) #[(.ref a), (.ref v0), (.ref v1)] h0 (Q_osInit Z a v0 v1 h0 n0) := by
  refine OwnW.body (Ls := #[.val (.ref a), .val (.ref v0), .val (.ref v1)]) (plainFor_of_name pn_4) (fun m => by first | (simp [entryFrame, mkF, argsToLocals, Value.category]; done) | rfl) ?_
  intro p e s m below meth c s₁ hx hby hml hown hnm hret hlk hZ X0 e0
  let QQ := Q_osInit Z a v0 v1 h0 n0
  have N0 := Fr.nil n0
  show Go p e below (s₁.setTop (mkF m 0 #[.val (.ref a), .val (.ref v0), .val (.ref v1)] [])) (EndQ s below ({ frames := 2, cells := 0, slots := 0, locals := 24 } : Room).cells ({ frames := 2, cells := 0, slots := 0, locals := 24 } : Room).slots QQ)
  refine Go.on (Y' := s₁.setTop (mkF m 1 #[.val (.ref a), .val (.ref v0), .val (.ref v1)] [(.ref a)])) (fun _ k => XS.aloadN X0.here hx rfl (hb hby d_prog_58_m1_0) rfl rfl k) ?_
  obtain ⟨v1, T1, L1, X1, hQ1, st1⟩ := OwnW.callC (y := (⟨"java/lang/Record", "<init>", "()V"⟩ : MethodName)) X0 hx hZ hown rfl (w65 hw) (w37 hw) (w39 hw) (w40 hw) (by decide) (b := a) (recInit l Z a0 hw a h0 n0 Z0 ) e0 (Ls := #[.val (.ref a), .val (.ref v0), .val (.ref v1)]) (by rw [hml]; rfl) pd_4 (argsL := []) rfl (rest := []) rfl (W := 0) rfl (hb hby d_prog_58_m1_1) (by decide) (by decide) (by decide) (by decide)
  obtain ⟨rfl, Nq1, eq1⟩ := hQ1
  have N1 := Fr.app N0 Nq1
  refine Go.on (Y' := T1.setTop (mkF m 4 #[.val (.ref a), .val (.ref v0), .val (.ref v1)] [])) (st1) ?_
  refine Go.on (Y' := T1.setTop (mkF m 5 #[.val (.ref a), .val (.ref v0), .val (.ref v1)] [(.ref a)])) (fun _ k => XS.aloadN X1.here hx rfl (hb hby d_prog_58_m1_4) rfl rfl k) ?_
  refine Go.on (Y' := T1.setTop (mkF m 6 #[.val (.ref a), .val (.ref v0), .val (.ref v1)] [(.ref v0), (.ref a)])) (fun _ k => XS.aloadN X1.here hx rfl (hb hby d_prog_58_m1_5) rfl rfl k) ?_
  obtain ⟨T2, h2, X2, e2, W2, st2⟩ := putF X1 hx hZ hown (host := "") (Or.inl (w66 hw)) Via.refl eq1 P2 P0 (Or.inr ⟨(w67 hw), rfl, hnm⟩) (w51 hw) (ty := (.object "java/lang/String")) (by decide) rfl rfl (g := (mkF m 6 #[.val (.ref a), .val (.ref v0), .val (.ref v1)] [(.ref v0), (.ref a)])) rfl rfl (hb hby d_prog_58_m1_6)
  have Fw2 : Fld Z h2 a "com/example/tradeloom/tradeloom/core/event/OrderShipped" "carrier" "Ljava/lang/String;" (.ref v0) := Fld.same W2 P2
  have N2 := Fr.snoc X2 N1 P1
  refine Go.on (Y' := T2.setTop (mkF m 9 #[.val (.ref a), .val (.ref v0), .val (.ref v1)] [])) (st2) ?_
  refine Go.on (Y' := T2.setTop (mkF m 10 #[.val (.ref a), .val (.ref v0), .val (.ref v1)] [(.ref a)])) (fun _ k => XS.aloadN X2.here hx rfl (hb hby d_prog_58_m1_9) rfl rfl k) ?_
  refine Go.on (Y' := T2.setTop (mkF m 11 #[.val (.ref a), .val (.ref v0), .val (.ref v1)] [(.ref v1), (.ref a)])) (fun _ k => XS.aloadN X2.here hx rfl (hb hby d_prog_58_m1_10) rfl rfl k) ?_
  have c4 : Exa Z h2 a "com/example/tradeloom/tradeloom/core/event/OrderShipped" := Exa.wr W2 P0
  have c5 : Fld Z h2 a "com/example/tradeloom/tradeloom/core/event/OrderShipped" "trackingNo" "Ljava/lang/String;" .null := Fld.other W2 P3 (Or.inr (slot_ne (C := "com/example/tradeloom/tradeloom/core/event/OrderShipped") (Or.inr (w69 hw)) (Or.inr (w67 hw)) (by decide) (t := (.object "java/lang/String")) (t' := (.object "java/lang/String")) (by decide) (by decide)))
  obtain ⟨T3, h3, X3, e3, W3, st3⟩ := putF X2 hx hZ hown (host := "") (Or.inl (w68 hw)) Via.refl e2 c5 c4 (Or.inr ⟨(w69 hw), rfl, hnm⟩) (w51 hw) (ty := (.object "java/lang/String")) (by decide) rfl rfl (g := (mkF m 11 #[.val (.ref a), .val (.ref v0), .val (.ref v1)] [(.ref v1), (.ref a)])) rfl rfl (hb hby d_prog_58_m1_11)
  have Fw3 : Fld Z h3 a "com/example/tradeloom/tradeloom/core/event/OrderShipped" "trackingNo" "Ljava/lang/String;" (.ref v1) := Fld.same W3 c5
  have N3 := Fr.snoc X3 N2 P1
  refine Go.on (Y' := T3.setTop (mkF m 14 #[.val (.ref a), .val (.ref v0), .val (.ref v1)] [])) (st3) ?_
  have K6 : Keep h0 h2 [a] := (Keep.refl h0 [a]).wr W2 (Or.inl (List.mem_of_getElem? (i := 0) rfl))
  have K7 : Keep h0 h3 [a] := K6.wr W3 (Or.inl (List.mem_of_getElem? (i := 0) rfl))
  have c8 : Fld Z h3 a "com/example/tradeloom/tradeloom/core/event/OrderShipped" "carrier" "Ljava/lang/String;" (.ref v0) := Fld.other W3 Fw2 (Or.inr (slot_ne (C := "com/example/tradeloom/tradeloom/core/event/OrderShipped") (Or.inr (w67 hw)) (Or.inr (w69 hw)) (by decide) (t := (.object "java/lang/String")) (t' := (.object "java/lang/String")) (by decide) (by decide)))
  exact OwnW.retV X3 hx hlk hret (hb hby d_prog_58_m1_14) (by decide) (by decide) (show QQ _ T3.heap _ from (by rw [e3]; exact ⟨rfl, N3, K7, c8, Fw3⟩))
theorem d_prog_34_m5_0 : decode prog_34_method_5_code 0 = .ok (.aload_n 0, 1) := by decide +kernel
theorem d_prog_34_m5_1 : decode prog_34_method_5_code 1 = .ok (.getfield 7, 3) := by decide +kernel
theorem d_prog_34_m5_4 : decode prog_34_method_5_code 4 = .ok (.areturn, 1) := by decide +kernel
def Q_sh_carrier (Z : State) (a : Addr) (vv : Addr) (h0 : Heap) (n0 : Nat) (v : Option Value) (h : Heap) (L : List Loc) : Prop := v = some (.ref vv) ∧ Fr n0 L ∧ h = h0
set_option maxRecDepth 65536 in
set_option maxHeartbeats 40000000 in
theorem sh_carrier (l : Launch) (Z : State) (a0 : Array Value) (hw : ∀ d ∈ tables_1, d.before a0 Z = true) (a : Addr) (vv : Addr) (h0 : Heap) (n0 : Nat) (Z0 : n0 ≤ h0.size) (P0 : Fld Z h0 a "com/example/tradeloom/tradeloom/core/Shipment" "carrier" "Ljava/lang/String;" (.ref vv)) :
    Con l Z (⟨"com/example/tradeloom/tradeloom/core/Shipment", "carrier", "()Ljava/lang/String;"⟩ : MethodName) prog_34_method_5_code 1 (some (.object "java/lang/String")) ({ frames := 0, cells := 0, slots := 0, locals := 0 } : Room) #[(.ref a)] h0 (Q_sh_carrier Z a vv h0 n0) := by
  refine OwnW.body (Ls := #[.val (.ref a)]) (plainFor_of_name pn_3) (fun m => by first | (simp [entryFrame, mkF, argsToLocals, Value.category]; done) | rfl) ?_
  intro p e s m below meth c s₁ hx hby hml hown hnm hret hlk hZ X0 e0
  let QQ := Q_sh_carrier Z a vv h0 n0
  have N0 := Fr.nil n0
  show Go p e below (s₁.setTop (mkF m 0 #[.val (.ref a)] [])) (EndQ s below ({ frames := 0, cells := 0, slots := 0, locals := 0 } : Room).cells ({ frames := 0, cells := 0, slots := 0, locals := 0 } : Room).slots QQ)
  refine Go.on (Y' := s₁.setTop (mkF m 1 #[.val (.ref a)] [(.ref a)])) (fun _ k => XS.aloadN X0.here hx rfl (hb hby d_prog_34_m5_0) rfl rfl k) ?_
  obtain ⟨T1, X1, e1, st1⟩ := getF X0 hx hZ hown (host := "") (Or.inl (w42 hw)) Via.refl e0 P0 (g := (mkF m 1 #[.val (.ref a)] [(.ref a)])) rfl rfl (hb hby d_prog_34_m5_1)
  refine Go.on (Y' := T1.setTop (mkF m 4 #[.val (.ref a)] [(.ref vv)])) (st1) ?_
  exact OwnW.retA X1 hx hlk hret rfl rfl (hb hby d_prog_34_m5_4) (by decide) (by decide) (show QQ _ T1.heap _ from ⟨rfl, N0, e1⟩)
theorem d_prog_34_m6_0 : decode prog_34_method_6_code 0 = .ok (.aload_n 0, 1) := by decide +kernel
theorem d_prog_34_m6_1 : decode prog_34_method_6_code 1 = .ok (.getfield 13, 3) := by decide +kernel
theorem d_prog_34_m6_4 : decode prog_34_method_6_code 4 = .ok (.areturn, 1) := by decide +kernel
def Q_sh_trackingNo (Z : State) (a : Addr) (vv : Addr) (h0 : Heap) (n0 : Nat) (v : Option Value) (h : Heap) (L : List Loc) : Prop := v = some (.ref vv) ∧ Fr n0 L ∧ h = h0
set_option maxRecDepth 65536 in
set_option maxHeartbeats 40000000 in
theorem sh_trackingNo (l : Launch) (Z : State) (a0 : Array Value) (hw : ∀ d ∈ tables_1, d.before a0 Z = true) (a : Addr) (vv : Addr) (h0 : Heap) (n0 : Nat) (Z0 : n0 ≤ h0.size) (P0 : Fld Z h0 a "com/example/tradeloom/tradeloom/core/Shipment" "trackingNo" "Ljava/lang/String;" (.ref vv)) :
    Con l Z (⟨"com/example/tradeloom/tradeloom/core/Shipment", "trackingNo", "()Ljava/lang/String;"⟩ : MethodName) prog_34_method_6_code 1 (some (.object "java/lang/String")) ({ frames := 0, cells := 0, slots := 0, locals := 0 } : Room) #[(.ref a)] h0 (Q_sh_trackingNo Z a vv h0 n0) := by
  refine OwnW.body (Ls := #[.val (.ref a)]) (plainFor_of_name pn_3) (fun m => by first | (simp [entryFrame, mkF, argsToLocals, Value.category]; done) | rfl) ?_
  intro p e s m below meth c s₁ hx hby hml hown hnm hret hlk hZ X0 e0
  let QQ := Q_sh_trackingNo Z a vv h0 n0
  have N0 := Fr.nil n0
  show Go p e below (s₁.setTop (mkF m 0 #[.val (.ref a)] [])) (EndQ s below ({ frames := 0, cells := 0, slots := 0, locals := 0 } : Room).cells ({ frames := 0, cells := 0, slots := 0, locals := 0 } : Room).slots QQ)
  refine Go.on (Y' := s₁.setTop (mkF m 1 #[.val (.ref a)] [(.ref a)])) (fun _ k => XS.aloadN X0.here hx rfl (hb hby d_prog_34_m6_0) rfl rfl k) ?_
  obtain ⟨T1, X1, e1, st1⟩ := getF X0 hx hZ hown (host := "") (Or.inl (w44 hw)) Via.refl e0 P0 (g := (mkF m 1 #[.val (.ref a)] [(.ref a)])) rfl rfl (hb hby d_prog_34_m6_1)
  refine Go.on (Y' := T1.setTop (mkF m 4 #[.val (.ref a)] [(.ref vv)])) (st1) ?_
  exact OwnW.retA X1 hx hlk hret rfl rfl (hb hby d_prog_34_m6_4) (by decide) (by decide) (show QQ _ T1.heap _ from ⟨rfl, N0, e1⟩)
theorem d_prog_58_m7_0 : decode prog_58_method_7_code 0 = .ok (.aload_n 0, 1) := by decide +kernel
theorem d_prog_58_m7_1 : decode prog_58_method_7_code 1 = .ok (.getfield 7, 3) := by decide +kernel
theorem d_prog_58_m7_4 : decode prog_58_method_7_code 4 = .ok (.areturn, 1) := by decide +kernel
def Q_os_carrier (Z : State) (a : Addr) (vv : Addr) (h0 : Heap) (n0 : Nat) (v : Option Value) (h : Heap) (L : List Loc) : Prop := v = some (.ref vv) ∧ Fr n0 L ∧ h = h0
set_option maxRecDepth 65536 in
set_option maxHeartbeats 40000000 in
theorem os_carrier (l : Launch) (Z : State) (a0 : Array Value) (hw : ∀ d ∈ tables_1, d.before a0 Z = true) (a : Addr) (vv : Addr) (h0 : Heap) (n0 : Nat) (Z0 : n0 ≤ h0.size) (P0 : Fld Z h0 a "com/example/tradeloom/tradeloom/core/event/OrderShipped" "carrier" "Ljava/lang/String;" (.ref vv)) :
    Con l Z (⟨"com/example/tradeloom/tradeloom/core/event/OrderShipped", "carrier", "()Ljava/lang/String;"⟩ : MethodName) prog_58_method_7_code 1 (some (.object "java/lang/String")) ({ frames := 0, cells := 0, slots := 0, locals := 0 } : Room) #[(.ref a)] h0 (Q_os_carrier Z a vv h0 n0) := by
  refine OwnW.body (Ls := #[.val (.ref a)]) (plainFor_of_name pn_4) (fun m => by first | (simp [entryFrame, mkF, argsToLocals, Value.category]; done) | rfl) ?_
  intro p e s m below meth c s₁ hx hby hml hown hnm hret hlk hZ X0 e0
  let QQ := Q_os_carrier Z a vv h0 n0
  have N0 := Fr.nil n0
  show Go p e below (s₁.setTop (mkF m 0 #[.val (.ref a)] [])) (EndQ s below ({ frames := 0, cells := 0, slots := 0, locals := 0 } : Room).cells ({ frames := 0, cells := 0, slots := 0, locals := 0 } : Room).slots QQ)
  refine Go.on (Y' := s₁.setTop (mkF m 1 #[.val (.ref a)] [(.ref a)])) (fun _ k => XS.aloadN X0.here hx rfl (hb hby d_prog_58_m7_0) rfl rfl k) ?_
  obtain ⟨T1, X1, e1, st1⟩ := getF X0 hx hZ hown (host := "") (Or.inl (w66 hw)) Via.refl e0 P0 (g := (mkF m 1 #[.val (.ref a)] [(.ref a)])) rfl rfl (hb hby d_prog_58_m7_1)
  refine Go.on (Y' := T1.setTop (mkF m 4 #[.val (.ref a)] [(.ref vv)])) (st1) ?_
  exact OwnW.retA X1 hx hlk hret rfl rfl (hb hby d_prog_58_m7_4) (by decide) (by decide) (show QQ _ T1.heap _ from ⟨rfl, N0, e1⟩)
theorem d_prog_58_m8_0 : decode prog_58_method_8_code 0 = .ok (.aload_n 0, 1) := by decide +kernel
theorem d_prog_58_m8_1 : decode prog_58_method_8_code 1 = .ok (.getfield 13, 3) := by decide +kernel
theorem d_prog_58_m8_4 : decode prog_58_method_8_code 4 = .ok (.areturn, 1) := by decide +kernel
def Q_os_trackingNo (Z : State) (a : Addr) (vv : Addr) (h0 : Heap) (n0 : Nat) (v : Option Value) (h : Heap) (L : List Loc) : Prop := v = some (.ref vv) ∧ Fr n0 L ∧ h = h0
set_option maxRecDepth 65536 in
set_option maxHeartbeats 40000000 in
theorem os_trackingNo (l : Launch) (Z : State) (a0 : Array Value) (hw : ∀ d ∈ tables_1, d.before a0 Z = true) (a : Addr) (vv : Addr) (h0 : Heap) (n0 : Nat) (Z0 : n0 ≤ h0.size) (P0 : Fld Z h0 a "com/example/tradeloom/tradeloom/core/event/OrderShipped" "trackingNo" "Ljava/lang/String;" (.ref vv)) :
    Con l Z (⟨"com/example/tradeloom/tradeloom/core/event/OrderShipped", "trackingNo", "()Ljava/lang/String;"⟩ : MethodName) prog_58_method_8_code 1 (some (.object "java/lang/String")) ({ frames := 0, cells := 0, slots := 0, locals := 0 } : Room) #[(.ref a)] h0 (Q_os_trackingNo Z a vv h0 n0) := by
  refine OwnW.body (Ls := #[.val (.ref a)]) (plainFor_of_name pn_4) (fun m => by first | (simp [entryFrame, mkF, argsToLocals, Value.category]; done) | rfl) ?_
  intro p e s m below meth c s₁ hx hby hml hown hnm hret hlk hZ X0 e0
  let QQ := Q_os_trackingNo Z a vv h0 n0
  have N0 := Fr.nil n0
  show Go p e below (s₁.setTop (mkF m 0 #[.val (.ref a)] [])) (EndQ s below ({ frames := 0, cells := 0, slots := 0, locals := 0 } : Room).cells ({ frames := 0, cells := 0, slots := 0, locals := 0 } : Room).slots QQ)
  refine Go.on (Y' := s₁.setTop (mkF m 1 #[.val (.ref a)] [(.ref a)])) (fun _ k => XS.aloadN X0.here hx rfl (hb hby d_prog_58_m8_0) rfl rfl k) ?_
  obtain ⟨T1, X1, e1, st1⟩ := getF X0 hx hZ hown (host := "") (Or.inl (w68 hw)) Via.refl e0 P0 (g := (mkF m 1 #[.val (.ref a)] [(.ref a)])) rfl rfl (hb hby d_prog_58_m8_1)
  refine Go.on (Y' := T1.setTop (mkF m 4 #[.val (.ref a)] [(.ref vv)])) (st1) ?_
  exact OwnW.retA X1 hx hlk hret rfl rfl (hb hby d_prog_58_m8_4) (by decide) (by decide) (show QQ _ T1.heap _ from ⟨rfl, N0, e1⟩)
theorem d_prog_58_m2_0 : decode prog_58_method_2_code 0 = .ok (.new 8, 3) := by decide +kernel
theorem w50 {Z : State} {a0 : Array Value} (hw : ∀ d ∈ tables_1, d.before a0 Z = true) : (Jvm.Cond.classLink "com/example/tradeloom/tradeloom/core/event/OrderShipped" (8 : Nat) "com/example/tradeloom/tradeloom/core/event/OrderShipped").before a0 Z = true := hw _ (List.mem_of_getElem? (i := 50) rfl)
theorem w48 {Z : State} {a0 : Array Value} (hw : ∀ d ∈ tables_1, d.before a0 Z = true) : (Jvm.Cond.initialized "com/example/tradeloom/tradeloom/core/event/OrderShipped").before a0 Z = true := hw _ (List.mem_of_getElem? (i := 48) rfl)
theorem d_prog_58_m2_3 : decode prog_58_method_2_code 3 = .ok (.dup, 1) := by decide +kernel
theorem d_prog_58_m2_4 : decode prog_58_method_2_code 4 = .ok (.aload_n 0, 1) := by decide +kernel
theorem d_prog_58_m2_5 : decode prog_58_method_2_code 5 = .ok (.invokevirtual 16, 3) := by decide +kernel
theorem w55 {Z : State} {a0 : Array Value} (hw : ∀ d ∈ tables_1, d.before a0 Z = true) : (Jvm.Cond.selects "com/example/tradeloom/tradeloom/core/Shipment" ({ cls := "com/example/tradeloom/tradeloom/core/Shipment", name := "carrier", desc := "()Ljava/lang/String;" } : Jvm.MethodName) ({ cls := "com/example/tradeloom/tradeloom/core/Shipment", name := "carrier", desc := "()Ljava/lang/String;" } : Jvm.MethodName)).before a0 Z = true := hw _ (List.mem_of_getElem? (i := 55) rfl)
theorem w56 {Z : State} {a0 : Array Value} (hw : ∀ d ∈ tables_1, d.before a0 Z = true) : (Jvm.Cond.code ({ cls := "com/example/tradeloom/tradeloom/core/Shipment", name := "carrier", desc := "()Ljava/lang/String;" } : Jvm.MethodName) prog_34_method_5_code (1 : Nat) (Option.some (Jvm.ClassFile.FieldType.object "java/lang/String"))).before a0 Z = true := hw _ (List.mem_of_getElem? (i := 56) rfl)
theorem w52 {Z : State} {a0 : Array Value} (hw : ∀ d ∈ tables_1, d.before a0 Z = true) : (Jvm.Cond.methodLink "com/example/tradeloom/tradeloom/core/event/OrderShipped" (16 : Nat) ({ cls := "com/example/tradeloom/tradeloom/core/Shipment", name := "carrier", desc := "()Ljava/lang/String;" } : Jvm.MethodName)).before a0 Z = true := hw _ (List.mem_of_getElem? (i := 52) rfl)
theorem w53 {Z : State} {a0 : Array Value} (hw : ∀ d ∈ tables_1, d.before a0 Z = true) : (Jvm.Cond.declares ({ cls := "com/example/tradeloom/tradeloom/core/Shipment", name := "carrier", desc := "()Ljava/lang/String;" } : Jvm.MethodName)).before a0 Z = true := hw _ (List.mem_of_getElem? (i := 53) rfl)
theorem w54 {Z : State} {a0 : Array Value} (hw : ∀ d ∈ tables_1, d.before a0 Z = true) : (Jvm.Cond.instanceMethod ({ cls := "com/example/tradeloom/tradeloom/core/Shipment", name := "carrier", desc := "()Ljava/lang/String;" } : Jvm.MethodName)).before a0 Z = true := hw _ (List.mem_of_getElem? (i := 54) rfl)
theorem w32 {Z : State} {a0 : Array Value} (hw : ∀ d ∈ tables_1, d.before a0 Z = true) : (Jvm.Cond.initialized "com/example/tradeloom/tradeloom/core/Shipment").before a0 Z = true := hw _ (List.mem_of_getElem? (i := 32) rfl)
theorem pd_5 : parseMethodDescriptor "()Ljava/lang/String;" = some ⟨[], some (.object "java/lang/String")⟩ := by decide +kernel
theorem d_prog_58_m2_8 : decode prog_58_method_2_code 8 = .ok (.aload_n 0, 1) := by decide +kernel
theorem d_prog_58_m2_9 : decode prog_58_method_2_code 9 = .ok (.invokevirtual 21, 3) := by decide +kernel
theorem w60 {Z : State} {a0 : Array Value} (hw : ∀ d ∈ tables_1, d.before a0 Z = true) : (Jvm.Cond.selects "com/example/tradeloom/tradeloom/core/Shipment" ({ cls := "com/example/tradeloom/tradeloom/core/Shipment", name := "trackingNo", desc := "()Ljava/lang/String;" } : Jvm.MethodName) ({ cls := "com/example/tradeloom/tradeloom/core/Shipment", name := "trackingNo", desc := "()Ljava/lang/String;" } : Jvm.MethodName)).before a0 Z = true := hw _ (List.mem_of_getElem? (i := 60) rfl)
theorem w61 {Z : State} {a0 : Array Value} (hw : ∀ d ∈ tables_1, d.before a0 Z = true) : (Jvm.Cond.code ({ cls := "com/example/tradeloom/tradeloom/core/Shipment", name := "trackingNo", desc := "()Ljava/lang/String;" } : Jvm.MethodName) prog_34_method_6_code (1 : Nat) (Option.some (Jvm.ClassFile.FieldType.object "java/lang/String"))).before a0 Z = true := hw _ (List.mem_of_getElem? (i := 61) rfl)
theorem w57 {Z : State} {a0 : Array Value} (hw : ∀ d ∈ tables_1, d.before a0 Z = true) : (Jvm.Cond.methodLink "com/example/tradeloom/tradeloom/core/event/OrderShipped" (21 : Nat) ({ cls := "com/example/tradeloom/tradeloom/core/Shipment", name := "trackingNo", desc := "()Ljava/lang/String;" } : Jvm.MethodName)).before a0 Z = true := hw _ (List.mem_of_getElem? (i := 57) rfl)
theorem w58 {Z : State} {a0 : Array Value} (hw : ∀ d ∈ tables_1, d.before a0 Z = true) : (Jvm.Cond.declares ({ cls := "com/example/tradeloom/tradeloom/core/Shipment", name := "trackingNo", desc := "()Ljava/lang/String;" } : Jvm.MethodName)).before a0 Z = true := hw _ (List.mem_of_getElem? (i := 58) rfl)
theorem w59 {Z : State} {a0 : Array Value} (hw : ∀ d ∈ tables_1, d.before a0 Z = true) : (Jvm.Cond.instanceMethod ({ cls := "com/example/tradeloom/tradeloom/core/Shipment", name := "trackingNo", desc := "()Ljava/lang/String;" } : Jvm.MethodName)).before a0 Z = true := hw _ (List.mem_of_getElem? (i := 59) rfl)
theorem d_prog_58_m2_12 : decode prog_58_method_2_code 12 = .ok (.invokespecial 23, 3) := by decide +kernel
theorem w64 {Z : State} {a0 : Array Value} (hw : ∀ d ∈ tables_1, d.before a0 Z = true) : (Jvm.Cond.code ({ cls := "com/example/tradeloom/tradeloom/core/event/OrderShipped", name := "<init>", desc := "(Ljava/lang/String;Ljava/lang/String;)V" } : Jvm.MethodName) prog_58_method_1_code (3 : Nat) (Option.none : Option Jvm.ClassFile.FieldType)).before a0 Z = true := hw _ (List.mem_of_getElem? (i := 64) rfl)
theorem w62 {Z : State} {a0 : Array Value} (hw : ∀ d ∈ tables_1, d.before a0 Z = true) : (Jvm.Cond.methodLink "com/example/tradeloom/tradeloom/core/event/OrderShipped" (23 : Nat) ({ cls := "com/example/tradeloom/tradeloom/core/event/OrderShipped", name := "<init>", desc := "(Ljava/lang/String;Ljava/lang/String;)V" } : Jvm.MethodName)).before a0 Z = true := hw _ (List.mem_of_getElem? (i := 62) rfl)
theorem w63 {Z : State} {a0 : Array Value} (hw : ∀ d ∈ tables_1, d.before a0 Z = true) : (Jvm.Cond.instanceMethod ({ cls := "com/example/tradeloom/tradeloom/core/event/OrderShipped", name := "<init>", desc := "(Ljava/lang/String;Ljava/lang/String;)V" } : Jvm.MethodName)).before a0 Z = true := hw _ (List.mem_of_getElem? (i := 63) rfl)
theorem pd_6 : parseMethodDescriptor "(Ljava/lang/String;Ljava/lang/String;)V" = some ⟨[(.object "java/lang/String"), (.object "java/lang/String")], none⟩ := by decide +kernel
theorem d_prog_58_m2_15 : decode prog_58_method_2_code 15 = .ok (.areturn, 1) := by decide +kernel
def Q_osOf (Z : State) (a : Addr) (sc : Addr) (tn : Addr) (h0 : Heap) (n0 : Nat) (v : Option Value) (h : Heap) (L : List Loc) : Prop := ∃ b : Addr, v = some (.ref b) ∧ Fr n0 L ∧ Keep h0 h [] ∧ h0.size ≤ b ∧ Exa Z h b "com/example/tradeloom/tradeloom/core/event/OrderShipped" ∧ Fld Z h b "com/example/tradeloom/tradeloom/core/event/OrderShipped" "carrier" "Ljava/lang/String;" (.ref sc) ∧ Fld Z h b "com/example/tradeloom/tradeloom/core/event/OrderShipped" "trackingNo" "Ljava/lang/String;" (.ref tn)
set_option maxRecDepth 65536 in
set_option maxHeartbeats 40000000 in
theorem osOf (l : Launch) (Z : State) (a0 : Array Value) (hw : ∀ d ∈ tables_1, d.before a0 Z = true) (a : Addr) (sc : Addr) (tn : Addr) (h0 : Heap) (n0 : Nat) (Z0 : n0 ≤ h0.size) (P0 : Exa Z h0 a "com/example/tradeloom/tradeloom/core/Shipment") (P1 : Fld Z h0 a "com/example/tradeloom/tradeloom/core/Shipment" "carrier" "Ljava/lang/String;" (.ref sc)) (P2 : Fld Z h0 a "com/example/tradeloom/tradeloom/core/Shipment" "trackingNo" "Ljava/lang/String;" (.ref tn)) :
    Con l Z (⟨"com/example/tradeloom/tradeloom/core/event/OrderShipped", "of", "(Lcom/example/tradeloom/tradeloom/core/Shipment;)Lcom/example/tradeloom/tradeloom/core/event/OrderShipped;"⟩ : MethodName) prog_58_method_2_code 1 (some (.object "com/example/tradeloom/tradeloom/core/event/OrderShipped")) ({ frames := 3, cells := 1, slots := 2, locals := 39 } : Room) #[(.ref a)] h0 (Q_osOf Z a sc tn h0 n0) := by
  refine OwnW.body (Ls := #[.val (.ref a)]) (plainFor_of_name pn_4) (fun m => by first | (simp [entryFrame, mkF, argsToLocals, Value.category]; done) | rfl) ?_
  intro p e s m below meth c s₁ hx hby hml hown hnm hret hlk hZ X0 e0
  let QQ := Q_osOf Z a sc tn h0 n0
  have N0 := Fr.nil n0
  show Go p e below (s₁.setTop (mkF m 0 #[.val (.ref a)] [])) (EndQ s below ({ frames := 3, cells := 1, slots := 2, locals := 39 } : Room).cells ({ frames := 3, cells := 1, slots := 2, locals := 39 } : Room).slots QQ)
  obtain ⟨T1, h1, b1, X1, e1, E1, s1, A1, D1, st1⟩ := OwnW.newO X0 hx hZ hown (w50 hw) (w51 hw) (w48 hw) e0 (Ls := #[.val (.ref a)]) (st := []) (hb hby d_prog_58_m2_0) (by decide) (by decide)
  have F1_carrier : Fld Z h1 b1 "com/example/tradeloom/tradeloom/core/event/OrderShipped" "carrier" "Ljava/lang/String;" .null := D1 (Or.inr (w67 hw)) (ty := (.object "java/lang/String")) (by decide)
  have F1_trackingNo : Fld Z h1 b1 "com/example/tradeloom/tradeloom/core/event/OrderShipped" "trackingNo" "Ljava/lang/String;" .null := D1 (Or.inr (w69 hw)) (ty := (.object "java/lang/String")) (by decide)
  refine Go.on (Y' := T1.setTop (mkF m 3 #[.val (.ref a)] [(.ref b1)])) (st1) ?_
  refine Go.on (Y' := T1.setTop (mkF m 4 #[.val (.ref a)] [(.ref b1), (.ref b1)])) (fun _ k => XS.dup X1.here hx rfl (hb hby d_prog_58_m2_3) rfl rfl k) ?_
  refine Go.on (Y' := T1.setTop (mkF m 5 #[.val (.ref a)] [(.ref a), (.ref b1), (.ref b1)])) (fun _ k => XS.aloadN X1.here hx rfl (hb hby d_prog_58_m2_4) rfl rfl k) ?_
  have c3 : Exa Z h1 a "com/example/tradeloom/tradeloom/core/Shipment" := Exa.ext E1 P0
  have c4 : Fld Z h1 a "com/example/tradeloom/tradeloom/core/Shipment" "carrier" "Ljava/lang/String;" (.ref sc) := Fld.ext E1 P1
  have Z5 : n0 ≤ h1.size := Nat.le_trans Z0 E1.1
  obtain ⟨v2, T2, L2, X2, hQ2, st2⟩ := OwnW.callV (y := (⟨"com/example/tradeloom/tradeloom/core/Shipment", "carrier", "()Ljava/lang/String;"⟩ : MethodName)) (z := (⟨"com/example/tradeloom/tradeloom/core/Shipment", "carrier", "()Ljava/lang/String;"⟩ : MethodName)) X1 hx hZ hown (w52 hw) (w53 hw) (notFace_of_selects (args := #[]) (mvT hZ (w55 hw))) (w55 hw) (w54 hw) (w32 hw) (w56 hw) (by decide) (b := a) (sh_carrier l Z a0 hw a sc h1 n0 Z5 c4) e1 c3 (Ls := #[.val (.ref a)]) (by rw [hml]; rfl) pd_5 (argsL := []) rfl (rest := [(.ref b1), (.ref b1)]) rfl (W := 2) rfl (hb hby d_prog_58_m2_5) (by decide) (by decide) (by decide) (by decide)
  obtain ⟨rfl, Nq2, eq2⟩ := hQ2
  have N2 := Fr.app N0 Nq2
  refine Go.on (Y' := T2.setTop (mkF m 8 #[.val (.ref a)] [(.ref sc), (.ref b1), (.ref b1)])) (st2) ?_
  refine Go.on (Y' := T2.setTop (mkF m 9 #[.val (.ref a)] [(.ref a), (.ref sc), (.ref b1), (.ref b1)])) (fun _ k => XS.aloadN X2.here hx rfl (hb hby d_prog_58_m2_8) rfl rfl k) ?_
  have c7 : Fld Z h1 a "com/example/tradeloom/tradeloom/core/Shipment" "trackingNo" "Ljava/lang/String;" (.ref tn) := Fld.ext E1 P2
  obtain ⟨v6, T6, L6, X6, hQ6, st6⟩ := OwnW.callV (y := (⟨"com/example/tradeloom/tradeloom/core/Shipment", "trackingNo", "()Ljava/lang/String;"⟩ : MethodName)) (z := (⟨"com/example/tradeloom/tradeloom/core/Shipment", "trackingNo", "()Ljava/lang/String;"⟩ : MethodName)) X2 hx hZ hown (w57 hw) (w58 hw) (notFace_of_selects (args := #[]) (mvT hZ (w60 hw))) (w60 hw) (w59 hw) (w32 hw) (w61 hw) (by decide) (b := a) (sh_trackingNo l Z a0 hw a tn h1 n0 Z5 c7) eq2 c3 (Ls := #[.val (.ref a)]) (by rw [hml]; rfl) pd_5 (argsL := []) rfl (rest := [(.ref sc), (.ref b1), (.ref b1)]) rfl (W := 3) rfl (hb hby d_prog_58_m2_9) (by decide) (by decide) (by decide) (by decide)
  obtain ⟨rfl, Nq6, eq6⟩ := hQ6
  have N6 := Fr.app N2 Nq6
  refine Go.on (Y' := T6.setTop (mkF m 12 #[.val (.ref a)] [(.ref tn), (.ref sc), (.ref b1), (.ref b1)])) (st6) ?_
  have g9 : n0 ≤ b1 := Nat.le_trans Z0 s1
  obtain ⟨v8, T8, L8, X8, hQ8, st8⟩ := OwnW.callC (y := (⟨"com/example/tradeloom/tradeloom/core/event/OrderShipped", "<init>", "(Ljava/lang/String;Ljava/lang/String;)V"⟩ : MethodName)) X6 hx hZ hown rfl (w62 hw) (w63 hw) (w48 hw) (w64 hw) (by decide) (b := b1) (osInit l Z a0 hw b1 sc tn h1 n0 Z5 A1 g9 F1_carrier F1_trackingNo) eq6 (Ls := #[.val (.ref a)]) (by rw [hml]; rfl) pd_6 (argsL := [(.ref sc), (.ref tn)]) rfl (rest := [(.ref b1)]) rfl (W := 1) rfl (hb hby d_prog_58_m2_12) (by decide) (by decide) (by decide) (by decide)
  obtain ⟨rfl, Nq8, Kq8, q8_0, q8_1⟩ := hQ8
  have N8 := Fr.app N6 Nq8
  refine Go.on (Y' := T8.setTop (mkF m 15 #[.val (.ref a)] [(.ref b1)])) (st8) ?_
  have K10 : Keep h0 h1 [] := (Keep.refl h0 []).ext E1
  have K11 : Keep h0 T8.heap [] := K10.trans Kq8 (allS (Or.inr (Nat.le_trans (Nat.le_refl _) s1)) all0)
  have c12 : Exa Z T8.heap b1 "com/example/tradeloom/tradeloom/core/event/OrderShipped" := Exa.keep A1 Kq8
  exact OwnW.retA X8 hx hlk hret rfl rfl (hb hby d_prog_58_m2_15) (by decide) (by decide) (show QQ _ T8.heap _ from ⟨b1, rfl, N8, K11, (Nat.le_trans (Nat.le_refl _) s1), c12, q8_0, q8_1⟩)
theorem d_prog_58_m3_0 : decode prog_58_method_3_code 0 = .ok (.getstatic 26, 3) := by decide +kernel
theorem w90 {Z : State} {a0 : Array Value} (hw : ∀ d ∈ tables_1, d.before a0 Z = true) : (Jvm.Cond.fieldLink "com/example/tradeloom/tradeloom/core/event/OrderShipped" (26 : Nat) "com/example/tradeloom/tradeloom/core/event/EventType" "ORDER_SHIPPED" "Lcom/example/tradeloom/tradeloom/core/event/EventType;").before a0 Z = true := hw _ (List.mem_of_getElem? (i := 90) rfl)
theorem d_prog_58_m3_3 : decode prog_58_method_3_code 3 = .ok (.areturn, 1) := by decide +kernel
def Q_osType (Z : State) (a : Addr) (wE : Addr) (h0 : Heap) (n0 : Nat) (v : Option Value) (h : Heap) (L : List Loc) : Prop := v = some (.ref wE) ∧ Fr n0 L ∧ h = h0
set_option maxRecDepth 65536 in
set_option maxHeartbeats 40000000 in
theorem osType (l : Launch) (Z : State) (a0 : Array Value) (hw : ∀ d ∈ tables_1, d.before a0 Z = true) (a : Addr) (wE : Addr) (h0 : Heap) (n0 : Nat) (Z0 : n0 ≤ h0.size) (O0 : Old Z n0 h0) (P0 : Sta Z Z.heap "com/example/tradeloom/tradeloom/core/event/EventType" "ORDER_SHIPPED" "Lcom/example/tradeloom/tradeloom/core/event/EventType;" (.ref wE)) :
    Con l Z (⟨"com/example/tradeloom/tradeloom/core/event/OrderShipped", "type", "()Lcom/example/tradeloom/tradeloom/core/event/EventType;"⟩ : MethodName) prog_58_method_3_code 1 (some (.object "com/example/tradeloom/tradeloom/core/event/EventType")) ({ frames := 0, cells := 0, slots := 0, locals := 0 } : Room) #[(.ref a)] h0 (Q_osType Z a wE h0 n0) := by
  refine OwnW.body (Ls := #[.val (.ref a)]) (plainFor_of_name pn_4) (fun m => by first | (simp [entryFrame, mkF, argsToLocals, Value.category]; done) | rfl) ?_
  intro p e s m below meth c s₁ hx hby hml hown hnm hret hlk hZ X0 e0
  let QQ := Q_osType Z a wE h0 n0
  have N0 := Fr.nil n0
  show Go p e below (s₁.setTop (mkF m 0 #[.val (.ref a)] [])) (EndQ s below ({ frames := 0, cells := 0, slots := 0, locals := 0 } : Room).cells ({ frames := 0, cells := 0, slots := 0, locals := 0 } : Room).slots QQ)
  have s2 : Sta Z h0 "com/example/tradeloom/tradeloom/core/event/EventType" "ORDER_SHIPPED" "Lcom/example/tradeloom/tradeloom/core/event/EventType;" (.ref wE) := Sta.ext O0.2 P0
  obtain ⟨T1, X1, e1, st1⟩ := getS2 X0 hx hZ hown (host := "") (Or.inl (w90 hw)) Via.refl e0 s2 (g := (mkF m 0 #[.val (.ref a)] [])) rfl (hb hby d_prog_58_m3_0)
  refine Go.on (Y' := T1.setTop (mkF m 3 #[.val (.ref a)] [(.ref wE)])) (st1) ?_
  exact OwnW.retA X1 hx hlk hret rfl rfl (hb hby d_prog_58_m3_3) (by decide) (by decide) (show QQ _ T1.heap _ from ⟨rfl, N0, e1⟩)
theorem w0 {Z : State} {a0 : Array Value} (hw : ∀ d ∈ tables_1, d.before a0 Z = true) : (Jvm.Cond.arrayClass Jvm.ClassFile.FieldType.char).before a0 Z = true := hw _ (List.mem_of_getElem? (i := 0) rfl)
theorem w1 {Z : State} {a0 : Array Value} (hw : ∀ d ∈ tables_1, d.before a0 Z = true) : (Jvm.Cond.classLink "com/example/tradeloom/tradeloom/core/event/OrderShippedOfPinLaw" (7 : Nat) "java/lang/String").before a0 Z = true := hw _ (List.mem_of_getElem? (i := 1) rfl)
theorem w6 {Z : State} {a0 : Array Value} (hw : ∀ d ∈ tables_1, d.before a0 Z = true) : (Jvm.Cond.code ({ cls := "java/lang/String", name := "<init>", desc := "([C)V" } : Jvm.MethodName) jdk_42_method_3_code (2 : Nat) (Option.none : Option Jvm.ClassFile.FieldType)).before a0 Z = true := hw _ (List.mem_of_getElem? (i := 6) rfl)
theorem w4 {Z : State} {a0 : Array Value} (hw : ∀ d ∈ tables_1, d.before a0 Z = true) : (Jvm.Cond.methodLink "com/example/tradeloom/tradeloom/core/event/OrderShippedOfPinLaw" (9 : Nat) ({ cls := "java/lang/String", name := "<init>", desc := "([C)V" } : Jvm.MethodName)).before a0 Z = true := hw _ (List.mem_of_getElem? (i := 4) rfl)
theorem w5 {Z : State} {a0 : Array Value} (hw : ∀ d ∈ tables_1, d.before a0 Z = true) : (Jvm.Cond.instanceMethod ({ cls := "java/lang/String", name := "<init>", desc := "([C)V" } : Jvm.MethodName)).before a0 Z = true := hw _ (List.mem_of_getElem? (i := 5) rfl)
theorem pd_7 : parseMethodDescriptor "([C)V" = some ⟨[(.array .char)], none⟩ := by decide +kernel
theorem w30 {Z : State} {a0 : Array Value} (hw : ∀ d ∈ tables_1, d.before a0 Z = true) : (Jvm.Cond.classLink "com/example/tradeloom/tradeloom/core/event/OrderShippedOfPinLaw" (12 : Nat) "com/example/tradeloom/tradeloom/core/Shipment").before a0 Z = true := hw _ (List.mem_of_getElem? (i := 30) rfl)
theorem w35 {Z : State} {a0 : Array Value} (hw : ∀ d ∈ tables_1, d.before a0 Z = true) : (Jvm.Cond.code ({ cls := "com/example/tradeloom/tradeloom/core/Shipment", name := "<init>", desc := "(Ljava/lang/String;Ljava/lang/String;)V" } : Jvm.MethodName) prog_34_method_1_code (3 : Nat) (Option.none : Option Jvm.ClassFile.FieldType)).before a0 Z = true := hw _ (List.mem_of_getElem? (i := 35) rfl)
theorem w33 {Z : State} {a0 : Array Value} (hw : ∀ d ∈ tables_1, d.before a0 Z = true) : (Jvm.Cond.methodLink "com/example/tradeloom/tradeloom/core/event/OrderShippedOfPinLaw" (14 : Nat) ({ cls := "com/example/tradeloom/tradeloom/core/Shipment", name := "<init>", desc := "(Ljava/lang/String;Ljava/lang/String;)V" } : Jvm.MethodName)).before a0 Z = true := hw _ (List.mem_of_getElem? (i := 33) rfl)
theorem w34 {Z : State} {a0 : Array Value} (hw : ∀ d ∈ tables_1, d.before a0 Z = true) : (Jvm.Cond.instanceMethod ({ cls := "com/example/tradeloom/tradeloom/core/Shipment", name := "<init>", desc := "(Ljava/lang/String;Ljava/lang/String;)V" } : Jvm.MethodName)).before a0 Z = true := hw _ (List.mem_of_getElem? (i := 34) rfl)
theorem w49 {Z : State} {a0 : Array Value} (hw : ∀ d ∈ tables_1, d.before a0 Z = true) : (Jvm.Cond.code ({ cls := "com/example/tradeloom/tradeloom/core/event/OrderShipped", name := "of", desc := "(Lcom/example/tradeloom/tradeloom/core/Shipment;)Lcom/example/tradeloom/tradeloom/core/event/OrderShipped;" } : Jvm.MethodName) prog_58_method_2_code (1 : Nat) (Option.some (Jvm.ClassFile.FieldType.object "com/example/tradeloom/tradeloom/core/event/OrderShipped"))).before a0 Z = true := hw _ (List.mem_of_getElem? (i := 49) rfl)
theorem w46 {Z : State} {a0 : Array Value} (hw : ∀ d ∈ tables_1, d.before a0 Z = true) : (Jvm.Cond.methodLink "com/example/tradeloom/tradeloom/core/event/OrderShippedOfPinLaw" (17 : Nat) ({ cls := "com/example/tradeloom/tradeloom/core/event/OrderShipped", name := "of", desc := "(Lcom/example/tradeloom/tradeloom/core/Shipment;)Lcom/example/tradeloom/tradeloom/core/event/OrderShipped;" } : Jvm.MethodName)).before a0 Z = true := hw _ (List.mem_of_getElem? (i := 46) rfl)
theorem w47 {Z : State} {a0 : Array Value} (hw : ∀ d ∈ tables_1, d.before a0 Z = true) : (Jvm.Cond.static ({ cls := "com/example/tradeloom/tradeloom/core/event/OrderShipped", name := "of", desc := "(Lcom/example/tradeloom/tradeloom/core/Shipment;)Lcom/example/tradeloom/tradeloom/core/event/OrderShipped;" } : Jvm.MethodName)).before a0 Z = true := hw _ (List.mem_of_getElem? (i := 47) rfl)
theorem pd_8 : parseMethodDescriptor "(Lcom/example/tradeloom/tradeloom/core/Shipment;)Lcom/example/tradeloom/tradeloom/core/event/OrderShipped;" = some ⟨[(.object "com/example/tradeloom/tradeloom/core/Shipment")], some (.object "com/example/tradeloom/tradeloom/core/event/OrderShipped")⟩ := by decide +kernel
theorem w73 {Z : State} {a0 : Array Value} (hw : ∀ d ∈ tables_1, d.before a0 Z = true) : (Jvm.Cond.selects "com/example/tradeloom/tradeloom/core/event/OrderShipped" ({ cls := "com/example/tradeloom/tradeloom/core/event/OrderShipped", name := "carrier", desc := "()Ljava/lang/String;" } : Jvm.MethodName) ({ cls := "com/example/tradeloom/tradeloom/core/event/OrderShipped", name := "carrier", desc := "()Ljava/lang/String;" } : Jvm.MethodName)).before a0 Z = true := hw _ (List.mem_of_getElem? (i := 73) rfl)
theorem w74 {Z : State} {a0 : Array Value} (hw : ∀ d ∈ tables_1, d.before a0 Z = true) : (Jvm.Cond.code ({ cls := "com/example/tradeloom/tradeloom/core/event/OrderShipped", name := "carrier", desc := "()Ljava/lang/String;" } : Jvm.MethodName) prog_58_method_7_code (1 : Nat) (Option.some (Jvm.ClassFile.FieldType.object "java/lang/String"))).before a0 Z = true := hw _ (List.mem_of_getElem? (i := 74) rfl)
theorem w70 {Z : State} {a0 : Array Value} (hw : ∀ d ∈ tables_1, d.before a0 Z = true) : (Jvm.Cond.methodLink "com/example/tradeloom/tradeloom/core/event/OrderShippedOfPinLaw" (23 : Nat) ({ cls := "com/example/tradeloom/tradeloom/core/event/OrderShipped", name := "carrier", desc := "()Ljava/lang/String;" } : Jvm.MethodName)).before a0 Z = true := hw _ (List.mem_of_getElem? (i := 70) rfl)
theorem w71 {Z : State} {a0 : Array Value} (hw : ∀ d ∈ tables_1, d.before a0 Z = true) : (Jvm.Cond.declares ({ cls := "com/example/tradeloom/tradeloom/core/event/OrderShipped", name := "carrier", desc := "()Ljava/lang/String;" } : Jvm.MethodName)).before a0 Z = true := hw _ (List.mem_of_getElem? (i := 71) rfl)
theorem w72 {Z : State} {a0 : Array Value} (hw : ∀ d ∈ tables_1, d.before a0 Z = true) : (Jvm.Cond.instanceMethod ({ cls := "com/example/tradeloom/tradeloom/core/event/OrderShipped", name := "carrier", desc := "()Ljava/lang/String;" } : Jvm.MethodName)).before a0 Z = true := hw _ (List.mem_of_getElem? (i := 72) rfl)
theorem w78 {Z : State} {a0 : Array Value} (hw : ∀ d ∈ tables_1, d.before a0 Z = true) : (Jvm.Cond.selects "java/lang/String" ({ cls := "java/lang/String", name := "equals", desc := "(Ljava/lang/Object;)Z" } : Jvm.MethodName) ({ cls := "java/lang/String", name := "equals", desc := "(Ljava/lang/Object;)Z" } : Jvm.MethodName)).before a0 Z = true := hw _ (List.mem_of_getElem? (i := 78) rfl)
theorem w79 {Z : State} {a0 : Array Value} (hw : ∀ d ∈ tables_1, d.before a0 Z = true) : (Jvm.Cond.code ({ cls := "java/lang/String", name := "equals", desc := "(Ljava/lang/Object;)Z" } : Jvm.MethodName) jdk_42_method_66_code (3 : Nat) (Option.some Jvm.ClassFile.FieldType.boolean)).before a0 Z = true := hw _ (List.mem_of_getElem? (i := 79) rfl)
theorem w75 {Z : State} {a0 : Array Value} (hw : ∀ d ∈ tables_1, d.before a0 Z = true) : (Jvm.Cond.methodLink "com/example/tradeloom/tradeloom/core/event/OrderShippedOfPinLaw" (27 : Nat) ({ cls := "java/lang/String", name := "equals", desc := "(Ljava/lang/Object;)Z" } : Jvm.MethodName)).before a0 Z = true := hw _ (List.mem_of_getElem? (i := 75) rfl)
theorem w76 {Z : State} {a0 : Array Value} (hw : ∀ d ∈ tables_1, d.before a0 Z = true) : (Jvm.Cond.declares ({ cls := "java/lang/String", name := "equals", desc := "(Ljava/lang/Object;)Z" } : Jvm.MethodName)).before a0 Z = true := hw _ (List.mem_of_getElem? (i := 76) rfl)
theorem w77 {Z : State} {a0 : Array Value} (hw : ∀ d ∈ tables_1, d.before a0 Z = true) : (Jvm.Cond.instanceMethod ({ cls := "java/lang/String", name := "equals", desc := "(Ljava/lang/Object;)Z" } : Jvm.MethodName)).before a0 Z = true := hw _ (List.mem_of_getElem? (i := 77) rfl)
theorem pd_9 : parseMethodDescriptor "(Ljava/lang/Object;)Z" = some ⟨[(.object "java/lang/Object")], some .boolean⟩ := by decide +kernel
theorem w83 {Z : State} {a0 : Array Value} (hw : ∀ d ∈ tables_1, d.before a0 Z = true) : (Jvm.Cond.selects "com/example/tradeloom/tradeloom/core/event/OrderShipped" ({ cls := "com/example/tradeloom/tradeloom/core/event/OrderShipped", name := "trackingNo", desc := "()Ljava/lang/String;" } : Jvm.MethodName) ({ cls := "com/example/tradeloom/tradeloom/core/event/OrderShipped", name := "trackingNo", desc := "()Ljava/lang/String;" } : Jvm.MethodName)).before a0 Z = true := hw _ (List.mem_of_getElem? (i := 83) rfl)
theorem w84 {Z : State} {a0 : Array Value} (hw : ∀ d ∈ tables_1, d.before a0 Z = true) : (Jvm.Cond.code ({ cls := "com/example/tradeloom/tradeloom/core/event/OrderShipped", name := "trackingNo", desc := "()Ljava/lang/String;" } : Jvm.MethodName) prog_58_method_8_code (1 : Nat) (Option.some (Jvm.ClassFile.FieldType.object "java/lang/String"))).before a0 Z = true := hw _ (List.mem_of_getElem? (i := 84) rfl)
theorem w80 {Z : State} {a0 : Array Value} (hw : ∀ d ∈ tables_1, d.before a0 Z = true) : (Jvm.Cond.methodLink "com/example/tradeloom/tradeloom/core/event/OrderShippedOfPinLaw" (31 : Nat) ({ cls := "com/example/tradeloom/tradeloom/core/event/OrderShipped", name := "trackingNo", desc := "()Ljava/lang/String;" } : Jvm.MethodName)).before a0 Z = true := hw _ (List.mem_of_getElem? (i := 80) rfl)
theorem w81 {Z : State} {a0 : Array Value} (hw : ∀ d ∈ tables_1, d.before a0 Z = true) : (Jvm.Cond.declares ({ cls := "com/example/tradeloom/tradeloom/core/event/OrderShipped", name := "trackingNo", desc := "()Ljava/lang/String;" } : Jvm.MethodName)).before a0 Z = true := hw _ (List.mem_of_getElem? (i := 81) rfl)
theorem w82 {Z : State} {a0 : Array Value} (hw : ∀ d ∈ tables_1, d.before a0 Z = true) : (Jvm.Cond.instanceMethod ({ cls := "com/example/tradeloom/tradeloom/core/event/OrderShipped", name := "trackingNo", desc := "()Ljava/lang/String;" } : Jvm.MethodName)).before a0 Z = true := hw _ (List.mem_of_getElem? (i := 82) rfl)
theorem w88 {Z : State} {a0 : Array Value} (hw : ∀ d ∈ tables_1, d.before a0 Z = true) : (Jvm.Cond.selects "com/example/tradeloom/tradeloom/core/event/OrderShipped" ({ cls := "com/example/tradeloom/tradeloom/core/event/OrderShipped", name := "type", desc := "()Lcom/example/tradeloom/tradeloom/core/event/EventType;" } : Jvm.MethodName) ({ cls := "com/example/tradeloom/tradeloom/core/event/OrderShipped", name := "type", desc := "()Lcom/example/tradeloom/tradeloom/core/event/EventType;" } : Jvm.MethodName)).before a0 Z = true := hw _ (List.mem_of_getElem? (i := 88) rfl)
theorem w89 {Z : State} {a0 : Array Value} (hw : ∀ d ∈ tables_1, d.before a0 Z = true) : (Jvm.Cond.code ({ cls := "com/example/tradeloom/tradeloom/core/event/OrderShipped", name := "type", desc := "()Lcom/example/tradeloom/tradeloom/core/event/EventType;" } : Jvm.MethodName) prog_58_method_3_code (1 : Nat) (Option.some (Jvm.ClassFile.FieldType.object "com/example/tradeloom/tradeloom/core/event/EventType"))).before a0 Z = true := hw _ (List.mem_of_getElem? (i := 89) rfl)
theorem w85 {Z : State} {a0 : Array Value} (hw : ∀ d ∈ tables_1, d.before a0 Z = true) : (Jvm.Cond.methodLink "com/example/tradeloom/tradeloom/core/event/OrderShippedOfPinLaw" (34 : Nat) ({ cls := "com/example/tradeloom/tradeloom/core/event/OrderShipped", name := "type", desc := "()Lcom/example/tradeloom/tradeloom/core/event/EventType;" } : Jvm.MethodName)).before a0 Z = true := hw _ (List.mem_of_getElem? (i := 85) rfl)
theorem w86 {Z : State} {a0 : Array Value} (hw : ∀ d ∈ tables_1, d.before a0 Z = true) : (Jvm.Cond.declares ({ cls := "com/example/tradeloom/tradeloom/core/event/OrderShipped", name := "type", desc := "()Lcom/example/tradeloom/tradeloom/core/event/EventType;" } : Jvm.MethodName)).before a0 Z = true := hw _ (List.mem_of_getElem? (i := 86) rfl)
theorem w87 {Z : State} {a0 : Array Value} (hw : ∀ d ∈ tables_1, d.before a0 Z = true) : (Jvm.Cond.instanceMethod ({ cls := "com/example/tradeloom/tradeloom/core/event/OrderShipped", name := "type", desc := "()Lcom/example/tradeloom/tradeloom/core/event/EventType;" } : Jvm.MethodName)).before a0 Z = true := hw _ (List.mem_of_getElem? (i := 87) rfl)
theorem pd_10 : parseMethodDescriptor "()Lcom/example/tradeloom/tradeloom/core/event/EventType;" = some ⟨[], some (.object "com/example/tradeloom/tradeloom/core/event/EventType")⟩ := by decide +kernel
theorem w93 {Z : State} {a0 : Array Value} (hw : ∀ d ∈ tables_1, d.before a0 Z = true) : (Jvm.Cond.fieldLink "com/example/tradeloom/tradeloom/core/event/OrderShippedOfPinLaw" (38 : Nat) "com/example/tradeloom/tradeloom/core/event/EventType" "ORDER_SHIPPED" "Lcom/example/tradeloom/tradeloom/core/event/EventType;").before a0 Z = true := hw _ (List.mem_of_getElem? (i := 93) rfl)
theorem pn_5 : plainName "com/example/tradeloom/tradeloom/core/event/OrderShippedOfPinLaw" = true := by first | (simp [plainName, overriddenIn]; done) | decide +kernel
def Q_law0 (Z : State) (p0 : Int32) (p1 : Int32) (p2 : Int32) (p3 : Int32) (cs : Int32) (wE : Addr) (h0 : Heap) (n0 : Nat) (v : Option Value) (h : Heap) (L : List Loc) : Prop := v = some (.int (1 : Int32)) ∧ Fr n0 L
set_option maxRecDepth 65536 in
set_option maxHeartbeats 40000000 in
theorem law0 (l : Launch) (Z : State) (a0 : Array Value) (hw : ∀ d ∈ tables_1, d.before a0 Z = true) (p0 : Int32) (p1 : Int32) (p2 : Int32) (p3 : Int32) (cs : Int32) (wE : Addr) (h0 : Heap) (n0 : Nat) (Z0 : n0 ≤ h0.size) (O0 : Old Z n0 h0) (P0 : Sta Z Z.heap "java/lang/String" "COMPACT_STRINGS" "Z" (.int cs)) (P1 : ¬ (cs = (0 : Int32))) (P2 : Sta Z Z.heap "com/example/tradeloom/tradeloom/core/event/EventType" "ORDER_SHIPPED" "Lcom/example/tradeloom/tradeloom/core/event/EventType;" (.ref wE)) :
    Con l Z x code maxLocals ret room_1 #[(.int p0), (.int p1), (.int p2), (.int p3)] h0 (Q_law0 Z p0 p1 p2 p3 cs wE h0 n0) := by
  refine OwnW.body (Ls := #[.val (.int p0), .val (.int p1), .val (.int p2), .val (.int p3), .unset, .unset, .unset, .unset, .unset, .unset]) (plainFor_of_name pn_5) (fun m => by first | (simp [entryFrame, mkF, argsToLocals, Value.category, maxLocals]; done) | rfl) ?_
  intro p e s m below meth c s₁ hx hby hml hown hnm hret hlk hZ X0 e0
  let QQ := Q_law0 Z p0 p1 p2 p3 cs wE h0 n0
  have N0 := Fr.nil n0
  show Go p e below (s₁.setTop (mkF m 0 #[.val (.int p0), .val (.int p1), .val (.int p2), .val (.int p3), .unset, .unset, .unset, .unset, .unset, .unset] [])) (EndQ s below room_1.cells room_1.slots QQ)
  refine Go.on (Y' := s₁.setTop (mkF m 1 #[.val (.int p0), .val (.int p1), .val (.int p2), .val (.int p3), .unset, .unset, .unset, .unset, .unset, .unset] [(.int (2 : Int32))])) (fun _ k => XS.iconst X0.here hx rfl (hb hby at_0) k) ?_
  obtain ⟨T1, h1, k1, b1, X1, e1, E1, s1, V1, A1, st1⟩ := OwnW.newP (aty := .char) X0 hx hZ (w0 hw) e0 (Ls := #[.val (.int p0), .val (.int p1), .val (.int p2), .val (.int p3), .unset, .unset, .unset, .unset, .unset, .unset]) (rest := []) (hb hby at_1) (n := (2 : Int32)) (by decide) (cap := 2) (by decide) (by decide) (by decide) (by decide) (ad := "[C") (by decide +kernel) 2
  have V1' : Arv Z h1 b1 k1 .char (2 : Int32) [(.int (0 : Int32)), (.int (0 : Int32))] (.int (0 : Int32)) := V1
  refine Go.on (Y' := T1.setTop (mkF m 3 #[.val (.int p0), .val (.int p1), .val (.int p2), .val (.int p3), .unset, .unset, .unset, .unset, .unset, .unset] [(.ref b1)])) (st1) ?_
  refine Go.on (Y' := T1.setTop (mkF m 5 #[.val (.int p0), .val (.int p1), .val (.int p2), .val (.int p3), .val (.ref b1), .unset, .unset, .unset, .unset, .unset] [])) (fun _ k => XS.astore X1.here hx rfl (hb hby at_3) rfl rfl (l' := #[.val (.int p0), .val (.int p1), .val (.int p2), .val (.int p3), .val (.ref b1), .unset, .unset, .unset, .unset, .unset]) rfl k) ?_
  refine Go.on (Y' := T1.setTop (mkF m 7 #[.val (.int p0), .val (.int p1), .val (.int p2), .val (.int p3), .val (.ref b1), .unset, .unset, .unset, .unset, .unset] [(.ref b1)])) (fun _ k => XS.aload X1.here hx rfl (hb hby at_5) rfl rfl k) ?_
  refine Go.on (Y' := T1.setTop (mkF m 8 #[.val (.int p0), .val (.int p1), .val (.int p2), .val (.int p3), .val (.ref b1), .unset, .unset, .unset, .unset, .unset] [(.int (0 : Int32)), (.ref b1)])) (fun _ k => XS.iconst X1.here hx rfl (hb hby at_7) k) ?_
  refine Go.on (Y' := T1.setTop (mkF m 9 #[.val (.int p0), .val (.int p1), .val (.int p2), .val (.int p3), .val (.ref b1), .unset, .unset, .unset, .unset, .unset] [(.int p0), (.int (0 : Int32)), (.ref b1)])) (fun _ k => XS.iloadN X1.here hx rfl (hb hby at_8) rfl  k) ?_
  refine Go.on (Y' := T1.setTop (mkF m 12 #[.val (.int p0), .val (.int p1), .val (.int p2), .val (.int p3), .val (.ref b1), .unset, .unset, .unset, .unset, .unset] [(.int (255 : Int32)), (.int p0), (.int (0 : Int32)), (.ref b1)])) (fun _ k => XS.sipush X1.here hx rfl (hb hby at_9) k) ?_
  refine Go.on (Y' := T1.setTop (mkF m 13 #[.val (.int p0), .val (.int p1), .val (.int p2), .val (.int p3), .val (.ref b1), .unset, .unset, .unset, .unset, .unset] [(.int (p0 &&& (255 : Int32))), (.int (0 : Int32)), (.ref b1)])) (fun _ k => XS.iand X1.here hx rfl (hb hby at_12) rfl k) ?_
  refine Go.on (Y' := T1.setTop (mkF m 14 #[.val (.int p0), .val (.int p1), .val (.int p2), .val (.int p3), .val (.ref b1), .unset, .unset, .unset, .unset, .unset] [(.int ((p0 &&& (255 : Int32)).toUInt32.toUInt16.toUInt32.toInt32)), (.int (0 : Int32)), (.ref b1)])) (fun _ k => XS.i2c X1.here hx rfl (hb hby at_13) rfl k) ?_
  rw [show ((p0 &&& (255 : Int32)).toUInt32.toUInt16.toUInt32.toInt32) = (p0 &&& (255 : Int32)) from i2c_m _]
  have g3 : n0 ≤ b1 := Nat.le_trans Z0 s1
  obtain ⟨T2, h2, X2, e2, W2, V2, st2⟩ := OwnW.stC X1 hx hZ e1 V1'  (x := (p0 &&& (255 : Int32))) (j := (0 : Int32)) ⟨by decide, by decide⟩ 0 rfl (Nat.le_of_ble_eq_true rfl) (Ls := #[.val (.int p0), .val (.int p1), .val (.int p2), .val (.int p3), .val (.ref b1), .unset, .unset, .unset, .unset, .unset]) (rest := []) (hb hby at_14)
  rw [show nar .char (p0 &&& (255 : Int32)) = (p0 &&& (255 : Int32)) from narc_m _] at W2 V2
  have V2' : Arv Z h2 b1 k1 .char (2 : Int32) [(.int (p0 &&& (255 : Int32))), (.int (0 : Int32))] (.int (0 : Int32)) := V2
  have N2 := Fr.snoc X2 N0 g3
  refine Go.on (Y' := T2.setTop (mkF m 15 #[.val (.int p0), .val (.int p1), .val (.int p2), .val (.int p3), .val (.ref b1), .unset, .unset, .unset, .unset, .unset] [])) (st2) ?_
  refine Go.on (Y' := T2.setTop (mkF m 17 #[.val (.int p0), .val (.int p1), .val (.int p2), .val (.int p3), .val (.ref b1), .unset, .unset, .unset, .unset, .unset] [(.ref b1)])) (fun _ k => XS.aload X2.here hx rfl (hb hby at_15) rfl rfl k) ?_
  refine Go.on (Y' := T2.setTop (mkF m 18 #[.val (.int p0), .val (.int p1), .val (.int p2), .val (.int p3), .val (.ref b1), .unset, .unset, .unset, .unset, .unset] [(.int (1 : Int32)), (.ref b1)])) (fun _ k => XS.iconst X2.here hx rfl (hb hby at_17) k) ?_
  refine Go.on (Y' := T2.setTop (mkF m 19 #[.val (.int p0), .val (.int p1), .val (.int p2), .val (.int p3), .val (.ref b1), .unset, .unset, .unset, .unset, .unset] [(.int p1), (.int (1 : Int32)), (.ref b1)])) (fun _ k => XS.iloadN X2.here hx rfl (hb hby at_18) rfl  k) ?_
  refine Go.on (Y' := T2.setTop (mkF m 22 #[.val (.int p0), .val (.int p1), .val (.int p2), .val (.int p3), .val (.ref b1), .unset, .unset, .unset, .unset, .unset] [(.int (255 : Int32)), (.int p1), (.int (1 : Int32)), (.ref b1)])) (fun _ k => XS.sipush X2.here hx rfl (hb hby at_19) k) ?_
  refine Go.on (Y' := T2.setTop (mkF m 23 #[.val (.int p0), .val (.int p1), .val (.int p2), .val (.int p3), .val (.ref b1), .unset, .unset, .unset, .unset, .unset] [(.int (p1 &&& (255 : Int32))), (.int (1 : Int32)), (.ref b1)])) (fun _ k => XS.iand X2.here hx rfl (hb hby at_22) rfl k) ?_
  refine Go.on (Y' := T2.setTop (mkF m 24 #[.val (.int p0), .val (.int p1), .val (.int p2), .val (.int p3), .val (.ref b1), .unset, .unset, .unset, .unset, .unset] [(.int ((p1 &&& (255 : Int32)).toUInt32.toUInt16.toUInt32.toInt32)), (.int (1 : Int32)), (.ref b1)])) (fun _ k => XS.i2c X2.here hx rfl (hb hby at_23) rfl k) ?_
  rw [show ((p1 &&& (255 : Int32)).toUInt32.toUInt16.toUInt32.toInt32) = (p1 &&& (255 : Int32)) from i2c_m _]
  obtain ⟨T4, h4, X4, e4, W4, V4, st4⟩ := OwnW.stC X2 hx hZ e2 V2'  (x := (p1 &&& (255 : Int32))) (j := (1 : Int32)) ⟨by decide, by decide⟩ 1 rfl (Nat.le_of_ble_eq_true rfl) (Ls := #[.val (.int p0), .val (.int p1), .val (.int p2), .val (.int p3), .val (.ref b1), .unset, .unset, .unset, .unset, .unset]) (rest := []) (hb hby at_24)
  rw [show nar .char (p1 &&& (255 : Int32)) = (p1 &&& (255 : Int32)) from narc_m _] at W4 V4
  have V4' : Arv Z h4 b1 k1 .char (2 : Int32) [(.int (p0 &&& (255 : Int32))), (.int (p1 &&& (255 : Int32)))] (.int (0 : Int32)) := V4
  have N4 := Fr.snoc X4 N2 g3
  refine Go.on (Y' := T4.setTop (mkF m 25 #[.val (.int p0), .val (.int p1), .val (.int p2), .val (.int p3), .val (.ref b1), .unset, .unset, .unset, .unset, .unset] [])) (st4) ?_
  refine Go.on (Y' := T4.setTop (mkF m 26 #[.val (.int p0), .val (.int p1), .val (.int p2), .val (.int p3), .val (.ref b1), .unset, .unset, .unset, .unset, .unset] [(.int (2 : Int32))])) (fun _ k => XS.iconst X4.here hx rfl (hb hby at_25) k) ?_
  obtain ⟨T5, h5, k5, b5, X5, e5, E5, s5, V5, A5, st5⟩ := OwnW.newP (aty := .char) X4 hx hZ (w0 hw) e4 (Ls := #[.val (.int p0), .val (.int p1), .val (.int p2), .val (.int p3), .val (.ref b1), .unset, .unset, .unset, .unset, .unset]) (rest := []) (hb hby at_26) (n := (2 : Int32)) (by decide) (cap := 2) (by decide) (by decide) (by decide) (by decide) (ad := "[C") (by decide +kernel) 2
  have V5' : Arv Z h5 b5 k5 .char (2 : Int32) [(.int (0 : Int32)), (.int (0 : Int32))] (.int (0 : Int32)) := V5
  refine Go.on (Y' := T5.setTop (mkF m 28 #[.val (.int p0), .val (.int p1), .val (.int p2), .val (.int p3), .val (.ref b1), .unset, .unset, .unset, .unset, .unset] [(.ref b5)])) (st5) ?_
  refine Go.on (Y' := T5.setTop (mkF m 30 #[.val (.int p0), .val (.int p1), .val (.int p2), .val (.int p3), .val (.ref b1), .val (.ref b5), .unset, .unset, .unset, .unset] [])) (fun _ k => XS.astore X5.here hx rfl (hb hby at_28) rfl rfl (l' := #[.val (.int p0), .val (.int p1), .val (.int p2), .val (.int p3), .val (.ref b1), .val (.ref b5), .unset, .unset, .unset, .unset]) rfl k) ?_
  refine Go.on (Y' := T5.setTop (mkF m 32 #[.val (.int p0), .val (.int p1), .val (.int p2), .val (.int p3), .val (.ref b1), .val (.ref b5), .unset, .unset, .unset, .unset] [(.ref b5)])) (fun _ k => XS.aload X5.here hx rfl (hb hby at_30) rfl rfl k) ?_
  refine Go.on (Y' := T5.setTop (mkF m 33 #[.val (.int p0), .val (.int p1), .val (.int p2), .val (.int p3), .val (.ref b1), .val (.ref b5), .unset, .unset, .unset, .unset] [(.int (0 : Int32)), (.ref b5)])) (fun _ k => XS.iconst X5.here hx rfl (hb hby at_32) k) ?_
  refine Go.on (Y' := T5.setTop (mkF m 34 #[.val (.int p0), .val (.int p1), .val (.int p2), .val (.int p3), .val (.ref b1), .val (.ref b5), .unset, .unset, .unset, .unset] [(.int p2), (.int (0 : Int32)), (.ref b5)])) (fun _ k => XS.iloadN X5.here hx rfl (hb hby at_33) rfl  k) ?_
  refine Go.on (Y' := T5.setTop (mkF m 37 #[.val (.int p0), .val (.int p1), .val (.int p2), .val (.int p3), .val (.ref b1), .val (.ref b5), .unset, .unset, .unset, .unset] [(.int (255 : Int32)), (.int p2), (.int (0 : Int32)), (.ref b5)])) (fun _ k => XS.sipush X5.here hx rfl (hb hby at_34) k) ?_
  refine Go.on (Y' := T5.setTop (mkF m 38 #[.val (.int p0), .val (.int p1), .val (.int p2), .val (.int p3), .val (.ref b1), .val (.ref b5), .unset, .unset, .unset, .unset] [(.int (p2 &&& (255 : Int32))), (.int (0 : Int32)), (.ref b5)])) (fun _ k => XS.iand X5.here hx rfl (hb hby at_37) rfl k) ?_
  refine Go.on (Y' := T5.setTop (mkF m 39 #[.val (.int p0), .val (.int p1), .val (.int p2), .val (.int p3), .val (.ref b1), .val (.ref b5), .unset, .unset, .unset, .unset] [(.int ((p2 &&& (255 : Int32)).toUInt32.toUInt16.toUInt32.toInt32)), (.int (0 : Int32)), (.ref b5)])) (fun _ k => XS.i2c X5.here hx rfl (hb hby at_38) rfl k) ?_
  rw [show ((p2 &&& (255 : Int32)).toUInt32.toUInt16.toUInt32.toInt32) = (p2 &&& (255 : Int32)) from i2c_m _]
  have Z7 : n0 ≤ h1.size := Nat.le_trans Z0 E1.1
  have Z8 : n0 ≤ h2.size := Nat.le_trans Z7 (Nat.le_of_eq (Wr.size W2).symm)
  have Z9 : n0 ≤ h4.size := Nat.le_trans Z8 (Nat.le_of_eq (Wr.size W4).symm)
  have g10 : n0 ≤ b5 := Nat.le_trans Z9 s5
  obtain ⟨T6, h6, X6, e6, W6, V6, st6⟩ := OwnW.stC X5 hx hZ e5 V5'  (x := (p2 &&& (255 : Int32))) (j := (0 : Int32)) ⟨by decide, by decide⟩ 0 rfl (Nat.le_of_ble_eq_true rfl) (Ls := #[.val (.int p0), .val (.int p1), .val (.int p2), .val (.int p3), .val (.ref b1), .val (.ref b5), .unset, .unset, .unset, .unset]) (rest := []) (hb hby at_39)
  rw [show nar .char (p2 &&& (255 : Int32)) = (p2 &&& (255 : Int32)) from narc_m _] at W6 V6
  have V6' : Arv Z h6 b5 k5 .char (2 : Int32) [(.int (p2 &&& (255 : Int32))), (.int (0 : Int32))] (.int (0 : Int32)) := V6
  have N6 := Fr.snoc X6 N4 g10
  refine Go.on (Y' := T6.setTop (mkF m 40 #[.val (.int p0), .val (.int p1), .val (.int p2), .val (.int p3), .val (.ref b1), .val (.ref b5), .unset, .unset, .unset, .unset] [])) (st6) ?_
  refine Go.on (Y' := T6.setTop (mkF m 42 #[.val (.int p0), .val (.int p1), .val (.int p2), .val (.int p3), .val (.ref b1), .val (.ref b5), .unset, .unset, .unset, .unset] [(.ref b5)])) (fun _ k => XS.aload X6.here hx rfl (hb hby at_40) rfl rfl k) ?_
  refine Go.on (Y' := T6.setTop (mkF m 43 #[.val (.int p0), .val (.int p1), .val (.int p2), .val (.int p3), .val (.ref b1), .val (.ref b5), .unset, .unset, .unset, .unset] [(.int (1 : Int32)), (.ref b5)])) (fun _ k => XS.iconst X6.here hx rfl (hb hby at_42) k) ?_
  refine Go.on (Y' := T6.setTop (mkF m 44 #[.val (.int p0), .val (.int p1), .val (.int p2), .val (.int p3), .val (.ref b1), .val (.ref b5), .unset, .unset, .unset, .unset] [(.int p3), (.int (1 : Int32)), (.ref b5)])) (fun _ k => XS.iloadN X6.here hx rfl (hb hby at_43) rfl  k) ?_
  refine Go.on (Y' := T6.setTop (mkF m 47 #[.val (.int p0), .val (.int p1), .val (.int p2), .val (.int p3), .val (.ref b1), .val (.ref b5), .unset, .unset, .unset, .unset] [(.int (255 : Int32)), (.int p3), (.int (1 : Int32)), (.ref b5)])) (fun _ k => XS.sipush X6.here hx rfl (hb hby at_44) k) ?_
  refine Go.on (Y' := T6.setTop (mkF m 48 #[.val (.int p0), .val (.int p1), .val (.int p2), .val (.int p3), .val (.ref b1), .val (.ref b5), .unset, .unset, .unset, .unset] [(.int (p3 &&& (255 : Int32))), (.int (1 : Int32)), (.ref b5)])) (fun _ k => XS.iand X6.here hx rfl (hb hby at_47) rfl k) ?_
  refine Go.on (Y' := T6.setTop (mkF m 49 #[.val (.int p0), .val (.int p1), .val (.int p2), .val (.int p3), .val (.ref b1), .val (.ref b5), .unset, .unset, .unset, .unset] [(.int ((p3 &&& (255 : Int32)).toUInt32.toUInt16.toUInt32.toInt32)), (.int (1 : Int32)), (.ref b5)])) (fun _ k => XS.i2c X6.here hx rfl (hb hby at_48) rfl k) ?_
  rw [show ((p3 &&& (255 : Int32)).toUInt32.toUInt16.toUInt32.toInt32) = (p3 &&& (255 : Int32)) from i2c_m _]
  obtain ⟨T11, h11, X11, e11, W11, V11, st11⟩ := OwnW.stC X6 hx hZ e6 V6'  (x := (p3 &&& (255 : Int32))) (j := (1 : Int32)) ⟨by decide, by decide⟩ 1 rfl (Nat.le_of_ble_eq_true rfl) (Ls := #[.val (.int p0), .val (.int p1), .val (.int p2), .val (.int p3), .val (.ref b1), .val (.ref b5), .unset, .unset, .unset, .unset]) (rest := []) (hb hby at_49)
  rw [show nar .char (p3 &&& (255 : Int32)) = (p3 &&& (255 : Int32)) from narc_m _] at W11 V11
  have V11' : Arv Z h11 b5 k5 .char (2 : Int32) [(.int (p2 &&& (255 : Int32))), (.int (p3 &&& (255 : Int32)))] (.int (0 : Int32)) := V11
  have N11 := Fr.snoc X11 N6 g10
  refine Go.on (Y' := T11.setTop (mkF m 50 #[.val (.int p0), .val (.int p1), .val (.int p2), .val (.int p3), .val (.ref b1), .val (.ref b5), .unset, .unset, .unset, .unset] [])) (st11) ?_
  obtain ⟨T12, h12, b12, X12, e12, E12, s12, A12, D12, st12⟩ := OwnW.newO X11 hx hZ hown (w1 hw) (w2 hw) (w3 hw) e11 (Ls := #[.val (.int p0), .val (.int p1), .val (.int p2), .val (.int p3), .val (.ref b1), .val (.ref b5), .unset, .unset, .unset, .unset]) (st := []) (hb hby at_50) (by decide) (by decide)
  have F12_coder : Fld Z h12 b12 "java/lang/String" "coder" "B" (.int (0 : Int32)) := D12 (Or.inr (w27 hw)) (ty := .byte) (by decide)
  have F12_value : Fld Z h12 b12 "java/lang/String" "value" "[B" .null := D12 (Or.inr (w29 hw)) (ty := (.array .byte)) (by decide)
  refine Go.on (Y' := T12.setTop (mkF m 53 #[.val (.int p0), .val (.int p1), .val (.int p2), .val (.int p3), .val (.ref b1), .val (.ref b5), .unset, .unset, .unset, .unset] [(.ref b12)])) (st12) ?_
  refine Go.on (Y' := T12.setTop (mkF m 54 #[.val (.int p0), .val (.int p1), .val (.int p2), .val (.int p3), .val (.ref b1), .val (.ref b5), .unset, .unset, .unset, .unset] [(.ref b12), (.ref b12)])) (fun _ k => XS.dup X12.here hx rfl (hb hby at_53) rfl rfl k) ?_
  refine Go.on (Y' := T12.setTop (mkF m 56 #[.val (.int p0), .val (.int p1), .val (.int p2), .val (.int p3), .val (.ref b1), .val (.ref b5), .unset, .unset, .unset, .unset] [(.ref b1), (.ref b12), (.ref b12)])) (fun _ k => XS.aload X12.here hx rfl (hb hby at_54) rfl rfl k) ?_
  have ne14 : b1 ≠ b5 := ne_of_born (Exa.wr W4 (Exa.wr W2 A1)).lt s5
  have c15 : Arv Z h12 b1 k1 .char (2 : Int32) [(.int (p0 &&& (255 : Int32))), (.int (p1 &&& (255 : Int32)))] (.int (0 : Int32)) := Arv.ext (Arv.other (Arv.other (Arv.ext (V4') E5) W6 ne14) W11 ne14) E12
  have c16 : Exa Z h12 b1 "[C" := Exa.ext E12 (Exa.wr W11 (Exa.wr W6 (Exa.ext E5 (Exa.wr W4 (Exa.wr W2 A1)))))
  have Z17 : n0 ≤ h5.size := Nat.le_trans Z9 E5.1
  have Z18 : n0 ≤ h6.size := Nat.le_trans Z17 (Nat.le_of_eq (Wr.size W6).symm)
  have Z19 : n0 ≤ h11.size := Nat.le_trans Z18 (Nat.le_of_eq (Wr.size W11).symm)
  have g20 : n0 ≤ b12 := Nat.le_trans Z19 s12
  have Z21 : n0 ≤ h12.size := Nat.le_trans Z19 E12.1
  have O22 : Old Z n0 h1 := O0.ext E1
  have O23 : Old Z n0 h2 := O22.wr W2 g3
  have O24 : Old Z n0 h4 := O23.wr W4 g3
  have O25 : Old Z n0 h5 := O24.ext E5
  have O26 : Old Z n0 h6 := O25.wr W6 g10
  have O27 : Old Z n0 h11 := O26.wr W11 g10
  have O28 : Old Z n0 h12 := O27.ext E12
  obtain ⟨v13, T13, L13, X13, hQ13, st13⟩ := OwnW.callC (y := (⟨"java/lang/String", "<init>", "([C)V"⟩ : MethodName)) X12 hx hZ hown rfl (w4 hw) (w5 hw) (w3 hw) (w6 hw) (by decide) (b := b12) (strInit l Z a0 hw b12 b1 k1 cs (p0 &&& (255 : Int32)) (p1 &&& (255 : Int32)) h12 n0 Z21 O28 c15 c16 P0 P1 (m255 _ : ¬ ((255 : Int32) < (p0 &&& (255 : Int32)))) (m255 _ : ¬ ((255 : Int32) < (p1 &&& (255 : Int32)))) A12 F12_coder F12_value g20) e12 (Ls := #[.val (.int p0), .val (.int p1), .val (.int p2), .val (.int p3), .val (.ref b1), .val (.ref b5), .unset, .unset, .unset, .unset]) (by rw [hml]; rfl) pd_7 (argsL := [(.ref b1)]) rfl (rest := [(.ref b12)]) rfl (W := 1) rfl (hb hby at_56) (by decide) (by decide) (by decide) (by decide)
  obtain ⟨bb_29, kb_30, rfl, Nq13, Kq13, q13_0, q13_1, q13_2, q13_3, q13_4⟩ := hQ13
  have N13 := Fr.app N11 Nq13
  refine Go.on (Y' := T13.setTop (mkF m 59 #[.val (.int p0), .val (.int p1), .val (.int p2), .val (.int p3), .val (.ref b1), .val (.ref b5), .unset, .unset, .unset, .unset] [(.ref b12)])) (st13) ?_
  refine Go.on (Y' := T13.setTop (mkF m 61 #[.val (.int p0), .val (.int p1), .val (.int p2), .val (.int p3), .val (.ref b1), .val (.ref b5), .val (.ref b12), .unset, .unset, .unset] [])) (fun _ k => XS.astore X13.here hx rfl (hb hby at_59) rfl rfl (l' := #[.val (.int p0), .val (.int p1), .val (.int p2), .val (.int p3), .val (.ref b1), .val (.ref b5), .val (.ref b12), .unset, .unset, .unset]) rfl k) ?_
  obtain ⟨T31, h31, b31, X31, e31, E31, s31, A31, D31, st31⟩ := OwnW.newO X13 hx hZ hown (w1 hw) (w2 hw) (w3 hw) rfl (Ls := #[.val (.int p0), .val (.int p1), .val (.int p2), .val (.int p3), .val (.ref b1), .val (.ref b5), .val (.ref b12), .unset, .unset, .unset]) (st := []) (hb hby at_61) (by decide) (by decide)
  have F31_coder : Fld Z h31 b31 "java/lang/String" "coder" "B" (.int (0 : Int32)) := D31 (Or.inr (w27 hw)) (ty := .byte) (by decide)
  have F31_value : Fld Z h31 b31 "java/lang/String" "value" "[B" .null := D31 (Or.inr (w29 hw)) (ty := (.array .byte)) (by decide)
  refine Go.on (Y' := T31.setTop (mkF m 64 #[.val (.int p0), .val (.int p1), .val (.int p2), .val (.int p3), .val (.ref b1), .val (.ref b5), .val (.ref b12), .unset, .unset, .unset] [(.ref b31)])) (st31) ?_
  refine Go.on (Y' := T31.setTop (mkF m 65 #[.val (.int p0), .val (.int p1), .val (.int p2), .val (.int p3), .val (.ref b1), .val (.ref b5), .val (.ref b12), .unset, .unset, .unset] [(.ref b31), (.ref b31)])) (fun _ k => XS.dup X31.here hx rfl (hb hby at_64) rfl rfl k) ?_
  refine Go.on (Y' := T31.setTop (mkF m 67 #[.val (.int p0), .val (.int p1), .val (.int p2), .val (.int p3), .val (.ref b1), .val (.ref b5), .val (.ref b12), .unset, .unset, .unset] [(.ref b5), (.ref b31), (.ref b31)])) (fun _ k => XS.aload X31.here hx rfl (hb hby at_65) rfl rfl k) ?_
  have ne33 : b5 ≠ b12 := ne_of_born (Exa.wr W11 (Exa.wr W6 A5)).lt s12
  have c34 : Arv Z h31 b5 k5 .char (2 : Int32) [(.int (p2 &&& (255 : Int32))), (.int (p3 &&& (255 : Int32)))] (.int (0 : Int32)) := Arv.ext (Arv.keep (Arv.ext (V11') E12) Kq13 (ninS ne33 nin0)) E31
  have c35 : Exa Z h31 b5 "[C" := Exa.ext E31 (Exa.keep (Exa.ext E12 (Exa.wr W11 (Exa.wr W6 A5))) Kq13)
  have Z36 : n0 ≤ T13.heap.size := Nat.le_trans Z21 Kq13.1
  have g37 : n0 ≤ b31 := Nat.le_trans Z36 s31
  have Z38 : n0 ≤ h31.size := Nat.le_trans Z36 E31.1
  have O39 : Old Z n0 T13.heap := O28.keep Kq13 (allS g20 all0)
  have O40 : Old Z n0 h31 := O39.ext E31
  obtain ⟨v32, T32, L32, X32, hQ32, st32⟩ := OwnW.callC (y := (⟨"java/lang/String", "<init>", "([C)V"⟩ : MethodName)) X31 hx hZ hown rfl (w4 hw) (w5 hw) (w3 hw) (w6 hw) (by decide) (b := b31) (strInit l Z a0 hw b31 b5 k5 cs (p2 &&& (255 : Int32)) (p3 &&& (255 : Int32)) h31 n0 Z38 O40 c34 c35 P0 P1 (m255 _ : ¬ ((255 : Int32) < (p2 &&& (255 : Int32)))) (m255 _ : ¬ ((255 : Int32) < (p3 &&& (255 : Int32)))) A31 F31_coder F31_value g37) e31 (Ls := #[.val (.int p0), .val (.int p1), .val (.int p2), .val (.int p3), .val (.ref b1), .val (.ref b5), .val (.ref b12), .unset, .unset, .unset]) (by rw [hml]; rfl) pd_7 (argsL := [(.ref b5)]) rfl (rest := [(.ref b31)]) rfl (W := 1) rfl (hb hby at_67) (by decide) (by decide) (by decide) (by decide)
  obtain ⟨bb_41, kb_42, rfl, Nq32, Kq32, q32_0, q32_1, q32_2, q32_3, q32_4⟩ := hQ32
  have N32 := Fr.app N13 Nq32
  refine Go.on (Y' := T32.setTop (mkF m 70 #[.val (.int p0), .val (.int p1), .val (.int p2), .val (.int p3), .val (.ref b1), .val (.ref b5), .val (.ref b12), .unset, .unset, .unset] [(.ref b31)])) (st32) ?_
  refine Go.on (Y' := T32.setTop (mkF m 72 #[.val (.int p0), .val (.int p1), .val (.int p2), .val (.int p3), .val (.ref b1), .val (.ref b5), .val (.ref b12), .val (.ref b31), .unset, .unset] [])) (fun _ k => XS.astore X32.here hx rfl (hb hby at_70) rfl rfl (l' := #[.val (.int p0), .val (.int p1), .val (.int p2), .val (.int p3), .val (.ref b1), .val (.ref b5), .val (.ref b12), .val (.ref b31), .unset, .unset]) rfl k) ?_
  obtain ⟨T43, h43, b43, X43, e43, E43, s43, A43, D43, st43⟩ := OwnW.newO X32 hx hZ hown (w30 hw) (w31 hw) (w32 hw) rfl (Ls := #[.val (.int p0), .val (.int p1), .val (.int p2), .val (.int p3), .val (.ref b1), .val (.ref b5), .val (.ref b12), .val (.ref b31), .unset, .unset]) (st := []) (hb hby at_72) (by decide) (by decide)
  have F43_carrier : Fld Z h43 b43 "com/example/tradeloom/tradeloom/core/Shipment" "carrier" "Ljava/lang/String;" .null := D43 (Or.inr (w43 hw)) (ty := (.object "java/lang/String")) (by decide)
  have F43_trackingNo : Fld Z h43 b43 "com/example/tradeloom/tradeloom/core/Shipment" "trackingNo" "Ljava/lang/String;" .null := D43 (Or.inr (w45 hw)) (ty := (.object "java/lang/String")) (by decide)
  refine Go.on (Y' := T43.setTop (mkF m 75 #[.val (.int p0), .val (.int p1), .val (.int p2), .val (.int p3), .val (.ref b1), .val (.ref b5), .val (.ref b12), .val (.ref b31), .unset, .unset] [(.ref b43)])) (st43) ?_
  refine Go.on (Y' := T43.setTop (mkF m 76 #[.val (.int p0), .val (.int p1), .val (.int p2), .val (.int p3), .val (.ref b1), .val (.ref b5), .val (.ref b12), .val (.ref b31), .unset, .unset] [(.ref b43), (.ref b43)])) (fun _ k => XS.dup X43.here hx rfl (hb hby at_75) rfl rfl k) ?_
  refine Go.on (Y' := T43.setTop (mkF m 78 #[.val (.int p0), .val (.int p1), .val (.int p2), .val (.int p3), .val (.ref b1), .val (.ref b5), .val (.ref b12), .val (.ref b31), .unset, .unset] [(.ref b12), (.ref b43), (.ref b43)])) (fun _ k => XS.aload X43.here hx rfl (hb hby at_76) rfl rfl k) ?_
  refine Go.on (Y' := T43.setTop (mkF m 80 #[.val (.int p0), .val (.int p1), .val (.int p2), .val (.int p3), .val (.ref b1), .val (.ref b5), .val (.ref b12), .val (.ref b31), .unset, .unset] [(.ref b31), (.ref b12), (.ref b43), (.ref b43)])) (fun _ k => XS.aload X43.here hx rfl (hb hby at_78) rfl rfl k) ?_
  have Z45 : n0 ≤ T32.heap.size := Nat.le_trans Z38 Kq32.1
  have g46 : n0 ≤ b43 := Nat.le_trans Z45 s43
  have Z47 : n0 ≤ h43.size := Nat.le_trans Z45 E43.1
  obtain ⟨v44, T44, L44, X44, hQ44, st44⟩ := OwnW.callC (y := (⟨"com/example/tradeloom/tradeloom/core/Shipment", "<init>", "(Ljava/lang/String;Ljava/lang/String;)V"⟩ : MethodName)) X43 hx hZ hown rfl (w33 hw) (w34 hw) (w32 hw) (w35 hw) (by decide) (b := b43) (shInit l Z a0 hw b43 b12 b31 h43 n0 Z47 A43 g46 F43_carrier F43_trackingNo) e43 (Ls := #[.val (.int p0), .val (.int p1), .val (.int p2), .val (.int p3), .val (.ref b1), .val (.ref b5), .val (.ref b12), .val (.ref b31), .unset, .unset]) (by rw [hml]; rfl) pd_6 (argsL := [(.ref b12), (.ref b31)]) rfl (rest := [(.ref b43)]) rfl (W := 1) rfl (hb hby at_80) (by decide) (by decide) (by decide) (by decide)
  obtain ⟨rfl, Nq44, Kq44, q44_0, q44_1⟩ := hQ44
  have N44 := Fr.app N32 Nq44
  refine Go.on (Y' := T44.setTop (mkF m 83 #[.val (.int p0), .val (.int p1), .val (.int p2), .val (.int p3), .val (.ref b1), .val (.ref b5), .val (.ref b12), .val (.ref b31), .unset, .unset] [(.ref b43)])) (st44) ?_
  refine Go.on (Y' := T44.setTop (mkF m 85 #[.val (.int p0), .val (.int p1), .val (.int p2), .val (.int p3), .val (.ref b1), .val (.ref b5), .val (.ref b12), .val (.ref b31), .val (.ref b43), .unset] [])) (fun _ k => XS.astore X44.here hx rfl (hb hby at_83) rfl rfl (l' := #[.val (.int p0), .val (.int p1), .val (.int p2), .val (.int p3), .val (.ref b1), .val (.ref b5), .val (.ref b12), .val (.ref b31), .val (.ref b43), .unset]) rfl k) ?_
  refine Go.on (Y' := T44.setTop (mkF m 87 #[.val (.int p0), .val (.int p1), .val (.int p2), .val (.int p3), .val (.ref b1), .val (.ref b5), .val (.ref b12), .val (.ref b31), .val (.ref b43), .unset] [(.ref b43)])) (fun _ k => XS.aload X44.here hx rfl (hb hby at_85) rfl rfl k) ?_
  have c49 : Exa Z T44.heap b43 "com/example/tradeloom/tradeloom/core/Shipment" := Exa.keep A43 Kq44
  have Z50 : n0 ≤ T44.heap.size := Nat.le_trans Z47 Kq44.1
  obtain ⟨v48, T48, L48, X48, hQ48, st48⟩ := OwnW.callS (y := (⟨"com/example/tradeloom/tradeloom/core/event/OrderShipped", "of", "(Lcom/example/tradeloom/tradeloom/core/Shipment;)Lcom/example/tradeloom/tradeloom/core/event/OrderShipped;"⟩ : MethodName)) X44 hx hZ hown (w46 hw) (w47 hw) (w48 hw) (w49 hw) (by decide) (osOf l Z a0 hw b43 b12 b31 T44.heap n0 Z50 c49 q44_0 q44_1) rfl (Ls := #[.val (.int p0), .val (.int p1), .val (.int p2), .val (.int p3), .val (.ref b1), .val (.ref b5), .val (.ref b12), .val (.ref b31), .val (.ref b43), .unset]) (by rw [hml]; rfl) pd_8 (argsL := [(.ref b43)]) rfl (rest := []) rfl (W := 0) rfl (hb hby at_87) (by decide) (by decide) (by decide) (by decide)
  obtain ⟨b_51, rfl, Nq48, Kq48, q48_0, q48_1, q48_2, q48_3⟩ := hQ48
  have N48 := Fr.app N44 Nq48
  refine Go.on (Y' := T48.setTop (mkF m 90 #[.val (.int p0), .val (.int p1), .val (.int p2), .val (.int p3), .val (.ref b1), .val (.ref b5), .val (.ref b12), .val (.ref b31), .val (.ref b43), .unset] [(.ref b_51)])) (st48) ?_
  refine Go.on (Y' := T48.setTop (mkF m 92 #[.val (.int p0), .val (.int p1), .val (.int p2), .val (.int p3), .val (.ref b1), .val (.ref b5), .val (.ref b12), .val (.ref b31), .val (.ref b43), .val (.ref b_51)] [])) (fun _ k => XS.astore X48.here hx rfl (hb hby at_90) rfl rfl (l' := #[.val (.int p0), .val (.int p1), .val (.int p2), .val (.int p3), .val (.ref b1), .val (.ref b5), .val (.ref b12), .val (.ref b31), .val (.ref b43), .val (.ref b_51)]) rfl k) ?_
  refine Go.on (Y' := T48.setTop (mkF m 94 #[.val (.int p0), .val (.int p1), .val (.int p2), .val (.int p3), .val (.ref b1), .val (.ref b5), .val (.ref b12), .val (.ref b31), .val (.ref b43), .val (.ref b_51)] [(.ref b_51)])) (fun _ k => XS.aload X48.here hx rfl (hb hby at_92) rfl rfl k) ?_
  have Z53 : n0 ≤ T48.heap.size := Nat.le_trans Z50 Kq48.1
  obtain ⟨v52, T52, L52, X52, hQ52, st52⟩ := OwnW.callV (y := (⟨"com/example/tradeloom/tradeloom/core/event/OrderShipped", "carrier", "()Ljava/lang/String;"⟩ : MethodName)) (z := (⟨"com/example/tradeloom/tradeloom/core/event/OrderShipped", "carrier", "()Ljava/lang/String;"⟩ : MethodName)) X48 hx hZ hown (w70 hw) (w71 hw) (notFace_of_selects (args := #[]) (mvT hZ (w73 hw))) (w73 hw) (w72 hw) (w48 hw) (w74 hw) (by decide) (b := b_51) (os_carrier l Z a0 hw b_51 b12 T48.heap n0 Z53 q48_2) rfl q48_1 (Ls := #[.val (.int p0), .val (.int p1), .val (.int p2), .val (.int p3), .val (.ref b1), .val (.ref b5), .val (.ref b12), .val (.ref b31), .val (.ref b43), .val (.ref b_51)]) (by rw [hml]; rfl) pd_5 (argsL := []) rfl (rest := []) rfl (W := 0) rfl (hb hby at_94) (by decide) (by decide) (by decide) (by decide)
  obtain ⟨rfl, Nq52, eq52⟩ := hQ52
  have N52 := Fr.app N48 Nq52
  refine Go.on (Y' := T52.setTop (mkF m 97 #[.val (.int p0), .val (.int p1), .val (.int p2), .val (.int p3), .val (.ref b1), .val (.ref b5), .val (.ref b12), .val (.ref b31), .val (.ref b43), .val (.ref b_51)] [(.ref b12)])) (st52) ?_
  refine Go.on (Y' := T52.setTop (mkF m 99 #[.val (.int p0), .val (.int p1), .val (.int p2), .val (.int p3), .val (.ref b1), .val (.ref b5), .val (.ref b12), .val (.ref b31), .val (.ref b43), .val (.ref b_51)] [(.ref b12), (.ref b12)])) (fun _ k => XS.aload X52.here hx rfl (hb hby at_97) rfl rfl k) ?_
  have c55 : Exa Z T48.heap b12 "java/lang/String" := Exa.keep (Exa.keep (Exa.ext E43 (Exa.keep (Exa.ext E31 (Exa.keep A12 Kq13)) Kq32)) Kq44) Kq48
  obtain ⟨v54, T54, L54, X54, hQ54, st54⟩ := OwnW.callV (y := (⟨"java/lang/String", "equals", "(Ljava/lang/Object;)Z"⟩ : MethodName)) (z := (⟨"java/lang/String", "equals", "(Ljava/lang/Object;)Z"⟩ : MethodName)) X52 hx hZ hown (w75 hw) (w76 hw) (notFace_of_selects (args := #[]) (mvT hZ (w78 hw))) (w78 hw) (w77 hw) (w3 hw) (w79 hw) (by decide) (b := b12) (strEqSame l Z a0 hw b12 T48.heap n0 Z53 ) eq52 c55 (Ls := #[.val (.int p0), .val (.int p1), .val (.int p2), .val (.int p3), .val (.ref b1), .val (.ref b5), .val (.ref b12), .val (.ref b31), .val (.ref b43), .val (.ref b_51)]) (by rw [hml]; rfl) pd_9 (argsL := [(.ref b12)]) rfl (rest := []) rfl (W := 0) rfl (hb hby at_99) (by decide) (by decide) (by decide) (by decide)
  obtain ⟨rfl, Nq54, eq54⟩ := hQ54
  have N54 := Fr.app N52 Nq54
  refine Go.on (Y' := T54.setTop (mkF m 102 #[.val (.int p0), .val (.int p1), .val (.int p2), .val (.int p3), .val (.ref b1), .val (.ref b5), .val (.ref b12), .val (.ref b31), .val (.ref b43), .val (.ref b_51)] [(.int (1 : Int32))])) (st54) ?_
  refine Go.on (Y' := T54.setTop (mkF m 105 #[.val (.int p0), .val (.int p1), .val (.int p2), .val (.int p3), .val (.ref b1), .val (.ref b5), .val (.ref b12), .val (.ref b31), .val (.ref b43), .val (.ref b_51)] [])) (fun _ k => XS.ifNo X54.here hx rfl (hb hby at_102) rfl ((if0 _ _).trans (feq (by decide : ¬ ((1 : Int32) = (0 : Int32)))).1) k) ?_
  refine Go.on (Y' := T54.setTop (mkF m 107 #[.val (.int p0), .val (.int p1), .val (.int p2), .val (.int p3), .val (.ref b1), .val (.ref b5), .val (.ref b12), .val (.ref b31), .val (.ref b43), .val (.ref b_51)] [(.ref b_51)])) (fun _ k => XS.aload X54.here hx rfl (hb hby at_105) rfl rfl k) ?_
  obtain ⟨v56, T56, L56, X56, hQ56, st56⟩ := OwnW.callV (y := (⟨"com/example/tradeloom/tradeloom/core/event/OrderShipped", "trackingNo", "()Ljava/lang/String;"⟩ : MethodName)) (z := (⟨"com/example/tradeloom/tradeloom/core/event/OrderShipped", "trackingNo", "()Ljava/lang/String;"⟩ : MethodName)) X54 hx hZ hown (w80 hw) (w81 hw) (notFace_of_selects (args := #[]) (mvT hZ (w83 hw))) (w83 hw) (w82 hw) (w48 hw) (w84 hw) (by decide) (b := b_51) (os_trackingNo l Z a0 hw b_51 b31 T48.heap n0 Z53 q48_3) eq54 q48_1 (Ls := #[.val (.int p0), .val (.int p1), .val (.int p2), .val (.int p3), .val (.ref b1), .val (.ref b5), .val (.ref b12), .val (.ref b31), .val (.ref b43), .val (.ref b_51)]) (by rw [hml]; rfl) pd_5 (argsL := []) rfl (rest := []) rfl (W := 0) rfl (hb hby at_107) (by decide) (by decide) (by decide) (by decide)
  obtain ⟨rfl, Nq56, eq56⟩ := hQ56
  have N56 := Fr.app N54 Nq56
  refine Go.on (Y' := T56.setTop (mkF m 110 #[.val (.int p0), .val (.int p1), .val (.int p2), .val (.int p3), .val (.ref b1), .val (.ref b5), .val (.ref b12), .val (.ref b31), .val (.ref b43), .val (.ref b_51)] [(.ref b31)])) (st56) ?_
  refine Go.on (Y' := T56.setTop (mkF m 112 #[.val (.int p0), .val (.int p1), .val (.int p2), .val (.int p3), .val (.ref b1), .val (.ref b5), .val (.ref b12), .val (.ref b31), .val (.ref b43), .val (.ref b_51)] [(.ref b31), (.ref b31)])) (fun _ k => XS.aload X56.here hx rfl (hb hby at_110) rfl rfl k) ?_
  have c58 : Exa Z T48.heap b31 "java/lang/String" := Exa.keep (Exa.keep (Exa.ext E43 (Exa.keep A31 Kq32)) Kq44) Kq48
  obtain ⟨v57, T57, L57, X57, hQ57, st57⟩ := OwnW.callV (y := (⟨"java/lang/String", "equals", "(Ljava/lang/Object;)Z"⟩ : MethodName)) (z := (⟨"java/lang/String", "equals", "(Ljava/lang/Object;)Z"⟩ : MethodName)) X56 hx hZ hown (w75 hw) (w76 hw) (notFace_of_selects (args := #[]) (mvT hZ (w78 hw))) (w78 hw) (w77 hw) (w3 hw) (w79 hw) (by decide) (b := b31) (strEqSame l Z a0 hw b31 T48.heap n0 Z53 ) eq56 c58 (Ls := #[.val (.int p0), .val (.int p1), .val (.int p2), .val (.int p3), .val (.ref b1), .val (.ref b5), .val (.ref b12), .val (.ref b31), .val (.ref b43), .val (.ref b_51)]) (by rw [hml]; rfl) pd_9 (argsL := [(.ref b31)]) rfl (rest := []) rfl (W := 0) rfl (hb hby at_112) (by decide) (by decide) (by decide) (by decide)
  obtain ⟨rfl, Nq57, eq57⟩ := hQ57
  have N57 := Fr.app N56 Nq57
  refine Go.on (Y' := T57.setTop (mkF m 115 #[.val (.int p0), .val (.int p1), .val (.int p2), .val (.int p3), .val (.ref b1), .val (.ref b5), .val (.ref b12), .val (.ref b31), .val (.ref b43), .val (.ref b_51)] [(.int (1 : Int32))])) (st57) ?_
  refine Go.on (Y' := T57.setTop (mkF m 118 #[.val (.int p0), .val (.int p1), .val (.int p2), .val (.int p3), .val (.ref b1), .val (.ref b5), .val (.ref b12), .val (.ref b31), .val (.ref b43), .val (.ref b_51)] [])) (fun _ k => XS.ifNo X57.here hx rfl (hb hby at_115) rfl ((if0 _ _).trans (feq (by decide : ¬ ((1 : Int32) = (0 : Int32)))).1) k) ?_
  refine Go.on (Y' := T57.setTop (mkF m 120 #[.val (.int p0), .val (.int p1), .val (.int p2), .val (.int p3), .val (.ref b1), .val (.ref b5), .val (.ref b12), .val (.ref b31), .val (.ref b43), .val (.ref b_51)] [(.ref b_51)])) (fun _ k => XS.aload X57.here hx rfl (hb hby at_118) rfl rfl k) ?_
  have O60 : Old Z n0 T32.heap := O40.keep Kq32 (allS g37 all0)
  have O61 : Old Z n0 h43 := O60.ext E43
  have O62 : Old Z n0 T44.heap := O61.keep Kq44 (allS g46 all0)
  have O63 : Old Z n0 T48.heap := O62.keep Kq48 all0
  obtain ⟨v59, T59, L59, X59, hQ59, st59⟩ := OwnW.callV (y := (⟨"com/example/tradeloom/tradeloom/core/event/OrderShipped", "type", "()Lcom/example/tradeloom/tradeloom/core/event/EventType;"⟩ : MethodName)) (z := (⟨"com/example/tradeloom/tradeloom/core/event/OrderShipped", "type", "()Lcom/example/tradeloom/tradeloom/core/event/EventType;"⟩ : MethodName)) X57 hx hZ hown (w85 hw) (w86 hw) (notFace_of_selects (args := #[]) (mvT hZ (w88 hw))) (w88 hw) (w87 hw) (w48 hw) (w89 hw) (by decide) (b := b_51) (osType l Z a0 hw b_51 wE T48.heap n0 Z53 O63 P2) eq57 q48_1 (Ls := #[.val (.int p0), .val (.int p1), .val (.int p2), .val (.int p3), .val (.ref b1), .val (.ref b5), .val (.ref b12), .val (.ref b31), .val (.ref b43), .val (.ref b_51)]) (by rw [hml]; rfl) pd_10 (argsL := []) rfl (rest := []) rfl (W := 0) rfl (hb hby at_120) (by decide) (by decide) (by decide) (by decide)
  obtain ⟨rfl, Nq59, eq59⟩ := hQ59
  have N59 := Fr.app N57 Nq59
  refine Go.on (Y' := T59.setTop (mkF m 123 #[.val (.int p0), .val (.int p1), .val (.int p2), .val (.int p3), .val (.ref b1), .val (.ref b5), .val (.ref b12), .val (.ref b31), .val (.ref b43), .val (.ref b_51)] [(.ref wE)])) (st59) ?_
  have s65 : Sta Z T48.heap "com/example/tradeloom/tradeloom/core/event/EventType" "ORDER_SHIPPED" "Lcom/example/tradeloom/tradeloom/core/event/EventType;" (.ref wE) := Sta.ext O63.2 P2
  obtain ⟨T64, X64, e64, st64⟩ := getS2 X59 hx hZ hown (host := "") (Or.inl (w93 hw)) Via.refl eq59 s65 (g := (mkF m 123 #[.val (.int p0), .val (.int p1), .val (.int p2), .val (.int p3), .val (.ref b1), .val (.ref b5), .val (.ref b12), .val (.ref b31), .val (.ref b43), .val (.ref b_51)] [(.ref wE)])) rfl (hb hby at_123)
  refine Go.on (Y' := T64.setTop (mkF m 126 #[.val (.int p0), .val (.int p1), .val (.int p2), .val (.int p3), .val (.ref b1), .val (.ref b5), .val (.ref b12), .val (.ref b31), .val (.ref b43), .val (.ref b_51)] [(.ref wE), (.ref wE)])) (st64) ?_
  refine Go.on (Y' := T64.setTop (mkF m 129 #[.val (.int p0), .val (.int p1), .val (.int p2), .val (.int p3), .val (.ref b1), .val (.ref b5), .val (.ref b12), .val (.ref b31), .val (.ref b43), .val (.ref b_51)] [])) (fun _ k => Jvm.RoadKit.acmp (g := (mkF m 126 #[.val (.int p0), .val (.int p1), .val (.int p2), .val (.int p3), .val (.ref b1), .val (.ref b5), .val (.ref b12), .val (.ref b31), .val (.ref b43), .val (.ref b_51)] [(.ref wE), (.ref wE)])) X64 hx rfl rfl rfl (pc0 := 126) (pc' := 129) (same := true) rfl (hb hby at_126) rfl (decide_eq_true rfl) (by decide) (by decide) k) ?_
  refine Go.on (Y' := T64.setTop (mkF m 130 #[.val (.int p0), .val (.int p1), .val (.int p2), .val (.int p3), .val (.ref b1), .val (.ref b5), .val (.ref b12), .val (.ref b31), .val (.ref b43), .val (.ref b_51)] [(.int (1 : Int32))])) (fun _ k => XS.iconst X64.here hx rfl (hb hby at_129) k) ?_
  refine Go.on (Y' := T64.setTop (mkF m 134 #[.val (.int p0), .val (.int p1), .val (.int p2), .val (.int p3), .val (.ref b1), .val (.ref b5), .val (.ref b12), .val (.ref b31), .val (.ref b43), .val (.ref b_51)] [(.int (1 : Int32))])) (fun _ k => XS.goto X64.here hx rfl (pc0 := 130) (pc' := 134) rfl (hb hby at_130) (by decide) (by decide) k) ?_
  exact OwnW.retN X64 hx hlk hret (t := .boolean) (by simp) (hb hby at_134) (by decide) (by decide) rfl (show QQ _ T64.heap _ from (by rw [e64]; exact ⟨rfl, N59⟩))
theorem w91 {Z : State} {a0 : Array Value} (hw : ∀ d ∈ tables_1, d.before a0 Z = true) : (Jvm.Cond.initialized "com/example/tradeloom/tradeloom/core/event/EventType").before a0 Z = true := hw _ (List.mem_of_getElem? (i := 91) rfl)
theorem w92 {Z : State} {a0 : Array Value} (hw : ∀ d ∈ tables_1, d.before a0 Z = true) : (Jvm.Cond.laysStatic "com/example/tradeloom/tradeloom/core/event/EventType" "ORDER_SHIPPED" "Lcom/example/tradeloom/tradeloom/core/event/EventType;").before a0 Z = true := hw _ (List.mem_of_getElem? (i := 92) rfl)
set_option maxRecDepth 65536 in
set_option maxHeartbeats 40000000 in
theorem comes_1 {Post : Tables → Env → Array Value → State → Outcome → State → Prop} (hpost : ∀ tb e args s v u, (limb_1_1.after args s (.returned v) u = true ∧ limb_1_2.after args s (.returned v) u = true ∧ True) → FrameEnd s (.returned v) u (Jvm.fieldLocs frame_1_writes args s ++ Jvm.arrayLocs frame_1_arrays args s ++ Jvm.staticLocs frame_1_statics s) 24 128 → Post tb e args s (.returned v) u) :
    ArmFor flags0 classFile x code maxLocals ret World_1 tables_1 room_1 Calls_1 rest_1 Pre_1 Post := by
  intro l hfl _ _ p e ha hc hk s m args below hf hA hF happ hP
  obtain ⟨hcalls, hrest, hpre⟩ := hP
  obtain ⟨-, -, -, hnamed, -, -, -, hat⟩ := (Spec.applies_iff hf).mp happ
  obtain ⟨hg, hn⟩ := and_e (Cond.before_iff.mp (show (Jvm.Cond.and given_1 narrow_1).before args s = true from hpre))
  obtain ⟨g1, g2⟩ := and_e hg
  obtain ⟨g3, g4⟩ := and_e g2
  obtain ⟨g5, g6⟩ := and_e g4
  obtain ⟨g7, g8⟩ := and_e g6
  obtain ⟨w0_, w1_, w2_, w3_, rfl⟩ : ∃ w0_ w1_ w2_ w3_ : Value, args = #[w0_, w1_, w2_, w3_] := by
    have hs : args.size = 4 := by simpa [Cond.value, given_1] using g1
    obtain ⟨L⟩ := args
    match L, hs with
    | [w0_, w1_, w2_, w3_], _ => exact ⟨w0_, w1_, w2_, w3_, rfl⟩
  have hw := fun d (hd : d ∈ tables_1) => atoms_spec (ws := Jvm.Cond.code x code maxLocals ret :: tables_1) hat d (List.mem_cons_of_mem _ hd)
  have hfit : Fit s := fun {y c} hc i hi => by
    obtain ⟨ha, rfl⟩ := Array.getElem?_eq_some_iff.mp hc
    have q := List.all_eq_true.mp ((Array.all_eq_true_iff_forall_mem.mp hF) _ (Array.getElem_mem ha)) i (List.mem_range.mpr hi)
    simpa [Array.getElem?_eq_getElem hi] using q
  obtain ⟨hsets, hown0⟩ := atoms_of _ (rest_1_c_eq ▸ (show rest_1_c.before _ s = true from hrest))
  have hr0 := Cond.before_iff.mp hown0
  obtain ⟨i0_, ei0_⟩ := is_v g3
  obtain rfl : w0_ = (.int i0_) := Option.some.inj ei0_
  obtain ⟨i1_, ei1_⟩ := is_v g5
  obtain rfl : w1_ = (.int i1_) := Option.some.inj ei1_
  obtain ⟨i2_, ei2_⟩ := is_v g7
  obtain rfl : w2_ = (.int i2_) := Option.some.inj ei2_
  obtain ⟨i3_, ei3_⟩ := is_v g8
  obtain rfl : w3_ = (.int i3_) := Option.some.inj ei3_
  obtain ⟨cs, ev_cs⟩ := is_v (Cond.before_iff.mp (hsets _ (List.mem_of_getElem? (i := 1) rfl)))
  have S_cs : Sta s s.heap "java/lang/String" "COMPACT_STRINGS" "Z" (.int cs) := Sta.start ev_cs (Or.inl (hsets _ (List.mem_of_getElem? (i := 0) rfl)))
  have P_cs : ¬ (cs = (0 : Int32)) := gotF (Cond.eq_ints ev_cs (Term.int_eval (0))) (not_v (Cond.before_iff.mp (hsets _ (List.mem_of_getElem? (i := 2) rfl))))
  obtain ⟨wE, ev_wE⟩ := exa_v hn
  have S_wE := Sta.start ev_wE (Or.inr ⟨(w91 hw), (w92 hw)⟩)
  obtain ⟨n, o, h1, h2, h3, _, L, rfl, ⟨rfl, N⟩, hq⟩ := law0 l s _ hw i0_ i1_ i2_ i3_ cs wE s.heap s.heap.size (Nat.le_refl _) (Old.start s) S_cs P_cs S_wE tables_1 p e ha hc hk s m _ below hf ((Spec.applies_iff_loose hf).mp happ).1 ⟨rfl, State.Warmed39.refl s, rfl⟩ trivial
  refine ⟨n, _, h1, h2, h3, hpost _ _ _ _ _ _ ⟨Cond.after_iff.mpr rfl, Cond.after_iff.mpr (eq_i res_at (Term.int_eval (1)) rfl), trivial⟩ ⟨hq.1, hq.2.1, (hq.2.2.sift fun y hy => Or.inr (N y hy)).mono (by decide) (by decide)⟩⟩
theorem main_1_1 : Claimed_1_1 := comes_1 fun _ _ _ _ _ _ h hF => ⟨h.1, hF⟩
theorem main_1_2 : Claimed_1_2 := comes_1 fun _ _ _ _ _ _ h hF => ⟨h.2.1, hF⟩
end Jvm.Pilot.@@N@@
namespace Jvm.Pilot.@@N@@
open Jvm Jvm.ClassFile Sem Op Lib Jvm.Free Jvm.Stand Jvm.Pilot.@@N@@.Jvm.D
/-! MADE BY PROGRAM (witnessworld.py) out of the Statement's table words and the real class files: 25 classes; the members and pool entries that the words name. The judged class is class 1, her method 1. -/
namespace start1
open Jvm.ClassFile
def u (s : String) : CpInfo := .utf8 (stringToUtf16 s)
/-- a pool by its gaps: so many unusable entries, then the entry; so many at the end -/
def gap : Nat → List CpInfo → List CpInfo
  | 0, r => r
  | n + 1, r => .unusable :: gap n r
def poolList (es : List (Nat × CpInfo)) (last : Nat) : List CpInfo := es.foldr (fun e r => gap e.1 (e.2 :: r)) (gap last [])
def pool (es : List (Nat × CpInfo)) (last : Nat) : Array CpInfo := ⟨poolList es last⟩
def fileOf (pool : Array CpInfo) (this : Nat) (attrs : Array Attribute := #[]) (ms : Array MethodInfo := #[]) (fl : Nat := 33) (sup : Nat := 0) (ifs : Array Nat := #[]) (fds : Array FieldInfo := #[]) : ClassFile where
  minorVersion := 0
  majorVersion := 65
  constantPool := pool
  accessFlags := fl
  thisClass := this
  superClass := sup
  interfaces := ifs
  fields := fds
  methods := ms
  attributes := attrs
def plain (name : String) (sup : Option ClassId) : Class where
  name := name
  kind := .ordinary
  loader := none
  accessFlags := 33
  super := sup
  interfaces := #[]
  cf := none
  fields := #[]
  methods := #[]
  instanceTypes := #[]
  staticTypes := #[]
  resolved := #[]
  callSites := []
  init := .initialized
  statics := none
  mirror := none

def pool0 : Array CpInfo := pool [(5, u "<init>"), (0, u "()V"), (1, .class_ 10), (1, u "java/lang/Object")] 113

def k0c0 : Code := { maxStack := 0, maxLocals := 1, code := object_method_1_code, exceptionTable := #[], attributes := #[] }
def k0m0 : Method := { name := "<init>", desc := "()V", sig := { parameters := [], returnType := none }, accessFlags := 1, code := some k0c0 }
/-- java/lang/Object -/
def k0 : Class := { plain "java/lang/Object" none with
  accessFlags := 33
  interfaces := #[]
  cf := some (fileOf pool0 8 #[] #[{ accessFlags := 1, nameIndex := 5, descriptorIndex := 6, attributes := #[] }] 33 0 #[] #[])
  fields := #[]
  methods := #[k0m0]
  instanceTypes := #[]
  staticTypes := #[]
  resolved := Array.replicate 124 none
  statics := none }

def pool1 : Array CpInfo := pool [(2, .class_ 4), (1, u "java/lang/Object"), (0, u "<init>"), (0, u "()V"), (0, .class_ 8), (0, u "java/lang/String"), (0, .methodref 7 10), (0, .nameAndType 5 11), (0, u "([C)V"), (0, .class_ 13), (0, u "com/example/tradeloom/tradeloom/core/Shipment"), (0, .methodref 12 15), (0, .nameAndType 5 16), (0, u "(Ljava/lang/String;Ljava/lang/String;)V"), (0, .methodref 18 19), (0, .class_ 20), (0, .nameAndType 21 22), (0, u "com/example/tradeloom/tradeloom/core/event/OrderShipped"), (0, u "of"), (0, u "(Lcom/example/tradeloom/tradeloom/core/Shipment;)Lcom/example/tradeloom/tradeloom/core/event/OrderShipped;"), (0, .methodref 18 24), (0, .nameAndType 25 26), (0, u "carrier"), (0, u "()Ljava/lang/String;"), (0, .methodref 7 28), (0, .nameAndType 29 30), (0, u "equals"), (0, u "(Ljava/lang/Object;)Z"), (0, .methodref 18 32), (0, .nameAndType 33 26), (0, u "trackingNo"), (0, .methodref 18 35), (0, .nameAndType 36 37), (0, u "type"), (0, u "()Lcom/example/tradeloom/tradeloom/core/event/EventType;"), (0, .fieldref 39 40), (0, .class_ 41), (0, .nameAndType 42 43), (0, u "com/example/tradeloom/tradeloom/core/event/EventType"), (0, u "ORDER_SHIPPED"), (0, u "Lcom/example/tradeloom/tradeloom/core/event/EventType;"), (0, .class_ 45), (0, u "com/example/tradeloom/tradeloom/core/event/OrderShippedOfPinLaw"), (2, u "law"), (0, u "(IIII)Z")] 5

def k1m0 : Method := { name := "<init>", desc := "()V", sig := { parameters := [], returnType := none }, accessFlags := 1, code := none }
def k1c1 : Code := { maxStack := 4, maxLocals := 10, code := code, exceptionTable := #[], attributes := #[] }
def k1m1 : Method := { name := "law", desc := "(IIII)Z", sig := { parameters := [.int, .int, .int, .int], returnType := some .boolean }, accessFlags := 9, code := some k1c1 }
/-- com/example/tradeloom/tradeloom/core/event/OrderShippedOfPinLaw -/
def k1 : Class := { plain "com/example/tradeloom/tradeloom/core/event/OrderShippedOfPinLaw" (some 0) with
  accessFlags := 49
  interfaces := #[]
  cf := some (fileOf pool1 44 #[] #[{ accessFlags := 1, nameIndex := 5, descriptorIndex := 6, attributes := #[] }, { accessFlags := 9, nameIndex := 48, descriptorIndex := 49, attributes := #[] }] 49 2 #[] #[])
  fields := #[]
  methods := #[k1m0, k1m1]
  instanceTypes := #[]
  staticTypes := #[]
  resolved := Array.replicate 55 none
  statics := none }

def pool2 : Array CpInfo := pool [(1, .class_ 2), (0, u "java/io/Serializable"), (0, .class_ 4), (0, u "java/lang/Object")] 2

/-- java/io/Serializable -/
def k2 : Class := { plain "java/io/Serializable" (some 0) with
  accessFlags := 1537
  interfaces := #[]
  cf := some (fileOf pool2 1 #[] #[] 1537 3 #[] #[])
  fields := #[]
  methods := #[]
  instanceTypes := #[]
  staticTypes := #[]
  resolved := Array.replicate 7 none
  statics := none }

def pool3 : Array CpInfo := pool [(1, .class_ 2), (0, u "java/lang/Comparable"), (0, .class_ 4), (0, u "java/lang/Object")] 7

/-- java/lang/Comparable -/
def k3 : Class := { plain "java/lang/Comparable" (some 0) with
  accessFlags := 1537
  interfaces := #[]
  cf := some (fileOf pool3 1 #[] #[] 1537 3 #[] #[])
  fields := #[]
  methods := #[]
  instanceTypes := #[]
  staticTypes := #[]
  resolved := Array.replicate 12 none
  statics := none }

def pool4 : Array CpInfo := pool [(2, .class_ 4), (1, u "java/lang/CharSequence"), (42, .class_ 48), (0, u "java/lang/CharSequence$1CodePointIterator"), (10, .class_ 60), (0, u "java/lang/CharSequence$1CharIterator"), (5, .class_ 67), (0, u "java/lang/Object")] 63

/-- java/lang/CharSequence -/
def k4 : Class := { plain "java/lang/CharSequence" (some 0) with
  accessFlags := 1537
  interfaces := #[]
  cf := some (fileOf pool4 2 #[.nestMembers #[47, 59]] #[] 1537 66 #[] #[])
  fields := #[]
  methods := #[]
  instanceTypes := #[]
  staticTypes := #[]
  resolved := Array.replicate 131 none
  statics := none }

def pool5 : Array CpInfo := pool [(1, .class_ 2), (0, u "java/lang/constant/Constable"), (0, .class_ 4), (0, u "java/lang/Object")] 6

/-- java/lang/constant/Constable -/
def k5 : Class := { plain "java/lang/constant/Constable" (some 0) with
  accessFlags := 1537
  interfaces := #[]
  cf := some (fileOf pool5 1 #[] #[] 1537 3 #[] #[])
  fields := #[]
  methods := #[]
  instanceTypes := #[]
  staticTypes := #[]
  resolved := Array.replicate 11 none
  statics := none }

def pool6 : Array CpInfo := pool [(1, .class_ 2), (0, u "java/lang/constant/ConstantDesc"), (0, .class_ 4), (0, u "java/lang/Object")] 32

/-- java/lang/constant/ConstantDesc -/
def k6 : Class := { plain "java/lang/constant/ConstantDesc" (some 0) with
  accessFlags := 1537
  interfaces := #[]
  cf := some (fileOf pool6 1 #[] #[] 1537 3 #[] #[])
  fields := #[]
  methods := #[]
  instanceTypes := #[]
  staticTypes := #[]
  resolved := Array.replicate 37 none
  statics := none }

def pool7 : Array CpInfo := pool [(1, .methodref 2 3), (0, .class_ 4), (0, .nameAndType 5 6), (0, u "java/lang/Object"), (0, u "<init>"), (0, u "()V"), (2, .fieldref 10 11), (0, .class_ 12), (0, .nameAndType 13 14), (0, u "java/lang/String"), (0, u "value"), (0, u "[B"), (0, .fieldref 10 16), (0, .nameAndType 17 18), (0, u "coder"), (0, u "B"), (2, u "hash"), (0, u "I"), (2, u "hashIsZero"), (0, u "Z"), (0, .methodref 10 28), (0, .nameAndType 5 29), (0, u "([CIILjava/lang/Void;)V"), (8, .fieldref 10 39), (0, .nameAndType 40 26), (0, u "COMPACT_STRINGS"), (1, .class_ 44), (1, u "java/lang/StringUTF16"), (0, u "compress"), (1, .methodref 42 48), (0, .nameAndType 49 50), (0, u "coderFromArrayLen"), (0, u "([BI)B"), (126, .methodref 42 178), (0, .nameAndType 45 179), (0, u "([CII)[B"), (363, u "equals"), (29, u "(Ljava/lang/Object;)Z"), (1, .class_ 576), (0, u "java/lang/CharSequence"), (22, u "CASE_INSENSITIVE_ORDER"), (0, u "Ljava/util/Comparator;"), (409, u "([C)V"), (90, u "serialPersistentFields"), (0, u "[Ljava/io/ObjectStreamField;"), (0, .class_ 1104), (0, u "java/lang/String$CaseInsensitiveComparator"), (1, .class_ 1107), (0, u "java/io/Serializable"), (0, .class_ 1109), (0, u "java/lang/Comparable"), (0, .class_ 1111), (0, u "java/lang/constant/Constable"), (0, .class_ 1113), (0, u "java/lang/constant/ConstantDesc"), (2, u "serialVersionUID"), (0, u "J"), (3, u "REPL"), (0, u "C"), (2, u "LATIN1"), (1, u "UTF16")] 323

def k7m0 : Method := { name := "<init>", desc := "()V", sig := { parameters := [], returnType := none }, accessFlags := 1, code := none }
def k7c1 : Code := { maxStack := 5, maxLocals := 2, code := jdk_42_method_3_code, exceptionTable := #[], attributes := #[] }
def k7m1 : Method := { name := "<init>", desc := "([C)V", sig := { parameters := [(.array .char)], returnType := none }, accessFlags := 1, code := some k7c1 }
def k7c2 : Code := { maxStack := 2, maxLocals := 3, code := jdk_42_method_66_code, exceptionTable := #[], attributes := #[] }
def k7m2 : Method := { name := "equals", desc := "(Ljava/lang/Object;)Z", sig := { parameters := [(.object "java/lang/Object")], returnType := some .boolean }, accessFlags := 1, code := some k7c2 }
def k7c3 : Code := { maxStack := 4, maxLocals := 6, code := jdk_42_method_149_code, exceptionTable := #[], attributes := #[] }
def k7m3 : Method := { name := "<init>", desc := "([CIILjava/lang/Void;)V", sig := { parameters := [(.array .char), .int, .int, (.object "java/lang/Void")], returnType := none }, accessFlags := 2, code := some k7c3 }
/-- java/lang/String -/
def k7 : Class := { plain "java/lang/String" (some 0) with
  accessFlags := 49
  interfaces := #[2, 3, 4, 5, 6]
  cf := some (fileOf pool7 10 #[.nestMembers #[1103]] #[{ accessFlags := 1, nameIndex := 5, descriptorIndex := 6, attributes := #[] }, { accessFlags := 1, nameIndex := 5, descriptorIndex := 1010, attributes := #[] }, { accessFlags := 1, nameIndex := 543, descriptorIndex := 573, attributes := #[] }, { accessFlags := 2, nameIndex := 5, descriptorIndex := 29, attributes := #[] }] 49 2 #[1106, 1108, 575, 1110, 1112] #[{ accessFlags := 18, nameIndex := 13, descriptorIndex := 14, attributes := #[] }, { accessFlags := 18, nameIndex := 17, descriptorIndex := 18, attributes := #[] }, { accessFlags := 2, nameIndex := 21, descriptorIndex := 22, attributes := #[] }, { accessFlags := 2, nameIndex := 25, descriptorIndex := 26, attributes := #[] }, { accessFlags := 26, nameIndex := 1116, descriptorIndex := 1117, attributes := #[] }, { accessFlags := 24, nameIndex := 40, descriptorIndex := 26, attributes := #[] }, { accessFlags := 26, nameIndex := 1101, descriptorIndex := 1102, attributes := #[] }, { accessFlags := 26, nameIndex := 1121, descriptorIndex := 1122, attributes := #[] }, { accessFlags := 25, nameIndex := 599, descriptorIndex := 600, attributes := #[] }, { accessFlags := 24, nameIndex := 1125, descriptorIndex := 18, attributes := #[] }, { accessFlags := 24, nameIndex := 1127, descriptorIndex := 18, attributes := #[] }])
  fields := #[{ name := "value", type := (.array .byte), accessFlags := 18, slot := 0, constantValue := 0 }, { name := "coder", type := .byte, accessFlags := 18, slot := 1, constantValue := 0 }, { name := "hash", type := .int, accessFlags := 2, slot := 2, constantValue := 0 }, { name := "hashIsZero", type := .boolean, accessFlags := 2, slot := 3, constantValue := 0 }, { name := "serialVersionUID", type := .long, accessFlags := 26, slot := 0, constantValue := 0 }, { name := "COMPACT_STRINGS", type := .boolean, accessFlags := 24, slot := 1, constantValue := 0 }, { name := "serialPersistentFields", type := (.array (.object "java/io/ObjectStreamField")), accessFlags := 26, slot := 2, constantValue := 0 }, { name := "REPL", type := .char, accessFlags := 26, slot := 3, constantValue := 0 }, { name := "CASE_INSENSITIVE_ORDER", type := (.object "java/util/Comparator"), accessFlags := 25, slot := 4, constantValue := 0 }, { name := "LATIN1", type := .byte, accessFlags := 24, slot := 5, constantValue := 0 }, { name := "UTF16", type := .byte, accessFlags := 24, slot := 6, constantValue := 0 }]
  methods := #[k7m0, k7m1, k7m2, k7m3]
  instanceTypes := #[(.array .byte), .byte, .int, .boolean]
  staticTypes := #[.long, .boolean, (.array (.object "java/io/ObjectStreamField")), .char, (.object "java/util/Comparator"), .byte, .byte]
  resolved := Array.replicate 1451 none
  statics := some 0 }

def pool8 : Array CpInfo := pool [(6, .class_ 8), (1, u "java/lang/Object"), (0, u "<init>"), (0, u "()V"), (1, .class_ 14), (1, u "java/lang/StringUTF16"), (31, u "$assertionsDisabled"), (0, u "Z"), (13, u "HI_BYTE_SHIFT"), (0, u "I"), (2, u "LO_BYTE_SHIFT"), (49, .methodref 12 116), (0, .nameAndType 117 118), (0, u "compress"), (0, u "([CI[BII)I"), (3, u "([CII)[B"), (138, u "coderFromArrayLen"), (0, u "([BI)B"), (106, .class_ 371), (1, u "java/lang/StringUTF16$LinesSpliterator"), (58, u "MAX_LENGTH"), (196, .class_ 628), (0, u "java/lang/StringUTF16$CodePointsSpliterator"), (0, .class_ 630), (0, u "java/lang/StringUTF16$CharsSpliterator")] 4

def k8m0 : Method := { name := "<init>", desc := "()V", sig := { parameters := [], returnType := none }, accessFlags := 0, code := none }
def k8c1 : Code := { maxStack := 2, maxLocals := 2, code := jdk_52_method_15_code, exceptionTable := #[], attributes := #[] }
def k8m1 : Method := { name := "coderFromArrayLen", desc := "([BI)B", sig := { parameters := [(.array .byte), .int], returnType := some .byte }, accessFlags := 8, code := some k8c1 }
def k8c2 : Code := { maxStack := 5, maxLocals := 6, code := jdk_52_method_16_code, exceptionTable := #[], attributes := #[] }
def k8m2 : Method := { name := "compress", desc := "([CII)[B", sig := { parameters := [(.array .char), .int, .int], returnType := some (.array .byte) }, accessFlags := 9, code := some k8c2 }
def k8c3 : Code := { maxStack := 3, maxLocals := 7, code := jdk_52_method_21_code, exceptionTable := #[], attributes := #[] }
def k8m3 : Method := { name := "compress", desc := "([CI[BII)I", sig := { parameters := [(.array .char), .int, (.array .byte), .int, .int], returnType := some .int }, accessFlags := 9, code := some k8c3 }
/-- java/lang/StringUTF16 -/
def k8 : Class := { plain "java/lang/StringUTF16" (some 0) with
  accessFlags := 48
  interfaces := #[]
  cf := some (fileOf pool8 12 #[.nestMembers #[627, 629, 369]] #[{ accessFlags := 0, nameIndex := 9, descriptorIndex := 10, attributes := #[] }, { accessFlags := 8, nameIndex := 261, descriptorIndex := 262, attributes := #[] }, { accessFlags := 9, nameIndex := 117, descriptorIndex := 122, attributes := #[] }, { accessFlags := 9, nameIndex := 117, descriptorIndex := 118, attributes := #[] }] 48 6 #[] #[{ accessFlags := 26, nameIndex := 61, descriptorIndex := 62, attributes := #[] }, { accessFlags := 26, nameIndex := 65, descriptorIndex := 62, attributes := #[] }, { accessFlags := 24, nameIndex := 430, descriptorIndex := 62, attributes := #[] }, { accessFlags := 4120, nameIndex := 46, descriptorIndex := 47, attributes := #[] }])
  fields := #[{ name := "HI_BYTE_SHIFT", type := .int, accessFlags := 26, slot := 0, constantValue := 0 }, { name := "LO_BYTE_SHIFT", type := .int, accessFlags := 26, slot := 1, constantValue := 0 }, { name := "MAX_LENGTH", type := .int, accessFlags := 24, slot := 2, constantValue := 0 }, { name := "$assertionsDisabled", type := .boolean, accessFlags := 4120, slot := 3, constantValue := 0 }]
  methods := #[k8m0, k8m1, k8m2, k8m3]
  instanceTypes := #[]
  staticTypes := #[.int, .int, .int, .boolean]
  resolved := Array.replicate 635 none
  statics := none }

def pool9 : Array CpInfo := pool [(1, .methodref 2 3), (0, .class_ 4), (0, .nameAndType 5 6), (0, u "java/lang/Object"), (0, u "<init>"), (0, u "()V"), (0, .class_ 8), (0, u "java/lang/Record")] 13

def k9c0 : Code := { maxStack := 1, maxLocals := 1, code := jdk_30_method_1_code, exceptionTable := #[], attributes := #[] }
def k9m0 : Method := { name := "<init>", desc := "()V", sig := { parameters := [], returnType := none }, accessFlags := 4, code := some k9c0 }
/-- java/lang/Record -/
def k9 : Class := { plain "java/lang/Record" (some 0) with
  accessFlags := 1057
  interfaces := #[]
  cf := some (fileOf pool9 7 #[] #[{ accessFlags := 4, nameIndex := 5, descriptorIndex := 6, attributes := #[] }] 1057 2 #[] #[])
  fields := #[]
  methods := #[k9m0]
  instanceTypes := #[]
  staticTypes := #[]
  resolved := Array.replicate 22 none
  statics := none }

def pool10 : Array CpInfo := pool [(1, .methodref 2 3), (0, .class_ 4), (0, .nameAndType 5 6), (0, u "java/lang/Record"), (0, u "<init>"), (0, u "()V"), (0, .fieldref 8 9), (0, .class_ 10), (0, .nameAndType 11 12), (0, u "com/example/tradeloom/tradeloom/core/Shipment"), (0, u "carrier"), (0, u "Ljava/lang/String;"), (0, .fieldref 8 14), (0, .nameAndType 15 12), (0, u "trackingNo"), (12, u "(Ljava/lang/String;Ljava/lang/String;)V"), (3, u "()Ljava/lang/String;")] 23

def k10c0 : Code := { maxStack := 2, maxLocals := 3, code := prog_34_method_1_code, exceptionTable := #[], attributes := #[] }
def k10m0 : Method := { name := "<init>", desc := "(Ljava/lang/String;Ljava/lang/String;)V", sig := { parameters := [(.object "java/lang/String"), (.object "java/lang/String")], returnType := none }, accessFlags := 1, code := some k10c0 }
def k10c1 : Code := { maxStack := 1, maxLocals := 1, code := prog_34_method_5_code, exceptionTable := #[], attributes := #[] }
def k10m1 : Method := { name := "carrier", desc := "()Ljava/lang/String;", sig := { parameters := [], returnType := some (.object "java/lang/String") }, accessFlags := 1, code := some k10c1 }
def k10c2 : Code := { maxStack := 1, maxLocals := 1, code := prog_34_method_6_code, exceptionTable := #[], attributes := #[] }
def k10m2 : Method := { name := "trackingNo", desc := "()Ljava/lang/String;", sig := { parameters := [], returnType := some (.object "java/lang/String") }, accessFlags := 1, code := some k10c2 }
/-- com/example/tradeloom/tradeloom/core/Shipment -/
def k10 : Class := { plain "com/example/tradeloom/tradeloom/core/Shipment" (some 9) with
  accessFlags := 49
  interfaces := #[]
  cf := some (fileOf pool10 8 #[] #[{ accessFlags := 1, nameIndex := 5, descriptorIndex := 28, attributes := #[] }, { accessFlags := 1, nameIndex := 11, descriptorIndex := 32, attributes := #[] }, { accessFlags := 1, nameIndex := 15, descriptorIndex := 32, attributes := #[] }] 49 2 #[] #[{ accessFlags := 18, nameIndex := 11, descriptorIndex := 12, attributes := #[] }, { accessFlags := 18, nameIndex := 15, descriptorIndex := 12, attributes := #[] }])
  fields := #[{ name := "carrier", type := (.object "java/lang/String"), accessFlags := 18, slot := 0, constantValue := 0 }, { name := "trackingNo", type := (.object "java/lang/String"), accessFlags := 18, slot := 1, constantValue := 0 }]
  methods := #[k10m0, k10m1, k10m2]
  instanceTypes := #[(.object "java/lang/String"), (.object "java/lang/String")]
  staticTypes := #[]
  resolved := Array.replicate 56 none
  statics := none }

def pool11 : Array CpInfo := pool [(1, .class_ 2), (0, u "com/example/tradeloom/tradeloom/core/event/EventData"), (0, .class_ 4), (0, u "java/lang/Object")] 4

/-- com/example/tradeloom/tradeloom/core/event/EventData -/
def k11 : Class := { plain "com/example/tradeloom/tradeloom/core/event/EventData" (some 0) with
  accessFlags := 1537
  interfaces := #[]
  cf := some (fileOf pool11 1 #[] #[] 1537 3 #[] #[])
  fields := #[]
  methods := #[]
  instanceTypes := #[]
  staticTypes := #[]
  resolved := Array.replicate 9 none
  statics := none }

def pool12 : Array CpInfo := pool [(1, .methodref 2 3), (0, .class_ 4), (0, .nameAndType 5 6), (0, u "java/lang/Record"), (0, u "<init>"), (0, u "()V"), (0, .fieldref 8 9), (0, .class_ 10), (0, .nameAndType 11 12), (0, u "com/example/tradeloom/tradeloom/core/event/OrderShipped"), (0, u "carrier"), (0, u "Ljava/lang/String;"), (0, .fieldref 8 14), (0, .nameAndType 15 12), (0, u "trackingNo"), (0, .methodref 17 18), (0, .class_ 19), (0, .nameAndType 11 20), (0, u "com/example/tradeloom/tradeloom/core/Shipment"), (0, u "()Ljava/lang/String;"), (0, .methodref 17 22), (0, .nameAndType 15 20), (0, .methodref 8 24), (0, .nameAndType 5 25), (0, u "(Ljava/lang/String;Ljava/lang/String;)V"), (0, .fieldref 27 28), (0, .class_ 29), (0, .nameAndType 30 31), (0, u "com/example/tradeloom/tradeloom/core/event/EventType"), (0, u "ORDER_SHIPPED"), (0, u "Lcom/example/tradeloom/tradeloom/core/event/EventType;"), (12, .class_ 45), (0, u "com/example/tradeloom/tradeloom/core/event/EventData"), (3, u "of"), (0, u "(Lcom/example/tradeloom/tradeloom/core/Shipment;)Lcom/example/tradeloom/tradeloom/core/event/OrderShipped;"), (0, u "type"), (0, u "()Lcom/example/tradeloom/tradeloom/core/event/EventType;")] 23

def k12c0 : Code := { maxStack := 2, maxLocals := 3, code := prog_58_method_1_code, exceptionTable := #[], attributes := #[] }
def k12m0 : Method := { name := "<init>", desc := "(Ljava/lang/String;Ljava/lang/String;)V", sig := { parameters := [(.object "java/lang/String"), (.object "java/lang/String")], returnType := none }, accessFlags := 1, code := some k12c0 }
def k12c1 : Code := { maxStack := 4, maxLocals := 1, code := prog_58_method_2_code, exceptionTable := #[], attributes := #[] }
def k12m1 : Method := { name := "of", desc := "(Lcom/example/tradeloom/tradeloom/core/Shipment;)Lcom/example/tradeloom/tradeloom/core/event/OrderShipped;", sig := { parameters := [(.object "com/example/tradeloom/tradeloom/core/Shipment")], returnType := some (.object "com/example/tradeloom/tradeloom/core/event/OrderShipped") }, accessFlags := 9, code := some k12c1 }
def k12c2 : Code := { maxStack := 1, maxLocals := 1, code := prog_58_method_3_code, exceptionTable := #[], attributes := #[] }
def k12m2 : Method := { name := "type", desc := "()Lcom/example/tradeloom/tradeloom/core/event/EventType;", sig := { parameters := [], returnType := some (.object "com/example/tradeloom/tradeloom/core/event/EventType") }, accessFlags := 1, code := some k12c2 }
def k12c3 : Code := { maxStack := 1, maxLocals := 1, code := prog_58_method_7_code, exceptionTable := #[], attributes := #[] }
def k12m3 : Method := { name := "carrier", desc := "()Ljava/lang/String;", sig := { parameters := [], returnType := some (.object "java/lang/String") }, accessFlags := 1, code := some k12c3 }
def k12c4 : Code := { maxStack := 1, maxLocals := 1, code := prog_58_method_8_code, exceptionTable := #[], attributes := #[] }
def k12m4 : Method := { name := "trackingNo", desc := "()Ljava/lang/String;", sig := { parameters := [], returnType := some (.object "java/lang/String") }, accessFlags := 1, code := some k12c4 }
/-- com/example/tradeloom/tradeloom/core/event/OrderShipped -/
def k12 : Class := { plain "com/example/tradeloom/tradeloom/core/event/OrderShipped" (some 9) with
  accessFlags := 49
  interfaces := #[11]
  cf := some (fileOf pool12 8 #[] #[{ accessFlags := 1, nameIndex := 5, descriptorIndex := 25, attributes := #[] }, { accessFlags := 9, nameIndex := 49, descriptorIndex := 50, attributes := #[] }, { accessFlags := 1, nameIndex := 51, descriptorIndex := 52, attributes := #[] }, { accessFlags := 1, nameIndex := 11, descriptorIndex := 20, attributes := #[] }, { accessFlags := 1, nameIndex := 15, descriptorIndex := 20, attributes := #[] }] 49 2 #[44] #[{ accessFlags := 18, nameIndex := 11, descriptorIndex := 12, attributes := #[] }, { accessFlags := 18, nameIndex := 15, descriptorIndex := 12, attributes := #[] }])
  fields := #[{ name := "carrier", type := (.object "java/lang/String"), accessFlags := 18, slot := 0, constantValue := 0 }, { name := "trackingNo", type := (.object "java/lang/String"), accessFlags := 18, slot := 1, constantValue := 0 }]
  methods := #[k12m0, k12m1, k12m2, k12m3, k12m4]
  instanceTypes := #[(.object "java/lang/String"), (.object "java/lang/String")]
  staticTypes := #[]
  resolved := Array.replicate 76 none
  statics := none }

def pool13 : Array CpInfo := pool [(2, .class_ 4), (1, u "java/lang/Enum"), (0, u "name"), (0, u "Ljava/lang/String;"), (2, u "ordinal"), (0, u "I"), (1, .class_ 14), (1, u "java/lang/Object"), (4, u "hash"), (86, .class_ 108), (1, u "java/lang/Enum$EnumDesc"), (2, .class_ 112), (0, u "java/lang/constant/Constable"), (0, .class_ 114), (0, u "java/lang/Comparable"), (0, .class_ 116), (0, u "java/io/Serializable")] 87

/-- java/lang/Enum -/
def k13 : Class := { plain "java/lang/Enum" (some 0) with
  accessFlags := 1057
  interfaces := #[5, 3, 2]
  cf := some (fileOf pool13 2 #[.nestMembers #[106]] #[] 1057 12 #[111, 113, 115] #[{ accessFlags := 18, nameIndex := 5, descriptorIndex := 6, attributes := #[] }, { accessFlags := 18, nameIndex := 9, descriptorIndex := 10, attributes := #[] }, { accessFlags := 2, nameIndex := 19, descriptorIndex := 10, attributes := #[] }])
  fields := #[{ name := "name", type := (.object "java/lang/String"), accessFlags := 18, slot := 0, constantValue := 0 }, { name := "ordinal", type := .int, accessFlags := 18, slot := 1, constantValue := 0 }, { name := "hash", type := .int, accessFlags := 2, slot := 2, constantValue := 0 }]
  methods := #[]
  instanceTypes := #[(.object "java/lang/String"), .int, .int]
  staticTypes := #[]
  resolved := Array.replicate 204 none
  statics := none }

def pool14 : Array CpInfo := pool [(1, .class_ 2), (0, u "com/example/tradeloom/tradeloom/core/event/EventType"), (2, u "ORDER_CREATED"), (0, u "Lcom/example/tradeloom/tradeloom/core/event/EventType;"), (2, u "ORDER_DELIVERY_ADDRESS_CHANGED"), (2, u "ORDER_PAID"), (2, u "ORDER_FULFILLING"), (2, u "ORDER_SHIPPED"), (2, u "ORDER_DELIVERED"), (2, u "ORDER_COMPLETED"), (2, u "ORDER_CANCELLED"), (2, u "ORDER_CLOSED"), (2, u "ORDER_REFUNDED"), (2, u "REFUND_REQUESTED"), (2, u "REFUND_SUCCEEDED"), (2, u "REFUND_FAILED"), (2, u "AFTER_SALE_SUBMITTED"), (2, u "AFTER_SALE_APPROVED"), (2, u "AFTER_SALE_REJECTED"), (2, u "AFTER_SALE_REVOKED"), (2, u "AFTER_SALE_RETURN_SHIPPED"), (2, u "AFTER_SALE_RETURN_RECEIVED"), (2, u "AFTER_SALE_CLOSED"), (2, u "AFTER_SALE_SHORT_PICKED"), (2, u "AFTER_SALE_SETTLED"), (2, u "$VALUES"), (0, u "[Lcom/example/tradeloom/tradeloom/core/event/EventType;"), (6, .class_ 82), (1, u "java/lang/Enum")] 44

/-- com/example/tradeloom/tradeloom/core/event/EventType -/
def k14 : Class := { plain "com/example/tradeloom/tradeloom/core/event/EventType" (some 13) with
  accessFlags := 16433
  interfaces := #[]
  cf := some (fileOf pool14 1 #[] #[] 16433 80 #[] #[{ accessFlags := 16409, nameIndex := 5, descriptorIndex := 6, attributes := #[] }, { accessFlags := 16409, nameIndex := 9, descriptorIndex := 6, attributes := #[] }, { accessFlags := 16409, nameIndex := 12, descriptorIndex := 6, attributes := #[] }, { accessFlags := 16409, nameIndex := 15, descriptorIndex := 6, attributes := #[] }, { accessFlags := 16409, nameIndex := 18, descriptorIndex := 6, attributes := #[] }, { accessFlags := 16409, nameIndex := 21, descriptorIndex := 6, attributes := #[] }, { accessFlags := 16409, nameIndex := 24, descriptorIndex := 6, attributes := #[] }, { accessFlags := 16409, nameIndex := 27, descriptorIndex := 6, attributes := #[] }, { accessFlags := 16409, nameIndex := 30, descriptorIndex := 6, attributes := #[] }, { accessFlags := 16409, nameIndex := 33, descriptorIndex := 6, attributes := #[] }, { accessFlags := 16409, nameIndex := 36, descriptorIndex := 6, attributes := #[] }, { accessFlags := 16409, nameIndex := 39, descriptorIndex := 6, attributes := #[] }, { accessFlags := 16409, nameIndex := 42, descriptorIndex := 6, attributes := #[] }, { accessFlags := 16409, nameIndex := 45, descriptorIndex := 6, attributes := #[] }, { accessFlags := 16409, nameIndex := 48, descriptorIndex := 6, attributes := #[] }, { accessFlags := 16409, nameIndex := 51, descriptorIndex := 6, attributes := #[] }, { accessFlags := 16409, nameIndex := 54, descriptorIndex := 6, attributes := #[] }, { accessFlags := 16409, nameIndex := 57, descriptorIndex := 6, attributes := #[] }, { accessFlags := 16409, nameIndex := 60, descriptorIndex := 6, attributes := #[] }, { accessFlags := 16409, nameIndex := 63, descriptorIndex := 6, attributes := #[] }, { accessFlags := 16409, nameIndex := 66, descriptorIndex := 6, attributes := #[] }, { accessFlags := 16409, nameIndex := 69, descriptorIndex := 6, attributes := #[] }, { accessFlags := 4122, nameIndex := 72, descriptorIndex := 73, attributes := #[] }])
  fields := #[{ name := "ORDER_CREATED", type := (.object "com/example/tradeloom/tradeloom/core/event/EventType"), accessFlags := 16409, slot := 0, constantValue := 0 }, { name := "ORDER_DELIVERY_ADDRESS_CHANGED", type := (.object "com/example/tradeloom/tradeloom/core/event/EventType"), accessFlags := 16409, slot := 1, constantValue := 0 }, { name := "ORDER_PAID", type := (.object "com/example/tradeloom/tradeloom/core/event/EventType"), accessFlags := 16409, slot := 2, constantValue := 0 }, { name := "ORDER_FULFILLING", type := (.object "com/example/tradeloom/tradeloom/core/event/EventType"), accessFlags := 16409, slot := 3, constantValue := 0 }, { name := "ORDER_SHIPPED", type := (.object "com/example/tradeloom/tradeloom/core/event/EventType"), accessFlags := 16409, slot := 4, constantValue := 0 }, { name := "ORDER_DELIVERED", type := (.object "com/example/tradeloom/tradeloom/core/event/EventType"), accessFlags := 16409, slot := 5, constantValue := 0 }, { name := "ORDER_COMPLETED", type := (.object "com/example/tradeloom/tradeloom/core/event/EventType"), accessFlags := 16409, slot := 6, constantValue := 0 }, { name := "ORDER_CANCELLED", type := (.object "com/example/tradeloom/tradeloom/core/event/EventType"), accessFlags := 16409, slot := 7, constantValue := 0 }, { name := "ORDER_CLOSED", type := (.object "com/example/tradeloom/tradeloom/core/event/EventType"), accessFlags := 16409, slot := 8, constantValue := 0 }, { name := "ORDER_REFUNDED", type := (.object "com/example/tradeloom/tradeloom/core/event/EventType"), accessFlags := 16409, slot := 9, constantValue := 0 }, { name := "REFUND_REQUESTED", type := (.object "com/example/tradeloom/tradeloom/core/event/EventType"), accessFlags := 16409, slot := 10, constantValue := 0 }, { name := "REFUND_SUCCEEDED", type := (.object "com/example/tradeloom/tradeloom/core/event/EventType"), accessFlags := 16409, slot := 11, constantValue := 0 }, { name := "REFUND_FAILED", type := (.object "com/example/tradeloom/tradeloom/core/event/EventType"), accessFlags := 16409, slot := 12, constantValue := 0 }, { name := "AFTER_SALE_SUBMITTED", type := (.object "com/example/tradeloom/tradeloom/core/event/EventType"), accessFlags := 16409, slot := 13, constantValue := 0 }, { name := "AFTER_SALE_APPROVED", type := (.object "com/example/tradeloom/tradeloom/core/event/EventType"), accessFlags := 16409, slot := 14, constantValue := 0 }, { name := "AFTER_SALE_REJECTED", type := (.object "com/example/tradeloom/tradeloom/core/event/EventType"), accessFlags := 16409, slot := 15, constantValue := 0 }, { name := "AFTER_SALE_REVOKED", type := (.object "com/example/tradeloom/tradeloom/core/event/EventType"), accessFlags := 16409, slot := 16, constantValue := 0 }, { name := "AFTER_SALE_RETURN_SHIPPED", type := (.object "com/example/tradeloom/tradeloom/core/event/EventType"), accessFlags := 16409, slot := 17, constantValue := 0 }, { name := "AFTER_SALE_RETURN_RECEIVED", type := (.object "com/example/tradeloom/tradeloom/core/event/EventType"), accessFlags := 16409, slot := 18, constantValue := 0 }, { name := "AFTER_SALE_CLOSED", type := (.object "com/example/tradeloom/tradeloom/core/event/EventType"), accessFlags := 16409, slot := 19, constantValue := 0 }, { name := "AFTER_SALE_SHORT_PICKED", type := (.object "com/example/tradeloom/tradeloom/core/event/EventType"), accessFlags := 16409, slot := 20, constantValue := 0 }, { name := "AFTER_SALE_SETTLED", type := (.object "com/example/tradeloom/tradeloom/core/event/EventType"), accessFlags := 16409, slot := 21, constantValue := 0 }, { name := "$VALUES", type := (.array (.object "com/example/tradeloom/tradeloom/core/event/EventType")), accessFlags := 4122, slot := 22, constantValue := 0 }]
  methods := #[]
  instanceTypes := #[(.object "java/lang/String"), .int, .int]
  staticTypes := #[(.object "com/example/tradeloom/tradeloom/core/event/EventType"), (.object "com/example/tradeloom/tradeloom/core/event/EventType"), (.object "com/example/tradeloom/tradeloom/core/event/EventType"), (.object "com/example/tradeloom/tradeloom/core/event/EventType"), (.object "com/example/tradeloom/tradeloom/core/event/EventType"), (.object "com/example/tradeloom/tradeloom/core/event/EventType"), (.object "com/example/tradeloom/tradeloom/core/event/EventType"), (.object "com/example/tradeloom/tradeloom/core/event/EventType"), (.object "com/example/tradeloom/tradeloom/core/event/EventType"), (.object "com/example/tradeloom/tradeloom/core/event/EventType"), (.object "com/example/tradeloom/tradeloom/core/event/EventType"), (.object "com/example/tradeloom/tradeloom/core/event/EventType"), (.object "com/example/tradeloom/tradeloom/core/event/EventType"), (.object "com/example/tradeloom/tradeloom/core/event/EventType"), (.object "com/example/tradeloom/tradeloom/core/event/EventType"), (.object "com/example/tradeloom/tradeloom/core/event/EventType"), (.object "com/example/tradeloom/tradeloom/core/event/EventType"), (.object "com/example/tradeloom/tradeloom/core/event/EventType"), (.object "com/example/tradeloom/tradeloom/core/event/EventType"), (.object "com/example/tradeloom/tradeloom/core/event/EventType"), (.object "com/example/tradeloom/tradeloom/core/event/EventType"), (.object "com/example/tradeloom/tradeloom/core/event/EventType"), (.array (.object "com/example/tradeloom/tradeloom/core/event/EventType"))]
  resolved := Array.replicate 127 none
  statics := some 1 }

def pool15 : Array CpInfo := pool [(4, .class_ 6), (1, u "java/lang/Object"), (0, u "<init>"), (0, u "()V"), (5, .class_ 16), (1, u "java/lang/StringLatin1"), (104, u "$assertionsDisabled"), (0, u "Z"), (98, .class_ 223), (1, u "java/lang/StringLatin1$LinesSpliterator"), (166, .class_ 391), (0, u "java/lang/StringLatin1$CharsSpliterator")] 3

def k15m0 : Method := { name := "<init>", desc := "()V", sig := { parameters := [], returnType := none }, accessFlags := 0, code := none }
/-- java/lang/StringLatin1 -/
def k15 : Class := { plain "java/lang/StringLatin1" (some 0) with
  accessFlags := 48
  interfaces := #[]
  cf := some (fileOf pool15 14 #[.nestMembers #[390, 221]] #[{ accessFlags := 0, nameIndex := 7, descriptorIndex := 8, attributes := #[] }] 48 4 #[] #[{ accessFlags := 4120, nameIndex := 121, descriptorIndex := 122, attributes := #[] }])
  fields := #[{ name := "$assertionsDisabled", type := .boolean, accessFlags := 4120, slot := 0, constantValue := 0 }]
  methods := #[k15m0]
  instanceTypes := #[]
  staticTypes := #[.boolean]
  resolved := Array.replicate 395 none
  statics := none }

def pool16 : Array CpInfo := pool [(2, .class_ 4), (1, u "java/lang/Object"), (0, u "<init>"), (0, u "()V"), (17, .class_ 26), (1, u "jdk/internal/util/Preconditions"), (28, .class_ 56), (0, u "jdk/internal/util/Preconditions$4"), (57, .class_ 115), (0, u "jdk/internal/util/Preconditions$1"), (7, u "SIOOBE_FORMATTER"), (0, u "Ljava/util/function/BiFunction;"), (0, .class_ 126), (0, u "jdk/internal/util/Preconditions$2"), (3, u "AIOOBE_FORMATTER"), (0, .class_ 132), (0, u "jdk/internal/util/Preconditions$3"), (3, u "IOOBE_FORMATTER")] 57

def k16m0 : Method := { name := "<init>", desc := "()V", sig := { parameters := [], returnType := none }, accessFlags := 1, code := none }
/-- jdk/internal/util/Preconditions -/
def k16 : Class := { plain "jdk/internal/util/Preconditions" (some 0) with
  accessFlags := 33
  interfaces := #[]
  cf := some (fileOf pool16 24 #[.nestMembers #[55, 131, 125, 114]] #[{ accessFlags := 1, nameIndex := 5, descriptorIndex := 6, attributes := #[] }] 33 2 #[] #[{ accessFlags := 25, nameIndex := 123, descriptorIndex := 124, attributes := #[] }, { accessFlags := 25, nameIndex := 130, descriptorIndex := 124, attributes := #[] }, { accessFlags := 25, nameIndex := 136, descriptorIndex := 124, attributes := #[] }])
  fields := #[{ name := "SIOOBE_FORMATTER", type := (.object "java/util/function/BiFunction"), accessFlags := 25, slot := 0, constantValue := 0 }, { name := "AIOOBE_FORMATTER", type := (.object "java/util/function/BiFunction"), accessFlags := 25, slot := 1, constantValue := 0 }, { name := "IOOBE_FORMATTER", type := (.object "java/util/function/BiFunction"), accessFlags := 25, slot := 2, constantValue := 0 }]
  methods := #[k16m0]
  instanceTypes := #[]
  staticTypes := #[(.object "java/util/function/BiFunction"), (.object "java/util/function/BiFunction"), (.object "java/util/function/BiFunction")]
  resolved := Array.replicate 194 none
  statics := some 2 }

def pool17 : Array CpInfo := pool [(9, u "<init>"), (6, .class_ 18), (1, u "java/lang/Object"), (0, u "()V"), (1, .class_ 23), (1, u "jdk/internal/util/ArraysSupport"), (0, u "LOG2_ARRAY_LONG_INDEX_SCALE"), (0, u "I"), (2, u "U"), (0, u "Ljdk/internal/misc/Unsafe;"), (8, u "BIG_ENDIAN"), (0, u "Z"), (8, u "LOG2_BYTE_BIT_SIZE"), (4, u "LOG2_ARRAY_INT_INDEX_SCALE"), (54, u "JLA"), (0, u "Ljdk/internal/access/JavaLangAccess;"), (11, u "LOG2_ARRAY_BOOLEAN_INDEX_SCALE"), (9, u "LOG2_ARRAY_BYTE_INDEX_SCALE"), (5, u "LOG2_ARRAY_CHAR_INDEX_SCALE"), (5, u "LOG2_ARRAY_SHORT_INDEX_SCALE"), (18, u "LOG2_ARRAY_FLOAT_INDEX_SCALE"), (24, u "LOG2_ARRAY_DOUBLE_INDEX_SCALE"), (89, u "T_BOOLEAN"), (2, u "T_CHAR"), (1, u "T_FLOAT"), (1, u "T_DOUBLE"), (1, u "T_BYTE"), (1, u "T_SHORT"), (1, u "T_INT"), (1, u "T_LONG"), (1, u "SOFT_MAX_ARRAY_LENGTH")] 83

def k17m0 : Method := { name := "<init>", desc := "()V", sig := { parameters := [], returnType := none }, accessFlags := 2, code := none }
/-- jdk/internal/util/ArraysSupport -/
def k17 : Class := { plain "jdk/internal/util/ArraysSupport" (some 0) with
  accessFlags := 33
  interfaces := #[]
  cf := some (fileOf pool17 21 #[] #[{ accessFlags := 2, nameIndex := 9, descriptorIndex := 19, attributes := #[] }] 33 16 #[] #[{ accessFlags := 24, nameIndex := 28, descriptorIndex := 29, attributes := #[] }, { accessFlags := 26, nameIndex := 38, descriptorIndex := 39, attributes := #[] }, { accessFlags := 25, nameIndex := 121, descriptorIndex := 25, attributes := #[] }, { accessFlags := 25, nameIndex := 131, descriptorIndex := 25, attributes := #[] }, { accessFlags := 25, nameIndex := 137, descriptorIndex := 25, attributes := #[] }, { accessFlags := 25, nameIndex := 143, descriptorIndex := 25, attributes := #[] }, { accessFlags := 25, nameIndex := 53, descriptorIndex := 25, attributes := #[] }, { accessFlags := 25, nameIndex := 24, descriptorIndex := 25, attributes := #[] }, { accessFlags := 25, nameIndex := 162, descriptorIndex := 25, attributes := #[] }, { accessFlags := 25, nameIndex := 187, descriptorIndex := 25, attributes := #[] }, { accessFlags := 26, nameIndex := 48, descriptorIndex := 25, attributes := #[] }, { accessFlags := 25, nameIndex := 277, descriptorIndex := 25, attributes := #[] }, { accessFlags := 25, nameIndex := 280, descriptorIndex := 25, attributes := #[] }, { accessFlags := 25, nameIndex := 282, descriptorIndex := 25, attributes := #[] }, { accessFlags := 25, nameIndex := 284, descriptorIndex := 25, attributes := #[] }, { accessFlags := 25, nameIndex := 286, descriptorIndex := 25, attributes := #[] }, { accessFlags := 25, nameIndex := 288, descriptorIndex := 25, attributes := #[] }, { accessFlags := 25, nameIndex := 290, descriptorIndex := 25, attributes := #[] }, { accessFlags := 25, nameIndex := 292, descriptorIndex := 25, attributes := #[] }, { accessFlags := 26, nameIndex := 108, descriptorIndex := 109, attributes := #[] }, { accessFlags := 25, nameIndex := 294, descriptorIndex := 25, attributes := #[] }])
  fields := #[{ name := "U", type := (.object "jdk/internal/misc/Unsafe"), accessFlags := 24, slot := 0, constantValue := 0 }, { name := "BIG_ENDIAN", type := .boolean, accessFlags := 26, slot := 1, constantValue := 0 }, { name := "LOG2_ARRAY_BOOLEAN_INDEX_SCALE", type := .int, accessFlags := 25, slot := 2, constantValue := 0 }, { name := "LOG2_ARRAY_BYTE_INDEX_SCALE", type := .int, accessFlags := 25, slot := 3, constantValue := 0 }, { name := "LOG2_ARRAY_CHAR_INDEX_SCALE", type := .int, accessFlags := 25, slot := 4, constantValue := 0 }, { name := "LOG2_ARRAY_SHORT_INDEX_SCALE", type := .int, accessFlags := 25, slot := 5, constantValue := 0 }, { name := "LOG2_ARRAY_INT_INDEX_SCALE", type := .int, accessFlags := 25, slot := 6, constantValue := 0 }, { name := "LOG2_ARRAY_LONG_INDEX_SCALE", type := .int, accessFlags := 25, slot := 7, constantValue := 0 }, { name := "LOG2_ARRAY_FLOAT_INDEX_SCALE", type := .int, accessFlags := 25, slot := 8, constantValue := 0 }, { name := "LOG2_ARRAY_DOUBLE_INDEX_SCALE", type := .int, accessFlags := 25, slot := 9, constantValue := 0 }, { name := "LOG2_BYTE_BIT_SIZE", type := .int, accessFlags := 26, slot := 10, constantValue := 0 }, { name := "T_BOOLEAN", type := .int, accessFlags := 25, slot := 11, constantValue := 0 }, { name := "T_CHAR", type := .int, accessFlags := 25, slot := 12, constantValue := 0 }, { name := "T_FLOAT", type := .int, accessFlags := 25, slot := 13, constantValue := 0 }, { name := "T_DOUBLE", type := .int, accessFlags := 25, slot := 14, constantValue := 0 }, { name := "T_BYTE", type := .int, accessFlags := 25, slot := 15, constantValue := 0 }, { name := "T_SHORT", type := .int, accessFlags := 25, slot := 16, constantValue := 0 }, { name := "T_INT", type := .int, accessFlags := 25, slot := 17, constantValue := 0 }, { name := "T_LONG", type := .int, accessFlags := 25, slot := 18, constantValue := 0 }, { name := "JLA", type := (.object "jdk/internal/access/JavaLangAccess"), accessFlags := 26, slot := 19, constantValue := 0 }, { name := "SOFT_MAX_ARRAY_LENGTH", type := .int, accessFlags := 25, slot := 20, constantValue := 0 }]
  methods := #[k17m0]
  instanceTypes := #[]
  staticTypes := #[(.object "jdk/internal/misc/Unsafe"), .boolean, .int, .int, .int, .int, .int, .int, .int, .int, .int, .int, .int, .int, .int, .int, .int, .int, .int, (.object "jdk/internal/access/JavaLangAccess"), .int]
  resolved := Array.replicate 378 none
  statics := none }

def pool18 : Array CpInfo := pool [(1, u "java/lang/Cloneable"), (0, .class_ 1), (0, u "java/lang/Object"), (0, .class_ 3)] 3

/-- java/lang/Cloneable -/
def k18 : Class := { plain "java/lang/Cloneable" (some 0) with
  accessFlags := 1537
  interfaces := #[]
  cf := some (fileOf pool18 2 #[] #[] 1537 4 #[] #[])
  fields := #[]
  methods := #[]
  instanceTypes := #[]
  staticTypes := #[]
  resolved := Array.replicate 8 none
  statics := none }

/-- the primitive byte -/
def k19 : Class := { plain "byte" none with kind := .primitive 'B', accessFlags := 0x411 }
/-- [B -/
def k20 : Class := { plain "[B" (some 0) with kind := .array 19 .byte, interfaces := #[18, 2], accessFlags := 1041 }

/-- the primitive char -/
def k21 : Class := { plain "char" none with kind := .primitive 'C', accessFlags := 0x411 }
/-- [C -/
def k22 : Class := { plain "[C" (some 0) with kind := .array 21 .char, interfaces := #[18, 2], accessFlags := 1041 }

/-- the primitive int -/
def k23 : Class := { plain "int" none with kind := .primitive 'I', accessFlags := 0x411 }
/-- [I -/
def k24 : Class := { plain "[I" (some 0) with kind := .array 23 .int, interfaces := #[18, 2], accessFlags := 1041 }

def heap : Heap := #[{ cls := 7, slots := #[.long 0, .int 1, .null, .int 0, .null, .int 0, .int 0], vm := .statics 7 },
  { cls := 14, slots := #[.null, .null, .null, .null, .ref 3, .null, .null, .null, .null, .null, .null, .null, .null, .null, .null, .null, .null, .null, .null, .null, .null, .null, .null], vm := .statics 14 },
  { cls := 16, slots := #[.null, .null, .null], vm := .statics 16 },
  { cls := 14, slots := #[.null, .int 3, .int 0], vm := .none }]
def classes : Array Class := #[k0, k1, k2, k3, k4, k5, k6, k7, k8, k9, k10, k11, k12, k13, k14, k15, k16, k17, k18, k19, k20, k21, k22, k23, k24]
def interned : List (Array UInt16 × Addr) := []
def slotsUsed : Nat := 36
def theMethod : MethodId := ⟨1, 1⟩
def args0 : Array Value := #[.int 5, .int 6, .int 7, .int 8]
def aboutOver (below : List Frame) : State where
  vm := { classes := classes, interned := interned.toArray }
  heap := heap
  slotsUsed := slotsUsed
  threads := #[{ frames := .invoking theMethod args0 :: below }]
def below0 : List Frame := [.native { method := ⟨0, 0⟩, args := #[] }]
def about1 : State := aboutOver below0
def p0 : Program := .bare "" "" ""
def e0 : Env := launch0.env 0 0 0
theorem w_frames : about1.frames = Frame.invoking theMethod args0 :: below0 := rfl
set_option maxRecDepth 65536 in
theorem w_args : argsFit about1.vm theMethod args0 = true := by decide +kernel
set_option maxRecDepth 65536 in
theorem w_heap : heapFits about1 = true := by decide +kernel
set_option maxRecDepth 65536 in
theorem w_runnable : about1.curStatus? = some .runnable := by decide +kernel
set_option maxRecDepth 65536 in
theorem w_alone : about1.alone = true := by decide +kernel
set_option maxRecDepth 65536 in
theorem w_named : about1.methodNamed? x = some theMethod := by decide +kernel
set_option maxRecDepth 65536 in
theorem w_hears : about1.hears theMethod below0 = true := by decide +kernel
set_option maxRecDepth 65536 in
theorem w_ripe : about1.ripe theMethod args0 below0 = true := by decide +kernel
theorem w_running : about1.status = .running := rfl
set_option maxRecDepth 65536 in
theorem w_room : about1.hasRoom e0.platform room_1 = true :=
  launch0.hasRoom_least _ room_1 (by decide +kernel) (by decide +kernel) (by decide +kernel) (by decide +kernel) (by decide +kernel) (by decide +kernel)
theorem allAtoms_all (ts : List Jvm.Cond) (a : Array Jvm.Value) (st : Jvm.State) : (allAtoms ts).before a st = ts.all (fun c => c.before a st) := by
  induction ts with
  | nil => rfl
  | cons c t ih =>
    show (Jvm.Cond.and c (allAtoms t)).before a st = _
    rw [Jvm.Cond.before_and, ih, List.all_cons]
def words1 : List Jvm.Cond := Jvm.Cond.code x code maxLocals ret :: tables_1
/-- a 'code' word, met by the world's own term for the bytes: nothing is compared byte by byte -/
theorem code_word {y : MethodName} {bytes : ByteArray} {mx : Nat} {rt : Option FieldType} {a : Array Value} {s : State} {m : MethodId} {meth : Method} {c : Code} (h1 : s.methodNamed? y = some m) (h2 : s.vm.method? m = some meth) (h3 : meth.code = some c) (h4 : c.code = bytes)
    (h5 : (c.maxLocals == mx && c.exceptionTable.isEmpty && decide (c.maxStack ≤ mostOperands) && decide (meth.sig.returnType = rt) && !meth.locks && decide (parseMethodDescriptor y.desc = some meth.sig)) = true) : (Jvm.Cond.code y bytes mx rt).before a s = true := by
  simp only [Bool.and_eq_true, beq_iff_eq, Bool.not_eq_true', decide_eq_true_eq] at h5
  obtain ⟨⟨⟨⟨⟨g1, g2⟩, g3⟩, g4⟩, g5⟩, g6⟩ := h5
  simp [Cond.before, Cond.holds, Cond.value, h1, h2, h3, h4, g1, g2, g3, g4, g5, g6]
def isCode : Jvm.Cond → Bool
  | .code _ _ _ _ => true
  | _ => false
theorem all_split {L : List Jvm.Cond} {P : Jvm.Cond → Bool} (h1 : L.all (fun c => isCode c || P c) = true) (h2 : ∀ c ∈ L.filter isCode, P c = true) : L.all P = true := by
  refine List.all_eq_true.mpr fun c hc => ?_
  have h := List.all_eq_true.mp h1 c hc
  rcases Bool.eq_false_or_eq_true (isCode c) with hi | hi
  · exact h2 c (List.mem_filter.mpr ⟨hc, hi⟩)
  · simpa [hi] using h
set_option maxRecDepth 65536 in
theorem w_c0 : (Jvm.Cond.code x code maxLocals ret).before args0 about1 = true := code_word (m := ⟨1, 1⟩) (meth := k1m1) (c := k1c1) (by decide +kernel) rfl rfl rfl (by decide +kernel)
set_option maxRecDepth 65536 in
theorem w_c1 : (Jvm.Cond.code ({ cls := "java/lang/String", name := "<init>", desc := "([C)V" } : Jvm.MethodName) jdk_42_method_3_code (2 : Nat) (Option.none : Option Jvm.ClassFile.FieldType)).before args0 about1 = true := code_word (m := ⟨7, 1⟩) (meth := k7m1) (c := k7c1) (by decide +kernel) rfl rfl rfl (by decide +kernel)
set_option maxRecDepth 65536 in
theorem w_c2 : (Jvm.Cond.code ({ cls := "java/lang/String", name := "<init>", desc := "([CIILjava/lang/Void;)V" } : Jvm.MethodName) jdk_42_method_149_code (6 : Nat) (Option.none : Option Jvm.ClassFile.FieldType)).before args0 about1 = true := code_word (m := ⟨7, 3⟩) (meth := k7m3) (c := k7c3) (by decide +kernel) rfl rfl rfl (by decide +kernel)
set_option maxRecDepth 65536 in
theorem w_c3 : (Jvm.Cond.code ({ cls := "java/lang/Object", name := "<init>", desc := "()V" } : Jvm.MethodName) object_method_1_code (1 : Nat) (Option.none : Option Jvm.ClassFile.FieldType)).before args0 about1 = true := code_word (m := ⟨0, 0⟩) (meth := k0m0) (c := k0c0) (by decide +kernel) rfl rfl rfl (by decide +kernel)
set_option maxRecDepth 65536 in
theorem w_c4 : (Jvm.Cond.code ({ cls := "java/lang/StringUTF16", name := "compress", desc := "([CII)[B" } : Jvm.MethodName) jdk_52_method_16_code (6 : Nat) (Option.some (Jvm.ClassFile.FieldType.array Jvm.ClassFile.FieldType.byte))).before args0 about1 = true := code_word (m := ⟨8, 2⟩) (meth := k8m2) (c := k8c2) (by decide +kernel) rfl rfl rfl (by decide +kernel)
set_option maxRecDepth 65536 in
theorem w_c5 : (Jvm.Cond.code ({ cls := "java/lang/StringUTF16", name := "compress", desc := "([CI[BII)I" } : Jvm.MethodName) jdk_52_method_21_code (7 : Nat) (Option.some Jvm.ClassFile.FieldType.int)).before args0 about1 = true := code_word (m := ⟨8, 3⟩) (meth := k8m3) (c := k8c3) (by decide +kernel) rfl rfl rfl (by decide +kernel)
set_option maxRecDepth 65536 in
theorem w_c6 : (Jvm.Cond.code ({ cls := "java/lang/StringUTF16", name := "coderFromArrayLen", desc := "([BI)B" } : Jvm.MethodName) jdk_52_method_15_code (2 : Nat) (Option.some Jvm.ClassFile.FieldType.byte)).before args0 about1 = true := code_word (m := ⟨8, 1⟩) (meth := k8m1) (c := k8c1) (by decide +kernel) rfl rfl rfl (by decide +kernel)
set_option maxRecDepth 65536 in
theorem w_c7 : (Jvm.Cond.code ({ cls := "com/example/tradeloom/tradeloom/core/Shipment", name := "<init>", desc := "(Ljava/lang/String;Ljava/lang/String;)V" } : Jvm.MethodName) prog_34_method_1_code (3 : Nat) (Option.none : Option Jvm.ClassFile.FieldType)).before args0 about1 = true := code_word (m := ⟨10, 0⟩) (meth := k10m0) (c := k10c0) (by decide +kernel) rfl rfl rfl (by decide +kernel)
set_option maxRecDepth 65536 in
theorem w_c8 : (Jvm.Cond.code ({ cls := "java/lang/Record", name := "<init>", desc := "()V" } : Jvm.MethodName) jdk_30_method_1_code (1 : Nat) (Option.none : Option Jvm.ClassFile.FieldType)).before args0 about1 = true := code_word (m := ⟨9, 0⟩) (meth := k9m0) (c := k9c0) (by decide +kernel) rfl rfl rfl (by decide +kernel)
set_option maxRecDepth 65536 in
theorem w_c9 : (Jvm.Cond.code ({ cls := "com/example/tradeloom/tradeloom/core/event/OrderShipped", name := "of", desc := "(Lcom/example/tradeloom/tradeloom/core/Shipment;)Lcom/example/tradeloom/tradeloom/core/event/OrderShipped;" } : Jvm.MethodName) prog_58_method_2_code (1 : Nat) (Option.some (Jvm.ClassFile.FieldType.object "com/example/tradeloom/tradeloom/core/event/OrderShipped"))).before args0 about1 = true := code_word (m := ⟨12, 1⟩) (meth := k12m1) (c := k12c1) (by decide +kernel) rfl rfl rfl (by decide +kernel)
set_option maxRecDepth 65536 in
theorem w_c10 : (Jvm.Cond.code ({ cls := "com/example/tradeloom/tradeloom/core/Shipment", name := "carrier", desc := "()Ljava/lang/String;" } : Jvm.MethodName) prog_34_method_5_code (1 : Nat) (Option.some (Jvm.ClassFile.FieldType.object "java/lang/String"))).before args0 about1 = true := code_word (m := ⟨10, 1⟩) (meth := k10m1) (c := k10c1) (by decide +kernel) rfl rfl rfl (by decide +kernel)
set_option maxRecDepth 65536 in
theorem w_c11 : (Jvm.Cond.code ({ cls := "com/example/tradeloom/tradeloom/core/Shipment", name := "trackingNo", desc := "()Ljava/lang/String;" } : Jvm.MethodName) prog_34_method_6_code (1 : Nat) (Option.some (Jvm.ClassFile.FieldType.object "java/lang/String"))).before args0 about1 = true := code_word (m := ⟨10, 2⟩) (meth := k10m2) (c := k10c2) (by decide +kernel) rfl rfl rfl (by decide +kernel)
set_option maxRecDepth 65536 in
theorem w_c12 : (Jvm.Cond.code ({ cls := "com/example/tradeloom/tradeloom/core/event/OrderShipped", name := "<init>", desc := "(Ljava/lang/String;Ljava/lang/String;)V" } : Jvm.MethodName) prog_58_method_1_code (3 : Nat) (Option.none : Option Jvm.ClassFile.FieldType)).before args0 about1 = true := code_word (m := ⟨12, 0⟩) (meth := k12m0) (c := k12c0) (by decide +kernel) rfl rfl rfl (by decide +kernel)
set_option maxRecDepth 65536 in
theorem w_c13 : (Jvm.Cond.code ({ cls := "com/example/tradeloom/tradeloom/core/event/OrderShipped", name := "carrier", desc := "()Ljava/lang/String;" } : Jvm.MethodName) prog_58_method_7_code (1 : Nat) (Option.some (Jvm.ClassFile.FieldType.object "java/lang/String"))).before args0 about1 = true := code_word (m := ⟨12, 3⟩) (meth := k12m3) (c := k12c3) (by decide +kernel) rfl rfl rfl (by decide +kernel)
set_option maxRecDepth 65536 in
theorem w_c14 : (Jvm.Cond.code ({ cls := "java/lang/String", name := "equals", desc := "(Ljava/lang/Object;)Z" } : Jvm.MethodName) jdk_42_method_66_code (3 : Nat) (Option.some Jvm.ClassFile.FieldType.boolean)).before args0 about1 = true := code_word (m := ⟨7, 2⟩) (meth := k7m2) (c := k7c2) (by decide +kernel) rfl rfl rfl (by decide +kernel)
set_option maxRecDepth 65536 in
theorem w_c15 : (Jvm.Cond.code ({ cls := "com/example/tradeloom/tradeloom/core/event/OrderShipped", name := "trackingNo", desc := "()Ljava/lang/String;" } : Jvm.MethodName) prog_58_method_8_code (1 : Nat) (Option.some (Jvm.ClassFile.FieldType.object "java/lang/String"))).before args0 about1 = true := code_word (m := ⟨12, 4⟩) (meth := k12m4) (c := k12c4) (by decide +kernel) rfl rfl rfl (by decide +kernel)
set_option maxRecDepth 65536 in
theorem w_c16 : (Jvm.Cond.code ({ cls := "com/example/tradeloom/tradeloom/core/event/OrderShipped", name := "type", desc := "()Lcom/example/tradeloom/tradeloom/core/event/EventType;" } : Jvm.MethodName) prog_58_method_3_code (1 : Nat) (Option.some (Jvm.ClassFile.FieldType.object "com/example/tradeloom/tradeloom/core/event/EventType"))).before args0 about1 = true := code_word (m := ⟨12, 2⟩) (meth := k12m2) (c := k12c2) (by decide +kernel) rfl rfl rfl (by decide +kernel)
def codes1 : List Jvm.Cond := [Jvm.Cond.code x code maxLocals ret, Jvm.Cond.code ({ cls := "java/lang/String", name := "<init>", desc := "([C)V" } : Jvm.MethodName) jdk_42_method_3_code (2 : Nat) (Option.none : Option Jvm.ClassFile.FieldType), Jvm.Cond.code ({ cls := "java/lang/String", name := "<init>", desc := "([CIILjava/lang/Void;)V" } : Jvm.MethodName) jdk_42_method_149_code (6 : Nat) (Option.none : Option Jvm.ClassFile.FieldType), Jvm.Cond.code ({ cls := "java/lang/Object", name := "<init>", desc := "()V" } : Jvm.MethodName) object_method_1_code (1 : Nat) (Option.none : Option Jvm.ClassFile.FieldType), Jvm.Cond.code ({ cls := "java/lang/StringUTF16", name := "compress", desc := "([CII)[B" } : Jvm.MethodName) jdk_52_method_16_code (6 : Nat) (Option.some (Jvm.ClassFile.FieldType.array Jvm.ClassFile.FieldType.byte)), Jvm.Cond.code ({ cls := "java/lang/StringUTF16", name := "compress", desc := "([CI[BII)I" } : Jvm.MethodName) jdk_52_method_21_code (7 : Nat) (Option.some Jvm.ClassFile.FieldType.int), Jvm.Cond.code ({ cls := "java/lang/StringUTF16", name := "coderFromArrayLen", desc := "([BI)B" } : Jvm.MethodName) jdk_52_method_15_code (2 : Nat) (Option.some Jvm.ClassFile.FieldType.byte), Jvm.Cond.code ({ cls := "com/example/tradeloom/tradeloom/core/Shipment", name := "<init>", desc := "(Ljava/lang/String;Ljava/lang/String;)V" } : Jvm.MethodName) prog_34_method_1_code (3 : Nat) (Option.none : Option Jvm.ClassFile.FieldType), Jvm.Cond.code ({ cls := "java/lang/Record", name := "<init>", desc := "()V" } : Jvm.MethodName) jdk_30_method_1_code (1 : Nat) (Option.none : Option Jvm.ClassFile.FieldType), Jvm.Cond.code ({ cls := "com/example/tradeloom/tradeloom/core/event/OrderShipped", name := "of", desc := "(Lcom/example/tradeloom/tradeloom/core/Shipment;)Lcom/example/tradeloom/tradeloom/core/event/OrderShipped;" } : Jvm.MethodName) prog_58_method_2_code (1 : Nat) (Option.some (Jvm.ClassFile.FieldType.object "com/example/tradeloom/tradeloom/core/event/OrderShipped")), Jvm.Cond.code ({ cls := "com/example/tradeloom/tradeloom/core/Shipment", name := "carrier", desc := "()Ljava/lang/String;" } : Jvm.MethodName) prog_34_method_5_code (1 : Nat) (Option.some (Jvm.ClassFile.FieldType.object "java/lang/String")), Jvm.Cond.code ({ cls := "com/example/tradeloom/tradeloom/core/Shipment", name := "trackingNo", desc := "()Ljava/lang/String;" } : Jvm.MethodName) prog_34_method_6_code (1 : Nat) (Option.some (Jvm.ClassFile.FieldType.object "java/lang/String")), Jvm.Cond.code ({ cls := "com/example/tradeloom/tradeloom/core/event/OrderShipped", name := "<init>", desc := "(Ljava/lang/String;Ljava/lang/String;)V" } : Jvm.MethodName) prog_58_method_1_code (3 : Nat) (Option.none : Option Jvm.ClassFile.FieldType), Jvm.Cond.code ({ cls := "com/example/tradeloom/tradeloom/core/event/OrderShipped", name := "carrier", desc := "()Ljava/lang/String;" } : Jvm.MethodName) prog_58_method_7_code (1 : Nat) (Option.some (Jvm.ClassFile.FieldType.object "java/lang/String")), Jvm.Cond.code ({ cls := "java/lang/String", name := "equals", desc := "(Ljava/lang/Object;)Z" } : Jvm.MethodName) jdk_42_method_66_code (3 : Nat) (Option.some Jvm.ClassFile.FieldType.boolean), Jvm.Cond.code ({ cls := "com/example/tradeloom/tradeloom/core/event/OrderShipped", name := "trackingNo", desc := "()Ljava/lang/String;" } : Jvm.MethodName) prog_58_method_8_code (1 : Nat) (Option.some (Jvm.ClassFile.FieldType.object "java/lang/String")), Jvm.Cond.code ({ cls := "com/example/tradeloom/tradeloom/core/event/OrderShipped", name := "type", desc := "()Lcom/example/tradeloom/tradeloom/core/event/EventType;" } : Jvm.MethodName) prog_58_method_3_code (1 : Nat) (Option.some (Jvm.ClassFile.FieldType.object "com/example/tradeloom/tradeloom/core/event/EventType"))]
set_option maxRecDepth 65536 in
theorem codes_eq : words1.filter isCode = codes1 := rfl
theorem w_codes : ∀ c ∈ words1.filter isCode, c.before args0 about1 = true := by
  rw [codes_eq]
  intro c hc
  simp only [codes1, List.mem_cons, List.not_mem_nil, or_false] at hc
  rcases hc with rfl | rfl | rfl | rfl | rfl | rfl | rfl | rfl | rfl | rfl | rfl | rfl | rfl | rfl | rfl | rfl | rfl
  · exact w_c0
  · exact w_c1
  · exact w_c2
  · exact w_c3
  · exact w_c4
  · exact w_c5
  · exact w_c6
  · exact w_c7
  · exact w_c8
  · exact w_c9
  · exact w_c10
  · exact w_c11
  · exact w_c12
  · exact w_c13
  · exact w_c14
  · exact w_c15
  · exact w_c16
set_option maxRecDepth 65536 in
theorem w_t1 : (words1.take 24).all (fun c => isCode c || c.before args0 about1) = true := by decide +kernel
set_option maxRecDepth 65536 in
theorem w_t2 : ((words1.drop 24).take 24).all (fun c => isCode c || c.before args0 about1) = true := by decide +kernel
set_option maxRecDepth 65536 in
theorem w_t3 : (((words1.drop 24).drop 24).take 24).all (fun c => isCode c || c.before args0 about1) = true := by decide +kernel
set_option maxRecDepth 65536 in
theorem w_t4 : (((words1.drop 24).drop 24).drop 24).all (fun c => isCode c || c.before args0 about1) = true := by decide +kernel
theorem w_tables : (allAtoms (Jvm.Cond.code x code maxLocals ret :: tables_1)).before args0 about1 = true := by
  rw [allAtoms_all]
  show words1.all (fun c => c.before args0 about1) = true
  refine all_split ?_ w_codes
  rw [← List.take_append_drop 24 words1, List.all_append, w_t1, ← List.take_append_drop 24 (words1.drop 24), List.all_append, w_t2, ← List.take_append_drop 24 ((words1.drop 24).drop 24), List.all_append, w_t3, w_t4]
  rfl
set_option maxRecDepth 65536 in
theorem w_rest : rest_1_c.before args0 about1 = true := by decide +kernel
set_option maxRecDepth 65536 in
theorem w_case : (Jvm.Cond.and given_1 narrow_1).before args0 about1 = true := by decide +kernel
theorem w_applies : (headSpec (Jvm.Cond.code x code maxLocals ret :: tables_1) room_1).applies x e0.platform about1 = true :=
  (Spec.applies_iff w_frames).mpr ⟨w_running, w_runnable, w_alone, w_named, w_hears, w_ripe, w_room, w_tables⟩
theorem atStart : AtStart classFile x code maxLocals ret World_1 tables_1 room_1 Calls_1 rest_1 Pre_1 launch0 p0 e0 about1 theMethod args0 below0 :=
  ⟨lists_1, trivial, launch0.admits_env _ _ _, launch0.least_env, fairChoices_fair.cas, fairChoices_fair.clock, w_frames, w_args, w_heap, w_applies, trivial, w_rest, w_case⟩
end start1
theorem witness_1 : WitnessClaimed_1 := ⟨start1.p0, start1.e0, start1.about1, start1.theMethod, start1.args0, start1.below0, start1.atStart⟩
end Jvm.Pilot.@@N@@
