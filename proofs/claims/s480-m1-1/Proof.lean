import JvmDerived
import JvmDerived.Pilot.@@N@@Statement
import JvmDerived.Pilot.@@N@@Code
set_option linter.unusedVariables false
set_option linter.unusedSimpArgs false
namespace Jvm.OwnW
open Sem ClassFile Op Lib Jvm.Stand Jvm.Free Jvm.LawKit Jvm.RoadKit
section
variable {p : Program} {l : Launch} {e : Env} {R : Room} {s : State} {m : MethodId} {args : Array Value} {below : List Frame} {meth : Method} {c : Code} {T : State} {locs : List Loc} {cells slots : Nat} {Z : State} {a0 : Array Value} {h : Heap} {P : State → Outcome → Prop} {Y Y' : State} {Q : Option Value → Heap → List Loc → Prop} {rc rs : Nat} {pc : Nat} {Ls : Array Slot}
/-- the run goes on from Y to an end of which P says what is so -/
def Go (p : Program) (e : Env) (below : List Frame) (Y : State) (P : State → Outcome → Prop) : Prop := ∃ s₂ o, Steps p.tables e below Y s₂ ∧ P s₂ o
theorem Go.on (k : ∀ t, Steps p.tables e below Y' t → Steps p.tables e below Y t) (g : Go p e below Y' P) : Go p e below Y P := by
  obtain ⟨s₂, o, h1, h2⟩ := g
  exact ⟨s₂, o, k _ h1, h2⟩
def EndQ (s : State) (below : List Frame) (rc rs : Nat) (Q : Option Value → Heap → List Loc → Prop) : State → Outcome → Prop := fun s₂ o => s₂.status = .running ∧ Ended s₂ below o ∧ ∃ v L, o = .returned v ∧ Q v s₂.heap L ∧ FrameEnd s o s₂ L rc rs
theorem fin (X : Stand p l e R s m args below meth c T locs cells slots) (hlk : meth.locks = false) {v : Option Value} (hv : meth.sig.returnType = none → v = none) (q : Q v T.heap locs) (hc : cells ≤ rc) (hs : slots ≤ rs)
    (st : ∀ fs, (∀ (f : JFrame) (acts : List Action), f.method = m → f.locked = none → f.entered = [] → (doReturn e (T.setTop f) acts v).1 = T.setFrames fs) → Steps p.tables e below Y (T.setFrames fs)) : Go p e below Y (EndQ s below rc rs Q) := by
  obtain ⟨fs, hr, hrun, hended, hW, hsame⟩ := X.leave (v := v) hv hlk
  exact ⟨_, _, st fs hr, hrun, hended, v, locs, rfl, q, ⟨_, rfl⟩, hW, hsame.mono hc hs⟩
theorem retV (X : Stand p l e R s m args below meth c T locs cells slots) (hx : p.tables.exec = Jvm.exec) (hlk : meth.locks = false) (hret : meth.sig.returnType = none) (hd : decode c.code pc = .ok (.return_, 1)) (hc : cells ≤ rc) (hs : slots ≤ rs) (q : Q none T.heap locs) :
    Go p e below (T.setTop (mkF m pc Ls [])) (EndQ s below rc rs Q) := fin X hlk (fun _ => rfl) q hc hs fun _ hr => X.returnOut hx hret hd hr
theorem retI (X : Stand p l e R s m args below meth c T locs cells slots) (hx : p.tables.exec = Jvm.exec) (hlk : meth.locks = false) (hret : meth.sig.returnType = some .int) {z : Int32} {rest : List Value} (hd : decode c.code pc = .ok (.ireturn, 1)) (hc : cells ≤ rc) (hs : slots ≤ rs) (q : Q (some (.int z)) T.heap locs) :
    Go p e below (T.setTop (mkF m pc Ls (.int z :: rest))) (EndQ s below rc rs Q) :=
  fin X hlk (fun h => by rw [hret] at h; cases h) q hc hs fun _ hr => retOut X hx hret rfl (Or.inl ⟨rfl, Or.inl rfl, _, rfl⟩) hd hr
theorem retN (X : Stand p l e R s m args below meth c T locs cells slots) (hx : p.tables.exec = Jvm.exec) (hlk : meth.locks = false) {t : FieldType} (hret : meth.sig.returnType = some t) (ht : t = .boolean ∨ t = .byte ∨ t = .char ∨ t = .short) {z z' : Int32} {rest : List Value} (hd : decode c.code pc = .ok (.ireturn, 1)) (hc : cells ≤ rc) (hs : slots ≤ rs) (hz : nar t z = z') (q : Q (some (.int z')) T.heap locs) :
    Go p e below (T.setTop (mkF m pc Ls (.int z :: rest))) (EndQ s below rc rs Q) :=
  fin X hlk (fun h => by rw [hret] at h; cases h) q hc hs fun _ hr => RoadKit.retN X hx hret ht hd (by rw [hz]; exact hr)
theorem retJ (X : Stand p l e R s m args below meth c T locs cells slots) (hx : p.tables.exec = Jvm.exec) (hlk : meth.locks = false) (hret : meth.sig.returnType = some .long) {z : Int64} {rest : List Value} (hd : decode c.code pc = .ok (.lreturn, 1)) (hc : cells ≤ rc) (hs : slots ≤ rs) (q : Q (some (.long z)) T.heap locs) :
    Go p e below (T.setTop (mkF m pc Ls (.long z :: rest))) (EndQ s below rc rs Q) :=
  fin X hlk (fun h => by rw [hret] at h; cases h) q hc hs fun _ hr => retOut X hx hret rfl (Or.inr (Or.inl ⟨rfl, rfl, _, rfl⟩)) hd hr
theorem narrow_ref {t : FieldType} (ht : t.isReference = true) {w : Value} : narrow t w = w := by cases t <;> first | rfl | (cases ht)
theorem retA (X : Stand p l e R s m args below meth c T locs cells slots) (hx : p.tables.exec = Jvm.exec) (hlk : meth.locks = false) {t : FieldType} (hret : meth.sig.returnType = some t) (ht : t.isReference = true) {w : Value} (hw : w.isRef = true) {rest : List Value} (hd : decode c.code pc = .ok (.areturn, 1)) (hc : cells ≤ rc) (hs : slots ≤ rs) (q : Q (some w) T.heap locs) :
    Go p e below (T.setTop (mkF m pc Ls (w :: rest))) (EndQ s below rc rs Q) :=
  fin X hlk (fun h => by rw [hret] at h; cases h) q hc hs fun _ hr => retOut X hx hret (narrow_ref ht) (Or.inr (Or.inr (Or.inr (Or.inr ⟨rfl, ht, hw⟩)))) hd hr
/-- a body's contract at a heap -/
def Con (l : Launch) (Z : State) (y : MethodName) (bytes : ByteArray) (maxL : Nat) (ret : Option FieldType) (rm : Room) (as' : Array Value) (h0 : Heap) (Q : Option Value → Heap → List Loc → Prop) : Prop := ∀ ws, MetFree l y (head1 (Jvm.Cond.code y bytes maxL ret :: ws) rm) (fun a U => a = as' ∧ Z.Warmed39 U.vm ∧ U.heap = h0) (fun _ _ _ _ _ => True) (fun _ U o U' => ∃ v L, o = .returned v ∧ Q v U'.heap L ∧ FrameEnd U o U' L rm.cells rm.slots)
theorem body {y : MethodName} {bytes : ByteArray} {maxL : Nat} {ret : Option FieldType} {rm : Room} {as' : Array Value} {h0 : Heap} (hpl : plainFor y = true) (hef : ∀ m, entryFrame m as' maxL = mkF m 0 Ls [])
    (bd : ∀ (p : Program) (e : Env) (s : State) (m : MethodId) (below : List Frame) (meth : Method) (c : Code) (s₁ : State), p.tables.exec = Jvm.exec → c.code = bytes → c.maxLocals = maxL → s.vm.findClass y.cls = some m.cls → meth.name = y.name → meth.sig.returnType = ret → meth.locks = false → Z.Warmed39 s.vm → Stand p l e rm s m as' below meth c s₁ [] 0 0 → s₁.heap = h0 →
      Go p e below (s₁.setTop (mkF m 0 Ls [])) (EndQ s below rm.cells rm.slots Q)) : Con l Z y bytes maxL ret rm as' h0 Q := by
  intro ws
  refine MetFree.of_bodySF hpl hisR ?_
  intro p e s m args below meth c s₁ Bd hml0 hP hK
  obtain ⟨rfl, hZ, hh⟩ := hP
  have X0 : Stand p l e rm s m _ below meth c s₁ [] 0 0 := Stand.of_body Bd
  have e0 : s₁.heap = h0 := by rw [← hh, Bd.state]; rfl
  obtain ⟨s₂, o, h1, h2⟩ := bd p e s m below meth c s₁ Bd.exec Bd.bytes hml0 (findClass_of_methodNamed Bd.named) (name_of_methodNamed Bd.named Bd.method).1 Bd.returns (BodyLoose.notSynchronized Bd) hZ X0 e0
  exact ⟨s₂, o, castTop (hef m) h1, h2⟩
section Calls
variable {own : String} {index : Nat} {y z : MethodName} {bytes : ByteArray} {maxL : Nat} {ret : Option FieldType} {rm : Room} {as' : Array Value} {ps : List FieldType} {r : Option FieldType} {argsL rest st : List Value} {W : Nat}
theorem callS (X : Stand p l e R s m args below meth c T locs cells slots) (hx : p.tables.exec = Jvm.exec) (hZ : Z.Warmed39 s.vm) (hown : s.vm.findClass own = some m.cls)
    (w1 : (Jvm.Cond.methodLink own index y).before a0 Z = true) (w2 : (Jvm.Cond.static y).before a0 Z = true) (w3 : (Jvm.Cond.initialized y.cls).before a0 Z = true) (w4 : (Jvm.Cond.code y bytes maxL ret).before a0 Z = true) (hy : y.cls ≠ "java/lang/invoke/MethodHandle" ∧ y.cls ≠ "java/lang/invoke/VarHandle")
    (hM : Con l Z y bytes maxL ret rm argsL.toArray h Q) (eT : T.heap = h) (hsz : Ls.size = c.maxLocals) (hpd : parseMethodDescriptor y.desc = some ⟨ps, r⟩) (hlen : argsL.length = ps.length) (hst : st = argsL.reverse ++ rest) (hW : (rest.map fun v => v.category).sum = W) (hd : decode c.code pc = .ok (.invokestatic index, 3))
    (hf : rm.frames + 1 ≤ R.frames) (hl : W + (maxL + 11) + rm.locals ≤ R.locals) (hc : cells + rm.cells ≤ R.cells) (hs : slots + rm.slots ≤ R.slots) :
    ∃ v T' L, Stand p l e R s m args below meth c T' (locs ++ L) (cells + rm.cells) (slots + rm.slots) ∧ Q v T'.heap L ∧ ∀ target, Steps p.tables e below (T'.setTop (mkF m (pc + 3) Ls (v.toList ++ rest))) target → Steps p.tables e below (T.setTop (mkF m pc Ls st)) target := by
  obtain ⟨v, _, ⟨T', L', k', n'⟩, -, X', ⟨Lc, hQ, l1, l2, l3⟩, k⟩ := Jvm.LawKit.callS X hx (y := y) hown (mvT hZ w1) (mvT hZ w2) (mvT hZ w3) (mvT hZ w4) hy (backOf (W := W) (hM []) hZ w4 w3 hf hl) (g := mkF m pc Ls st) rfl hsz (argsL := argsL) (rest := rest) (lenOf hpd hlen) hst (by show 2 * 0 + _ ≤ _; omega) hd (fun _ _ => ⟨rfl, eT, hc, hs⟩)
  dsimp only [Pt.U, Pt.locs, Pt.cells, Pt.slots] at X' l1 l2 l3 k hQ
  subst l1 l2 l3
  exact ⟨v, T', Lc, X', hQ, k⟩
theorem callC (X : Stand p l e R s m args below meth c T locs cells slots) (hx : p.tables.exec = Jvm.exec) (hZ : Z.Warmed39 s.vm) (hown : s.vm.findClass own = some m.cls) (hyn : y.name = "<init>")
    (w1 : (Jvm.Cond.methodLink own index y).before a0 Z = true) (w2 : (Jvm.Cond.instanceMethod y).before a0 Z = true) (w3 : (Jvm.Cond.initialized y.cls).before a0 Z = true) (w4 : (Jvm.Cond.code y bytes maxL none).before a0 Z = true) (hy : y.cls ≠ "java/lang/invoke/MethodHandle" ∧ y.cls ≠ "java/lang/invoke/VarHandle") {b : Addr}
    (hM : Con l Z y bytes maxL none rm (.ref b :: argsL).toArray h Q) (eT : T.heap = h) (hsz : Ls.size = c.maxLocals) (hpd : parseMethodDescriptor y.desc = some ⟨ps, r⟩) (hlen : argsL.length = ps.length) (hst : st = argsL.reverse ++ .ref b :: rest) (hW : (rest.map fun v => v.category).sum = W) (hd : decode c.code pc = .ok (.invokespecial index, 3))
    (hf : rm.frames + 1 ≤ R.frames) (hl : W + (maxL + 11) + rm.locals ≤ R.locals) (hc : cells + rm.cells ≤ R.cells) (hs : slots + rm.slots ≤ R.slots) :
    ∃ v T' L, Stand p l e R s m args below meth c T' (locs ++ L) (cells + rm.cells) (slots + rm.slots) ∧ Q v T'.heap L ∧ ∀ target, Steps p.tables e below (T'.setTop (mkF m (pc + 3) Ls (v.toList ++ rest))) target → Steps p.tables e below (T.setTop (mkF m pc Ls st)) target := by
  obtain ⟨v, _, ⟨T', L', k', n'⟩, -, X', ⟨Lc, hQ, l1, l2, l3⟩, k⟩ := X.specialBack hx (y := y) hyn hown (mvT hZ w1) (mvT hZ w2) (mvT hZ w4) hy (backOf (W := W) (hM []) hZ w4 w3 hf hl) (g := mkF m pc Ls st) rfl hsz (Steps.refl _) (a := b) (argsL := argsL) (rest := rest) (lenOf hpd hlen) hst (by show 2 * 0 + _ ≤ _; omega) hd (fun _ _ => ⟨rfl, eT, hc, hs⟩)
  dsimp only [Pt.U, Pt.locs, Pt.cells, Pt.slots] at X' l1 l2 l3 k hQ
  subst l1 l2 l3
  exact ⟨v, T', Lc, X', hQ, fun _ q => k.trans q⟩
theorem callV (X : Stand p l e R s m args below meth c T locs cells slots) (hx : p.tables.exec = Jvm.exec) (hZ : Z.Warmed39 s.vm) (hown : s.vm.findClass own = some m.cls) {C : String}
    (w1 : (Jvm.Cond.methodLink own index y).before a0 Z = true) (w2 : (Jvm.Cond.declares y).before a0 Z = true) (nf : NotFace s y) (w5 : (Jvm.Cond.selects C y z).before a0 Z = true) (w6 : (Jvm.Cond.instanceMethod z).before a0 Z = true) (w3 : (Jvm.Cond.initialized z.cls).before a0 Z = true) (w4 : (Jvm.Cond.code z bytes maxL ret).before a0 Z = true) (hy : y.cls ≠ "java/lang/invoke/MethodHandle" ∧ y.cls ≠ "java/lang/invoke/VarHandle") {b : Addr}
    (hM : Con l Z z bytes maxL ret rm (.ref b :: argsL).toArray h Q) (eT : T.heap = h) (E : Exa Z h b C) (hsz : Ls.size = c.maxLocals) (hpd : parseMethodDescriptor y.desc = some ⟨ps, r⟩) (hlen : argsL.length = ps.length) (hst : st = argsL.reverse ++ .ref b :: rest) (hW : (rest.map fun v => v.category).sum = W) (hd : decode c.code pc = .ok (.invokevirtual index, 3))
    (hf : rm.frames + 1 ≤ R.frames) (hl : W + (maxL + 11) + rm.locals ≤ R.locals) (hc : cells + rm.cells ≤ R.cells) (hs : slots + rm.slots ≤ R.slots) :
    ∃ v T' L, Stand p l e R s m args below meth c T' (locs ++ L) (cells + rm.cells) (slots + rm.slots) ∧ Q v T'.heap L ∧ ∀ target, Steps p.tables e below (T'.setTop (mkF m (pc + 3) Ls (v.toList ++ rest))) target → Steps p.tables e below (T.setTop (mkF m pc Ls st)) target := by
  obtain ⟨cq, kq, qa, qb, qc⟩ := isOf hZ eT E
  obtain ⟨v, _, ⟨T', L', k', n'⟩, -, X', ⟨Lc, hQ, l1, l2, l3⟩, k⟩ := X.virtualBack hx (y := y) (z := z) hown (mvT hZ w1) (mvT hZ w2) nf (mvT hZ w5) (mvT hZ w6) hy (backOf (W := W) (hM []) hZ w4 w3 hf hl) qa qc (g := mkF m pc Ls st) rfl hsz (Steps.refl _) (argsL := argsL) (rest := rest) (lenOf hpd hlen) hst (by show 2 * 0 + _ ≤ _; omega) hd (fun _ _ => ⟨rfl, eT, hc, hs⟩)
  dsimp only [Pt.U, Pt.locs, Pt.cells, Pt.slots] at X' l1 l2 l3 k hQ
  subst l1 l2 l3
  exact ⟨v, T', Lc, X', hQ, fun _ q => k.trans q⟩
theorem callI (X : Stand p l e R s m args below meth c T locs cells slots) (hx : p.tables.exec = Jvm.exec) (hZ : Z.Warmed39 s.vm) (hown : s.vm.findClass own = some m.cls) {C : String} {count : Nat}
    (w1 : (Jvm.Cond.methodLink own index y).before a0 Z = true) (w2 : (Jvm.Cond.declares y).before a0 Z = true) (wf : (Jvm.Cond.interfaceMethod y.cls y.cls y.name y.desc).before args s = true) (w5 : (Jvm.Cond.selects C y z).before a0 Z = true) (w6 : (Jvm.Cond.instanceMethod z).before a0 Z = true) (w7 : (Jvm.Cond.publicMethod z).before a0 Z = true) (w8 : (Jvm.Cond.unhidden C y.name y.desc).before a0 Z = true) (w9 : (Jvm.Cond.castable C y.cls).before a0 Z = true) (w3 : (Jvm.Cond.initialized z.cls).before a0 Z = true) (w4 : (Jvm.Cond.code z bytes maxL ret).before a0 Z = true) (hy : y.cls ≠ "java/lang/invoke/MethodHandle" ∧ y.cls ≠ "java/lang/invoke/VarHandle") {b : Addr}
    (hM : Con l Z z bytes maxL ret rm (.ref b :: argsL).toArray h Q) (eT : T.heap = h) (E : Exa Z h b C) (hsz : Ls.size = c.maxLocals) (hpd : parseMethodDescriptor y.desc = some ⟨ps, r⟩) (hlen : argsL.length = ps.length) (hst : st = argsL.reverse ++ .ref b :: rest) (hW : (rest.map fun v => v.category).sum = W) (hd : decode c.code pc = .ok (.invokeinterface index count, 5))
    (hf : rm.frames + 1 ≤ R.frames) (hl : W + (maxL + 11) + rm.locals ≤ R.locals) (hc : cells + rm.cells ≤ R.cells) (hs : slots + rm.slots ≤ R.slots) :
    ∃ v T' L, Stand p l e R s m args below meth c T' (locs ++ L) (cells + rm.cells) (slots + rm.slots) ∧ Q v T'.heap L ∧ ∀ target, Steps p.tables e below (T'.setTop (mkF m (pc + 5) Ls (v.toList ++ rest))) target → Steps p.tables e below (T.setTop (mkF m pc Ls st)) target := by
  obtain ⟨cq, kq, qa, qb, qc⟩ := isOf hZ eT E
  obtain ⟨v, _, ⟨T', L', k', n'⟩, -, X', ⟨Lc, hQ, l1, l2, l3⟩, k⟩ := X.interfaceBack hx (xi := y) (y := z) hown (mvT hZ w1) (mvT hZ w2) wf (mvT hZ w5) (mvT hZ w6) (mvT hZ w7) (mvT hZ w8) (mvT hZ w9) hy (backOf (W := W) (hM []) hZ w4 w3 hf hl) qa qb qc (g := mkF m pc Ls st) rfl hsz (Steps.refl _) (argsL := argsL) (rest := rest) (lenOf hpd hlen) hst (by show 2 * 0 + _ ≤ _; omega) hd (fun _ _ => ⟨rfl, eT, hc, hs⟩)
  dsimp only [Pt.U, Pt.locs, Pt.cells, Pt.slots] at X' l1 l2 l3 k hQ
  subst l1 l2 l3
  exact ⟨v, T', Lc, X', hQ, fun _ q => k.trans q⟩
theorem callP (X : Stand p l e R s m args below meth c T locs cells slots) (hx : p.tables.exec = Jvm.exec) (hZ : Z.Warmed39 s.vm) (hown : s.vm.findClass own = some m.cls) {C : String}
    (w1 : (Jvm.Cond.methodLink own index y).before a0 Z = true) (w5 : (Jvm.Cond.selects y.cls y y).before a0 Z = true) (w6 : (Jvm.Cond.instanceMethod y).before a0 Z = true) (w7 : (Jvm.Cond.privateMethod y).before a0 Z = true) (w3 : (Jvm.Cond.initialized y.cls).before a0 Z = true) (w4 : (Jvm.Cond.code y bytes maxL ret).before a0 Z = true) (hy : y.cls ≠ "java/lang/invoke/MethodHandle" ∧ y.cls ≠ "java/lang/invoke/VarHandle") {b : Addr}
    (hM : Con l Z y bytes maxL ret rm (.ref b :: argsL).toArray h Q) (eT : T.heap = h) (E : Exa Z h b C) (hsz : Ls.size = c.maxLocals) (hpd : parseMethodDescriptor y.desc = some ⟨ps, r⟩) (hlen : argsL.length = ps.length) (hst : st = argsL.reverse ++ .ref b :: rest) (hW : (rest.map fun v => v.category).sum = W) (hd : decode c.code pc = .ok (.invokevirtual index, 3))
    (hf : rm.frames + 1 ≤ R.frames) (hl : W + (maxL + 11) + rm.locals ≤ R.locals) (hc : cells + rm.cells ≤ R.cells) (hs : slots + rm.slots ≤ R.slots) :
    ∃ v T' L, Stand p l e R s m args below meth c T' (locs ++ L) (cells + rm.cells) (slots + rm.slots) ∧ Q v T'.heap L ∧ ∀ target, Steps p.tables e below (T'.setTop (mkF m (pc + 3) Ls (v.toList ++ rest))) target → Steps p.tables e below (T.setTop (mkF m pc Ls st)) target := by
  obtain ⟨cq, q1, q2⟩ := E.cell
  obtain ⟨v, _, ⟨T', L', k', n'⟩, -, X', ⟨Lc, hQ, l1, l2, l3⟩, k⟩ := X.privateBack hx (y := y) hown (mvT hZ w1) (mvT hZ w6) (mvT hZ w5) (Cond.privateMethod_at (mvP hZ w7 (args := #[]))) (mvT hZ w4) hy (backOf (W := W) (hM []) hZ w4 w3 hf hl) (g := mkF m pc Ls st) rfl hsz (Steps.refl _) (a := b) (by rw [eT]; exact q1) q2 (argsL := argsL) (rest := rest) (lenOf hpd hlen) hst (by show 2 * 0 + _ ≤ _; omega) hd (fun _ _ => ⟨rfl, eT, hc, hs⟩)
  dsimp only [Pt.U, Pt.locs, Pt.cells, Pt.slots] at X' l1 l2 l3 k hQ
  subst l1 l2 l3
  exact ⟨v, T', Lc, X', hQ, fun _ q => k.trans q⟩
end Calls
theorem newO (X : Stand p l e R s m args below meth c T locs cells slots) (hx : p.tables.exec = Jvm.exec) (hZ : Z.Warmed39 s.vm) {own C : String} {index n : Nat} (hown : s.vm.findClass own = some m.cls) (w : (Jvm.Cond.classLink own index C).before a0 Z = true) (wi : (Jvm.Cond.instantiable C n).before a0 Z = true) (wz : (Jvm.Cond.initialized C).before a0 Z = true) (eT : T.heap = h) {st : List Value}
    (hd : decode c.code pc = .ok (.new index, 3)) (hc : cells + 1 ≤ R.cells) (hl : slots + n ≤ R.slots) :
    ∃ T' h' b, Stand p l e R s m args below meth c T' locs (cells + 1) (slots + n) ∧ T'.heap = h' ∧ Ext h h' ∧ h.size ≤ b ∧ Exa Z h' b C ∧ (∀ {O nm d : String} {ty : FieldType}, Laid Z a0 C O nm d → parseFieldDescriptor d = some ty → Fld Z h' b O nm d (defaultValue ty)) ∧
      ∀ target, Steps p.tables e below (T'.setTop (mkF m (pc + 3) Ls (.ref b :: st))) target → Steps p.tables e below (T.setTop (mkF m pc Ls st)) target := by
  obtain ⟨T', h', X', e', E', A', D', -, k⟩ := RoadKit.newO X hx hZ hown w wi wz eT (g := mkF m pc Ls st) rfl hd hc hl
  exact ⟨T', h', h.size, X', e', E', Nat.le_refl _, A', D', k⟩
theorem newP (X : Stand p l e R s m args below meth c T locs cells slots) (hx : p.tables.exec = Jvm.exec) (hZ : Z.Warmed39 s.vm) {aty : ArrayType} (w : (Jvm.Cond.arrayClass (newarray.typeOf aty)).before a0 Z = true) (eT : T.heap = h) (hd : decode c.code pc = .ok (.newarray aty, 2)) {n : Int32} {rest : List Value}
    (hn : ¬ n < 0) {cap : Nat} (hcap : n.toNatClampNeg ≤ cap) (hb : cap * 8 ≤ 536870912) (hc : cells + 1 ≤ R.cells) (hl : slots + cap ≤ R.slots) {ad : String} (had : "[" ++ (newarray.typeOf aty).toString = ad) (k0 : Nat) :
    ∃ T' h' cA b, Stand p l e R s m args below meth c T' locs (cells + 1) (slots + cap) ∧ T'.heap = h' ∧ Ext h h' ∧ h.size ≤ b ∧ Arv Z h' b cA (newarray.typeOf aty) n (List.replicate k0 (defaultValue (newarray.typeOf aty))) (defaultValue (newarray.typeOf aty)) ∧ Exa Z h' b ad ∧
      ∀ target, Steps p.tables e below (T'.setTop (mkF m (pc + 2) Ls (.ref b :: rest))) target → Steps p.tables e below (T.setTop (mkF m pc Ls (.int n :: rest))) target := by
  obtain ⟨T', h', cA, X', e', E', A', E2, k⟩ := RoadKit.newPE X hx hZ w eT (g := mkF m pc Ls (.int n :: rest)) rfl hd rfl hn hcap hb hc hl had
  exact ⟨T', h', cA, h.size, X', e', E', Nat.le_refl _, (Arv.new A' hn).pad (pad_rep [] _ k0), E2, k⟩
theorem newR (X : Stand p l e R s m args below meth c T locs cells slots) (hx : p.tables.exec = Jvm.exec) (hZ : Z.Warmed39 s.vm) {own C : String} {index : Nat} (hown : s.vm.findClass own = some m.cls) (w1 : (Jvm.Cond.classLink own index C).before a0 Z = true) (w2 : (Jvm.Cond.arrayOver (.object C)).before a0 Z = true) (eT : T.heap = h) (hd : decode c.code pc = .ok (.anewarray index, 3)) {n : Int32} {rest : List Value}
    (hn : ¬ n < 0) {cap : Nat} (hcap : n.toNatClampNeg ≤ cap) (hb : cap * 8 ≤ 536870912) (hc : cells + 1 ≤ R.cells) (hl : slots + cap ≤ R.slots) {ad : String} (had : "[" ++ (FieldType.object C).toString = ad) (k0 : Nat) :
    ∃ T' h' cA b, Stand p l e R s m args below meth c T' locs (cells + 1) (slots + cap) ∧ T'.heap = h' ∧ Ext h h' ∧ h.size ≤ b ∧ Arv Z h' b cA (.object C) n (List.replicate k0 .null) .null ∧ Exa Z h' b ad ∧ Ovr Z cA C ∧
      ∀ target, Steps p.tables e below (T'.setTop (mkF m (pc + 3) Ls (.ref b :: rest))) target → Steps p.tables e below (T.setTop (mkF m pc Ls (.int n :: rest))) target := by
  obtain ⟨T', h', cA, X', e', E', A', E2, O', k⟩ := RoadKit.newRE X hx hZ hown w1 w2 eT (g := mkF m pc Ls (.int n :: rest)) rfl hd rfl hn hcap hb hc hl had
  exact ⟨T', h', cA, h.size, X', e', E', Nat.le_refl _, (Arv.new A' hn).pad (pad_rep [] _ k0), E2, O', k⟩
section Arrays
variable {a : Addr} {k : ClassId} {ty : FieldType} {z j : Int32} {vs : List Value} {dv v : Value} {rest : List Value}
theorem ldA (X : Stand p l e R s m args below meth c T locs cells slots) (hx : p.tables.exec = Jvm.exec) (hZ : Z.Warmed39 s.vm) (eT : T.heap = h) (F : Arv Z h a k ty z vs dv) (hty : ty.isReference = true) (hj : ¬ j < 0 ∧ j < z) (hv : vs.getD j.toNatClampNeg dv = v) (hd : decode c.code pc = .ok (.aaload, 1)) :
    ∀ target, Steps p.tables e below (T.setTop (mkF m (pc + 1) Ls (v :: rest))) target → Steps p.tables e below (T.setTop (mkF m pc Ls (.int j :: .ref a :: rest))) target := fun target q => by
  obtain ⟨cl, A, q1, S, q3, H, G⟩ := F
  exact X.aaload hx (by rw [eT]; exact A.1) (State.isArrayOf_alike hZ.alike A.2.1) hty A.2.2 (inb_of S hj) (H.at (inb_of S hj) hv) (g := mkF m pc Ls (.int j :: .ref a :: rest)) rfl rfl hd _ q
theorem ldI (X : Stand p l e R s m args below meth c T locs cells slots) (hx : p.tables.exec = Jvm.exec) (hZ : Z.Warmed39 s.vm) (eT : T.heap = h) (F : Arv Z h a k .int z vs dv) (hj : ¬ j < 0 ∧ j < z) (hv : vs.getD j.toNatClampNeg dv = v) (hd : decode c.code pc = .ok (.iaload, 1)) :
    ∀ target, Steps p.tables e below (T.setTop (mkF m (pc + 1) Ls (v :: rest))) target → Steps p.tables e below (T.setTop (mkF m pc Ls (.int j :: .ref a :: rest))) target := fun target q => by
  obtain ⟨cl, A, q1, S, q3, H, G⟩ := F
  exact X.iaload hx (by rw [eT]; exact A.1) (State.isArrayOf_alike hZ.alike A.2.1) A.2.2 (inb_of S hj) (H.at (inb_of S hj) hv) (g := mkF m pc Ls (.int j :: .ref a :: rest)) rfl rfl hd _ q
theorem ldJ (X : Stand p l e R s m args below meth c T locs cells slots) (hx : p.tables.exec = Jvm.exec) (hZ : Z.Warmed39 s.vm) (eT : T.heap = h) (F : Arv Z h a k .long z vs dv) (hj : ¬ j < 0 ∧ j < z) (hv : vs.getD j.toNatClampNeg dv = v) (hd : decode c.code pc = .ok (.laload, 1)) :
    ∀ target, Steps p.tables e below (T.setTop (mkF m (pc + 1) Ls (v :: rest))) target → Steps p.tables e below (T.setTop (mkF m pc Ls (.int j :: .ref a :: rest))) target := fun target q => by
  obtain ⟨cl, A, q1, S, q3, H, G⟩ := F
  exact X.laload hx (by rw [eT]; exact A.1) (State.isArrayOf_alike hZ.alike A.2.1) A.2.2 (inb_of S hj) (H.at (inb_of S hj) hv) (g := mkF m pc Ls (.int j :: .ref a :: rest)) rfl rfl hd _ q
theorem ldC (X : Stand p l e R s m args below meth c T locs cells slots) (hx : p.tables.exec = Jvm.exec) (hZ : Z.Warmed39 s.vm) (eT : T.heap = h) (F : Arv Z h a k .char z vs dv) (hj : ¬ j < 0 ∧ j < z) (hv : vs.getD j.toNatClampNeg dv = v) (hd : decode c.code pc = .ok (.caload, 1)) :
    ∀ target, Steps p.tables e below (T.setTop (mkF m (pc + 1) Ls (v :: rest))) target → Steps p.tables e below (T.setTop (mkF m pc Ls (.int j :: .ref a :: rest))) target := fun target q => by
  obtain ⟨cl, A, q1, S, q3, H, G⟩ := F
  exact X.caload hx (by rw [eT]; exact A.1) (State.isArrayOf_alike hZ.alike A.2.1) A.2.2 (inb_of S hj) (H.at (inb_of S hj) hv) (g := mkF m pc Ls (.int j :: .ref a :: rest)) rfl rfl hd _ q
theorem ldB (X : Stand p l e R s m args below meth c T locs cells slots) (hx : p.tables.exec = Jvm.exec) (hZ : Z.Warmed39 s.vm) (eT : T.heap = h) (F : Arv Z h a k .byte z vs dv) (hj : ¬ j < 0 ∧ j < z) (hv : vs.getD j.toNatClampNeg dv = v) (hd : decode c.code pc = .ok (.baload, 1)) :
    ∀ target, Steps p.tables e below (T.setTop (mkF m (pc + 1) Ls (v :: rest))) target → Steps p.tables e below (T.setTop (mkF m pc Ls (.int j :: .ref a :: rest))) target := fun target q => by
  obtain ⟨cl, A, q1, S, q3, H, G⟩ := F
  exact X.baloadBytes hx (by rw [eT]; exact A.1) (State.isArrayOf_alike hZ.alike A.2.1) A.2.2 (inb_of S hj) (H.at (inb_of S hj) hv) (g := mkF m pc Ls (.int j :: .ref a :: rest)) rfl rfl hd _ q
theorem aLen (X : Stand p l e R s m args below meth c T locs cells slots) (hx : p.tables.exec = Jvm.exec) (hZ : Z.Warmed39 s.vm) (eT : T.heap = h) (F : Arv Z h a k ty z vs dv) (hd : decode c.code pc = .ok (.arraylength, 1)) :
    ∀ target, Steps p.tables e below (T.setTop (mkF m (pc + 1) Ls (.int z :: rest))) target → Steps p.tables e below (T.setTop (mkF m pc Ls (.ref a :: rest))) target := fun target q => by
  obtain ⟨cl, A, q1, S, q3, H, G⟩ := F
  refine X.arraylength hx (by rw [eT]; exact A.1) (State.isArrayOf_alike hZ.alike A.2.1) (g := mkF m pc Ls (.ref a :: rest)) rfl rfl hd _ ?_
  rw [len_of S q3]
  exact q
theorem stA (X : Stand p l e R s m args below meth c T locs cells slots) (hx : p.tables.exec = Jvm.exec) (hZ : Z.Warmed39 s.vm) (eT : T.heap = h) (F : Arv Z h a k ty z vs dv) (hty : ty.isReference = true) (hvr : v.isRef = true) (hs : ∀ cl, Arr Z h a cl ty → cl.cls = k → Sto Z h a v) (hj : ¬ j < 0 ∧ j < z) (i : Nat) (hi : j.toNatClampNeg = i) (hl : i < vs.length) (hd : decode c.code pc = .ok (.aastore, 1)) :
    ∃ T' h', Stand p l e R s m args below meth c T' (locs ++ [⟨a, j.toNatClampNeg⟩]) cells slots ∧ T'.heap = h' ∧ Wr h h' a j.toNatClampNeg v ∧ Arv Z h' a k ty z (vs.set i v) dv ∧ ∀ target, Steps p.tables e below (T'.setTop (mkF m (pc + 1) Ls rest)) target → Steps p.tables e below (T.setTop (mkF m pc Ls (v :: .int j :: .ref a :: rest))) target := by
  obtain ⟨cl, A, q1, S, q3, H, G⟩ := F
  obtain ⟨T', h', X', e', W', k'⟩ := stR X hx hZ eT A (inb_of S hj) hty (hs cl A q1) (g := mkF m pc Ls (v :: .int j :: .ref a :: rest)) rfl rfl hd
  refine ⟨T', h', X', e', W', Arv.set A q1 S q3 H G ?_ W' i hi hl, k'⟩
  cases ty <;> first | (cases hty; done) | (cases v <;> first | (cases hvr; done) | rfl)
theorem stI (X : Stand p l e R s m args below meth c T locs cells slots) (hx : p.tables.exec = Jvm.exec) (hZ : Z.Warmed39 s.vm) (eT : T.heap = h) (F : Arv Z h a k .int z vs dv) {x : Int32} (hj : ¬ j < 0 ∧ j < z) (i : Nat) (hi : j.toNatClampNeg = i) (hl : i < vs.length) (hd : decode c.code pc = .ok (.iastore, 1)) :
    ∃ T' h', Stand p l e R s m args below meth c T' (locs ++ [⟨a, j.toNatClampNeg⟩]) cells slots ∧ T'.heap = h' ∧ Wr h h' a j.toNatClampNeg (.int x) ∧ Arv Z h' a k .int z (vs.set i (.int x)) dv ∧ ∀ target, Steps p.tables e below (T'.setTop (mkF m (pc + 1) Ls rest)) target → Steps p.tables e below (T.setTop (mkF m pc Ls (.int x :: .int j :: .ref a :: rest))) target := by
  obtain ⟨cl, A, q1, S, q3, H, G⟩ := F
  obtain ⟨T', h', X', e', W', k'⟩ := RoadKit.stI X hx hZ eT A (inb_of S hj) (g := mkF m pc Ls (.int x :: .int j :: .ref a :: rest)) rfl rfl hd
  exact ⟨T', h', X', e', W', Arv.set A q1 S q3 H G rfl W' i hi hl, k'⟩
theorem stC (X : Stand p l e R s m args below meth c T locs cells slots) (hx : p.tables.exec = Jvm.exec) (hZ : Z.Warmed39 s.vm) (eT : T.heap = h) (F : Arv Z h a k .char z vs dv) {x : Int32} (hj : ¬ j < 0 ∧ j < z) (i : Nat) (hi : j.toNatClampNeg = i) (hl : i < vs.length) (hd : decode c.code pc = .ok (.castore, 1)) :
    ∃ T' h', Stand p l e R s m args below meth c T' (locs ++ [⟨a, j.toNatClampNeg⟩]) cells slots ∧ T'.heap = h' ∧ Wr h h' a j.toNatClampNeg (.int (nar .char x)) ∧ Arv Z h' a k .char z (vs.set i (.int (nar .char x))) dv ∧ ∀ target, Steps p.tables e below (T'.setTop (mkF m (pc + 1) Ls rest)) target → Steps p.tables e below (T.setTop (mkF m pc Ls (.int x :: .int j :: .ref a :: rest))) target := by
  obtain ⟨cl, A, q1, S, q3, H, G⟩ := F
  obtain ⟨T', h', X', e', W', k'⟩ := RoadKit.stC X hx hZ eT A (inb_of S hj) (g := mkF m pc Ls (.int x :: .int j :: .ref a :: rest)) rfl rfl hd
  exact ⟨T', h', X', e', W', Arv.set A q1 S q3 H G (fits_nar_char _) W' i hi hl, k'⟩
theorem stB (X : Stand p l e R s m args below meth c T locs cells slots) (hx : p.tables.exec = Jvm.exec) (hZ : Z.Warmed39 s.vm) (eT : T.heap = h) (F : Arv Z h a k .byte z vs dv) {x : Int32} (hj : ¬ j < 0 ∧ j < z) (i : Nat) (hi : j.toNatClampNeg = i) (hl : i < vs.length) (hd : decode c.code pc = .ok (.bastore, 1)) :
    ∃ T' h', Stand p l e R s m args below meth c T' (locs ++ [⟨a, j.toNatClampNeg⟩]) cells slots ∧ T'.heap = h' ∧ Wr h h' a j.toNatClampNeg (.int (nar .byte x)) ∧ Arv Z h' a k .byte z (vs.set i (.int (nar .byte x))) dv ∧ ∀ target, Steps p.tables e below (T'.setTop (mkF m (pc + 1) Ls rest)) target → Steps p.tables e below (T.setTop (mkF m pc Ls (.int x :: .int j :: .ref a :: rest))) target := by
  obtain ⟨cl, A, q1, S, q3, H, G⟩ := F
  obtain ⟨T', h', X', e', W', k'⟩ := RoadKit.stB X hx hZ eT A (inb_of S hj) (g := mkF m pc Ls (.int x :: .int j :: .ref a :: rest)) rfl rfl hd
  exact ⟨T', h', X', e', W', Arv.set A q1 S q3 H G (fits_nar_byte _) W' i hi hl, k'⟩
end Arrays
theorem eq_int_v {a : Term} {n : Int32} (q : (Jvm.Cond.eq a (.int n)).value args s none s [] = some true) : a.eval args s none [] s = some (.int n) := by
  cases ha : a.eval args s none [] s with
  | none => simp [Jvm.Cond.value, Term.eval, ha] at q
  | some x => cases x <;> simp [Jvm.Cond.value, Term.eval, ha] at q ⊢; exact q
theorem arv_start {t : Term} {ty : FieldType} {z : Int32} {a : Addr} (dv : Value) (hf : Fit s) (ev : t.eval args s none [] s = some (.ref a)) (ha : (Jvm.Cond.arrayOf t ty).value args s none s [] = some true) (hl : (Term.length t).eval args s none [] s = some (.int z)) : ∃ (k : ClassId) (vs : List Value), Arv s s.heap a k ty z vs dv := by
  obtain ⟨cl, A⟩ := Arr.start ev ha
  have h2 : s.arrayAt? a = some cl := A.fin (Vm.Alike.refl _)
  have h3 : cl.slots.size < 2 ^ 31 ∧ cl.slots.size.toInt32 = z := by simpa [Term.eval, ev, h2] using hl
  have hn := len_toInt h3.1
  rw [h3.2] at hn
  have hz : ¬ z < 0 := by rw [Int32.lt_iff_toInt_lt, hn]; simp
  have hs : cl.slots.size = z.toNatClampNeg := by
    have := nat_of hz
    omega
  have hH : ∀ i, i < cl.slots.size → cl.slots[i]? = some (cl.slots.toList.getD i dv) := fun i hi => by simp [hi, List.getD_eq_getElem?_getD]
  refine ⟨cl.cls, cl.slots.toList, cl, A, rfl, hs, hz, hH, fun i hi => ?_⟩
  obtain ⟨v, hv, hfv⟩ := elem_fit hf A (j := i.toInt32) (idx_in hi h3.1)
  have e : i.toInt32.toNatClampNeg = i := by
    have h5 := len_toInt (n := i) (by omega)
    have h6 : ¬ i.toInt32 < 0 := by rw [Int32.lt_iff_toInt_lt, h5]; simp
    have := nat_of h6
    omega
  rw [e, hH i hi] at hv
  cases hv
  exact hfv
theorem Ext.keep {h0 h1 : Heap} (E : Ext h0 h1) (ws : List Addr) : Keep h0 h1 ws := (Keep.refl _ _).ext E
theorem ne_of_born {x b : Addr} {h1 : Heap} (q : x < h1.size) (r : h1.size ≤ b) : x ≠ b := Nat.ne_of_lt (Nat.lt_of_lt_of_le q r)
theorem i2c_id {x : Int32} (h0 : 0 ≤ x.toInt) (h1 : x.toInt < 65536) : x.toUInt32.toUInt16.toUInt32.toInt32 = x := by
  apply Int32.toInt_inj.mp
  have := c_i2c x
  omega
theorem m255v (q : Int32) : (q &&& 255).toInt = q.toInt % 256 := c_mask q 255 8 (by decide) (by decide)
theorem i2c_m (q : Int32) : (q &&& 255).toUInt32.toUInt16.toUInt32.toInt32 = q &&& 255 := i2c_id (by rw [m255v]; omega) (by rw [m255v]; omega)
theorem narc_m (q : Int32) : nar .char (q &&& 255) = q &&& 255 := i2c_m q
theorem m255 (q : Int32) : ¬ (255 : Int32) < q &&& 255 := by
  rw [Int32.lt_iff_toInt_lt, m255v, show (255 : Int32).toInt = 255 from by decide]
  omega
end
end Jvm.OwnW
namespace Jvm.Pilot.@@N@@
open Jvm Jvm.ClassFile Sem Op Lib Jvm.Free Jvm.Stand Jvm.LawKit Jvm.RoadKit Jvm.OwnW Bundle Jvm.Pilot.@@N@@.Jvm.D
theorem d_prog_8_m4_0 : decode prog_8_method_4_code 0 = .ok (.aload_n 0, 1) := by decide +kernel
theorem d_prog_8_m4_1 : decode prog_8_method_4_code 1 = .ok (.getstatic 3, 3) := by decide +kernel
theorem w9 {Z : State} {a0 : Array Value} (hw : ∀ d ∈ tables_1, d.before a0 Z = true) : (Jvm.Cond.fieldLink "com/example/scriptsmith/scriptsmith/pack/Dependency$Type" (3 : Nat) "com/example/scriptsmith/scriptsmith/pack/Dependency$Type" "REQUIRED" "Lcom/example/scriptsmith/scriptsmith/pack/Dependency$Type;").before a0 Z = true := hw _ (List.mem_of_getElem? (i := 9) rfl)
theorem d_prog_8_m4_4 : decode prog_8_method_4_code 4 = .ok (.if_acmp .eq 17, 3) := by decide +kernel
theorem d_prog_8_m4_21 : decode prog_8_method_4_code 21 = .ok (.iconst 1, 1) := by decide +kernel
theorem d_prog_8_m4_22 : decode prog_8_method_4_code 22 = .ok (.goto 4, 3) := by decide +kernel
theorem d_prog_8_m4_26 : decode prog_8_method_4_code 26 = .ok (.ireturn, 1) := by decide +kernel
theorem pn_0 : plainName "com/example/scriptsmith/scriptsmith/pack/Dependency$Type" = true := by first | (simp [plainName, overriddenIn]; done) | decide +kernel
def Q_ord0 (Z : State) (wR : Addr) (h0 : Heap) (n0 : Nat) (v : Option Value) (h : Heap) (L : List Loc) : Prop := v = some (.int (1 : Int32)) ∧ Fr n0 L ∧ h = h0
set_option maxRecDepth 65536 in
set_option maxHeartbeats 40000000 in
theorem ord0 (l : Launch) (Z : State) (a0 : Array Value) (hw : ∀ d ∈ tables_1, d.before a0 Z = true) (wR : Addr) (h0 : Heap) (n0 : Nat) (Z0 : n0 ≤ h0.size) (O0 : Old Z n0 h0) (P0 : Sta Z Z.heap "com/example/scriptsmith/scriptsmith/pack/Dependency$Type" "REQUIRED" "Lcom/example/scriptsmith/scriptsmith/pack/Dependency$Type;" (.ref wR)) :
    Con l Z (⟨"com/example/scriptsmith/scriptsmith/pack/Dependency$Type", "ordersLoad", "()Z"⟩ : MethodName) prog_8_method_4_code 1 (some .boolean) ({ frames := 0, cells := 0, slots := 0, locals := 0 } : Room) #[(.ref wR)] h0 (Q_ord0 Z wR h0 n0) := by
  refine OwnW.body (Ls := #[.val (.ref wR)]) (plainFor_of_name pn_0) (fun m => by first | (simp [entryFrame, mkF, argsToLocals, Value.category]; done) | rfl) ?_
  intro p e s m below meth c s₁ hx hby hml hown hnm hret hlk hZ X0 e0
  let QQ := Q_ord0 Z wR h0 n0
  have N0 := Fr.nil n0
  show Go p e below (s₁.setTop (mkF m 0 #[.val (.ref wR)] [])) (EndQ s below ({ frames := 0, cells := 0, slots := 0, locals := 0 } : Room).cells ({ frames := 0, cells := 0, slots := 0, locals := 0 } : Room).slots QQ)
  refine Go.on (Y' := s₁.setTop (mkF m 1 #[.val (.ref wR)] [(.ref wR)])) (fun _ k => XS.aloadN X0.here hx rfl (hb hby d_prog_8_m4_0) rfl rfl k) ?_
  have s2 : Sta Z h0 "com/example/scriptsmith/scriptsmith/pack/Dependency$Type" "REQUIRED" "Lcom/example/scriptsmith/scriptsmith/pack/Dependency$Type;" (.ref wR) := Sta.ext O0.2 P0
  obtain ⟨T1, X1, e1, st1⟩ := getS2 X0 hx hZ hown (host := "") (Or.inl (w9 hw)) Via.refl e0 s2 (g := (mkF m 1 #[.val (.ref wR)] [(.ref wR)])) rfl (hb hby d_prog_8_m4_1)
  refine Go.on (Y' := T1.setTop (mkF m 4 #[.val (.ref wR)] [(.ref wR), (.ref wR)])) (st1) ?_
  refine Go.on (Y' := T1.setTop (mkF m 21 #[.val (.ref wR)] [])) (fun _ k => Jvm.RoadKit.acmp (g := (mkF m 4 #[.val (.ref wR)] [(.ref wR), (.ref wR)])) X1 hx rfl rfl rfl (pc0 := 4) (pc' := 21) (same := true) rfl (hb hby d_prog_8_m4_4) rfl (decide_eq_true rfl) (by decide) (by decide) k) ?_
  refine Go.on (Y' := T1.setTop (mkF m 22 #[.val (.ref wR)] [(.int (1 : Int32))])) (fun _ k => XS.iconst X1.here hx rfl (hb hby d_prog_8_m4_21) k) ?_
  refine Go.on (Y' := T1.setTop (mkF m 26 #[.val (.ref wR)] [(.int (1 : Int32))])) (fun _ k => XS.goto X1.here hx rfl (pc0 := 22) (pc' := 26) rfl (hb hby d_prog_8_m4_22) (by decide) (by decide) k) ?_
  exact OwnW.retN X1 hx hlk hret (t := .boolean) (by simp) (hb hby d_prog_8_m4_26) (by decide) (by decide) rfl (show QQ _ T1.heap _ from ⟨rfl, N0, e1⟩)
theorem d_prog_8_m4_7 : decode prog_8_method_4_code 7 = .ok (.aload_n 0, 1) := by decide +kernel
theorem d_prog_8_m4_8 : decode prog_8_method_4_code 8 = .ok (.getstatic 7, 3) := by decide +kernel
theorem w12 {Z : State} {a0 : Array Value} (hw : ∀ d ∈ tables_1, d.before a0 Z = true) : (Jvm.Cond.fieldLink "com/example/scriptsmith/scriptsmith/pack/Dependency$Type" (7 : Nat) "com/example/scriptsmith/scriptsmith/pack/Dependency$Type" "OPTIONAL" "Lcom/example/scriptsmith/scriptsmith/pack/Dependency$Type;").before a0 Z = true := hw _ (List.mem_of_getElem? (i := 12) rfl)
theorem d_prog_8_m4_11 : decode prog_8_method_4_code 11 = .ok (.if_acmp .eq 10, 3) := by decide +kernel
def Q_ord1 (Z : State) (wO : Addr) (wR : Addr) (h0 : Heap) (n0 : Nat) (v : Option Value) (h : Heap) (L : List Loc) : Prop := v = some (.int (1 : Int32)) ∧ Fr n0 L ∧ h = h0
set_option maxRecDepth 65536 in
set_option maxHeartbeats 40000000 in
theorem ord1 (l : Launch) (Z : State) (a0 : Array Value) (hw : ∀ d ∈ tables_1, d.before a0 Z = true) (wO : Addr) (wR : Addr) (h0 : Heap) (n0 : Nat) (Z0 : n0 ≤ h0.size) (O0 : Old Z n0 h0) (P0 : Sta Z Z.heap "com/example/scriptsmith/scriptsmith/pack/Dependency$Type" "REQUIRED" "Lcom/example/scriptsmith/scriptsmith/pack/Dependency$Type;" (.ref wR)) (P1 : wO ≠ wR) (P2 : Sta Z Z.heap "com/example/scriptsmith/scriptsmith/pack/Dependency$Type" "OPTIONAL" "Lcom/example/scriptsmith/scriptsmith/pack/Dependency$Type;" (.ref wO)) :
    Con l Z (⟨"com/example/scriptsmith/scriptsmith/pack/Dependency$Type", "ordersLoad", "()Z"⟩ : MethodName) prog_8_method_4_code 1 (some .boolean) ({ frames := 0, cells := 0, slots := 0, locals := 0 } : Room) #[(.ref wO)] h0 (Q_ord1 Z wO wR h0 n0) := by
  refine OwnW.body (Ls := #[.val (.ref wO)]) (plainFor_of_name pn_0) (fun m => by first | (simp [entryFrame, mkF, argsToLocals, Value.category]; done) | rfl) ?_
  intro p e s m below meth c s₁ hx hby hml hown hnm hret hlk hZ X0 e0
  let QQ := Q_ord1 Z wO wR h0 n0
  have N0 := Fr.nil n0
  show Go p e below (s₁.setTop (mkF m 0 #[.val (.ref wO)] [])) (EndQ s below ({ frames := 0, cells := 0, slots := 0, locals := 0 } : Room).cells ({ frames := 0, cells := 0, slots := 0, locals := 0 } : Room).slots QQ)
  refine Go.on (Y' := s₁.setTop (mkF m 1 #[.val (.ref wO)] [(.ref wO)])) (fun _ k => XS.aloadN X0.here hx rfl (hb hby d_prog_8_m4_0) rfl rfl k) ?_
  have s2 : Sta Z h0 "com/example/scriptsmith/scriptsmith/pack/Dependency$Type" "REQUIRED" "Lcom/example/scriptsmith/scriptsmith/pack/Dependency$Type;" (.ref wR) := Sta.ext O0.2 P0
  obtain ⟨T1, X1, e1, st1⟩ := getS2 X0 hx hZ hown (host := "") (Or.inl (w9 hw)) Via.refl e0 s2 (g := (mkF m 1 #[.val (.ref wO)] [(.ref wO)])) rfl (hb hby d_prog_8_m4_1)
  refine Go.on (Y' := T1.setTop (mkF m 4 #[.val (.ref wO)] [(.ref wR), (.ref wO)])) (st1) ?_
  refine Go.on (Y' := T1.setTop (mkF m 7 #[.val (.ref wO)] [])) (fun _ k => Jvm.RoadKit.acmp (g := (mkF m 4 #[.val (.ref wO)] [(.ref wR), (.ref wO)])) X1 hx rfl rfl rfl (pc0 := 4) (pc' := 7) (same := false) rfl (hb hby d_prog_8_m4_4) rfl (decide_eq_false fun q => P1 (Value.ref.inj q)) (by decide) (by decide) k) ?_
  refine Go.on (Y' := T1.setTop (mkF m 8 #[.val (.ref wO)] [(.ref wO)])) (fun _ k => XS.aloadN X1.here hx rfl (hb hby d_prog_8_m4_7) rfl rfl k) ?_
  have s4 : Sta Z h0 "com/example/scriptsmith/scriptsmith/pack/Dependency$Type" "OPTIONAL" "Lcom/example/scriptsmith/scriptsmith/pack/Dependency$Type;" (.ref wO) := Sta.ext O0.2 P2
  obtain ⟨T3, X3, e3, st3⟩ := getS2 X1 hx hZ hown (host := "") (Or.inl (w12 hw)) Via.refl e1 s4 (g := (mkF m 8 #[.val (.ref wO)] [(.ref wO)])) rfl (hb hby d_prog_8_m4_8)
  refine Go.on (Y' := T3.setTop (mkF m 11 #[.val (.ref wO)] [(.ref wO), (.ref wO)])) (st3) ?_
  refine Go.on (Y' := T3.setTop (mkF m 21 #[.val (.ref wO)] [])) (fun _ k => Jvm.RoadKit.acmp (g := (mkF m 11 #[.val (.ref wO)] [(.ref wO), (.ref wO)])) X3 hx rfl rfl rfl (pc0 := 11) (pc' := 21) (same := true) rfl (hb hby d_prog_8_m4_11) rfl (decide_eq_true rfl) (by decide) (by decide) k) ?_
  refine Go.on (Y' := T3.setTop (mkF m 22 #[.val (.ref wO)] [(.int (1 : Int32))])) (fun _ k => XS.iconst X3.here hx rfl (hb hby d_prog_8_m4_21) k) ?_
  refine Go.on (Y' := T3.setTop (mkF m 26 #[.val (.ref wO)] [(.int (1 : Int32))])) (fun _ k => XS.goto X3.here hx rfl (pc0 := 22) (pc' := 26) rfl (hb hby d_prog_8_m4_22) (by decide) (by decide) k) ?_
  exact OwnW.retN X3 hx hlk hret (t := .boolean) (by simp) (hb hby d_prog_8_m4_26) (by decide) (by decide) rfl (show QQ _ T3.heap _ from ⟨rfl, N0, e3⟩)
theorem d_prog_8_m4_14 : decode prog_8_method_4_code 14 = .ok (.aload_n 0, 1) := by decide +kernel
theorem d_prog_8_m4_15 : decode prog_8_method_4_code 15 = .ok (.getstatic 10, 3) := by decide +kernel
theorem w14 {Z : State} {a0 : Array Value} (hw : ∀ d ∈ tables_1, d.before a0 Z = true) : (Jvm.Cond.fieldLink "com/example/scriptsmith/scriptsmith/pack/Dependency$Type" (10 : Nat) "com/example/scriptsmith/scriptsmith/pack/Dependency$Type" "RECOMMENDED" "Lcom/example/scriptsmith/scriptsmith/pack/Dependency$Type;").before a0 Z = true := hw _ (List.mem_of_getElem? (i := 14) rfl)
theorem d_prog_8_m4_18 : decode prog_8_method_4_code 18 = .ok (.if_acmp .ne 7, 3) := by decide +kernel
def Q_ord2 (Z : State) (wC : Addr) (wR : Addr) (wO : Addr) (h0 : Heap) (n0 : Nat) (v : Option Value) (h : Heap) (L : List Loc) : Prop := v = some (.int (1 : Int32)) ∧ Fr n0 L ∧ h = h0
set_option maxRecDepth 65536 in
set_option maxHeartbeats 40000000 in
theorem ord2 (l : Launch) (Z : State) (a0 : Array Value) (hw : ∀ d ∈ tables_1, d.before a0 Z = true) (wC : Addr) (wR : Addr) (wO : Addr) (h0 : Heap) (n0 : Nat) (Z0 : n0 ≤ h0.size) (O0 : Old Z n0 h0) (P0 : Sta Z Z.heap "com/example/scriptsmith/scriptsmith/pack/Dependency$Type" "REQUIRED" "Lcom/example/scriptsmith/scriptsmith/pack/Dependency$Type;" (.ref wR)) (P1 : wC ≠ wR) (P2 : Sta Z Z.heap "com/example/scriptsmith/scriptsmith/pack/Dependency$Type" "OPTIONAL" "Lcom/example/scriptsmith/scriptsmith/pack/Dependency$Type;" (.ref wO)) (P3 : wC ≠ wO) (P4 : Sta Z Z.heap "com/example/scriptsmith/scriptsmith/pack/Dependency$Type" "RECOMMENDED" "Lcom/example/scriptsmith/scriptsmith/pack/Dependency$Type;" (.ref wC)) :
    Con l Z (⟨"com/example/scriptsmith/scriptsmith/pack/Dependency$Type", "ordersLoad", "()Z"⟩ : MethodName) prog_8_method_4_code 1 (some .boolean) ({ frames := 0, cells := 0, slots := 0, locals := 0 } : Room) #[(.ref wC)] h0 (Q_ord2 Z wC wR wO h0 n0) := by
  refine OwnW.body (Ls := #[.val (.ref wC)]) (plainFor_of_name pn_0) (fun m => by first | (simp [entryFrame, mkF, argsToLocals, Value.category]; done) | rfl) ?_
  intro p e s m below meth c s₁ hx hby hml hown hnm hret hlk hZ X0 e0
  let QQ := Q_ord2 Z wC wR wO h0 n0
  have N0 := Fr.nil n0
  show Go p e below (s₁.setTop (mkF m 0 #[.val (.ref wC)] [])) (EndQ s below ({ frames := 0, cells := 0, slots := 0, locals := 0 } : Room).cells ({ frames := 0, cells := 0, slots := 0, locals := 0 } : Room).slots QQ)
  refine Go.on (Y' := s₁.setTop (mkF m 1 #[.val (.ref wC)] [(.ref wC)])) (fun _ k => XS.aloadN X0.here hx rfl (hb hby d_prog_8_m4_0) rfl rfl k) ?_
  have s2 : Sta Z h0 "com/example/scriptsmith/scriptsmith/pack/Dependency$Type" "REQUIRED" "Lcom/example/scriptsmith/scriptsmith/pack/Dependency$Type;" (.ref wR) := Sta.ext O0.2 P0
  obtain ⟨T1, X1, e1, st1⟩ := getS2 X0 hx hZ hown (host := "") (Or.inl (w9 hw)) Via.refl e0 s2 (g := (mkF m 1 #[.val (.ref wC)] [(.ref wC)])) rfl (hb hby d_prog_8_m4_1)
  refine Go.on (Y' := T1.setTop (mkF m 4 #[.val (.ref wC)] [(.ref wR), (.ref wC)])) (st1) ?_
  refine Go.on (Y' := T1.setTop (mkF m 7 #[.val (.ref wC)] [])) (fun _ k => Jvm.RoadKit.acmp (g := (mkF m 4 #[.val (.ref wC)] [(.ref wR), (.ref wC)])) X1 hx rfl rfl rfl (pc0 := 4) (pc' := 7) (same := false) rfl (hb hby d_prog_8_m4_4) rfl (decide_eq_false fun q => P1 (Value.ref.inj q)) (by decide) (by decide) k) ?_
  refine Go.on (Y' := T1.setTop (mkF m 8 #[.val (.ref wC)] [(.ref wC)])) (fun _ k => XS.aloadN X1.here hx rfl (hb hby d_prog_8_m4_7) rfl rfl k) ?_
  have s4 : Sta Z h0 "com/example/scriptsmith/scriptsmith/pack/Dependency$Type" "OPTIONAL" "Lcom/example/scriptsmith/scriptsmith/pack/Dependency$Type;" (.ref wO) := Sta.ext O0.2 P2
  obtain ⟨T3, X3, e3, st3⟩ := getS2 X1 hx hZ hown (host := "") (Or.inl (w12 hw)) Via.refl e1 s4 (g := (mkF m 8 #[.val (.ref wC)] [(.ref wC)])) rfl (hb hby d_prog_8_m4_8)
  refine Go.on (Y' := T3.setTop (mkF m 11 #[.val (.ref wC)] [(.ref wO), (.ref wC)])) (st3) ?_
  refine Go.on (Y' := T3.setTop (mkF m 14 #[.val (.ref wC)] [])) (fun _ k => Jvm.RoadKit.acmp (g := (mkF m 11 #[.val (.ref wC)] [(.ref wO), (.ref wC)])) X3 hx rfl rfl rfl (pc0 := 11) (pc' := 14) (same := false) rfl (hb hby d_prog_8_m4_11) rfl (decide_eq_false fun q => P3 (Value.ref.inj q)) (by decide) (by decide) k) ?_
  refine Go.on (Y' := T3.setTop (mkF m 15 #[.val (.ref wC)] [(.ref wC)])) (fun _ k => XS.aloadN X3.here hx rfl (hb hby d_prog_8_m4_14) rfl rfl k) ?_
  have s6 : Sta Z h0 "com/example/scriptsmith/scriptsmith/pack/Dependency$Type" "RECOMMENDED" "Lcom/example/scriptsmith/scriptsmith/pack/Dependency$Type;" (.ref wC) := Sta.ext O0.2 P4
  obtain ⟨T5, X5, e5, st5⟩ := getS2 X3 hx hZ hown (host := "") (Or.inl (w14 hw)) Via.refl e3 s6 (g := (mkF m 15 #[.val (.ref wC)] [(.ref wC)])) rfl (hb hby d_prog_8_m4_15)
  refine Go.on (Y' := T5.setTop (mkF m 18 #[.val (.ref wC)] [(.ref wC), (.ref wC)])) (st5) ?_
  refine Go.on (Y' := T5.setTop (mkF m 21 #[.val (.ref wC)] [])) (fun _ k => Jvm.RoadKit.acmp (g := (mkF m 18 #[.val (.ref wC)] [(.ref wC), (.ref wC)])) X5 hx rfl rfl rfl (pc0 := 18) (pc' := 21) (same := true) rfl (hb hby d_prog_8_m4_18) rfl (decide_eq_true rfl) (by decide) (by decide) k) ?_
  refine Go.on (Y' := T5.setTop (mkF m 22 #[.val (.ref wC)] [(.int (1 : Int32))])) (fun _ k => XS.iconst X5.here hx rfl (hb hby d_prog_8_m4_21) k) ?_
  refine Go.on (Y' := T5.setTop (mkF m 26 #[.val (.ref wC)] [(.int (1 : Int32))])) (fun _ k => XS.goto X5.here hx rfl (pc0 := 22) (pc' := 26) rfl (hb hby d_prog_8_m4_22) (by decide) (by decide) k) ?_
  exact OwnW.retN X5 hx hlk hret (t := .boolean) (by simp) (hb hby d_prog_8_m4_26) (by decide) (by decide) rfl (show QQ _ T5.heap _ from ⟨rfl, N0, e5⟩)
theorem d_prog_8_m4_25 : decode prog_8_method_4_code 25 = .ok (.iconst 0, 1) := by decide +kernel
def Q_ord3 (Z : State) (wD : Addr) (wR : Addr) (wO : Addr) (wC : Addr) (h0 : Heap) (n0 : Nat) (v : Option Value) (h : Heap) (L : List Loc) : Prop := v = some (.int (0 : Int32)) ∧ Fr n0 L ∧ h = h0
set_option maxRecDepth 65536 in
set_option maxHeartbeats 40000000 in
theorem ord3 (l : Launch) (Z : State) (a0 : Array Value) (hw : ∀ d ∈ tables_1, d.before a0 Z = true) (wD : Addr) (wR : Addr) (wO : Addr) (wC : Addr) (h0 : Heap) (n0 : Nat) (Z0 : n0 ≤ h0.size) (O0 : Old Z n0 h0) (P0 : Sta Z Z.heap "com/example/scriptsmith/scriptsmith/pack/Dependency$Type" "REQUIRED" "Lcom/example/scriptsmith/scriptsmith/pack/Dependency$Type;" (.ref wR)) (P1 : wD ≠ wR) (P2 : Sta Z Z.heap "com/example/scriptsmith/scriptsmith/pack/Dependency$Type" "OPTIONAL" "Lcom/example/scriptsmith/scriptsmith/pack/Dependency$Type;" (.ref wO)) (P3 : wD ≠ wO) (P4 : Sta Z Z.heap "com/example/scriptsmith/scriptsmith/pack/Dependency$Type" "RECOMMENDED" "Lcom/example/scriptsmith/scriptsmith/pack/Dependency$Type;" (.ref wC)) (P5 : wD ≠ wC) :
    Con l Z (⟨"com/example/scriptsmith/scriptsmith/pack/Dependency$Type", "ordersLoad", "()Z"⟩ : MethodName) prog_8_method_4_code 1 (some .boolean) ({ frames := 0, cells := 0, slots := 0, locals := 0 } : Room) #[(.ref wD)] h0 (Q_ord3 Z wD wR wO wC h0 n0) := by
  refine OwnW.body (Ls := #[.val (.ref wD)]) (plainFor_of_name pn_0) (fun m => by first | (simp [entryFrame, mkF, argsToLocals, Value.category]; done) | rfl) ?_
  intro p e s m below meth c s₁ hx hby hml hown hnm hret hlk hZ X0 e0
  let QQ := Q_ord3 Z wD wR wO wC h0 n0
  have N0 := Fr.nil n0
  show Go p e below (s₁.setTop (mkF m 0 #[.val (.ref wD)] [])) (EndQ s below ({ frames := 0, cells := 0, slots := 0, locals := 0 } : Room).cells ({ frames := 0, cells := 0, slots := 0, locals := 0 } : Room).slots QQ)
  refine Go.on (Y' := s₁.setTop (mkF m 1 #[.val (.ref wD)] [(.ref wD)])) (fun _ k => XS.aloadN X0.here hx rfl (hb hby d_prog_8_m4_0) rfl rfl k) ?_
  have s2 : Sta Z h0 "com/example/scriptsmith/scriptsmith/pack/Dependency$Type" "REQUIRED" "Lcom/example/scriptsmith/scriptsmith/pack/Dependency$Type;" (.ref wR) := Sta.ext O0.2 P0
  obtain ⟨T1, X1, e1, st1⟩ := getS2 X0 hx hZ hown (host := "") (Or.inl (w9 hw)) Via.refl e0 s2 (g := (mkF m 1 #[.val (.ref wD)] [(.ref wD)])) rfl (hb hby d_prog_8_m4_1)
  refine Go.on (Y' := T1.setTop (mkF m 4 #[.val (.ref wD)] [(.ref wR), (.ref wD)])) (st1) ?_
  refine Go.on (Y' := T1.setTop (mkF m 7 #[.val (.ref wD)] [])) (fun _ k => Jvm.RoadKit.acmp (g := (mkF m 4 #[.val (.ref wD)] [(.ref wR), (.ref wD)])) X1 hx rfl rfl rfl (pc0 := 4) (pc' := 7) (same := false) rfl (hb hby d_prog_8_m4_4) rfl (decide_eq_false fun q => P1 (Value.ref.inj q)) (by decide) (by decide) k) ?_
  refine Go.on (Y' := T1.setTop (mkF m 8 #[.val (.ref wD)] [(.ref wD)])) (fun _ k => XS.aloadN X1.here hx rfl (hb hby d_prog_8_m4_7) rfl rfl k) ?_
  have s4 : Sta Z h0 "com/example/scriptsmith/scriptsmith/pack/Dependency$Type" "OPTIONAL" "Lcom/example/scriptsmith/scriptsmith/pack/Dependency$Type;" (.ref wO) := Sta.ext O0.2 P2
  obtain ⟨T3, X3, e3, st3⟩ := getS2 X1 hx hZ hown (host := "") (Or.inl (w12 hw)) Via.refl e1 s4 (g := (mkF m 8 #[.val (.ref wD)] [(.ref wD)])) rfl (hb hby d_prog_8_m4_8)
  refine Go.on (Y' := T3.setTop (mkF m 11 #[.val (.ref wD)] [(.ref wO), (.ref wD)])) (st3) ?_
  refine Go.on (Y' := T3.setTop (mkF m 14 #[.val (.ref wD)] [])) (fun _ k => Jvm.RoadKit.acmp (g := (mkF m 11 #[.val (.ref wD)] [(.ref wO), (.ref wD)])) X3 hx rfl rfl rfl (pc0 := 11) (pc' := 14) (same := false) rfl (hb hby d_prog_8_m4_11) rfl (decide_eq_false fun q => P3 (Value.ref.inj q)) (by decide) (by decide) k) ?_
  refine Go.on (Y' := T3.setTop (mkF m 15 #[.val (.ref wD)] [(.ref wD)])) (fun _ k => XS.aloadN X3.here hx rfl (hb hby d_prog_8_m4_14) rfl rfl k) ?_
  have s6 : Sta Z h0 "com/example/scriptsmith/scriptsmith/pack/Dependency$Type" "RECOMMENDED" "Lcom/example/scriptsmith/scriptsmith/pack/Dependency$Type;" (.ref wC) := Sta.ext O0.2 P4
  obtain ⟨T5, X5, e5, st5⟩ := getS2 X3 hx hZ hown (host := "") (Or.inl (w14 hw)) Via.refl e3 s6 (g := (mkF m 15 #[.val (.ref wD)] [(.ref wD)])) rfl (hb hby d_prog_8_m4_15)
  refine Go.on (Y' := T5.setTop (mkF m 18 #[.val (.ref wD)] [(.ref wC), (.ref wD)])) (st5) ?_
  refine Go.on (Y' := T5.setTop (mkF m 25 #[.val (.ref wD)] [])) (fun _ k => Jvm.RoadKit.acmp (g := (mkF m 18 #[.val (.ref wD)] [(.ref wC), (.ref wD)])) X5 hx rfl rfl rfl (pc0 := 18) (pc' := 25) (same := false) rfl (hb hby d_prog_8_m4_18) rfl (decide_eq_false fun q => P5 (Value.ref.inj q)) (by decide) (by decide) k) ?_
  refine Go.on (Y' := T5.setTop (mkF m 26 #[.val (.ref wD)] [(.int (0 : Int32))])) (fun _ k => XS.iconst X5.here hx rfl (hb hby d_prog_8_m4_25) k) ?_
  exact OwnW.retN X5 hx hlk hret (t := .boolean) (by simp) (hb hby d_prog_8_m4_26) (by decide) (by decide) rfl (show QQ _ T5.heap _ from ⟨rfl, N0, e5⟩)
def Q_ord4 (Z : State) (wI : Addr) (wR : Addr) (wO : Addr) (wC : Addr) (h0 : Heap) (n0 : Nat) (v : Option Value) (h : Heap) (L : List Loc) : Prop := v = some (.int (0 : Int32)) ∧ Fr n0 L ∧ h = h0
set_option maxRecDepth 65536 in
set_option maxHeartbeats 40000000 in
theorem ord4 (l : Launch) (Z : State) (a0 : Array Value) (hw : ∀ d ∈ tables_1, d.before a0 Z = true) (wI : Addr) (wR : Addr) (wO : Addr) (wC : Addr) (h0 : Heap) (n0 : Nat) (Z0 : n0 ≤ h0.size) (O0 : Old Z n0 h0) (P0 : Sta Z Z.heap "com/example/scriptsmith/scriptsmith/pack/Dependency$Type" "REQUIRED" "Lcom/example/scriptsmith/scriptsmith/pack/Dependency$Type;" (.ref wR)) (P1 : wI ≠ wR) (P2 : Sta Z Z.heap "com/example/scriptsmith/scriptsmith/pack/Dependency$Type" "OPTIONAL" "Lcom/example/scriptsmith/scriptsmith/pack/Dependency$Type;" (.ref wO)) (P3 : wI ≠ wO) (P4 : Sta Z Z.heap "com/example/scriptsmith/scriptsmith/pack/Dependency$Type" "RECOMMENDED" "Lcom/example/scriptsmith/scriptsmith/pack/Dependency$Type;" (.ref wC)) (P5 : wI ≠ wC) :
    Con l Z (⟨"com/example/scriptsmith/scriptsmith/pack/Dependency$Type", "ordersLoad", "()Z"⟩ : MethodName) prog_8_method_4_code 1 (some .boolean) ({ frames := 0, cells := 0, slots := 0, locals := 0 } : Room) #[(.ref wI)] h0 (Q_ord4 Z wI wR wO wC h0 n0) := by
  refine OwnW.body (Ls := #[.val (.ref wI)]) (plainFor_of_name pn_0) (fun m => by first | (simp [entryFrame, mkF, argsToLocals, Value.category]; done) | rfl) ?_
  intro p e s m below meth c s₁ hx hby hml hown hnm hret hlk hZ X0 e0
  let QQ := Q_ord4 Z wI wR wO wC h0 n0
  have N0 := Fr.nil n0
  show Go p e below (s₁.setTop (mkF m 0 #[.val (.ref wI)] [])) (EndQ s below ({ frames := 0, cells := 0, slots := 0, locals := 0 } : Room).cells ({ frames := 0, cells := 0, slots := 0, locals := 0 } : Room).slots QQ)
  refine Go.on (Y' := s₁.setTop (mkF m 1 #[.val (.ref wI)] [(.ref wI)])) (fun _ k => XS.aloadN X0.here hx rfl (hb hby d_prog_8_m4_0) rfl rfl k) ?_
  have s2 : Sta Z h0 "com/example/scriptsmith/scriptsmith/pack/Dependency$Type" "REQUIRED" "Lcom/example/scriptsmith/scriptsmith/pack/Dependency$Type;" (.ref wR) := Sta.ext O0.2 P0
  obtain ⟨T1, X1, e1, st1⟩ := getS2 X0 hx hZ hown (host := "") (Or.inl (w9 hw)) Via.refl e0 s2 (g := (mkF m 1 #[.val (.ref wI)] [(.ref wI)])) rfl (hb hby d_prog_8_m4_1)
  refine Go.on (Y' := T1.setTop (mkF m 4 #[.val (.ref wI)] [(.ref wR), (.ref wI)])) (st1) ?_
  refine Go.on (Y' := T1.setTop (mkF m 7 #[.val (.ref wI)] [])) (fun _ k => Jvm.RoadKit.acmp (g := (mkF m 4 #[.val (.ref wI)] [(.ref wR), (.ref wI)])) X1 hx rfl rfl rfl (pc0 := 4) (pc' := 7) (same := false) rfl (hb hby d_prog_8_m4_4) rfl (decide_eq_false fun q => P1 (Value.ref.inj q)) (by decide) (by decide) k) ?_
  refine Go.on (Y' := T1.setTop (mkF m 8 #[.val (.ref wI)] [(.ref wI)])) (fun _ k => XS.aloadN X1.here hx rfl (hb hby d_prog_8_m4_7) rfl rfl k) ?_
  have s4 : Sta Z h0 "com/example/scriptsmith/scriptsmith/pack/Dependency$Type" "OPTIONAL" "Lcom/example/scriptsmith/scriptsmith/pack/Dependency$Type;" (.ref wO) := Sta.ext O0.2 P2
  obtain ⟨T3, X3, e3, st3⟩ := getS2 X1 hx hZ hown (host := "") (Or.inl (w12 hw)) Via.refl e1 s4 (g := (mkF m 8 #[.val (.ref wI)] [(.ref wI)])) rfl (hb hby d_prog_8_m4_8)
  refine Go.on (Y' := T3.setTop (mkF m 11 #[.val (.ref wI)] [(.ref wO), (.ref wI)])) (st3) ?_
  refine Go.on (Y' := T3.setTop (mkF m 14 #[.val (.ref wI)] [])) (fun _ k => Jvm.RoadKit.acmp (g := (mkF m 11 #[.val (.ref wI)] [(.ref wO), (.ref wI)])) X3 hx rfl rfl rfl (pc0 := 11) (pc' := 14) (same := false) rfl (hb hby d_prog_8_m4_11) rfl (decide_eq_false fun q => P3 (Value.ref.inj q)) (by decide) (by decide) k) ?_
  refine Go.on (Y' := T3.setTop (mkF m 15 #[.val (.ref wI)] [(.ref wI)])) (fun _ k => XS.aloadN X3.here hx rfl (hb hby d_prog_8_m4_14) rfl rfl k) ?_
  have s6 : Sta Z h0 "com/example/scriptsmith/scriptsmith/pack/Dependency$Type" "RECOMMENDED" "Lcom/example/scriptsmith/scriptsmith/pack/Dependency$Type;" (.ref wC) := Sta.ext O0.2 P4
  obtain ⟨T5, X5, e5, st5⟩ := getS2 X3 hx hZ hown (host := "") (Or.inl (w14 hw)) Via.refl e3 s6 (g := (mkF m 15 #[.val (.ref wI)] [(.ref wI)])) rfl (hb hby d_prog_8_m4_15)
  refine Go.on (Y' := T5.setTop (mkF m 18 #[.val (.ref wI)] [(.ref wC), (.ref wI)])) (st5) ?_
  refine Go.on (Y' := T5.setTop (mkF m 25 #[.val (.ref wI)] [])) (fun _ k => Jvm.RoadKit.acmp (g := (mkF m 18 #[.val (.ref wI)] [(.ref wC), (.ref wI)])) X5 hx rfl rfl rfl (pc0 := 18) (pc' := 25) (same := false) rfl (hb hby d_prog_8_m4_18) rfl (decide_eq_false fun q => P5 (Value.ref.inj q)) (by decide) (by decide) k) ?_
  refine Go.on (Y' := T5.setTop (mkF m 26 #[.val (.ref wI)] [(.int (0 : Int32))])) (fun _ k => XS.iconst X5.here hx rfl (hb hby d_prog_8_m4_25) k) ?_
  exact OwnW.retN X5 hx hlk hret (t := .boolean) (by simp) (hb hby d_prog_8_m4_26) (by decide) (by decide) rfl (show QQ _ T5.heap _ from ⟨rfl, N0, e5⟩)
theorem w0 {Z : State} {a0 : Array Value} (hw : ∀ d ∈ tables_1, d.before a0 Z = true) : (Jvm.Cond.constant "com/example/scriptsmith/scriptsmith/pack/TypeOrdersLoadPinLaw" (7 : Nat) (2147483647 : Int32)).before a0 Z = true := hw _ (List.mem_of_getElem? (i := 0) rfl)
theorem w1 {Z : State} {a0 : Array Value} (hw : ∀ d ∈ tables_1, d.before a0 Z = true) : (Jvm.Cond.fieldLink "com/example/scriptsmith/scriptsmith/pack/TypeOrdersLoadPinLaw" (8 : Nat) "com/example/scriptsmith/scriptsmith/pack/Dependency$Type" "REQUIRED" "Lcom/example/scriptsmith/scriptsmith/pack/Dependency$Type;").before a0 Z = true := hw _ (List.mem_of_getElem? (i := 1) rfl)
theorem w7 {Z : State} {a0 : Array Value} (hw : ∀ d ∈ tables_1, d.before a0 Z = true) : (Jvm.Cond.selects "com/example/scriptsmith/scriptsmith/pack/Dependency$Type" ({ cls := "com/example/scriptsmith/scriptsmith/pack/Dependency$Type", name := "ordersLoad", desc := "()Z" } : Jvm.MethodName) ({ cls := "com/example/scriptsmith/scriptsmith/pack/Dependency$Type", name := "ordersLoad", desc := "()Z" } : Jvm.MethodName)).before a0 Z = true := hw _ (List.mem_of_getElem? (i := 7) rfl)
theorem w8 {Z : State} {a0 : Array Value} (hw : ∀ d ∈ tables_1, d.before a0 Z = true) : (Jvm.Cond.code ({ cls := "com/example/scriptsmith/scriptsmith/pack/Dependency$Type", name := "ordersLoad", desc := "()Z" } : Jvm.MethodName) prog_8_method_4_code (1 : Nat) (Option.some Jvm.ClassFile.FieldType.boolean)).before a0 Z = true := hw _ (List.mem_of_getElem? (i := 8) rfl)
theorem w4 {Z : State} {a0 : Array Value} (hw : ∀ d ∈ tables_1, d.before a0 Z = true) : (Jvm.Cond.methodLink "com/example/scriptsmith/scriptsmith/pack/TypeOrdersLoadPinLaw" (26 : Nat) ({ cls := "com/example/scriptsmith/scriptsmith/pack/Dependency$Type", name := "ordersLoad", desc := "()Z" } : Jvm.MethodName)).before a0 Z = true := hw _ (List.mem_of_getElem? (i := 4) rfl)
theorem w5 {Z : State} {a0 : Array Value} (hw : ∀ d ∈ tables_1, d.before a0 Z = true) : (Jvm.Cond.declares ({ cls := "com/example/scriptsmith/scriptsmith/pack/Dependency$Type", name := "ordersLoad", desc := "()Z" } : Jvm.MethodName)).before a0 Z = true := hw _ (List.mem_of_getElem? (i := 5) rfl)
theorem w6 {Z : State} {a0 : Array Value} (hw : ∀ d ∈ tables_1, d.before a0 Z = true) : (Jvm.Cond.instanceMethod ({ cls := "com/example/scriptsmith/scriptsmith/pack/Dependency$Type", name := "ordersLoad", desc := "()Z" } : Jvm.MethodName)).before a0 Z = true := hw _ (List.mem_of_getElem? (i := 6) rfl)
theorem w2 {Z : State} {a0 : Array Value} (hw : ∀ d ∈ tables_1, d.before a0 Z = true) : (Jvm.Cond.initialized "com/example/scriptsmith/scriptsmith/pack/Dependency$Type").before a0 Z = true := hw _ (List.mem_of_getElem? (i := 2) rfl)
theorem pd_0 : parseMethodDescriptor "()Z" = some ⟨[], some .boolean⟩ := by decide +kernel
theorem w16 {Z : State} {a0 : Array Value} (hw : ∀ d ∈ tables_1, d.before a0 Z = true) : (Jvm.Cond.fieldLink "com/example/scriptsmith/scriptsmith/pack/TypeOrdersLoadPinLaw" (14 : Nat) "com/example/scriptsmith/scriptsmith/pack/Dependency$Type" "OPTIONAL" "Lcom/example/scriptsmith/scriptsmith/pack/Dependency$Type;").before a0 Z = true := hw _ (List.mem_of_getElem? (i := 16) rfl)
theorem w19 {Z : State} {a0 : Array Value} (hw : ∀ d ∈ tables_1, d.before a0 Z = true) : (Jvm.Cond.fieldLink "com/example/scriptsmith/scriptsmith/pack/TypeOrdersLoadPinLaw" (17 : Nat) "com/example/scriptsmith/scriptsmith/pack/Dependency$Type" "RECOMMENDED" "Lcom/example/scriptsmith/scriptsmith/pack/Dependency$Type;").before a0 Z = true := hw _ (List.mem_of_getElem? (i := 19) rfl)
theorem w10 {Z : State} {a0 : Array Value} (hw : ∀ d ∈ tables_1, d.before a0 Z = true) : (Jvm.Cond.fieldLink "com/example/scriptsmith/scriptsmith/pack/TypeOrdersLoadPinLaw" (20 : Nat) "com/example/scriptsmith/scriptsmith/pack/Dependency$Type" "DISCOURAGED" "Lcom/example/scriptsmith/scriptsmith/pack/Dependency$Type;").before a0 Z = true := hw _ (List.mem_of_getElem? (i := 10) rfl)
theorem w17 {Z : State} {a0 : Array Value} (hw : ∀ d ∈ tables_1, d.before a0 Z = true) : (Jvm.Cond.fieldLink "com/example/scriptsmith/scriptsmith/pack/TypeOrdersLoadPinLaw" (23 : Nat) "com/example/scriptsmith/scriptsmith/pack/Dependency$Type" "INCOMPATIBLE" "Lcom/example/scriptsmith/scriptsmith/pack/Dependency$Type;").before a0 Z = true := hw _ (List.mem_of_getElem? (i := 17) rfl)
theorem pn_1 : plainName "com/example/scriptsmith/scriptsmith/pack/TypeOrdersLoadPinLaw" = true := by first | (simp [plainName, overriddenIn]; done) | decide +kernel
def Q_law0 (Z : State) (p0 : Int32) (wR : Addr) (wO : Addr) (wC : Addr) (wD : Addr) (wI : Addr) (h0 : Heap) (n0 : Nat) (v : Option Value) (h : Heap) (L : List Loc) : Prop := v = some (.int (1 : Int32)) ∧ Fr n0 L
set_option maxRecDepth 65536 in
set_option maxHeartbeats 40000000 in
theorem law0 (l : Launch) (Z : State) (a0 : Array Value) (hw : ∀ d ∈ tables_1, d.before a0 Z = true) (p0 : Int32) (wR : Addr) (wO : Addr) (wC : Addr) (wD : Addr) (wI : Addr) (h0 : Heap) (n0 : Nat) (Z0 : n0 ≤ h0.size) (O0 : Old Z n0 h0) (P0 : Sta Z Z.heap "com/example/scriptsmith/scriptsmith/pack/Dependency$Type" "REQUIRED" "Lcom/example/scriptsmith/scriptsmith/pack/Dependency$Type;" (.ref wR)) (P1 : Exa Z Z.heap wR "com/example/scriptsmith/scriptsmith/pack/Dependency$Type") (P2 : Sta Z Z.heap "com/example/scriptsmith/scriptsmith/pack/Dependency$Type" "OPTIONAL" "Lcom/example/scriptsmith/scriptsmith/pack/Dependency$Type;" (.ref wO)) (P3 : Exa Z Z.heap wO "com/example/scriptsmith/scriptsmith/pack/Dependency$Type") (P4 : Sta Z Z.heap "com/example/scriptsmith/scriptsmith/pack/Dependency$Type" "RECOMMENDED" "Lcom/example/scriptsmith/scriptsmith/pack/Dependency$Type;" (.ref wC)) (P5 : Exa Z Z.heap wC "com/example/scriptsmith/scriptsmith/pack/Dependency$Type") (P6 : Sta Z Z.heap "com/example/scriptsmith/scriptsmith/pack/Dependency$Type" "DISCOURAGED" "Lcom/example/scriptsmith/scriptsmith/pack/Dependency$Type;" (.ref wD)) (P7 : Exa Z Z.heap wD "com/example/scriptsmith/scriptsmith/pack/Dependency$Type") (P8 : Sta Z Z.heap "com/example/scriptsmith/scriptsmith/pack/Dependency$Type" "INCOMPATIBLE" "Lcom/example/scriptsmith/scriptsmith/pack/Dependency$Type;" (.ref wI)) (P9 : Exa Z Z.heap wI "com/example/scriptsmith/scriptsmith/pack/Dependency$Type") (P10 : wO ≠ wR) (P11 : wC ≠ wR) (P12 : wC ≠ wO) (P13 : wD ≠ wR) (P14 : wD ≠ wO) (P15 : wD ≠ wC) (P16 : wI ≠ wR) (P17 : wI ≠ wO) (P18 : wI ≠ wC) :
    Con l Z x code maxLocals ret room_1 #[(.int p0)] h0 (Q_law0 Z p0 wR wO wC wD wI h0 n0) := by
  refine OwnW.body (Ls := #[.val (.int p0), .unset, .unset, .unset]) (plainFor_of_name pn_1) (fun m => by first | (simp [entryFrame, mkF, argsToLocals, Value.category, maxLocals]; done) | rfl) ?_
  intro p e s m below meth c s₁ hx hby hml hown hnm hret hlk hZ X0 e0
  let QQ := Q_law0 Z p0 wR wO wC wD wI h0 n0
  have N0 := Fr.nil n0
  show Go p e below (s₁.setTop (mkF m 0 #[.val (.int p0), .unset, .unset, .unset] [])) (EndQ s below room_1.cells room_1.slots QQ)
  refine Go.on (Y' := s₁.setTop (mkF m 1 #[.val (.int p0), .unset, .unset, .unset] [(.int p0)])) (fun _ k => XS.iloadN X0.here hx rfl (hb hby at_0) rfl  k) ?_
  refine Go.on (Y' := s₁.setTop (mkF m 3 #[.val (.int p0), .unset, .unset, .unset] [(.int (2147483647 : Int32)), (.int p0)])) (X0.ldcInt hx hown (mvT hZ (w0 hw)) (g := (mkF m 1 #[.val (.int p0), .unset, .unset, .unset] [(.int p0)])) rfl (hb hby at_1)) ?_
  refine Go.on (Y' := s₁.setTop (mkF m 4 #[.val (.int p0), .unset, .unset, .unset] [(.int (p0 &&& (2147483647 : Int32)))])) (fun _ k => XS.iand X0.here hx rfl (hb hby at_3) rfl k) ?_
  refine Go.on (Y' := s₁.setTop (mkF m 5 #[.val (.int p0), .unset, .unset, .unset] [(.int (5 : Int32)), (.int (p0 &&& (2147483647 : Int32)))])) (fun _ k => XS.iconst X0.here hx rfl (hb hby at_4) k) ?_
  refine Go.on (Y' := s₁.setTop (mkF m 6 #[.val (.int p0), .unset, .unset, .unset] [(.int ((p0 &&& (2147483647 : Int32)) % (5 : Int32)))])) (fun _ k => iremM X0 hx rfl (hb hby at_5) rfl (by decide) k) ?_
  refine Go.on (Y' := s₁.setTop (mkF m 7 #[.val (.int p0), .val (.int ((p0 &&& (2147483647 : Int32)) % (5 : Int32))), .unset, .unset] [])) (fun _ k => XS.istoreN X0.here hx rfl (hb hby at_6) rfl (l' := #[.val (.int p0), .val (.int ((p0 &&& (2147483647 : Int32)) % (5 : Int32))), .unset, .unset]) rfl k) ?_
  refine Go.on (Y' := s₁.setTop (mkF m 8 #[.val (.int p0), .val (.int ((p0 &&& (2147483647 : Int32)) % (5 : Int32))), .unset, .unset] [(.int ((p0 &&& (2147483647 : Int32)) % (5 : Int32)))])) (fun _ k => XS.iloadN X0.here hx rfl (hb hby at_7) rfl  k) ?_
  by_cases hc8_1 : ((p0 &&& (2147483647 : Int32)) % (5 : Int32)) = (0 : Int32)
  · refine Go.on (Y' := s₁.setTop (mkF m 11 #[.val (.int p0), .val (.int ((p0 &&& (2147483647 : Int32)) % (5 : Int32))), .unset, .unset] [])) (fun _ k => XS.ifNo X0.here hx rfl (hb hby at_8) rfl ((if0 _ _).trans (teq hc8_1).2) k) ?_
    have s3 : Sta Z h0 "com/example/scriptsmith/scriptsmith/pack/Dependency$Type" "REQUIRED" "Lcom/example/scriptsmith/scriptsmith/pack/Dependency$Type;" (.ref wR) := Sta.ext O0.2 P0
    obtain ⟨T2, X2, e2, st2⟩ := getS2 X0 hx hZ hown (host := "") (Or.inl (w1 hw)) Via.refl e0 s3 (g := (mkF m 11 #[.val (.int p0), .val (.int ((p0 &&& (2147483647 : Int32)) % (5 : Int32))), .unset, .unset] [])) rfl (hb hby at_11)
    refine Go.on (Y' := T2.setTop (mkF m 14 #[.val (.int p0), .val (.int ((p0 &&& (2147483647 : Int32)) % (5 : Int32))), .unset, .unset] [(.ref wR)])) (st2) ?_
    refine Go.on (Y' := T2.setTop (mkF m 15 #[.val (.int p0), .val (.int ((p0 &&& (2147483647 : Int32)) % (5 : Int32))), .val (.ref wR), .unset] [])) (fun _ k => XS.astoreN X2.here hx rfl (hb hby at_14) rfl rfl (l' := #[.val (.int p0), .val (.int ((p0 &&& (2147483647 : Int32)) % (5 : Int32))), .val (.ref wR), .unset]) rfl k) ?_
    refine Go.on (Y' := T2.setTop (mkF m 16 #[.val (.int p0), .val (.int ((p0 &&& (2147483647 : Int32)) % (5 : Int32))), .val (.ref wR), .unset] [(.int (1 : Int32))])) (fun _ k => XS.iconst X2.here hx rfl (hb hby at_15) k) ?_
    refine Go.on (Y' := T2.setTop (mkF m 17 #[.val (.int p0), .val (.int ((p0 &&& (2147483647 : Int32)) % (5 : Int32))), .val (.ref wR), .val (.int (1 : Int32))] [])) (fun _ k => XS.istoreN X2.here hx rfl (hb hby at_16) rfl (l' := #[.val (.int p0), .val (.int ((p0 &&& (2147483647 : Int32)) % (5 : Int32))), .val (.ref wR), .val (.int (1 : Int32))]) rfl k) ?_
    refine Go.on (Y' := T2.setTop (mkF m 68 #[.val (.int p0), .val (.int ((p0 &&& (2147483647 : Int32)) % (5 : Int32))), .val (.ref wR), .val (.int (1 : Int32))] [])) (fun _ k => XS.goto X2.here hx rfl (pc0 := 17) (pc' := 68) rfl (hb hby at_17) (by decide) (by decide) k) ?_
    refine Go.on (Y' := T2.setTop (mkF m 69 #[.val (.int p0), .val (.int ((p0 &&& (2147483647 : Int32)) % (5 : Int32))), .val (.ref wR), .val (.int (1 : Int32))] [(.ref wR)])) (fun _ k => XS.aloadN X2.here hx rfl (hb hby at_68) rfl rfl k) ?_
    have s5 : Exa Z h0 wR "com/example/scriptsmith/scriptsmith/pack/Dependency$Type" := Exa.ext O0.2 P1
    obtain ⟨v4, T4, L4, X4, hQ4, st4⟩ := OwnW.callV (y := (⟨"com/example/scriptsmith/scriptsmith/pack/Dependency$Type", "ordersLoad", "()Z"⟩ : MethodName)) (z := (⟨"com/example/scriptsmith/scriptsmith/pack/Dependency$Type", "ordersLoad", "()Z"⟩ : MethodName)) X2 hx hZ hown (w4 hw) (w5 hw) (notFace_of_selects (args := #[]) (mvT hZ (w7 hw))) (w7 hw) (w6 hw) (w2 hw) (w8 hw) (by decide) (b := wR) (ord0 l Z a0 hw wR h0 n0 Z0 O0 P0) e2 s5 (Ls := #[.val (.int p0), .val (.int ((p0 &&& (2147483647 : Int32)) % (5 : Int32))), .val (.ref wR), .val (.int (1 : Int32))]) (by rw [hml]; rfl) pd_0 (argsL := []) rfl (rest := []) rfl (W := 0) rfl (hb hby at_69) (by decide) (by decide) (by decide) (by decide)
    obtain ⟨rfl, Nq4, eq4⟩ := hQ4
    have N4 := Fr.app N0 Nq4
    refine Go.on (Y' := T4.setTop (mkF m 72 #[.val (.int p0), .val (.int ((p0 &&& (2147483647 : Int32)) % (5 : Int32))), .val (.ref wR), .val (.int (1 : Int32))] [(.int (1 : Int32))])) (st4) ?_
    refine Go.on (Y' := T4.setTop (mkF m 73 #[.val (.int p0), .val (.int ((p0 &&& (2147483647 : Int32)) % (5 : Int32))), .val (.ref wR), .val (.int (1 : Int32))] [(.int (1 : Int32)), (.int (1 : Int32))])) (fun _ k => XS.iloadN X4.here hx rfl (hb hby at_72) rfl  k) ?_
    refine Go.on (Y' := T4.setTop (mkF m 76 #[.val (.int p0), .val (.int ((p0 &&& (2147483647 : Int32)) % (5 : Int32))), .val (.ref wR), .val (.int (1 : Int32))] [])) (fun _ k => XS.icmpNo X4.here hx rfl (hb hby at_73) rfl (teq (by decide : (1 : Int32) = (1 : Int32))).2 k) ?_
    refine Go.on (Y' := T4.setTop (mkF m 77 #[.val (.int p0), .val (.int ((p0 &&& (2147483647 : Int32)) % (5 : Int32))), .val (.ref wR), .val (.int (1 : Int32))] [(.int (1 : Int32))])) (fun _ k => XS.iconst X4.here hx rfl (hb hby at_76) k) ?_
    refine Go.on (Y' := T4.setTop (mkF m 81 #[.val (.int p0), .val (.int ((p0 &&& (2147483647 : Int32)) % (5 : Int32))), .val (.ref wR), .val (.int (1 : Int32))] [(.int (1 : Int32))])) (fun _ k => XS.goto X4.here hx rfl (pc0 := 77) (pc' := 81) rfl (hb hby at_77) (by decide) (by decide) k) ?_
    exact OwnW.retN X4 hx hlk hret (t := .boolean) (by simp) (hb hby at_81) (by decide) (by decide) rfl (show QQ _ T4.heap _ from (by rw [eq4]; exact ⟨rfl, N4⟩))
  · refine Go.on (Y' := s₁.setTop (mkF m 20 #[.val (.int p0), .val (.int ((p0 &&& (2147483647 : Int32)) % (5 : Int32))), .unset, .unset] [])) (fun _ k => XS.ifYes X0.here hx rfl (pc0 := 8) (pc' := 20) rfl (hb hby at_8) rfl ((if0 _ _).trans (feq hc8_1).2) (by decide) (by decide) k) ?_
    refine Go.on (Y' := s₁.setTop (mkF m 21 #[.val (.int p0), .val (.int ((p0 &&& (2147483647 : Int32)) % (5 : Int32))), .unset, .unset] [(.int ((p0 &&& (2147483647 : Int32)) % (5 : Int32)))])) (fun _ k => XS.iloadN X0.here hx rfl (hb hby at_20) rfl  k) ?_
    refine Go.on (Y' := s₁.setTop (mkF m 22 #[.val (.int p0), .val (.int ((p0 &&& (2147483647 : Int32)) % (5 : Int32))), .unset, .unset] [(.int (1 : Int32)), (.int ((p0 &&& (2147483647 : Int32)) % (5 : Int32)))])) (fun _ k => XS.iconst X0.here hx rfl (hb hby at_21) k) ?_
    by_cases hc22_6 : ((p0 &&& (2147483647 : Int32)) % (5 : Int32)) = (1 : Int32)
    · refine Go.on (Y' := s₁.setTop (mkF m 25 #[.val (.int p0), .val (.int ((p0 &&& (2147483647 : Int32)) % (5 : Int32))), .unset, .unset] [])) (fun _ k => XS.icmpNo X0.here hx rfl (hb hby at_22) rfl (teq hc22_6).2 k) ?_
      have s8 : Sta Z h0 "com/example/scriptsmith/scriptsmith/pack/Dependency$Type" "OPTIONAL" "Lcom/example/scriptsmith/scriptsmith/pack/Dependency$Type;" (.ref wO) := Sta.ext O0.2 P2
      obtain ⟨T7, X7, e7, st7⟩ := getS2 X0 hx hZ hown (host := "") (Or.inl (w16 hw)) Via.refl e0 s8 (g := (mkF m 25 #[.val (.int p0), .val (.int ((p0 &&& (2147483647 : Int32)) % (5 : Int32))), .unset, .unset] [])) rfl (hb hby at_25)
      refine Go.on (Y' := T7.setTop (mkF m 28 #[.val (.int p0), .val (.int ((p0 &&& (2147483647 : Int32)) % (5 : Int32))), .unset, .unset] [(.ref wO)])) (st7) ?_
      refine Go.on (Y' := T7.setTop (mkF m 29 #[.val (.int p0), .val (.int ((p0 &&& (2147483647 : Int32)) % (5 : Int32))), .val (.ref wO), .unset] [])) (fun _ k => XS.astoreN X7.here hx rfl (hb hby at_28) rfl rfl (l' := #[.val (.int p0), .val (.int ((p0 &&& (2147483647 : Int32)) % (5 : Int32))), .val (.ref wO), .unset]) rfl k) ?_
      refine Go.on (Y' := T7.setTop (mkF m 30 #[.val (.int p0), .val (.int ((p0 &&& (2147483647 : Int32)) % (5 : Int32))), .val (.ref wO), .unset] [(.int (1 : Int32))])) (fun _ k => XS.iconst X7.here hx rfl (hb hby at_29) k) ?_
      refine Go.on (Y' := T7.setTop (mkF m 31 #[.val (.int p0), .val (.int ((p0 &&& (2147483647 : Int32)) % (5 : Int32))), .val (.ref wO), .val (.int (1 : Int32))] [])) (fun _ k => XS.istoreN X7.here hx rfl (hb hby at_30) rfl (l' := #[.val (.int p0), .val (.int ((p0 &&& (2147483647 : Int32)) % (5 : Int32))), .val (.ref wO), .val (.int (1 : Int32))]) rfl k) ?_
      refine Go.on (Y' := T7.setTop (mkF m 68 #[.val (.int p0), .val (.int ((p0 &&& (2147483647 : Int32)) % (5 : Int32))), .val (.ref wO), .val (.int (1 : Int32))] [])) (fun _ k => XS.goto X7.here hx rfl (pc0 := 31) (pc' := 68) rfl (hb hby at_31) (by decide) (by decide) k) ?_
      refine Go.on (Y' := T7.setTop (mkF m 69 #[.val (.int p0), .val (.int ((p0 &&& (2147483647 : Int32)) % (5 : Int32))), .val (.ref wO), .val (.int (1 : Int32))] [(.ref wO)])) (fun _ k => XS.aloadN X7.here hx rfl (hb hby at_68) rfl rfl k) ?_
      have s10 : Exa Z h0 wO "com/example/scriptsmith/scriptsmith/pack/Dependency$Type" := Exa.ext O0.2 P3
      obtain ⟨v9, T9, L9, X9, hQ9, st9⟩ := OwnW.callV (y := (⟨"com/example/scriptsmith/scriptsmith/pack/Dependency$Type", "ordersLoad", "()Z"⟩ : MethodName)) (z := (⟨"com/example/scriptsmith/scriptsmith/pack/Dependency$Type", "ordersLoad", "()Z"⟩ : MethodName)) X7 hx hZ hown (w4 hw) (w5 hw) (notFace_of_selects (args := #[]) (mvT hZ (w7 hw))) (w7 hw) (w6 hw) (w2 hw) (w8 hw) (by decide) (b := wO) (ord1 l Z a0 hw wO wR h0 n0 Z0 O0 P0 P10 P2) e7 s10 (Ls := #[.val (.int p0), .val (.int ((p0 &&& (2147483647 : Int32)) % (5 : Int32))), .val (.ref wO), .val (.int (1 : Int32))]) (by rw [hml]; rfl) pd_0 (argsL := []) rfl (rest := []) rfl (W := 0) rfl (hb hby at_69) (by decide) (by decide) (by decide) (by decide)
      obtain ⟨rfl, Nq9, eq9⟩ := hQ9
      have N9 := Fr.app N0 Nq9
      refine Go.on (Y' := T9.setTop (mkF m 72 #[.val (.int p0), .val (.int ((p0 &&& (2147483647 : Int32)) % (5 : Int32))), .val (.ref wO), .val (.int (1 : Int32))] [(.int (1 : Int32))])) (st9) ?_
      refine Go.on (Y' := T9.setTop (mkF m 73 #[.val (.int p0), .val (.int ((p0 &&& (2147483647 : Int32)) % (5 : Int32))), .val (.ref wO), .val (.int (1 : Int32))] [(.int (1 : Int32)), (.int (1 : Int32))])) (fun _ k => XS.iloadN X9.here hx rfl (hb hby at_72) rfl  k) ?_
      refine Go.on (Y' := T9.setTop (mkF m 76 #[.val (.int p0), .val (.int ((p0 &&& (2147483647 : Int32)) % (5 : Int32))), .val (.ref wO), .val (.int (1 : Int32))] [])) (fun _ k => XS.icmpNo X9.here hx rfl (hb hby at_73) rfl (teq (by decide : (1 : Int32) = (1 : Int32))).2 k) ?_
      refine Go.on (Y' := T9.setTop (mkF m 77 #[.val (.int p0), .val (.int ((p0 &&& (2147483647 : Int32)) % (5 : Int32))), .val (.ref wO), .val (.int (1 : Int32))] [(.int (1 : Int32))])) (fun _ k => XS.iconst X9.here hx rfl (hb hby at_76) k) ?_
      refine Go.on (Y' := T9.setTop (mkF m 81 #[.val (.int p0), .val (.int ((p0 &&& (2147483647 : Int32)) % (5 : Int32))), .val (.ref wO), .val (.int (1 : Int32))] [(.int (1 : Int32))])) (fun _ k => XS.goto X9.here hx rfl (pc0 := 77) (pc' := 81) rfl (hb hby at_77) (by decide) (by decide) k) ?_
      exact OwnW.retN X9 hx hlk hret (t := .boolean) (by simp) (hb hby at_81) (by decide) (by decide) rfl (show QQ _ T9.heap _ from (by rw [eq9]; exact ⟨rfl, N9⟩))
    · refine Go.on (Y' := s₁.setTop (mkF m 34 #[.val (.int p0), .val (.int ((p0 &&& (2147483647 : Int32)) % (5 : Int32))), .unset, .unset] [])) (fun _ k => XS.icmpYes X0.here hx rfl (pc0 := 22) (pc' := 34) rfl (hb hby at_22) rfl (feq hc22_6).2 (by decide) (by decide) k) ?_
      refine Go.on (Y' := s₁.setTop (mkF m 35 #[.val (.int p0), .val (.int ((p0 &&& (2147483647 : Int32)) % (5 : Int32))), .unset, .unset] [(.int ((p0 &&& (2147483647 : Int32)) % (5 : Int32)))])) (fun _ k => XS.iloadN X0.here hx rfl (hb hby at_34) rfl  k) ?_
      refine Go.on (Y' := s₁.setTop (mkF m 36 #[.val (.int p0), .val (.int ((p0 &&& (2147483647 : Int32)) % (5 : Int32))), .unset, .unset] [(.int (2 : Int32)), (.int ((p0 &&& (2147483647 : Int32)) % (5 : Int32)))])) (fun _ k => XS.iconst X0.here hx rfl (hb hby at_35) k) ?_
      by_cases hc36_11 : ((p0 &&& (2147483647 : Int32)) % (5 : Int32)) = (2 : Int32)
      · refine Go.on (Y' := s₁.setTop (mkF m 39 #[.val (.int p0), .val (.int ((p0 &&& (2147483647 : Int32)) % (5 : Int32))), .unset, .unset] [])) (fun _ k => XS.icmpNo X0.here hx rfl (hb hby at_36) rfl (teq hc36_11).2 k) ?_
        have s13 : Sta Z h0 "com/example/scriptsmith/scriptsmith/pack/Dependency$Type" "RECOMMENDED" "Lcom/example/scriptsmith/scriptsmith/pack/Dependency$Type;" (.ref wC) := Sta.ext O0.2 P4
        obtain ⟨T12, X12, e12, st12⟩ := getS2 X0 hx hZ hown (host := "") (Or.inl (w19 hw)) Via.refl e0 s13 (g := (mkF m 39 #[.val (.int p0), .val (.int ((p0 &&& (2147483647 : Int32)) % (5 : Int32))), .unset, .unset] [])) rfl (hb hby at_39)
        refine Go.on (Y' := T12.setTop (mkF m 42 #[.val (.int p0), .val (.int ((p0 &&& (2147483647 : Int32)) % (5 : Int32))), .unset, .unset] [(.ref wC)])) (st12) ?_
        refine Go.on (Y' := T12.setTop (mkF m 43 #[.val (.int p0), .val (.int ((p0 &&& (2147483647 : Int32)) % (5 : Int32))), .val (.ref wC), .unset] [])) (fun _ k => XS.astoreN X12.here hx rfl (hb hby at_42) rfl rfl (l' := #[.val (.int p0), .val (.int ((p0 &&& (2147483647 : Int32)) % (5 : Int32))), .val (.ref wC), .unset]) rfl k) ?_
        refine Go.on (Y' := T12.setTop (mkF m 44 #[.val (.int p0), .val (.int ((p0 &&& (2147483647 : Int32)) % (5 : Int32))), .val (.ref wC), .unset] [(.int (1 : Int32))])) (fun _ k => XS.iconst X12.here hx rfl (hb hby at_43) k) ?_
        refine Go.on (Y' := T12.setTop (mkF m 45 #[.val (.int p0), .val (.int ((p0 &&& (2147483647 : Int32)) % (5 : Int32))), .val (.ref wC), .val (.int (1 : Int32))] [])) (fun _ k => XS.istoreN X12.here hx rfl (hb hby at_44) rfl (l' := #[.val (.int p0), .val (.int ((p0 &&& (2147483647 : Int32)) % (5 : Int32))), .val (.ref wC), .val (.int (1 : Int32))]) rfl k) ?_
        refine Go.on (Y' := T12.setTop (mkF m 68 #[.val (.int p0), .val (.int ((p0 &&& (2147483647 : Int32)) % (5 : Int32))), .val (.ref wC), .val (.int (1 : Int32))] [])) (fun _ k => XS.goto X12.here hx rfl (pc0 := 45) (pc' := 68) rfl (hb hby at_45) (by decide) (by decide) k) ?_
        refine Go.on (Y' := T12.setTop (mkF m 69 #[.val (.int p0), .val (.int ((p0 &&& (2147483647 : Int32)) % (5 : Int32))), .val (.ref wC), .val (.int (1 : Int32))] [(.ref wC)])) (fun _ k => XS.aloadN X12.here hx rfl (hb hby at_68) rfl rfl k) ?_
        have s15 : Exa Z h0 wC "com/example/scriptsmith/scriptsmith/pack/Dependency$Type" := Exa.ext O0.2 P5
        obtain ⟨v14, T14, L14, X14, hQ14, st14⟩ := OwnW.callV (y := (⟨"com/example/scriptsmith/scriptsmith/pack/Dependency$Type", "ordersLoad", "()Z"⟩ : MethodName)) (z := (⟨"com/example/scriptsmith/scriptsmith/pack/Dependency$Type", "ordersLoad", "()Z"⟩ : MethodName)) X12 hx hZ hown (w4 hw) (w5 hw) (notFace_of_selects (args := #[]) (mvT hZ (w7 hw))) (w7 hw) (w6 hw) (w2 hw) (w8 hw) (by decide) (b := wC) (ord2 l Z a0 hw wC wR wO h0 n0 Z0 O0 P0 P11 P2 P12 P4) e12 s15 (Ls := #[.val (.int p0), .val (.int ((p0 &&& (2147483647 : Int32)) % (5 : Int32))), .val (.ref wC), .val (.int (1 : Int32))]) (by rw [hml]; rfl) pd_0 (argsL := []) rfl (rest := []) rfl (W := 0) rfl (hb hby at_69) (by decide) (by decide) (by decide) (by decide)
        obtain ⟨rfl, Nq14, eq14⟩ := hQ14
        have N14 := Fr.app N0 Nq14
        refine Go.on (Y' := T14.setTop (mkF m 72 #[.val (.int p0), .val (.int ((p0 &&& (2147483647 : Int32)) % (5 : Int32))), .val (.ref wC), .val (.int (1 : Int32))] [(.int (1 : Int32))])) (st14) ?_
        refine Go.on (Y' := T14.setTop (mkF m 73 #[.val (.int p0), .val (.int ((p0 &&& (2147483647 : Int32)) % (5 : Int32))), .val (.ref wC), .val (.int (1 : Int32))] [(.int (1 : Int32)), (.int (1 : Int32))])) (fun _ k => XS.iloadN X14.here hx rfl (hb hby at_72) rfl  k) ?_
        refine Go.on (Y' := T14.setTop (mkF m 76 #[.val (.int p0), .val (.int ((p0 &&& (2147483647 : Int32)) % (5 : Int32))), .val (.ref wC), .val (.int (1 : Int32))] [])) (fun _ k => XS.icmpNo X14.here hx rfl (hb hby at_73) rfl (teq (by decide : (1 : Int32) = (1 : Int32))).2 k) ?_
        refine Go.on (Y' := T14.setTop (mkF m 77 #[.val (.int p0), .val (.int ((p0 &&& (2147483647 : Int32)) % (5 : Int32))), .val (.ref wC), .val (.int (1 : Int32))] [(.int (1 : Int32))])) (fun _ k => XS.iconst X14.here hx rfl (hb hby at_76) k) ?_
        refine Go.on (Y' := T14.setTop (mkF m 81 #[.val (.int p0), .val (.int ((p0 &&& (2147483647 : Int32)) % (5 : Int32))), .val (.ref wC), .val (.int (1 : Int32))] [(.int (1 : Int32))])) (fun _ k => XS.goto X14.here hx rfl (pc0 := 77) (pc' := 81) rfl (hb hby at_77) (by decide) (by decide) k) ?_
        exact OwnW.retN X14 hx hlk hret (t := .boolean) (by simp) (hb hby at_81) (by decide) (by decide) rfl (show QQ _ T14.heap _ from (by rw [eq14]; exact ⟨rfl, N14⟩))
      · refine Go.on (Y' := s₁.setTop (mkF m 48 #[.val (.int p0), .val (.int ((p0 &&& (2147483647 : Int32)) % (5 : Int32))), .unset, .unset] [])) (fun _ k => XS.icmpYes X0.here hx rfl (pc0 := 36) (pc' := 48) rfl (hb hby at_36) rfl (feq hc36_11).2 (by decide) (by decide) k) ?_
        refine Go.on (Y' := s₁.setTop (mkF m 49 #[.val (.int p0), .val (.int ((p0 &&& (2147483647 : Int32)) % (5 : Int32))), .unset, .unset] [(.int ((p0 &&& (2147483647 : Int32)) % (5 : Int32)))])) (fun _ k => XS.iloadN X0.here hx rfl (hb hby at_48) rfl  k) ?_
        refine Go.on (Y' := s₁.setTop (mkF m 50 #[.val (.int p0), .val (.int ((p0 &&& (2147483647 : Int32)) % (5 : Int32))), .unset, .unset] [(.int (3 : Int32)), (.int ((p0 &&& (2147483647 : Int32)) % (5 : Int32)))])) (fun _ k => XS.iconst X0.here hx rfl (hb hby at_49) k) ?_
        by_cases hc50_16 : ((p0 &&& (2147483647 : Int32)) % (5 : Int32)) = (3 : Int32)
        · refine Go.on (Y' := s₁.setTop (mkF m 53 #[.val (.int p0), .val (.int ((p0 &&& (2147483647 : Int32)) % (5 : Int32))), .unset, .unset] [])) (fun _ k => XS.icmpNo X0.here hx rfl (hb hby at_50) rfl (teq hc50_16).2 k) ?_
          have s18 : Sta Z h0 "com/example/scriptsmith/scriptsmith/pack/Dependency$Type" "DISCOURAGED" "Lcom/example/scriptsmith/scriptsmith/pack/Dependency$Type;" (.ref wD) := Sta.ext O0.2 P6
          obtain ⟨T17, X17, e17, st17⟩ := getS2 X0 hx hZ hown (host := "") (Or.inl (w10 hw)) Via.refl e0 s18 (g := (mkF m 53 #[.val (.int p0), .val (.int ((p0 &&& (2147483647 : Int32)) % (5 : Int32))), .unset, .unset] [])) rfl (hb hby at_53)
          refine Go.on (Y' := T17.setTop (mkF m 56 #[.val (.int p0), .val (.int ((p0 &&& (2147483647 : Int32)) % (5 : Int32))), .unset, .unset] [(.ref wD)])) (st17) ?_
          refine Go.on (Y' := T17.setTop (mkF m 57 #[.val (.int p0), .val (.int ((p0 &&& (2147483647 : Int32)) % (5 : Int32))), .val (.ref wD), .unset] [])) (fun _ k => XS.astoreN X17.here hx rfl (hb hby at_56) rfl rfl (l' := #[.val (.int p0), .val (.int ((p0 &&& (2147483647 : Int32)) % (5 : Int32))), .val (.ref wD), .unset]) rfl k) ?_
          refine Go.on (Y' := T17.setTop (mkF m 58 #[.val (.int p0), .val (.int ((p0 &&& (2147483647 : Int32)) % (5 : Int32))), .val (.ref wD), .unset] [(.int (0 : Int32))])) (fun _ k => XS.iconst X17.here hx rfl (hb hby at_57) k) ?_
          refine Go.on (Y' := T17.setTop (mkF m 59 #[.val (.int p0), .val (.int ((p0 &&& (2147483647 : Int32)) % (5 : Int32))), .val (.ref wD), .val (.int (0 : Int32))] [])) (fun _ k => XS.istoreN X17.here hx rfl (hb hby at_58) rfl (l' := #[.val (.int p0), .val (.int ((p0 &&& (2147483647 : Int32)) % (5 : Int32))), .val (.ref wD), .val (.int (0 : Int32))]) rfl k) ?_
          refine Go.on (Y' := T17.setTop (mkF m 68 #[.val (.int p0), .val (.int ((p0 &&& (2147483647 : Int32)) % (5 : Int32))), .val (.ref wD), .val (.int (0 : Int32))] [])) (fun _ k => XS.goto X17.here hx rfl (pc0 := 59) (pc' := 68) rfl (hb hby at_59) (by decide) (by decide) k) ?_
          refine Go.on (Y' := T17.setTop (mkF m 69 #[.val (.int p0), .val (.int ((p0 &&& (2147483647 : Int32)) % (5 : Int32))), .val (.ref wD), .val (.int (0 : Int32))] [(.ref wD)])) (fun _ k => XS.aloadN X17.here hx rfl (hb hby at_68) rfl rfl k) ?_
          have s20 : Exa Z h0 wD "com/example/scriptsmith/scriptsmith/pack/Dependency$Type" := Exa.ext O0.2 P7
          obtain ⟨v19, T19, L19, X19, hQ19, st19⟩ := OwnW.callV (y := (⟨"com/example/scriptsmith/scriptsmith/pack/Dependency$Type", "ordersLoad", "()Z"⟩ : MethodName)) (z := (⟨"com/example/scriptsmith/scriptsmith/pack/Dependency$Type", "ordersLoad", "()Z"⟩ : MethodName)) X17 hx hZ hown (w4 hw) (w5 hw) (notFace_of_selects (args := #[]) (mvT hZ (w7 hw))) (w7 hw) (w6 hw) (w2 hw) (w8 hw) (by decide) (b := wD) (ord3 l Z a0 hw wD wR wO wC h0 n0 Z0 O0 P0 P13 P2 P14 P4 P15) e17 s20 (Ls := #[.val (.int p0), .val (.int ((p0 &&& (2147483647 : Int32)) % (5 : Int32))), .val (.ref wD), .val (.int (0 : Int32))]) (by rw [hml]; rfl) pd_0 (argsL := []) rfl (rest := []) rfl (W := 0) rfl (hb hby at_69) (by decide) (by decide) (by decide) (by decide)
          obtain ⟨rfl, Nq19, eq19⟩ := hQ19
          have N19 := Fr.app N0 Nq19
          refine Go.on (Y' := T19.setTop (mkF m 72 #[.val (.int p0), .val (.int ((p0 &&& (2147483647 : Int32)) % (5 : Int32))), .val (.ref wD), .val (.int (0 : Int32))] [(.int (0 : Int32))])) (st19) ?_
          refine Go.on (Y' := T19.setTop (mkF m 73 #[.val (.int p0), .val (.int ((p0 &&& (2147483647 : Int32)) % (5 : Int32))), .val (.ref wD), .val (.int (0 : Int32))] [(.int (0 : Int32)), (.int (0 : Int32))])) (fun _ k => XS.iloadN X19.here hx rfl (hb hby at_72) rfl  k) ?_
          refine Go.on (Y' := T19.setTop (mkF m 76 #[.val (.int p0), .val (.int ((p0 &&& (2147483647 : Int32)) % (5 : Int32))), .val (.ref wD), .val (.int (0 : Int32))] [])) (fun _ k => XS.icmpNo X19.here hx rfl (hb hby at_73) rfl (teq (by decide : (0 : Int32) = (0 : Int32))).2 k) ?_
          refine Go.on (Y' := T19.setTop (mkF m 77 #[.val (.int p0), .val (.int ((p0 &&& (2147483647 : Int32)) % (5 : Int32))), .val (.ref wD), .val (.int (0 : Int32))] [(.int (1 : Int32))])) (fun _ k => XS.iconst X19.here hx rfl (hb hby at_76) k) ?_
          refine Go.on (Y' := T19.setTop (mkF m 81 #[.val (.int p0), .val (.int ((p0 &&& (2147483647 : Int32)) % (5 : Int32))), .val (.ref wD), .val (.int (0 : Int32))] [(.int (1 : Int32))])) (fun _ k => XS.goto X19.here hx rfl (pc0 := 77) (pc' := 81) rfl (hb hby at_77) (by decide) (by decide) k) ?_
          exact OwnW.retN X19 hx hlk hret (t := .boolean) (by simp) (hb hby at_81) (by decide) (by decide) rfl (show QQ _ T19.heap _ from (by rw [eq19]; exact ⟨rfl, N19⟩))
        · refine Go.on (Y' := s₁.setTop (mkF m 62 #[.val (.int p0), .val (.int ((p0 &&& (2147483647 : Int32)) % (5 : Int32))), .unset, .unset] [])) (fun _ k => XS.icmpYes X0.here hx rfl (pc0 := 50) (pc' := 62) rfl (hb hby at_50) rfl (feq hc50_16).2 (by decide) (by decide) k) ?_
          have s22 : Sta Z h0 "com/example/scriptsmith/scriptsmith/pack/Dependency$Type" "INCOMPATIBLE" "Lcom/example/scriptsmith/scriptsmith/pack/Dependency$Type;" (.ref wI) := Sta.ext O0.2 P8
          obtain ⟨T21, X21, e21, st21⟩ := getS2 X0 hx hZ hown (host := "") (Or.inl (w17 hw)) Via.refl e0 s22 (g := (mkF m 62 #[.val (.int p0), .val (.int ((p0 &&& (2147483647 : Int32)) % (5 : Int32))), .unset, .unset] [])) rfl (hb hby at_62)
          refine Go.on (Y' := T21.setTop (mkF m 65 #[.val (.int p0), .val (.int ((p0 &&& (2147483647 : Int32)) % (5 : Int32))), .unset, .unset] [(.ref wI)])) (st21) ?_
          refine Go.on (Y' := T21.setTop (mkF m 66 #[.val (.int p0), .val (.int ((p0 &&& (2147483647 : Int32)) % (5 : Int32))), .val (.ref wI), .unset] [])) (fun _ k => XS.astoreN X21.here hx rfl (hb hby at_65) rfl rfl (l' := #[.val (.int p0), .val (.int ((p0 &&& (2147483647 : Int32)) % (5 : Int32))), .val (.ref wI), .unset]) rfl k) ?_
          refine Go.on (Y' := T21.setTop (mkF m 67 #[.val (.int p0), .val (.int ((p0 &&& (2147483647 : Int32)) % (5 : Int32))), .val (.ref wI), .unset] [(.int (0 : Int32))])) (fun _ k => XS.iconst X21.here hx rfl (hb hby at_66) k) ?_
          refine Go.on (Y' := T21.setTop (mkF m 68 #[.val (.int p0), .val (.int ((p0 &&& (2147483647 : Int32)) % (5 : Int32))), .val (.ref wI), .val (.int (0 : Int32))] [])) (fun _ k => XS.istoreN X21.here hx rfl (hb hby at_67) rfl (l' := #[.val (.int p0), .val (.int ((p0 &&& (2147483647 : Int32)) % (5 : Int32))), .val (.ref wI), .val (.int (0 : Int32))]) rfl k) ?_
          refine Go.on (Y' := T21.setTop (mkF m 69 #[.val (.int p0), .val (.int ((p0 &&& (2147483647 : Int32)) % (5 : Int32))), .val (.ref wI), .val (.int (0 : Int32))] [(.ref wI)])) (fun _ k => XS.aloadN X21.here hx rfl (hb hby at_68) rfl rfl k) ?_
          have s24 : Exa Z h0 wI "com/example/scriptsmith/scriptsmith/pack/Dependency$Type" := Exa.ext O0.2 P9
          obtain ⟨v23, T23, L23, X23, hQ23, st23⟩ := OwnW.callV (y := (⟨"com/example/scriptsmith/scriptsmith/pack/Dependency$Type", "ordersLoad", "()Z"⟩ : MethodName)) (z := (⟨"com/example/scriptsmith/scriptsmith/pack/Dependency$Type", "ordersLoad", "()Z"⟩ : MethodName)) X21 hx hZ hown (w4 hw) (w5 hw) (notFace_of_selects (args := #[]) (mvT hZ (w7 hw))) (w7 hw) (w6 hw) (w2 hw) (w8 hw) (by decide) (b := wI) (ord3 l Z a0 hw wI wR wO wC h0 n0 Z0 O0 P0 P16 P2 P17 P4 P18) e21 s24 (Ls := #[.val (.int p0), .val (.int ((p0 &&& (2147483647 : Int32)) % (5 : Int32))), .val (.ref wI), .val (.int (0 : Int32))]) (by rw [hml]; rfl) pd_0 (argsL := []) rfl (rest := []) rfl (W := 0) rfl (hb hby at_69) (by decide) (by decide) (by decide) (by decide)
          obtain ⟨rfl, Nq23, eq23⟩ := hQ23
          have N23 := Fr.app N0 Nq23
          refine Go.on (Y' := T23.setTop (mkF m 72 #[.val (.int p0), .val (.int ((p0 &&& (2147483647 : Int32)) % (5 : Int32))), .val (.ref wI), .val (.int (0 : Int32))] [(.int (0 : Int32))])) (st23) ?_
          refine Go.on (Y' := T23.setTop (mkF m 73 #[.val (.int p0), .val (.int ((p0 &&& (2147483647 : Int32)) % (5 : Int32))), .val (.ref wI), .val (.int (0 : Int32))] [(.int (0 : Int32)), (.int (0 : Int32))])) (fun _ k => XS.iloadN X23.here hx rfl (hb hby at_72) rfl  k) ?_
          refine Go.on (Y' := T23.setTop (mkF m 76 #[.val (.int p0), .val (.int ((p0 &&& (2147483647 : Int32)) % (5 : Int32))), .val (.ref wI), .val (.int (0 : Int32))] [])) (fun _ k => XS.icmpNo X23.here hx rfl (hb hby at_73) rfl (teq (by decide : (0 : Int32) = (0 : Int32))).2 k) ?_
          refine Go.on (Y' := T23.setTop (mkF m 77 #[.val (.int p0), .val (.int ((p0 &&& (2147483647 : Int32)) % (5 : Int32))), .val (.ref wI), .val (.int (0 : Int32))] [(.int (1 : Int32))])) (fun _ k => XS.iconst X23.here hx rfl (hb hby at_76) k) ?_
          refine Go.on (Y' := T23.setTop (mkF m 81 #[.val (.int p0), .val (.int ((p0 &&& (2147483647 : Int32)) % (5 : Int32))), .val (.ref wI), .val (.int (0 : Int32))] [(.int (1 : Int32))])) (fun _ k => XS.goto X23.here hx rfl (pc0 := 77) (pc' := 81) rfl (hb hby at_77) (by decide) (by decide) k) ?_
          exact OwnW.retN X23 hx hlk hret (t := .boolean) (by simp) (hb hby at_81) (by decide) (by decide) rfl (show QQ _ T23.heap _ from (by rw [eq23]; exact ⟨rfl, N23⟩))
theorem w3 {Z : State} {a0 : Array Value} (hw : ∀ d ∈ tables_1, d.before a0 Z = true) : (Jvm.Cond.laysStatic "com/example/scriptsmith/scriptsmith/pack/Dependency$Type" "REQUIRED" "Lcom/example/scriptsmith/scriptsmith/pack/Dependency$Type;").before a0 Z = true := hw _ (List.mem_of_getElem? (i := 3) rfl)
theorem w13 {Z : State} {a0 : Array Value} (hw : ∀ d ∈ tables_1, d.before a0 Z = true) : (Jvm.Cond.laysStatic "com/example/scriptsmith/scriptsmith/pack/Dependency$Type" "OPTIONAL" "Lcom/example/scriptsmith/scriptsmith/pack/Dependency$Type;").before a0 Z = true := hw _ (List.mem_of_getElem? (i := 13) rfl)
theorem w15 {Z : State} {a0 : Array Value} (hw : ∀ d ∈ tables_1, d.before a0 Z = true) : (Jvm.Cond.laysStatic "com/example/scriptsmith/scriptsmith/pack/Dependency$Type" "RECOMMENDED" "Lcom/example/scriptsmith/scriptsmith/pack/Dependency$Type;").before a0 Z = true := hw _ (List.mem_of_getElem? (i := 15) rfl)
theorem w11 {Z : State} {a0 : Array Value} (hw : ∀ d ∈ tables_1, d.before a0 Z = true) : (Jvm.Cond.laysStatic "com/example/scriptsmith/scriptsmith/pack/Dependency$Type" "DISCOURAGED" "Lcom/example/scriptsmith/scriptsmith/pack/Dependency$Type;").before a0 Z = true := hw _ (List.mem_of_getElem? (i := 11) rfl)
theorem w18 {Z : State} {a0 : Array Value} (hw : ∀ d ∈ tables_1, d.before a0 Z = true) : (Jvm.Cond.laysStatic "com/example/scriptsmith/scriptsmith/pack/Dependency$Type" "INCOMPATIBLE" "Lcom/example/scriptsmith/scriptsmith/pack/Dependency$Type;").before a0 Z = true := hw _ (List.mem_of_getElem? (i := 18) rfl)
set_option maxRecDepth 65536 in
set_option maxHeartbeats 40000000 in
theorem comes_1 {Post : Tables → Env → Array Value → State → Outcome → State → Prop} (hpost : ∀ tb e args s v u, (limb_1_1.after args s (.returned v) u = true ∧ limb_1_2.after args s (.returned v) u = true ∧ True) → FrameEnd s (.returned v) u (Jvm.fieldLocs frame_1_writes args s ++ Jvm.arrayLocs frame_1_arrays args s ++ Jvm.staticLocs frame_1_statics s) 0 0 → Post tb e args s (.returned v) u) :
    ArmFor flags0 classFile x code maxLocals ret World_1 tables_1 room_1 Calls_1 rest_1 Pre_1 Post := by
  intro l hfl _ _ p e ha hc hk s m args below hf hA hF happ hP
  obtain ⟨hcalls, hrest, hpre⟩ := hP
  obtain ⟨-, -, -, hnamed, -, -, -, hat⟩ := (Spec.applies_iff hf).mp happ
  obtain ⟨hg, hn⟩ := and_e (Cond.before_iff.mp (show (Jvm.Cond.and given_1 narrow_1).before args s = true from hpre))
  obtain ⟨g1, g2⟩ := and_e hg
  obtain ⟨g3, g4⟩ := and_e hn
  obtain ⟨g5, g6⟩ := and_e g4
  obtain ⟨g7, g8⟩ := and_e g6
  obtain ⟨g9, g10⟩ := and_e g8
  obtain ⟨g11, g12⟩ := and_e g10
  obtain ⟨g13, g14⟩ := and_e g12
  obtain ⟨g15, g16⟩ := and_e g14
  obtain ⟨g17, g18⟩ := and_e g16
  obtain ⟨g19, g20⟩ := and_e g18
  obtain ⟨w0_, rfl⟩ : ∃ w0_ : Value, args = #[w0_] := by
    have hs : args.size = 1 := by simpa [Cond.value, given_1] using g1
    obtain ⟨L⟩ := args
    match L, hs with
    | [w0_], _ => exact ⟨w0_, rfl⟩
  have hw := fun d (hd : d ∈ tables_1) => atoms_spec (ws := Jvm.Cond.code x code maxLocals ret :: tables_1) hat d (List.mem_cons_of_mem _ hd)
  have hfit : Fit s := fun {y c} hc i hi => by
    obtain ⟨ha, rfl⟩ := Array.getElem?_eq_some_iff.mp hc
    have q := List.all_eq_true.mp ((Array.all_eq_true_iff_forall_mem.mp hF) _ (Array.getElem_mem ha)) i (List.mem_range.mpr hi)
    simpa [Array.getElem?_eq_getElem hi] using q
  obtain ⟨i0_, ei0_⟩ := is_v g2
  obtain rfl : w0_ = (.int i0_) := Option.some.inj ei0_
  obtain ⟨wR, ev_wR⟩ := exa_v g3
  have E_wR := Exa.start ev_wR g3
  have S_wR := Sta.start ev_wR (Or.inr ⟨(w2 hw), (w3 hw)⟩)
  have F_wR := Fld.start ((fld_at ev_wR).symm.trans (eq_int_v g9))
  obtain ⟨wO, ev_wO⟩ := exa_v g11
  have E_wO := Exa.start ev_wO g11
  have S_wO := Sta.start ev_wO (Or.inr ⟨(w2 hw), (w13 hw)⟩)
  have F_wO := Fld.start ((fld_at ev_wO).symm.trans (eq_int_v g13))
  obtain ⟨wC, ev_wC⟩ := exa_v g15
  have E_wC := Exa.start ev_wC g15
  have S_wC := Sta.start ev_wC (Or.inr ⟨(w2 hw), (w15 hw)⟩)
  have F_wC := Fld.start ((fld_at ev_wC).symm.trans (eq_int_v g17))
  obtain ⟨wD, ev_wD⟩ := exa_v g5
  have E_wD := Exa.start ev_wD g5
  have S_wD := Sta.start ev_wD (Or.inr ⟨(w2 hw), (w11 hw)⟩)
  have F_wD := Fld.start ((fld_at ev_wD).symm.trans (eq_int_v g7))
  obtain ⟨wI, ev_wI⟩ := exa_v g19
  have E_wI := Exa.start ev_wI g19
  have S_wI := Sta.start ev_wI (Or.inr ⟨(w2 hw), (w18 hw)⟩)
  have F_wI := Fld.start ((fld_at ev_wI).symm.trans (eq_int_v g20))
  obtain ⟨n, o, h1, h2, h3, _, L, rfl, ⟨rfl, N⟩, hq⟩ := law0 l s _ hw i0_ wR wO wC wD wI s.heap s.heap.size (Nat.le_refl _) (Old.start s) S_wR E_wR S_wO E_wO S_wC E_wC S_wD E_wD S_wI E_wI (Fld.ne F_wO F_wR (by decide)) (Fld.ne F_wC F_wR (by decide)) (Fld.ne F_wC F_wO (by decide)) (Fld.ne F_wD F_wR (by decide)) (Fld.ne F_wD F_wO (by decide)) (Fld.ne F_wD F_wC (by decide)) (Fld.ne F_wI F_wR (by decide)) (Fld.ne F_wI F_wO (by decide)) (Fld.ne F_wI F_wC (by decide)) tables_1 p e ha hc hk s m _ below hf ((Spec.applies_iff_loose hf).mp happ).1 ⟨rfl, State.Warmed39.refl s, rfl⟩ trivial
  refine ⟨n, _, h1, h2, h3, hpost _ _ _ _ _ _ ⟨Cond.after_iff.mpr rfl, Cond.after_iff.mpr (eq_i res_at (Term.int_eval (1)) rfl), trivial⟩ ⟨hq.1, hq.2.1, (hq.2.2.sift fun y hy => Or.inr (N y hy)).mono (by decide) (by decide)⟩⟩
theorem main_1_1 : Claimed_1_1 := comes_1 fun _ _ _ _ _ _ h hF => ⟨h.1, hF⟩
theorem main_1_2 : Claimed_1_2 := comes_1 fun _ _ _ _ _ _ h hF => ⟨h.2.1, hF⟩
end Jvm.Pilot.@@N@@
namespace Jvm.Pilot.@@N@@
open Jvm Jvm.ClassFile Sem Op Lib Jvm.Free Jvm.Stand Jvm.Pilot.@@N@@.Jvm.D
/-! MADE BY PROGRAM (witnessworld.py) out of the Statement's table words and the real class files: 12 classes; the members and pool entries that the words name. The judged class is class 1, her method 1. -/
namespace start1
open Jvm.ClassFile
def u (s : String) : CpInfo := .utf8 (stringToUtf16 s)
/-- a pool by its gaps: so many unusable entries, then the entry; so many at the end -/
def gap : Nat → List CpInfo → List CpInfo
  | 0, r => r
  | n + 1, r => .unusable :: gap n r
def poolList (es : List (Nat × CpInfo)) (last : Nat) : List CpInfo := es.foldr (fun e r => gap e.1 (e.2 :: r)) (gap last [])
def pool (es : List (Nat × CpInfo)) (last : Nat) : Array CpInfo := ⟨poolList es last⟩
def fileOf (pool : Array CpInfo) (this : Nat) (attrs : Array Attribute := #[]) (ms : Array MethodInfo := #[]) (fl : Nat := 33) (sup : Nat := 0) (ifs : Array Nat := #[]) (fds : Array FieldInfo := #[]) : ClassFile where
  minorVersion := 0
  majorVersion := 65
  constantPool := pool
  accessFlags := fl
  thisClass := this
  superClass := sup
  interfaces := ifs
  fields := fds
  methods := ms
  attributes := attrs
def plain (name : String) (sup : Option ClassId) : Class where
  name := name
  kind := .ordinary
  loader := none
  accessFlags := 33
  super := sup
  interfaces := #[]
  cf := none
  fields := #[]
  methods := #[]
  instanceTypes := #[]
  staticTypes := #[]
  resolved := #[]
  callSites := []
  init := .initialized
  statics := none
  mirror := none

def pool0 : Array CpInfo := pool [(5, u "<init>"), (0, u "()V"), (1, .class_ 10), (1, u "java/lang/Object")] 113

def k0m0 : Method := { name := "<init>", desc := "()V", sig := { parameters := [], returnType := none }, accessFlags := 1, code := none }
/-- java/lang/Object -/
def k0 : Class := { plain "java/lang/Object" none with
  accessFlags := 33
  interfaces := #[]
  cf := some (fileOf pool0 8 #[] #[{ accessFlags := 1, nameIndex := 5, descriptorIndex := 6, attributes := #[] }] 33 0 #[] #[])
  fields := #[]
  methods := #[k0m0]
  instanceTypes := #[]
  staticTypes := #[]
  resolved := Array.replicate 124 none
  statics := none }

def pool1 : Array CpInfo := pool [(2, .class_ 4), (1, u "java/lang/Object"), (0, u "<init>"), (0, u "()V"), (0, .integer 2147483647), (0, .fieldref 9 10), (0, .class_ 11), (0, .nameAndType 12 13), (0, u "com/example/scriptsmith/scriptsmith/pack/Dependency$Type"), (0, u "REQUIRED"), (0, u "Lcom/example/scriptsmith/scriptsmith/pack/Dependency$Type;"), (0, .fieldref 9 15), (0, .nameAndType 16 13), (0, u "OPTIONAL"), (0, .fieldref 9 18), (0, .nameAndType 19 13), (0, u "RECOMMENDED"), (0, .fieldref 9 21), (0, .nameAndType 22 13), (0, u "DISCOURAGED"), (0, .fieldref 9 24), (0, .nameAndType 25 13), (0, u "INCOMPATIBLE"), (0, .methodref 9 27), (0, .nameAndType 28 29), (0, u "ordersLoad"), (0, u "()Z"), (0, .class_ 31), (0, u "com/example/scriptsmith/scriptsmith/pack/TypeOrdersLoadPinLaw"), (2, u "law"), (0, u "(I)Z")] 7

def k1m0 : Method := { name := "<init>", desc := "()V", sig := { parameters := [], returnType := none }, accessFlags := 1, code := none }
def k1c1 : Code := { maxStack := 2, maxLocals := 4, code := code, exceptionTable := #[], attributes := #[] }
def k1m1 : Method := { name := "law", desc := "(I)Z", sig := { parameters := [.int], returnType := some .boolean }, accessFlags := 9, code := some k1c1 }
/-- com/example/scriptsmith/scriptsmith/pack/TypeOrdersLoadPinLaw -/
def k1 : Class := { plain "com/example/scriptsmith/scriptsmith/pack/TypeOrdersLoadPinLaw" (some 0) with
  accessFlags := 49
  interfaces := #[]
  cf := some (fileOf pool1 30 #[] #[{ accessFlags := 1, nameIndex := 5, descriptorIndex := 6, attributes := #[] }, { accessFlags := 9, nameIndex := 34, descriptorIndex := 35, attributes := #[] }] 49 2 #[] #[])
  fields := #[]
  methods := #[k1m0, k1m1]
  instanceTypes := #[]
  staticTypes := #[]
  resolved := Array.replicate 43 none
  statics := none }

def pool2 : Array CpInfo := pool [(1, .class_ 2), (0, u "java/lang/constant/Constable"), (0, .class_ 4), (0, u "java/lang/Object")] 6

/-- java/lang/constant/Constable -/
def k2 : Class := { plain "java/lang/constant/Constable" (some 0) with
  accessFlags := 1537
  interfaces := #[]
  cf := some (fileOf pool2 1 #[] #[] 1537 3 #[] #[])
  fields := #[]
  methods := #[]
  instanceTypes := #[]
  staticTypes := #[]
  resolved := Array.replicate 11 none
  statics := none }

def pool3 : Array CpInfo := pool [(1, .class_ 2), (0, u "java/lang/Comparable"), (0, .class_ 4), (0, u "java/lang/Object")] 7

/-- java/lang/Comparable -/
def k3 : Class := { plain "java/lang/Comparable" (some 0) with
  accessFlags := 1537
  interfaces := #[]
  cf := some (fileOf pool3 1 #[] #[] 1537 3 #[] #[])
  fields := #[]
  methods := #[]
  instanceTypes := #[]
  staticTypes := #[]
  resolved := Array.replicate 12 none
  statics := none }

def pool4 : Array CpInfo := pool [(1, .class_ 2), (0, u "java/io/Serializable"), (0, .class_ 4), (0, u "java/lang/Object")] 2

/-- java/io/Serializable -/
def k4 : Class := { plain "java/io/Serializable" (some 0) with
  accessFlags := 1537
  interfaces := #[]
  cf := some (fileOf pool4 1 #[] #[] 1537 3 #[] #[])
  fields := #[]
  methods := #[]
  instanceTypes := #[]
  staticTypes := #[]
  resolved := Array.replicate 7 none
  statics := none }

def pool5 : Array CpInfo := pool [(2, .class_ 4), (1, u "java/lang/Enum"), (0, u "name"), (0, u "Ljava/lang/String;"), (2, u "ordinal"), (0, u "I"), (1, .class_ 14), (1, u "java/lang/Object"), (4, u "hash"), (86, .class_ 108), (1, u "java/lang/Enum$EnumDesc"), (2, .class_ 112), (0, u "java/lang/constant/Constable"), (0, .class_ 114), (0, u "java/lang/Comparable"), (0, .class_ 116), (0, u "java/io/Serializable")] 87

/-- java/lang/Enum -/
def k5 : Class := { plain "java/lang/Enum" (some 0) with
  accessFlags := 1057
  interfaces := #[2, 3, 4]
  cf := some (fileOf pool5 2 #[.nestMembers #[106]] #[] 1057 12 #[111, 113, 115] #[{ accessFlags := 18, nameIndex := 5, descriptorIndex := 6, attributes := #[] }, { accessFlags := 18, nameIndex := 9, descriptorIndex := 10, attributes := #[] }, { accessFlags := 2, nameIndex := 19, descriptorIndex := 10, attributes := #[] }])
  fields := #[{ name := "name", type := (.object "java/lang/String"), accessFlags := 18, slot := 0, constantValue := 0 }, { name := "ordinal", type := .int, accessFlags := 18, slot := 1, constantValue := 0 }, { name := "hash", type := .int, accessFlags := 2, slot := 2, constantValue := 0 }]
  methods := #[]
  instanceTypes := #[(.object "java/lang/String"), .int, .int]
  staticTypes := #[]
  resolved := Array.replicate 204 none
  statics := none }

def pool6 : Array CpInfo := pool [(1, .class_ 2), (0, u "com/example/scriptsmith/scriptsmith/pack/Dependency$Type"), (0, .fieldref 1 4), (0, .nameAndType 5 6), (0, u "REQUIRED"), (0, u "Lcom/example/scriptsmith/scriptsmith/pack/Dependency$Type;"), (0, .fieldref 1 8), (0, .nameAndType 9 6), (0, u "OPTIONAL"), (0, .fieldref 1 11), (0, .nameAndType 12 6), (0, u "RECOMMENDED"), (2, u "DISCOURAGED"), (2, u "INCOMPATIBLE"), (2, u "$VALUES"), (0, u "[Lcom/example/scriptsmith/scriptsmith/pack/Dependency$Type;"), (6, .class_ 31), (1, u "java/lang/Enum"), (61, u "ordersLoad"), (0, u "()Z"), (10, .class_ 106), (0, u "com/example/scriptsmith/scriptsmith/pack/Dependency")] 2

def k6c0 : Code := { maxStack := 2, maxLocals := 1, code := prog_8_method_4_code, exceptionTable := #[], attributes := #[] }
def k6m0 : Method := { name := "ordersLoad", desc := "()Z", sig := { parameters := [], returnType := some .boolean }, accessFlags := 1, code := some k6c0 }
/-- com/example/scriptsmith/scriptsmith/pack/Dependency$Type -/
def k6 : Class := { plain "com/example/scriptsmith/scriptsmith/pack/Dependency$Type" (some 5) with
  accessFlags := 16433
  interfaces := #[]
  cf := some (fileOf pool6 1 #[.nestHost 105] #[{ accessFlags := 1, nameIndex := 93, descriptorIndex := 94, attributes := #[] }] 16433 29 #[] #[{ accessFlags := 16409, nameIndex := 5, descriptorIndex := 6, attributes := #[] }, { accessFlags := 16409, nameIndex := 9, descriptorIndex := 6, attributes := #[] }, { accessFlags := 16409, nameIndex := 12, descriptorIndex := 6, attributes := #[] }, { accessFlags := 16409, nameIndex := 15, descriptorIndex := 6, attributes := #[] }, { accessFlags := 16409, nameIndex := 18, descriptorIndex := 6, attributes := #[] }, { accessFlags := 4122, nameIndex := 21, descriptorIndex := 22, attributes := #[] }])
  fields := #[{ name := "REQUIRED", type := (.object "com/example/scriptsmith/scriptsmith/pack/Dependency$Type"), accessFlags := 16409, slot := 0, constantValue := 0 }, { name := "OPTIONAL", type := (.object "com/example/scriptsmith/scriptsmith/pack/Dependency$Type"), accessFlags := 16409, slot := 1, constantValue := 0 }, { name := "RECOMMENDED", type := (.object "com/example/scriptsmith/scriptsmith/pack/Dependency$Type"), accessFlags := 16409, slot := 2, constantValue := 0 }, { name := "DISCOURAGED", type := (.object "com/example/scriptsmith/scriptsmith/pack/Dependency$Type"), accessFlags := 16409, slot := 3, constantValue := 0 }, { name := "INCOMPATIBLE", type := (.object "com/example/scriptsmith/scriptsmith/pack/Dependency$Type"), accessFlags := 16409, slot := 4, constantValue := 0 }, { name := "$VALUES", type := (.array (.object "com/example/scriptsmith/scriptsmith/pack/Dependency$Type")), accessFlags := 4122, slot := 5, constantValue := 0 }]
  methods := #[k6m0]
  instanceTypes := #[(.object "java/lang/String"), .int, .int]
  staticTypes := #[(.object "com/example/scriptsmith/scriptsmith/pack/Dependency$Type"), (.object "com/example/scriptsmith/scriptsmith/pack/Dependency$Type"), (.object "com/example/scriptsmith/scriptsmith/pack/Dependency$Type"), (.object "com/example/scriptsmith/scriptsmith/pack/Dependency$Type"), (.object "com/example/scriptsmith/scriptsmith/pack/Dependency$Type"), (.array (.object "com/example/scriptsmith/scriptsmith/pack/Dependency$Type"))]
  resolved := Array.replicate 109 none
  statics := some 0 }

def pool7 : Array CpInfo := pool [(1, u "java/lang/Cloneable"), (0, .class_ 1), (0, u "java/lang/Object"), (0, .class_ 3)] 3

/-- java/lang/Cloneable -/
def k7 : Class := { plain "java/lang/Cloneable" (some 0) with
  accessFlags := 1537
  interfaces := #[]
  cf := some (fileOf pool7 2 #[] #[] 1537 4 #[] #[])
  fields := #[]
  methods := #[]
  instanceTypes := #[]
  staticTypes := #[]
  resolved := Array.replicate 8 none
  statics := none }

/-- the primitive byte -/
def k8 : Class := { plain "byte" none with kind := .primitive 'B', accessFlags := 0x411 }
/-- [B -/
def k9 : Class := { plain "[B" (some 0) with kind := .array 8 .byte, interfaces := #[7, 4], accessFlags := 1041 }

/-- the primitive int -/
def k10 : Class := { plain "int" none with kind := .primitive 'I', accessFlags := 0x411 }
/-- [I -/
def k11 : Class := { plain "[I" (some 0) with kind := .array 10 .int, interfaces := #[7, 4], accessFlags := 1041 }

def heap : Heap := #[{ cls := 6, slots := #[.ref 1, .ref 2, .ref 3, .ref 4, .ref 5, .null], vm := .statics 6 },
  { cls := 6, slots := #[.null, .int 0, .int 0], vm := .none },
  { cls := 6, slots := #[.null, .int 1, .int 0], vm := .none },
  { cls := 6, slots := #[.null, .int 2, .int 0], vm := .none },
  { cls := 6, slots := #[.null, .int 3, .int 0], vm := .none },
  { cls := 6, slots := #[.null, .int 4, .int 0], vm := .none }]
def classes : Array Class := #[k0, k1, k2, k3, k4, k5, k6, k7, k8, k9, k10, k11]
def interned : List (Array UInt16 × Addr) := []
def slotsUsed : Nat := 21
def theMethod : MethodId := ⟨1, 1⟩
def args0 : Array Value := #[.int 5]
def aboutOver (below : List Frame) : State where
  vm := { classes := classes, interned := interned.toArray }
  heap := heap
  slotsUsed := slotsUsed
  threads := #[{ frames := .invoking theMethod args0 :: below }]
def below0 : List Frame := [.native { method := ⟨0, 0⟩, args := #[] }]
def about1 : State := aboutOver below0
def p0 : Program := .bare "" "" ""
def e0 : Env := launch0.env 0 0 0
theorem w_frames : about1.frames = Frame.invoking theMethod args0 :: below0 := rfl
set_option maxRecDepth 65536 in
theorem w_args : argsFit about1.vm theMethod args0 = true := by decide +kernel
set_option maxRecDepth 65536 in
theorem w_heap : heapFits about1 = true := by decide +kernel
set_option maxRecDepth 65536 in
theorem w_runnable : about1.curStatus? = some .runnable := by decide +kernel
set_option maxRecDepth 65536 in
theorem w_alone : about1.alone = true := by decide +kernel
set_option maxRecDepth 65536 in
theorem w_named : about1.methodNamed? x = some theMethod := by decide +kernel
set_option maxRecDepth 65536 in
theorem w_hears : about1.hears theMethod below0 = true := by decide +kernel
set_option maxRecDepth 65536 in
theorem w_ripe : about1.ripe theMethod args0 below0 = true := by decide +kernel
theorem w_running : about1.status = .running := rfl
set_option maxRecDepth 65536 in
theorem w_room : about1.hasRoom e0.platform room_1 = true :=
  launch0.hasRoom_least _ room_1 (by decide +kernel) (by decide +kernel) (by decide +kernel) (by decide +kernel) (by decide +kernel) (by decide +kernel)
theorem allAtoms_all (ts : List Jvm.Cond) (a : Array Jvm.Value) (st : Jvm.State) : (allAtoms ts).before a st = ts.all (fun c => c.before a st) := by
  induction ts with
  | nil => rfl
  | cons c t ih =>
    show (Jvm.Cond.and c (allAtoms t)).before a st = _
    rw [Jvm.Cond.before_and, ih, List.all_cons]
def words1 : List Jvm.Cond := Jvm.Cond.code x code maxLocals ret :: tables_1
/-- a 'code' word, met by the world's own term for the bytes: nothing is compared byte by byte -/
theorem code_word {y : MethodName} {bytes : ByteArray} {mx : Nat} {rt : Option FieldType} {a : Array Value} {s : State} {m : MethodId} {meth : Method} {c : Code} (h1 : s.methodNamed? y = some m) (h2 : s.vm.method? m = some meth) (h3 : meth.code = some c) (h4 : c.code = bytes)
    (h5 : (c.maxLocals == mx && c.exceptionTable.isEmpty && decide (c.maxStack ≤ mostOperands) && decide (meth.sig.returnType = rt) && !meth.locks && decide (parseMethodDescriptor y.desc = some meth.sig)) = true) : (Jvm.Cond.code y bytes mx rt).before a s = true := by
  simp only [Bool.and_eq_true, beq_iff_eq, Bool.not_eq_true', decide_eq_true_eq] at h5
  obtain ⟨⟨⟨⟨⟨g1, g2⟩, g3⟩, g4⟩, g5⟩, g6⟩ := h5
  simp [Cond.before, Cond.holds, Cond.value, h1, h2, h3, h4, g1, g2, g3, g4, g5, g6]
def isCode : Jvm.Cond → Bool
  | .code _ _ _ _ => true
  | _ => false
theorem all_split {L : List Jvm.Cond} {P : Jvm.Cond → Bool} (h1 : L.all (fun c => isCode c || P c) = true) (h2 : ∀ c ∈ L.filter isCode, P c = true) : L.all P = true := by
  refine List.all_eq_true.mpr fun c hc => ?_
  have h := List.all_eq_true.mp h1 c hc
  rcases Bool.eq_false_or_eq_true (isCode c) with hi | hi
  · exact h2 c (List.mem_filter.mpr ⟨hc, hi⟩)
  · simpa [hi] using h
set_option maxRecDepth 65536 in
theorem w_c0 : (Jvm.Cond.code x code maxLocals ret).before args0 about1 = true := code_word (m := ⟨1, 1⟩) (meth := k1m1) (c := k1c1) (by decide +kernel) rfl rfl rfl (by decide +kernel)
set_option maxRecDepth 65536 in
theorem w_c1 : (Jvm.Cond.code ({ cls := "com/example/scriptsmith/scriptsmith/pack/Dependency$Type", name := "ordersLoad", desc := "()Z" } : Jvm.MethodName) prog_8_method_4_code (1 : Nat) (Option.some Jvm.ClassFile.FieldType.boolean)).before args0 about1 = true := code_word (m := ⟨6, 0⟩) (meth := k6m0) (c := k6c0) (by decide +kernel) rfl rfl rfl (by decide +kernel)
def codes1 : List Jvm.Cond := [Jvm.Cond.code x code maxLocals ret, Jvm.Cond.code ({ cls := "com/example/scriptsmith/scriptsmith/pack/Dependency$Type", name := "ordersLoad", desc := "()Z" } : Jvm.MethodName) prog_8_method_4_code (1 : Nat) (Option.some Jvm.ClassFile.FieldType.boolean)]
set_option maxRecDepth 65536 in
theorem codes_eq : words1.filter isCode = codes1 := rfl
theorem w_codes : ∀ c ∈ words1.filter isCode, c.before args0 about1 = true := by
  rw [codes_eq]
  intro c hc
  simp only [codes1, List.mem_cons, List.not_mem_nil, or_false] at hc
  rcases hc with rfl | rfl
  · exact w_c0
  · exact w_c1
set_option maxRecDepth 65536 in
theorem w_t1 : words1.all (fun c => isCode c || c.before args0 about1) = true := by decide +kernel
theorem w_tables : (allAtoms (Jvm.Cond.code x code maxLocals ret :: tables_1)).before args0 about1 = true := by
  rw [allAtoms_all]
  show words1.all (fun c => c.before args0 about1) = true
  refine all_split ?_ w_codes
  rw [w_t1]
set_option maxRecDepth 65536 in
theorem w_case : (Jvm.Cond.and given_1 narrow_1).before args0 about1 = true := by decide +kernel
theorem w_applies : (headSpec (Jvm.Cond.code x code maxLocals ret :: tables_1) room_1).applies x e0.platform about1 = true :=
  (Spec.applies_iff w_frames).mpr ⟨w_running, w_runnable, w_alone, w_named, w_hears, w_ripe, w_room, w_tables⟩
theorem atStart : AtStart classFile x code maxLocals ret World_1 tables_1 room_1 Calls_1 rest_1 Pre_1 launch0 p0 e0 about1 theMethod args0 below0 :=
  ⟨lists_1, trivial, launch0.admits_env _ _ _, launch0.least_env, fairChoices_fair.cas, fairChoices_fair.clock, w_frames, w_args, w_heap, w_applies, trivial, trivial, w_case⟩
end start1
theorem witness_1 : WitnessClaimed_1 := ⟨start1.p0, start1.e0, start1.about1, start1.theMethod, start1.args0, start1.below0, start1.atStart⟩
end Jvm.Pilot.@@N@@
