import JvmDerived
import JvmDerived.Pilot.@@N@@Statement
import JvmDerived.Pilot.@@N@@Code
set_option linter.unusedVariables false
set_option linter.unusedSimpArgs false
namespace Jvm.RoadKit
open Sem ClassFile Op Lib Jvm.Stand Jvm.Free Jvm.LawKit
section Own
variable {p : Program} {l : Launch} {e : Env} {R : Room} {s : State} {m : MethodId} {args : Array Value} {below : List Frame} {meth : Method} {c : Code} {T T' : State} {locs : List Loc} {cells slots : Nat} {Z : State} {a0 : Array Value} {h : Heap} {Q : Option Value → Heap → List Loc → Prop} {kc ks : Nat}
/-- from here (state T, frame g) the body runs to its return, with Q of what it returns, the heap and the places written -/
def own_Go (p : Program) (e : Env) (s : State) (below : List Frame) (Q : Option Value → Heap → List Loc → Prop) (kc ks : Nat) (T : State) (g : JFrame) : Prop :=
  ∃ s₂ o, Steps p.tables e below (T.setTop g) s₂ ∧ s₂.status = .running ∧ Ended s₂ below o ∧ ∃ v L, o = .returned v ∧ Q v s₂.heap L ∧ FrameEnd s o s₂ L kc ks
theorem own_st {g g' : JFrame} (st : ∀ target, Steps p.tables e below (T'.setTop g') target → Steps p.tables e below (T.setTop g) target) (k : own_Go p e s below Q kc ks T' g') : own_Go p e s below Q kc ks T g := by
  obtain ⟨s₂, o, h1, r⟩ := k; exact ⟨s₂, o, st _ h1, r⟩
theorem own_sq {g g' : JFrame} {t : State} (st : Steps p.tables e below (T'.setTop g') t → Steps p.tables e below (T.setTop g) t) (k : Steps p.tables e below (T'.setTop g') t) : Steps p.tables e below (T.setTop g) t := st k
theorem own_cast {g g' : JFrame} (q : g = g') (k : own_Go p e s below Q kc ks T g') : own_Go p e s below Q kc ks T g := q ▸ k
theorem own_retI (X : Stand p l e R s m args below meth c T locs cells slots) (hx : p.tables.exec = Jvm.exec) (hlk : meth.locks = false) (hret : meth.sig.returnType = some .int) {pc : Nat} {Ls : Array Slot} {z : Int32} {rest : List Value} (hd : decode c.code pc = .ok (.ireturn, 1)) (hq : Q (some (.int z)) T.heap locs) (hc : cells ≤ kc) (hs : slots ≤ ks) : own_Go p e s below Q kc ks T (mkF m pc Ls (.int z :: rest)) := by
  obtain ⟨fs, hr, hrun, hended, hW, hsame⟩ := X.leave (v := some (.int z)) (fun h => by rw [hret] at h; cases h) hlk
  exact ⟨_, _, retOut X hx hret (by rfl) (Or.inl ⟨rfl, Or.inl rfl, z, rfl⟩) hd hr, hrun, hended, _, _, rfl, hq, ⟨_, rfl⟩, hW, hsame.mono hc hs⟩
theorem own_retN (X : Stand p l e R s m args below meth c T locs cells slots) (hx : p.tables.exec = Jvm.exec) (hlk : meth.locks = false) {t : FieldType} (hret : meth.sig.returnType = some t) (ht : t = .boolean ∨ t = .byte ∨ t = .char ∨ t = .short) {pc : Nat} {Ls : Array Slot} {z : Int32} {rest : List Value} (hd : decode c.code pc = .ok (.ireturn, 1)) (hq : Q (some (.int (nar t z))) T.heap locs) (hc : cells ≤ kc) (hs : slots ≤ ks) : own_Go p e s below Q kc ks T (mkF m pc Ls (.int z :: rest)) := by
  obtain ⟨fs, hr, hrun, hended, hW, hsame⟩ := X.leave (v := some (.int (nar t z))) (fun h => by rw [hret] at h; cases h) hlk
  exact ⟨_, _, retN X hx hret ht hd hr, hrun, hended, _, _, rfl, hq, ⟨_, rfl⟩, hW, hsame.mono hc hs⟩
theorem own_retJ (X : Stand p l e R s m args below meth c T locs cells slots) (hx : p.tables.exec = Jvm.exec) (hlk : meth.locks = false) (hret : meth.sig.returnType = some .long) {pc : Nat} {Ls : Array Slot} {z : Int64} {rest : List Value} (hd : decode c.code pc = .ok (.lreturn, 1)) (hq : Q (some (.long z)) T.heap locs) (hc : cells ≤ kc) (hs : slots ≤ ks) : own_Go p e s below Q kc ks T (mkF m pc Ls (.long z :: rest)) := by
  obtain ⟨fs, hr, hrun, hended, hW, hsame⟩ := X.leave (v := some (.long z)) (fun h => by rw [hret] at h; cases h) hlk
  exact ⟨_, _, retOut X hx hret (by rfl) (Or.inr (Or.inl ⟨rfl, rfl, z, rfl⟩)) hd hr, hrun, hended, _, _, rfl, hq, ⟨_, rfl⟩, hW, hsame.mono hc hs⟩
theorem own_retA (X : Stand p l e R s m args below meth c T locs cells slots) (hx : p.tables.exec = Jvm.exec) (hlk : meth.locks = false) {t : FieldType} (hret : meth.sig.returnType = some t) (ht : t.isReference = true) {pc : Nat} {Ls : Array Slot} {v : Value} {rest : List Value} (hv : v.isRef = true) (hd : decode c.code pc = .ok (.areturn, 1)) (hq : Q (some v) T.heap locs) (hc : cells ≤ kc) (hs : slots ≤ ks) : own_Go p e s below Q kc ks T (mkF m pc Ls (v :: rest)) := by
  obtain ⟨fs, hr, hrun, hended, hW, hsame⟩ := X.leave (v := some v) (fun h => by rw [hret] at h; cases h) hlk
  have hn : narrow t v = v := by cases v <;> first | (cases hv; done) | (cases t <;> first | (cases ht; done) | rfl)
  exact ⟨_, _, retOut X hx hret hn (Or.inr (Or.inr (Or.inr (Or.inr ⟨rfl, ht, hv⟩)))) hd hr, hrun, hended, _, _, rfl, hq, ⟨_, rfl⟩, hW, hsame.mono hc hs⟩
theorem own_retV (X : Stand p l e R s m args below meth c T locs cells slots) (hx : p.tables.exec = Jvm.exec) (hlk : meth.locks = false) (hret : meth.sig.returnType = none) {pc : Nat} {Ls : Array Slot} (hd : decode c.code pc = .ok (.return_, 1)) (hq : Q none T.heap locs) (hc : cells ≤ kc) (hs : slots ≤ ks) : own_Go p e s below Q kc ks T (mkF m pc Ls []) := by
  obtain ⟨fs, hr, hrun, hended, hW, hsame⟩ := X.leave (v := none) (fun _ => rfl) hlk
  exact ⟨_, _, X.returnOut hx hret hd hr, hrun, hended, _, _, rfl, hq, ⟨_, rfl⟩, hW, hsame.mono hc hs⟩
/-- a body's contract: entered with these arguments at the heap h0 it returns, with Q -/
def own_Met (l : Launch) (Z : State) (ws : List Cond) (y : MethodName) (bytes : ByteArray) (maxL : Nat) (ret : Option FieldType) (rm : Room) (kc ks : Nat) (as' : Array Value) (h0 : Heap) (Q : Option Value → Heap → List Loc → Prop) : Prop :=
  MetFree l y (head1 (Cond.code y bytes maxL ret :: ws) rm) (fun a U => a = as' ∧ Z.Warmed39 U.vm ∧ U.heap = h0) (fun _ _ _ _ _ => True) (fun _ U o U' => ∃ v L, o = .returned v ∧ Q v U'.heap L ∧ FrameEnd U o U' L kc ks)
theorem own_body {ws : List Cond} {y : MethodName} {bytes : ByteArray} {maxL : Nat} {ret : Option FieldType} {rm : Room} {as' : Array Value} {h0 : Heap} (pn : plainFor y = true)
    (body : ∀ (p : Program) (e : Env) (s : State) (m : MethodId) (below : List Frame) (meth : Method) (c : Code) (s₁ : State), p.tables.exec = Jvm.exec → c.code = bytes → c.maxLocals = maxL → s.vm.findClass y.cls = some m.cls → meth.name = y.name → meth.locks = false → meth.sig.returnType = ret → Z.Warmed39 s.vm → s.heap = h0 →
      Stand p l e rm s m as' below meth c s₁ [] 0 0 → s₁.heap = h0 → own_Go p e s below Q kc ks s₁ (entryFrame m as' maxL)) : own_Met l Z ws y bytes maxL ret rm kc ks as' h0 Q := by
  refine MetFree.of_bodySF pn hisR ?_
  intro p e s m args below meth c s₁ Bd hml0 hP hK
  obtain ⟨rfl, hZ, hh⟩ := hP
  exact body p e s m below meth c s₁ Bd.exec Bd.bytes hml0 (findClass_of_methodNamed Bd.named) (name_of_methodNamed Bd.named Bd.method).1 Bd.notSynchronized Bd.returns hZ hh (Stand.of_body Bd) (by rw [← hh, Bd.state]; rfl)
theorem own_callS (X : Stand p l e R s m args below meth c T locs cells slots) (hx : p.tables.exec = Jvm.exec) (hZ : Z.Warmed39 s.vm) {own : String} {index : Nat} {y : MethodName} {bytes : ByteArray} {maxL : Nat} {ret : Option FieldType}
    (hown : s.vm.findClass own = some m.cls) (w1 : (Cond.methodLink own index y).before a0 Z = true) (w2 : (Cond.static y).before a0 Z = true) (w3 : (Cond.initialized y.cls).before a0 Z = true) (w4 : (Cond.code y bytes maxL ret).before a0 Z = true)
    (hy : y.cls ≠ "java/lang/invoke/MethodHandle" ∧ y.cls ≠ "java/lang/invoke/VarHandle") {rm : Room} {W : Nat} {Qc : Option Value → Heap → List Loc → Prop} (eT : T.heap = h) {argsL rest : List Value}
    (hM : own_Met l Z [] y bytes maxL ret rm rm.cells rm.slots argsL.toArray h Qc) (hf : rm.frames + 1 ≤ R.frames) (hl : W + (maxL + 11) + rm.locals ≤ R.locals) (hcs : cells + rm.cells ≤ R.cells) (hss : slots + rm.slots ≤ R.slots)
    {g : JFrame} (hg : g.method = m) (hsize : g.locals.size = c.maxLocals) (hlen : ∀ sig, parseMethodDescriptor y.desc = some sig → argsL.length = sig.parameters.length) (hstack : g.stack = argsL.reverse ++ rest)
    (hW : 2 * g.monitorRoom + (rest.map fun v => v.category).sum ≤ W) (hdg : decode c.code g.pc = .ok (.invokestatic index, 3))
    (k : ∀ v T' L, Stand p l e R s m args below meth c T' (locs ++ L) (cells + rm.cells) (slots + rm.slots) → Qc v T'.heap L → own_Go p e s below Q kc ks T' { g with pc := g.pc + 3, stack := v.toList ++ rest }) : own_Go p e s below Q kc ks T g := by
  obtain ⟨v, _, ⟨T6, L6, k6, n6⟩, -, X6, ⟨Lc6, hQ6, l6, y6, z6⟩, st6⟩ := Jvm.LawKit.callS X hx (y := y) hown (mvT hZ w1) (mvT hZ w2) (mvT hZ w3) (mvT hZ w4) hy (backOf (W := W) hM hZ w4 w3 hf hl) hg hsize (argsL := argsL) (rest := rest) hlen hstack hW hdg (fun _ _ => ⟨rfl, eT, hcs, hss⟩)
  dsimp only [Pt.U, Pt.locs, Pt.cells, Pt.slots] at X6 l6 y6 z6 st6 hQ6
  subst l6 y6 z6
  exact own_st st6 (k v T6 Lc6 X6 hQ6)
theorem own_callV (X : Stand p l e R s m args below meth c T locs cells slots) (hx : p.tables.exec = Jvm.exec) (hZ : Z.Warmed39 s.vm) {own C : String} {index : Nat} {y : MethodName} {bytes : ByteArray} {maxL : Nat} {ret : Option FieldType}
    (hown : s.vm.findClass own = some m.cls) (w1 : (Cond.methodLink own index y).before a0 Z = true) (w2 : (Cond.declares y).before a0 Z = true) (w3 : (Cond.selects C y y).before a0 Z = true) (w4 : (Cond.instanceMethod y).before a0 Z = true) (w5 : (Cond.code y bytes maxL ret).before a0 Z = true) (w6 : (Cond.initialized y.cls).before a0 Z = true)
    (hy : y.cls ≠ "java/lang/invoke/MethodHandle" ∧ y.cls ≠ "java/lang/invoke/VarHandle") {rm : Room} {W : Nat} {Qc : Option Value → Heap → List Loc → Prop} (eT : T.heap = h) {b : Addr} (E : Exa Z h b C) {argsL rest : List Value}
    (hM : own_Met l Z [] y bytes maxL ret rm rm.cells rm.slots (.ref b :: argsL).toArray h Qc) (hf : rm.frames + 1 ≤ R.frames) (hl : W + (maxL + 11) + rm.locals ≤ R.locals) (hcs : cells + rm.cells ≤ R.cells) (hss : slots + rm.slots ≤ R.slots)
    {g : JFrame} (hg : g.method = m) (hsize : g.locals.size = c.maxLocals) (hlen : ∀ sig, parseMethodDescriptor y.desc = some sig → argsL.length = sig.parameters.length) (hstack : g.stack = argsL.reverse ++ .ref b :: rest)
    (hW : 2 * g.monitorRoom + (rest.map fun v => v.category).sum ≤ W) (hdg : decode c.code g.pc = .ok (.invokevirtual index, 3))
    (k : ∀ v T' L, Stand p l e R s m args below meth c T' (locs ++ L) (cells + rm.cells) (slots + rm.slots) → Qc v T'.heap L → own_Go p e s below Q kc ks T' { g with pc := g.pc + 3, stack := v.toList ++ rest }) : own_Go p e s below Q kc ks T g := by
  obtain ⟨cq, kq, qa, qb, qc⟩ := isOf hZ eT E
  obtain ⟨v, _, ⟨T6, L6, k6, n6⟩, -, X6, ⟨Lc6, hQ6, l6, y6, z6⟩, st6⟩ := X.virtualBack hx (y := y) (z := y) hown (mvT hZ w1) (mvT hZ w2) (notFace_of_selects (args := #[]) (mvT hZ w3)) (mvT hZ w3) (mvT hZ w4) hy (backOf (W := W) hM hZ w5 w6 hf hl) qa qc hg hsize (Steps.refl _) (argsL := argsL) (rest := rest) hlen hstack hW hdg (fun _ _ => ⟨rfl, eT, hcs, hss⟩)
  dsimp only [Pt.U, Pt.locs, Pt.cells, Pt.slots] at X6 l6 y6 z6 st6 hQ6
  subst l6 y6 z6
  exact own_st (fun _ q => st6.trans q) (k v T6 Lc6 X6 hQ6)
theorem own_callC (X : Stand p l e R s m args below meth c T locs cells slots) (hx : p.tables.exec = Jvm.exec) (hZ : Z.Warmed39 s.vm) {own : String} {index : Nat} {y : MethodName} {bytes : ByteArray} {maxL : Nat} (hy1 : y.name = "<init>")
    (hown : s.vm.findClass own = some m.cls) (w1 : (Cond.methodLink own index y).before a0 Z = true) (w2 : (Cond.instanceMethod y).before a0 Z = true) (w3 : (Cond.code y bytes maxL none).before a0 Z = true) (w4 : (Cond.initialized y.cls).before a0 Z = true)
    (hy : y.cls ≠ "java/lang/invoke/MethodHandle" ∧ y.cls ≠ "java/lang/invoke/VarHandle") {rm : Room} {W : Nat} {Qc : Option Value → Heap → List Loc → Prop} (eT : T.heap = h) {b : Addr} {argsL rest : List Value}
    (hM : own_Met l Z [] y bytes maxL none rm rm.cells rm.slots (.ref b :: argsL).toArray h Qc) (hf : rm.frames + 1 ≤ R.frames) (hl : W + (maxL + 11) + rm.locals ≤ R.locals) (hcs : cells + rm.cells ≤ R.cells) (hss : slots + rm.slots ≤ R.slots)
    {g : JFrame} (hg : g.method = m) (hsize : g.locals.size = c.maxLocals) (hlen : ∀ sig, parseMethodDescriptor y.desc = some sig → argsL.length = sig.parameters.length) (hstack : g.stack = argsL.reverse ++ .ref b :: rest)
    (hW : 2 * g.monitorRoom + (rest.map fun v => v.category).sum ≤ W) (hdg : decode c.code g.pc = .ok (.invokespecial index, 3))
    (k : ∀ v T' L, Stand p l e R s m args below meth c T' (locs ++ L) (cells + rm.cells) (slots + rm.slots) → Qc v T'.heap L → own_Go p e s below Q kc ks T' { g with pc := g.pc + 3, stack := v.toList ++ rest }) : own_Go p e s below Q kc ks T g := by
  obtain ⟨v, _, ⟨T6, L6, k6, n6⟩, -, X6, ⟨Lc6, hQ6, l6, y6, z6⟩, st6⟩ := X.specialBack hx (y := y) hy1 hown (mvT hZ w1) (mvT hZ w2) (mvT hZ w3) hy (backOf (W := W) hM hZ w3 w4 hf hl) hg hsize (Steps.refl _) (a := b) (argsL := argsL) (rest := rest) hlen hstack hW hdg (fun _ _ => ⟨rfl, eT, hcs, hss⟩)
  dsimp only [Pt.U, Pt.locs, Pt.cells, Pt.slots] at X6 l6 y6 z6 st6 hQ6
  subst l6 y6 z6
  exact own_st (fun _ q => st6.trans q) (k v T6 Lc6 X6 hQ6)
theorem own_callP (X : Stand p l e R s m args below meth c T locs cells slots) (hx : p.tables.exec = Jvm.exec) (hZ : Z.Warmed39 s.vm) {own : String} {index : Nat} {y : MethodName} {bytes : ByteArray} {maxL : Nat} {ret : Option FieldType}
    (hown : s.vm.findClass own = some m.cls) (w1 : (Cond.methodLink own index y).before a0 Z = true) (w2 : (Cond.instanceMethod y).before a0 Z = true) {kk : Nat} (w3 : (Cond.instantiable y.cls kk).before a0 Z = true) (w4 : (Cond.privateMethod y).before a0 Z = true) (w5 : (Cond.code y bytes maxL ret).before a0 Z = true) (w6 : (Cond.initialized y.cls).before a0 Z = true)
    (hy : y.cls ≠ "java/lang/invoke/MethodHandle" ∧ y.cls ≠ "java/lang/invoke/VarHandle") {rm : Room} {W : Nat} {Qc : Option Value → Heap → List Loc → Prop} (eT : T.heap = h) {b : Addr} {C : String} (E : Exa Z h b C) {argsL rest : List Value}
    (hM : own_Met l Z [] y bytes maxL ret rm rm.cells rm.slots (.ref b :: argsL).toArray h Qc) (hf : rm.frames + 1 ≤ R.frames) (hl : W + (maxL + 11) + rm.locals ≤ R.locals) (hcs : cells + rm.cells ≤ R.cells) (hss : slots + rm.slots ≤ R.slots)
    {g : JFrame} (hg : g.method = m) (hsize : g.locals.size = c.maxLocals) (hlen : ∀ sig, parseMethodDescriptor y.desc = some sig → argsL.length = sig.parameters.length) (hstack : g.stack = argsL.reverse ++ .ref b :: rest)
    (hW : 2 * g.monitorRoom + (rest.map fun v => v.category).sum ≤ W) (hdg : decode c.code g.pc = .ok (.invokevirtual index, 3))
    (k : ∀ v T' L, Stand p l e R s m args below meth c T' (locs ++ L) (cells + rm.cells) (slots + rm.slots) → Qc v T'.heap L → own_Go p e s below Q kc ks T' { g with pc := g.pc + 3, stack := v.toList ++ rest }) : own_Go p e s below Q kc ks T g := by
  obtain ⟨cq, q1, q2⟩ := E.cell
  have w3' : (Cond.instantiable y.cls kk).before args s = true := mvT hZ w3
  obtain ⟨c2, k2, i1, i2, i3, i4, -⟩ := Cond.instantiable_spec w3'
  have hsel : (Cond.selects y.cls y y).before args s = true := selects_self_of_private i1 i2 (Bool.or_eq_false_iff.mp i4).1 (Cond.privateMethod_at (mvP hZ w4 (args := #[]))) (mvT hZ w2) hy
  obtain ⟨v, _, ⟨T6, L6, k6, n6⟩, -, X6, ⟨Lc6, hQ6, l6, y6, z6⟩, st6⟩ := X.privateBack hx (y := y) hown (mvT hZ w1) (mvT hZ w2) hsel (Cond.privateMethod_at (mvP hZ w4 (args := #[]))) (mvT hZ w5) hy (backOf (W := W) hM hZ w5 w6 hf hl) hg hsize (Steps.refl _) (a := b) (by rw [eT]; exact q1) q2 (argsL := argsL) (rest := rest) hlen hstack hW hdg (fun _ _ => ⟨rfl, eT, hcs, hss⟩)
  dsimp only [Pt.U, Pt.locs, Pt.cells, Pt.slots] at X6 l6 y6 z6 st6 hQ6
  subst l6 y6 z6
  exact own_st (fun _ q => st6.trans q) (k v T6 Lc6 X6 hQ6)
end Own
end Jvm.RoadKit
namespace Jvm.RoadKit
open Sem ClassFile Op Lib Jvm.Stand Jvm.Free Jvm.LawKit
section OwnArr
variable {p : Program} {l : Launch} {e : Env} {R : Room} {s : State} {m : MethodId} {args : Array Value} {below : List Frame} {meth : Method} {c : Code} {T T' : State} {locs : List Loc} {cells slots : Nat} {Z : State} {a0 : Array Value} {h h' : Heap} {a b : Addr} {ty : FieldType} {n j : Int32} {f g : Int32 → Value} {v : Value} {sl : Nat} {ws : List Addr}
/-- an array: its kind, its length n, and what each place holds -/
def own_A (Z : State) (h : Heap) (a : Addr) (ty : FieldType) (n : Int32) (f : Int32 → Value) : Prop := ∃ c : Cell, Arr Z h a c ty ∧ c.slots.size = n.toNatClampNeg ∧ ¬ n < 0 ∧ ∀ j : Int32, ¬ j < 0 → j < n → c.slots[j.toNatClampNeg]? = some (f j)
theorem own_A.lt (F : own_A Z h a ty n f) : a < h.size := by obtain ⟨c, A, -⟩ := F; exact A.lt
theorem own_A.ext (E : Ext h h') (F : own_A Z h a ty n f) : own_A Z h' a ty n f := by obtain ⟨c, A, r⟩ := F; exact ⟨c, A.ext E, r⟩
theorem own_A.other (W : Wr h h' a sl v) (F : own_A Z h b ty n f) (q : b ≠ a) : own_A Z h' b ty n f := by obtain ⟨c, A, r⟩ := F; exact ⟨c, A.other W q, r⟩
theorem own_A.keep (K : Keep h h' ws) (F : own_A Z h a ty n f) (q : a ∉ ws) : own_A Z h' a ty n f := by obtain ⟨c, A, r⟩ := F; exact ⟨c, ⟨K.2.1 a c A.1 q, A.2⟩, r⟩
theorem own_A.congr (F : own_A Z h a ty n f) (q : ∀ j, ¬ j < 0 → j < n → f j = g j) : own_A Z h a ty n g := by obtain ⟨c, A, r1, r2, r3⟩ := F; exact ⟨c, A, r1, r2, fun j h1 h2 => by rw [← q j h1 h2]; exact r3 j h1 h2⟩
theorem own_A.new {k : ClassId} (A : Arr Z h a (newA k ty n) ty) (q : ¬ n < 0) : own_A Z h a ty n (fun _ => defaultValue ty) :=
  ⟨_, A, sz_new _ _ _, q, fun j h1 h2 => get_new (by
    have := inb_of (c := newA k ty n) (z := n) (j := j) (sz_new _ _ _) ⟨h1, h2⟩
    rw [sz_new] at this; exact this)⟩
theorem own_A.set {c : Cell} (A : Arr Z h a c ty) (S : c.slots.size = n.toNatClampNeg) (M : ¬ n < 0) (H : ∀ j : Int32, ¬ j < 0 → j < n → c.slots[j.toNatClampNeg]? = some (f j)) (q1 : ¬ j < 0) (q2 : j < n) (W : Wr h h' a j.toNatClampNeg v) : own_A Z h' a ty n (fun i => if i = j then v else f i) := by
  refine ⟨_, A.same W, by rw [sz_set]; exact S, M, fun i h1 h2 => ?_⟩
  show _ = some (if i = j then v else f i)
  by_cases u : i = j
  · rw [if_pos u]; exact get_hit (inb_of S ⟨q1, q2⟩) u
  · rw [if_neg u, get_miss q1 h1 u]; exact H i h1 h2
def own_up {α : Type} (f : Int32 → α) (j : Int32) (x : α) : Int32 → α := fun i => if i = j then x else f i
theorem own_A.upI {H : Int32 → Int32} {x : Int32} (F : own_A Z h a ty n (fun i => if i = j then (.int x) else (.int (H i)))) : own_A Z h a ty n (fun i => .int (own_up H j x i)) := F.congr fun i _ _ => by unfold own_up; split <;> rfl
theorem own_A.upJ {H : Int32 → Int64} {x : Int64} (F : own_A Z h a ty n (fun i => if i = j then (.long x) else (.long (H i)))) : own_A Z h a ty n (fun i => .long (own_up H j x i)) := F.congr fun i _ _ => by unfold own_up; split <;> rfl
end OwnArr
end Jvm.RoadKit
namespace Jvm.RoadKit
open Sem ClassFile Op Lib Jvm.Stand Jvm.Free Jvm.LawKit
section OwnRef
variable {p : Program} {l : Launch} {e : Env} {R : Room} {s : State} {m : MethodId} {args : Array Value} {below : List Frame} {meth : Method} {c : Code} {T T' : State} {locs : List Loc} {cells slots : Nat} {Z : State} {a0 : Array Value} {h : Heap} {Q : Option Value → Heap → List Loc → Prop} {kc ks : Nat}
/-- behind the instruction's own step (the method mk is invoked with these arguments): by the callee's contract -/
theorem own_enter (X : Stand p l e R s m args below meth c T locs cells slots) (hZ : Z.Warmed39 s.vm) {y : MethodName} {bytes : ByteArray} {maxL : Nat} {ret : Option FieldType} {mk : MethodId} (hnamed : s.methodNamed? y = some mk)
    (w5 : (Cond.code y bytes maxL ret).before a0 Z = true) (w6 : (Cond.initialized y.cls).before a0 Z = true) {rm : Room} {W : Nat} {Qc : Option Value → Heap → List Loc → Prop} (eT : T.heap = h) {as' : Array Value} {rest : List Value}
    (hM : own_Met l Z [] y bytes maxL ret rm rm.cells rm.slots as' h Qc) (hf : rm.frames + 1 ≤ R.frames) (hl : W + (maxL + 11) + rm.locals ≤ R.locals) (hcs : cells + rm.cells ≤ R.cells) (hss : slots + rm.slots ≤ R.slots)
    {g : JFrame} (hg : g.method = m) (hsize : g.locals.size = c.maxLocals) (hW : 2 * g.monitorRoom + (rest.map fun v => v.category).sum ≤ W) {ig : Instr} (hdg : decode c.code g.pc = .ok (ig, 3))
    {vm₁ : Vm} (X₁ : Stand p l e R s m args below meth c (T.setVm vm₁) locs cells slots)
    (hstep : ∀ target, (∀ acts, Steps p.tables e below (doInvoke e ((T.setVm vm₁).setTop { g with stack := rest }) acts mk as').1 target) → Steps p.tables e below (T.setTop g) target)
    (k : ∀ v T' L, Stand p l e R s m args below meth c T' (locs ++ L) (cells + rm.cells) (slots + rm.slots) → Qc v T'.heap L → own_Go p e s below Q kc ks T' { g with pc := g.pc + 3, stack := v.toList ++ rest }) : own_Go p e s below Q kc ks T g := by
  obtain ⟨v, ⟨T6, L6, k6, n6⟩, X6, ⟨Lc6, hQ6, l6, y6, z6⟩, st6⟩ := backOf (W := W) (len := 3) (below := below) (p := p) (e := e) (args := args) hM hZ w5 w6 hf hl m meth c ⟨T.setVm vm₁, locs, cells, slots⟩ { g with stack := rest } ig mk as' X₁ hg hsize hdg hW (X₁.named hnamed) ⟨rfl, eT, hcs, hss⟩
  dsimp only [Pt.U, Pt.locs, Pt.cells, Pt.slots] at X6 l6 y6 z6 st6 hQ6
  subst l6 y6 z6
  exact own_st (fun _ q => hstep _ fun acts => by rw [doInvoke_state]; exact st6.trans q) (k v T6 Lc6 X6 hQ6)
/-- a reference that is resolved already, where the walk stands -/
theorem own_ref (X : Stand p l e R s m args below meth c T locs cells slots) (hZ : Z.Warmed39 s.vm) {own : String} {index : Nat} {y : MethodName} {mk : MethodId} (hown : s.vm.findClass own = some m.cls) (w1 : (Cond.methodRef own index y).before a0 Z = true) (hnZ : Z.methodNamed? y = some mk)
    (hy : y.cls ≠ "java/lang/invoke/MethodHandle" ∧ y.cls ≠ "java/lang/invoke/VarHandle") : T.vm.methodReady m.cls index mk ∧ namesResolved T.vm m.cls index mk.cls ∧ s.methodNamed? y = some mk := by
  have hWT : Z.Warmed39 T.vm := wtrans hZ X.warmed
  have hT := Cond.methodRef_warmed39 hWT hnZ hy w1
  have hcur : (Z.setVm T.vm).vm.findClass own = some m.cls := by
    show T.vm.findClass own = some m.cls
    rw [X.warmed.alike.findClass]; exact hown
  obtain ⟨m', c', hm, hready, hfind, hres⟩ := Cond.methodRef_named e hcur hT
  have hn1 : (Z.setVm T.vm).methodNamed? y = some mk := by rw [State.methodNamed?_setVm hWT.alike]; exact hnZ
  have hn2 : s.methodNamed? y = some mk := by
    have : (Z.setVm s.vm).methodNamed? y = some mk := by rw [State.methodNamed?_setVm hZ.alike]; exact hnZ
    exact this
  cases (State.methodFound?_of_named hn1 hy).symm.trans hm
  cases (findClass_of_methodNamed hn1).symm.trans hfind
  exact ⟨hready, hres, hn2⟩
theorem own_callCR (X : Stand p l e R s m args below meth c T locs cells slots) (hx : p.tables.exec = Jvm.exec) (hZ : Z.Warmed39 s.vm) {own : String} {index : Nat} {y : MethodName} {bytes : ByteArray} {maxL : Nat} (hy1 : y.name = "<init>")
    (hown : s.vm.findClass own = some m.cls) (w1 : (Cond.methodRef own index y).before a0 Z = true) (w2 : (Cond.instanceMethod y).before a0 Z = true) (w3 : (Cond.code y bytes maxL none).before a0 Z = true) (w4 : (Cond.initialized y.cls).before a0 Z = true)
    (hy : y.cls ≠ "java/lang/invoke/MethodHandle" ∧ y.cls ≠ "java/lang/invoke/VarHandle") {rm : Room} {W : Nat} {Qc : Option Value → Heap → List Loc → Prop} (eT : T.heap = h) {b : Addr} {argsL rest : List Value}
    (hM : own_Met l Z [] y bytes maxL none rm rm.cells rm.slots (.ref b :: argsL).toArray h Qc) (hf : rm.frames + 1 ≤ R.frames) (hl : W + (maxL + 11) + rm.locals ≤ R.locals) (hcs : cells + rm.cells ≤ R.cells) (hss : slots + rm.slots ≤ R.slots)
    {g : JFrame} (hg : g.method = m) (hsize : g.locals.size = c.maxLocals) (hlen : ∀ sig, parseMethodDescriptor y.desc = some sig → argsL.length = sig.parameters.length) (hstack : g.stack = argsL.reverse ++ .ref b :: rest)
    (hW : 2 * g.monitorRoom + (rest.map fun v => v.category).sum ≤ W) (hdg : decode c.code g.pc = .ok (.invokespecial index, 3))
    (k : ∀ v T' L, Stand p l e R s m args below meth c T' (locs ++ L) (cells + rm.cells) (slots + rm.slots) → Qc v T'.heap L → own_Go p e s below Q kc ks T' { g with pc := g.pc + 3, stack := v.toList ++ rest }) : own_Go p e s below Q kc ks T g := by
  obtain ⟨mk, methM, hnZ, -, -, -⟩ := Cond.instanceMethod_spec w2
  obtain ⟨hready, hres, hnamed⟩ := own_ref X hZ hown w1 hnZ hy
  have w2s : (Cond.instanceMethod y).before args s = true := mvT hZ w2
  have w3s : (Cond.code y bytes maxL none).before args s = true := mvT hZ w3
  obtain ⟨mk', methS, hn', hmS, hstS, habS⟩ := Cond.instanceMethod_spec w2s
  cases hnamed.symm.trans hn'
  obtain ⟨methS', cS, hmS', -, -, -, -, -, -, hsigS⟩ := Cond.code_spec hnamed w3s
  cases hmS.symm.trans hmS'
  obtain ⟨kS, hkS, -⟩ := className_of_methodNamed hnamed
  obtain ⟨hnm, hdesc⟩ := name_of_methodNamed hnamed hmS
  obtain ⟨kT, hkT, -⟩ := X.warmed.alike.2.2 _ _ hkS
  have hmT : T.vm.method? mk = some methS := by rw [X.warmed.alike.method?]; exact hmS
  have hfound : lookupSpecial T.vm mk.cls "<init>" methS.desc = .method mk := by
    rw [X.warmed.alike.lookupSpecial, hdesc, ← hy1]; exact lookupSpecial_of_named hnamed hmS hstS
  subst hg
  refine own_enter (vm₁ := T.vm) X hZ hnamed w3 w4 eT hM hf hl hcs hss rfl hsize hW hdg X (fun target hrest => ?_) k
  jvm_step X.here [hx, hdg, invokespecial.wp_init (e := e) (s := T) (k := kT) (meth := methS) (m := mk) (a := b) (args := argsL) (rest := rest) (f := g) X.here.top hres hready hkT hmT (by rw [hnm]; exact hy1) hstS habS hfound (hlen _ hsigS) hstack]
  exact hrest
theorem own_callPR (X : Stand p l e R s m args below meth c T locs cells slots) (hx : p.tables.exec = Jvm.exec) (hZ : Z.Warmed39 s.vm) {own : String} {index : Nat} {y : MethodName} {bytes : ByteArray} {maxL : Nat} {ret : Option FieldType}
    (hown : s.vm.findClass own = some m.cls) (w1 : (Cond.methodRef own index y).before a0 Z = true) (w2 : (Cond.instanceMethod y).before a0 Z = true) {kk : Nat} (w3 : (Cond.instantiable y.cls kk).before a0 Z = true) (w4 : (Cond.privateMethod y).before a0 Z = true) (w5 : (Cond.code y bytes maxL ret).before a0 Z = true) (w6 : (Cond.initialized y.cls).before a0 Z = true)
    (hy : y.cls ≠ "java/lang/invoke/MethodHandle" ∧ y.cls ≠ "java/lang/invoke/VarHandle") {rm : Room} {W : Nat} {Qc : Option Value → Heap → List Loc → Prop} (eT : T.heap = h) {b : Addr} {C : String} (E : Exa Z h b C) {argsL rest : List Value}
    (hM : own_Met l Z [] y bytes maxL ret rm rm.cells rm.slots (.ref b :: argsL).toArray h Qc) (hf : rm.frames + 1 ≤ R.frames) (hl : W + (maxL + 11) + rm.locals ≤ R.locals) (hcs : cells + rm.cells ≤ R.cells) (hss : slots + rm.slots ≤ R.slots)
    {g : JFrame} (hg : g.method = m) (hsize : g.locals.size = c.maxLocals) (hlen : ∀ sig, parseMethodDescriptor y.desc = some sig → argsL.length = sig.parameters.length) (hstack : g.stack = argsL.reverse ++ .ref b :: rest)
    (hW : 2 * g.monitorRoom + (rest.map fun v => v.category).sum ≤ W) (hdg : decode c.code g.pc = .ok (.invokevirtual index, 3))
    (k : ∀ v T' L, Stand p l e R s m args below meth c T' (locs ++ L) (cells + rm.cells) (slots + rm.slots) → Qc v T'.heap L → own_Go p e s below Q kc ks T' { g with pc := g.pc + 3, stack := v.toList ++ rest }) : own_Go p e s below Q kc ks T g := by
  obtain ⟨mk, methM, hnZ, -, -, -⟩ := Cond.instanceMethod_spec w2
  obtain ⟨hready, hres, hnamed⟩ := own_ref X hZ hown w1 hnZ hy
  obtain ⟨cq, q1, q2⟩ := E.cell
  have w2s : (Cond.instanceMethod y).before args s = true := mvT hZ w2
  have w3s : (Cond.instantiable y.cls kk).before args s = true := mvT hZ w3
  have w5s : (Cond.code y bytes maxL ret).before args s = true := mvT hZ w5
  obtain ⟨mk', methS, hn', hmS, hstS, habS⟩ := Cond.instanceMethod_spec w2s
  cases hnamed.symm.trans hn'
  obtain ⟨methS', cS, hmS', -, -, -, -, -, -, hsigS⟩ := Cond.code_spec hnamed w5s
  cases hmS.symm.trans hmS'
  obtain ⟨c2, k2, i1, i2, i3, i4, -⟩ := Cond.instantiable_spec w3s
  have hc2 : mk.cls = c2 := Option.some.inj ((findClass_of_methodNamed hnamed).symm.trans i1)
  subst hc2
  obtain ⟨kT, hkT, hkE⟩ := X.warmed.alike.2.2 _ _ i2
  have hni : kT.isInterface = false := by rw [hkE]; exact (Bool.or_eq_false_iff.mp i4).1
  have hmT : T.vm.method? mk = some methS := by rw [X.warmed.alike.method?]; exact hmS
  have hpriv : s.PrivateAt y := Cond.privateMethod_at (mvP hZ w4 (args := #[]))
  have hselS : selectMethod e.platform s.vm cq.cls mk = .method mk := selectMethod_private hmS (hpriv mk methS hnamed hmS)
  have hselT : selectMethod e.platform T.vm cq.cls mk = .method mk := by rw [X.warmed.alike.selectMethod]; exact hselS
  have hnameT : kT.name = y.cls := by
    obtain ⟨kx, hkx, hnx⟩ := className_of_methodNamed hnamed
    cases i2.symm.trans hkx
    rw [hkE]; exact hnx
  have hpoly : signaturePolymorphic kT methS = false := by simp [signaturePolymorphic, hnameT, hy.1, hy.2]
  subst hg
  refine own_enter (vm₁ := T.vm) X hZ hnamed w5 w6 eT hM hf hl hcs hss rfl hsize hW hdg X (fun target hrest => ?_) k
  jvm_step X.here [hx, hdg, invokevirtual.wp_named (e := e) (s := T) (f := g) (r := mk) (m := mk) (c' := mk.cls) (k := kT) (k' := kT) (mk := kT) (rmeth := methS) (meth := methS) (a := b) (args := argsL) (rest := rest) (cell := cq) X.here.top hres hkT hni hready hkT hmT hpoly hstS (hlen _ hsigS) hstack (by rw [eT]; exact q1) q2 hselT hmT habS hkT hni]
  exact hrest
theorem own_callPN (X : Stand p l e R s m args below meth c T locs cells slots) (hx : p.tables.exec = Jvm.exec) (hZ : Z.Warmed39 s.vm) {own host : String} {index : Nat} {y : MethodName} {bytes : ByteArray} {maxL : Nat} {ret : Option FieldType}
    (hown : s.vm.findClass own = some m.cls) (w1 : (Cond.methodLinkNest own index y host).before a0 Z = true) (w2 : (Cond.instanceMethod y).before a0 Z = true) {kk : Nat} (w3 : (Cond.instantiable y.cls kk).before a0 Z = true) (w4 : (Cond.privateMethod y).before a0 Z = true) (w5 : (Cond.code y bytes maxL ret).before a0 Z = true) (w6 : (Cond.initialized y.cls).before a0 Z = true)
    (hy : y.cls ≠ "java/lang/invoke/MethodHandle" ∧ y.cls ≠ "java/lang/invoke/VarHandle") {rm : Room} {W : Nat} {Qc : Option Value → Heap → List Loc → Prop} (eT : T.heap = h) {b : Addr} {C : String} (E : Exa Z h b C) {argsL rest : List Value}
    (hM : own_Met l Z [] y bytes maxL ret rm rm.cells rm.slots (.ref b :: argsL).toArray h Qc) (hf : rm.frames + 1 ≤ R.frames) (hl : W + (maxL + 11) + rm.locals ≤ R.locals) (hcs : cells + rm.cells ≤ R.cells) (hss : slots + rm.slots ≤ R.slots)
    {g : JFrame} (hg : g.method = m) (hsize : g.locals.size = c.maxLocals) (hlen : ∀ sig, parseMethodDescriptor y.desc = some sig → argsL.length = sig.parameters.length) (hstack : g.stack = argsL.reverse ++ .ref b :: rest)
    (hW : 2 * g.monitorRoom + (rest.map fun v => v.category).sum ≤ W) (hdg : decode c.code g.pc = .ok (.invokevirtual index, 3))
    (k : ∀ v T' L, Stand p l e R s m args below meth c T' (locs ++ L) (cells + rm.cells) (slots + rm.slots) → Qc v T'.heap L → own_Go p e s below Q kc ks T' { g with pc := g.pc + 3, stack := v.toList ++ rest }) : own_Go p e s below Q kc ks T g := by
  obtain ⟨cq, q1, q2⟩ := E.cell
  have w1s : (Cond.methodLinkNest own index y host).before args s = true := (Cond.methodLinkNest_wide hZ w1 :)
  have w2s : (Cond.instanceMethod y).before args s = true := mvT hZ w2
  have w3s : (Cond.instantiable y.cls kk).before args s = true := mvT hZ w3
  have w5s : (Cond.code y bytes maxL ret).before args s = true := mvT hZ w5
  obtain ⟨mk, methS, hnamed, hmS, hstS, habS⟩ := Cond.instanceMethod_spec w2s
  obtain ⟨methS', cS, hmS', -, -, -, -, -, -, hsigS⟩ := Cond.code_spec hnamed w5s
  cases hmS.symm.trans hmS'
  obtain ⟨c2, k2, i1, i2, i3, i4, -⟩ := Cond.instantiable_spec w3s
  have hc2 : mk.cls = c2 := Option.some.inj ((findClass_of_methodNamed hnamed).symm.trans i1)
  subst hc2
  have hpriv : s.PrivateAt y := Cond.privateMethod_at (mvP hZ w4 (args := #[]))
  have hselS : selectMethod e.platform s.vm cq.cls mk = .method mk := selectMethod_private hmS (hpriv mk methS hnamed hmS)
  obtain ⟨vm₁, X₁, hstep₁⟩ := X.invokevirtualNest hx hown w1s hnamed hmS hstS i2 (Bool.or_eq_false_iff.mp i4).1 hy (a := b) (cell := cq) (by rw [eT]; exact q1) q2 hselS hmS habS i2 (Bool.or_eq_false_iff.mp i4).1 (g := g) hg (argsL := argsL) (rest := rest) (hlen _ hsigS) hstack hdg
  exact own_enter X hZ hnamed w5 w6 eT hM hf hl hcs hss hg hsize hW hdg X₁ hstep₁ k
end OwnRef
end Jvm.RoadKit
namespace Jvm.Pilot.@@N@@
open Jvm Jvm.ClassFile Sem Op Lib Jvm.Free Jvm.Stand Jvm.LawKit Jvm.RoadKit Bundle Jvm.Pilot.@@N@@.Jvm.D
theorem own_w {Z : State} {a0 : Array Value} (hw : ∀ d ∈ tables_1, d.before a0 Z = true) (i : Nat) {d : Jvm.Cond} (q : tables_1[i]? = some d) : d.before a0 Z = true := hw d (List.mem_of_getElem? q)
theorem own_pd0 : parseMethodDescriptor "(II)I" = some ⟨[.int, .int], some .int⟩ := by decide +kernel
theorem own_pd1 : parseMethodDescriptor "(I)V" = some ⟨[.int], none⟩ := by decide +kernel
theorem own_pd2 : parseMethodDescriptor "()V" = some ⟨[], none⟩ := by decide +kernel
theorem own_pd3 : parseMethodDescriptor "()I" = some ⟨[], some .int⟩ := by decide +kernel
theorem own_pd4 : parseMethodDescriptor "(Lcom/example/procurator/procurator/model/RelationGraph$Steps;)V" = some ⟨[(.object "com/example/procurator/procurator/model/RelationGraph$Steps")], none⟩ := by decide +kernel
theorem own_pd5 : parseMethodDescriptor "()[I" = some ⟨[], some (.array .int)⟩ := by decide +kernel
theorem own_pd6 : parseMethodDescriptor "(II)Z" = some ⟨[.int, .int], some .boolean⟩ := by decide +kernel
theorem own_pd7 : parseMethodDescriptor "([III)Z" = some ⟨[(.array .int), .int, .int], some .boolean⟩ := by decide +kernel
abbrev own_CS := (Int32 → Int32) × (Int32 → Int32) × (Int32 → Int32) × (Int32 → Int32) × (Int32 → Int32) × (Int32 → Int32) × (Int32 → Int32) × Int32 × Int32 × Int32 × Int32
def own_CW (Z : State) (h : Heap) (so oF oT cw a1 a2 a3 a4 a5 a6 a7 : Addr) (fF fT : Int32 → Int32) (q : own_CS) : Prop :=
  Exa Z h so "com/example/procurator/procurator/model/RelationGraph$Steps" ∧ Fld Z h so "com/example/procurator/procurator/model/RelationGraph$Steps" "first" "[I" (.ref oF) ∧ Fld Z h so "com/example/procurator/procurator/model/RelationGraph$Steps" "to" "[I" (.ref oT) ∧ own_A Z h oF .int (4 : Int32) (fun i => (.int (fF i))) ∧ own_A Z h oT .int (3 : Int32) (fun i => (.int (fT i))) ∧ Exa Z h cw "com/example/procurator/procurator/model/RelationGraph$CircleWalk" ∧ Fld Z h cw "com/example/procurator/procurator/model/RelationGraph$CircleWalk" "steps" "Lcom/example/procurator/procurator/model/RelationGraph$Steps;" (.ref so) ∧ Fld Z h cw "com/example/procurator/procurator/model/RelationGraph$CircleWalk" "entered" "[I" (.ref a1) ∧ Fld Z h cw "com/example/procurator/procurator/model/RelationGraph$CircleWalk" "earliest" "[I" (.ref a2) ∧ Fld Z h cw "com/example/procurator/procurator/model/RelationGraph$CircleWalk" "nextStep" "[I" (.ref a3) ∧ Fld Z h cw "com/example/procurator/procurator/model/RelationGraph$CircleWalk" "circleOf" "[I" (.ref a4) ∧ Fld Z h cw "com/example/procurator/procurator/model/RelationGraph$CircleWalk" "open" "[Z" (.ref a5) ∧ Fld Z h cw "com/example/procurator/procurator/model/RelationGraph$CircleWalk" "unclosed" "[I" (.ref a6) ∧ Fld Z h cw "com/example/procurator/procurator/model/RelationGraph$CircleWalk" "path" "[I" (.ref a7) ∧ Fld Z h cw "com/example/procurator/procurator/model/RelationGraph$CircleWalk" "unclosedSize" "I" (.int q.2.2.2.2.2.2.2.1) ∧ Fld Z h cw "com/example/procurator/procurator/model/RelationGraph$CircleWalk" "pathSize" "I" (.int q.2.2.2.2.2.2.2.2.1) ∧ Fld Z h cw "com/example/procurator/procurator/model/RelationGraph$CircleWalk" "entries" "I" (.int q.2.2.2.2.2.2.2.2.2.1) ∧ Fld Z h cw "com/example/procurator/procurator/model/RelationGraph$CircleWalk" "circles" "I" (.int q.2.2.2.2.2.2.2.2.2.2) ∧ own_A Z h a1 .int (3 : Int32) (fun i => (.int (q.1 i))) ∧ own_A Z h a2 .int (3 : Int32) (fun i => (.int (q.2.1 i))) ∧ own_A Z h a3 .int (3 : Int32) (fun i => (.int (q.2.2.1 i))) ∧ own_A Z h a4 .int (3 : Int32) (fun i => (.int (q.2.2.2.1 i))) ∧ own_A Z h a5 .boolean (3 : Int32) (fun i => (.int (q.2.2.2.2.1 i))) ∧ own_A Z h a6 .int (3 : Int32) (fun i => (.int (q.2.2.2.2.2.1 i))) ∧ own_A Z h a7 .int (3 : Int32) (fun i => (.int (q.2.2.2.2.2.2.1 i)))
abbrev own_in3 (x : Int32) : Prop := ¬ x < 0 ∧ x < 3
def own_mn (x y : Int32) : Int32 := if y < x then y else x
def own_ent (fF : Int32 → Int32) (q : own_CS) (r : Int32) : own_CS :=
  match q with
  | (fE, fL, fN, fC, fO, fU, fP, us, ps, en, ci) => (own_up fE r (en + 1), own_up fL r (en + 1), own_up fN r (fF r), fC, own_up fO r 1, own_up fU us r, own_up fP ps r, us + 1, ps + 1, en + 1, ci)
def own_cl : Nat → own_CS → Int32 → Option own_CS
  | 0, _, _ => none
  | n + 1, (fE, fL, fN, fC, fO, fU, fP, us, ps, en, ci), r =>
    if own_in3 (us - 1) then
      if own_in3 (fU (us - 1)) then
        if fU (us - 1) = r then some (fE, fL, fN, own_up fC (fU (us - 1)) ci, own_up fO (fU (us - 1)) 0, fU, fP, us - 1, ps, en, ci)
        else own_cl n (fE, fL, fN, own_up fC (fU (us - 1)) ci, own_up fO (fU (us - 1)) 0, fU, fP, us - 1, ps, en, ci) r
      else none
    else none
def own_fi (q : own_CS) (r : Int32) : Option own_CS :=
  match q with
  | (fE, fL, fN, fC, fO, fU, fP, us, ps, en, ci) =>
    if (0 : Int32) < ps then
      if own_in3 (ps - 1) then
        if own_in3 (fP (ps - 1)) then some (fE, own_up fL (fP (ps - 1)) (own_mn (fL (fP (ps - 1))) (fL r)), fN, fC, fO, fU, fP, us, ps, en, ci) else none
      else none
    else some (fE, fL, fN, fC, fO, fU, fP, us, ps, en, ci)
def own_inc (q : own_CS) : own_CS :=
  match q with
  | (fE, fL, fN, fC, fO, fU, fP, us, ps, en, ci) => (fE, fL, fN, fC, fO, fU, fP, us, ps, en, ci + 1)
def own_lv (q : own_CS) (r : Int32) : Option own_CS :=
  match q with
  | (fE, fL, fN, fC, fO, fU, fP, us, ps, en, ci) =>
    if own_in3 r then
      if fL r = fE r then
        match own_cl 4 (fE, fL, fN, fC, fO, fU, fP, us, ps - 1, en, ci) r with
        | some q2 => own_fi (own_inc q2) r
        | none => none
      else own_fi (fE, fL, fN, fC, fO, fU, fP, us, ps - 1, en, ci) r
    else none
def own_fo (fF fT : Int32 → Int32) : Nat → own_CS → Option own_CS
  | 0, _ => none
  | n + 1, (fE, fL, fN, fC, fO, fU, fP, us, ps, en, ci) =>
    if (0 : Int32) < ps then
      if own_in3 (ps - 1) then
        if own_in3 (fP (ps - 1)) then
          if fN (fP (ps - 1)) = fF (fP (ps - 1) + 1) then
            match own_lv (fE, fL, fN, fC, fO, fU, fP, us, ps, en, ci) (fP (ps - 1)) with
            | some q2 => own_fo fF fT n q2
            | none => none
          else
            if own_in3 (fN (fP (ps - 1))) then
              if own_in3 (fT (fN (fP (ps - 1)))) then
                if fE (fT (fN (fP (ps - 1)))) = 0 then
                  if own_in3 us ∧ own_in3 ps then own_fo fF fT n (own_ent fF (fE, fL, own_up fN (fP (ps - 1)) (fN (fP (ps - 1)) + 1), fC, fO, fU, fP, us, ps, en, ci) (fT (fN (fP (ps - 1))))) else none
                else
                  if fO (fT (fN (fP (ps - 1)))) = 0 then own_fo fF fT n (fE, fL, own_up fN (fP (ps - 1)) (fN (fP (ps - 1)) + 1), fC, fO, fU, fP, us, ps, en, ci)
                  else own_fo fF fT n (fE, own_up fL (fP (ps - 1)) (own_mn (fL (fP (ps - 1))) (fE (fT (fN (fP (ps - 1)))))), own_up fN (fP (ps - 1)) (fN (fP (ps - 1)) + 1), fC, fO, fU, fP, us, ps, en, ci)
              else none
            else none
        else none
      else none
    else some (fE, fL, fN, fC, fO, fU, fP, us, ps, en, ci)
def own_s1 (fF fT : Int32 → Int32) (q : own_CS) (k : Int32) : Option own_CS :=
  match q with
  | (fE, fL, fN, fC, fO, fU, fP, us, ps, en, ci) =>
    if fE k = 0 then
      if own_in3 us ∧ own_in3 ps then own_fo fF fT 16 (own_ent fF (fE, fL, fN, fC, fO, fU, fP, us, ps, en, ci) k) else none
    else some (fE, fL, fN, fC, fO, fU, fP, us, ps, en, ci)
theorem own_ifs {P : Prop} [Decidable P] {x : Option own_CS} {q : own_CS} (h : (if P then x else none) = some q) : P ∧ x = some q := by
  by_cases p : P
  · rw [if_pos p] at h; exact ⟨p, h⟩
  · rw [if_neg p] at h; cases h
theorem own_nd {L : List Addr} (hd : L.Nodup) {x y : Addr} (i j : Nat) (hij : i ≠ j) (hi : L[i]? = some x) (hj : L[j]? = some y) : x ≠ y := by
  obtain ⟨hi', rfl⟩ := List.getElem?_eq_some_iff.mp hi
  obtain ⟨hj', rfl⟩ := List.getElem?_eq_some_iff.mp hj
  rcases Nat.lt_or_gt_of_ne hij with u | u
  · exact (List.pairwise_iff_getElem.mp hd) i j hi' hj' u
  · exact Ne.symm ((List.pairwise_iff_getElem.mp hd) j i hj' hi' u)
theorem own_in4 {x : Int32} (h : own_in3 x) : ¬ x < 0 ∧ x < 4 := by
  refine ⟨h.1, ?_⟩
  have a := h.2
  rw [Int32.lt_iff_toInt_lt] at *
  have z : (3 : Int32).toInt = 3 := rfl
  have z4 : (4 : Int32).toInt = 4 := rfl
  omega
theorem own_in4' {x : Int32} (h : own_in3 x) : ¬ (x + (1 : Int32)) < 0 ∧ (x + (1 : Int32)) < 4 := by
  obtain ⟨a, b⟩ := h
  simp only [Int32.lt_iff_toInt_lt] at *
  have z : (3 : Int32).toInt = 3 := rfl
  have z4 : (4 : Int32).toInt = 4 := rfl
  have z0 : (0 : Int32).toInt = 0 := rfl
  have z1 : (1 : Int32).toInt = 1 := rfl
  have c := c_iadd x (1 : Int32)
  have r := rng32 (x + (1 : Int32))
  omega
theorem dmi_0 : decode jdk_29_method_69_code 0 = .ok (.iload_n 0, 1) := by decide +kernel
theorem dmi_1 : decode jdk_29_method_69_code 1 = .ok (.iload_n 1, 1) := by decide +kernel
theorem dmi_2 : decode jdk_29_method_69_code 2 = .ok (.if_icmp .gt 7, 3) := by decide +kernel
theorem dmi_5 : decode jdk_29_method_69_code 5 = .ok (.iload_n 0, 1) := by decide +kernel
theorem dmi_6 : decode jdk_29_method_69_code 6 = .ok (.goto 4, 3) := by decide +kernel
theorem dmi_9 : decode jdk_29_method_69_code 9 = .ok (.iload_n 1, 1) := by decide +kernel
theorem dmi_10 : decode jdk_29_method_69_code 10 = .ok (.ireturn, 1) := by decide +kernel

theorem ef_mi (m : MethodId) (x0 : Int32) (x1 : Int32) : entryFrame m #[(.int x0), (.int x1)] 2 = mkF m 0 #[.val (.int x0), .val (.int x1)] [] := by first | (simp [entryFrame, mkF, argsToLocals, Value.category]; done) | rfl
set_option maxRecDepth 65536 in
set_option maxHeartbeats 40000000 in
theorem rmmi (l : Launch) (Z : State) (a0 : Array Value) (hw : ∀ d ∈ tables_1, d.before a0 Z = true) (ws : List Jvm.Cond) (p0 p1 : Int32) (h0 : Heap) (n0 : Nat) (Z0 : n0 ≤ h0.size)  :
    own_Met l Z ws (⟨"java/lang/Math", "min", "(II)I"⟩ : MethodName) jdk_29_method_69_code 2 (some .int) ({ frames := 0, cells := 0, slots := 0, locals := 0 } : Room) ({ frames := 0, cells := 0, slots := 0, locals := 0 } : Room).cells ({ frames := 0, cells := 0, slots := 0, locals := 0 } : Room).slots #[(.int p0), (.int p1)] h0 (fun v h L => v = some (.int (own_mn p0 p1)) ∧ Fr n0 L ∧ h = h0) := by
  refine own_body (Jvm.Free.JP.mathPlain rfl (by decide +kernel)) ?_
  intro p e s m below meth c s₁ hx hby hml hown hnm hlk hret hZ hh X0 e0
  have N0 := Fr.nil n0
  refine own_cast (ef_mi m p0 p1) ?_
  refine own_st (T' := s₁) (g' := (mkF m 1 #[.val (.int p0), .val (.int p1)] [(.int p0)])) (fun _ k => XS.iloadN X0.here hx rfl (hb hby dmi_0) rfl k) ?_
  refine own_st (T' := s₁) (g' := (mkF m 2 #[.val (.int p0), .val (.int p1)] [(.int p1), (.int p0)])) (fun _ k => XS.iloadN X0.here hx rfl (hb hby dmi_1) rfl k) ?_
  by_cases hc2_1 : p1 < p0
  · refine own_st (T' := s₁) (g' := (mkF m 9 #[.val (.int p0), .val (.int p1)] [])) (fun _ k => XS.icmpYes X0.here hx rfl (pc0 := 2) (pc' := 9) rfl (hb hby dmi_2) rfl (tlt hc2_1).2.2.1 (by decide) (by decide) k) ?_
    refine own_st (T' := s₁) (g' := (mkF m 10 #[.val (.int p0), .val (.int p1)] [(.int p1)])) (fun _ k => XS.iloadN X0.here hx rfl (hb hby dmi_9) rfl k) ?_
    exact own_retI X0 hx hlk hret (hb hby dmi_10) ⟨by unfold own_mn; rw [if_pos hc2_1], N0, e0⟩ (by decide) (by decide)
  · refine own_st (T' := s₁) (g' := (mkF m 5 #[.val (.int p0), .val (.int p1)] [])) (fun _ k => XS.icmpNo X0.here hx rfl (hb hby dmi_2) rfl (flt hc2_1).2.2.1 k) ?_
    refine own_st (T' := s₁) (g' := (mkF m 6 #[.val (.int p0), .val (.int p1)] [(.int p0)])) (fun _ k => XS.iloadN X0.here hx rfl (hb hby dmi_5) rfl k) ?_
    refine own_st (T' := s₁) (g' := (mkF m 10 #[.val (.int p0), .val (.int p1)] [(.int p0)])) (fun _ k => XS.goto X0.here hx rfl (pc0 := 6) (pc' := 10) rfl (hb hby dmi_6) (by decide) (by decide) k) ?_
    exact own_retI X0 hx hlk hret (hb hby dmi_10) ⟨by unfold own_mn; rw [if_neg hc2_1], N0, e0⟩ (by decide) (by decide)
theorem den_0 : decode prog_73_method_3_code 0 = .ok (.aload_n 0, 1) := by decide +kernel
theorem den_1 : decode prog_73_method_3_code 1 = .ok (.getfield 19, 3) := by decide +kernel
theorem den_4 : decode prog_73_method_3_code 4 = .ok (.iload_n 1, 1) := by decide +kernel
theorem den_5 : decode prog_73_method_3_code 5 = .ok (.aload_n 0, 1) := by decide +kernel
theorem den_6 : decode prog_73_method_3_code 6 = .ok (.dup, 1) := by decide +kernel
theorem den_7 : decode prog_73_method_3_code 7 = .ok (.getfield 49, 3) := by decide +kernel
theorem den_10 : decode prog_73_method_3_code 10 = .ok (.iconst 1, 1) := by decide +kernel
theorem den_11 : decode prog_73_method_3_code 11 = .ok (.iadd, 1) := by decide +kernel
theorem den_12 : decode prog_73_method_3_code 12 = .ok (.dup_x1, 1) := by decide +kernel
theorem den_13 : decode prog_73_method_3_code 13 = .ok (.putfield 49, 3) := by decide +kernel
theorem den_16 : decode prog_73_method_3_code 16 = .ok (.iastore, 1) := by decide +kernel
theorem den_17 : decode prog_73_method_3_code 17 = .ok (.aload_n 0, 1) := by decide +kernel
theorem den_18 : decode prog_73_method_3_code 18 = .ok (.getfield 23, 3) := by decide +kernel
theorem den_21 : decode prog_73_method_3_code 21 = .ok (.iload_n 1, 1) := by decide +kernel
theorem den_22 : decode prog_73_method_3_code 22 = .ok (.aload_n 0, 1) := by decide +kernel
theorem den_23 : decode prog_73_method_3_code 23 = .ok (.getfield 49, 3) := by decide +kernel
theorem den_26 : decode prog_73_method_3_code 26 = .ok (.iastore, 1) := by decide +kernel
theorem den_27 : decode prog_73_method_3_code 27 = .ok (.aload_n 0, 1) := by decide +kernel
theorem den_28 : decode prog_73_method_3_code 28 = .ok (.getfield 26, 3) := by decide +kernel
theorem den_31 : decode prog_73_method_3_code 31 = .ok (.iload_n 1, 1) := by decide +kernel
theorem den_32 : decode prog_73_method_3_code 32 = .ok (.aload_n 0, 1) := by decide +kernel
theorem den_33 : decode prog_73_method_3_code 33 = .ok (.getfield 7, 3) := by decide +kernel
theorem den_36 : decode prog_73_method_3_code 36 = .ok (.getfield 53, 3) := by decide +kernel
theorem den_39 : decode prog_73_method_3_code 39 = .ok (.iload_n 1, 1) := by decide +kernel
theorem den_40 : decode prog_73_method_3_code 40 = .ok (.iaload, 1) := by decide +kernel
theorem den_41 : decode prog_73_method_3_code 41 = .ok (.iastore, 1) := by decide +kernel
theorem den_42 : decode prog_73_method_3_code 42 = .ok (.aload_n 0, 1) := by decide +kernel
theorem den_43 : decode prog_73_method_3_code 43 = .ok (.getfield 32, 3) := by decide +kernel
theorem den_46 : decode prog_73_method_3_code 46 = .ok (.iload_n 1, 1) := by decide +kernel
theorem den_47 : decode prog_73_method_3_code 47 = .ok (.iconst 1, 1) := by decide +kernel
theorem den_48 : decode prog_73_method_3_code 48 = .ok (.bastore, 1) := by decide +kernel
theorem den_49 : decode prog_73_method_3_code 49 = .ok (.aload_n 0, 1) := by decide +kernel
theorem den_50 : decode prog_73_method_3_code 50 = .ok (.getfield 36, 3) := by decide +kernel
theorem den_53 : decode prog_73_method_3_code 53 = .ok (.aload_n 0, 1) := by decide +kernel
theorem den_54 : decode prog_73_method_3_code 54 = .ok (.dup, 1) := by decide +kernel
theorem den_55 : decode prog_73_method_3_code 55 = .ok (.getfield 56, 3) := by decide +kernel
theorem den_58 : decode prog_73_method_3_code 58 = .ok (.dup_x1, 1) := by decide +kernel
theorem den_59 : decode prog_73_method_3_code 59 = .ok (.iconst 1, 1) := by decide +kernel
theorem den_60 : decode prog_73_method_3_code 60 = .ok (.iadd, 1) := by decide +kernel
theorem den_61 : decode prog_73_method_3_code 61 = .ok (.putfield 56, 3) := by decide +kernel
theorem den_64 : decode prog_73_method_3_code 64 = .ok (.iload_n 1, 1) := by decide +kernel
theorem den_65 : decode prog_73_method_3_code 65 = .ok (.iastore, 1) := by decide +kernel
theorem den_66 : decode prog_73_method_3_code 66 = .ok (.aload_n 0, 1) := by decide +kernel
theorem den_67 : decode prog_73_method_3_code 67 = .ok (.getfield 39, 3) := by decide +kernel
theorem den_70 : decode prog_73_method_3_code 70 = .ok (.aload_n 0, 1) := by decide +kernel
theorem den_71 : decode prog_73_method_3_code 71 = .ok (.dup, 1) := by decide +kernel
theorem den_72 : decode prog_73_method_3_code 72 = .ok (.getfield 59, 3) := by decide +kernel
theorem den_75 : decode prog_73_method_3_code 75 = .ok (.dup_x1, 1) := by decide +kernel
theorem den_76 : decode prog_73_method_3_code 76 = .ok (.iconst 1, 1) := by decide +kernel
theorem den_77 : decode prog_73_method_3_code 77 = .ok (.iadd, 1) := by decide +kernel
theorem den_78 : decode prog_73_method_3_code 78 = .ok (.putfield 59, 3) := by decide +kernel
theorem den_81 : decode prog_73_method_3_code 81 = .ok (.iload_n 1, 1) := by decide +kernel
theorem den_82 : decode prog_73_method_3_code 82 = .ok (.iastore, 1) := by decide +kernel
theorem den_83 : decode prog_73_method_3_code 83 = .ok (.return_, 1) := by decide +kernel
theorem pn_en : plainName "com/example/procurator/procurator/model/RelationGraph$CircleWalk" = true := by first | (simp [plainName, overriddenIn]; done) | decide +kernel
theorem ef_en (m : MethodId) (x0 : Addr) (x1 : Int32) : entryFrame m #[(.ref x0), (.int x1)] 2 = mkF m 0 #[.val (.ref x0), .val (.int x1)] [] := by first | (simp [entryFrame, mkF, argsToLocals, Value.category]; done) | rfl
set_option maxRecDepth 65536 in
set_option maxHeartbeats 40000000 in
theorem rmen (l : Launch) (Z : State) (a0 : Array Value) (hw : ∀ d ∈ tables_1, d.before a0 Z = true) (ws : List Jvm.Cond) (so oF oT cw a1 a2 a3 a4 a5 a6 a7 : Addr) (fF fT : Int32 → Int32) (q : own_CS) (p1 : Int32) (h0 : Heap) (n0 : Nat) (Z0 : n0 ≤ h0.size) (hd : [so, oF, oT, cw, a1, a2, a3, a4, a5, a6, a7].Nodup) (hG : ∀ x ∈ [so, oF, oT, cw, a1, a2, a3, a4, a5, a6, a7], n0 ≤ x) (hq : own_CW Z h0 so oF oT cw a1 a2 a3 a4 a5 a6 a7 fF fT q) (hr : own_in3 p1) (hu : own_in3 q.2.2.2.2.2.2.2.1) (hp : own_in3 q.2.2.2.2.2.2.2.2.1) :
    own_Met l Z ws (⟨"com/example/procurator/procurator/model/RelationGraph$CircleWalk", "enter", "(I)V"⟩ : MethodName) prog_73_method_3_code 2 none ({ frames := 0, cells := 0, slots := 0, locals := 0 } : Room) ({ frames := 0, cells := 0, slots := 0, locals := 0 } : Room).cells ({ frames := 0, cells := 0, slots := 0, locals := 0 } : Room).slots #[(.ref cw), (.int p1)] h0 (fun v h L => v = none ∧ Fr n0 L ∧ Keep h0 h [cw, a1, a2, a3, a4, a5, a6, a7] ∧ own_CW Z h so oF oT cw a1 a2 a3 a4 a5 a6 a7 fF fT (own_ent fF q p1)) := by
  refine own_body (plainFor_of_name pn_en) ?_
  intro p e s m below meth c s₁ hx hby hml hown hnm hlk hret hZ hh X0 e0
  have N0 := Fr.nil n0
  obtain ⟨fE, fL, fN, fC, fO, fU, fP, us, ps, en, ci⟩ := q
  have hq_0 := hq
  dsimp only [own_CW] at hq_0
  obtain ⟨Es_0, Ff_0, Ft_0, AF_0, AT_0, Ec_0, Fs_0, FA_0, FB_0, FC_0, FD_0, FE_0, FF_0, FG_0, Gu_0, Gp_0, Ge_0, Gc_0, BA_0, BB_0, BC_0, BD_0, BE_0, BF_0, BG_0⟩ := hq_0
  refine own_cast (ef_en m cw p1) ?_
  refine own_st (T' := s₁) (g' := (mkF m 1 #[.val (.ref cw), .val (.int p1)] [(.ref cw)])) (fun _ k => XS.aloadN X0.here hx rfl (hb hby den_0) rfl rfl k) ?_
  obtain ⟨T1, X1, e1, st1⟩ := getF X0 hx hZ hown (host := "") (Or.inl (own_w hw 49 rfl)) Via.refl e0 FA_0 (g := (mkF m 1 #[.val (.ref cw), .val (.int p1)] [(.ref cw)])) rfl rfl (hb hby den_1)
  refine own_st (g' := (mkF m 4 #[.val (.ref cw), .val (.int p1)] [(.ref a1)])) st1 ?_
  refine own_st (T' := T1) (g' := (mkF m 5 #[.val (.ref cw), .val (.int p1)] [(.int p1), (.ref a1)])) (fun _ k => XS.iloadN X1.here hx rfl (hb hby den_4) rfl k) ?_
  refine own_st (T' := T1) (g' := (mkF m 6 #[.val (.ref cw), .val (.int p1)] [(.ref cw), (.int p1), (.ref a1)])) (fun _ k => XS.aloadN X1.here hx rfl (hb hby den_5) rfl rfl k) ?_
  refine own_st (T' := T1) (g' := (mkF m 7 #[.val (.ref cw), .val (.int p1)] [(.ref cw), (.ref cw), (.int p1), (.ref a1)])) (fun _ k => XS.dup X1.here hx rfl (hb hby den_6) rfl rfl k) ?_
  obtain ⟨T2, X2, e2, st2⟩ := getF X1 hx hZ hown (host := "") (Or.inl (own_w hw 72 rfl)) Via.refl e1 Ge_0 (g := (mkF m 7 #[.val (.ref cw), .val (.int p1)] [(.ref cw), (.ref cw), (.int p1), (.ref a1)])) rfl rfl (hb hby den_7)
  refine own_st (g' := (mkF m 10 #[.val (.ref cw), .val (.int p1)] [(.int en), (.ref cw), (.int p1), (.ref a1)])) st2 ?_
  refine own_st (T' := T2) (g' := (mkF m 11 #[.val (.ref cw), .val (.int p1)] [(.int (1 : Int32)), (.int en), (.ref cw), (.int p1), (.ref a1)])) (fun _ k => XS.iconst X2.here hx rfl (hb hby den_10) k) ?_
  refine own_st (T' := T2) (g' := (mkF m 12 #[.val (.ref cw), .val (.int p1)] [(.int (en + (1 : Int32))), (.ref cw), (.int p1), (.ref a1)])) (fun _ k => XS.iadd X2.here hx rfl (hb hby den_11) rfl k) ?_
  refine own_st (T' := T2) (g' := (mkF m 13 #[.val (.ref cw), .val (.int p1)] [(.int (en + (1 : Int32))), (.ref cw), (.int (en + (1 : Int32))), (.int p1), (.ref a1)])) (fun _ k => XS.dupX1 X2.here hx rfl (hb hby den_12) rfl rfl rfl k) ?_
  obtain ⟨T3, h3, X3, e3, W3, st3⟩ := putF X2 hx hZ hown (host := "") (Or.inl (own_w hw 72 rfl)) Via.refl e2 Ge_0 Ec_0 (Or.inl (own_w hw 73 rfl)) (own_w hw 37 rfl) (ty := .int) (by decide) rfl rfl (g := (mkF m 13 #[.val (.ref cw), .val (.int p1)] [(.int (en + (1 : Int32))), (.ref cw), (.int (en + (1 : Int32))), (.int p1), (.ref a1)])) rfl rfl (hb hby den_13)
  have Fw3 := Ge_0.same W3
  have N3 := Fr.snoc X3 N0 (hG _ (List.mem_of_getElem? (i := 3) rfl))
  refine own_st (g' := (mkF m 16 #[.val (.ref cw), .val (.int p1)] [(.int (en + (1 : Int32))), (.int p1), (.ref a1)])) st3 ?_
  obtain ⟨cl4, Ar4, S4, M4, H4⟩ := id (BA_0.other W3 (Ne.symm (own_nd hd 3 4 (by decide) rfl rfl)))
  obtain ⟨T4, h4, X4, e4, W4, st4⟩ := stI X3 hx hZ e3 Ar4 (j := p1) (inb_of S4 ⟨hr.1, hr.2⟩) (g := (mkF m 16 #[.val (.ref cw), .val (.int p1)] [(.int (en + (1 : Int32))), (.int p1), (.ref a1)])) rfl rfl (hb hby den_16)
  have V4 : own_A Z h4 a1 .int (3 : Int32) (fun i => (.int ((own_up fE p1 (en + (1 : Int32))) i))) := (own_A.set Ar4 S4 M4 H4 hr.1 hr.2 W4).upI
  have N4 := Fr.snoc X4 N3 (hG _ (List.mem_of_getElem? (i := 4) rfl))
  refine own_st (g' := (mkF m 17 #[.val (.ref cw), .val (.int p1)] [])) st4 ?_
  refine own_st (T' := T4) (g' := (mkF m 18 #[.val (.ref cw), .val (.int p1)] [(.ref cw)])) (fun _ k => XS.aloadN X4.here hx rfl (hb hby den_17) rfl rfl k) ?_
  obtain ⟨T5, X5, e5, st5⟩ := getF X4 hx hZ hown (host := "") (Or.inl (own_w hw 51 rfl)) Via.refl e4 ((FB_0.other W3 (Or.inr (slot_ne (Or.inr (own_w hw 52 rfl)) (Or.inl (own_w hw 73 rfl)) (by decide) (t := (.array .int)) (t' := .int) (by decide) (by decide)))).other W4 (Or.inl (own_nd hd 3 4 (by decide) rfl rfl))) (g := (mkF m 18 #[.val (.ref cw), .val (.int p1)] [(.ref cw)])) rfl rfl (hb hby den_18)
  refine own_st (g' := (mkF m 21 #[.val (.ref cw), .val (.int p1)] [(.ref a2)])) st5 ?_
  refine own_st (T' := T5) (g' := (mkF m 22 #[.val (.ref cw), .val (.int p1)] [(.int p1), (.ref a2)])) (fun _ k => XS.iloadN X5.here hx rfl (hb hby den_21) rfl k) ?_
  refine own_st (T' := T5) (g' := (mkF m 23 #[.val (.ref cw), .val (.int p1)] [(.ref cw), (.int p1), (.ref a2)])) (fun _ k => XS.aloadN X5.here hx rfl (hb hby den_22) rfl rfl k) ?_
  obtain ⟨T6, X6, e6, st6⟩ := getF X5 hx hZ hown (host := "") (Or.inl (own_w hw 72 rfl)) Via.refl e5 (Fw3.other W4 (Or.inl (own_nd hd 3 4 (by decide) rfl rfl))) (g := (mkF m 23 #[.val (.ref cw), .val (.int p1)] [(.ref cw), (.int p1), (.ref a2)])) rfl rfl (hb hby den_23)
  refine own_st (g' := (mkF m 26 #[.val (.ref cw), .val (.int p1)] [(.int (en + (1 : Int32))), (.int p1), (.ref a2)])) st6 ?_
  obtain ⟨cl7, Ar7, S7, M7, H7⟩ := id ((BB_0.other W3 (Ne.symm (own_nd hd 3 5 (by decide) rfl rfl))).other W4 (Ne.symm (own_nd hd 4 5 (by decide) rfl rfl)))
  obtain ⟨T7, h7, X7, e7, W7, st7⟩ := stI X6 hx hZ e6 Ar7 (j := p1) (inb_of S7 ⟨hr.1, hr.2⟩) (g := (mkF m 26 #[.val (.ref cw), .val (.int p1)] [(.int (en + (1 : Int32))), (.int p1), (.ref a2)])) rfl rfl (hb hby den_26)
  have V7 : own_A Z h7 a2 .int (3 : Int32) (fun i => (.int ((own_up fL p1 (en + (1 : Int32))) i))) := (own_A.set Ar7 S7 M7 H7 hr.1 hr.2 W7).upI
  have N7 := Fr.snoc X7 N4 (hG _ (List.mem_of_getElem? (i := 5) rfl))
  refine own_st (g' := (mkF m 27 #[.val (.ref cw), .val (.int p1)] [])) st7 ?_
  refine own_st (T' := T7) (g' := (mkF m 28 #[.val (.ref cw), .val (.int p1)] [(.ref cw)])) (fun _ k => XS.aloadN X7.here hx rfl (hb hby den_27) rfl rfl k) ?_
  obtain ⟨T8, X8, e8, st8⟩ := getF X7 hx hZ hown (host := "") (Or.inl (own_w hw 53 rfl)) Via.refl e7 (((FC_0.other W3 (Or.inr (slot_ne (Or.inr (own_w hw 54 rfl)) (Or.inl (own_w hw 73 rfl)) (by decide) (t := (.array .int)) (t' := .int) (by decide) (by decide)))).other W4 (Or.inl (own_nd hd 3 4 (by decide) rfl rfl))).other W7 (Or.inl (own_nd hd 3 5 (by decide) rfl rfl))) (g := (mkF m 28 #[.val (.ref cw), .val (.int p1)] [(.ref cw)])) rfl rfl (hb hby den_28)
  refine own_st (g' := (mkF m 31 #[.val (.ref cw), .val (.int p1)] [(.ref a3)])) st8 ?_
  refine own_st (T' := T8) (g' := (mkF m 32 #[.val (.ref cw), .val (.int p1)] [(.int p1), (.ref a3)])) (fun _ k => XS.iloadN X8.here hx rfl (hb hby den_31) rfl k) ?_
  refine own_st (T' := T8) (g' := (mkF m 33 #[.val (.ref cw), .val (.int p1)] [(.ref cw), (.int p1), (.ref a3)])) (fun _ k => XS.aloadN X8.here hx rfl (hb hby den_32) rfl rfl k) ?_
  obtain ⟨T9, X9, e9, st9⟩ := getF X8 hx hZ hown (host := "") (Or.inl (own_w hw 43 rfl)) Via.refl e8 (((Fs_0.other W3 (Or.inr (slot_ne (Or.inr (own_w hw 44 rfl)) (Or.inl (own_w hw 73 rfl)) (by decide) (t := (.object "com/example/procurator/procurator/model/RelationGraph$Steps")) (t' := .int) (by decide) (by decide)))).other W4 (Or.inl (own_nd hd 3 4 (by decide) rfl rfl))).other W7 (Or.inl (own_nd hd 3 5 (by decide) rfl rfl))) (g := (mkF m 33 #[.val (.ref cw), .val (.int p1)] [(.ref cw), (.int p1), (.ref a3)])) rfl rfl (hb hby den_33)
  refine own_st (g' := (mkF m 36 #[.val (.ref cw), .val (.int p1)] [(.ref so), (.int p1), (.ref a3)])) st9 ?_
  obtain ⟨T10, X10, e10, st10⟩ := getF X9 hx hZ hown (Or.inr (own_w hw 74 rfl)) Via.refl e9 (((Ff_0.other W3 (Or.inl (own_nd hd 0 3 (by decide) rfl rfl))).other W4 (Or.inl (own_nd hd 0 4 (by decide) rfl rfl))).other W7 (Or.inl (own_nd hd 0 5 (by decide) rfl rfl))) (g := (mkF m 36 #[.val (.ref cw), .val (.int p1)] [(.ref so), (.int p1), (.ref a3)])) rfl rfl (hb hby den_36)
  refine own_st (g' := (mkF m 39 #[.val (.ref cw), .val (.int p1)] [(.ref oF), (.int p1), (.ref a3)])) st10 ?_
  refine own_st (T' := T10) (g' := (mkF m 40 #[.val (.ref cw), .val (.int p1)] [(.int p1), (.ref oF), (.int p1), (.ref a3)])) (fun _ k => XS.iloadN X10.here hx rfl (hb hby den_39) rfl k) ?_
  obtain ⟨cl11, Ar11, S11, M11, H11⟩ := id (((AF_0.other W3 (own_nd hd 1 3 (by decide) rfl rfl)).other W4 (own_nd hd 1 4 (by decide) rfl rfl)).other W7 (own_nd hd 1 5 (by decide) rfl rfl))
  refine own_st (T' := T10) (g' := (mkF m 41 #[.val (.ref cw), .val (.int p1)] [(.int (fF p1)), (.int p1), (.ref a3)])) (fun _ k => X10.iaload hx (j := p1) (v := (.int (fF p1))) (by rw [e10]; exact Ar11.1) (State.isArrayOf_alike hZ.alike Ar11.2.1) Ar11.2.2 (inb_of S11 ⟨(own_in4 hr).1, (own_in4 hr).2⟩) (H11 _ (own_in4 hr).1 (own_in4 hr).2) (g := (mkF m 40 #[.val (.ref cw), .val (.int p1)] [(.int p1), (.ref oF), (.int p1), (.ref a3)])) rfl rfl (hb hby den_40) _ k) ?_
  obtain ⟨cl12, Ar12, S12, M12, H12⟩ := id (((BC_0.other W3 (Ne.symm (own_nd hd 3 6 (by decide) rfl rfl))).other W4 (Ne.symm (own_nd hd 4 6 (by decide) rfl rfl))).other W7 (Ne.symm (own_nd hd 5 6 (by decide) rfl rfl)))
  obtain ⟨T12, h12, X12, e12, W12, st12⟩ := stI X10 hx hZ e10 Ar12 (j := p1) (inb_of S12 ⟨hr.1, hr.2⟩) (g := (mkF m 41 #[.val (.ref cw), .val (.int p1)] [(.int (fF p1)), (.int p1), (.ref a3)])) rfl rfl (hb hby den_41)
  have V12 : own_A Z h12 a3 .int (3 : Int32) (fun i => (.int ((own_up fN p1 (fF p1)) i))) := (own_A.set Ar12 S12 M12 H12 hr.1 hr.2 W12).upI
  have N12 := Fr.snoc X12 N7 (hG _ (List.mem_of_getElem? (i := 6) rfl))
  refine own_st (g' := (mkF m 42 #[.val (.ref cw), .val (.int p1)] [])) st12 ?_
  refine own_st (T' := T12) (g' := (mkF m 43 #[.val (.ref cw), .val (.int p1)] [(.ref cw)])) (fun _ k => XS.aloadN X12.here hx rfl (hb hby den_42) rfl rfl k) ?_
  obtain ⟨T13, X13, e13, st13⟩ := getF X12 hx hZ hown (host := "") (Or.inl (own_w hw 58 rfl)) Via.refl e12 ((((FE_0.other W3 (Or.inr (slot_ne (Or.inr (own_w hw 59 rfl)) (Or.inl (own_w hw 73 rfl)) (by decide) (t := (.array .boolean)) (t' := .int) (by decide) (by decide)))).other W4 (Or.inl (own_nd hd 3 4 (by decide) rfl rfl))).other W7 (Or.inl (own_nd hd 3 5 (by decide) rfl rfl))).other W12 (Or.inl (own_nd hd 3 6 (by decide) rfl rfl))) (g := (mkF m 43 #[.val (.ref cw), .val (.int p1)] [(.ref cw)])) rfl rfl (hb hby den_43)
  refine own_st (g' := (mkF m 46 #[.val (.ref cw), .val (.int p1)] [(.ref a5)])) st13 ?_
  refine own_st (T' := T13) (g' := (mkF m 47 #[.val (.ref cw), .val (.int p1)] [(.int p1), (.ref a5)])) (fun _ k => XS.iloadN X13.here hx rfl (hb hby den_46) rfl k) ?_
  refine own_st (T' := T13) (g' := (mkF m 48 #[.val (.ref cw), .val (.int p1)] [(.int (1 : Int32)), (.int p1), (.ref a5)])) (fun _ k => XS.iconst X13.here hx rfl (hb hby den_47) k) ?_
  obtain ⟨cl14, Ar14, S14, M14, H14⟩ := id ((((BE_0.other W3 (Ne.symm (own_nd hd 3 8 (by decide) rfl rfl))).other W4 (Ne.symm (own_nd hd 4 8 (by decide) rfl rfl))).other W7 (Ne.symm (own_nd hd 5 8 (by decide) rfl rfl))).other W12 (Ne.symm (own_nd hd 6 8 (by decide) rfl rfl)))
  obtain ⟨T14, h14, X14, e14, W14, st14⟩ := stZ X13 hx hZ e13 Ar14 (j := p1) (inb_of S14 ⟨hr.1, hr.2⟩) (g := (mkF m 48 #[.val (.ref cw), .val (.int p1)] [(.int (1 : Int32)), (.int p1), (.ref a5)])) rfl rfl (hb hby den_48)
  have V14 : own_A Z h14 a5 .boolean (3 : Int32) (fun i => (.int ((own_up fO p1 (1 : Int32)) i))) := (own_A.set Ar14 S14 M14 H14 hr.1 hr.2 W14).upI
  have N14 := Fr.snoc X14 N12 (hG _ (List.mem_of_getElem? (i := 8) rfl))
  refine own_st (g' := (mkF m 49 #[.val (.ref cw), .val (.int p1)] [])) st14 ?_
  refine own_st (T' := T14) (g' := (mkF m 50 #[.val (.ref cw), .val (.int p1)] [(.ref cw)])) (fun _ k => XS.aloadN X14.here hx rfl (hb hby den_49) rfl rfl k) ?_
  obtain ⟨T15, X15, e15, st15⟩ := getF X14 hx hZ hown (host := "") (Or.inl (own_w hw 60 rfl)) Via.refl e14 (((((FF_0.other W3 (Or.inr (slot_ne (Or.inr (own_w hw 61 rfl)) (Or.inl (own_w hw 73 rfl)) (by decide) (t := (.array .int)) (t' := .int) (by decide) (by decide)))).other W4 (Or.inl (own_nd hd 3 4 (by decide) rfl rfl))).other W7 (Or.inl (own_nd hd 3 5 (by decide) rfl rfl))).other W12 (Or.inl (own_nd hd 3 6 (by decide) rfl rfl))).other W14 (Or.inl (own_nd hd 3 8 (by decide) rfl rfl))) (g := (mkF m 50 #[.val (.ref cw), .val (.int p1)] [(.ref cw)])) rfl rfl (hb hby den_50)
  refine own_st (g' := (mkF m 53 #[.val (.ref cw), .val (.int p1)] [(.ref a6)])) st15 ?_
  refine own_st (T' := T15) (g' := (mkF m 54 #[.val (.ref cw), .val (.int p1)] [(.ref cw), (.ref a6)])) (fun _ k => XS.aloadN X15.here hx rfl (hb hby den_53) rfl rfl k) ?_
  refine own_st (T' := T15) (g' := (mkF m 55 #[.val (.ref cw), .val (.int p1)] [(.ref cw), (.ref cw), (.ref a6)])) (fun _ k => XS.dup X15.here hx rfl (hb hby den_54) rfl rfl k) ?_
  obtain ⟨T16, X16, e16, st16⟩ := getF X15 hx hZ hown (host := "") (Or.inl (own_w hw 75 rfl)) Via.refl e15 (((((Gu_0.other W3 (Or.inr (slot_ne (Or.inl (own_w hw 76 rfl)) (Or.inl (own_w hw 73 rfl)) (by decide) (t := .int) (t' := .int) (by decide) (by decide)))).other W4 (Or.inl (own_nd hd 3 4 (by decide) rfl rfl))).other W7 (Or.inl (own_nd hd 3 5 (by decide) rfl rfl))).other W12 (Or.inl (own_nd hd 3 6 (by decide) rfl rfl))).other W14 (Or.inl (own_nd hd 3 8 (by decide) rfl rfl))) (g := (mkF m 55 #[.val (.ref cw), .val (.int p1)] [(.ref cw), (.ref cw), (.ref a6)])) rfl rfl (hb hby den_55)
  refine own_st (g' := (mkF m 58 #[.val (.ref cw), .val (.int p1)] [(.int us), (.ref cw), (.ref a6)])) st16 ?_
  refine own_st (T' := T16) (g' := (mkF m 59 #[.val (.ref cw), .val (.int p1)] [(.int us), (.ref cw), (.int us), (.ref a6)])) (fun _ k => XS.dupX1 X16.here hx rfl (hb hby den_58) rfl rfl rfl k) ?_
  refine own_st (T' := T16) (g' := (mkF m 60 #[.val (.ref cw), .val (.int p1)] [(.int (1 : Int32)), (.int us), (.ref cw), (.int us), (.ref a6)])) (fun _ k => XS.iconst X16.here hx rfl (hb hby den_59) k) ?_
  refine own_st (T' := T16) (g' := (mkF m 61 #[.val (.ref cw), .val (.int p1)] [(.int (us + (1 : Int32))), (.ref cw), (.int us), (.ref a6)])) (fun _ k => XS.iadd X16.here hx rfl (hb hby den_60) rfl k) ?_
  obtain ⟨T17, h17, X17, e17, W17, st17⟩ := putF X16 hx hZ hown (host := "") (Or.inl (own_w hw 75 rfl)) Via.refl e16 (((((Gu_0.other W3 (Or.inr (slot_ne (Or.inl (own_w hw 76 rfl)) (Or.inl (own_w hw 73 rfl)) (by decide) (t := .int) (t' := .int) (by decide) (by decide)))).other W4 (Or.inl (own_nd hd 3 4 (by decide) rfl rfl))).other W7 (Or.inl (own_nd hd 3 5 (by decide) rfl rfl))).other W12 (Or.inl (own_nd hd 3 6 (by decide) rfl rfl))).other W14 (Or.inl (own_nd hd 3 8 (by decide) rfl rfl))) (((((Ec_0.wr W3).wr W4).wr W7).wr W12).wr W14) (Or.inl (own_w hw 76 rfl)) (own_w hw 37 rfl) (ty := .int) (by decide) rfl rfl (g := (mkF m 61 #[.val (.ref cw), .val (.int p1)] [(.int (us + (1 : Int32))), (.ref cw), (.int us), (.ref a6)])) rfl rfl (hb hby den_61)
  have Fw17 := (((((Gu_0.other W3 (Or.inr (slot_ne (Or.inl (own_w hw 76 rfl)) (Or.inl (own_w hw 73 rfl)) (by decide) (t := .int) (t' := .int) (by decide) (by decide)))).other W4 (Or.inl (own_nd hd 3 4 (by decide) rfl rfl))).other W7 (Or.inl (own_nd hd 3 5 (by decide) rfl rfl))).other W12 (Or.inl (own_nd hd 3 6 (by decide) rfl rfl))).other W14 (Or.inl (own_nd hd 3 8 (by decide) rfl rfl))).same W17
  have N17 := Fr.snoc X17 N14 (hG _ (List.mem_of_getElem? (i := 3) rfl))
  refine own_st (g' := (mkF m 64 #[.val (.ref cw), .val (.int p1)] [(.int us), (.ref a6)])) st17 ?_
  refine own_st (T' := T17) (g' := (mkF m 65 #[.val (.ref cw), .val (.int p1)] [(.int p1), (.int us), (.ref a6)])) (fun _ k => XS.iloadN X17.here hx rfl (hb hby den_64) rfl k) ?_
  obtain ⟨cl18, Ar18, S18, M18, H18⟩ := id ((((((BF_0.other W3 (Ne.symm (own_nd hd 3 9 (by decide) rfl rfl))).other W4 (Ne.symm (own_nd hd 4 9 (by decide) rfl rfl))).other W7 (Ne.symm (own_nd hd 5 9 (by decide) rfl rfl))).other W12 (Ne.symm (own_nd hd 6 9 (by decide) rfl rfl))).other W14 (Ne.symm (own_nd hd 8 9 (by decide) rfl rfl))).other W17 (Ne.symm (own_nd hd 3 9 (by decide) rfl rfl)))
  obtain ⟨T18, h18, X18, e18, W18, st18⟩ := stI X17 hx hZ e17 Ar18 (j := us) (inb_of S18 ⟨hu.1, hu.2⟩) (g := (mkF m 65 #[.val (.ref cw), .val (.int p1)] [(.int p1), (.int us), (.ref a6)])) rfl rfl (hb hby den_65)
  have V18 : own_A Z h18 a6 .int (3 : Int32) (fun i => (.int ((own_up fU us p1) i))) := (own_A.set Ar18 S18 M18 H18 hu.1 hu.2 W18).upI
  have N18 := Fr.snoc X18 N17 (hG _ (List.mem_of_getElem? (i := 9) rfl))
  refine own_st (g' := (mkF m 66 #[.val (.ref cw), .val (.int p1)] [])) st18 ?_
  refine own_st (T' := T18) (g' := (mkF m 67 #[.val (.ref cw), .val (.int p1)] [(.ref cw)])) (fun _ k => XS.aloadN X18.here hx rfl (hb hby den_66) rfl rfl k) ?_
  obtain ⟨T19, X19, e19, st19⟩ := getF X18 hx hZ hown (host := "") (Or.inl (own_w hw 62 rfl)) Via.refl e18 (((((((FG_0.other W3 (Or.inr (slot_ne (Or.inr (own_w hw 63 rfl)) (Or.inl (own_w hw 73 rfl)) (by decide) (t := (.array .int)) (t' := .int) (by decide) (by decide)))).other W4 (Or.inl (own_nd hd 3 4 (by decide) rfl rfl))).other W7 (Or.inl (own_nd hd 3 5 (by decide) rfl rfl))).other W12 (Or.inl (own_nd hd 3 6 (by decide) rfl rfl))).other W14 (Or.inl (own_nd hd 3 8 (by decide) rfl rfl))).other W17 (Or.inr (slot_ne (Or.inr (own_w hw 63 rfl)) (Or.inl (own_w hw 76 rfl)) (by decide) (t := (.array .int)) (t' := .int) (by decide) (by decide)))).other W18 (Or.inl (own_nd hd 3 9 (by decide) rfl rfl))) (g := (mkF m 67 #[.val (.ref cw), .val (.int p1)] [(.ref cw)])) rfl rfl (hb hby den_67)
  refine own_st (g' := (mkF m 70 #[.val (.ref cw), .val (.int p1)] [(.ref a7)])) st19 ?_
  refine own_st (T' := T19) (g' := (mkF m 71 #[.val (.ref cw), .val (.int p1)] [(.ref cw), (.ref a7)])) (fun _ k => XS.aloadN X19.here hx rfl (hb hby den_70) rfl rfl k) ?_
  refine own_st (T' := T19) (g' := (mkF m 72 #[.val (.ref cw), .val (.int p1)] [(.ref cw), (.ref cw), (.ref a7)])) (fun _ k => XS.dup X19.here hx rfl (hb hby den_71) rfl rfl k) ?_
  obtain ⟨T20, X20, e20, st20⟩ := getF X19 hx hZ hown (host := "") (Or.inl (own_w hw 77 rfl)) Via.refl e19 (((((((Gp_0.other W3 (Or.inr (slot_ne (Or.inl (own_w hw 78 rfl)) (Or.inl (own_w hw 73 rfl)) (by decide) (t := .int) (t' := .int) (by decide) (by decide)))).other W4 (Or.inl (own_nd hd 3 4 (by decide) rfl rfl))).other W7 (Or.inl (own_nd hd 3 5 (by decide) rfl rfl))).other W12 (Or.inl (own_nd hd 3 6 (by decide) rfl rfl))).other W14 (Or.inl (own_nd hd 3 8 (by decide) rfl rfl))).other W17 (Or.inr (slot_ne (Or.inl (own_w hw 78 rfl)) (Or.inl (own_w hw 76 rfl)) (by decide) (t := .int) (t' := .int) (by decide) (by decide)))).other W18 (Or.inl (own_nd hd 3 9 (by decide) rfl rfl))) (g := (mkF m 72 #[.val (.ref cw), .val (.int p1)] [(.ref cw), (.ref cw), (.ref a7)])) rfl rfl (hb hby den_72)
  refine own_st (g' := (mkF m 75 #[.val (.ref cw), .val (.int p1)] [(.int ps), (.ref cw), (.ref a7)])) st20 ?_
  refine own_st (T' := T20) (g' := (mkF m 76 #[.val (.ref cw), .val (.int p1)] [(.int ps), (.ref cw), (.int ps), (.ref a7)])) (fun _ k => XS.dupX1 X20.here hx rfl (hb hby den_75) rfl rfl rfl k) ?_
  refine own_st (T' := T20) (g' := (mkF m 77 #[.val (.ref cw), .val (.int p1)] [(.int (1 : Int32)), (.int ps), (.ref cw), (.int ps), (.ref a7)])) (fun _ k => XS.iconst X20.here hx rfl (hb hby den_76) k) ?_
  refine own_st (T' := T20) (g' := (mkF m 78 #[.val (.ref cw), .val (.int p1)] [(.int (ps + (1 : Int32))), (.ref cw), (.int ps), (.ref a7)])) (fun _ k => XS.iadd X20.here hx rfl (hb hby den_77) rfl k) ?_
  obtain ⟨T21, h21, X21, e21, W21, st21⟩ := putF X20 hx hZ hown (host := "") (Or.inl (own_w hw 77 rfl)) Via.refl e20 (((((((Gp_0.other W3 (Or.inr (slot_ne (Or.inl (own_w hw 78 rfl)) (Or.inl (own_w hw 73 rfl)) (by decide) (t := .int) (t' := .int) (by decide) (by decide)))).other W4 (Or.inl (own_nd hd 3 4 (by decide) rfl rfl))).other W7 (Or.inl (own_nd hd 3 5 (by decide) rfl rfl))).other W12 (Or.inl (own_nd hd 3 6 (by decide) rfl rfl))).other W14 (Or.inl (own_nd hd 3 8 (by decide) rfl rfl))).other W17 (Or.inr (slot_ne (Or.inl (own_w hw 78 rfl)) (Or.inl (own_w hw 76 rfl)) (by decide) (t := .int) (t' := .int) (by decide) (by decide)))).other W18 (Or.inl (own_nd hd 3 9 (by decide) rfl rfl))) (((((((Ec_0.wr W3).wr W4).wr W7).wr W12).wr W14).wr W17).wr W18) (Or.inl (own_w hw 78 rfl)) (own_w hw 37 rfl) (ty := .int) (by decide) rfl rfl (g := (mkF m 78 #[.val (.ref cw), .val (.int p1)] [(.int (ps + (1 : Int32))), (.ref cw), (.int ps), (.ref a7)])) rfl rfl (hb hby den_78)
  have Fw21 := (((((((Gp_0.other W3 (Or.inr (slot_ne (Or.inl (own_w hw 78 rfl)) (Or.inl (own_w hw 73 rfl)) (by decide) (t := .int) (t' := .int) (by decide) (by decide)))).other W4 (Or.inl (own_nd hd 3 4 (by decide) rfl rfl))).other W7 (Or.inl (own_nd hd 3 5 (by decide) rfl rfl))).other W12 (Or.inl (own_nd hd 3 6 (by decide) rfl rfl))).other W14 (Or.inl (own_nd hd 3 8 (by decide) rfl rfl))).other W17 (Or.inr (slot_ne (Or.inl (own_w hw 78 rfl)) (Or.inl (own_w hw 76 rfl)) (by decide) (t := .int) (t' := .int) (by decide) (by decide)))).other W18 (Or.inl (own_nd hd 3 9 (by decide) rfl rfl))).same W21
  have N21 := Fr.snoc X21 N18 (hG _ (List.mem_of_getElem? (i := 3) rfl))
  refine own_st (g' := (mkF m 81 #[.val (.ref cw), .val (.int p1)] [(.int ps), (.ref a7)])) st21 ?_
  refine own_st (T' := T21) (g' := (mkF m 82 #[.val (.ref cw), .val (.int p1)] [(.int p1), (.int ps), (.ref a7)])) (fun _ k => XS.iloadN X21.here hx rfl (hb hby den_81) rfl k) ?_
  obtain ⟨cl22, Ar22, S22, M22, H22⟩ := id ((((((((BG_0.other W3 (Ne.symm (own_nd hd 3 10 (by decide) rfl rfl))).other W4 (Ne.symm (own_nd hd 4 10 (by decide) rfl rfl))).other W7 (Ne.symm (own_nd hd 5 10 (by decide) rfl rfl))).other W12 (Ne.symm (own_nd hd 6 10 (by decide) rfl rfl))).other W14 (Ne.symm (own_nd hd 8 10 (by decide) rfl rfl))).other W17 (Ne.symm (own_nd hd 3 10 (by decide) rfl rfl))).other W18 (Ne.symm (own_nd hd 9 10 (by decide) rfl rfl))).other W21 (Ne.symm (own_nd hd 3 10 (by decide) rfl rfl)))
  obtain ⟨T22, h22, X22, e22, W22, st22⟩ := stI X21 hx hZ e21 Ar22 (j := ps) (inb_of S22 ⟨hp.1, hp.2⟩) (g := (mkF m 82 #[.val (.ref cw), .val (.int p1)] [(.int p1), (.int ps), (.ref a7)])) rfl rfl (hb hby den_82)
  have V22 : own_A Z h22 a7 .int (3 : Int32) (fun i => (.int ((own_up fP ps p1) i))) := (own_A.set Ar22 S22 M22 H22 hp.1 hp.2 W22).upI
  have N22 := Fr.snoc X22 N21 (hG _ (List.mem_of_getElem? (i := 10) rfl))
  refine own_st (g' := (mkF m 83 #[.val (.ref cw), .val (.int p1)] [])) st22 ?_
  exact own_retV X22 hx hlk hret (hb hby den_83) (by rw [e22]; exact ⟨rfl, N22, ((((((((((Keep.refl h0 [cw, a1, a2, a3, a4, a5, a6, a7]).wr W3 (Or.inl (List.mem_of_getElem? (i := 0) rfl))).wr W4 (Or.inl (List.mem_of_getElem? (i := 1) rfl))).wr W7 (Or.inl (List.mem_of_getElem? (i := 2) rfl))).wr W12 (Or.inl (List.mem_of_getElem? (i := 3) rfl))).wr W14 (Or.inl (List.mem_of_getElem? (i := 5) rfl))).wr W17 (Or.inl (List.mem_of_getElem? (i := 0) rfl))).wr W18 (Or.inl (List.mem_of_getElem? (i := 6) rfl))).wr W21 (Or.inl (List.mem_of_getElem? (i := 0) rfl))).wr W22 (Or.inl (List.mem_of_getElem? (i := 7) rfl))), ⟨(((((((((Es_0.wr W3).wr W4).wr W7).wr W12).wr W14).wr W17).wr W18).wr W21).wr W22), (((((((((Ff_0.other W3 (Or.inl (own_nd hd 0 3 (by decide) rfl rfl))).other W4 (Or.inl (own_nd hd 0 4 (by decide) rfl rfl))).other W7 (Or.inl (own_nd hd 0 5 (by decide) rfl rfl))).other W12 (Or.inl (own_nd hd 0 6 (by decide) rfl rfl))).other W14 (Or.inl (own_nd hd 0 8 (by decide) rfl rfl))).other W17 (Or.inl (own_nd hd 0 3 (by decide) rfl rfl))).other W18 (Or.inl (own_nd hd 0 9 (by decide) rfl rfl))).other W21 (Or.inl (own_nd hd 0 3 (by decide) rfl rfl))).other W22 (Or.inl (own_nd hd 0 10 (by decide) rfl rfl))), (((((((((Ft_0.other W3 (Or.inl (own_nd hd 0 3 (by decide) rfl rfl))).other W4 (Or.inl (own_nd hd 0 4 (by decide) rfl rfl))).other W7 (Or.inl (own_nd hd 0 5 (by decide) rfl rfl))).other W12 (Or.inl (own_nd hd 0 6 (by decide) rfl rfl))).other W14 (Or.inl (own_nd hd 0 8 (by decide) rfl rfl))).other W17 (Or.inl (own_nd hd 0 3 (by decide) rfl rfl))).other W18 (Or.inl (own_nd hd 0 9 (by decide) rfl rfl))).other W21 (Or.inl (own_nd hd 0 3 (by decide) rfl rfl))).other W22 (Or.inl (own_nd hd 0 10 (by decide) rfl rfl))), (((((((((AF_0.other W3 (own_nd hd 1 3 (by decide) rfl rfl)).other W4 (own_nd hd 1 4 (by decide) rfl rfl)).other W7 (own_nd hd 1 5 (by decide) rfl rfl)).other W12 (own_nd hd 1 6 (by decide) rfl rfl)).other W14 (own_nd hd 1 8 (by decide) rfl rfl)).other W17 (own_nd hd 1 3 (by decide) rfl rfl)).other W18 (own_nd hd 1 9 (by decide) rfl rfl)).other W21 (own_nd hd 1 3 (by decide) rfl rfl)).other W22 (own_nd hd 1 10 (by decide) rfl rfl)), (((((((((AT_0.other W3 (own_nd hd 2 3 (by decide) rfl rfl)).other W4 (own_nd hd 2 4 (by decide) rfl rfl)).other W7 (own_nd hd 2 5 (by decide) rfl rfl)).other W12 (own_nd hd 2 6 (by decide) rfl rfl)).other W14 (own_nd hd 2 8 (by decide) rfl rfl)).other W17 (own_nd hd 2 3 (by decide) rfl rfl)).other W18 (own_nd hd 2 9 (by decide) rfl rfl)).other W21 (own_nd hd 2 3 (by decide) rfl rfl)).other W22 (own_nd hd 2 10 (by decide) rfl rfl)), (((((((((Ec_0.wr W3).wr W4).wr W7).wr W12).wr W14).wr W17).wr W18).wr W21).wr W22), (((((((((Fs_0.other W3 (Or.inr (slot_ne (Or.inr (own_w hw 44 rfl)) (Or.inl (own_w hw 73 rfl)) (by decide) (t := (.object "com/example/procurator/procurator/model/RelationGraph$Steps")) (t' := .int) (by decide) (by decide)))).other W4 (Or.inl (own_nd hd 3 4 (by decide) rfl rfl))).other W7 (Or.inl (own_nd hd 3 5 (by decide) rfl rfl))).other W12 (Or.inl (own_nd hd 3 6 (by decide) rfl rfl))).other W14 (Or.inl (own_nd hd 3 8 (by decide) rfl rfl))).other W17 (Or.inr (slot_ne (Or.inr (own_w hw 44 rfl)) (Or.inl (own_w hw 76 rfl)) (by decide) (t := (.object "com/example/procurator/procurator/model/RelationGraph$Steps")) (t' := .int) (by decide) (by decide)))).other W18 (Or.inl (own_nd hd 3 9 (by decide) rfl rfl))).other W21 (Or.inr (slot_ne (Or.inr (own_w hw 44 rfl)) (Or.inl (own_w hw 78 rfl)) (by decide) (t := (.object "com/example/procurator/procurator/model/RelationGraph$Steps")) (t' := .int) (by decide) (by decide)))).other W22 (Or.inl (own_nd hd 3 10 (by decide) rfl rfl))), (((((((((FA_0.other W3 (Or.inr (slot_ne (Or.inr (own_w hw 50 rfl)) (Or.inl (own_w hw 73 rfl)) (by decide) (t := (.array .int)) (t' := .int) (by decide) (by decide)))).other W4 (Or.inl (own_nd hd 3 4 (by decide) rfl rfl))).other W7 (Or.inl (own_nd hd 3 5 (by decide) rfl rfl))).other W12 (Or.inl (own_nd hd 3 6 (by decide) rfl rfl))).other W14 (Or.inl (own_nd hd 3 8 (by decide) rfl rfl))).other W17 (Or.inr (slot_ne (Or.inr (own_w hw 50 rfl)) (Or.inl (own_w hw 76 rfl)) (by decide) (t := (.array .int)) (t' := .int) (by decide) (by decide)))).other W18 (Or.inl (own_nd hd 3 9 (by decide) rfl rfl))).other W21 (Or.inr (slot_ne (Or.inr (own_w hw 50 rfl)) (Or.inl (own_w hw 78 rfl)) (by decide) (t := (.array .int)) (t' := .int) (by decide) (by decide)))).other W22 (Or.inl (own_nd hd 3 10 (by decide) rfl rfl))), (((((((((FB_0.other W3 (Or.inr (slot_ne (Or.inr (own_w hw 52 rfl)) (Or.inl (own_w hw 73 rfl)) (by decide) (t := (.array .int)) (t' := .int) (by decide) (by decide)))).other W4 (Or.inl (own_nd hd 3 4 (by decide) rfl rfl))).other W7 (Or.inl (own_nd hd 3 5 (by decide) rfl rfl))).other W12 (Or.inl (own_nd hd 3 6 (by decide) rfl rfl))).other W14 (Or.inl (own_nd hd 3 8 (by decide) rfl rfl))).other W17 (Or.inr (slot_ne (Or.inr (own_w hw 52 rfl)) (Or.inl (own_w hw 76 rfl)) (by decide) (t := (.array .int)) (t' := .int) (by decide) (by decide)))).other W18 (Or.inl (own_nd hd 3 9 (by decide) rfl rfl))).other W21 (Or.inr (slot_ne (Or.inr (own_w hw 52 rfl)) (Or.inl (own_w hw 78 rfl)) (by decide) (t := (.array .int)) (t' := .int) (by decide) (by decide)))).other W22 (Or.inl (own_nd hd 3 10 (by decide) rfl rfl))), (((((((((FC_0.other W3 (Or.inr (slot_ne (Or.inr (own_w hw 54 rfl)) (Or.inl (own_w hw 73 rfl)) (by decide) (t := (.array .int)) (t' := .int) (by decide) (by decide)))).other W4 (Or.inl (own_nd hd 3 4 (by decide) rfl rfl))).other W7 (Or.inl (own_nd hd 3 5 (by decide) rfl rfl))).other W12 (Or.inl (own_nd hd 3 6 (by decide) rfl rfl))).other W14 (Or.inl (own_nd hd 3 8 (by decide) rfl rfl))).other W17 (Or.inr (slot_ne (Or.inr (own_w hw 54 rfl)) (Or.inl (own_w hw 76 rfl)) (by decide) (t := (.array .int)) (t' := .int) (by decide) (by decide)))).other W18 (Or.inl (own_nd hd 3 9 (by decide) rfl rfl))).other W21 (Or.inr (slot_ne (Or.inr (own_w hw 54 rfl)) (Or.inl (own_w hw 78 rfl)) (by decide) (t := (.array .int)) (t' := .int) (by decide) (by decide)))).other W22 (Or.inl (own_nd hd 3 10 (by decide) rfl rfl))), (((((((((FD_0.other W3 (Or.inr (slot_ne (Or.inr (own_w hw 56 rfl)) (Or.inl (own_w hw 73 rfl)) (by decide) (t := (.array .int)) (t' := .int) (by decide) (by decide)))).other W4 (Or.inl (own_nd hd 3 4 (by decide) rfl rfl))).other W7 (Or.inl (own_nd hd 3 5 (by decide) rfl rfl))).other W12 (Or.inl (own_nd hd 3 6 (by decide) rfl rfl))).other W14 (Or.inl (own_nd hd 3 8 (by decide) rfl rfl))).other W17 (Or.inr (slot_ne (Or.inr (own_w hw 56 rfl)) (Or.inl (own_w hw 76 rfl)) (by decide) (t := (.array .int)) (t' := .int) (by decide) (by decide)))).other W18 (Or.inl (own_nd hd 3 9 (by decide) rfl rfl))).other W21 (Or.inr (slot_ne (Or.inr (own_w hw 56 rfl)) (Or.inl (own_w hw 78 rfl)) (by decide) (t := (.array .int)) (t' := .int) (by decide) (by decide)))).other W22 (Or.inl (own_nd hd 3 10 (by decide) rfl rfl))), (((((((((FE_0.other W3 (Or.inr (slot_ne (Or.inr (own_w hw 59 rfl)) (Or.inl (own_w hw 73 rfl)) (by decide) (t := (.array .boolean)) (t' := .int) (by decide) (by decide)))).other W4 (Or.inl (own_nd hd 3 4 (by decide) rfl rfl))).other W7 (Or.inl (own_nd hd 3 5 (by decide) rfl rfl))).other W12 (Or.inl (own_nd hd 3 6 (by decide) rfl rfl))).other W14 (Or.inl (own_nd hd 3 8 (by decide) rfl rfl))).other W17 (Or.inr (slot_ne (Or.inr (own_w hw 59 rfl)) (Or.inl (own_w hw 76 rfl)) (by decide) (t := (.array .boolean)) (t' := .int) (by decide) (by decide)))).other W18 (Or.inl (own_nd hd 3 9 (by decide) rfl rfl))).other W21 (Or.inr (slot_ne (Or.inr (own_w hw 59 rfl)) (Or.inl (own_w hw 78 rfl)) (by decide) (t := (.array .boolean)) (t' := .int) (by decide) (by decide)))).other W22 (Or.inl (own_nd hd 3 10 (by decide) rfl rfl))), (((((((((FF_0.other W3 (Or.inr (slot_ne (Or.inr (own_w hw 61 rfl)) (Or.inl (own_w hw 73 rfl)) (by decide) (t := (.array .int)) (t' := .int) (by decide) (by decide)))).other W4 (Or.inl (own_nd hd 3 4 (by decide) rfl rfl))).other W7 (Or.inl (own_nd hd 3 5 (by decide) rfl rfl))).other W12 (Or.inl (own_nd hd 3 6 (by decide) rfl rfl))).other W14 (Or.inl (own_nd hd 3 8 (by decide) rfl rfl))).other W17 (Or.inr (slot_ne (Or.inr (own_w hw 61 rfl)) (Or.inl (own_w hw 76 rfl)) (by decide) (t := (.array .int)) (t' := .int) (by decide) (by decide)))).other W18 (Or.inl (own_nd hd 3 9 (by decide) rfl rfl))).other W21 (Or.inr (slot_ne (Or.inr (own_w hw 61 rfl)) (Or.inl (own_w hw 78 rfl)) (by decide) (t := (.array .int)) (t' := .int) (by decide) (by decide)))).other W22 (Or.inl (own_nd hd 3 10 (by decide) rfl rfl))), (((((((((FG_0.other W3 (Or.inr (slot_ne (Or.inr (own_w hw 63 rfl)) (Or.inl (own_w hw 73 rfl)) (by decide) (t := (.array .int)) (t' := .int) (by decide) (by decide)))).other W4 (Or.inl (own_nd hd 3 4 (by decide) rfl rfl))).other W7 (Or.inl (own_nd hd 3 5 (by decide) rfl rfl))).other W12 (Or.inl (own_nd hd 3 6 (by decide) rfl rfl))).other W14 (Or.inl (own_nd hd 3 8 (by decide) rfl rfl))).other W17 (Or.inr (slot_ne (Or.inr (own_w hw 63 rfl)) (Or.inl (own_w hw 76 rfl)) (by decide) (t := (.array .int)) (t' := .int) (by decide) (by decide)))).other W18 (Or.inl (own_nd hd 3 9 (by decide) rfl rfl))).other W21 (Or.inr (slot_ne (Or.inr (own_w hw 63 rfl)) (Or.inl (own_w hw 78 rfl)) (by decide) (t := (.array .int)) (t' := .int) (by decide) (by decide)))).other W22 (Or.inl (own_nd hd 3 10 (by decide) rfl rfl))), (((Fw17.other W18 (Or.inl (own_nd hd 3 9 (by decide) rfl rfl))).other W21 (Or.inr (slot_ne (Or.inl (own_w hw 76 rfl)) (Or.inl (own_w hw 78 rfl)) (by decide) (t := .int) (t' := .int) (by decide) (by decide)))).other W22 (Or.inl (own_nd hd 3 10 (by decide) rfl rfl))), (Fw21.other W22 (Or.inl (own_nd hd 3 10 (by decide) rfl rfl))), ((((((((Fw3.other W4 (Or.inl (own_nd hd 3 4 (by decide) rfl rfl))).other W7 (Or.inl (own_nd hd 3 5 (by decide) rfl rfl))).other W12 (Or.inl (own_nd hd 3 6 (by decide) rfl rfl))).other W14 (Or.inl (own_nd hd 3 8 (by decide) rfl rfl))).other W17 (Or.inr (slot_ne (Or.inl (own_w hw 73 rfl)) (Or.inl (own_w hw 76 rfl)) (by decide) (t := .int) (t' := .int) (by decide) (by decide)))).other W18 (Or.inl (own_nd hd 3 9 (by decide) rfl rfl))).other W21 (Or.inr (slot_ne (Or.inl (own_w hw 73 rfl)) (Or.inl (own_w hw 78 rfl)) (by decide) (t := .int) (t' := .int) (by decide) (by decide)))).other W22 (Or.inl (own_nd hd 3 10 (by decide) rfl rfl))), (((((((((Gc_0.other W3 (Or.inr (slot_ne (Or.inl (own_w hw 93 rfl)) (Or.inl (own_w hw 73 rfl)) (by decide) (t := .int) (t' := .int) (by decide) (by decide)))).other W4 (Or.inl (own_nd hd 3 4 (by decide) rfl rfl))).other W7 (Or.inl (own_nd hd 3 5 (by decide) rfl rfl))).other W12 (Or.inl (own_nd hd 3 6 (by decide) rfl rfl))).other W14 (Or.inl (own_nd hd 3 8 (by decide) rfl rfl))).other W17 (Or.inr (slot_ne (Or.inl (own_w hw 93 rfl)) (Or.inl (own_w hw 76 rfl)) (by decide) (t := .int) (t' := .int) (by decide) (by decide)))).other W18 (Or.inl (own_nd hd 3 9 (by decide) rfl rfl))).other W21 (Or.inr (slot_ne (Or.inl (own_w hw 93 rfl)) (Or.inl (own_w hw 78 rfl)) (by decide) (t := .int) (t' := .int) (by decide) (by decide)))).other W22 (Or.inl (own_nd hd 3 10 (by decide) rfl rfl))), (((((((V4.other W7 (own_nd hd 4 5 (by decide) rfl rfl)).other W12 (own_nd hd 4 6 (by decide) rfl rfl)).other W14 (own_nd hd 4 8 (by decide) rfl rfl)).other W17 (Ne.symm (own_nd hd 3 4 (by decide) rfl rfl))).other W18 (own_nd hd 4 9 (by decide) rfl rfl)).other W21 (Ne.symm (own_nd hd 3 4 (by decide) rfl rfl))).other W22 (own_nd hd 4 10 (by decide) rfl rfl)), ((((((V7.other W12 (own_nd hd 5 6 (by decide) rfl rfl)).other W14 (own_nd hd 5 8 (by decide) rfl rfl)).other W17 (Ne.symm (own_nd hd 3 5 (by decide) rfl rfl))).other W18 (own_nd hd 5 9 (by decide) rfl rfl)).other W21 (Ne.symm (own_nd hd 3 5 (by decide) rfl rfl))).other W22 (own_nd hd 5 10 (by decide) rfl rfl)), (((((V12.other W14 (own_nd hd 6 8 (by decide) rfl rfl)).other W17 (Ne.symm (own_nd hd 3 6 (by decide) rfl rfl))).other W18 (own_nd hd 6 9 (by decide) rfl rfl)).other W21 (Ne.symm (own_nd hd 3 6 (by decide) rfl rfl))).other W22 (own_nd hd 6 10 (by decide) rfl rfl)), (((((((((BD_0.other W3 (Ne.symm (own_nd hd 3 7 (by decide) rfl rfl))).other W4 (Ne.symm (own_nd hd 4 7 (by decide) rfl rfl))).other W7 (Ne.symm (own_nd hd 5 7 (by decide) rfl rfl))).other W12 (Ne.symm (own_nd hd 6 7 (by decide) rfl rfl))).other W14 (own_nd hd 7 8 (by decide) rfl rfl)).other W17 (Ne.symm (own_nd hd 3 7 (by decide) rfl rfl))).other W18 (own_nd hd 7 9 (by decide) rfl rfl)).other W21 (Ne.symm (own_nd hd 3 7 (by decide) rfl rfl))).other W22 (own_nd hd 7 10 (by decide) rfl rfl)), ((((V14.other W17 (Ne.symm (own_nd hd 3 8 (by decide) rfl rfl))).other W18 (own_nd hd 8 9 (by decide) rfl rfl)).other W21 (Ne.symm (own_nd hd 3 8 (by decide) rfl rfl))).other W22 (own_nd hd 8 10 (by decide) rfl rfl)), ((V18.other W21 (Ne.symm (own_nd hd 3 9 (by decide) rfl rfl))).other W22 (own_nd hd 9 10 (by decide) rfl rfl)), V22⟩⟩) (by decide) (by decide)
theorem own_os {cw : Addr} {p1 v : Int32} {sl : Slot} (h : One sl) : storeLocals #[.val (.ref cw), .val (.int p1), sl] 2 (.int v) = some #[.val (.ref cw), .val (.int p1), .val (.int v)] := by
  rcases h with rfl | ⟨w, rfl, hw⟩
  · rfl
  · cases w <;> first | rfl | (simp [Value.category] at hw)
theorem dlv_0 : decode prog_73_method_5_code 0 = .ok (.aload_n 0, 1) := by decide +kernel
theorem dlv_1 : decode prog_73_method_5_code 1 = .ok (.dup, 1) := by decide +kernel
theorem dlv_2 : decode prog_73_method_5_code 2 = .ok (.getfield 59, 3) := by decide +kernel
theorem dlv_5 : decode prog_73_method_5_code 5 = .ok (.iconst 1, 1) := by decide +kernel
theorem dlv_6 : decode prog_73_method_5_code 6 = .ok (.isub, 1) := by decide +kernel
theorem dlv_7 : decode prog_73_method_5_code 7 = .ok (.putfield 59, 3) := by decide +kernel
theorem dlv_10 : decode prog_73_method_5_code 10 = .ok (.aload_n 0, 1) := by decide +kernel
theorem dlv_11 : decode prog_73_method_5_code 11 = .ok (.getfield 23, 3) := by decide +kernel
theorem dlv_14 : decode prog_73_method_5_code 14 = .ok (.iload_n 1, 1) := by decide +kernel
theorem dlv_15 : decode prog_73_method_5_code 15 = .ok (.iaload, 1) := by decide +kernel
theorem dlv_16 : decode prog_73_method_5_code 16 = .ok (.aload_n 0, 1) := by decide +kernel
theorem dlv_17 : decode prog_73_method_5_code 17 = .ok (.getfield 19, 3) := by decide +kernel
theorem dlv_20 : decode prog_73_method_5_code 20 = .ok (.iload_n 1, 1) := by decide +kernel
theorem dlv_21 : decode prog_73_method_5_code 21 = .ok (.iaload, 1) := by decide +kernel
theorem dlv_22 : decode prog_73_method_5_code 22 = .ok (.if_icmp .ne 52, 3) := by decide +kernel
theorem dlv_25 : decode prog_73_method_5_code 25 = .ok (.aload_n 0, 1) := by decide +kernel
theorem dlv_26 : decode prog_73_method_5_code 26 = .ok (.getfield 36, 3) := by decide +kernel
theorem dlv_29 : decode prog_73_method_5_code 29 = .ok (.aload_n 0, 1) := by decide +kernel
theorem dlv_30 : decode prog_73_method_5_code 30 = .ok (.dup, 1) := by decide +kernel
theorem dlv_31 : decode prog_73_method_5_code 31 = .ok (.getfield 56, 3) := by decide +kernel
theorem dlv_34 : decode prog_73_method_5_code 34 = .ok (.iconst 1, 1) := by decide +kernel
theorem dlv_35 : decode prog_73_method_5_code 35 = .ok (.isub, 1) := by decide +kernel
theorem dlv_36 : decode prog_73_method_5_code 36 = .ok (.dup_x1, 1) := by decide +kernel
theorem dlv_37 : decode prog_73_method_5_code 37 = .ok (.putfield 56, 3) := by decide +kernel
theorem dlv_40 : decode prog_73_method_5_code 40 = .ok (.iaload, 1) := by decide +kernel
theorem dlv_41 : decode prog_73_method_5_code 41 = .ok (.istore_n 2, 1) := by decide +kernel
theorem dlv_42 : decode prog_73_method_5_code 42 = .ok (.aload_n 0, 1) := by decide +kernel
theorem dlv_43 : decode prog_73_method_5_code 43 = .ok (.getfield 32, 3) := by decide +kernel
theorem dlv_46 : decode prog_73_method_5_code 46 = .ok (.iload_n 2, 1) := by decide +kernel
theorem dlv_47 : decode prog_73_method_5_code 47 = .ok (.iconst 0, 1) := by decide +kernel
theorem dlv_48 : decode prog_73_method_5_code 48 = .ok (.bastore, 1) := by decide +kernel
theorem dlv_49 : decode prog_73_method_5_code 49 = .ok (.aload_n 0, 1) := by decide +kernel
theorem dlv_50 : decode prog_73_method_5_code 50 = .ok (.getfield 29, 3) := by decide +kernel
theorem dlv_53 : decode prog_73_method_5_code 53 = .ok (.iload_n 2, 1) := by decide +kernel
theorem dlv_54 : decode prog_73_method_5_code 54 = .ok (.aload_n 0, 1) := by decide +kernel
theorem dlv_55 : decode prog_73_method_5_code 55 = .ok (.getfield 74, 3) := by decide +kernel
theorem dlv_58 : decode prog_73_method_5_code 58 = .ok (.iastore, 1) := by decide +kernel
theorem dlv_59 : decode prog_73_method_5_code 59 = .ok (.iload_n 2, 1) := by decide +kernel
theorem dlv_60 : decode prog_73_method_5_code 60 = .ok (.iload_n 1, 1) := by decide +kernel
theorem dlv_61 : decode prog_73_method_5_code 61 = .ok (.if_icmp .ne (-36), 3) := by decide +kernel
theorem dlv_64 : decode prog_73_method_5_code 64 = .ok (.aload_n 0, 1) := by decide +kernel
theorem dlv_65 : decode prog_73_method_5_code 65 = .ok (.dup, 1) := by decide +kernel
theorem dlv_66 : decode prog_73_method_5_code 66 = .ok (.getfield 74, 3) := by decide +kernel
theorem dlv_69 : decode prog_73_method_5_code 69 = .ok (.iconst 1, 1) := by decide +kernel
theorem dlv_70 : decode prog_73_method_5_code 70 = .ok (.iadd, 1) := by decide +kernel
theorem dlv_71 : decode prog_73_method_5_code 71 = .ok (.putfield 74, 3) := by decide +kernel
theorem dlv_74 : decode prog_73_method_5_code 74 = .ok (.aload_n 0, 1) := by decide +kernel
theorem dlv_75 : decode prog_73_method_5_code 75 = .ok (.getfield 59, 3) := by decide +kernel
theorem dlv_78 : decode prog_73_method_5_code 78 = .ok (.ifCond .le 36, 3) := by decide +kernel
theorem dlv_81 : decode prog_73_method_5_code 81 = .ok (.aload_n 0, 1) := by decide +kernel
theorem dlv_82 : decode prog_73_method_5_code 82 = .ok (.getfield 39, 3) := by decide +kernel
theorem dlv_85 : decode prog_73_method_5_code 85 = .ok (.aload_n 0, 1) := by decide +kernel
theorem dlv_86 : decode prog_73_method_5_code 86 = .ok (.getfield 59, 3) := by decide +kernel
theorem dlv_89 : decode prog_73_method_5_code 89 = .ok (.iconst 1, 1) := by decide +kernel
theorem dlv_90 : decode prog_73_method_5_code 90 = .ok (.isub, 1) := by decide +kernel
theorem dlv_91 : decode prog_73_method_5_code 91 = .ok (.iaload, 1) := by decide +kernel
theorem dlv_92 : decode prog_73_method_5_code 92 = .ok (.istore_n 2, 1) := by decide +kernel
theorem dlv_93 : decode prog_73_method_5_code 93 = .ok (.aload_n 0, 1) := by decide +kernel
theorem dlv_94 : decode prog_73_method_5_code 94 = .ok (.getfield 23, 3) := by decide +kernel
theorem dlv_97 : decode prog_73_method_5_code 97 = .ok (.iload_n 2, 1) := by decide +kernel
theorem dlv_98 : decode prog_73_method_5_code 98 = .ok (.aload_n 0, 1) := by decide +kernel
theorem dlv_99 : decode prog_73_method_5_code 99 = .ok (.getfield 23, 3) := by decide +kernel
theorem dlv_102 : decode prog_73_method_5_code 102 = .ok (.iload_n 2, 1) := by decide +kernel
theorem dlv_103 : decode prog_73_method_5_code 103 = .ok (.iaload, 1) := by decide +kernel
theorem dlv_104 : decode prog_73_method_5_code 104 = .ok (.aload_n 0, 1) := by decide +kernel
theorem dlv_105 : decode prog_73_method_5_code 105 = .ok (.getfield 23, 3) := by decide +kernel
theorem dlv_108 : decode prog_73_method_5_code 108 = .ok (.iload_n 1, 1) := by decide +kernel
theorem dlv_109 : decode prog_73_method_5_code 109 = .ok (.iaload, 1) := by decide +kernel
theorem dlv_110 : decode prog_73_method_5_code 110 = .ok (.invokestatic 68, 3) := by decide +kernel
theorem dlv_113 : decode prog_73_method_5_code 113 = .ok (.iastore, 1) := by decide +kernel
theorem dlv_114 : decode prog_73_method_5_code 114 = .ok (.return_, 1) := by decide +kernel
theorem pn_lv : plainName "com/example/procurator/procurator/model/RelationGraph$CircleWalk" = true := by first | (simp [plainName, overriddenIn]; done) | decide +kernel
theorem ef_lv (m : MethodId) (x0 : Addr) (x1 : Int32) : entryFrame m #[(.ref x0), (.int x1)] 3 = mkF m 0 #[.val (.ref x0), .val (.int x1), .unset] [] := by first | (simp [entryFrame, mkF, argsToLocals, Value.category]; done) | rfl
set_option maxRecDepth 65536 in
set_option maxHeartbeats 40000000 in
theorem rmlv (l : Launch) (Z : State) (a0 : Array Value) (hw : ∀ d ∈ tables_1, d.before a0 Z = true) (ws : List Jvm.Cond) (so oF oT cw a1 a2 a3 a4 a5 a6 a7 : Addr) (fF fT : Int32 → Int32) (q : own_CS) (q' : own_CS) (p1 : Int32) (h0 : Heap) (n0 : Nat) (Z0 : n0 ≤ h0.size) (hd : [so, oF, oT, cw, a1, a2, a3, a4, a5, a6, a7].Nodup) (hG : ∀ x ∈ [so, oF, oT, cw, a1, a2, a3, a4, a5, a6, a7], n0 ≤ x) (hq : own_CW Z h0 so oF oT cw a1 a2 a3 a4 a5 a6 a7 fF fT q) (hm : own_lv q p1 = some q') :
    own_Met l Z ws (⟨"com/example/procurator/procurator/model/RelationGraph$CircleWalk", "leave", "(I)V"⟩ : MethodName) prog_73_method_5_code 3 none ({ frames := 1, cells := 0, slots := 0, locals := 16 } : Room) ({ frames := 1, cells := 0, slots := 0, locals := 16 } : Room).cells ({ frames := 1, cells := 0, slots := 0, locals := 16 } : Room).slots #[(.ref cw), (.int p1)] h0 (fun v h L => v = none ∧ Fr n0 L ∧ Keep h0 h [cw, a1, a2, a3, a4, a5, a6, a7] ∧ own_CW Z h so oF oT cw a1 a2 a3 a4 a5 a6 a7 fF fT q') := by
  refine own_body (plainFor_of_name pn_lv) ?_
  intro p e s m below meth c s₁ hx hby hml hown hnm hlk hret hZ hh X0 e0
  have N0 := Fr.nil n0
  obtain ⟨fE, fL, fN, fC, fO, fU, fP, us, ps, en, ci⟩ := q
  have hq_0 := hq
  dsimp only [own_CW] at hq_0
  obtain ⟨Es_0, Ff_0, Ft_0, AF_0, AT_0, Ec_0, Fs_0, FA_0, FB_0, FC_0, FD_0, FE_0, FF_0, FG_0, Gu_0, Gp_0, Ge_0, Gc_0, BA_0, BB_0, BC_0, BD_0, BE_0, BF_0, BG_0⟩ := hq_0
  refine own_cast (ef_lv m cw p1) ?_
  unfold own_lv at hm
  obtain ⟨hr, hm⟩ := own_ifs hm
  have rest : ∀ (sl : Slot), One sl → ∀ (TB : State) (LB : List Loc) (q : own_CS), own_fi q p1 = some q' → Stand p l e ({ frames := 1, cells := 0, slots := 0, locals := 16 } : Room) s m #[(.ref cw), (.int p1)] below meth c TB LB 0 0 → Fr n0 LB → n0 ≤ TB.heap.size → Keep h0 TB.heap [cw, a1, a2, a3, a4, a5, a6, a7] → own_CW Z TB.heap so oF oT cw a1 a2 a3 a4 a5 a6 a7 fF fT q → own_Go p e s below (fun v h L => v = none ∧ Fr n0 L ∧ Keep h0 h [cw, a1, a2, a3, a4, a5, a6, a7] ∧ own_CW Z h so oF oT cw a1 a2 a3 a4 a5 a6 a7 fF fT q') ({ frames := 1, cells := 0, slots := 0, locals := 16 } : Room).cells ({ frames := 1, cells := 0, slots := 0, locals := 16 } : Room).slots TB (mkF m 74 #[.val (.ref cw), .val (.int p1), sl] []) := by
    intro sl hsl TB LB q hmB XB NB ZB KB hqB
    obtain ⟨fE, fL, fN, fC, fO, fU, fP, us, ps, en, ci⟩ := q
    have hq_B := hqB
    dsimp only [own_CW] at hq_B
    obtain ⟨Es_B, Ff_B, Ft_B, AF_B, AT_B, Ec_B, Fs_B, FA_B, FB_B, FC_B, FD_B, FE_B, FF_B, FG_B, Gu_B, Gp_B, Ge_B, Gc_B, BA_B, BB_B, BC_B, BD_B, BE_B, BF_B, BG_B⟩ := hq_B
    unfold own_fi at hmB
    dsimp only at hmB
    refine own_st (T' := TB) (g' := (mkF m 75 #[.val (.ref cw), .val (.int p1), sl] [(.ref cw)])) (fun _ k => XS.aloadN XB.here hx rfl (hb hby dlv_74) rfl rfl k) ?_
    obtain ⟨T1, X1, e1, st1⟩ := getF XB hx hZ hown (host := "") (Or.inl (own_w hw 77 rfl)) Via.refl rfl Gp_B (g := (mkF m 75 #[.val (.ref cw), .val (.int p1), sl] [(.ref cw)])) rfl rfl (hb hby dlv_75)
    refine own_st (g' := (mkF m 78 #[.val (.ref cw), .val (.int p1), sl] [(.int ps)])) st1 ?_
    by_cases hc78_2 : (0 : Int32) < ps
    · refine own_st (T' := T1) (g' := (mkF m 81 #[.val (.ref cw), .val (.int p1), sl] [])) (fun _ k => XS.ifNo X1.here hx rfl (hb hby dlv_78) rfl ((if0 _ _).trans (tlt hc78_2).2.2.2) k) ?_
      rw [if_pos hc78_2] at hmB
      obtain ⟨hc1, hmB⟩ := own_ifs hmB
      obtain ⟨hc2, hmB⟩ := own_ifs hmB
      refine own_st (T' := T1) (g' := (mkF m 82 #[.val (.ref cw), .val (.int p1), sl] [(.ref cw)])) (fun _ k => XS.aloadN X1.here hx rfl (hb hby dlv_81) rfl rfl k) ?_
      obtain ⟨T3, X3, e3, st3⟩ := getF X1 hx hZ hown (host := "") (Or.inl (own_w hw 62 rfl)) Via.refl e1 FG_B (g := (mkF m 82 #[.val (.ref cw), .val (.int p1), sl] [(.ref cw)])) rfl rfl (hb hby dlv_82)
      refine own_st (g' := (mkF m 85 #[.val (.ref cw), .val (.int p1), sl] [(.ref a7)])) st3 ?_
      refine own_st (T' := T3) (g' := (mkF m 86 #[.val (.ref cw), .val (.int p1), sl] [(.ref cw), (.ref a7)])) (fun _ k => XS.aloadN X3.here hx rfl (hb hby dlv_85) rfl rfl k) ?_
      obtain ⟨T4, X4, e4, st4⟩ := getF X3 hx hZ hown (host := "") (Or.inl (own_w hw 77 rfl)) Via.refl e3 Gp_B (g := (mkF m 86 #[.val (.ref cw), .val (.int p1), sl] [(.ref cw), (.ref a7)])) rfl rfl (hb hby dlv_86)
      refine own_st (g' := (mkF m 89 #[.val (.ref cw), .val (.int p1), sl] [(.int ps), (.ref a7)])) st4 ?_
      refine own_st (T' := T4) (g' := (mkF m 90 #[.val (.ref cw), .val (.int p1), sl] [(.int (1 : Int32)), (.int ps), (.ref a7)])) (fun _ k => XS.iconst X4.here hx rfl (hb hby dlv_89) k) ?_
      refine own_st (T' := T4) (g' := (mkF m 91 #[.val (.ref cw), .val (.int p1), sl] [(.int (ps - (1 : Int32))), (.ref a7)])) (fun _ k => XS.isub X4.here hx rfl (hb hby dlv_90) rfl k) ?_
      obtain ⟨cl5, Ar5, S5, M5, H5⟩ := id BG_B
      refine own_st (T' := T4) (g' := (mkF m 92 #[.val (.ref cw), .val (.int p1), sl] [(.int (fP (ps - (1 : Int32))))])) (fun _ k => X4.iaload hx (j := (ps - (1 : Int32))) (v := (.int (fP (ps - (1 : Int32))))) (by rw [e4]; exact Ar5.1) (State.isArrayOf_alike hZ.alike Ar5.2.1) Ar5.2.2 (inb_of S5 ⟨hc1.1, hc1.2⟩) (H5 _ hc1.1 hc1.2) (g := (mkF m 91 #[.val (.ref cw), .val (.int p1), sl] [(.int (ps - (1 : Int32))), (.ref a7)])) rfl rfl (hb hby dlv_91) _ k) ?_
      refine own_st (T' := T4) (g' := (mkF m 93 #[.val (.ref cw), .val (.int p1), .val (.int (fP (ps - (1 : Int32))))] [])) (fun _ k => XS.istoreN X4.here hx rfl (hb hby dlv_92) rfl (l' := #[.val (.ref cw), .val (.int p1), .val (.int (fP (ps - (1 : Int32))))]) (own_os hsl) k) ?_
      refine own_st (T' := T4) (g' := (mkF m 94 #[.val (.ref cw), .val (.int p1), .val (.int (fP (ps - (1 : Int32))))] [(.ref cw)])) (fun _ k => XS.aloadN X4.here hx rfl (hb hby dlv_93) rfl rfl k) ?_
      obtain ⟨T6, X6, e6, st6⟩ := getF X4 hx hZ hown (host := "") (Or.inl (own_w hw 51 rfl)) Via.refl e4 FB_B (g := (mkF m 94 #[.val (.ref cw), .val (.int p1), .val (.int (fP (ps - (1 : Int32))))] [(.ref cw)])) rfl rfl (hb hby dlv_94)
      refine own_st (g' := (mkF m 97 #[.val (.ref cw), .val (.int p1), .val (.int (fP (ps - (1 : Int32))))] [(.ref a2)])) st6 ?_
      refine own_st (T' := T6) (g' := (mkF m 98 #[.val (.ref cw), .val (.int p1), .val (.int (fP (ps - (1 : Int32))))] [(.int (fP (ps - (1 : Int32)))), (.ref a2)])) (fun _ k => XS.iloadN X6.here hx rfl (hb hby dlv_97) rfl k) ?_
      refine own_st (T' := T6) (g' := (mkF m 99 #[.val (.ref cw), .val (.int p1), .val (.int (fP (ps - (1 : Int32))))] [(.ref cw), (.int (fP (ps - (1 : Int32)))), (.ref a2)])) (fun _ k => XS.aloadN X6.here hx rfl (hb hby dlv_98) rfl rfl k) ?_
      obtain ⟨T7, X7, e7, st7⟩ := getF X6 hx hZ hown (host := "") (Or.inl (own_w hw 51 rfl)) Via.refl e6 FB_B (g := (mkF m 99 #[.val (.ref cw), .val (.int p1), .val (.int (fP (ps - (1 : Int32))))] [(.ref cw), (.int (fP (ps - (1 : Int32)))), (.ref a2)])) rfl rfl (hb hby dlv_99)
      refine own_st (g' := (mkF m 102 #[.val (.ref cw), .val (.int p1), .val (.int (fP (ps - (1 : Int32))))] [(.ref a2), (.int (fP (ps - (1 : Int32)))), (.ref a2)])) st7 ?_
      refine own_st (T' := T7) (g' := (mkF m 103 #[.val (.ref cw), .val (.int p1), .val (.int (fP (ps - (1 : Int32))))] [(.int (fP (ps - (1 : Int32)))), (.ref a2), (.int (fP (ps - (1 : Int32)))), (.ref a2)])) (fun _ k => XS.iloadN X7.here hx rfl (hb hby dlv_102) rfl k) ?_
      obtain ⟨cl8, Ar8, S8, M8, H8⟩ := id BB_B
      refine own_st (T' := T7) (g' := (mkF m 104 #[.val (.ref cw), .val (.int p1), .val (.int (fP (ps - (1 : Int32))))] [(.int (fL (fP (ps - (1 : Int32))))), (.int (fP (ps - (1 : Int32)))), (.ref a2)])) (fun _ k => X7.iaload hx (j := (fP (ps - (1 : Int32)))) (v := (.int (fL (fP (ps - (1 : Int32)))))) (by rw [e7]; exact Ar8.1) (State.isArrayOf_alike hZ.alike Ar8.2.1) Ar8.2.2 (inb_of S8 ⟨hc2.1, hc2.2⟩) (H8 _ hc2.1 hc2.2) (g := (mkF m 103 #[.val (.ref cw), .val (.int p1), .val (.int (fP (ps - (1 : Int32))))] [(.int (fP (ps - (1 : Int32)))), (.ref a2), (.int (fP (ps - (1 : Int32)))), (.ref a2)])) rfl rfl (hb hby dlv_103) _ k) ?_
      refine own_st (T' := T7) (g' := (mkF m 105 #[.val (.ref cw), .val (.int p1), .val (.int (fP (ps - (1 : Int32))))] [(.ref cw), (.int (fL (fP (ps - (1 : Int32))))), (.int (fP (ps - (1 : Int32)))), (.ref a2)])) (fun _ k => XS.aloadN X7.here hx rfl (hb hby dlv_104) rfl rfl k) ?_
      obtain ⟨T9, X9, e9, st9⟩ := getF X7 hx hZ hown (host := "") (Or.inl (own_w hw 51 rfl)) Via.refl e7 FB_B (g := (mkF m 105 #[.val (.ref cw), .val (.int p1), .val (.int (fP (ps - (1 : Int32))))] [(.ref cw), (.int (fL (fP (ps - (1 : Int32))))), (.int (fP (ps - (1 : Int32)))), (.ref a2)])) rfl rfl (hb hby dlv_105)
      refine own_st (g' := (mkF m 108 #[.val (.ref cw), .val (.int p1), .val (.int (fP (ps - (1 : Int32))))] [(.ref a2), (.int (fL (fP (ps - (1 : Int32))))), (.int (fP (ps - (1 : Int32)))), (.ref a2)])) st9 ?_
      refine own_st (T' := T9) (g' := (mkF m 109 #[.val (.ref cw), .val (.int p1), .val (.int (fP (ps - (1 : Int32))))] [(.int p1), (.ref a2), (.int (fL (fP (ps - (1 : Int32))))), (.int (fP (ps - (1 : Int32)))), (.ref a2)])) (fun _ k => XS.iloadN X9.here hx rfl (hb hby dlv_108) rfl k) ?_
      obtain ⟨cl10, Ar10, S10, M10, H10⟩ := id BB_B
      refine own_st (T' := T9) (g' := (mkF m 110 #[.val (.ref cw), .val (.int p1), .val (.int (fP (ps - (1 : Int32))))] [(.int (fL p1)), (.int (fL (fP (ps - (1 : Int32))))), (.int (fP (ps - (1 : Int32)))), (.ref a2)])) (fun _ k => X9.iaload hx (j := p1) (v := (.int (fL p1))) (by rw [e9]; exact Ar10.1) (State.isArrayOf_alike hZ.alike Ar10.2.1) Ar10.2.2 (inb_of S10 ⟨hr.1, hr.2⟩) (H10 _ hr.1 hr.2) (g := (mkF m 109 #[.val (.ref cw), .val (.int p1), .val (.int (fP (ps - (1 : Int32))))] [(.int p1), (.ref a2), (.int (fL (fP (ps - (1 : Int32))))), (.int (fP (ps - (1 : Int32)))), (.ref a2)])) rfl rfl (hb hby dlv_109) _ k) ?_
      refine own_callS X9 hx hZ (y := (⟨"java/lang/Math", "min", "(II)I"⟩ : MethodName)) hown (own_w hw 84 rfl) (own_w hw 85 rfl) (own_w hw 86 rfl) (own_w hw 87 rfl) (by decide) (W := 2) e9 (argsL := [(.int (fL (fP (ps - (1 : Int32))))), (.int (fL p1))]) (rest := [(.int (fP (ps - (1 : Int32)))), (.ref a2)]) (rmmi l Z a0 hw [] (fL (fP (ps - (1 : Int32)))) (fL p1) TB.heap n0 ZB) (by decide) (by decide) (by decide) (by decide) (g := (mkF m 110 #[.val (.ref cw), .val (.int p1), .val (.int (fP (ps - (1 : Int32))))] [(.int (fL p1)), (.int (fL (fP (ps - (1 : Int32))))), (.int (fP (ps - (1 : Int32)))), (.ref a2)])) rfl (by rw [hml]; rfl) (lenOf own_pd0 rfl) rfl (by show 2 * 0 + _ ≤ _; exact Nat.le_of_eq rfl) (hb hby dlv_110) ?_
      rintro _ T11 L11 X11 ⟨rfl, N11q, e11⟩
      show own_Go _ _ _ _ _ _ _ T11 (mkF m 113 #[.val (.ref cw), .val (.int p1), .val (.int (fP (ps - (1 : Int32))))] [(.int (own_mn (fL (fP (ps - (1 : Int32)))) (fL p1))), (.int (fP (ps - (1 : Int32)))), (.ref a2)])
      have N11 := Fr.app NB N11q
      obtain ⟨cl12, Ar12, S12, M12, H12⟩ := id BB_B
      obtain ⟨T12, h12, X12, e12, W12, st12⟩ := stI X11 hx hZ e11 Ar12 (j := (fP (ps - (1 : Int32)))) (inb_of S12 ⟨hc2.1, hc2.2⟩) (g := (mkF m 113 #[.val (.ref cw), .val (.int p1), .val (.int (fP (ps - (1 : Int32))))] [(.int (own_mn (fL (fP (ps - (1 : Int32)))) (fL p1))), (.int (fP (ps - (1 : Int32)))), (.ref a2)])) rfl rfl (hb hby dlv_113)
      have V12 : own_A Z h12 a2 .int (3 : Int32) (fun i => (.int ((own_up fL (fP (ps - (1 : Int32))) (own_mn (fL (fP (ps - (1 : Int32)))) (fL p1))) i))) := (own_A.set Ar12 S12 M12 H12 hc2.1 hc2.2 W12).upI
      have N12 := Fr.snoc X12 N11 (hG _ (List.mem_of_getElem? (i := 5) rfl))
      refine own_st (g' := (mkF m 114 #[.val (.ref cw), .val (.int p1), .val (.int (fP (ps - (1 : Int32))))] [])) st12 ?_
      cases hmB
      exact own_retV X12 hx hlk hret (hb hby dlv_114) (by rw [e12]; exact ⟨rfl, N12, (KB.wr W12 (Or.inl (List.mem_of_getElem? (i := 2) rfl))), ⟨(Es_B.wr W12), (Ff_B.other W12 (Or.inl (own_nd hd 0 5 (by decide) rfl rfl))), (Ft_B.other W12 (Or.inl (own_nd hd 0 5 (by decide) rfl rfl))), (AF_B.other W12 (own_nd hd 1 5 (by decide) rfl rfl)), (AT_B.other W12 (own_nd hd 2 5 (by decide) rfl rfl)), (Ec_B.wr W12), (Fs_B.other W12 (Or.inl (own_nd hd 3 5 (by decide) rfl rfl))), (FA_B.other W12 (Or.inl (own_nd hd 3 5 (by decide) rfl rfl))), (FB_B.other W12 (Or.inl (own_nd hd 3 5 (by decide) rfl rfl))), (FC_B.other W12 (Or.inl (own_nd hd 3 5 (by decide) rfl rfl))), (FD_B.other W12 (Or.inl (own_nd hd 3 5 (by decide) rfl rfl))), (FE_B.other W12 (Or.inl (own_nd hd 3 5 (by decide) rfl rfl))), (FF_B.other W12 (Or.inl (own_nd hd 3 5 (by decide) rfl rfl))), (FG_B.other W12 (Or.inl (own_nd hd 3 5 (by decide) rfl rfl))), (Gu_B.other W12 (Or.inl (own_nd hd 3 5 (by decide) rfl rfl))), (Gp_B.other W12 (Or.inl (own_nd hd 3 5 (by decide) rfl rfl))), (Ge_B.other W12 (Or.inl (own_nd hd 3 5 (by decide) rfl rfl))), (Gc_B.other W12 (Or.inl (own_nd hd 3 5 (by decide) rfl rfl))), (BA_B.other W12 (own_nd hd 4 5 (by decide) rfl rfl)), V12, (BC_B.other W12 (Ne.symm (own_nd hd 5 6 (by decide) rfl rfl))), (BD_B.other W12 (Ne.symm (own_nd hd 5 7 (by decide) rfl rfl))), (BE_B.other W12 (Ne.symm (own_nd hd 5 8 (by decide) rfl rfl))), (BF_B.other W12 (Ne.symm (own_nd hd 5 9 (by decide) rfl rfl))), (BG_B.other W12 (Ne.symm (own_nd hd 5 10 (by decide) rfl rfl)))⟩⟩) (by decide) (by decide)
    · refine own_st (T' := T1) (g' := (mkF m 114 #[.val (.ref cw), .val (.int p1), sl] [])) (fun _ k => XS.ifYes X1.here hx rfl (pc0 := 78) (pc' := 114) rfl (hb hby dlv_78) rfl ((if0 _ _).trans (flt hc78_2).2.2.2) (by decide) (by decide) k) ?_
      rw [if_neg hc78_2] at hmB
      cases hmB
      exact own_retV X1 hx hlk hret (hb hby dlv_114) (by rw [e1]; exact ⟨rfl, NB, KB, ⟨Es_B, Ff_B, Ft_B, AF_B, AT_B, Ec_B, Fs_B, FA_B, FB_B, FC_B, FD_B, FE_B, FF_B, FG_B, Gu_B, Gp_B, Ge_B, Gc_B, BA_B, BB_B, BC_B, BD_B, BE_B, BF_B, BG_B⟩⟩) (by decide) (by decide)
  have loop : ∀ (n : Nat) (sl : Slot), One sl → ∀ (TA : State) (LA : List Loc) (q : own_CS), (match own_cl n q p1 with | some q2 => own_fi (own_inc q2) p1 | none => none) = some q' → Stand p l e ({ frames := 1, cells := 0, slots := 0, locals := 16 } : Room) s m #[(.ref cw), (.int p1)] below meth c TA LA 0 0 → Fr n0 LA → n0 ≤ TA.heap.size → Keep h0 TA.heap [cw, a1, a2, a3, a4, a5, a6, a7] → own_CW Z TA.heap so oF oT cw a1 a2 a3 a4 a5 a6 a7 fF fT q → own_Go p e s below (fun v h L => v = none ∧ Fr n0 L ∧ Keep h0 h [cw, a1, a2, a3, a4, a5, a6, a7] ∧ own_CW Z h so oF oT cw a1 a2 a3 a4 a5 a6 a7 fF fT q') ({ frames := 1, cells := 0, slots := 0, locals := 16 } : Room).cells ({ frames := 1, cells := 0, slots := 0, locals := 16 } : Room).slots TA (mkF m 25 #[.val (.ref cw), .val (.int p1), sl] []) := by
    intro n
    induction n with
    | zero => intro sl hsl TA LA q hmA; unfold own_cl at hmA; cases hmA
    | succ n ih =>
      intro sl hsl TA LA q hmA XA NA ZA KA hqA
      obtain ⟨fE, fL, fN, fC, fO, fU, fP, us, ps, en, ci⟩ := q
      have hq_A := hqA
      dsimp only [own_CW] at hq_A
      obtain ⟨Es_A, Ff_A, Ft_A, AF_A, AT_A, Ec_A, Fs_A, FA_A, FB_A, FC_A, FD_A, FE_A, FF_A, FG_A, Gu_A, Gp_A, Ge_A, Gc_A, BA_A, BB_A, BC_A, BD_A, BE_A, BF_A, BG_A⟩ := hq_A
      unfold own_cl at hmA
      have hb1 : own_in3 (us - 1) := by
        by_cases hh : own_in3 (us - 1)
        · exact hh
        · rw [if_neg hh] at hmA; cases hmA
      rw [if_pos hb1] at hmA
      have hb2 : own_in3 (fU (us - 1)) := by
        by_cases hh : own_in3 (fU (us - 1))
        · exact hh
        · rw [if_neg hh] at hmA; cases hmA
      rw [if_pos hb2] at hmA
      refine own_st (T' := TA) (g' := (mkF m 26 #[.val (.ref cw), .val (.int p1), sl] [(.ref cw)])) (fun _ k => XS.aloadN XA.here hx rfl (hb hby dlv_25) rfl rfl k) ?_
      obtain ⟨T13, X13, e13, st13⟩ := getF XA hx hZ hown (host := "") (Or.inl (own_w hw 60 rfl)) Via.refl rfl FF_A (g := (mkF m 26 #[.val (.ref cw), .val (.int p1), sl] [(.ref cw)])) rfl rfl (hb hby dlv_26)
      refine own_st (g' := (mkF m 29 #[.val (.ref cw), .val (.int p1), sl] [(.ref a6)])) st13 ?_
      refine own_st (T' := T13) (g' := (mkF m 30 #[.val (.ref cw), .val (.int p1), sl] [(.ref cw), (.ref a6)])) (fun _ k => XS.aloadN X13.here hx rfl (hb hby dlv_29) rfl rfl k) ?_
      refine own_st (T' := T13) (g' := (mkF m 31 #[.val (.ref cw), .val (.int p1), sl] [(.ref cw), (.ref cw), (.ref a6)])) (fun _ k => XS.dup X13.here hx rfl (hb hby dlv_30) rfl rfl k) ?_
      obtain ⟨T14, X14, e14, st14⟩ := getF X13 hx hZ hown (host := "") (Or.inl (own_w hw 75 rfl)) Via.refl e13 Gu_A (g := (mkF m 31 #[.val (.ref cw), .val (.int p1), sl] [(.ref cw), (.ref cw), (.ref a6)])) rfl rfl (hb hby dlv_31)
      refine own_st (g' := (mkF m 34 #[.val (.ref cw), .val (.int p1), sl] [(.int us), (.ref cw), (.ref a6)])) st14 ?_
      refine own_st (T' := T14) (g' := (mkF m 35 #[.val (.ref cw), .val (.int p1), sl] [(.int (1 : Int32)), (.int us), (.ref cw), (.ref a6)])) (fun _ k => XS.iconst X14.here hx rfl (hb hby dlv_34) k) ?_
      refine own_st (T' := T14) (g' := (mkF m 36 #[.val (.ref cw), .val (.int p1), sl] [(.int (us - (1 : Int32))), (.ref cw), (.ref a6)])) (fun _ k => XS.isub X14.here hx rfl (hb hby dlv_35) rfl k) ?_
      refine own_st (T' := T14) (g' := (mkF m 37 #[.val (.ref cw), .val (.int p1), sl] [(.int (us - (1 : Int32))), (.ref cw), (.int (us - (1 : Int32))), (.ref a6)])) (fun _ k => XS.dupX1 X14.here hx rfl (hb hby dlv_36) rfl rfl rfl k) ?_
      obtain ⟨T15, h15, X15, e15, W15, st15⟩ := putF X14 hx hZ hown (host := "") (Or.inl (own_w hw 75 rfl)) Via.refl e14 Gu_A Ec_A (Or.inl (own_w hw 76 rfl)) (own_w hw 37 rfl) (ty := .int) (by decide) rfl rfl (g := (mkF m 37 #[.val (.ref cw), .val (.int p1), sl] [(.int (us - (1 : Int32))), (.ref cw), (.int (us - (1 : Int32))), (.ref a6)])) rfl rfl (hb hby dlv_37)
      have Fw15 := Gu_A.same W15
      have N15 := Fr.snoc X15 NA (hG _ (List.mem_of_getElem? (i := 3) rfl))
      refine own_st (g' := (mkF m 40 #[.val (.ref cw), .val (.int p1), sl] [(.int (us - (1 : Int32))), (.ref a6)])) st15 ?_
      obtain ⟨cl16, Ar16, S16, M16, H16⟩ := id (BF_A.other W15 (Ne.symm (own_nd hd 3 9 (by decide) rfl rfl)))
      refine own_st (T' := T15) (g' := (mkF m 41 #[.val (.ref cw), .val (.int p1), sl] [(.int (fU (us - (1 : Int32))))])) (fun _ k => X15.iaload hx (j := (us - (1 : Int32))) (v := (.int (fU (us - (1 : Int32))))) (by rw [e15]; exact Ar16.1) (State.isArrayOf_alike hZ.alike Ar16.2.1) Ar16.2.2 (inb_of S16 ⟨hb1.1, hb1.2⟩) (H16 _ hb1.1 hb1.2) (g := (mkF m 40 #[.val (.ref cw), .val (.int p1), sl] [(.int (us - (1 : Int32))), (.ref a6)])) rfl rfl (hb hby dlv_40) _ k) ?_
      refine own_st (T' := T15) (g' := (mkF m 42 #[.val (.ref cw), .val (.int p1), .val (.int (fU (us - (1 : Int32))))] [])) (fun _ k => XS.istoreN X15.here hx rfl (hb hby dlv_41) rfl (l' := #[.val (.ref cw), .val (.int p1), .val (.int (fU (us - (1 : Int32))))]) (own_os hsl) k) ?_
      refine own_st (T' := T15) (g' := (mkF m 43 #[.val (.ref cw), .val (.int p1), .val (.int (fU (us - (1 : Int32))))] [(.ref cw)])) (fun _ k => XS.aloadN X15.here hx rfl (hb hby dlv_42) rfl rfl k) ?_
      obtain ⟨T17, X17, e17, st17⟩ := getF X15 hx hZ hown (host := "") (Or.inl (own_w hw 58 rfl)) Via.refl e15 (FE_A.other W15 (Or.inr (slot_ne (Or.inr (own_w hw 59 rfl)) (Or.inl (own_w hw 76 rfl)) (by decide) (t := (.array .boolean)) (t' := .int) (by decide) (by decide)))) (g := (mkF m 43 #[.val (.ref cw), .val (.int p1), .val (.int (fU (us - (1 : Int32))))] [(.ref cw)])) rfl rfl (hb hby dlv_43)
      refine own_st (g' := (mkF m 46 #[.val (.ref cw), .val (.int p1), .val (.int (fU (us - (1 : Int32))))] [(.ref a5)])) st17 ?_
      refine own_st (T' := T17) (g' := (mkF m 47 #[.val (.ref cw), .val (.int p1), .val (.int (fU (us - (1 : Int32))))] [(.int (fU (us - (1 : Int32)))), (.ref a5)])) (fun _ k => XS.iloadN X17.here hx rfl (hb hby dlv_46) rfl k) ?_
      refine own_st (T' := T17) (g' := (mkF m 48 #[.val (.ref cw), .val (.int p1), .val (.int (fU (us - (1 : Int32))))] [(.int (0 : Int32)), (.int (fU (us - (1 : Int32)))), (.ref a5)])) (fun _ k => XS.iconst X17.here hx rfl (hb hby dlv_47) k) ?_
      obtain ⟨cl18, Ar18, S18, M18, H18⟩ := id (BE_A.other W15 (Ne.symm (own_nd hd 3 8 (by decide) rfl rfl)))
      obtain ⟨T18, h18, X18, e18, W18, st18⟩ := stZ X17 hx hZ e17 Ar18 (j := (fU (us - (1 : Int32)))) (inb_of S18 ⟨hb2.1, hb2.2⟩) (g := (mkF m 48 #[.val (.ref cw), .val (.int p1), .val (.int (fU (us - (1 : Int32))))] [(.int (0 : Int32)), (.int (fU (us - (1 : Int32)))), (.ref a5)])) rfl rfl (hb hby dlv_48)
      have V18 : own_A Z h18 a5 .boolean (3 : Int32) (fun i => (.int ((own_up fO (fU (us - (1 : Int32))) (0 : Int32)) i))) := (own_A.set Ar18 S18 M18 H18 hb2.1 hb2.2 W18).upI
      have N18 := Fr.snoc X18 N15 (hG _ (List.mem_of_getElem? (i := 8) rfl))
      refine own_st (g' := (mkF m 49 #[.val (.ref cw), .val (.int p1), .val (.int (fU (us - (1 : Int32))))] [])) st18 ?_
      refine own_st (T' := T18) (g' := (mkF m 50 #[.val (.ref cw), .val (.int p1), .val (.int (fU (us - (1 : Int32))))] [(.ref cw)])) (fun _ k => XS.aloadN X18.here hx rfl (hb hby dlv_49) rfl rfl k) ?_
      obtain ⟨T19, X19, e19, st19⟩ := getF X18 hx hZ hown (host := "") (Or.inl (own_w hw 55 rfl)) Via.refl e18 ((FD_A.other W15 (Or.inr (slot_ne (Or.inr (own_w hw 56 rfl)) (Or.inl (own_w hw 76 rfl)) (by decide) (t := (.array .int)) (t' := .int) (by decide) (by decide)))).other W18 (Or.inl (own_nd hd 3 8 (by decide) rfl rfl))) (g := (mkF m 50 #[.val (.ref cw), .val (.int p1), .val (.int (fU (us - (1 : Int32))))] [(.ref cw)])) rfl rfl (hb hby dlv_50)
      refine own_st (g' := (mkF m 53 #[.val (.ref cw), .val (.int p1), .val (.int (fU (us - (1 : Int32))))] [(.ref a4)])) st19 ?_
      refine own_st (T' := T19) (g' := (mkF m 54 #[.val (.ref cw), .val (.int p1), .val (.int (fU (us - (1 : Int32))))] [(.int (fU (us - (1 : Int32)))), (.ref a4)])) (fun _ k => XS.iloadN X19.here hx rfl (hb hby dlv_53) rfl k) ?_
      refine own_st (T' := T19) (g' := (mkF m 55 #[.val (.ref cw), .val (.int p1), .val (.int (fU (us - (1 : Int32))))] [(.ref cw), (.int (fU (us - (1 : Int32)))), (.ref a4)])) (fun _ k => XS.aloadN X19.here hx rfl (hb hby dlv_54) rfl rfl k) ?_
      obtain ⟨T20, X20, e20, st20⟩ := getF X19 hx hZ hown (host := "") (Or.inl (own_w hw 92 rfl)) Via.refl e19 ((Gc_A.other W15 (Or.inr (slot_ne (Or.inl (own_w hw 93 rfl)) (Or.inl (own_w hw 76 rfl)) (by decide) (t := .int) (t' := .int) (by decide) (by decide)))).other W18 (Or.inl (own_nd hd 3 8 (by decide) rfl rfl))) (g := (mkF m 55 #[.val (.ref cw), .val (.int p1), .val (.int (fU (us - (1 : Int32))))] [(.ref cw), (.int (fU (us - (1 : Int32)))), (.ref a4)])) rfl rfl (hb hby dlv_55)
      refine own_st (g' := (mkF m 58 #[.val (.ref cw), .val (.int p1), .val (.int (fU (us - (1 : Int32))))] [(.int ci), (.int (fU (us - (1 : Int32)))), (.ref a4)])) st20 ?_
      obtain ⟨cl21, Ar21, S21, M21, H21⟩ := id ((BD_A.other W15 (Ne.symm (own_nd hd 3 7 (by decide) rfl rfl))).other W18 (own_nd hd 7 8 (by decide) rfl rfl))
      obtain ⟨T21, h21, X21, e21, W21, st21⟩ := stI X20 hx hZ e20 Ar21 (j := (fU (us - (1 : Int32)))) (inb_of S21 ⟨hb2.1, hb2.2⟩) (g := (mkF m 58 #[.val (.ref cw), .val (.int p1), .val (.int (fU (us - (1 : Int32))))] [(.int ci), (.int (fU (us - (1 : Int32)))), (.ref a4)])) rfl rfl (hb hby dlv_58)
      have V21 : own_A Z h21 a4 .int (3 : Int32) (fun i => (.int ((own_up fC (fU (us - (1 : Int32))) ci) i))) := (own_A.set Ar21 S21 M21 H21 hb2.1 hb2.2 W21).upI
      have N21 := Fr.snoc X21 N18 (hG _ (List.mem_of_getElem? (i := 7) rfl))
      refine own_st (g' := (mkF m 59 #[.val (.ref cw), .val (.int p1), .val (.int (fU (us - (1 : Int32))))] [])) st21 ?_
      refine own_st (T' := T21) (g' := (mkF m 60 #[.val (.ref cw), .val (.int p1), .val (.int (fU (us - (1 : Int32))))] [(.int (fU (us - (1 : Int32))))])) (fun _ k => XS.iloadN X21.here hx rfl (hb hby dlv_59) rfl k) ?_
      refine own_st (T' := T21) (g' := (mkF m 61 #[.val (.ref cw), .val (.int p1), .val (.int (fU (us - (1 : Int32))))] [(.int p1), (.int (fU (us - (1 : Int32))))])) (fun _ k => XS.iloadN X21.here hx rfl (hb hby dlv_60) rfl k) ?_
      by_cases hc61_22 : (fU (us - (1 : Int32))) = p1
      · refine own_st (T' := T21) (g' := (mkF m 64 #[.val (.ref cw), .val (.int p1), .val (.int (fU (us - (1 : Int32))))] [])) (fun _ k => XS.icmpNo X21.here hx rfl (hb hby dlv_61) rfl (teq hc61_22).2 k) ?_
        rw [if_pos hc61_22] at hmA
        refine own_st (T' := T21) (g' := (mkF m 65 #[.val (.ref cw), .val (.int p1), .val (.int (fU (us - (1 : Int32))))] [(.ref cw)])) (fun _ k => XS.aloadN X21.here hx rfl (hb hby dlv_64) rfl rfl k) ?_
        refine own_st (T' := T21) (g' := (mkF m 66 #[.val (.ref cw), .val (.int p1), .val (.int (fU (us - (1 : Int32))))] [(.ref cw), (.ref cw)])) (fun _ k => XS.dup X21.here hx rfl (hb hby dlv_65) rfl rfl k) ?_
        obtain ⟨T23, X23, e23, st23⟩ := getF X21 hx hZ hown (host := "") (Or.inl (own_w hw 92 rfl)) Via.refl e21 (((Gc_A.other W15 (Or.inr (slot_ne (Or.inl (own_w hw 93 rfl)) (Or.inl (own_w hw 76 rfl)) (by decide) (t := .int) (t' := .int) (by decide) (by decide)))).other W18 (Or.inl (own_nd hd 3 8 (by decide) rfl rfl))).other W21 (Or.inl (own_nd hd 3 7 (by decide) rfl rfl))) (g := (mkF m 66 #[.val (.ref cw), .val (.int p1), .val (.int (fU (us - (1 : Int32))))] [(.ref cw), (.ref cw)])) rfl rfl (hb hby dlv_66)
        refine own_st (g' := (mkF m 69 #[.val (.ref cw), .val (.int p1), .val (.int (fU (us - (1 : Int32))))] [(.int ci), (.ref cw)])) st23 ?_
        refine own_st (T' := T23) (g' := (mkF m 70 #[.val (.ref cw), .val (.int p1), .val (.int (fU (us - (1 : Int32))))] [(.int (1 : Int32)), (.int ci), (.ref cw)])) (fun _ k => XS.iconst X23.here hx rfl (hb hby dlv_69) k) ?_
        refine own_st (T' := T23) (g' := (mkF m 71 #[.val (.ref cw), .val (.int p1), .val (.int (fU (us - (1 : Int32))))] [(.int (ci + (1 : Int32))), (.ref cw)])) (fun _ k => XS.iadd X23.here hx rfl (hb hby dlv_70) rfl k) ?_
        obtain ⟨T24, h24, X24, e24, W24, st24⟩ := putF X23 hx hZ hown (host := "") (Or.inl (own_w hw 92 rfl)) Via.refl e23 (((Gc_A.other W15 (Or.inr (slot_ne (Or.inl (own_w hw 93 rfl)) (Or.inl (own_w hw 76 rfl)) (by decide) (t := .int) (t' := .int) (by decide) (by decide)))).other W18 (Or.inl (own_nd hd 3 8 (by decide) rfl rfl))).other W21 (Or.inl (own_nd hd 3 7 (by decide) rfl rfl))) (((Ec_A.wr W15).wr W18).wr W21) (Or.inl (own_w hw 93 rfl)) (own_w hw 37 rfl) (ty := .int) (by decide) rfl rfl (g := (mkF m 71 #[.val (.ref cw), .val (.int p1), .val (.int (fU (us - (1 : Int32))))] [(.int (ci + (1 : Int32))), (.ref cw)])) rfl rfl (hb hby dlv_71)
        have Fw24 := (((Gc_A.other W15 (Or.inr (slot_ne (Or.inl (own_w hw 93 rfl)) (Or.inl (own_w hw 76 rfl)) (by decide) (t := .int) (t' := .int) (by decide) (by decide)))).other W18 (Or.inl (own_nd hd 3 8 (by decide) rfl rfl))).other W21 (Or.inl (own_nd hd 3 7 (by decide) rfl rfl))).same W24
        have N24 := Fr.snoc X24 N21 (hG _ (List.mem_of_getElem? (i := 3) rfl))
        refine own_st (g' := (mkF m 74 #[.val (.ref cw), .val (.int p1), .val (.int (fU (us - (1 : Int32))))] [])) st24 ?_
        exact rest _ (One.val rfl) _ _ _ hmA X24 N24 (by rw [e24]; exact (Nat.le_trans (Nat.le_trans (Nat.le_trans (Nat.le_trans ZA (Nat.le_of_eq W15.size.symm)) (Nat.le_of_eq W18.size.symm)) (Nat.le_of_eq W21.size.symm)) (Nat.le_of_eq W24.size.symm))) (by rw [e24]; exact ((((KA.wr W15 (Or.inl (List.mem_of_getElem? (i := 0) rfl))).wr W18 (Or.inl (List.mem_of_getElem? (i := 5) rfl))).wr W21 (Or.inl (List.mem_of_getElem? (i := 4) rfl))).wr W24 (Or.inl (List.mem_of_getElem? (i := 0) rfl)))) (by rw [e24]; exact (show own_CW Z h24 so oF oT cw a1 a2 a3 a4 a5 a6 a7 fF fT (fE, fL, fN, (own_up fC (fU (us - (1 : Int32))) ci), (own_up fO (fU (us - (1 : Int32))) (0 : Int32)), fU, fP, (us - (1 : Int32)), ps, en, (ci + (1 : Int32))) from ⟨((((Es_A.wr W15).wr W18).wr W21).wr W24), ((((Ff_A.other W15 (Or.inl (own_nd hd 0 3 (by decide) rfl rfl))).other W18 (Or.inl (own_nd hd 0 8 (by decide) rfl rfl))).other W21 (Or.inl (own_nd hd 0 7 (by decide) rfl rfl))).other W24 (Or.inl (own_nd hd 0 3 (by decide) rfl rfl))), ((((Ft_A.other W15 (Or.inl (own_nd hd 0 3 (by decide) rfl rfl))).other W18 (Or.inl (own_nd hd 0 8 (by decide) rfl rfl))).other W21 (Or.inl (own_nd hd 0 7 (by decide) rfl rfl))).other W24 (Or.inl (own_nd hd 0 3 (by decide) rfl rfl))), ((((AF_A.other W15 (own_nd hd 1 3 (by decide) rfl rfl)).other W18 (own_nd hd 1 8 (by decide) rfl rfl)).other W21 (own_nd hd 1 7 (by decide) rfl rfl)).other W24 (own_nd hd 1 3 (by decide) rfl rfl)), ((((AT_A.other W15 (own_nd hd 2 3 (by decide) rfl rfl)).other W18 (own_nd hd 2 8 (by decide) rfl rfl)).other W21 (own_nd hd 2 7 (by decide) rfl rfl)).other W24 (own_nd hd 2 3 (by decide) rfl rfl)), ((((Ec_A.wr W15).wr W18).wr W21).wr W24), ((((Fs_A.other W15 (Or.inr (slot_ne (Or.inr (own_w hw 44 rfl)) (Or.inl (own_w hw 76 rfl)) (by decide) (t := (.object "com/example/procurator/procurator/model/RelationGraph$Steps")) (t' := .int) (by decide) (by decide)))).other W18 (Or.inl (own_nd hd 3 8 (by decide) rfl rfl))).other W21 (Or.inl (own_nd hd 3 7 (by decide) rfl rfl))).other W24 (Or.inr (slot_ne (Or.inr (own_w hw 44 rfl)) (Or.inl (own_w hw 93 rfl)) (by decide) (t := (.object "com/example/procurator/procurator/model/RelationGraph$Steps")) (t' := .int) (by decide) (by decide)))), ((((FA_A.other W15 (Or.inr (slot_ne (Or.inr (own_w hw 50 rfl)) (Or.inl (own_w hw 76 rfl)) (by decide) (t := (.array .int)) (t' := .int) (by decide) (by decide)))).other W18 (Or.inl (own_nd hd 3 8 (by decide) rfl rfl))).other W21 (Or.inl (own_nd hd 3 7 (by decide) rfl rfl))).other W24 (Or.inr (slot_ne (Or.inr (own_w hw 50 rfl)) (Or.inl (own_w hw 93 rfl)) (by decide) (t := (.array .int)) (t' := .int) (by decide) (by decide)))), ((((FB_A.other W15 (Or.inr (slot_ne (Or.inr (own_w hw 52 rfl)) (Or.inl (own_w hw 76 rfl)) (by decide) (t := (.array .int)) (t' := .int) (by decide) (by decide)))).other W18 (Or.inl (own_nd hd 3 8 (by decide) rfl rfl))).other W21 (Or.inl (own_nd hd 3 7 (by decide) rfl rfl))).other W24 (Or.inr (slot_ne (Or.inr (own_w hw 52 rfl)) (Or.inl (own_w hw 93 rfl)) (by decide) (t := (.array .int)) (t' := .int) (by decide) (by decide)))), ((((FC_A.other W15 (Or.inr (slot_ne (Or.inr (own_w hw 54 rfl)) (Or.inl (own_w hw 76 rfl)) (by decide) (t := (.array .int)) (t' := .int) (by decide) (by decide)))).other W18 (Or.inl (own_nd hd 3 8 (by decide) rfl rfl))).other W21 (Or.inl (own_nd hd 3 7 (by decide) rfl rfl))).other W24 (Or.inr (slot_ne (Or.inr (own_w hw 54 rfl)) (Or.inl (own_w hw 93 rfl)) (by decide) (t := (.array .int)) (t' := .int) (by decide) (by decide)))), ((((FD_A.other W15 (Or.inr (slot_ne (Or.inr (own_w hw 56 rfl)) (Or.inl (own_w hw 76 rfl)) (by decide) (t := (.array .int)) (t' := .int) (by decide) (by decide)))).other W18 (Or.inl (own_nd hd 3 8 (by decide) rfl rfl))).other W21 (Or.inl (own_nd hd 3 7 (by decide) rfl rfl))).other W24 (Or.inr (slot_ne (Or.inr (own_w hw 56 rfl)) (Or.inl (own_w hw 93 rfl)) (by decide) (t := (.array .int)) (t' := .int) (by decide) (by decide)))), ((((FE_A.other W15 (Or.inr (slot_ne (Or.inr (own_w hw 59 rfl)) (Or.inl (own_w hw 76 rfl)) (by decide) (t := (.array .boolean)) (t' := .int) (by decide) (by decide)))).other W18 (Or.inl (own_nd hd 3 8 (by decide) rfl rfl))).other W21 (Or.inl (own_nd hd 3 7 (by decide) rfl rfl))).other W24 (Or.inr (slot_ne (Or.inr (own_w hw 59 rfl)) (Or.inl (own_w hw 93 rfl)) (by decide) (t := (.array .boolean)) (t' := .int) (by decide) (by decide)))), ((((FF_A.other W15 (Or.inr (slot_ne (Or.inr (own_w hw 61 rfl)) (Or.inl (own_w hw 76 rfl)) (by decide) (t := (.array .int)) (t' := .int) (by decide) (by decide)))).other W18 (Or.inl (own_nd hd 3 8 (by decide) rfl rfl))).other W21 (Or.inl (own_nd hd 3 7 (by decide) rfl rfl))).other W24 (Or.inr (slot_ne (Or.inr (own_w hw 61 rfl)) (Or.inl (own_w hw 93 rfl)) (by decide) (t := (.array .int)) (t' := .int) (by decide) (by decide)))), ((((FG_A.other W15 (Or.inr (slot_ne (Or.inr (own_w hw 63 rfl)) (Or.inl (own_w hw 76 rfl)) (by decide) (t := (.array .int)) (t' := .int) (by decide) (by decide)))).other W18 (Or.inl (own_nd hd 3 8 (by decide) rfl rfl))).other W21 (Or.inl (own_nd hd 3 7 (by decide) rfl rfl))).other W24 (Or.inr (slot_ne (Or.inr (own_w hw 63 rfl)) (Or.inl (own_w hw 93 rfl)) (by decide) (t := (.array .int)) (t' := .int) (by decide) (by decide)))), (((Fw15.other W18 (Or.inl (own_nd hd 3 8 (by decide) rfl rfl))).other W21 (Or.inl (own_nd hd 3 7 (by decide) rfl rfl))).other W24 (Or.inr (slot_ne (Or.inl (own_w hw 76 rfl)) (Or.inl (own_w hw 93 rfl)) (by decide) (t := .int) (t' := .int) (by decide) (by decide)))), ((((Gp_A.other W15 (Or.inr (slot_ne (Or.inl (own_w hw 78 rfl)) (Or.inl (own_w hw 76 rfl)) (by decide) (t := .int) (t' := .int) (by decide) (by decide)))).other W18 (Or.inl (own_nd hd 3 8 (by decide) rfl rfl))).other W21 (Or.inl (own_nd hd 3 7 (by decide) rfl rfl))).other W24 (Or.inr (slot_ne (Or.inl (own_w hw 78 rfl)) (Or.inl (own_w hw 93 rfl)) (by decide) (t := .int) (t' := .int) (by decide) (by decide)))), ((((Ge_A.other W15 (Or.inr (slot_ne (Or.inl (own_w hw 73 rfl)) (Or.inl (own_w hw 76 rfl)) (by decide) (t := .int) (t' := .int) (by decide) (by decide)))).other W18 (Or.inl (own_nd hd 3 8 (by decide) rfl rfl))).other W21 (Or.inl (own_nd hd 3 7 (by decide) rfl rfl))).other W24 (Or.inr (slot_ne (Or.inl (own_w hw 73 rfl)) (Or.inl (own_w hw 93 rfl)) (by decide) (t := .int) (t' := .int) (by decide) (by decide)))), Fw24, ((((BA_A.other W15 (Ne.symm (own_nd hd 3 4 (by decide) rfl rfl))).other W18 (own_nd hd 4 8 (by decide) rfl rfl)).other W21 (own_nd hd 4 7 (by decide) rfl rfl)).other W24 (Ne.symm (own_nd hd 3 4 (by decide) rfl rfl))), ((((BB_A.other W15 (Ne.symm (own_nd hd 3 5 (by decide) rfl rfl))).other W18 (own_nd hd 5 8 (by decide) rfl rfl)).other W21 (own_nd hd 5 7 (by decide) rfl rfl)).other W24 (Ne.symm (own_nd hd 3 5 (by decide) rfl rfl))), ((((BC_A.other W15 (Ne.symm (own_nd hd 3 6 (by decide) rfl rfl))).other W18 (own_nd hd 6 8 (by decide) rfl rfl)).other W21 (own_nd hd 6 7 (by decide) rfl rfl)).other W24 (Ne.symm (own_nd hd 3 6 (by decide) rfl rfl))), (V21.other W24 (Ne.symm (own_nd hd 3 7 (by decide) rfl rfl))), ((V18.other W21 (Ne.symm (own_nd hd 7 8 (by decide) rfl rfl))).other W24 (Ne.symm (own_nd hd 3 8 (by decide) rfl rfl))), ((((BF_A.other W15 (Ne.symm (own_nd hd 3 9 (by decide) rfl rfl))).other W18 (Ne.symm (own_nd hd 8 9 (by decide) rfl rfl))).other W21 (Ne.symm (own_nd hd 7 9 (by decide) rfl rfl))).other W24 (Ne.symm (own_nd hd 3 9 (by decide) rfl rfl))), ((((BG_A.other W15 (Ne.symm (own_nd hd 3 10 (by decide) rfl rfl))).other W18 (Ne.symm (own_nd hd 8 10 (by decide) rfl rfl))).other W21 (Ne.symm (own_nd hd 7 10 (by decide) rfl rfl))).other W24 (Ne.symm (own_nd hd 3 10 (by decide) rfl rfl)))⟩))
      · refine own_st (T' := T21) (g' := (mkF m 25 #[.val (.ref cw), .val (.int p1), .val (.int (fU (us - (1 : Int32))))] [])) (fun _ k => XS.icmpYes X21.here hx rfl (pc0 := 61) (pc' := 25) rfl (hb hby dlv_61) rfl (feq hc61_22).2 (by decide) (by decide) k) ?_
        rw [if_neg hc61_22] at hmA
        exact ih _ (One.val rfl) _ _ _ hmA X21 N21 (by rw [e21]; exact (Nat.le_trans (Nat.le_trans (Nat.le_trans ZA (Nat.le_of_eq W15.size.symm)) (Nat.le_of_eq W18.size.symm)) (Nat.le_of_eq W21.size.symm))) (by rw [e21]; exact (((KA.wr W15 (Or.inl (List.mem_of_getElem? (i := 0) rfl))).wr W18 (Or.inl (List.mem_of_getElem? (i := 5) rfl))).wr W21 (Or.inl (List.mem_of_getElem? (i := 4) rfl)))) (by rw [e21]; exact (show own_CW Z h21 so oF oT cw a1 a2 a3 a4 a5 a6 a7 fF fT (fE, fL, fN, (own_up fC (fU (us - (1 : Int32))) ci), (own_up fO (fU (us - (1 : Int32))) (0 : Int32)), fU, fP, (us - (1 : Int32)), ps, en, ci) from ⟨(((Es_A.wr W15).wr W18).wr W21), (((Ff_A.other W15 (Or.inl (own_nd hd 0 3 (by decide) rfl rfl))).other W18 (Or.inl (own_nd hd 0 8 (by decide) rfl rfl))).other W21 (Or.inl (own_nd hd 0 7 (by decide) rfl rfl))), (((Ft_A.other W15 (Or.inl (own_nd hd 0 3 (by decide) rfl rfl))).other W18 (Or.inl (own_nd hd 0 8 (by decide) rfl rfl))).other W21 (Or.inl (own_nd hd 0 7 (by decide) rfl rfl))), (((AF_A.other W15 (own_nd hd 1 3 (by decide) rfl rfl)).other W18 (own_nd hd 1 8 (by decide) rfl rfl)).other W21 (own_nd hd 1 7 (by decide) rfl rfl)), (((AT_A.other W15 (own_nd hd 2 3 (by decide) rfl rfl)).other W18 (own_nd hd 2 8 (by decide) rfl rfl)).other W21 (own_nd hd 2 7 (by decide) rfl rfl)), (((Ec_A.wr W15).wr W18).wr W21), (((Fs_A.other W15 (Or.inr (slot_ne (Or.inr (own_w hw 44 rfl)) (Or.inl (own_w hw 76 rfl)) (by decide) (t := (.object "com/example/procurator/procurator/model/RelationGraph$Steps")) (t' := .int) (by decide) (by decide)))).other W18 (Or.inl (own_nd hd 3 8 (by decide) rfl rfl))).other W21 (Or.inl (own_nd hd 3 7 (by decide) rfl rfl))), (((FA_A.other W15 (Or.inr (slot_ne (Or.inr (own_w hw 50 rfl)) (Or.inl (own_w hw 76 rfl)) (by decide) (t := (.array .int)) (t' := .int) (by decide) (by decide)))).other W18 (Or.inl (own_nd hd 3 8 (by decide) rfl rfl))).other W21 (Or.inl (own_nd hd 3 7 (by decide) rfl rfl))), (((FB_A.other W15 (Or.inr (slot_ne (Or.inr (own_w hw 52 rfl)) (Or.inl (own_w hw 76 rfl)) (by decide) (t := (.array .int)) (t' := .int) (by decide) (by decide)))).other W18 (Or.inl (own_nd hd 3 8 (by decide) rfl rfl))).other W21 (Or.inl (own_nd hd 3 7 (by decide) rfl rfl))), (((FC_A.other W15 (Or.inr (slot_ne (Or.inr (own_w hw 54 rfl)) (Or.inl (own_w hw 76 rfl)) (by decide) (t := (.array .int)) (t' := .int) (by decide) (by decide)))).other W18 (Or.inl (own_nd hd 3 8 (by decide) rfl rfl))).other W21 (Or.inl (own_nd hd 3 7 (by decide) rfl rfl))), (((FD_A.other W15 (Or.inr (slot_ne (Or.inr (own_w hw 56 rfl)) (Or.inl (own_w hw 76 rfl)) (by decide) (t := (.array .int)) (t' := .int) (by decide) (by decide)))).other W18 (Or.inl (own_nd hd 3 8 (by decide) rfl rfl))).other W21 (Or.inl (own_nd hd 3 7 (by decide) rfl rfl))), (((FE_A.other W15 (Or.inr (slot_ne (Or.inr (own_w hw 59 rfl)) (Or.inl (own_w hw 76 rfl)) (by decide) (t := (.array .boolean)) (t' := .int) (by decide) (by decide)))).other W18 (Or.inl (own_nd hd 3 8 (by decide) rfl rfl))).other W21 (Or.inl (own_nd hd 3 7 (by decide) rfl rfl))), (((FF_A.other W15 (Or.inr (slot_ne (Or.inr (own_w hw 61 rfl)) (Or.inl (own_w hw 76 rfl)) (by decide) (t := (.array .int)) (t' := .int) (by decide) (by decide)))).other W18 (Or.inl (own_nd hd 3 8 (by decide) rfl rfl))).other W21 (Or.inl (own_nd hd 3 7 (by decide) rfl rfl))), (((FG_A.other W15 (Or.inr (slot_ne (Or.inr (own_w hw 63 rfl)) (Or.inl (own_w hw 76 rfl)) (by decide) (t := (.array .int)) (t' := .int) (by decide) (by decide)))).other W18 (Or.inl (own_nd hd 3 8 (by decide) rfl rfl))).other W21 (Or.inl (own_nd hd 3 7 (by decide) rfl rfl))), ((Fw15.other W18 (Or.inl (own_nd hd 3 8 (by decide) rfl rfl))).other W21 (Or.inl (own_nd hd 3 7 (by decide) rfl rfl))), (((Gp_A.other W15 (Or.inr (slot_ne (Or.inl (own_w hw 78 rfl)) (Or.inl (own_w hw 76 rfl)) (by decide) (t := .int) (t' := .int) (by decide) (by decide)))).other W18 (Or.inl (own_nd hd 3 8 (by decide) rfl rfl))).other W21 (Or.inl (own_nd hd 3 7 (by decide) rfl rfl))), (((Ge_A.other W15 (Or.inr (slot_ne (Or.inl (own_w hw 73 rfl)) (Or.inl (own_w hw 76 rfl)) (by decide) (t := .int) (t' := .int) (by decide) (by decide)))).other W18 (Or.inl (own_nd hd 3 8 (by decide) rfl rfl))).other W21 (Or.inl (own_nd hd 3 7 (by decide) rfl rfl))), (((Gc_A.other W15 (Or.inr (slot_ne (Or.inl (own_w hw 93 rfl)) (Or.inl (own_w hw 76 rfl)) (by decide) (t := .int) (t' := .int) (by decide) (by decide)))).other W18 (Or.inl (own_nd hd 3 8 (by decide) rfl rfl))).other W21 (Or.inl (own_nd hd 3 7 (by decide) rfl rfl))), (((BA_A.other W15 (Ne.symm (own_nd hd 3 4 (by decide) rfl rfl))).other W18 (own_nd hd 4 8 (by decide) rfl rfl)).other W21 (own_nd hd 4 7 (by decide) rfl rfl)), (((BB_A.other W15 (Ne.symm (own_nd hd 3 5 (by decide) rfl rfl))).other W18 (own_nd hd 5 8 (by decide) rfl rfl)).other W21 (own_nd hd 5 7 (by decide) rfl rfl)), (((BC_A.other W15 (Ne.symm (own_nd hd 3 6 (by decide) rfl rfl))).other W18 (own_nd hd 6 8 (by decide) rfl rfl)).other W21 (own_nd hd 6 7 (by decide) rfl rfl)), V21, (V18.other W21 (Ne.symm (own_nd hd 7 8 (by decide) rfl rfl))), (((BF_A.other W15 (Ne.symm (own_nd hd 3 9 (by decide) rfl rfl))).other W18 (Ne.symm (own_nd hd 8 9 (by decide) rfl rfl))).other W21 (Ne.symm (own_nd hd 7 9 (by decide) rfl rfl))), (((BG_A.other W15 (Ne.symm (own_nd hd 3 10 (by decide) rfl rfl))).other W18 (Ne.symm (own_nd hd 8 10 (by decide) rfl rfl))).other W21 (Ne.symm (own_nd hd 7 10 (by decide) rfl rfl)))⟩))
  refine own_st (T' := s₁) (g' := (mkF m 1 #[.val (.ref cw), .val (.int p1), .unset] [(.ref cw)])) (fun _ k => XS.aloadN X0.here hx rfl (hb hby dlv_0) rfl rfl k) ?_
  refine own_st (T' := s₁) (g' := (mkF m 2 #[.val (.ref cw), .val (.int p1), .unset] [(.ref cw), (.ref cw)])) (fun _ k => XS.dup X0.here hx rfl (hb hby dlv_1) rfl rfl k) ?_
  obtain ⟨T25, X25, e25, st25⟩ := getF X0 hx hZ hown (host := "") (Or.inl (own_w hw 77 rfl)) Via.refl e0 Gp_0 (g := (mkF m 2 #[.val (.ref cw), .val (.int p1), .unset] [(.ref cw), (.ref cw)])) rfl rfl (hb hby dlv_2)
  refine own_st (g' := (mkF m 5 #[.val (.ref cw), .val (.int p1), .unset] [(.int ps), (.ref cw)])) st25 ?_
  refine own_st (T' := T25) (g' := (mkF m 6 #[.val (.ref cw), .val (.int p1), .unset] [(.int (1 : Int32)), (.int ps), (.ref cw)])) (fun _ k => XS.iconst X25.here hx rfl (hb hby dlv_5) k) ?_
  refine own_st (T' := T25) (g' := (mkF m 7 #[.val (.ref cw), .val (.int p1), .unset] [(.int (ps - (1 : Int32))), (.ref cw)])) (fun _ k => XS.isub X25.here hx rfl (hb hby dlv_6) rfl k) ?_
  obtain ⟨T26, h26, X26, e26, W26, st26⟩ := putF X25 hx hZ hown (host := "") (Or.inl (own_w hw 77 rfl)) Via.refl e25 Gp_0 Ec_0 (Or.inl (own_w hw 78 rfl)) (own_w hw 37 rfl) (ty := .int) (by decide) rfl rfl (g := (mkF m 7 #[.val (.ref cw), .val (.int p1), .unset] [(.int (ps - (1 : Int32))), (.ref cw)])) rfl rfl (hb hby dlv_7)
  have Fw26 := Gp_0.same W26
  have N26 := Fr.snoc X26 N0 (hG _ (List.mem_of_getElem? (i := 3) rfl))
  refine own_st (g' := (mkF m 10 #[.val (.ref cw), .val (.int p1), .unset] [])) st26 ?_
  refine own_st (T' := T26) (g' := (mkF m 11 #[.val (.ref cw), .val (.int p1), .unset] [(.ref cw)])) (fun _ k => XS.aloadN X26.here hx rfl (hb hby dlv_10) rfl rfl k) ?_
  obtain ⟨T27, X27, e27, st27⟩ := getF X26 hx hZ hown (host := "") (Or.inl (own_w hw 51 rfl)) Via.refl e26 (FB_0.other W26 (Or.inr (slot_ne (Or.inr (own_w hw 52 rfl)) (Or.inl (own_w hw 78 rfl)) (by decide) (t := (.array .int)) (t' := .int) (by decide) (by decide)))) (g := (mkF m 11 #[.val (.ref cw), .val (.int p1), .unset] [(.ref cw)])) rfl rfl (hb hby dlv_11)
  refine own_st (g' := (mkF m 14 #[.val (.ref cw), .val (.int p1), .unset] [(.ref a2)])) st27 ?_
  refine own_st (T' := T27) (g' := (mkF m 15 #[.val (.ref cw), .val (.int p1), .unset] [(.int p1), (.ref a2)])) (fun _ k => XS.iloadN X27.here hx rfl (hb hby dlv_14) rfl k) ?_
  obtain ⟨cl28, Ar28, S28, M28, H28⟩ := id (BB_0.other W26 (Ne.symm (own_nd hd 3 5 (by decide) rfl rfl)))
  refine own_st (T' := T27) (g' := (mkF m 16 #[.val (.ref cw), .val (.int p1), .unset] [(.int (fL p1))])) (fun _ k => X27.iaload hx (j := p1) (v := (.int (fL p1))) (by rw [e27]; exact Ar28.1) (State.isArrayOf_alike hZ.alike Ar28.2.1) Ar28.2.2 (inb_of S28 ⟨hr.1, hr.2⟩) (H28 _ hr.1 hr.2) (g := (mkF m 15 #[.val (.ref cw), .val (.int p1), .unset] [(.int p1), (.ref a2)])) rfl rfl (hb hby dlv_15) _ k) ?_
  refine own_st (T' := T27) (g' := (mkF m 17 #[.val (.ref cw), .val (.int p1), .unset] [(.ref cw), (.int (fL p1))])) (fun _ k => XS.aloadN X27.here hx rfl (hb hby dlv_16) rfl rfl k) ?_
  obtain ⟨T29, X29, e29, st29⟩ := getF X27 hx hZ hown (host := "") (Or.inl (own_w hw 49 rfl)) Via.refl e27 (FA_0.other W26 (Or.inr (slot_ne (Or.inr (own_w hw 50 rfl)) (Or.inl (own_w hw 78 rfl)) (by decide) (t := (.array .int)) (t' := .int) (by decide) (by decide)))) (g := (mkF m 17 #[.val (.ref cw), .val (.int p1), .unset] [(.ref cw), (.int (fL p1))])) rfl rfl (hb hby dlv_17)
  refine own_st (g' := (mkF m 20 #[.val (.ref cw), .val (.int p1), .unset] [(.ref a1), (.int (fL p1))])) st29 ?_
  refine own_st (T' := T29) (g' := (mkF m 21 #[.val (.ref cw), .val (.int p1), .unset] [(.int p1), (.ref a1), (.int (fL p1))])) (fun _ k => XS.iloadN X29.here hx rfl (hb hby dlv_20) rfl k) ?_
  obtain ⟨cl30, Ar30, S30, M30, H30⟩ := id (BA_0.other W26 (Ne.symm (own_nd hd 3 4 (by decide) rfl rfl)))
  refine own_st (T' := T29) (g' := (mkF m 22 #[.val (.ref cw), .val (.int p1), .unset] [(.int (fE p1)), (.int (fL p1))])) (fun _ k => X29.iaload hx (j := p1) (v := (.int (fE p1))) (by rw [e29]; exact Ar30.1) (State.isArrayOf_alike hZ.alike Ar30.2.1) Ar30.2.2 (inb_of S30 ⟨hr.1, hr.2⟩) (H30 _ hr.1 hr.2) (g := (mkF m 21 #[.val (.ref cw), .val (.int p1), .unset] [(.int p1), (.ref a1), (.int (fL p1))])) rfl rfl (hb hby dlv_21) _ k) ?_
  by_cases hc22_31 : (fL p1) = (fE p1)
  · refine own_st (T' := T29) (g' := (mkF m 25 #[.val (.ref cw), .val (.int p1), .unset] [])) (fun _ k => XS.icmpNo X29.here hx rfl (hb hby dlv_22) rfl (teq hc22_31).2 k) ?_
    rw [if_pos hc22_31] at hm
    exact loop 4 _ One.u _ _ _ hm X29 N26 (by rw [e29]; exact (Nat.le_trans Z0 (Nat.le_of_eq W26.size.symm))) (by rw [e29]; exact ((Keep.refl h0 [cw, a1, a2, a3, a4, a5, a6, a7]).wr W26 (Or.inl (List.mem_of_getElem? (i := 0) rfl)))) (by rw [e29]; exact (show own_CW Z h26 so oF oT cw a1 a2 a3 a4 a5 a6 a7 fF fT (fE, fL, fN, fC, fO, fU, fP, us, (ps - (1 : Int32)), en, ci) from ⟨(Es_0.wr W26), (Ff_0.other W26 (Or.inl (own_nd hd 0 3 (by decide) rfl rfl))), (Ft_0.other W26 (Or.inl (own_nd hd 0 3 (by decide) rfl rfl))), (AF_0.other W26 (own_nd hd 1 3 (by decide) rfl rfl)), (AT_0.other W26 (own_nd hd 2 3 (by decide) rfl rfl)), (Ec_0.wr W26), (Fs_0.other W26 (Or.inr (slot_ne (Or.inr (own_w hw 44 rfl)) (Or.inl (own_w hw 78 rfl)) (by decide) (t := (.object "com/example/procurator/procurator/model/RelationGraph$Steps")) (t' := .int) (by decide) (by decide)))), (FA_0.other W26 (Or.inr (slot_ne (Or.inr (own_w hw 50 rfl)) (Or.inl (own_w hw 78 rfl)) (by decide) (t := (.array .int)) (t' := .int) (by decide) (by decide)))), (FB_0.other W26 (Or.inr (slot_ne (Or.inr (own_w hw 52 rfl)) (Or.inl (own_w hw 78 rfl)) (by decide) (t := (.array .int)) (t' := .int) (by decide) (by decide)))), (FC_0.other W26 (Or.inr (slot_ne (Or.inr (own_w hw 54 rfl)) (Or.inl (own_w hw 78 rfl)) (by decide) (t := (.array .int)) (t' := .int) (by decide) (by decide)))), (FD_0.other W26 (Or.inr (slot_ne (Or.inr (own_w hw 56 rfl)) (Or.inl (own_w hw 78 rfl)) (by decide) (t := (.array .int)) (t' := .int) (by decide) (by decide)))), (FE_0.other W26 (Or.inr (slot_ne (Or.inr (own_w hw 59 rfl)) (Or.inl (own_w hw 78 rfl)) (by decide) (t := (.array .boolean)) (t' := .int) (by decide) (by decide)))), (FF_0.other W26 (Or.inr (slot_ne (Or.inr (own_w hw 61 rfl)) (Or.inl (own_w hw 78 rfl)) (by decide) (t := (.array .int)) (t' := .int) (by decide) (by decide)))), (FG_0.other W26 (Or.inr (slot_ne (Or.inr (own_w hw 63 rfl)) (Or.inl (own_w hw 78 rfl)) (by decide) (t := (.array .int)) (t' := .int) (by decide) (by decide)))), (Gu_0.other W26 (Or.inr (slot_ne (Or.inl (own_w hw 76 rfl)) (Or.inl (own_w hw 78 rfl)) (by decide) (t := .int) (t' := .int) (by decide) (by decide)))), Fw26, (Ge_0.other W26 (Or.inr (slot_ne (Or.inl (own_w hw 73 rfl)) (Or.inl (own_w hw 78 rfl)) (by decide) (t := .int) (t' := .int) (by decide) (by decide)))), (Gc_0.other W26 (Or.inr (slot_ne (Or.inl (own_w hw 93 rfl)) (Or.inl (own_w hw 78 rfl)) (by decide) (t := .int) (t' := .int) (by decide) (by decide)))), (BA_0.other W26 (Ne.symm (own_nd hd 3 4 (by decide) rfl rfl))), (BB_0.other W26 (Ne.symm (own_nd hd 3 5 (by decide) rfl rfl))), (BC_0.other W26 (Ne.symm (own_nd hd 3 6 (by decide) rfl rfl))), (BD_0.other W26 (Ne.symm (own_nd hd 3 7 (by decide) rfl rfl))), (BE_0.other W26 (Ne.symm (own_nd hd 3 8 (by decide) rfl rfl))), (BF_0.other W26 (Ne.symm (own_nd hd 3 9 (by decide) rfl rfl))), (BG_0.other W26 (Ne.symm (own_nd hd 3 10 (by decide) rfl rfl)))⟩))
  · refine own_st (T' := T29) (g' := (mkF m 74 #[.val (.ref cw), .val (.int p1), .unset] [])) (fun _ k => XS.icmpYes X29.here hx rfl (pc0 := 22) (pc' := 74) rfl (hb hby dlv_22) rfl (feq hc22_31).2 (by decide) (by decide) k) ?_
    rw [if_neg hc22_31] at hm
    exact rest _ One.u _ _ _ hm X29 N26 (by rw [e29]; exact (Nat.le_trans Z0 (Nat.le_of_eq W26.size.symm))) (by rw [e29]; exact ((Keep.refl h0 [cw, a1, a2, a3, a4, a5, a6, a7]).wr W26 (Or.inl (List.mem_of_getElem? (i := 0) rfl)))) (by rw [e29]; exact (show own_CW Z h26 so oF oT cw a1 a2 a3 a4 a5 a6 a7 fF fT (fE, fL, fN, fC, fO, fU, fP, us, (ps - (1 : Int32)), en, ci) from ⟨(Es_0.wr W26), (Ff_0.other W26 (Or.inl (own_nd hd 0 3 (by decide) rfl rfl))), (Ft_0.other W26 (Or.inl (own_nd hd 0 3 (by decide) rfl rfl))), (AF_0.other W26 (own_nd hd 1 3 (by decide) rfl rfl)), (AT_0.other W26 (own_nd hd 2 3 (by decide) rfl rfl)), (Ec_0.wr W26), (Fs_0.other W26 (Or.inr (slot_ne (Or.inr (own_w hw 44 rfl)) (Or.inl (own_w hw 78 rfl)) (by decide) (t := (.object "com/example/procurator/procurator/model/RelationGraph$Steps")) (t' := .int) (by decide) (by decide)))), (FA_0.other W26 (Or.inr (slot_ne (Or.inr (own_w hw 50 rfl)) (Or.inl (own_w hw 78 rfl)) (by decide) (t := (.array .int)) (t' := .int) (by decide) (by decide)))), (FB_0.other W26 (Or.inr (slot_ne (Or.inr (own_w hw 52 rfl)) (Or.inl (own_w hw 78 rfl)) (by decide) (t := (.array .int)) (t' := .int) (by decide) (by decide)))), (FC_0.other W26 (Or.inr (slot_ne (Or.inr (own_w hw 54 rfl)) (Or.inl (own_w hw 78 rfl)) (by decide) (t := (.array .int)) (t' := .int) (by decide) (by decide)))), (FD_0.other W26 (Or.inr (slot_ne (Or.inr (own_w hw 56 rfl)) (Or.inl (own_w hw 78 rfl)) (by decide) (t := (.array .int)) (t' := .int) (by decide) (by decide)))), (FE_0.other W26 (Or.inr (slot_ne (Or.inr (own_w hw 59 rfl)) (Or.inl (own_w hw 78 rfl)) (by decide) (t := (.array .boolean)) (t' := .int) (by decide) (by decide)))), (FF_0.other W26 (Or.inr (slot_ne (Or.inr (own_w hw 61 rfl)) (Or.inl (own_w hw 78 rfl)) (by decide) (t := (.array .int)) (t' := .int) (by decide) (by decide)))), (FG_0.other W26 (Or.inr (slot_ne (Or.inr (own_w hw 63 rfl)) (Or.inl (own_w hw 78 rfl)) (by decide) (t := (.array .int)) (t' := .int) (by decide) (by decide)))), (Gu_0.other W26 (Or.inr (slot_ne (Or.inl (own_w hw 76 rfl)) (Or.inl (own_w hw 78 rfl)) (by decide) (t := .int) (t' := .int) (by decide) (by decide)))), Fw26, (Ge_0.other W26 (Or.inr (slot_ne (Or.inl (own_w hw 73 rfl)) (Or.inl (own_w hw 78 rfl)) (by decide) (t := .int) (t' := .int) (by decide) (by decide)))), (Gc_0.other W26 (Or.inr (slot_ne (Or.inl (own_w hw 93 rfl)) (Or.inl (own_w hw 78 rfl)) (by decide) (t := .int) (t' := .int) (by decide) (by decide)))), (BA_0.other W26 (Ne.symm (own_nd hd 3 4 (by decide) rfl rfl))), (BB_0.other W26 (Ne.symm (own_nd hd 3 5 (by decide) rfl rfl))), (BC_0.other W26 (Ne.symm (own_nd hd 3 6 (by decide) rfl rfl))), (BD_0.other W26 (Ne.symm (own_nd hd 3 7 (by decide) rfl rfl))), (BE_0.other W26 (Ne.symm (own_nd hd 3 8 (by decide) rfl rfl))), (BF_0.other W26 (Ne.symm (own_nd hd 3 9 (by decide) rfl rfl))), (BG_0.other W26 (Ne.symm (own_nd hd 3 10 (by decide) rfl rfl)))⟩))
theorem own_os1 {cw : Addr} {v : Int32} {sl sk : Slot} (h : One sl) (h2 : One sk) : storeLocals #[.val (.ref cw), sl, sk] 1 (.int v) = some #[.val (.ref cw), .val (.int v), sk] := by
  rcases h with rfl | ⟨w, rfl, hw⟩ <;> rcases h2 with rfl | ⟨w', rfl, hw'⟩
  · rfl
  · cases w' <;> first | rfl | (simp [Value.category] at hw')
  · cases w <;> first | rfl | (simp [Value.category] at hw)
  · cases w <;> cases w' <;> first | rfl | (simp [Value.category] at hw) | (simp [Value.category] at hw')
theorem own_mt {x : Option own_CS} {f : own_CS → Option own_CS} {q : own_CS} (h : (match x with | some q2 => f q2 | none => none) = some q) : ∃ q2, x = some q2 ∧ f q2 = some q := by
  cases x with
  | none => cases h
  | some q2 => exact ⟨q2, rfl, h⟩
theorem dfo_0 : decode prog_73_method_4_code 0 = .ok (.aload_n 0, 1) := by decide +kernel
theorem dfo_1 : decode prog_73_method_4_code 1 = .ok (.getfield 59, 3) := by decide +kernel
theorem dfo_4 : decode prog_73_method_4_code 4 = .ok (.ifCond .le 113, 3) := by decide +kernel
theorem dfo_7 : decode prog_73_method_4_code 7 = .ok (.aload_n 0, 1) := by decide +kernel
theorem dfo_8 : decode prog_73_method_4_code 8 = .ok (.getfield 39, 3) := by decide +kernel
theorem dfo_11 : decode prog_73_method_4_code 11 = .ok (.aload_n 0, 1) := by decide +kernel
theorem dfo_12 : decode prog_73_method_4_code 12 = .ok (.getfield 59, 3) := by decide +kernel
theorem dfo_15 : decode prog_73_method_4_code 15 = .ok (.iconst 1, 1) := by decide +kernel
theorem dfo_16 : decode prog_73_method_4_code 16 = .ok (.isub, 1) := by decide +kernel
theorem dfo_17 : decode prog_73_method_4_code 17 = .ok (.iaload, 1) := by decide +kernel
theorem dfo_18 : decode prog_73_method_4_code 18 = .ok (.istore_n 1, 1) := by decide +kernel
theorem dfo_19 : decode prog_73_method_4_code 19 = .ok (.aload_n 0, 1) := by decide +kernel
theorem dfo_20 : decode prog_73_method_4_code 20 = .ok (.getfield 26, 3) := by decide +kernel
theorem dfo_23 : decode prog_73_method_4_code 23 = .ok (.iload_n 1, 1) := by decide +kernel
theorem dfo_24 : decode prog_73_method_4_code 24 = .ok (.iaload, 1) := by decide +kernel
theorem dfo_25 : decode prog_73_method_4_code 25 = .ok (.aload_n 0, 1) := by decide +kernel
theorem dfo_26 : decode prog_73_method_4_code 26 = .ok (.getfield 7, 3) := by decide +kernel
theorem dfo_29 : decode prog_73_method_4_code 29 = .ok (.getfield 53, 3) := by decide +kernel
theorem dfo_32 : decode prog_73_method_4_code 32 = .ok (.iload_n 1, 1) := by decide +kernel
theorem dfo_33 : decode prog_73_method_4_code 33 = .ok (.iconst 1, 1) := by decide +kernel
theorem dfo_34 : decode prog_73_method_4_code 34 = .ok (.iadd, 1) := by decide +kernel
theorem dfo_35 : decode prog_73_method_4_code 35 = .ok (.iaload, 1) := by decide +kernel
theorem dfo_36 : decode prog_73_method_4_code 36 = .ok (.if_icmp .ne 11, 3) := by decide +kernel
theorem dfo_39 : decode prog_73_method_4_code 39 = .ok (.aload_n 0, 1) := by decide +kernel
theorem dfo_40 : decode prog_73_method_4_code 40 = .ok (.iload_n 1, 1) := by decide +kernel
theorem dfo_41 : decode prog_73_method_4_code 41 = .ok (.invokevirtual 62, 3) := by decide +kernel
theorem dfo_44 : decode prog_73_method_4_code 44 = .ok (.goto (-44), 3) := by decide +kernel
theorem dfo_47 : decode prog_73_method_4_code 47 = .ok (.aload_n 0, 1) := by decide +kernel
theorem dfo_48 : decode prog_73_method_4_code 48 = .ok (.getfield 7, 3) := by decide +kernel
theorem dfo_51 : decode prog_73_method_4_code 51 = .ok (.getfield 65, 3) := by decide +kernel
theorem dfo_54 : decode prog_73_method_4_code 54 = .ok (.aload_n 0, 1) := by decide +kernel
theorem dfo_55 : decode prog_73_method_4_code 55 = .ok (.getfield 26, 3) := by decide +kernel
theorem dfo_58 : decode prog_73_method_4_code 58 = .ok (.iload_n 1, 1) := by decide +kernel
theorem dfo_59 : decode prog_73_method_4_code 59 = .ok (.dup2, 1) := by decide +kernel
theorem dfo_60 : decode prog_73_method_4_code 60 = .ok (.iaload, 1) := by decide +kernel
theorem dfo_61 : decode prog_73_method_4_code 61 = .ok (.dup_x2, 1) := by decide +kernel
theorem dfo_62 : decode prog_73_method_4_code 62 = .ok (.iconst 1, 1) := by decide +kernel
theorem dfo_63 : decode prog_73_method_4_code 63 = .ok (.iadd, 1) := by decide +kernel
theorem dfo_64 : decode prog_73_method_4_code 64 = .ok (.iastore, 1) := by decide +kernel
theorem dfo_65 : decode prog_73_method_4_code 65 = .ok (.iaload, 1) := by decide +kernel
theorem dfo_66 : decode prog_73_method_4_code 66 = .ok (.istore_n 2, 1) := by decide +kernel
theorem dfo_67 : decode prog_73_method_4_code 67 = .ok (.aload_n 0, 1) := by decide +kernel
theorem dfo_68 : decode prog_73_method_4_code 68 = .ok (.getfield 19, 3) := by decide +kernel
theorem dfo_71 : decode prog_73_method_4_code 71 = .ok (.iload_n 2, 1) := by decide +kernel
theorem dfo_72 : decode prog_73_method_4_code 72 = .ok (.iaload, 1) := by decide +kernel
theorem dfo_73 : decode prog_73_method_4_code 73 = .ok (.ifCond .ne 11, 3) := by decide +kernel
theorem dfo_76 : decode prog_73_method_4_code 76 = .ok (.aload_n 0, 1) := by decide +kernel
theorem dfo_77 : decode prog_73_method_4_code 77 = .ok (.iload_n 2, 1) := by decide +kernel
theorem dfo_78 : decode prog_73_method_4_code 78 = .ok (.invokevirtual 42, 3) := by decide +kernel
theorem dfo_81 : decode prog_73_method_4_code 81 = .ok (.goto 33, 3) := by decide +kernel
theorem dfo_84 : decode prog_73_method_4_code 84 = .ok (.aload_n 0, 1) := by decide +kernel
theorem dfo_85 : decode prog_73_method_4_code 85 = .ok (.getfield 32, 3) := by decide +kernel
theorem dfo_88 : decode prog_73_method_4_code 88 = .ok (.iload_n 2, 1) := by decide +kernel
theorem dfo_89 : decode prog_73_method_4_code 89 = .ok (.baload, 1) := by decide +kernel
theorem dfo_90 : decode prog_73_method_4_code 90 = .ok (.ifCond .eq 24, 3) := by decide +kernel
theorem dfo_93 : decode prog_73_method_4_code 93 = .ok (.aload_n 0, 1) := by decide +kernel
theorem dfo_94 : decode prog_73_method_4_code 94 = .ok (.getfield 23, 3) := by decide +kernel
theorem dfo_97 : decode prog_73_method_4_code 97 = .ok (.iload_n 1, 1) := by decide +kernel
theorem dfo_98 : decode prog_73_method_4_code 98 = .ok (.aload_n 0, 1) := by decide +kernel
theorem dfo_99 : decode prog_73_method_4_code 99 = .ok (.getfield 23, 3) := by decide +kernel
theorem dfo_102 : decode prog_73_method_4_code 102 = .ok (.iload_n 1, 1) := by decide +kernel
theorem dfo_103 : decode prog_73_method_4_code 103 = .ok (.iaload, 1) := by decide +kernel
theorem dfo_104 : decode prog_73_method_4_code 104 = .ok (.aload_n 0, 1) := by decide +kernel
theorem dfo_105 : decode prog_73_method_4_code 105 = .ok (.getfield 19, 3) := by decide +kernel
theorem dfo_108 : decode prog_73_method_4_code 108 = .ok (.iload_n 2, 1) := by decide +kernel
theorem dfo_109 : decode prog_73_method_4_code 109 = .ok (.iaload, 1) := by decide +kernel
theorem dfo_110 : decode prog_73_method_4_code 110 = .ok (.invokestatic 68, 3) := by decide +kernel
theorem dfo_113 : decode prog_73_method_4_code 113 = .ok (.iastore, 1) := by decide +kernel
theorem dfo_114 : decode prog_73_method_4_code 114 = .ok (.goto (-114), 3) := by decide +kernel
theorem dfo_117 : decode prog_73_method_4_code 117 = .ok (.return_, 1) := by decide +kernel
theorem pn_fo : plainName "com/example/procurator/procurator/model/RelationGraph$CircleWalk" = true := by first | (simp [plainName, overriddenIn]; done) | decide +kernel
theorem ef_fo (m : MethodId) (x0 : Addr) : entryFrame m #[(.ref x0)] 3 = mkF m 0 #[.val (.ref x0), .unset, .unset] [] := by first | (simp [entryFrame, mkF, argsToLocals, Value.category]; done) | rfl
set_option maxRecDepth 65536 in
set_option maxHeartbeats 40000000 in
theorem rmfo (l : Launch) (Z : State) (a0 : Array Value) (hw : ∀ d ∈ tables_1, d.before a0 Z = true) (ws : List Jvm.Cond) (so oF oT cw a1 a2 a3 a4 a5 a6 a7 : Addr) (fF fT : Int32 → Int32) (q : own_CS) (q' : own_CS) (h0 : Heap) (n0 : Nat) (Z0 : n0 ≤ h0.size) (hd : [so, oF, oT, cw, a1, a2, a3, a4, a5, a6, a7].Nodup) (hG : ∀ x ∈ [so, oF, oT, cw, a1, a2, a3, a4, a5, a6, a7], n0 ≤ x) (hq : own_CW Z h0 so oF oT cw a1 a2 a3 a4 a5 a6 a7 fF fT q) (hm : own_fo fF fT 16 q = some q') :
    own_Met l Z ws (⟨"com/example/procurator/procurator/model/RelationGraph$CircleWalk", "follow", "()V"⟩ : MethodName) prog_73_method_4_code 3 none ({ frames := 2, cells := 0, slots := 0, locals := 30 } : Room) ({ frames := 2, cells := 0, slots := 0, locals := 30 } : Room).cells ({ frames := 2, cells := 0, slots := 0, locals := 30 } : Room).slots #[(.ref cw)] h0 (fun v h L => v = none ∧ Fr n0 L ∧ Keep h0 h [cw, a1, a2, a3, a4, a5, a6, a7] ∧ own_CW Z h so oF oT cw a1 a2 a3 a4 a5 a6 a7 fF fT q') := by
  refine own_body (plainFor_of_name pn_fo) ?_
  intro p e s m below meth c s₁ hx hby hml hown hnm hlk hret hZ hh X0 e0
  have N0 := Fr.nil n0
  obtain ⟨fE, fL, fN, fC, fO, fU, fP, us, ps, en, ci⟩ := q
  have hq_0 := hq
  dsimp only [own_CW] at hq_0
  obtain ⟨Es_0, Ff_0, Ft_0, AF_0, AT_0, Ec_0, Fs_0, FA_0, FB_0, FC_0, FD_0, FE_0, FF_0, FG_0, Gu_0, Gp_0, Ge_0, Gc_0, BA_0, BB_0, BC_0, BD_0, BE_0, BF_0, BG_0⟩ := hq_0
  refine own_cast (ef_fo m cw) ?_
  have loop : ∀ (n : Nat) (sl sk : Slot), One sl → One sk → ∀ (TA : State) (LA : List Loc) (q : own_CS), own_fo fF fT n q = some q' → Stand p l e ({ frames := 2, cells := 0, slots := 0, locals := 30 } : Room) s m #[(.ref cw)] below meth c TA LA 0 0 → Fr n0 LA → n0 ≤ TA.heap.size → Keep h0 TA.heap [cw, a1, a2, a3, a4, a5, a6, a7] → own_CW Z TA.heap so oF oT cw a1 a2 a3 a4 a5 a6 a7 fF fT q → own_Go p e s below (fun v h L => v = none ∧ Fr n0 L ∧ Keep h0 h [cw, a1, a2, a3, a4, a5, a6, a7] ∧ own_CW Z h so oF oT cw a1 a2 a3 a4 a5 a6 a7 fF fT q') ({ frames := 2, cells := 0, slots := 0, locals := 30 } : Room).cells ({ frames := 2, cells := 0, slots := 0, locals := 30 } : Room).slots TA (mkF m 0 #[.val (.ref cw), sl, sk] []) := by
    intro n
    induction n with
    | zero => intro sl sk hsl hsk TA LA q hmA; unfold own_fo at hmA; cases hmA
    | succ n ih =>
      intro sl sk hsl hsk TA LA q hmA XA NA ZA KA hqA
      obtain ⟨fE, fL, fN, fC, fO, fU, fP, us, ps, en, ci⟩ := q
      have hq_A := hqA
      dsimp only [own_CW] at hq_A
      obtain ⟨Es_A, Ff_A, Ft_A, AF_A, AT_A, Ec_A, Fs_A, FA_A, FB_A, FC_A, FD_A, FE_A, FF_A, FG_A, Gu_A, Gp_A, Ge_A, Gc_A, BA_A, BB_A, BC_A, BD_A, BE_A, BF_A, BG_A⟩ := hq_A
      unfold own_fo at hmA
      refine own_st (T' := TA) (g' := (mkF m 1 #[.val (.ref cw), sl, sk] [(.ref cw)])) (fun _ k => XS.aloadN XA.here hx rfl (hb hby dfo_0) rfl rfl k) ?_
      obtain ⟨T1, X1, e1, st1⟩ := getF XA hx hZ hown (host := "") (Or.inl (own_w hw 77 rfl)) Via.refl rfl Gp_A (g := (mkF m 1 #[.val (.ref cw), sl, sk] [(.ref cw)])) rfl rfl (hb hby dfo_1)
      refine own_st (g' := (mkF m 4 #[.val (.ref cw), sl, sk] [(.int ps)])) st1 ?_
      by_cases hc4_2 : (0 : Int32) < ps
      · refine own_st (T' := T1) (g' := (mkF m 7 #[.val (.ref cw), sl, sk] [])) (fun _ k => XS.ifNo X1.here hx rfl (hb hby dfo_4) rfl ((if0 _ _).trans (tlt hc4_2).2.2.2) k) ?_
        rw [if_pos hc4_2] at hmA
        obtain ⟨hc1, hmA⟩ := own_ifs hmA
        obtain ⟨hc2, hmA⟩ := own_ifs hmA
        refine own_st (T' := T1) (g' := (mkF m 8 #[.val (.ref cw), sl, sk] [(.ref cw)])) (fun _ k => XS.aloadN X1.here hx rfl (hb hby dfo_7) rfl rfl k) ?_
        obtain ⟨T3, X3, e3, st3⟩ := getF X1 hx hZ hown (host := "") (Or.inl (own_w hw 62 rfl)) Via.refl e1 FG_A (g := (mkF m 8 #[.val (.ref cw), sl, sk] [(.ref cw)])) rfl rfl (hb hby dfo_8)
        refine own_st (g' := (mkF m 11 #[.val (.ref cw), sl, sk] [(.ref a7)])) st3 ?_
        refine own_st (T' := T3) (g' := (mkF m 12 #[.val (.ref cw), sl, sk] [(.ref cw), (.ref a7)])) (fun _ k => XS.aloadN X3.here hx rfl (hb hby dfo_11) rfl rfl k) ?_
        obtain ⟨T4, X4, e4, st4⟩ := getF X3 hx hZ hown (host := "") (Or.inl (own_w hw 77 rfl)) Via.refl e3 Gp_A (g := (mkF m 12 #[.val (.ref cw), sl, sk] [(.ref cw), (.ref a7)])) rfl rfl (hb hby dfo_12)
        refine own_st (g' := (mkF m 15 #[.val (.ref cw), sl, sk] [(.int ps), (.ref a7)])) st4 ?_
        refine own_st (T' := T4) (g' := (mkF m 16 #[.val (.ref cw), sl, sk] [(.int (1 : Int32)), (.int ps), (.ref a7)])) (fun _ k => XS.iconst X4.here hx rfl (hb hby dfo_15) k) ?_
        refine own_st (T' := T4) (g' := (mkF m 17 #[.val (.ref cw), sl, sk] [(.int (ps - (1 : Int32))), (.ref a7)])) (fun _ k => XS.isub X4.here hx rfl (hb hby dfo_16) rfl k) ?_
        obtain ⟨cl5, Ar5, S5, M5, H5⟩ := id BG_A
        refine own_st (T' := T4) (g' := (mkF m 18 #[.val (.ref cw), sl, sk] [(.int (fP (ps - (1 : Int32))))])) (fun _ k => X4.iaload hx (j := (ps - (1 : Int32))) (v := (.int (fP (ps - (1 : Int32))))) (by rw [e4]; exact Ar5.1) (State.isArrayOf_alike hZ.alike Ar5.2.1) Ar5.2.2 (inb_of S5 ⟨hc1.1, hc1.2⟩) (H5 _ hc1.1 hc1.2) (g := (mkF m 17 #[.val (.ref cw), sl, sk] [(.int (ps - (1 : Int32))), (.ref a7)])) rfl rfl (hb hby dfo_17) _ k) ?_
        generalize hrv : (fP (ps - (1 : Int32))) = rv at hmA hc2 ⊢
        refine own_st (T' := T4) (g' := (mkF m 19 #[.val (.ref cw), .val (.int rv), sk] [])) (fun _ k => XS.istoreN X4.here hx rfl (hb hby dfo_18) rfl (l' := #[.val (.ref cw), .val (.int rv), sk]) (own_os1 hsl hsk) k) ?_
        refine own_st (T' := T4) (g' := (mkF m 20 #[.val (.ref cw), .val (.int rv), sk] [(.ref cw)])) (fun _ k => XS.aloadN X4.here hx rfl (hb hby dfo_19) rfl rfl k) ?_
        obtain ⟨T6, X6, e6, st6⟩ := getF X4 hx hZ hown (host := "") (Or.inl (own_w hw 53 rfl)) Via.refl e4 FC_A (g := (mkF m 20 #[.val (.ref cw), .val (.int rv), sk] [(.ref cw)])) rfl rfl (hb hby dfo_20)
        refine own_st (g' := (mkF m 23 #[.val (.ref cw), .val (.int rv), sk] [(.ref a3)])) st6 ?_
        refine own_st (T' := T6) (g' := (mkF m 24 #[.val (.ref cw), .val (.int rv), sk] [(.int rv), (.ref a3)])) (fun _ k => XS.iloadN X6.here hx rfl (hb hby dfo_23) rfl k) ?_
        obtain ⟨cl7, Ar7, S7, M7, H7⟩ := id BC_A
        refine own_st (T' := T6) (g' := (mkF m 25 #[.val (.ref cw), .val (.int rv), sk] [(.int (fN rv))])) (fun _ k => X6.iaload hx (j := rv) (v := (.int (fN rv))) (by rw [e6]; exact Ar7.1) (State.isArrayOf_alike hZ.alike Ar7.2.1) Ar7.2.2 (inb_of S7 ⟨hc2.1, hc2.2⟩) (H7 _ hc2.1 hc2.2) (g := (mkF m 24 #[.val (.ref cw), .val (.int rv), sk] [(.int rv), (.ref a3)])) rfl rfl (hb hby dfo_24) _ k) ?_
        refine own_st (T' := T6) (g' := (mkF m 26 #[.val (.ref cw), .val (.int rv), sk] [(.ref cw), (.int (fN rv))])) (fun _ k => XS.aloadN X6.here hx rfl (hb hby dfo_25) rfl rfl k) ?_
        obtain ⟨T8, X8, e8, st8⟩ := getF X6 hx hZ hown (host := "") (Or.inl (own_w hw 43 rfl)) Via.refl e6 Fs_A (g := (mkF m 26 #[.val (.ref cw), .val (.int rv), sk] [(.ref cw), (.int (fN rv))])) rfl rfl (hb hby dfo_26)
        refine own_st (g' := (mkF m 29 #[.val (.ref cw), .val (.int rv), sk] [(.ref so), (.int (fN rv))])) st8 ?_
        obtain ⟨T9, X9, e9, st9⟩ := getF X8 hx hZ hown (Or.inr (own_w hw 74 rfl)) Via.refl e8 Ff_A (g := (mkF m 29 #[.val (.ref cw), .val (.int rv), sk] [(.ref so), (.int (fN rv))])) rfl rfl (hb hby dfo_29)
        refine own_st (g' := (mkF m 32 #[.val (.ref cw), .val (.int rv), sk] [(.ref oF), (.int (fN rv))])) st9 ?_
        refine own_st (T' := T9) (g' := (mkF m 33 #[.val (.ref cw), .val (.int rv), sk] [(.int rv), (.ref oF), (.int (fN rv))])) (fun _ k => XS.iloadN X9.here hx rfl (hb hby dfo_32) rfl k) ?_
        refine own_st (T' := T9) (g' := (mkF m 34 #[.val (.ref cw), .val (.int rv), sk] [(.int (1 : Int32)), (.int rv), (.ref oF), (.int (fN rv))])) (fun _ k => XS.iconst X9.here hx rfl (hb hby dfo_33) k) ?_
        refine own_st (T' := T9) (g' := (mkF m 35 #[.val (.ref cw), .val (.int rv), sk] [(.int (rv + (1 : Int32))), (.ref oF), (.int (fN rv))])) (fun _ k => XS.iadd X9.here hx rfl (hb hby dfo_34) rfl k) ?_
        obtain ⟨cl10, Ar10, S10, M10, H10⟩ := id AF_A
        refine own_st (T' := T9) (g' := (mkF m 36 #[.val (.ref cw), .val (.int rv), sk] [(.int (fF (rv + (1 : Int32)))), (.int (fN rv))])) (fun _ k => X9.iaload hx (j := (rv + (1 : Int32))) (v := (.int (fF (rv + (1 : Int32))))) (by rw [e9]; exact Ar10.1) (State.isArrayOf_alike hZ.alike Ar10.2.1) Ar10.2.2 (inb_of S10 ⟨(own_in4' hc2).1, (own_in4' hc2).2⟩) (H10 _ (own_in4' hc2).1 (own_in4' hc2).2) (g := (mkF m 35 #[.val (.ref cw), .val (.int rv), sk] [(.int (rv + (1 : Int32))), (.ref oF), (.int (fN rv))])) rfl rfl (hb hby dfo_35) _ k) ?_
        by_cases hc36_11 : (fN rv) = (fF (rv + (1 : Int32)))
        · refine own_st (T' := T9) (g' := (mkF m 39 #[.val (.ref cw), .val (.int rv), sk] [])) (fun _ k => XS.icmpNo X9.here hx rfl (hb hby dfo_36) rfl (teq hc36_11).2 k) ?_
          rw [if_pos hc36_11] at hmA
          obtain ⟨q2, hlv, hmA⟩ := own_mt hmA
          refine own_st (T' := T9) (g' := (mkF m 40 #[.val (.ref cw), .val (.int rv), sk] [(.ref cw)])) (fun _ k => XS.aloadN X9.here hx rfl (hb hby dfo_39) rfl rfl k) ?_
          refine own_st (T' := T9) (g' := (mkF m 41 #[.val (.ref cw), .val (.int rv), sk] [(.int rv), (.ref cw)])) (fun _ k => XS.iloadN X9.here hx rfl (hb hby dfo_40) rfl k) ?_
          refine own_callP X9 hx hZ (y := (⟨"com/example/procurator/procurator/model/RelationGraph$CircleWalk", "leave", "(I)V"⟩ : MethodName)) hown (own_w hw 88 rfl) (own_w hw 89 rfl) (own_w hw 37 rfl) (own_w hw 90 rfl) (own_w hw 91 rfl) (own_w hw 38 rfl) (by decide) (W := 0) e9 (b := cw) Ec_A (argsL := [(.int rv)]) (rest := []) (rmlv l Z a0 hw [] so oF oT cw a1 a2 a3 a4 a5 a6 a7 fF fT (fE, fL, fN, fC, fO, fU, fP, us, ps, en, ci) q2 rv TA.heap n0 ZA hd hG (show own_CW Z TA.heap so oF oT cw a1 a2 a3 a4 a5 a6 a7 fF fT (fE, fL, fN, fC, fO, fU, fP, us, ps, en, ci) from ⟨Es_A, Ff_A, Ft_A, AF_A, AT_A, Ec_A, Fs_A, FA_A, FB_A, FC_A, FD_A, FE_A, FF_A, FG_A, Gu_A, Gp_A, Ge_A, Gc_A, BA_A, BB_A, BC_A, BD_A, BE_A, BF_A, BG_A⟩) hlv) (by decide) (by decide) (by decide) (by decide) (g := (mkF m 41 #[.val (.ref cw), .val (.int rv), sk] [(.int rv), (.ref cw)])) rfl (by rw [hml]; rfl) (lenOf own_pd1 rfl) rfl (by show 2 * 0 + _ ≤ _; exact Nat.le_of_eq rfl) (hb hby dfo_41) ?_
          rintro _ T12 L12 X12 ⟨rfl, N12q, K12, hq_12⟩
          show own_Go _ _ _ _ _ _ _ T12 (mkF m 44 #[.val (.ref cw), .val (.int rv), sk] [])
          have N12 := Fr.app NA N12q
          refine own_st (T' := T12) (g' := (mkF m 0 #[.val (.ref cw), .val (.int rv), sk] [])) (fun _ k => XS.goto X12.here hx rfl (pc0 := 44) (pc' := 0) rfl (hb hby dfo_44) (by decide) (by decide) k) ?_
          exact ih _ _ (One.val rfl) hsk _ _ _ hmA X12 N12 (Nat.le_trans ZA K12.1) (KA.trans K12 (fun x hx => Or.inl hx)) hq_12
        · refine own_st (T' := T9) (g' := (mkF m 47 #[.val (.ref cw), .val (.int rv), sk] [])) (fun _ k => XS.icmpYes X9.here hx rfl (pc0 := 36) (pc' := 47) rfl (hb hby dfo_36) rfl (feq hc36_11).2 (by decide) (by decide) k) ?_
          rw [if_neg hc36_11] at hmA
          obtain ⟨hc3, hmA⟩ := own_ifs hmA
          obtain ⟨hc4, hmA⟩ := own_ifs hmA
          refine own_st (T' := T9) (g' := (mkF m 48 #[.val (.ref cw), .val (.int rv), sk] [(.ref cw)])) (fun _ k => XS.aloadN X9.here hx rfl (hb hby dfo_47) rfl rfl k) ?_
          obtain ⟨T13, X13, e13, st13⟩ := getF X9 hx hZ hown (host := "") (Or.inl (own_w hw 43 rfl)) Via.refl e9 Fs_A (g := (mkF m 48 #[.val (.ref cw), .val (.int rv), sk] [(.ref cw)])) rfl rfl (hb hby dfo_48)
          refine own_st (g' := (mkF m 51 #[.val (.ref cw), .val (.int rv), sk] [(.ref so)])) st13 ?_
          obtain ⟨T14, X14, e14, st14⟩ := getF X13 hx hZ hown (Or.inr (own_w hw 83 rfl)) Via.refl e13 Ft_A (g := (mkF m 51 #[.val (.ref cw), .val (.int rv), sk] [(.ref so)])) rfl rfl (hb hby dfo_51)
          refine own_st (g' := (mkF m 54 #[.val (.ref cw), .val (.int rv), sk] [(.ref oT)])) st14 ?_
          refine own_st (T' := T14) (g' := (mkF m 55 #[.val (.ref cw), .val (.int rv), sk] [(.ref cw), (.ref oT)])) (fun _ k => XS.aloadN X14.here hx rfl (hb hby dfo_54) rfl rfl k) ?_
          obtain ⟨T15, X15, e15, st15⟩ := getF X14 hx hZ hown (host := "") (Or.inl (own_w hw 53 rfl)) Via.refl e14 FC_A (g := (mkF m 55 #[.val (.ref cw), .val (.int rv), sk] [(.ref cw), (.ref oT)])) rfl rfl (hb hby dfo_55)
          refine own_st (g' := (mkF m 58 #[.val (.ref cw), .val (.int rv), sk] [(.ref a3), (.ref oT)])) st15 ?_
          refine own_st (T' := T15) (g' := (mkF m 59 #[.val (.ref cw), .val (.int rv), sk] [(.int rv), (.ref a3), (.ref oT)])) (fun _ k => XS.iloadN X15.here hx rfl (hb hby dfo_58) rfl k) ?_
          refine own_st (T' := T15) (g' := (mkF m 60 #[.val (.ref cw), .val (.int rv), sk] [(.int rv), (.ref a3), (.int rv), (.ref a3), (.ref oT)])) (fun _ k => ?_) ?_
          · jvm_step X15.here [X15.here.top, hx, (hb hby dfo_59), Value.category]; exact k
          obtain ⟨cl16, Ar16, S16, M16, H16⟩ := id BC_A
          refine own_st (T' := T15) (g' := (mkF m 61 #[.val (.ref cw), .val (.int rv), sk] [(.int (fN rv)), (.int rv), (.ref a3), (.ref oT)])) (fun _ k => X15.iaload hx (j := rv) (v := (.int (fN rv))) (by rw [e15]; exact Ar16.1) (State.isArrayOf_alike hZ.alike Ar16.2.1) Ar16.2.2 (inb_of S16 ⟨hc2.1, hc2.2⟩) (H16 _ hc2.1 hc2.2) (g := (mkF m 60 #[.val (.ref cw), .val (.int rv), sk] [(.int rv), (.ref a3), (.int rv), (.ref a3), (.ref oT)])) rfl rfl (hb hby dfo_60) _ k) ?_
          refine own_st (T' := T15) (g' := (mkF m 62 #[.val (.ref cw), .val (.int rv), sk] [(.int (fN rv)), (.int rv), (.ref a3), (.int (fN rv)), (.ref oT)])) (fun _ k => ?_) ?_
          · jvm_step X15.here [X15.here.top, hx, (hb hby dfo_61), Value.category]; exact k
          refine own_st (T' := T15) (g' := (mkF m 63 #[.val (.ref cw), .val (.int rv), sk] [(.int (1 : Int32)), (.int (fN rv)), (.int rv), (.ref a3), (.int (fN rv)), (.ref oT)])) (fun _ k => XS.iconst X15.here hx rfl (hb hby dfo_62) k) ?_
          refine own_st (T' := T15) (g' := (mkF m 64 #[.val (.ref cw), .val (.int rv), sk] [(.int ((fN rv) + (1 : Int32))), (.int rv), (.ref a3), (.int (fN rv)), (.ref oT)])) (fun _ k => XS.iadd X15.here hx rfl (hb hby dfo_63) rfl k) ?_
          obtain ⟨cl17, Ar17, S17, M17, H17⟩ := id BC_A
          obtain ⟨T17, h17, X17, e17, W17, st17⟩ := stI X15 hx hZ e15 Ar17 (j := rv) (inb_of S17 ⟨hc2.1, hc2.2⟩) (g := (mkF m 64 #[.val (.ref cw), .val (.int rv), sk] [(.int ((fN rv) + (1 : Int32))), (.int rv), (.ref a3), (.int (fN rv)), (.ref oT)])) rfl rfl (hb hby dfo_64)
          have V17 : own_A Z h17 a3 .int (3 : Int32) (fun i => (.int ((own_up fN rv ((fN rv) + (1 : Int32))) i))) := (own_A.set Ar17 S17 M17 H17 hc2.1 hc2.2 W17).upI
          have N17 := Fr.snoc X17 NA (hG _ (List.mem_of_getElem? (i := 6) rfl))
          refine own_st (g' := (mkF m 65 #[.val (.ref cw), .val (.int rv), sk] [(.int (fN rv)), (.ref oT)])) st17 ?_
          obtain ⟨cl18, Ar18, S18, M18, H18⟩ := id (AT_A.other W17 (own_nd hd 2 6 (by decide) rfl rfl))
          refine own_st (T' := T17) (g' := (mkF m 66 #[.val (.ref cw), .val (.int rv), sk] [(.int (fT (fN rv)))])) (fun _ k => X17.iaload hx (j := (fN rv)) (v := (.int (fT (fN rv)))) (by rw [e17]; exact Ar18.1) (State.isArrayOf_alike hZ.alike Ar18.2.1) Ar18.2.2 (inb_of S18 ⟨hc3.1, hc3.2⟩) (H18 _ hc3.1 hc3.2) (g := (mkF m 65 #[.val (.ref cw), .val (.int rv), sk] [(.int (fN rv)), (.ref oT)])) rfl rfl (hb hby dfo_65) _ k) ?_
          generalize htv : (fT (fN rv)) = tv at hmA hc4 ⊢
          refine own_st (T' := T17) (g' := (mkF m 67 #[.val (.ref cw), .val (.int rv), .val (.int tv)] [])) (fun _ k => XS.istoreN X17.here hx rfl (hb hby dfo_66) rfl (l' := #[.val (.ref cw), .val (.int rv), .val (.int tv)]) (own_os hsk) k) ?_
          refine own_st (T' := T17) (g' := (mkF m 68 #[.val (.ref cw), .val (.int rv), .val (.int tv)] [(.ref cw)])) (fun _ k => XS.aloadN X17.here hx rfl (hb hby dfo_67) rfl rfl k) ?_
          obtain ⟨T19, X19, e19, st19⟩ := getF X17 hx hZ hown (host := "") (Or.inl (own_w hw 49 rfl)) Via.refl e17 (FA_A.other W17 (Or.inl (own_nd hd 3 6 (by decide) rfl rfl))) (g := (mkF m 68 #[.val (.ref cw), .val (.int rv), .val (.int tv)] [(.ref cw)])) rfl rfl (hb hby dfo_68)
          refine own_st (g' := (mkF m 71 #[.val (.ref cw), .val (.int rv), .val (.int tv)] [(.ref a1)])) st19 ?_
          refine own_st (T' := T19) (g' := (mkF m 72 #[.val (.ref cw), .val (.int rv), .val (.int tv)] [(.int tv), (.ref a1)])) (fun _ k => XS.iloadN X19.here hx rfl (hb hby dfo_71) rfl k) ?_
          obtain ⟨cl20, Ar20, S20, M20, H20⟩ := id (BA_A.other W17 (own_nd hd 4 6 (by decide) rfl rfl))
          refine own_st (T' := T19) (g' := (mkF m 73 #[.val (.ref cw), .val (.int rv), .val (.int tv)] [(.int (fE tv))])) (fun _ k => X19.iaload hx (j := tv) (v := (.int (fE tv))) (by rw [e19]; exact Ar20.1) (State.isArrayOf_alike hZ.alike Ar20.2.1) Ar20.2.2 (inb_of S20 ⟨hc4.1, hc4.2⟩) (H20 _ hc4.1 hc4.2) (g := (mkF m 72 #[.val (.ref cw), .val (.int rv), .val (.int tv)] [(.int tv), (.ref a1)])) rfl rfl (hb hby dfo_72) _ k) ?_
          by_cases hc73_21 : (fE tv) = (0 : Int32)
          · refine own_st (T' := T19) (g' := (mkF m 76 #[.val (.ref cw), .val (.int rv), .val (.int tv)] [])) (fun _ k => XS.ifNo X19.here hx rfl (hb hby dfo_73) rfl ((if0 _ _).trans (teq hc73_21).2) k) ?_
            rw [if_pos hc73_21] at hmA
            obtain ⟨hc5, hmA⟩ := own_ifs hmA
            refine own_st (T' := T19) (g' := (mkF m 77 #[.val (.ref cw), .val (.int rv), .val (.int tv)] [(.ref cw)])) (fun _ k => XS.aloadN X19.here hx rfl (hb hby dfo_76) rfl rfl k) ?_
            refine own_st (T' := T19) (g' := (mkF m 78 #[.val (.ref cw), .val (.int rv), .val (.int tv)] [(.int tv), (.ref cw)])) (fun _ k => XS.iloadN X19.here hx rfl (hb hby dfo_77) rfl k) ?_
            refine own_callP X19 hx hZ (y := (⟨"com/example/procurator/procurator/model/RelationGraph$CircleWalk", "enter", "(I)V"⟩ : MethodName)) hown (own_w hw 68 rfl) (own_w hw 69 rfl) (own_w hw 37 rfl) (own_w hw 70 rfl) (own_w hw 71 rfl) (own_w hw 38 rfl) (by decide) (W := 0) e19 (b := cw) (Ec_A.wr W17) (argsL := [(.int tv)]) (rest := []) (rmen l Z a0 hw [] so oF oT cw a1 a2 a3 a4 a5 a6 a7 fF fT (fE, fL, (own_up fN rv ((fN rv) + (1 : Int32))), fC, fO, fU, fP, us, ps, en, ci) tv h17 n0 (Nat.le_trans ZA (Nat.le_of_eq W17.size.symm)) hd hG (show own_CW Z h17 so oF oT cw a1 a2 a3 a4 a5 a6 a7 fF fT (fE, fL, (own_up fN rv ((fN rv) + (1 : Int32))), fC, fO, fU, fP, us, ps, en, ci) from ⟨(Es_A.wr W17), (Ff_A.other W17 (Or.inl (own_nd hd 0 6 (by decide) rfl rfl))), (Ft_A.other W17 (Or.inl (own_nd hd 0 6 (by decide) rfl rfl))), (AF_A.other W17 (own_nd hd 1 6 (by decide) rfl rfl)), (AT_A.other W17 (own_nd hd 2 6 (by decide) rfl rfl)), (Ec_A.wr W17), (Fs_A.other W17 (Or.inl (own_nd hd 3 6 (by decide) rfl rfl))), (FA_A.other W17 (Or.inl (own_nd hd 3 6 (by decide) rfl rfl))), (FB_A.other W17 (Or.inl (own_nd hd 3 6 (by decide) rfl rfl))), (FC_A.other W17 (Or.inl (own_nd hd 3 6 (by decide) rfl rfl))), (FD_A.other W17 (Or.inl (own_nd hd 3 6 (by decide) rfl rfl))), (FE_A.other W17 (Or.inl (own_nd hd 3 6 (by decide) rfl rfl))), (FF_A.other W17 (Or.inl (own_nd hd 3 6 (by decide) rfl rfl))), (FG_A.other W17 (Or.inl (own_nd hd 3 6 (by decide) rfl rfl))), (Gu_A.other W17 (Or.inl (own_nd hd 3 6 (by decide) rfl rfl))), (Gp_A.other W17 (Or.inl (own_nd hd 3 6 (by decide) rfl rfl))), (Ge_A.other W17 (Or.inl (own_nd hd 3 6 (by decide) rfl rfl))), (Gc_A.other W17 (Or.inl (own_nd hd 3 6 (by decide) rfl rfl))), (BA_A.other W17 (own_nd hd 4 6 (by decide) rfl rfl)), (BB_A.other W17 (own_nd hd 5 6 (by decide) rfl rfl)), V17, (BD_A.other W17 (Ne.symm (own_nd hd 6 7 (by decide) rfl rfl))), (BE_A.other W17 (Ne.symm (own_nd hd 6 8 (by decide) rfl rfl))), (BF_A.other W17 (Ne.symm (own_nd hd 6 9 (by decide) rfl rfl))), (BG_A.other W17 (Ne.symm (own_nd hd 6 10 (by decide) rfl rfl)))⟩) hc4 hc5.1 hc5.2) (by decide) (by decide) (by decide) (by decide) (g := (mkF m 78 #[.val (.ref cw), .val (.int rv), .val (.int tv)] [(.int tv), (.ref cw)])) rfl (by rw [hml]; rfl) (lenOf own_pd1 rfl) rfl (by show 2 * 0 + _ ≤ _; exact Nat.le_of_eq rfl) (hb hby dfo_78) ?_
            rintro _ T22 L22 X22 ⟨rfl, N22q, K22, hq_22⟩
            show own_Go _ _ _ _ _ _ _ T22 (mkF m 81 #[.val (.ref cw), .val (.int rv), .val (.int tv)] [])
            have N22 := Fr.app N17 N22q
            refine own_st (T' := T22) (g' := (mkF m 114 #[.val (.ref cw), .val (.int rv), .val (.int tv)] [])) (fun _ k => XS.goto X22.here hx rfl (pc0 := 81) (pc' := 114) rfl (hb hby dfo_81) (by decide) (by decide) k) ?_
            refine own_st (T' := T22) (g' := (mkF m 0 #[.val (.ref cw), .val (.int rv), .val (.int tv)] [])) (fun _ k => XS.goto X22.here hx rfl (pc0 := 114) (pc' := 0) rfl (hb hby dfo_114) (by decide) (by decide) k) ?_
            exact ih _ _ (One.val rfl) (One.val rfl) _ _ _ hmA X22 N22 (Nat.le_trans (Nat.le_trans ZA (Nat.le_of_eq W17.size.symm)) K22.1) ((KA.wr W17 (Or.inl (List.mem_of_getElem? (i := 3) rfl))).trans K22 (fun x hx => Or.inl hx)) hq_22
          · refine own_st (T' := T19) (g' := (mkF m 84 #[.val (.ref cw), .val (.int rv), .val (.int tv)] [])) (fun _ k => XS.ifYes X19.here hx rfl (pc0 := 73) (pc' := 84) rfl (hb hby dfo_73) rfl ((if0 _ _).trans (feq hc73_21).2) (by decide) (by decide) k) ?_
            rw [if_neg hc73_21] at hmA
            refine own_st (T' := T19) (g' := (mkF m 85 #[.val (.ref cw), .val (.int rv), .val (.int tv)] [(.ref cw)])) (fun _ k => XS.aloadN X19.here hx rfl (hb hby dfo_84) rfl rfl k) ?_
            obtain ⟨T23, X23, e23, st23⟩ := getF X19 hx hZ hown (host := "") (Or.inl (own_w hw 58 rfl)) Via.refl e19 (FE_A.other W17 (Or.inl (own_nd hd 3 6 (by decide) rfl rfl))) (g := (mkF m 85 #[.val (.ref cw), .val (.int rv), .val (.int tv)] [(.ref cw)])) rfl rfl (hb hby dfo_85)
            refine own_st (g' := (mkF m 88 #[.val (.ref cw), .val (.int rv), .val (.int tv)] [(.ref a5)])) st23 ?_
            refine own_st (T' := T23) (g' := (mkF m 89 #[.val (.ref cw), .val (.int rv), .val (.int tv)] [(.int tv), (.ref a5)])) (fun _ k => XS.iloadN X23.here hx rfl (hb hby dfo_88) rfl k) ?_
            obtain ⟨cl24, Ar24, S24, M24, H24⟩ := id (BE_A.other W17 (Ne.symm (own_nd hd 6 8 (by decide) rfl rfl)))
            refine own_st (T' := T23) (g' := (mkF m 90 #[.val (.ref cw), .val (.int rv), .val (.int tv)] [(.int (fO tv))])) (fun _ k => X23.baloadBooleans hx (j := tv) (v := (.int (fO tv))) (by rw [e23]; exact Ar24.1) (State.isArrayOf_alike hZ.alike Ar24.2.1) Ar24.2.2 (inb_of S24 ⟨hc4.1, hc4.2⟩) (H24 _ hc4.1 hc4.2) (g := (mkF m 89 #[.val (.ref cw), .val (.int rv), .val (.int tv)] [(.int tv), (.ref a5)])) rfl rfl (hb hby dfo_89) _ k) ?_
            by_cases hc90_25 : (fO tv) = (0 : Int32)
            · refine own_st (T' := T23) (g' := (mkF m 114 #[.val (.ref cw), .val (.int rv), .val (.int tv)] [])) (fun _ k => XS.ifYes X23.here hx rfl (pc0 := 90) (pc' := 114) rfl (hb hby dfo_90) rfl ((if0 _ _).trans (teq hc90_25).1) (by decide) (by decide) k) ?_
              rw [if_pos hc90_25] at hmA
              refine own_st (T' := T23) (g' := (mkF m 0 #[.val (.ref cw), .val (.int rv), .val (.int tv)] [])) (fun _ k => XS.goto X23.here hx rfl (pc0 := 114) (pc' := 0) rfl (hb hby dfo_114) (by decide) (by decide) k) ?_
              exact ih _ _ (One.val rfl) (One.val rfl) _ _ _ hmA X23 N17 (by rw [e23]; exact (Nat.le_trans ZA (Nat.le_of_eq W17.size.symm))) (by rw [e23]; exact (KA.wr W17 (Or.inl (List.mem_of_getElem? (i := 3) rfl)))) (by rw [e23]; exact (show own_CW Z h17 so oF oT cw a1 a2 a3 a4 a5 a6 a7 fF fT (fE, fL, (own_up fN rv ((fN rv) + (1 : Int32))), fC, fO, fU, fP, us, ps, en, ci) from ⟨(Es_A.wr W17), (Ff_A.other W17 (Or.inl (own_nd hd 0 6 (by decide) rfl rfl))), (Ft_A.other W17 (Or.inl (own_nd hd 0 6 (by decide) rfl rfl))), (AF_A.other W17 (own_nd hd 1 6 (by decide) rfl rfl)), (AT_A.other W17 (own_nd hd 2 6 (by decide) rfl rfl)), (Ec_A.wr W17), (Fs_A.other W17 (Or.inl (own_nd hd 3 6 (by decide) rfl rfl))), (FA_A.other W17 (Or.inl (own_nd hd 3 6 (by decide) rfl rfl))), (FB_A.other W17 (Or.inl (own_nd hd 3 6 (by decide) rfl rfl))), (FC_A.other W17 (Or.inl (own_nd hd 3 6 (by decide) rfl rfl))), (FD_A.other W17 (Or.inl (own_nd hd 3 6 (by decide) rfl rfl))), (FE_A.other W17 (Or.inl (own_nd hd 3 6 (by decide) rfl rfl))), (FF_A.other W17 (Or.inl (own_nd hd 3 6 (by decide) rfl rfl))), (FG_A.other W17 (Or.inl (own_nd hd 3 6 (by decide) rfl rfl))), (Gu_A.other W17 (Or.inl (own_nd hd 3 6 (by decide) rfl rfl))), (Gp_A.other W17 (Or.inl (own_nd hd 3 6 (by decide) rfl rfl))), (Ge_A.other W17 (Or.inl (own_nd hd 3 6 (by decide) rfl rfl))), (Gc_A.other W17 (Or.inl (own_nd hd 3 6 (by decide) rfl rfl))), (BA_A.other W17 (own_nd hd 4 6 (by decide) rfl rfl)), (BB_A.other W17 (own_nd hd 5 6 (by decide) rfl rfl)), V17, (BD_A.other W17 (Ne.symm (own_nd hd 6 7 (by decide) rfl rfl))), (BE_A.other W17 (Ne.symm (own_nd hd 6 8 (by decide) rfl rfl))), (BF_A.other W17 (Ne.symm (own_nd hd 6 9 (by decide) rfl rfl))), (BG_A.other W17 (Ne.symm (own_nd hd 6 10 (by decide) rfl rfl)))⟩))
            · refine own_st (T' := T23) (g' := (mkF m 93 #[.val (.ref cw), .val (.int rv), .val (.int tv)] [])) (fun _ k => XS.ifNo X23.here hx rfl (hb hby dfo_90) rfl ((if0 _ _).trans (feq hc90_25).1) k) ?_
              rw [if_neg hc90_25] at hmA
              refine own_st (T' := T23) (g' := (mkF m 94 #[.val (.ref cw), .val (.int rv), .val (.int tv)] [(.ref cw)])) (fun _ k => XS.aloadN X23.here hx rfl (hb hby dfo_93) rfl rfl k) ?_
              obtain ⟨T26, X26, e26, st26⟩ := getF X23 hx hZ hown (host := "") (Or.inl (own_w hw 51 rfl)) Via.refl e23 (FB_A.other W17 (Or.inl (own_nd hd 3 6 (by decide) rfl rfl))) (g := (mkF m 94 #[.val (.ref cw), .val (.int rv), .val (.int tv)] [(.ref cw)])) rfl rfl (hb hby dfo_94)
              refine own_st (g' := (mkF m 97 #[.val (.ref cw), .val (.int rv), .val (.int tv)] [(.ref a2)])) st26 ?_
              refine own_st (T' := T26) (g' := (mkF m 98 #[.val (.ref cw), .val (.int rv), .val (.int tv)] [(.int rv), (.ref a2)])) (fun _ k => XS.iloadN X26.here hx rfl (hb hby dfo_97) rfl k) ?_
              refine own_st (T' := T26) (g' := (mkF m 99 #[.val (.ref cw), .val (.int rv), .val (.int tv)] [(.ref cw), (.int rv), (.ref a2)])) (fun _ k => XS.aloadN X26.here hx rfl (hb hby dfo_98) rfl rfl k) ?_
              obtain ⟨T27, X27, e27, st27⟩ := getF X26 hx hZ hown (host := "") (Or.inl (own_w hw 51 rfl)) Via.refl e26 (FB_A.other W17 (Or.inl (own_nd hd 3 6 (by decide) rfl rfl))) (g := (mkF m 99 #[.val (.ref cw), .val (.int rv), .val (.int tv)] [(.ref cw), (.int rv), (.ref a2)])) rfl rfl (hb hby dfo_99)
              refine own_st (g' := (mkF m 102 #[.val (.ref cw), .val (.int rv), .val (.int tv)] [(.ref a2), (.int rv), (.ref a2)])) st27 ?_
              refine own_st (T' := T27) (g' := (mkF m 103 #[.val (.ref cw), .val (.int rv), .val (.int tv)] [(.int rv), (.ref a2), (.int rv), (.ref a2)])) (fun _ k => XS.iloadN X27.here hx rfl (hb hby dfo_102) rfl k) ?_
              obtain ⟨cl28, Ar28, S28, M28, H28⟩ := id (BB_A.other W17 (own_nd hd 5 6 (by decide) rfl rfl))
              refine own_st (T' := T27) (g' := (mkF m 104 #[.val (.ref cw), .val (.int rv), .val (.int tv)] [(.int (fL rv)), (.int rv), (.ref a2)])) (fun _ k => X27.iaload hx (j := rv) (v := (.int (fL rv))) (by rw [e27]; exact Ar28.1) (State.isArrayOf_alike hZ.alike Ar28.2.1) Ar28.2.2 (inb_of S28 ⟨hc2.1, hc2.2⟩) (H28 _ hc2.1 hc2.2) (g := (mkF m 103 #[.val (.ref cw), .val (.int rv), .val (.int tv)] [(.int rv), (.ref a2), (.int rv), (.ref a2)])) rfl rfl (hb hby dfo_103) _ k) ?_
              refine own_st (T' := T27) (g' := (mkF m 105 #[.val (.ref cw), .val (.int rv), .val (.int tv)] [(.ref cw), (.int (fL rv)), (.int rv), (.ref a2)])) (fun _ k => XS.aloadN X27.here hx rfl (hb hby dfo_104) rfl rfl k) ?_
              obtain ⟨T29, X29, e29, st29⟩ := getF X27 hx hZ hown (host := "") (Or.inl (own_w hw 49 rfl)) Via.refl e27 (FA_A.other W17 (Or.inl (own_nd hd 3 6 (by decide) rfl rfl))) (g := (mkF m 105 #[.val (.ref cw), .val (.int rv), .val (.int tv)] [(.ref cw), (.int (fL rv)), (.int rv), (.ref a2)])) rfl rfl (hb hby dfo_105)
              refine own_st (g' := (mkF m 108 #[.val (.ref cw), .val (.int rv), .val (.int tv)] [(.ref a1), (.int (fL rv)), (.int rv), (.ref a2)])) st29 ?_
              refine own_st (T' := T29) (g' := (mkF m 109 #[.val (.ref cw), .val (.int rv), .val (.int tv)] [(.int tv), (.ref a1), (.int (fL rv)), (.int rv), (.ref a2)])) (fun _ k => XS.iloadN X29.here hx rfl (hb hby dfo_108) rfl k) ?_
              obtain ⟨cl30, Ar30, S30, M30, H30⟩ := id (BA_A.other W17 (own_nd hd 4 6 (by decide) rfl rfl))
              refine own_st (T' := T29) (g' := (mkF m 110 #[.val (.ref cw), .val (.int rv), .val (.int tv)] [(.int (fE tv)), (.int (fL rv)), (.int rv), (.ref a2)])) (fun _ k => X29.iaload hx (j := tv) (v := (.int (fE tv))) (by rw [e29]; exact Ar30.1) (State.isArrayOf_alike hZ.alike Ar30.2.1) Ar30.2.2 (inb_of S30 ⟨hc4.1, hc4.2⟩) (H30 _ hc4.1 hc4.2) (g := (mkF m 109 #[.val (.ref cw), .val (.int rv), .val (.int tv)] [(.int tv), (.ref a1), (.int (fL rv)), (.int rv), (.ref a2)])) rfl rfl (hb hby dfo_109) _ k) ?_
              refine own_callS X29 hx hZ (y := (⟨"java/lang/Math", "min", "(II)I"⟩ : MethodName)) hown (own_w hw 84 rfl) (own_w hw 85 rfl) (own_w hw 86 rfl) (own_w hw 87 rfl) (by decide) (W := 2) e29 (argsL := [(.int (fL rv)), (.int (fE tv))]) (rest := [(.int rv), (.ref a2)]) (rmmi l Z a0 hw [] (fL rv) (fE tv) h17 n0 (Nat.le_trans ZA (Nat.le_of_eq W17.size.symm))) (by decide) (by decide) (by decide) (by decide) (g := (mkF m 110 #[.val (.ref cw), .val (.int rv), .val (.int tv)] [(.int (fE tv)), (.int (fL rv)), (.int rv), (.ref a2)])) rfl (by rw [hml]; rfl) (lenOf own_pd0 rfl) rfl (by show 2 * 0 + _ ≤ _; exact Nat.le_of_eq rfl) (hb hby dfo_110) ?_
              rintro _ T31 L31 X31 ⟨rfl, N31q, e31⟩
              show own_Go _ _ _ _ _ _ _ T31 (mkF m 113 #[.val (.ref cw), .val (.int rv), .val (.int tv)] [(.int (own_mn (fL rv) (fE tv))), (.int rv), (.ref a2)])
              have N31 := Fr.app N17 N31q
              obtain ⟨cl32, Ar32, S32, M32, H32⟩ := id (BB_A.other W17 (own_nd hd 5 6 (by decide) rfl rfl))
              obtain ⟨T32, h32, X32, e32, W32, st32⟩ := stI X31 hx hZ e31 Ar32 (j := rv) (inb_of S32 ⟨hc2.1, hc2.2⟩) (g := (mkF m 113 #[.val (.ref cw), .val (.int rv), .val (.int tv)] [(.int (own_mn (fL rv) (fE tv))), (.int rv), (.ref a2)])) rfl rfl (hb hby dfo_113)
              have V32 : own_A Z h32 a2 .int (3 : Int32) (fun i => (.int ((own_up fL rv (own_mn (fL rv) (fE tv))) i))) := (own_A.set Ar32 S32 M32 H32 hc2.1 hc2.2 W32).upI
              have N32 := Fr.snoc X32 N31 (hG _ (List.mem_of_getElem? (i := 5) rfl))
              refine own_st (g' := (mkF m 114 #[.val (.ref cw), .val (.int rv), .val (.int tv)] [])) st32 ?_
              refine own_st (T' := T32) (g' := (mkF m 0 #[.val (.ref cw), .val (.int rv), .val (.int tv)] [])) (fun _ k => XS.goto X32.here hx rfl (pc0 := 114) (pc' := 0) rfl (hb hby dfo_114) (by decide) (by decide) k) ?_
              exact ih _ _ (One.val rfl) (One.val rfl) _ _ _ hmA X32 N32 (by rw [e32]; exact (Nat.le_trans (Nat.le_trans ZA (Nat.le_of_eq W17.size.symm)) (Nat.le_of_eq W32.size.symm))) (by rw [e32]; exact ((KA.wr W17 (Or.inl (List.mem_of_getElem? (i := 3) rfl))).wr W32 (Or.inl (List.mem_of_getElem? (i := 2) rfl)))) (by rw [e32]; exact (show own_CW Z h32 so oF oT cw a1 a2 a3 a4 a5 a6 a7 fF fT (fE, (own_up fL rv (own_mn (fL rv) (fE tv))), (own_up fN rv ((fN rv) + (1 : Int32))), fC, fO, fU, fP, us, ps, en, ci) from ⟨((Es_A.wr W17).wr W32), ((Ff_A.other W17 (Or.inl (own_nd hd 0 6 (by decide) rfl rfl))).other W32 (Or.inl (own_nd hd 0 5 (by decide) rfl rfl))), ((Ft_A.other W17 (Or.inl (own_nd hd 0 6 (by decide) rfl rfl))).other W32 (Or.inl (own_nd hd 0 5 (by decide) rfl rfl))), ((AF_A.other W17 (own_nd hd 1 6 (by decide) rfl rfl)).other W32 (own_nd hd 1 5 (by decide) rfl rfl)), ((AT_A.other W17 (own_nd hd 2 6 (by decide) rfl rfl)).other W32 (own_nd hd 2 5 (by decide) rfl rfl)), ((Ec_A.wr W17).wr W32), ((Fs_A.other W17 (Or.inl (own_nd hd 3 6 (by decide) rfl rfl))).other W32 (Or.inl (own_nd hd 3 5 (by decide) rfl rfl))), ((FA_A.other W17 (Or.inl (own_nd hd 3 6 (by decide) rfl rfl))).other W32 (Or.inl (own_nd hd 3 5 (by decide) rfl rfl))), ((FB_A.other W17 (Or.inl (own_nd hd 3 6 (by decide) rfl rfl))).other W32 (Or.inl (own_nd hd 3 5 (by decide) rfl rfl))), ((FC_A.other W17 (Or.inl (own_nd hd 3 6 (by decide) rfl rfl))).other W32 (Or.inl (own_nd hd 3 5 (by decide) rfl rfl))), ((FD_A.other W17 (Or.inl (own_nd hd 3 6 (by decide) rfl rfl))).other W32 (Or.inl (own_nd hd 3 5 (by decide) rfl rfl))), ((FE_A.other W17 (Or.inl (own_nd hd 3 6 (by decide) rfl rfl))).other W32 (Or.inl (own_nd hd 3 5 (by decide) rfl rfl))), ((FF_A.other W17 (Or.inl (own_nd hd 3 6 (by decide) rfl rfl))).other W32 (Or.inl (own_nd hd 3 5 (by decide) rfl rfl))), ((FG_A.other W17 (Or.inl (own_nd hd 3 6 (by decide) rfl rfl))).other W32 (Or.inl (own_nd hd 3 5 (by decide) rfl rfl))), ((Gu_A.other W17 (Or.inl (own_nd hd 3 6 (by decide) rfl rfl))).other W32 (Or.inl (own_nd hd 3 5 (by decide) rfl rfl))), ((Gp_A.other W17 (Or.inl (own_nd hd 3 6 (by decide) rfl rfl))).other W32 (Or.inl (own_nd hd 3 5 (by decide) rfl rfl))), ((Ge_A.other W17 (Or.inl (own_nd hd 3 6 (by decide) rfl rfl))).other W32 (Or.inl (own_nd hd 3 5 (by decide) rfl rfl))), ((Gc_A.other W17 (Or.inl (own_nd hd 3 6 (by decide) rfl rfl))).other W32 (Or.inl (own_nd hd 3 5 (by decide) rfl rfl))), ((BA_A.other W17 (own_nd hd 4 6 (by decide) rfl rfl)).other W32 (own_nd hd 4 5 (by decide) rfl rfl)), V32, (V17.other W32 (Ne.symm (own_nd hd 5 6 (by decide) rfl rfl))), ((BD_A.other W17 (Ne.symm (own_nd hd 6 7 (by decide) rfl rfl))).other W32 (Ne.symm (own_nd hd 5 7 (by decide) rfl rfl))), ((BE_A.other W17 (Ne.symm (own_nd hd 6 8 (by decide) rfl rfl))).other W32 (Ne.symm (own_nd hd 5 8 (by decide) rfl rfl))), ((BF_A.other W17 (Ne.symm (own_nd hd 6 9 (by decide) rfl rfl))).other W32 (Ne.symm (own_nd hd 5 9 (by decide) rfl rfl))), ((BG_A.other W17 (Ne.symm (own_nd hd 6 10 (by decide) rfl rfl))).other W32 (Ne.symm (own_nd hd 5 10 (by decide) rfl rfl)))⟩))
      · refine own_st (T' := T1) (g' := (mkF m 117 #[.val (.ref cw), sl, sk] [])) (fun _ k => XS.ifYes X1.here hx rfl (pc0 := 4) (pc' := 117) rfl (hb hby dfo_4) rfl ((if0 _ _).trans (flt hc4_2).2.2.2) (by decide) (by decide) k) ?_
        rw [if_neg hc4_2] at hmA
        cases hmA
        exact own_retV X1 hx hlk hret (hb hby dfo_117) (by rw [e1]; exact ⟨rfl, NA, KA, ⟨Es_A, Ff_A, Ft_A, AF_A, AT_A, Ec_A, Fs_A, FA_A, FB_A, FC_A, FD_A, FE_A, FF_A, FG_A, Gu_A, Gp_A, Ge_A, Gc_A, BA_A, BB_A, BC_A, BD_A, BE_A, BF_A, BG_A⟩⟩) (by decide) (by decide)
  exact loop 16 _ _ One.u One.u _ _ _ hm X0 N0 (by rw [e0]; exact Z0) (by rw [e0]; exact (Keep.refl h0 [cw, a1, a2, a3, a4, a5, a6, a7])) (by rw [e0]; exact (show own_CW Z h0 so oF oT cw a1 a2 a3 a4 a5 a6 a7 fF fT (fE, fL, fN, fC, fO, fU, fP, us, ps, en, ci) from ⟨Es_0, Ff_0, Ft_0, AF_0, AT_0, Ec_0, Fs_0, FA_0, FB_0, FC_0, FD_0, FE_0, FF_0, FG_0, Gu_0, Gp_0, Ge_0, Gc_0, BA_0, BB_0, BC_0, BD_0, BE_0, BF_0, BG_0⟩))
theorem drn_0 : decode prog_73_method_2_code 0 = .ok (.iconst 0, 1) := by decide +kernel
theorem drn_1 : decode prog_73_method_2_code 1 = .ok (.istore_n 1, 1) := by decide +kernel
theorem drn_2 : decode prog_73_method_2_code 2 = .ok (.iload_n 1, 1) := by decide +kernel
theorem drn_3 : decode prog_73_method_2_code 3 = .ok (.aload_n 0, 1) := by decide +kernel
theorem drn_4 : decode prog_73_method_2_code 4 = .ok (.getfield 19, 3) := by decide +kernel
theorem drn_7 : decode prog_73_method_2_code 7 = .ok (.arraylength, 1) := by decide +kernel
theorem drn_8 : decode prog_73_method_2_code 8 = .ok (.if_icmp .ge 27, 3) := by decide +kernel
theorem drn_11 : decode prog_73_method_2_code 11 = .ok (.aload_n 0, 1) := by decide +kernel
theorem drn_12 : decode prog_73_method_2_code 12 = .ok (.getfield 19, 3) := by decide +kernel
theorem drn_15 : decode prog_73_method_2_code 15 = .ok (.iload_n 1, 1) := by decide +kernel
theorem drn_16 : decode prog_73_method_2_code 16 = .ok (.iaload, 1) := by decide +kernel
theorem drn_17 : decode prog_73_method_2_code 17 = .ok (.ifCond .ne 12, 3) := by decide +kernel
theorem drn_20 : decode prog_73_method_2_code 20 = .ok (.aload_n 0, 1) := by decide +kernel
theorem drn_21 : decode prog_73_method_2_code 21 = .ok (.iload_n 1, 1) := by decide +kernel
theorem drn_22 : decode prog_73_method_2_code 22 = .ok (.invokevirtual 42, 3) := by decide +kernel
theorem drn_25 : decode prog_73_method_2_code 25 = .ok (.aload_n 0, 1) := by decide +kernel
theorem drn_26 : decode prog_73_method_2_code 26 = .ok (.invokevirtual 46, 3) := by decide +kernel
theorem drn_29 : decode prog_73_method_2_code 29 = .ok (.iinc 1 1, 3) := by decide +kernel
theorem drn_32 : decode prog_73_method_2_code 32 = .ok (.goto (-30), 3) := by decide +kernel
theorem drn_35 : decode prog_73_method_2_code 35 = .ok (.aload_n 0, 1) := by decide +kernel
theorem drn_36 : decode prog_73_method_2_code 36 = .ok (.getfield 29, 3) := by decide +kernel
theorem drn_39 : decode prog_73_method_2_code 39 = .ok (.areturn, 1) := by decide +kernel
theorem pn_rn : plainName "com/example/procurator/procurator/model/RelationGraph$CircleWalk" = true := by first | (simp [plainName, overriddenIn]; done) | decide +kernel
theorem ef_rn (m : MethodId) (x0 : Addr) : entryFrame m #[(.ref x0)] 2 = mkF m 0 #[.val (.ref x0), .unset] [] := by first | (simp [entryFrame, mkF, argsToLocals, Value.category]; done) | rfl
set_option maxRecDepth 65536 in
set_option maxHeartbeats 40000000 in
theorem rmrn (l : Launch) (Z : State) (a0 : Array Value) (hw : ∀ d ∈ tables_1, d.before a0 Z = true) (ws : List Jvm.Cond) (so oF oT cw a1 a2 a3 a4 a5 a6 a7 : Addr) (fF fT : Int32 → Int32) (q : own_CS) (qa qb q' : own_CS) (h0 : Heap) (n0 : Nat) (Z0 : n0 ≤ h0.size) (hd : [so, oF, oT, cw, a1, a2, a3, a4, a5, a6, a7].Nodup) (hG : ∀ x ∈ [so, oF, oT, cw, a1, a2, a3, a4, a5, a6, a7], n0 ≤ x) (hq : own_CW Z h0 so oF oT cw a1 a2 a3 a4 a5 a6 a7 fF fT q) (hm0 : own_s1 fF fT q (0 : Int32) = some qa) (hm1 : own_s1 fF fT qa (1 : Int32) = some qb) (hm2 : own_s1 fF fT qb (2 : Int32) = some q') :
    own_Met l Z ws (⟨"com/example/procurator/procurator/model/RelationGraph$CircleWalk", "run", "()[I"⟩ : MethodName) prog_73_method_2_code 2 (some (.array .int)) ({ frames := 3, cells := 0, slots := 0, locals := 44 } : Room) ({ frames := 3, cells := 0, slots := 0, locals := 44 } : Room).cells ({ frames := 3, cells := 0, slots := 0, locals := 44 } : Room).slots #[(.ref cw)] h0 (fun v h L => v = some (.ref a4) ∧ Fr n0 L ∧ Keep h0 h [cw, a1, a2, a3, a4, a5, a6, a7] ∧ own_CW Z h so oF oT cw a1 a2 a3 a4 a5 a6 a7 fF fT q') := by
  refine own_body (plainFor_of_name pn_rn) ?_
  intro p e s m below meth c s₁ hx hby hml hown hnm hlk hret hZ hh X0 e0
  have N0 := Fr.nil n0
  obtain ⟨fE, fL, fN, fC, fO, fU, fP, us, ps, en, ci⟩ := q
  have hq_0 := hq
  dsimp only [own_CW] at hq_0
  obtain ⟨Es_0, Ff_0, Ft_0, AF_0, AT_0, Ec_0, Fs_0, FA_0, FB_0, FC_0, FD_0, FE_0, FF_0, FG_0, Gu_0, Gp_0, Ge_0, Gc_0, BA_0, BB_0, BC_0, BD_0, BE_0, BF_0, BG_0⟩ := hq_0
  refine own_cast (ef_rn m cw) ?_
  refine own_st (T' := s₁) (g' := (mkF m 1 #[.val (.ref cw), .unset] [(.int (0 : Int32))])) (fun _ k => XS.iconst X0.here hx rfl (hb hby drn_0) k) ?_
  refine own_st (T' := s₁) (g' := (mkF m 2 #[.val (.ref cw), .val (.int (0 : Int32))] [])) (fun _ k => XS.istoreN X0.here hx rfl (hb hby drn_1) rfl (l' := #[.val (.ref cw), .val (.int (0 : Int32))]) rfl k) ?_
  unfold own_s1 at hm0
  dsimp only at hm0
  refine own_st (T' := s₁) (g' := (mkF m 3 #[.val (.ref cw), .val (.int (0 : Int32))] [(.int (0 : Int32))])) (fun _ k => XS.iloadN X0.here hx rfl (hb hby drn_2) rfl k) ?_
  refine own_st (T' := s₁) (g' := (mkF m 4 #[.val (.ref cw), .val (.int (0 : Int32))] [(.ref cw), (.int (0 : Int32))])) (fun _ k => XS.aloadN X0.here hx rfl (hb hby drn_3) rfl rfl k) ?_
  obtain ⟨T1, X1, e1, st1⟩ := getF X0 hx hZ hown (host := "") (Or.inl (own_w hw 49 rfl)) Via.refl e0 FA_0 (g := (mkF m 4 #[.val (.ref cw), .val (.int (0 : Int32))] [(.ref cw), (.int (0 : Int32))])) rfl rfl (hb hby drn_4)
  refine own_st (g' := (mkF m 7 #[.val (.ref cw), .val (.int (0 : Int32))] [(.ref a1), (.int (0 : Int32))])) st1 ?_
  obtain ⟨cl2, Ar2, S2, M2, H2⟩ := id BA_0
  refine own_st (T' := T1) (g' := (mkF m 8 #[.val (.ref cw), .val (.int (0 : Int32))] [(.int (3 : Int32)), (.int (0 : Int32))])) (fun _ k => X1.arraylength hx (by rw [e1]; exact Ar2.1) (State.isArrayOf_alike hZ.alike Ar2.2.1) (g := (mkF m 7 #[.val (.ref cw), .val (.int (0 : Int32))] [(.ref a1), (.int (0 : Int32))])) rfl rfl (hb hby drn_7) _ (by rw [len_of S2 M2]; exact k)) ?_
  refine own_st (T' := T1) (g' := (mkF m 11 #[.val (.ref cw), .val (.int (0 : Int32))] [])) (fun _ k => XS.icmpNo X1.here hx rfl (hb hby drn_8) rfl (tlt (by decide : ((0 : Int32) < (3 : Int32)))).2.1 k) ?_
  refine own_st (T' := T1) (g' := (mkF m 12 #[.val (.ref cw), .val (.int (0 : Int32))] [(.ref cw)])) (fun _ k => XS.aloadN X1.here hx rfl (hb hby drn_11) rfl rfl k) ?_
  obtain ⟨T3, X3, e3, st3⟩ := getF X1 hx hZ hown (host := "") (Or.inl (own_w hw 49 rfl)) Via.refl e1 FA_0 (g := (mkF m 12 #[.val (.ref cw), .val (.int (0 : Int32))] [(.ref cw)])) rfl rfl (hb hby drn_12)
  refine own_st (g' := (mkF m 15 #[.val (.ref cw), .val (.int (0 : Int32))] [(.ref a1)])) st3 ?_
  refine own_st (T' := T3) (g' := (mkF m 16 #[.val (.ref cw), .val (.int (0 : Int32))] [(.int (0 : Int32)), (.ref a1)])) (fun _ k => XS.iloadN X3.here hx rfl (hb hby drn_15) rfl k) ?_
  obtain ⟨cl4, Ar4, S4, M4, H4⟩ := id BA_0
  refine own_st (T' := T3) (g' := (mkF m 17 #[.val (.ref cw), .val (.int (0 : Int32))] [(.int (fE (0 : Int32)))])) (fun _ k => X3.iaload hx (j := (0 : Int32)) (v := (.int (fE (0 : Int32)))) (by rw [e3]; exact Ar4.1) (State.isArrayOf_alike hZ.alike Ar4.2.1) Ar4.2.2 (inb_of S4 ⟨(by decide), (by decide)⟩) (H4 _ (by decide) (by decide)) (g := (mkF m 16 #[.val (.ref cw), .val (.int (0 : Int32))] [(.int (0 : Int32)), (.ref a1)])) rfl rfl (hb hby drn_16) _ k) ?_
  by_cases hc17_5 : (fE (0 : Int32)) = (0 : Int32)
  · refine own_st (T' := T3) (g' := (mkF m 20 #[.val (.ref cw), .val (.int (0 : Int32))] [])) (fun _ k => XS.ifNo X3.here hx rfl (hb hby drn_17) rfl ((if0 _ _).trans (teq hc17_5).2) k) ?_
    rw [if_pos hc17_5] at hm0
    obtain ⟨hc0, hm0⟩ := own_ifs hm0
    refine own_st (T' := T3) (g' := (mkF m 21 #[.val (.ref cw), .val (.int (0 : Int32))] [(.ref cw)])) (fun _ k => XS.aloadN X3.here hx rfl (hb hby drn_20) rfl rfl k) ?_
    refine own_st (T' := T3) (g' := (mkF m 22 #[.val (.ref cw), .val (.int (0 : Int32))] [(.int (0 : Int32)), (.ref cw)])) (fun _ k => XS.iloadN X3.here hx rfl (hb hby drn_21) rfl k) ?_
    refine own_callP X3 hx hZ (y := (⟨"com/example/procurator/procurator/model/RelationGraph$CircleWalk", "enter", "(I)V"⟩ : MethodName)) hown (own_w hw 68 rfl) (own_w hw 69 rfl) (own_w hw 37 rfl) (own_w hw 70 rfl) (own_w hw 71 rfl) (own_w hw 38 rfl) (by decide) (W := 0) e3 (b := cw) Ec_0 (argsL := [(.int (0 : Int32))]) (rest := []) (rmen l Z a0 hw [] so oF oT cw a1 a2 a3 a4 a5 a6 a7 fF fT (fE, fL, fN, fC, fO, fU, fP, us, ps, en, ci) (0 : Int32) h0 n0 Z0 hd hG (show own_CW Z h0 so oF oT cw a1 a2 a3 a4 a5 a6 a7 fF fT (fE, fL, fN, fC, fO, fU, fP, us, ps, en, ci) from ⟨Es_0, Ff_0, Ft_0, AF_0, AT_0, Ec_0, Fs_0, FA_0, FB_0, FC_0, FD_0, FE_0, FF_0, FG_0, Gu_0, Gp_0, Ge_0, Gc_0, BA_0, BB_0, BC_0, BD_0, BE_0, BF_0, BG_0⟩) (by decide) hc0.1 hc0.2) (by decide) (by decide) (by decide) (by decide) (g := (mkF m 22 #[.val (.ref cw), .val (.int (0 : Int32))] [(.int (0 : Int32)), (.ref cw)])) rfl (by rw [hml]; rfl) (lenOf own_pd1 rfl) rfl (by show 2 * 0 + _ ≤ _; exact Nat.le_of_eq rfl) (hb hby drn_22) ?_
    rintro _ T6 L6 X6 ⟨rfl, N6q, K6, hq_6⟩
    show own_Go _ _ _ _ _ _ _ T6 (mkF m 25 #[.val (.ref cw), .val (.int (0 : Int32))] [])
    have N6 := Fr.app N0 N6q
    refine own_st (T' := T6) (g' := (mkF m 26 #[.val (.ref cw), .val (.int (0 : Int32))] [(.ref cw)])) (fun _ k => XS.aloadN X6.here hx rfl (hb hby drn_25) rfl rfl k) ?_
    refine own_callP X6 hx hZ (y := (⟨"com/example/procurator/procurator/model/RelationGraph$CircleWalk", "follow", "()V"⟩ : MethodName)) hown (own_w hw 79 rfl) (own_w hw 80 rfl) (own_w hw 37 rfl) (own_w hw 81 rfl) (own_w hw 82 rfl) (own_w hw 38 rfl) (by decide) (W := 0) rfl (b := cw) hq_6.2.2.2.2.2.1 (argsL := []) (rest := []) (rmfo l Z a0 hw [] so oF oT cw a1 a2 a3 a4 a5 a6 a7 fF fT (own_ent fF (fE, fL, fN, fC, fO, fU, fP, us, ps, en, ci) (0 : Int32)) qa T6.heap n0 (Nat.le_trans Z0 K6.1) hd hG hq_6 hm0) (by decide) (by decide) (by decide) (by decide) (g := (mkF m 26 #[.val (.ref cw), .val (.int (0 : Int32))] [(.ref cw)])) rfl (by rw [hml]; rfl) (lenOf own_pd2 rfl) rfl (by show 2 * 0 + _ ≤ _; exact Nat.le_of_eq rfl) (hb hby drn_26) ?_
    rintro _ T7 L7 X7 ⟨rfl, N7q, K7, hq_7⟩
    show own_Go _ _ _ _ _ _ _ T7 (mkF m 29 #[.val (.ref cw), .val (.int (0 : Int32))] [])
    have N7 := Fr.app N6 N7q
    obtain ⟨fE_0, fL_0, fN_0, fC_0, fO_0, fU_0, fP_0, us_0, ps_0, en_0, ci_0⟩ := qa
    dsimp only [own_CW] at hq_7
    obtain ⟨Es_7, Ff_7, Ft_7, AF_7, AT_7, Ec_7, Fs_7, FA_7, FB_7, FC_7, FD_7, FE_7, FF_7, FG_7, Gu_7, Gp_7, Ge_7, Gc_7, BA_7, BB_7, BC_7, BD_7, BE_7, BF_7, BG_7⟩ := hq_7
    refine own_st (T' := T7) (g' := (mkF m 32 #[.val (.ref cw), .val (.int (1 : Int32))] [])) (fun _ k => XS.iinc X7.here hx rfl (hb hby drn_29) rfl (l' := #[.val (.ref cw), .val (.int (1 : Int32))]) rfl k) ?_
    refine own_st (T' := T7) (g' := (mkF m 2 #[.val (.ref cw), .val (.int (1 : Int32))] [])) (fun _ k => XS.goto X7.here hx rfl (pc0 := 32) (pc' := 2) rfl (hb hby drn_32) (by decide) (by decide) k) ?_
    unfold own_s1 at hm1
    dsimp only at hm1
    refine own_st (T' := T7) (g' := (mkF m 3 #[.val (.ref cw), .val (.int (1 : Int32))] [(.int (1 : Int32))])) (fun _ k => XS.iloadN X7.here hx rfl (hb hby drn_2) rfl k) ?_
    refine own_st (T' := T7) (g' := (mkF m 4 #[.val (.ref cw), .val (.int (1 : Int32))] [(.ref cw), (.int (1 : Int32))])) (fun _ k => XS.aloadN X7.here hx rfl (hb hby drn_3) rfl rfl k) ?_
    obtain ⟨T8, X8, e8, st8⟩ := getF X7 hx hZ hown (host := "") (Or.inl (own_w hw 49 rfl)) Via.refl rfl FA_7 (g := (mkF m 4 #[.val (.ref cw), .val (.int (1 : Int32))] [(.ref cw), (.int (1 : Int32))])) rfl rfl (hb hby drn_4)
    refine own_st (g' := (mkF m 7 #[.val (.ref cw), .val (.int (1 : Int32))] [(.ref a1), (.int (1 : Int32))])) st8 ?_
    obtain ⟨cl9, Ar9, S9, M9, H9⟩ := id BA_7
    refine own_st (T' := T8) (g' := (mkF m 8 #[.val (.ref cw), .val (.int (1 : Int32))] [(.int (3 : Int32)), (.int (1 : Int32))])) (fun _ k => X8.arraylength hx (by rw [e8]; exact Ar9.1) (State.isArrayOf_alike hZ.alike Ar9.2.1) (g := (mkF m 7 #[.val (.ref cw), .val (.int (1 : Int32))] [(.ref a1), (.int (1 : Int32))])) rfl rfl (hb hby drn_7) _ (by rw [len_of S9 M9]; exact k)) ?_
    refine own_st (T' := T8) (g' := (mkF m 11 #[.val (.ref cw), .val (.int (1 : Int32))] [])) (fun _ k => XS.icmpNo X8.here hx rfl (hb hby drn_8) rfl (tlt (by decide : ((1 : Int32) < (3 : Int32)))).2.1 k) ?_
    refine own_st (T' := T8) (g' := (mkF m 12 #[.val (.ref cw), .val (.int (1 : Int32))] [(.ref cw)])) (fun _ k => XS.aloadN X8.here hx rfl (hb hby drn_11) rfl rfl k) ?_
    obtain ⟨T10, X10, e10, st10⟩ := getF X8 hx hZ hown (host := "") (Or.inl (own_w hw 49 rfl)) Via.refl e8 FA_7 (g := (mkF m 12 #[.val (.ref cw), .val (.int (1 : Int32))] [(.ref cw)])) rfl rfl (hb hby drn_12)
    refine own_st (g' := (mkF m 15 #[.val (.ref cw), .val (.int (1 : Int32))] [(.ref a1)])) st10 ?_
    refine own_st (T' := T10) (g' := (mkF m 16 #[.val (.ref cw), .val (.int (1 : Int32))] [(.int (1 : Int32)), (.ref a1)])) (fun _ k => XS.iloadN X10.here hx rfl (hb hby drn_15) rfl k) ?_
    obtain ⟨cl11, Ar11, S11, M11, H11⟩ := id BA_7
    refine own_st (T' := T10) (g' := (mkF m 17 #[.val (.ref cw), .val (.int (1 : Int32))] [(.int (fE_0 (1 : Int32)))])) (fun _ k => X10.iaload hx (j := (1 : Int32)) (v := (.int (fE_0 (1 : Int32)))) (by rw [e10]; exact Ar11.1) (State.isArrayOf_alike hZ.alike Ar11.2.1) Ar11.2.2 (inb_of S11 ⟨(by decide), (by decide)⟩) (H11 _ (by decide) (by decide)) (g := (mkF m 16 #[.val (.ref cw), .val (.int (1 : Int32))] [(.int (1 : Int32)), (.ref a1)])) rfl rfl (hb hby drn_16) _ k) ?_
    by_cases hc17_12 : (fE_0 (1 : Int32)) = (0 : Int32)
    · refine own_st (T' := T10) (g' := (mkF m 20 #[.val (.ref cw), .val (.int (1 : Int32))] [])) (fun _ k => XS.ifNo X10.here hx rfl (hb hby drn_17) rfl ((if0 _ _).trans (teq hc17_12).2) k) ?_
      rw [if_pos hc17_12] at hm1
      obtain ⟨hc1, hm1⟩ := own_ifs hm1
      refine own_st (T' := T10) (g' := (mkF m 21 #[.val (.ref cw), .val (.int (1 : Int32))] [(.ref cw)])) (fun _ k => XS.aloadN X10.here hx rfl (hb hby drn_20) rfl rfl k) ?_
      refine own_st (T' := T10) (g' := (mkF m 22 #[.val (.ref cw), .val (.int (1 : Int32))] [(.int (1 : Int32)), (.ref cw)])) (fun _ k => XS.iloadN X10.here hx rfl (hb hby drn_21) rfl k) ?_
      refine own_callP X10 hx hZ (y := (⟨"com/example/procurator/procurator/model/RelationGraph$CircleWalk", "enter", "(I)V"⟩ : MethodName)) hown (own_w hw 68 rfl) (own_w hw 69 rfl) (own_w hw 37 rfl) (own_w hw 70 rfl) (own_w hw 71 rfl) (own_w hw 38 rfl) (by decide) (W := 0) e10 (b := cw) Ec_7 (argsL := [(.int (1 : Int32))]) (rest := []) (rmen l Z a0 hw [] so oF oT cw a1 a2 a3 a4 a5 a6 a7 fF fT (fE_0, fL_0, fN_0, fC_0, fO_0, fU_0, fP_0, us_0, ps_0, en_0, ci_0) (1 : Int32) T7.heap n0 (Nat.le_trans (Nat.le_trans Z0 K6.1) K7.1) hd hG (show own_CW Z T7.heap so oF oT cw a1 a2 a3 a4 a5 a6 a7 fF fT (fE_0, fL_0, fN_0, fC_0, fO_0, fU_0, fP_0, us_0, ps_0, en_0, ci_0) from ⟨Es_7, Ff_7, Ft_7, AF_7, AT_7, Ec_7, Fs_7, FA_7, FB_7, FC_7, FD_7, FE_7, FF_7, FG_7, Gu_7, Gp_7, Ge_7, Gc_7, BA_7, BB_7, BC_7, BD_7, BE_7, BF_7, BG_7⟩) (by decide) hc1.1 hc1.2) (by decide) (by decide) (by decide) (by decide) (g := (mkF m 22 #[.val (.ref cw), .val (.int (1 : Int32))] [(.int (1 : Int32)), (.ref cw)])) rfl (by rw [hml]; rfl) (lenOf own_pd1 rfl) rfl (by show 2 * 0 + _ ≤ _; exact Nat.le_of_eq rfl) (hb hby drn_22) ?_
      rintro _ T13 L13 X13 ⟨rfl, N13q, K13, hq_13⟩
      show own_Go _ _ _ _ _ _ _ T13 (mkF m 25 #[.val (.ref cw), .val (.int (1 : Int32))] [])
      have N13 := Fr.app N7 N13q
      refine own_st (T' := T13) (g' := (mkF m 26 #[.val (.ref cw), .val (.int (1 : Int32))] [(.ref cw)])) (fun _ k => XS.aloadN X13.here hx rfl (hb hby drn_25) rfl rfl k) ?_
      refine own_callP X13 hx hZ (y := (⟨"com/example/procurator/procurator/model/RelationGraph$CircleWalk", "follow", "()V"⟩ : MethodName)) hown (own_w hw 79 rfl) (own_w hw 80 rfl) (own_w hw 37 rfl) (own_w hw 81 rfl) (own_w hw 82 rfl) (own_w hw 38 rfl) (by decide) (W := 0) rfl (b := cw) hq_13.2.2.2.2.2.1 (argsL := []) (rest := []) (rmfo l Z a0 hw [] so oF oT cw a1 a2 a3 a4 a5 a6 a7 fF fT (own_ent fF (fE_0, fL_0, fN_0, fC_0, fO_0, fU_0, fP_0, us_0, ps_0, en_0, ci_0) (1 : Int32)) qb T13.heap n0 (Nat.le_trans (Nat.le_trans (Nat.le_trans Z0 K6.1) K7.1) K13.1) hd hG hq_13 hm1) (by decide) (by decide) (by decide) (by decide) (g := (mkF m 26 #[.val (.ref cw), .val (.int (1 : Int32))] [(.ref cw)])) rfl (by rw [hml]; rfl) (lenOf own_pd2 rfl) rfl (by show 2 * 0 + _ ≤ _; exact Nat.le_of_eq rfl) (hb hby drn_26) ?_
      rintro _ T14 L14 X14 ⟨rfl, N14q, K14, hq_14⟩
      show own_Go _ _ _ _ _ _ _ T14 (mkF m 29 #[.val (.ref cw), .val (.int (1 : Int32))] [])
      have N14 := Fr.app N13 N14q
      obtain ⟨fE_1, fL_1, fN_1, fC_1, fO_1, fU_1, fP_1, us_1, ps_1, en_1, ci_1⟩ := qb
      dsimp only [own_CW] at hq_14
      obtain ⟨Es_14, Ff_14, Ft_14, AF_14, AT_14, Ec_14, Fs_14, FA_14, FB_14, FC_14, FD_14, FE_14, FF_14, FG_14, Gu_14, Gp_14, Ge_14, Gc_14, BA_14, BB_14, BC_14, BD_14, BE_14, BF_14, BG_14⟩ := hq_14
      refine own_st (T' := T14) (g' := (mkF m 32 #[.val (.ref cw), .val (.int (2 : Int32))] [])) (fun _ k => XS.iinc X14.here hx rfl (hb hby drn_29) rfl (l' := #[.val (.ref cw), .val (.int (2 : Int32))]) rfl k) ?_
      refine own_st (T' := T14) (g' := (mkF m 2 #[.val (.ref cw), .val (.int (2 : Int32))] [])) (fun _ k => XS.goto X14.here hx rfl (pc0 := 32) (pc' := 2) rfl (hb hby drn_32) (by decide) (by decide) k) ?_
      unfold own_s1 at hm2
      dsimp only at hm2
      refine own_st (T' := T14) (g' := (mkF m 3 #[.val (.ref cw), .val (.int (2 : Int32))] [(.int (2 : Int32))])) (fun _ k => XS.iloadN X14.here hx rfl (hb hby drn_2) rfl k) ?_
      refine own_st (T' := T14) (g' := (mkF m 4 #[.val (.ref cw), .val (.int (2 : Int32))] [(.ref cw), (.int (2 : Int32))])) (fun _ k => XS.aloadN X14.here hx rfl (hb hby drn_3) rfl rfl k) ?_
      obtain ⟨T15, X15, e15, st15⟩ := getF X14 hx hZ hown (host := "") (Or.inl (own_w hw 49 rfl)) Via.refl rfl FA_14 (g := (mkF m 4 #[.val (.ref cw), .val (.int (2 : Int32))] [(.ref cw), (.int (2 : Int32))])) rfl rfl (hb hby drn_4)
      refine own_st (g' := (mkF m 7 #[.val (.ref cw), .val (.int (2 : Int32))] [(.ref a1), (.int (2 : Int32))])) st15 ?_
      obtain ⟨cl16, Ar16, S16, M16, H16⟩ := id BA_14
      refine own_st (T' := T15) (g' := (mkF m 8 #[.val (.ref cw), .val (.int (2 : Int32))] [(.int (3 : Int32)), (.int (2 : Int32))])) (fun _ k => X15.arraylength hx (by rw [e15]; exact Ar16.1) (State.isArrayOf_alike hZ.alike Ar16.2.1) (g := (mkF m 7 #[.val (.ref cw), .val (.int (2 : Int32))] [(.ref a1), (.int (2 : Int32))])) rfl rfl (hb hby drn_7) _ (by rw [len_of S16 M16]; exact k)) ?_
      refine own_st (T' := T15) (g' := (mkF m 11 #[.val (.ref cw), .val (.int (2 : Int32))] [])) (fun _ k => XS.icmpNo X15.here hx rfl (hb hby drn_8) rfl (tlt (by decide : ((2 : Int32) < (3 : Int32)))).2.1 k) ?_
      refine own_st (T' := T15) (g' := (mkF m 12 #[.val (.ref cw), .val (.int (2 : Int32))] [(.ref cw)])) (fun _ k => XS.aloadN X15.here hx rfl (hb hby drn_11) rfl rfl k) ?_
      obtain ⟨T17, X17, e17, st17⟩ := getF X15 hx hZ hown (host := "") (Or.inl (own_w hw 49 rfl)) Via.refl e15 FA_14 (g := (mkF m 12 #[.val (.ref cw), .val (.int (2 : Int32))] [(.ref cw)])) rfl rfl (hb hby drn_12)
      refine own_st (g' := (mkF m 15 #[.val (.ref cw), .val (.int (2 : Int32))] [(.ref a1)])) st17 ?_
      refine own_st (T' := T17) (g' := (mkF m 16 #[.val (.ref cw), .val (.int (2 : Int32))] [(.int (2 : Int32)), (.ref a1)])) (fun _ k => XS.iloadN X17.here hx rfl (hb hby drn_15) rfl k) ?_
      obtain ⟨cl18, Ar18, S18, M18, H18⟩ := id BA_14
      refine own_st (T' := T17) (g' := (mkF m 17 #[.val (.ref cw), .val (.int (2 : Int32))] [(.int (fE_1 (2 : Int32)))])) (fun _ k => X17.iaload hx (j := (2 : Int32)) (v := (.int (fE_1 (2 : Int32)))) (by rw [e17]; exact Ar18.1) (State.isArrayOf_alike hZ.alike Ar18.2.1) Ar18.2.2 (inb_of S18 ⟨(by decide), (by decide)⟩) (H18 _ (by decide) (by decide)) (g := (mkF m 16 #[.val (.ref cw), .val (.int (2 : Int32))] [(.int (2 : Int32)), (.ref a1)])) rfl rfl (hb hby drn_16) _ k) ?_
      by_cases hc17_19 : (fE_1 (2 : Int32)) = (0 : Int32)
      · refine own_st (T' := T17) (g' := (mkF m 20 #[.val (.ref cw), .val (.int (2 : Int32))] [])) (fun _ k => XS.ifNo X17.here hx rfl (hb hby drn_17) rfl ((if0 _ _).trans (teq hc17_19).2) k) ?_
        rw [if_pos hc17_19] at hm2
        obtain ⟨hc2, hm2⟩ := own_ifs hm2
        refine own_st (T' := T17) (g' := (mkF m 21 #[.val (.ref cw), .val (.int (2 : Int32))] [(.ref cw)])) (fun _ k => XS.aloadN X17.here hx rfl (hb hby drn_20) rfl rfl k) ?_
        refine own_st (T' := T17) (g' := (mkF m 22 #[.val (.ref cw), .val (.int (2 : Int32))] [(.int (2 : Int32)), (.ref cw)])) (fun _ k => XS.iloadN X17.here hx rfl (hb hby drn_21) rfl k) ?_
        refine own_callP X17 hx hZ (y := (⟨"com/example/procurator/procurator/model/RelationGraph$CircleWalk", "enter", "(I)V"⟩ : MethodName)) hown (own_w hw 68 rfl) (own_w hw 69 rfl) (own_w hw 37 rfl) (own_w hw 70 rfl) (own_w hw 71 rfl) (own_w hw 38 rfl) (by decide) (W := 0) e17 (b := cw) Ec_14 (argsL := [(.int (2 : Int32))]) (rest := []) (rmen l Z a0 hw [] so oF oT cw a1 a2 a3 a4 a5 a6 a7 fF fT (fE_1, fL_1, fN_1, fC_1, fO_1, fU_1, fP_1, us_1, ps_1, en_1, ci_1) (2 : Int32) T14.heap n0 (Nat.le_trans (Nat.le_trans (Nat.le_trans (Nat.le_trans Z0 K6.1) K7.1) K13.1) K14.1) hd hG (show own_CW Z T14.heap so oF oT cw a1 a2 a3 a4 a5 a6 a7 fF fT (fE_1, fL_1, fN_1, fC_1, fO_1, fU_1, fP_1, us_1, ps_1, en_1, ci_1) from ⟨Es_14, Ff_14, Ft_14, AF_14, AT_14, Ec_14, Fs_14, FA_14, FB_14, FC_14, FD_14, FE_14, FF_14, FG_14, Gu_14, Gp_14, Ge_14, Gc_14, BA_14, BB_14, BC_14, BD_14, BE_14, BF_14, BG_14⟩) (by decide) hc2.1 hc2.2) (by decide) (by decide) (by decide) (by decide) (g := (mkF m 22 #[.val (.ref cw), .val (.int (2 : Int32))] [(.int (2 : Int32)), (.ref cw)])) rfl (by rw [hml]; rfl) (lenOf own_pd1 rfl) rfl (by show 2 * 0 + _ ≤ _; exact Nat.le_of_eq rfl) (hb hby drn_22) ?_
        rintro _ T20 L20 X20 ⟨rfl, N20q, K20, hq_20⟩
        show own_Go _ _ _ _ _ _ _ T20 (mkF m 25 #[.val (.ref cw), .val (.int (2 : Int32))] [])
        have N20 := Fr.app N14 N20q
        refine own_st (T' := T20) (g' := (mkF m 26 #[.val (.ref cw), .val (.int (2 : Int32))] [(.ref cw)])) (fun _ k => XS.aloadN X20.here hx rfl (hb hby drn_25) rfl rfl k) ?_
        refine own_callP X20 hx hZ (y := (⟨"com/example/procurator/procurator/model/RelationGraph$CircleWalk", "follow", "()V"⟩ : MethodName)) hown (own_w hw 79 rfl) (own_w hw 80 rfl) (own_w hw 37 rfl) (own_w hw 81 rfl) (own_w hw 82 rfl) (own_w hw 38 rfl) (by decide) (W := 0) rfl (b := cw) hq_20.2.2.2.2.2.1 (argsL := []) (rest := []) (rmfo l Z a0 hw [] so oF oT cw a1 a2 a3 a4 a5 a6 a7 fF fT (own_ent fF (fE_1, fL_1, fN_1, fC_1, fO_1, fU_1, fP_1, us_1, ps_1, en_1, ci_1) (2 : Int32)) q' T20.heap n0 (Nat.le_trans (Nat.le_trans (Nat.le_trans (Nat.le_trans (Nat.le_trans Z0 K6.1) K7.1) K13.1) K14.1) K20.1) hd hG hq_20 hm2) (by decide) (by decide) (by decide) (by decide) (g := (mkF m 26 #[.val (.ref cw), .val (.int (2 : Int32))] [(.ref cw)])) rfl (by rw [hml]; rfl) (lenOf own_pd2 rfl) rfl (by show 2 * 0 + _ ≤ _; exact Nat.le_of_eq rfl) (hb hby drn_26) ?_
        rintro _ T21 L21 X21 ⟨rfl, N21q, K21, hq_21⟩
        show own_Go _ _ _ _ _ _ _ T21 (mkF m 29 #[.val (.ref cw), .val (.int (2 : Int32))] [])
        have N21 := Fr.app N20 N21q
        obtain ⟨fE_2, fL_2, fN_2, fC_2, fO_2, fU_2, fP_2, us_2, ps_2, en_2, ci_2⟩ := q'
        dsimp only [own_CW] at hq_21
        obtain ⟨Es_21, Ff_21, Ft_21, AF_21, AT_21, Ec_21, Fs_21, FA_21, FB_21, FC_21, FD_21, FE_21, FF_21, FG_21, Gu_21, Gp_21, Ge_21, Gc_21, BA_21, BB_21, BC_21, BD_21, BE_21, BF_21, BG_21⟩ := hq_21
        refine own_st (T' := T21) (g' := (mkF m 32 #[.val (.ref cw), .val (.int (3 : Int32))] [])) (fun _ k => XS.iinc X21.here hx rfl (hb hby drn_29) rfl (l' := #[.val (.ref cw), .val (.int (3 : Int32))]) rfl k) ?_
        refine own_st (T' := T21) (g' := (mkF m 2 #[.val (.ref cw), .val (.int (3 : Int32))] [])) (fun _ k => XS.goto X21.here hx rfl (pc0 := 32) (pc' := 2) rfl (hb hby drn_32) (by decide) (by decide) k) ?_
        refine own_st (T' := T21) (g' := (mkF m 3 #[.val (.ref cw), .val (.int (3 : Int32))] [(.int (3 : Int32))])) (fun _ k => XS.iloadN X21.here hx rfl (hb hby drn_2) rfl k) ?_
        refine own_st (T' := T21) (g' := (mkF m 4 #[.val (.ref cw), .val (.int (3 : Int32))] [(.ref cw), (.int (3 : Int32))])) (fun _ k => XS.aloadN X21.here hx rfl (hb hby drn_3) rfl rfl k) ?_
        obtain ⟨T22, X22, e22, st22⟩ := getF X21 hx hZ hown (host := "") (Or.inl (own_w hw 49 rfl)) Via.refl rfl FA_21 (g := (mkF m 4 #[.val (.ref cw), .val (.int (3 : Int32))] [(.ref cw), (.int (3 : Int32))])) rfl rfl (hb hby drn_4)
        refine own_st (g' := (mkF m 7 #[.val (.ref cw), .val (.int (3 : Int32))] [(.ref a1), (.int (3 : Int32))])) st22 ?_
        obtain ⟨cl23, Ar23, S23, M23, H23⟩ := id BA_21
        refine own_st (T' := T22) (g' := (mkF m 8 #[.val (.ref cw), .val (.int (3 : Int32))] [(.int (3 : Int32)), (.int (3 : Int32))])) (fun _ k => X22.arraylength hx (by rw [e22]; exact Ar23.1) (State.isArrayOf_alike hZ.alike Ar23.2.1) (g := (mkF m 7 #[.val (.ref cw), .val (.int (3 : Int32))] [(.ref a1), (.int (3 : Int32))])) rfl rfl (hb hby drn_7) _ (by rw [len_of S23 M23]; exact k)) ?_
        refine own_st (T' := T22) (g' := (mkF m 35 #[.val (.ref cw), .val (.int (3 : Int32))] [])) (fun _ k => XS.icmpYes X22.here hx rfl (pc0 := 8) (pc' := 35) rfl (hb hby drn_8) rfl (flt (by decide : ¬ ((3 : Int32) < (3 : Int32)))).2.1 (by decide) (by decide) k) ?_
        refine own_st (T' := T22) (g' := (mkF m 36 #[.val (.ref cw), .val (.int (3 : Int32))] [(.ref cw)])) (fun _ k => XS.aloadN X22.here hx rfl (hb hby drn_35) rfl rfl k) ?_
        obtain ⟨T24, X24, e24, st24⟩ := getF X22 hx hZ hown (host := "") (Or.inl (own_w hw 55 rfl)) Via.refl e22 FD_21 (g := (mkF m 36 #[.val (.ref cw), .val (.int (3 : Int32))] [(.ref cw)])) rfl rfl (hb hby drn_36)
        refine own_st (g' := (mkF m 39 #[.val (.ref cw), .val (.int (3 : Int32))] [(.ref a4)])) st24 ?_
        exact own_retA X24 hx hlk hret rfl rfl (hb hby drn_39) (by rw [e24]; exact ⟨rfl, N21, (((((((Keep.refl h0 [cw, a1, a2, a3, a4, a5, a6, a7]).trans K6 (fun x hx => Or.inl hx)).trans K7 (fun x hx => Or.inl hx)).trans K13 (fun x hx => Or.inl hx)).trans K14 (fun x hx => Or.inl hx)).trans K20 (fun x hx => Or.inl hx)).trans K21 (fun x hx => Or.inl hx)), ⟨Es_21, Ff_21, Ft_21, AF_21, AT_21, Ec_21, Fs_21, FA_21, FB_21, FC_21, FD_21, FE_21, FF_21, FG_21, Gu_21, Gp_21, Ge_21, Gc_21, BA_21, BB_21, BC_21, BD_21, BE_21, BF_21, BG_21⟩⟩) (by decide) (by decide)
      · refine own_st (T' := T17) (g' := (mkF m 29 #[.val (.ref cw), .val (.int (2 : Int32))] [])) (fun _ k => XS.ifYes X17.here hx rfl (pc0 := 17) (pc' := 29) rfl (hb hby drn_17) rfl ((if0 _ _).trans (feq hc17_19).2) (by decide) (by decide) k) ?_
        rw [if_neg hc17_19] at hm2
        cases hm2
        refine own_st (T' := T17) (g' := (mkF m 32 #[.val (.ref cw), .val (.int (3 : Int32))] [])) (fun _ k => XS.iinc X17.here hx rfl (hb hby drn_29) rfl (l' := #[.val (.ref cw), .val (.int (3 : Int32))]) rfl k) ?_
        refine own_st (T' := T17) (g' := (mkF m 2 #[.val (.ref cw), .val (.int (3 : Int32))] [])) (fun _ k => XS.goto X17.here hx rfl (pc0 := 32) (pc' := 2) rfl (hb hby drn_32) (by decide) (by decide) k) ?_
        refine own_st (T' := T17) (g' := (mkF m 3 #[.val (.ref cw), .val (.int (3 : Int32))] [(.int (3 : Int32))])) (fun _ k => XS.iloadN X17.here hx rfl (hb hby drn_2) rfl k) ?_
        refine own_st (T' := T17) (g' := (mkF m 4 #[.val (.ref cw), .val (.int (3 : Int32))] [(.ref cw), (.int (3 : Int32))])) (fun _ k => XS.aloadN X17.here hx rfl (hb hby drn_3) rfl rfl k) ?_
        obtain ⟨T25, X25, e25, st25⟩ := getF X17 hx hZ hown (host := "") (Or.inl (own_w hw 49 rfl)) Via.refl e17 FA_14 (g := (mkF m 4 #[.val (.ref cw), .val (.int (3 : Int32))] [(.ref cw), (.int (3 : Int32))])) rfl rfl (hb hby drn_4)
        refine own_st (g' := (mkF m 7 #[.val (.ref cw), .val (.int (3 : Int32))] [(.ref a1), (.int (3 : Int32))])) st25 ?_
        obtain ⟨cl26, Ar26, S26, M26, H26⟩ := id BA_14
        refine own_st (T' := T25) (g' := (mkF m 8 #[.val (.ref cw), .val (.int (3 : Int32))] [(.int (3 : Int32)), (.int (3 : Int32))])) (fun _ k => X25.arraylength hx (by rw [e25]; exact Ar26.1) (State.isArrayOf_alike hZ.alike Ar26.2.1) (g := (mkF m 7 #[.val (.ref cw), .val (.int (3 : Int32))] [(.ref a1), (.int (3 : Int32))])) rfl rfl (hb hby drn_7) _ (by rw [len_of S26 M26]; exact k)) ?_
        refine own_st (T' := T25) (g' := (mkF m 35 #[.val (.ref cw), .val (.int (3 : Int32))] [])) (fun _ k => XS.icmpYes X25.here hx rfl (pc0 := 8) (pc' := 35) rfl (hb hby drn_8) rfl (flt (by decide : ¬ ((3 : Int32) < (3 : Int32)))).2.1 (by decide) (by decide) k) ?_
        refine own_st (T' := T25) (g' := (mkF m 36 #[.val (.ref cw), .val (.int (3 : Int32))] [(.ref cw)])) (fun _ k => XS.aloadN X25.here hx rfl (hb hby drn_35) rfl rfl k) ?_
        obtain ⟨T27, X27, e27, st27⟩ := getF X25 hx hZ hown (host := "") (Or.inl (own_w hw 55 rfl)) Via.refl e25 FD_14 (g := (mkF m 36 #[.val (.ref cw), .val (.int (3 : Int32))] [(.ref cw)])) rfl rfl (hb hby drn_36)
        refine own_st (g' := (mkF m 39 #[.val (.ref cw), .val (.int (3 : Int32))] [(.ref a4)])) st27 ?_
        exact own_retA X27 hx hlk hret rfl rfl (hb hby drn_39) (by rw [e27]; exact ⟨rfl, N14, (((((Keep.refl h0 [cw, a1, a2, a3, a4, a5, a6, a7]).trans K6 (fun x hx => Or.inl hx)).trans K7 (fun x hx => Or.inl hx)).trans K13 (fun x hx => Or.inl hx)).trans K14 (fun x hx => Or.inl hx)), ⟨Es_14, Ff_14, Ft_14, AF_14, AT_14, Ec_14, Fs_14, FA_14, FB_14, FC_14, FD_14, FE_14, FF_14, FG_14, Gu_14, Gp_14, Ge_14, Gc_14, BA_14, BB_14, BC_14, BD_14, BE_14, BF_14, BG_14⟩⟩) (by decide) (by decide)
    · refine own_st (T' := T10) (g' := (mkF m 29 #[.val (.ref cw), .val (.int (1 : Int32))] [])) (fun _ k => XS.ifYes X10.here hx rfl (pc0 := 17) (pc' := 29) rfl (hb hby drn_17) rfl ((if0 _ _).trans (feq hc17_12).2) (by decide) (by decide) k) ?_
      rw [if_neg hc17_12] at hm1
      cases hm1
      refine own_st (T' := T10) (g' := (mkF m 32 #[.val (.ref cw), .val (.int (2 : Int32))] [])) (fun _ k => XS.iinc X10.here hx rfl (hb hby drn_29) rfl (l' := #[.val (.ref cw), .val (.int (2 : Int32))]) rfl k) ?_
      refine own_st (T' := T10) (g' := (mkF m 2 #[.val (.ref cw), .val (.int (2 : Int32))] [])) (fun _ k => XS.goto X10.here hx rfl (pc0 := 32) (pc' := 2) rfl (hb hby drn_32) (by decide) (by decide) k) ?_
      unfold own_s1 at hm2
      dsimp only at hm2
      refine own_st (T' := T10) (g' := (mkF m 3 #[.val (.ref cw), .val (.int (2 : Int32))] [(.int (2 : Int32))])) (fun _ k => XS.iloadN X10.here hx rfl (hb hby drn_2) rfl k) ?_
      refine own_st (T' := T10) (g' := (mkF m 4 #[.val (.ref cw), .val (.int (2 : Int32))] [(.ref cw), (.int (2 : Int32))])) (fun _ k => XS.aloadN X10.here hx rfl (hb hby drn_3) rfl rfl k) ?_
      obtain ⟨T28, X28, e28, st28⟩ := getF X10 hx hZ hown (host := "") (Or.inl (own_w hw 49 rfl)) Via.refl e10 FA_7 (g := (mkF m 4 #[.val (.ref cw), .val (.int (2 : Int32))] [(.ref cw), (.int (2 : Int32))])) rfl rfl (hb hby drn_4)
      refine own_st (g' := (mkF m 7 #[.val (.ref cw), .val (.int (2 : Int32))] [(.ref a1), (.int (2 : Int32))])) st28 ?_
      obtain ⟨cl29, Ar29, S29, M29, H29⟩ := id BA_7
      refine own_st (T' := T28) (g' := (mkF m 8 #[.val (.ref cw), .val (.int (2 : Int32))] [(.int (3 : Int32)), (.int (2 : Int32))])) (fun _ k => X28.arraylength hx (by rw [e28]; exact Ar29.1) (State.isArrayOf_alike hZ.alike Ar29.2.1) (g := (mkF m 7 #[.val (.ref cw), .val (.int (2 : Int32))] [(.ref a1), (.int (2 : Int32))])) rfl rfl (hb hby drn_7) _ (by rw [len_of S29 M29]; exact k)) ?_
      refine own_st (T' := T28) (g' := (mkF m 11 #[.val (.ref cw), .val (.int (2 : Int32))] [])) (fun _ k => XS.icmpNo X28.here hx rfl (hb hby drn_8) rfl (tlt (by decide : ((2 : Int32) < (3 : Int32)))).2.1 k) ?_
      refine own_st (T' := T28) (g' := (mkF m 12 #[.val (.ref cw), .val (.int (2 : Int32))] [(.ref cw)])) (fun _ k => XS.aloadN X28.here hx rfl (hb hby drn_11) rfl rfl k) ?_
      obtain ⟨T30, X30, e30, st30⟩ := getF X28 hx hZ hown (host := "") (Or.inl (own_w hw 49 rfl)) Via.refl e28 FA_7 (g := (mkF m 12 #[.val (.ref cw), .val (.int (2 : Int32))] [(.ref cw)])) rfl rfl (hb hby drn_12)
      refine own_st (g' := (mkF m 15 #[.val (.ref cw), .val (.int (2 : Int32))] [(.ref a1)])) st30 ?_
      refine own_st (T' := T30) (g' := (mkF m 16 #[.val (.ref cw), .val (.int (2 : Int32))] [(.int (2 : Int32)), (.ref a1)])) (fun _ k => XS.iloadN X30.here hx rfl (hb hby drn_15) rfl k) ?_
      obtain ⟨cl31, Ar31, S31, M31, H31⟩ := id BA_7
      refine own_st (T' := T30) (g' := (mkF m 17 #[.val (.ref cw), .val (.int (2 : Int32))] [(.int (fE_0 (2 : Int32)))])) (fun _ k => X30.iaload hx (j := (2 : Int32)) (v := (.int (fE_0 (2 : Int32)))) (by rw [e30]; exact Ar31.1) (State.isArrayOf_alike hZ.alike Ar31.2.1) Ar31.2.2 (inb_of S31 ⟨(by decide), (by decide)⟩) (H31 _ (by decide) (by decide)) (g := (mkF m 16 #[.val (.ref cw), .val (.int (2 : Int32))] [(.int (2 : Int32)), (.ref a1)])) rfl rfl (hb hby drn_16) _ k) ?_
      by_cases hc17_32 : (fE_0 (2 : Int32)) = (0 : Int32)
      · refine own_st (T' := T30) (g' := (mkF m 20 #[.val (.ref cw), .val (.int (2 : Int32))] [])) (fun _ k => XS.ifNo X30.here hx rfl (hb hby drn_17) rfl ((if0 _ _).trans (teq hc17_32).2) k) ?_
        rw [if_pos hc17_32] at hm2
        obtain ⟨hc2, hm2⟩ := own_ifs hm2
        refine own_st (T' := T30) (g' := (mkF m 21 #[.val (.ref cw), .val (.int (2 : Int32))] [(.ref cw)])) (fun _ k => XS.aloadN X30.here hx rfl (hb hby drn_20) rfl rfl k) ?_
        refine own_st (T' := T30) (g' := (mkF m 22 #[.val (.ref cw), .val (.int (2 : Int32))] [(.int (2 : Int32)), (.ref cw)])) (fun _ k => XS.iloadN X30.here hx rfl (hb hby drn_21) rfl k) ?_
        refine own_callP X30 hx hZ (y := (⟨"com/example/procurator/procurator/model/RelationGraph$CircleWalk", "enter", "(I)V"⟩ : MethodName)) hown (own_w hw 68 rfl) (own_w hw 69 rfl) (own_w hw 37 rfl) (own_w hw 70 rfl) (own_w hw 71 rfl) (own_w hw 38 rfl) (by decide) (W := 0) e30 (b := cw) Ec_7 (argsL := [(.int (2 : Int32))]) (rest := []) (rmen l Z a0 hw [] so oF oT cw a1 a2 a3 a4 a5 a6 a7 fF fT (fE_0, fL_0, fN_0, fC_0, fO_0, fU_0, fP_0, us_0, ps_0, en_0, ci_0) (2 : Int32) T7.heap n0 (Nat.le_trans (Nat.le_trans Z0 K6.1) K7.1) hd hG (show own_CW Z T7.heap so oF oT cw a1 a2 a3 a4 a5 a6 a7 fF fT (fE_0, fL_0, fN_0, fC_0, fO_0, fU_0, fP_0, us_0, ps_0, en_0, ci_0) from ⟨Es_7, Ff_7, Ft_7, AF_7, AT_7, Ec_7, Fs_7, FA_7, FB_7, FC_7, FD_7, FE_7, FF_7, FG_7, Gu_7, Gp_7, Ge_7, Gc_7, BA_7, BB_7, BC_7, BD_7, BE_7, BF_7, BG_7⟩) (by decide) hc2.1 hc2.2) (by decide) (by decide) (by decide) (by decide) (g := (mkF m 22 #[.val (.ref cw), .val (.int (2 : Int32))] [(.int (2 : Int32)), (.ref cw)])) rfl (by rw [hml]; rfl) (lenOf own_pd1 rfl) rfl (by show 2 * 0 + _ ≤ _; exact Nat.le_of_eq rfl) (hb hby drn_22) ?_
        rintro _ T33 L33 X33 ⟨rfl, N33q, K33, hq_33⟩
        show own_Go _ _ _ _ _ _ _ T33 (mkF m 25 #[.val (.ref cw), .val (.int (2 : Int32))] [])
        have N33 := Fr.app N7 N33q
        refine own_st (T' := T33) (g' := (mkF m 26 #[.val (.ref cw), .val (.int (2 : Int32))] [(.ref cw)])) (fun _ k => XS.aloadN X33.here hx rfl (hb hby drn_25) rfl rfl k) ?_
        refine own_callP X33 hx hZ (y := (⟨"com/example/procurator/procurator/model/RelationGraph$CircleWalk", "follow", "()V"⟩ : MethodName)) hown (own_w hw 79 rfl) (own_w hw 80 rfl) (own_w hw 37 rfl) (own_w hw 81 rfl) (own_w hw 82 rfl) (own_w hw 38 rfl) (by decide) (W := 0) rfl (b := cw) hq_33.2.2.2.2.2.1 (argsL := []) (rest := []) (rmfo l Z a0 hw [] so oF oT cw a1 a2 a3 a4 a5 a6 a7 fF fT (own_ent fF (fE_0, fL_0, fN_0, fC_0, fO_0, fU_0, fP_0, us_0, ps_0, en_0, ci_0) (2 : Int32)) q' T33.heap n0 (Nat.le_trans (Nat.le_trans (Nat.le_trans Z0 K6.1) K7.1) K33.1) hd hG hq_33 hm2) (by decide) (by decide) (by decide) (by decide) (g := (mkF m 26 #[.val (.ref cw), .val (.int (2 : Int32))] [(.ref cw)])) rfl (by rw [hml]; rfl) (lenOf own_pd2 rfl) rfl (by show 2 * 0 + _ ≤ _; exact Nat.le_of_eq rfl) (hb hby drn_26) ?_
        rintro _ T34 L34 X34 ⟨rfl, N34q, K34, hq_34⟩
        show own_Go _ _ _ _ _ _ _ T34 (mkF m 29 #[.val (.ref cw), .val (.int (2 : Int32))] [])
        have N34 := Fr.app N33 N34q
        obtain ⟨fE_2, fL_2, fN_2, fC_2, fO_2, fU_2, fP_2, us_2, ps_2, en_2, ci_2⟩ := q'
        dsimp only [own_CW] at hq_34
        obtain ⟨Es_34, Ff_34, Ft_34, AF_34, AT_34, Ec_34, Fs_34, FA_34, FB_34, FC_34, FD_34, FE_34, FF_34, FG_34, Gu_34, Gp_34, Ge_34, Gc_34, BA_34, BB_34, BC_34, BD_34, BE_34, BF_34, BG_34⟩ := hq_34
        refine own_st (T' := T34) (g' := (mkF m 32 #[.val (.ref cw), .val (.int (3 : Int32))] [])) (fun _ k => XS.iinc X34.here hx rfl (hb hby drn_29) rfl (l' := #[.val (.ref cw), .val (.int (3 : Int32))]) rfl k) ?_
        refine own_st (T' := T34) (g' := (mkF m 2 #[.val (.ref cw), .val (.int (3 : Int32))] [])) (fun _ k => XS.goto X34.here hx rfl (pc0 := 32) (pc' := 2) rfl (hb hby drn_32) (by decide) (by decide) k) ?_
        refine own_st (T' := T34) (g' := (mkF m 3 #[.val (.ref cw), .val (.int (3 : Int32))] [(.int (3 : Int32))])) (fun _ k => XS.iloadN X34.here hx rfl (hb hby drn_2) rfl k) ?_
        refine own_st (T' := T34) (g' := (mkF m 4 #[.val (.ref cw), .val (.int (3 : Int32))] [(.ref cw), (.int (3 : Int32))])) (fun _ k => XS.aloadN X34.here hx rfl (hb hby drn_3) rfl rfl k) ?_
        obtain ⟨T35, X35, e35, st35⟩ := getF X34 hx hZ hown (host := "") (Or.inl (own_w hw 49 rfl)) Via.refl rfl FA_34 (g := (mkF m 4 #[.val (.ref cw), .val (.int (3 : Int32))] [(.ref cw), (.int (3 : Int32))])) rfl rfl (hb hby drn_4)
        refine own_st (g' := (mkF m 7 #[.val (.ref cw), .val (.int (3 : Int32))] [(.ref a1), (.int (3 : Int32))])) st35 ?_
        obtain ⟨cl36, Ar36, S36, M36, H36⟩ := id BA_34
        refine own_st (T' := T35) (g' := (mkF m 8 #[.val (.ref cw), .val (.int (3 : Int32))] [(.int (3 : Int32)), (.int (3 : Int32))])) (fun _ k => X35.arraylength hx (by rw [e35]; exact Ar36.1) (State.isArrayOf_alike hZ.alike Ar36.2.1) (g := (mkF m 7 #[.val (.ref cw), .val (.int (3 : Int32))] [(.ref a1), (.int (3 : Int32))])) rfl rfl (hb hby drn_7) _ (by rw [len_of S36 M36]; exact k)) ?_
        refine own_st (T' := T35) (g' := (mkF m 35 #[.val (.ref cw), .val (.int (3 : Int32))] [])) (fun _ k => XS.icmpYes X35.here hx rfl (pc0 := 8) (pc' := 35) rfl (hb hby drn_8) rfl (flt (by decide : ¬ ((3 : Int32) < (3 : Int32)))).2.1 (by decide) (by decide) k) ?_
        refine own_st (T' := T35) (g' := (mkF m 36 #[.val (.ref cw), .val (.int (3 : Int32))] [(.ref cw)])) (fun _ k => XS.aloadN X35.here hx rfl (hb hby drn_35) rfl rfl k) ?_
        obtain ⟨T37, X37, e37, st37⟩ := getF X35 hx hZ hown (host := "") (Or.inl (own_w hw 55 rfl)) Via.refl e35 FD_34 (g := (mkF m 36 #[.val (.ref cw), .val (.int (3 : Int32))] [(.ref cw)])) rfl rfl (hb hby drn_36)
        refine own_st (g' := (mkF m 39 #[.val (.ref cw), .val (.int (3 : Int32))] [(.ref a4)])) st37 ?_
        exact own_retA X37 hx hlk hret rfl rfl (hb hby drn_39) (by rw [e37]; exact ⟨rfl, N34, (((((Keep.refl h0 [cw, a1, a2, a3, a4, a5, a6, a7]).trans K6 (fun x hx => Or.inl hx)).trans K7 (fun x hx => Or.inl hx)).trans K33 (fun x hx => Or.inl hx)).trans K34 (fun x hx => Or.inl hx)), ⟨Es_34, Ff_34, Ft_34, AF_34, AT_34, Ec_34, Fs_34, FA_34, FB_34, FC_34, FD_34, FE_34, FF_34, FG_34, Gu_34, Gp_34, Ge_34, Gc_34, BA_34, BB_34, BC_34, BD_34, BE_34, BF_34, BG_34⟩⟩) (by decide) (by decide)
      · refine own_st (T' := T30) (g' := (mkF m 29 #[.val (.ref cw), .val (.int (2 : Int32))] [])) (fun _ k => XS.ifYes X30.here hx rfl (pc0 := 17) (pc' := 29) rfl (hb hby drn_17) rfl ((if0 _ _).trans (feq hc17_32).2) (by decide) (by decide) k) ?_
        rw [if_neg hc17_32] at hm2
        cases hm2
        refine own_st (T' := T30) (g' := (mkF m 32 #[.val (.ref cw), .val (.int (3 : Int32))] [])) (fun _ k => XS.iinc X30.here hx rfl (hb hby drn_29) rfl (l' := #[.val (.ref cw), .val (.int (3 : Int32))]) rfl k) ?_
        refine own_st (T' := T30) (g' := (mkF m 2 #[.val (.ref cw), .val (.int (3 : Int32))] [])) (fun _ k => XS.goto X30.here hx rfl (pc0 := 32) (pc' := 2) rfl (hb hby drn_32) (by decide) (by decide) k) ?_
        refine own_st (T' := T30) (g' := (mkF m 3 #[.val (.ref cw), .val (.int (3 : Int32))] [(.int (3 : Int32))])) (fun _ k => XS.iloadN X30.here hx rfl (hb hby drn_2) rfl k) ?_
        refine own_st (T' := T30) (g' := (mkF m 4 #[.val (.ref cw), .val (.int (3 : Int32))] [(.ref cw), (.int (3 : Int32))])) (fun _ k => XS.aloadN X30.here hx rfl (hb hby drn_3) rfl rfl k) ?_
        obtain ⟨T38, X38, e38, st38⟩ := getF X30 hx hZ hown (host := "") (Or.inl (own_w hw 49 rfl)) Via.refl e30 FA_7 (g := (mkF m 4 #[.val (.ref cw), .val (.int (3 : Int32))] [(.ref cw), (.int (3 : Int32))])) rfl rfl (hb hby drn_4)
        refine own_st (g' := (mkF m 7 #[.val (.ref cw), .val (.int (3 : Int32))] [(.ref a1), (.int (3 : Int32))])) st38 ?_
        obtain ⟨cl39, Ar39, S39, M39, H39⟩ := id BA_7
        refine own_st (T' := T38) (g' := (mkF m 8 #[.val (.ref cw), .val (.int (3 : Int32))] [(.int (3 : Int32)), (.int (3 : Int32))])) (fun _ k => X38.arraylength hx (by rw [e38]; exact Ar39.1) (State.isArrayOf_alike hZ.alike Ar39.2.1) (g := (mkF m 7 #[.val (.ref cw), .val (.int (3 : Int32))] [(.ref a1), (.int (3 : Int32))])) rfl rfl (hb hby drn_7) _ (by rw [len_of S39 M39]; exact k)) ?_
        refine own_st (T' := T38) (g' := (mkF m 35 #[.val (.ref cw), .val (.int (3 : Int32))] [])) (fun _ k => XS.icmpYes X38.here hx rfl (pc0 := 8) (pc' := 35) rfl (hb hby drn_8) rfl (flt (by decide : ¬ ((3 : Int32) < (3 : Int32)))).2.1 (by decide) (by decide) k) ?_
        refine own_st (T' := T38) (g' := (mkF m 36 #[.val (.ref cw), .val (.int (3 : Int32))] [(.ref cw)])) (fun _ k => XS.aloadN X38.here hx rfl (hb hby drn_35) rfl rfl k) ?_
        obtain ⟨T40, X40, e40, st40⟩ := getF X38 hx hZ hown (host := "") (Or.inl (own_w hw 55 rfl)) Via.refl e38 FD_7 (g := (mkF m 36 #[.val (.ref cw), .val (.int (3 : Int32))] [(.ref cw)])) rfl rfl (hb hby drn_36)
        refine own_st (g' := (mkF m 39 #[.val (.ref cw), .val (.int (3 : Int32))] [(.ref a4)])) st40 ?_
        exact own_retA X40 hx hlk hret rfl rfl (hb hby drn_39) (by rw [e40]; exact ⟨rfl, N7, (((Keep.refl h0 [cw, a1, a2, a3, a4, a5, a6, a7]).trans K6 (fun x hx => Or.inl hx)).trans K7 (fun x hx => Or.inl hx)), ⟨Es_7, Ff_7, Ft_7, AF_7, AT_7, Ec_7, Fs_7, FA_7, FB_7, FC_7, FD_7, FE_7, FF_7, FG_7, Gu_7, Gp_7, Ge_7, Gc_7, BA_7, BB_7, BC_7, BD_7, BE_7, BF_7, BG_7⟩⟩) (by decide) (by decide)
  · refine own_st (T' := T3) (g' := (mkF m 29 #[.val (.ref cw), .val (.int (0 : Int32))] [])) (fun _ k => XS.ifYes X3.here hx rfl (pc0 := 17) (pc' := 29) rfl (hb hby drn_17) rfl ((if0 _ _).trans (feq hc17_5).2) (by decide) (by decide) k) ?_
    rw [if_neg hc17_5] at hm0
    cases hm0
    refine own_st (T' := T3) (g' := (mkF m 32 #[.val (.ref cw), .val (.int (1 : Int32))] [])) (fun _ k => XS.iinc X3.here hx rfl (hb hby drn_29) rfl (l' := #[.val (.ref cw), .val (.int (1 : Int32))]) rfl k) ?_
    refine own_st (T' := T3) (g' := (mkF m 2 #[.val (.ref cw), .val (.int (1 : Int32))] [])) (fun _ k => XS.goto X3.here hx rfl (pc0 := 32) (pc' := 2) rfl (hb hby drn_32) (by decide) (by decide) k) ?_
    unfold own_s1 at hm1
    dsimp only at hm1
    refine own_st (T' := T3) (g' := (mkF m 3 #[.val (.ref cw), .val (.int (1 : Int32))] [(.int (1 : Int32))])) (fun _ k => XS.iloadN X3.here hx rfl (hb hby drn_2) rfl k) ?_
    refine own_st (T' := T3) (g' := (mkF m 4 #[.val (.ref cw), .val (.int (1 : Int32))] [(.ref cw), (.int (1 : Int32))])) (fun _ k => XS.aloadN X3.here hx rfl (hb hby drn_3) rfl rfl k) ?_
    obtain ⟨T41, X41, e41, st41⟩ := getF X3 hx hZ hown (host := "") (Or.inl (own_w hw 49 rfl)) Via.refl e3 FA_0 (g := (mkF m 4 #[.val (.ref cw), .val (.int (1 : Int32))] [(.ref cw), (.int (1 : Int32))])) rfl rfl (hb hby drn_4)
    refine own_st (g' := (mkF m 7 #[.val (.ref cw), .val (.int (1 : Int32))] [(.ref a1), (.int (1 : Int32))])) st41 ?_
    obtain ⟨cl42, Ar42, S42, M42, H42⟩ := id BA_0
    refine own_st (T' := T41) (g' := (mkF m 8 #[.val (.ref cw), .val (.int (1 : Int32))] [(.int (3 : Int32)), (.int (1 : Int32))])) (fun _ k => X41.arraylength hx (by rw [e41]; exact Ar42.1) (State.isArrayOf_alike hZ.alike Ar42.2.1) (g := (mkF m 7 #[.val (.ref cw), .val (.int (1 : Int32))] [(.ref a1), (.int (1 : Int32))])) rfl rfl (hb hby drn_7) _ (by rw [len_of S42 M42]; exact k)) ?_
    refine own_st (T' := T41) (g' := (mkF m 11 #[.val (.ref cw), .val (.int (1 : Int32))] [])) (fun _ k => XS.icmpNo X41.here hx rfl (hb hby drn_8) rfl (tlt (by decide : ((1 : Int32) < (3 : Int32)))).2.1 k) ?_
    refine own_st (T' := T41) (g' := (mkF m 12 #[.val (.ref cw), .val (.int (1 : Int32))] [(.ref cw)])) (fun _ k => XS.aloadN X41.here hx rfl (hb hby drn_11) rfl rfl k) ?_
    obtain ⟨T43, X43, e43, st43⟩ := getF X41 hx hZ hown (host := "") (Or.inl (own_w hw 49 rfl)) Via.refl e41 FA_0 (g := (mkF m 12 #[.val (.ref cw), .val (.int (1 : Int32))] [(.ref cw)])) rfl rfl (hb hby drn_12)
    refine own_st (g' := (mkF m 15 #[.val (.ref cw), .val (.int (1 : Int32))] [(.ref a1)])) st43 ?_
    refine own_st (T' := T43) (g' := (mkF m 16 #[.val (.ref cw), .val (.int (1 : Int32))] [(.int (1 : Int32)), (.ref a1)])) (fun _ k => XS.iloadN X43.here hx rfl (hb hby drn_15) rfl k) ?_
    obtain ⟨cl44, Ar44, S44, M44, H44⟩ := id BA_0
    refine own_st (T' := T43) (g' := (mkF m 17 #[.val (.ref cw), .val (.int (1 : Int32))] [(.int (fE (1 : Int32)))])) (fun _ k => X43.iaload hx (j := (1 : Int32)) (v := (.int (fE (1 : Int32)))) (by rw [e43]; exact Ar44.1) (State.isArrayOf_alike hZ.alike Ar44.2.1) Ar44.2.2 (inb_of S44 ⟨(by decide), (by decide)⟩) (H44 _ (by decide) (by decide)) (g := (mkF m 16 #[.val (.ref cw), .val (.int (1 : Int32))] [(.int (1 : Int32)), (.ref a1)])) rfl rfl (hb hby drn_16) _ k) ?_
    by_cases hc17_45 : (fE (1 : Int32)) = (0 : Int32)
    · refine own_st (T' := T43) (g' := (mkF m 20 #[.val (.ref cw), .val (.int (1 : Int32))] [])) (fun _ k => XS.ifNo X43.here hx rfl (hb hby drn_17) rfl ((if0 _ _).trans (teq hc17_45).2) k) ?_
      rw [if_pos hc17_45] at hm1
      obtain ⟨hc1, hm1⟩ := own_ifs hm1
      refine own_st (T' := T43) (g' := (mkF m 21 #[.val (.ref cw), .val (.int (1 : Int32))] [(.ref cw)])) (fun _ k => XS.aloadN X43.here hx rfl (hb hby drn_20) rfl rfl k) ?_
      refine own_st (T' := T43) (g' := (mkF m 22 #[.val (.ref cw), .val (.int (1 : Int32))] [(.int (1 : Int32)), (.ref cw)])) (fun _ k => XS.iloadN X43.here hx rfl (hb hby drn_21) rfl k) ?_
      refine own_callP X43 hx hZ (y := (⟨"com/example/procurator/procurator/model/RelationGraph$CircleWalk", "enter", "(I)V"⟩ : MethodName)) hown (own_w hw 68 rfl) (own_w hw 69 rfl) (own_w hw 37 rfl) (own_w hw 70 rfl) (own_w hw 71 rfl) (own_w hw 38 rfl) (by decide) (W := 0) e43 (b := cw) Ec_0 (argsL := [(.int (1 : Int32))]) (rest := []) (rmen l Z a0 hw [] so oF oT cw a1 a2 a3 a4 a5 a6 a7 fF fT (fE, fL, fN, fC, fO, fU, fP, us, ps, en, ci) (1 : Int32) h0 n0 Z0 hd hG (show own_CW Z h0 so oF oT cw a1 a2 a3 a4 a5 a6 a7 fF fT (fE, fL, fN, fC, fO, fU, fP, us, ps, en, ci) from ⟨Es_0, Ff_0, Ft_0, AF_0, AT_0, Ec_0, Fs_0, FA_0, FB_0, FC_0, FD_0, FE_0, FF_0, FG_0, Gu_0, Gp_0, Ge_0, Gc_0, BA_0, BB_0, BC_0, BD_0, BE_0, BF_0, BG_0⟩) (by decide) hc1.1 hc1.2) (by decide) (by decide) (by decide) (by decide) (g := (mkF m 22 #[.val (.ref cw), .val (.int (1 : Int32))] [(.int (1 : Int32)), (.ref cw)])) rfl (by rw [hml]; rfl) (lenOf own_pd1 rfl) rfl (by show 2 * 0 + _ ≤ _; exact Nat.le_of_eq rfl) (hb hby drn_22) ?_
      rintro _ T46 L46 X46 ⟨rfl, N46q, K46, hq_46⟩
      show own_Go _ _ _ _ _ _ _ T46 (mkF m 25 #[.val (.ref cw), .val (.int (1 : Int32))] [])
      have N46 := Fr.app N0 N46q
      refine own_st (T' := T46) (g' := (mkF m 26 #[.val (.ref cw), .val (.int (1 : Int32))] [(.ref cw)])) (fun _ k => XS.aloadN X46.here hx rfl (hb hby drn_25) rfl rfl k) ?_
      refine own_callP X46 hx hZ (y := (⟨"com/example/procurator/procurator/model/RelationGraph$CircleWalk", "follow", "()V"⟩ : MethodName)) hown (own_w hw 79 rfl) (own_w hw 80 rfl) (own_w hw 37 rfl) (own_w hw 81 rfl) (own_w hw 82 rfl) (own_w hw 38 rfl) (by decide) (W := 0) rfl (b := cw) hq_46.2.2.2.2.2.1 (argsL := []) (rest := []) (rmfo l Z a0 hw [] so oF oT cw a1 a2 a3 a4 a5 a6 a7 fF fT (own_ent fF (fE, fL, fN, fC, fO, fU, fP, us, ps, en, ci) (1 : Int32)) qb T46.heap n0 (Nat.le_trans Z0 K46.1) hd hG hq_46 hm1) (by decide) (by decide) (by decide) (by decide) (g := (mkF m 26 #[.val (.ref cw), .val (.int (1 : Int32))] [(.ref cw)])) rfl (by rw [hml]; rfl) (lenOf own_pd2 rfl) rfl (by show 2 * 0 + _ ≤ _; exact Nat.le_of_eq rfl) (hb hby drn_26) ?_
      rintro _ T47 L47 X47 ⟨rfl, N47q, K47, hq_47⟩
      show own_Go _ _ _ _ _ _ _ T47 (mkF m 29 #[.val (.ref cw), .val (.int (1 : Int32))] [])
      have N47 := Fr.app N46 N47q
      obtain ⟨fE_1, fL_1, fN_1, fC_1, fO_1, fU_1, fP_1, us_1, ps_1, en_1, ci_1⟩ := qb
      dsimp only [own_CW] at hq_47
      obtain ⟨Es_47, Ff_47, Ft_47, AF_47, AT_47, Ec_47, Fs_47, FA_47, FB_47, FC_47, FD_47, FE_47, FF_47, FG_47, Gu_47, Gp_47, Ge_47, Gc_47, BA_47, BB_47, BC_47, BD_47, BE_47, BF_47, BG_47⟩ := hq_47
      refine own_st (T' := T47) (g' := (mkF m 32 #[.val (.ref cw), .val (.int (2 : Int32))] [])) (fun _ k => XS.iinc X47.here hx rfl (hb hby drn_29) rfl (l' := #[.val (.ref cw), .val (.int (2 : Int32))]) rfl k) ?_
      refine own_st (T' := T47) (g' := (mkF m 2 #[.val (.ref cw), .val (.int (2 : Int32))] [])) (fun _ k => XS.goto X47.here hx rfl (pc0 := 32) (pc' := 2) rfl (hb hby drn_32) (by decide) (by decide) k) ?_
      unfold own_s1 at hm2
      dsimp only at hm2
      refine own_st (T' := T47) (g' := (mkF m 3 #[.val (.ref cw), .val (.int (2 : Int32))] [(.int (2 : Int32))])) (fun _ k => XS.iloadN X47.here hx rfl (hb hby drn_2) rfl k) ?_
      refine own_st (T' := T47) (g' := (mkF m 4 #[.val (.ref cw), .val (.int (2 : Int32))] [(.ref cw), (.int (2 : Int32))])) (fun _ k => XS.aloadN X47.here hx rfl (hb hby drn_3) rfl rfl k) ?_
      obtain ⟨T48, X48, e48, st48⟩ := getF X47 hx hZ hown (host := "") (Or.inl (own_w hw 49 rfl)) Via.refl rfl FA_47 (g := (mkF m 4 #[.val (.ref cw), .val (.int (2 : Int32))] [(.ref cw), (.int (2 : Int32))])) rfl rfl (hb hby drn_4)
      refine own_st (g' := (mkF m 7 #[.val (.ref cw), .val (.int (2 : Int32))] [(.ref a1), (.int (2 : Int32))])) st48 ?_
      obtain ⟨cl49, Ar49, S49, M49, H49⟩ := id BA_47
      refine own_st (T' := T48) (g' := (mkF m 8 #[.val (.ref cw), .val (.int (2 : Int32))] [(.int (3 : Int32)), (.int (2 : Int32))])) (fun _ k => X48.arraylength hx (by rw [e48]; exact Ar49.1) (State.isArrayOf_alike hZ.alike Ar49.2.1) (g := (mkF m 7 #[.val (.ref cw), .val (.int (2 : Int32))] [(.ref a1), (.int (2 : Int32))])) rfl rfl (hb hby drn_7) _ (by rw [len_of S49 M49]; exact k)) ?_
      refine own_st (T' := T48) (g' := (mkF m 11 #[.val (.ref cw), .val (.int (2 : Int32))] [])) (fun _ k => XS.icmpNo X48.here hx rfl (hb hby drn_8) rfl (tlt (by decide : ((2 : Int32) < (3 : Int32)))).2.1 k) ?_
      refine own_st (T' := T48) (g' := (mkF m 12 #[.val (.ref cw), .val (.int (2 : Int32))] [(.ref cw)])) (fun _ k => XS.aloadN X48.here hx rfl (hb hby drn_11) rfl rfl k) ?_
      obtain ⟨T50, X50, e50, st50⟩ := getF X48 hx hZ hown (host := "") (Or.inl (own_w hw 49 rfl)) Via.refl e48 FA_47 (g := (mkF m 12 #[.val (.ref cw), .val (.int (2 : Int32))] [(.ref cw)])) rfl rfl (hb hby drn_12)
      refine own_st (g' := (mkF m 15 #[.val (.ref cw), .val (.int (2 : Int32))] [(.ref a1)])) st50 ?_
      refine own_st (T' := T50) (g' := (mkF m 16 #[.val (.ref cw), .val (.int (2 : Int32))] [(.int (2 : Int32)), (.ref a1)])) (fun _ k => XS.iloadN X50.here hx rfl (hb hby drn_15) rfl k) ?_
      obtain ⟨cl51, Ar51, S51, M51, H51⟩ := id BA_47
      refine own_st (T' := T50) (g' := (mkF m 17 #[.val (.ref cw), .val (.int (2 : Int32))] [(.int (fE_1 (2 : Int32)))])) (fun _ k => X50.iaload hx (j := (2 : Int32)) (v := (.int (fE_1 (2 : Int32)))) (by rw [e50]; exact Ar51.1) (State.isArrayOf_alike hZ.alike Ar51.2.1) Ar51.2.2 (inb_of S51 ⟨(by decide), (by decide)⟩) (H51 _ (by decide) (by decide)) (g := (mkF m 16 #[.val (.ref cw), .val (.int (2 : Int32))] [(.int (2 : Int32)), (.ref a1)])) rfl rfl (hb hby drn_16) _ k) ?_
      by_cases hc17_52 : (fE_1 (2 : Int32)) = (0 : Int32)
      · refine own_st (T' := T50) (g' := (mkF m 20 #[.val (.ref cw), .val (.int (2 : Int32))] [])) (fun _ k => XS.ifNo X50.here hx rfl (hb hby drn_17) rfl ((if0 _ _).trans (teq hc17_52).2) k) ?_
        rw [if_pos hc17_52] at hm2
        obtain ⟨hc2, hm2⟩ := own_ifs hm2
        refine own_st (T' := T50) (g' := (mkF m 21 #[.val (.ref cw), .val (.int (2 : Int32))] [(.ref cw)])) (fun _ k => XS.aloadN X50.here hx rfl (hb hby drn_20) rfl rfl k) ?_
        refine own_st (T' := T50) (g' := (mkF m 22 #[.val (.ref cw), .val (.int (2 : Int32))] [(.int (2 : Int32)), (.ref cw)])) (fun _ k => XS.iloadN X50.here hx rfl (hb hby drn_21) rfl k) ?_
        refine own_callP X50 hx hZ (y := (⟨"com/example/procurator/procurator/model/RelationGraph$CircleWalk", "enter", "(I)V"⟩ : MethodName)) hown (own_w hw 68 rfl) (own_w hw 69 rfl) (own_w hw 37 rfl) (own_w hw 70 rfl) (own_w hw 71 rfl) (own_w hw 38 rfl) (by decide) (W := 0) e50 (b := cw) Ec_47 (argsL := [(.int (2 : Int32))]) (rest := []) (rmen l Z a0 hw [] so oF oT cw a1 a2 a3 a4 a5 a6 a7 fF fT (fE_1, fL_1, fN_1, fC_1, fO_1, fU_1, fP_1, us_1, ps_1, en_1, ci_1) (2 : Int32) T47.heap n0 (Nat.le_trans (Nat.le_trans Z0 K46.1) K47.1) hd hG (show own_CW Z T47.heap so oF oT cw a1 a2 a3 a4 a5 a6 a7 fF fT (fE_1, fL_1, fN_1, fC_1, fO_1, fU_1, fP_1, us_1, ps_1, en_1, ci_1) from ⟨Es_47, Ff_47, Ft_47, AF_47, AT_47, Ec_47, Fs_47, FA_47, FB_47, FC_47, FD_47, FE_47, FF_47, FG_47, Gu_47, Gp_47, Ge_47, Gc_47, BA_47, BB_47, BC_47, BD_47, BE_47, BF_47, BG_47⟩) (by decide) hc2.1 hc2.2) (by decide) (by decide) (by decide) (by decide) (g := (mkF m 22 #[.val (.ref cw), .val (.int (2 : Int32))] [(.int (2 : Int32)), (.ref cw)])) rfl (by rw [hml]; rfl) (lenOf own_pd1 rfl) rfl (by show 2 * 0 + _ ≤ _; exact Nat.le_of_eq rfl) (hb hby drn_22) ?_
        rintro _ T53 L53 X53 ⟨rfl, N53q, K53, hq_53⟩
        show own_Go _ _ _ _ _ _ _ T53 (mkF m 25 #[.val (.ref cw), .val (.int (2 : Int32))] [])
        have N53 := Fr.app N47 N53q
        refine own_st (T' := T53) (g' := (mkF m 26 #[.val (.ref cw), .val (.int (2 : Int32))] [(.ref cw)])) (fun _ k => XS.aloadN X53.here hx rfl (hb hby drn_25) rfl rfl k) ?_
        refine own_callP X53 hx hZ (y := (⟨"com/example/procurator/procurator/model/RelationGraph$CircleWalk", "follow", "()V"⟩ : MethodName)) hown (own_w hw 79 rfl) (own_w hw 80 rfl) (own_w hw 37 rfl) (own_w hw 81 rfl) (own_w hw 82 rfl) (own_w hw 38 rfl) (by decide) (W := 0) rfl (b := cw) hq_53.2.2.2.2.2.1 (argsL := []) (rest := []) (rmfo l Z a0 hw [] so oF oT cw a1 a2 a3 a4 a5 a6 a7 fF fT (own_ent fF (fE_1, fL_1, fN_1, fC_1, fO_1, fU_1, fP_1, us_1, ps_1, en_1, ci_1) (2 : Int32)) q' T53.heap n0 (Nat.le_trans (Nat.le_trans (Nat.le_trans Z0 K46.1) K47.1) K53.1) hd hG hq_53 hm2) (by decide) (by decide) (by decide) (by decide) (g := (mkF m 26 #[.val (.ref cw), .val (.int (2 : Int32))] [(.ref cw)])) rfl (by rw [hml]; rfl) (lenOf own_pd2 rfl) rfl (by show 2 * 0 + _ ≤ _; exact Nat.le_of_eq rfl) (hb hby drn_26) ?_
        rintro _ T54 L54 X54 ⟨rfl, N54q, K54, hq_54⟩
        show own_Go _ _ _ _ _ _ _ T54 (mkF m 29 #[.val (.ref cw), .val (.int (2 : Int32))] [])
        have N54 := Fr.app N53 N54q
        obtain ⟨fE_2, fL_2, fN_2, fC_2, fO_2, fU_2, fP_2, us_2, ps_2, en_2, ci_2⟩ := q'
        dsimp only [own_CW] at hq_54
        obtain ⟨Es_54, Ff_54, Ft_54, AF_54, AT_54, Ec_54, Fs_54, FA_54, FB_54, FC_54, FD_54, FE_54, FF_54, FG_54, Gu_54, Gp_54, Ge_54, Gc_54, BA_54, BB_54, BC_54, BD_54, BE_54, BF_54, BG_54⟩ := hq_54
        refine own_st (T' := T54) (g' := (mkF m 32 #[.val (.ref cw), .val (.int (3 : Int32))] [])) (fun _ k => XS.iinc X54.here hx rfl (hb hby drn_29) rfl (l' := #[.val (.ref cw), .val (.int (3 : Int32))]) rfl k) ?_
        refine own_st (T' := T54) (g' := (mkF m 2 #[.val (.ref cw), .val (.int (3 : Int32))] [])) (fun _ k => XS.goto X54.here hx rfl (pc0 := 32) (pc' := 2) rfl (hb hby drn_32) (by decide) (by decide) k) ?_
        refine own_st (T' := T54) (g' := (mkF m 3 #[.val (.ref cw), .val (.int (3 : Int32))] [(.int (3 : Int32))])) (fun _ k => XS.iloadN X54.here hx rfl (hb hby drn_2) rfl k) ?_
        refine own_st (T' := T54) (g' := (mkF m 4 #[.val (.ref cw), .val (.int (3 : Int32))] [(.ref cw), (.int (3 : Int32))])) (fun _ k => XS.aloadN X54.here hx rfl (hb hby drn_3) rfl rfl k) ?_
        obtain ⟨T55, X55, e55, st55⟩ := getF X54 hx hZ hown (host := "") (Or.inl (own_w hw 49 rfl)) Via.refl rfl FA_54 (g := (mkF m 4 #[.val (.ref cw), .val (.int (3 : Int32))] [(.ref cw), (.int (3 : Int32))])) rfl rfl (hb hby drn_4)
        refine own_st (g' := (mkF m 7 #[.val (.ref cw), .val (.int (3 : Int32))] [(.ref a1), (.int (3 : Int32))])) st55 ?_
        obtain ⟨cl56, Ar56, S56, M56, H56⟩ := id BA_54
        refine own_st (T' := T55) (g' := (mkF m 8 #[.val (.ref cw), .val (.int (3 : Int32))] [(.int (3 : Int32)), (.int (3 : Int32))])) (fun _ k => X55.arraylength hx (by rw [e55]; exact Ar56.1) (State.isArrayOf_alike hZ.alike Ar56.2.1) (g := (mkF m 7 #[.val (.ref cw), .val (.int (3 : Int32))] [(.ref a1), (.int (3 : Int32))])) rfl rfl (hb hby drn_7) _ (by rw [len_of S56 M56]; exact k)) ?_
        refine own_st (T' := T55) (g' := (mkF m 35 #[.val (.ref cw), .val (.int (3 : Int32))] [])) (fun _ k => XS.icmpYes X55.here hx rfl (pc0 := 8) (pc' := 35) rfl (hb hby drn_8) rfl (flt (by decide : ¬ ((3 : Int32) < (3 : Int32)))).2.1 (by decide) (by decide) k) ?_
        refine own_st (T' := T55) (g' := (mkF m 36 #[.val (.ref cw), .val (.int (3 : Int32))] [(.ref cw)])) (fun _ k => XS.aloadN X55.here hx rfl (hb hby drn_35) rfl rfl k) ?_
        obtain ⟨T57, X57, e57, st57⟩ := getF X55 hx hZ hown (host := "") (Or.inl (own_w hw 55 rfl)) Via.refl e55 FD_54 (g := (mkF m 36 #[.val (.ref cw), .val (.int (3 : Int32))] [(.ref cw)])) rfl rfl (hb hby drn_36)
        refine own_st (g' := (mkF m 39 #[.val (.ref cw), .val (.int (3 : Int32))] [(.ref a4)])) st57 ?_
        exact own_retA X57 hx hlk hret rfl rfl (hb hby drn_39) (by rw [e57]; exact ⟨rfl, N54, (((((Keep.refl h0 [cw, a1, a2, a3, a4, a5, a6, a7]).trans K46 (fun x hx => Or.inl hx)).trans K47 (fun x hx => Or.inl hx)).trans K53 (fun x hx => Or.inl hx)).trans K54 (fun x hx => Or.inl hx)), ⟨Es_54, Ff_54, Ft_54, AF_54, AT_54, Ec_54, Fs_54, FA_54, FB_54, FC_54, FD_54, FE_54, FF_54, FG_54, Gu_54, Gp_54, Ge_54, Gc_54, BA_54, BB_54, BC_54, BD_54, BE_54, BF_54, BG_54⟩⟩) (by decide) (by decide)
      · refine own_st (T' := T50) (g' := (mkF m 29 #[.val (.ref cw), .val (.int (2 : Int32))] [])) (fun _ k => XS.ifYes X50.here hx rfl (pc0 := 17) (pc' := 29) rfl (hb hby drn_17) rfl ((if0 _ _).trans (feq hc17_52).2) (by decide) (by decide) k) ?_
        rw [if_neg hc17_52] at hm2
        cases hm2
        refine own_st (T' := T50) (g' := (mkF m 32 #[.val (.ref cw), .val (.int (3 : Int32))] [])) (fun _ k => XS.iinc X50.here hx rfl (hb hby drn_29) rfl (l' := #[.val (.ref cw), .val (.int (3 : Int32))]) rfl k) ?_
        refine own_st (T' := T50) (g' := (mkF m 2 #[.val (.ref cw), .val (.int (3 : Int32))] [])) (fun _ k => XS.goto X50.here hx rfl (pc0 := 32) (pc' := 2) rfl (hb hby drn_32) (by decide) (by decide) k) ?_
        refine own_st (T' := T50) (g' := (mkF m 3 #[.val (.ref cw), .val (.int (3 : Int32))] [(.int (3 : Int32))])) (fun _ k => XS.iloadN X50.here hx rfl (hb hby drn_2) rfl k) ?_
        refine own_st (T' := T50) (g' := (mkF m 4 #[.val (.ref cw), .val (.int (3 : Int32))] [(.ref cw), (.int (3 : Int32))])) (fun _ k => XS.aloadN X50.here hx rfl (hb hby drn_3) rfl rfl k) ?_
        obtain ⟨T58, X58, e58, st58⟩ := getF X50 hx hZ hown (host := "") (Or.inl (own_w hw 49 rfl)) Via.refl e50 FA_47 (g := (mkF m 4 #[.val (.ref cw), .val (.int (3 : Int32))] [(.ref cw), (.int (3 : Int32))])) rfl rfl (hb hby drn_4)
        refine own_st (g' := (mkF m 7 #[.val (.ref cw), .val (.int (3 : Int32))] [(.ref a1), (.int (3 : Int32))])) st58 ?_
        obtain ⟨cl59, Ar59, S59, M59, H59⟩ := id BA_47
        refine own_st (T' := T58) (g' := (mkF m 8 #[.val (.ref cw), .val (.int (3 : Int32))] [(.int (3 : Int32)), (.int (3 : Int32))])) (fun _ k => X58.arraylength hx (by rw [e58]; exact Ar59.1) (State.isArrayOf_alike hZ.alike Ar59.2.1) (g := (mkF m 7 #[.val (.ref cw), .val (.int (3 : Int32))] [(.ref a1), (.int (3 : Int32))])) rfl rfl (hb hby drn_7) _ (by rw [len_of S59 M59]; exact k)) ?_
        refine own_st (T' := T58) (g' := (mkF m 35 #[.val (.ref cw), .val (.int (3 : Int32))] [])) (fun _ k => XS.icmpYes X58.here hx rfl (pc0 := 8) (pc' := 35) rfl (hb hby drn_8) rfl (flt (by decide : ¬ ((3 : Int32) < (3 : Int32)))).2.1 (by decide) (by decide) k) ?_
        refine own_st (T' := T58) (g' := (mkF m 36 #[.val (.ref cw), .val (.int (3 : Int32))] [(.ref cw)])) (fun _ k => XS.aloadN X58.here hx rfl (hb hby drn_35) rfl rfl k) ?_
        obtain ⟨T60, X60, e60, st60⟩ := getF X58 hx hZ hown (host := "") (Or.inl (own_w hw 55 rfl)) Via.refl e58 FD_47 (g := (mkF m 36 #[.val (.ref cw), .val (.int (3 : Int32))] [(.ref cw)])) rfl rfl (hb hby drn_36)
        refine own_st (g' := (mkF m 39 #[.val (.ref cw), .val (.int (3 : Int32))] [(.ref a4)])) st60 ?_
        exact own_retA X60 hx hlk hret rfl rfl (hb hby drn_39) (by rw [e60]; exact ⟨rfl, N47, (((Keep.refl h0 [cw, a1, a2, a3, a4, a5, a6, a7]).trans K46 (fun x hx => Or.inl hx)).trans K47 (fun x hx => Or.inl hx)), ⟨Es_47, Ff_47, Ft_47, AF_47, AT_47, Ec_47, Fs_47, FA_47, FB_47, FC_47, FD_47, FE_47, FF_47, FG_47, Gu_47, Gp_47, Ge_47, Gc_47, BA_47, BB_47, BC_47, BD_47, BE_47, BF_47, BG_47⟩⟩) (by decide) (by decide)
    · refine own_st (T' := T43) (g' := (mkF m 29 #[.val (.ref cw), .val (.int (1 : Int32))] [])) (fun _ k => XS.ifYes X43.here hx rfl (pc0 := 17) (pc' := 29) rfl (hb hby drn_17) rfl ((if0 _ _).trans (feq hc17_45).2) (by decide) (by decide) k) ?_
      rw [if_neg hc17_45] at hm1
      cases hm1
      refine own_st (T' := T43) (g' := (mkF m 32 #[.val (.ref cw), .val (.int (2 : Int32))] [])) (fun _ k => XS.iinc X43.here hx rfl (hb hby drn_29) rfl (l' := #[.val (.ref cw), .val (.int (2 : Int32))]) rfl k) ?_
      refine own_st (T' := T43) (g' := (mkF m 2 #[.val (.ref cw), .val (.int (2 : Int32))] [])) (fun _ k => XS.goto X43.here hx rfl (pc0 := 32) (pc' := 2) rfl (hb hby drn_32) (by decide) (by decide) k) ?_
      unfold own_s1 at hm2
      dsimp only at hm2
      refine own_st (T' := T43) (g' := (mkF m 3 #[.val (.ref cw), .val (.int (2 : Int32))] [(.int (2 : Int32))])) (fun _ k => XS.iloadN X43.here hx rfl (hb hby drn_2) rfl k) ?_
      refine own_st (T' := T43) (g' := (mkF m 4 #[.val (.ref cw), .val (.int (2 : Int32))] [(.ref cw), (.int (2 : Int32))])) (fun _ k => XS.aloadN X43.here hx rfl (hb hby drn_3) rfl rfl k) ?_
      obtain ⟨T61, X61, e61, st61⟩ := getF X43 hx hZ hown (host := "") (Or.inl (own_w hw 49 rfl)) Via.refl e43 FA_0 (g := (mkF m 4 #[.val (.ref cw), .val (.int (2 : Int32))] [(.ref cw), (.int (2 : Int32))])) rfl rfl (hb hby drn_4)
      refine own_st (g' := (mkF m 7 #[.val (.ref cw), .val (.int (2 : Int32))] [(.ref a1), (.int (2 : Int32))])) st61 ?_
      obtain ⟨cl62, Ar62, S62, M62, H62⟩ := id BA_0
      refine own_st (T' := T61) (g' := (mkF m 8 #[.val (.ref cw), .val (.int (2 : Int32))] [(.int (3 : Int32)), (.int (2 : Int32))])) (fun _ k => X61.arraylength hx (by rw [e61]; exact Ar62.1) (State.isArrayOf_alike hZ.alike Ar62.2.1) (g := (mkF m 7 #[.val (.ref cw), .val (.int (2 : Int32))] [(.ref a1), (.int (2 : Int32))])) rfl rfl (hb hby drn_7) _ (by rw [len_of S62 M62]; exact k)) ?_
      refine own_st (T' := T61) (g' := (mkF m 11 #[.val (.ref cw), .val (.int (2 : Int32))] [])) (fun _ k => XS.icmpNo X61.here hx rfl (hb hby drn_8) rfl (tlt (by decide : ((2 : Int32) < (3 : Int32)))).2.1 k) ?_
      refine own_st (T' := T61) (g' := (mkF m 12 #[.val (.ref cw), .val (.int (2 : Int32))] [(.ref cw)])) (fun _ k => XS.aloadN X61.here hx rfl (hb hby drn_11) rfl rfl k) ?_
      obtain ⟨T63, X63, e63, st63⟩ := getF X61 hx hZ hown (host := "") (Or.inl (own_w hw 49 rfl)) Via.refl e61 FA_0 (g := (mkF m 12 #[.val (.ref cw), .val (.int (2 : Int32))] [(.ref cw)])) rfl rfl (hb hby drn_12)
      refine own_st (g' := (mkF m 15 #[.val (.ref cw), .val (.int (2 : Int32))] [(.ref a1)])) st63 ?_
      refine own_st (T' := T63) (g' := (mkF m 16 #[.val (.ref cw), .val (.int (2 : Int32))] [(.int (2 : Int32)), (.ref a1)])) (fun _ k => XS.iloadN X63.here hx rfl (hb hby drn_15) rfl k) ?_
      obtain ⟨cl64, Ar64, S64, M64, H64⟩ := id BA_0
      refine own_st (T' := T63) (g' := (mkF m 17 #[.val (.ref cw), .val (.int (2 : Int32))] [(.int (fE (2 : Int32)))])) (fun _ k => X63.iaload hx (j := (2 : Int32)) (v := (.int (fE (2 : Int32)))) (by rw [e63]; exact Ar64.1) (State.isArrayOf_alike hZ.alike Ar64.2.1) Ar64.2.2 (inb_of S64 ⟨(by decide), (by decide)⟩) (H64 _ (by decide) (by decide)) (g := (mkF m 16 #[.val (.ref cw), .val (.int (2 : Int32))] [(.int (2 : Int32)), (.ref a1)])) rfl rfl (hb hby drn_16) _ k) ?_
      by_cases hc17_65 : (fE (2 : Int32)) = (0 : Int32)
      · refine own_st (T' := T63) (g' := (mkF m 20 #[.val (.ref cw), .val (.int (2 : Int32))] [])) (fun _ k => XS.ifNo X63.here hx rfl (hb hby drn_17) rfl ((if0 _ _).trans (teq hc17_65).2) k) ?_
        rw [if_pos hc17_65] at hm2
        obtain ⟨hc2, hm2⟩ := own_ifs hm2
        refine own_st (T' := T63) (g' := (mkF m 21 #[.val (.ref cw), .val (.int (2 : Int32))] [(.ref cw)])) (fun _ k => XS.aloadN X63.here hx rfl (hb hby drn_20) rfl rfl k) ?_
        refine own_st (T' := T63) (g' := (mkF m 22 #[.val (.ref cw), .val (.int (2 : Int32))] [(.int (2 : Int32)), (.ref cw)])) (fun _ k => XS.iloadN X63.here hx rfl (hb hby drn_21) rfl k) ?_
        refine own_callP X63 hx hZ (y := (⟨"com/example/procurator/procurator/model/RelationGraph$CircleWalk", "enter", "(I)V"⟩ : MethodName)) hown (own_w hw 68 rfl) (own_w hw 69 rfl) (own_w hw 37 rfl) (own_w hw 70 rfl) (own_w hw 71 rfl) (own_w hw 38 rfl) (by decide) (W := 0) e63 (b := cw) Ec_0 (argsL := [(.int (2 : Int32))]) (rest := []) (rmen l Z a0 hw [] so oF oT cw a1 a2 a3 a4 a5 a6 a7 fF fT (fE, fL, fN, fC, fO, fU, fP, us, ps, en, ci) (2 : Int32) h0 n0 Z0 hd hG (show own_CW Z h0 so oF oT cw a1 a2 a3 a4 a5 a6 a7 fF fT (fE, fL, fN, fC, fO, fU, fP, us, ps, en, ci) from ⟨Es_0, Ff_0, Ft_0, AF_0, AT_0, Ec_0, Fs_0, FA_0, FB_0, FC_0, FD_0, FE_0, FF_0, FG_0, Gu_0, Gp_0, Ge_0, Gc_0, BA_0, BB_0, BC_0, BD_0, BE_0, BF_0, BG_0⟩) (by decide) hc2.1 hc2.2) (by decide) (by decide) (by decide) (by decide) (g := (mkF m 22 #[.val (.ref cw), .val (.int (2 : Int32))] [(.int (2 : Int32)), (.ref cw)])) rfl (by rw [hml]; rfl) (lenOf own_pd1 rfl) rfl (by show 2 * 0 + _ ≤ _; exact Nat.le_of_eq rfl) (hb hby drn_22) ?_
        rintro _ T66 L66 X66 ⟨rfl, N66q, K66, hq_66⟩
        show own_Go _ _ _ _ _ _ _ T66 (mkF m 25 #[.val (.ref cw), .val (.int (2 : Int32))] [])
        have N66 := Fr.app N0 N66q
        refine own_st (T' := T66) (g' := (mkF m 26 #[.val (.ref cw), .val (.int (2 : Int32))] [(.ref cw)])) (fun _ k => XS.aloadN X66.here hx rfl (hb hby drn_25) rfl rfl k) ?_
        refine own_callP X66 hx hZ (y := (⟨"com/example/procurator/procurator/model/RelationGraph$CircleWalk", "follow", "()V"⟩ : MethodName)) hown (own_w hw 79 rfl) (own_w hw 80 rfl) (own_w hw 37 rfl) (own_w hw 81 rfl) (own_w hw 82 rfl) (own_w hw 38 rfl) (by decide) (W := 0) rfl (b := cw) hq_66.2.2.2.2.2.1 (argsL := []) (rest := []) (rmfo l Z a0 hw [] so oF oT cw a1 a2 a3 a4 a5 a6 a7 fF fT (own_ent fF (fE, fL, fN, fC, fO, fU, fP, us, ps, en, ci) (2 : Int32)) q' T66.heap n0 (Nat.le_trans Z0 K66.1) hd hG hq_66 hm2) (by decide) (by decide) (by decide) (by decide) (g := (mkF m 26 #[.val (.ref cw), .val (.int (2 : Int32))] [(.ref cw)])) rfl (by rw [hml]; rfl) (lenOf own_pd2 rfl) rfl (by show 2 * 0 + _ ≤ _; exact Nat.le_of_eq rfl) (hb hby drn_26) ?_
        rintro _ T67 L67 X67 ⟨rfl, N67q, K67, hq_67⟩
        show own_Go _ _ _ _ _ _ _ T67 (mkF m 29 #[.val (.ref cw), .val (.int (2 : Int32))] [])
        have N67 := Fr.app N66 N67q
        obtain ⟨fE_2, fL_2, fN_2, fC_2, fO_2, fU_2, fP_2, us_2, ps_2, en_2, ci_2⟩ := q'
        dsimp only [own_CW] at hq_67
        obtain ⟨Es_67, Ff_67, Ft_67, AF_67, AT_67, Ec_67, Fs_67, FA_67, FB_67, FC_67, FD_67, FE_67, FF_67, FG_67, Gu_67, Gp_67, Ge_67, Gc_67, BA_67, BB_67, BC_67, BD_67, BE_67, BF_67, BG_67⟩ := hq_67
        refine own_st (T' := T67) (g' := (mkF m 32 #[.val (.ref cw), .val (.int (3 : Int32))] [])) (fun _ k => XS.iinc X67.here hx rfl (hb hby drn_29) rfl (l' := #[.val (.ref cw), .val (.int (3 : Int32))]) rfl k) ?_
        refine own_st (T' := T67) (g' := (mkF m 2 #[.val (.ref cw), .val (.int (3 : Int32))] [])) (fun _ k => XS.goto X67.here hx rfl (pc0 := 32) (pc' := 2) rfl (hb hby drn_32) (by decide) (by decide) k) ?_
        refine own_st (T' := T67) (g' := (mkF m 3 #[.val (.ref cw), .val (.int (3 : Int32))] [(.int (3 : Int32))])) (fun _ k => XS.iloadN X67.here hx rfl (hb hby drn_2) rfl k) ?_
        refine own_st (T' := T67) (g' := (mkF m 4 #[.val (.ref cw), .val (.int (3 : Int32))] [(.ref cw), (.int (3 : Int32))])) (fun _ k => XS.aloadN X67.here hx rfl (hb hby drn_3) rfl rfl k) ?_
        obtain ⟨T68, X68, e68, st68⟩ := getF X67 hx hZ hown (host := "") (Or.inl (own_w hw 49 rfl)) Via.refl rfl FA_67 (g := (mkF m 4 #[.val (.ref cw), .val (.int (3 : Int32))] [(.ref cw), (.int (3 : Int32))])) rfl rfl (hb hby drn_4)
        refine own_st (g' := (mkF m 7 #[.val (.ref cw), .val (.int (3 : Int32))] [(.ref a1), (.int (3 : Int32))])) st68 ?_
        obtain ⟨cl69, Ar69, S69, M69, H69⟩ := id BA_67
        refine own_st (T' := T68) (g' := (mkF m 8 #[.val (.ref cw), .val (.int (3 : Int32))] [(.int (3 : Int32)), (.int (3 : Int32))])) (fun _ k => X68.arraylength hx (by rw [e68]; exact Ar69.1) (State.isArrayOf_alike hZ.alike Ar69.2.1) (g := (mkF m 7 #[.val (.ref cw), .val (.int (3 : Int32))] [(.ref a1), (.int (3 : Int32))])) rfl rfl (hb hby drn_7) _ (by rw [len_of S69 M69]; exact k)) ?_
        refine own_st (T' := T68) (g' := (mkF m 35 #[.val (.ref cw), .val (.int (3 : Int32))] [])) (fun _ k => XS.icmpYes X68.here hx rfl (pc0 := 8) (pc' := 35) rfl (hb hby drn_8) rfl (flt (by decide : ¬ ((3 : Int32) < (3 : Int32)))).2.1 (by decide) (by decide) k) ?_
        refine own_st (T' := T68) (g' := (mkF m 36 #[.val (.ref cw), .val (.int (3 : Int32))] [(.ref cw)])) (fun _ k => XS.aloadN X68.here hx rfl (hb hby drn_35) rfl rfl k) ?_
        obtain ⟨T70, X70, e70, st70⟩ := getF X68 hx hZ hown (host := "") (Or.inl (own_w hw 55 rfl)) Via.refl e68 FD_67 (g := (mkF m 36 #[.val (.ref cw), .val (.int (3 : Int32))] [(.ref cw)])) rfl rfl (hb hby drn_36)
        refine own_st (g' := (mkF m 39 #[.val (.ref cw), .val (.int (3 : Int32))] [(.ref a4)])) st70 ?_
        exact own_retA X70 hx hlk hret rfl rfl (hb hby drn_39) (by rw [e70]; exact ⟨rfl, N67, (((Keep.refl h0 [cw, a1, a2, a3, a4, a5, a6, a7]).trans K66 (fun x hx => Or.inl hx)).trans K67 (fun x hx => Or.inl hx)), ⟨Es_67, Ff_67, Ft_67, AF_67, AT_67, Ec_67, Fs_67, FA_67, FB_67, FC_67, FD_67, FE_67, FF_67, FG_67, Gu_67, Gp_67, Ge_67, Gc_67, BA_67, BB_67, BC_67, BD_67, BE_67, BF_67, BG_67⟩⟩) (by decide) (by decide)
      · refine own_st (T' := T63) (g' := (mkF m 29 #[.val (.ref cw), .val (.int (2 : Int32))] [])) (fun _ k => XS.ifYes X63.here hx rfl (pc0 := 17) (pc' := 29) rfl (hb hby drn_17) rfl ((if0 _ _).trans (feq hc17_65).2) (by decide) (by decide) k) ?_
        rw [if_neg hc17_65] at hm2
        cases hm2
        refine own_st (T' := T63) (g' := (mkF m 32 #[.val (.ref cw), .val (.int (3 : Int32))] [])) (fun _ k => XS.iinc X63.here hx rfl (hb hby drn_29) rfl (l' := #[.val (.ref cw), .val (.int (3 : Int32))]) rfl k) ?_
        refine own_st (T' := T63) (g' := (mkF m 2 #[.val (.ref cw), .val (.int (3 : Int32))] [])) (fun _ k => XS.goto X63.here hx rfl (pc0 := 32) (pc' := 2) rfl (hb hby drn_32) (by decide) (by decide) k) ?_
        refine own_st (T' := T63) (g' := (mkF m 3 #[.val (.ref cw), .val (.int (3 : Int32))] [(.int (3 : Int32))])) (fun _ k => XS.iloadN X63.here hx rfl (hb hby drn_2) rfl k) ?_
        refine own_st (T' := T63) (g' := (mkF m 4 #[.val (.ref cw), .val (.int (3 : Int32))] [(.ref cw), (.int (3 : Int32))])) (fun _ k => XS.aloadN X63.here hx rfl (hb hby drn_3) rfl rfl k) ?_
        obtain ⟨T71, X71, e71, st71⟩ := getF X63 hx hZ hown (host := "") (Or.inl (own_w hw 49 rfl)) Via.refl e63 FA_0 (g := (mkF m 4 #[.val (.ref cw), .val (.int (3 : Int32))] [(.ref cw), (.int (3 : Int32))])) rfl rfl (hb hby drn_4)
        refine own_st (g' := (mkF m 7 #[.val (.ref cw), .val (.int (3 : Int32))] [(.ref a1), (.int (3 : Int32))])) st71 ?_
        obtain ⟨cl72, Ar72, S72, M72, H72⟩ := id BA_0
        refine own_st (T' := T71) (g' := (mkF m 8 #[.val (.ref cw), .val (.int (3 : Int32))] [(.int (3 : Int32)), (.int (3 : Int32))])) (fun _ k => X71.arraylength hx (by rw [e71]; exact Ar72.1) (State.isArrayOf_alike hZ.alike Ar72.2.1) (g := (mkF m 7 #[.val (.ref cw), .val (.int (3 : Int32))] [(.ref a1), (.int (3 : Int32))])) rfl rfl (hb hby drn_7) _ (by rw [len_of S72 M72]; exact k)) ?_
        refine own_st (T' := T71) (g' := (mkF m 35 #[.val (.ref cw), .val (.int (3 : Int32))] [])) (fun _ k => XS.icmpYes X71.here hx rfl (pc0 := 8) (pc' := 35) rfl (hb hby drn_8) rfl (flt (by decide : ¬ ((3 : Int32) < (3 : Int32)))).2.1 (by decide) (by decide) k) ?_
        refine own_st (T' := T71) (g' := (mkF m 36 #[.val (.ref cw), .val (.int (3 : Int32))] [(.ref cw)])) (fun _ k => XS.aloadN X71.here hx rfl (hb hby drn_35) rfl rfl k) ?_
        obtain ⟨T73, X73, e73, st73⟩ := getF X71 hx hZ hown (host := "") (Or.inl (own_w hw 55 rfl)) Via.refl e71 FD_0 (g := (mkF m 36 #[.val (.ref cw), .val (.int (3 : Int32))] [(.ref cw)])) rfl rfl (hb hby drn_36)
        refine own_st (g' := (mkF m 39 #[.val (.ref cw), .val (.int (3 : Int32))] [(.ref a4)])) st73 ?_
        exact own_retA X73 hx hlk hret rfl rfl (hb hby drn_39) (by rw [e73]; exact ⟨rfl, N0, (Keep.refl h0 [cw, a1, a2, a3, a4, a5, a6, a7]), ⟨Es_0, Ff_0, Ft_0, AF_0, AT_0, Ec_0, Fs_0, FA_0, FB_0, FC_0, FD_0, FE_0, FF_0, FG_0, Gu_0, Gp_0, Ge_0, Gc_0, BA_0, BB_0, BC_0, BD_0, BE_0, BF_0, BG_0⟩⟩) (by decide) (by decide)
theorem dre_0 : decode prog_74_method_2_code 0 = .ok (.aload_n 0, 1) := by decide +kernel
theorem dre_1 : decode prog_74_method_2_code 1 = .ok (.getfield 7, 3) := by decide +kernel
theorem dre_4 : decode prog_74_method_2_code 4 = .ok (.arraylength, 1) := by decide +kernel
theorem dre_5 : decode prog_74_method_2_code 5 = .ok (.iconst 1, 1) := by decide +kernel
theorem dre_6 : decode prog_74_method_2_code 6 = .ok (.isub, 1) := by decide +kernel
theorem dre_7 : decode prog_74_method_2_code 7 = .ok (.ireturn, 1) := by decide +kernel
theorem pn_re : plainName "com/example/procurator/procurator/model/RelationGraph$Steps" = true := by first | (simp [plainName, overriddenIn]; done) | decide +kernel
theorem ef_re (m : MethodId) (x0 : Addr) : entryFrame m #[(.ref x0)] 1 = mkF m 0 #[.val (.ref x0)] [] := by first | (simp [entryFrame, mkF, argsToLocals, Value.category]; done) | rfl
set_option maxRecDepth 65536 in
set_option maxHeartbeats 40000000 in
theorem rmre (l : Launch) (Z : State) (a0 : Array Value) (hw : ∀ d ∈ tables_1, d.before a0 Z = true) (ws : List Jvm.Cond) (so oF : Addr) (fF : Int32 → Int32) (h0 : Heap) (n0 : Nat) (Z0 : n0 ≤ h0.size) (F1 : Fld Z h0 so "com/example/procurator/procurator/model/RelationGraph$Steps" "first" "[I" (.ref oF)) (A1 : own_A Z h0 oF .int (4 : Int32) (fun i => (.int (fF i)))) :
    own_Met l Z ws (⟨"com/example/procurator/procurator/model/RelationGraph$Steps", "relations", "()I"⟩ : MethodName) prog_74_method_2_code 1 (some .int) ({ frames := 0, cells := 0, slots := 0, locals := 0 } : Room) ({ frames := 0, cells := 0, slots := 0, locals := 0 } : Room).cells ({ frames := 0, cells := 0, slots := 0, locals := 0 } : Room).slots #[(.ref so)] h0 (fun v h L => v = some (.int (3 : Int32)) ∧ Fr n0 L ∧ h = h0) := by
  refine own_body (plainFor_of_name pn_re) ?_
  intro p e s m below meth c s₁ hx hby hml hown hnm hlk hret hZ hh X0 e0
  have N0 := Fr.nil n0
  refine own_cast (ef_re m so) ?_
  refine own_st (T' := s₁) (g' := (mkF m 1 #[.val (.ref so)] [(.ref so)])) (fun _ k => XS.aloadN X0.here hx rfl (hb hby dre_0) rfl rfl k) ?_
  obtain ⟨T1, X1, e1, st1⟩ := getF X0 hx hZ hown (host := "") (Or.inl (own_w hw 11 rfl)) Via.refl e0 F1 (g := (mkF m 1 #[.val (.ref so)] [(.ref so)])) rfl rfl (hb hby dre_1)
  refine own_st (g' := (mkF m 4 #[.val (.ref so)] [(.ref oF)])) st1 ?_
  obtain ⟨cl2, Ar2, S2, M2, H2⟩ := id A1
  refine own_st (T' := T1) (g' := (mkF m 5 #[.val (.ref so)] [(.int (4 : Int32))])) (fun _ k => X1.arraylength hx (by rw [e1]; exact Ar2.1) (State.isArrayOf_alike hZ.alike Ar2.2.1) (g := (mkF m 4 #[.val (.ref so)] [(.ref oF)])) rfl rfl (hb hby dre_4) _ (by rw [len_of S2 M2]; exact k)) ?_
  refine own_st (T' := T1) (g' := (mkF m 6 #[.val (.ref so)] [(.int (1 : Int32)), (.int (4 : Int32))])) (fun _ k => XS.iconst X1.here hx rfl (hb hby dre_5) k) ?_
  refine own_st (T' := T1) (g' := (mkF m 7 #[.val (.ref so)] [(.int (3 : Int32))])) (fun _ k => XS.isub X1.here hx rfl (hb hby dre_6) rfl k) ?_
  exact own_retI X1 hx hlk hret (hb hby dre_7) ⟨rfl, N0, e1⟩ (by decide) (by decide)
theorem dci_0 : decode prog_73_method_1_code 0 = .ok (.aload_n 0, 1) := by decide +kernel
theorem dci_1 : decode prog_73_method_1_code 1 = .ok (.invokespecial 1, 3) := by decide +kernel
theorem dci_4 : decode prog_73_method_1_code 4 = .ok (.aload_n 0, 1) := by decide +kernel
theorem dci_5 : decode prog_73_method_1_code 5 = .ok (.aload_n 1, 1) := by decide +kernel
theorem dci_6 : decode prog_73_method_1_code 6 = .ok (.putfield 7, 3) := by decide +kernel
theorem dci_9 : decode prog_73_method_1_code 9 = .ok (.aload_n 1, 1) := by decide +kernel
theorem dci_10 : decode prog_73_method_1_code 10 = .ok (.invokevirtual 13, 3) := by decide +kernel
theorem dci_13 : decode prog_73_method_1_code 13 = .ok (.istore_n 2, 1) := by decide +kernel
theorem dci_14 : decode prog_73_method_1_code 14 = .ok (.aload_n 0, 1) := by decide +kernel
theorem dci_15 : decode prog_73_method_1_code 15 = .ok (.iload_n 2, 1) := by decide +kernel
theorem dci_16 : decode prog_73_method_1_code 16 = .ok (.newarray .int, 2) := by decide +kernel
theorem dci_18 : decode prog_73_method_1_code 18 = .ok (.putfield 19, 3) := by decide +kernel
theorem dci_21 : decode prog_73_method_1_code 21 = .ok (.aload_n 0, 1) := by decide +kernel
theorem dci_22 : decode prog_73_method_1_code 22 = .ok (.iload_n 2, 1) := by decide +kernel
theorem dci_23 : decode prog_73_method_1_code 23 = .ok (.newarray .int, 2) := by decide +kernel
theorem dci_25 : decode prog_73_method_1_code 25 = .ok (.putfield 23, 3) := by decide +kernel
theorem dci_28 : decode prog_73_method_1_code 28 = .ok (.aload_n 0, 1) := by decide +kernel
theorem dci_29 : decode prog_73_method_1_code 29 = .ok (.iload_n 2, 1) := by decide +kernel
theorem dci_30 : decode prog_73_method_1_code 30 = .ok (.newarray .int, 2) := by decide +kernel
theorem dci_32 : decode prog_73_method_1_code 32 = .ok (.putfield 26, 3) := by decide +kernel
theorem dci_35 : decode prog_73_method_1_code 35 = .ok (.aload_n 0, 1) := by decide +kernel
theorem dci_36 : decode prog_73_method_1_code 36 = .ok (.iload_n 2, 1) := by decide +kernel
theorem dci_37 : decode prog_73_method_1_code 37 = .ok (.newarray .int, 2) := by decide +kernel
theorem dci_39 : decode prog_73_method_1_code 39 = .ok (.putfield 29, 3) := by decide +kernel
theorem dci_42 : decode prog_73_method_1_code 42 = .ok (.aload_n 0, 1) := by decide +kernel
theorem dci_43 : decode prog_73_method_1_code 43 = .ok (.iload_n 2, 1) := by decide +kernel
theorem dci_44 : decode prog_73_method_1_code 44 = .ok (.newarray .boolean, 2) := by decide +kernel
theorem dci_46 : decode prog_73_method_1_code 46 = .ok (.putfield 32, 3) := by decide +kernel
theorem dci_49 : decode prog_73_method_1_code 49 = .ok (.aload_n 0, 1) := by decide +kernel
theorem dci_50 : decode prog_73_method_1_code 50 = .ok (.iload_n 2, 1) := by decide +kernel
theorem dci_51 : decode prog_73_method_1_code 51 = .ok (.newarray .int, 2) := by decide +kernel
theorem dci_53 : decode prog_73_method_1_code 53 = .ok (.putfield 36, 3) := by decide +kernel
theorem dci_56 : decode prog_73_method_1_code 56 = .ok (.aload_n 0, 1) := by decide +kernel
theorem dci_57 : decode prog_73_method_1_code 57 = .ok (.iload_n 2, 1) := by decide +kernel
theorem dci_58 : decode prog_73_method_1_code 58 = .ok (.newarray .int, 2) := by decide +kernel
theorem dci_60 : decode prog_73_method_1_code 60 = .ok (.putfield 39, 3) := by decide +kernel
theorem dci_63 : decode prog_73_method_1_code 63 = .ok (.return_, 1) := by decide +kernel
theorem pn_ci : plainName "com/example/procurator/procurator/model/RelationGraph$CircleWalk" = true := by first | (simp [plainName, overriddenIn]; done) | decide +kernel
theorem ef_ci (m : MethodId) (x0 : Addr) (x1 : Addr) : entryFrame m #[(.ref x0), (.ref x1)] 3 = mkF m 0 #[.val (.ref x0), .val (.ref x1), .unset] [] := by first | (simp [entryFrame, mkF, argsToLocals, Value.category]; done) | rfl
set_option maxRecDepth 65536 in
set_option maxHeartbeats 40000000 in
theorem rmci (l : Launch) (Z : State) (a0 : Array Value) (hw : ∀ d ∈ tables_1, d.before a0 Z = true) (ws : List Jvm.Cond) (so oF oT cw : Addr) (fF fT : Int32 → Int32) (h0 : Heap) (n0 : Nat) (Z0 : n0 ≤ h0.size) (Eso : Exa Z h0 so "com/example/procurator/procurator/model/RelationGraph$Steps") (Ffi : Fld Z h0 so "com/example/procurator/procurator/model/RelationGraph$Steps" "first" "[I" (.ref oF)) (Fto : Fld Z h0 so "com/example/procurator/procurator/model/RelationGraph$Steps" "to" "[I" (.ref oT)) (AoF : own_A Z h0 oF .int (4 : Int32) (fun i => (.int (fF i)))) (AoT : own_A Z h0 oT .int (3 : Int32) (fun i => (.int (fT i)))) (Gso : n0 ≤ so) (GoF : n0 ≤ oF) (GoT : n0 ≤ oT) (Ecw : Exa Z h0 cw "com/example/procurator/procurator/model/RelationGraph$CircleWalk") (Gcw : n0 ≤ cw) (Fst : Fld Z h0 cw "com/example/procurator/procurator/model/RelationGraph$CircleWalk" "steps" "Lcom/example/procurator/procurator/model/RelationGraph$Steps;" .null) (Fi0 : Fld Z h0 cw "com/example/procurator/procurator/model/RelationGraph$CircleWalk" "entered" "[I" .null) (Fi1 : Fld Z h0 cw "com/example/procurator/procurator/model/RelationGraph$CircleWalk" "earliest" "[I" .null) (Fi2 : Fld Z h0 cw "com/example/procurator/procurator/model/RelationGraph$CircleWalk" "nextStep" "[I" .null) (Fi3 : Fld Z h0 cw "com/example/procurator/procurator/model/RelationGraph$CircleWalk" "circleOf" "[I" .null) (Fi4 : Fld Z h0 cw "com/example/procurator/procurator/model/RelationGraph$CircleWalk" "open" "[Z" .null) (Fi5 : Fld Z h0 cw "com/example/procurator/procurator/model/RelationGraph$CircleWalk" "unclosed" "[I" .null) (Fi6 : Fld Z h0 cw "com/example/procurator/procurator/model/RelationGraph$CircleWalk" "path" "[I" .null) (Fs0 : Fld Z h0 cw "com/example/procurator/procurator/model/RelationGraph$CircleWalk" "unclosedSize" "I" (.int (0 : Int32))) (Fs1 : Fld Z h0 cw "com/example/procurator/procurator/model/RelationGraph$CircleWalk" "pathSize" "I" (.int (0 : Int32))) (Fs2 : Fld Z h0 cw "com/example/procurator/procurator/model/RelationGraph$CircleWalk" "entries" "I" (.int (0 : Int32))) (Fs3 : Fld Z h0 cw "com/example/procurator/procurator/model/RelationGraph$CircleWalk" "circles" "I" (.int (0 : Int32))) (hd : [so, oF, oT, cw].Nodup) :
    own_Met l Z ws (⟨"com/example/procurator/procurator/model/RelationGraph$CircleWalk", "<init>", "(Lcom/example/procurator/procurator/model/RelationGraph$Steps;)V"⟩ : MethodName) prog_73_method_1_code 3 none ({ frames := 1, cells := 7, slots := 21, locals := 13 } : Room) ({ frames := 1, cells := 7, slots := 21, locals := 13 } : Room).cells ({ frames := 1, cells := 7, slots := 21, locals := 13 } : Room).slots #[(.ref cw), (.ref so)] h0 (fun v h L => v = none ∧ Fr n0 L ∧ Keep h0 h [cw] ∧ ∃ (a1 a2 a3 a4 a5 a6 a7 : Addr), [so, oF, oT, cw, a1, a2, a3, a4, a5, a6, a7].Nodup ∧ (∀ x ∈ [so, oF, oT, cw, a1, a2, a3, a4, a5, a6, a7], n0 ≤ x) ∧ own_CW Z h so oF oT cw a1 a2 a3 a4 a5 a6 a7 fF fT ((fun _ => (0 : Int32)), (fun _ => (0 : Int32)), (fun _ => (0 : Int32)), (fun _ => (0 : Int32)), (fun _ => (0 : Int32)), (fun _ => (0 : Int32)), (fun _ => (0 : Int32)), (0 : Int32), (0 : Int32), (0 : Int32), (0 : Int32))) := by
  refine own_body (plainFor_of_name pn_ci) ?_
  intro p e s m below meth c s₁ hx hby hml hown hnm hlk hret hZ hh X0 e0
  have N0 := Fr.nil n0
  refine own_cast (ef_ci m cw so) ?_
  refine own_st (T' := s₁) (g' := (mkF m 1 #[.val (.ref cw), .val (.ref so), .unset] [(.ref cw)])) (fun _ k => XS.aloadN X0.here hx rfl (hb hby dci_0) rfl rfl k) ?_
  obtain ⟨T1, X1, e1, st1⟩ := initO X0 hx hZ hown (own_w hw 42 rfl) (own_w hw 8 rfl) (own_w hw 9 rfl) e0 (g := (mkF m 1 #[.val (.ref cw), .val (.ref so), .unset] [(.ref cw)])) rfl (by rw [hml]; rfl) rfl (hb hby dci_1) (by decide) (W := 0) (by show 2 * 0 + _ ≤ _; exact Nat.le_of_eq rfl) (by decide)
  refine own_st (g' := (mkF m 4 #[.val (.ref cw), .val (.ref so), .unset] [])) st1 ?_
  refine own_st (T' := T1) (g' := (mkF m 5 #[.val (.ref cw), .val (.ref so), .unset] [(.ref cw)])) (fun _ k => XS.aloadN X1.here hx rfl (hb hby dci_4) rfl rfl k) ?_
  refine own_st (T' := T1) (g' := (mkF m 6 #[.val (.ref cw), .val (.ref so), .unset] [(.ref so), (.ref cw)])) (fun _ k => XS.aloadN X1.here hx rfl (hb hby dci_5) rfl rfl k) ?_
  obtain ⟨T2, h2, X2, e2, W2, st2⟩ := putF X1 hx hZ hown (host := "") (Or.inl (own_w hw 43 rfl)) Via.refl e1 Fst Ecw (Or.inr ⟨(own_w hw 44 rfl), rfl, hnm⟩) (own_w hw 37 rfl) (ty := (.object "com/example/procurator/procurator/model/RelationGraph$Steps")) (by decide) rfl rfl (g := (mkF m 6 #[.val (.ref cw), .val (.ref so), .unset] [(.ref so), (.ref cw)])) rfl rfl (hb hby dci_6)
  have Fw2 := Fst.same W2
  have N2 := Fr.snoc X2 N0 Gcw
  refine own_st (g' := (mkF m 9 #[.val (.ref cw), .val (.ref so), .unset] [])) st2 ?_
  refine own_st (T' := T2) (g' := (mkF m 10 #[.val (.ref cw), .val (.ref so), .unset] [(.ref so)])) (fun _ k => XS.aloadN X2.here hx rfl (hb hby dci_9) rfl rfl k) ?_
  refine own_callPN X2 hx hZ (y := (⟨"com/example/procurator/procurator/model/RelationGraph$Steps", "relations", "()I"⟩ : MethodName)) hown (own_w hw 45 rfl) (own_w hw 46 rfl) (own_w hw 2 rfl) (own_w hw 47 rfl) (own_w hw 48 rfl) (own_w hw 3 rfl) (by decide) (W := 0) e2 (b := so) (Eso.wr W2) (argsL := []) (rest := []) (rmre l Z a0 hw [] so oF fF h2 n0 (Nat.le_trans Z0 (Nat.le_of_eq W2.size.symm)) (Ffi.other W2 (Or.inl (own_nd hd 0 3 (by decide) rfl rfl))) (AoF.other W2 (own_nd hd 1 3 (by decide) rfl rfl))) (by decide) (by decide) (by decide) (by decide) (g := (mkF m 10 #[.val (.ref cw), .val (.ref so), .unset] [(.ref so)])) rfl (by rw [hml]; rfl) (lenOf own_pd3 rfl) rfl (by show 2 * 0 + _ ≤ _; exact Nat.le_of_eq rfl) (hb hby dci_10) ?_
  rintro _ T3 L3 X3 ⟨rfl, N3q, e3⟩
  show own_Go _ _ _ _ _ _ _ T3 (mkF m 13 #[.val (.ref cw), .val (.ref so), .unset] [(.int (3 : Int32))])
  have N3 := Fr.app N2 N3q
  refine own_st (T' := T3) (g' := (mkF m 14 #[.val (.ref cw), .val (.ref so), .val (.int (3 : Int32))] [])) (fun _ k => XS.istoreN X3.here hx rfl (hb hby dci_13) rfl (l' := #[.val (.ref cw), .val (.ref so), .val (.int (3 : Int32))]) rfl k) ?_
  refine own_st (T' := T3) (g' := (mkF m 15 #[.val (.ref cw), .val (.ref so), .val (.int (3 : Int32))] [(.ref cw)])) (fun _ k => XS.aloadN X3.here hx rfl (hb hby dci_14) rfl rfl k) ?_
  refine own_st (T' := T3) (g' := (mkF m 16 #[.val (.ref cw), .val (.ref so), .val (.int (3 : Int32))] [(.int (3 : Int32)), (.ref cw)])) (fun _ k => XS.iloadN X3.here hx rfl (hb hby dci_15) rfl k) ?_
  obtain ⟨T4, h4, k4, X4, e4, E4, A4, st4⟩ := newP X3 hx hZ (own_w hw 10 rfl) e3 (g := (mkF m 16 #[.val (.ref cw), .val (.ref so), .val (.int (3 : Int32))] [(.int (3 : Int32)), (.ref cw)])) rfl (hb hby dci_16) rfl (by decide) (cap := 3) (by decide) (by decide) (by decide) (by decide)
  obtain ⟨b4, g4⟩ : ∃ z, z = h2.size := ⟨_, rfl⟩
  rw [← g4] at A4 st4
  have G_b4 : n0 ≤ b4 := Nat.le_trans (Nat.le_trans Z0 (Nat.le_of_eq W2.size.symm)) (Nat.le_of_eq g4.symm)
  have sz_b4 : h0.size ≤ b4 := Nat.le_trans ((Keep.refl h0 [cw]).wr W2 (Or.inl (by simp))).1 (Nat.le_of_eq g4.symm)
  have V4 : own_A Z h4 b4 .int (3 : Int32) (fun i => (.int ((fun _ => (0 : Int32)) i))) := own_A.new A4 (by decide)
  refine own_st (g' := (mkF m 18 #[.val (.ref cw), .val (.ref so), .val (.int (3 : Int32))] [(.ref b4), (.ref cw)])) st4 ?_
  obtain ⟨T5, h5, X5, e5, W5, st5⟩ := putF X4 hx hZ hown (host := "") (Or.inl (own_w hw 49 rfl)) Via.refl e4 ((Fi0.other W2 (Or.inr (slot_ne (Or.inr (own_w hw 50 rfl)) (Or.inr (own_w hw 44 rfl)) (by decide) (t := (.array .int)) (t' := (.object "com/example/procurator/procurator/model/RelationGraph$Steps")) (by decide) (by decide)))).ext E4) ((Ecw.wr W2).ext E4) (Or.inr ⟨(own_w hw 50 rfl), rfl, hnm⟩) (own_w hw 37 rfl) (ty := (.array .int)) (by decide) rfl rfl (g := (mkF m 18 #[.val (.ref cw), .val (.ref so), .val (.int (3 : Int32))] [(.ref b4), (.ref cw)])) rfl rfl (hb hby dci_18)
  have Fw5 := ((Fi0.other W2 (Or.inr (slot_ne (Or.inr (own_w hw 50 rfl)) (Or.inr (own_w hw 44 rfl)) (by decide) (t := (.array .int)) (t' := (.object "com/example/procurator/procurator/model/RelationGraph$Steps")) (by decide) (by decide)))).ext E4).same W5
  have N5 := Fr.snoc X5 N3 Gcw
  refine own_st (g' := (mkF m 21 #[.val (.ref cw), .val (.ref so), .val (.int (3 : Int32))] [])) st5 ?_
  refine own_st (T' := T5) (g' := (mkF m 22 #[.val (.ref cw), .val (.ref so), .val (.int (3 : Int32))] [(.ref cw)])) (fun _ k => XS.aloadN X5.here hx rfl (hb hby dci_21) rfl rfl k) ?_
  refine own_st (T' := T5) (g' := (mkF m 23 #[.val (.ref cw), .val (.ref so), .val (.int (3 : Int32))] [(.int (3 : Int32)), (.ref cw)])) (fun _ k => XS.iloadN X5.here hx rfl (hb hby dci_22) rfl k) ?_
  obtain ⟨T6, h6, k6, X6, e6, E6, A6, st6⟩ := newP X5 hx hZ (own_w hw 10 rfl) e5 (g := (mkF m 23 #[.val (.ref cw), .val (.ref so), .val (.int (3 : Int32))] [(.int (3 : Int32)), (.ref cw)])) rfl (hb hby dci_23) rfl (by decide) (cap := 3) (by decide) (by decide) (by decide) (by decide)
  obtain ⟨b6, g6⟩ : ∃ z, z = h5.size := ⟨_, rfl⟩
  rw [← g6] at A6 st6
  have G_b6 : n0 ≤ b6 := Nat.le_trans (Nat.le_trans (Nat.le_trans (Nat.le_trans Z0 (Nat.le_of_eq W2.size.symm)) E4.1) (Nat.le_of_eq W5.size.symm)) (Nat.le_of_eq g6.symm)
  have sz_b6 : h0.size ≤ b6 := Nat.le_trans ((((Keep.refl h0 [cw]).wr W2 (Or.inl (by simp))).ext E4).wr W5 (Or.inl (by simp))).1 (Nat.le_of_eq g6.symm)
  have V6 : own_A Z h6 b6 .int (3 : Int32) (fun i => (.int ((fun _ => (0 : Int32)) i))) := own_A.new A6 (by decide)
  refine own_st (g' := (mkF m 25 #[.val (.ref cw), .val (.ref so), .val (.int (3 : Int32))] [(.ref b6), (.ref cw)])) st6 ?_
  obtain ⟨T7, h7, X7, e7, W7, st7⟩ := putF X6 hx hZ hown (host := "") (Or.inl (own_w hw 51 rfl)) Via.refl e6 ((((Fi1.other W2 (Or.inr (slot_ne (Or.inr (own_w hw 52 rfl)) (Or.inr (own_w hw 44 rfl)) (by decide) (t := (.array .int)) (t' := (.object "com/example/procurator/procurator/model/RelationGraph$Steps")) (by decide) (by decide)))).ext E4).other W5 (Or.inr (slot_ne (Or.inr (own_w hw 52 rfl)) (Or.inr (own_w hw 50 rfl)) (by decide) (t := (.array .int)) (t' := (.array .int)) (by decide) (by decide)))).ext E6) ((((Ecw.wr W2).ext E4).wr W5).ext E6) (Or.inr ⟨(own_w hw 52 rfl), rfl, hnm⟩) (own_w hw 37 rfl) (ty := (.array .int)) (by decide) rfl rfl (g := (mkF m 25 #[.val (.ref cw), .val (.ref so), .val (.int (3 : Int32))] [(.ref b6), (.ref cw)])) rfl rfl (hb hby dci_25)
  have Fw7 := ((((Fi1.other W2 (Or.inr (slot_ne (Or.inr (own_w hw 52 rfl)) (Or.inr (own_w hw 44 rfl)) (by decide) (t := (.array .int)) (t' := (.object "com/example/procurator/procurator/model/RelationGraph$Steps")) (by decide) (by decide)))).ext E4).other W5 (Or.inr (slot_ne (Or.inr (own_w hw 52 rfl)) (Or.inr (own_w hw 50 rfl)) (by decide) (t := (.array .int)) (t' := (.array .int)) (by decide) (by decide)))).ext E6).same W7
  have N7 := Fr.snoc X7 N5 Gcw
  refine own_st (g' := (mkF m 28 #[.val (.ref cw), .val (.ref so), .val (.int (3 : Int32))] [])) st7 ?_
  refine own_st (T' := T7) (g' := (mkF m 29 #[.val (.ref cw), .val (.ref so), .val (.int (3 : Int32))] [(.ref cw)])) (fun _ k => XS.aloadN X7.here hx rfl (hb hby dci_28) rfl rfl k) ?_
  refine own_st (T' := T7) (g' := (mkF m 30 #[.val (.ref cw), .val (.ref so), .val (.int (3 : Int32))] [(.int (3 : Int32)), (.ref cw)])) (fun _ k => XS.iloadN X7.here hx rfl (hb hby dci_29) rfl k) ?_
  obtain ⟨T8, h8, k8, X8, e8, E8, A8, st8⟩ := newP X7 hx hZ (own_w hw 10 rfl) e7 (g := (mkF m 30 #[.val (.ref cw), .val (.ref so), .val (.int (3 : Int32))] [(.int (3 : Int32)), (.ref cw)])) rfl (hb hby dci_30) rfl (by decide) (cap := 3) (by decide) (by decide) (by decide) (by decide)
  obtain ⟨b8, g8⟩ : ∃ z, z = h7.size := ⟨_, rfl⟩
  rw [← g8] at A8 st8
  have G_b8 : n0 ≤ b8 := Nat.le_trans (Nat.le_trans (Nat.le_trans (Nat.le_trans (Nat.le_trans (Nat.le_trans Z0 (Nat.le_of_eq W2.size.symm)) E4.1) (Nat.le_of_eq W5.size.symm)) E6.1) (Nat.le_of_eq W7.size.symm)) (Nat.le_of_eq g8.symm)
  have sz_b8 : h0.size ≤ b8 := Nat.le_trans ((((((Keep.refl h0 [cw]).wr W2 (Or.inl (by simp))).ext E4).wr W5 (Or.inl (by simp))).ext E6).wr W7 (Or.inl (by simp))).1 (Nat.le_of_eq g8.symm)
  have V8 : own_A Z h8 b8 .int (3 : Int32) (fun i => (.int ((fun _ => (0 : Int32)) i))) := own_A.new A8 (by decide)
  refine own_st (g' := (mkF m 32 #[.val (.ref cw), .val (.ref so), .val (.int (3 : Int32))] [(.ref b8), (.ref cw)])) st8 ?_
  obtain ⟨T9, h9, X9, e9, W9, st9⟩ := putF X8 hx hZ hown (host := "") (Or.inl (own_w hw 53 rfl)) Via.refl e8 ((((((Fi2.other W2 (Or.inr (slot_ne (Or.inr (own_w hw 54 rfl)) (Or.inr (own_w hw 44 rfl)) (by decide) (t := (.array .int)) (t' := (.object "com/example/procurator/procurator/model/RelationGraph$Steps")) (by decide) (by decide)))).ext E4).other W5 (Or.inr (slot_ne (Or.inr (own_w hw 54 rfl)) (Or.inr (own_w hw 50 rfl)) (by decide) (t := (.array .int)) (t' := (.array .int)) (by decide) (by decide)))).ext E6).other W7 (Or.inr (slot_ne (Or.inr (own_w hw 54 rfl)) (Or.inr (own_w hw 52 rfl)) (by decide) (t := (.array .int)) (t' := (.array .int)) (by decide) (by decide)))).ext E8) ((((((Ecw.wr W2).ext E4).wr W5).ext E6).wr W7).ext E8) (Or.inr ⟨(own_w hw 54 rfl), rfl, hnm⟩) (own_w hw 37 rfl) (ty := (.array .int)) (by decide) rfl rfl (g := (mkF m 32 #[.val (.ref cw), .val (.ref so), .val (.int (3 : Int32))] [(.ref b8), (.ref cw)])) rfl rfl (hb hby dci_32)
  have Fw9 := ((((((Fi2.other W2 (Or.inr (slot_ne (Or.inr (own_w hw 54 rfl)) (Or.inr (own_w hw 44 rfl)) (by decide) (t := (.array .int)) (t' := (.object "com/example/procurator/procurator/model/RelationGraph$Steps")) (by decide) (by decide)))).ext E4).other W5 (Or.inr (slot_ne (Or.inr (own_w hw 54 rfl)) (Or.inr (own_w hw 50 rfl)) (by decide) (t := (.array .int)) (t' := (.array .int)) (by decide) (by decide)))).ext E6).other W7 (Or.inr (slot_ne (Or.inr (own_w hw 54 rfl)) (Or.inr (own_w hw 52 rfl)) (by decide) (t := (.array .int)) (t' := (.array .int)) (by decide) (by decide)))).ext E8).same W9
  have N9 := Fr.snoc X9 N7 Gcw
  refine own_st (g' := (mkF m 35 #[.val (.ref cw), .val (.ref so), .val (.int (3 : Int32))] [])) st9 ?_
  refine own_st (T' := T9) (g' := (mkF m 36 #[.val (.ref cw), .val (.ref so), .val (.int (3 : Int32))] [(.ref cw)])) (fun _ k => XS.aloadN X9.here hx rfl (hb hby dci_35) rfl rfl k) ?_
  refine own_st (T' := T9) (g' := (mkF m 37 #[.val (.ref cw), .val (.ref so), .val (.int (3 : Int32))] [(.int (3 : Int32)), (.ref cw)])) (fun _ k => XS.iloadN X9.here hx rfl (hb hby dci_36) rfl k) ?_
  obtain ⟨T10, h10, k10, X10, e10, E10, A10, st10⟩ := newP X9 hx hZ (own_w hw 10 rfl) e9 (g := (mkF m 37 #[.val (.ref cw), .val (.ref so), .val (.int (3 : Int32))] [(.int (3 : Int32)), (.ref cw)])) rfl (hb hby dci_37) rfl (by decide) (cap := 3) (by decide) (by decide) (by decide) (by decide)
  obtain ⟨b10, g10⟩ : ∃ z, z = h9.size := ⟨_, rfl⟩
  rw [← g10] at A10 st10
  have G_b10 : n0 ≤ b10 := Nat.le_trans (Nat.le_trans (Nat.le_trans (Nat.le_trans (Nat.le_trans (Nat.le_trans (Nat.le_trans (Nat.le_trans Z0 (Nat.le_of_eq W2.size.symm)) E4.1) (Nat.le_of_eq W5.size.symm)) E6.1) (Nat.le_of_eq W7.size.symm)) E8.1) (Nat.le_of_eq W9.size.symm)) (Nat.le_of_eq g10.symm)
  have sz_b10 : h0.size ≤ b10 := Nat.le_trans ((((((((Keep.refl h0 [cw]).wr W2 (Or.inl (by simp))).ext E4).wr W5 (Or.inl (by simp))).ext E6).wr W7 (Or.inl (by simp))).ext E8).wr W9 (Or.inl (by simp))).1 (Nat.le_of_eq g10.symm)
  have V10 : own_A Z h10 b10 .int (3 : Int32) (fun i => (.int ((fun _ => (0 : Int32)) i))) := own_A.new A10 (by decide)
  refine own_st (g' := (mkF m 39 #[.val (.ref cw), .val (.ref so), .val (.int (3 : Int32))] [(.ref b10), (.ref cw)])) st10 ?_
  obtain ⟨T11, h11, X11, e11, W11, st11⟩ := putF X10 hx hZ hown (host := "") (Or.inl (own_w hw 55 rfl)) Via.refl e10 ((((((((Fi3.other W2 (Or.inr (slot_ne (Or.inr (own_w hw 56 rfl)) (Or.inr (own_w hw 44 rfl)) (by decide) (t := (.array .int)) (t' := (.object "com/example/procurator/procurator/model/RelationGraph$Steps")) (by decide) (by decide)))).ext E4).other W5 (Or.inr (slot_ne (Or.inr (own_w hw 56 rfl)) (Or.inr (own_w hw 50 rfl)) (by decide) (t := (.array .int)) (t' := (.array .int)) (by decide) (by decide)))).ext E6).other W7 (Or.inr (slot_ne (Or.inr (own_w hw 56 rfl)) (Or.inr (own_w hw 52 rfl)) (by decide) (t := (.array .int)) (t' := (.array .int)) (by decide) (by decide)))).ext E8).other W9 (Or.inr (slot_ne (Or.inr (own_w hw 56 rfl)) (Or.inr (own_w hw 54 rfl)) (by decide) (t := (.array .int)) (t' := (.array .int)) (by decide) (by decide)))).ext E10) ((((((((Ecw.wr W2).ext E4).wr W5).ext E6).wr W7).ext E8).wr W9).ext E10) (Or.inr ⟨(own_w hw 56 rfl), rfl, hnm⟩) (own_w hw 37 rfl) (ty := (.array .int)) (by decide) rfl rfl (g := (mkF m 39 #[.val (.ref cw), .val (.ref so), .val (.int (3 : Int32))] [(.ref b10), (.ref cw)])) rfl rfl (hb hby dci_39)
  have Fw11 := ((((((((Fi3.other W2 (Or.inr (slot_ne (Or.inr (own_w hw 56 rfl)) (Or.inr (own_w hw 44 rfl)) (by decide) (t := (.array .int)) (t' := (.object "com/example/procurator/procurator/model/RelationGraph$Steps")) (by decide) (by decide)))).ext E4).other W5 (Or.inr (slot_ne (Or.inr (own_w hw 56 rfl)) (Or.inr (own_w hw 50 rfl)) (by decide) (t := (.array .int)) (t' := (.array .int)) (by decide) (by decide)))).ext E6).other W7 (Or.inr (slot_ne (Or.inr (own_w hw 56 rfl)) (Or.inr (own_w hw 52 rfl)) (by decide) (t := (.array .int)) (t' := (.array .int)) (by decide) (by decide)))).ext E8).other W9 (Or.inr (slot_ne (Or.inr (own_w hw 56 rfl)) (Or.inr (own_w hw 54 rfl)) (by decide) (t := (.array .int)) (t' := (.array .int)) (by decide) (by decide)))).ext E10).same W11
  have N11 := Fr.snoc X11 N9 Gcw
  refine own_st (g' := (mkF m 42 #[.val (.ref cw), .val (.ref so), .val (.int (3 : Int32))] [])) st11 ?_
  refine own_st (T' := T11) (g' := (mkF m 43 #[.val (.ref cw), .val (.ref so), .val (.int (3 : Int32))] [(.ref cw)])) (fun _ k => XS.aloadN X11.here hx rfl (hb hby dci_42) rfl rfl k) ?_
  refine own_st (T' := T11) (g' := (mkF m 44 #[.val (.ref cw), .val (.ref so), .val (.int (3 : Int32))] [(.int (3 : Int32)), (.ref cw)])) (fun _ k => XS.iloadN X11.here hx rfl (hb hby dci_43) rfl k) ?_
  obtain ⟨T12, h12, k12, X12, e12, E12, A12, st12⟩ := newP X11 hx hZ (own_w hw 57 rfl) e11 (g := (mkF m 44 #[.val (.ref cw), .val (.ref so), .val (.int (3 : Int32))] [(.int (3 : Int32)), (.ref cw)])) rfl (hb hby dci_44) rfl (by decide) (cap := 3) (by decide) (by decide) (by decide) (by decide)
  obtain ⟨b12, g12⟩ : ∃ z, z = h11.size := ⟨_, rfl⟩
  rw [← g12] at A12 st12
  have G_b12 : n0 ≤ b12 := Nat.le_trans (Nat.le_trans (Nat.le_trans (Nat.le_trans (Nat.le_trans (Nat.le_trans (Nat.le_trans (Nat.le_trans (Nat.le_trans (Nat.le_trans Z0 (Nat.le_of_eq W2.size.symm)) E4.1) (Nat.le_of_eq W5.size.symm)) E6.1) (Nat.le_of_eq W7.size.symm)) E8.1) (Nat.le_of_eq W9.size.symm)) E10.1) (Nat.le_of_eq W11.size.symm)) (Nat.le_of_eq g12.symm)
  have sz_b12 : h0.size ≤ b12 := Nat.le_trans ((((((((((Keep.refl h0 [cw]).wr W2 (Or.inl (by simp))).ext E4).wr W5 (Or.inl (by simp))).ext E6).wr W7 (Or.inl (by simp))).ext E8).wr W9 (Or.inl (by simp))).ext E10).wr W11 (Or.inl (by simp))).1 (Nat.le_of_eq g12.symm)
  have V12 : own_A Z h12 b12 .boolean (3 : Int32) (fun i => (.int ((fun _ => (0 : Int32)) i))) := own_A.new A12 (by decide)
  refine own_st (g' := (mkF m 46 #[.val (.ref cw), .val (.ref so), .val (.int (3 : Int32))] [(.ref b12), (.ref cw)])) st12 ?_
  obtain ⟨T13, h13, X13, e13, W13, st13⟩ := putF X12 hx hZ hown (host := "") (Or.inl (own_w hw 58 rfl)) Via.refl e12 ((((((((((Fi4.other W2 (Or.inr (slot_ne (Or.inr (own_w hw 59 rfl)) (Or.inr (own_w hw 44 rfl)) (by decide) (t := (.array .boolean)) (t' := (.object "com/example/procurator/procurator/model/RelationGraph$Steps")) (by decide) (by decide)))).ext E4).other W5 (Or.inr (slot_ne (Or.inr (own_w hw 59 rfl)) (Or.inr (own_w hw 50 rfl)) (by decide) (t := (.array .boolean)) (t' := (.array .int)) (by decide) (by decide)))).ext E6).other W7 (Or.inr (slot_ne (Or.inr (own_w hw 59 rfl)) (Or.inr (own_w hw 52 rfl)) (by decide) (t := (.array .boolean)) (t' := (.array .int)) (by decide) (by decide)))).ext E8).other W9 (Or.inr (slot_ne (Or.inr (own_w hw 59 rfl)) (Or.inr (own_w hw 54 rfl)) (by decide) (t := (.array .boolean)) (t' := (.array .int)) (by decide) (by decide)))).ext E10).other W11 (Or.inr (slot_ne (Or.inr (own_w hw 59 rfl)) (Or.inr (own_w hw 56 rfl)) (by decide) (t := (.array .boolean)) (t' := (.array .int)) (by decide) (by decide)))).ext E12) ((((((((((Ecw.wr W2).ext E4).wr W5).ext E6).wr W7).ext E8).wr W9).ext E10).wr W11).ext E12) (Or.inr ⟨(own_w hw 59 rfl), rfl, hnm⟩) (own_w hw 37 rfl) (ty := (.array .boolean)) (by decide) rfl rfl (g := (mkF m 46 #[.val (.ref cw), .val (.ref so), .val (.int (3 : Int32))] [(.ref b12), (.ref cw)])) rfl rfl (hb hby dci_46)
  have Fw13 := ((((((((((Fi4.other W2 (Or.inr (slot_ne (Or.inr (own_w hw 59 rfl)) (Or.inr (own_w hw 44 rfl)) (by decide) (t := (.array .boolean)) (t' := (.object "com/example/procurator/procurator/model/RelationGraph$Steps")) (by decide) (by decide)))).ext E4).other W5 (Or.inr (slot_ne (Or.inr (own_w hw 59 rfl)) (Or.inr (own_w hw 50 rfl)) (by decide) (t := (.array .boolean)) (t' := (.array .int)) (by decide) (by decide)))).ext E6).other W7 (Or.inr (slot_ne (Or.inr (own_w hw 59 rfl)) (Or.inr (own_w hw 52 rfl)) (by decide) (t := (.array .boolean)) (t' := (.array .int)) (by decide) (by decide)))).ext E8).other W9 (Or.inr (slot_ne (Or.inr (own_w hw 59 rfl)) (Or.inr (own_w hw 54 rfl)) (by decide) (t := (.array .boolean)) (t' := (.array .int)) (by decide) (by decide)))).ext E10).other W11 (Or.inr (slot_ne (Or.inr (own_w hw 59 rfl)) (Or.inr (own_w hw 56 rfl)) (by decide) (t := (.array .boolean)) (t' := (.array .int)) (by decide) (by decide)))).ext E12).same W13
  have N13 := Fr.snoc X13 N11 Gcw
  refine own_st (g' := (mkF m 49 #[.val (.ref cw), .val (.ref so), .val (.int (3 : Int32))] [])) st13 ?_
  refine own_st (T' := T13) (g' := (mkF m 50 #[.val (.ref cw), .val (.ref so), .val (.int (3 : Int32))] [(.ref cw)])) (fun _ k => XS.aloadN X13.here hx rfl (hb hby dci_49) rfl rfl k) ?_
  refine own_st (T' := T13) (g' := (mkF m 51 #[.val (.ref cw), .val (.ref so), .val (.int (3 : Int32))] [(.int (3 : Int32)), (.ref cw)])) (fun _ k => XS.iloadN X13.here hx rfl (hb hby dci_50) rfl k) ?_
  obtain ⟨T14, h14, k14, X14, e14, E14, A14, st14⟩ := newP X13 hx hZ (own_w hw 10 rfl) e13 (g := (mkF m 51 #[.val (.ref cw), .val (.ref so), .val (.int (3 : Int32))] [(.int (3 : Int32)), (.ref cw)])) rfl (hb hby dci_51) rfl (by decide) (cap := 3) (by decide) (by decide) (by decide) (by decide)
  obtain ⟨b14, g14⟩ : ∃ z, z = h13.size := ⟨_, rfl⟩
  rw [← g14] at A14 st14
  have G_b14 : n0 ≤ b14 := Nat.le_trans (Nat.le_trans (Nat.le_trans (Nat.le_trans (Nat.le_trans (Nat.le_trans (Nat.le_trans (Nat.le_trans (Nat.le_trans (Nat.le_trans (Nat.le_trans (Nat.le_trans Z0 (Nat.le_of_eq W2.size.symm)) E4.1) (Nat.le_of_eq W5.size.symm)) E6.1) (Nat.le_of_eq W7.size.symm)) E8.1) (Nat.le_of_eq W9.size.symm)) E10.1) (Nat.le_of_eq W11.size.symm)) E12.1) (Nat.le_of_eq W13.size.symm)) (Nat.le_of_eq g14.symm)
  have sz_b14 : h0.size ≤ b14 := Nat.le_trans ((((((((((((Keep.refl h0 [cw]).wr W2 (Or.inl (by simp))).ext E4).wr W5 (Or.inl (by simp))).ext E6).wr W7 (Or.inl (by simp))).ext E8).wr W9 (Or.inl (by simp))).ext E10).wr W11 (Or.inl (by simp))).ext E12).wr W13 (Or.inl (by simp))).1 (Nat.le_of_eq g14.symm)
  have V14 : own_A Z h14 b14 .int (3 : Int32) (fun i => (.int ((fun _ => (0 : Int32)) i))) := own_A.new A14 (by decide)
  refine own_st (g' := (mkF m 53 #[.val (.ref cw), .val (.ref so), .val (.int (3 : Int32))] [(.ref b14), (.ref cw)])) st14 ?_
  obtain ⟨T15, h15, X15, e15, W15, st15⟩ := putF X14 hx hZ hown (host := "") (Or.inl (own_w hw 60 rfl)) Via.refl e14 ((((((((((((Fi5.other W2 (Or.inr (slot_ne (Or.inr (own_w hw 61 rfl)) (Or.inr (own_w hw 44 rfl)) (by decide) (t := (.array .int)) (t' := (.object "com/example/procurator/procurator/model/RelationGraph$Steps")) (by decide) (by decide)))).ext E4).other W5 (Or.inr (slot_ne (Or.inr (own_w hw 61 rfl)) (Or.inr (own_w hw 50 rfl)) (by decide) (t := (.array .int)) (t' := (.array .int)) (by decide) (by decide)))).ext E6).other W7 (Or.inr (slot_ne (Or.inr (own_w hw 61 rfl)) (Or.inr (own_w hw 52 rfl)) (by decide) (t := (.array .int)) (t' := (.array .int)) (by decide) (by decide)))).ext E8).other W9 (Or.inr (slot_ne (Or.inr (own_w hw 61 rfl)) (Or.inr (own_w hw 54 rfl)) (by decide) (t := (.array .int)) (t' := (.array .int)) (by decide) (by decide)))).ext E10).other W11 (Or.inr (slot_ne (Or.inr (own_w hw 61 rfl)) (Or.inr (own_w hw 56 rfl)) (by decide) (t := (.array .int)) (t' := (.array .int)) (by decide) (by decide)))).ext E12).other W13 (Or.inr (slot_ne (Or.inr (own_w hw 61 rfl)) (Or.inr (own_w hw 59 rfl)) (by decide) (t := (.array .int)) (t' := (.array .boolean)) (by decide) (by decide)))).ext E14) ((((((((((((Ecw.wr W2).ext E4).wr W5).ext E6).wr W7).ext E8).wr W9).ext E10).wr W11).ext E12).wr W13).ext E14) (Or.inr ⟨(own_w hw 61 rfl), rfl, hnm⟩) (own_w hw 37 rfl) (ty := (.array .int)) (by decide) rfl rfl (g := (mkF m 53 #[.val (.ref cw), .val (.ref so), .val (.int (3 : Int32))] [(.ref b14), (.ref cw)])) rfl rfl (hb hby dci_53)
  have Fw15 := ((((((((((((Fi5.other W2 (Or.inr (slot_ne (Or.inr (own_w hw 61 rfl)) (Or.inr (own_w hw 44 rfl)) (by decide) (t := (.array .int)) (t' := (.object "com/example/procurator/procurator/model/RelationGraph$Steps")) (by decide) (by decide)))).ext E4).other W5 (Or.inr (slot_ne (Or.inr (own_w hw 61 rfl)) (Or.inr (own_w hw 50 rfl)) (by decide) (t := (.array .int)) (t' := (.array .int)) (by decide) (by decide)))).ext E6).other W7 (Or.inr (slot_ne (Or.inr (own_w hw 61 rfl)) (Or.inr (own_w hw 52 rfl)) (by decide) (t := (.array .int)) (t' := (.array .int)) (by decide) (by decide)))).ext E8).other W9 (Or.inr (slot_ne (Or.inr (own_w hw 61 rfl)) (Or.inr (own_w hw 54 rfl)) (by decide) (t := (.array .int)) (t' := (.array .int)) (by decide) (by decide)))).ext E10).other W11 (Or.inr (slot_ne (Or.inr (own_w hw 61 rfl)) (Or.inr (own_w hw 56 rfl)) (by decide) (t := (.array .int)) (t' := (.array .int)) (by decide) (by decide)))).ext E12).other W13 (Or.inr (slot_ne (Or.inr (own_w hw 61 rfl)) (Or.inr (own_w hw 59 rfl)) (by decide) (t := (.array .int)) (t' := (.array .boolean)) (by decide) (by decide)))).ext E14).same W15
  have N15 := Fr.snoc X15 N13 Gcw
  refine own_st (g' := (mkF m 56 #[.val (.ref cw), .val (.ref so), .val (.int (3 : Int32))] [])) st15 ?_
  refine own_st (T' := T15) (g' := (mkF m 57 #[.val (.ref cw), .val (.ref so), .val (.int (3 : Int32))] [(.ref cw)])) (fun _ k => XS.aloadN X15.here hx rfl (hb hby dci_56) rfl rfl k) ?_
  refine own_st (T' := T15) (g' := (mkF m 58 #[.val (.ref cw), .val (.ref so), .val (.int (3 : Int32))] [(.int (3 : Int32)), (.ref cw)])) (fun _ k => XS.iloadN X15.here hx rfl (hb hby dci_57) rfl k) ?_
  obtain ⟨T16, h16, k16, X16, e16, E16, A16, st16⟩ := newP X15 hx hZ (own_w hw 10 rfl) e15 (g := (mkF m 58 #[.val (.ref cw), .val (.ref so), .val (.int (3 : Int32))] [(.int (3 : Int32)), (.ref cw)])) rfl (hb hby dci_58) rfl (by decide) (cap := 3) (by decide) (by decide) (by decide) (by decide)
  obtain ⟨b16, g16⟩ : ∃ z, z = h15.size := ⟨_, rfl⟩
  rw [← g16] at A16 st16
  have G_b16 : n0 ≤ b16 := Nat.le_trans (Nat.le_trans (Nat.le_trans (Nat.le_trans (Nat.le_trans (Nat.le_trans (Nat.le_trans (Nat.le_trans (Nat.le_trans (Nat.le_trans (Nat.le_trans (Nat.le_trans (Nat.le_trans (Nat.le_trans Z0 (Nat.le_of_eq W2.size.symm)) E4.1) (Nat.le_of_eq W5.size.symm)) E6.1) (Nat.le_of_eq W7.size.symm)) E8.1) (Nat.le_of_eq W9.size.symm)) E10.1) (Nat.le_of_eq W11.size.symm)) E12.1) (Nat.le_of_eq W13.size.symm)) E14.1) (Nat.le_of_eq W15.size.symm)) (Nat.le_of_eq g16.symm)
  have sz_b16 : h0.size ≤ b16 := Nat.le_trans ((((((((((((((Keep.refl h0 [cw]).wr W2 (Or.inl (by simp))).ext E4).wr W5 (Or.inl (by simp))).ext E6).wr W7 (Or.inl (by simp))).ext E8).wr W9 (Or.inl (by simp))).ext E10).wr W11 (Or.inl (by simp))).ext E12).wr W13 (Or.inl (by simp))).ext E14).wr W15 (Or.inl (by simp))).1 (Nat.le_of_eq g16.symm)
  have V16 : own_A Z h16 b16 .int (3 : Int32) (fun i => (.int ((fun _ => (0 : Int32)) i))) := own_A.new A16 (by decide)
  refine own_st (g' := (mkF m 60 #[.val (.ref cw), .val (.ref so), .val (.int (3 : Int32))] [(.ref b16), (.ref cw)])) st16 ?_
  obtain ⟨T17, h17, X17, e17, W17, st17⟩ := putF X16 hx hZ hown (host := "") (Or.inl (own_w hw 62 rfl)) Via.refl e16 ((((((((((((((Fi6.other W2 (Or.inr (slot_ne (Or.inr (own_w hw 63 rfl)) (Or.inr (own_w hw 44 rfl)) (by decide) (t := (.array .int)) (t' := (.object "com/example/procurator/procurator/model/RelationGraph$Steps")) (by decide) (by decide)))).ext E4).other W5 (Or.inr (slot_ne (Or.inr (own_w hw 63 rfl)) (Or.inr (own_w hw 50 rfl)) (by decide) (t := (.array .int)) (t' := (.array .int)) (by decide) (by decide)))).ext E6).other W7 (Or.inr (slot_ne (Or.inr (own_w hw 63 rfl)) (Or.inr (own_w hw 52 rfl)) (by decide) (t := (.array .int)) (t' := (.array .int)) (by decide) (by decide)))).ext E8).other W9 (Or.inr (slot_ne (Or.inr (own_w hw 63 rfl)) (Or.inr (own_w hw 54 rfl)) (by decide) (t := (.array .int)) (t' := (.array .int)) (by decide) (by decide)))).ext E10).other W11 (Or.inr (slot_ne (Or.inr (own_w hw 63 rfl)) (Or.inr (own_w hw 56 rfl)) (by decide) (t := (.array .int)) (t' := (.array .int)) (by decide) (by decide)))).ext E12).other W13 (Or.inr (slot_ne (Or.inr (own_w hw 63 rfl)) (Or.inr (own_w hw 59 rfl)) (by decide) (t := (.array .int)) (t' := (.array .boolean)) (by decide) (by decide)))).ext E14).other W15 (Or.inr (slot_ne (Or.inr (own_w hw 63 rfl)) (Or.inr (own_w hw 61 rfl)) (by decide) (t := (.array .int)) (t' := (.array .int)) (by decide) (by decide)))).ext E16) ((((((((((((((Ecw.wr W2).ext E4).wr W5).ext E6).wr W7).ext E8).wr W9).ext E10).wr W11).ext E12).wr W13).ext E14).wr W15).ext E16) (Or.inr ⟨(own_w hw 63 rfl), rfl, hnm⟩) (own_w hw 37 rfl) (ty := (.array .int)) (by decide) rfl rfl (g := (mkF m 60 #[.val (.ref cw), .val (.ref so), .val (.int (3 : Int32))] [(.ref b16), (.ref cw)])) rfl rfl (hb hby dci_60)
  have Fw17 := ((((((((((((((Fi6.other W2 (Or.inr (slot_ne (Or.inr (own_w hw 63 rfl)) (Or.inr (own_w hw 44 rfl)) (by decide) (t := (.array .int)) (t' := (.object "com/example/procurator/procurator/model/RelationGraph$Steps")) (by decide) (by decide)))).ext E4).other W5 (Or.inr (slot_ne (Or.inr (own_w hw 63 rfl)) (Or.inr (own_w hw 50 rfl)) (by decide) (t := (.array .int)) (t' := (.array .int)) (by decide) (by decide)))).ext E6).other W7 (Or.inr (slot_ne (Or.inr (own_w hw 63 rfl)) (Or.inr (own_w hw 52 rfl)) (by decide) (t := (.array .int)) (t' := (.array .int)) (by decide) (by decide)))).ext E8).other W9 (Or.inr (slot_ne (Or.inr (own_w hw 63 rfl)) (Or.inr (own_w hw 54 rfl)) (by decide) (t := (.array .int)) (t' := (.array .int)) (by decide) (by decide)))).ext E10).other W11 (Or.inr (slot_ne (Or.inr (own_w hw 63 rfl)) (Or.inr (own_w hw 56 rfl)) (by decide) (t := (.array .int)) (t' := (.array .int)) (by decide) (by decide)))).ext E12).other W13 (Or.inr (slot_ne (Or.inr (own_w hw 63 rfl)) (Or.inr (own_w hw 59 rfl)) (by decide) (t := (.array .int)) (t' := (.array .boolean)) (by decide) (by decide)))).ext E14).other W15 (Or.inr (slot_ne (Or.inr (own_w hw 63 rfl)) (Or.inr (own_w hw 61 rfl)) (by decide) (t := (.array .int)) (t' := (.array .int)) (by decide) (by decide)))).ext E16).same W17
  have N17 := Fr.snoc X17 N15 Gcw
  refine own_st (g' := (mkF m 63 #[.val (.ref cw), .val (.ref so), .val (.int (3 : Int32))] [])) st17 ?_
  exact own_retV X17 hx hlk hret (hb hby dci_63) (by rw [e17]; exact ⟨rfl, N17, ((((((((((((((((Keep.refl h0 [cw]).wr W2 (Or.inl (by simp))).ext E4).wr W5 (Or.inl (by simp))).ext E6).wr W7 (Or.inl (by simp))).ext E8).wr W9 (Or.inl (by simp))).ext E10).wr W11 (Or.inl (by simp))).ext E12).wr W13 (Or.inl (by simp))).ext E14).wr W15 (Or.inl (by simp))).ext E16).wr W17 (Or.inl (by simp))), b4, b6, b8, b10, b12, b14, b16, (List.nodup_cons.mpr ⟨(ninS (own_nd hd 0 1 (by decide) rfl rfl) (ninS (own_nd hd 0 2 (by decide) rfl rfl) (ninS (own_nd hd 0 3 (by decide) rfl rfl) (ninS (Nat.ne_of_lt (Nat.lt_of_lt_of_le (Eso.wr W2).lt (Nat.le_of_eq g4.symm))) (ninS (Nat.ne_of_lt (Nat.lt_of_lt_of_le (((Eso.wr W2).ext E4).wr W5).lt (Nat.le_of_eq g6.symm))) (ninS (Nat.ne_of_lt (Nat.lt_of_lt_of_le (((((Eso.wr W2).ext E4).wr W5).ext E6).wr W7).lt (Nat.le_of_eq g8.symm))) (ninS (Nat.ne_of_lt (Nat.lt_of_lt_of_le (((((((Eso.wr W2).ext E4).wr W5).ext E6).wr W7).ext E8).wr W9).lt (Nat.le_of_eq g10.symm))) (ninS (Nat.ne_of_lt (Nat.lt_of_lt_of_le (((((((((Eso.wr W2).ext E4).wr W5).ext E6).wr W7).ext E8).wr W9).ext E10).wr W11).lt (Nat.le_of_eq g12.symm))) (ninS (Nat.ne_of_lt (Nat.lt_of_lt_of_le (((((((((((Eso.wr W2).ext E4).wr W5).ext E6).wr W7).ext E8).wr W9).ext E10).wr W11).ext E12).wr W13).lt (Nat.le_of_eq g14.symm))) (ninS (Nat.ne_of_lt (Nat.lt_of_lt_of_le (((((((((((((Eso.wr W2).ext E4).wr W5).ext E6).wr W7).ext E8).wr W9).ext E10).wr W11).ext E12).wr W13).ext E14).wr W15).lt (Nat.le_of_eq g16.symm))) nin0)))))))))), (List.nodup_cons.mpr ⟨(ninS (own_nd hd 1 2 (by decide) rfl rfl) (ninS (own_nd hd 1 3 (by decide) rfl rfl) (ninS (Nat.ne_of_lt (Nat.lt_of_lt_of_le (AoF.other W2 (own_nd hd 1 3 (by decide) rfl rfl)).lt (Nat.le_of_eq g4.symm))) (ninS (Nat.ne_of_lt (Nat.lt_of_lt_of_le (((AoF.other W2 (own_nd hd 1 3 (by decide) rfl rfl)).ext E4).other W5 (own_nd hd 1 3 (by decide) rfl rfl)).lt (Nat.le_of_eq g6.symm))) (ninS (Nat.ne_of_lt (Nat.lt_of_lt_of_le (((((AoF.other W2 (own_nd hd 1 3 (by decide) rfl rfl)).ext E4).other W5 (own_nd hd 1 3 (by decide) rfl rfl)).ext E6).other W7 (own_nd hd 1 3 (by decide) rfl rfl)).lt (Nat.le_of_eq g8.symm))) (ninS (Nat.ne_of_lt (Nat.lt_of_lt_of_le (((((((AoF.other W2 (own_nd hd 1 3 (by decide) rfl rfl)).ext E4).other W5 (own_nd hd 1 3 (by decide) rfl rfl)).ext E6).other W7 (own_nd hd 1 3 (by decide) rfl rfl)).ext E8).other W9 (own_nd hd 1 3 (by decide) rfl rfl)).lt (Nat.le_of_eq g10.symm))) (ninS (Nat.ne_of_lt (Nat.lt_of_lt_of_le (((((((((AoF.other W2 (own_nd hd 1 3 (by decide) rfl rfl)).ext E4).other W5 (own_nd hd 1 3 (by decide) rfl rfl)).ext E6).other W7 (own_nd hd 1 3 (by decide) rfl rfl)).ext E8).other W9 (own_nd hd 1 3 (by decide) rfl rfl)).ext E10).other W11 (own_nd hd 1 3 (by decide) rfl rfl)).lt (Nat.le_of_eq g12.symm))) (ninS (Nat.ne_of_lt (Nat.lt_of_lt_of_le (((((((((((AoF.other W2 (own_nd hd 1 3 (by decide) rfl rfl)).ext E4).other W5 (own_nd hd 1 3 (by decide) rfl rfl)).ext E6).other W7 (own_nd hd 1 3 (by decide) rfl rfl)).ext E8).other W9 (own_nd hd 1 3 (by decide) rfl rfl)).ext E10).other W11 (own_nd hd 1 3 (by decide) rfl rfl)).ext E12).other W13 (own_nd hd 1 3 (by decide) rfl rfl)).lt (Nat.le_of_eq g14.symm))) (ninS (Nat.ne_of_lt (Nat.lt_of_lt_of_le (((((((((((((AoF.other W2 (own_nd hd 1 3 (by decide) rfl rfl)).ext E4).other W5 (own_nd hd 1 3 (by decide) rfl rfl)).ext E6).other W7 (own_nd hd 1 3 (by decide) rfl rfl)).ext E8).other W9 (own_nd hd 1 3 (by decide) rfl rfl)).ext E10).other W11 (own_nd hd 1 3 (by decide) rfl rfl)).ext E12).other W13 (own_nd hd 1 3 (by decide) rfl rfl)).ext E14).other W15 (own_nd hd 1 3 (by decide) rfl rfl)).lt (Nat.le_of_eq g16.symm))) nin0))))))))), (List.nodup_cons.mpr ⟨(ninS (own_nd hd 2 3 (by decide) rfl rfl) (ninS (Nat.ne_of_lt (Nat.lt_of_lt_of_le (AoT.other W2 (own_nd hd 2 3 (by decide) rfl rfl)).lt (Nat.le_of_eq g4.symm))) (ninS (Nat.ne_of_lt (Nat.lt_of_lt_of_le (((AoT.other W2 (own_nd hd 2 3 (by decide) rfl rfl)).ext E4).other W5 (own_nd hd 2 3 (by decide) rfl rfl)).lt (Nat.le_of_eq g6.symm))) (ninS (Nat.ne_of_lt (Nat.lt_of_lt_of_le (((((AoT.other W2 (own_nd hd 2 3 (by decide) rfl rfl)).ext E4).other W5 (own_nd hd 2 3 (by decide) rfl rfl)).ext E6).other W7 (own_nd hd 2 3 (by decide) rfl rfl)).lt (Nat.le_of_eq g8.symm))) (ninS (Nat.ne_of_lt (Nat.lt_of_lt_of_le (((((((AoT.other W2 (own_nd hd 2 3 (by decide) rfl rfl)).ext E4).other W5 (own_nd hd 2 3 (by decide) rfl rfl)).ext E6).other W7 (own_nd hd 2 3 (by decide) rfl rfl)).ext E8).other W9 (own_nd hd 2 3 (by decide) rfl rfl)).lt (Nat.le_of_eq g10.symm))) (ninS (Nat.ne_of_lt (Nat.lt_of_lt_of_le (((((((((AoT.other W2 (own_nd hd 2 3 (by decide) rfl rfl)).ext E4).other W5 (own_nd hd 2 3 (by decide) rfl rfl)).ext E6).other W7 (own_nd hd 2 3 (by decide) rfl rfl)).ext E8).other W9 (own_nd hd 2 3 (by decide) rfl rfl)).ext E10).other W11 (own_nd hd 2 3 (by decide) rfl rfl)).lt (Nat.le_of_eq g12.symm))) (ninS (Nat.ne_of_lt (Nat.lt_of_lt_of_le (((((((((((AoT.other W2 (own_nd hd 2 3 (by decide) rfl rfl)).ext E4).other W5 (own_nd hd 2 3 (by decide) rfl rfl)).ext E6).other W7 (own_nd hd 2 3 (by decide) rfl rfl)).ext E8).other W9 (own_nd hd 2 3 (by decide) rfl rfl)).ext E10).other W11 (own_nd hd 2 3 (by decide) rfl rfl)).ext E12).other W13 (own_nd hd 2 3 (by decide) rfl rfl)).lt (Nat.le_of_eq g14.symm))) (ninS (Nat.ne_of_lt (Nat.lt_of_lt_of_le (((((((((((((AoT.other W2 (own_nd hd 2 3 (by decide) rfl rfl)).ext E4).other W5 (own_nd hd 2 3 (by decide) rfl rfl)).ext E6).other W7 (own_nd hd 2 3 (by decide) rfl rfl)).ext E8).other W9 (own_nd hd 2 3 (by decide) rfl rfl)).ext E10).other W11 (own_nd hd 2 3 (by decide) rfl rfl)).ext E12).other W13 (own_nd hd 2 3 (by decide) rfl rfl)).ext E14).other W15 (own_nd hd 2 3 (by decide) rfl rfl)).lt (Nat.le_of_eq g16.symm))) nin0)))))))), (List.nodup_cons.mpr ⟨(ninS (Nat.ne_of_lt (Nat.lt_of_lt_of_le (Ecw.wr W2).lt (Nat.le_of_eq g4.symm))) (ninS (Nat.ne_of_lt (Nat.lt_of_lt_of_le (((Ecw.wr W2).ext E4).wr W5).lt (Nat.le_of_eq g6.symm))) (ninS (Nat.ne_of_lt (Nat.lt_of_lt_of_le (((((Ecw.wr W2).ext E4).wr W5).ext E6).wr W7).lt (Nat.le_of_eq g8.symm))) (ninS (Nat.ne_of_lt (Nat.lt_of_lt_of_le (((((((Ecw.wr W2).ext E4).wr W5).ext E6).wr W7).ext E8).wr W9).lt (Nat.le_of_eq g10.symm))) (ninS (Nat.ne_of_lt (Nat.lt_of_lt_of_le (((((((((Ecw.wr W2).ext E4).wr W5).ext E6).wr W7).ext E8).wr W9).ext E10).wr W11).lt (Nat.le_of_eq g12.symm))) (ninS (Nat.ne_of_lt (Nat.lt_of_lt_of_le (((((((((((Ecw.wr W2).ext E4).wr W5).ext E6).wr W7).ext E8).wr W9).ext E10).wr W11).ext E12).wr W13).lt (Nat.le_of_eq g14.symm))) (ninS (Nat.ne_of_lt (Nat.lt_of_lt_of_le (((((((((((((Ecw.wr W2).ext E4).wr W5).ext E6).wr W7).ext E8).wr W9).ext E10).wr W11).ext E12).wr W13).ext E14).wr W15).lt (Nat.le_of_eq g16.symm))) nin0))))))), (List.nodup_cons.mpr ⟨(ninS (Nat.ne_of_lt (Nat.lt_of_lt_of_le (V4.other W5 (Ne.symm (Nat.ne_of_lt (Nat.lt_of_lt_of_le (Ecw.wr W2).lt (Nat.le_of_eq g4.symm))))).lt (Nat.le_of_eq g6.symm))) (ninS (Nat.ne_of_lt (Nat.lt_of_lt_of_le (((V4.other W5 (Ne.symm (Nat.ne_of_lt (Nat.lt_of_lt_of_le (Ecw.wr W2).lt (Nat.le_of_eq g4.symm))))).ext E6).other W7 (Ne.symm (Nat.ne_of_lt (Nat.lt_of_lt_of_le (Ecw.wr W2).lt (Nat.le_of_eq g4.symm))))).lt (Nat.le_of_eq g8.symm))) (ninS (Nat.ne_of_lt (Nat.lt_of_lt_of_le (((((V4.other W5 (Ne.symm (Nat.ne_of_lt (Nat.lt_of_lt_of_le (Ecw.wr W2).lt (Nat.le_of_eq g4.symm))))).ext E6).other W7 (Ne.symm (Nat.ne_of_lt (Nat.lt_of_lt_of_le (Ecw.wr W2).lt (Nat.le_of_eq g4.symm))))).ext E8).other W9 (Ne.symm (Nat.ne_of_lt (Nat.lt_of_lt_of_le (Ecw.wr W2).lt (Nat.le_of_eq g4.symm))))).lt (Nat.le_of_eq g10.symm))) (ninS (Nat.ne_of_lt (Nat.lt_of_lt_of_le (((((((V4.other W5 (Ne.symm (Nat.ne_of_lt (Nat.lt_of_lt_of_le (Ecw.wr W2).lt (Nat.le_of_eq g4.symm))))).ext E6).other W7 (Ne.symm (Nat.ne_of_lt (Nat.lt_of_lt_of_le (Ecw.wr W2).lt (Nat.le_of_eq g4.symm))))).ext E8).other W9 (Ne.symm (Nat.ne_of_lt (Nat.lt_of_lt_of_le (Ecw.wr W2).lt (Nat.le_of_eq g4.symm))))).ext E10).other W11 (Ne.symm (Nat.ne_of_lt (Nat.lt_of_lt_of_le (Ecw.wr W2).lt (Nat.le_of_eq g4.symm))))).lt (Nat.le_of_eq g12.symm))) (ninS (Nat.ne_of_lt (Nat.lt_of_lt_of_le (((((((((V4.other W5 (Ne.symm (Nat.ne_of_lt (Nat.lt_of_lt_of_le (Ecw.wr W2).lt (Nat.le_of_eq g4.symm))))).ext E6).other W7 (Ne.symm (Nat.ne_of_lt (Nat.lt_of_lt_of_le (Ecw.wr W2).lt (Nat.le_of_eq g4.symm))))).ext E8).other W9 (Ne.symm (Nat.ne_of_lt (Nat.lt_of_lt_of_le (Ecw.wr W2).lt (Nat.le_of_eq g4.symm))))).ext E10).other W11 (Ne.symm (Nat.ne_of_lt (Nat.lt_of_lt_of_le (Ecw.wr W2).lt (Nat.le_of_eq g4.symm))))).ext E12).other W13 (Ne.symm (Nat.ne_of_lt (Nat.lt_of_lt_of_le (Ecw.wr W2).lt (Nat.le_of_eq g4.symm))))).lt (Nat.le_of_eq g14.symm))) (ninS (Nat.ne_of_lt (Nat.lt_of_lt_of_le (((((((((((V4.other W5 (Ne.symm (Nat.ne_of_lt (Nat.lt_of_lt_of_le (Ecw.wr W2).lt (Nat.le_of_eq g4.symm))))).ext E6).other W7 (Ne.symm (Nat.ne_of_lt (Nat.lt_of_lt_of_le (Ecw.wr W2).lt (Nat.le_of_eq g4.symm))))).ext E8).other W9 (Ne.symm (Nat.ne_of_lt (Nat.lt_of_lt_of_le (Ecw.wr W2).lt (Nat.le_of_eq g4.symm))))).ext E10).other W11 (Ne.symm (Nat.ne_of_lt (Nat.lt_of_lt_of_le (Ecw.wr W2).lt (Nat.le_of_eq g4.symm))))).ext E12).other W13 (Ne.symm (Nat.ne_of_lt (Nat.lt_of_lt_of_le (Ecw.wr W2).lt (Nat.le_of_eq g4.symm))))).ext E14).other W15 (Ne.symm (Nat.ne_of_lt (Nat.lt_of_lt_of_le (Ecw.wr W2).lt (Nat.le_of_eq g4.symm))))).lt (Nat.le_of_eq g16.symm))) nin0)))))), (List.nodup_cons.mpr ⟨(ninS (Nat.ne_of_lt (Nat.lt_of_lt_of_le (V6.other W7 (Ne.symm (Nat.ne_of_lt (Nat.lt_of_lt_of_le (((Ecw.wr W2).ext E4).wr W5).lt (Nat.le_of_eq g6.symm))))).lt (Nat.le_of_eq g8.symm))) (ninS (Nat.ne_of_lt (Nat.lt_of_lt_of_le (((V6.other W7 (Ne.symm (Nat.ne_of_lt (Nat.lt_of_lt_of_le (((Ecw.wr W2).ext E4).wr W5).lt (Nat.le_of_eq g6.symm))))).ext E8).other W9 (Ne.symm (Nat.ne_of_lt (Nat.lt_of_lt_of_le (((Ecw.wr W2).ext E4).wr W5).lt (Nat.le_of_eq g6.symm))))).lt (Nat.le_of_eq g10.symm))) (ninS (Nat.ne_of_lt (Nat.lt_of_lt_of_le (((((V6.other W7 (Ne.symm (Nat.ne_of_lt (Nat.lt_of_lt_of_le (((Ecw.wr W2).ext E4).wr W5).lt (Nat.le_of_eq g6.symm))))).ext E8).other W9 (Ne.symm (Nat.ne_of_lt (Nat.lt_of_lt_of_le (((Ecw.wr W2).ext E4).wr W5).lt (Nat.le_of_eq g6.symm))))).ext E10).other W11 (Ne.symm (Nat.ne_of_lt (Nat.lt_of_lt_of_le (((Ecw.wr W2).ext E4).wr W5).lt (Nat.le_of_eq g6.symm))))).lt (Nat.le_of_eq g12.symm))) (ninS (Nat.ne_of_lt (Nat.lt_of_lt_of_le (((((((V6.other W7 (Ne.symm (Nat.ne_of_lt (Nat.lt_of_lt_of_le (((Ecw.wr W2).ext E4).wr W5).lt (Nat.le_of_eq g6.symm))))).ext E8).other W9 (Ne.symm (Nat.ne_of_lt (Nat.lt_of_lt_of_le (((Ecw.wr W2).ext E4).wr W5).lt (Nat.le_of_eq g6.symm))))).ext E10).other W11 (Ne.symm (Nat.ne_of_lt (Nat.lt_of_lt_of_le (((Ecw.wr W2).ext E4).wr W5).lt (Nat.le_of_eq g6.symm))))).ext E12).other W13 (Ne.symm (Nat.ne_of_lt (Nat.lt_of_lt_of_le (((Ecw.wr W2).ext E4).wr W5).lt (Nat.le_of_eq g6.symm))))).lt (Nat.le_of_eq g14.symm))) (ninS (Nat.ne_of_lt (Nat.lt_of_lt_of_le (((((((((V6.other W7 (Ne.symm (Nat.ne_of_lt (Nat.lt_of_lt_of_le (((Ecw.wr W2).ext E4).wr W5).lt (Nat.le_of_eq g6.symm))))).ext E8).other W9 (Ne.symm (Nat.ne_of_lt (Nat.lt_of_lt_of_le (((Ecw.wr W2).ext E4).wr W5).lt (Nat.le_of_eq g6.symm))))).ext E10).other W11 (Ne.symm (Nat.ne_of_lt (Nat.lt_of_lt_of_le (((Ecw.wr W2).ext E4).wr W5).lt (Nat.le_of_eq g6.symm))))).ext E12).other W13 (Ne.symm (Nat.ne_of_lt (Nat.lt_of_lt_of_le (((Ecw.wr W2).ext E4).wr W5).lt (Nat.le_of_eq g6.symm))))).ext E14).other W15 (Ne.symm (Nat.ne_of_lt (Nat.lt_of_lt_of_le (((Ecw.wr W2).ext E4).wr W5).lt (Nat.le_of_eq g6.symm))))).lt (Nat.le_of_eq g16.symm))) nin0))))), (List.nodup_cons.mpr ⟨(ninS (Nat.ne_of_lt (Nat.lt_of_lt_of_le (V8.other W9 (Ne.symm (Nat.ne_of_lt (Nat.lt_of_lt_of_le (((((Ecw.wr W2).ext E4).wr W5).ext E6).wr W7).lt (Nat.le_of_eq g8.symm))))).lt (Nat.le_of_eq g10.symm))) (ninS (Nat.ne_of_lt (Nat.lt_of_lt_of_le (((V8.other W9 (Ne.symm (Nat.ne_of_lt (Nat.lt_of_lt_of_le (((((Ecw.wr W2).ext E4).wr W5).ext E6).wr W7).lt (Nat.le_of_eq g8.symm))))).ext E10).other W11 (Ne.symm (Nat.ne_of_lt (Nat.lt_of_lt_of_le (((((Ecw.wr W2).ext E4).wr W5).ext E6).wr W7).lt (Nat.le_of_eq g8.symm))))).lt (Nat.le_of_eq g12.symm))) (ninS (Nat.ne_of_lt (Nat.lt_of_lt_of_le (((((V8.other W9 (Ne.symm (Nat.ne_of_lt (Nat.lt_of_lt_of_le (((((Ecw.wr W2).ext E4).wr W5).ext E6).wr W7).lt (Nat.le_of_eq g8.symm))))).ext E10).other W11 (Ne.symm (Nat.ne_of_lt (Nat.lt_of_lt_of_le (((((Ecw.wr W2).ext E4).wr W5).ext E6).wr W7).lt (Nat.le_of_eq g8.symm))))).ext E12).other W13 (Ne.symm (Nat.ne_of_lt (Nat.lt_of_lt_of_le (((((Ecw.wr W2).ext E4).wr W5).ext E6).wr W7).lt (Nat.le_of_eq g8.symm))))).lt (Nat.le_of_eq g14.symm))) (ninS (Nat.ne_of_lt (Nat.lt_of_lt_of_le (((((((V8.other W9 (Ne.symm (Nat.ne_of_lt (Nat.lt_of_lt_of_le (((((Ecw.wr W2).ext E4).wr W5).ext E6).wr W7).lt (Nat.le_of_eq g8.symm))))).ext E10).other W11 (Ne.symm (Nat.ne_of_lt (Nat.lt_of_lt_of_le (((((Ecw.wr W2).ext E4).wr W5).ext E6).wr W7).lt (Nat.le_of_eq g8.symm))))).ext E12).other W13 (Ne.symm (Nat.ne_of_lt (Nat.lt_of_lt_of_le (((((Ecw.wr W2).ext E4).wr W5).ext E6).wr W7).lt (Nat.le_of_eq g8.symm))))).ext E14).other W15 (Ne.symm (Nat.ne_of_lt (Nat.lt_of_lt_of_le (((((Ecw.wr W2).ext E4).wr W5).ext E6).wr W7).lt (Nat.le_of_eq g8.symm))))).lt (Nat.le_of_eq g16.symm))) nin0)))), (List.nodup_cons.mpr ⟨(ninS (Nat.ne_of_lt (Nat.lt_of_lt_of_le (V10.other W11 (Ne.symm (Nat.ne_of_lt (Nat.lt_of_lt_of_le (((((((Ecw.wr W2).ext E4).wr W5).ext E6).wr W7).ext E8).wr W9).lt (Nat.le_of_eq g10.symm))))).lt (Nat.le_of_eq g12.symm))) (ninS (Nat.ne_of_lt (Nat.lt_of_lt_of_le (((V10.other W11 (Ne.symm (Nat.ne_of_lt (Nat.lt_of_lt_of_le (((((((Ecw.wr W2).ext E4).wr W5).ext E6).wr W7).ext E8).wr W9).lt (Nat.le_of_eq g10.symm))))).ext E12).other W13 (Ne.symm (Nat.ne_of_lt (Nat.lt_of_lt_of_le (((((((Ecw.wr W2).ext E4).wr W5).ext E6).wr W7).ext E8).wr W9).lt (Nat.le_of_eq g10.symm))))).lt (Nat.le_of_eq g14.symm))) (ninS (Nat.ne_of_lt (Nat.lt_of_lt_of_le (((((V10.other W11 (Ne.symm (Nat.ne_of_lt (Nat.lt_of_lt_of_le (((((((Ecw.wr W2).ext E4).wr W5).ext E6).wr W7).ext E8).wr W9).lt (Nat.le_of_eq g10.symm))))).ext E12).other W13 (Ne.symm (Nat.ne_of_lt (Nat.lt_of_lt_of_le (((((((Ecw.wr W2).ext E4).wr W5).ext E6).wr W7).ext E8).wr W9).lt (Nat.le_of_eq g10.symm))))).ext E14).other W15 (Ne.symm (Nat.ne_of_lt (Nat.lt_of_lt_of_le (((((((Ecw.wr W2).ext E4).wr W5).ext E6).wr W7).ext E8).wr W9).lt (Nat.le_of_eq g10.symm))))).lt (Nat.le_of_eq g16.symm))) nin0))), (List.nodup_cons.mpr ⟨(ninS (Nat.ne_of_lt (Nat.lt_of_lt_of_le (V12.other W13 (Ne.symm (Nat.ne_of_lt (Nat.lt_of_lt_of_le (((((((((Ecw.wr W2).ext E4).wr W5).ext E6).wr W7).ext E8).wr W9).ext E10).wr W11).lt (Nat.le_of_eq g12.symm))))).lt (Nat.le_of_eq g14.symm))) (ninS (Nat.ne_of_lt (Nat.lt_of_lt_of_le (((V12.other W13 (Ne.symm (Nat.ne_of_lt (Nat.lt_of_lt_of_le (((((((((Ecw.wr W2).ext E4).wr W5).ext E6).wr W7).ext E8).wr W9).ext E10).wr W11).lt (Nat.le_of_eq g12.symm))))).ext E14).other W15 (Ne.symm (Nat.ne_of_lt (Nat.lt_of_lt_of_le (((((((((Ecw.wr W2).ext E4).wr W5).ext E6).wr W7).ext E8).wr W9).ext E10).wr W11).lt (Nat.le_of_eq g12.symm))))).lt (Nat.le_of_eq g16.symm))) nin0)), (List.nodup_cons.mpr ⟨(ninS (Nat.ne_of_lt (Nat.lt_of_lt_of_le (V14.other W15 (Ne.symm (Nat.ne_of_lt (Nat.lt_of_lt_of_le (((((((((((Ecw.wr W2).ext E4).wr W5).ext E6).wr W7).ext E8).wr W9).ext E10).wr W11).ext E12).wr W13).lt (Nat.le_of_eq g14.symm))))).lt (Nat.le_of_eq g16.symm))) nin0), (List.nodup_cons.mpr ⟨nin0, List.nodup_nil⟩)⟩)⟩)⟩)⟩)⟩)⟩)⟩)⟩)⟩)⟩), (allS Gso (allS GoF (allS GoT (allS Gcw (allS G_b4 (allS G_b6 (allS G_b8 (allS G_b10 (allS G_b12 (allS G_b14 (allS G_b16 all0))))))))))), ⟨(((((((((((((((Eso.wr W2).ext E4).wr W5).ext E6).wr W7).ext E8).wr W9).ext E10).wr W11).ext E12).wr W13).ext E14).wr W15).ext E16).wr W17), (((((((((((((((Ffi.other W2 (Or.inl (own_nd hd 0 3 (by decide) rfl rfl))).ext E4).other W5 (Or.inl (own_nd hd 0 3 (by decide) rfl rfl))).ext E6).other W7 (Or.inl (own_nd hd 0 3 (by decide) rfl rfl))).ext E8).other W9 (Or.inl (own_nd hd 0 3 (by decide) rfl rfl))).ext E10).other W11 (Or.inl (own_nd hd 0 3 (by decide) rfl rfl))).ext E12).other W13 (Or.inl (own_nd hd 0 3 (by decide) rfl rfl))).ext E14).other W15 (Or.inl (own_nd hd 0 3 (by decide) rfl rfl))).ext E16).other W17 (Or.inl (own_nd hd 0 3 (by decide) rfl rfl))), (((((((((((((((Fto.other W2 (Or.inl (own_nd hd 0 3 (by decide) rfl rfl))).ext E4).other W5 (Or.inl (own_nd hd 0 3 (by decide) rfl rfl))).ext E6).other W7 (Or.inl (own_nd hd 0 3 (by decide) rfl rfl))).ext E8).other W9 (Or.inl (own_nd hd 0 3 (by decide) rfl rfl))).ext E10).other W11 (Or.inl (own_nd hd 0 3 (by decide) rfl rfl))).ext E12).other W13 (Or.inl (own_nd hd 0 3 (by decide) rfl rfl))).ext E14).other W15 (Or.inl (own_nd hd 0 3 (by decide) rfl rfl))).ext E16).other W17 (Or.inl (own_nd hd 0 3 (by decide) rfl rfl))), (((((((((((((((AoF.other W2 (own_nd hd 1 3 (by decide) rfl rfl)).ext E4).other W5 (own_nd hd 1 3 (by decide) rfl rfl)).ext E6).other W7 (own_nd hd 1 3 (by decide) rfl rfl)).ext E8).other W9 (own_nd hd 1 3 (by decide) rfl rfl)).ext E10).other W11 (own_nd hd 1 3 (by decide) rfl rfl)).ext E12).other W13 (own_nd hd 1 3 (by decide) rfl rfl)).ext E14).other W15 (own_nd hd 1 3 (by decide) rfl rfl)).ext E16).other W17 (own_nd hd 1 3 (by decide) rfl rfl)), (((((((((((((((AoT.other W2 (own_nd hd 2 3 (by decide) rfl rfl)).ext E4).other W5 (own_nd hd 2 3 (by decide) rfl rfl)).ext E6).other W7 (own_nd hd 2 3 (by decide) rfl rfl)).ext E8).other W9 (own_nd hd 2 3 (by decide) rfl rfl)).ext E10).other W11 (own_nd hd 2 3 (by decide) rfl rfl)).ext E12).other W13 (own_nd hd 2 3 (by decide) rfl rfl)).ext E14).other W15 (own_nd hd 2 3 (by decide) rfl rfl)).ext E16).other W17 (own_nd hd 2 3 (by decide) rfl rfl)), (((((((((((((((Ecw.wr W2).ext E4).wr W5).ext E6).wr W7).ext E8).wr W9).ext E10).wr W11).ext E12).wr W13).ext E14).wr W15).ext E16).wr W17), ((((((((((((((Fw2.ext E4).other W5 (Or.inr (slot_ne (Or.inr (own_w hw 44 rfl)) (Or.inr (own_w hw 50 rfl)) (by decide) (t := (.object "com/example/procurator/procurator/model/RelationGraph$Steps")) (t' := (.array .int)) (by decide) (by decide)))).ext E6).other W7 (Or.inr (slot_ne (Or.inr (own_w hw 44 rfl)) (Or.inr (own_w hw 52 rfl)) (by decide) (t := (.object "com/example/procurator/procurator/model/RelationGraph$Steps")) (t' := (.array .int)) (by decide) (by decide)))).ext E8).other W9 (Or.inr (slot_ne (Or.inr (own_w hw 44 rfl)) (Or.inr (own_w hw 54 rfl)) (by decide) (t := (.object "com/example/procurator/procurator/model/RelationGraph$Steps")) (t' := (.array .int)) (by decide) (by decide)))).ext E10).other W11 (Or.inr (slot_ne (Or.inr (own_w hw 44 rfl)) (Or.inr (own_w hw 56 rfl)) (by decide) (t := (.object "com/example/procurator/procurator/model/RelationGraph$Steps")) (t' := (.array .int)) (by decide) (by decide)))).ext E12).other W13 (Or.inr (slot_ne (Or.inr (own_w hw 44 rfl)) (Or.inr (own_w hw 59 rfl)) (by decide) (t := (.object "com/example/procurator/procurator/model/RelationGraph$Steps")) (t' := (.array .boolean)) (by decide) (by decide)))).ext E14).other W15 (Or.inr (slot_ne (Or.inr (own_w hw 44 rfl)) (Or.inr (own_w hw 61 rfl)) (by decide) (t := (.object "com/example/procurator/procurator/model/RelationGraph$Steps")) (t' := (.array .int)) (by decide) (by decide)))).ext E16).other W17 (Or.inr (slot_ne (Or.inr (own_w hw 44 rfl)) (Or.inr (own_w hw 63 rfl)) (by decide) (t := (.object "com/example/procurator/procurator/model/RelationGraph$Steps")) (t' := (.array .int)) (by decide) (by decide)))), ((((((((((((Fw5.ext E6).other W7 (Or.inr (slot_ne (Or.inr (own_w hw 50 rfl)) (Or.inr (own_w hw 52 rfl)) (by decide) (t := (.array .int)) (t' := (.array .int)) (by decide) (by decide)))).ext E8).other W9 (Or.inr (slot_ne (Or.inr (own_w hw 50 rfl)) (Or.inr (own_w hw 54 rfl)) (by decide) (t := (.array .int)) (t' := (.array .int)) (by decide) (by decide)))).ext E10).other W11 (Or.inr (slot_ne (Or.inr (own_w hw 50 rfl)) (Or.inr (own_w hw 56 rfl)) (by decide) (t := (.array .int)) (t' := (.array .int)) (by decide) (by decide)))).ext E12).other W13 (Or.inr (slot_ne (Or.inr (own_w hw 50 rfl)) (Or.inr (own_w hw 59 rfl)) (by decide) (t := (.array .int)) (t' := (.array .boolean)) (by decide) (by decide)))).ext E14).other W15 (Or.inr (slot_ne (Or.inr (own_w hw 50 rfl)) (Or.inr (own_w hw 61 rfl)) (by decide) (t := (.array .int)) (t' := (.array .int)) (by decide) (by decide)))).ext E16).other W17 (Or.inr (slot_ne (Or.inr (own_w hw 50 rfl)) (Or.inr (own_w hw 63 rfl)) (by decide) (t := (.array .int)) (t' := (.array .int)) (by decide) (by decide)))), ((((((((((Fw7.ext E8).other W9 (Or.inr (slot_ne (Or.inr (own_w hw 52 rfl)) (Or.inr (own_w hw 54 rfl)) (by decide) (t := (.array .int)) (t' := (.array .int)) (by decide) (by decide)))).ext E10).other W11 (Or.inr (slot_ne (Or.inr (own_w hw 52 rfl)) (Or.inr (own_w hw 56 rfl)) (by decide) (t := (.array .int)) (t' := (.array .int)) (by decide) (by decide)))).ext E12).other W13 (Or.inr (slot_ne (Or.inr (own_w hw 52 rfl)) (Or.inr (own_w hw 59 rfl)) (by decide) (t := (.array .int)) (t' := (.array .boolean)) (by decide) (by decide)))).ext E14).other W15 (Or.inr (slot_ne (Or.inr (own_w hw 52 rfl)) (Or.inr (own_w hw 61 rfl)) (by decide) (t := (.array .int)) (t' := (.array .int)) (by decide) (by decide)))).ext E16).other W17 (Or.inr (slot_ne (Or.inr (own_w hw 52 rfl)) (Or.inr (own_w hw 63 rfl)) (by decide) (t := (.array .int)) (t' := (.array .int)) (by decide) (by decide)))), ((((((((Fw9.ext E10).other W11 (Or.inr (slot_ne (Or.inr (own_w hw 54 rfl)) (Or.inr (own_w hw 56 rfl)) (by decide) (t := (.array .int)) (t' := (.array .int)) (by decide) (by decide)))).ext E12).other W13 (Or.inr (slot_ne (Or.inr (own_w hw 54 rfl)) (Or.inr (own_w hw 59 rfl)) (by decide) (t := (.array .int)) (t' := (.array .boolean)) (by decide) (by decide)))).ext E14).other W15 (Or.inr (slot_ne (Or.inr (own_w hw 54 rfl)) (Or.inr (own_w hw 61 rfl)) (by decide) (t := (.array .int)) (t' := (.array .int)) (by decide) (by decide)))).ext E16).other W17 (Or.inr (slot_ne (Or.inr (own_w hw 54 rfl)) (Or.inr (own_w hw 63 rfl)) (by decide) (t := (.array .int)) (t' := (.array .int)) (by decide) (by decide)))), ((((((Fw11.ext E12).other W13 (Or.inr (slot_ne (Or.inr (own_w hw 56 rfl)) (Or.inr (own_w hw 59 rfl)) (by decide) (t := (.array .int)) (t' := (.array .boolean)) (by decide) (by decide)))).ext E14).other W15 (Or.inr (slot_ne (Or.inr (own_w hw 56 rfl)) (Or.inr (own_w hw 61 rfl)) (by decide) (t := (.array .int)) (t' := (.array .int)) (by decide) (by decide)))).ext E16).other W17 (Or.inr (slot_ne (Or.inr (own_w hw 56 rfl)) (Or.inr (own_w hw 63 rfl)) (by decide) (t := (.array .int)) (t' := (.array .int)) (by decide) (by decide)))), ((((Fw13.ext E14).other W15 (Or.inr (slot_ne (Or.inr (own_w hw 59 rfl)) (Or.inr (own_w hw 61 rfl)) (by decide) (t := (.array .boolean)) (t' := (.array .int)) (by decide) (by decide)))).ext E16).other W17 (Or.inr (slot_ne (Or.inr (own_w hw 59 rfl)) (Or.inr (own_w hw 63 rfl)) (by decide) (t := (.array .boolean)) (t' := (.array .int)) (by decide) (by decide)))), ((Fw15.ext E16).other W17 (Or.inr (slot_ne (Or.inr (own_w hw 61 rfl)) (Or.inr (own_w hw 63 rfl)) (by decide) (t := (.array .int)) (t' := (.array .int)) (by decide) (by decide)))), Fw17, (((((((((((((((Fs0.other W2 (Or.inr (slot_ne (Or.inl (own_w hw 76 rfl)) (Or.inr (own_w hw 44 rfl)) (by decide) (t := .int) (t' := (.object "com/example/procurator/procurator/model/RelationGraph$Steps")) (by decide) (by decide)))).ext E4).other W5 (Or.inr (slot_ne (Or.inl (own_w hw 76 rfl)) (Or.inr (own_w hw 50 rfl)) (by decide) (t := .int) (t' := (.array .int)) (by decide) (by decide)))).ext E6).other W7 (Or.inr (slot_ne (Or.inl (own_w hw 76 rfl)) (Or.inr (own_w hw 52 rfl)) (by decide) (t := .int) (t' := (.array .int)) (by decide) (by decide)))).ext E8).other W9 (Or.inr (slot_ne (Or.inl (own_w hw 76 rfl)) (Or.inr (own_w hw 54 rfl)) (by decide) (t := .int) (t' := (.array .int)) (by decide) (by decide)))).ext E10).other W11 (Or.inr (slot_ne (Or.inl (own_w hw 76 rfl)) (Or.inr (own_w hw 56 rfl)) (by decide) (t := .int) (t' := (.array .int)) (by decide) (by decide)))).ext E12).other W13 (Or.inr (slot_ne (Or.inl (own_w hw 76 rfl)) (Or.inr (own_w hw 59 rfl)) (by decide) (t := .int) (t' := (.array .boolean)) (by decide) (by decide)))).ext E14).other W15 (Or.inr (slot_ne (Or.inl (own_w hw 76 rfl)) (Or.inr (own_w hw 61 rfl)) (by decide) (t := .int) (t' := (.array .int)) (by decide) (by decide)))).ext E16).other W17 (Or.inr (slot_ne (Or.inl (own_w hw 76 rfl)) (Or.inr (own_w hw 63 rfl)) (by decide) (t := .int) (t' := (.array .int)) (by decide) (by decide)))), (((((((((((((((Fs1.other W2 (Or.inr (slot_ne (Or.inl (own_w hw 78 rfl)) (Or.inr (own_w hw 44 rfl)) (by decide) (t := .int) (t' := (.object "com/example/procurator/procurator/model/RelationGraph$Steps")) (by decide) (by decide)))).ext E4).other W5 (Or.inr (slot_ne (Or.inl (own_w hw 78 rfl)) (Or.inr (own_w hw 50 rfl)) (by decide) (t := .int) (t' := (.array .int)) (by decide) (by decide)))).ext E6).other W7 (Or.inr (slot_ne (Or.inl (own_w hw 78 rfl)) (Or.inr (own_w hw 52 rfl)) (by decide) (t := .int) (t' := (.array .int)) (by decide) (by decide)))).ext E8).other W9 (Or.inr (slot_ne (Or.inl (own_w hw 78 rfl)) (Or.inr (own_w hw 54 rfl)) (by decide) (t := .int) (t' := (.array .int)) (by decide) (by decide)))).ext E10).other W11 (Or.inr (slot_ne (Or.inl (own_w hw 78 rfl)) (Or.inr (own_w hw 56 rfl)) (by decide) (t := .int) (t' := (.array .int)) (by decide) (by decide)))).ext E12).other W13 (Or.inr (slot_ne (Or.inl (own_w hw 78 rfl)) (Or.inr (own_w hw 59 rfl)) (by decide) (t := .int) (t' := (.array .boolean)) (by decide) (by decide)))).ext E14).other W15 (Or.inr (slot_ne (Or.inl (own_w hw 78 rfl)) (Or.inr (own_w hw 61 rfl)) (by decide) (t := .int) (t' := (.array .int)) (by decide) (by decide)))).ext E16).other W17 (Or.inr (slot_ne (Or.inl (own_w hw 78 rfl)) (Or.inr (own_w hw 63 rfl)) (by decide) (t := .int) (t' := (.array .int)) (by decide) (by decide)))), (((((((((((((((Fs2.other W2 (Or.inr (slot_ne (Or.inl (own_w hw 73 rfl)) (Or.inr (own_w hw 44 rfl)) (by decide) (t := .int) (t' := (.object "com/example/procurator/procurator/model/RelationGraph$Steps")) (by decide) (by decide)))).ext E4).other W5 (Or.inr (slot_ne (Or.inl (own_w hw 73 rfl)) (Or.inr (own_w hw 50 rfl)) (by decide) (t := .int) (t' := (.array .int)) (by decide) (by decide)))).ext E6).other W7 (Or.inr (slot_ne (Or.inl (own_w hw 73 rfl)) (Or.inr (own_w hw 52 rfl)) (by decide) (t := .int) (t' := (.array .int)) (by decide) (by decide)))).ext E8).other W9 (Or.inr (slot_ne (Or.inl (own_w hw 73 rfl)) (Or.inr (own_w hw 54 rfl)) (by decide) (t := .int) (t' := (.array .int)) (by decide) (by decide)))).ext E10).other W11 (Or.inr (slot_ne (Or.inl (own_w hw 73 rfl)) (Or.inr (own_w hw 56 rfl)) (by decide) (t := .int) (t' := (.array .int)) (by decide) (by decide)))).ext E12).other W13 (Or.inr (slot_ne (Or.inl (own_w hw 73 rfl)) (Or.inr (own_w hw 59 rfl)) (by decide) (t := .int) (t' := (.array .boolean)) (by decide) (by decide)))).ext E14).other W15 (Or.inr (slot_ne (Or.inl (own_w hw 73 rfl)) (Or.inr (own_w hw 61 rfl)) (by decide) (t := .int) (t' := (.array .int)) (by decide) (by decide)))).ext E16).other W17 (Or.inr (slot_ne (Or.inl (own_w hw 73 rfl)) (Or.inr (own_w hw 63 rfl)) (by decide) (t := .int) (t' := (.array .int)) (by decide) (by decide)))), (((((((((((((((Fs3.other W2 (Or.inr (slot_ne (Or.inl (own_w hw 93 rfl)) (Or.inr (own_w hw 44 rfl)) (by decide) (t := .int) (t' := (.object "com/example/procurator/procurator/model/RelationGraph$Steps")) (by decide) (by decide)))).ext E4).other W5 (Or.inr (slot_ne (Or.inl (own_w hw 93 rfl)) (Or.inr (own_w hw 50 rfl)) (by decide) (t := .int) (t' := (.array .int)) (by decide) (by decide)))).ext E6).other W7 (Or.inr (slot_ne (Or.inl (own_w hw 93 rfl)) (Or.inr (own_w hw 52 rfl)) (by decide) (t := .int) (t' := (.array .int)) (by decide) (by decide)))).ext E8).other W9 (Or.inr (slot_ne (Or.inl (own_w hw 93 rfl)) (Or.inr (own_w hw 54 rfl)) (by decide) (t := .int) (t' := (.array .int)) (by decide) (by decide)))).ext E10).other W11 (Or.inr (slot_ne (Or.inl (own_w hw 93 rfl)) (Or.inr (own_w hw 56 rfl)) (by decide) (t := .int) (t' := (.array .int)) (by decide) (by decide)))).ext E12).other W13 (Or.inr (slot_ne (Or.inl (own_w hw 93 rfl)) (Or.inr (own_w hw 59 rfl)) (by decide) (t := .int) (t' := (.array .boolean)) (by decide) (by decide)))).ext E14).other W15 (Or.inr (slot_ne (Or.inl (own_w hw 93 rfl)) (Or.inr (own_w hw 61 rfl)) (by decide) (t := .int) (t' := (.array .int)) (by decide) (by decide)))).ext E16).other W17 (Or.inr (slot_ne (Or.inl (own_w hw 93 rfl)) (Or.inr (own_w hw 63 rfl)) (by decide) (t := .int) (t' := (.array .int)) (by decide) (by decide)))), (((((((((((((V4.other W5 (Ne.symm (Nat.ne_of_lt (Nat.lt_of_lt_of_le (Ecw.wr W2).lt (Nat.le_of_eq g4.symm))))).ext E6).other W7 (Ne.symm (Nat.ne_of_lt (Nat.lt_of_lt_of_le (Ecw.wr W2).lt (Nat.le_of_eq g4.symm))))).ext E8).other W9 (Ne.symm (Nat.ne_of_lt (Nat.lt_of_lt_of_le (Ecw.wr W2).lt (Nat.le_of_eq g4.symm))))).ext E10).other W11 (Ne.symm (Nat.ne_of_lt (Nat.lt_of_lt_of_le (Ecw.wr W2).lt (Nat.le_of_eq g4.symm))))).ext E12).other W13 (Ne.symm (Nat.ne_of_lt (Nat.lt_of_lt_of_le (Ecw.wr W2).lt (Nat.le_of_eq g4.symm))))).ext E14).other W15 (Ne.symm (Nat.ne_of_lt (Nat.lt_of_lt_of_le (Ecw.wr W2).lt (Nat.le_of_eq g4.symm))))).ext E16).other W17 (Ne.symm (Nat.ne_of_lt (Nat.lt_of_lt_of_le (Ecw.wr W2).lt (Nat.le_of_eq g4.symm))))), (((((((((((V6.other W7 (Ne.symm (Nat.ne_of_lt (Nat.lt_of_lt_of_le (((Ecw.wr W2).ext E4).wr W5).lt (Nat.le_of_eq g6.symm))))).ext E8).other W9 (Ne.symm (Nat.ne_of_lt (Nat.lt_of_lt_of_le (((Ecw.wr W2).ext E4).wr W5).lt (Nat.le_of_eq g6.symm))))).ext E10).other W11 (Ne.symm (Nat.ne_of_lt (Nat.lt_of_lt_of_le (((Ecw.wr W2).ext E4).wr W5).lt (Nat.le_of_eq g6.symm))))).ext E12).other W13 (Ne.symm (Nat.ne_of_lt (Nat.lt_of_lt_of_le (((Ecw.wr W2).ext E4).wr W5).lt (Nat.le_of_eq g6.symm))))).ext E14).other W15 (Ne.symm (Nat.ne_of_lt (Nat.lt_of_lt_of_le (((Ecw.wr W2).ext E4).wr W5).lt (Nat.le_of_eq g6.symm))))).ext E16).other W17 (Ne.symm (Nat.ne_of_lt (Nat.lt_of_lt_of_le (((Ecw.wr W2).ext E4).wr W5).lt (Nat.le_of_eq g6.symm))))), (((((((((V8.other W9 (Ne.symm (Nat.ne_of_lt (Nat.lt_of_lt_of_le (((((Ecw.wr W2).ext E4).wr W5).ext E6).wr W7).lt (Nat.le_of_eq g8.symm))))).ext E10).other W11 (Ne.symm (Nat.ne_of_lt (Nat.lt_of_lt_of_le (((((Ecw.wr W2).ext E4).wr W5).ext E6).wr W7).lt (Nat.le_of_eq g8.symm))))).ext E12).other W13 (Ne.symm (Nat.ne_of_lt (Nat.lt_of_lt_of_le (((((Ecw.wr W2).ext E4).wr W5).ext E6).wr W7).lt (Nat.le_of_eq g8.symm))))).ext E14).other W15 (Ne.symm (Nat.ne_of_lt (Nat.lt_of_lt_of_le (((((Ecw.wr W2).ext E4).wr W5).ext E6).wr W7).lt (Nat.le_of_eq g8.symm))))).ext E16).other W17 (Ne.symm (Nat.ne_of_lt (Nat.lt_of_lt_of_le (((((Ecw.wr W2).ext E4).wr W5).ext E6).wr W7).lt (Nat.le_of_eq g8.symm))))), (((((((V10.other W11 (Ne.symm (Nat.ne_of_lt (Nat.lt_of_lt_of_le (((((((Ecw.wr W2).ext E4).wr W5).ext E6).wr W7).ext E8).wr W9).lt (Nat.le_of_eq g10.symm))))).ext E12).other W13 (Ne.symm (Nat.ne_of_lt (Nat.lt_of_lt_of_le (((((((Ecw.wr W2).ext E4).wr W5).ext E6).wr W7).ext E8).wr W9).lt (Nat.le_of_eq g10.symm))))).ext E14).other W15 (Ne.symm (Nat.ne_of_lt (Nat.lt_of_lt_of_le (((((((Ecw.wr W2).ext E4).wr W5).ext E6).wr W7).ext E8).wr W9).lt (Nat.le_of_eq g10.symm))))).ext E16).other W17 (Ne.symm (Nat.ne_of_lt (Nat.lt_of_lt_of_le (((((((Ecw.wr W2).ext E4).wr W5).ext E6).wr W7).ext E8).wr W9).lt (Nat.le_of_eq g10.symm))))), (((((V12.other W13 (Ne.symm (Nat.ne_of_lt (Nat.lt_of_lt_of_le (((((((((Ecw.wr W2).ext E4).wr W5).ext E6).wr W7).ext E8).wr W9).ext E10).wr W11).lt (Nat.le_of_eq g12.symm))))).ext E14).other W15 (Ne.symm (Nat.ne_of_lt (Nat.lt_of_lt_of_le (((((((((Ecw.wr W2).ext E4).wr W5).ext E6).wr W7).ext E8).wr W9).ext E10).wr W11).lt (Nat.le_of_eq g12.symm))))).ext E16).other W17 (Ne.symm (Nat.ne_of_lt (Nat.lt_of_lt_of_le (((((((((Ecw.wr W2).ext E4).wr W5).ext E6).wr W7).ext E8).wr W9).ext E10).wr W11).lt (Nat.le_of_eq g12.symm))))), (((V14.other W15 (Ne.symm (Nat.ne_of_lt (Nat.lt_of_lt_of_le (((((((((((Ecw.wr W2).ext E4).wr W5).ext E6).wr W7).ext E8).wr W9).ext E10).wr W11).ext E12).wr W13).lt (Nat.le_of_eq g14.symm))))).ext E16).other W17 (Ne.symm (Nat.ne_of_lt (Nat.lt_of_lt_of_le (((((((((((Ecw.wr W2).ext E4).wr W5).ext E6).wr W7).ext E8).wr W9).ext E10).wr W11).ext E12).wr W13).lt (Nat.le_of_eq g14.symm))))), (V16.other W17 (Ne.symm (Nat.ne_of_lt (Nat.lt_of_lt_of_le (((((((((((((Ecw.wr W2).ext E4).wr W5).ext E6).wr W7).ext E8).wr W9).ext E10).wr W11).ext E12).wr W13).ext E14).wr W15).lt (Nat.le_of_eq g16.symm)))))⟩⟩) (by decide) (by decide)
theorem own_nea {Z : State} {h : Heap} {a b : Addr} {C : String} {a0 : Array Value} {k : Nat} {ty : FieldType} {n : Int32} {f : Int32 → Value} (E : Exa Z h a C) (wi : (Jvm.Cond.instantiable C k).before a0 Z = true) (F : own_A Z h b ty n f) : a ≠ b := by
  obtain ⟨c, A, -⟩ := F; exact ne_arr E wi A
def own_ST (Z : State) (h : Heap) (so oF oT : Addr) (fF fT : Int32 → Int32) (sz fr : Int32) : Prop :=
  Exa Z h so "com/example/procurator/procurator/model/RelationGraph$Steps" ∧ Fld Z h so "com/example/procurator/procurator/model/RelationGraph$Steps" "first" "[I" (.ref oF) ∧ Fld Z h so "com/example/procurator/procurator/model/RelationGraph$Steps" "to" "[I" (.ref oT) ∧ Fld Z h so "com/example/procurator/procurator/model/RelationGraph$Steps" "size" "I" (.int sz) ∧ Fld Z h so "com/example/procurator/procurator/model/RelationGraph$Steps" "from" "I" (.int fr) ∧ own_A Z h oF .int (4 : Int32) (fun i => (.int (fF i))) ∧ own_A Z h oT .int (3 : Int32) (fun i => (.int (fT i)))
def own_rch (fS : Int32 → Int32) (u v : Int32) : Int32 := if u = v then 1 else if (fS u) = v then 1 else if (fS u) < 3 then (if (fS (fS u)) = v then 1 else 0) else 0
def own_ex (fS : Int32 → Int32) (x y : Int32) : Int32 := if own_rch fS x y = 0 then 0 else if own_rch fS y x = 0 then 0 else 1
def own_chk (fF fT fS : Int32 → Int32) (x y : Int32) : Bool :=
  match own_s1 fF fT ((fun _ => (0 : Int32)), (fun _ => (0 : Int32)), (fun _ => (0 : Int32)), (fun _ => (0 : Int32)), (fun _ => (0 : Int32)), (fun _ => (0 : Int32)), (fun _ => (0 : Int32)), (0 : Int32), (0 : Int32), (0 : Int32), (0 : Int32)) 0 with
  | none => false
  | some qa =>
    match own_s1 fF fT qa 1 with
    | none => false
    | some qb =>
      match own_s1 fF fT qb 2 with
      | none => false
      | some q' => decide ((if q'.2.2.2.1 x = q'.2.2.2.1 y then (1 : Int32) else (0 : Int32)) = own_ex fS x y)
theorem own_chk_ok {fF fT fS : Int32 → Int32} {x y : Int32} (h : own_chk fF fT fS x y = true) : ∃ qa qb q', own_s1 fF fT ((fun _ => (0 : Int32)), (fun _ => (0 : Int32)), (fun _ => (0 : Int32)), (fun _ => (0 : Int32)), (fun _ => (0 : Int32)), (fun _ => (0 : Int32)), (fun _ => (0 : Int32)), (0 : Int32), (0 : Int32), (0 : Int32), (0 : Int32)) (0 : Int32) = some qa ∧ own_s1 fF fT qa (1 : Int32) = some qb ∧ own_s1 fF fT qb (2 : Int32) = some q' ∧ (if q'.2.2.2.1 x = q'.2.2.2.1 y then (1 : Int32) else (0 : Int32)) = own_ex fS x y := by
  unfold own_chk at h
  cases h1 : own_s1 fF fT ((fun _ => (0 : Int32)), (fun _ => (0 : Int32)), (fun _ => (0 : Int32)), (fun _ => (0 : Int32)), (fun _ => (0 : Int32)), (fun _ => (0 : Int32)), (fun _ => (0 : Int32)), (0 : Int32), (0 : Int32), (0 : Int32), (0 : Int32)) 0 with
  | none => rw [h1] at h; cases h
  | some qa =>
    rw [h1] at h; dsimp only at h
    cases h2 : own_s1 fF fT qa 1 with
    | none => rw [h2] at h; cases h
    | some qb =>
      rw [h2] at h; dsimp only at h
      cases h3 : own_s1 fF fT qb 2 with
      | none => rw [h3] at h; cases h
      | some q' => rw [h3] at h; exact ⟨qa, qb, q', rfl, h2, h3, of_decide_eq_true h⟩
abbrev own_ok (v : Int32) : Prop := v = 0 ∨ v = 1 ∨ v = 2
theorem own_okin {v : Int32} (h : own_ok v) : own_in3 v := by rcases h with rfl | rfl | rfl <;> decide
theorem drg_0 : decode prog_72_method_1_code 0 = .ok (.aload_n 0, 1) := by decide +kernel
theorem drg_1 : decode prog_72_method_1_code 1 = .ok (.invokespecial 1, 3) := by decide +kernel
theorem drg_4 : decode prog_72_method_1_code 4 = .ok (.aload_n 0, 1) := by decide +kernel
theorem drg_5 : decode prog_72_method_1_code 5 = .ok (.new 7, 3) := by decide +kernel
theorem drg_8 : decode prog_72_method_1_code 8 = .ok (.dup, 1) := by decide +kernel
theorem drg_9 : decode prog_72_method_1_code 9 = .ok (.aload_n 1, 1) := by decide +kernel
theorem drg_10 : decode prog_72_method_1_code 10 = .ok (.invokespecial 9, 3) := by decide +kernel
theorem drg_13 : decode prog_72_method_1_code 13 = .ok (.invokevirtual 12, 3) := by decide +kernel
theorem drg_16 : decode prog_72_method_1_code 16 = .ok (.putfield 16, 3) := by decide +kernel
theorem drg_19 : decode prog_72_method_1_code 19 = .ok (.return_, 1) := by decide +kernel
theorem pn_rg : plainName "com/example/procurator/procurator/model/RelationGraph" = true := by first | (simp [plainName, overriddenIn]; done) | decide +kernel
theorem ef_rg (m : MethodId) (x0 : Addr) (x1 : Addr) : entryFrame m #[(.ref x0), (.ref x1)] 2 = mkF m 0 #[.val (.ref x0), .val (.ref x1)] [] := by first | (simp [entryFrame, mkF, argsToLocals, Value.category]; done) | rfl
set_option maxRecDepth 65536 in
set_option maxHeartbeats 40000000 in
theorem rmrg (l : Launch) (Z : State) (a0 : Array Value) (hw : ∀ d ∈ tables_1, d.before a0 Z = true) (ws : List Jvm.Cond) (go so oF oT : Addr) (fF fT : Int32 → Int32) (qa qb q' : own_CS) (h0 : Heap) (n0 : Nat) (Z0 : n0 ≤ h0.size) (Eso : Exa Z h0 so "com/example/procurator/procurator/model/RelationGraph$Steps") (Ffi : Fld Z h0 so "com/example/procurator/procurator/model/RelationGraph$Steps" "first" "[I" (.ref oF)) (Fto : Fld Z h0 so "com/example/procurator/procurator/model/RelationGraph$Steps" "to" "[I" (.ref oT)) (AoF : own_A Z h0 oF .int (4 : Int32) (fun i => (.int (fF i)))) (AoT : own_A Z h0 oT .int (3 : Int32) (fun i => (.int (fT i)))) (Gso : n0 ≤ so) (GoF : n0 ≤ oF) (GoT : n0 ≤ oT) (Ego : Exa Z h0 go "com/example/procurator/procurator/model/RelationGraph") (Ggo : n0 ≤ go) (Fgo : Fld Z h0 go "com/example/procurator/procurator/model/RelationGraph" "circleOf" "[I" .null) (hd : [so, oF, oT, go].Nodup) (hm0 : own_s1 fF fT ((fun _ => (0 : Int32)), (fun _ => (0 : Int32)), (fun _ => (0 : Int32)), (fun _ => (0 : Int32)), (fun _ => (0 : Int32)), (fun _ => (0 : Int32)), (fun _ => (0 : Int32)), (0 : Int32), (0 : Int32), (0 : Int32), (0 : Int32)) (0 : Int32) = some qa) (hm1 : own_s1 fF fT qa (1 : Int32) = some qb) (hm2 : own_s1 fF fT qb (2 : Int32) = some q') :
    own_Met l Z ws (⟨"com/example/procurator/procurator/model/RelationGraph", "<init>", "(Lcom/example/procurator/procurator/model/RelationGraph$Steps;)V"⟩ : MethodName) prog_72_method_1_code 2 none ({ frames := 4, cells := 8, slots := 33, locals := 60 } : Room) ({ frames := 4, cells := 8, slots := 33, locals := 60 } : Room).cells ({ frames := 4, cells := 8, slots := 33, locals := 60 } : Room).slots #[(.ref go), (.ref so)] h0 (fun v h L => v = none ∧ Fr n0 L ∧ n0 ≤ h.size ∧ ∃ a4, Exa Z h go "com/example/procurator/procurator/model/RelationGraph" ∧ Fld Z h go "com/example/procurator/procurator/model/RelationGraph" "circleOf" "[I" (.ref a4) ∧ own_A Z h a4 .int (3 : Int32) (fun i => (.int (q'.2.2.2.1 i)))) := by
  refine own_body (plainFor_of_name pn_rg) ?_
  intro p e s m below meth c s₁ hx hby hml hown hnm hlk hret hZ hh X0 e0
  have N0 := Fr.nil n0
  refine own_cast (ef_rg m go so) ?_
  refine own_st (T' := s₁) (g' := (mkF m 1 #[.val (.ref go), .val (.ref so)] [(.ref go)])) (fun _ k => XS.aloadN X0.here hx rfl (hb hby drg_0) rfl rfl k) ?_
  obtain ⟨T1, X1, e1, st1⟩ := initO X0 hx hZ hown (own_w hw 35 rfl) (own_w hw 8 rfl) (own_w hw 9 rfl) e0 (g := (mkF m 1 #[.val (.ref go), .val (.ref so)] [(.ref go)])) rfl (by rw [hml]; rfl) rfl (hb hby drg_1) (by decide) (W := 0) (by show 2 * 0 + _ ≤ _; exact Nat.le_of_eq rfl) (by decide)
  refine own_st (g' := (mkF m 4 #[.val (.ref go), .val (.ref so)] [])) st1 ?_
  refine own_st (T' := T1) (g' := (mkF m 5 #[.val (.ref go), .val (.ref so)] [(.ref go)])) (fun _ k => XS.aloadN X1.here hx rfl (hb hby drg_4) rfl rfl k) ?_
  obtain ⟨T2, h2, X2, e2, E2, A2, D2, -, st2⟩ := newO X1 hx hZ hown (own_w hw 36 rfl) (own_w hw 37 rfl) (own_w hw 38 rfl) e1 (g := (mkF m 5 #[.val (.ref go), .val (.ref so)] [(.ref go)])) rfl (hb hby drg_5) (by decide) (by decide)
  obtain ⟨b2, g2⟩ : ∃ z, z = h0.size := ⟨_, rfl⟩
  rw [← g2] at A2 D2 st2
  have G_b2 : n0 ≤ b2 := Nat.le_trans Z0 (Nat.le_of_eq g2.symm)
  have F2_steps : Fld Z h2 b2 "com/example/procurator/procurator/model/RelationGraph$CircleWalk" "steps" "Lcom/example/procurator/procurator/model/RelationGraph$Steps;" .null := D2 (Or.inr (own_w hw 44 rfl)) (ty := (.object "com/example/procurator/procurator/model/RelationGraph$Steps")) (by decide)
  have F2_entered : Fld Z h2 b2 "com/example/procurator/procurator/model/RelationGraph$CircleWalk" "entered" "[I" .null := D2 (Or.inr (own_w hw 50 rfl)) (ty := (.array .int)) (by decide)
  have F2_earliest : Fld Z h2 b2 "com/example/procurator/procurator/model/RelationGraph$CircleWalk" "earliest" "[I" .null := D2 (Or.inr (own_w hw 52 rfl)) (ty := (.array .int)) (by decide)
  have F2_nextStep : Fld Z h2 b2 "com/example/procurator/procurator/model/RelationGraph$CircleWalk" "nextStep" "[I" .null := D2 (Or.inr (own_w hw 54 rfl)) (ty := (.array .int)) (by decide)
  have F2_circleOf : Fld Z h2 b2 "com/example/procurator/procurator/model/RelationGraph$CircleWalk" "circleOf" "[I" .null := D2 (Or.inr (own_w hw 56 rfl)) (ty := (.array .int)) (by decide)
  have F2_open : Fld Z h2 b2 "com/example/procurator/procurator/model/RelationGraph$CircleWalk" "open" "[Z" .null := D2 (Or.inr (own_w hw 59 rfl)) (ty := (.array .boolean)) (by decide)
  have F2_unclosed : Fld Z h2 b2 "com/example/procurator/procurator/model/RelationGraph$CircleWalk" "unclosed" "[I" .null := D2 (Or.inr (own_w hw 61 rfl)) (ty := (.array .int)) (by decide)
  have F2_path : Fld Z h2 b2 "com/example/procurator/procurator/model/RelationGraph$CircleWalk" "path" "[I" .null := D2 (Or.inr (own_w hw 63 rfl)) (ty := (.array .int)) (by decide)
  have F2_entries : Fld Z h2 b2 "com/example/procurator/procurator/model/RelationGraph$CircleWalk" "entries" "I" (.int (0 : Int32)) := D2 (Or.inl (own_w hw 73 rfl)) (ty := .int) (by decide)
  have F2_unclosedSize : Fld Z h2 b2 "com/example/procurator/procurator/model/RelationGraph$CircleWalk" "unclosedSize" "I" (.int (0 : Int32)) := D2 (Or.inl (own_w hw 76 rfl)) (ty := .int) (by decide)
  have F2_pathSize : Fld Z h2 b2 "com/example/procurator/procurator/model/RelationGraph$CircleWalk" "pathSize" "I" (.int (0 : Int32)) := D2 (Or.inl (own_w hw 78 rfl)) (ty := .int) (by decide)
  have F2_circles : Fld Z h2 b2 "com/example/procurator/procurator/model/RelationGraph$CircleWalk" "circles" "I" (.int (0 : Int32)) := D2 (Or.inl (own_w hw 93 rfl)) (ty := .int) (by decide)
  refine own_st (g' := (mkF m 8 #[.val (.ref go), .val (.ref so)] [(.ref b2), (.ref go)])) st2 ?_
  refine own_st (T' := T2) (g' := (mkF m 9 #[.val (.ref go), .val (.ref so)] [(.ref b2), (.ref b2), (.ref go)])) (fun _ k => XS.dup X2.here hx rfl (hb hby drg_8) rfl rfl k) ?_
  refine own_st (T' := T2) (g' := (mkF m 10 #[.val (.ref go), .val (.ref so)] [(.ref so), (.ref b2), (.ref b2), (.ref go)])) (fun _ k => XS.aloadN X2.here hx rfl (hb hby drg_9) rfl rfl k) ?_
  refine own_callCR X2 hx hZ (y := (⟨"com/example/procurator/procurator/model/RelationGraph$CircleWalk", "<init>", "(Lcom/example/procurator/procurator/model/RelationGraph$Steps;)V"⟩ : MethodName)) rfl hown (own_w hw 39 rfl) (own_w hw 40 rfl) (own_w hw 41 rfl) (own_w hw 38 rfl) (by decide) (W := 2) e2 (b := b2) (argsL := [(.ref so)]) (rest := [(.ref b2), (.ref go)]) (rmci l Z a0 hw [] so oF oT b2 fF fT h2 n0 (Nat.le_trans Z0 E2.1) (Eso.ext E2) (Ffi.ext E2) (Fto.ext E2) (AoF.ext E2) (AoT.ext E2) Gso GoF GoT A2 G_b2 F2_steps F2_entered F2_earliest F2_nextStep F2_circleOf F2_open F2_unclosed F2_path F2_unclosedSize F2_pathSize F2_entries F2_circles (List.nodup_cons.mpr ⟨(ninS (own_nd hd 0 1 (by decide) rfl rfl) (ninS (own_nd hd 0 2 (by decide) rfl rfl) (ninS (Nat.ne_of_lt (Nat.lt_of_lt_of_le Eso.lt (Nat.le_of_eq g2.symm))) nin0))), (List.nodup_cons.mpr ⟨(ninS (own_nd hd 1 2 (by decide) rfl rfl) (ninS (Nat.ne_of_lt (Nat.lt_of_lt_of_le AoF.lt (Nat.le_of_eq g2.symm))) nin0)), (List.nodup_cons.mpr ⟨(ninS (Nat.ne_of_lt (Nat.lt_of_lt_of_le AoT.lt (Nat.le_of_eq g2.symm))) nin0), (List.nodup_cons.mpr ⟨nin0, List.nodup_nil⟩)⟩)⟩)⟩)) (by decide) (by decide) (by decide) (by decide) (g := (mkF m 10 #[.val (.ref go), .val (.ref so)] [(.ref so), (.ref b2), (.ref b2), (.ref go)])) rfl (by rw [hml]; rfl) (lenOf own_pd4 rfl) rfl (by show 2 * 0 + _ ≤ _; exact Nat.le_of_eq rfl) (hb hby drg_10) ?_
  rintro _ T3 L3 X3 ⟨rfl, N3q, K3, a1, a2, a3, a4, a5, a6, a7, hd3, hG3, hq_3⟩
  show own_Go _ _ _ _ _ _ _ T3 (mkF m 13 #[.val (.ref go), .val (.ref so)] [(.ref b2), (.ref go)])
  have N3 := Fr.app N0 N3q
  refine own_callPR X3 hx hZ (y := (⟨"com/example/procurator/procurator/model/RelationGraph$CircleWalk", "run", "()[I"⟩ : MethodName)) hown (own_w hw 64 rfl) (own_w hw 65 rfl) (own_w hw 37 rfl) (own_w hw 66 rfl) (own_w hw 67 rfl) (own_w hw 38 rfl) (by decide) (W := 1) rfl (b := b2) hq_3.2.2.2.2.2.1 (argsL := []) (rest := [(.ref go)]) (rmrn l Z a0 hw [] so oF oT b2 a1 a2 a3 a4 a5 a6 a7 fF fT ((fun _ => (0 : Int32)), (fun _ => (0 : Int32)), (fun _ => (0 : Int32)), (fun _ => (0 : Int32)), (fun _ => (0 : Int32)), (fun _ => (0 : Int32)), (fun _ => (0 : Int32)), (0 : Int32), (0 : Int32), (0 : Int32), (0 : Int32)) qa qb q' T3.heap n0 (Nat.le_trans (Nat.le_trans Z0 E2.1) K3.1) hd3 hG3 hq_3 hm0 hm1 hm2) (by decide) (by decide) (by decide) (by decide) (g := (mkF m 13 #[.val (.ref go), .val (.ref so)] [(.ref b2), (.ref go)])) rfl (by rw [hml]; rfl) (lenOf own_pd5 rfl) rfl (by show 2 * 0 + _ ≤ _; exact Nat.le_of_eq rfl) (hb hby drg_13) ?_
  rintro _ T4 L4 X4 ⟨rfl, N4q, K4, hq_4⟩
  show own_Go _ _ _ _ _ _ _ T4 (mkF m 16 #[.val (.ref go), .val (.ref so)] [(.ref a4), (.ref go)])
  have N4 := Fr.app N3 N4q
  obtain ⟨T5, h5, X5, e5, W5, st5⟩ := putF X4 hx hZ hown (host := "") (Or.inl (own_w hw 94 rfl)) Via.refl rfl (((Fgo.ext E2).keep K3 (ninS (Nat.ne_of_lt (Nat.lt_of_lt_of_le Ego.lt (Nat.le_of_eq g2.symm))) nin0)).keep K4 (ninS (Nat.ne_of_lt (Nat.lt_of_lt_of_le Ego.lt (Nat.le_of_eq g2.symm))) (ninS (own_nea ((Ego.ext E2).keep K3) (own_w hw 30 rfl) hq_3.2.2.2.2.2.2.2.2.2.2.2.2.2.2.2.2.2.2.1) (ninS (own_nea ((Ego.ext E2).keep K3) (own_w hw 30 rfl) hq_3.2.2.2.2.2.2.2.2.2.2.2.2.2.2.2.2.2.2.2.1) (ninS (own_nea ((Ego.ext E2).keep K3) (own_w hw 30 rfl) hq_3.2.2.2.2.2.2.2.2.2.2.2.2.2.2.2.2.2.2.2.2.1) (ninS (own_nea ((Ego.ext E2).keep K3) (own_w hw 30 rfl) hq_3.2.2.2.2.2.2.2.2.2.2.2.2.2.2.2.2.2.2.2.2.2.1) (ninS (own_nea ((Ego.ext E2).keep K3) (own_w hw 30 rfl) hq_3.2.2.2.2.2.2.2.2.2.2.2.2.2.2.2.2.2.2.2.2.2.2.1) (ninS (own_nea ((Ego.ext E2).keep K3) (own_w hw 30 rfl) hq_3.2.2.2.2.2.2.2.2.2.2.2.2.2.2.2.2.2.2.2.2.2.2.2.1) (ninS (own_nea ((Ego.ext E2).keep K3) (own_w hw 30 rfl) hq_3.2.2.2.2.2.2.2.2.2.2.2.2.2.2.2.2.2.2.2.2.2.2.2.2) nin0))))))))) (((Ego.ext E2).keep K3).keep K4) (Or.inr ⟨(own_w hw 95 rfl), rfl, hnm⟩) (own_w hw 30 rfl) (ty := (.array .int)) (by decide) rfl rfl (g := (mkF m 16 #[.val (.ref go), .val (.ref so)] [(.ref a4), (.ref go)])) rfl rfl (hb hby drg_16)
  have Fw5 := (((Fgo.ext E2).keep K3 (ninS (Nat.ne_of_lt (Nat.lt_of_lt_of_le Ego.lt (Nat.le_of_eq g2.symm))) nin0)).keep K4 (ninS (Nat.ne_of_lt (Nat.lt_of_lt_of_le Ego.lt (Nat.le_of_eq g2.symm))) (ninS (own_nea ((Ego.ext E2).keep K3) (own_w hw 30 rfl) hq_3.2.2.2.2.2.2.2.2.2.2.2.2.2.2.2.2.2.2.1) (ninS (own_nea ((Ego.ext E2).keep K3) (own_w hw 30 rfl) hq_3.2.2.2.2.2.2.2.2.2.2.2.2.2.2.2.2.2.2.2.1) (ninS (own_nea ((Ego.ext E2).keep K3) (own_w hw 30 rfl) hq_3.2.2.2.2.2.2.2.2.2.2.2.2.2.2.2.2.2.2.2.2.1) (ninS (own_nea ((Ego.ext E2).keep K3) (own_w hw 30 rfl) hq_3.2.2.2.2.2.2.2.2.2.2.2.2.2.2.2.2.2.2.2.2.2.1) (ninS (own_nea ((Ego.ext E2).keep K3) (own_w hw 30 rfl) hq_3.2.2.2.2.2.2.2.2.2.2.2.2.2.2.2.2.2.2.2.2.2.2.1) (ninS (own_nea ((Ego.ext E2).keep K3) (own_w hw 30 rfl) hq_3.2.2.2.2.2.2.2.2.2.2.2.2.2.2.2.2.2.2.2.2.2.2.2.1) (ninS (own_nea ((Ego.ext E2).keep K3) (own_w hw 30 rfl) hq_3.2.2.2.2.2.2.2.2.2.2.2.2.2.2.2.2.2.2.2.2.2.2.2.2) nin0))))))))).same W5
  have N5 := Fr.snoc X5 N4 Ggo
  refine own_st (g' := (mkF m 19 #[.val (.ref go), .val (.ref so)] [])) st5 ?_
  exact own_retV X5 hx hlk hret (hb hby drg_19) (by rw [e5]; exact ⟨rfl, N5, (Nat.le_trans (Nat.le_trans (Nat.le_trans (Nat.le_trans Z0 E2.1) K3.1) K4.1) (Nat.le_of_eq W5.size.symm)), a4, ((((Ego.ext E2).keep K3).keep K4).wr W5), Fw5, (hq_4.2.2.2.2.2.2.2.2.2.2.2.2.2.2.2.2.2.2.2.2.2.1.other W5 (Ne.symm (own_nea (((Ego.ext E2).keep K3).keep K4) (own_w hw 30 rfl) hq_4.2.2.2.2.2.2.2.2.2.2.2.2.2.2.2.2.2.2.2.2.2.1)))⟩) (by decide) (by decide)
theorem doc_0 : decode prog_72_method_2_code 0 = .ok (.aload_n 0, 1) := by decide +kernel
theorem doc_1 : decode prog_72_method_2_code 1 = .ok (.getfield 16, 3) := by decide +kernel
theorem doc_4 : decode prog_72_method_2_code 4 = .ok (.iload_n 1, 1) := by decide +kernel
theorem doc_5 : decode prog_72_method_2_code 5 = .ok (.iaload, 1) := by decide +kernel
theorem doc_6 : decode prog_72_method_2_code 6 = .ok (.aload_n 0, 1) := by decide +kernel
theorem doc_7 : decode prog_72_method_2_code 7 = .ok (.getfield 16, 3) := by decide +kernel
theorem doc_10 : decode prog_72_method_2_code 10 = .ok (.iload_n 2, 1) := by decide +kernel
theorem doc_11 : decode prog_72_method_2_code 11 = .ok (.iaload, 1) := by decide +kernel
theorem doc_12 : decode prog_72_method_2_code 12 = .ok (.if_icmp .ne 7, 3) := by decide +kernel
theorem doc_15 : decode prog_72_method_2_code 15 = .ok (.iconst 1, 1) := by decide +kernel
theorem doc_16 : decode prog_72_method_2_code 16 = .ok (.goto 4, 3) := by decide +kernel
theorem doc_19 : decode prog_72_method_2_code 19 = .ok (.iconst 0, 1) := by decide +kernel
theorem doc_20 : decode prog_72_method_2_code 20 = .ok (.ireturn, 1) := by decide +kernel
theorem pn_oc : plainName "com/example/procurator/procurator/model/RelationGraph" = true := by first | (simp [plainName, overriddenIn]; done) | decide +kernel
theorem ef_oc (m : MethodId) (x0 : Addr) (x1 : Int32) (x2 : Int32) : entryFrame m #[(.ref x0), (.int x1), (.int x2)] 3 = mkF m 0 #[.val (.ref x0), .val (.int x1), .val (.int x2)] [] := by first | (simp [entryFrame, mkF, argsToLocals, Value.category]; done) | rfl
set_option maxRecDepth 65536 in
set_option maxHeartbeats 40000000 in
theorem rmoc (l : Launch) (Z : State) (a0 : Array Value) (hw : ∀ d ∈ tables_1, d.before a0 Z = true) (ws : List Jvm.Cond) (go a4 : Addr) (fC : Int32 → Int32) (p1 p2 : Int32) (h0 : Heap) (n0 : Nat) (Z0 : n0 ≤ h0.size) (Fgo : Fld Z h0 go "com/example/procurator/procurator/model/RelationGraph" "circleOf" "[I" (.ref a4)) (Ac : own_A Z h0 a4 .int (3 : Int32) (fun i => (.int (fC i)))) (h1 : own_in3 p1) (h2 : own_in3 p2) :
    own_Met l Z ws (⟨"com/example/procurator/procurator/model/RelationGraph", "inOneCircle", "(II)Z"⟩ : MethodName) prog_72_method_2_code 3 (some .boolean) ({ frames := 0, cells := 0, slots := 0, locals := 0 } : Room) ({ frames := 0, cells := 0, slots := 0, locals := 0 } : Room).cells ({ frames := 0, cells := 0, slots := 0, locals := 0 } : Room).slots #[(.ref go), (.int p1), (.int p2)] h0 (fun v h L => v = some (.int (if (fC p1) = (fC p2) then (1 : Int32) else (0 : Int32))) ∧ Fr n0 L ∧ h = h0) := by
  refine own_body (plainFor_of_name pn_oc) ?_
  intro p e s m below meth c s₁ hx hby hml hown hnm hlk hret hZ hh X0 e0
  have N0 := Fr.nil n0
  refine own_cast (ef_oc m go p1 p2) ?_
  refine own_st (T' := s₁) (g' := (mkF m 1 #[.val (.ref go), .val (.int p1), .val (.int p2)] [(.ref go)])) (fun _ k => XS.aloadN X0.here hx rfl (hb hby doc_0) rfl rfl k) ?_
  obtain ⟨T1, X1, e1, st1⟩ := getF X0 hx hZ hown (host := "") (Or.inl (own_w hw 94 rfl)) Via.refl e0 Fgo (g := (mkF m 1 #[.val (.ref go), .val (.int p1), .val (.int p2)] [(.ref go)])) rfl rfl (hb hby doc_1)
  refine own_st (g' := (mkF m 4 #[.val (.ref go), .val (.int p1), .val (.int p2)] [(.ref a4)])) st1 ?_
  refine own_st (T' := T1) (g' := (mkF m 5 #[.val (.ref go), .val (.int p1), .val (.int p2)] [(.int p1), (.ref a4)])) (fun _ k => XS.iloadN X1.here hx rfl (hb hby doc_4) rfl k) ?_
  obtain ⟨cl2, Ar2, S2, M2, H2⟩ := id Ac
  refine own_st (T' := T1) (g' := (mkF m 6 #[.val (.ref go), .val (.int p1), .val (.int p2)] [(.int (fC p1))])) (fun _ k => X1.iaload hx (j := p1) (v := (.int (fC p1))) (by rw [e1]; exact Ar2.1) (State.isArrayOf_alike hZ.alike Ar2.2.1) Ar2.2.2 (inb_of S2 ⟨h1.1, h1.2⟩) (H2 _ h1.1 h1.2) (g := (mkF m 5 #[.val (.ref go), .val (.int p1), .val (.int p2)] [(.int p1), (.ref a4)])) rfl rfl (hb hby doc_5) _ k) ?_
  refine own_st (T' := T1) (g' := (mkF m 7 #[.val (.ref go), .val (.int p1), .val (.int p2)] [(.ref go), (.int (fC p1))])) (fun _ k => XS.aloadN X1.here hx rfl (hb hby doc_6) rfl rfl k) ?_
  obtain ⟨T3, X3, e3, st3⟩ := getF X1 hx hZ hown (host := "") (Or.inl (own_w hw 94 rfl)) Via.refl e1 Fgo (g := (mkF m 7 #[.val (.ref go), .val (.int p1), .val (.int p2)] [(.ref go), (.int (fC p1))])) rfl rfl (hb hby doc_7)
  refine own_st (g' := (mkF m 10 #[.val (.ref go), .val (.int p1), .val (.int p2)] [(.ref a4), (.int (fC p1))])) st3 ?_
  refine own_st (T' := T3) (g' := (mkF m 11 #[.val (.ref go), .val (.int p1), .val (.int p2)] [(.int p2), (.ref a4), (.int (fC p1))])) (fun _ k => XS.iloadN X3.here hx rfl (hb hby doc_10) rfl k) ?_
  obtain ⟨cl4, Ar4, S4, M4, H4⟩ := id Ac
  refine own_st (T' := T3) (g' := (mkF m 12 #[.val (.ref go), .val (.int p1), .val (.int p2)] [(.int (fC p2)), (.int (fC p1))])) (fun _ k => X3.iaload hx (j := p2) (v := (.int (fC p2))) (by rw [e3]; exact Ar4.1) (State.isArrayOf_alike hZ.alike Ar4.2.1) Ar4.2.2 (inb_of S4 ⟨h2.1, h2.2⟩) (H4 _ h2.1 h2.2) (g := (mkF m 11 #[.val (.ref go), .val (.int p1), .val (.int p2)] [(.int p2), (.ref a4), (.int (fC p1))])) rfl rfl (hb hby doc_11) _ k) ?_
  by_cases hc12_5 : (fC p1) = (fC p2)
  · refine own_st (T' := T3) (g' := (mkF m 15 #[.val (.ref go), .val (.int p1), .val (.int p2)] [])) (fun _ k => XS.icmpNo X3.here hx rfl (hb hby doc_12) rfl (teq hc12_5).2 k) ?_
    refine own_st (T' := T3) (g' := (mkF m 16 #[.val (.ref go), .val (.int p1), .val (.int p2)] [(.int (1 : Int32))])) (fun _ k => XS.iconst X3.here hx rfl (hb hby doc_15) k) ?_
    refine own_st (T' := T3) (g' := (mkF m 20 #[.val (.ref go), .val (.int p1), .val (.int p2)] [(.int (1 : Int32))])) (fun _ k => XS.goto X3.here hx rfl (pc0 := 16) (pc' := 20) rfl (hb hby doc_16) (by decide) (by decide) k) ?_
    exact own_retN X3 hx hlk hret (by simp) (hb hby doc_20) ⟨by rw [if_pos hc12_5]; rfl, N0, e3⟩ (by decide) (by decide)
  · refine own_st (T' := T3) (g' := (mkF m 19 #[.val (.ref go), .val (.int p1), .val (.int p2)] [])) (fun _ k => XS.icmpYes X3.here hx rfl (pc0 := 12) (pc' := 19) rfl (hb hby doc_12) rfl (feq hc12_5).2 (by decide) (by decide) k) ?_
    refine own_st (T' := T3) (g' := (mkF m 20 #[.val (.ref go), .val (.int p1), .val (.int p2)] [(.int (0 : Int32))])) (fun _ k => XS.iconst X3.here hx rfl (hb hby doc_19) k) ?_
    exact own_retN X3 hx hlk hret (by simp) (hb hby doc_20) ⟨by rw [if_neg hc12_5]; rfl, N0, e3⟩ (by decide) (by decide)
theorem drc_0 : decode method_2_code 0 = .ok (.iload_n 1, 1) := by decide +kernel
theorem drc_1 : decode method_2_code 1 = .ok (.iload_n 2, 1) := by decide +kernel
theorem drc_2 : decode method_2_code 2 = .ok (.if_icmp .ne 5, 3) := by decide +kernel
theorem drc_5 : decode method_2_code 5 = .ok (.iconst 1, 1) := by decide +kernel
theorem drc_6 : decode method_2_code 6 = .ok (.ireturn, 1) := by decide +kernel
theorem drc_7 : decode method_2_code 7 = .ok (.aload_n 0, 1) := by decide +kernel
theorem drc_8 : decode method_2_code 8 = .ok (.iload_n 1, 1) := by decide +kernel
theorem drc_9 : decode method_2_code 9 = .ok (.iaload, 1) := by decide +kernel
theorem drc_10 : decode method_2_code 10 = .ok (.istore_n 3, 1) := by decide +kernel
theorem drc_11 : decode method_2_code 11 = .ok (.iload_n 3, 1) := by decide +kernel
theorem drc_12 : decode method_2_code 12 = .ok (.iload_n 2, 1) := by decide +kernel
theorem drc_13 : decode method_2_code 13 = .ok (.if_icmp .ne 5, 3) := by decide +kernel
theorem drc_16 : decode method_2_code 16 = .ok (.iconst 1, 1) := by decide +kernel
theorem drc_17 : decode method_2_code 17 = .ok (.ireturn, 1) := by decide +kernel
theorem drc_18 : decode method_2_code 18 = .ok (.iload_n 3, 1) := by decide +kernel
theorem drc_19 : decode method_2_code 19 = .ok (.iconst 3, 1) := by decide +kernel
theorem drc_20 : decode method_2_code 20 = .ok (.if_icmp .ge 12, 3) := by decide +kernel
theorem drc_23 : decode method_2_code 23 = .ok (.aload_n 0, 1) := by decide +kernel
theorem drc_24 : decode method_2_code 24 = .ok (.iload_n 3, 1) := by decide +kernel
theorem drc_25 : decode method_2_code 25 = .ok (.iaload, 1) := by decide +kernel
theorem drc_26 : decode method_2_code 26 = .ok (.iload_n 2, 1) := by decide +kernel
theorem drc_27 : decode method_2_code 27 = .ok (.if_icmp .ne 5, 3) := by decide +kernel
theorem drc_30 : decode method_2_code 30 = .ok (.iconst 1, 1) := by decide +kernel
theorem drc_31 : decode method_2_code 31 = .ok (.ireturn, 1) := by decide +kernel
theorem drc_32 : decode method_2_code 32 = .ok (.iconst 0, 1) := by decide +kernel
theorem drc_33 : decode method_2_code 33 = .ok (.ireturn, 1) := by decide +kernel
theorem pn_rc : plainName "com/example/procurator/procurator/model/StepsNextPinLaw" = true := by first | (simp [plainName, overriddenIn]; done) | decide +kernel
theorem ef_rc (m : MethodId) (x0 : Addr) (x1 : Int32) (x2 : Int32) : entryFrame m #[(.ref x0), (.int x1), (.int x2)] 4 = mkF m 0 #[.val (.ref x0), .val (.int x1), .val (.int x2), .unset] [] := by first | (simp [entryFrame, mkF, argsToLocals, Value.category]; done) | rfl
set_option maxRecDepth 65536 in
set_option maxHeartbeats 40000000 in
theorem rmrc (l : Launch) (Z : State) (a0 : Array Value) (hw : ∀ d ∈ tables_1, d.before a0 Z = true) (ws : List Jvm.Cond) (sa : Addr) (fS : Int32 → Int32) (p1 p2 : Int32) (h0 : Heap) (n0 : Nat) (Z0 : n0 ≤ h0.size) (Ac : own_A Z h0 sa .int (3 : Int32) (fun i => (.int (fS i)))) (h1 : own_in3 p1) (hn : ¬ (fS p1) < 0) :
    own_Met l Z ws (⟨"com/example/procurator/procurator/model/StepsNextPinLaw", "reach", "([III)Z"⟩ : MethodName) method_2_code 4 (some .boolean) ({ frames := 0, cells := 0, slots := 0, locals := 0 } : Room) ({ frames := 0, cells := 0, slots := 0, locals := 0 } : Room).cells ({ frames := 0, cells := 0, slots := 0, locals := 0 } : Room).slots #[(.ref sa), (.int p1), (.int p2)] h0 (fun v h L => v = some (.int (own_rch fS p1 p2)) ∧ Fr n0 L ∧ h = h0) := by
  refine own_body (plainFor_of_name pn_rc) ?_
  intro p e s m below meth c s₁ hx hby hml hown hnm hlk hret hZ hh X0 e0
  have N0 := Fr.nil n0
  refine own_cast (ef_rc m sa p1 p2) ?_
  refine own_st (T' := s₁) (g' := (mkF m 1 #[.val (.ref sa), .val (.int p1), .val (.int p2), .unset] [(.int p1)])) (fun _ k => XS.iloadN X0.here hx rfl (hb hby drc_0) rfl k) ?_
  refine own_st (T' := s₁) (g' := (mkF m 2 #[.val (.ref sa), .val (.int p1), .val (.int p2), .unset] [(.int p2), (.int p1)])) (fun _ k => XS.iloadN X0.here hx rfl (hb hby drc_1) rfl k) ?_
  by_cases hc2_1 : p1 = p2
  · refine own_st (T' := s₁) (g' := (mkF m 5 #[.val (.ref sa), .val (.int p1), .val (.int p2), .unset] [])) (fun _ k => XS.icmpNo X0.here hx rfl (hb hby drc_2) rfl (teq hc2_1).2 k) ?_
    refine own_st (T' := s₁) (g' := (mkF m 6 #[.val (.ref sa), .val (.int p1), .val (.int p2), .unset] [(.int (1 : Int32))])) (fun _ k => XS.iconst X0.here hx rfl (hb hby drc_5) k) ?_
    exact own_retN X0 hx hlk hret (by simp) (hb hby drc_6) ⟨by unfold own_rch; rw [if_pos hc2_1]; rfl, N0, e0⟩ (by decide) (by decide)
  · refine own_st (T' := s₁) (g' := (mkF m 7 #[.val (.ref sa), .val (.int p1), .val (.int p2), .unset] [])) (fun _ k => XS.icmpYes X0.here hx rfl (pc0 := 2) (pc' := 7) rfl (hb hby drc_2) rfl (feq hc2_1).2 (by decide) (by decide) k) ?_
    refine own_st (T' := s₁) (g' := (mkF m 8 #[.val (.ref sa), .val (.int p1), .val (.int p2), .unset] [(.ref sa)])) (fun _ k => XS.aloadN X0.here hx rfl (hb hby drc_7) rfl rfl k) ?_
    refine own_st (T' := s₁) (g' := (mkF m 9 #[.val (.ref sa), .val (.int p1), .val (.int p2), .unset] [(.int p1), (.ref sa)])) (fun _ k => XS.iloadN X0.here hx rfl (hb hby drc_8) rfl k) ?_
    obtain ⟨cl2, Ar2, S2, M2, H2⟩ := id Ac
    refine own_st (T' := s₁) (g' := (mkF m 10 #[.val (.ref sa), .val (.int p1), .val (.int p2), .unset] [(.int (fS p1))])) (fun _ k => X0.iaload hx (j := p1) (v := (.int (fS p1))) (by rw [e0]; exact Ar2.1) (State.isArrayOf_alike hZ.alike Ar2.2.1) Ar2.2.2 (inb_of S2 ⟨h1.1, h1.2⟩) (H2 _ h1.1 h1.2) (g := (mkF m 9 #[.val (.ref sa), .val (.int p1), .val (.int p2), .unset] [(.int p1), (.ref sa)])) rfl rfl (hb hby drc_9) _ k) ?_
    refine own_st (T' := s₁) (g' := (mkF m 11 #[.val (.ref sa), .val (.int p1), .val (.int p2), .val (.int (fS p1))] [])) (fun _ k => XS.istoreN X0.here hx rfl (hb hby drc_10) rfl (l' := #[.val (.ref sa), .val (.int p1), .val (.int p2), .val (.int (fS p1))]) rfl k) ?_
    refine own_st (T' := s₁) (g' := (mkF m 12 #[.val (.ref sa), .val (.int p1), .val (.int p2), .val (.int (fS p1))] [(.int (fS p1))])) (fun _ k => XS.iloadN X0.here hx rfl (hb hby drc_11) rfl k) ?_
    refine own_st (T' := s₁) (g' := (mkF m 13 #[.val (.ref sa), .val (.int p1), .val (.int p2), .val (.int (fS p1))] [(.int p2), (.int (fS p1))])) (fun _ k => XS.iloadN X0.here hx rfl (hb hby drc_12) rfl k) ?_
    by_cases hc13_3 : (fS p1) = p2
    · refine own_st (T' := s₁) (g' := (mkF m 16 #[.val (.ref sa), .val (.int p1), .val (.int p2), .val (.int (fS p1))] [])) (fun _ k => XS.icmpNo X0.here hx rfl (hb hby drc_13) rfl (teq hc13_3).2 k) ?_
      refine own_st (T' := s₁) (g' := (mkF m 17 #[.val (.ref sa), .val (.int p1), .val (.int p2), .val (.int (fS p1))] [(.int (1 : Int32))])) (fun _ k => XS.iconst X0.here hx rfl (hb hby drc_16) k) ?_
      exact own_retN X0 hx hlk hret (by simp) (hb hby drc_17) ⟨by unfold own_rch; rw [if_neg hc2_1, if_pos hc13_3]; rfl, N0, e0⟩ (by decide) (by decide)
    · refine own_st (T' := s₁) (g' := (mkF m 18 #[.val (.ref sa), .val (.int p1), .val (.int p2), .val (.int (fS p1))] [])) (fun _ k => XS.icmpYes X0.here hx rfl (pc0 := 13) (pc' := 18) rfl (hb hby drc_13) rfl (feq hc13_3).2 (by decide) (by decide) k) ?_
      refine own_st (T' := s₁) (g' := (mkF m 19 #[.val (.ref sa), .val (.int p1), .val (.int p2), .val (.int (fS p1))] [(.int (fS p1))])) (fun _ k => XS.iloadN X0.here hx rfl (hb hby drc_18) rfl k) ?_
      refine own_st (T' := s₁) (g' := (mkF m 20 #[.val (.ref sa), .val (.int p1), .val (.int p2), .val (.int (fS p1))] [(.int (3 : Int32)), (.int (fS p1))])) (fun _ k => XS.iconst X0.here hx rfl (hb hby drc_19) k) ?_
      by_cases hc20_4 : (fS p1) < (3 : Int32)
      · refine own_st (T' := s₁) (g' := (mkF m 23 #[.val (.ref sa), .val (.int p1), .val (.int p2), .val (.int (fS p1))] [])) (fun _ k => XS.icmpNo X0.here hx rfl (hb hby drc_20) rfl (tlt hc20_4).2.1 k) ?_
        refine own_st (T' := s₁) (g' := (mkF m 24 #[.val (.ref sa), .val (.int p1), .val (.int p2), .val (.int (fS p1))] [(.ref sa)])) (fun _ k => XS.aloadN X0.here hx rfl (hb hby drc_23) rfl rfl k) ?_
        refine own_st (T' := s₁) (g' := (mkF m 25 #[.val (.ref sa), .val (.int p1), .val (.int p2), .val (.int (fS p1))] [(.int (fS p1)), (.ref sa)])) (fun _ k => XS.iloadN X0.here hx rfl (hb hby drc_24) rfl k) ?_
        obtain ⟨cl5, Ar5, S5, M5, H5⟩ := id Ac
        refine own_st (T' := s₁) (g' := (mkF m 26 #[.val (.ref sa), .val (.int p1), .val (.int p2), .val (.int (fS p1))] [(.int (fS (fS p1)))])) (fun _ k => X0.iaload hx (j := (fS p1)) (v := (.int (fS (fS p1)))) (by rw [e0]; exact Ar5.1) (State.isArrayOf_alike hZ.alike Ar5.2.1) Ar5.2.2 (inb_of S5 ⟨hn, hc20_4⟩) (H5 _ hn hc20_4) (g := (mkF m 25 #[.val (.ref sa), .val (.int p1), .val (.int p2), .val (.int (fS p1))] [(.int (fS p1)), (.ref sa)])) rfl rfl (hb hby drc_25) _ k) ?_
        refine own_st (T' := s₁) (g' := (mkF m 27 #[.val (.ref sa), .val (.int p1), .val (.int p2), .val (.int (fS p1))] [(.int p2), (.int (fS (fS p1)))])) (fun _ k => XS.iloadN X0.here hx rfl (hb hby drc_26) rfl k) ?_
        by_cases hc27_6 : (fS (fS p1)) = p2
        · refine own_st (T' := s₁) (g' := (mkF m 30 #[.val (.ref sa), .val (.int p1), .val (.int p2), .val (.int (fS p1))] [])) (fun _ k => XS.icmpNo X0.here hx rfl (hb hby drc_27) rfl (teq hc27_6).2 k) ?_
          refine own_st (T' := s₁) (g' := (mkF m 31 #[.val (.ref sa), .val (.int p1), .val (.int p2), .val (.int (fS p1))] [(.int (1 : Int32))])) (fun _ k => XS.iconst X0.here hx rfl (hb hby drc_30) k) ?_
          exact own_retN X0 hx hlk hret (by simp) (hb hby drc_31) ⟨by unfold own_rch; rw [if_neg hc2_1, if_neg hc13_3, if_pos hc20_4, if_pos hc27_6]; rfl, N0, e0⟩ (by decide) (by decide)
        · refine own_st (T' := s₁) (g' := (mkF m 32 #[.val (.ref sa), .val (.int p1), .val (.int p2), .val (.int (fS p1))] [])) (fun _ k => XS.icmpYes X0.here hx rfl (pc0 := 27) (pc' := 32) rfl (hb hby drc_27) rfl (feq hc27_6).2 (by decide) (by decide) k) ?_
          refine own_st (T' := s₁) (g' := (mkF m 33 #[.val (.ref sa), .val (.int p1), .val (.int p2), .val (.int (fS p1))] [(.int (0 : Int32))])) (fun _ k => XS.iconst X0.here hx rfl (hb hby drc_32) k) ?_
          exact own_retN X0 hx hlk hret (by simp) (hb hby drc_33) ⟨by unfold own_rch; rw [if_neg hc2_1, if_neg hc13_3, if_pos hc20_4, if_neg hc27_6]; rfl, N0, e0⟩ (by decide) (by decide)
      · refine own_st (T' := s₁) (g' := (mkF m 32 #[.val (.ref sa), .val (.int p1), .val (.int p2), .val (.int (fS p1))] [])) (fun _ k => XS.icmpYes X0.here hx rfl (pc0 := 20) (pc' := 32) rfl (hb hby drc_20) rfl (flt hc20_4).2.1 (by decide) (by decide) k) ?_
        refine own_st (T' := s₁) (g' := (mkF m 33 #[.val (.ref sa), .val (.int p1), .val (.int p2), .val (.int (fS p1))] [(.int (0 : Int32))])) (fun _ k => XS.iconst X0.here hx rfl (hb hby drc_32) k) ?_
        exact own_retN X0 hx hlk hret (by simp) (hb hby drc_33) ⟨by unfold own_rch; rw [if_neg hc2_1, if_neg hc13_3, if_neg hc20_4]; rfl, N0, e0⟩ (by decide) (by decide)
theorem dnx_0 : decode prog_74_method_3_code 0 = .ok (.aload_n 0, 1) := by decide +kernel
theorem dnx_1 : decode prog_74_method_3_code 1 = .ok (.dup, 1) := by decide +kernel
theorem dnx_2 : decode prog_74_method_3_code 2 = .ok (.getfield 16, 3) := by decide +kernel
theorem dnx_5 : decode prog_74_method_3_code 5 = .ok (.iconst 1, 1) := by decide +kernel
theorem dnx_6 : decode prog_74_method_3_code 6 = .ok (.iadd, 1) := by decide +kernel
theorem dnx_7 : decode prog_74_method_3_code 7 = .ok (.putfield 16, 3) := by decide +kernel
theorem dnx_10 : decode prog_74_method_3_code 10 = .ok (.aload_n 0, 1) := by decide +kernel
theorem dnx_11 : decode prog_74_method_3_code 11 = .ok (.getfield 7, 3) := by decide +kernel
theorem dnx_14 : decode prog_74_method_3_code 14 = .ok (.aload_n 0, 1) := by decide +kernel
theorem dnx_15 : decode prog_74_method_3_code 15 = .ok (.getfield 16, 3) := by decide +kernel
theorem dnx_18 : decode prog_74_method_3_code 18 = .ok (.aload_n 0, 1) := by decide +kernel
theorem dnx_19 : decode prog_74_method_3_code 19 = .ok (.getfield 20, 3) := by decide +kernel
theorem dnx_22 : decode prog_74_method_3_code 22 = .ok (.iastore, 1) := by decide +kernel
theorem dnx_23 : decode prog_74_method_3_code 23 = .ok (.aload_n 0, 1) := by decide +kernel
theorem dnx_24 : decode prog_74_method_3_code 24 = .ok (.getfield 7, 3) := by decide +kernel
theorem dnx_27 : decode prog_74_method_3_code 27 = .ok (.aload_n 0, 1) := by decide +kernel
theorem dnx_28 : decode prog_74_method_3_code 28 = .ok (.getfield 16, 3) := by decide +kernel
theorem dnx_31 : decode prog_74_method_3_code 31 = .ok (.iconst 1, 1) := by decide +kernel
theorem dnx_32 : decode prog_74_method_3_code 32 = .ok (.iadd, 1) := by decide +kernel
theorem dnx_33 : decode prog_74_method_3_code 33 = .ok (.aload_n 0, 1) := by decide +kernel
theorem dnx_34 : decode prog_74_method_3_code 34 = .ok (.getfield 20, 3) := by decide +kernel
theorem dnx_37 : decode prog_74_method_3_code 37 = .ok (.iastore, 1) := by decide +kernel
theorem dnx_38 : decode prog_74_method_3_code 38 = .ok (.return_, 1) := by decide +kernel
theorem pn_nx : plainName "com/example/procurator/procurator/model/RelationGraph$Steps" = true := by first | (simp [plainName, overriddenIn]; done) | decide +kernel
theorem ef_nx (m : MethodId) (x0 : Addr) : entryFrame m #[(.ref x0)] 1 = mkF m 0 #[.val (.ref x0)] [] := by first | (simp [entryFrame, mkF, argsToLocals, Value.category]; done) | rfl
set_option maxRecDepth 65536 in
set_option maxHeartbeats 40000000 in
theorem rmnx (l : Launch) (Z : State) (a0 : Array Value) (hw : ∀ d ∈ tables_1, d.before a0 Z = true) (ws : List Jvm.Cond) (so oF oT : Addr) (fF fT : Int32 → Int32) (sz fr : Int32) (h0 : Heap) (n0 : Nat) (Z0 : n0 ≤ h0.size) (hd : [so, oF, oT].Nodup) (hG : ∀ x ∈ [so, oF, oT], n0 ≤ x) (hq : own_ST Z h0 so oF oT fF fT sz fr) (hb1 : ¬ (fr + (1 : Int32)) < 0 ∧ (fr + (1 : Int32)) < 4) (hb2 : ¬ ((fr + (1 : Int32)) + (1 : Int32)) < 0 ∧ ((fr + (1 : Int32)) + (1 : Int32)) < 4) :
    own_Met l Z ws (⟨"com/example/procurator/procurator/model/RelationGraph$Steps", "next", "()V"⟩ : MethodName) prog_74_method_3_code 1 none ({ frames := 0, cells := 0, slots := 0, locals := 0 } : Room) ({ frames := 0, cells := 0, slots := 0, locals := 0 } : Room).cells ({ frames := 0, cells := 0, slots := 0, locals := 0 } : Room).slots #[(.ref so)] h0 (fun v h L => v = none ∧ Fr n0 L ∧ Keep h0 h [so, oF, oT] ∧ own_ST Z h so oF oT (own_up (own_up fF (fr + (1 : Int32)) sz) ((fr + (1 : Int32)) + (1 : Int32)) sz) fT sz (fr + (1 : Int32))) := by
  refine own_body (plainFor_of_name pn_nx) ?_
  intro p e s m below meth c s₁ hx hby hml hown hnm hlk hret hZ hh X0 e0
  have N0 := Fr.nil n0
  have hq_0 := hq
  obtain ⟨Es_0, Ff_0, Ft_0, Fz_0, Fr_0, AF_0, AT_0⟩ := hq_0
  refine own_cast (ef_nx m so) ?_
  refine own_st (T' := s₁) (g' := (mkF m 1 #[.val (.ref so)] [(.ref so)])) (fun _ k => XS.aloadN X0.here hx rfl (hb hby dnx_0) rfl rfl k) ?_
  refine own_st (T' := s₁) (g' := (mkF m 2 #[.val (.ref so)] [(.ref so), (.ref so)])) (fun _ k => XS.dup X0.here hx rfl (hb hby dnx_1) rfl rfl k) ?_
  obtain ⟨T1, X1, e1, st1⟩ := getF X0 hx hZ hown (host := "") (Or.inl (own_w hw 15 rfl)) Via.refl e0 Fr_0 (g := (mkF m 2 #[.val (.ref so)] [(.ref so), (.ref so)])) rfl rfl (hb hby dnx_2)
  refine own_st (g' := (mkF m 5 #[.val (.ref so)] [(.int fr), (.ref so)])) st1 ?_
  refine own_st (T' := T1) (g' := (mkF m 6 #[.val (.ref so)] [(.int (1 : Int32)), (.int fr), (.ref so)])) (fun _ k => XS.iconst X1.here hx rfl (hb hby dnx_5) k) ?_
  refine own_st (T' := T1) (g' := (mkF m 7 #[.val (.ref so)] [(.int (fr + (1 : Int32))), (.ref so)])) (fun _ k => XS.iadd X1.here hx rfl (hb hby dnx_6) rfl k) ?_
  obtain ⟨T2, h2, X2, e2, W2, st2⟩ := putF X1 hx hZ hown (host := "") (Or.inl (own_w hw 15 rfl)) Via.refl e1 Fr_0 Es_0 (Or.inl (own_w hw 16 rfl)) (own_w hw 2 rfl) (ty := .int) (by decide) rfl rfl (g := (mkF m 7 #[.val (.ref so)] [(.int (fr + (1 : Int32))), (.ref so)])) rfl rfl (hb hby dnx_7)
  have Fw2 := Fr_0.same W2
  have N2 := Fr.snoc X2 N0 (hG _ (List.mem_of_getElem? (i := 0) rfl))
  refine own_st (g' := (mkF m 10 #[.val (.ref so)] [])) st2 ?_
  refine own_st (T' := T2) (g' := (mkF m 11 #[.val (.ref so)] [(.ref so)])) (fun _ k => XS.aloadN X2.here hx rfl (hb hby dnx_10) rfl rfl k) ?_
  obtain ⟨T3, X3, e3, st3⟩ := getF X2 hx hZ hown (host := "") (Or.inl (own_w hw 11 rfl)) Via.refl e2 (Ff_0.other W2 (Or.inr (slot_ne (Or.inr (own_w hw 12 rfl)) (Or.inl (own_w hw 16 rfl)) (by decide) (t := (.array .int)) (t' := .int) (by decide) (by decide)))) (g := (mkF m 11 #[.val (.ref so)] [(.ref so)])) rfl rfl (hb hby dnx_11)
  refine own_st (g' := (mkF m 14 #[.val (.ref so)] [(.ref oF)])) st3 ?_
  refine own_st (T' := T3) (g' := (mkF m 15 #[.val (.ref so)] [(.ref so), (.ref oF)])) (fun _ k => XS.aloadN X3.here hx rfl (hb hby dnx_14) rfl rfl k) ?_
  obtain ⟨T4, X4, e4, st4⟩ := getF X3 hx hZ hown (host := "") (Or.inl (own_w hw 15 rfl)) Via.refl e3 Fw2 (g := (mkF m 15 #[.val (.ref so)] [(.ref so), (.ref oF)])) rfl rfl (hb hby dnx_15)
  refine own_st (g' := (mkF m 18 #[.val (.ref so)] [(.int (fr + (1 : Int32))), (.ref oF)])) st4 ?_
  refine own_st (T' := T4) (g' := (mkF m 19 #[.val (.ref so)] [(.ref so), (.int (fr + (1 : Int32))), (.ref oF)])) (fun _ k => XS.aloadN X4.here hx rfl (hb hby dnx_18) rfl rfl k) ?_
  obtain ⟨T5, X5, e5, st5⟩ := getF X4 hx hZ hown (host := "") (Or.inl (own_w hw 22 rfl)) Via.refl e4 (Fz_0.other W2 (Or.inr (slot_ne (Or.inl (own_w hw 23 rfl)) (Or.inl (own_w hw 16 rfl)) (by decide) (t := .int) (t' := .int) (by decide) (by decide)))) (g := (mkF m 19 #[.val (.ref so)] [(.ref so), (.int (fr + (1 : Int32))), (.ref oF)])) rfl rfl (hb hby dnx_19)
  refine own_st (g' := (mkF m 22 #[.val (.ref so)] [(.int sz), (.int (fr + (1 : Int32))), (.ref oF)])) st5 ?_
  obtain ⟨cl6, Ar6, S6, M6, H6⟩ := id (AF_0.other W2 (Ne.symm (own_nd hd 0 1 (by decide) rfl rfl)))
  obtain ⟨T6, h6, X6, e6, W6, st6⟩ := stI X5 hx hZ e5 Ar6 (j := (fr + (1 : Int32))) (inb_of S6 ⟨hb1.1, hb1.2⟩) (g := (mkF m 22 #[.val (.ref so)] [(.int sz), (.int (fr + (1 : Int32))), (.ref oF)])) rfl rfl (hb hby dnx_22)
  have V6 : own_A Z h6 oF .int (4 : Int32) (fun i => (.int ((own_up fF (fr + (1 : Int32)) sz) i))) := (own_A.set Ar6 S6 M6 H6 hb1.1 hb1.2 W6).upI
  have N6 := Fr.snoc X6 N2 (hG _ (List.mem_of_getElem? (i := 1) rfl))
  refine own_st (g' := (mkF m 23 #[.val (.ref so)] [])) st6 ?_
  refine own_st (T' := T6) (g' := (mkF m 24 #[.val (.ref so)] [(.ref so)])) (fun _ k => XS.aloadN X6.here hx rfl (hb hby dnx_23) rfl rfl k) ?_
  obtain ⟨T7, X7, e7, st7⟩ := getF X6 hx hZ hown (host := "") (Or.inl (own_w hw 11 rfl)) Via.refl e6 ((Ff_0.other W2 (Or.inr (slot_ne (Or.inr (own_w hw 12 rfl)) (Or.inl (own_w hw 16 rfl)) (by decide) (t := (.array .int)) (t' := .int) (by decide) (by decide)))).other W6 (Or.inl (own_nd hd 0 1 (by decide) rfl rfl))) (g := (mkF m 24 #[.val (.ref so)] [(.ref so)])) rfl rfl (hb hby dnx_24)
  refine own_st (g' := (mkF m 27 #[.val (.ref so)] [(.ref oF)])) st7 ?_
  refine own_st (T' := T7) (g' := (mkF m 28 #[.val (.ref so)] [(.ref so), (.ref oF)])) (fun _ k => XS.aloadN X7.here hx rfl (hb hby dnx_27) rfl rfl k) ?_
  obtain ⟨T8, X8, e8, st8⟩ := getF X7 hx hZ hown (host := "") (Or.inl (own_w hw 15 rfl)) Via.refl e7 (Fw2.other W6 (Or.inl (own_nd hd 0 1 (by decide) rfl rfl))) (g := (mkF m 28 #[.val (.ref so)] [(.ref so), (.ref oF)])) rfl rfl (hb hby dnx_28)
  refine own_st (g' := (mkF m 31 #[.val (.ref so)] [(.int (fr + (1 : Int32))), (.ref oF)])) st8 ?_
  refine own_st (T' := T8) (g' := (mkF m 32 #[.val (.ref so)] [(.int (1 : Int32)), (.int (fr + (1 : Int32))), (.ref oF)])) (fun _ k => XS.iconst X8.here hx rfl (hb hby dnx_31) k) ?_
  refine own_st (T' := T8) (g' := (mkF m 33 #[.val (.ref so)] [(.int ((fr + (1 : Int32)) + (1 : Int32))), (.ref oF)])) (fun _ k => XS.iadd X8.here hx rfl (hb hby dnx_32) rfl k) ?_
  refine own_st (T' := T8) (g' := (mkF m 34 #[.val (.ref so)] [(.ref so), (.int ((fr + (1 : Int32)) + (1 : Int32))), (.ref oF)])) (fun _ k => XS.aloadN X8.here hx rfl (hb hby dnx_33) rfl rfl k) ?_
  obtain ⟨T9, X9, e9, st9⟩ := getF X8 hx hZ hown (host := "") (Or.inl (own_w hw 22 rfl)) Via.refl e8 ((Fz_0.other W2 (Or.inr (slot_ne (Or.inl (own_w hw 23 rfl)) (Or.inl (own_w hw 16 rfl)) (by decide) (t := .int) (t' := .int) (by decide) (by decide)))).other W6 (Or.inl (own_nd hd 0 1 (by decide) rfl rfl))) (g := (mkF m 34 #[.val (.ref so)] [(.ref so), (.int ((fr + (1 : Int32)) + (1 : Int32))), (.ref oF)])) rfl rfl (hb hby dnx_34)
  refine own_st (g' := (mkF m 37 #[.val (.ref so)] [(.int sz), (.int ((fr + (1 : Int32)) + (1 : Int32))), (.ref oF)])) st9 ?_
  obtain ⟨cl10, Ar10, S10, M10, H10⟩ := id V6
  obtain ⟨T10, h10, X10, e10, W10, st10⟩ := stI X9 hx hZ e9 Ar10 (j := ((fr + (1 : Int32)) + (1 : Int32))) (inb_of S10 ⟨hb2.1, hb2.2⟩) (g := (mkF m 37 #[.val (.ref so)] [(.int sz), (.int ((fr + (1 : Int32)) + (1 : Int32))), (.ref oF)])) rfl rfl (hb hby dnx_37)
  have V10 : own_A Z h10 oF .int (4 : Int32) (fun i => (.int ((own_up (own_up fF (fr + (1 : Int32)) sz) ((fr + (1 : Int32)) + (1 : Int32)) sz) i))) := (own_A.set Ar10 S10 M10 H10 hb2.1 hb2.2 W10).upI
  have N10 := Fr.snoc X10 N6 (hG _ (List.mem_of_getElem? (i := 1) rfl))
  refine own_st (g' := (mkF m 38 #[.val (.ref so)] [])) st10 ?_
  exact own_retV X10 hx hlk hret (hb hby dnx_38) (by rw [e10]; exact ⟨rfl, N10, ((((Keep.refl h0 [so, oF, oT]).wr W2 (Or.inl (List.mem_of_getElem? (i := 0) rfl))).wr W6 (Or.inl (List.mem_of_getElem? (i := 1) rfl))).wr W10 (Or.inl (List.mem_of_getElem? (i := 1) rfl))), ⟨(((Es_0.wr W2).wr W6).wr W10), (((Ff_0.other W2 (Or.inr (slot_ne (Or.inr (own_w hw 12 rfl)) (Or.inl (own_w hw 16 rfl)) (by decide) (t := (.array .int)) (t' := .int) (by decide) (by decide)))).other W6 (Or.inl (own_nd hd 0 1 (by decide) rfl rfl))).other W10 (Or.inl (own_nd hd 0 1 (by decide) rfl rfl))), (((Ft_0.other W2 (Or.inr (slot_ne (Or.inl (own_w hw 14 rfl)) (Or.inl (own_w hw 16 rfl)) (by decide) (t := (.array .int)) (t' := .int) (by decide) (by decide)))).other W6 (Or.inl (own_nd hd 0 1 (by decide) rfl rfl))).other W10 (Or.inl (own_nd hd 0 1 (by decide) rfl rfl))), (((Fz_0.other W2 (Or.inr (slot_ne (Or.inl (own_w hw 23 rfl)) (Or.inl (own_w hw 16 rfl)) (by decide) (t := .int) (t' := .int) (by decide) (by decide)))).other W6 (Or.inl (own_nd hd 0 1 (by decide) rfl rfl))).other W10 (Or.inl (own_nd hd 0 1 (by decide) rfl rfl))), ((Fw2.other W6 (Or.inl (own_nd hd 0 1 (by decide) rfl rfl))).other W10 (Or.inl (own_nd hd 0 1 (by decide) rfl rfl))), V10, (((AT_0.other W2 (Ne.symm (own_nd hd 0 2 (by decide) rfl rfl))).other W6 (Ne.symm (own_nd hd 1 2 (by decide) rfl rfl))).other W10 (Ne.symm (own_nd hd 1 2 (by decide) rfl rfl)))⟩⟩) (by decide) (by decide)
theorem dad_0 : decode prog_74_method_4_code 0 = .ok (.aload_n 0, 1) := by decide +kernel
theorem dad_1 : decode prog_74_method_4_code 1 = .ok (.getfield 20, 3) := by decide +kernel
theorem dad_4 : decode prog_74_method_4_code 4 = .ok (.aload_n 0, 1) := by decide +kernel
theorem dad_5 : decode prog_74_method_4_code 5 = .ok (.getfield 13, 3) := by decide +kernel
theorem dad_8 : decode prog_74_method_4_code 8 = .ok (.arraylength, 1) := by decide +kernel
theorem dad_9 : decode prog_74_method_4_code 9 = .ok (.if_icmp .ne 22, 3) := by decide +kernel
theorem dad_31 : decode prog_74_method_4_code 31 = .ok (.aload_n 0, 1) := by decide +kernel
theorem dad_32 : decode prog_74_method_4_code 32 = .ok (.getfield 13, 3) := by decide +kernel
theorem dad_35 : decode prog_74_method_4_code 35 = .ok (.aload_n 0, 1) := by decide +kernel
theorem dad_36 : decode prog_74_method_4_code 36 = .ok (.dup, 1) := by decide +kernel
theorem dad_37 : decode prog_74_method_4_code 37 = .ok (.getfield 20, 3) := by decide +kernel
theorem dad_40 : decode prog_74_method_4_code 40 = .ok (.dup_x1, 1) := by decide +kernel
theorem dad_41 : decode prog_74_method_4_code 41 = .ok (.iconst 1, 1) := by decide +kernel
theorem dad_42 : decode prog_74_method_4_code 42 = .ok (.iadd, 1) := by decide +kernel
theorem dad_43 : decode prog_74_method_4_code 43 = .ok (.putfield 20, 3) := by decide +kernel
theorem dad_46 : decode prog_74_method_4_code 46 = .ok (.iload_n 1, 1) := by decide +kernel
theorem dad_47 : decode prog_74_method_4_code 47 = .ok (.iastore, 1) := by decide +kernel
theorem dad_48 : decode prog_74_method_4_code 48 = .ok (.aload_n 0, 1) := by decide +kernel
theorem dad_49 : decode prog_74_method_4_code 49 = .ok (.getfield 7, 3) := by decide +kernel
theorem dad_52 : decode prog_74_method_4_code 52 = .ok (.aload_n 0, 1) := by decide +kernel
theorem dad_53 : decode prog_74_method_4_code 53 = .ok (.getfield 16, 3) := by decide +kernel
theorem dad_56 : decode prog_74_method_4_code 56 = .ok (.iconst 1, 1) := by decide +kernel
theorem dad_57 : decode prog_74_method_4_code 57 = .ok (.iadd, 1) := by decide +kernel
theorem dad_58 : decode prog_74_method_4_code 58 = .ok (.aload_n 0, 1) := by decide +kernel
theorem dad_59 : decode prog_74_method_4_code 59 = .ok (.getfield 20, 3) := by decide +kernel
theorem dad_62 : decode prog_74_method_4_code 62 = .ok (.iastore, 1) := by decide +kernel
theorem dad_63 : decode prog_74_method_4_code 63 = .ok (.return_, 1) := by decide +kernel
theorem pn_ad : plainName "com/example/procurator/procurator/model/RelationGraph$Steps" = true := by first | (simp [plainName, overriddenIn]; done) | decide +kernel
theorem ef_ad (m : MethodId) (x0 : Addr) (x1 : Int32) : entryFrame m #[(.ref x0), (.int x1)] 2 = mkF m 0 #[.val (.ref x0), .val (.int x1)] [] := by first | (simp [entryFrame, mkF, argsToLocals, Value.category]; done) | rfl
set_option maxRecDepth 65536 in
set_option maxHeartbeats 40000000 in
theorem rmad (l : Launch) (Z : State) (a0 : Array Value) (hw : ∀ d ∈ tables_1, d.before a0 Z = true) (ws : List Jvm.Cond) (so oF oT : Addr) (fF fT : Int32 → Int32) (sz fr : Int32) (p1 : Int32) (h0 : Heap) (n0 : Nat) (Z0 : n0 ≤ h0.size) (hd : [so, oF, oT].Nodup) (hG : ∀ x ∈ [so, oF, oT], n0 ≤ x) (hq : own_ST Z h0 so oF oT fF fT sz fr) (hz : ¬ sz = (3 : Int32)) (hz3 : own_in3 sz) (hb1 : ¬ (fr + (1 : Int32)) < 0 ∧ (fr + (1 : Int32)) < 4) :
    own_Met l Z ws (⟨"com/example/procurator/procurator/model/RelationGraph$Steps", "add", "(I)V"⟩ : MethodName) prog_74_method_4_code 2 none ({ frames := 0, cells := 0, slots := 0, locals := 0 } : Room) ({ frames := 0, cells := 0, slots := 0, locals := 0 } : Room).cells ({ frames := 0, cells := 0, slots := 0, locals := 0 } : Room).slots #[(.ref so), (.int p1)] h0 (fun v h L => v = none ∧ Fr n0 L ∧ Keep h0 h [so, oF, oT] ∧ own_ST Z h so oF oT (own_up fF (fr + (1 : Int32)) (sz + (1 : Int32))) (own_up fT sz p1) (sz + (1 : Int32)) fr) := by
  refine own_body (plainFor_of_name pn_ad) ?_
  intro p e s m below meth c s₁ hx hby hml hown hnm hlk hret hZ hh X0 e0
  have N0 := Fr.nil n0
  have hq_0 := hq
  obtain ⟨Es_0, Ff_0, Ft_0, Fz_0, Fr_0, AF_0, AT_0⟩ := hq_0
  refine own_cast (ef_ad m so p1) ?_
  refine own_st (T' := s₁) (g' := (mkF m 1 #[.val (.ref so), .val (.int p1)] [(.ref so)])) (fun _ k => XS.aloadN X0.here hx rfl (hb hby dad_0) rfl rfl k) ?_
  obtain ⟨T1, X1, e1, st1⟩ := getF X0 hx hZ hown (host := "") (Or.inl (own_w hw 22 rfl)) Via.refl e0 Fz_0 (g := (mkF m 1 #[.val (.ref so), .val (.int p1)] [(.ref so)])) rfl rfl (hb hby dad_1)
  refine own_st (g' := (mkF m 4 #[.val (.ref so), .val (.int p1)] [(.int sz)])) st1 ?_
  refine own_st (T' := T1) (g' := (mkF m 5 #[.val (.ref so), .val (.int p1)] [(.ref so), (.int sz)])) (fun _ k => XS.aloadN X1.here hx rfl (hb hby dad_4) rfl rfl k) ?_
  obtain ⟨T2, X2, e2, st2⟩ := getF X1 hx hZ hown (host := "") (Or.inl (own_w hw 13 rfl)) Via.refl e1 Ft_0 (g := (mkF m 5 #[.val (.ref so), .val (.int p1)] [(.ref so), (.int sz)])) rfl rfl (hb hby dad_5)
  refine own_st (g' := (mkF m 8 #[.val (.ref so), .val (.int p1)] [(.ref oT), (.int sz)])) st2 ?_
  obtain ⟨cl3, Ar3, S3, M3, H3⟩ := id AT_0
  refine own_st (T' := T2) (g' := (mkF m 9 #[.val (.ref so), .val (.int p1)] [(.int (3 : Int32)), (.int sz)])) (fun _ k => X2.arraylength hx (by rw [e2]; exact Ar3.1) (State.isArrayOf_alike hZ.alike Ar3.2.1) (g := (mkF m 8 #[.val (.ref so), .val (.int p1)] [(.ref oT), (.int sz)])) rfl rfl (hb hby dad_8) _ (by rw [len_of S3 M3]; exact k)) ?_
  refine own_st (T' := T2) (g' := (mkF m 31 #[.val (.ref so), .val (.int p1)] [])) (fun _ k => XS.icmpYes X2.here hx rfl (pc0 := 9) (pc' := 31) rfl (hb hby dad_9) rfl (feq (hz : ¬ (sz = (3 : Int32)))).2 (by decide) (by decide) k) ?_
  refine own_st (T' := T2) (g' := (mkF m 32 #[.val (.ref so), .val (.int p1)] [(.ref so)])) (fun _ k => XS.aloadN X2.here hx rfl (hb hby dad_31) rfl rfl k) ?_
  obtain ⟨T4, X4, e4, st4⟩ := getF X2 hx hZ hown (host := "") (Or.inl (own_w hw 13 rfl)) Via.refl e2 Ft_0 (g := (mkF m 32 #[.val (.ref so), .val (.int p1)] [(.ref so)])) rfl rfl (hb hby dad_32)
  refine own_st (g' := (mkF m 35 #[.val (.ref so), .val (.int p1)] [(.ref oT)])) st4 ?_
  refine own_st (T' := T4) (g' := (mkF m 36 #[.val (.ref so), .val (.int p1)] [(.ref so), (.ref oT)])) (fun _ k => XS.aloadN X4.here hx rfl (hb hby dad_35) rfl rfl k) ?_
  refine own_st (T' := T4) (g' := (mkF m 37 #[.val (.ref so), .val (.int p1)] [(.ref so), (.ref so), (.ref oT)])) (fun _ k => XS.dup X4.here hx rfl (hb hby dad_36) rfl rfl k) ?_
  obtain ⟨T5, X5, e5, st5⟩ := getF X4 hx hZ hown (host := "") (Or.inl (own_w hw 22 rfl)) Via.refl e4 Fz_0 (g := (mkF m 37 #[.val (.ref so), .val (.int p1)] [(.ref so), (.ref so), (.ref oT)])) rfl rfl (hb hby dad_37)
  refine own_st (g' := (mkF m 40 #[.val (.ref so), .val (.int p1)] [(.int sz), (.ref so), (.ref oT)])) st5 ?_
  refine own_st (T' := T5) (g' := (mkF m 41 #[.val (.ref so), .val (.int p1)] [(.int sz), (.ref so), (.int sz), (.ref oT)])) (fun _ k => XS.dupX1 X5.here hx rfl (hb hby dad_40) rfl rfl rfl k) ?_
  refine own_st (T' := T5) (g' := (mkF m 42 #[.val (.ref so), .val (.int p1)] [(.int (1 : Int32)), (.int sz), (.ref so), (.int sz), (.ref oT)])) (fun _ k => XS.iconst X5.here hx rfl (hb hby dad_41) k) ?_
  refine own_st (T' := T5) (g' := (mkF m 43 #[.val (.ref so), .val (.int p1)] [(.int (sz + (1 : Int32))), (.ref so), (.int sz), (.ref oT)])) (fun _ k => XS.iadd X5.here hx rfl (hb hby dad_42) rfl k) ?_
  obtain ⟨T6, h6, X6, e6, W6, st6⟩ := putF X5 hx hZ hown (host := "") (Or.inl (own_w hw 22 rfl)) Via.refl e5 Fz_0 Es_0 (Or.inl (own_w hw 23 rfl)) (own_w hw 2 rfl) (ty := .int) (by decide) rfl rfl (g := (mkF m 43 #[.val (.ref so), .val (.int p1)] [(.int (sz + (1 : Int32))), (.ref so), (.int sz), (.ref oT)])) rfl rfl (hb hby dad_43)
  have Fw6 := Fz_0.same W6
  have N6 := Fr.snoc X6 N0 (hG _ (List.mem_of_getElem? (i := 0) rfl))
  refine own_st (g' := (mkF m 46 #[.val (.ref so), .val (.int p1)] [(.int sz), (.ref oT)])) st6 ?_
  refine own_st (T' := T6) (g' := (mkF m 47 #[.val (.ref so), .val (.int p1)] [(.int p1), (.int sz), (.ref oT)])) (fun _ k => XS.iloadN X6.here hx rfl (hb hby dad_46) rfl k) ?_
  obtain ⟨cl7, Ar7, S7, M7, H7⟩ := id (AT_0.other W6 (Ne.symm (own_nd hd 0 2 (by decide) rfl rfl)))
  obtain ⟨T7, h7, X7, e7, W7, st7⟩ := stI X6 hx hZ e6 Ar7 (j := sz) (inb_of S7 ⟨hz3.1, hz3.2⟩) (g := (mkF m 47 #[.val (.ref so), .val (.int p1)] [(.int p1), (.int sz), (.ref oT)])) rfl rfl (hb hby dad_47)
  have V7 : own_A Z h7 oT .int (3 : Int32) (fun i => (.int ((own_up fT sz p1) i))) := (own_A.set Ar7 S7 M7 H7 hz3.1 hz3.2 W7).upI
  have N7 := Fr.snoc X7 N6 (hG _ (List.mem_of_getElem? (i := 2) rfl))
  refine own_st (g' := (mkF m 48 #[.val (.ref so), .val (.int p1)] [])) st7 ?_
  refine own_st (T' := T7) (g' := (mkF m 49 #[.val (.ref so), .val (.int p1)] [(.ref so)])) (fun _ k => XS.aloadN X7.here hx rfl (hb hby dad_48) rfl rfl k) ?_
  obtain ⟨T8, X8, e8, st8⟩ := getF X7 hx hZ hown (host := "") (Or.inl (own_w hw 11 rfl)) Via.refl e7 ((Ff_0.other W6 (Or.inr (slot_ne (Or.inr (own_w hw 12 rfl)) (Or.inl (own_w hw 23 rfl)) (by decide) (t := (.array .int)) (t' := .int) (by decide) (by decide)))).other W7 (Or.inl (own_nd hd 0 2 (by decide) rfl rfl))) (g := (mkF m 49 #[.val (.ref so), .val (.int p1)] [(.ref so)])) rfl rfl (hb hby dad_49)
  refine own_st (g' := (mkF m 52 #[.val (.ref so), .val (.int p1)] [(.ref oF)])) st8 ?_
  refine own_st (T' := T8) (g' := (mkF m 53 #[.val (.ref so), .val (.int p1)] [(.ref so), (.ref oF)])) (fun _ k => XS.aloadN X8.here hx rfl (hb hby dad_52) rfl rfl k) ?_
  obtain ⟨T9, X9, e9, st9⟩ := getF X8 hx hZ hown (host := "") (Or.inl (own_w hw 15 rfl)) Via.refl e8 ((Fr_0.other W6 (Or.inr (slot_ne (Or.inl (own_w hw 16 rfl)) (Or.inl (own_w hw 23 rfl)) (by decide) (t := .int) (t' := .int) (by decide) (by decide)))).other W7 (Or.inl (own_nd hd 0 2 (by decide) rfl rfl))) (g := (mkF m 53 #[.val (.ref so), .val (.int p1)] [(.ref so), (.ref oF)])) rfl rfl (hb hby dad_53)
  refine own_st (g' := (mkF m 56 #[.val (.ref so), .val (.int p1)] [(.int fr), (.ref oF)])) st9 ?_
  refine own_st (T' := T9) (g' := (mkF m 57 #[.val (.ref so), .val (.int p1)] [(.int (1 : Int32)), (.int fr), (.ref oF)])) (fun _ k => XS.iconst X9.here hx rfl (hb hby dad_56) k) ?_
  refine own_st (T' := T9) (g' := (mkF m 58 #[.val (.ref so), .val (.int p1)] [(.int (fr + (1 : Int32))), (.ref oF)])) (fun _ k => XS.iadd X9.here hx rfl (hb hby dad_57) rfl k) ?_
  refine own_st (T' := T9) (g' := (mkF m 59 #[.val (.ref so), .val (.int p1)] [(.ref so), (.int (fr + (1 : Int32))), (.ref oF)])) (fun _ k => XS.aloadN X9.here hx rfl (hb hby dad_58) rfl rfl k) ?_
  obtain ⟨T10, X10, e10, st10⟩ := getF X9 hx hZ hown (host := "") (Or.inl (own_w hw 22 rfl)) Via.refl e9 (Fw6.other W7 (Or.inl (own_nd hd 0 2 (by decide) rfl rfl))) (g := (mkF m 59 #[.val (.ref so), .val (.int p1)] [(.ref so), (.int (fr + (1 : Int32))), (.ref oF)])) rfl rfl (hb hby dad_59)
  refine own_st (g' := (mkF m 62 #[.val (.ref so), .val (.int p1)] [(.int (sz + (1 : Int32))), (.int (fr + (1 : Int32))), (.ref oF)])) st10 ?_
  obtain ⟨cl11, Ar11, S11, M11, H11⟩ := id ((AF_0.other W6 (Ne.symm (own_nd hd 0 1 (by decide) rfl rfl))).other W7 (own_nd hd 1 2 (by decide) rfl rfl))
  obtain ⟨T11, h11, X11, e11, W11, st11⟩ := stI X10 hx hZ e10 Ar11 (j := (fr + (1 : Int32))) (inb_of S11 ⟨hb1.1, hb1.2⟩) (g := (mkF m 62 #[.val (.ref so), .val (.int p1)] [(.int (sz + (1 : Int32))), (.int (fr + (1 : Int32))), (.ref oF)])) rfl rfl (hb hby dad_62)
  have V11 : own_A Z h11 oF .int (4 : Int32) (fun i => (.int ((own_up fF (fr + (1 : Int32)) (sz + (1 : Int32))) i))) := (own_A.set Ar11 S11 M11 H11 hb1.1 hb1.2 W11).upI
  have N11 := Fr.snoc X11 N7 (hG _ (List.mem_of_getElem? (i := 1) rfl))
  refine own_st (g' := (mkF m 63 #[.val (.ref so), .val (.int p1)] [])) st11 ?_
  exact own_retV X11 hx hlk hret (hb hby dad_63) (by rw [e11]; exact ⟨rfl, N11, ((((Keep.refl h0 [so, oF, oT]).wr W6 (Or.inl (List.mem_of_getElem? (i := 0) rfl))).wr W7 (Or.inl (List.mem_of_getElem? (i := 2) rfl))).wr W11 (Or.inl (List.mem_of_getElem? (i := 1) rfl))), ⟨(((Es_0.wr W6).wr W7).wr W11), (((Ff_0.other W6 (Or.inr (slot_ne (Or.inr (own_w hw 12 rfl)) (Or.inl (own_w hw 23 rfl)) (by decide) (t := (.array .int)) (t' := .int) (by decide) (by decide)))).other W7 (Or.inl (own_nd hd 0 2 (by decide) rfl rfl))).other W11 (Or.inl (own_nd hd 0 1 (by decide) rfl rfl))), (((Ft_0.other W6 (Or.inr (slot_ne (Or.inl (own_w hw 14 rfl)) (Or.inl (own_w hw 23 rfl)) (by decide) (t := (.array .int)) (t' := .int) (by decide) (by decide)))).other W7 (Or.inl (own_nd hd 0 2 (by decide) rfl rfl))).other W11 (Or.inl (own_nd hd 0 1 (by decide) rfl rfl))), ((Fw6.other W7 (Or.inl (own_nd hd 0 2 (by decide) rfl rfl))).other W11 (Or.inl (own_nd hd 0 1 (by decide) rfl rfl))), (((Fr_0.other W6 (Or.inr (slot_ne (Or.inl (own_w hw 16 rfl)) (Or.inl (own_w hw 23 rfl)) (by decide) (t := .int) (t' := .int) (by decide) (by decide)))).other W7 (Or.inl (own_nd hd 0 2 (by decide) rfl rfl))).other W11 (Or.inl (own_nd hd 0 1 (by decide) rfl rfl))), V11, (V7.other W11 (Ne.symm (own_nd hd 1 2 (by decide) rfl rfl)))⟩⟩) (by decide) (by decide)
theorem dsi_0 : decode prog_74_method_1_code 0 = .ok (.aload_n 0, 1) := by decide +kernel
theorem dsi_1 : decode prog_74_method_1_code 1 = .ok (.invokespecial 1, 3) := by decide +kernel
theorem dsi_4 : decode prog_74_method_1_code 4 = .ok (.aload_n 0, 1) := by decide +kernel
theorem dsi_5 : decode prog_74_method_1_code 5 = .ok (.iload_n 1, 1) := by decide +kernel
theorem dsi_6 : decode prog_74_method_1_code 6 = .ok (.iconst 1, 1) := by decide +kernel
theorem dsi_7 : decode prog_74_method_1_code 7 = .ok (.iadd, 1) := by decide +kernel
theorem dsi_8 : decode prog_74_method_1_code 8 = .ok (.newarray .int, 2) := by decide +kernel
theorem dsi_10 : decode prog_74_method_1_code 10 = .ok (.putfield 7, 3) := by decide +kernel
theorem dsi_13 : decode prog_74_method_1_code 13 = .ok (.aload_n 0, 1) := by decide +kernel
theorem dsi_14 : decode prog_74_method_1_code 14 = .ok (.iload_n 1, 1) := by decide +kernel
theorem dsi_15 : decode prog_74_method_1_code 15 = .ok (.newarray .int, 2) := by decide +kernel
theorem dsi_17 : decode prog_74_method_1_code 17 = .ok (.putfield 13, 3) := by decide +kernel
theorem dsi_20 : decode prog_74_method_1_code 20 = .ok (.aload_n 0, 1) := by decide +kernel
theorem dsi_21 : decode prog_74_method_1_code 21 = .ok (.iconst (-1), 1) := by decide +kernel
theorem dsi_22 : decode prog_74_method_1_code 22 = .ok (.putfield 16, 3) := by decide +kernel
theorem dsi_25 : decode prog_74_method_1_code 25 = .ok (.return_, 1) := by decide +kernel
theorem pn_si : plainName "com/example/procurator/procurator/model/RelationGraph$Steps" = true := by first | (simp [plainName, overriddenIn]; done) | decide +kernel
theorem ef_si (m : MethodId) (x0 : Addr) (x1 : Int32) : entryFrame m #[(.ref x0), (.int x1)] 2 = mkF m 0 #[.val (.ref x0), .val (.int x1)] [] := by first | (simp [entryFrame, mkF, argsToLocals, Value.category]; done) | rfl
set_option maxRecDepth 65536 in
set_option maxHeartbeats 40000000 in
theorem rmsi (l : Launch) (Z : State) (a0 : Array Value) (hw : ∀ d ∈ tables_1, d.before a0 Z = true) (ws : List Jvm.Cond) (so : Addr) (h0 : Heap) (n0 : Nat) (Z0 : n0 ≤ h0.size) (Eso : Exa Z h0 so "com/example/procurator/procurator/model/RelationGraph$Steps") (Gso : n0 ≤ so) (Fa : Fld Z h0 so "com/example/procurator/procurator/model/RelationGraph$Steps" "first" "[I" .null) (Fb : Fld Z h0 so "com/example/procurator/procurator/model/RelationGraph$Steps" "to" "[I" .null) (Fc : Fld Z h0 so "com/example/procurator/procurator/model/RelationGraph$Steps" "size" "I" (.int (0 : Int32))) (Fd : Fld Z h0 so "com/example/procurator/procurator/model/RelationGraph$Steps" "from" "I" (.int (0 : Int32))) :
    own_Met l Z ws (⟨"com/example/procurator/procurator/model/RelationGraph$Steps", "<init>", "(I)V"⟩ : MethodName) prog_74_method_1_code 2 none ({ frames := 1, cells := 2, slots := 7, locals := 12 } : Room) ({ frames := 1, cells := 2, slots := 7, locals := 12 } : Room).cells ({ frames := 1, cells := 2, slots := 7, locals := 12 } : Room).slots #[(.ref so), (.int (3 : Int32))] h0 (fun v h L => v = none ∧ Fr n0 L ∧ n0 ≤ h.size ∧ ∃ (oF oT : Addr), [so, oF, oT].Nodup ∧ (∀ x ∈ [so, oF, oT], n0 ≤ x) ∧ own_ST Z h so oF oT (fun _ => (0 : Int32)) (fun _ => (0 : Int32)) (0 : Int32) (-1 : Int32)) := by
  refine own_body (plainFor_of_name pn_si) ?_
  intro p e s m below meth c s₁ hx hby hml hown hnm hlk hret hZ hh X0 e0
  have N0 := Fr.nil n0
  refine own_cast (ef_si m so (3 : Int32)) ?_
  refine own_st (T' := s₁) (g' := (mkF m 1 #[.val (.ref so), .val (.int (3 : Int32))] [(.ref so)])) (fun _ k => XS.aloadN X0.here hx rfl (hb hby dsi_0) rfl rfl k) ?_
  obtain ⟨T1, X1, e1, st1⟩ := initO X0 hx hZ hown (own_w hw 7 rfl) (own_w hw 8 rfl) (own_w hw 9 rfl) e0 (g := (mkF m 1 #[.val (.ref so), .val (.int (3 : Int32))] [(.ref so)])) rfl (by rw [hml]; rfl) rfl (hb hby dsi_1) (by decide) (W := 0) (by show 2 * 0 + _ ≤ _; exact Nat.le_of_eq rfl) (by decide)
  refine own_st (g' := (mkF m 4 #[.val (.ref so), .val (.int (3 : Int32))] [])) st1 ?_
  refine own_st (T' := T1) (g' := (mkF m 5 #[.val (.ref so), .val (.int (3 : Int32))] [(.ref so)])) (fun _ k => XS.aloadN X1.here hx rfl (hb hby dsi_4) rfl rfl k) ?_
  refine own_st (T' := T1) (g' := (mkF m 6 #[.val (.ref so), .val (.int (3 : Int32))] [(.int (3 : Int32)), (.ref so)])) (fun _ k => XS.iloadN X1.here hx rfl (hb hby dsi_5) rfl k) ?_
  refine own_st (T' := T1) (g' := (mkF m 7 #[.val (.ref so), .val (.int (3 : Int32))] [(.int (1 : Int32)), (.int (3 : Int32)), (.ref so)])) (fun _ k => XS.iconst X1.here hx rfl (hb hby dsi_6) k) ?_
  refine own_st (T' := T1) (g' := (mkF m 8 #[.val (.ref so), .val (.int (3 : Int32))] [(.int (4 : Int32)), (.ref so)])) (fun _ k => XS.iadd X1.here hx rfl (hb hby dsi_7) rfl k) ?_
  obtain ⟨T2, h2, k2, X2, e2, E2, A2, st2⟩ := newP X1 hx hZ (own_w hw 10 rfl) e1 (g := (mkF m 8 #[.val (.ref so), .val (.int (3 : Int32))] [(.int (4 : Int32)), (.ref so)])) rfl (hb hby dsi_8) rfl (by decide) (cap := 4) (by decide) (by decide) (by decide) (by decide)
  obtain ⟨b2, g2⟩ : ∃ z, z = h0.size := ⟨_, rfl⟩
  rw [← g2] at A2 st2
  have G_b2 : n0 ≤ b2 := Nat.le_trans Z0 (Nat.le_of_eq g2.symm)
  have V2 : own_A Z h2 b2 .int (4 : Int32) (fun i => (.int ((fun _ => (0 : Int32)) i))) := own_A.new A2 (by decide)
  refine own_st (g' := (mkF m 10 #[.val (.ref so), .val (.int (3 : Int32))] [(.ref b2), (.ref so)])) st2 ?_
  obtain ⟨T3, h3, X3, e3, W3, st3⟩ := putF X2 hx hZ hown (host := "") (Or.inl (own_w hw 11 rfl)) Via.refl e2 (Fa.ext E2) (Eso.ext E2) (Or.inr ⟨(own_w hw 12 rfl), rfl, hnm⟩) (own_w hw 2 rfl) (ty := (.array .int)) (by decide) rfl rfl (g := (mkF m 10 #[.val (.ref so), .val (.int (3 : Int32))] [(.ref b2), (.ref so)])) rfl rfl (hb hby dsi_10)
  have Fw3 := (Fa.ext E2).same W3
  have N3 := Fr.snoc X3 N0 Gso
  refine own_st (g' := (mkF m 13 #[.val (.ref so), .val (.int (3 : Int32))] [])) st3 ?_
  refine own_st (T' := T3) (g' := (mkF m 14 #[.val (.ref so), .val (.int (3 : Int32))] [(.ref so)])) (fun _ k => XS.aloadN X3.here hx rfl (hb hby dsi_13) rfl rfl k) ?_
  refine own_st (T' := T3) (g' := (mkF m 15 #[.val (.ref so), .val (.int (3 : Int32))] [(.int (3 : Int32)), (.ref so)])) (fun _ k => XS.iloadN X3.here hx rfl (hb hby dsi_14) rfl k) ?_
  obtain ⟨T4, h4, k4, X4, e4, E4, A4, st4⟩ := newP X3 hx hZ (own_w hw 10 rfl) e3 (g := (mkF m 15 #[.val (.ref so), .val (.int (3 : Int32))] [(.int (3 : Int32)), (.ref so)])) rfl (hb hby dsi_15) rfl (by decide) (cap := 3) (by decide) (by decide) (by decide) (by decide)
  obtain ⟨b4, g4⟩ : ∃ z, z = h3.size := ⟨_, rfl⟩
  rw [← g4] at A4 st4
  have G_b4 : n0 ≤ b4 := Nat.le_trans (Nat.le_trans (Nat.le_trans Z0 E2.1) (Nat.le_of_eq W3.size.symm)) (Nat.le_of_eq g4.symm)
  have V4 : own_A Z h4 b4 .int (3 : Int32) (fun i => (.int ((fun _ => (0 : Int32)) i))) := own_A.new A4 (by decide)
  refine own_st (g' := (mkF m 17 #[.val (.ref so), .val (.int (3 : Int32))] [(.ref b4), (.ref so)])) st4 ?_
  obtain ⟨T5, h5, X5, e5, W5, st5⟩ := putF X4 hx hZ hown (host := "") (Or.inl (own_w hw 13 rfl)) Via.refl e4 (((Fb.ext E2).other W3 (Or.inr (slot_ne (Or.inl (own_w hw 14 rfl)) (Or.inr (own_w hw 12 rfl)) (by decide) (t := (.array .int)) (t' := (.array .int)) (by decide) (by decide)))).ext E4) (((Eso.ext E2).wr W3).ext E4) (Or.inl (own_w hw 14 rfl)) (own_w hw 2 rfl) (ty := (.array .int)) (by decide) rfl rfl (g := (mkF m 17 #[.val (.ref so), .val (.int (3 : Int32))] [(.ref b4), (.ref so)])) rfl rfl (hb hby dsi_17)
  have Fw5 := (((Fb.ext E2).other W3 (Or.inr (slot_ne (Or.inl (own_w hw 14 rfl)) (Or.inr (own_w hw 12 rfl)) (by decide) (t := (.array .int)) (t' := (.array .int)) (by decide) (by decide)))).ext E4).same W5
  have N5 := Fr.snoc X5 N3 Gso
  refine own_st (g' := (mkF m 20 #[.val (.ref so), .val (.int (3 : Int32))] [])) st5 ?_
  refine own_st (T' := T5) (g' := (mkF m 21 #[.val (.ref so), .val (.int (3 : Int32))] [(.ref so)])) (fun _ k => XS.aloadN X5.here hx rfl (hb hby dsi_20) rfl rfl k) ?_
  refine own_st (T' := T5) (g' := (mkF m 22 #[.val (.ref so), .val (.int (3 : Int32))] [(.int (-1 : Int32)), (.ref so)])) (fun _ k => XS.iconst X5.here hx rfl (hb hby dsi_21) k) ?_
  obtain ⟨T6, h6, X6, e6, W6, st6⟩ := putF X5 hx hZ hown (host := "") (Or.inl (own_w hw 15 rfl)) Via.refl e5 ((((Fd.ext E2).other W3 (Or.inr (slot_ne (Or.inl (own_w hw 16 rfl)) (Or.inr (own_w hw 12 rfl)) (by decide) (t := .int) (t' := (.array .int)) (by decide) (by decide)))).ext E4).other W5 (Or.inr (slot_ne (Or.inl (own_w hw 16 rfl)) (Or.inl (own_w hw 14 rfl)) (by decide) (t := .int) (t' := (.array .int)) (by decide) (by decide)))) ((((Eso.ext E2).wr W3).ext E4).wr W5) (Or.inl (own_w hw 16 rfl)) (own_w hw 2 rfl) (ty := .int) (by decide) rfl rfl (g := (mkF m 22 #[.val (.ref so), .val (.int (3 : Int32))] [(.int (-1 : Int32)), (.ref so)])) rfl rfl (hb hby dsi_22)
  have Fw6 := ((((Fd.ext E2).other W3 (Or.inr (slot_ne (Or.inl (own_w hw 16 rfl)) (Or.inr (own_w hw 12 rfl)) (by decide) (t := .int) (t' := (.array .int)) (by decide) (by decide)))).ext E4).other W5 (Or.inr (slot_ne (Or.inl (own_w hw 16 rfl)) (Or.inl (own_w hw 14 rfl)) (by decide) (t := .int) (t' := (.array .int)) (by decide) (by decide)))).same W6
  have N6 := Fr.snoc X6 N5 Gso
  refine own_st (g' := (mkF m 25 #[.val (.ref so), .val (.int (3 : Int32))] [])) st6 ?_
  exact own_retV X6 hx hlk hret (hb hby dsi_25) (by rw [e6]; exact ⟨rfl, N6, (Nat.le_trans (Nat.le_trans (Nat.le_trans (Nat.le_trans (Nat.le_trans Z0 E2.1) (Nat.le_of_eq W3.size.symm)) E4.1) (Nat.le_of_eq W5.size.symm)) (Nat.le_of_eq W6.size.symm)), b2, b4, (List.nodup_cons.mpr ⟨(ninS (Nat.ne_of_lt (Nat.lt_of_lt_of_le Eso.lt (Nat.le_of_eq g2.symm))) (ninS (Nat.ne_of_lt (Nat.lt_of_lt_of_le ((Eso.ext E2).wr W3).lt (Nat.le_of_eq g4.symm))) nin0)), (List.nodup_cons.mpr ⟨(ninS (Nat.ne_of_lt (Nat.lt_of_lt_of_le (V2.other W3 (Ne.symm (Nat.ne_of_lt (Nat.lt_of_lt_of_le Eso.lt (Nat.le_of_eq g2.symm))))).lt (Nat.le_of_eq g4.symm))) nin0), (List.nodup_cons.mpr ⟨nin0, List.nodup_nil⟩)⟩)⟩), (allS Gso (allS G_b2 (allS G_b4 all0))), ⟨(((((Eso.ext E2).wr W3).ext E4).wr W5).wr W6), (((Fw3.ext E4).other W5 (Or.inr (slot_ne (Or.inr (own_w hw 12 rfl)) (Or.inl (own_w hw 14 rfl)) (by decide) (t := (.array .int)) (t' := (.array .int)) (by decide) (by decide)))).other W6 (Or.inr (slot_ne (Or.inr (own_w hw 12 rfl)) (Or.inl (own_w hw 16 rfl)) (by decide) (t := (.array .int)) (t' := .int) (by decide) (by decide)))), (Fw5.other W6 (Or.inr (slot_ne (Or.inl (own_w hw 14 rfl)) (Or.inl (own_w hw 16 rfl)) (by decide) (t := (.array .int)) (t' := .int) (by decide) (by decide)))), (((((Fc.ext E2).other W3 (Or.inr (slot_ne (Or.inl (own_w hw 23 rfl)) (Or.inr (own_w hw 12 rfl)) (by decide) (t := .int) (t' := (.array .int)) (by decide) (by decide)))).ext E4).other W5 (Or.inr (slot_ne (Or.inl (own_w hw 23 rfl)) (Or.inl (own_w hw 14 rfl)) (by decide) (t := .int) (t' := (.array .int)) (by decide) (by decide)))).other W6 (Or.inr (slot_ne (Or.inl (own_w hw 23 rfl)) (Or.inl (own_w hw 16 rfl)) (by decide) (t := .int) (t' := .int) (by decide) (by decide)))), Fw6, ((((V2.other W3 (Ne.symm (Nat.ne_of_lt (Nat.lt_of_lt_of_le Eso.lt (Nat.le_of_eq g2.symm))))).ext E4).other W5 (Ne.symm (Nat.ne_of_lt (Nat.lt_of_lt_of_le Eso.lt (Nat.le_of_eq g2.symm))))).other W6 (Ne.symm (Nat.ne_of_lt (Nat.lt_of_lt_of_le Eso.lt (Nat.le_of_eq g2.symm))))), ((V4.other W5 (Ne.symm (Nat.ne_of_lt (Nat.lt_of_lt_of_le ((Eso.ext E2).wr W3).lt (Nat.le_of_eq g4.symm))))).other W6 (Ne.symm (Nat.ne_of_lt (Nat.lt_of_lt_of_le ((Eso.ext E2).wr W3).lt (Nat.le_of_eq g4.symm)))))⟩⟩) (by decide) (by decide)
theorem own_sv {p sv : Int32} (h : (p &&& (3 : Int32)) = sv) : ¬ sv < 0 ∧ ¬ (3 : Int32) < sv := by
  have h1 := c_and p (3 : Int32) (by decide)
  rw [h] at h1
  rw [Int32.lt_iff_toInt_lt, Int32.lt_iff_toInt_lt]
  have z : (0 : Int32).toInt = 0 := rfl
  have z3 : (3 : Int32).toInt = 3 := rfl
  omega
theorem own_x3 {p k : Int32} (h : ((p &&& (2147483647 : Int32)) % (3 : Int32)) = k) : own_ok k := by
  have h1 := c_and p (2147483647 : Int32) (by decide)
  have h2 := (c_irem (p &&& (2147483647 : Int32)) (3 : Int32) 3 rfl).1 h1.1
  rw [h] at h2
  simp only [own_ok, ← Int32.toInt_inj]
  simp
  omega
theorem own_tok {t : Int32} (h : ¬ t < 0) (h' : t < (3 : Int32)) : own_ok t := by
  simp only [own_ok, ← Int32.toInt_inj]
  rw [Int32.lt_iff_toInt_lt] at h h'
  have z : (0 : Int32).toInt = 0 := rfl
  have z3 : (3 : Int32).toInt = 3 := rfl
  simp
  omega
theorem own_t3 {t : Int32} (h : ¬ (3 : Int32) < t) (h' : ¬ t < (3 : Int32)) : t = 3 := by
  rw [← Int32.toInt_inj]
  rw [Int32.lt_iff_toInt_lt] at h h'
  omega
theorem own_fsn {tv0 tv1 tv2 : Int32} (h0 : ¬ tv0 < 0) (h1 : ¬ tv1 < 0) (h2 : ¬ tv2 < 0) (u : Int32) : ¬ ((own_up (own_up (own_up (fun _ => (0 : Int32)) (0 : Int32) tv0) (1 : Int32) tv1) (2 : Int32) tv2) u) < 0 := by
  unfold own_up
  split
  · exact h2
  split
  · exact h1
  split
  · exact h0
  · exact (by decide : ¬ (0 : Int32) < 0)
set_option maxRecDepth 65536 in
theorem own_k111 {tv0 tv1 tv2 xv yv : Int32} (h0 : own_ok tv0) (h1 : own_ok tv1) (h2 : own_ok tv2) (hx : own_ok xv) (hy : own_ok yv) : own_chk (own_up (own_up (own_up (own_up (own_up (own_up (own_up (own_up (own_up (fun _ => (0 : Int32)) (0 : Int32) (0 : Int32)) (1 : Int32) (0 : Int32)) (1 : Int32) (1 : Int32)) (1 : Int32) (1 : Int32)) (2 : Int32) (1 : Int32)) (2 : Int32) (2 : Int32)) (2 : Int32) (2 : Int32)) (3 : Int32) (2 : Int32)) (3 : Int32) (3 : Int32)) (own_up (own_up (own_up (fun _ => (0 : Int32)) (0 : Int32) tv0) (1 : Int32) tv1) (2 : Int32) tv2) (own_up (own_up (own_up (fun _ => (0 : Int32)) (0 : Int32) tv0) (1 : Int32) tv1) (2 : Int32) tv2) xv yv = true := by
  rcases hx with rfl | rfl | rfl <;> rcases hy with rfl | rfl | rfl <;> rcases h0 with rfl | rfl | rfl <;> rcases h1 with rfl | rfl | rfl <;> rcases h2 with rfl | rfl | rfl <;> decide +kernel
set_option maxRecDepth 65536 in
theorem own_k110 {tv0 tv1 tv2 xv yv : Int32} (h0 : own_ok tv0) (h1 : own_ok tv1) (h2 : tv2 = 3) (hx : own_ok xv) (hy : own_ok yv) : own_chk (own_up (own_up (own_up (own_up (own_up (own_up (own_up (own_up (fun _ => (0 : Int32)) (0 : Int32) (0 : Int32)) (1 : Int32) (0 : Int32)) (1 : Int32) (1 : Int32)) (1 : Int32) (1 : Int32)) (2 : Int32) (1 : Int32)) (2 : Int32) (2 : Int32)) (2 : Int32) (2 : Int32)) (3 : Int32) (2 : Int32)) (own_up (own_up (fun _ => (0 : Int32)) (0 : Int32) tv0) (1 : Int32) tv1) (own_up (own_up (own_up (fun _ => (0 : Int32)) (0 : Int32) tv0) (1 : Int32) tv1) (2 : Int32) tv2) xv yv = true := by
  rcases hx with rfl | rfl | rfl <;> rcases hy with rfl | rfl | rfl <;> rcases h0 with rfl | rfl | rfl <;> rcases h1 with rfl | rfl | rfl <;> subst h2 <;> decide +kernel
set_option maxRecDepth 65536 in
theorem own_k101 {tv0 tv1 tv2 xv yv : Int32} (h0 : own_ok tv0) (h1 : tv1 = 3) (h2 : own_ok tv2) (hx : own_ok xv) (hy : own_ok yv) : own_chk (own_up (own_up (own_up (own_up (own_up (own_up (own_up (own_up (fun _ => (0 : Int32)) (0 : Int32) (0 : Int32)) (1 : Int32) (0 : Int32)) (1 : Int32) (1 : Int32)) (1 : Int32) (1 : Int32)) (2 : Int32) (1 : Int32)) (2 : Int32) (1 : Int32)) (3 : Int32) (1 : Int32)) (3 : Int32) (2 : Int32)) (own_up (own_up (fun _ => (0 : Int32)) (0 : Int32) tv0) (1 : Int32) tv2) (own_up (own_up (own_up (fun _ => (0 : Int32)) (0 : Int32) tv0) (1 : Int32) tv1) (2 : Int32) tv2) xv yv = true := by
  rcases hx with rfl | rfl | rfl <;> rcases hy with rfl | rfl | rfl <;> rcases h0 with rfl | rfl | rfl <;> subst h1 <;> rcases h2 with rfl | rfl | rfl <;> decide +kernel
set_option maxRecDepth 65536 in
theorem own_k100 {tv0 tv1 tv2 xv yv : Int32} (h0 : own_ok tv0) (h1 : tv1 = 3) (h2 : tv2 = 3) (hx : own_ok xv) (hy : own_ok yv) : own_chk (own_up (own_up (own_up (own_up (own_up (own_up (own_up (fun _ => (0 : Int32)) (0 : Int32) (0 : Int32)) (1 : Int32) (0 : Int32)) (1 : Int32) (1 : Int32)) (1 : Int32) (1 : Int32)) (2 : Int32) (1 : Int32)) (2 : Int32) (1 : Int32)) (3 : Int32) (1 : Int32)) (own_up (fun _ => (0 : Int32)) (0 : Int32) tv0) (own_up (own_up (own_up (fun _ => (0 : Int32)) (0 : Int32) tv0) (1 : Int32) tv1) (2 : Int32) tv2) xv yv = true := by
  rcases hx with rfl | rfl | rfl <;> rcases hy with rfl | rfl | rfl <;> rcases h0 with rfl | rfl | rfl <;> subst h1 <;> subst h2 <;> decide +kernel
set_option maxRecDepth 65536 in
theorem own_k011 {tv0 tv1 tv2 xv yv : Int32} (h0 : tv0 = 3) (h1 : own_ok tv1) (h2 : own_ok tv2) (hx : own_ok xv) (hy : own_ok yv) : own_chk (own_up (own_up (own_up (own_up (own_up (own_up (own_up (own_up (fun _ => (0 : Int32)) (0 : Int32) (0 : Int32)) (1 : Int32) (0 : Int32)) (1 : Int32) (0 : Int32)) (2 : Int32) (0 : Int32)) (2 : Int32) (1 : Int32)) (2 : Int32) (1 : Int32)) (3 : Int32) (1 : Int32)) (3 : Int32) (2 : Int32)) (own_up (own_up (fun _ => (0 : Int32)) (0 : Int32) tv1) (1 : Int32) tv2) (own_up (own_up (own_up (fun _ => (0 : Int32)) (0 : Int32) tv0) (1 : Int32) tv1) (2 : Int32) tv2) xv yv = true := by
  rcases hx with rfl | rfl | rfl <;> rcases hy with rfl | rfl | rfl <;> subst h0 <;> rcases h1 with rfl | rfl | rfl <;> rcases h2 with rfl | rfl | rfl <;> decide +kernel
set_option maxRecDepth 65536 in
theorem own_k010 {tv0 tv1 tv2 xv yv : Int32} (h0 : tv0 = 3) (h1 : own_ok tv1) (h2 : tv2 = 3) (hx : own_ok xv) (hy : own_ok yv) : own_chk (own_up (own_up (own_up (own_up (own_up (own_up (own_up (fun _ => (0 : Int32)) (0 : Int32) (0 : Int32)) (1 : Int32) (0 : Int32)) (1 : Int32) (0 : Int32)) (2 : Int32) (0 : Int32)) (2 : Int32) (1 : Int32)) (2 : Int32) (1 : Int32)) (3 : Int32) (1 : Int32)) (own_up (fun _ => (0 : Int32)) (0 : Int32) tv1) (own_up (own_up (own_up (fun _ => (0 : Int32)) (0 : Int32) tv0) (1 : Int32) tv1) (2 : Int32) tv2) xv yv = true := by
  rcases hx with rfl | rfl | rfl <;> rcases hy with rfl | rfl | rfl <;> subst h0 <;> rcases h1 with rfl | rfl | rfl <;> subst h2 <;> decide +kernel
set_option maxRecDepth 65536 in
theorem own_k001 {tv0 tv1 tv2 xv yv : Int32} (h0 : tv0 = 3) (h1 : tv1 = 3) (h2 : own_ok tv2) (hx : own_ok xv) (hy : own_ok yv) : own_chk (own_up (own_up (own_up (own_up (own_up (own_up (own_up (fun _ => (0 : Int32)) (0 : Int32) (0 : Int32)) (1 : Int32) (0 : Int32)) (1 : Int32) (0 : Int32)) (2 : Int32) (0 : Int32)) (2 : Int32) (0 : Int32)) (3 : Int32) (0 : Int32)) (3 : Int32) (1 : Int32)) (own_up (fun _ => (0 : Int32)) (0 : Int32) tv2) (own_up (own_up (own_up (fun _ => (0 : Int32)) (0 : Int32) tv0) (1 : Int32) tv1) (2 : Int32) tv2) xv yv = true := by
  rcases hx with rfl | rfl | rfl <;> rcases hy with rfl | rfl | rfl <;> subst h0 <;> subst h1 <;> rcases h2 with rfl | rfl | rfl <;> decide +kernel
set_option maxRecDepth 65536 in
theorem own_k000 {tv0 tv1 tv2 xv yv : Int32} (h0 : tv0 = 3) (h1 : tv1 = 3) (h2 : tv2 = 3) (hx : own_ok xv) (hy : own_ok yv) : own_chk (own_up (own_up (own_up (own_up (own_up (own_up (fun _ => (0 : Int32)) (0 : Int32) (0 : Int32)) (1 : Int32) (0 : Int32)) (1 : Int32) (0 : Int32)) (2 : Int32) (0 : Int32)) (2 : Int32) (0 : Int32)) (3 : Int32) (0 : Int32)) (fun _ => (0 : Int32)) (own_up (own_up (own_up (fun _ => (0 : Int32)) (0 : Int32) tv0) (1 : Int32) tv1) (2 : Int32) tv2) xv yv = true := by
  rcases hx with rfl | rfl | rfl <;> rcases hy with rfl | rfl | rfl <;> subst h0 <;> subst h1 <;> subst h2 <;> decide +kernel
theorem pn_0 : plainName "com/example/procurator/procurator/model/StepsNextPinLaw" = true := by first | (simp [plainName, overriddenIn]; done) | decide +kernel
theorem ef_0 (m : MethodId) (x0 : Int32) (x1 : Int32) (x2 : Int32) (x3 : Int32) (x4 : Int32) : entryFrame m #[(.int x0), (.int x1), (.int x2), (.int x3), (.int x4)] maxLocals = mkF m 0 #[.val (.int x0), .val (.int x1), .val (.int x2), .val (.int x3), .val (.int x4), .unset, .unset, .unset, .unset, .unset, .unset, .unset, .unset, .unset, .unset] [] := by first | (simp [entryFrame, mkF, argsToLocals, Value.category, maxLocals]; done) | rfl
set_option maxRecDepth 65536 in
set_option maxHeartbeats 40000000 in
theorem rm0 (l : Launch) (Z : State) (a0 : Array Value) (hw : ∀ d ∈ tables_1, d.before a0 Z = true) (ws : List Jvm.Cond) (p0 p1 p2 p3 p4 : Int32) (h0 : Heap) (n0 : Nat) (Z0 : n0 ≤ h0.size)  :
    own_Met l Z ws x code maxLocals ret room_1 40 192 #[(.int p0), (.int p1), (.int p2), (.int p3), (.int p4)] h0 (fun v h L => v = some (.int 1) ∧ Fr n0 L) := by
  refine own_body (plainFor_of_name pn_0) ?_
  intro p e s m below meth c s₁ hx hby hml hown hnm hlk hret hZ hh X0 e0
  have N0 := Fr.nil n0
  refine own_cast (ef_0 m p0 p1 p2 p3 p4) ?_
  refine own_st (T' := s₁) (g' := (mkF m 1 #[.val (.int p0), .val (.int p1), .val (.int p2), .val (.int p3), .val (.int p4), .unset, .unset, .unset, .unset, .unset, .unset, .unset, .unset, .unset, .unset] [(.int p0)])) (fun _ k => XS.iloadN X0.here hx rfl (hb hby at_0) rfl k) ?_
  refine own_st (T' := s₁) (g' := (mkF m 2 #[.val (.int p0), .val (.int p1), .val (.int p2), .val (.int p3), .val (.int p4), .unset, .unset, .unset, .unset, .unset, .unset, .unset, .unset, .unset, .unset] [(.int (3 : Int32)), (.int p0)])) (fun _ k => XS.iconst X0.here hx rfl (hb hby at_1) k) ?_
  refine own_st (T' := s₁) (g' := (mkF m 3 #[.val (.int p0), .val (.int p1), .val (.int p2), .val (.int p3), .val (.int p4), .unset, .unset, .unset, .unset, .unset, .unset, .unset, .unset, .unset, .unset] [(.int (p0 &&& (3 : Int32)))])) (fun _ k => XS.iand X0.here hx rfl (hb hby at_2) rfl k) ?_
  generalize htv0 : (p0 &&& (3 : Int32)) = tv0
  obtain ⟨ha0, hb0⟩ := own_sv htv0
  refine own_st (T' := s₁) (g' := (mkF m 5 #[.val (.int p0), .val (.int p1), .val (.int p2), .val (.int p3), .val (.int p4), .val (.int tv0), .unset, .unset, .unset, .unset, .unset, .unset, .unset, .unset, .unset] [])) (fun _ k => XS.istore X0.here hx rfl (hb hby at_3) rfl (l' := #[.val (.int p0), .val (.int p1), .val (.int p2), .val (.int p3), .val (.int p4), .val (.int tv0), .unset, .unset, .unset, .unset, .unset, .unset, .unset, .unset, .unset]) rfl k) ?_
  refine own_st (T' := s₁) (g' := (mkF m 6 #[.val (.int p0), .val (.int p1), .val (.int p2), .val (.int p3), .val (.int p4), .val (.int tv0), .unset, .unset, .unset, .unset, .unset, .unset, .unset, .unset, .unset] [(.int p1)])) (fun _ k => XS.iloadN X0.here hx rfl (hb hby at_5) rfl k) ?_
  refine own_st (T' := s₁) (g' := (mkF m 7 #[.val (.int p0), .val (.int p1), .val (.int p2), .val (.int p3), .val (.int p4), .val (.int tv0), .unset, .unset, .unset, .unset, .unset, .unset, .unset, .unset, .unset] [(.int (3 : Int32)), (.int p1)])) (fun _ k => XS.iconst X0.here hx rfl (hb hby at_6) k) ?_
  refine own_st (T' := s₁) (g' := (mkF m 8 #[.val (.int p0), .val (.int p1), .val (.int p2), .val (.int p3), .val (.int p4), .val (.int tv0), .unset, .unset, .unset, .unset, .unset, .unset, .unset, .unset, .unset] [(.int (p1 &&& (3 : Int32)))])) (fun _ k => XS.iand X0.here hx rfl (hb hby at_7) rfl k) ?_
  generalize htv1 : (p1 &&& (3 : Int32)) = tv1
  obtain ⟨ha1, hb1⟩ := own_sv htv1
  refine own_st (T' := s₁) (g' := (mkF m 10 #[.val (.int p0), .val (.int p1), .val (.int p2), .val (.int p3), .val (.int p4), .val (.int tv0), .val (.int tv1), .unset, .unset, .unset, .unset, .unset, .unset, .unset, .unset] [])) (fun _ k => XS.istore X0.here hx rfl (hb hby at_8) rfl (l' := #[.val (.int p0), .val (.int p1), .val (.int p2), .val (.int p3), .val (.int p4), .val (.int tv0), .val (.int tv1), .unset, .unset, .unset, .unset, .unset, .unset, .unset, .unset]) rfl k) ?_
  refine own_st (T' := s₁) (g' := (mkF m 11 #[.val (.int p0), .val (.int p1), .val (.int p2), .val (.int p3), .val (.int p4), .val (.int tv0), .val (.int tv1), .unset, .unset, .unset, .unset, .unset, .unset, .unset, .unset] [(.int p2)])) (fun _ k => XS.iloadN X0.here hx rfl (hb hby at_10) rfl k) ?_
  refine own_st (T' := s₁) (g' := (mkF m 12 #[.val (.int p0), .val (.int p1), .val (.int p2), .val (.int p3), .val (.int p4), .val (.int tv0), .val (.int tv1), .unset, .unset, .unset, .unset, .unset, .unset, .unset, .unset] [(.int (3 : Int32)), (.int p2)])) (fun _ k => XS.iconst X0.here hx rfl (hb hby at_11) k) ?_
  refine own_st (T' := s₁) (g' := (mkF m 13 #[.val (.int p0), .val (.int p1), .val (.int p2), .val (.int p3), .val (.int p4), .val (.int tv0), .val (.int tv1), .unset, .unset, .unset, .unset, .unset, .unset, .unset, .unset] [(.int (p2 &&& (3 : Int32)))])) (fun _ k => XS.iand X0.here hx rfl (hb hby at_12) rfl k) ?_
  generalize htv2 : (p2 &&& (3 : Int32)) = tv2
  obtain ⟨ha2, hb2⟩ := own_sv htv2
  refine own_st (T' := s₁) (g' := (mkF m 15 #[.val (.int p0), .val (.int p1), .val (.int p2), .val (.int p3), .val (.int p4), .val (.int tv0), .val (.int tv1), .val (.int tv2), .unset, .unset, .unset, .unset, .unset, .unset, .unset] [])) (fun _ k => XS.istore X0.here hx rfl (hb hby at_13) rfl (l' := #[.val (.int p0), .val (.int p1), .val (.int p2), .val (.int p3), .val (.int p4), .val (.int tv0), .val (.int tv1), .val (.int tv2), .unset, .unset, .unset, .unset, .unset, .unset, .unset]) rfl k) ?_
  refine own_st (T' := s₁) (g' := (mkF m 16 #[.val (.int p0), .val (.int p1), .val (.int p2), .val (.int p3), .val (.int p4), .val (.int tv0), .val (.int tv1), .val (.int tv2), .unset, .unset, .unset, .unset, .unset, .unset, .unset] [(.int p3)])) (fun _ k => XS.iloadN X0.here hx rfl (hb hby at_15) rfl k) ?_
  refine own_st (T' := s₁) (g' := (mkF m 18 #[.val (.int p0), .val (.int p1), .val (.int p2), .val (.int p3), .val (.int p4), .val (.int tv0), .val (.int tv1), .val (.int tv2), .unset, .unset, .unset, .unset, .unset, .unset, .unset] [(.int (2147483647 : Int32)), (.int p3)])) (fun _ k => X0.ldcInt hx hown (mvT hZ (own_w hw 0 rfl)) (g := (mkF m 16 #[.val (.int p0), .val (.int p1), .val (.int p2), .val (.int p3), .val (.int p4), .val (.int tv0), .val (.int tv1), .val (.int tv2), .unset, .unset, .unset, .unset, .unset, .unset, .unset] [(.int p3)])) rfl (hb hby at_16) _ k) ?_
  refine own_st (T' := s₁) (g' := (mkF m 19 #[.val (.int p0), .val (.int p1), .val (.int p2), .val (.int p3), .val (.int p4), .val (.int tv0), .val (.int tv1), .val (.int tv2), .unset, .unset, .unset, .unset, .unset, .unset, .unset] [(.int (p3 &&& (2147483647 : Int32)))])) (fun _ k => XS.iand X0.here hx rfl (hb hby at_18) rfl k) ?_
  refine own_st (T' := s₁) (g' := (mkF m 20 #[.val (.int p0), .val (.int p1), .val (.int p2), .val (.int p3), .val (.int p4), .val (.int tv0), .val (.int tv1), .val (.int tv2), .unset, .unset, .unset, .unset, .unset, .unset, .unset] [(.int (3 : Int32)), (.int (p3 &&& (2147483647 : Int32)))])) (fun _ k => XS.iconst X0.here hx rfl (hb hby at_19) k) ?_
  refine own_st (T' := s₁) (g' := (mkF m 21 #[.val (.int p0), .val (.int p1), .val (.int p2), .val (.int p3), .val (.int p4), .val (.int tv0), .val (.int tv1), .val (.int tv2), .unset, .unset, .unset, .unset, .unset, .unset, .unset] [(.int ((p3 &&& (2147483647 : Int32)) % (3 : Int32)))])) (fun _ k => iremM X0 hx rfl (hb hby at_20) rfl (by decide) k) ?_
  generalize hxv : ((p3 &&& (2147483647 : Int32)) % (3 : Int32)) = xv
  have hox := own_x3 hxv
  refine own_st (T' := s₁) (g' := (mkF m 23 #[.val (.int p0), .val (.int p1), .val (.int p2), .val (.int p3), .val (.int p4), .val (.int tv0), .val (.int tv1), .val (.int tv2), .val (.int xv), .unset, .unset, .unset, .unset, .unset, .unset] [])) (fun _ k => XS.istore X0.here hx rfl (hb hby at_21) rfl (l' := #[.val (.int p0), .val (.int p1), .val (.int p2), .val (.int p3), .val (.int p4), .val (.int tv0), .val (.int tv1), .val (.int tv2), .val (.int xv), .unset, .unset, .unset, .unset, .unset, .unset]) rfl k) ?_
  refine own_st (T' := s₁) (g' := (mkF m 25 #[.val (.int p0), .val (.int p1), .val (.int p2), .val (.int p3), .val (.int p4), .val (.int tv0), .val (.int tv1), .val (.int tv2), .val (.int xv), .unset, .unset, .unset, .unset, .unset, .unset] [(.int p4)])) (fun _ k => XS.iload X0.here hx rfl (hb hby at_23) rfl k) ?_
  refine own_st (T' := s₁) (g' := (mkF m 27 #[.val (.int p0), .val (.int p1), .val (.int p2), .val (.int p3), .val (.int p4), .val (.int tv0), .val (.int tv1), .val (.int tv2), .val (.int xv), .unset, .unset, .unset, .unset, .unset, .unset] [(.int (2147483647 : Int32)), (.int p4)])) (fun _ k => X0.ldcInt hx hown (mvT hZ (own_w hw 0 rfl)) (g := (mkF m 25 #[.val (.int p0), .val (.int p1), .val (.int p2), .val (.int p3), .val (.int p4), .val (.int tv0), .val (.int tv1), .val (.int tv2), .val (.int xv), .unset, .unset, .unset, .unset, .unset, .unset] [(.int p4)])) rfl (hb hby at_25) _ k) ?_
  refine own_st (T' := s₁) (g' := (mkF m 28 #[.val (.int p0), .val (.int p1), .val (.int p2), .val (.int p3), .val (.int p4), .val (.int tv0), .val (.int tv1), .val (.int tv2), .val (.int xv), .unset, .unset, .unset, .unset, .unset, .unset] [(.int (p4 &&& (2147483647 : Int32)))])) (fun _ k => XS.iand X0.here hx rfl (hb hby at_27) rfl k) ?_
  refine own_st (T' := s₁) (g' := (mkF m 29 #[.val (.int p0), .val (.int p1), .val (.int p2), .val (.int p3), .val (.int p4), .val (.int tv0), .val (.int tv1), .val (.int tv2), .val (.int xv), .unset, .unset, .unset, .unset, .unset, .unset] [(.int (3 : Int32)), (.int (p4 &&& (2147483647 : Int32)))])) (fun _ k => XS.iconst X0.here hx rfl (hb hby at_28) k) ?_
  refine own_st (T' := s₁) (g' := (mkF m 30 #[.val (.int p0), .val (.int p1), .val (.int p2), .val (.int p3), .val (.int p4), .val (.int tv0), .val (.int tv1), .val (.int tv2), .val (.int xv), .unset, .unset, .unset, .unset, .unset, .unset] [(.int ((p4 &&& (2147483647 : Int32)) % (3 : Int32)))])) (fun _ k => iremM X0 hx rfl (hb hby at_29) rfl (by decide) k) ?_
  generalize hyv : ((p4 &&& (2147483647 : Int32)) % (3 : Int32)) = yv
  have hoy := own_x3 hyv
  refine own_st (T' := s₁) (g' := (mkF m 32 #[.val (.int p0), .val (.int p1), .val (.int p2), .val (.int p3), .val (.int p4), .val (.int tv0), .val (.int tv1), .val (.int tv2), .val (.int xv), .val (.int yv), .unset, .unset, .unset, .unset, .unset] [])) (fun _ k => XS.istore X0.here hx rfl (hb hby at_30) rfl (l' := #[.val (.int p0), .val (.int p1), .val (.int p2), .val (.int p3), .val (.int p4), .val (.int tv0), .val (.int tv1), .val (.int tv2), .val (.int xv), .val (.int yv), .unset, .unset, .unset, .unset, .unset]) rfl k) ?_
  obtain ⟨T1, h1, X1, e1, E1, A1, D1, -, st1⟩ := newO X0 hx hZ hown (own_w hw 1 rfl) (own_w hw 2 rfl) (own_w hw 3 rfl) e0 (g := (mkF m 32 #[.val (.int p0), .val (.int p1), .val (.int p2), .val (.int p3), .val (.int p4), .val (.int tv0), .val (.int tv1), .val (.int tv2), .val (.int xv), .val (.int yv), .unset, .unset, .unset, .unset, .unset] [])) rfl (hb hby at_32) (by decide) (by decide)
  obtain ⟨b1, g1⟩ : ∃ z, z = h0.size := ⟨_, rfl⟩
  rw [← g1] at A1 D1 st1
  have G_b1 : n0 ≤ b1 := Nat.le_trans Z0 (Nat.le_of_eq g1.symm)
  have sz_b1 : h0.size ≤ b1 := Nat.le_trans (Keep.refl h0 []).1 (Nat.le_of_eq g1.symm)
  have F1_first : Fld Z h1 b1 "com/example/procurator/procurator/model/RelationGraph$Steps" "first" "[I" .null := D1 (Or.inr (own_w hw 12 rfl)) (ty := (.array .int)) (by decide)
  have F1_to : Fld Z h1 b1 "com/example/procurator/procurator/model/RelationGraph$Steps" "to" "[I" .null := D1 (Or.inl (own_w hw 14 rfl)) (ty := (.array .int)) (by decide)
  have F1_from : Fld Z h1 b1 "com/example/procurator/procurator/model/RelationGraph$Steps" "from" "I" (.int (0 : Int32)) := D1 (Or.inl (own_w hw 16 rfl)) (ty := .int) (by decide)
  have F1_size : Fld Z h1 b1 "com/example/procurator/procurator/model/RelationGraph$Steps" "size" "I" (.int (0 : Int32)) := D1 (Or.inl (own_w hw 23 rfl)) (ty := .int) (by decide)
  refine own_st (g' := (mkF m 35 #[.val (.int p0), .val (.int p1), .val (.int p2), .val (.int p3), .val (.int p4), .val (.int tv0), .val (.int tv1), .val (.int tv2), .val (.int xv), .val (.int yv), .unset, .unset, .unset, .unset, .unset] [(.ref b1)])) st1 ?_
  refine own_st (T' := T1) (g' := (mkF m 36 #[.val (.int p0), .val (.int p1), .val (.int p2), .val (.int p3), .val (.int p4), .val (.int tv0), .val (.int tv1), .val (.int tv2), .val (.int xv), .val (.int yv), .unset, .unset, .unset, .unset, .unset] [(.ref b1), (.ref b1)])) (fun _ k => XS.dup X1.here hx rfl (hb hby at_35) rfl rfl k) ?_
  refine own_st (T' := T1) (g' := (mkF m 37 #[.val (.int p0), .val (.int p1), .val (.int p2), .val (.int p3), .val (.int p4), .val (.int tv0), .val (.int tv1), .val (.int tv2), .val (.int xv), .val (.int yv), .unset, .unset, .unset, .unset, .unset] [(.int (3 : Int32)), (.ref b1), (.ref b1)])) (fun _ k => XS.iconst X1.here hx rfl (hb hby at_36) k) ?_
  refine own_callC X1 hx hZ (y := (⟨"com/example/procurator/procurator/model/RelationGraph$Steps", "<init>", "(I)V"⟩ : MethodName)) rfl hown (own_w hw 4 rfl) (own_w hw 5 rfl) (own_w hw 6 rfl) (own_w hw 3 rfl) (by decide) (W := 1) e1 (b := b1) (argsL := [(.int (3 : Int32))]) (rest := [(.ref b1)]) (rmsi l Z a0 hw [] b1 h1 n0 (Nat.le_trans Z0 E1.1) A1 G_b1 F1_first F1_to F1_size F1_from) (by decide) (by decide) (by decide) (by decide) (g := (mkF m 37 #[.val (.int p0), .val (.int p1), .val (.int p2), .val (.int p3), .val (.int p4), .val (.int tv0), .val (.int tv1), .val (.int tv2), .val (.int xv), .val (.int yv), .unset, .unset, .unset, .unset, .unset] [(.int (3 : Int32)), (.ref b1), (.ref b1)])) rfl (by rw [hml]; rfl) (lenOf own_pd1 rfl) rfl (by show 2 * 0 + _ ≤ _; exact Nat.le_of_eq rfl) (hb hby at_37) ?_
  rintro _ T2 L2 X2 ⟨rfl, N2q, Zq2, oF, oT, hd, hG, hq_2⟩
  show own_Go _ _ _ _ _ _ _ T2 (mkF m 40 #[.val (.int p0), .val (.int p1), .val (.int p2), .val (.int p3), .val (.int p4), .val (.int tv0), .val (.int tv1), .val (.int tv2), .val (.int xv), .val (.int yv), .unset, .unset, .unset, .unset, .unset] [(.ref b1)])
  have N2 := Fr.app N0 N2q
  refine own_st (T' := T2) (g' := (mkF m 42 #[.val (.int p0), .val (.int p1), .val (.int p2), .val (.int p3), .val (.int p4), .val (.int tv0), .val (.int tv1), .val (.int tv2), .val (.int xv), .val (.int yv), .val (.ref b1), .unset, .unset, .unset, .unset] [])) (fun _ k => XS.astore X2.here hx rfl (hb hby at_40) rfl rfl (l' := #[.val (.int p0), .val (.int p1), .val (.int p2), .val (.int p3), .val (.int p4), .val (.int tv0), .val (.int tv1), .val (.int tv2), .val (.int xv), .val (.int yv), .val (.ref b1), .unset, .unset, .unset, .unset]) rfl k) ?_
  have key : ∀ (TA : State) (LA : List Loc) (fF fT : Int32 → Int32) (sz fr : Int32), Stand p l e room_1 s m #[(.int p0), (.int p1), (.int p2), (.int p3), (.int p4)] below meth c TA LA 3 11 → Fr n0 LA → n0 ≤ TA.heap.size → own_ST Z TA.heap b1 oF oT fF fT sz fr → own_chk fF fT (own_up (own_up (own_up (fun _ => (0 : Int32)) (0 : Int32) tv0) (1 : Int32) tv1) (2 : Int32) tv2) xv yv = true → own_Go p e s below (fun v h L => v = some (.int 1) ∧ Fr n0 L) 40 192 TA (mkF m 96 #[.val (.int p0), .val (.int p1), .val (.int p2), .val (.int p3), .val (.int p4), .val (.int tv0), .val (.int tv1), .val (.int tv2), .val (.int xv), .val (.int yv), .val (.ref b1), .unset, .unset, .unset, .unset] []) := by
    intro TA LA fF fT sz fr XA NA ZA hqA hchk
    obtain ⟨qa, qb, q', hm0, hm1, hm2, hck⟩ := own_chk_ok hchk
    obtain ⟨Es_A, Ff_A, Ft_A, Fz_A, Fr_A, AF_A, AT_A⟩ := hqA
    obtain ⟨T3, h3, X3, e3, E3, A3, D3, -, st3⟩ := newO XA hx hZ hown (own_w hw 29 rfl) (own_w hw 30 rfl) (own_w hw 31 rfl) rfl (g := (mkF m 96 #[.val (.int p0), .val (.int p1), .val (.int p2), .val (.int p3), .val (.int p4), .val (.int tv0), .val (.int tv1), .val (.int tv2), .val (.int xv), .val (.int yv), .val (.ref b1), .unset, .unset, .unset, .unset] [])) rfl (hb hby at_96) (by decide) (by decide)
    obtain ⟨b3, g3⟩ : ∃ z, z = TA.heap.size := ⟨_, rfl⟩
    rw [← g3] at A3 D3 st3
    have G_b3 : n0 ≤ b3 := Nat.le_trans ZA (Nat.le_of_eq g3.symm)
    have F3_circleOf : Fld Z h3 b3 "com/example/procurator/procurator/model/RelationGraph" "circleOf" "[I" .null := D3 (Or.inr (own_w hw 95 rfl)) (ty := (.array .int)) (by decide)
    refine own_st (g' := (mkF m 99 #[.val (.int p0), .val (.int p1), .val (.int p2), .val (.int p3), .val (.int p4), .val (.int tv0), .val (.int tv1), .val (.int tv2), .val (.int xv), .val (.int yv), .val (.ref b1), .unset, .unset, .unset, .unset] [(.ref b3)])) st3 ?_
    refine own_st (T' := T3) (g' := (mkF m 100 #[.val (.int p0), .val (.int p1), .val (.int p2), .val (.int p3), .val (.int p4), .val (.int tv0), .val (.int tv1), .val (.int tv2), .val (.int xv), .val (.int yv), .val (.ref b1), .unset, .unset, .unset, .unset] [(.ref b3), (.ref b3)])) (fun _ k => XS.dup X3.here hx rfl (hb hby at_99) rfl rfl k) ?_
    refine own_st (T' := T3) (g' := (mkF m 102 #[.val (.int p0), .val (.int p1), .val (.int p2), .val (.int p3), .val (.int p4), .val (.int tv0), .val (.int tv1), .val (.int tv2), .val (.int xv), .val (.int yv), .val (.ref b1), .unset, .unset, .unset, .unset] [(.ref b1), (.ref b3), (.ref b3)])) (fun _ k => XS.aload X3.here hx rfl (hb hby at_100) rfl rfl k) ?_
    refine own_callC X3 hx hZ (y := (⟨"com/example/procurator/procurator/model/RelationGraph", "<init>", "(Lcom/example/procurator/procurator/model/RelationGraph$Steps;)V"⟩ : MethodName)) rfl hown (own_w hw 32 rfl) (own_w hw 33 rfl) (own_w hw 34 rfl) (own_w hw 31 rfl) (by decide) (W := 1) e3 (b := b3) (argsL := [(.ref b1)]) (rest := [(.ref b3)]) (rmrg l Z a0 hw [] b3 b1 oF oT fF fT qa qb q' h3 n0 (Nat.le_trans ZA E3.1) (Es_A.ext E3) (Ff_A.ext E3) (Ft_A.ext E3) (AF_A.ext E3) (AT_A.ext E3) (hG _ (List.mem_of_getElem? (i := 0) rfl)) (hG _ (List.mem_of_getElem? (i := 1) rfl)) (hG _ (List.mem_of_getElem? (i := 2) rfl)) A3 G_b3 F3_circleOf (List.nodup_cons.mpr ⟨(ninS (own_nd hd 0 1 (by decide) rfl rfl) (ninS (own_nd hd 0 2 (by decide) rfl rfl) (ninS (Nat.ne_of_lt (Nat.lt_of_lt_of_le Es_A.lt (Nat.le_of_eq g3.symm))) nin0))), (List.nodup_cons.mpr ⟨(ninS (own_nd hd 1 2 (by decide) rfl rfl) (ninS (Nat.ne_of_lt (Nat.lt_of_lt_of_le AF_A.lt (Nat.le_of_eq g3.symm))) nin0)), (List.nodup_cons.mpr ⟨(ninS (Nat.ne_of_lt (Nat.lt_of_lt_of_le AT_A.lt (Nat.le_of_eq g3.symm))) nin0), (List.nodup_cons.mpr ⟨nin0, List.nodup_nil⟩)⟩)⟩)⟩) hm0 hm1 hm2) (by decide) (by decide) (by decide) (by decide) (g := (mkF m 102 #[.val (.int p0), .val (.int p1), .val (.int p2), .val (.int p3), .val (.int p4), .val (.int tv0), .val (.int tv1), .val (.int tv2), .val (.int xv), .val (.int yv), .val (.ref b1), .unset, .unset, .unset, .unset] [(.ref b1), (.ref b3), (.ref b3)])) rfl (by rw [hml]; rfl) (lenOf own_pd4 rfl) rfl (by show 2 * 0 + _ ≤ _; exact Nat.le_of_eq rfl) (hb hby at_102) ?_
    rintro _ T4 L4 X4 ⟨rfl, N4q, Zg4, a4, Eg4, Fg4, Ag4⟩
    show own_Go _ _ _ _ _ _ _ T4 (mkF m 105 #[.val (.int p0), .val (.int p1), .val (.int p2), .val (.int p3), .val (.int p4), .val (.int tv0), .val (.int tv1), .val (.int tv2), .val (.int xv), .val (.int yv), .val (.ref b1), .unset, .unset, .unset, .unset] [(.ref b3)])
    have N4 := Fr.app NA N4q
    refine own_st (T' := T4) (g' := (mkF m 107 #[.val (.int p0), .val (.int p1), .val (.int p2), .val (.int p3), .val (.int p4), .val (.int tv0), .val (.int tv1), .val (.int tv2), .val (.int xv), .val (.int yv), .val (.ref b1), .val (.ref b3), .unset, .unset, .unset] [])) (fun _ k => XS.astore X4.here hx rfl (hb hby at_105) rfl rfl (l' := #[.val (.int p0), .val (.int p1), .val (.int p2), .val (.int p3), .val (.int p4), .val (.int tv0), .val (.int tv1), .val (.int tv2), .val (.int xv), .val (.int yv), .val (.ref b1), .val (.ref b3), .unset, .unset, .unset]) rfl k) ?_
    refine own_st (T' := T4) (g' := (mkF m 109 #[.val (.int p0), .val (.int p1), .val (.int p2), .val (.int p3), .val (.int p4), .val (.int tv0), .val (.int tv1), .val (.int tv2), .val (.int xv), .val (.int yv), .val (.ref b1), .val (.ref b3), .unset, .unset, .unset] [(.ref b3)])) (fun _ k => XS.aload X4.here hx rfl (hb hby at_107) rfl rfl k) ?_
    refine own_st (T' := T4) (g' := (mkF m 111 #[.val (.int p0), .val (.int p1), .val (.int p2), .val (.int p3), .val (.int p4), .val (.int tv0), .val (.int tv1), .val (.int tv2), .val (.int xv), .val (.int yv), .val (.ref b1), .val (.ref b3), .unset, .unset, .unset] [(.int xv), (.ref b3)])) (fun _ k => XS.iload X4.here hx rfl (hb hby at_109) rfl k) ?_
    refine own_st (T' := T4) (g' := (mkF m 113 #[.val (.int p0), .val (.int p1), .val (.int p2), .val (.int p3), .val (.int p4), .val (.int tv0), .val (.int tv1), .val (.int tv2), .val (.int xv), .val (.int yv), .val (.ref b1), .val (.ref b3), .unset, .unset, .unset] [(.int yv), (.int xv), (.ref b3)])) (fun _ k => XS.iload X4.here hx rfl (hb hby at_111) rfl k) ?_
    refine own_callV X4 hx hZ (y := (⟨"com/example/procurator/procurator/model/RelationGraph", "inOneCircle", "(II)Z"⟩ : MethodName)) hown (own_w hw 96 rfl) (own_w hw 97 rfl) (own_w hw 99 rfl) (own_w hw 98 rfl) (own_w hw 100 rfl) (own_w hw 31 rfl) (by decide) (W := 0) rfl (b := b3) Eg4 (argsL := [(.int xv), (.int yv)]) (rest := []) (rmoc l Z a0 hw [] b3 a4 q'.2.2.2.1 xv yv T4.heap n0 Zg4 Fg4 Ag4 (own_okin hox) (own_okin hoy)) (by decide) (by decide) (by decide) (by decide) (g := (mkF m 113 #[.val (.int p0), .val (.int p1), .val (.int p2), .val (.int p3), .val (.int p4), .val (.int tv0), .val (.int tv1), .val (.int tv2), .val (.int xv), .val (.int yv), .val (.ref b1), .val (.ref b3), .unset, .unset, .unset] [(.int yv), (.int xv), (.ref b3)])) rfl (by rw [hml]; rfl) (lenOf own_pd6 rfl) rfl (by show 2 * 0 + _ ≤ _; exact Nat.le_of_eq rfl) (hb hby at_113) ?_
    rintro _ T5 L5 X5 ⟨rfl, N5q, e5⟩
    show own_Go _ _ _ _ _ _ _ T5 (mkF m 116 #[.val (.int p0), .val (.int p1), .val (.int p2), .val (.int p3), .val (.int p4), .val (.int tv0), .val (.int tv1), .val (.int tv2), .val (.int xv), .val (.int yv), .val (.ref b1), .val (.ref b3), .unset, .unset, .unset] [(.int (if (q'.2.2.2.1 xv) = (q'.2.2.2.1 yv) then (1 : Int32) else (0 : Int32)))])
    have N5 := Fr.app N4 N5q
    refine own_st (T' := T5) (g' := (mkF m 118 #[.val (.int p0), .val (.int p1), .val (.int p2), .val (.int p3), .val (.int p4), .val (.int tv0), .val (.int tv1), .val (.int tv2), .val (.int xv), .val (.int yv), .val (.ref b1), .val (.ref b3), .val (.int (if (q'.2.2.2.1 xv) = (q'.2.2.2.1 yv) then (1 : Int32) else (0 : Int32))), .unset, .unset] [])) (fun _ k => XS.istore X5.here hx rfl (hb hby at_116) rfl (l' := #[.val (.int p0), .val (.int p1), .val (.int p2), .val (.int p3), .val (.int p4), .val (.int tv0), .val (.int tv1), .val (.int tv2), .val (.int xv), .val (.int yv), .val (.ref b1), .val (.ref b3), .val (.int (if (q'.2.2.2.1 xv) = (q'.2.2.2.1 yv) then (1 : Int32) else (0 : Int32))), .unset, .unset]) rfl k) ?_
    refine own_st (T' := T5) (g' := (mkF m 119 #[.val (.int p0), .val (.int p1), .val (.int p2), .val (.int p3), .val (.int p4), .val (.int tv0), .val (.int tv1), .val (.int tv2), .val (.int xv), .val (.int yv), .val (.ref b1), .val (.ref b3), .val (.int (if (q'.2.2.2.1 xv) = (q'.2.2.2.1 yv) then (1 : Int32) else (0 : Int32))), .unset, .unset] [(.int (3 : Int32))])) (fun _ k => XS.iconst X5.here hx rfl (hb hby at_118) k) ?_
    obtain ⟨T6, h6, k6, X6, e6, E6, A6, st6⟩ := newP X5 hx hZ (own_w hw 10 rfl) e5 (g := (mkF m 119 #[.val (.int p0), .val (.int p1), .val (.int p2), .val (.int p3), .val (.int p4), .val (.int tv0), .val (.int tv1), .val (.int tv2), .val (.int xv), .val (.int yv), .val (.ref b1), .val (.ref b3), .val (.int (if (q'.2.2.2.1 xv) = (q'.2.2.2.1 yv) then (1 : Int32) else (0 : Int32))), .unset, .unset] [(.int (3 : Int32))])) rfl (hb hby at_119) rfl (by decide) (cap := 3) (by decide) (by decide) (by decide) (by decide)
    obtain ⟨b6, g6⟩ : ∃ z, z = T4.heap.size := ⟨_, rfl⟩
    rw [← g6] at A6 st6
    have G_b6 : n0 ≤ b6 := Nat.le_trans Zg4 (Nat.le_of_eq g6.symm)
    have V6 : own_A Z h6 b6 .int (3 : Int32) (fun i => (.int ((fun _ => (0 : Int32)) i))) := own_A.new A6 (by decide)
    refine own_st (g' := (mkF m 121 #[.val (.int p0), .val (.int p1), .val (.int p2), .val (.int p3), .val (.int p4), .val (.int tv0), .val (.int tv1), .val (.int tv2), .val (.int xv), .val (.int yv), .val (.ref b1), .val (.ref b3), .val (.int (if (q'.2.2.2.1 xv) = (q'.2.2.2.1 yv) then (1 : Int32) else (0 : Int32))), .unset, .unset] [(.ref b6)])) st6 ?_
    refine own_st (T' := T6) (g' := (mkF m 122 #[.val (.int p0), .val (.int p1), .val (.int p2), .val (.int p3), .val (.int p4), .val (.int tv0), .val (.int tv1), .val (.int tv2), .val (.int xv), .val (.int yv), .val (.ref b1), .val (.ref b3), .val (.int (if (q'.2.2.2.1 xv) = (q'.2.2.2.1 yv) then (1 : Int32) else (0 : Int32))), .unset, .unset] [(.ref b6), (.ref b6)])) (fun _ k => XS.dup X6.here hx rfl (hb hby at_121) rfl rfl k) ?_
    refine own_st (T' := T6) (g' := (mkF m 123 #[.val (.int p0), .val (.int p1), .val (.int p2), .val (.int p3), .val (.int p4), .val (.int tv0), .val (.int tv1), .val (.int tv2), .val (.int xv), .val (.int yv), .val (.ref b1), .val (.ref b3), .val (.int (if (q'.2.2.2.1 xv) = (q'.2.2.2.1 yv) then (1 : Int32) else (0 : Int32))), .unset, .unset] [(.int (0 : Int32)), (.ref b6), (.ref b6)])) (fun _ k => XS.iconst X6.here hx rfl (hb hby at_122) k) ?_
    refine own_st (T' := T6) (g' := (mkF m 125 #[.val (.int p0), .val (.int p1), .val (.int p2), .val (.int p3), .val (.int p4), .val (.int tv0), .val (.int tv1), .val (.int tv2), .val (.int xv), .val (.int yv), .val (.ref b1), .val (.ref b3), .val (.int (if (q'.2.2.2.1 xv) = (q'.2.2.2.1 yv) then (1 : Int32) else (0 : Int32))), .unset, .unset] [(.int tv0), (.int (0 : Int32)), (.ref b6), (.ref b6)])) (fun _ k => XS.iload X6.here hx rfl (hb hby at_123) rfl k) ?_
    obtain ⟨cl7, Ar7, S7, M7, H7⟩ := id V6
    obtain ⟨T7, h7, X7, e7, W7, st7⟩ := stI X6 hx hZ e6 Ar7 (j := (0 : Int32)) (inb_of S7 ⟨(by decide), (by decide)⟩) (g := (mkF m 125 #[.val (.int p0), .val (.int p1), .val (.int p2), .val (.int p3), .val (.int p4), .val (.int tv0), .val (.int tv1), .val (.int tv2), .val (.int xv), .val (.int yv), .val (.ref b1), .val (.ref b3), .val (.int (if (q'.2.2.2.1 xv) = (q'.2.2.2.1 yv) then (1 : Int32) else (0 : Int32))), .unset, .unset] [(.int tv0), (.int (0 : Int32)), (.ref b6), (.ref b6)])) rfl rfl (hb hby at_125)
    have V7 : own_A Z h7 b6 .int (3 : Int32) (fun i => (.int ((own_up (fun _ => (0 : Int32)) (0 : Int32) tv0) i))) := (own_A.set Ar7 S7 M7 H7 (by decide) (by decide) W7).upI
    have N7 := Fr.snoc X7 N5 G_b6
    refine own_st (g' := (mkF m 126 #[.val (.int p0), .val (.int p1), .val (.int p2), .val (.int p3), .val (.int p4), .val (.int tv0), .val (.int tv1), .val (.int tv2), .val (.int xv), .val (.int yv), .val (.ref b1), .val (.ref b3), .val (.int (if (q'.2.2.2.1 xv) = (q'.2.2.2.1 yv) then (1 : Int32) else (0 : Int32))), .unset, .unset] [(.ref b6)])) st7 ?_
    refine own_st (T' := T7) (g' := (mkF m 127 #[.val (.int p0), .val (.int p1), .val (.int p2), .val (.int p3), .val (.int p4), .val (.int tv0), .val (.int tv1), .val (.int tv2), .val (.int xv), .val (.int yv), .val (.ref b1), .val (.ref b3), .val (.int (if (q'.2.2.2.1 xv) = (q'.2.2.2.1 yv) then (1 : Int32) else (0 : Int32))), .unset, .unset] [(.ref b6), (.ref b6)])) (fun _ k => XS.dup X7.here hx rfl (hb hby at_126) rfl rfl k) ?_
    refine own_st (T' := T7) (g' := (mkF m 128 #[.val (.int p0), .val (.int p1), .val (.int p2), .val (.int p3), .val (.int p4), .val (.int tv0), .val (.int tv1), .val (.int tv2), .val (.int xv), .val (.int yv), .val (.ref b1), .val (.ref b3), .val (.int (if (q'.2.2.2.1 xv) = (q'.2.2.2.1 yv) then (1 : Int32) else (0 : Int32))), .unset, .unset] [(.int (1 : Int32)), (.ref b6), (.ref b6)])) (fun _ k => XS.iconst X7.here hx rfl (hb hby at_127) k) ?_
    refine own_st (T' := T7) (g' := (mkF m 130 #[.val (.int p0), .val (.int p1), .val (.int p2), .val (.int p3), .val (.int p4), .val (.int tv0), .val (.int tv1), .val (.int tv2), .val (.int xv), .val (.int yv), .val (.ref b1), .val (.ref b3), .val (.int (if (q'.2.2.2.1 xv) = (q'.2.2.2.1 yv) then (1 : Int32) else (0 : Int32))), .unset, .unset] [(.int tv1), (.int (1 : Int32)), (.ref b6), (.ref b6)])) (fun _ k => XS.iload X7.here hx rfl (hb hby at_128) rfl k) ?_
    obtain ⟨cl8, Ar8, S8, M8, H8⟩ := id V7
    obtain ⟨T8, h8, X8, e8, W8, st8⟩ := stI X7 hx hZ e7 Ar8 (j := (1 : Int32)) (inb_of S8 ⟨(by decide), (by decide)⟩) (g := (mkF m 130 #[.val (.int p0), .val (.int p1), .val (.int p2), .val (.int p3), .val (.int p4), .val (.int tv0), .val (.int tv1), .val (.int tv2), .val (.int xv), .val (.int yv), .val (.ref b1), .val (.ref b3), .val (.int (if (q'.2.2.2.1 xv) = (q'.2.2.2.1 yv) then (1 : Int32) else (0 : Int32))), .unset, .unset] [(.int tv1), (.int (1 : Int32)), (.ref b6), (.ref b6)])) rfl rfl (hb hby at_130)
    have V8 : own_A Z h8 b6 .int (3 : Int32) (fun i => (.int ((own_up (own_up (fun _ => (0 : Int32)) (0 : Int32) tv0) (1 : Int32) tv1) i))) := (own_A.set Ar8 S8 M8 H8 (by decide) (by decide) W8).upI
    have N8 := Fr.snoc X8 N7 G_b6
    refine own_st (g' := (mkF m 131 #[.val (.int p0), .val (.int p1), .val (.int p2), .val (.int p3), .val (.int p4), .val (.int tv0), .val (.int tv1), .val (.int tv2), .val (.int xv), .val (.int yv), .val (.ref b1), .val (.ref b3), .val (.int (if (q'.2.2.2.1 xv) = (q'.2.2.2.1 yv) then (1 : Int32) else (0 : Int32))), .unset, .unset] [(.ref b6)])) st8 ?_
    refine own_st (T' := T8) (g' := (mkF m 132 #[.val (.int p0), .val (.int p1), .val (.int p2), .val (.int p3), .val (.int p4), .val (.int tv0), .val (.int tv1), .val (.int tv2), .val (.int xv), .val (.int yv), .val (.ref b1), .val (.ref b3), .val (.int (if (q'.2.2.2.1 xv) = (q'.2.2.2.1 yv) then (1 : Int32) else (0 : Int32))), .unset, .unset] [(.ref b6), (.ref b6)])) (fun _ k => XS.dup X8.here hx rfl (hb hby at_131) rfl rfl k) ?_
    refine own_st (T' := T8) (g' := (mkF m 133 #[.val (.int p0), .val (.int p1), .val (.int p2), .val (.int p3), .val (.int p4), .val (.int tv0), .val (.int tv1), .val (.int tv2), .val (.int xv), .val (.int yv), .val (.ref b1), .val (.ref b3), .val (.int (if (q'.2.2.2.1 xv) = (q'.2.2.2.1 yv) then (1 : Int32) else (0 : Int32))), .unset, .unset] [(.int (2 : Int32)), (.ref b6), (.ref b6)])) (fun _ k => XS.iconst X8.here hx rfl (hb hby at_132) k) ?_
    refine own_st (T' := T8) (g' := (mkF m 135 #[.val (.int p0), .val (.int p1), .val (.int p2), .val (.int p3), .val (.int p4), .val (.int tv0), .val (.int tv1), .val (.int tv2), .val (.int xv), .val (.int yv), .val (.ref b1), .val (.ref b3), .val (.int (if (q'.2.2.2.1 xv) = (q'.2.2.2.1 yv) then (1 : Int32) else (0 : Int32))), .unset, .unset] [(.int tv2), (.int (2 : Int32)), (.ref b6), (.ref b6)])) (fun _ k => XS.iload X8.here hx rfl (hb hby at_133) rfl k) ?_
    obtain ⟨cl9, Ar9, S9, M9, H9⟩ := id V8
    obtain ⟨T9, h9, X9, e9, W9, st9⟩ := stI X8 hx hZ e8 Ar9 (j := (2 : Int32)) (inb_of S9 ⟨(by decide), (by decide)⟩) (g := (mkF m 135 #[.val (.int p0), .val (.int p1), .val (.int p2), .val (.int p3), .val (.int p4), .val (.int tv0), .val (.int tv1), .val (.int tv2), .val (.int xv), .val (.int yv), .val (.ref b1), .val (.ref b3), .val (.int (if (q'.2.2.2.1 xv) = (q'.2.2.2.1 yv) then (1 : Int32) else (0 : Int32))), .unset, .unset] [(.int tv2), (.int (2 : Int32)), (.ref b6), (.ref b6)])) rfl rfl (hb hby at_135)
    have V9 : own_A Z h9 b6 .int (3 : Int32) (fun i => (.int ((own_up (own_up (own_up (fun _ => (0 : Int32)) (0 : Int32) tv0) (1 : Int32) tv1) (2 : Int32) tv2) i))) := (own_A.set Ar9 S9 M9 H9 (by decide) (by decide) W9).upI
    have N9 := Fr.snoc X9 N8 G_b6
    refine own_st (g' := (mkF m 136 #[.val (.int p0), .val (.int p1), .val (.int p2), .val (.int p3), .val (.int p4), .val (.int tv0), .val (.int tv1), .val (.int tv2), .val (.int xv), .val (.int yv), .val (.ref b1), .val (.ref b3), .val (.int (if (q'.2.2.2.1 xv) = (q'.2.2.2.1 yv) then (1 : Int32) else (0 : Int32))), .unset, .unset] [(.ref b6)])) st9 ?_
    refine own_st (T' := T9) (g' := (mkF m 138 #[.val (.int p0), .val (.int p1), .val (.int p2), .val (.int p3), .val (.int p4), .val (.int tv0), .val (.int tv1), .val (.int tv2), .val (.int xv), .val (.int yv), .val (.ref b1), .val (.ref b3), .val (.int (if (q'.2.2.2.1 xv) = (q'.2.2.2.1 yv) then (1 : Int32) else (0 : Int32))), .val (.ref b6), .unset] [])) (fun _ k => XS.astore X9.here hx rfl (hb hby at_136) rfl rfl (l' := #[.val (.int p0), .val (.int p1), .val (.int p2), .val (.int p3), .val (.int p4), .val (.int tv0), .val (.int tv1), .val (.int tv2), .val (.int xv), .val (.int yv), .val (.ref b1), .val (.ref b3), .val (.int (if (q'.2.2.2.1 xv) = (q'.2.2.2.1 yv) then (1 : Int32) else (0 : Int32))), .val (.ref b6), .unset]) rfl k) ?_
    refine own_st (T' := T9) (g' := (mkF m 140 #[.val (.int p0), .val (.int p1), .val (.int p2), .val (.int p3), .val (.int p4), .val (.int tv0), .val (.int tv1), .val (.int tv2), .val (.int xv), .val (.int yv), .val (.ref b1), .val (.ref b3), .val (.int (if (q'.2.2.2.1 xv) = (q'.2.2.2.1 yv) then (1 : Int32) else (0 : Int32))), .val (.ref b6), .unset] [(.ref b6)])) (fun _ k => XS.aload X9.here hx rfl (hb hby at_138) rfl rfl k) ?_
    refine own_st (T' := T9) (g' := (mkF m 142 #[.val (.int p0), .val (.int p1), .val (.int p2), .val (.int p3), .val (.int p4), .val (.int tv0), .val (.int tv1), .val (.int tv2), .val (.int xv), .val (.int yv), .val (.ref b1), .val (.ref b3), .val (.int (if (q'.2.2.2.1 xv) = (q'.2.2.2.1 yv) then (1 : Int32) else (0 : Int32))), .val (.ref b6), .unset] [(.int xv), (.ref b6)])) (fun _ k => XS.iload X9.here hx rfl (hb hby at_140) rfl k) ?_
    refine own_st (T' := T9) (g' := (mkF m 144 #[.val (.int p0), .val (.int p1), .val (.int p2), .val (.int p3), .val (.int p4), .val (.int tv0), .val (.int tv1), .val (.int tv2), .val (.int xv), .val (.int yv), .val (.ref b1), .val (.ref b3), .val (.int (if (q'.2.2.2.1 xv) = (q'.2.2.2.1 yv) then (1 : Int32) else (0 : Int32))), .val (.ref b6), .unset] [(.int yv), (.int xv), (.ref b6)])) (fun _ k => XS.iload X9.here hx rfl (hb hby at_142) rfl k) ?_
    refine own_callS X9 hx hZ (y := (⟨"com/example/procurator/procurator/model/StepsNextPinLaw", "reach", "([III)Z"⟩ : MethodName)) hown (own_w hw 101 rfl) (own_w hw 102 rfl) (own_w hw 103 rfl) (own_w hw 104 rfl) (by decide) (W := 0) e9 (argsL := [(.ref b6), (.int xv), (.int yv)]) (rest := []) (rmrc l Z a0 hw [] b6 (own_up (own_up (own_up (fun _ => (0 : Int32)) (0 : Int32) tv0) (1 : Int32) tv1) (2 : Int32) tv2) xv yv h9 n0 (Nat.le_trans (Nat.le_trans (Nat.le_trans (Nat.le_trans Zg4 E6.1) (Nat.le_of_eq W7.size.symm)) (Nat.le_of_eq W8.size.symm)) (Nat.le_of_eq W9.size.symm)) V9 (own_okin hox) (own_fsn ha0 ha1 ha2 _)) (by decide) (by decide) (by decide) (by decide) (g := (mkF m 144 #[.val (.int p0), .val (.int p1), .val (.int p2), .val (.int p3), .val (.int p4), .val (.int tv0), .val (.int tv1), .val (.int tv2), .val (.int xv), .val (.int yv), .val (.ref b1), .val (.ref b3), .val (.int (if (q'.2.2.2.1 xv) = (q'.2.2.2.1 yv) then (1 : Int32) else (0 : Int32))), .val (.ref b6), .unset] [(.int yv), (.int xv), (.ref b6)])) rfl (by rw [hml]; rfl) (lenOf own_pd7 rfl) rfl (by show 2 * 0 + _ ≤ _; exact Nat.le_of_eq rfl) (hb hby at_144) ?_
    rintro _ T10 L10 X10 ⟨rfl, N10q, e10⟩
    show own_Go _ _ _ _ _ _ _ T10 (mkF m 147 #[.val (.int p0), .val (.int p1), .val (.int p2), .val (.int p3), .val (.int p4), .val (.int tv0), .val (.int tv1), .val (.int tv2), .val (.int xv), .val (.int yv), .val (.ref b1), .val (.ref b3), .val (.int (if (q'.2.2.2.1 xv) = (q'.2.2.2.1 yv) then (1 : Int32) else (0 : Int32))), .val (.ref b6), .unset] [(.int (own_rch (own_up (own_up (own_up (fun _ => (0 : Int32)) (0 : Int32) tv0) (1 : Int32) tv1) (2 : Int32) tv2) xv yv))])
    have N10 := Fr.app N9 N10q
    by_cases hc147_11 : (own_rch (own_up (own_up (own_up (fun _ => (0 : Int32)) (0 : Int32) tv0) (1 : Int32) tv1) (2 : Int32) tv2) xv yv) = (0 : Int32)
    · refine own_st (T' := T10) (g' := (mkF m 166 #[.val (.int p0), .val (.int p1), .val (.int p2), .val (.int p3), .val (.int p4), .val (.int tv0), .val (.int tv1), .val (.int tv2), .val (.int xv), .val (.int yv), .val (.ref b1), .val (.ref b3), .val (.int (if (q'.2.2.2.1 xv) = (q'.2.2.2.1 yv) then (1 : Int32) else (0 : Int32))), .val (.ref b6), .unset] [])) (fun _ k => XS.ifYes X10.here hx rfl (pc0 := 147) (pc' := 166) rfl (hb hby at_147) rfl ((if0 _ _).trans (teq hc147_11).1) (by decide) (by decide) k) ?_
      refine own_st (T' := T10) (g' := (mkF m 167 #[.val (.int p0), .val (.int p1), .val (.int p2), .val (.int p3), .val (.int p4), .val (.int tv0), .val (.int tv1), .val (.int tv2), .val (.int xv), .val (.int yv), .val (.ref b1), .val (.ref b3), .val (.int (if (q'.2.2.2.1 xv) = (q'.2.2.2.1 yv) then (1 : Int32) else (0 : Int32))), .val (.ref b6), .unset] [(.int (0 : Int32))])) (fun _ k => XS.iconst X10.here hx rfl (hb hby at_166) k) ?_
      refine own_st (T' := T10) (g' := (mkF m 169 #[.val (.int p0), .val (.int p1), .val (.int p2), .val (.int p3), .val (.int p4), .val (.int tv0), .val (.int tv1), .val (.int tv2), .val (.int xv), .val (.int yv), .val (.ref b1), .val (.ref b3), .val (.int (if (q'.2.2.2.1 xv) = (q'.2.2.2.1 yv) then (1 : Int32) else (0 : Int32))), .val (.ref b6), .val (.int (0 : Int32))] [])) (fun _ k => XS.istore X10.here hx rfl (hb hby at_167) rfl (l' := #[.val (.int p0), .val (.int p1), .val (.int p2), .val (.int p3), .val (.int p4), .val (.int tv0), .val (.int tv1), .val (.int tv2), .val (.int xv), .val (.int yv), .val (.ref b1), .val (.ref b3), .val (.int (if (q'.2.2.2.1 xv) = (q'.2.2.2.1 yv) then (1 : Int32) else (0 : Int32))), .val (.ref b6), .val (.int (0 : Int32))]) rfl k) ?_
      refine own_st (T' := T10) (g' := (mkF m 171 #[.val (.int p0), .val (.int p1), .val (.int p2), .val (.int p3), .val (.int p4), .val (.int tv0), .val (.int tv1), .val (.int tv2), .val (.int xv), .val (.int yv), .val (.ref b1), .val (.ref b3), .val (.int (if (q'.2.2.2.1 xv) = (q'.2.2.2.1 yv) then (1 : Int32) else (0 : Int32))), .val (.ref b6), .val (.int (0 : Int32))] [(.int (if (q'.2.2.2.1 xv) = (q'.2.2.2.1 yv) then (1 : Int32) else (0 : Int32)))])) (fun _ k => XS.iload X10.here hx rfl (hb hby at_169) rfl k) ?_
      refine own_st (T' := T10) (g' := (mkF m 173 #[.val (.int p0), .val (.int p1), .val (.int p2), .val (.int p3), .val (.int p4), .val (.int tv0), .val (.int tv1), .val (.int tv2), .val (.int xv), .val (.int yv), .val (.ref b1), .val (.ref b3), .val (.int (if (q'.2.2.2.1 xv) = (q'.2.2.2.1 yv) then (1 : Int32) else (0 : Int32))), .val (.ref b6), .val (.int (0 : Int32))] [(.int (0 : Int32)), (.int (if (q'.2.2.2.1 xv) = (q'.2.2.2.1 yv) then (1 : Int32) else (0 : Int32)))])) (fun _ k => XS.iload X10.here hx rfl (hb hby at_171) rfl k) ?_
      refine own_st (T' := T10) (g' := (mkF m 176 #[.val (.int p0), .val (.int p1), .val (.int p2), .val (.int p3), .val (.int p4), .val (.int tv0), .val (.int tv1), .val (.int tv2), .val (.int xv), .val (.int yv), .val (.ref b1), .val (.ref b3), .val (.int (if (q'.2.2.2.1 xv) = (q'.2.2.2.1 yv) then (1 : Int32) else (0 : Int32))), .val (.ref b6), .val (.int (0 : Int32))] [])) (fun _ k => XS.icmpNo X10.here hx rfl (hb hby at_173) rfl (teq (by rw [hck]; unfold own_ex; rw [if_pos hc147_11] : ((if (q'.2.2.2.1 xv) = (q'.2.2.2.1 yv) then (1 : Int32) else (0 : Int32)) = (0 : Int32)))).2 k) ?_
      refine own_st (T' := T10) (g' := (mkF m 177 #[.val (.int p0), .val (.int p1), .val (.int p2), .val (.int p3), .val (.int p4), .val (.int tv0), .val (.int tv1), .val (.int tv2), .val (.int xv), .val (.int yv), .val (.ref b1), .val (.ref b3), .val (.int (if (q'.2.2.2.1 xv) = (q'.2.2.2.1 yv) then (1 : Int32) else (0 : Int32))), .val (.ref b6), .val (.int (0 : Int32))] [(.int (1 : Int32))])) (fun _ k => XS.iconst X10.here hx rfl (hb hby at_176) k) ?_
      refine own_st (T' := T10) (g' := (mkF m 181 #[.val (.int p0), .val (.int p1), .val (.int p2), .val (.int p3), .val (.int p4), .val (.int tv0), .val (.int tv1), .val (.int tv2), .val (.int xv), .val (.int yv), .val (.ref b1), .val (.ref b3), .val (.int (if (q'.2.2.2.1 xv) = (q'.2.2.2.1 yv) then (1 : Int32) else (0 : Int32))), .val (.ref b6), .val (.int (0 : Int32))] [(.int (1 : Int32))])) (fun _ k => XS.goto X10.here hx rfl (pc0 := 177) (pc' := 181) rfl (hb hby at_177) (by decide) (by decide) k) ?_
      exact own_retN X10 hx hlk hret (by simp) (hb hby at_181) ⟨rfl, N10⟩ (by decide) (by decide)
    · refine own_st (T' := T10) (g' := (mkF m 150 #[.val (.int p0), .val (.int p1), .val (.int p2), .val (.int p3), .val (.int p4), .val (.int tv0), .val (.int tv1), .val (.int tv2), .val (.int xv), .val (.int yv), .val (.ref b1), .val (.ref b3), .val (.int (if (q'.2.2.2.1 xv) = (q'.2.2.2.1 yv) then (1 : Int32) else (0 : Int32))), .val (.ref b6), .unset] [])) (fun _ k => XS.ifNo X10.here hx rfl (hb hby at_147) rfl ((if0 _ _).trans (feq hc147_11).1) k) ?_
      refine own_st (T' := T10) (g' := (mkF m 152 #[.val (.int p0), .val (.int p1), .val (.int p2), .val (.int p3), .val (.int p4), .val (.int tv0), .val (.int tv1), .val (.int tv2), .val (.int xv), .val (.int yv), .val (.ref b1), .val (.ref b3), .val (.int (if (q'.2.2.2.1 xv) = (q'.2.2.2.1 yv) then (1 : Int32) else (0 : Int32))), .val (.ref b6), .unset] [(.ref b6)])) (fun _ k => XS.aload X10.here hx rfl (hb hby at_150) rfl rfl k) ?_
      refine own_st (T' := T10) (g' := (mkF m 154 #[.val (.int p0), .val (.int p1), .val (.int p2), .val (.int p3), .val (.int p4), .val (.int tv0), .val (.int tv1), .val (.int tv2), .val (.int xv), .val (.int yv), .val (.ref b1), .val (.ref b3), .val (.int (if (q'.2.2.2.1 xv) = (q'.2.2.2.1 yv) then (1 : Int32) else (0 : Int32))), .val (.ref b6), .unset] [(.int yv), (.ref b6)])) (fun _ k => XS.iload X10.here hx rfl (hb hby at_152) rfl k) ?_
      refine own_st (T' := T10) (g' := (mkF m 156 #[.val (.int p0), .val (.int p1), .val (.int p2), .val (.int p3), .val (.int p4), .val (.int tv0), .val (.int tv1), .val (.int tv2), .val (.int xv), .val (.int yv), .val (.ref b1), .val (.ref b3), .val (.int (if (q'.2.2.2.1 xv) = (q'.2.2.2.1 yv) then (1 : Int32) else (0 : Int32))), .val (.ref b6), .unset] [(.int xv), (.int yv), (.ref b6)])) (fun _ k => XS.iload X10.here hx rfl (hb hby at_154) rfl k) ?_
      refine own_callS X10 hx hZ (y := (⟨"com/example/procurator/procurator/model/StepsNextPinLaw", "reach", "([III)Z"⟩ : MethodName)) hown (own_w hw 101 rfl) (own_w hw 102 rfl) (own_w hw 103 rfl) (own_w hw 104 rfl) (by decide) (W := 0) e10 (argsL := [(.ref b6), (.int yv), (.int xv)]) (rest := []) (rmrc l Z a0 hw [] b6 (own_up (own_up (own_up (fun _ => (0 : Int32)) (0 : Int32) tv0) (1 : Int32) tv1) (2 : Int32) tv2) yv xv h9 n0 (Nat.le_trans (Nat.le_trans (Nat.le_trans (Nat.le_trans Zg4 E6.1) (Nat.le_of_eq W7.size.symm)) (Nat.le_of_eq W8.size.symm)) (Nat.le_of_eq W9.size.symm)) V9 (own_okin hoy) (own_fsn ha0 ha1 ha2 _)) (by decide) (by decide) (by decide) (by decide) (g := (mkF m 156 #[.val (.int p0), .val (.int p1), .val (.int p2), .val (.int p3), .val (.int p4), .val (.int tv0), .val (.int tv1), .val (.int tv2), .val (.int xv), .val (.int yv), .val (.ref b1), .val (.ref b3), .val (.int (if (q'.2.2.2.1 xv) = (q'.2.2.2.1 yv) then (1 : Int32) else (0 : Int32))), .val (.ref b6), .unset] [(.int xv), (.int yv), (.ref b6)])) rfl (by rw [hml]; rfl) (lenOf own_pd7 rfl) rfl (by show 2 * 0 + _ ≤ _; exact Nat.le_of_eq rfl) (hb hby at_156) ?_
      rintro _ T12 L12 X12 ⟨rfl, N12q, e12⟩
      show own_Go _ _ _ _ _ _ _ T12 (mkF m 159 #[.val (.int p0), .val (.int p1), .val (.int p2), .val (.int p3), .val (.int p4), .val (.int tv0), .val (.int tv1), .val (.int tv2), .val (.int xv), .val (.int yv), .val (.ref b1), .val (.ref b3), .val (.int (if (q'.2.2.2.1 xv) = (q'.2.2.2.1 yv) then (1 : Int32) else (0 : Int32))), .val (.ref b6), .unset] [(.int (own_rch (own_up (own_up (own_up (fun _ => (0 : Int32)) (0 : Int32) tv0) (1 : Int32) tv1) (2 : Int32) tv2) yv xv))])
      have N12 := Fr.app N10 N12q
      by_cases hc159_13 : (own_rch (own_up (own_up (own_up (fun _ => (0 : Int32)) (0 : Int32) tv0) (1 : Int32) tv1) (2 : Int32) tv2) yv xv) = (0 : Int32)
      · refine own_st (T' := T12) (g' := (mkF m 166 #[.val (.int p0), .val (.int p1), .val (.int p2), .val (.int p3), .val (.int p4), .val (.int tv0), .val (.int tv1), .val (.int tv2), .val (.int xv), .val (.int yv), .val (.ref b1), .val (.ref b3), .val (.int (if (q'.2.2.2.1 xv) = (q'.2.2.2.1 yv) then (1 : Int32) else (0 : Int32))), .val (.ref b6), .unset] [])) (fun _ k => XS.ifYes X12.here hx rfl (pc0 := 159) (pc' := 166) rfl (hb hby at_159) rfl ((if0 _ _).trans (teq hc159_13).1) (by decide) (by decide) k) ?_
        refine own_st (T' := T12) (g' := (mkF m 167 #[.val (.int p0), .val (.int p1), .val (.int p2), .val (.int p3), .val (.int p4), .val (.int tv0), .val (.int tv1), .val (.int tv2), .val (.int xv), .val (.int yv), .val (.ref b1), .val (.ref b3), .val (.int (if (q'.2.2.2.1 xv) = (q'.2.2.2.1 yv) then (1 : Int32) else (0 : Int32))), .val (.ref b6), .unset] [(.int (0 : Int32))])) (fun _ k => XS.iconst X12.here hx rfl (hb hby at_166) k) ?_
        refine own_st (T' := T12) (g' := (mkF m 169 #[.val (.int p0), .val (.int p1), .val (.int p2), .val (.int p3), .val (.int p4), .val (.int tv0), .val (.int tv1), .val (.int tv2), .val (.int xv), .val (.int yv), .val (.ref b1), .val (.ref b3), .val (.int (if (q'.2.2.2.1 xv) = (q'.2.2.2.1 yv) then (1 : Int32) else (0 : Int32))), .val (.ref b6), .val (.int (0 : Int32))] [])) (fun _ k => XS.istore X12.here hx rfl (hb hby at_167) rfl (l' := #[.val (.int p0), .val (.int p1), .val (.int p2), .val (.int p3), .val (.int p4), .val (.int tv0), .val (.int tv1), .val (.int tv2), .val (.int xv), .val (.int yv), .val (.ref b1), .val (.ref b3), .val (.int (if (q'.2.2.2.1 xv) = (q'.2.2.2.1 yv) then (1 : Int32) else (0 : Int32))), .val (.ref b6), .val (.int (0 : Int32))]) rfl k) ?_
        refine own_st (T' := T12) (g' := (mkF m 171 #[.val (.int p0), .val (.int p1), .val (.int p2), .val (.int p3), .val (.int p4), .val (.int tv0), .val (.int tv1), .val (.int tv2), .val (.int xv), .val (.int yv), .val (.ref b1), .val (.ref b3), .val (.int (if (q'.2.2.2.1 xv) = (q'.2.2.2.1 yv) then (1 : Int32) else (0 : Int32))), .val (.ref b6), .val (.int (0 : Int32))] [(.int (if (q'.2.2.2.1 xv) = (q'.2.2.2.1 yv) then (1 : Int32) else (0 : Int32)))])) (fun _ k => XS.iload X12.here hx rfl (hb hby at_169) rfl k) ?_
        refine own_st (T' := T12) (g' := (mkF m 173 #[.val (.int p0), .val (.int p1), .val (.int p2), .val (.int p3), .val (.int p4), .val (.int tv0), .val (.int tv1), .val (.int tv2), .val (.int xv), .val (.int yv), .val (.ref b1), .val (.ref b3), .val (.int (if (q'.2.2.2.1 xv) = (q'.2.2.2.1 yv) then (1 : Int32) else (0 : Int32))), .val (.ref b6), .val (.int (0 : Int32))] [(.int (0 : Int32)), (.int (if (q'.2.2.2.1 xv) = (q'.2.2.2.1 yv) then (1 : Int32) else (0 : Int32)))])) (fun _ k => XS.iload X12.here hx rfl (hb hby at_171) rfl k) ?_
        refine own_st (T' := T12) (g' := (mkF m 176 #[.val (.int p0), .val (.int p1), .val (.int p2), .val (.int p3), .val (.int p4), .val (.int tv0), .val (.int tv1), .val (.int tv2), .val (.int xv), .val (.int yv), .val (.ref b1), .val (.ref b3), .val (.int (if (q'.2.2.2.1 xv) = (q'.2.2.2.1 yv) then (1 : Int32) else (0 : Int32))), .val (.ref b6), .val (.int (0 : Int32))] [])) (fun _ k => XS.icmpNo X12.here hx rfl (hb hby at_173) rfl (teq (by rw [hck]; unfold own_ex; rw [if_neg hc147_11, if_pos hc159_13] : ((if (q'.2.2.2.1 xv) = (q'.2.2.2.1 yv) then (1 : Int32) else (0 : Int32)) = (0 : Int32)))).2 k) ?_
        refine own_st (T' := T12) (g' := (mkF m 177 #[.val (.int p0), .val (.int p1), .val (.int p2), .val (.int p3), .val (.int p4), .val (.int tv0), .val (.int tv1), .val (.int tv2), .val (.int xv), .val (.int yv), .val (.ref b1), .val (.ref b3), .val (.int (if (q'.2.2.2.1 xv) = (q'.2.2.2.1 yv) then (1 : Int32) else (0 : Int32))), .val (.ref b6), .val (.int (0 : Int32))] [(.int (1 : Int32))])) (fun _ k => XS.iconst X12.here hx rfl (hb hby at_176) k) ?_
        refine own_st (T' := T12) (g' := (mkF m 181 #[.val (.int p0), .val (.int p1), .val (.int p2), .val (.int p3), .val (.int p4), .val (.int tv0), .val (.int tv1), .val (.int tv2), .val (.int xv), .val (.int yv), .val (.ref b1), .val (.ref b3), .val (.int (if (q'.2.2.2.1 xv) = (q'.2.2.2.1 yv) then (1 : Int32) else (0 : Int32))), .val (.ref b6), .val (.int (0 : Int32))] [(.int (1 : Int32))])) (fun _ k => XS.goto X12.here hx rfl (pc0 := 177) (pc' := 181) rfl (hb hby at_177) (by decide) (by decide) k) ?_
        exact own_retN X12 hx hlk hret (by simp) (hb hby at_181) ⟨rfl, N12⟩ (by decide) (by decide)
      · refine own_st (T' := T12) (g' := (mkF m 162 #[.val (.int p0), .val (.int p1), .val (.int p2), .val (.int p3), .val (.int p4), .val (.int tv0), .val (.int tv1), .val (.int tv2), .val (.int xv), .val (.int yv), .val (.ref b1), .val (.ref b3), .val (.int (if (q'.2.2.2.1 xv) = (q'.2.2.2.1 yv) then (1 : Int32) else (0 : Int32))), .val (.ref b6), .unset] [])) (fun _ k => XS.ifNo X12.here hx rfl (hb hby at_159) rfl ((if0 _ _).trans (feq hc159_13).1) k) ?_
        refine own_st (T' := T12) (g' := (mkF m 163 #[.val (.int p0), .val (.int p1), .val (.int p2), .val (.int p3), .val (.int p4), .val (.int tv0), .val (.int tv1), .val (.int tv2), .val (.int xv), .val (.int yv), .val (.ref b1), .val (.ref b3), .val (.int (if (q'.2.2.2.1 xv) = (q'.2.2.2.1 yv) then (1 : Int32) else (0 : Int32))), .val (.ref b6), .unset] [(.int (1 : Int32))])) (fun _ k => XS.iconst X12.here hx rfl (hb hby at_162) k) ?_
        refine own_st (T' := T12) (g' := (mkF m 167 #[.val (.int p0), .val (.int p1), .val (.int p2), .val (.int p3), .val (.int p4), .val (.int tv0), .val (.int tv1), .val (.int tv2), .val (.int xv), .val (.int yv), .val (.ref b1), .val (.ref b3), .val (.int (if (q'.2.2.2.1 xv) = (q'.2.2.2.1 yv) then (1 : Int32) else (0 : Int32))), .val (.ref b6), .unset] [(.int (1 : Int32))])) (fun _ k => XS.goto X12.here hx rfl (pc0 := 163) (pc' := 167) rfl (hb hby at_163) (by decide) (by decide) k) ?_
        refine own_st (T' := T12) (g' := (mkF m 169 #[.val (.int p0), .val (.int p1), .val (.int p2), .val (.int p3), .val (.int p4), .val (.int tv0), .val (.int tv1), .val (.int tv2), .val (.int xv), .val (.int yv), .val (.ref b1), .val (.ref b3), .val (.int (if (q'.2.2.2.1 xv) = (q'.2.2.2.1 yv) then (1 : Int32) else (0 : Int32))), .val (.ref b6), .val (.int (1 : Int32))] [])) (fun _ k => XS.istore X12.here hx rfl (hb hby at_167) rfl (l' := #[.val (.int p0), .val (.int p1), .val (.int p2), .val (.int p3), .val (.int p4), .val (.int tv0), .val (.int tv1), .val (.int tv2), .val (.int xv), .val (.int yv), .val (.ref b1), .val (.ref b3), .val (.int (if (q'.2.2.2.1 xv) = (q'.2.2.2.1 yv) then (1 : Int32) else (0 : Int32))), .val (.ref b6), .val (.int (1 : Int32))]) rfl k) ?_
        refine own_st (T' := T12) (g' := (mkF m 171 #[.val (.int p0), .val (.int p1), .val (.int p2), .val (.int p3), .val (.int p4), .val (.int tv0), .val (.int tv1), .val (.int tv2), .val (.int xv), .val (.int yv), .val (.ref b1), .val (.ref b3), .val (.int (if (q'.2.2.2.1 xv) = (q'.2.2.2.1 yv) then (1 : Int32) else (0 : Int32))), .val (.ref b6), .val (.int (1 : Int32))] [(.int (if (q'.2.2.2.1 xv) = (q'.2.2.2.1 yv) then (1 : Int32) else (0 : Int32)))])) (fun _ k => XS.iload X12.here hx rfl (hb hby at_169) rfl k) ?_
        refine own_st (T' := T12) (g' := (mkF m 173 #[.val (.int p0), .val (.int p1), .val (.int p2), .val (.int p3), .val (.int p4), .val (.int tv0), .val (.int tv1), .val (.int tv2), .val (.int xv), .val (.int yv), .val (.ref b1), .val (.ref b3), .val (.int (if (q'.2.2.2.1 xv) = (q'.2.2.2.1 yv) then (1 : Int32) else (0 : Int32))), .val (.ref b6), .val (.int (1 : Int32))] [(.int (1 : Int32)), (.int (if (q'.2.2.2.1 xv) = (q'.2.2.2.1 yv) then (1 : Int32) else (0 : Int32)))])) (fun _ k => XS.iload X12.here hx rfl (hb hby at_171) rfl k) ?_
        refine own_st (T' := T12) (g' := (mkF m 176 #[.val (.int p0), .val (.int p1), .val (.int p2), .val (.int p3), .val (.int p4), .val (.int tv0), .val (.int tv1), .val (.int tv2), .val (.int xv), .val (.int yv), .val (.ref b1), .val (.ref b3), .val (.int (if (q'.2.2.2.1 xv) = (q'.2.2.2.1 yv) then (1 : Int32) else (0 : Int32))), .val (.ref b6), .val (.int (1 : Int32))] [])) (fun _ k => XS.icmpNo X12.here hx rfl (hb hby at_173) rfl (teq (by rw [hck]; unfold own_ex; rw [if_neg hc147_11, if_neg hc159_13] : ((if (q'.2.2.2.1 xv) = (q'.2.2.2.1 yv) then (1 : Int32) else (0 : Int32)) = (1 : Int32)))).2 k) ?_
        refine own_st (T' := T12) (g' := (mkF m 177 #[.val (.int p0), .val (.int p1), .val (.int p2), .val (.int p3), .val (.int p4), .val (.int tv0), .val (.int tv1), .val (.int tv2), .val (.int xv), .val (.int yv), .val (.ref b1), .val (.ref b3), .val (.int (if (q'.2.2.2.1 xv) = (q'.2.2.2.1 yv) then (1 : Int32) else (0 : Int32))), .val (.ref b6), .val (.int (1 : Int32))] [(.int (1 : Int32))])) (fun _ k => XS.iconst X12.here hx rfl (hb hby at_176) k) ?_
        refine own_st (T' := T12) (g' := (mkF m 181 #[.val (.int p0), .val (.int p1), .val (.int p2), .val (.int p3), .val (.int p4), .val (.int tv0), .val (.int tv1), .val (.int tv2), .val (.int xv), .val (.int yv), .val (.ref b1), .val (.ref b3), .val (.int (if (q'.2.2.2.1 xv) = (q'.2.2.2.1 yv) then (1 : Int32) else (0 : Int32))), .val (.ref b6), .val (.int (1 : Int32))] [(.int (1 : Int32))])) (fun _ k => XS.goto X12.here hx rfl (pc0 := 177) (pc' := 181) rfl (hb hby at_177) (by decide) (by decide) k) ?_
        exact own_retN X12 hx hlk hret (by simp) (hb hby at_181) ⟨rfl, N12⟩ (by decide) (by decide)
  refine own_st (T' := T2) (g' := (mkF m 44 #[.val (.int p0), .val (.int p1), .val (.int p2), .val (.int p3), .val (.int p4), .val (.int tv0), .val (.int tv1), .val (.int tv2), .val (.int xv), .val (.int yv), .val (.ref b1), .unset, .unset, .unset, .unset] [(.ref b1)])) (fun _ k => XS.aload X2.here hx rfl (hb hby at_42) rfl rfl k) ?_
  refine own_callV X2 hx hZ (y := (⟨"com/example/procurator/procurator/model/RelationGraph$Steps", "next", "()V"⟩ : MethodName)) hown (own_w hw 17 rfl) (own_w hw 18 rfl) (own_w hw 20 rfl) (own_w hw 19 rfl) (own_w hw 21 rfl) (own_w hw 3 rfl) (by decide) (W := 0) rfl (b := b1) hq_2.1 (argsL := []) (rest := []) (rmnx l Z a0 hw [] b1 oF oT (fun _ => (0 : Int32)) (fun _ => (0 : Int32)) (0 : Int32) (-1 : Int32) T2.heap n0 Zq2 hd hG hq_2 (by decide) (by decide)) (by decide) (by decide) (by decide) (by decide) (g := (mkF m 44 #[.val (.int p0), .val (.int p1), .val (.int p2), .val (.int p3), .val (.int p4), .val (.int tv0), .val (.int tv1), .val (.int tv2), .val (.int xv), .val (.int yv), .val (.ref b1), .unset, .unset, .unset, .unset] [(.ref b1)])) rfl (by rw [hml]; rfl) (lenOf own_pd2 rfl) rfl (by show 2 * 0 + _ ≤ _; exact Nat.le_of_eq rfl) (hb hby at_44) ?_
  rintro _ T14 L14 X14 ⟨rfl, N14q, K14, hq14⟩
  show own_Go _ _ _ _ _ _ _ T14 (mkF m 47 #[.val (.int p0), .val (.int p1), .val (.int p2), .val (.int p3), .val (.int p4), .val (.int tv0), .val (.int tv1), .val (.int tv2), .val (.int xv), .val (.int yv), .val (.ref b1), .unset, .unset, .unset, .unset] [])
  have N14 := Fr.app N2 N14q
  have hq_14 : own_ST Z T14.heap b1 oF oT (own_up (own_up (fun _ => (0 : Int32)) (0 : Int32) (0 : Int32)) (1 : Int32) (0 : Int32)) (fun _ => (0 : Int32)) (0 : Int32) (0 : Int32) := hq14
  refine own_st (T' := T14) (g' := (mkF m 49 #[.val (.int p0), .val (.int p1), .val (.int p2), .val (.int p3), .val (.int p4), .val (.int tv0), .val (.int tv1), .val (.int tv2), .val (.int xv), .val (.int yv), .val (.ref b1), .unset, .unset, .unset, .unset] [(.int tv0)])) (fun _ k => XS.iload X14.here hx rfl (hb hby at_47) rfl k) ?_
  refine own_st (T' := T14) (g' := (mkF m 50 #[.val (.int p0), .val (.int p1), .val (.int p2), .val (.int p3), .val (.int p4), .val (.int tv0), .val (.int tv1), .val (.int tv2), .val (.int xv), .val (.int yv), .val (.ref b1), .unset, .unset, .unset, .unset] [(.int (3 : Int32)), (.int tv0)])) (fun _ k => XS.iconst X14.here hx rfl (hb hby at_49) k) ?_
  by_cases hc50_15 : tv0 < (3 : Int32)
  · refine own_st (T' := T14) (g' := (mkF m 53 #[.val (.int p0), .val (.int p1), .val (.int p2), .val (.int p3), .val (.int p4), .val (.int tv0), .val (.int tv1), .val (.int tv2), .val (.int xv), .val (.int yv), .val (.ref b1), .unset, .unset, .unset, .unset] [])) (fun _ k => XS.icmpNo X14.here hx rfl (hb hby at_50) rfl (tlt hc50_15).2.1 k) ?_
    refine own_st (T' := T14) (g' := (mkF m 55 #[.val (.int p0), .val (.int p1), .val (.int p2), .val (.int p3), .val (.int p4), .val (.int tv0), .val (.int tv1), .val (.int tv2), .val (.int xv), .val (.int yv), .val (.ref b1), .unset, .unset, .unset, .unset] [(.ref b1)])) (fun _ k => XS.aload X14.here hx rfl (hb hby at_53) rfl rfl k) ?_
    refine own_st (T' := T14) (g' := (mkF m 57 #[.val (.int p0), .val (.int p1), .val (.int p2), .val (.int p3), .val (.int p4), .val (.int tv0), .val (.int tv1), .val (.int tv2), .val (.int xv), .val (.int yv), .val (.ref b1), .unset, .unset, .unset, .unset] [(.int tv0), (.ref b1)])) (fun _ k => XS.iload X14.here hx rfl (hb hby at_55) rfl k) ?_
    refine own_callV X14 hx hZ (y := (⟨"com/example/procurator/procurator/model/RelationGraph$Steps", "add", "(I)V"⟩ : MethodName)) hown (own_w hw 24 rfl) (own_w hw 25 rfl) (own_w hw 27 rfl) (own_w hw 26 rfl) (own_w hw 28 rfl) (own_w hw 3 rfl) (by decide) (W := 0) rfl (b := b1) hq_14.1 (argsL := [(.int tv0)]) (rest := []) (rmad l Z a0 hw [] b1 oF oT (own_up (own_up (fun _ => (0 : Int32)) (0 : Int32) (0 : Int32)) (1 : Int32) (0 : Int32)) (fun _ => (0 : Int32)) (0 : Int32) (0 : Int32) tv0 T14.heap n0 (Nat.le_trans Zq2 K14.1) hd hG hq_14 (by decide) (by decide) (by decide)) (by decide) (by decide) (by decide) (by decide) (g := (mkF m 57 #[.val (.int p0), .val (.int p1), .val (.int p2), .val (.int p3), .val (.int p4), .val (.int tv0), .val (.int tv1), .val (.int tv2), .val (.int xv), .val (.int yv), .val (.ref b1), .unset, .unset, .unset, .unset] [(.int tv0), (.ref b1)])) rfl (by rw [hml]; rfl) (lenOf own_pd1 rfl) rfl (by show 2 * 0 + _ ≤ _; exact Nat.le_of_eq rfl) (hb hby at_57) ?_
    rintro _ T16 L16 X16 ⟨rfl, N16q, K16, hq16⟩
    show own_Go _ _ _ _ _ _ _ T16 (mkF m 60 #[.val (.int p0), .val (.int p1), .val (.int p2), .val (.int p3), .val (.int p4), .val (.int tv0), .val (.int tv1), .val (.int tv2), .val (.int xv), .val (.int yv), .val (.ref b1), .unset, .unset, .unset, .unset] [])
    have N16 := Fr.app N14 N16q
    have hq_16 : own_ST Z T16.heap b1 oF oT (own_up (own_up (own_up (fun _ => (0 : Int32)) (0 : Int32) (0 : Int32)) (1 : Int32) (0 : Int32)) (1 : Int32) (1 : Int32)) (own_up (fun _ => (0 : Int32)) (0 : Int32) tv0) (1 : Int32) (0 : Int32) := hq16
    refine own_st (T' := T16) (g' := (mkF m 62 #[.val (.int p0), .val (.int p1), .val (.int p2), .val (.int p3), .val (.int p4), .val (.int tv0), .val (.int tv1), .val (.int tv2), .val (.int xv), .val (.int yv), .val (.ref b1), .unset, .unset, .unset, .unset] [(.ref b1)])) (fun _ k => XS.aload X16.here hx rfl (hb hby at_60) rfl rfl k) ?_
    refine own_callV X16 hx hZ (y := (⟨"com/example/procurator/procurator/model/RelationGraph$Steps", "next", "()V"⟩ : MethodName)) hown (own_w hw 17 rfl) (own_w hw 18 rfl) (own_w hw 20 rfl) (own_w hw 19 rfl) (own_w hw 21 rfl) (own_w hw 3 rfl) (by decide) (W := 0) rfl (b := b1) hq_16.1 (argsL := []) (rest := []) (rmnx l Z a0 hw [] b1 oF oT (own_up (own_up (own_up (fun _ => (0 : Int32)) (0 : Int32) (0 : Int32)) (1 : Int32) (0 : Int32)) (1 : Int32) (1 : Int32)) (own_up (fun _ => (0 : Int32)) (0 : Int32) tv0) (1 : Int32) (0 : Int32) T16.heap n0 (Nat.le_trans (Nat.le_trans Zq2 K14.1) K16.1) hd hG hq_16 (by decide) (by decide)) (by decide) (by decide) (by decide) (by decide) (g := (mkF m 62 #[.val (.int p0), .val (.int p1), .val (.int p2), .val (.int p3), .val (.int p4), .val (.int tv0), .val (.int tv1), .val (.int tv2), .val (.int xv), .val (.int yv), .val (.ref b1), .unset, .unset, .unset, .unset] [(.ref b1)])) rfl (by rw [hml]; rfl) (lenOf own_pd2 rfl) rfl (by show 2 * 0 + _ ≤ _; exact Nat.le_of_eq rfl) (hb hby at_62) ?_
    rintro _ T17 L17 X17 ⟨rfl, N17q, K17, hq17⟩
    show own_Go _ _ _ _ _ _ _ T17 (mkF m 65 #[.val (.int p0), .val (.int p1), .val (.int p2), .val (.int p3), .val (.int p4), .val (.int tv0), .val (.int tv1), .val (.int tv2), .val (.int xv), .val (.int yv), .val (.ref b1), .unset, .unset, .unset, .unset] [])
    have N17 := Fr.app N16 N17q
    have hq_17 : own_ST Z T17.heap b1 oF oT (own_up (own_up (own_up (own_up (own_up (fun _ => (0 : Int32)) (0 : Int32) (0 : Int32)) (1 : Int32) (0 : Int32)) (1 : Int32) (1 : Int32)) (1 : Int32) (1 : Int32)) (2 : Int32) (1 : Int32)) (own_up (fun _ => (0 : Int32)) (0 : Int32) tv0) (1 : Int32) (1 : Int32) := hq17
    refine own_st (T' := T17) (g' := (mkF m 67 #[.val (.int p0), .val (.int p1), .val (.int p2), .val (.int p3), .val (.int p4), .val (.int tv0), .val (.int tv1), .val (.int tv2), .val (.int xv), .val (.int yv), .val (.ref b1), .unset, .unset, .unset, .unset] [(.int tv1)])) (fun _ k => XS.iload X17.here hx rfl (hb hby at_65) rfl k) ?_
    refine own_st (T' := T17) (g' := (mkF m 68 #[.val (.int p0), .val (.int p1), .val (.int p2), .val (.int p3), .val (.int p4), .val (.int tv0), .val (.int tv1), .val (.int tv2), .val (.int xv), .val (.int yv), .val (.ref b1), .unset, .unset, .unset, .unset] [(.int (3 : Int32)), (.int tv1)])) (fun _ k => XS.iconst X17.here hx rfl (hb hby at_67) k) ?_
    by_cases hc68_18 : tv1 < (3 : Int32)
    · refine own_st (T' := T17) (g' := (mkF m 71 #[.val (.int p0), .val (.int p1), .val (.int p2), .val (.int p3), .val (.int p4), .val (.int tv0), .val (.int tv1), .val (.int tv2), .val (.int xv), .val (.int yv), .val (.ref b1), .unset, .unset, .unset, .unset] [])) (fun _ k => XS.icmpNo X17.here hx rfl (hb hby at_68) rfl (tlt hc68_18).2.1 k) ?_
      refine own_st (T' := T17) (g' := (mkF m 73 #[.val (.int p0), .val (.int p1), .val (.int p2), .val (.int p3), .val (.int p4), .val (.int tv0), .val (.int tv1), .val (.int tv2), .val (.int xv), .val (.int yv), .val (.ref b1), .unset, .unset, .unset, .unset] [(.ref b1)])) (fun _ k => XS.aload X17.here hx rfl (hb hby at_71) rfl rfl k) ?_
      refine own_st (T' := T17) (g' := (mkF m 75 #[.val (.int p0), .val (.int p1), .val (.int p2), .val (.int p3), .val (.int p4), .val (.int tv0), .val (.int tv1), .val (.int tv2), .val (.int xv), .val (.int yv), .val (.ref b1), .unset, .unset, .unset, .unset] [(.int tv1), (.ref b1)])) (fun _ k => XS.iload X17.here hx rfl (hb hby at_73) rfl k) ?_
      refine own_callV X17 hx hZ (y := (⟨"com/example/procurator/procurator/model/RelationGraph$Steps", "add", "(I)V"⟩ : MethodName)) hown (own_w hw 24 rfl) (own_w hw 25 rfl) (own_w hw 27 rfl) (own_w hw 26 rfl) (own_w hw 28 rfl) (own_w hw 3 rfl) (by decide) (W := 0) rfl (b := b1) hq_17.1 (argsL := [(.int tv1)]) (rest := []) (rmad l Z a0 hw [] b1 oF oT (own_up (own_up (own_up (own_up (own_up (fun _ => (0 : Int32)) (0 : Int32) (0 : Int32)) (1 : Int32) (0 : Int32)) (1 : Int32) (1 : Int32)) (1 : Int32) (1 : Int32)) (2 : Int32) (1 : Int32)) (own_up (fun _ => (0 : Int32)) (0 : Int32) tv0) (1 : Int32) (1 : Int32) tv1 T17.heap n0 (Nat.le_trans (Nat.le_trans (Nat.le_trans Zq2 K14.1) K16.1) K17.1) hd hG hq_17 (by decide) (by decide) (by decide)) (by decide) (by decide) (by decide) (by decide) (g := (mkF m 75 #[.val (.int p0), .val (.int p1), .val (.int p2), .val (.int p3), .val (.int p4), .val (.int tv0), .val (.int tv1), .val (.int tv2), .val (.int xv), .val (.int yv), .val (.ref b1), .unset, .unset, .unset, .unset] [(.int tv1), (.ref b1)])) rfl (by rw [hml]; rfl) (lenOf own_pd1 rfl) rfl (by show 2 * 0 + _ ≤ _; exact Nat.le_of_eq rfl) (hb hby at_75) ?_
      rintro _ T19 L19 X19 ⟨rfl, N19q, K19, hq19⟩
      show own_Go _ _ _ _ _ _ _ T19 (mkF m 78 #[.val (.int p0), .val (.int p1), .val (.int p2), .val (.int p3), .val (.int p4), .val (.int tv0), .val (.int tv1), .val (.int tv2), .val (.int xv), .val (.int yv), .val (.ref b1), .unset, .unset, .unset, .unset] [])
      have N19 := Fr.app N17 N19q
      have hq_19 : own_ST Z T19.heap b1 oF oT (own_up (own_up (own_up (own_up (own_up (own_up (fun _ => (0 : Int32)) (0 : Int32) (0 : Int32)) (1 : Int32) (0 : Int32)) (1 : Int32) (1 : Int32)) (1 : Int32) (1 : Int32)) (2 : Int32) (1 : Int32)) (2 : Int32) (2 : Int32)) (own_up (own_up (fun _ => (0 : Int32)) (0 : Int32) tv0) (1 : Int32) tv1) (2 : Int32) (1 : Int32) := hq19
      refine own_st (T' := T19) (g' := (mkF m 80 #[.val (.int p0), .val (.int p1), .val (.int p2), .val (.int p3), .val (.int p4), .val (.int tv0), .val (.int tv1), .val (.int tv2), .val (.int xv), .val (.int yv), .val (.ref b1), .unset, .unset, .unset, .unset] [(.ref b1)])) (fun _ k => XS.aload X19.here hx rfl (hb hby at_78) rfl rfl k) ?_
      refine own_callV X19 hx hZ (y := (⟨"com/example/procurator/procurator/model/RelationGraph$Steps", "next", "()V"⟩ : MethodName)) hown (own_w hw 17 rfl) (own_w hw 18 rfl) (own_w hw 20 rfl) (own_w hw 19 rfl) (own_w hw 21 rfl) (own_w hw 3 rfl) (by decide) (W := 0) rfl (b := b1) hq_19.1 (argsL := []) (rest := []) (rmnx l Z a0 hw [] b1 oF oT (own_up (own_up (own_up (own_up (own_up (own_up (fun _ => (0 : Int32)) (0 : Int32) (0 : Int32)) (1 : Int32) (0 : Int32)) (1 : Int32) (1 : Int32)) (1 : Int32) (1 : Int32)) (2 : Int32) (1 : Int32)) (2 : Int32) (2 : Int32)) (own_up (own_up (fun _ => (0 : Int32)) (0 : Int32) tv0) (1 : Int32) tv1) (2 : Int32) (1 : Int32) T19.heap n0 (Nat.le_trans (Nat.le_trans (Nat.le_trans (Nat.le_trans Zq2 K14.1) K16.1) K17.1) K19.1) hd hG hq_19 (by decide) (by decide)) (by decide) (by decide) (by decide) (by decide) (g := (mkF m 80 #[.val (.int p0), .val (.int p1), .val (.int p2), .val (.int p3), .val (.int p4), .val (.int tv0), .val (.int tv1), .val (.int tv2), .val (.int xv), .val (.int yv), .val (.ref b1), .unset, .unset, .unset, .unset] [(.ref b1)])) rfl (by rw [hml]; rfl) (lenOf own_pd2 rfl) rfl (by show 2 * 0 + _ ≤ _; exact Nat.le_of_eq rfl) (hb hby at_80) ?_
      rintro _ T20 L20 X20 ⟨rfl, N20q, K20, hq20⟩
      show own_Go _ _ _ _ _ _ _ T20 (mkF m 83 #[.val (.int p0), .val (.int p1), .val (.int p2), .val (.int p3), .val (.int p4), .val (.int tv0), .val (.int tv1), .val (.int tv2), .val (.int xv), .val (.int yv), .val (.ref b1), .unset, .unset, .unset, .unset] [])
      have N20 := Fr.app N19 N20q
      have hq_20 : own_ST Z T20.heap b1 oF oT (own_up (own_up (own_up (own_up (own_up (own_up (own_up (own_up (fun _ => (0 : Int32)) (0 : Int32) (0 : Int32)) (1 : Int32) (0 : Int32)) (1 : Int32) (1 : Int32)) (1 : Int32) (1 : Int32)) (2 : Int32) (1 : Int32)) (2 : Int32) (2 : Int32)) (2 : Int32) (2 : Int32)) (3 : Int32) (2 : Int32)) (own_up (own_up (fun _ => (0 : Int32)) (0 : Int32) tv0) (1 : Int32) tv1) (2 : Int32) (2 : Int32) := hq20
      refine own_st (T' := T20) (g' := (mkF m 85 #[.val (.int p0), .val (.int p1), .val (.int p2), .val (.int p3), .val (.int p4), .val (.int tv0), .val (.int tv1), .val (.int tv2), .val (.int xv), .val (.int yv), .val (.ref b1), .unset, .unset, .unset, .unset] [(.int tv2)])) (fun _ k => XS.iload X20.here hx rfl (hb hby at_83) rfl k) ?_
      refine own_st (T' := T20) (g' := (mkF m 86 #[.val (.int p0), .val (.int p1), .val (.int p2), .val (.int p3), .val (.int p4), .val (.int tv0), .val (.int tv1), .val (.int tv2), .val (.int xv), .val (.int yv), .val (.ref b1), .unset, .unset, .unset, .unset] [(.int (3 : Int32)), (.int tv2)])) (fun _ k => XS.iconst X20.here hx rfl (hb hby at_85) k) ?_
      by_cases hc86_21 : tv2 < (3 : Int32)
      · refine own_st (T' := T20) (g' := (mkF m 89 #[.val (.int p0), .val (.int p1), .val (.int p2), .val (.int p3), .val (.int p4), .val (.int tv0), .val (.int tv1), .val (.int tv2), .val (.int xv), .val (.int yv), .val (.ref b1), .unset, .unset, .unset, .unset] [])) (fun _ k => XS.icmpNo X20.here hx rfl (hb hby at_86) rfl (tlt hc86_21).2.1 k) ?_
        refine own_st (T' := T20) (g' := (mkF m 91 #[.val (.int p0), .val (.int p1), .val (.int p2), .val (.int p3), .val (.int p4), .val (.int tv0), .val (.int tv1), .val (.int tv2), .val (.int xv), .val (.int yv), .val (.ref b1), .unset, .unset, .unset, .unset] [(.ref b1)])) (fun _ k => XS.aload X20.here hx rfl (hb hby at_89) rfl rfl k) ?_
        refine own_st (T' := T20) (g' := (mkF m 93 #[.val (.int p0), .val (.int p1), .val (.int p2), .val (.int p3), .val (.int p4), .val (.int tv0), .val (.int tv1), .val (.int tv2), .val (.int xv), .val (.int yv), .val (.ref b1), .unset, .unset, .unset, .unset] [(.int tv2), (.ref b1)])) (fun _ k => XS.iload X20.here hx rfl (hb hby at_91) rfl k) ?_
        refine own_callV X20 hx hZ (y := (⟨"com/example/procurator/procurator/model/RelationGraph$Steps", "add", "(I)V"⟩ : MethodName)) hown (own_w hw 24 rfl) (own_w hw 25 rfl) (own_w hw 27 rfl) (own_w hw 26 rfl) (own_w hw 28 rfl) (own_w hw 3 rfl) (by decide) (W := 0) rfl (b := b1) hq_20.1 (argsL := [(.int tv2)]) (rest := []) (rmad l Z a0 hw [] b1 oF oT (own_up (own_up (own_up (own_up (own_up (own_up (own_up (own_up (fun _ => (0 : Int32)) (0 : Int32) (0 : Int32)) (1 : Int32) (0 : Int32)) (1 : Int32) (1 : Int32)) (1 : Int32) (1 : Int32)) (2 : Int32) (1 : Int32)) (2 : Int32) (2 : Int32)) (2 : Int32) (2 : Int32)) (3 : Int32) (2 : Int32)) (own_up (own_up (fun _ => (0 : Int32)) (0 : Int32) tv0) (1 : Int32) tv1) (2 : Int32) (2 : Int32) tv2 T20.heap n0 (Nat.le_trans (Nat.le_trans (Nat.le_trans (Nat.le_trans (Nat.le_trans Zq2 K14.1) K16.1) K17.1) K19.1) K20.1) hd hG hq_20 (by decide) (by decide) (by decide)) (by decide) (by decide) (by decide) (by decide) (g := (mkF m 93 #[.val (.int p0), .val (.int p1), .val (.int p2), .val (.int p3), .val (.int p4), .val (.int tv0), .val (.int tv1), .val (.int tv2), .val (.int xv), .val (.int yv), .val (.ref b1), .unset, .unset, .unset, .unset] [(.int tv2), (.ref b1)])) rfl (by rw [hml]; rfl) (lenOf own_pd1 rfl) rfl (by show 2 * 0 + _ ≤ _; exact Nat.le_of_eq rfl) (hb hby at_93) ?_
        rintro _ T22 L22 X22 ⟨rfl, N22q, K22, hq22⟩
        show own_Go _ _ _ _ _ _ _ T22 (mkF m 96 #[.val (.int p0), .val (.int p1), .val (.int p2), .val (.int p3), .val (.int p4), .val (.int tv0), .val (.int tv1), .val (.int tv2), .val (.int xv), .val (.int yv), .val (.ref b1), .unset, .unset, .unset, .unset] [])
        have N22 := Fr.app N20 N22q
        have hq_22 : own_ST Z T22.heap b1 oF oT (own_up (own_up (own_up (own_up (own_up (own_up (own_up (own_up (own_up (fun _ => (0 : Int32)) (0 : Int32) (0 : Int32)) (1 : Int32) (0 : Int32)) (1 : Int32) (1 : Int32)) (1 : Int32) (1 : Int32)) (2 : Int32) (1 : Int32)) (2 : Int32) (2 : Int32)) (2 : Int32) (2 : Int32)) (3 : Int32) (2 : Int32)) (3 : Int32) (3 : Int32)) (own_up (own_up (own_up (fun _ => (0 : Int32)) (0 : Int32) tv0) (1 : Int32) tv1) (2 : Int32) tv2) (3 : Int32) (2 : Int32) := hq22
        exact key _ _ _ _ _ _ X22 N22 (Nat.le_trans (Nat.le_trans (Nat.le_trans (Nat.le_trans (Nat.le_trans (Nat.le_trans Zq2 K14.1) K16.1) K17.1) K19.1) K20.1) K22.1) hq_22 (own_k111 (own_tok ha0 hc50_15) (own_tok ha1 hc68_18) (own_tok ha2 hc86_21) hox hoy)
      · refine own_st (T' := T20) (g' := (mkF m 96 #[.val (.int p0), .val (.int p1), .val (.int p2), .val (.int p3), .val (.int p4), .val (.int tv0), .val (.int tv1), .val (.int tv2), .val (.int xv), .val (.int yv), .val (.ref b1), .unset, .unset, .unset, .unset] [])) (fun _ k => XS.icmpYes X20.here hx rfl (pc0 := 86) (pc' := 96) rfl (hb hby at_86) rfl (flt hc86_21).2.1 (by decide) (by decide) k) ?_
        exact key _ _ _ _ _ _ X20 N20 (Nat.le_trans (Nat.le_trans (Nat.le_trans (Nat.le_trans (Nat.le_trans Zq2 K14.1) K16.1) K17.1) K19.1) K20.1) hq_20 (own_k110 (own_tok ha0 hc50_15) (own_tok ha1 hc68_18) (own_t3 hb2 hc86_21) hox hoy)
    · refine own_st (T' := T17) (g' := (mkF m 78 #[.val (.int p0), .val (.int p1), .val (.int p2), .val (.int p3), .val (.int p4), .val (.int tv0), .val (.int tv1), .val (.int tv2), .val (.int xv), .val (.int yv), .val (.ref b1), .unset, .unset, .unset, .unset] [])) (fun _ k => XS.icmpYes X17.here hx rfl (pc0 := 68) (pc' := 78) rfl (hb hby at_68) rfl (flt hc68_18).2.1 (by decide) (by decide) k) ?_
      refine own_st (T' := T17) (g' := (mkF m 80 #[.val (.int p0), .val (.int p1), .val (.int p2), .val (.int p3), .val (.int p4), .val (.int tv0), .val (.int tv1), .val (.int tv2), .val (.int xv), .val (.int yv), .val (.ref b1), .unset, .unset, .unset, .unset] [(.ref b1)])) (fun _ k => XS.aload X17.here hx rfl (hb hby at_78) rfl rfl k) ?_
      refine own_callV X17 hx hZ (y := (⟨"com/example/procurator/procurator/model/RelationGraph$Steps", "next", "()V"⟩ : MethodName)) hown (own_w hw 17 rfl) (own_w hw 18 rfl) (own_w hw 20 rfl) (own_w hw 19 rfl) (own_w hw 21 rfl) (own_w hw 3 rfl) (by decide) (W := 0) rfl (b := b1) hq_17.1 (argsL := []) (rest := []) (rmnx l Z a0 hw [] b1 oF oT (own_up (own_up (own_up (own_up (own_up (fun _ => (0 : Int32)) (0 : Int32) (0 : Int32)) (1 : Int32) (0 : Int32)) (1 : Int32) (1 : Int32)) (1 : Int32) (1 : Int32)) (2 : Int32) (1 : Int32)) (own_up (fun _ => (0 : Int32)) (0 : Int32) tv0) (1 : Int32) (1 : Int32) T17.heap n0 (Nat.le_trans (Nat.le_trans (Nat.le_trans Zq2 K14.1) K16.1) K17.1) hd hG hq_17 (by decide) (by decide)) (by decide) (by decide) (by decide) (by decide) (g := (mkF m 80 #[.val (.int p0), .val (.int p1), .val (.int p2), .val (.int p3), .val (.int p4), .val (.int tv0), .val (.int tv1), .val (.int tv2), .val (.int xv), .val (.int yv), .val (.ref b1), .unset, .unset, .unset, .unset] [(.ref b1)])) rfl (by rw [hml]; rfl) (lenOf own_pd2 rfl) rfl (by show 2 * 0 + _ ≤ _; exact Nat.le_of_eq rfl) (hb hby at_80) ?_
      rintro _ T23 L23 X23 ⟨rfl, N23q, K23, hq23⟩
      show own_Go _ _ _ _ _ _ _ T23 (mkF m 83 #[.val (.int p0), .val (.int p1), .val (.int p2), .val (.int p3), .val (.int p4), .val (.int tv0), .val (.int tv1), .val (.int tv2), .val (.int xv), .val (.int yv), .val (.ref b1), .unset, .unset, .unset, .unset] [])
      have N23 := Fr.app N17 N23q
      have hq_23 : own_ST Z T23.heap b1 oF oT (own_up (own_up (own_up (own_up (own_up (own_up (own_up (fun _ => (0 : Int32)) (0 : Int32) (0 : Int32)) (1 : Int32) (0 : Int32)) (1 : Int32) (1 : Int32)) (1 : Int32) (1 : Int32)) (2 : Int32) (1 : Int32)) (2 : Int32) (1 : Int32)) (3 : Int32) (1 : Int32)) (own_up (fun _ => (0 : Int32)) (0 : Int32) tv0) (1 : Int32) (2 : Int32) := hq23
      refine own_st (T' := T23) (g' := (mkF m 85 #[.val (.int p0), .val (.int p1), .val (.int p2), .val (.int p3), .val (.int p4), .val (.int tv0), .val (.int tv1), .val (.int tv2), .val (.int xv), .val (.int yv), .val (.ref b1), .unset, .unset, .unset, .unset] [(.int tv2)])) (fun _ k => XS.iload X23.here hx rfl (hb hby at_83) rfl k) ?_
      refine own_st (T' := T23) (g' := (mkF m 86 #[.val (.int p0), .val (.int p1), .val (.int p2), .val (.int p3), .val (.int p4), .val (.int tv0), .val (.int tv1), .val (.int tv2), .val (.int xv), .val (.int yv), .val (.ref b1), .unset, .unset, .unset, .unset] [(.int (3 : Int32)), (.int tv2)])) (fun _ k => XS.iconst X23.here hx rfl (hb hby at_85) k) ?_
      by_cases hc86_24 : tv2 < (3 : Int32)
      · refine own_st (T' := T23) (g' := (mkF m 89 #[.val (.int p0), .val (.int p1), .val (.int p2), .val (.int p3), .val (.int p4), .val (.int tv0), .val (.int tv1), .val (.int tv2), .val (.int xv), .val (.int yv), .val (.ref b1), .unset, .unset, .unset, .unset] [])) (fun _ k => XS.icmpNo X23.here hx rfl (hb hby at_86) rfl (tlt hc86_24).2.1 k) ?_
        refine own_st (T' := T23) (g' := (mkF m 91 #[.val (.int p0), .val (.int p1), .val (.int p2), .val (.int p3), .val (.int p4), .val (.int tv0), .val (.int tv1), .val (.int tv2), .val (.int xv), .val (.int yv), .val (.ref b1), .unset, .unset, .unset, .unset] [(.ref b1)])) (fun _ k => XS.aload X23.here hx rfl (hb hby at_89) rfl rfl k) ?_
        refine own_st (T' := T23) (g' := (mkF m 93 #[.val (.int p0), .val (.int p1), .val (.int p2), .val (.int p3), .val (.int p4), .val (.int tv0), .val (.int tv1), .val (.int tv2), .val (.int xv), .val (.int yv), .val (.ref b1), .unset, .unset, .unset, .unset] [(.int tv2), (.ref b1)])) (fun _ k => XS.iload X23.here hx rfl (hb hby at_91) rfl k) ?_
        refine own_callV X23 hx hZ (y := (⟨"com/example/procurator/procurator/model/RelationGraph$Steps", "add", "(I)V"⟩ : MethodName)) hown (own_w hw 24 rfl) (own_w hw 25 rfl) (own_w hw 27 rfl) (own_w hw 26 rfl) (own_w hw 28 rfl) (own_w hw 3 rfl) (by decide) (W := 0) rfl (b := b1) hq_23.1 (argsL := [(.int tv2)]) (rest := []) (rmad l Z a0 hw [] b1 oF oT (own_up (own_up (own_up (own_up (own_up (own_up (own_up (fun _ => (0 : Int32)) (0 : Int32) (0 : Int32)) (1 : Int32) (0 : Int32)) (1 : Int32) (1 : Int32)) (1 : Int32) (1 : Int32)) (2 : Int32) (1 : Int32)) (2 : Int32) (1 : Int32)) (3 : Int32) (1 : Int32)) (own_up (fun _ => (0 : Int32)) (0 : Int32) tv0) (1 : Int32) (2 : Int32) tv2 T23.heap n0 (Nat.le_trans (Nat.le_trans (Nat.le_trans (Nat.le_trans Zq2 K14.1) K16.1) K17.1) K23.1) hd hG hq_23 (by decide) (by decide) (by decide)) (by decide) (by decide) (by decide) (by decide) (g := (mkF m 93 #[.val (.int p0), .val (.int p1), .val (.int p2), .val (.int p3), .val (.int p4), .val (.int tv0), .val (.int tv1), .val (.int tv2), .val (.int xv), .val (.int yv), .val (.ref b1), .unset, .unset, .unset, .unset] [(.int tv2), (.ref b1)])) rfl (by rw [hml]; rfl) (lenOf own_pd1 rfl) rfl (by show 2 * 0 + _ ≤ _; exact Nat.le_of_eq rfl) (hb hby at_93) ?_
        rintro _ T25 L25 X25 ⟨rfl, N25q, K25, hq25⟩
        show own_Go _ _ _ _ _ _ _ T25 (mkF m 96 #[.val (.int p0), .val (.int p1), .val (.int p2), .val (.int p3), .val (.int p4), .val (.int tv0), .val (.int tv1), .val (.int tv2), .val (.int xv), .val (.int yv), .val (.ref b1), .unset, .unset, .unset, .unset] [])
        have N25 := Fr.app N23 N25q
        have hq_25 : own_ST Z T25.heap b1 oF oT (own_up (own_up (own_up (own_up (own_up (own_up (own_up (own_up (fun _ => (0 : Int32)) (0 : Int32) (0 : Int32)) (1 : Int32) (0 : Int32)) (1 : Int32) (1 : Int32)) (1 : Int32) (1 : Int32)) (2 : Int32) (1 : Int32)) (2 : Int32) (1 : Int32)) (3 : Int32) (1 : Int32)) (3 : Int32) (2 : Int32)) (own_up (own_up (fun _ => (0 : Int32)) (0 : Int32) tv0) (1 : Int32) tv2) (2 : Int32) (2 : Int32) := hq25
        exact key _ _ _ _ _ _ X25 N25 (Nat.le_trans (Nat.le_trans (Nat.le_trans (Nat.le_trans (Nat.le_trans Zq2 K14.1) K16.1) K17.1) K23.1) K25.1) hq_25 (own_k101 (own_tok ha0 hc50_15) (own_t3 hb1 hc68_18) (own_tok ha2 hc86_24) hox hoy)
      · refine own_st (T' := T23) (g' := (mkF m 96 #[.val (.int p0), .val (.int p1), .val (.int p2), .val (.int p3), .val (.int p4), .val (.int tv0), .val (.int tv1), .val (.int tv2), .val (.int xv), .val (.int yv), .val (.ref b1), .unset, .unset, .unset, .unset] [])) (fun _ k => XS.icmpYes X23.here hx rfl (pc0 := 86) (pc' := 96) rfl (hb hby at_86) rfl (flt hc86_24).2.1 (by decide) (by decide) k) ?_
        exact key _ _ _ _ _ _ X23 N23 (Nat.le_trans (Nat.le_trans (Nat.le_trans (Nat.le_trans Zq2 K14.1) K16.1) K17.1) K23.1) hq_23 (own_k100 (own_tok ha0 hc50_15) (own_t3 hb1 hc68_18) (own_t3 hb2 hc86_24) hox hoy)
  · refine own_st (T' := T14) (g' := (mkF m 60 #[.val (.int p0), .val (.int p1), .val (.int p2), .val (.int p3), .val (.int p4), .val (.int tv0), .val (.int tv1), .val (.int tv2), .val (.int xv), .val (.int yv), .val (.ref b1), .unset, .unset, .unset, .unset] [])) (fun _ k => XS.icmpYes X14.here hx rfl (pc0 := 50) (pc' := 60) rfl (hb hby at_50) rfl (flt hc50_15).2.1 (by decide) (by decide) k) ?_
    refine own_st (T' := T14) (g' := (mkF m 62 #[.val (.int p0), .val (.int p1), .val (.int p2), .val (.int p3), .val (.int p4), .val (.int tv0), .val (.int tv1), .val (.int tv2), .val (.int xv), .val (.int yv), .val (.ref b1), .unset, .unset, .unset, .unset] [(.ref b1)])) (fun _ k => XS.aload X14.here hx rfl (hb hby at_60) rfl rfl k) ?_
    refine own_callV X14 hx hZ (y := (⟨"com/example/procurator/procurator/model/RelationGraph$Steps", "next", "()V"⟩ : MethodName)) hown (own_w hw 17 rfl) (own_w hw 18 rfl) (own_w hw 20 rfl) (own_w hw 19 rfl) (own_w hw 21 rfl) (own_w hw 3 rfl) (by decide) (W := 0) rfl (b := b1) hq_14.1 (argsL := []) (rest := []) (rmnx l Z a0 hw [] b1 oF oT (own_up (own_up (fun _ => (0 : Int32)) (0 : Int32) (0 : Int32)) (1 : Int32) (0 : Int32)) (fun _ => (0 : Int32)) (0 : Int32) (0 : Int32) T14.heap n0 (Nat.le_trans Zq2 K14.1) hd hG hq_14 (by decide) (by decide)) (by decide) (by decide) (by decide) (by decide) (g := (mkF m 62 #[.val (.int p0), .val (.int p1), .val (.int p2), .val (.int p3), .val (.int p4), .val (.int tv0), .val (.int tv1), .val (.int tv2), .val (.int xv), .val (.int yv), .val (.ref b1), .unset, .unset, .unset, .unset] [(.ref b1)])) rfl (by rw [hml]; rfl) (lenOf own_pd2 rfl) rfl (by show 2 * 0 + _ ≤ _; exact Nat.le_of_eq rfl) (hb hby at_62) ?_
    rintro _ T26 L26 X26 ⟨rfl, N26q, K26, hq26⟩
    show own_Go _ _ _ _ _ _ _ T26 (mkF m 65 #[.val (.int p0), .val (.int p1), .val (.int p2), .val (.int p3), .val (.int p4), .val (.int tv0), .val (.int tv1), .val (.int tv2), .val (.int xv), .val (.int yv), .val (.ref b1), .unset, .unset, .unset, .unset] [])
    have N26 := Fr.app N14 N26q
    have hq_26 : own_ST Z T26.heap b1 oF oT (own_up (own_up (own_up (own_up (fun _ => (0 : Int32)) (0 : Int32) (0 : Int32)) (1 : Int32) (0 : Int32)) (1 : Int32) (0 : Int32)) (2 : Int32) (0 : Int32)) (fun _ => (0 : Int32)) (0 : Int32) (1 : Int32) := hq26
    refine own_st (T' := T26) (g' := (mkF m 67 #[.val (.int p0), .val (.int p1), .val (.int p2), .val (.int p3), .val (.int p4), .val (.int tv0), .val (.int tv1), .val (.int tv2), .val (.int xv), .val (.int yv), .val (.ref b1), .unset, .unset, .unset, .unset] [(.int tv1)])) (fun _ k => XS.iload X26.here hx rfl (hb hby at_65) rfl k) ?_
    refine own_st (T' := T26) (g' := (mkF m 68 #[.val (.int p0), .val (.int p1), .val (.int p2), .val (.int p3), .val (.int p4), .val (.int tv0), .val (.int tv1), .val (.int tv2), .val (.int xv), .val (.int yv), .val (.ref b1), .unset, .unset, .unset, .unset] [(.int (3 : Int32)), (.int tv1)])) (fun _ k => XS.iconst X26.here hx rfl (hb hby at_67) k) ?_
    by_cases hc68_27 : tv1 < (3 : Int32)
    · refine own_st (T' := T26) (g' := (mkF m 71 #[.val (.int p0), .val (.int p1), .val (.int p2), .val (.int p3), .val (.int p4), .val (.int tv0), .val (.int tv1), .val (.int tv2), .val (.int xv), .val (.int yv), .val (.ref b1), .unset, .unset, .unset, .unset] [])) (fun _ k => XS.icmpNo X26.here hx rfl (hb hby at_68) rfl (tlt hc68_27).2.1 k) ?_
      refine own_st (T' := T26) (g' := (mkF m 73 #[.val (.int p0), .val (.int p1), .val (.int p2), .val (.int p3), .val (.int p4), .val (.int tv0), .val (.int tv1), .val (.int tv2), .val (.int xv), .val (.int yv), .val (.ref b1), .unset, .unset, .unset, .unset] [(.ref b1)])) (fun _ k => XS.aload X26.here hx rfl (hb hby at_71) rfl rfl k) ?_
      refine own_st (T' := T26) (g' := (mkF m 75 #[.val (.int p0), .val (.int p1), .val (.int p2), .val (.int p3), .val (.int p4), .val (.int tv0), .val (.int tv1), .val (.int tv2), .val (.int xv), .val (.int yv), .val (.ref b1), .unset, .unset, .unset, .unset] [(.int tv1), (.ref b1)])) (fun _ k => XS.iload X26.here hx rfl (hb hby at_73) rfl k) ?_
      refine own_callV X26 hx hZ (y := (⟨"com/example/procurator/procurator/model/RelationGraph$Steps", "add", "(I)V"⟩ : MethodName)) hown (own_w hw 24 rfl) (own_w hw 25 rfl) (own_w hw 27 rfl) (own_w hw 26 rfl) (own_w hw 28 rfl) (own_w hw 3 rfl) (by decide) (W := 0) rfl (b := b1) hq_26.1 (argsL := [(.int tv1)]) (rest := []) (rmad l Z a0 hw [] b1 oF oT (own_up (own_up (own_up (own_up (fun _ => (0 : Int32)) (0 : Int32) (0 : Int32)) (1 : Int32) (0 : Int32)) (1 : Int32) (0 : Int32)) (2 : Int32) (0 : Int32)) (fun _ => (0 : Int32)) (0 : Int32) (1 : Int32) tv1 T26.heap n0 (Nat.le_trans (Nat.le_trans Zq2 K14.1) K26.1) hd hG hq_26 (by decide) (by decide) (by decide)) (by decide) (by decide) (by decide) (by decide) (g := (mkF m 75 #[.val (.int p0), .val (.int p1), .val (.int p2), .val (.int p3), .val (.int p4), .val (.int tv0), .val (.int tv1), .val (.int tv2), .val (.int xv), .val (.int yv), .val (.ref b1), .unset, .unset, .unset, .unset] [(.int tv1), (.ref b1)])) rfl (by rw [hml]; rfl) (lenOf own_pd1 rfl) rfl (by show 2 * 0 + _ ≤ _; exact Nat.le_of_eq rfl) (hb hby at_75) ?_
      rintro _ T28 L28 X28 ⟨rfl, N28q, K28, hq28⟩
      show own_Go _ _ _ _ _ _ _ T28 (mkF m 78 #[.val (.int p0), .val (.int p1), .val (.int p2), .val (.int p3), .val (.int p4), .val (.int tv0), .val (.int tv1), .val (.int tv2), .val (.int xv), .val (.int yv), .val (.ref b1), .unset, .unset, .unset, .unset] [])
      have N28 := Fr.app N26 N28q
      have hq_28 : own_ST Z T28.heap b1 oF oT (own_up (own_up (own_up (own_up (own_up (fun _ => (0 : Int32)) (0 : Int32) (0 : Int32)) (1 : Int32) (0 : Int32)) (1 : Int32) (0 : Int32)) (2 : Int32) (0 : Int32)) (2 : Int32) (1 : Int32)) (own_up (fun _ => (0 : Int32)) (0 : Int32) tv1) (1 : Int32) (1 : Int32) := hq28
      refine own_st (T' := T28) (g' := (mkF m 80 #[.val (.int p0), .val (.int p1), .val (.int p2), .val (.int p3), .val (.int p4), .val (.int tv0), .val (.int tv1), .val (.int tv2), .val (.int xv), .val (.int yv), .val (.ref b1), .unset, .unset, .unset, .unset] [(.ref b1)])) (fun _ k => XS.aload X28.here hx rfl (hb hby at_78) rfl rfl k) ?_
      refine own_callV X28 hx hZ (y := (⟨"com/example/procurator/procurator/model/RelationGraph$Steps", "next", "()V"⟩ : MethodName)) hown (own_w hw 17 rfl) (own_w hw 18 rfl) (own_w hw 20 rfl) (own_w hw 19 rfl) (own_w hw 21 rfl) (own_w hw 3 rfl) (by decide) (W := 0) rfl (b := b1) hq_28.1 (argsL := []) (rest := []) (rmnx l Z a0 hw [] b1 oF oT (own_up (own_up (own_up (own_up (own_up (fun _ => (0 : Int32)) (0 : Int32) (0 : Int32)) (1 : Int32) (0 : Int32)) (1 : Int32) (0 : Int32)) (2 : Int32) (0 : Int32)) (2 : Int32) (1 : Int32)) (own_up (fun _ => (0 : Int32)) (0 : Int32) tv1) (1 : Int32) (1 : Int32) T28.heap n0 (Nat.le_trans (Nat.le_trans (Nat.le_trans Zq2 K14.1) K26.1) K28.1) hd hG hq_28 (by decide) (by decide)) (by decide) (by decide) (by decide) (by decide) (g := (mkF m 80 #[.val (.int p0), .val (.int p1), .val (.int p2), .val (.int p3), .val (.int p4), .val (.int tv0), .val (.int tv1), .val (.int tv2), .val (.int xv), .val (.int yv), .val (.ref b1), .unset, .unset, .unset, .unset] [(.ref b1)])) rfl (by rw [hml]; rfl) (lenOf own_pd2 rfl) rfl (by show 2 * 0 + _ ≤ _; exact Nat.le_of_eq rfl) (hb hby at_80) ?_
      rintro _ T29 L29 X29 ⟨rfl, N29q, K29, hq29⟩
      show own_Go _ _ _ _ _ _ _ T29 (mkF m 83 #[.val (.int p0), .val (.int p1), .val (.int p2), .val (.int p3), .val (.int p4), .val (.int tv0), .val (.int tv1), .val (.int tv2), .val (.int xv), .val (.int yv), .val (.ref b1), .unset, .unset, .unset, .unset] [])
      have N29 := Fr.app N28 N29q
      have hq_29 : own_ST Z T29.heap b1 oF oT (own_up (own_up (own_up (own_up (own_up (own_up (own_up (fun _ => (0 : Int32)) (0 : Int32) (0 : Int32)) (1 : Int32) (0 : Int32)) (1 : Int32) (0 : Int32)) (2 : Int32) (0 : Int32)) (2 : Int32) (1 : Int32)) (2 : Int32) (1 : Int32)) (3 : Int32) (1 : Int32)) (own_up (fun _ => (0 : Int32)) (0 : Int32) tv1) (1 : Int32) (2 : Int32) := hq29
      refine own_st (T' := T29) (g' := (mkF m 85 #[.val (.int p0), .val (.int p1), .val (.int p2), .val (.int p3), .val (.int p4), .val (.int tv0), .val (.int tv1), .val (.int tv2), .val (.int xv), .val (.int yv), .val (.ref b1), .unset, .unset, .unset, .unset] [(.int tv2)])) (fun _ k => XS.iload X29.here hx rfl (hb hby at_83) rfl k) ?_
      refine own_st (T' := T29) (g' := (mkF m 86 #[.val (.int p0), .val (.int p1), .val (.int p2), .val (.int p3), .val (.int p4), .val (.int tv0), .val (.int tv1), .val (.int tv2), .val (.int xv), .val (.int yv), .val (.ref b1), .unset, .unset, .unset, .unset] [(.int (3 : Int32)), (.int tv2)])) (fun _ k => XS.iconst X29.here hx rfl (hb hby at_85) k) ?_
      by_cases hc86_30 : tv2 < (3 : Int32)
      · refine own_st (T' := T29) (g' := (mkF m 89 #[.val (.int p0), .val (.int p1), .val (.int p2), .val (.int p3), .val (.int p4), .val (.int tv0), .val (.int tv1), .val (.int tv2), .val (.int xv), .val (.int yv), .val (.ref b1), .unset, .unset, .unset, .unset] [])) (fun _ k => XS.icmpNo X29.here hx rfl (hb hby at_86) rfl (tlt hc86_30).2.1 k) ?_
        refine own_st (T' := T29) (g' := (mkF m 91 #[.val (.int p0), .val (.int p1), .val (.int p2), .val (.int p3), .val (.int p4), .val (.int tv0), .val (.int tv1), .val (.int tv2), .val (.int xv), .val (.int yv), .val (.ref b1), .unset, .unset, .unset, .unset] [(.ref b1)])) (fun _ k => XS.aload X29.here hx rfl (hb hby at_89) rfl rfl k) ?_
        refine own_st (T' := T29) (g' := (mkF m 93 #[.val (.int p0), .val (.int p1), .val (.int p2), .val (.int p3), .val (.int p4), .val (.int tv0), .val (.int tv1), .val (.int tv2), .val (.int xv), .val (.int yv), .val (.ref b1), .unset, .unset, .unset, .unset] [(.int tv2), (.ref b1)])) (fun _ k => XS.iload X29.here hx rfl (hb hby at_91) rfl k) ?_
        refine own_callV X29 hx hZ (y := (⟨"com/example/procurator/procurator/model/RelationGraph$Steps", "add", "(I)V"⟩ : MethodName)) hown (own_w hw 24 rfl) (own_w hw 25 rfl) (own_w hw 27 rfl) (own_w hw 26 rfl) (own_w hw 28 rfl) (own_w hw 3 rfl) (by decide) (W := 0) rfl (b := b1) hq_29.1 (argsL := [(.int tv2)]) (rest := []) (rmad l Z a0 hw [] b1 oF oT (own_up (own_up (own_up (own_up (own_up (own_up (own_up (fun _ => (0 : Int32)) (0 : Int32) (0 : Int32)) (1 : Int32) (0 : Int32)) (1 : Int32) (0 : Int32)) (2 : Int32) (0 : Int32)) (2 : Int32) (1 : Int32)) (2 : Int32) (1 : Int32)) (3 : Int32) (1 : Int32)) (own_up (fun _ => (0 : Int32)) (0 : Int32) tv1) (1 : Int32) (2 : Int32) tv2 T29.heap n0 (Nat.le_trans (Nat.le_trans (Nat.le_trans (Nat.le_trans Zq2 K14.1) K26.1) K28.1) K29.1) hd hG hq_29 (by decide) (by decide) (by decide)) (by decide) (by decide) (by decide) (by decide) (g := (mkF m 93 #[.val (.int p0), .val (.int p1), .val (.int p2), .val (.int p3), .val (.int p4), .val (.int tv0), .val (.int tv1), .val (.int tv2), .val (.int xv), .val (.int yv), .val (.ref b1), .unset, .unset, .unset, .unset] [(.int tv2), (.ref b1)])) rfl (by rw [hml]; rfl) (lenOf own_pd1 rfl) rfl (by show 2 * 0 + _ ≤ _; exact Nat.le_of_eq rfl) (hb hby at_93) ?_
        rintro _ T31 L31 X31 ⟨rfl, N31q, K31, hq31⟩
        show own_Go _ _ _ _ _ _ _ T31 (mkF m 96 #[.val (.int p0), .val (.int p1), .val (.int p2), .val (.int p3), .val (.int p4), .val (.int tv0), .val (.int tv1), .val (.int tv2), .val (.int xv), .val (.int yv), .val (.ref b1), .unset, .unset, .unset, .unset] [])
        have N31 := Fr.app N29 N31q
        have hq_31 : own_ST Z T31.heap b1 oF oT (own_up (own_up (own_up (own_up (own_up (own_up (own_up (own_up (fun _ => (0 : Int32)) (0 : Int32) (0 : Int32)) (1 : Int32) (0 : Int32)) (1 : Int32) (0 : Int32)) (2 : Int32) (0 : Int32)) (2 : Int32) (1 : Int32)) (2 : Int32) (1 : Int32)) (3 : Int32) (1 : Int32)) (3 : Int32) (2 : Int32)) (own_up (own_up (fun _ => (0 : Int32)) (0 : Int32) tv1) (1 : Int32) tv2) (2 : Int32) (2 : Int32) := hq31
        exact key _ _ _ _ _ _ X31 N31 (Nat.le_trans (Nat.le_trans (Nat.le_trans (Nat.le_trans (Nat.le_trans Zq2 K14.1) K26.1) K28.1) K29.1) K31.1) hq_31 (own_k011 (own_t3 hb0 hc50_15) (own_tok ha1 hc68_27) (own_tok ha2 hc86_30) hox hoy)
      · refine own_st (T' := T29) (g' := (mkF m 96 #[.val (.int p0), .val (.int p1), .val (.int p2), .val (.int p3), .val (.int p4), .val (.int tv0), .val (.int tv1), .val (.int tv2), .val (.int xv), .val (.int yv), .val (.ref b1), .unset, .unset, .unset, .unset] [])) (fun _ k => XS.icmpYes X29.here hx rfl (pc0 := 86) (pc' := 96) rfl (hb hby at_86) rfl (flt hc86_30).2.1 (by decide) (by decide) k) ?_
        exact key _ _ _ _ _ _ X29 N29 (Nat.le_trans (Nat.le_trans (Nat.le_trans (Nat.le_trans Zq2 K14.1) K26.1) K28.1) K29.1) hq_29 (own_k010 (own_t3 hb0 hc50_15) (own_tok ha1 hc68_27) (own_t3 hb2 hc86_30) hox hoy)
    · refine own_st (T' := T26) (g' := (mkF m 78 #[.val (.int p0), .val (.int p1), .val (.int p2), .val (.int p3), .val (.int p4), .val (.int tv0), .val (.int tv1), .val (.int tv2), .val (.int xv), .val (.int yv), .val (.ref b1), .unset, .unset, .unset, .unset] [])) (fun _ k => XS.icmpYes X26.here hx rfl (pc0 := 68) (pc' := 78) rfl (hb hby at_68) rfl (flt hc68_27).2.1 (by decide) (by decide) k) ?_
      refine own_st (T' := T26) (g' := (mkF m 80 #[.val (.int p0), .val (.int p1), .val (.int p2), .val (.int p3), .val (.int p4), .val (.int tv0), .val (.int tv1), .val (.int tv2), .val (.int xv), .val (.int yv), .val (.ref b1), .unset, .unset, .unset, .unset] [(.ref b1)])) (fun _ k => XS.aload X26.here hx rfl (hb hby at_78) rfl rfl k) ?_
      refine own_callV X26 hx hZ (y := (⟨"com/example/procurator/procurator/model/RelationGraph$Steps", "next", "()V"⟩ : MethodName)) hown (own_w hw 17 rfl) (own_w hw 18 rfl) (own_w hw 20 rfl) (own_w hw 19 rfl) (own_w hw 21 rfl) (own_w hw 3 rfl) (by decide) (W := 0) rfl (b := b1) hq_26.1 (argsL := []) (rest := []) (rmnx l Z a0 hw [] b1 oF oT (own_up (own_up (own_up (own_up (fun _ => (0 : Int32)) (0 : Int32) (0 : Int32)) (1 : Int32) (0 : Int32)) (1 : Int32) (0 : Int32)) (2 : Int32) (0 : Int32)) (fun _ => (0 : Int32)) (0 : Int32) (1 : Int32) T26.heap n0 (Nat.le_trans (Nat.le_trans Zq2 K14.1) K26.1) hd hG hq_26 (by decide) (by decide)) (by decide) (by decide) (by decide) (by decide) (g := (mkF m 80 #[.val (.int p0), .val (.int p1), .val (.int p2), .val (.int p3), .val (.int p4), .val (.int tv0), .val (.int tv1), .val (.int tv2), .val (.int xv), .val (.int yv), .val (.ref b1), .unset, .unset, .unset, .unset] [(.ref b1)])) rfl (by rw [hml]; rfl) (lenOf own_pd2 rfl) rfl (by show 2 * 0 + _ ≤ _; exact Nat.le_of_eq rfl) (hb hby at_80) ?_
      rintro _ T32 L32 X32 ⟨rfl, N32q, K32, hq32⟩
      show own_Go _ _ _ _ _ _ _ T32 (mkF m 83 #[.val (.int p0), .val (.int p1), .val (.int p2), .val (.int p3), .val (.int p4), .val (.int tv0), .val (.int tv1), .val (.int tv2), .val (.int xv), .val (.int yv), .val (.ref b1), .unset, .unset, .unset, .unset] [])
      have N32 := Fr.app N26 N32q
      have hq_32 : own_ST Z T32.heap b1 oF oT (own_up (own_up (own_up (own_up (own_up (own_up (fun _ => (0 : Int32)) (0 : Int32) (0 : Int32)) (1 : Int32) (0 : Int32)) (1 : Int32) (0 : Int32)) (2 : Int32) (0 : Int32)) (2 : Int32) (0 : Int32)) (3 : Int32) (0 : Int32)) (fun _ => (0 : Int32)) (0 : Int32) (2 : Int32) := hq32
      refine own_st (T' := T32) (g' := (mkF m 85 #[.val (.int p0), .val (.int p1), .val (.int p2), .val (.int p3), .val (.int p4), .val (.int tv0), .val (.int tv1), .val (.int tv2), .val (.int xv), .val (.int yv), .val (.ref b1), .unset, .unset, .unset, .unset] [(.int tv2)])) (fun _ k => XS.iload X32.here hx rfl (hb hby at_83) rfl k) ?_
      refine own_st (T' := T32) (g' := (mkF m 86 #[.val (.int p0), .val (.int p1), .val (.int p2), .val (.int p3), .val (.int p4), .val (.int tv0), .val (.int tv1), .val (.int tv2), .val (.int xv), .val (.int yv), .val (.ref b1), .unset, .unset, .unset, .unset] [(.int (3 : Int32)), (.int tv2)])) (fun _ k => XS.iconst X32.here hx rfl (hb hby at_85) k) ?_
      by_cases hc86_33 : tv2 < (3 : Int32)
      · refine own_st (T' := T32) (g' := (mkF m 89 #[.val (.int p0), .val (.int p1), .val (.int p2), .val (.int p3), .val (.int p4), .val (.int tv0), .val (.int tv1), .val (.int tv2), .val (.int xv), .val (.int yv), .val (.ref b1), .unset, .unset, .unset, .unset] [])) (fun _ k => XS.icmpNo X32.here hx rfl (hb hby at_86) rfl (tlt hc86_33).2.1 k) ?_
        refine own_st (T' := T32) (g' := (mkF m 91 #[.val (.int p0), .val (.int p1), .val (.int p2), .val (.int p3), .val (.int p4), .val (.int tv0), .val (.int tv1), .val (.int tv2), .val (.int xv), .val (.int yv), .val (.ref b1), .unset, .unset, .unset, .unset] [(.ref b1)])) (fun _ k => XS.aload X32.here hx rfl (hb hby at_89) rfl rfl k) ?_
        refine own_st (T' := T32) (g' := (mkF m 93 #[.val (.int p0), .val (.int p1), .val (.int p2), .val (.int p3), .val (.int p4), .val (.int tv0), .val (.int tv1), .val (.int tv2), .val (.int xv), .val (.int yv), .val (.ref b1), .unset, .unset, .unset, .unset] [(.int tv2), (.ref b1)])) (fun _ k => XS.iload X32.here hx rfl (hb hby at_91) rfl k) ?_
        refine own_callV X32 hx hZ (y := (⟨"com/example/procurator/procurator/model/RelationGraph$Steps", "add", "(I)V"⟩ : MethodName)) hown (own_w hw 24 rfl) (own_w hw 25 rfl) (own_w hw 27 rfl) (own_w hw 26 rfl) (own_w hw 28 rfl) (own_w hw 3 rfl) (by decide) (W := 0) rfl (b := b1) hq_32.1 (argsL := [(.int tv2)]) (rest := []) (rmad l Z a0 hw [] b1 oF oT (own_up (own_up (own_up (own_up (own_up (own_up (fun _ => (0 : Int32)) (0 : Int32) (0 : Int32)) (1 : Int32) (0 : Int32)) (1 : Int32) (0 : Int32)) (2 : Int32) (0 : Int32)) (2 : Int32) (0 : Int32)) (3 : Int32) (0 : Int32)) (fun _ => (0 : Int32)) (0 : Int32) (2 : Int32) tv2 T32.heap n0 (Nat.le_trans (Nat.le_trans (Nat.le_trans Zq2 K14.1) K26.1) K32.1) hd hG hq_32 (by decide) (by decide) (by decide)) (by decide) (by decide) (by decide) (by decide) (g := (mkF m 93 #[.val (.int p0), .val (.int p1), .val (.int p2), .val (.int p3), .val (.int p4), .val (.int tv0), .val (.int tv1), .val (.int tv2), .val (.int xv), .val (.int yv), .val (.ref b1), .unset, .unset, .unset, .unset] [(.int tv2), (.ref b1)])) rfl (by rw [hml]; rfl) (lenOf own_pd1 rfl) rfl (by show 2 * 0 + _ ≤ _; exact Nat.le_of_eq rfl) (hb hby at_93) ?_
        rintro _ T34 L34 X34 ⟨rfl, N34q, K34, hq34⟩
        show own_Go _ _ _ _ _ _ _ T34 (mkF m 96 #[.val (.int p0), .val (.int p1), .val (.int p2), .val (.int p3), .val (.int p4), .val (.int tv0), .val (.int tv1), .val (.int tv2), .val (.int xv), .val (.int yv), .val (.ref b1), .unset, .unset, .unset, .unset] [])
        have N34 := Fr.app N32 N34q
        have hq_34 : own_ST Z T34.heap b1 oF oT (own_up (own_up (own_up (own_up (own_up (own_up (own_up (fun _ => (0 : Int32)) (0 : Int32) (0 : Int32)) (1 : Int32) (0 : Int32)) (1 : Int32) (0 : Int32)) (2 : Int32) (0 : Int32)) (2 : Int32) (0 : Int32)) (3 : Int32) (0 : Int32)) (3 : Int32) (1 : Int32)) (own_up (fun _ => (0 : Int32)) (0 : Int32) tv2) (1 : Int32) (2 : Int32) := hq34
        exact key _ _ _ _ _ _ X34 N34 (Nat.le_trans (Nat.le_trans (Nat.le_trans (Nat.le_trans Zq2 K14.1) K26.1) K32.1) K34.1) hq_34 (own_k001 (own_t3 hb0 hc50_15) (own_t3 hb1 hc68_27) (own_tok ha2 hc86_33) hox hoy)
      · refine own_st (T' := T32) (g' := (mkF m 96 #[.val (.int p0), .val (.int p1), .val (.int p2), .val (.int p3), .val (.int p4), .val (.int tv0), .val (.int tv1), .val (.int tv2), .val (.int xv), .val (.int yv), .val (.ref b1), .unset, .unset, .unset, .unset] [])) (fun _ k => XS.icmpYes X32.here hx rfl (pc0 := 86) (pc' := 96) rfl (hb hby at_86) rfl (flt hc86_33).2.1 (by decide) (by decide) k) ?_
        exact key _ _ _ _ _ _ X32 N32 (Nat.le_trans (Nat.le_trans (Nat.le_trans Zq2 K14.1) K26.1) K32.1) hq_32 (own_k000 (own_t3 hb0 hc50_15) (own_t3 hb1 hc68_27) (own_t3 hb2 hc86_33) hox hoy)
set_option maxRecDepth 65536 in
set_option maxHeartbeats 40000000 in
theorem comes_1 {Post : Tables → Env → Array Value → State → Outcome → State → Prop} (hpost : ∀ tb e args s v u, (limb_1_1.after args s (.returned v) u = true ∧ limb_1_2.after args s (.returned v) u = true ∧ True) → FrameEnd s (.returned v) u (Jvm.fieldLocs frame_1_writes args s ++ Jvm.arrayLocs frame_1_arrays args s ++ Jvm.staticLocs frame_1_statics s) 40 192 → Post tb e args s (.returned v) u) :
    ArmFor flags0 classFile x code maxLocals ret World_1 tables_1 room_1 Calls_1 rest_1 Pre_1 Post := by
  intro l hfl _ _ p e ha hc hk s m args below hf hA hF happ hP
  obtain ⟨hcalls, hrest, hpre⟩ := hP
  obtain ⟨-, -, -, hnamed, -, -, -, hat⟩ := (Spec.applies_iff hf).mp happ
  obtain ⟨hg, hn⟩ := and_e (Cond.before_iff.mp (show (Jvm.Cond.and given_1 narrow_1).before args s = true from hpre))
  obtain ⟨h1, g0⟩ := and_e hg
  obtain ⟨w0, w1, w2, w3, w4, rfl⟩ : ∃ w0 w1 w2 w3 w4 : Value, args = #[w0, w1, w2, w3, w4] := by
    have hs : args.size = 5 := by simpa [Cond.value, given_1] using h1
    obtain ⟨L⟩ := args
    match L, hs with
    | [w0, w1, w2, w3, w4], _ => exact ⟨w0, w1, w2, w3, w4, rfl⟩
  have hw := fun d (hd : d ∈ tables_1) => atoms_spec (ws := Jvm.Cond.code x code maxLocals ret :: tables_1) hat d (List.mem_cons_of_mem _ hd)
  have hfit : Fit s := fun {y c} hc i hi => by
    obtain ⟨ha, rfl⟩ := Array.getElem?_eq_some_iff.mp hc
    have q := List.all_eq_true.mp ((Array.all_eq_true_iff_forall_mem.mp hF) _ (Array.getElem_mem ha)) i (List.mem_range.mpr hi)
    simpa [Array.getElem?_eq_getElem hi] using q
  obtain ⟨q0, g1⟩ := and_e g0
  obtain ⟨i0, e0⟩ := is_v q0
  obtain rfl : w0 = (.int i0) := Option.some.inj e0
  obtain ⟨q1, g2⟩ := and_e g1
  obtain ⟨i1, e1⟩ := is_v q1
  obtain rfl : w1 = (.int i1) := Option.some.inj e1
  obtain ⟨q2, g3⟩ := and_e g2
  obtain ⟨i2, e2⟩ := is_v q2
  obtain rfl : w2 = (.int i2) := Option.some.inj e2
  obtain ⟨q3, g4⟩ := and_e g3
  obtain ⟨i3, e3⟩ := is_v q3
  obtain rfl : w3 = (.int i3) := Option.some.inj e3
  obtain ⟨i4, e4⟩ := is_v g4
  obtain rfl : w4 = (.int i4) := Option.some.inj e4
  obtain ⟨n, o, h1, h2, h3, _, L, rfl, ⟨rfl, N⟩, hq⟩ := rm0 l s _ hw tables_1 i0 i1 i2 i3 i4  s.heap s.heap.size (Nat.le_refl _)  p e ha hc hk s m _ below hf ((Spec.applies_iff_loose hf).mp happ).1 ⟨rfl, State.Warmed39.refl s, rfl⟩ trivial
  refine ⟨n, _, h1, h2, h3, hpost _ _ _ _ _ _ ⟨Cond.after_iff.mpr rfl, Cond.after_iff.mpr (eq_i res_at (Term.int_eval (1)) rfl), trivial⟩ ⟨hq.1, hq.2.1, (hq.2.2.sift fun y hy => Or.inr (N y hy)).mono (by decide) (by decide)⟩⟩
theorem main_1_1 : Claimed_1_1 := comes_1 fun _ _ _ _ _ _ h hF => ⟨h.1, hF⟩
theorem main_1_2 : Claimed_1_2 := comes_1 fun _ _ _ _ _ _ h hF => ⟨h.2.1, hF⟩
end Jvm.Pilot.@@N@@
namespace Jvm.Pilot.@@N@@
open Jvm Jvm.ClassFile Sem Op Lib Jvm.Free Jvm.Stand Jvm.Pilot.@@N@@.Jvm.D
/-! MADE BY PROGRAM (witnessworld.py) out of the Statement's table words and the real class files: 14 classes; the members and pool entries that the words name. The judged class is class 1, her method 2. -/
namespace start1
open Jvm.ClassFile
def u (s : String) : CpInfo := .utf8 (stringToUtf16 s)
/-- a pool by its gaps: so many unusable entries, then the entry; so many at the end -/
def gap : Nat → List CpInfo → List CpInfo
  | 0, r => r
  | n + 1, r => .unusable :: gap n r
def poolList (es : List (Nat × CpInfo)) (last : Nat) : List CpInfo := es.foldr (fun e r => gap e.1 (e.2 :: r)) (gap last [])
def pool (es : List (Nat × CpInfo)) (last : Nat) : Array CpInfo := ⟨poolList es last⟩
def fileOf (pool : Array CpInfo) (this : Nat) (attrs : Array Attribute := #[]) (ms : Array MethodInfo := #[]) (fl : Nat := 33) (sup : Nat := 0) (ifs : Array Nat := #[]) (fds : Array FieldInfo := #[]) : ClassFile where
  minorVersion := 0
  majorVersion := 65
  constantPool := pool
  accessFlags := fl
  thisClass := this
  superClass := sup
  interfaces := ifs
  fields := fds
  methods := ms
  attributes := attrs
def plain (name : String) (sup : Option ClassId) : Class where
  name := name
  kind := .ordinary
  loader := none
  accessFlags := 33
  super := sup
  interfaces := #[]
  cf := none
  fields := #[]
  methods := #[]
  instanceTypes := #[]
  staticTypes := #[]
  resolved := #[]
  callSites := []
  init := .initialized
  statics := none
  mirror := none

def pool0 : Array CpInfo := pool [(5, u "<init>"), (0, u "()V"), (1, .class_ 10), (1, u "java/lang/Object")] 113

def k0c0 : Code := { maxStack := 0, maxLocals := 1, code := object_method_1_code, exceptionTable := #[], attributes := #[] }
def k0m0 : Method := { name := "<init>", desc := "()V", sig := { parameters := [], returnType := none }, accessFlags := 1, code := some k0c0 }
/-- java/lang/Object -/
def k0 : Class := { plain "java/lang/Object" none with
  accessFlags := 33
  interfaces := #[]
  cf := some (fileOf pool0 8 #[] #[{ accessFlags := 1, nameIndex := 5, descriptorIndex := 6, attributes := #[] }] 33 0 #[] #[])
  fields := #[]
  methods := #[k0m0]
  instanceTypes := #[]
  staticTypes := #[]
  resolved := Array.replicate 124 none
  statics := none }

def pool1 : Array CpInfo := pool [(2, .class_ 4), (1, u "java/lang/Object"), (0, u "<init>"), (0, u "()V"), (0, .integer 2147483647), (0, .class_ 9), (0, u "com/example/procurator/procurator/model/RelationGraph$Steps"), (0, .methodref 8 11), (0, .nameAndType 5 12), (0, u "(I)V"), (0, .methodref 8 14), (0, .nameAndType 15 6), (0, u "next"), (0, .methodref 8 17), (0, .nameAndType 18 12), (0, u "add"), (0, .class_ 20), (0, u "com/example/procurator/procurator/model/RelationGraph"), (0, .methodref 19 22), (0, .nameAndType 5 23), (0, u "(Lcom/example/procurator/procurator/model/RelationGraph$Steps;)V"), (0, .methodref 19 25), (0, .nameAndType 26 27), (0, u "inOneCircle"), (0, u "(II)Z"), (0, .methodref 29 30), (0, .class_ 31), (0, .nameAndType 32 33), (0, u "com/example/procurator/procurator/model/StepsNextPinLaw"), (0, u "reach"), (0, u "([III)Z"), (3, u "law"), (0, u "(IIIII)Z")] 6

def k1m0 : Method := { name := "<init>", desc := "()V", sig := { parameters := [], returnType := none }, accessFlags := 1, code := none }
def k1c1 : Code := { maxStack := 2, maxLocals := 4, code := method_2_code, exceptionTable := #[], attributes := #[] }
def k1m1 : Method := { name := "reach", desc := "([III)Z", sig := { parameters := [(.array .int), .int, .int], returnType := some .boolean }, accessFlags := 10, code := some k1c1 }
def k1c2 : Code := { maxStack := 4, maxLocals := 15, code := code, exceptionTable := #[], attributes := #[] }
def k1m2 : Method := { name := "law", desc := "(IIIII)Z", sig := { parameters := [.int, .int, .int, .int, .int], returnType := some .boolean }, accessFlags := 9, code := some k1c2 }
/-- com/example/procurator/procurator/model/StepsNextPinLaw -/
def k1 : Class := { plain "com/example/procurator/procurator/model/StepsNextPinLaw" (some 0) with
  accessFlags := 49
  interfaces := #[]
  cf := some (fileOf pool1 29 #[] #[{ accessFlags := 1, nameIndex := 5, descriptorIndex := 6, attributes := #[] }, { accessFlags := 10, nameIndex := 32, descriptorIndex := 33, attributes := #[] }, { accessFlags := 9, nameIndex := 37, descriptorIndex := 38, attributes := #[] }] 49 2 #[] #[])
  fields := #[]
  methods := #[k1m0, k1m1, k1m2]
  instanceTypes := #[]
  staticTypes := #[]
  resolved := Array.replicate 45 none
  statics := none }

def pool2 : Array CpInfo := pool [(1, .methodref 2 3), (0, .class_ 4), (0, .nameAndType 5 6), (0, u "java/lang/Object"), (0, u "<init>"), (0, u "()V"), (0, .fieldref 8 9), (0, .class_ 10), (0, .nameAndType 11 12), (0, u "com/example/procurator/procurator/model/RelationGraph$Steps"), (0, u "first"), (0, u "[I"), (0, .fieldref 8 14), (0, .nameAndType 15 12), (0, u "to"), (0, .fieldref 8 17), (0, .nameAndType 18 19), (0, u "from"), (0, u "I"), (0, .fieldref 8 21), (0, .nameAndType 22 19), (0, u "size"), (6, u "(I)V"), (2, u "relations"), (0, u "()I"), (0, u "next"), (0, u "add"), (4, .class_ 41), (0, u "com/example/procurator/procurator/model/RelationGraph")] 2

def k2c0 : Code := { maxStack := 3, maxLocals := 2, code := prog_74_method_1_code, exceptionTable := #[], attributes := #[] }
def k2m0 : Method := { name := "<init>", desc := "(I)V", sig := { parameters := [.int], returnType := none }, accessFlags := 0, code := some k2c0 }
def k2c1 : Code := { maxStack := 2, maxLocals := 1, code := prog_74_method_2_code, exceptionTable := #[], attributes := #[] }
def k2m1 : Method := { name := "relations", desc := "()I", sig := { parameters := [], returnType := some .int }, accessFlags := 2, code := some k2c1 }
def k2c2 : Code := { maxStack := 3, maxLocals := 1, code := prog_74_method_3_code, exceptionTable := #[], attributes := #[] }
def k2m2 : Method := { name := "next", desc := "()V", sig := { parameters := [], returnType := none }, accessFlags := 0, code := some k2c2 }
def k2c3 : Code := { maxStack := 5, maxLocals := 2, code := prog_74_method_4_code, exceptionTable := #[], attributes := #[] }
def k2m3 : Method := { name := "add", desc := "(I)V", sig := { parameters := [.int], returnType := none }, accessFlags := 0, code := some k2c3 }
/-- com/example/procurator/procurator/model/RelationGraph$Steps -/
def k2 : Class := { plain "com/example/procurator/procurator/model/RelationGraph$Steps" (some 0) with
  accessFlags := 48
  interfaces := #[]
  cf := some (fileOf pool2 8 #[.nestHost 40] #[{ accessFlags := 0, nameIndex := 5, descriptorIndex := 29, attributes := #[] }, { accessFlags := 2, nameIndex := 32, descriptorIndex := 33, attributes := #[] }, { accessFlags := 0, nameIndex := 34, descriptorIndex := 6, attributes := #[] }, { accessFlags := 0, nameIndex := 35, descriptorIndex := 29, attributes := #[] }] 48 2 #[] #[{ accessFlags := 18, nameIndex := 11, descriptorIndex := 12, attributes := #[] }, { accessFlags := 2, nameIndex := 15, descriptorIndex := 12, attributes := #[] }, { accessFlags := 2, nameIndex := 22, descriptorIndex := 19, attributes := #[] }, { accessFlags := 2, nameIndex := 18, descriptorIndex := 19, attributes := #[] }])
  fields := #[{ name := "first", type := (.array .int), accessFlags := 18, slot := 0, constantValue := 0 }, { name := "to", type := (.array .int), accessFlags := 2, slot := 1, constantValue := 0 }, { name := "size", type := .int, accessFlags := 2, slot := 2, constantValue := 0 }, { name := "from", type := .int, accessFlags := 2, slot := 3, constantValue := 0 }]
  methods := #[k2m0, k2m1, k2m2, k2m3]
  instanceTypes := #[(.array .int), (.array .int), .int, .int]
  staticTypes := #[]
  resolved := Array.replicate 44 none
  statics := none }

def pool3 : Array CpInfo := pool [(1, .methodref 2 3), (0, .class_ 4), (0, .nameAndType 5 6), (0, u "java/lang/Object"), (0, u "<init>"), (0, u "()V"), (0, .class_ 8), (0, u "com/example/procurator/procurator/model/RelationGraph$CircleWalk"), (0, .methodref 7 10), (0, .nameAndType 5 11), (0, u "(Lcom/example/procurator/procurator/model/RelationGraph$Steps;)V"), (0, .methodref 7 13), (0, .nameAndType 14 15), (0, u "run"), (0, u "()[I"), (0, .fieldref 17 18), (0, .class_ 19), (0, .nameAndType 20 21), (0, u "com/example/procurator/procurator/model/RelationGraph"), (0, u "circleOf"), (0, u "[I"), (2, u "inOneCircle"), (0, u "(II)Z"), (4, .class_ 31), (0, u "com/example/procurator/procurator/model/RelationGraph$Steps")] 3

def k3c0 : Code := { maxStack := 4, maxLocals := 2, code := prog_72_method_1_code, exceptionTable := #[], attributes := #[] }
def k3m0 : Method := { name := "<init>", desc := "(Lcom/example/procurator/procurator/model/RelationGraph$Steps;)V", sig := { parameters := [(.object "com/example/procurator/procurator/model/RelationGraph$Steps")], returnType := none }, accessFlags := 0, code := some k3c0 }
def k3c1 : Code := { maxStack := 3, maxLocals := 3, code := prog_72_method_2_code, exceptionTable := #[], attributes := #[] }
def k3m1 : Method := { name := "inOneCircle", desc := "(II)Z", sig := { parameters := [.int, .int], returnType := some .boolean }, accessFlags := 0, code := some k3c1 }
/-- com/example/procurator/procurator/model/RelationGraph -/
def k3 : Class := { plain "com/example/procurator/procurator/model/RelationGraph" (some 0) with
  accessFlags := 48
  interfaces := #[]
  cf := some (fileOf pool3 17 #[.nestMembers #[7, 30]] #[{ accessFlags := 0, nameIndex := 5, descriptorIndex := 11, attributes := #[] }, { accessFlags := 0, nameIndex := 24, descriptorIndex := 25, attributes := #[] }] 48 2 #[] #[{ accessFlags := 18, nameIndex := 20, descriptorIndex := 21, attributes := #[] }])
  fields := #[{ name := "circleOf", type := (.array .int), accessFlags := 18, slot := 0, constantValue := 0 }]
  methods := #[k3m0, k3m1]
  instanceTypes := #[(.array .int)]
  staticTypes := #[]
  resolved := (((Array.replicate 35 none).setIfInBounds 9 (some (.method ⟨4, 0⟩))).setIfInBounds 12 (some (.method ⟨4, 1⟩))).setIfInBounds 7 (some (.cls 4))
  statics := none }

def pool4 : Array CpInfo := pool [(1, .methodref 2 3), (0, .class_ 4), (0, .nameAndType 5 6), (0, u "java/lang/Object"), (0, u "<init>"), (0, u "()V"), (0, .fieldref 8 9), (0, .class_ 10), (0, .nameAndType 11 12), (0, u "com/example/procurator/procurator/model/RelationGraph$CircleWalk"), (0, u "steps"), (0, u "Lcom/example/procurator/procurator/model/RelationGraph$Steps;"), (0, .methodref 14 15), (0, .class_ 16), (0, .nameAndType 17 18), (0, u "com/example/procurator/procurator/model/RelationGraph$Steps"), (0, u "relations"), (0, u "()I"), (0, .fieldref 8 20), (0, .nameAndType 21 22), (0, u "entered"), (0, u "[I"), (0, .fieldref 8 24), (0, .nameAndType 25 22), (0, u "earliest"), (0, .fieldref 8 27), (0, .nameAndType 28 22), (0, u "nextStep"), (0, .fieldref 8 30), (0, .nameAndType 31 22), (0, u "circleOf"), (0, .fieldref 8 33), (0, .nameAndType 34 35), (0, u "open"), (0, u "[Z"), (0, .fieldref 8 37), (0, .nameAndType 38 22), (0, u "unclosed"), (0, .fieldref 8 40), (0, .nameAndType 41 22), (0, u "path"), (0, .methodref 8 43), (0, .nameAndType 44 45), (0, u "enter"), (0, u "(I)V"), (0, .methodref 8 47), (0, .nameAndType 48 6), (0, u "follow"), (0, .fieldref 8 50), (0, .nameAndType 51 52), (0, u "entries"), (0, u "I"), (0, .fieldref 14 54), (0, .nameAndType 55 22), (0, u "first"), (0, .fieldref 8 57), (0, .nameAndType 58 52), (0, u "unclosedSize"), (0, .fieldref 8 60), (0, .nameAndType 61 52), (0, u "pathSize"), (0, .methodref 8 63), (0, .nameAndType 64 45), (0, u "leave"), (0, .fieldref 14 66), (0, .nameAndType 67 22), (0, u "to"), (0, .methodref 69 70), (0, .class_ 71), (0, .nameAndType 72 73), (0, u "java/lang/Math"), (0, u "min"), (0, u "(II)I"), (0, .fieldref 8 75), (0, .nameAndType 76 52), (0, u "circles"), (0, u "(Lcom/example/procurator/procurator/model/RelationGraph$Steps;)V"), (2, u "run"), (0, u "()[I"), (4, .class_ 87), (0, u "com/example/procurator/procurator/model/RelationGraph")] 3

def k4c0 : Code := { maxStack := 2, maxLocals := 3, code := prog_73_method_1_code, exceptionTable := #[], attributes := #[] }
def k4m0 : Method := { name := "<init>", desc := "(Lcom/example/procurator/procurator/model/RelationGraph$Steps;)V", sig := { parameters := [(.object "com/example/procurator/procurator/model/RelationGraph$Steps")], returnType := none }, accessFlags := 2, code := some k4c0 }
def k4c1 : Code := { maxStack := 2, maxLocals := 2, code := prog_73_method_2_code, exceptionTable := #[], attributes := #[] }
def k4m1 : Method := { name := "run", desc := "()[I", sig := { parameters := [], returnType := some (.array .int) }, accessFlags := 2, code := some k4c1 }
def k4c2 : Code := { maxStack := 5, maxLocals := 2, code := prog_73_method_3_code, exceptionTable := #[], attributes := #[] }
def k4m2 : Method := { name := "enter", desc := "(I)V", sig := { parameters := [.int], returnType := none }, accessFlags := 2, code := some k4c2 }
def k4c3 : Code := { maxStack := 6, maxLocals := 3, code := prog_73_method_4_code, exceptionTable := #[], attributes := #[] }
def k4m3 : Method := { name := "follow", desc := "()V", sig := { parameters := [], returnType := none }, accessFlags := 2, code := some k4c3 }
def k4c4 : Code := { maxStack := 5, maxLocals := 3, code := prog_73_method_5_code, exceptionTable := #[], attributes := #[] }
def k4m4 : Method := { name := "leave", desc := "(I)V", sig := { parameters := [.int], returnType := none }, accessFlags := 2, code := some k4c4 }
/-- com/example/procurator/procurator/model/RelationGraph$CircleWalk -/
def k4 : Class := { plain "com/example/procurator/procurator/model/RelationGraph$CircleWalk" (some 0) with
  accessFlags := 48
  interfaces := #[]
  cf := some (fileOf pool4 8 #[.nestHost 86] #[{ accessFlags := 2, nameIndex := 5, descriptorIndex := 77, attributes := #[] }, { accessFlags := 2, nameIndex := 80, descriptorIndex := 81, attributes := #[] }, { accessFlags := 2, nameIndex := 44, descriptorIndex := 45, attributes := #[] }, { accessFlags := 2, nameIndex := 48, descriptorIndex := 6, attributes := #[] }, { accessFlags := 2, nameIndex := 64, descriptorIndex := 45, attributes := #[] }] 48 2 #[] #[{ accessFlags := 18, nameIndex := 11, descriptorIndex := 12, attributes := #[] }, { accessFlags := 18, nameIndex := 21, descriptorIndex := 22, attributes := #[] }, { accessFlags := 18, nameIndex := 25, descriptorIndex := 22, attributes := #[] }, { accessFlags := 18, nameIndex := 28, descriptorIndex := 22, attributes := #[] }, { accessFlags := 18, nameIndex := 31, descriptorIndex := 22, attributes := #[] }, { accessFlags := 18, nameIndex := 34, descriptorIndex := 35, attributes := #[] }, { accessFlags := 18, nameIndex := 38, descriptorIndex := 22, attributes := #[] }, { accessFlags := 18, nameIndex := 41, descriptorIndex := 22, attributes := #[] }, { accessFlags := 2, nameIndex := 58, descriptorIndex := 52, attributes := #[] }, { accessFlags := 2, nameIndex := 61, descriptorIndex := 52, attributes := #[] }, { accessFlags := 2, nameIndex := 51, descriptorIndex := 52, attributes := #[] }, { accessFlags := 2, nameIndex := 76, descriptorIndex := 52, attributes := #[] }])
  fields := #[{ name := "steps", type := (.object "com/example/procurator/procurator/model/RelationGraph$Steps"), accessFlags := 18, slot := 0, constantValue := 0 }, { name := "entered", type := (.array .int), accessFlags := 18, slot := 1, constantValue := 0 }, { name := "earliest", type := (.array .int), accessFlags := 18, slot := 2, constantValue := 0 }, { name := "nextStep", type := (.array .int), accessFlags := 18, slot := 3, constantValue := 0 }, { name := "circleOf", type := (.array .int), accessFlags := 18, slot := 4, constantValue := 0 }, { name := "open", type := (.array .boolean), accessFlags := 18, slot := 5, constantValue := 0 }, { name := "unclosed", type := (.array .int), accessFlags := 18, slot := 6, constantValue := 0 }, { name := "path", type := (.array .int), accessFlags := 18, slot := 7, constantValue := 0 }, { name := "unclosedSize", type := .int, accessFlags := 2, slot := 8, constantValue := 0 }, { name := "pathSize", type := .int, accessFlags := 2, slot := 9, constantValue := 0 }, { name := "entries", type := .int, accessFlags := 2, slot := 10, constantValue := 0 }, { name := "circles", type := .int, accessFlags := 2, slot := 11, constantValue := 0 }]
  methods := #[k4m0, k4m1, k4m2, k4m3, k4m4]
  instanceTypes := #[(.object "com/example/procurator/procurator/model/RelationGraph$Steps"), (.array .int), (.array .int), (.array .int), (.array .int), (.array .boolean), (.array .int), (.array .int), .int, .int, .int, .int]
  staticTypes := #[]
  resolved := Array.replicate 91 none
  statics := none }

def pool5 : Array CpInfo := pool [(1, .class_ 2), (0, u "java/lang/Math"), (1, .class_ 6), (1, u "java/lang/Object"), (0, u "<init>"), (0, u "()V"), (89, .class_ 100), (1, u "java/lang/Math$RandomNumberGeneratorHolder"), (71, u "negativeZeroFloatBits"), (0, u "J"), (2, u "negativeZeroDoubleBits"), (24, u "min"), (43, u "$assertionsDisabled"), (0, u "Z"), (88, u "(II)I"), (2, u "twoToTheDoubleScaleDown"), (0, u "D"), (4, u "twoToTheDoubleScaleUp"), (9, u "E"), (3, u "PI"), (2, u "TAU"), (2, u "DEGREES_TO_RADIANS"), (0, u "RADIANS_TO_DEGREES")] 94

def k5m0 : Method := { name := "<init>", desc := "()V", sig := { parameters := [], returnType := none }, accessFlags := 2, code := none }
def k5c1 : Code := { maxStack := 2, maxLocals := 2, code := jdk_29_method_69_code, exceptionTable := #[], attributes := #[] }
def k5m1 : Method := { name := "min", desc := "(II)I", sig := { parameters := [.int, .int], returnType := some .int }, accessFlags := 9, code := some k5c1 }
/-- java/lang/Math -/
def k5 : Class := { plain "java/lang/Math" (some 0) with
  accessFlags := 49
  interfaces := #[]
  cf := some (fileOf pool5 1 #[.nestMembers #[98]] #[{ accessFlags := 2, nameIndex := 7, descriptorIndex := 8, attributes := #[] }, { accessFlags := 9, nameIndex := 201, descriptorIndex := 335, attributes := #[] }] 49 4 #[] #[{ accessFlags := 25, nameIndex := 354, descriptorIndex := 339, attributes := #[] }, { accessFlags := 25, nameIndex := 358, descriptorIndex := 339, attributes := #[] }, { accessFlags := 25, nameIndex := 361, descriptorIndex := 339, attributes := #[] }, { accessFlags := 26, nameIndex := 364, descriptorIndex := 339, attributes := #[] }, { accessFlags := 26, nameIndex := 365, descriptorIndex := 339, attributes := #[] }, { accessFlags := 26, nameIndex := 172, descriptorIndex := 173, attributes := #[] }, { accessFlags := 26, nameIndex := 176, descriptorIndex := 173, attributes := #[] }, { accessFlags := 8, nameIndex := 344, descriptorIndex := 339, attributes := #[] }, { accessFlags := 8, nameIndex := 338, descriptorIndex := 339, attributes := #[] }, { accessFlags := 4120, nameIndex := 245, descriptorIndex := 246, attributes := #[] }])
  fields := #[{ name := "E", type := .double, accessFlags := 25, slot := 0, constantValue := 0 }, { name := "PI", type := .double, accessFlags := 25, slot := 1, constantValue := 0 }, { name := "TAU", type := .double, accessFlags := 25, slot := 2, constantValue := 0 }, { name := "DEGREES_TO_RADIANS", type := .double, accessFlags := 26, slot := 3, constantValue := 0 }, { name := "RADIANS_TO_DEGREES", type := .double, accessFlags := 26, slot := 4, constantValue := 0 }, { name := "negativeZeroFloatBits", type := .long, accessFlags := 26, slot := 5, constantValue := 0 }, { name := "negativeZeroDoubleBits", type := .long, accessFlags := 26, slot := 6, constantValue := 0 }, { name := "twoToTheDoubleScaleUp", type := .double, accessFlags := 8, slot := 7, constantValue := 0 }, { name := "twoToTheDoubleScaleDown", type := .double, accessFlags := 8, slot := 8, constantValue := 0 }, { name := "$assertionsDisabled", type := .boolean, accessFlags := 4120, slot := 9, constantValue := 0 }]
  methods := #[k5m0, k5m1]
  instanceTypes := #[]
  staticTypes := #[.double, .double, .double, .double, .double, .long, .long, .double, .double, .boolean]
  resolved := Array.replicate 460 none
  statics := none }

def pool6 : Array CpInfo := pool [(1, u "java/lang/Cloneable"), (0, .class_ 1), (0, u "java/lang/Object"), (0, .class_ 3)] 3

/-- java/lang/Cloneable -/
def k6 : Class := { plain "java/lang/Cloneable" (some 0) with
  accessFlags := 1537
  interfaces := #[]
  cf := some (fileOf pool6 2 #[] #[] 1537 4 #[] #[])
  fields := #[]
  methods := #[]
  instanceTypes := #[]
  staticTypes := #[]
  resolved := Array.replicate 8 none
  statics := none }

def pool7 : Array CpInfo := pool [(1, u "java/io/Serializable"), (0, .class_ 1), (0, u "java/lang/Object"), (0, .class_ 3)] 3

/-- java/io/Serializable -/
def k7 : Class := { plain "java/io/Serializable" (some 0) with
  accessFlags := 1537
  interfaces := #[]
  cf := some (fileOf pool7 2 #[] #[] 1537 4 #[] #[])
  fields := #[]
  methods := #[]
  instanceTypes := #[]
  staticTypes := #[]
  resolved := Array.replicate 8 none
  statics := none }

/-- the primitive boolean -/
def k8 : Class := { plain "boolean" none with kind := .primitive 'Z', accessFlags := 0x411 }
/-- [Z -/
def k9 : Class := { plain "[Z" (some 0) with kind := .array 8 .boolean, interfaces := #[6, 7], accessFlags := 1041 }

/-- the primitive byte -/
def k10 : Class := { plain "byte" none with kind := .primitive 'B', accessFlags := 0x411 }
/-- [B -/
def k11 : Class := { plain "[B" (some 0) with kind := .array 10 .byte, interfaces := #[6, 7], accessFlags := 1041 }

/-- the primitive int -/
def k12 : Class := { plain "int" none with kind := .primitive 'I', accessFlags := 0x411 }
/-- [I -/
def k13 : Class := { plain "[I" (some 0) with kind := .array 12 .int, interfaces := #[6, 7], accessFlags := 1041 }

def heap : Heap := #[]
def classes : Array Class := #[k0, k1, k2, k3, k4, k5, k6, k7, k8, k9, k10, k11, k12, k13]
def interned : List (Array UInt16 × Addr) := []
def slotsUsed : Nat := 0
def theMethod : MethodId := ⟨1, 2⟩
def args0 : Array Value := #[.int 1, .int 2, .int 3, .int 4, .int 5]
def aboutOver (below : List Frame) : State where
  vm := { classes := classes, interned := interned.toArray }
  heap := heap
  slotsUsed := slotsUsed
  threads := #[{ frames := .invoking theMethod args0 :: below }]
def below0 : List Frame := [.native { method := ⟨0, 0⟩, args := #[] }]
def about1 : State := aboutOver below0
def p0 : Program := .bare "" "" ""
def e0 : Env := launch0.env 0 0 0
theorem w_frames : about1.frames = Frame.invoking theMethod args0 :: below0 := rfl
set_option maxRecDepth 65536 in
theorem w_args : argsFit about1.vm theMethod args0 = true := by decide +kernel
set_option maxRecDepth 65536 in
theorem w_heap : heapFits about1 = true := by decide +kernel
set_option maxRecDepth 65536 in
theorem w_runnable : about1.curStatus? = some .runnable := by decide +kernel
set_option maxRecDepth 65536 in
theorem w_alone : about1.alone = true := by decide +kernel
set_option maxRecDepth 65536 in
theorem w_named : about1.methodNamed? x = some theMethod := by decide +kernel
set_option maxRecDepth 65536 in
theorem w_hears : about1.hears theMethod below0 = true := by decide +kernel
set_option maxRecDepth 65536 in
theorem w_ripe : about1.ripe theMethod args0 below0 = true := by decide +kernel
theorem w_running : about1.status = .running := rfl
set_option maxRecDepth 65536 in
theorem w_room : about1.hasRoom e0.platform room_1 = true :=
  launch0.hasRoom_least _ room_1 (by decide +kernel) (by decide +kernel) (by decide +kernel) (by decide +kernel) (by decide +kernel) (by decide +kernel)
theorem allAtoms_all (ts : List Jvm.Cond) (a : Array Jvm.Value) (st : Jvm.State) : (allAtoms ts).before a st = ts.all (fun c => c.before a st) := by
  induction ts with
  | nil => rfl
  | cons c t ih =>
    show (Jvm.Cond.and c (allAtoms t)).before a st = _
    rw [Jvm.Cond.before_and, ih, List.all_cons]
def words1 : List Jvm.Cond := Jvm.Cond.code x code maxLocals ret :: tables_1
/-- a 'code' word, met by the world's own term for the bytes: nothing is compared byte by byte -/
theorem code_word {y : MethodName} {bytes : ByteArray} {mx : Nat} {rt : Option FieldType} {a : Array Value} {s : State} {m : MethodId} {meth : Method} {c : Code} (h1 : s.methodNamed? y = some m) (h2 : s.vm.method? m = some meth) (h3 : meth.code = some c) (h4 : c.code = bytes)
    (h5 : (c.maxLocals == mx && c.exceptionTable.isEmpty && decide (c.maxStack ≤ mostOperands) && decide (meth.sig.returnType = rt) && !meth.locks && decide (parseMethodDescriptor y.desc = some meth.sig)) = true) : (Jvm.Cond.code y bytes mx rt).before a s = true := by
  simp only [Bool.and_eq_true, beq_iff_eq, Bool.not_eq_true', decide_eq_true_eq] at h5
  obtain ⟨⟨⟨⟨⟨g1, g2⟩, g3⟩, g4⟩, g5⟩, g6⟩ := h5
  simp [Cond.before, Cond.holds, Cond.value, h1, h2, h3, h4, g1, g2, g3, g4, g5, g6]
def isCode : Jvm.Cond → Bool
  | .code _ _ _ _ => true
  | _ => false
theorem all_split {L : List Jvm.Cond} {P : Jvm.Cond → Bool} (h1 : L.all (fun c => isCode c || P c) = true) (h2 : ∀ c ∈ L.filter isCode, P c = true) : L.all P = true := by
  refine List.all_eq_true.mpr fun c hc => ?_
  have h := List.all_eq_true.mp h1 c hc
  rcases Bool.eq_false_or_eq_true (isCode c) with hi | hi
  · exact h2 c (List.mem_filter.mpr ⟨hc, hi⟩)
  · simpa [hi] using h
set_option maxRecDepth 65536 in
theorem w_c0 : (Jvm.Cond.code x code maxLocals ret).before args0 about1 = true := code_word (m := ⟨1, 2⟩) (meth := k1m2) (c := k1c2) (by decide +kernel) rfl rfl rfl (by decide +kernel)
set_option maxRecDepth 65536 in
theorem w_c1 : (Jvm.Cond.code ({ cls := "com/example/procurator/procurator/model/RelationGraph$Steps", name := "<init>", desc := "(I)V" } : Jvm.MethodName) prog_74_method_1_code (2 : Nat) (Option.none : Option Jvm.ClassFile.FieldType)).before args0 about1 = true := code_word (m := ⟨2, 0⟩) (meth := k2m0) (c := k2c0) (by decide +kernel) rfl rfl rfl (by decide +kernel)
set_option maxRecDepth 65536 in
theorem w_c2 : (Jvm.Cond.code ({ cls := "java/lang/Object", name := "<init>", desc := "()V" } : Jvm.MethodName) object_method_1_code (1 : Nat) (Option.none : Option Jvm.ClassFile.FieldType)).before args0 about1 = true := code_word (m := ⟨0, 0⟩) (meth := k0m0) (c := k0c0) (by decide +kernel) rfl rfl rfl (by decide +kernel)
set_option maxRecDepth 65536 in
theorem w_c3 : (Jvm.Cond.code ({ cls := "com/example/procurator/procurator/model/RelationGraph$Steps", name := "next", desc := "()V" } : Jvm.MethodName) prog_74_method_3_code (1 : Nat) (Option.none : Option Jvm.ClassFile.FieldType)).before args0 about1 = true := code_word (m := ⟨2, 2⟩) (meth := k2m2) (c := k2c2) (by decide +kernel) rfl rfl rfl (by decide +kernel)
set_option maxRecDepth 65536 in
theorem w_c4 : (Jvm.Cond.code ({ cls := "com/example/procurator/procurator/model/RelationGraph$Steps", name := "add", desc := "(I)V" } : Jvm.MethodName) prog_74_method_4_code (2 : Nat) (Option.none : Option Jvm.ClassFile.FieldType)).before args0 about1 = true := code_word (m := ⟨2, 3⟩) (meth := k2m3) (c := k2c3) (by decide +kernel) rfl rfl rfl (by decide +kernel)
set_option maxRecDepth 65536 in
theorem w_c5 : (Jvm.Cond.code ({ cls := "com/example/procurator/procurator/model/RelationGraph", name := "<init>", desc := "(Lcom/example/procurator/procurator/model/RelationGraph$Steps;)V" } : Jvm.MethodName) prog_72_method_1_code (2 : Nat) (Option.none : Option Jvm.ClassFile.FieldType)).before args0 about1 = true := code_word (m := ⟨3, 0⟩) (meth := k3m0) (c := k3c0) (by decide +kernel) rfl rfl rfl (by decide +kernel)
set_option maxRecDepth 65536 in
theorem w_c6 : (Jvm.Cond.code ({ cls := "com/example/procurator/procurator/model/RelationGraph$CircleWalk", name := "<init>", desc := "(Lcom/example/procurator/procurator/model/RelationGraph$Steps;)V" } : Jvm.MethodName) prog_73_method_1_code (3 : Nat) (Option.none : Option Jvm.ClassFile.FieldType)).before args0 about1 = true := code_word (m := ⟨4, 0⟩) (meth := k4m0) (c := k4c0) (by decide +kernel) rfl rfl rfl (by decide +kernel)
set_option maxRecDepth 65536 in
theorem w_c7 : (Jvm.Cond.code ({ cls := "com/example/procurator/procurator/model/RelationGraph$Steps", name := "relations", desc := "()I" } : Jvm.MethodName) prog_74_method_2_code (1 : Nat) (Option.some Jvm.ClassFile.FieldType.int)).before args0 about1 = true := code_word (m := ⟨2, 1⟩) (meth := k2m1) (c := k2c1) (by decide +kernel) rfl rfl rfl (by decide +kernel)
set_option maxRecDepth 65536 in
theorem w_c8 : (Jvm.Cond.code ({ cls := "com/example/procurator/procurator/model/RelationGraph$CircleWalk", name := "run", desc := "()[I" } : Jvm.MethodName) prog_73_method_2_code (2 : Nat) (Option.some (Jvm.ClassFile.FieldType.array Jvm.ClassFile.FieldType.int))).before args0 about1 = true := code_word (m := ⟨4, 1⟩) (meth := k4m1) (c := k4c1) (by decide +kernel) rfl rfl rfl (by decide +kernel)
set_option maxRecDepth 65536 in
theorem w_c9 : (Jvm.Cond.code ({ cls := "com/example/procurator/procurator/model/RelationGraph$CircleWalk", name := "enter", desc := "(I)V" } : Jvm.MethodName) prog_73_method_3_code (2 : Nat) (Option.none : Option Jvm.ClassFile.FieldType)).before args0 about1 = true := code_word (m := ⟨4, 2⟩) (meth := k4m2) (c := k4c2) (by decide +kernel) rfl rfl rfl (by decide +kernel)
set_option maxRecDepth 65536 in
theorem w_c10 : (Jvm.Cond.code ({ cls := "com/example/procurator/procurator/model/RelationGraph$CircleWalk", name := "follow", desc := "()V" } : Jvm.MethodName) prog_73_method_4_code (3 : Nat) (Option.none : Option Jvm.ClassFile.FieldType)).before args0 about1 = true := code_word (m := ⟨4, 3⟩) (meth := k4m3) (c := k4c3) (by decide +kernel) rfl rfl rfl (by decide +kernel)
set_option maxRecDepth 65536 in
theorem w_c11 : (Jvm.Cond.code ({ cls := "java/lang/Math", name := "min", desc := "(II)I" } : Jvm.MethodName) jdk_29_method_69_code (2 : Nat) (Option.some Jvm.ClassFile.FieldType.int)).before args0 about1 = true := code_word (m := ⟨5, 1⟩) (meth := k5m1) (c := k5c1) (by decide +kernel) rfl rfl rfl (by decide +kernel)
set_option maxRecDepth 65536 in
theorem w_c12 : (Jvm.Cond.code ({ cls := "com/example/procurator/procurator/model/RelationGraph$CircleWalk", name := "leave", desc := "(I)V" } : Jvm.MethodName) prog_73_method_5_code (3 : Nat) (Option.none : Option Jvm.ClassFile.FieldType)).before args0 about1 = true := code_word (m := ⟨4, 4⟩) (meth := k4m4) (c := k4c4) (by decide +kernel) rfl rfl rfl (by decide +kernel)
set_option maxRecDepth 65536 in
theorem w_c13 : (Jvm.Cond.code ({ cls := "com/example/procurator/procurator/model/RelationGraph", name := "inOneCircle", desc := "(II)Z" } : Jvm.MethodName) prog_72_method_2_code (3 : Nat) (Option.some Jvm.ClassFile.FieldType.boolean)).before args0 about1 = true := code_word (m := ⟨3, 1⟩) (meth := k3m1) (c := k3c1) (by decide +kernel) rfl rfl rfl (by decide +kernel)
set_option maxRecDepth 65536 in
theorem w_c14 : (Jvm.Cond.code ({ cls := "com/example/procurator/procurator/model/StepsNextPinLaw", name := "reach", desc := "([III)Z" } : Jvm.MethodName) method_2_code (4 : Nat) (Option.some Jvm.ClassFile.FieldType.boolean)).before args0 about1 = true := code_word (m := ⟨1, 1⟩) (meth := k1m1) (c := k1c1) (by decide +kernel) rfl rfl rfl (by decide +kernel)
def codes1 : List Jvm.Cond := [Jvm.Cond.code x code maxLocals ret, Jvm.Cond.code ({ cls := "com/example/procurator/procurator/model/RelationGraph$Steps", name := "<init>", desc := "(I)V" } : Jvm.MethodName) prog_74_method_1_code (2 : Nat) (Option.none : Option Jvm.ClassFile.FieldType), Jvm.Cond.code ({ cls := "java/lang/Object", name := "<init>", desc := "()V" } : Jvm.MethodName) object_method_1_code (1 : Nat) (Option.none : Option Jvm.ClassFile.FieldType), Jvm.Cond.code ({ cls := "com/example/procurator/procurator/model/RelationGraph$Steps", name := "next", desc := "()V" } : Jvm.MethodName) prog_74_method_3_code (1 : Nat) (Option.none : Option Jvm.ClassFile.FieldType), Jvm.Cond.code ({ cls := "com/example/procurator/procurator/model/RelationGraph$Steps", name := "add", desc := "(I)V" } : Jvm.MethodName) prog_74_method_4_code (2 : Nat) (Option.none : Option Jvm.ClassFile.FieldType), Jvm.Cond.code ({ cls := "com/example/procurator/procurator/model/RelationGraph", name := "<init>", desc := "(Lcom/example/procurator/procurator/model/RelationGraph$Steps;)V" } : Jvm.MethodName) prog_72_method_1_code (2 : Nat) (Option.none : Option Jvm.ClassFile.FieldType), Jvm.Cond.code ({ cls := "com/example/procurator/procurator/model/RelationGraph$CircleWalk", name := "<init>", desc := "(Lcom/example/procurator/procurator/model/RelationGraph$Steps;)V" } : Jvm.MethodName) prog_73_method_1_code (3 : Nat) (Option.none : Option Jvm.ClassFile.FieldType), Jvm.Cond.code ({ cls := "com/example/procurator/procurator/model/RelationGraph$Steps", name := "relations", desc := "()I" } : Jvm.MethodName) prog_74_method_2_code (1 : Nat) (Option.some Jvm.ClassFile.FieldType.int), Jvm.Cond.code ({ cls := "com/example/procurator/procurator/model/RelationGraph$CircleWalk", name := "run", desc := "()[I" } : Jvm.MethodName) prog_73_method_2_code (2 : Nat) (Option.some (Jvm.ClassFile.FieldType.array Jvm.ClassFile.FieldType.int)), Jvm.Cond.code ({ cls := "com/example/procurator/procurator/model/RelationGraph$CircleWalk", name := "enter", desc := "(I)V" } : Jvm.MethodName) prog_73_method_3_code (2 : Nat) (Option.none : Option Jvm.ClassFile.FieldType), Jvm.Cond.code ({ cls := "com/example/procurator/procurator/model/RelationGraph$CircleWalk", name := "follow", desc := "()V" } : Jvm.MethodName) prog_73_method_4_code (3 : Nat) (Option.none : Option Jvm.ClassFile.FieldType), Jvm.Cond.code ({ cls := "java/lang/Math", name := "min", desc := "(II)I" } : Jvm.MethodName) jdk_29_method_69_code (2 : Nat) (Option.some Jvm.ClassFile.FieldType.int), Jvm.Cond.code ({ cls := "com/example/procurator/procurator/model/RelationGraph$CircleWalk", name := "leave", desc := "(I)V" } : Jvm.MethodName) prog_73_method_5_code (3 : Nat) (Option.none : Option Jvm.ClassFile.FieldType), Jvm.Cond.code ({ cls := "com/example/procurator/procurator/model/RelationGraph", name := "inOneCircle", desc := "(II)Z" } : Jvm.MethodName) prog_72_method_2_code (3 : Nat) (Option.some Jvm.ClassFile.FieldType.boolean), Jvm.Cond.code ({ cls := "com/example/procurator/procurator/model/StepsNextPinLaw", name := "reach", desc := "([III)Z" } : Jvm.MethodName) method_2_code (4 : Nat) (Option.some Jvm.ClassFile.FieldType.boolean)]
set_option maxRecDepth 65536 in
theorem codes_eq : words1.filter isCode = codes1 := rfl
theorem w_codes : ∀ c ∈ words1.filter isCode, c.before args0 about1 = true := by
  rw [codes_eq]
  intro c hc
  simp only [codes1, List.mem_cons, List.not_mem_nil, or_false] at hc
  rcases hc with rfl | rfl | rfl | rfl | rfl | rfl | rfl | rfl | rfl | rfl | rfl | rfl | rfl | rfl | rfl
  · exact w_c0
  · exact w_c1
  · exact w_c2
  · exact w_c3
  · exact w_c4
  · exact w_c5
  · exact w_c6
  · exact w_c7
  · exact w_c8
  · exact w_c9
  · exact w_c10
  · exact w_c11
  · exact w_c12
  · exact w_c13
  · exact w_c14
set_option maxRecDepth 65536 in
theorem w_t1 : (words1.take 24).all (fun c => isCode c || c.before args0 about1) = true := by decide +kernel
set_option maxRecDepth 65536 in
theorem w_t2 : ((words1.drop 24).take 24).all (fun c => isCode c || c.before args0 about1) = true := by decide +kernel
set_option maxRecDepth 65536 in
theorem w_t3 : (((words1.drop 24).drop 24).take 24).all (fun c => isCode c || c.before args0 about1) = true := by decide +kernel
set_option maxRecDepth 65536 in
theorem w_t4 : ((((words1.drop 24).drop 24).drop 24).take 24).all (fun c => isCode c || c.before args0 about1) = true := by decide +kernel
set_option maxRecDepth 65536 in
theorem w_t5 : ((((words1.drop 24).drop 24).drop 24).drop 24).all (fun c => isCode c || c.before args0 about1) = true := by decide +kernel
theorem w_tables : (allAtoms (Jvm.Cond.code x code maxLocals ret :: tables_1)).before args0 about1 = true := by
  rw [allAtoms_all]
  show words1.all (fun c => c.before args0 about1) = true
  refine all_split ?_ w_codes
  rw [← List.take_append_drop 24 words1, List.all_append, w_t1, ← List.take_append_drop 24 (words1.drop 24), List.all_append, w_t2, ← List.take_append_drop 24 ((words1.drop 24).drop 24), List.all_append, w_t3, ← List.take_append_drop 24 (((words1.drop 24).drop 24).drop 24), List.all_append, w_t4, w_t5]
  rfl
set_option maxRecDepth 65536 in
theorem w_case : (Jvm.Cond.and given_1 narrow_1).before args0 about1 = true := by decide +kernel
theorem w_applies : (headSpec (Jvm.Cond.code x code maxLocals ret :: tables_1) room_1).applies x e0.platform about1 = true :=
  (Spec.applies_iff w_frames).mpr ⟨w_running, w_runnable, w_alone, w_named, w_hears, w_ripe, w_room, w_tables⟩
theorem atStart : AtStart classFile x code maxLocals ret World_1 tables_1 room_1 Calls_1 rest_1 Pre_1 launch0 p0 e0 about1 theMethod args0 below0 :=
  ⟨lists_1, trivial, launch0.admits_env _ _ _, launch0.least_env, fairChoices_fair.cas, fairChoices_fair.clock, w_frames, w_args, w_heap, w_applies, trivial, trivial, w_case⟩
end start1
theorem witness_1 : WitnessClaimed_1 := ⟨start1.p0, start1.e0, start1.about1, start1.theMethod, start1.args0, start1.below0, start1.atStart⟩
end Jvm.Pilot.@@N@@
