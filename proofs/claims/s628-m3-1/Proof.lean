import JvmDerived
import JvmDerived.Pilot.@@N@@Statement
import JvmDerived.Pilot.@@N@@Code
set_option linter.unusedVariables false
set_option linter.unusedSimpArgs false
namespace Jvm.RoadKit
open Sem ClassFile Op Lib Jvm.Stand Jvm.Free Jvm.LawKit
section Own
variable {p : Program} {l : Launch} {e : Env} {R : Room} {s : State} {m : MethodId} {args : Array Value} {below : List Frame} {meth : Method} {c : Code} {T T' : State} {locs : List Loc} {cells slots : Nat} {Z : State} {a0 : Array Value} {h : Heap} {Q : Option Value → Heap → List Loc → Prop} {kc ks : Nat}
/-- from here (state T, frame g) the body runs to its return, with Q of what it returns, the heap and the places written -/
def own_Go (p : Program) (e : Env) (s : State) (below : List Frame) (Q : Option Value → Heap → List Loc → Prop) (kc ks : Nat) (T : State) (g : JFrame) : Prop :=
  ∃ s₂ o, Steps p.tables e below (T.setTop g) s₂ ∧ s₂.status = .running ∧ Ended s₂ below o ∧ ∃ v L, o = .returned v ∧ Q v s₂.heap L ∧ FrameEnd s o s₂ L kc ks
theorem own_st {g g' : JFrame} (st : ∀ target, Steps p.tables e below (T'.setTop g') target → Steps p.tables e below (T.setTop g) target) (k : own_Go p e s below Q kc ks T' g') : own_Go p e s below Q kc ks T g := by
  obtain ⟨s₂, o, h1, r⟩ := k; exact ⟨s₂, o, st _ h1, r⟩
theorem own_sq {g g' : JFrame} {t : State} (st : Steps p.tables e below (T'.setTop g') t → Steps p.tables e below (T.setTop g) t) (k : Steps p.tables e below (T'.setTop g') t) : Steps p.tables e below (T.setTop g) t := st k
theorem own_cast {g g' : JFrame} (q : g = g') (k : own_Go p e s below Q kc ks T g') : own_Go p e s below Q kc ks T g := q ▸ k
theorem own_retI (X : Stand p l e R s m args below meth c T locs cells slots) (hx : p.tables.exec = Jvm.exec) (hlk : meth.locks = false) (hret : meth.sig.returnType = some .int) {pc : Nat} {Ls : Array Slot} {z : Int32} {rest : List Value} (hd : decode c.code pc = .ok (.ireturn, 1)) (hq : Q (some (.int z)) T.heap locs) (hc : cells ≤ kc) (hs : slots ≤ ks) : own_Go p e s below Q kc ks T (mkF m pc Ls (.int z :: rest)) := by
  obtain ⟨fs, hr, hrun, hended, hW, hsame⟩ := X.leave (v := some (.int z)) (fun h => by rw [hret] at h; cases h) hlk
  exact ⟨_, _, retOut X hx hret (by rfl) (Or.inl ⟨rfl, Or.inl rfl, z, rfl⟩) hd hr, hrun, hended, _, _, rfl, hq, ⟨_, rfl⟩, hW, hsame.mono hc hs⟩
theorem own_retN (X : Stand p l e R s m args below meth c T locs cells slots) (hx : p.tables.exec = Jvm.exec) (hlk : meth.locks = false) {t : FieldType} (hret : meth.sig.returnType = some t) (ht : t = .boolean ∨ t = .byte ∨ t = .char ∨ t = .short) {pc : Nat} {Ls : Array Slot} {z : Int32} {rest : List Value} (hd : decode c.code pc = .ok (.ireturn, 1)) (hq : Q (some (.int (nar t z))) T.heap locs) (hc : cells ≤ kc) (hs : slots ≤ ks) : own_Go p e s below Q kc ks T (mkF m pc Ls (.int z :: rest)) := by
  obtain ⟨fs, hr, hrun, hended, hW, hsame⟩ := X.leave (v := some (.int (nar t z))) (fun h => by rw [hret] at h; cases h) hlk
  exact ⟨_, _, retN X hx hret ht hd hr, hrun, hended, _, _, rfl, hq, ⟨_, rfl⟩, hW, hsame.mono hc hs⟩
theorem own_retJ (X : Stand p l e R s m args below meth c T locs cells slots) (hx : p.tables.exec = Jvm.exec) (hlk : meth.locks = false) (hret : meth.sig.returnType = some .long) {pc : Nat} {Ls : Array Slot} {z : Int64} {rest : List Value} (hd : decode c.code pc = .ok (.lreturn, 1)) (hq : Q (some (.long z)) T.heap locs) (hc : cells ≤ kc) (hs : slots ≤ ks) : own_Go p e s below Q kc ks T (mkF m pc Ls (.long z :: rest)) := by
  obtain ⟨fs, hr, hrun, hended, hW, hsame⟩ := X.leave (v := some (.long z)) (fun h => by rw [hret] at h; cases h) hlk
  exact ⟨_, _, retOut X hx hret (by rfl) (Or.inr (Or.inl ⟨rfl, rfl, z, rfl⟩)) hd hr, hrun, hended, _, _, rfl, hq, ⟨_, rfl⟩, hW, hsame.mono hc hs⟩
theorem own_retA (X : Stand p l e R s m args below meth c T locs cells slots) (hx : p.tables.exec = Jvm.exec) (hlk : meth.locks = false) {t : FieldType} (hret : meth.sig.returnType = some t) (ht : t.isReference = true) {pc : Nat} {Ls : Array Slot} {v : Value} {rest : List Value} (hv : v.isRef = true) (hd : decode c.code pc = .ok (.areturn, 1)) (hq : Q (some v) T.heap locs) (hc : cells ≤ kc) (hs : slots ≤ ks) : own_Go p e s below Q kc ks T (mkF m pc Ls (v :: rest)) := by
  obtain ⟨fs, hr, hrun, hended, hW, hsame⟩ := X.leave (v := some v) (fun h => by rw [hret] at h; cases h) hlk
  have hn : narrow t v = v := by cases v <;> first | (cases hv; done) | (cases t <;> first | (cases ht; done) | rfl)
  exact ⟨_, _, retOut X hx hret hn (Or.inr (Or.inr (Or.inr (Or.inr ⟨rfl, ht, hv⟩)))) hd hr, hrun, hended, _, _, rfl, hq, ⟨_, rfl⟩, hW, hsame.mono hc hs⟩
theorem own_retV (X : Stand p l e R s m args below meth c T locs cells slots) (hx : p.tables.exec = Jvm.exec) (hlk : meth.locks = false) (hret : meth.sig.returnType = none) {pc : Nat} {Ls : Array Slot} (hd : decode c.code pc = .ok (.return_, 1)) (hq : Q none T.heap locs) (hc : cells ≤ kc) (hs : slots ≤ ks) : own_Go p e s below Q kc ks T (mkF m pc Ls []) := by
  obtain ⟨fs, hr, hrun, hended, hW, hsame⟩ := X.leave (v := none) (fun _ => rfl) hlk
  exact ⟨_, _, X.returnOut hx hret hd hr, hrun, hended, _, _, rfl, hq, ⟨_, rfl⟩, hW, hsame.mono hc hs⟩
/-- a body's contract: entered with these arguments at the heap h0 it returns, with Q -/
def own_Met (l : Launch) (Z : State) (ws : List Cond) (y : MethodName) (bytes : ByteArray) (maxL : Nat) (ret : Option FieldType) (rm : Room) (kc ks : Nat) (as' : Array Value) (h0 : Heap) (Q : Option Value → Heap → List Loc → Prop) : Prop :=
  MetFree l y (head1 (Cond.code y bytes maxL ret :: ws) rm) (fun a U => a = as' ∧ Z.Warmed39 U.vm ∧ U.heap = h0) (fun _ _ _ _ _ => True) (fun _ U o U' => ∃ v L, o = .returned v ∧ Q v U'.heap L ∧ FrameEnd U o U' L kc ks)
theorem own_body {ws : List Cond} {y : MethodName} {bytes : ByteArray} {maxL : Nat} {ret : Option FieldType} {rm : Room} {as' : Array Value} {h0 : Heap} (pn : plainFor y = true)
    (body : ∀ (p : Program) (e : Env) (s : State) (m : MethodId) (below : List Frame) (meth : Method) (c : Code) (s₁ : State), p.tables.exec = Jvm.exec → c.code = bytes → c.maxLocals = maxL → s.vm.findClass y.cls = some m.cls → meth.name = y.name → meth.locks = false → meth.sig.returnType = ret → Z.Warmed39 s.vm → s.heap = h0 →
      Stand p l e rm s m as' below meth c s₁ [] 0 0 → s₁.heap = h0 → own_Go p e s below Q kc ks s₁ (entryFrame m as' maxL)) : own_Met l Z ws y bytes maxL ret rm kc ks as' h0 Q := by
  refine MetFree.of_bodySF pn hisR ?_
  intro p e s m args below meth c s₁ Bd hml0 hP hK
  obtain ⟨rfl, hZ, hh⟩ := hP
  exact body p e s m below meth c s₁ Bd.exec Bd.bytes hml0 (findClass_of_methodNamed Bd.named) (name_of_methodNamed Bd.named Bd.method).1 Bd.notSynchronized Bd.returns hZ hh (Stand.of_body Bd) (by rw [← hh, Bd.state]; rfl)
theorem own_callS (X : Stand p l e R s m args below meth c T locs cells slots) (hx : p.tables.exec = Jvm.exec) (hZ : Z.Warmed39 s.vm) {own : String} {index : Nat} {y : MethodName} {bytes : ByteArray} {maxL : Nat} {ret : Option FieldType}
    (hown : s.vm.findClass own = some m.cls) (w1 : (Cond.methodLink own index y).before a0 Z = true) (w2 : (Cond.static y).before a0 Z = true) (w3 : (Cond.initialized y.cls).before a0 Z = true) (w4 : (Cond.code y bytes maxL ret).before a0 Z = true)
    (hy : y.cls ≠ "java/lang/invoke/MethodHandle" ∧ y.cls ≠ "java/lang/invoke/VarHandle") {rm : Room} {W : Nat} {Qc : Option Value → Heap → List Loc → Prop} (eT : T.heap = h) {argsL rest : List Value}
    (hM : own_Met l Z [] y bytes maxL ret rm rm.cells rm.slots argsL.toArray h Qc) (hf : rm.frames + 1 ≤ R.frames) (hl : W + (maxL + 11) + rm.locals ≤ R.locals) (hcs : cells + rm.cells ≤ R.cells) (hss : slots + rm.slots ≤ R.slots)
    {g : JFrame} (hg : g.method = m) (hsize : g.locals.size = c.maxLocals) (hlen : ∀ sig, parseMethodDescriptor y.desc = some sig → argsL.length = sig.parameters.length) (hstack : g.stack = argsL.reverse ++ rest)
    (hW : 2 * g.monitorRoom + (rest.map fun v => v.category).sum ≤ W) (hdg : decode c.code g.pc = .ok (.invokestatic index, 3))
    (k : ∀ v T' L, Stand p l e R s m args below meth c T' (locs ++ L) (cells + rm.cells) (slots + rm.slots) → Qc v T'.heap L → own_Go p e s below Q kc ks T' { g with pc := g.pc + 3, stack := v.toList ++ rest }) : own_Go p e s below Q kc ks T g := by
  obtain ⟨v, _, ⟨T6, L6, k6, n6⟩, -, X6, ⟨Lc6, hQ6, l6, y6, z6⟩, st6⟩ := Jvm.LawKit.callS X hx (y := y) hown (mvT hZ w1) (mvT hZ w2) (mvT hZ w3) (mvT hZ w4) hy (backOf (W := W) hM hZ w4 w3 hf hl) hg hsize (argsL := argsL) (rest := rest) hlen hstack hW hdg (fun _ _ => ⟨rfl, eT, hcs, hss⟩)
  dsimp only [Pt.U, Pt.locs, Pt.cells, Pt.slots] at X6 l6 y6 z6 st6 hQ6
  subst l6 y6 z6
  exact own_st st6 (k v T6 Lc6 X6 hQ6)
theorem own_callV (X : Stand p l e R s m args below meth c T locs cells slots) (hx : p.tables.exec = Jvm.exec) (hZ : Z.Warmed39 s.vm) {own C : String} {index : Nat} {y : MethodName} {bytes : ByteArray} {maxL : Nat} {ret : Option FieldType}
    (hown : s.vm.findClass own = some m.cls) (w1 : (Cond.methodLink own index y).before a0 Z = true) (w2 : (Cond.declares y).before a0 Z = true) (w3 : (Cond.selects C y y).before a0 Z = true) (w4 : (Cond.instanceMethod y).before a0 Z = true) (w5 : (Cond.code y bytes maxL ret).before a0 Z = true) (w6 : (Cond.initialized y.cls).before a0 Z = true)
    (hy : y.cls ≠ "java/lang/invoke/MethodHandle" ∧ y.cls ≠ "java/lang/invoke/VarHandle") {rm : Room} {W : Nat} {Qc : Option Value → Heap → List Loc → Prop} (eT : T.heap = h) {b : Addr} (E : Exa Z h b C) {argsL rest : List Value}
    (hM : own_Met l Z [] y bytes maxL ret rm rm.cells rm.slots (.ref b :: argsL).toArray h Qc) (hf : rm.frames + 1 ≤ R.frames) (hl : W + (maxL + 11) + rm.locals ≤ R.locals) (hcs : cells + rm.cells ≤ R.cells) (hss : slots + rm.slots ≤ R.slots)
    {g : JFrame} (hg : g.method = m) (hsize : g.locals.size = c.maxLocals) (hlen : ∀ sig, parseMethodDescriptor y.desc = some sig → argsL.length = sig.parameters.length) (hstack : g.stack = argsL.reverse ++ .ref b :: rest)
    (hW : 2 * g.monitorRoom + (rest.map fun v => v.category).sum ≤ W) (hdg : decode c.code g.pc = .ok (.invokevirtual index, 3))
    (k : ∀ v T' L, Stand p l e R s m args below meth c T' (locs ++ L) (cells + rm.cells) (slots + rm.slots) → Qc v T'.heap L → own_Go p e s below Q kc ks T' { g with pc := g.pc + 3, stack := v.toList ++ rest }) : own_Go p e s below Q kc ks T g := by
  obtain ⟨cq, kq, qa, qb, qc⟩ := isOf hZ eT E
  obtain ⟨v, _, ⟨T6, L6, k6, n6⟩, -, X6, ⟨Lc6, hQ6, l6, y6, z6⟩, st6⟩ := X.virtualBack hx (y := y) (z := y) hown (mvT hZ w1) (mvT hZ w2) (notFace_of_selects (args := #[]) (mvT hZ w3)) (mvT hZ w3) (mvT hZ w4) hy (backOf (W := W) hM hZ w5 w6 hf hl) qa qc hg hsize (Steps.refl _) (argsL := argsL) (rest := rest) hlen hstack hW hdg (fun _ _ => ⟨rfl, eT, hcs, hss⟩)
  dsimp only [Pt.U, Pt.locs, Pt.cells, Pt.slots] at X6 l6 y6 z6 st6 hQ6
  subst l6 y6 z6
  exact own_st (fun _ q => st6.trans q) (k v T6 Lc6 X6 hQ6)
theorem own_callC (X : Stand p l e R s m args below meth c T locs cells slots) (hx : p.tables.exec = Jvm.exec) (hZ : Z.Warmed39 s.vm) {own : String} {index : Nat} {y : MethodName} {bytes : ByteArray} {maxL : Nat} (hy1 : y.name = "<init>")
    (hown : s.vm.findClass own = some m.cls) (w1 : (Cond.methodLink own index y).before a0 Z = true) (w2 : (Cond.instanceMethod y).before a0 Z = true) (w3 : (Cond.code y bytes maxL none).before a0 Z = true) (w4 : (Cond.initialized y.cls).before a0 Z = true)
    (hy : y.cls ≠ "java/lang/invoke/MethodHandle" ∧ y.cls ≠ "java/lang/invoke/VarHandle") {rm : Room} {W : Nat} {Qc : Option Value → Heap → List Loc → Prop} (eT : T.heap = h) {b : Addr} {argsL rest : List Value}
    (hM : own_Met l Z [] y bytes maxL none rm rm.cells rm.slots (.ref b :: argsL).toArray h Qc) (hf : rm.frames + 1 ≤ R.frames) (hl : W + (maxL + 11) + rm.locals ≤ R.locals) (hcs : cells + rm.cells ≤ R.cells) (hss : slots + rm.slots ≤ R.slots)
    {g : JFrame} (hg : g.method = m) (hsize : g.locals.size = c.maxLocals) (hlen : ∀ sig, parseMethodDescriptor y.desc = some sig → argsL.length = sig.parameters.length) (hstack : g.stack = argsL.reverse ++ .ref b :: rest)
    (hW : 2 * g.monitorRoom + (rest.map fun v => v.category).sum ≤ W) (hdg : decode c.code g.pc = .ok (.invokespecial index, 3))
    (k : ∀ v T' L, Stand p l e R s m args below meth c T' (locs ++ L) (cells + rm.cells) (slots + rm.slots) → Qc v T'.heap L → own_Go p e s below Q kc ks T' { g with pc := g.pc + 3, stack := v.toList ++ rest }) : own_Go p e s below Q kc ks T g := by
  obtain ⟨v, _, ⟨T6, L6, k6, n6⟩, -, X6, ⟨Lc6, hQ6, l6, y6, z6⟩, st6⟩ := X.specialBack hx (y := y) hy1 hown (mvT hZ w1) (mvT hZ w2) (mvT hZ w3) hy (backOf (W := W) hM hZ w3 w4 hf hl) hg hsize (Steps.refl _) (a := b) (argsL := argsL) (rest := rest) hlen hstack hW hdg (fun _ _ => ⟨rfl, eT, hcs, hss⟩)
  dsimp only [Pt.U, Pt.locs, Pt.cells, Pt.slots] at X6 l6 y6 z6 st6 hQ6
  subst l6 y6 z6
  exact own_st (fun _ q => st6.trans q) (k v T6 Lc6 X6 hQ6)
theorem own_callP (X : Stand p l e R s m args below meth c T locs cells slots) (hx : p.tables.exec = Jvm.exec) (hZ : Z.Warmed39 s.vm) {own : String} {index : Nat} {y : MethodName} {bytes : ByteArray} {maxL : Nat} {ret : Option FieldType}
    (hown : s.vm.findClass own = some m.cls) (w1 : (Cond.methodLink own index y).before a0 Z = true) (w2 : (Cond.instanceMethod y).before a0 Z = true) {kk : Nat} (w3 : (Cond.instantiable y.cls kk).before a0 Z = true) (w4 : (Cond.privateMethod y).before a0 Z = true) (w5 : (Cond.code y bytes maxL ret).before a0 Z = true) (w6 : (Cond.initialized y.cls).before a0 Z = true)
    (hy : y.cls ≠ "java/lang/invoke/MethodHandle" ∧ y.cls ≠ "java/lang/invoke/VarHandle") {rm : Room} {W : Nat} {Qc : Option Value → Heap → List Loc → Prop} (eT : T.heap = h) {b : Addr} {C : String} (E : Exa Z h b C) {argsL rest : List Value}
    (hM : own_Met l Z [] y bytes maxL ret rm rm.cells rm.slots (.ref b :: argsL).toArray h Qc) (hf : rm.frames + 1 ≤ R.frames) (hl : W + (maxL + 11) + rm.locals ≤ R.locals) (hcs : cells + rm.cells ≤ R.cells) (hss : slots + rm.slots ≤ R.slots)
    {g : JFrame} (hg : g.method = m) (hsize : g.locals.size = c.maxLocals) (hlen : ∀ sig, parseMethodDescriptor y.desc = some sig → argsL.length = sig.parameters.length) (hstack : g.stack = argsL.reverse ++ .ref b :: rest)
    (hW : 2 * g.monitorRoom + (rest.map fun v => v.category).sum ≤ W) (hdg : decode c.code g.pc = .ok (.invokevirtual index, 3))
    (k : ∀ v T' L, Stand p l e R s m args below meth c T' (locs ++ L) (cells + rm.cells) (slots + rm.slots) → Qc v T'.heap L → own_Go p e s below Q kc ks T' { g with pc := g.pc + 3, stack := v.toList ++ rest }) : own_Go p e s below Q kc ks T g := by
  obtain ⟨cq, q1, q2⟩ := E.cell
  have w3' : (Cond.instantiable y.cls kk).before args s = true := mvT hZ w3
  obtain ⟨c2, k2, i1, i2, i3, i4, -⟩ := Cond.instantiable_spec w3'
  have hsel : (Cond.selects y.cls y y).before args s = true := selects_self_of_private i1 i2 (Bool.or_eq_false_iff.mp i4).1 (Cond.privateMethod_at (mvP hZ w4 (args := #[]))) (mvT hZ w2) hy
  obtain ⟨v, _, ⟨T6, L6, k6, n6⟩, -, X6, ⟨Lc6, hQ6, l6, y6, z6⟩, st6⟩ := X.privateBack hx (y := y) hown (mvT hZ w1) (mvT hZ w2) hsel (Cond.privateMethod_at (mvP hZ w4 (args := #[]))) (mvT hZ w5) hy (backOf (W := W) hM hZ w5 w6 hf hl) hg hsize (Steps.refl _) (a := b) (by rw [eT]; exact q1) q2 (argsL := argsL) (rest := rest) hlen hstack hW hdg (fun _ _ => ⟨rfl, eT, hcs, hss⟩)
  dsimp only [Pt.U, Pt.locs, Pt.cells, Pt.slots] at X6 l6 y6 z6 st6 hQ6
  subst l6 y6 z6
  exact own_st (fun _ q => st6.trans q) (k v T6 Lc6 X6 hQ6)
end Own
end Jvm.RoadKit
namespace Jvm.RoadKit
open Sem ClassFile Op Lib Jvm.Stand Jvm.Free Jvm.LawKit
section OwnArr
variable {p : Program} {l : Launch} {e : Env} {R : Room} {s : State} {m : MethodId} {args : Array Value} {below : List Frame} {meth : Method} {c : Code} {T T' : State} {locs : List Loc} {cells slots : Nat} {Z : State} {a0 : Array Value} {h h' : Heap} {a b : Addr} {ty : FieldType} {n j : Int32} {f g : Int32 → Value} {v : Value} {sl : Nat} {ws : List Addr}
/-- an array: its kind, its length n, and what each place holds -/
def own_A (Z : State) (h : Heap) (a : Addr) (ty : FieldType) (n : Int32) (f : Int32 → Value) : Prop := ∃ c : Cell, Arr Z h a c ty ∧ c.slots.size = n.toNatClampNeg ∧ ¬ n < 0 ∧ ∀ j : Int32, ¬ j < 0 → j < n → c.slots[j.toNatClampNeg]? = some (f j)
theorem own_A.lt (F : own_A Z h a ty n f) : a < h.size := by obtain ⟨c, A, -⟩ := F; exact A.lt
theorem own_A.ext (E : Ext h h') (F : own_A Z h a ty n f) : own_A Z h' a ty n f := by obtain ⟨c, A, r⟩ := F; exact ⟨c, A.ext E, r⟩
theorem own_A.other (W : Wr h h' a sl v) (F : own_A Z h b ty n f) (q : b ≠ a) : own_A Z h' b ty n f := by obtain ⟨c, A, r⟩ := F; exact ⟨c, A.other W q, r⟩
theorem own_A.keep (K : Keep h h' ws) (F : own_A Z h a ty n f) (q : a ∉ ws) : own_A Z h' a ty n f := by obtain ⟨c, A, r⟩ := F; exact ⟨c, ⟨K.2.1 a c A.1 q, A.2⟩, r⟩
theorem own_A.congr (F : own_A Z h a ty n f) (q : ∀ j, ¬ j < 0 → j < n → f j = g j) : own_A Z h a ty n g := by obtain ⟨c, A, r1, r2, r3⟩ := F; exact ⟨c, A, r1, r2, fun j h1 h2 => by rw [← q j h1 h2]; exact r3 j h1 h2⟩
theorem own_A.new {k : ClassId} (A : Arr Z h a (newA k ty n) ty) (q : ¬ n < 0) : own_A Z h a ty n (fun _ => defaultValue ty) :=
  ⟨_, A, sz_new _ _ _, q, fun j h1 h2 => get_new (by
    have := inb_of (c := newA k ty n) (z := n) (j := j) (sz_new _ _ _) ⟨h1, h2⟩
    rw [sz_new] at this; exact this)⟩
theorem own_A.set {c : Cell} (A : Arr Z h a c ty) (S : c.slots.size = n.toNatClampNeg) (M : ¬ n < 0) (H : ∀ j : Int32, ¬ j < 0 → j < n → c.slots[j.toNatClampNeg]? = some (f j)) (q1 : ¬ j < 0) (q2 : j < n) (W : Wr h h' a j.toNatClampNeg v) : own_A Z h' a ty n (fun i => if i = j then v else f i) := by
  refine ⟨_, A.same W, by rw [sz_set]; exact S, M, fun i h1 h2 => ?_⟩
  show _ = some (if i = j then v else f i)
  by_cases u : i = j
  · rw [if_pos u]; exact get_hit (inb_of S ⟨q1, q2⟩) u
  · rw [if_neg u, get_miss q1 h1 u]; exact H i h1 h2
def own_up {α : Type} (f : Int32 → α) (j : Int32) (x : α) : Int32 → α := fun i => if i = j then x else f i
theorem own_A.upI {H : Int32 → Int32} {x : Int32} (F : own_A Z h a ty n (fun i => if i = j then (.int x) else (.int (H i)))) : own_A Z h a ty n (fun i => .int (own_up H j x i)) := F.congr fun i _ _ => by unfold own_up; split <;> rfl
theorem own_A.upJ {H : Int32 → Int64} {x : Int64} (F : own_A Z h a ty n (fun i => if i = j then (.long x) else (.long (H i)))) : own_A Z h a ty n (fun i => .long (own_up H j x i)) := F.congr fun i _ _ => by unfold own_up; split <;> rfl
end OwnArr
end Jvm.RoadKit
namespace Jvm.Pilot.@@N@@
open Jvm Jvm.ClassFile Sem Op Lib Jvm.Free Jvm.Stand Jvm.LawKit Jvm.RoadKit Bundle Jvm.Pilot.@@N@@.Jvm.D
theorem own_w {Z : State} {a0 : Array Value} (hw : ∀ d ∈ tables_1, d.before a0 Z = true) (i : Nat) {d : Jvm.Cond} (q : tables_1[i]? = some d) : d.before a0 Z = true := hw d (List.mem_of_getElem? q)
theorem own_pd0 : parseMethodDescriptor "(II)V" = some ⟨[.int, .int], none⟩ := by decide +kernel
theorem own_pd1 : parseMethodDescriptor "(I)V" = some ⟨[.int], none⟩ := by decide +kernel
theorem own_pd2 : parseMethodDescriptor "([II)V" = some ⟨[(.array .int), .int], none⟩ := by decide +kernel
theorem own_pd3 : parseMethodDescriptor "()V" = some ⟨[], none⟩ := by decide +kernel
theorem own_pd4 : parseMethodDescriptor "()Z" = some ⟨[], some .boolean⟩ := by decide +kernel
theorem own_pd5 : parseMethodDescriptor "(IJ)V" = some ⟨[.int, .long], none⟩ := by decide +kernel
theorem own_pd6 : parseMethodDescriptor "()I" = some ⟨[], some .int⟩ := by decide +kernel
theorem own_pd7 : parseMethodDescriptor "(Lcom/example/albatross/albatross/NodeQueue;[ZIJ)Z" = some ⟨[(.object "com/example/albatross/albatross/NodeQueue"), (.array .boolean), .int, .long], some .boolean⟩ := by decide +kernel
def own_NQ (Z : State) (h : Heap) (oq oh os ok : Addr) (fH fS : Int32 → Int32) (fK : Int32 → Int64) (z1 : Int32) : Prop :=
  Exa Z h oq "com/example/albatross/albatross/NodeQueue" ∧ Fld Z h oq "com/example/albatross/albatross/NodeQueue" "heap" "[I" (.ref oh) ∧ Fld Z h oq "com/example/albatross/albatross/NodeQueue" "slot" "[I" (.ref os) ∧ Fld Z h oq "com/example/albatross/albatross/NodeQueue" "key" "[J" (.ref ok) ∧ Fld Z h oq "com/example/albatross/albatross/NodeQueue" "size" "I" (.int z1) ∧ own_A Z h oh .int (3 : Int32) (fun i => (.int (fH i))) ∧ own_A Z h os .int (3 : Int32) (fun i => (.int (fS i))) ∧ own_A Z h ok .long (3 : Int32) (fun i => (.long (fK i)))
def own_Ds (n0 : Nat) (oq oh os ok : Addr) : Prop := n0 ≤ oq ∧ n0 ≤ oh ∧ n0 ≤ os ∧ n0 ≤ ok ∧ oq ≠ oh ∧ oq ≠ os ∧ oq ≠ ok ∧ oh ≠ os ∧ oh ≠ ok ∧ os ≠ ok
def own_su (j : Int32) (H S : Int32 → Int32) (K : Int32 → Int64) (H' S' : Int32 → Int32) : Prop :=
  (K (H j) < K (H 0) ∧ H' = own_up (own_up H j (H 0)) 0 (H j) ∧ S' = own_up (own_up S (H 0) j) (H j) 0) ∨ (¬ K (H j) < K (H 0) ∧ H' = own_up H j (H j) ∧ S' = own_up S (H j) j)
def own_sd (H S : Int32 → Int32) (K : Int32 → Int64) (H' S' : Int32 → Int32) : Prop :=
  (K (H 1) < K (H 0) ∧ H' = own_up (own_up H 0 (H 1)) 1 (H 0) ∧ S' = own_up (own_up S (H 1) 0) (H 0) 1) ∨ (¬ K (H 1) < K (H 0) ∧ H' = own_up H 0 (H 0) ∧ S' = own_up S (H 0) 0)
def own_ok (v : Int32) : Prop := v = 0 ∨ v = 1 ∨ v = 2
theorem own_ok0 {v : Int32} (h : own_ok v) : ¬ v < 0 := by rcases h with rfl | rfl | rfl <;> decide
theorem own_ok3 {v : Int32} (h : own_ok v) : v < 3 := by rcases h with rfl | rfl | rfl <;> decide
def own_I0 (H S : Int32 → Int32) (K : Int32 → Int64) : Prop := ∀ v, own_ok v → S v = -1
def own_I1 (H S : Int32 → Int32) (K : Int32 → Int64) : Prop := own_ok (H 0) ∧ S (H 0) = 0 ∧ ∀ v, own_ok v → v ≠ H 0 → S v = -1
def own_I2 (H S : Int32 → Int32) (K : Int32 → Int64) : Prop := own_ok (H 0) ∧ own_ok (H 1) ∧ H 0 ≠ H 1 ∧ S (H 0) = 0 ∧ S (H 1) = 1 ∧ (∀ v, own_ok v → v ≠ H 0 → v ≠ H 1 → S v = -1) ∧ ¬ K (H 1) < K (H 0)
def own_I3 (H S : Int32 → Int32) (K : Int32 → Int64) : Prop := own_ok (H 0) ∧ own_ok (H 1) ∧ own_ok (H 2) ∧ H 0 ≠ H 1 ∧ H 0 ≠ H 2 ∧ H 1 ≠ H 2 ∧ S (H 0) = 0 ∧ S (H 1) = 1 ∧ S (H 2) = 2 ∧ ¬ K (H 1) < K (H 0) ∧ ¬ K (H 2) < K (H 0)
def own_Inv (H S : Int32 → Int32) (K : Int32 → Int64) (z : Int32) : Prop := (z = 0 ∧ own_I0 H S K) ∨ (z = 1 ∧ own_I1 H S K) ∨ (z = 2 ∧ own_I2 H S K) ∨ (z = 3 ∧ own_I3 H S K)
theorem own_inv0 {H S : Int32 → Int32} {K : Int32 → Int64} (h : own_I0 H S K) : own_Inv H S K 0 := Or.inl ⟨rfl, h⟩
theorem own_inv1 {H S : Int32 → Int32} {K : Int32 → Int64} (h : own_I1 H S K) : own_Inv H S K 1 := Or.inr (Or.inl ⟨rfl, h⟩)
theorem own_inv2 {H S : Int32 → Int32} {K : Int32 → Int64} (h : own_I2 H S K) : own_Inv H S K 2 := Or.inr (Or.inr (Or.inl ⟨rfl, h⟩))
theorem own_inv3 {H S : Int32 → Int32} {K : Int32 → Int64} (h : own_I3 H S K) : own_Inv H S K 3 := Or.inr (Or.inr (Or.inr ⟨rfl, h⟩))
theorem own_cover {a b c p : Int32} (ha : own_ok a) (hb : own_ok b) (hc : own_ok c) (hp : own_ok p) (h1 : a ≠ b) (h2 : a ≠ c) (h3 : b ≠ c) : p = a ∨ p = b ∨ p = c := by
  rcases ha with rfl | rfl | rfl <;> rcases hb with rfl | rfl | rfl <;> rcases hc with rfl | rfl | rfl <;> rcases hp with rfl | rfl | rfl <;> revert h1 h2 h3 <;> decide
section
variable {H S H' S' : Int32 → Int32} {K : Int32 → Int64} {p : Int32} {k : Int64}
theorem own_r1 (h : own_I1 H S K) : own_ok (H 0) := h.1
theorem own_r2 (h : own_I2 H S K) : own_ok (H 0) := h.1
theorem own_r3 (h : own_I3 H S K) : own_ok (H 0) := h.1
theorem own_h1_0 (h : own_I1 H S K) : own_ok (H 0) := h.1
theorem own_h2_0 (h : own_I2 H S K) : own_ok (H 0) := h.1
theorem own_h2_1 (h : own_I2 H S K) : own_ok (H 1) := h.2.1
theorem own_h3_0 (h : own_I3 H S K) : own_ok (H 0) := h.1
theorem own_h3_1 (h : own_I3 H S K) : own_ok (H 1) := h.2.1
theorem own_h3_2 (h : own_I3 H S K) : own_ok (H 2) := h.2.2.1
theorem own_none (h : own_I0 H S K) (ho : own_ok p) (hn : ¬ S p < 0) : False := by rw [h p ho] at hn; exact hn (by decide)
theorem own_full (h : own_I3 H S K) (ho : own_ok p) (hn : S p < 0) : False := by
  obtain ⟨a, b, c, d1, d2, d3, s0, s1, s2, -, -⟩ := h
  rcases own_cover a b c ho d1 d2 d3 with rfl | rfl | rfl
  · rw [s0] at hn; exact absurd hn (by decide)
  · rw [s1] at hn; exact absurd hn (by decide)
  · rw [s2] at hn; exact absurd hn (by decide)
theorem own_at1 (h : own_I1 H S K) (ho : own_ok p) (hn : ¬ S p < 0) : p = H 0 := by
  by_cases e : p = H 0
  · exact e
  · rw [h.2.2 p ho e] at hn; exact absurd (by decide) hn
theorem own_at2 (h : own_I2 H S K) (ho : own_ok p) (hn : ¬ S p < 0) : p = H 0 ∨ p = H 1 := by
  by_cases e : p = H 0
  · exact Or.inl e
  by_cases e' : p = H 1
  · exact Or.inr e'
  · rw [h.2.2.2.2.2.1 p ho e e'] at hn; exact absurd (by decide) hn
theorem own_at3 (h : own_I3 H S K) (ho : own_ok p) : p = H 0 ∨ p = H 1 ∨ p = H 2 := own_cover h.1 h.2.1 h.2.2.1 ho h.2.2.2.1 h.2.2.2.2.1 h.2.2.2.2.2.1
theorem own_sl1 (h : own_I1 H S K) (ho : own_ok p) (hn : ¬ S p < 0) : S p = 0 := by rw [own_at1 h ho hn]; exact h.2.1
theorem own_sl2 (h : own_I2 H S K) (ho : own_ok p) (hn : ¬ S p < 0) : S p = 0 ∨ S p = 1 := by
  rcases own_at2 h ho hn with rfl | rfl
  · exact Or.inl h.2.2.2.1
  · exact Or.inr h.2.2.2.2.1
theorem own_sl3 (h : own_I3 H S K) (ho : own_ok p) (hn : ¬ S p < 0) : S p = 0 ∨ S p = 1 ∨ S p = 2 := by
  rcases own_at3 h ho with rfl | rfl | rfl
  · exact Or.inl h.2.2.2.2.2.2.1
  · exact Or.inr (Or.inl h.2.2.2.2.2.2.2.1)
  · exact Or.inr (Or.inr h.2.2.2.2.2.2.2.2.1)
def own_Off (S : Int32 → Int32) (K : Int32 → Int64) (p : Int32) (k : Int64) (H' S' : Int32 → Int32) (K' : Int32 → Int64) (z' : Int32) : Prop :=
  own_Inv H' S' K' z' ∧ (∀ v, own_ok v → (S' v < 0 ↔ (S v < 0 ∧ v ≠ p))) ∧ (∀ v, v ≠ p → K' v = K v) ∧ (S p < 0 → K' p = k)
def own_Pol (S : Int32 → Int32) (K : Int32 → Int64) (f : Int32) (H' S' : Int32 → Int32) (z' : Int32) : Prop :=
  own_ok f ∧ ¬ S f < 0 ∧ (∀ v, own_ok v → ¬ S v < 0 → ¬ K v < K f) ∧ own_Inv H' S' K z' ∧ (∀ v, own_ok v → (S' v < 0 ↔ (S v < 0 ∨ v = f)))
end
section
variable {H S H' S' : Int32 → Int32} {K : Int32 → Int64} {p z : Int32} {k : Int64}
theorem own_up_eq {α : Type} (f : Int32 → α) (j : Int32) (x : α) : own_up f j x j = x := by simp [own_up]
theorem own_up_ne {α : Type} (f : Int32 → α) {j i : Int32} (x : α) (h : i ≠ j) : own_up f j x i = f i := by simp [own_up, h]
theorem own_nlt {x y : Int64} (h : x < y) : ¬ y < x := by rw [Int64.lt_iff_toInt_lt] at *; omega
theorem own_trans {x y w : Int64} (h : x < y) (h' : ¬ w < y) : ¬ w < x := by rw [Int64.lt_iff_toInt_lt] at *; omega
theorem own_irr (x : Int64) : ¬ x < x := by rw [Int64.lt_iff_toInt_lt]; omega
theorem own_offN (h : own_Inv H S K z) (ho : own_ok p) (hn : ¬ S p < 0) : own_Off S K p k H S K z :=
  ⟨h, fun v _ => ⟨fun q => ⟨q, fun e => hn (e ▸ q)⟩, fun q => q.1⟩, fun _ _ => rfl, fun q => absurd q hn⟩
/-- who is in: p now, and whoever was -/
theorem own_eff (K' : Int32 → Int64) (hK' : K' = own_up K p k) (hI : own_Inv H' S' K' z) (h1 : ¬ S' p < 0) (h2 : ∀ v, own_ok v → v ≠ p → (S' v < 0 ↔ S v < 0)) : own_Off S K p k H' S' K' z := by
  subst hK'
  refine ⟨hI, fun v hv => ?_, fun v q => own_up_ne _ _ q, fun _ => own_up_eq _ _ _⟩
  by_cases e : v = p
  · subst e; exact ⟨fun q => absurd q h1, fun q => absurd rfl q.2⟩
  · rw [h2 v hv e]; exact ⟨fun q => ⟨q, e⟩, fun q => q.1⟩
theorem own_offA0 (h : own_I0 H S K) (ho : own_ok p) (hn : S p < 0) : own_Off S K p k (own_up (own_up H 0 p) 0 ((own_up H 0 p) 0)) (own_up (own_up S p 0) ((own_up H 0 p) 0) 0) (own_up K p k) 1 := by
  rw [own_up_eq]
  refine own_eff _ rfl (own_inv1 ⟨?_, ?_, ?_⟩) ?_ ?_
  · rw [own_up_eq]; exact ho
  · rw [own_up_eq, own_up_eq]
  · intro v hv ne; rw [own_up_eq] at ne; rw [own_up_ne _ _ ne, own_up_ne _ _ ne]; exact h v hv
  · rw [own_up_eq]; decide
  · intro v hv ne; rw [own_up_ne _ _ ne, own_up_ne _ _ ne]
theorem own_offA1 (h : own_I1 H S K) (ho : own_ok p) (hn : S p < 0) (hs : own_su 1 (own_up H 1 p) (own_up S p 1) (own_up K p k) H' S') : own_Off S K p k H' S' (own_up K p k) 2 := by
  obtain ⟨o0, s0, r⟩ := h
  have ne : p ≠ H 0 := by intro e; rw [e, s0] at hn; exact absurd hn (by decide)
  have e0 : own_up H 1 p 0 = H 0 := own_up_ne _ _ (by decide)
  unfold own_su at hs; rw [own_up_eq, e0] at hs
  rcases hs with ⟨hk, rfl, rfl⟩ | ⟨hk, rfl, rfl⟩
  · have a0 : own_up (own_up (own_up H 1 p) 1 (H 0)) 0 p 0 = p := own_up_eq _ _ _
    have a1 : own_up (own_up (own_up H 1 p) 1 (H 0)) 0 p 1 = H 0 := by rw [own_up_ne _ _ (by decide), own_up_eq]
    refine own_eff _ rfl (own_inv2 ?_) ?_ ?_
    · refine ⟨?_, ?_, ?_, ?_, ?_, ?_, ?_⟩
      · rw [a0]; exact ho
      · rw [a1]; exact o0
      · rw [a0, a1]; exact ne
      · rw [a0, own_up_eq]
      · rw [a1, own_up_ne _ _ (Ne.symm ne), own_up_eq]
      · intro v hv q1 q2; rw [a0] at q1; rw [a1] at q2; rw [own_up_ne _ _ q1, own_up_ne _ _ q2, own_up_ne _ _ q1]; exact r v hv q2
      · rw [a0, a1]; exact own_nlt hk
    · rw [own_up_eq]; decide
    · intro v hv q; rw [own_up_ne _ _ q]
      by_cases u : v = H 0
      · subst u; rw [own_up_eq, s0]; decide
      · rw [own_up_ne _ _ u, own_up_ne _ _ q]
  · have a0 : own_up (own_up H 1 p) 1 p 0 = H 0 := by rw [own_up_ne _ _ (by decide), own_up_ne _ _ (by decide)]
    have a1 : own_up (own_up H 1 p) 1 p 1 = p := own_up_eq _ _ _
    refine own_eff _ rfl (own_inv2 ?_) ?_ ?_
    · refine ⟨?_, ?_, ?_, ?_, ?_, ?_, ?_⟩
      · rw [a0]; exact o0
      · rw [a1]; exact ho
      · rw [a0, a1]; exact Ne.symm ne
      · rw [a0, own_up_ne _ _ (Ne.symm ne), own_up_ne _ _ (Ne.symm ne)]; exact s0
      · rw [a1, own_up_eq]
      · intro v hv q1 q2; rw [a0] at q1; rw [a1] at q2; rw [own_up_ne _ _ q2, own_up_ne _ _ q2]; exact r v hv q1
      · rw [a0, a1]; exact hk
    · rw [own_up_eq]; decide
    · intro v hv q; rw [own_up_ne _ _ q, own_up_ne _ _ q]
end
section
variable {H S H' S' : Int32 → Int32} {K : Int32 → Int64} {p z : Int32} {k : Int64}
theorem own_up_self {α : Type} (f : Int32 → α) (j : Int32) : own_up f j (f j) = f := by funext i; unfold own_up; split <;> simp_all
theorem own_up_id {α : Type} (f : Int32 → α) (j : Int32) (x : α) (h : f j = x) : own_up f j x = f := by rw [← h]; exact own_up_self f j
theorem own_up_up {α : Type} (f : Int32 → α) (j : Int32) (x y : α) : own_up (own_up f j x) j y = own_up f j y := by funext i; unfold own_up; split <;> rfl
theorem own_offA2 (h : own_I2 H S K) (ho : own_ok p) (hn : S p < 0) (hs : own_su 2 (own_up H 2 p) (own_up S p 2) (own_up K p k) H' S') : own_Off S K p k H' S' (own_up K p k) 3 := by
  obtain ⟨o0, o1, d, s0, s1, r, ord⟩ := h
  have n0 : p ≠ H 0 := by intro e; rw [e, s0] at hn; exact absurd hn (by decide)
  have n1 : p ≠ H 1 := by intro e; rw [e, s1] at hn; exact absurd hn (by decide)
  have e0 : own_up H 2 p 0 = H 0 := own_up_ne _ _ (by decide)
  unfold own_su at hs; rw [own_up_eq, e0] at hs
  rcases hs with ⟨hk, rfl, rfl⟩ | ⟨hk, rfl, rfl⟩
  · have a0 : own_up (own_up (own_up H 2 p) 2 (H 0)) 0 p 0 = p := own_up_eq _ _ _
    have a1 : own_up (own_up (own_up H 2 p) 2 (H 0)) 0 p 1 = H 1 := by rw [own_up_ne _ _ (by decide), own_up_ne _ _ (by decide), own_up_ne _ _ (by decide)]
    have a2 : own_up (own_up (own_up H 2 p) 2 (H 0)) 0 p 2 = H 0 := by rw [own_up_ne _ _ (by decide), own_up_eq]
    refine own_eff _ rfl (own_inv3 ?_) ?_ ?_
    · unfold own_I3; rw [a0, a1, a2]
      refine ⟨ho, o1, o0, n1, n0, Ne.symm d, own_up_eq _ _ _, ?_, ?_, ?_, own_nlt hk⟩
      · rw [own_up_ne _ _ (Ne.symm n1), own_up_ne _ _ (Ne.symm d), own_up_ne _ _ (Ne.symm n1)]; exact s1
      · rw [own_up_ne _ _ (Ne.symm n0), own_up_eq]
      · refine own_trans hk ?_; rw [own_up_ne _ _ (Ne.symm n1), own_up_ne _ _ (Ne.symm n0)]; exact ord
    · rw [own_up_eq]; decide
    · intro v hv q; rw [own_up_ne _ _ q]
      by_cases u : v = H 0
      · subst u; rw [own_up_eq, s0]; decide
      · rw [own_up_ne _ _ u, own_up_ne _ _ q]
  · rw [own_up_up, own_up_up]
    have a0 : own_up H 2 p 0 = H 0 := own_up_ne _ _ (by decide)
    have a1 : own_up H 2 p 1 = H 1 := own_up_ne _ _ (by decide)
    have a2 : own_up H 2 p 2 = p := own_up_eq _ _ _
    refine own_eff _ rfl (own_inv3 ?_) ?_ ?_
    · unfold own_I3; rw [a0, a1, a2]
      refine ⟨o0, o1, ho, d, Ne.symm n0, Ne.symm n1, ?_, ?_, own_up_eq _ _ _, ?_, hk⟩
      · rw [own_up_ne _ _ (Ne.symm n0)]; exact s0
      · rw [own_up_ne _ _ (Ne.symm n1)]; exact s1
      · rw [own_up_ne _ _ (Ne.symm n1), own_up_ne _ _ (Ne.symm n0)]; exact ord
    · rw [own_up_eq]; decide
    · intro v hv q; rw [own_up_ne _ _ q]
/-- the root's key lowered: the order stands -/
theorem own_low {w : Int32} (hq : k < K p) (ord : ¬ K w < K p) (ne : w ≠ p) : ¬ own_up K p k w < own_up K p k p := by rw [own_up_eq, own_up_ne _ _ ne]; exact own_trans hq ord
theorem own_sne {a b : Int32} (h : S p = a) (h' : S z = b) (ne : a ≠ b) : p ≠ z := by intro e; subst e; exact ne (h.symm.trans h')
theorem own_offB1_0 (h : own_I1 H S K) (ho : own_ok p) (hsv : S p = 0) (hq : k < K p) : own_Off S K p k (own_up H 0 (H 0)) (own_up S (H 0) 0) (own_up K p k) 1 := by
  have e : p = H 0 := own_at1 h ho (by rw [hsv]; decide)
  subst e
  rw [own_up_self, own_up_id S _ _ h.2.1]
  exact own_eff _ rfl (own_inv1 ⟨h.1, h.2.1, h.2.2⟩) (by rw [hsv]; decide) (fun v _ _ => Iff.rfl)
theorem own_offB2_0 (h : own_I2 H S K) (ho : own_ok p) (hsv : S p = 0) (hq : k < K p) : own_Off S K p k (own_up H 0 (H 0)) (own_up S (H 0) 0) (own_up K p k) 2 := by
  have e : p = H 0 := (own_at2 h ho (by rw [hsv]; decide)).resolve_right (own_sne hsv h.2.2.2.2.1 (by decide))
  obtain ⟨o0, o1, d, s0, s1, r, ord⟩ := h
  subst e
  rw [own_up_self, own_up_id S _ _ s0]
  exact own_eff _ rfl (own_inv2 ⟨o0, o1, d, s0, s1, r, own_low hq ord (Ne.symm d)⟩) (by rw [hsv]; decide) (fun v _ _ => Iff.rfl)
theorem own_offB3_0 (h : own_I3 H S K) (ho : own_ok p) (hsv : S p = 0) (hq : k < K p) : own_Off S K p k (own_up H 0 (H 0)) (own_up S (H 0) 0) (own_up K p k) 3 := by
  have e : p = H 0 := (own_at3 h ho).resolve_right (fun q => q.elim (own_sne hsv h.2.2.2.2.2.2.2.1 (by decide)) (own_sne hsv h.2.2.2.2.2.2.2.2.1 (by decide)))
  obtain ⟨o0, o1, o2, d1, d2, d3, s0, s1, s2, r1, r2⟩ := h
  subst e
  rw [own_up_self, own_up_id S _ _ s0]
  exact own_eff _ rfl (own_inv3 ⟨o0, o1, o2, d1, d2, d3, s0, s1, s2, own_low hq r1 (Ne.symm d1), own_low hq r2 (Ne.symm d2)⟩) (by rw [hsv]; decide) (fun v _ _ => Iff.rfl)
theorem own_offB2_1 (h : own_I2 H S K) (ho : own_ok p) (hsv : S p = 1) (hq : k < K p) (hs : own_su 1 H S (own_up K p k) H' S') : own_Off S K p k H' S' (own_up K p k) 2 := by
  have e : p = H 1 := (own_at2 h ho (by rw [hsv]; decide)).resolve_left (own_sne hsv h.2.2.2.1 (by decide))
  obtain ⟨o0, o1, d, s0, s1, r, ord⟩ := h
  subst e
  unfold own_su at hs
  rcases hs with ⟨hk, rfl, rfl⟩ | ⟨hk, rfl, rfl⟩
  · have a0 : own_up (own_up H 1 (H 0)) 0 (H 1) 0 = H 1 := own_up_eq _ _ _
    have a1 : own_up (own_up H 1 (H 0)) 0 (H 1) 1 = H 0 := by rw [own_up_ne _ _ (by decide), own_up_eq]
    refine own_eff _ rfl (own_inv2 ?_) ?_ ?_
    · unfold own_I2; rw [a0, a1]
      refine ⟨o1, o0, Ne.symm d, own_up_eq _ _ _, ?_, ?_, own_nlt hk⟩
      · rw [own_up_ne _ _ d, own_up_eq]
      · intro v hv q1 q2; rw [own_up_ne _ _ q1, own_up_ne _ _ q2]; exact r v hv q2 q1
    · rw [own_up_eq]; decide
    · intro v hv q; rw [own_up_ne _ _ q]
      by_cases u : v = H 0
      · subst u; rw [own_up_eq, s0]; decide
      · rw [own_up_ne _ _ u]
  · rw [own_up_self, own_up_id S _ _ s1]
    exact own_eff _ rfl (own_inv2 ⟨o0, o1, d, s0, s1, r, hk⟩) (by rw [hsv]; decide) (fun v _ _ => Iff.rfl)
theorem own_offB3_1 (h : own_I3 H S K) (ho : own_ok p) (hsv : S p = 1) (hq : k < K p) (hs : own_su 1 H S (own_up K p k) H' S') : own_Off S K p k H' S' (own_up K p k) 3 := by
  have e : p = H 1 := by
    rcases own_at3 h ho with q | q | q
    · exact absurd q (own_sne hsv h.2.2.2.2.2.2.1 (by decide))
    · exact q
    · exact absurd q (own_sne hsv h.2.2.2.2.2.2.2.2.1 (by decide))
  obtain ⟨o0, o1, o2, d1, d2, d3, s0, s1, s2, r1, r2⟩ := h
  subst e
  unfold own_su at hs
  rcases hs with ⟨hk, rfl, rfl⟩ | ⟨hk, rfl, rfl⟩
  · have a0 : own_up (own_up H 1 (H 0)) 0 (H 1) 0 = H 1 := own_up_eq _ _ _
    have a1 : own_up (own_up H 1 (H 0)) 0 (H 1) 1 = H 0 := by rw [own_up_ne _ _ (by decide), own_up_eq]
    have a2 : own_up (own_up H 1 (H 0)) 0 (H 1) 2 = H 2 := by rw [own_up_ne _ _ (by decide), own_up_ne _ _ (by decide)]
    refine own_eff _ rfl (own_inv3 ?_) ?_ ?_
    · unfold own_I3; rw [a0, a1, a2]
      refine ⟨o1, o0, o2, Ne.symm d1, d3, d2, own_up_eq _ _ _, ?_, ?_, own_nlt hk, ?_⟩
      · rw [own_up_ne _ _ d1, own_up_eq]
      · rw [own_up_ne _ _ (Ne.symm d3), own_up_ne _ _ (Ne.symm d2)]; exact s2
      · refine own_trans hk ?_; rw [own_up_ne _ _ (Ne.symm d3), own_up_ne _ _ d1]; exact r2
    · rw [own_up_eq]; decide
    · intro v hv q; rw [own_up_ne _ _ q]
      by_cases u : v = H 0
      · subst u; rw [own_up_eq, s0]; decide
      · rw [own_up_ne _ _ u]
  · rw [own_up_self, own_up_id S _ _ s1]
    refine own_eff _ rfl (own_inv3 ⟨o0, o1, o2, d1, d2, d3, s0, s1, s2, hk, ?_⟩) (by rw [hsv]; decide) (fun v _ _ => Iff.rfl)
    rw [own_up_ne _ _ (Ne.symm d3), own_up_ne _ _ d1]; exact r2
theorem own_offB3_2 (h : own_I3 H S K) (ho : own_ok p) (hsv : S p = 2) (hq : k < K p) (hs : own_su 2 H S (own_up K p k) H' S') : own_Off S K p k H' S' (own_up K p k) 3 := by
  have e : p = H 2 := by
    rcases own_at3 h ho with q | q | q
    · exact absurd q (own_sne hsv h.2.2.2.2.2.2.1 (by decide))
    · exact absurd q (own_sne hsv h.2.2.2.2.2.2.2.1 (by decide))
    · exact q
  obtain ⟨o0, o1, o2, d1, d2, d3, s0, s1, s2, r1, r2⟩ := h
  subst e
  unfold own_su at hs
  rcases hs with ⟨hk, rfl, rfl⟩ | ⟨hk, rfl, rfl⟩
  · have a0 : own_up (own_up H 2 (H 0)) 0 (H 2) 0 = H 2 := own_up_eq _ _ _
    have a1 : own_up (own_up H 2 (H 0)) 0 (H 2) 1 = H 1 := by rw [own_up_ne _ _ (by decide), own_up_ne _ _ (by decide)]
    have a2 : own_up (own_up H 2 (H 0)) 0 (H 2) 2 = H 0 := by rw [own_up_ne _ _ (by decide), own_up_eq]
    refine own_eff _ rfl (own_inv3 ?_) ?_ ?_
    · unfold own_I3; rw [a0, a1, a2]
      refine ⟨o2, o1, o0, Ne.symm d3, Ne.symm d2, Ne.symm d1, own_up_eq _ _ _, ?_, ?_, ?_, own_nlt hk⟩
      · rw [own_up_ne _ _ d3, own_up_ne _ _ (Ne.symm d1)]; exact s1
      · rw [own_up_ne _ _ d2, own_up_eq]
      · refine own_trans hk ?_; rw [own_up_ne _ _ d3, own_up_ne _ _ d2]; exact r1
    · rw [own_up_eq]; decide
    · intro v hv q; rw [own_up_ne _ _ q]
      by_cases u : v = H 0
      · subst u; rw [own_up_eq, s0]; decide
      · rw [own_up_ne _ _ u]
  · rw [own_up_self, own_up_id S _ _ s2]
    refine own_eff _ rfl (own_inv3 ⟨o0, o1, o2, d1, d2, d3, s0, s1, s2, ?_, hk⟩) (by rw [hsv]; decide) (fun v _ _ => Iff.rfl)
    rw [own_up_ne _ _ d3, own_up_ne _ _ d2]; exact r1
/-- poll -/
theorem own_pe {f : Int32} (hf : own_ok f) (hs : S f = 0) (hm : ∀ v, own_ok v → ¬ S v < 0 → ¬ K v < K f) (hI : own_Inv H' S' K z) (h1 : S' f < 0) (h2 : ∀ v, own_ok v → v ≠ f → (S' v < 0 ↔ S v < 0)) : own_Pol S K f H' S' z := by
  refine ⟨hf, by rw [hs]; decide, hm, hI, fun v hv => ?_⟩
  by_cases e : v = f
  · subst e; exact ⟨fun _ => Or.inr rfl, fun _ => h1⟩
  · rw [h2 v hv e]; exact ⟨Or.inl, fun q => q.elim id (fun u => absurd u e)⟩
theorem own_pol1 (h : own_I1 H S K) : own_Pol S K (H 0) H (own_up S (H 0) (-1)) 0 := by
  obtain ⟨o0, s0, r⟩ := id h
  refine own_pe o0 s0 ?_ (own_inv0 ?_) (by rw [own_up_eq]; decide) (fun v hv q => by rw [own_up_ne _ _ q])
  · intro v hv q; rw [own_at1 h hv q]; exact own_irr _
  · intro v hv
    by_cases e : v = H 0
    · subst e; exact own_up_eq _ _ _
    · rw [own_up_ne _ _ e]; exact r v hv e
theorem own_pol2 (h : own_I2 H S K) : own_Pol S K (H 0) (own_up (own_up H 0 (H 1)) 0 ((own_up H 0 (H 1)) 0)) (own_up (own_up (own_up S (H 0) (-1)) (H 1) 0) ((own_up H 0 (H 1)) 0) 0) 1 := by
  obtain ⟨o0, o1, d, s0, s1, r, ord⟩ := id h
  rw [own_up_self, own_up_eq, own_up_up]
  refine own_pe o0 s0 ?_ (own_inv1 ?_) (by rw [own_up_ne _ _ d, own_up_eq]; decide) (fun v hv q => ?_)
  · intro v hv q; rcases own_at2 h hv q with rfl | rfl
    · exact own_irr _
    · exact ord
  · unfold own_I1; rw [own_up_eq]
    refine ⟨o1, own_up_eq _ _ _, fun v hv q => ?_⟩
    rw [own_up_ne _ _ q]
    by_cases e : v = H 0
    · subst e; exact own_up_eq _ _ _
    · rw [own_up_ne _ _ e]; exact r v hv e q
  · by_cases e : v = H 1
    · subst e; rw [own_up_eq, s1]; decide
    · rw [own_up_ne _ _ e, own_up_ne _ _ q]
theorem own_pol3 (h : own_I3 H S K) (hs : own_sd (own_up H 0 (H 2)) (own_up (own_up S (H 0) (-1)) (H 2) 0) K H' S') : own_Pol S K (H 0) H' S' 2 := by
  obtain ⟨o0, o1, o2, d1, d2, d3, s0, s1, s2, r1, r2⟩ := id h
  have hm : ∀ v, own_ok v → ¬ S v < 0 → ¬ K v < K (H 0) := by
    intro v hv q; rcases own_at3 h hv with rfl | rfl | rfl
    · exact own_irr _
    · exact r1
    · exact r2
  have e1 : own_up H 0 (H 2) 1 = H 1 := own_up_ne _ _ (by decide)
  unfold own_sd at hs; rw [own_up_eq, e1] at hs
  rcases hs with ⟨hk, rfl, rfl⟩ | ⟨hk, rfl, rfl⟩
  · have a0 : own_up (own_up (own_up H 0 (H 2)) 0 (H 1)) 1 (H 2) 0 = H 1 := by rw [own_up_ne _ _ (by decide), own_up_eq]
    have a1 : own_up (own_up (own_up H 0 (H 2)) 0 (H 1)) 1 (H 2) 1 = H 2 := own_up_eq _ _ _
    refine own_pe o0 s0 hm (own_inv2 ?_) ?_ ?_
    · unfold own_I2; rw [a0, a1]
      refine ⟨o1, o2, d3, ?_, own_up_eq _ _ _, ?_, own_nlt hk⟩
      · rw [own_up_ne _ _ d3, own_up_eq]
      · intro v hv q1 q2
        have e : v = H 0 := (own_at3 h hv).resolve_right (fun u => u.elim q1 q2)
        subst e; rw [own_up_ne _ _ d2, own_up_ne _ _ d1, own_up_ne _ _ d2, own_up_eq]
    · rw [own_up_ne _ _ d2, own_up_ne _ _ d1, own_up_ne _ _ d2, own_up_eq]; decide
    · intro v hv q
      rcases own_at3 h hv with e | e | e
      · exact absurd e q
      · subst e; rw [own_up_ne _ _ d3, own_up_eq, s1]; decide
      · subst e; rw [own_up_eq, s2]; decide
  · rw [own_up_up, own_up_up]
    have a0 : own_up H 0 (H 2) 0 = H 2 := own_up_eq _ _ _
    refine own_pe o0 s0 hm (own_inv2 ?_) ?_ ?_
    · unfold own_I2; rw [a0, e1]
      refine ⟨o2, o1, Ne.symm d3, own_up_eq _ _ _, ?_, ?_, hk⟩
      · rw [own_up_ne _ _ d3, own_up_ne _ _ (Ne.symm d1)]; exact s1
      · intro v hv q1 q2
        have e : v = H 0 := (own_at3 h hv).resolve_right (fun u => u.elim q2 q1)
        subst e; rw [own_up_ne _ _ d2, own_up_eq]
    · rw [own_up_ne _ _ d2, own_up_eq]; decide
    · intro v hv q
      rcases own_at3 h hv with e | e | e
      · exact absurd e q
      · subst e; rw [own_up_ne _ _ d3, own_up_ne _ _ (Ne.symm d1)]
      · subst e; rw [own_up_eq, s2]; decide
theorem own_clr0 (h : own_I0 H S K) : own_I0 H S K := h
theorem own_clr1 (h : own_I1 H S K) : own_I0 H (own_up S (H 0) (-1)) K := by
  intro v hv
  by_cases e : v = H 0
  · subst e; exact own_up_eq _ _ _
  · rw [own_up_ne _ _ e]; exact h.2.2 v hv e
theorem own_clr2 (h : own_I2 H S K) : own_I0 H (own_up (own_up S (H 0) (-1)) (H 1) (-1)) K := by
  intro v hv
  by_cases e1 : v = H 1
  · subst e1; exact own_up_eq _ _ _
  by_cases e : v = H 0
  · subst e; rw [own_up_ne _ _ e1, own_up_eq]
  · rw [own_up_ne _ _ e1, own_up_ne _ _ e]; exact h.2.2.2.2.2.1 v hv e e1
theorem own_clr3 (h : own_I3 H S K) : own_I0 H (own_up (own_up (own_up S (H 0) (-1)) (H 1) (-1)) (H 2) (-1)) K := by
  intro v hv
  by_cases e2 : v = H 2
  · subst e2; exact own_up_eq _ _ _
  by_cases e1 : v = H 1
  · subst e1; rw [own_up_ne _ _ e2, own_up_eq]
  rcases own_at3 h hv with e | e | e
  · subst e; rw [own_up_ne _ _ e2, own_up_ne _ _ e1, own_up_eq]
  · exact absurd e e1
  · exact absurd e e2
end
section
variable {H S H' S' B : Int32 → Int32} {K K' : Int32 → Int64} {p f z z' : Int32} {k : Int64}
theorem own_k0 : own_ok 0 := Or.inl rfl
theorem own_k1 : own_ok 1 := Or.inr (Or.inl rfl)
theorem own_k2 : own_ok 2 := Or.inr (Or.inr rfl)
theorem own_z0 (hI : own_Inv H S K z) : z = 0 ↔ (S 0 < 0 ∧ S 1 < 0 ∧ S 2 < 0) := by
  have no : ∀ v, own_ok v → ¬ S v < 0 → ¬ (S 0 < 0 ∧ S 1 < 0 ∧ S 2 < 0) := by
    rintro v (rfl | rfl | rfl) h ⟨a, b, c⟩
    · exact h a
    · exact h b
    · exact h c
  rcases hI with ⟨rfl, h⟩ | ⟨rfl, h⟩ | ⟨rfl, h⟩ | ⟨rfl, h⟩
  · refine ⟨fun _ => ?_, fun _ => rfl⟩
    rw [h 0 own_k0, h 1 own_k1, h 2 own_k2]; decide
  · exact ⟨fun q => absurd q (by decide), fun q => absurd q (no _ h.1 (by rw [h.2.1]; decide))⟩
  · exact ⟨fun q => absurd q (by decide), fun q => absurd q (no _ h.1 (by rw [h.2.2.2.1]; decide))⟩
  · exact ⟨fun q => absurd q (by decide), fun q => absurd q (no _ h.1 (by rw [h.2.2.2.2.2.2.1]; decide))⟩
end
theorem dpl_0 : decode prog_51_method_8_code 0 = .ok (.aload_n 0, 1) := by decide +kernel
theorem dpl_1 : decode prog_51_method_8_code 1 = .ok (.getfield 7, 3) := by decide +kernel
theorem dpl_4 : decode prog_51_method_8_code 4 = .ok (.iload_n 2, 1) := by decide +kernel
theorem dpl_5 : decode prog_51_method_8_code 5 = .ok (.iload_n 1, 1) := by decide +kernel
theorem dpl_6 : decode prog_51_method_8_code 6 = .ok (.iastore, 1) := by decide +kernel
theorem dpl_7 : decode prog_51_method_8_code 7 = .ok (.aload_n 0, 1) := by decide +kernel
theorem dpl_8 : decode prog_51_method_8_code 8 = .ok (.getfield 13, 3) := by decide +kernel
theorem dpl_11 : decode prog_51_method_8_code 11 = .ok (.iload_n 1, 1) := by decide +kernel
theorem dpl_12 : decode prog_51_method_8_code 12 = .ok (.iload_n 2, 1) := by decide +kernel
theorem dpl_13 : decode prog_51_method_8_code 13 = .ok (.iastore, 1) := by decide +kernel
theorem dpl_14 : decode prog_51_method_8_code 14 = .ok (.return_, 1) := by decide +kernel
theorem pn_pl : plainName "com/example/albatross/albatross/NodeQueue" = true := by first | (simp [plainName, overriddenIn]; done) | decide +kernel
theorem ef_pl (m : MethodId) (x0 : Addr) (x1 : Int32) (x2 : Int32) : entryFrame m #[(.ref x0), (.int x1), (.int x2)] 3 = mkF m 0 #[.val (.ref x0), .val (.int x1), .val (.int x2)] [] := by first | (simp [entryFrame, mkF, argsToLocals, Value.category]; done) | rfl
set_option maxRecDepth 65536 in
set_option maxHeartbeats 40000000 in
theorem rmpl (l : Launch) (Z : State) (a0 : Array Value) (hw : ∀ d ∈ tables_1, d.before a0 Z = true) (ws : List Jvm.Cond) (oq oh os ok : Addr) (fH fS : Int32 → Int32) (fK : Int32 → Int64) (z1 p1 p2 : Int32) (h0 : Heap) (n0 : Nat) (Z0 : n0 ≤ h0.size) (hd : own_Ds n0 oq oh os ok) (hq : own_NQ Z h0 oq oh os ok fH fS fK z1) (hb1 : ¬ p1 < 0) (hb2 : p1 < 3) (hb3 : ¬ p2 < 0) (hb4 : p2 < 3) :
    own_Met l Z ws (⟨"com/example/albatross/albatross/NodeQueue", "place", "(II)V"⟩ : MethodName) prog_51_method_8_code 3 none ({ frames := 0, cells := 0, slots := 0, locals := 0 } : Room) ({ frames := 0, cells := 0, slots := 0, locals := 0 } : Room).cells ({ frames := 0, cells := 0, slots := 0, locals := 0 } : Room).slots #[(.ref oq), (.int p1), (.int p2)] h0 (fun v h L => v = none ∧ Fr n0 L ∧ Keep h0 h [oq, oh, os, ok] ∧ own_NQ Z h oq oh os ok (own_up fH p2 p1) (own_up fS p1 p2) fK z1) := by
  refine own_body (plainFor_of_name pn_pl) ?_
  intro p e s m below meth c s₁ hx hby hml hown hnm hlk hret hZ hh X0 e0
  have N0 := Fr.nil n0
  have hd0 := hd
  obtain ⟨G_q, G_h, G_s, G_k, D1, D2, D3, D4, D5, D6⟩ := hd
  obtain ⟨E_0, Fh_0, Fs_0, Fk_0, Fz_0, Ah_0, As_0, Ak_0⟩ := hq
  refine own_cast (ef_pl m oq p1 p2) ?_
  refine own_st (T' := s₁) (g' := (mkF m 1 #[.val (.ref oq), .val (.int p1), .val (.int p2)] [(.ref oq)])) (fun _ k => XS.aloadN X0.here hx rfl (hb hby dpl_0) rfl rfl k) ?_
  obtain ⟨T1, X1, e1, st1⟩ := getF X0 hx hZ hown (host := "") (Or.inl (own_w hw 10 rfl)) Via.refl e0 Fh_0 (g := (mkF m 1 #[.val (.ref oq), .val (.int p1), .val (.int p2)] [(.ref oq)])) rfl rfl (hb hby dpl_1)
  refine own_st (g' := (mkF m 4 #[.val (.ref oq), .val (.int p1), .val (.int p2)] [(.ref oh)])) st1 ?_
  refine own_st (T' := T1) (g' := (mkF m 5 #[.val (.ref oq), .val (.int p1), .val (.int p2)] [(.int p2), (.ref oh)])) (fun _ k => XS.iloadN X1.here hx rfl (hb hby dpl_4) rfl k) ?_
  refine own_st (T' := T1) (g' := (mkF m 6 #[.val (.ref oq), .val (.int p1), .val (.int p2)] [(.int p1), (.int p2), (.ref oh)])) (fun _ k => XS.iloadN X1.here hx rfl (hb hby dpl_5) rfl k) ?_
  obtain ⟨cl2, Ar2, S2, M2, H2⟩ := id Ah_0
  obtain ⟨T2, h2, X2, e2, W2, st2⟩ := stI X1 hx hZ e1 Ar2 (j := p2) (inb_of S2 ⟨hb3, hb4⟩) (g := (mkF m 6 #[.val (.ref oq), .val (.int p1), .val (.int p2)] [(.int p1), (.int p2), (.ref oh)])) rfl rfl (hb hby dpl_6)
  have V2 : own_A Z h2 oh .int (3 : Int32) (fun i => (.int ((own_up fH p2 p1) i))) := (own_A.set Ar2 S2 M2 H2 hb3 hb4 W2).upI
  have N2 := Fr.snoc X2 N0 G_h
  refine own_st (g' := (mkF m 7 #[.val (.ref oq), .val (.int p1), .val (.int p2)] [])) st2 ?_
  refine own_st (T' := T2) (g' := (mkF m 8 #[.val (.ref oq), .val (.int p1), .val (.int p2)] [(.ref oq)])) (fun _ k => XS.aloadN X2.here hx rfl (hb hby dpl_7) rfl rfl k) ?_
  obtain ⟨T3, X3, e3, st3⟩ := getF X2 hx hZ hown (host := "") (Or.inl (own_w hw 12 rfl)) Via.refl e2 (Fs_0.other W2 (Or.inl D1)) (g := (mkF m 8 #[.val (.ref oq), .val (.int p1), .val (.int p2)] [(.ref oq)])) rfl rfl (hb hby dpl_8)
  refine own_st (g' := (mkF m 11 #[.val (.ref oq), .val (.int p1), .val (.int p2)] [(.ref os)])) st3 ?_
  refine own_st (T' := T3) (g' := (mkF m 12 #[.val (.ref oq), .val (.int p1), .val (.int p2)] [(.int p1), (.ref os)])) (fun _ k => XS.iloadN X3.here hx rfl (hb hby dpl_11) rfl k) ?_
  refine own_st (T' := T3) (g' := (mkF m 13 #[.val (.ref oq), .val (.int p1), .val (.int p2)] [(.int p2), (.int p1), (.ref os)])) (fun _ k => XS.iloadN X3.here hx rfl (hb hby dpl_12) rfl k) ?_
  obtain ⟨cl4, Ar4, S4, M4, H4⟩ := id (As_0.other W2 (Ne.symm D4))
  obtain ⟨T4, h4, X4, e4, W4, st4⟩ := stI X3 hx hZ e3 Ar4 (j := p1) (inb_of S4 ⟨hb1, hb2⟩) (g := (mkF m 13 #[.val (.ref oq), .val (.int p1), .val (.int p2)] [(.int p2), (.int p1), (.ref os)])) rfl rfl (hb hby dpl_13)
  have V4 : own_A Z h4 os .int (3 : Int32) (fun i => (.int ((own_up fS p1 p2) i))) := (own_A.set Ar4 S4 M4 H4 hb1 hb2 W4).upI
  have N4 := Fr.snoc X4 N2 G_s
  refine own_st (g' := (mkF m 14 #[.val (.ref oq), .val (.int p1), .val (.int p2)] [])) st4 ?_
  exact own_retV X4 hx hlk hret (hb hby dpl_14) (by rw [e4]; exact ⟨rfl, N4, (((Keep.refl h0 [oq, oh, os, ok]).wr W2 (Or.inl (by simp))).wr W4 (Or.inl (by simp))), ⟨((E_0.wr W2).wr W4), ((Fh_0.other W2 (Or.inl D1)).other W4 (Or.inl D2)), ((Fs_0.other W2 (Or.inl D1)).other W4 (Or.inl D2)), ((Fk_0.other W2 (Or.inl D1)).other W4 (Or.inl D2)), ((Fz_0.other W2 (Or.inl D1)).other W4 (Or.inl D2)), (V2.other W4 D4), V4, ((Ak_0.other W2 (Ne.symm D5)).other W4 (Ne.symm D6))⟩⟩) (by decide) (by decide)
theorem dsu0_0 : decode prog_51_method_6_code 0 = .ok (.aload_n 0, 1) := by decide +kernel
theorem dsu0_1 : decode prog_51_method_6_code 1 = .ok (.getfield 7, 3) := by decide +kernel
theorem dsu0_4 : decode prog_51_method_6_code 4 = .ok (.iload_n 1, 1) := by decide +kernel
theorem dsu0_5 : decode prog_51_method_6_code 5 = .ok (.iaload, 1) := by decide +kernel
theorem dsu0_6 : decode prog_51_method_6_code 6 = .ok (.istore_n 2, 1) := by decide +kernel
theorem dsu0_7 : decode prog_51_method_6_code 7 = .ok (.iload_n 1, 1) := by decide +kernel
theorem dsu0_8 : decode prog_51_method_6_code 8 = .ok (.ifCond .le 52, 3) := by decide +kernel
theorem dsu0_60 : decode prog_51_method_6_code 60 = .ok (.aload_n 0, 1) := by decide +kernel
theorem dsu0_61 : decode prog_51_method_6_code 61 = .ok (.iload_n 2, 1) := by decide +kernel
theorem dsu0_62 : decode prog_51_method_6_code 62 = .ok (.iload_n 1, 1) := by decide +kernel
theorem dsu0_63 : decode prog_51_method_6_code 63 = .ok (.invokevirtual 34, 3) := by decide +kernel
theorem dsu0_66 : decode prog_51_method_6_code 66 = .ok (.return_, 1) := by decide +kernel
theorem pn_su0 : plainName "com/example/albatross/albatross/NodeQueue" = true := by first | (simp [plainName, overriddenIn]; done) | decide +kernel
theorem ef_su0 (m : MethodId) (x0 : Addr) (x1 : Int32) : entryFrame m #[(.ref x0), (.int x1)] 3 = mkF m 0 #[.val (.ref x0), .val (.int x1), .unset] [] := by first | (simp [entryFrame, mkF, argsToLocals, Value.category]; done) | rfl
set_option maxRecDepth 65536 in
set_option maxHeartbeats 40000000 in
theorem rmsu0 (l : Launch) (Z : State) (a0 : Array Value) (hw : ∀ d ∈ tables_1, d.before a0 Z = true) (ws : List Jvm.Cond) (oq oh os ok : Addr) (fH fS : Int32 → Int32) (fK : Int32 → Int64) (z1 : Int32) (h0 : Heap) (n0 : Nat) (Z0 : n0 ≤ h0.size) (hd : own_Ds n0 oq oh os ok) (hq : own_NQ Z h0 oq oh os ok fH fS fK z1) (hb1 : ¬ (fH (0 : Int32)) < 0) (hb2 : (fH (0 : Int32)) < 3) :
    own_Met l Z ws (⟨"com/example/albatross/albatross/NodeQueue", "siftUp", "(I)V"⟩ : MethodName) prog_51_method_6_code 3 none ({ frames := 1, cells := 0, slots := 0, locals := 14 } : Room) ({ frames := 1, cells := 0, slots := 0, locals := 14 } : Room).cells ({ frames := 1, cells := 0, slots := 0, locals := 14 } : Room).slots #[(.ref oq), (.int (0 : Int32))] h0 (fun v h L => v = none ∧ Fr n0 L ∧ Keep h0 h [oq, oh, os, ok] ∧ (own_NQ Z h oq oh os ok (own_up fH (0 : Int32) (fH (0 : Int32))) (own_up fS (fH (0 : Int32)) (0 : Int32)) fK z1)) := by
  refine own_body (plainFor_of_name pn_su0) ?_
  intro p e s m below meth c s₁ hx hby hml hown hnm hlk hret hZ hh X0 e0
  have N0 := Fr.nil n0
  have hd0 := hd
  obtain ⟨G_q, G_h, G_s, G_k, D1, D2, D3, D4, D5, D6⟩ := hd
  obtain ⟨E_0, Fh_0, Fs_0, Fk_0, Fz_0, Ah_0, As_0, Ak_0⟩ := hq
  refine own_cast (ef_su0 m oq (0 : Int32)) ?_
  refine own_st (T' := s₁) (g' := (mkF m 1 #[.val (.ref oq), .val (.int (0 : Int32)), .unset] [(.ref oq)])) (fun _ k => XS.aloadN X0.here hx rfl (hb hby dsu0_0) rfl rfl k) ?_
  obtain ⟨T1, X1, e1, st1⟩ := getF X0 hx hZ hown (host := "") (Or.inl (own_w hw 10 rfl)) Via.refl e0 Fh_0 (g := (mkF m 1 #[.val (.ref oq), .val (.int (0 : Int32)), .unset] [(.ref oq)])) rfl rfl (hb hby dsu0_1)
  refine own_st (g' := (mkF m 4 #[.val (.ref oq), .val (.int (0 : Int32)), .unset] [(.ref oh)])) st1 ?_
  refine own_st (T' := T1) (g' := (mkF m 5 #[.val (.ref oq), .val (.int (0 : Int32)), .unset] [(.int (0 : Int32)), (.ref oh)])) (fun _ k => XS.iloadN X1.here hx rfl (hb hby dsu0_4) rfl k) ?_
  obtain ⟨cl2, Ar2, S2, M2, H2⟩ := id Ah_0
  refine own_st (T' := T1) (g' := (mkF m 6 #[.val (.ref oq), .val (.int (0 : Int32)), .unset] [(.int (fH (0 : Int32)))])) (fun _ k => X1.iaload hx (j := (0 : Int32)) (v := (.int (fH (0 : Int32)))) (by rw [e1]; exact Ar2.1) (State.isArrayOf_alike hZ.alike Ar2.2.1) Ar2.2.2 (inb_of S2 ⟨(by decide), (by decide)⟩) (H2 _ (by decide) (by decide)) (g := (mkF m 5 #[.val (.ref oq), .val (.int (0 : Int32)), .unset] [(.int (0 : Int32)), (.ref oh)])) rfl rfl (hb hby dsu0_5) _ k) ?_
  refine own_st (T' := T1) (g' := (mkF m 7 #[.val (.ref oq), .val (.int (0 : Int32)), .val (.int (fH (0 : Int32)))] [])) (fun _ k => XS.istoreN X1.here hx rfl (hb hby dsu0_6) rfl (l' := #[.val (.ref oq), .val (.int (0 : Int32)), .val (.int (fH (0 : Int32)))]) rfl k) ?_
  refine own_st (T' := T1) (g' := (mkF m 8 #[.val (.ref oq), .val (.int (0 : Int32)), .val (.int (fH (0 : Int32)))] [(.int (0 : Int32))])) (fun _ k => XS.iloadN X1.here hx rfl (hb hby dsu0_7) rfl k) ?_
  refine own_st (T' := T1) (g' := (mkF m 60 #[.val (.ref oq), .val (.int (0 : Int32)), .val (.int (fH (0 : Int32)))] [])) (fun _ k => XS.ifYes X1.here hx rfl (pc0 := 8) (pc' := 60) rfl (hb hby dsu0_8) rfl ((if0 _ _).trans (flt (by decide : ¬ ((0 : Int32) < (0 : Int32)))).2.2.2) (by decide) (by decide) k) ?_
  refine own_st (T' := T1) (g' := (mkF m 61 #[.val (.ref oq), .val (.int (0 : Int32)), .val (.int (fH (0 : Int32)))] [(.ref oq)])) (fun _ k => XS.aloadN X1.here hx rfl (hb hby dsu0_60) rfl rfl k) ?_
  refine own_st (T' := T1) (g' := (mkF m 62 #[.val (.ref oq), .val (.int (0 : Int32)), .val (.int (fH (0 : Int32)))] [(.int (fH (0 : Int32))), (.ref oq)])) (fun _ k => XS.iloadN X1.here hx rfl (hb hby dsu0_61) rfl k) ?_
  refine own_st (T' := T1) (g' := (mkF m 63 #[.val (.ref oq), .val (.int (0 : Int32)), .val (.int (fH (0 : Int32)))] [(.int (0 : Int32)), (.int (fH (0 : Int32))), (.ref oq)])) (fun _ k => XS.iloadN X1.here hx rfl (hb hby dsu0_62) rfl k) ?_
  refine own_callP X1 hx hZ (y := (⟨"com/example/albatross/albatross/NodeQueue", "place", "(II)V"⟩ : MethodName)) hown (own_w hw 42 rfl) (own_w hw 43 rfl) (own_w hw 1 rfl) (own_w hw 44 rfl) (own_w hw 45 rfl) (own_w hw 2 rfl) (by decide) (W := 0) e1 (b := oq) E_0 (argsL := [(.int (fH (0 : Int32))), (.int (0 : Int32))]) (rest := []) (rmpl l Z a0 hw [] oq oh os ok fH fS fK z1 (fH (0 : Int32)) (0 : Int32) h0 n0 Z0 hd0 (show own_NQ Z h0 oq oh os ok fH fS fK z1 from ⟨E_0, Fh_0, Fs_0, Fk_0, Fz_0, Ah_0, As_0, Ak_0⟩) hb1 hb2 (by decide) (by decide)) (by decide) (by decide) (by decide) (by decide) (g := (mkF m 63 #[.val (.ref oq), .val (.int (0 : Int32)), .val (.int (fH (0 : Int32)))] [(.int (0 : Int32)), (.int (fH (0 : Int32))), (.ref oq)])) rfl (by rw [hml]; rfl) (lenOf own_pd0 rfl) rfl (by show 2 * 0 + _ ≤ _; exact Nat.le_of_eq rfl) (hb hby dsu0_63) ?_
  rintro _ T3 L3 X3 ⟨rfl, N3q, K3, hq_3⟩
  show own_Go _ _ _ _ _ _ _ T3 (mkF m 66 #[.val (.ref oq), .val (.int (0 : Int32)), .val (.int (fH (0 : Int32)))] [])
  have N3 := Fr.app N0 N3q
  obtain ⟨E_3, Fh_3, Fs_3, Fk_3, Fz_3, Ah_3, As_3, Ak_3⟩ := hq_3
  exact own_retV X3 hx hlk hret (hb hby dsu0_66) ⟨rfl, N3, ((Keep.refl h0 [oq, oh, os, ok]).trans K3 (fun x hx => Or.inl hx)), ⟨E_3, Fh_3, Fs_3, Fk_3, Fz_3, Ah_3, As_3, Ak_3⟩⟩ (by decide) (by decide)
theorem dsu1_0 : decode prog_51_method_6_code 0 = .ok (.aload_n 0, 1) := by decide +kernel
theorem dsu1_1 : decode prog_51_method_6_code 1 = .ok (.getfield 7, 3) := by decide +kernel
theorem dsu1_4 : decode prog_51_method_6_code 4 = .ok (.iload_n 1, 1) := by decide +kernel
theorem dsu1_5 : decode prog_51_method_6_code 5 = .ok (.iaload, 1) := by decide +kernel
theorem dsu1_6 : decode prog_51_method_6_code 6 = .ok (.istore_n 2, 1) := by decide +kernel
theorem dsu1_7 : decode prog_51_method_6_code 7 = .ok (.iload_n 1, 1) := by decide +kernel
theorem dsu1_8 : decode prog_51_method_6_code 8 = .ok (.ifCond .le 52, 3) := by decide +kernel
theorem dsu1_11 : decode prog_51_method_6_code 11 = .ok (.aload_n 0, 1) := by decide +kernel
theorem dsu1_12 : decode prog_51_method_6_code 12 = .ok (.getfield 16, 3) := by decide +kernel
theorem dsu1_15 : decode prog_51_method_6_code 15 = .ok (.aload_n 0, 1) := by decide +kernel
theorem dsu1_16 : decode prog_51_method_6_code 16 = .ok (.getfield 7, 3) := by decide +kernel
theorem dsu1_19 : decode prog_51_method_6_code 19 = .ok (.iload_n 1, 1) := by decide +kernel
theorem dsu1_20 : decode prog_51_method_6_code 20 = .ok (.iconst 1, 1) := by decide +kernel
theorem dsu1_21 : decode prog_51_method_6_code 21 = .ok (.isub, 1) := by decide +kernel
theorem dsu1_22 : decode prog_51_method_6_code 22 = .ok (.iconst 2, 1) := by decide +kernel
theorem dsu1_23 : decode prog_51_method_6_code 23 = .ok (.idiv, 1) := by decide +kernel
theorem dsu1_24 : decode prog_51_method_6_code 24 = .ok (.iaload, 1) := by decide +kernel
theorem dsu1_25 : decode prog_51_method_6_code 25 = .ok (.laload, 1) := by decide +kernel
theorem dsu1_26 : decode prog_51_method_6_code 26 = .ok (.aload_n 0, 1) := by decide +kernel
theorem dsu1_27 : decode prog_51_method_6_code 27 = .ok (.getfield 16, 3) := by decide +kernel
theorem dsu1_30 : decode prog_51_method_6_code 30 = .ok (.iload_n 2, 1) := by decide +kernel
theorem dsu1_31 : decode prog_51_method_6_code 31 = .ok (.laload, 1) := by decide +kernel
theorem dsu1_32 : decode prog_51_method_6_code 32 = .ok (.lcmp, 1) := by decide +kernel
theorem dsu1_33 : decode prog_51_method_6_code 33 = .ok (.ifCond .le 27, 3) := by decide +kernel
theorem dsu1_36 : decode prog_51_method_6_code 36 = .ok (.aload_n 0, 1) := by decide +kernel
theorem dsu1_37 : decode prog_51_method_6_code 37 = .ok (.aload_n 0, 1) := by decide +kernel
theorem dsu1_38 : decode prog_51_method_6_code 38 = .ok (.getfield 7, 3) := by decide +kernel
theorem dsu1_41 : decode prog_51_method_6_code 41 = .ok (.iload_n 1, 1) := by decide +kernel
theorem dsu1_42 : decode prog_51_method_6_code 42 = .ok (.iconst 1, 1) := by decide +kernel
theorem dsu1_43 : decode prog_51_method_6_code 43 = .ok (.isub, 1) := by decide +kernel
theorem dsu1_44 : decode prog_51_method_6_code 44 = .ok (.iconst 2, 1) := by decide +kernel
theorem dsu1_45 : decode prog_51_method_6_code 45 = .ok (.idiv, 1) := by decide +kernel
theorem dsu1_46 : decode prog_51_method_6_code 46 = .ok (.iaload, 1) := by decide +kernel
theorem dsu1_47 : decode prog_51_method_6_code 47 = .ok (.iload_n 1, 1) := by decide +kernel
theorem dsu1_48 : decode prog_51_method_6_code 48 = .ok (.invokevirtual 34, 3) := by decide +kernel
theorem dsu1_51 : decode prog_51_method_6_code 51 = .ok (.iload_n 1, 1) := by decide +kernel
theorem dsu1_52 : decode prog_51_method_6_code 52 = .ok (.iconst 1, 1) := by decide +kernel
theorem dsu1_53 : decode prog_51_method_6_code 53 = .ok (.isub, 1) := by decide +kernel
theorem dsu1_54 : decode prog_51_method_6_code 54 = .ok (.iconst 2, 1) := by decide +kernel
theorem dsu1_55 : decode prog_51_method_6_code 55 = .ok (.idiv, 1) := by decide +kernel
theorem dsu1_56 : decode prog_51_method_6_code 56 = .ok (.istore_n 1, 1) := by decide +kernel
theorem dsu1_57 : decode prog_51_method_6_code 57 = .ok (.goto (-50), 3) := by decide +kernel
theorem dsu1_60 : decode prog_51_method_6_code 60 = .ok (.aload_n 0, 1) := by decide +kernel
theorem dsu1_61 : decode prog_51_method_6_code 61 = .ok (.iload_n 2, 1) := by decide +kernel
theorem dsu1_62 : decode prog_51_method_6_code 62 = .ok (.iload_n 1, 1) := by decide +kernel
theorem dsu1_63 : decode prog_51_method_6_code 63 = .ok (.invokevirtual 34, 3) := by decide +kernel
theorem dsu1_66 : decode prog_51_method_6_code 66 = .ok (.return_, 1) := by decide +kernel
theorem pn_su1 : plainName "com/example/albatross/albatross/NodeQueue" = true := by first | (simp [plainName, overriddenIn]; done) | decide +kernel
theorem ef_su1 (m : MethodId) (x0 : Addr) (x1 : Int32) : entryFrame m #[(.ref x0), (.int x1)] 3 = mkF m 0 #[.val (.ref x0), .val (.int x1), .unset] [] := by first | (simp [entryFrame, mkF, argsToLocals, Value.category]; done) | rfl
set_option maxRecDepth 65536 in
set_option maxHeartbeats 40000000 in
theorem rmsu1 (l : Launch) (Z : State) (a0 : Array Value) (hw : ∀ d ∈ tables_1, d.before a0 Z = true) (ws : List Jvm.Cond) (oq oh os ok : Addr) (fH fS : Int32 → Int32) (fK : Int32 → Int64) (z1 : Int32) (h0 : Heap) (n0 : Nat) (Z0 : n0 ≤ h0.size) (hd : own_Ds n0 oq oh os ok) (hq : own_NQ Z h0 oq oh os ok fH fS fK z1) (hb1 : ¬ (fH (1 : Int32)) < 0) (hb2 : (fH (1 : Int32)) < 3) (hb3 : ¬ (fH (0 : Int32)) < 0) (hb4 : (fH (0 : Int32)) < 3) :
    own_Met l Z ws (⟨"com/example/albatross/albatross/NodeQueue", "siftUp", "(I)V"⟩ : MethodName) prog_51_method_6_code 3 none ({ frames := 1, cells := 0, slots := 0, locals := 14 } : Room) ({ frames := 1, cells := 0, slots := 0, locals := 14 } : Room).cells ({ frames := 1, cells := 0, slots := 0, locals := 14 } : Room).slots #[(.ref oq), (.int (1 : Int32))] h0 (fun v h L => v = none ∧ Fr n0 L ∧ Keep h0 h [oq, oh, os, ok] ∧ (∃ H' S', own_NQ Z h oq oh os ok H' S' fK z1 ∧ own_su (1 : Int32) fH fS fK H' S')) := by
  refine own_body (plainFor_of_name pn_su1) ?_
  intro p e s m below meth c s₁ hx hby hml hown hnm hlk hret hZ hh X0 e0
  have N0 := Fr.nil n0
  have hd0 := hd
  obtain ⟨G_q, G_h, G_s, G_k, D1, D2, D3, D4, D5, D6⟩ := hd
  obtain ⟨E_0, Fh_0, Fs_0, Fk_0, Fz_0, Ah_0, As_0, Ak_0⟩ := hq
  refine own_cast (ef_su1 m oq (1 : Int32)) ?_
  refine own_st (T' := s₁) (g' := (mkF m 1 #[.val (.ref oq), .val (.int (1 : Int32)), .unset] [(.ref oq)])) (fun _ k => XS.aloadN X0.here hx rfl (hb hby dsu1_0) rfl rfl k) ?_
  obtain ⟨T1, X1, e1, st1⟩ := getF X0 hx hZ hown (host := "") (Or.inl (own_w hw 10 rfl)) Via.refl e0 Fh_0 (g := (mkF m 1 #[.val (.ref oq), .val (.int (1 : Int32)), .unset] [(.ref oq)])) rfl rfl (hb hby dsu1_1)
  refine own_st (g' := (mkF m 4 #[.val (.ref oq), .val (.int (1 : Int32)), .unset] [(.ref oh)])) st1 ?_
  refine own_st (T' := T1) (g' := (mkF m 5 #[.val (.ref oq), .val (.int (1 : Int32)), .unset] [(.int (1 : Int32)), (.ref oh)])) (fun _ k => XS.iloadN X1.here hx rfl (hb hby dsu1_4) rfl k) ?_
  obtain ⟨cl2, Ar2, S2, M2, H2⟩ := id Ah_0
  refine own_st (T' := T1) (g' := (mkF m 6 #[.val (.ref oq), .val (.int (1 : Int32)), .unset] [(.int (fH (1 : Int32)))])) (fun _ k => X1.iaload hx (j := (1 : Int32)) (v := (.int (fH (1 : Int32)))) (by rw [e1]; exact Ar2.1) (State.isArrayOf_alike hZ.alike Ar2.2.1) Ar2.2.2 (inb_of S2 ⟨(by decide), (by decide)⟩) (H2 _ (by decide) (by decide)) (g := (mkF m 5 #[.val (.ref oq), .val (.int (1 : Int32)), .unset] [(.int (1 : Int32)), (.ref oh)])) rfl rfl (hb hby dsu1_5) _ k) ?_
  refine own_st (T' := T1) (g' := (mkF m 7 #[.val (.ref oq), .val (.int (1 : Int32)), .val (.int (fH (1 : Int32)))] [])) (fun _ k => XS.istoreN X1.here hx rfl (hb hby dsu1_6) rfl (l' := #[.val (.ref oq), .val (.int (1 : Int32)), .val (.int (fH (1 : Int32)))]) rfl k) ?_
  refine own_st (T' := T1) (g' := (mkF m 8 #[.val (.ref oq), .val (.int (1 : Int32)), .val (.int (fH (1 : Int32)))] [(.int (1 : Int32))])) (fun _ k => XS.iloadN X1.here hx rfl (hb hby dsu1_7) rfl k) ?_
  refine own_st (T' := T1) (g' := (mkF m 11 #[.val (.ref oq), .val (.int (1 : Int32)), .val (.int (fH (1 : Int32)))] [])) (fun _ k => XS.ifNo X1.here hx rfl (hb hby dsu1_8) rfl ((if0 _ _).trans (tlt (by decide : ((0 : Int32) < (1 : Int32)))).2.2.2) k) ?_
  refine own_st (T' := T1) (g' := (mkF m 12 #[.val (.ref oq), .val (.int (1 : Int32)), .val (.int (fH (1 : Int32)))] [(.ref oq)])) (fun _ k => XS.aloadN X1.here hx rfl (hb hby dsu1_11) rfl rfl k) ?_
  obtain ⟨T3, X3, e3, st3⟩ := getF X1 hx hZ hown (host := "") (Or.inl (own_w hw 15 rfl)) Via.refl e1 Fk_0 (g := (mkF m 12 #[.val (.ref oq), .val (.int (1 : Int32)), .val (.int (fH (1 : Int32)))] [(.ref oq)])) rfl rfl (hb hby dsu1_12)
  refine own_st (g' := (mkF m 15 #[.val (.ref oq), .val (.int (1 : Int32)), .val (.int (fH (1 : Int32)))] [(.ref ok)])) st3 ?_
  refine own_st (T' := T3) (g' := (mkF m 16 #[.val (.ref oq), .val (.int (1 : Int32)), .val (.int (fH (1 : Int32)))] [(.ref oq), (.ref ok)])) (fun _ k => XS.aloadN X3.here hx rfl (hb hby dsu1_15) rfl rfl k) ?_
  obtain ⟨T4, X4, e4, st4⟩ := getF X3 hx hZ hown (host := "") (Or.inl (own_w hw 10 rfl)) Via.refl e3 Fh_0 (g := (mkF m 16 #[.val (.ref oq), .val (.int (1 : Int32)), .val (.int (fH (1 : Int32)))] [(.ref oq), (.ref ok)])) rfl rfl (hb hby dsu1_16)
  refine own_st (g' := (mkF m 19 #[.val (.ref oq), .val (.int (1 : Int32)), .val (.int (fH (1 : Int32)))] [(.ref oh), (.ref ok)])) st4 ?_
  refine own_st (T' := T4) (g' := (mkF m 20 #[.val (.ref oq), .val (.int (1 : Int32)), .val (.int (fH (1 : Int32)))] [(.int (1 : Int32)), (.ref oh), (.ref ok)])) (fun _ k => XS.iloadN X4.here hx rfl (hb hby dsu1_19) rfl k) ?_
  refine own_st (T' := T4) (g' := (mkF m 21 #[.val (.ref oq), .val (.int (1 : Int32)), .val (.int (fH (1 : Int32)))] [(.int (1 : Int32)), (.int (1 : Int32)), (.ref oh), (.ref ok)])) (fun _ k => XS.iconst X4.here hx rfl (hb hby dsu1_20) k) ?_
  refine own_st (T' := T4) (g' := (mkF m 22 #[.val (.ref oq), .val (.int (1 : Int32)), .val (.int (fH (1 : Int32)))] [(.int (0 : Int32)), (.ref oh), (.ref ok)])) (fun _ k => XS.isub X4.here hx rfl (hb hby dsu1_21) rfl k) ?_
  refine own_st (T' := T4) (g' := (mkF m 23 #[.val (.ref oq), .val (.int (1 : Int32)), .val (.int (fH (1 : Int32)))] [(.int (2 : Int32)), (.int (0 : Int32)), (.ref oh), (.ref ok)])) (fun _ k => XS.iconst X4.here hx rfl (hb hby dsu1_22) k) ?_
  refine own_st (T' := T4) (g' := (mkF m 24 #[.val (.ref oq), .val (.int (1 : Int32)), .val (.int (fH (1 : Int32)))] [(.int (0 : Int32)), (.ref oh), (.ref ok)])) (fun _ k => XS.idiv X4.here hx rfl (hb hby dsu1_23) rfl (by decide) k) ?_
  obtain ⟨cl5, Ar5, S5, M5, H5⟩ := id Ah_0
  refine own_st (T' := T4) (g' := (mkF m 25 #[.val (.ref oq), .val (.int (1 : Int32)), .val (.int (fH (1 : Int32)))] [(.int (fH (0 : Int32))), (.ref ok)])) (fun _ k => X4.iaload hx (j := (0 : Int32)) (v := (.int (fH (0 : Int32)))) (by rw [e4]; exact Ar5.1) (State.isArrayOf_alike hZ.alike Ar5.2.1) Ar5.2.2 (inb_of S5 ⟨(by decide), (by decide)⟩) (H5 _ (by decide) (by decide)) (g := (mkF m 24 #[.val (.ref oq), .val (.int (1 : Int32)), .val (.int (fH (1 : Int32)))] [(.int (0 : Int32)), (.ref oh), (.ref ok)])) rfl rfl (hb hby dsu1_24) _ k) ?_
  obtain ⟨cl6, Ar6, S6, M6, H6⟩ := id Ak_0
  refine own_st (T' := T4) (g' := (mkF m 26 #[.val (.ref oq), .val (.int (1 : Int32)), .val (.int (fH (1 : Int32)))] [(.long (fK (fH (0 : Int32))))])) (fun _ k => X4.laload hx (j := (fH (0 : Int32))) (v := (.long (fK (fH (0 : Int32))))) (by rw [e4]; exact Ar6.1) (State.isArrayOf_alike hZ.alike Ar6.2.1) Ar6.2.2 (inb_of S6 ⟨hb3, hb4⟩) (H6 _ hb3 hb4) (g := (mkF m 25 #[.val (.ref oq), .val (.int (1 : Int32)), .val (.int (fH (1 : Int32)))] [(.int (fH (0 : Int32))), (.ref ok)])) rfl rfl (hb hby dsu1_25) _ k) ?_
  refine own_st (T' := T4) (g' := (mkF m 27 #[.val (.ref oq), .val (.int (1 : Int32)), .val (.int (fH (1 : Int32)))] [(.ref oq), (.long (fK (fH (0 : Int32))))])) (fun _ k => XS.aloadN X4.here hx rfl (hb hby dsu1_26) rfl rfl k) ?_
  obtain ⟨T7, X7, e7, st7⟩ := getF X4 hx hZ hown (host := "") (Or.inl (own_w hw 15 rfl)) Via.refl e4 Fk_0 (g := (mkF m 27 #[.val (.ref oq), .val (.int (1 : Int32)), .val (.int (fH (1 : Int32)))] [(.ref oq), (.long (fK (fH (0 : Int32))))])) rfl rfl (hb hby dsu1_27)
  refine own_st (g' := (mkF m 30 #[.val (.ref oq), .val (.int (1 : Int32)), .val (.int (fH (1 : Int32)))] [(.ref ok), (.long (fK (fH (0 : Int32))))])) st7 ?_
  refine own_st (T' := T7) (g' := (mkF m 31 #[.val (.ref oq), .val (.int (1 : Int32)), .val (.int (fH (1 : Int32)))] [(.int (fH (1 : Int32))), (.ref ok), (.long (fK (fH (0 : Int32))))])) (fun _ k => XS.iloadN X7.here hx rfl (hb hby dsu1_30) rfl k) ?_
  obtain ⟨cl8, Ar8, S8, M8, H8⟩ := id Ak_0
  refine own_st (T' := T7) (g' := (mkF m 32 #[.val (.ref oq), .val (.int (1 : Int32)), .val (.int (fH (1 : Int32)))] [(.long (fK (fH (1 : Int32)))), (.long (fK (fH (0 : Int32))))])) (fun _ k => X7.laload hx (j := (fH (1 : Int32))) (v := (.long (fK (fH (1 : Int32))))) (by rw [e7]; exact Ar8.1) (State.isArrayOf_alike hZ.alike Ar8.2.1) Ar8.2.2 (inb_of S8 ⟨hb1, hb2⟩) (H8 _ hb1 hb2) (g := (mkF m 31 #[.val (.ref oq), .val (.int (1 : Int32)), .val (.int (fH (1 : Int32)))] [(.int (fH (1 : Int32))), (.ref ok), (.long (fK (fH (0 : Int32))))])) rfl rfl (hb hby dsu1_31) _ k) ?_
  refine own_st (T' := T7) (g' := (mkF m 33 #[.val (.ref oq), .val (.int (1 : Int32)), .val (.int (fH (1 : Int32)))] [(.int (lcmpW (fK (fH (0 : Int32))) (fK (fH (1 : Int32)))))])) (fun _ k => XS.lcmp X7.here hx rfl (hb hby dsu1_32) rfl k) ?_
  by_cases hc33_9 : (fK (fH (1 : Int32))) < (fK (fH (0 : Int32)))
  · refine own_st (T' := T7) (g' := (mkF m 36 #[.val (.ref oq), .val (.int (1 : Int32)), .val (.int (fH (1 : Int32)))] [])) (fun _ k => XS.ifNo X7.here hx rfl (hb hby dsu1_33) rfl ((if0 _ _).trans (tlt ((lw_gt _ _).mpr hc33_9)).2.2.2) k) ?_
    refine own_st (T' := T7) (g' := (mkF m 37 #[.val (.ref oq), .val (.int (1 : Int32)), .val (.int (fH (1 : Int32)))] [(.ref oq)])) (fun _ k => XS.aloadN X7.here hx rfl (hb hby dsu1_36) rfl rfl k) ?_
    refine own_st (T' := T7) (g' := (mkF m 38 #[.val (.ref oq), .val (.int (1 : Int32)), .val (.int (fH (1 : Int32)))] [(.ref oq), (.ref oq)])) (fun _ k => XS.aloadN X7.here hx rfl (hb hby dsu1_37) rfl rfl k) ?_
    obtain ⟨T10, X10, e10, st10⟩ := getF X7 hx hZ hown (host := "") (Or.inl (own_w hw 10 rfl)) Via.refl e7 Fh_0 (g := (mkF m 38 #[.val (.ref oq), .val (.int (1 : Int32)), .val (.int (fH (1 : Int32)))] [(.ref oq), (.ref oq)])) rfl rfl (hb hby dsu1_38)
    refine own_st (g' := (mkF m 41 #[.val (.ref oq), .val (.int (1 : Int32)), .val (.int (fH (1 : Int32)))] [(.ref oh), (.ref oq)])) st10 ?_
    refine own_st (T' := T10) (g' := (mkF m 42 #[.val (.ref oq), .val (.int (1 : Int32)), .val (.int (fH (1 : Int32)))] [(.int (1 : Int32)), (.ref oh), (.ref oq)])) (fun _ k => XS.iloadN X10.here hx rfl (hb hby dsu1_41) rfl k) ?_
    refine own_st (T' := T10) (g' := (mkF m 43 #[.val (.ref oq), .val (.int (1 : Int32)), .val (.int (fH (1 : Int32)))] [(.int (1 : Int32)), (.int (1 : Int32)), (.ref oh), (.ref oq)])) (fun _ k => XS.iconst X10.here hx rfl (hb hby dsu1_42) k) ?_
    refine own_st (T' := T10) (g' := (mkF m 44 #[.val (.ref oq), .val (.int (1 : Int32)), .val (.int (fH (1 : Int32)))] [(.int (0 : Int32)), (.ref oh), (.ref oq)])) (fun _ k => XS.isub X10.here hx rfl (hb hby dsu1_43) rfl k) ?_
    refine own_st (T' := T10) (g' := (mkF m 45 #[.val (.ref oq), .val (.int (1 : Int32)), .val (.int (fH (1 : Int32)))] [(.int (2 : Int32)), (.int (0 : Int32)), (.ref oh), (.ref oq)])) (fun _ k => XS.iconst X10.here hx rfl (hb hby dsu1_44) k) ?_
    refine own_st (T' := T10) (g' := (mkF m 46 #[.val (.ref oq), .val (.int (1 : Int32)), .val (.int (fH (1 : Int32)))] [(.int (0 : Int32)), (.ref oh), (.ref oq)])) (fun _ k => XS.idiv X10.here hx rfl (hb hby dsu1_45) rfl (by decide) k) ?_
    obtain ⟨cl11, Ar11, S11, M11, H11⟩ := id Ah_0
    refine own_st (T' := T10) (g' := (mkF m 47 #[.val (.ref oq), .val (.int (1 : Int32)), .val (.int (fH (1 : Int32)))] [(.int (fH (0 : Int32))), (.ref oq)])) (fun _ k => X10.iaload hx (j := (0 : Int32)) (v := (.int (fH (0 : Int32)))) (by rw [e10]; exact Ar11.1) (State.isArrayOf_alike hZ.alike Ar11.2.1) Ar11.2.2 (inb_of S11 ⟨(by decide), (by decide)⟩) (H11 _ (by decide) (by decide)) (g := (mkF m 46 #[.val (.ref oq), .val (.int (1 : Int32)), .val (.int (fH (1 : Int32)))] [(.int (0 : Int32)), (.ref oh), (.ref oq)])) rfl rfl (hb hby dsu1_46) _ k) ?_
    refine own_st (T' := T10) (g' := (mkF m 48 #[.val (.ref oq), .val (.int (1 : Int32)), .val (.int (fH (1 : Int32)))] [(.int (1 : Int32)), (.int (fH (0 : Int32))), (.ref oq)])) (fun _ k => XS.iloadN X10.here hx rfl (hb hby dsu1_47) rfl k) ?_
    refine own_callP X10 hx hZ (y := (⟨"com/example/albatross/albatross/NodeQueue", "place", "(II)V"⟩ : MethodName)) hown (own_w hw 42 rfl) (own_w hw 43 rfl) (own_w hw 1 rfl) (own_w hw 44 rfl) (own_w hw 45 rfl) (own_w hw 2 rfl) (by decide) (W := 0) e10 (b := oq) E_0 (argsL := [(.int (fH (0 : Int32))), (.int (1 : Int32))]) (rest := []) (rmpl l Z a0 hw [] oq oh os ok fH fS fK z1 (fH (0 : Int32)) (1 : Int32) h0 n0 Z0 hd0 (show own_NQ Z h0 oq oh os ok fH fS fK z1 from ⟨E_0, Fh_0, Fs_0, Fk_0, Fz_0, Ah_0, As_0, Ak_0⟩) hb3 hb4 (by decide) (by decide)) (by decide) (by decide) (by decide) (by decide) (g := (mkF m 48 #[.val (.ref oq), .val (.int (1 : Int32)), .val (.int (fH (1 : Int32)))] [(.int (1 : Int32)), (.int (fH (0 : Int32))), (.ref oq)])) rfl (by rw [hml]; rfl) (lenOf own_pd0 rfl) rfl (by show 2 * 0 + _ ≤ _; exact Nat.le_of_eq rfl) (hb hby dsu1_48) ?_
    rintro _ T12 L12 X12 ⟨rfl, N12q, K12, hq_12⟩
    show own_Go _ _ _ _ _ _ _ T12 (mkF m 51 #[.val (.ref oq), .val (.int (1 : Int32)), .val (.int (fH (1 : Int32)))] [])
    have N12 := Fr.app N0 N12q
    obtain ⟨E_12, Fh_12, Fs_12, Fk_12, Fz_12, Ah_12, As_12, Ak_12⟩ := hq_12
    refine own_st (T' := T12) (g' := (mkF m 52 #[.val (.ref oq), .val (.int (1 : Int32)), .val (.int (fH (1 : Int32)))] [(.int (1 : Int32))])) (fun _ k => XS.iloadN X12.here hx rfl (hb hby dsu1_51) rfl k) ?_
    refine own_st (T' := T12) (g' := (mkF m 53 #[.val (.ref oq), .val (.int (1 : Int32)), .val (.int (fH (1 : Int32)))] [(.int (1 : Int32)), (.int (1 : Int32))])) (fun _ k => XS.iconst X12.here hx rfl (hb hby dsu1_52) k) ?_
    refine own_st (T' := T12) (g' := (mkF m 54 #[.val (.ref oq), .val (.int (1 : Int32)), .val (.int (fH (1 : Int32)))] [(.int (0 : Int32))])) (fun _ k => XS.isub X12.here hx rfl (hb hby dsu1_53) rfl k) ?_
    refine own_st (T' := T12) (g' := (mkF m 55 #[.val (.ref oq), .val (.int (1 : Int32)), .val (.int (fH (1 : Int32)))] [(.int (2 : Int32)), (.int (0 : Int32))])) (fun _ k => XS.iconst X12.here hx rfl (hb hby dsu1_54) k) ?_
    refine own_st (T' := T12) (g' := (mkF m 56 #[.val (.ref oq), .val (.int (1 : Int32)), .val (.int (fH (1 : Int32)))] [(.int (0 : Int32))])) (fun _ k => XS.idiv X12.here hx rfl (hb hby dsu1_55) rfl (by decide) k) ?_
    refine own_st (T' := T12) (g' := (mkF m 57 #[.val (.ref oq), .val (.int (0 : Int32)), .val (.int (fH (1 : Int32)))] [])) (fun _ k => XS.istoreN X12.here hx rfl (hb hby dsu1_56) rfl (l' := #[.val (.ref oq), .val (.int (0 : Int32)), .val (.int (fH (1 : Int32)))]) rfl k) ?_
    refine own_st (T' := T12) (g' := (mkF m 7 #[.val (.ref oq), .val (.int (0 : Int32)), .val (.int (fH (1 : Int32)))] [])) (fun _ k => XS.goto X12.here hx rfl (pc0 := 57) (pc' := 7) rfl (hb hby dsu1_57) (by decide) (by decide) k) ?_
    refine own_st (T' := T12) (g' := (mkF m 8 #[.val (.ref oq), .val (.int (0 : Int32)), .val (.int (fH (1 : Int32)))] [(.int (0 : Int32))])) (fun _ k => XS.iloadN X12.here hx rfl (hb hby dsu1_7) rfl k) ?_
    refine own_st (T' := T12) (g' := (mkF m 60 #[.val (.ref oq), .val (.int (0 : Int32)), .val (.int (fH (1 : Int32)))] [])) (fun _ k => XS.ifYes X12.here hx rfl (pc0 := 8) (pc' := 60) rfl (hb hby dsu1_8) rfl ((if0 _ _).trans (flt (by decide : ¬ ((0 : Int32) < (0 : Int32)))).2.2.2) (by decide) (by decide) k) ?_
    refine own_st (T' := T12) (g' := (mkF m 61 #[.val (.ref oq), .val (.int (0 : Int32)), .val (.int (fH (1 : Int32)))] [(.ref oq)])) (fun _ k => XS.aloadN X12.here hx rfl (hb hby dsu1_60) rfl rfl k) ?_
    refine own_st (T' := T12) (g' := (mkF m 62 #[.val (.ref oq), .val (.int (0 : Int32)), .val (.int (fH (1 : Int32)))] [(.int (fH (1 : Int32))), (.ref oq)])) (fun _ k => XS.iloadN X12.here hx rfl (hb hby dsu1_61) rfl k) ?_
    refine own_st (T' := T12) (g' := (mkF m 63 #[.val (.ref oq), .val (.int (0 : Int32)), .val (.int (fH (1 : Int32)))] [(.int (0 : Int32)), (.int (fH (1 : Int32))), (.ref oq)])) (fun _ k => XS.iloadN X12.here hx rfl (hb hby dsu1_62) rfl k) ?_
    refine own_callP X12 hx hZ (y := (⟨"com/example/albatross/albatross/NodeQueue", "place", "(II)V"⟩ : MethodName)) hown (own_w hw 42 rfl) (own_w hw 43 rfl) (own_w hw 1 rfl) (own_w hw 44 rfl) (own_w hw 45 rfl) (own_w hw 2 rfl) (by decide) (W := 0) rfl (b := oq) E_12 (argsL := [(.int (fH (1 : Int32))), (.int (0 : Int32))]) (rest := []) (rmpl l Z a0 hw [] oq oh os ok (own_up fH (1 : Int32) (fH (0 : Int32))) (own_up fS (fH (0 : Int32)) (1 : Int32)) fK z1 (fH (1 : Int32)) (0 : Int32) T12.heap n0 (Nat.le_trans Z0 K12.1) hd0 (show own_NQ Z T12.heap oq oh os ok (own_up fH (1 : Int32) (fH (0 : Int32))) (own_up fS (fH (0 : Int32)) (1 : Int32)) fK z1 from ⟨E_12, Fh_12, Fs_12, Fk_12, Fz_12, Ah_12, As_12, Ak_12⟩) hb1 hb2 (by decide) (by decide)) (by decide) (by decide) (by decide) (by decide) (g := (mkF m 63 #[.val (.ref oq), .val (.int (0 : Int32)), .val (.int (fH (1 : Int32)))] [(.int (0 : Int32)), (.int (fH (1 : Int32))), (.ref oq)])) rfl (by rw [hml]; rfl) (lenOf own_pd0 rfl) rfl (by show 2 * 0 + _ ≤ _; exact Nat.le_of_eq rfl) (hb hby dsu1_63) ?_
    rintro _ T13 L13 X13 ⟨rfl, N13q, K13, hq_13⟩
    show own_Go _ _ _ _ _ _ _ T13 (mkF m 66 #[.val (.ref oq), .val (.int (0 : Int32)), .val (.int (fH (1 : Int32)))] [])
    have N13 := Fr.app N12 N13q
    obtain ⟨E_13, Fh_13, Fs_13, Fk_13, Fz_13, Ah_13, As_13, Ak_13⟩ := hq_13
    exact own_retV X13 hx hlk hret (hb hby dsu1_66) ⟨rfl, N13, (((Keep.refl h0 [oq, oh, os, ok]).trans K12 (fun x hx => Or.inl hx)).trans K13 (fun x hx => Or.inl hx)), _, _, ⟨E_13, Fh_13, Fs_13, Fk_13, Fz_13, Ah_13, As_13, Ak_13⟩, Or.inl ⟨hc33_9, rfl, rfl⟩⟩ (by decide) (by decide)
  · refine own_st (T' := T7) (g' := (mkF m 60 #[.val (.ref oq), .val (.int (1 : Int32)), .val (.int (fH (1 : Int32)))] [])) (fun _ k => XS.ifYes X7.here hx rfl (pc0 := 33) (pc' := 60) rfl (hb hby dsu1_33) rfl ((if0 _ _).trans (flt (mt (lw_gt _ _).mp hc33_9)).2.2.2) (by decide) (by decide) k) ?_
    refine own_st (T' := T7) (g' := (mkF m 61 #[.val (.ref oq), .val (.int (1 : Int32)), .val (.int (fH (1 : Int32)))] [(.ref oq)])) (fun _ k => XS.aloadN X7.here hx rfl (hb hby dsu1_60) rfl rfl k) ?_
    refine own_st (T' := T7) (g' := (mkF m 62 #[.val (.ref oq), .val (.int (1 : Int32)), .val (.int (fH (1 : Int32)))] [(.int (fH (1 : Int32))), (.ref oq)])) (fun _ k => XS.iloadN X7.here hx rfl (hb hby dsu1_61) rfl k) ?_
    refine own_st (T' := T7) (g' := (mkF m 63 #[.val (.ref oq), .val (.int (1 : Int32)), .val (.int (fH (1 : Int32)))] [(.int (1 : Int32)), (.int (fH (1 : Int32))), (.ref oq)])) (fun _ k => XS.iloadN X7.here hx rfl (hb hby dsu1_62) rfl k) ?_
    refine own_callP X7 hx hZ (y := (⟨"com/example/albatross/albatross/NodeQueue", "place", "(II)V"⟩ : MethodName)) hown (own_w hw 42 rfl) (own_w hw 43 rfl) (own_w hw 1 rfl) (own_w hw 44 rfl) (own_w hw 45 rfl) (own_w hw 2 rfl) (by decide) (W := 0) e7 (b := oq) E_0 (argsL := [(.int (fH (1 : Int32))), (.int (1 : Int32))]) (rest := []) (rmpl l Z a0 hw [] oq oh os ok fH fS fK z1 (fH (1 : Int32)) (1 : Int32) h0 n0 Z0 hd0 (show own_NQ Z h0 oq oh os ok fH fS fK z1 from ⟨E_0, Fh_0, Fs_0, Fk_0, Fz_0, Ah_0, As_0, Ak_0⟩) hb1 hb2 (by decide) (by decide)) (by decide) (by decide) (by decide) (by decide) (g := (mkF m 63 #[.val (.ref oq), .val (.int (1 : Int32)), .val (.int (fH (1 : Int32)))] [(.int (1 : Int32)), (.int (fH (1 : Int32))), (.ref oq)])) rfl (by rw [hml]; rfl) (lenOf own_pd0 rfl) rfl (by show 2 * 0 + _ ≤ _; exact Nat.le_of_eq rfl) (hb hby dsu1_63) ?_
    rintro _ T14 L14 X14 ⟨rfl, N14q, K14, hq_14⟩
    show own_Go _ _ _ _ _ _ _ T14 (mkF m 66 #[.val (.ref oq), .val (.int (1 : Int32)), .val (.int (fH (1 : Int32)))] [])
    have N14 := Fr.app N0 N14q
    obtain ⟨E_14, Fh_14, Fs_14, Fk_14, Fz_14, Ah_14, As_14, Ak_14⟩ := hq_14
    exact own_retV X14 hx hlk hret (hb hby dsu1_66) ⟨rfl, N14, ((Keep.refl h0 [oq, oh, os, ok]).trans K14 (fun x hx => Or.inl hx)), _, _, ⟨E_14, Fh_14, Fs_14, Fk_14, Fz_14, Ah_14, As_14, Ak_14⟩, Or.inr ⟨hc33_9, rfl, rfl⟩⟩ (by decide) (by decide)
theorem dsu2_0 : decode prog_51_method_6_code 0 = .ok (.aload_n 0, 1) := by decide +kernel
theorem dsu2_1 : decode prog_51_method_6_code 1 = .ok (.getfield 7, 3) := by decide +kernel
theorem dsu2_4 : decode prog_51_method_6_code 4 = .ok (.iload_n 1, 1) := by decide +kernel
theorem dsu2_5 : decode prog_51_method_6_code 5 = .ok (.iaload, 1) := by decide +kernel
theorem dsu2_6 : decode prog_51_method_6_code 6 = .ok (.istore_n 2, 1) := by decide +kernel
theorem dsu2_7 : decode prog_51_method_6_code 7 = .ok (.iload_n 1, 1) := by decide +kernel
theorem dsu2_8 : decode prog_51_method_6_code 8 = .ok (.ifCond .le 52, 3) := by decide +kernel
theorem dsu2_11 : decode prog_51_method_6_code 11 = .ok (.aload_n 0, 1) := by decide +kernel
theorem dsu2_12 : decode prog_51_method_6_code 12 = .ok (.getfield 16, 3) := by decide +kernel
theorem dsu2_15 : decode prog_51_method_6_code 15 = .ok (.aload_n 0, 1) := by decide +kernel
theorem dsu2_16 : decode prog_51_method_6_code 16 = .ok (.getfield 7, 3) := by decide +kernel
theorem dsu2_19 : decode prog_51_method_6_code 19 = .ok (.iload_n 1, 1) := by decide +kernel
theorem dsu2_20 : decode prog_51_method_6_code 20 = .ok (.iconst 1, 1) := by decide +kernel
theorem dsu2_21 : decode prog_51_method_6_code 21 = .ok (.isub, 1) := by decide +kernel
theorem dsu2_22 : decode prog_51_method_6_code 22 = .ok (.iconst 2, 1) := by decide +kernel
theorem dsu2_23 : decode prog_51_method_6_code 23 = .ok (.idiv, 1) := by decide +kernel
theorem dsu2_24 : decode prog_51_method_6_code 24 = .ok (.iaload, 1) := by decide +kernel
theorem dsu2_25 : decode prog_51_method_6_code 25 = .ok (.laload, 1) := by decide +kernel
theorem dsu2_26 : decode prog_51_method_6_code 26 = .ok (.aload_n 0, 1) := by decide +kernel
theorem dsu2_27 : decode prog_51_method_6_code 27 = .ok (.getfield 16, 3) := by decide +kernel
theorem dsu2_30 : decode prog_51_method_6_code 30 = .ok (.iload_n 2, 1) := by decide +kernel
theorem dsu2_31 : decode prog_51_method_6_code 31 = .ok (.laload, 1) := by decide +kernel
theorem dsu2_32 : decode prog_51_method_6_code 32 = .ok (.lcmp, 1) := by decide +kernel
theorem dsu2_33 : decode prog_51_method_6_code 33 = .ok (.ifCond .le 27, 3) := by decide +kernel
theorem dsu2_36 : decode prog_51_method_6_code 36 = .ok (.aload_n 0, 1) := by decide +kernel
theorem dsu2_37 : decode prog_51_method_6_code 37 = .ok (.aload_n 0, 1) := by decide +kernel
theorem dsu2_38 : decode prog_51_method_6_code 38 = .ok (.getfield 7, 3) := by decide +kernel
theorem dsu2_41 : decode prog_51_method_6_code 41 = .ok (.iload_n 1, 1) := by decide +kernel
theorem dsu2_42 : decode prog_51_method_6_code 42 = .ok (.iconst 1, 1) := by decide +kernel
theorem dsu2_43 : decode prog_51_method_6_code 43 = .ok (.isub, 1) := by decide +kernel
theorem dsu2_44 : decode prog_51_method_6_code 44 = .ok (.iconst 2, 1) := by decide +kernel
theorem dsu2_45 : decode prog_51_method_6_code 45 = .ok (.idiv, 1) := by decide +kernel
theorem dsu2_46 : decode prog_51_method_6_code 46 = .ok (.iaload, 1) := by decide +kernel
theorem dsu2_47 : decode prog_51_method_6_code 47 = .ok (.iload_n 1, 1) := by decide +kernel
theorem dsu2_48 : decode prog_51_method_6_code 48 = .ok (.invokevirtual 34, 3) := by decide +kernel
theorem dsu2_51 : decode prog_51_method_6_code 51 = .ok (.iload_n 1, 1) := by decide +kernel
theorem dsu2_52 : decode prog_51_method_6_code 52 = .ok (.iconst 1, 1) := by decide +kernel
theorem dsu2_53 : decode prog_51_method_6_code 53 = .ok (.isub, 1) := by decide +kernel
theorem dsu2_54 : decode prog_51_method_6_code 54 = .ok (.iconst 2, 1) := by decide +kernel
theorem dsu2_55 : decode prog_51_method_6_code 55 = .ok (.idiv, 1) := by decide +kernel
theorem dsu2_56 : decode prog_51_method_6_code 56 = .ok (.istore_n 1, 1) := by decide +kernel
theorem dsu2_57 : decode prog_51_method_6_code 57 = .ok (.goto (-50), 3) := by decide +kernel
theorem dsu2_60 : decode prog_51_method_6_code 60 = .ok (.aload_n 0, 1) := by decide +kernel
theorem dsu2_61 : decode prog_51_method_6_code 61 = .ok (.iload_n 2, 1) := by decide +kernel
theorem dsu2_62 : decode prog_51_method_6_code 62 = .ok (.iload_n 1, 1) := by decide +kernel
theorem dsu2_63 : decode prog_51_method_6_code 63 = .ok (.invokevirtual 34, 3) := by decide +kernel
theorem dsu2_66 : decode prog_51_method_6_code 66 = .ok (.return_, 1) := by decide +kernel
theorem pn_su2 : plainName "com/example/albatross/albatross/NodeQueue" = true := by first | (simp [plainName, overriddenIn]; done) | decide +kernel
theorem ef_su2 (m : MethodId) (x0 : Addr) (x1 : Int32) : entryFrame m #[(.ref x0), (.int x1)] 3 = mkF m 0 #[.val (.ref x0), .val (.int x1), .unset] [] := by first | (simp [entryFrame, mkF, argsToLocals, Value.category]; done) | rfl
set_option maxRecDepth 65536 in
set_option maxHeartbeats 40000000 in
theorem rmsu2 (l : Launch) (Z : State) (a0 : Array Value) (hw : ∀ d ∈ tables_1, d.before a0 Z = true) (ws : List Jvm.Cond) (oq oh os ok : Addr) (fH fS : Int32 → Int32) (fK : Int32 → Int64) (z1 : Int32) (h0 : Heap) (n0 : Nat) (Z0 : n0 ≤ h0.size) (hd : own_Ds n0 oq oh os ok) (hq : own_NQ Z h0 oq oh os ok fH fS fK z1) (hb1 : ¬ (fH (2 : Int32)) < 0) (hb2 : (fH (2 : Int32)) < 3) (hb3 : ¬ (fH (0 : Int32)) < 0) (hb4 : (fH (0 : Int32)) < 3) :
    own_Met l Z ws (⟨"com/example/albatross/albatross/NodeQueue", "siftUp", "(I)V"⟩ : MethodName) prog_51_method_6_code 3 none ({ frames := 1, cells := 0, slots := 0, locals := 14 } : Room) ({ frames := 1, cells := 0, slots := 0, locals := 14 } : Room).cells ({ frames := 1, cells := 0, slots := 0, locals := 14 } : Room).slots #[(.ref oq), (.int (2 : Int32))] h0 (fun v h L => v = none ∧ Fr n0 L ∧ Keep h0 h [oq, oh, os, ok] ∧ (∃ H' S', own_NQ Z h oq oh os ok H' S' fK z1 ∧ own_su (2 : Int32) fH fS fK H' S')) := by
  refine own_body (plainFor_of_name pn_su2) ?_
  intro p e s m below meth c s₁ hx hby hml hown hnm hlk hret hZ hh X0 e0
  have N0 := Fr.nil n0
  have hd0 := hd
  obtain ⟨G_q, G_h, G_s, G_k, D1, D2, D3, D4, D5, D6⟩ := hd
  obtain ⟨E_0, Fh_0, Fs_0, Fk_0, Fz_0, Ah_0, As_0, Ak_0⟩ := hq
  refine own_cast (ef_su2 m oq (2 : Int32)) ?_
  refine own_st (T' := s₁) (g' := (mkF m 1 #[.val (.ref oq), .val (.int (2 : Int32)), .unset] [(.ref oq)])) (fun _ k => XS.aloadN X0.here hx rfl (hb hby dsu2_0) rfl rfl k) ?_
  obtain ⟨T1, X1, e1, st1⟩ := getF X0 hx hZ hown (host := "") (Or.inl (own_w hw 10 rfl)) Via.refl e0 Fh_0 (g := (mkF m 1 #[.val (.ref oq), .val (.int (2 : Int32)), .unset] [(.ref oq)])) rfl rfl (hb hby dsu2_1)
  refine own_st (g' := (mkF m 4 #[.val (.ref oq), .val (.int (2 : Int32)), .unset] [(.ref oh)])) st1 ?_
  refine own_st (T' := T1) (g' := (mkF m 5 #[.val (.ref oq), .val (.int (2 : Int32)), .unset] [(.int (2 : Int32)), (.ref oh)])) (fun _ k => XS.iloadN X1.here hx rfl (hb hby dsu2_4) rfl k) ?_
  obtain ⟨cl2, Ar2, S2, M2, H2⟩ := id Ah_0
  refine own_st (T' := T1) (g' := (mkF m 6 #[.val (.ref oq), .val (.int (2 : Int32)), .unset] [(.int (fH (2 : Int32)))])) (fun _ k => X1.iaload hx (j := (2 : Int32)) (v := (.int (fH (2 : Int32)))) (by rw [e1]; exact Ar2.1) (State.isArrayOf_alike hZ.alike Ar2.2.1) Ar2.2.2 (inb_of S2 ⟨(by decide), (by decide)⟩) (H2 _ (by decide) (by decide)) (g := (mkF m 5 #[.val (.ref oq), .val (.int (2 : Int32)), .unset] [(.int (2 : Int32)), (.ref oh)])) rfl rfl (hb hby dsu2_5) _ k) ?_
  refine own_st (T' := T1) (g' := (mkF m 7 #[.val (.ref oq), .val (.int (2 : Int32)), .val (.int (fH (2 : Int32)))] [])) (fun _ k => XS.istoreN X1.here hx rfl (hb hby dsu2_6) rfl (l' := #[.val (.ref oq), .val (.int (2 : Int32)), .val (.int (fH (2 : Int32)))]) rfl k) ?_
  refine own_st (T' := T1) (g' := (mkF m 8 #[.val (.ref oq), .val (.int (2 : Int32)), .val (.int (fH (2 : Int32)))] [(.int (2 : Int32))])) (fun _ k => XS.iloadN X1.here hx rfl (hb hby dsu2_7) rfl k) ?_
  refine own_st (T' := T1) (g' := (mkF m 11 #[.val (.ref oq), .val (.int (2 : Int32)), .val (.int (fH (2 : Int32)))] [])) (fun _ k => XS.ifNo X1.here hx rfl (hb hby dsu2_8) rfl ((if0 _ _).trans (tlt (by decide : ((0 : Int32) < (2 : Int32)))).2.2.2) k) ?_
  refine own_st (T' := T1) (g' := (mkF m 12 #[.val (.ref oq), .val (.int (2 : Int32)), .val (.int (fH (2 : Int32)))] [(.ref oq)])) (fun _ k => XS.aloadN X1.here hx rfl (hb hby dsu2_11) rfl rfl k) ?_
  obtain ⟨T3, X3, e3, st3⟩ := getF X1 hx hZ hown (host := "") (Or.inl (own_w hw 15 rfl)) Via.refl e1 Fk_0 (g := (mkF m 12 #[.val (.ref oq), .val (.int (2 : Int32)), .val (.int (fH (2 : Int32)))] [(.ref oq)])) rfl rfl (hb hby dsu2_12)
  refine own_st (g' := (mkF m 15 #[.val (.ref oq), .val (.int (2 : Int32)), .val (.int (fH (2 : Int32)))] [(.ref ok)])) st3 ?_
  refine own_st (T' := T3) (g' := (mkF m 16 #[.val (.ref oq), .val (.int (2 : Int32)), .val (.int (fH (2 : Int32)))] [(.ref oq), (.ref ok)])) (fun _ k => XS.aloadN X3.here hx rfl (hb hby dsu2_15) rfl rfl k) ?_
  obtain ⟨T4, X4, e4, st4⟩ := getF X3 hx hZ hown (host := "") (Or.inl (own_w hw 10 rfl)) Via.refl e3 Fh_0 (g := (mkF m 16 #[.val (.ref oq), .val (.int (2 : Int32)), .val (.int (fH (2 : Int32)))] [(.ref oq), (.ref ok)])) rfl rfl (hb hby dsu2_16)
  refine own_st (g' := (mkF m 19 #[.val (.ref oq), .val (.int (2 : Int32)), .val (.int (fH (2 : Int32)))] [(.ref oh), (.ref ok)])) st4 ?_
  refine own_st (T' := T4) (g' := (mkF m 20 #[.val (.ref oq), .val (.int (2 : Int32)), .val (.int (fH (2 : Int32)))] [(.int (2 : Int32)), (.ref oh), (.ref ok)])) (fun _ k => XS.iloadN X4.here hx rfl (hb hby dsu2_19) rfl k) ?_
  refine own_st (T' := T4) (g' := (mkF m 21 #[.val (.ref oq), .val (.int (2 : Int32)), .val (.int (fH (2 : Int32)))] [(.int (1 : Int32)), (.int (2 : Int32)), (.ref oh), (.ref ok)])) (fun _ k => XS.iconst X4.here hx rfl (hb hby dsu2_20) k) ?_
  refine own_st (T' := T4) (g' := (mkF m 22 #[.val (.ref oq), .val (.int (2 : Int32)), .val (.int (fH (2 : Int32)))] [(.int (1 : Int32)), (.ref oh), (.ref ok)])) (fun _ k => XS.isub X4.here hx rfl (hb hby dsu2_21) rfl k) ?_
  refine own_st (T' := T4) (g' := (mkF m 23 #[.val (.ref oq), .val (.int (2 : Int32)), .val (.int (fH (2 : Int32)))] [(.int (2 : Int32)), (.int (1 : Int32)), (.ref oh), (.ref ok)])) (fun _ k => XS.iconst X4.here hx rfl (hb hby dsu2_22) k) ?_
  refine own_st (T' := T4) (g' := (mkF m 24 #[.val (.ref oq), .val (.int (2 : Int32)), .val (.int (fH (2 : Int32)))] [(.int (0 : Int32)), (.ref oh), (.ref ok)])) (fun _ k => XS.idiv X4.here hx rfl (hb hby dsu2_23) rfl (by decide) k) ?_
  obtain ⟨cl5, Ar5, S5, M5, H5⟩ := id Ah_0
  refine own_st (T' := T4) (g' := (mkF m 25 #[.val (.ref oq), .val (.int (2 : Int32)), .val (.int (fH (2 : Int32)))] [(.int (fH (0 : Int32))), (.ref ok)])) (fun _ k => X4.iaload hx (j := (0 : Int32)) (v := (.int (fH (0 : Int32)))) (by rw [e4]; exact Ar5.1) (State.isArrayOf_alike hZ.alike Ar5.2.1) Ar5.2.2 (inb_of S5 ⟨(by decide), (by decide)⟩) (H5 _ (by decide) (by decide)) (g := (mkF m 24 #[.val (.ref oq), .val (.int (2 : Int32)), .val (.int (fH (2 : Int32)))] [(.int (0 : Int32)), (.ref oh), (.ref ok)])) rfl rfl (hb hby dsu2_24) _ k) ?_
  obtain ⟨cl6, Ar6, S6, M6, H6⟩ := id Ak_0
  refine own_st (T' := T4) (g' := (mkF m 26 #[.val (.ref oq), .val (.int (2 : Int32)), .val (.int (fH (2 : Int32)))] [(.long (fK (fH (0 : Int32))))])) (fun _ k => X4.laload hx (j := (fH (0 : Int32))) (v := (.long (fK (fH (0 : Int32))))) (by rw [e4]; exact Ar6.1) (State.isArrayOf_alike hZ.alike Ar6.2.1) Ar6.2.2 (inb_of S6 ⟨hb3, hb4⟩) (H6 _ hb3 hb4) (g := (mkF m 25 #[.val (.ref oq), .val (.int (2 : Int32)), .val (.int (fH (2 : Int32)))] [(.int (fH (0 : Int32))), (.ref ok)])) rfl rfl (hb hby dsu2_25) _ k) ?_
  refine own_st (T' := T4) (g' := (mkF m 27 #[.val (.ref oq), .val (.int (2 : Int32)), .val (.int (fH (2 : Int32)))] [(.ref oq), (.long (fK (fH (0 : Int32))))])) (fun _ k => XS.aloadN X4.here hx rfl (hb hby dsu2_26) rfl rfl k) ?_
  obtain ⟨T7, X7, e7, st7⟩ := getF X4 hx hZ hown (host := "") (Or.inl (own_w hw 15 rfl)) Via.refl e4 Fk_0 (g := (mkF m 27 #[.val (.ref oq), .val (.int (2 : Int32)), .val (.int (fH (2 : Int32)))] [(.ref oq), (.long (fK (fH (0 : Int32))))])) rfl rfl (hb hby dsu2_27)
  refine own_st (g' := (mkF m 30 #[.val (.ref oq), .val (.int (2 : Int32)), .val (.int (fH (2 : Int32)))] [(.ref ok), (.long (fK (fH (0 : Int32))))])) st7 ?_
  refine own_st (T' := T7) (g' := (mkF m 31 #[.val (.ref oq), .val (.int (2 : Int32)), .val (.int (fH (2 : Int32)))] [(.int (fH (2 : Int32))), (.ref ok), (.long (fK (fH (0 : Int32))))])) (fun _ k => XS.iloadN X7.here hx rfl (hb hby dsu2_30) rfl k) ?_
  obtain ⟨cl8, Ar8, S8, M8, H8⟩ := id Ak_0
  refine own_st (T' := T7) (g' := (mkF m 32 #[.val (.ref oq), .val (.int (2 : Int32)), .val (.int (fH (2 : Int32)))] [(.long (fK (fH (2 : Int32)))), (.long (fK (fH (0 : Int32))))])) (fun _ k => X7.laload hx (j := (fH (2 : Int32))) (v := (.long (fK (fH (2 : Int32))))) (by rw [e7]; exact Ar8.1) (State.isArrayOf_alike hZ.alike Ar8.2.1) Ar8.2.2 (inb_of S8 ⟨hb1, hb2⟩) (H8 _ hb1 hb2) (g := (mkF m 31 #[.val (.ref oq), .val (.int (2 : Int32)), .val (.int (fH (2 : Int32)))] [(.int (fH (2 : Int32))), (.ref ok), (.long (fK (fH (0 : Int32))))])) rfl rfl (hb hby dsu2_31) _ k) ?_
  refine own_st (T' := T7) (g' := (mkF m 33 #[.val (.ref oq), .val (.int (2 : Int32)), .val (.int (fH (2 : Int32)))] [(.int (lcmpW (fK (fH (0 : Int32))) (fK (fH (2 : Int32)))))])) (fun _ k => XS.lcmp X7.here hx rfl (hb hby dsu2_32) rfl k) ?_
  by_cases hc33_9 : (fK (fH (2 : Int32))) < (fK (fH (0 : Int32)))
  · refine own_st (T' := T7) (g' := (mkF m 36 #[.val (.ref oq), .val (.int (2 : Int32)), .val (.int (fH (2 : Int32)))] [])) (fun _ k => XS.ifNo X7.here hx rfl (hb hby dsu2_33) rfl ((if0 _ _).trans (tlt ((lw_gt _ _).mpr hc33_9)).2.2.2) k) ?_
    refine own_st (T' := T7) (g' := (mkF m 37 #[.val (.ref oq), .val (.int (2 : Int32)), .val (.int (fH (2 : Int32)))] [(.ref oq)])) (fun _ k => XS.aloadN X7.here hx rfl (hb hby dsu2_36) rfl rfl k) ?_
    refine own_st (T' := T7) (g' := (mkF m 38 #[.val (.ref oq), .val (.int (2 : Int32)), .val (.int (fH (2 : Int32)))] [(.ref oq), (.ref oq)])) (fun _ k => XS.aloadN X7.here hx rfl (hb hby dsu2_37) rfl rfl k) ?_
    obtain ⟨T10, X10, e10, st10⟩ := getF X7 hx hZ hown (host := "") (Or.inl (own_w hw 10 rfl)) Via.refl e7 Fh_0 (g := (mkF m 38 #[.val (.ref oq), .val (.int (2 : Int32)), .val (.int (fH (2 : Int32)))] [(.ref oq), (.ref oq)])) rfl rfl (hb hby dsu2_38)
    refine own_st (g' := (mkF m 41 #[.val (.ref oq), .val (.int (2 : Int32)), .val (.int (fH (2 : Int32)))] [(.ref oh), (.ref oq)])) st10 ?_
    refine own_st (T' := T10) (g' := (mkF m 42 #[.val (.ref oq), .val (.int (2 : Int32)), .val (.int (fH (2 : Int32)))] [(.int (2 : Int32)), (.ref oh), (.ref oq)])) (fun _ k => XS.iloadN X10.here hx rfl (hb hby dsu2_41) rfl k) ?_
    refine own_st (T' := T10) (g' := (mkF m 43 #[.val (.ref oq), .val (.int (2 : Int32)), .val (.int (fH (2 : Int32)))] [(.int (1 : Int32)), (.int (2 : Int32)), (.ref oh), (.ref oq)])) (fun _ k => XS.iconst X10.here hx rfl (hb hby dsu2_42) k) ?_
    refine own_st (T' := T10) (g' := (mkF m 44 #[.val (.ref oq), .val (.int (2 : Int32)), .val (.int (fH (2 : Int32)))] [(.int (1 : Int32)), (.ref oh), (.ref oq)])) (fun _ k => XS.isub X10.here hx rfl (hb hby dsu2_43) rfl k) ?_
    refine own_st (T' := T10) (g' := (mkF m 45 #[.val (.ref oq), .val (.int (2 : Int32)), .val (.int (fH (2 : Int32)))] [(.int (2 : Int32)), (.int (1 : Int32)), (.ref oh), (.ref oq)])) (fun _ k => XS.iconst X10.here hx rfl (hb hby dsu2_44) k) ?_
    refine own_st (T' := T10) (g' := (mkF m 46 #[.val (.ref oq), .val (.int (2 : Int32)), .val (.int (fH (2 : Int32)))] [(.int (0 : Int32)), (.ref oh), (.ref oq)])) (fun _ k => XS.idiv X10.here hx rfl (hb hby dsu2_45) rfl (by decide) k) ?_
    obtain ⟨cl11, Ar11, S11, M11, H11⟩ := id Ah_0
    refine own_st (T' := T10) (g' := (mkF m 47 #[.val (.ref oq), .val (.int (2 : Int32)), .val (.int (fH (2 : Int32)))] [(.int (fH (0 : Int32))), (.ref oq)])) (fun _ k => X10.iaload hx (j := (0 : Int32)) (v := (.int (fH (0 : Int32)))) (by rw [e10]; exact Ar11.1) (State.isArrayOf_alike hZ.alike Ar11.2.1) Ar11.2.2 (inb_of S11 ⟨(by decide), (by decide)⟩) (H11 _ (by decide) (by decide)) (g := (mkF m 46 #[.val (.ref oq), .val (.int (2 : Int32)), .val (.int (fH (2 : Int32)))] [(.int (0 : Int32)), (.ref oh), (.ref oq)])) rfl rfl (hb hby dsu2_46) _ k) ?_
    refine own_st (T' := T10) (g' := (mkF m 48 #[.val (.ref oq), .val (.int (2 : Int32)), .val (.int (fH (2 : Int32)))] [(.int (2 : Int32)), (.int (fH (0 : Int32))), (.ref oq)])) (fun _ k => XS.iloadN X10.here hx rfl (hb hby dsu2_47) rfl k) ?_
    refine own_callP X10 hx hZ (y := (⟨"com/example/albatross/albatross/NodeQueue", "place", "(II)V"⟩ : MethodName)) hown (own_w hw 42 rfl) (own_w hw 43 rfl) (own_w hw 1 rfl) (own_w hw 44 rfl) (own_w hw 45 rfl) (own_w hw 2 rfl) (by decide) (W := 0) e10 (b := oq) E_0 (argsL := [(.int (fH (0 : Int32))), (.int (2 : Int32))]) (rest := []) (rmpl l Z a0 hw [] oq oh os ok fH fS fK z1 (fH (0 : Int32)) (2 : Int32) h0 n0 Z0 hd0 (show own_NQ Z h0 oq oh os ok fH fS fK z1 from ⟨E_0, Fh_0, Fs_0, Fk_0, Fz_0, Ah_0, As_0, Ak_0⟩) hb3 hb4 (by decide) (by decide)) (by decide) (by decide) (by decide) (by decide) (g := (mkF m 48 #[.val (.ref oq), .val (.int (2 : Int32)), .val (.int (fH (2 : Int32)))] [(.int (2 : Int32)), (.int (fH (0 : Int32))), (.ref oq)])) rfl (by rw [hml]; rfl) (lenOf own_pd0 rfl) rfl (by show 2 * 0 + _ ≤ _; exact Nat.le_of_eq rfl) (hb hby dsu2_48) ?_
    rintro _ T12 L12 X12 ⟨rfl, N12q, K12, hq_12⟩
    show own_Go _ _ _ _ _ _ _ T12 (mkF m 51 #[.val (.ref oq), .val (.int (2 : Int32)), .val (.int (fH (2 : Int32)))] [])
    have N12 := Fr.app N0 N12q
    obtain ⟨E_12, Fh_12, Fs_12, Fk_12, Fz_12, Ah_12, As_12, Ak_12⟩ := hq_12
    refine own_st (T' := T12) (g' := (mkF m 52 #[.val (.ref oq), .val (.int (2 : Int32)), .val (.int (fH (2 : Int32)))] [(.int (2 : Int32))])) (fun _ k => XS.iloadN X12.here hx rfl (hb hby dsu2_51) rfl k) ?_
    refine own_st (T' := T12) (g' := (mkF m 53 #[.val (.ref oq), .val (.int (2 : Int32)), .val (.int (fH (2 : Int32)))] [(.int (1 : Int32)), (.int (2 : Int32))])) (fun _ k => XS.iconst X12.here hx rfl (hb hby dsu2_52) k) ?_
    refine own_st (T' := T12) (g' := (mkF m 54 #[.val (.ref oq), .val (.int (2 : Int32)), .val (.int (fH (2 : Int32)))] [(.int (1 : Int32))])) (fun _ k => XS.isub X12.here hx rfl (hb hby dsu2_53) rfl k) ?_
    refine own_st (T' := T12) (g' := (mkF m 55 #[.val (.ref oq), .val (.int (2 : Int32)), .val (.int (fH (2 : Int32)))] [(.int (2 : Int32)), (.int (1 : Int32))])) (fun _ k => XS.iconst X12.here hx rfl (hb hby dsu2_54) k) ?_
    refine own_st (T' := T12) (g' := (mkF m 56 #[.val (.ref oq), .val (.int (2 : Int32)), .val (.int (fH (2 : Int32)))] [(.int (0 : Int32))])) (fun _ k => XS.idiv X12.here hx rfl (hb hby dsu2_55) rfl (by decide) k) ?_
    refine own_st (T' := T12) (g' := (mkF m 57 #[.val (.ref oq), .val (.int (0 : Int32)), .val (.int (fH (2 : Int32)))] [])) (fun _ k => XS.istoreN X12.here hx rfl (hb hby dsu2_56) rfl (l' := #[.val (.ref oq), .val (.int (0 : Int32)), .val (.int (fH (2 : Int32)))]) rfl k) ?_
    refine own_st (T' := T12) (g' := (mkF m 7 #[.val (.ref oq), .val (.int (0 : Int32)), .val (.int (fH (2 : Int32)))] [])) (fun _ k => XS.goto X12.here hx rfl (pc0 := 57) (pc' := 7) rfl (hb hby dsu2_57) (by decide) (by decide) k) ?_
    refine own_st (T' := T12) (g' := (mkF m 8 #[.val (.ref oq), .val (.int (0 : Int32)), .val (.int (fH (2 : Int32)))] [(.int (0 : Int32))])) (fun _ k => XS.iloadN X12.here hx rfl (hb hby dsu2_7) rfl k) ?_
    refine own_st (T' := T12) (g' := (mkF m 60 #[.val (.ref oq), .val (.int (0 : Int32)), .val (.int (fH (2 : Int32)))] [])) (fun _ k => XS.ifYes X12.here hx rfl (pc0 := 8) (pc' := 60) rfl (hb hby dsu2_8) rfl ((if0 _ _).trans (flt (by decide : ¬ ((0 : Int32) < (0 : Int32)))).2.2.2) (by decide) (by decide) k) ?_
    refine own_st (T' := T12) (g' := (mkF m 61 #[.val (.ref oq), .val (.int (0 : Int32)), .val (.int (fH (2 : Int32)))] [(.ref oq)])) (fun _ k => XS.aloadN X12.here hx rfl (hb hby dsu2_60) rfl rfl k) ?_
    refine own_st (T' := T12) (g' := (mkF m 62 #[.val (.ref oq), .val (.int (0 : Int32)), .val (.int (fH (2 : Int32)))] [(.int (fH (2 : Int32))), (.ref oq)])) (fun _ k => XS.iloadN X12.here hx rfl (hb hby dsu2_61) rfl k) ?_
    refine own_st (T' := T12) (g' := (mkF m 63 #[.val (.ref oq), .val (.int (0 : Int32)), .val (.int (fH (2 : Int32)))] [(.int (0 : Int32)), (.int (fH (2 : Int32))), (.ref oq)])) (fun _ k => XS.iloadN X12.here hx rfl (hb hby dsu2_62) rfl k) ?_
    refine own_callP X12 hx hZ (y := (⟨"com/example/albatross/albatross/NodeQueue", "place", "(II)V"⟩ : MethodName)) hown (own_w hw 42 rfl) (own_w hw 43 rfl) (own_w hw 1 rfl) (own_w hw 44 rfl) (own_w hw 45 rfl) (own_w hw 2 rfl) (by decide) (W := 0) rfl (b := oq) E_12 (argsL := [(.int (fH (2 : Int32))), (.int (0 : Int32))]) (rest := []) (rmpl l Z a0 hw [] oq oh os ok (own_up fH (2 : Int32) (fH (0 : Int32))) (own_up fS (fH (0 : Int32)) (2 : Int32)) fK z1 (fH (2 : Int32)) (0 : Int32) T12.heap n0 (Nat.le_trans Z0 K12.1) hd0 (show own_NQ Z T12.heap oq oh os ok (own_up fH (2 : Int32) (fH (0 : Int32))) (own_up fS (fH (0 : Int32)) (2 : Int32)) fK z1 from ⟨E_12, Fh_12, Fs_12, Fk_12, Fz_12, Ah_12, As_12, Ak_12⟩) hb1 hb2 (by decide) (by decide)) (by decide) (by decide) (by decide) (by decide) (g := (mkF m 63 #[.val (.ref oq), .val (.int (0 : Int32)), .val (.int (fH (2 : Int32)))] [(.int (0 : Int32)), (.int (fH (2 : Int32))), (.ref oq)])) rfl (by rw [hml]; rfl) (lenOf own_pd0 rfl) rfl (by show 2 * 0 + _ ≤ _; exact Nat.le_of_eq rfl) (hb hby dsu2_63) ?_
    rintro _ T13 L13 X13 ⟨rfl, N13q, K13, hq_13⟩
    show own_Go _ _ _ _ _ _ _ T13 (mkF m 66 #[.val (.ref oq), .val (.int (0 : Int32)), .val (.int (fH (2 : Int32)))] [])
    have N13 := Fr.app N12 N13q
    obtain ⟨E_13, Fh_13, Fs_13, Fk_13, Fz_13, Ah_13, As_13, Ak_13⟩ := hq_13
    exact own_retV X13 hx hlk hret (hb hby dsu2_66) ⟨rfl, N13, (((Keep.refl h0 [oq, oh, os, ok]).trans K12 (fun x hx => Or.inl hx)).trans K13 (fun x hx => Or.inl hx)), _, _, ⟨E_13, Fh_13, Fs_13, Fk_13, Fz_13, Ah_13, As_13, Ak_13⟩, Or.inl ⟨hc33_9, rfl, rfl⟩⟩ (by decide) (by decide)
  · refine own_st (T' := T7) (g' := (mkF m 60 #[.val (.ref oq), .val (.int (2 : Int32)), .val (.int (fH (2 : Int32)))] [])) (fun _ k => XS.ifYes X7.here hx rfl (pc0 := 33) (pc' := 60) rfl (hb hby dsu2_33) rfl ((if0 _ _).trans (flt (mt (lw_gt _ _).mp hc33_9)).2.2.2) (by decide) (by decide) k) ?_
    refine own_st (T' := T7) (g' := (mkF m 61 #[.val (.ref oq), .val (.int (2 : Int32)), .val (.int (fH (2 : Int32)))] [(.ref oq)])) (fun _ k => XS.aloadN X7.here hx rfl (hb hby dsu2_60) rfl rfl k) ?_
    refine own_st (T' := T7) (g' := (mkF m 62 #[.val (.ref oq), .val (.int (2 : Int32)), .val (.int (fH (2 : Int32)))] [(.int (fH (2 : Int32))), (.ref oq)])) (fun _ k => XS.iloadN X7.here hx rfl (hb hby dsu2_61) rfl k) ?_
    refine own_st (T' := T7) (g' := (mkF m 63 #[.val (.ref oq), .val (.int (2 : Int32)), .val (.int (fH (2 : Int32)))] [(.int (2 : Int32)), (.int (fH (2 : Int32))), (.ref oq)])) (fun _ k => XS.iloadN X7.here hx rfl (hb hby dsu2_62) rfl k) ?_
    refine own_callP X7 hx hZ (y := (⟨"com/example/albatross/albatross/NodeQueue", "place", "(II)V"⟩ : MethodName)) hown (own_w hw 42 rfl) (own_w hw 43 rfl) (own_w hw 1 rfl) (own_w hw 44 rfl) (own_w hw 45 rfl) (own_w hw 2 rfl) (by decide) (W := 0) e7 (b := oq) E_0 (argsL := [(.int (fH (2 : Int32))), (.int (2 : Int32))]) (rest := []) (rmpl l Z a0 hw [] oq oh os ok fH fS fK z1 (fH (2 : Int32)) (2 : Int32) h0 n0 Z0 hd0 (show own_NQ Z h0 oq oh os ok fH fS fK z1 from ⟨E_0, Fh_0, Fs_0, Fk_0, Fz_0, Ah_0, As_0, Ak_0⟩) hb1 hb2 (by decide) (by decide)) (by decide) (by decide) (by decide) (by decide) (g := (mkF m 63 #[.val (.ref oq), .val (.int (2 : Int32)), .val (.int (fH (2 : Int32)))] [(.int (2 : Int32)), (.int (fH (2 : Int32))), (.ref oq)])) rfl (by rw [hml]; rfl) (lenOf own_pd0 rfl) rfl (by show 2 * 0 + _ ≤ _; exact Nat.le_of_eq rfl) (hb hby dsu2_63) ?_
    rintro _ T14 L14 X14 ⟨rfl, N14q, K14, hq_14⟩
    show own_Go _ _ _ _ _ _ _ T14 (mkF m 66 #[.val (.ref oq), .val (.int (2 : Int32)), .val (.int (fH (2 : Int32)))] [])
    have N14 := Fr.app N0 N14q
    obtain ⟨E_14, Fh_14, Fs_14, Fk_14, Fz_14, Ah_14, As_14, Ak_14⟩ := hq_14
    exact own_retV X14 hx hlk hret (hb hby dsu2_66) ⟨rfl, N14, ((Keep.refl h0 [oq, oh, os, ok]).trans K14 (fun x hx => Or.inl hx)), _, _, ⟨E_14, Fh_14, Fs_14, Fk_14, Fz_14, Ah_14, As_14, Ak_14⟩, Or.inr ⟨hc33_9, rfl, rfl⟩⟩ (by decide) (by decide)
theorem dsd1_0 : decode prog_51_method_7_code 0 = .ok (.aload_n 0, 1) := by decide +kernel
theorem dsd1_1 : decode prog_51_method_7_code 1 = .ok (.getfield 7, 3) := by decide +kernel
theorem dsd1_4 : decode prog_51_method_7_code 4 = .ok (.iload_n 1, 1) := by decide +kernel
theorem dsd1_5 : decode prog_51_method_7_code 5 = .ok (.iaload, 1) := by decide +kernel
theorem dsd1_6 : decode prog_51_method_7_code 6 = .ok (.istore_n 2, 1) := by decide +kernel
theorem dsd1_7 : decode prog_51_method_7_code 7 = .ok (.iconst 2, 1) := by decide +kernel
theorem dsd1_8 : decode prog_51_method_7_code 8 = .ok (.iload_n 1, 1) := by decide +kernel
theorem dsd1_9 : decode prog_51_method_7_code 9 = .ok (.imul, 1) := by decide +kernel
theorem dsd1_10 : decode prog_51_method_7_code 10 = .ok (.iconst 1, 1) := by decide +kernel
theorem dsd1_11 : decode prog_51_method_7_code 11 = .ok (.iadd, 1) := by decide +kernel
theorem dsd1_12 : decode prog_51_method_7_code 12 = .ok (.aload_n 0, 1) := by decide +kernel
theorem dsd1_13 : decode prog_51_method_7_code 13 = .ok (.getfield 26, 3) := by decide +kernel
theorem dsd1_16 : decode prog_51_method_7_code 16 = .ok (.if_icmp .ge 90, 3) := by decide +kernel
theorem dsd1_106 : decode prog_51_method_7_code 106 = .ok (.aload_n 0, 1) := by decide +kernel
theorem dsd1_107 : decode prog_51_method_7_code 107 = .ok (.iload_n 2, 1) := by decide +kernel
theorem dsd1_108 : decode prog_51_method_7_code 108 = .ok (.iload_n 1, 1) := by decide +kernel
theorem dsd1_109 : decode prog_51_method_7_code 109 = .ok (.invokevirtual 34, 3) := by decide +kernel
theorem dsd1_112 : decode prog_51_method_7_code 112 = .ok (.return_, 1) := by decide +kernel
theorem pn_sd1 : plainName "com/example/albatross/albatross/NodeQueue" = true := by first | (simp [plainName, overriddenIn]; done) | decide +kernel
theorem ef_sd1 (m : MethodId) (x0 : Addr) (x1 : Int32) : entryFrame m #[(.ref x0), (.int x1)] 4 = mkF m 0 #[.val (.ref x0), .val (.int x1), .unset, .unset] [] := by first | (simp [entryFrame, mkF, argsToLocals, Value.category]; done) | rfl
set_option maxRecDepth 65536 in
set_option maxHeartbeats 40000000 in
theorem rmsd1 (l : Launch) (Z : State) (a0 : Array Value) (hw : ∀ d ∈ tables_1, d.before a0 Z = true) (ws : List Jvm.Cond) (oq oh os ok : Addr) (fH fS : Int32 → Int32) (fK : Int32 → Int64) (h0 : Heap) (n0 : Nat) (Z0 : n0 ≤ h0.size) (hd : own_Ds n0 oq oh os ok) (hq : own_NQ Z h0 oq oh os ok fH fS fK (1 : Int32)) (hb1 : ¬ (fH (0 : Int32)) < 0) (hb2 : (fH (0 : Int32)) < 3) :
    own_Met l Z ws (⟨"com/example/albatross/albatross/NodeQueue", "siftDown", "(I)V"⟩ : MethodName) prog_51_method_7_code 4 none ({ frames := 1, cells := 0, slots := 0, locals := 14 } : Room) ({ frames := 1, cells := 0, slots := 0, locals := 14 } : Room).cells ({ frames := 1, cells := 0, slots := 0, locals := 14 } : Room).slots #[(.ref oq), (.int (0 : Int32))] h0 (fun v h L => v = none ∧ Fr n0 L ∧ Keep h0 h [oq, oh, os, ok] ∧ (own_NQ Z h oq oh os ok (own_up fH (0 : Int32) (fH (0 : Int32))) (own_up fS (fH (0 : Int32)) (0 : Int32)) fK (1 : Int32))) := by
  refine own_body (plainFor_of_name pn_sd1) ?_
  intro p e s m below meth c s₁ hx hby hml hown hnm hlk hret hZ hh X0 e0
  have N0 := Fr.nil n0
  have hd0 := hd
  obtain ⟨G_q, G_h, G_s, G_k, D1, D2, D3, D4, D5, D6⟩ := hd
  obtain ⟨E_0, Fh_0, Fs_0, Fk_0, Fz_0, Ah_0, As_0, Ak_0⟩ := hq
  refine own_cast (ef_sd1 m oq (0 : Int32)) ?_
  refine own_st (T' := s₁) (g' := (mkF m 1 #[.val (.ref oq), .val (.int (0 : Int32)), .unset, .unset] [(.ref oq)])) (fun _ k => XS.aloadN X0.here hx rfl (hb hby dsd1_0) rfl rfl k) ?_
  obtain ⟨T1, X1, e1, st1⟩ := getF X0 hx hZ hown (host := "") (Or.inl (own_w hw 10 rfl)) Via.refl e0 Fh_0 (g := (mkF m 1 #[.val (.ref oq), .val (.int (0 : Int32)), .unset, .unset] [(.ref oq)])) rfl rfl (hb hby dsd1_1)
  refine own_st (g' := (mkF m 4 #[.val (.ref oq), .val (.int (0 : Int32)), .unset, .unset] [(.ref oh)])) st1 ?_
  refine own_st (T' := T1) (g' := (mkF m 5 #[.val (.ref oq), .val (.int (0 : Int32)), .unset, .unset] [(.int (0 : Int32)), (.ref oh)])) (fun _ k => XS.iloadN X1.here hx rfl (hb hby dsd1_4) rfl k) ?_
  obtain ⟨cl2, Ar2, S2, M2, H2⟩ := id Ah_0
  refine own_st (T' := T1) (g' := (mkF m 6 #[.val (.ref oq), .val (.int (0 : Int32)), .unset, .unset] [(.int (fH (0 : Int32)))])) (fun _ k => X1.iaload hx (j := (0 : Int32)) (v := (.int (fH (0 : Int32)))) (by rw [e1]; exact Ar2.1) (State.isArrayOf_alike hZ.alike Ar2.2.1) Ar2.2.2 (inb_of S2 ⟨(by decide), (by decide)⟩) (H2 _ (by decide) (by decide)) (g := (mkF m 5 #[.val (.ref oq), .val (.int (0 : Int32)), .unset, .unset] [(.int (0 : Int32)), (.ref oh)])) rfl rfl (hb hby dsd1_5) _ k) ?_
  refine own_st (T' := T1) (g' := (mkF m 7 #[.val (.ref oq), .val (.int (0 : Int32)), .val (.int (fH (0 : Int32))), .unset] [])) (fun _ k => XS.istoreN X1.here hx rfl (hb hby dsd1_6) rfl (l' := #[.val (.ref oq), .val (.int (0 : Int32)), .val (.int (fH (0 : Int32))), .unset]) rfl k) ?_
  refine own_st (T' := T1) (g' := (mkF m 8 #[.val (.ref oq), .val (.int (0 : Int32)), .val (.int (fH (0 : Int32))), .unset] [(.int (2 : Int32))])) (fun _ k => XS.iconst X1.here hx rfl (hb hby dsd1_7) k) ?_
  refine own_st (T' := T1) (g' := (mkF m 9 #[.val (.ref oq), .val (.int (0 : Int32)), .val (.int (fH (0 : Int32))), .unset] [(.int (0 : Int32)), (.int (2 : Int32))])) (fun _ k => XS.iloadN X1.here hx rfl (hb hby dsd1_8) rfl k) ?_
  refine own_st (T' := T1) (g' := (mkF m 10 #[.val (.ref oq), .val (.int (0 : Int32)), .val (.int (fH (0 : Int32))), .unset] [(.int (0 : Int32))])) (fun _ k => XS.imul X1.here hx rfl (hb hby dsd1_9) rfl k) ?_
  refine own_st (T' := T1) (g' := (mkF m 11 #[.val (.ref oq), .val (.int (0 : Int32)), .val (.int (fH (0 : Int32))), .unset] [(.int (1 : Int32)), (.int (0 : Int32))])) (fun _ k => XS.iconst X1.here hx rfl (hb hby dsd1_10) k) ?_
  refine own_st (T' := T1) (g' := (mkF m 12 #[.val (.ref oq), .val (.int (0 : Int32)), .val (.int (fH (0 : Int32))), .unset] [(.int (1 : Int32))])) (fun _ k => XS.iadd X1.here hx rfl (hb hby dsd1_11) rfl k) ?_
  refine own_st (T' := T1) (g' := (mkF m 13 #[.val (.ref oq), .val (.int (0 : Int32)), .val (.int (fH (0 : Int32))), .unset] [(.ref oq), (.int (1 : Int32))])) (fun _ k => XS.aloadN X1.here hx rfl (hb hby dsd1_12) rfl rfl k) ?_
  obtain ⟨T3, X3, e3, st3⟩ := getF X1 hx hZ hown (host := "") (Or.inl (own_w hw 27 rfl)) Via.refl e1 Fz_0 (g := (mkF m 13 #[.val (.ref oq), .val (.int (0 : Int32)), .val (.int (fH (0 : Int32))), .unset] [(.ref oq), (.int (1 : Int32))])) rfl rfl (hb hby dsd1_13)
  refine own_st (g' := (mkF m 16 #[.val (.ref oq), .val (.int (0 : Int32)), .val (.int (fH (0 : Int32))), .unset] [(.int (1 : Int32)), (.int (1 : Int32))])) st3 ?_
  refine own_st (T' := T3) (g' := (mkF m 106 #[.val (.ref oq), .val (.int (0 : Int32)), .val (.int (fH (0 : Int32))), .unset] [])) (fun _ k => XS.icmpYes X3.here hx rfl (pc0 := 16) (pc' := 106) rfl (hb hby dsd1_16) rfl (flt (by decide : ¬ ((1 : Int32) < (1 : Int32)))).2.1 (by decide) (by decide) k) ?_
  refine own_st (T' := T3) (g' := (mkF m 107 #[.val (.ref oq), .val (.int (0 : Int32)), .val (.int (fH (0 : Int32))), .unset] [(.ref oq)])) (fun _ k => XS.aloadN X3.here hx rfl (hb hby dsd1_106) rfl rfl k) ?_
  refine own_st (T' := T3) (g' := (mkF m 108 #[.val (.ref oq), .val (.int (0 : Int32)), .val (.int (fH (0 : Int32))), .unset] [(.int (fH (0 : Int32))), (.ref oq)])) (fun _ k => XS.iloadN X3.here hx rfl (hb hby dsd1_107) rfl k) ?_
  refine own_st (T' := T3) (g' := (mkF m 109 #[.val (.ref oq), .val (.int (0 : Int32)), .val (.int (fH (0 : Int32))), .unset] [(.int (0 : Int32)), (.int (fH (0 : Int32))), (.ref oq)])) (fun _ k => XS.iloadN X3.here hx rfl (hb hby dsd1_108) rfl k) ?_
  refine own_callP X3 hx hZ (y := (⟨"com/example/albatross/albatross/NodeQueue", "place", "(II)V"⟩ : MethodName)) hown (own_w hw 42 rfl) (own_w hw 43 rfl) (own_w hw 1 rfl) (own_w hw 44 rfl) (own_w hw 45 rfl) (own_w hw 2 rfl) (by decide) (W := 0) e3 (b := oq) E_0 (argsL := [(.int (fH (0 : Int32))), (.int (0 : Int32))]) (rest := []) (rmpl l Z a0 hw [] oq oh os ok fH fS fK (1 : Int32) (fH (0 : Int32)) (0 : Int32) h0 n0 Z0 hd0 (show own_NQ Z h0 oq oh os ok fH fS fK (1 : Int32) from ⟨E_0, Fh_0, Fs_0, Fk_0, Fz_0, Ah_0, As_0, Ak_0⟩) hb1 hb2 (by decide) (by decide)) (by decide) (by decide) (by decide) (by decide) (g := (mkF m 109 #[.val (.ref oq), .val (.int (0 : Int32)), .val (.int (fH (0 : Int32))), .unset] [(.int (0 : Int32)), (.int (fH (0 : Int32))), (.ref oq)])) rfl (by rw [hml]; rfl) (lenOf own_pd0 rfl) rfl (by show 2 * 0 + _ ≤ _; exact Nat.le_of_eq rfl) (hb hby dsd1_109) ?_
  rintro _ T4 L4 X4 ⟨rfl, N4q, K4, hq_4⟩
  show own_Go _ _ _ _ _ _ _ T4 (mkF m 112 #[.val (.ref oq), .val (.int (0 : Int32)), .val (.int (fH (0 : Int32))), .unset] [])
  have N4 := Fr.app N0 N4q
  obtain ⟨E_4, Fh_4, Fs_4, Fk_4, Fz_4, Ah_4, As_4, Ak_4⟩ := hq_4
  exact own_retV X4 hx hlk hret (hb hby dsd1_112) ⟨rfl, N4, ((Keep.refl h0 [oq, oh, os, ok]).trans K4 (fun x hx => Or.inl hx)), ⟨E_4, Fh_4, Fs_4, Fk_4, Fz_4, Ah_4, As_4, Ak_4⟩⟩ (by decide) (by decide)
theorem dsd2_0 : decode prog_51_method_7_code 0 = .ok (.aload_n 0, 1) := by decide +kernel
theorem dsd2_1 : decode prog_51_method_7_code 1 = .ok (.getfield 7, 3) := by decide +kernel
theorem dsd2_4 : decode prog_51_method_7_code 4 = .ok (.iload_n 1, 1) := by decide +kernel
theorem dsd2_5 : decode prog_51_method_7_code 5 = .ok (.iaload, 1) := by decide +kernel
theorem dsd2_6 : decode prog_51_method_7_code 6 = .ok (.istore_n 2, 1) := by decide +kernel
theorem dsd2_7 : decode prog_51_method_7_code 7 = .ok (.iconst 2, 1) := by decide +kernel
theorem dsd2_8 : decode prog_51_method_7_code 8 = .ok (.iload_n 1, 1) := by decide +kernel
theorem dsd2_9 : decode prog_51_method_7_code 9 = .ok (.imul, 1) := by decide +kernel
theorem dsd2_10 : decode prog_51_method_7_code 10 = .ok (.iconst 1, 1) := by decide +kernel
theorem dsd2_11 : decode prog_51_method_7_code 11 = .ok (.iadd, 1) := by decide +kernel
theorem dsd2_12 : decode prog_51_method_7_code 12 = .ok (.aload_n 0, 1) := by decide +kernel
theorem dsd2_13 : decode prog_51_method_7_code 13 = .ok (.getfield 26, 3) := by decide +kernel
theorem dsd2_16 : decode prog_51_method_7_code 16 = .ok (.if_icmp .ge 90, 3) := by decide +kernel
theorem dsd2_19 : decode prog_51_method_7_code 19 = .ok (.iconst 2, 1) := by decide +kernel
theorem dsd2_20 : decode prog_51_method_7_code 20 = .ok (.iload_n 1, 1) := by decide +kernel
theorem dsd2_21 : decode prog_51_method_7_code 21 = .ok (.imul, 1) := by decide +kernel
theorem dsd2_22 : decode prog_51_method_7_code 22 = .ok (.iconst 1, 1) := by decide +kernel
theorem dsd2_23 : decode prog_51_method_7_code 23 = .ok (.iadd, 1) := by decide +kernel
theorem dsd2_24 : decode prog_51_method_7_code 24 = .ok (.istore_n 3, 1) := by decide +kernel
theorem dsd2_25 : decode prog_51_method_7_code 25 = .ok (.iload_n 3, 1) := by decide +kernel
theorem dsd2_26 : decode prog_51_method_7_code 26 = .ok (.iconst 1, 1) := by decide +kernel
theorem dsd2_27 : decode prog_51_method_7_code 27 = .ok (.iadd, 1) := by decide +kernel
theorem dsd2_28 : decode prog_51_method_7_code 28 = .ok (.aload_n 0, 1) := by decide +kernel
theorem dsd2_29 : decode prog_51_method_7_code 29 = .ok (.getfield 26, 3) := by decide +kernel
theorem dsd2_32 : decode prog_51_method_7_code 32 = .ok (.if_icmp .ge 34, 3) := by decide +kernel
theorem dsd2_66 : decode prog_51_method_7_code 66 = .ok (.aload_n 0, 1) := by decide +kernel
theorem dsd2_67 : decode prog_51_method_7_code 67 = .ok (.getfield 16, 3) := by decide +kernel
theorem dsd2_70 : decode prog_51_method_7_code 70 = .ok (.aload_n 0, 1) := by decide +kernel
theorem dsd2_71 : decode prog_51_method_7_code 71 = .ok (.getfield 7, 3) := by decide +kernel
theorem dsd2_74 : decode prog_51_method_7_code 74 = .ok (.iload_n 3, 1) := by decide +kernel
theorem dsd2_75 : decode prog_51_method_7_code 75 = .ok (.iaload, 1) := by decide +kernel
theorem dsd2_76 : decode prog_51_method_7_code 76 = .ok (.laload, 1) := by decide +kernel
theorem dsd2_77 : decode prog_51_method_7_code 77 = .ok (.aload_n 0, 1) := by decide +kernel
theorem dsd2_78 : decode prog_51_method_7_code 78 = .ok (.getfield 16, 3) := by decide +kernel
theorem dsd2_81 : decode prog_51_method_7_code 81 = .ok (.iload_n 2, 1) := by decide +kernel
theorem dsd2_82 : decode prog_51_method_7_code 82 = .ok (.laload, 1) := by decide +kernel
theorem dsd2_83 : decode prog_51_method_7_code 83 = .ok (.lcmp, 1) := by decide +kernel
theorem dsd2_84 : decode prog_51_method_7_code 84 = .ok (.ifCond .lt 6, 3) := by decide +kernel
theorem dsd2_87 : decode prog_51_method_7_code 87 = .ok (.goto 19, 3) := by decide +kernel
theorem dsd2_90 : decode prog_51_method_7_code 90 = .ok (.aload_n 0, 1) := by decide +kernel
theorem dsd2_91 : decode prog_51_method_7_code 91 = .ok (.aload_n 0, 1) := by decide +kernel
theorem dsd2_92 : decode prog_51_method_7_code 92 = .ok (.getfield 7, 3) := by decide +kernel
theorem dsd2_95 : decode prog_51_method_7_code 95 = .ok (.iload_n 3, 1) := by decide +kernel
theorem dsd2_96 : decode prog_51_method_7_code 96 = .ok (.iaload, 1) := by decide +kernel
theorem dsd2_97 : decode prog_51_method_7_code 97 = .ok (.iload_n 1, 1) := by decide +kernel
theorem dsd2_98 : decode prog_51_method_7_code 98 = .ok (.invokevirtual 34, 3) := by decide +kernel
theorem dsd2_101 : decode prog_51_method_7_code 101 = .ok (.iload_n 3, 1) := by decide +kernel
theorem dsd2_102 : decode prog_51_method_7_code 102 = .ok (.istore_n 1, 1) := by decide +kernel
theorem dsd2_103 : decode prog_51_method_7_code 103 = .ok (.goto (-96), 3) := by decide +kernel
theorem dsd2_106 : decode prog_51_method_7_code 106 = .ok (.aload_n 0, 1) := by decide +kernel
theorem dsd2_107 : decode prog_51_method_7_code 107 = .ok (.iload_n 2, 1) := by decide +kernel
theorem dsd2_108 : decode prog_51_method_7_code 108 = .ok (.iload_n 1, 1) := by decide +kernel
theorem dsd2_109 : decode prog_51_method_7_code 109 = .ok (.invokevirtual 34, 3) := by decide +kernel
theorem dsd2_112 : decode prog_51_method_7_code 112 = .ok (.return_, 1) := by decide +kernel
theorem pn_sd2 : plainName "com/example/albatross/albatross/NodeQueue" = true := by first | (simp [plainName, overriddenIn]; done) | decide +kernel
theorem ef_sd2 (m : MethodId) (x0 : Addr) (x1 : Int32) : entryFrame m #[(.ref x0), (.int x1)] 4 = mkF m 0 #[.val (.ref x0), .val (.int x1), .unset, .unset] [] := by first | (simp [entryFrame, mkF, argsToLocals, Value.category]; done) | rfl
set_option maxRecDepth 65536 in
set_option maxHeartbeats 40000000 in
theorem rmsd2 (l : Launch) (Z : State) (a0 : Array Value) (hw : ∀ d ∈ tables_1, d.before a0 Z = true) (ws : List Jvm.Cond) (oq oh os ok : Addr) (fH fS : Int32 → Int32) (fK : Int32 → Int64) (h0 : Heap) (n0 : Nat) (Z0 : n0 ≤ h0.size) (hd : own_Ds n0 oq oh os ok) (hq : own_NQ Z h0 oq oh os ok fH fS fK (2 : Int32)) (hb1 : ¬ (fH (0 : Int32)) < 0) (hb2 : (fH (0 : Int32)) < 3) (hb3 : ¬ (fH (1 : Int32)) < 0) (hb4 : (fH (1 : Int32)) < 3) :
    own_Met l Z ws (⟨"com/example/albatross/albatross/NodeQueue", "siftDown", "(I)V"⟩ : MethodName) prog_51_method_7_code 4 none ({ frames := 1, cells := 0, slots := 0, locals := 14 } : Room) ({ frames := 1, cells := 0, slots := 0, locals := 14 } : Room).cells ({ frames := 1, cells := 0, slots := 0, locals := 14 } : Room).slots #[(.ref oq), (.int (0 : Int32))] h0 (fun v h L => v = none ∧ Fr n0 L ∧ Keep h0 h [oq, oh, os, ok] ∧ (∃ H' S', own_NQ Z h oq oh os ok H' S' fK (2 : Int32) ∧ own_sd fH fS fK H' S')) := by
  refine own_body (plainFor_of_name pn_sd2) ?_
  intro p e s m below meth c s₁ hx hby hml hown hnm hlk hret hZ hh X0 e0
  have N0 := Fr.nil n0
  have hd0 := hd
  obtain ⟨G_q, G_h, G_s, G_k, D1, D2, D3, D4, D5, D6⟩ := hd
  obtain ⟨E_0, Fh_0, Fs_0, Fk_0, Fz_0, Ah_0, As_0, Ak_0⟩ := hq
  refine own_cast (ef_sd2 m oq (0 : Int32)) ?_
  refine own_st (T' := s₁) (g' := (mkF m 1 #[.val (.ref oq), .val (.int (0 : Int32)), .unset, .unset] [(.ref oq)])) (fun _ k => XS.aloadN X0.here hx rfl (hb hby dsd2_0) rfl rfl k) ?_
  obtain ⟨T1, X1, e1, st1⟩ := getF X0 hx hZ hown (host := "") (Or.inl (own_w hw 10 rfl)) Via.refl e0 Fh_0 (g := (mkF m 1 #[.val (.ref oq), .val (.int (0 : Int32)), .unset, .unset] [(.ref oq)])) rfl rfl (hb hby dsd2_1)
  refine own_st (g' := (mkF m 4 #[.val (.ref oq), .val (.int (0 : Int32)), .unset, .unset] [(.ref oh)])) st1 ?_
  refine own_st (T' := T1) (g' := (mkF m 5 #[.val (.ref oq), .val (.int (0 : Int32)), .unset, .unset] [(.int (0 : Int32)), (.ref oh)])) (fun _ k => XS.iloadN X1.here hx rfl (hb hby dsd2_4) rfl k) ?_
  obtain ⟨cl2, Ar2, S2, M2, H2⟩ := id Ah_0
  refine own_st (T' := T1) (g' := (mkF m 6 #[.val (.ref oq), .val (.int (0 : Int32)), .unset, .unset] [(.int (fH (0 : Int32)))])) (fun _ k => X1.iaload hx (j := (0 : Int32)) (v := (.int (fH (0 : Int32)))) (by rw [e1]; exact Ar2.1) (State.isArrayOf_alike hZ.alike Ar2.2.1) Ar2.2.2 (inb_of S2 ⟨(by decide), (by decide)⟩) (H2 _ (by decide) (by decide)) (g := (mkF m 5 #[.val (.ref oq), .val (.int (0 : Int32)), .unset, .unset] [(.int (0 : Int32)), (.ref oh)])) rfl rfl (hb hby dsd2_5) _ k) ?_
  refine own_st (T' := T1) (g' := (mkF m 7 #[.val (.ref oq), .val (.int (0 : Int32)), .val (.int (fH (0 : Int32))), .unset] [])) (fun _ k => XS.istoreN X1.here hx rfl (hb hby dsd2_6) rfl (l' := #[.val (.ref oq), .val (.int (0 : Int32)), .val (.int (fH (0 : Int32))), .unset]) rfl k) ?_
  refine own_st (T' := T1) (g' := (mkF m 8 #[.val (.ref oq), .val (.int (0 : Int32)), .val (.int (fH (0 : Int32))), .unset] [(.int (2 : Int32))])) (fun _ k => XS.iconst X1.here hx rfl (hb hby dsd2_7) k) ?_
  refine own_st (T' := T1) (g' := (mkF m 9 #[.val (.ref oq), .val (.int (0 : Int32)), .val (.int (fH (0 : Int32))), .unset] [(.int (0 : Int32)), (.int (2 : Int32))])) (fun _ k => XS.iloadN X1.here hx rfl (hb hby dsd2_8) rfl k) ?_
  refine own_st (T' := T1) (g' := (mkF m 10 #[.val (.ref oq), .val (.int (0 : Int32)), .val (.int (fH (0 : Int32))), .unset] [(.int (0 : Int32))])) (fun _ k => XS.imul X1.here hx rfl (hb hby dsd2_9) rfl k) ?_
  refine own_st (T' := T1) (g' := (mkF m 11 #[.val (.ref oq), .val (.int (0 : Int32)), .val (.int (fH (0 : Int32))), .unset] [(.int (1 : Int32)), (.int (0 : Int32))])) (fun _ k => XS.iconst X1.here hx rfl (hb hby dsd2_10) k) ?_
  refine own_st (T' := T1) (g' := (mkF m 12 #[.val (.ref oq), .val (.int (0 : Int32)), .val (.int (fH (0 : Int32))), .unset] [(.int (1 : Int32))])) (fun _ k => XS.iadd X1.here hx rfl (hb hby dsd2_11) rfl k) ?_
  refine own_st (T' := T1) (g' := (mkF m 13 #[.val (.ref oq), .val (.int (0 : Int32)), .val (.int (fH (0 : Int32))), .unset] [(.ref oq), (.int (1 : Int32))])) (fun _ k => XS.aloadN X1.here hx rfl (hb hby dsd2_12) rfl rfl k) ?_
  obtain ⟨T3, X3, e3, st3⟩ := getF X1 hx hZ hown (host := "") (Or.inl (own_w hw 27 rfl)) Via.refl e1 Fz_0 (g := (mkF m 13 #[.val (.ref oq), .val (.int (0 : Int32)), .val (.int (fH (0 : Int32))), .unset] [(.ref oq), (.int (1 : Int32))])) rfl rfl (hb hby dsd2_13)
  refine own_st (g' := (mkF m 16 #[.val (.ref oq), .val (.int (0 : Int32)), .val (.int (fH (0 : Int32))), .unset] [(.int (2 : Int32)), (.int (1 : Int32))])) st3 ?_
  refine own_st (T' := T3) (g' := (mkF m 19 #[.val (.ref oq), .val (.int (0 : Int32)), .val (.int (fH (0 : Int32))), .unset] [])) (fun _ k => XS.icmpNo X3.here hx rfl (hb hby dsd2_16) rfl (tlt (by decide : ((1 : Int32) < (2 : Int32)))).2.1 k) ?_
  refine own_st (T' := T3) (g' := (mkF m 20 #[.val (.ref oq), .val (.int (0 : Int32)), .val (.int (fH (0 : Int32))), .unset] [(.int (2 : Int32))])) (fun _ k => XS.iconst X3.here hx rfl (hb hby dsd2_19) k) ?_
  refine own_st (T' := T3) (g' := (mkF m 21 #[.val (.ref oq), .val (.int (0 : Int32)), .val (.int (fH (0 : Int32))), .unset] [(.int (0 : Int32)), (.int (2 : Int32))])) (fun _ k => XS.iloadN X3.here hx rfl (hb hby dsd2_20) rfl k) ?_
  refine own_st (T' := T3) (g' := (mkF m 22 #[.val (.ref oq), .val (.int (0 : Int32)), .val (.int (fH (0 : Int32))), .unset] [(.int (0 : Int32))])) (fun _ k => XS.imul X3.here hx rfl (hb hby dsd2_21) rfl k) ?_
  refine own_st (T' := T3) (g' := (mkF m 23 #[.val (.ref oq), .val (.int (0 : Int32)), .val (.int (fH (0 : Int32))), .unset] [(.int (1 : Int32)), (.int (0 : Int32))])) (fun _ k => XS.iconst X3.here hx rfl (hb hby dsd2_22) k) ?_
  refine own_st (T' := T3) (g' := (mkF m 24 #[.val (.ref oq), .val (.int (0 : Int32)), .val (.int (fH (0 : Int32))), .unset] [(.int (1 : Int32))])) (fun _ k => XS.iadd X3.here hx rfl (hb hby dsd2_23) rfl k) ?_
  refine own_st (T' := T3) (g' := (mkF m 25 #[.val (.ref oq), .val (.int (0 : Int32)), .val (.int (fH (0 : Int32))), .val (.int (1 : Int32))] [])) (fun _ k => XS.istoreN X3.here hx rfl (hb hby dsd2_24) rfl (l' := #[.val (.ref oq), .val (.int (0 : Int32)), .val (.int (fH (0 : Int32))), .val (.int (1 : Int32))]) rfl k) ?_
  refine own_st (T' := T3) (g' := (mkF m 26 #[.val (.ref oq), .val (.int (0 : Int32)), .val (.int (fH (0 : Int32))), .val (.int (1 : Int32))] [(.int (1 : Int32))])) (fun _ k => XS.iloadN X3.here hx rfl (hb hby dsd2_25) rfl k) ?_
  refine own_st (T' := T3) (g' := (mkF m 27 #[.val (.ref oq), .val (.int (0 : Int32)), .val (.int (fH (0 : Int32))), .val (.int (1 : Int32))] [(.int (1 : Int32)), (.int (1 : Int32))])) (fun _ k => XS.iconst X3.here hx rfl (hb hby dsd2_26) k) ?_
  refine own_st (T' := T3) (g' := (mkF m 28 #[.val (.ref oq), .val (.int (0 : Int32)), .val (.int (fH (0 : Int32))), .val (.int (1 : Int32))] [(.int (2 : Int32))])) (fun _ k => XS.iadd X3.here hx rfl (hb hby dsd2_27) rfl k) ?_
  refine own_st (T' := T3) (g' := (mkF m 29 #[.val (.ref oq), .val (.int (0 : Int32)), .val (.int (fH (0 : Int32))), .val (.int (1 : Int32))] [(.ref oq), (.int (2 : Int32))])) (fun _ k => XS.aloadN X3.here hx rfl (hb hby dsd2_28) rfl rfl k) ?_
  obtain ⟨T4, X4, e4, st4⟩ := getF X3 hx hZ hown (host := "") (Or.inl (own_w hw 27 rfl)) Via.refl e3 Fz_0 (g := (mkF m 29 #[.val (.ref oq), .val (.int (0 : Int32)), .val (.int (fH (0 : Int32))), .val (.int (1 : Int32))] [(.ref oq), (.int (2 : Int32))])) rfl rfl (hb hby dsd2_29)
  refine own_st (g' := (mkF m 32 #[.val (.ref oq), .val (.int (0 : Int32)), .val (.int (fH (0 : Int32))), .val (.int (1 : Int32))] [(.int (2 : Int32)), (.int (2 : Int32))])) st4 ?_
  refine own_st (T' := T4) (g' := (mkF m 66 #[.val (.ref oq), .val (.int (0 : Int32)), .val (.int (fH (0 : Int32))), .val (.int (1 : Int32))] [])) (fun _ k => XS.icmpYes X4.here hx rfl (pc0 := 32) (pc' := 66) rfl (hb hby dsd2_32) rfl (flt (by decide : ¬ ((2 : Int32) < (2 : Int32)))).2.1 (by decide) (by decide) k) ?_
  refine own_st (T' := T4) (g' := (mkF m 67 #[.val (.ref oq), .val (.int (0 : Int32)), .val (.int (fH (0 : Int32))), .val (.int (1 : Int32))] [(.ref oq)])) (fun _ k => XS.aloadN X4.here hx rfl (hb hby dsd2_66) rfl rfl k) ?_
  obtain ⟨T5, X5, e5, st5⟩ := getF X4 hx hZ hown (host := "") (Or.inl (own_w hw 15 rfl)) Via.refl e4 Fk_0 (g := (mkF m 67 #[.val (.ref oq), .val (.int (0 : Int32)), .val (.int (fH (0 : Int32))), .val (.int (1 : Int32))] [(.ref oq)])) rfl rfl (hb hby dsd2_67)
  refine own_st (g' := (mkF m 70 #[.val (.ref oq), .val (.int (0 : Int32)), .val (.int (fH (0 : Int32))), .val (.int (1 : Int32))] [(.ref ok)])) st5 ?_
  refine own_st (T' := T5) (g' := (mkF m 71 #[.val (.ref oq), .val (.int (0 : Int32)), .val (.int (fH (0 : Int32))), .val (.int (1 : Int32))] [(.ref oq), (.ref ok)])) (fun _ k => XS.aloadN X5.here hx rfl (hb hby dsd2_70) rfl rfl k) ?_
  obtain ⟨T6, X6, e6, st6⟩ := getF X5 hx hZ hown (host := "") (Or.inl (own_w hw 10 rfl)) Via.refl e5 Fh_0 (g := (mkF m 71 #[.val (.ref oq), .val (.int (0 : Int32)), .val (.int (fH (0 : Int32))), .val (.int (1 : Int32))] [(.ref oq), (.ref ok)])) rfl rfl (hb hby dsd2_71)
  refine own_st (g' := (mkF m 74 #[.val (.ref oq), .val (.int (0 : Int32)), .val (.int (fH (0 : Int32))), .val (.int (1 : Int32))] [(.ref oh), (.ref ok)])) st6 ?_
  refine own_st (T' := T6) (g' := (mkF m 75 #[.val (.ref oq), .val (.int (0 : Int32)), .val (.int (fH (0 : Int32))), .val (.int (1 : Int32))] [(.int (1 : Int32)), (.ref oh), (.ref ok)])) (fun _ k => XS.iloadN X6.here hx rfl (hb hby dsd2_74) rfl k) ?_
  obtain ⟨cl7, Ar7, S7, M7, H7⟩ := id Ah_0
  refine own_st (T' := T6) (g' := (mkF m 76 #[.val (.ref oq), .val (.int (0 : Int32)), .val (.int (fH (0 : Int32))), .val (.int (1 : Int32))] [(.int (fH (1 : Int32))), (.ref ok)])) (fun _ k => X6.iaload hx (j := (1 : Int32)) (v := (.int (fH (1 : Int32)))) (by rw [e6]; exact Ar7.1) (State.isArrayOf_alike hZ.alike Ar7.2.1) Ar7.2.2 (inb_of S7 ⟨(by decide), (by decide)⟩) (H7 _ (by decide) (by decide)) (g := (mkF m 75 #[.val (.ref oq), .val (.int (0 : Int32)), .val (.int (fH (0 : Int32))), .val (.int (1 : Int32))] [(.int (1 : Int32)), (.ref oh), (.ref ok)])) rfl rfl (hb hby dsd2_75) _ k) ?_
  obtain ⟨cl8, Ar8, S8, M8, H8⟩ := id Ak_0
  refine own_st (T' := T6) (g' := (mkF m 77 #[.val (.ref oq), .val (.int (0 : Int32)), .val (.int (fH (0 : Int32))), .val (.int (1 : Int32))] [(.long (fK (fH (1 : Int32))))])) (fun _ k => X6.laload hx (j := (fH (1 : Int32))) (v := (.long (fK (fH (1 : Int32))))) (by rw [e6]; exact Ar8.1) (State.isArrayOf_alike hZ.alike Ar8.2.1) Ar8.2.2 (inb_of S8 ⟨hb3, hb4⟩) (H8 _ hb3 hb4) (g := (mkF m 76 #[.val (.ref oq), .val (.int (0 : Int32)), .val (.int (fH (0 : Int32))), .val (.int (1 : Int32))] [(.int (fH (1 : Int32))), (.ref ok)])) rfl rfl (hb hby dsd2_76) _ k) ?_
  refine own_st (T' := T6) (g' := (mkF m 78 #[.val (.ref oq), .val (.int (0 : Int32)), .val (.int (fH (0 : Int32))), .val (.int (1 : Int32))] [(.ref oq), (.long (fK (fH (1 : Int32))))])) (fun _ k => XS.aloadN X6.here hx rfl (hb hby dsd2_77) rfl rfl k) ?_
  obtain ⟨T9, X9, e9, st9⟩ := getF X6 hx hZ hown (host := "") (Or.inl (own_w hw 15 rfl)) Via.refl e6 Fk_0 (g := (mkF m 78 #[.val (.ref oq), .val (.int (0 : Int32)), .val (.int (fH (0 : Int32))), .val (.int (1 : Int32))] [(.ref oq), (.long (fK (fH (1 : Int32))))])) rfl rfl (hb hby dsd2_78)
  refine own_st (g' := (mkF m 81 #[.val (.ref oq), .val (.int (0 : Int32)), .val (.int (fH (0 : Int32))), .val (.int (1 : Int32))] [(.ref ok), (.long (fK (fH (1 : Int32))))])) st9 ?_
  refine own_st (T' := T9) (g' := (mkF m 82 #[.val (.ref oq), .val (.int (0 : Int32)), .val (.int (fH (0 : Int32))), .val (.int (1 : Int32))] [(.int (fH (0 : Int32))), (.ref ok), (.long (fK (fH (1 : Int32))))])) (fun _ k => XS.iloadN X9.here hx rfl (hb hby dsd2_81) rfl k) ?_
  obtain ⟨cl10, Ar10, S10, M10, H10⟩ := id Ak_0
  refine own_st (T' := T9) (g' := (mkF m 83 #[.val (.ref oq), .val (.int (0 : Int32)), .val (.int (fH (0 : Int32))), .val (.int (1 : Int32))] [(.long (fK (fH (0 : Int32)))), (.long (fK (fH (1 : Int32))))])) (fun _ k => X9.laload hx (j := (fH (0 : Int32))) (v := (.long (fK (fH (0 : Int32))))) (by rw [e9]; exact Ar10.1) (State.isArrayOf_alike hZ.alike Ar10.2.1) Ar10.2.2 (inb_of S10 ⟨hb1, hb2⟩) (H10 _ hb1 hb2) (g := (mkF m 82 #[.val (.ref oq), .val (.int (0 : Int32)), .val (.int (fH (0 : Int32))), .val (.int (1 : Int32))] [(.int (fH (0 : Int32))), (.ref ok), (.long (fK (fH (1 : Int32))))])) rfl rfl (hb hby dsd2_82) _ k) ?_
  refine own_st (T' := T9) (g' := (mkF m 84 #[.val (.ref oq), .val (.int (0 : Int32)), .val (.int (fH (0 : Int32))), .val (.int (1 : Int32))] [(.int (lcmpW (fK (fH (1 : Int32))) (fK (fH (0 : Int32)))))])) (fun _ k => XS.lcmp X9.here hx rfl (hb hby dsd2_83) rfl k) ?_
  by_cases hc84_11 : (fK (fH (1 : Int32))) < (fK (fH (0 : Int32)))
  · refine own_st (T' := T9) (g' := (mkF m 90 #[.val (.ref oq), .val (.int (0 : Int32)), .val (.int (fH (0 : Int32))), .val (.int (1 : Int32))] [])) (fun _ k => XS.ifYes X9.here hx rfl (pc0 := 84) (pc' := 90) rfl (hb hby dsd2_84) rfl ((if0 _ _).trans (tlt ((lw_lt _ _).mpr hc84_11)).1) (by decide) (by decide) k) ?_
    refine own_st (T' := T9) (g' := (mkF m 91 #[.val (.ref oq), .val (.int (0 : Int32)), .val (.int (fH (0 : Int32))), .val (.int (1 : Int32))] [(.ref oq)])) (fun _ k => XS.aloadN X9.here hx rfl (hb hby dsd2_90) rfl rfl k) ?_
    refine own_st (T' := T9) (g' := (mkF m 92 #[.val (.ref oq), .val (.int (0 : Int32)), .val (.int (fH (0 : Int32))), .val (.int (1 : Int32))] [(.ref oq), (.ref oq)])) (fun _ k => XS.aloadN X9.here hx rfl (hb hby dsd2_91) rfl rfl k) ?_
    obtain ⟨T12, X12, e12, st12⟩ := getF X9 hx hZ hown (host := "") (Or.inl (own_w hw 10 rfl)) Via.refl e9 Fh_0 (g := (mkF m 92 #[.val (.ref oq), .val (.int (0 : Int32)), .val (.int (fH (0 : Int32))), .val (.int (1 : Int32))] [(.ref oq), (.ref oq)])) rfl rfl (hb hby dsd2_92)
    refine own_st (g' := (mkF m 95 #[.val (.ref oq), .val (.int (0 : Int32)), .val (.int (fH (0 : Int32))), .val (.int (1 : Int32))] [(.ref oh), (.ref oq)])) st12 ?_
    refine own_st (T' := T12) (g' := (mkF m 96 #[.val (.ref oq), .val (.int (0 : Int32)), .val (.int (fH (0 : Int32))), .val (.int (1 : Int32))] [(.int (1 : Int32)), (.ref oh), (.ref oq)])) (fun _ k => XS.iloadN X12.here hx rfl (hb hby dsd2_95) rfl k) ?_
    obtain ⟨cl13, Ar13, S13, M13, H13⟩ := id Ah_0
    refine own_st (T' := T12) (g' := (mkF m 97 #[.val (.ref oq), .val (.int (0 : Int32)), .val (.int (fH (0 : Int32))), .val (.int (1 : Int32))] [(.int (fH (1 : Int32))), (.ref oq)])) (fun _ k => X12.iaload hx (j := (1 : Int32)) (v := (.int (fH (1 : Int32)))) (by rw [e12]; exact Ar13.1) (State.isArrayOf_alike hZ.alike Ar13.2.1) Ar13.2.2 (inb_of S13 ⟨(by decide), (by decide)⟩) (H13 _ (by decide) (by decide)) (g := (mkF m 96 #[.val (.ref oq), .val (.int (0 : Int32)), .val (.int (fH (0 : Int32))), .val (.int (1 : Int32))] [(.int (1 : Int32)), (.ref oh), (.ref oq)])) rfl rfl (hb hby dsd2_96) _ k) ?_
    refine own_st (T' := T12) (g' := (mkF m 98 #[.val (.ref oq), .val (.int (0 : Int32)), .val (.int (fH (0 : Int32))), .val (.int (1 : Int32))] [(.int (0 : Int32)), (.int (fH (1 : Int32))), (.ref oq)])) (fun _ k => XS.iloadN X12.here hx rfl (hb hby dsd2_97) rfl k) ?_
    refine own_callP X12 hx hZ (y := (⟨"com/example/albatross/albatross/NodeQueue", "place", "(II)V"⟩ : MethodName)) hown (own_w hw 42 rfl) (own_w hw 43 rfl) (own_w hw 1 rfl) (own_w hw 44 rfl) (own_w hw 45 rfl) (own_w hw 2 rfl) (by decide) (W := 0) e12 (b := oq) E_0 (argsL := [(.int (fH (1 : Int32))), (.int (0 : Int32))]) (rest := []) (rmpl l Z a0 hw [] oq oh os ok fH fS fK (2 : Int32) (fH (1 : Int32)) (0 : Int32) h0 n0 Z0 hd0 (show own_NQ Z h0 oq oh os ok fH fS fK (2 : Int32) from ⟨E_0, Fh_0, Fs_0, Fk_0, Fz_0, Ah_0, As_0, Ak_0⟩) hb3 hb4 (by decide) (by decide)) (by decide) (by decide) (by decide) (by decide) (g := (mkF m 98 #[.val (.ref oq), .val (.int (0 : Int32)), .val (.int (fH (0 : Int32))), .val (.int (1 : Int32))] [(.int (0 : Int32)), (.int (fH (1 : Int32))), (.ref oq)])) rfl (by rw [hml]; rfl) (lenOf own_pd0 rfl) rfl (by show 2 * 0 + _ ≤ _; exact Nat.le_of_eq rfl) (hb hby dsd2_98) ?_
    rintro _ T14 L14 X14 ⟨rfl, N14q, K14, hq_14⟩
    show own_Go _ _ _ _ _ _ _ T14 (mkF m 101 #[.val (.ref oq), .val (.int (0 : Int32)), .val (.int (fH (0 : Int32))), .val (.int (1 : Int32))] [])
    have N14 := Fr.app N0 N14q
    obtain ⟨E_14, Fh_14, Fs_14, Fk_14, Fz_14, Ah_14, As_14, Ak_14⟩ := hq_14
    refine own_st (T' := T14) (g' := (mkF m 102 #[.val (.ref oq), .val (.int (0 : Int32)), .val (.int (fH (0 : Int32))), .val (.int (1 : Int32))] [(.int (1 : Int32))])) (fun _ k => XS.iloadN X14.here hx rfl (hb hby dsd2_101) rfl k) ?_
    refine own_st (T' := T14) (g' := (mkF m 103 #[.val (.ref oq), .val (.int (1 : Int32)), .val (.int (fH (0 : Int32))), .val (.int (1 : Int32))] [])) (fun _ k => XS.istoreN X14.here hx rfl (hb hby dsd2_102) rfl (l' := #[.val (.ref oq), .val (.int (1 : Int32)), .val (.int (fH (0 : Int32))), .val (.int (1 : Int32))]) rfl k) ?_
    refine own_st (T' := T14) (g' := (mkF m 7 #[.val (.ref oq), .val (.int (1 : Int32)), .val (.int (fH (0 : Int32))), .val (.int (1 : Int32))] [])) (fun _ k => XS.goto X14.here hx rfl (pc0 := 103) (pc' := 7) rfl (hb hby dsd2_103) (by decide) (by decide) k) ?_
    refine own_st (T' := T14) (g' := (mkF m 8 #[.val (.ref oq), .val (.int (1 : Int32)), .val (.int (fH (0 : Int32))), .val (.int (1 : Int32))] [(.int (2 : Int32))])) (fun _ k => XS.iconst X14.here hx rfl (hb hby dsd2_7) k) ?_
    refine own_st (T' := T14) (g' := (mkF m 9 #[.val (.ref oq), .val (.int (1 : Int32)), .val (.int (fH (0 : Int32))), .val (.int (1 : Int32))] [(.int (1 : Int32)), (.int (2 : Int32))])) (fun _ k => XS.iloadN X14.here hx rfl (hb hby dsd2_8) rfl k) ?_
    refine own_st (T' := T14) (g' := (mkF m 10 #[.val (.ref oq), .val (.int (1 : Int32)), .val (.int (fH (0 : Int32))), .val (.int (1 : Int32))] [(.int (2 : Int32))])) (fun _ k => XS.imul X14.here hx rfl (hb hby dsd2_9) rfl k) ?_
    refine own_st (T' := T14) (g' := (mkF m 11 #[.val (.ref oq), .val (.int (1 : Int32)), .val (.int (fH (0 : Int32))), .val (.int (1 : Int32))] [(.int (1 : Int32)), (.int (2 : Int32))])) (fun _ k => XS.iconst X14.here hx rfl (hb hby dsd2_10) k) ?_
    refine own_st (T' := T14) (g' := (mkF m 12 #[.val (.ref oq), .val (.int (1 : Int32)), .val (.int (fH (0 : Int32))), .val (.int (1 : Int32))] [(.int (3 : Int32))])) (fun _ k => XS.iadd X14.here hx rfl (hb hby dsd2_11) rfl k) ?_
    refine own_st (T' := T14) (g' := (mkF m 13 #[.val (.ref oq), .val (.int (1 : Int32)), .val (.int (fH (0 : Int32))), .val (.int (1 : Int32))] [(.ref oq), (.int (3 : Int32))])) (fun _ k => XS.aloadN X14.here hx rfl (hb hby dsd2_12) rfl rfl k) ?_
    obtain ⟨T15, X15, e15, st15⟩ := getF X14 hx hZ hown (host := "") (Or.inl (own_w hw 27 rfl)) Via.refl rfl Fz_14 (g := (mkF m 13 #[.val (.ref oq), .val (.int (1 : Int32)), .val (.int (fH (0 : Int32))), .val (.int (1 : Int32))] [(.ref oq), (.int (3 : Int32))])) rfl rfl (hb hby dsd2_13)
    refine own_st (g' := (mkF m 16 #[.val (.ref oq), .val (.int (1 : Int32)), .val (.int (fH (0 : Int32))), .val (.int (1 : Int32))] [(.int (2 : Int32)), (.int (3 : Int32))])) st15 ?_
    refine own_st (T' := T15) (g' := (mkF m 106 #[.val (.ref oq), .val (.int (1 : Int32)), .val (.int (fH (0 : Int32))), .val (.int (1 : Int32))] [])) (fun _ k => XS.icmpYes X15.here hx rfl (pc0 := 16) (pc' := 106) rfl (hb hby dsd2_16) rfl (flt (by decide : ¬ ((3 : Int32) < (2 : Int32)))).2.1 (by decide) (by decide) k) ?_
    refine own_st (T' := T15) (g' := (mkF m 107 #[.val (.ref oq), .val (.int (1 : Int32)), .val (.int (fH (0 : Int32))), .val (.int (1 : Int32))] [(.ref oq)])) (fun _ k => XS.aloadN X15.here hx rfl (hb hby dsd2_106) rfl rfl k) ?_
    refine own_st (T' := T15) (g' := (mkF m 108 #[.val (.ref oq), .val (.int (1 : Int32)), .val (.int (fH (0 : Int32))), .val (.int (1 : Int32))] [(.int (fH (0 : Int32))), (.ref oq)])) (fun _ k => XS.iloadN X15.here hx rfl (hb hby dsd2_107) rfl k) ?_
    refine own_st (T' := T15) (g' := (mkF m 109 #[.val (.ref oq), .val (.int (1 : Int32)), .val (.int (fH (0 : Int32))), .val (.int (1 : Int32))] [(.int (1 : Int32)), (.int (fH (0 : Int32))), (.ref oq)])) (fun _ k => XS.iloadN X15.here hx rfl (hb hby dsd2_108) rfl k) ?_
    refine own_callP X15 hx hZ (y := (⟨"com/example/albatross/albatross/NodeQueue", "place", "(II)V"⟩ : MethodName)) hown (own_w hw 42 rfl) (own_w hw 43 rfl) (own_w hw 1 rfl) (own_w hw 44 rfl) (own_w hw 45 rfl) (own_w hw 2 rfl) (by decide) (W := 0) e15 (b := oq) E_14 (argsL := [(.int (fH (0 : Int32))), (.int (1 : Int32))]) (rest := []) (rmpl l Z a0 hw [] oq oh os ok (own_up fH (0 : Int32) (fH (1 : Int32))) (own_up fS (fH (1 : Int32)) (0 : Int32)) fK (2 : Int32) (fH (0 : Int32)) (1 : Int32) T14.heap n0 (Nat.le_trans Z0 K14.1) hd0 (show own_NQ Z T14.heap oq oh os ok (own_up fH (0 : Int32) (fH (1 : Int32))) (own_up fS (fH (1 : Int32)) (0 : Int32)) fK (2 : Int32) from ⟨E_14, Fh_14, Fs_14, Fk_14, Fz_14, Ah_14, As_14, Ak_14⟩) hb1 hb2 (by decide) (by decide)) (by decide) (by decide) (by decide) (by decide) (g := (mkF m 109 #[.val (.ref oq), .val (.int (1 : Int32)), .val (.int (fH (0 : Int32))), .val (.int (1 : Int32))] [(.int (1 : Int32)), (.int (fH (0 : Int32))), (.ref oq)])) rfl (by rw [hml]; rfl) (lenOf own_pd0 rfl) rfl (by show 2 * 0 + _ ≤ _; exact Nat.le_of_eq rfl) (hb hby dsd2_109) ?_
    rintro _ T16 L16 X16 ⟨rfl, N16q, K16, hq_16⟩
    show own_Go _ _ _ _ _ _ _ T16 (mkF m 112 #[.val (.ref oq), .val (.int (1 : Int32)), .val (.int (fH (0 : Int32))), .val (.int (1 : Int32))] [])
    have N16 := Fr.app N14 N16q
    obtain ⟨E_16, Fh_16, Fs_16, Fk_16, Fz_16, Ah_16, As_16, Ak_16⟩ := hq_16
    exact own_retV X16 hx hlk hret (hb hby dsd2_112) ⟨rfl, N16, (((Keep.refl h0 [oq, oh, os, ok]).trans K14 (fun x hx => Or.inl hx)).trans K16 (fun x hx => Or.inl hx)), _, _, ⟨E_16, Fh_16, Fs_16, Fk_16, Fz_16, Ah_16, As_16, Ak_16⟩, Or.inl ⟨hc84_11, rfl, rfl⟩⟩ (by decide) (by decide)
  · refine own_st (T' := T9) (g' := (mkF m 87 #[.val (.ref oq), .val (.int (0 : Int32)), .val (.int (fH (0 : Int32))), .val (.int (1 : Int32))] [])) (fun _ k => XS.ifNo X9.here hx rfl (hb hby dsd2_84) rfl ((if0 _ _).trans (flt (mt (lw_lt _ _).mp hc84_11)).1) k) ?_
    refine own_st (T' := T9) (g' := (mkF m 106 #[.val (.ref oq), .val (.int (0 : Int32)), .val (.int (fH (0 : Int32))), .val (.int (1 : Int32))] [])) (fun _ k => XS.goto X9.here hx rfl (pc0 := 87) (pc' := 106) rfl (hb hby dsd2_87) (by decide) (by decide) k) ?_
    refine own_st (T' := T9) (g' := (mkF m 107 #[.val (.ref oq), .val (.int (0 : Int32)), .val (.int (fH (0 : Int32))), .val (.int (1 : Int32))] [(.ref oq)])) (fun _ k => XS.aloadN X9.here hx rfl (hb hby dsd2_106) rfl rfl k) ?_
    refine own_st (T' := T9) (g' := (mkF m 108 #[.val (.ref oq), .val (.int (0 : Int32)), .val (.int (fH (0 : Int32))), .val (.int (1 : Int32))] [(.int (fH (0 : Int32))), (.ref oq)])) (fun _ k => XS.iloadN X9.here hx rfl (hb hby dsd2_107) rfl k) ?_
    refine own_st (T' := T9) (g' := (mkF m 109 #[.val (.ref oq), .val (.int (0 : Int32)), .val (.int (fH (0 : Int32))), .val (.int (1 : Int32))] [(.int (0 : Int32)), (.int (fH (0 : Int32))), (.ref oq)])) (fun _ k => XS.iloadN X9.here hx rfl (hb hby dsd2_108) rfl k) ?_
    refine own_callP X9 hx hZ (y := (⟨"com/example/albatross/albatross/NodeQueue", "place", "(II)V"⟩ : MethodName)) hown (own_w hw 42 rfl) (own_w hw 43 rfl) (own_w hw 1 rfl) (own_w hw 44 rfl) (own_w hw 45 rfl) (own_w hw 2 rfl) (by decide) (W := 0) e9 (b := oq) E_0 (argsL := [(.int (fH (0 : Int32))), (.int (0 : Int32))]) (rest := []) (rmpl l Z a0 hw [] oq oh os ok fH fS fK (2 : Int32) (fH (0 : Int32)) (0 : Int32) h0 n0 Z0 hd0 (show own_NQ Z h0 oq oh os ok fH fS fK (2 : Int32) from ⟨E_0, Fh_0, Fs_0, Fk_0, Fz_0, Ah_0, As_0, Ak_0⟩) hb1 hb2 (by decide) (by decide)) (by decide) (by decide) (by decide) (by decide) (g := (mkF m 109 #[.val (.ref oq), .val (.int (0 : Int32)), .val (.int (fH (0 : Int32))), .val (.int (1 : Int32))] [(.int (0 : Int32)), (.int (fH (0 : Int32))), (.ref oq)])) rfl (by rw [hml]; rfl) (lenOf own_pd0 rfl) rfl (by show 2 * 0 + _ ≤ _; exact Nat.le_of_eq rfl) (hb hby dsd2_109) ?_
    rintro _ T17 L17 X17 ⟨rfl, N17q, K17, hq_17⟩
    show own_Go _ _ _ _ _ _ _ T17 (mkF m 112 #[.val (.ref oq), .val (.int (0 : Int32)), .val (.int (fH (0 : Int32))), .val (.int (1 : Int32))] [])
    have N17 := Fr.app N0 N17q
    obtain ⟨E_17, Fh_17, Fs_17, Fk_17, Fz_17, Ah_17, As_17, Ak_17⟩ := hq_17
    exact own_retV X17 hx hlk hret (hb hby dsd2_112) ⟨rfl, N17, ((Keep.refl h0 [oq, oh, os, ok]).trans K17 (fun x hx => Or.inl hx)), _, _, ⟨E_17, Fh_17, Fs_17, Fk_17, Fz_17, Ah_17, As_17, Ak_17⟩, Or.inr ⟨hc84_11, rfl, rfl⟩⟩ (by decide) (by decide)
theorem die_0 : decode prog_51_method_2_code 0 = .ok (.aload_n 0, 1) := by decide +kernel
theorem die_1 : decode prog_51_method_2_code 1 = .ok (.getfield 26, 3) := by decide +kernel
theorem die_4 : decode prog_51_method_2_code 4 = .ok (.ifCond .ne 7, 3) := by decide +kernel
theorem die_7 : decode prog_51_method_2_code 7 = .ok (.iconst 1, 1) := by decide +kernel
theorem die_8 : decode prog_51_method_2_code 8 = .ok (.goto 4, 3) := by decide +kernel
theorem die_11 : decode prog_51_method_2_code 11 = .ok (.iconst 0, 1) := by decide +kernel
theorem die_12 : decode prog_51_method_2_code 12 = .ok (.ireturn, 1) := by decide +kernel
theorem pn_ie : plainName "com/example/albatross/albatross/NodeQueue" = true := by first | (simp [plainName, overriddenIn]; done) | decide +kernel
theorem ef_ie (m : MethodId) (x0 : Addr) : entryFrame m #[(.ref x0)] 1 = mkF m 0 #[.val (.ref x0)] [] := by first | (simp [entryFrame, mkF, argsToLocals, Value.category]; done) | rfl
set_option maxRecDepth 65536 in
set_option maxHeartbeats 40000000 in
theorem rmie (l : Launch) (Z : State) (a0 : Array Value) (hw : ∀ d ∈ tables_1, d.before a0 Z = true) (ws : List Jvm.Cond) (oq : Addr) (z1 : Int32) (h0 : Heap) (n0 : Nat) (Z0 : n0 ≤ h0.size) (F1 : Fld Z h0 oq "com/example/albatross/albatross/NodeQueue" "size" "I" (.int z1)) :
    own_Met l Z ws (⟨"com/example/albatross/albatross/NodeQueue", "isEmpty", "()Z"⟩ : MethodName) prog_51_method_2_code 1 (some .boolean) ({ frames := 0, cells := 0, slots := 0, locals := 0 } : Room) ({ frames := 0, cells := 0, slots := 0, locals := 0 } : Room).cells ({ frames := 0, cells := 0, slots := 0, locals := 0 } : Room).slots #[(.ref oq)] h0 (fun v h L => v = some (.int (if z1 = (0 : Int32) then (1 : Int32) else (0 : Int32))) ∧ Fr n0 L ∧ h = h0) := by
  refine own_body (plainFor_of_name pn_ie) ?_
  intro p e s m below meth c s₁ hx hby hml hown hnm hlk hret hZ hh X0 e0
  have N0 := Fr.nil n0
  refine own_cast (ef_ie m oq) ?_
  refine own_st (T' := s₁) (g' := (mkF m 1 #[.val (.ref oq)] [(.ref oq)])) (fun _ k => XS.aloadN X0.here hx rfl (hb hby die_0) rfl rfl k) ?_
  obtain ⟨T1, X1, e1, st1⟩ := getF X0 hx hZ hown (host := "") (Or.inl (own_w hw 27 rfl)) Via.refl e0 F1 (g := (mkF m 1 #[.val (.ref oq)] [(.ref oq)])) rfl rfl (hb hby die_1)
  refine own_st (g' := (mkF m 4 #[.val (.ref oq)] [(.int z1)])) st1 ?_
  by_cases hc4_2 : z1 = (0 : Int32)
  · refine own_st (T' := T1) (g' := (mkF m 7 #[.val (.ref oq)] [])) (fun _ k => XS.ifNo X1.here hx rfl (hb hby die_4) rfl ((if0 _ _).trans (teq hc4_2).2) k) ?_
    refine own_st (T' := T1) (g' := (mkF m 8 #[.val (.ref oq)] [(.int (1 : Int32))])) (fun _ k => XS.iconst X1.here hx rfl (hb hby die_7) k) ?_
    refine own_st (T' := T1) (g' := (mkF m 12 #[.val (.ref oq)] [(.int (1 : Int32))])) (fun _ k => XS.goto X1.here hx rfl (pc0 := 8) (pc' := 12) rfl (hb hby die_8) (by decide) (by decide) k) ?_
    exact own_retN X1 hx hlk hret (by simp) (hb hby die_12) ⟨by simp only [if_pos hc4_2]; rfl, N0, e1⟩ (by decide) (by decide)
  · refine own_st (T' := T1) (g' := (mkF m 11 #[.val (.ref oq)] [])) (fun _ k => XS.ifYes X1.here hx rfl (pc0 := 4) (pc' := 11) rfl (hb hby die_4) rfl ((if0 _ _).trans (feq hc4_2).2) (by decide) (by decide) k) ?_
    refine own_st (T' := T1) (g' := (mkF m 12 #[.val (.ref oq)] [(.int (0 : Int32))])) (fun _ k => XS.iconst X1.here hx rfl (hb hby die_11) k) ?_
    exact own_retN X1 hx hlk hret (by simp) (hb hby die_12) ⟨by simp only [if_neg hc4_2]; rfl, N0, e1⟩ (by decide) (by decide)
theorem dfi_0 : decode jdk_65_method_103_code 0 = .ok (.iconst 0, 1) := by decide +kernel
theorem dfi_1 : decode jdk_65_method_103_code 1 = .ok (.istore_n 2, 1) := by decide +kernel
theorem dfi_2 : decode jdk_65_method_103_code 2 = .ok (.aload_n 0, 1) := by decide +kernel
theorem dfi_3 : decode jdk_65_method_103_code 3 = .ok (.arraylength, 1) := by decide +kernel
theorem dfi_4 : decode jdk_65_method_103_code 4 = .ok (.istore_n 3, 1) := by decide +kernel
theorem dfi_5 : decode jdk_65_method_103_code 5 = .ok (.iload_n 2, 1) := by decide +kernel
theorem dfi_6 : decode jdk_65_method_103_code 6 = .ok (.iload_n 3, 1) := by decide +kernel
theorem dfi_7 : decode jdk_65_method_103_code 7 = .ok (.if_icmp .ge 13, 3) := by decide +kernel
theorem dfi_10 : decode jdk_65_method_103_code 10 = .ok (.aload_n 0, 1) := by decide +kernel
theorem dfi_11 : decode jdk_65_method_103_code 11 = .ok (.iload_n 2, 1) := by decide +kernel
theorem dfi_12 : decode jdk_65_method_103_code 12 = .ok (.iload_n 1, 1) := by decide +kernel
theorem dfi_13 : decode jdk_65_method_103_code 13 = .ok (.iastore, 1) := by decide +kernel
theorem dfi_14 : decode jdk_65_method_103_code 14 = .ok (.iinc 2 1, 3) := by decide +kernel
theorem dfi_17 : decode jdk_65_method_103_code 17 = .ok (.goto (-12), 3) := by decide +kernel
theorem dfi_20 : decode jdk_65_method_103_code 20 = .ok (.return_, 1) := by decide +kernel
theorem pn_fi : plainName "java/util/Arrays" = true := by first | (simp [plainName, overriddenIn]; done) | decide +kernel
theorem ef_fi (m : MethodId) (x0 : Addr) (x1 : Int32) : entryFrame m #[(.ref x0), (.int x1)] 4 = mkF m 0 #[.val (.ref x0), .val (.int x1), .unset, .unset] [] := by first | (simp [entryFrame, mkF, argsToLocals, Value.category]; done) | rfl
set_option maxRecDepth 65536 in
set_option maxHeartbeats 40000000 in
theorem rmfi (l : Launch) (Z : State) (a0 : Array Value) (hw : ∀ d ∈ tables_1, d.before a0 Z = true) (ws : List Jvm.Cond) (os : Addr) (fS : Int32 → Int32) (h0 : Heap) (n0 : Nat) (Z0 : n0 ≤ h0.size) (A1 : own_A Z h0 os .int (3 : Int32) (fun i => (.int (fS i)))) (G1 : n0 ≤ os) :
    own_Met l Z ws (⟨"java/util/Arrays", "fill", "([II)V"⟩ : MethodName) jdk_65_method_103_code 4 none ({ frames := 0, cells := 0, slots := 0, locals := 0 } : Room) ({ frames := 0, cells := 0, slots := 0, locals := 0 } : Room).cells ({ frames := 0, cells := 0, slots := 0, locals := 0 } : Room).slots #[(.ref os), (.int (-1 : Int32))] h0 (fun v h L => v = none ∧ Fr n0 L ∧ Keep h0 h [os] ∧ own_A Z h os .int (3 : Int32) (fun i => (.int ((own_up (own_up (own_up fS (0 : Int32) (-1 : Int32)) (1 : Int32) (-1 : Int32)) (2 : Int32) (-1 : Int32)) i)))) := by
  refine own_body (plainFor_of_name pn_fi) ?_
  intro p e s m below meth c s₁ hx hby hml hown hnm hlk hret hZ hh X0 e0
  have N0 := Fr.nil n0
  refine own_cast (ef_fi m os (-1 : Int32)) ?_
  refine own_st (T' := s₁) (g' := (mkF m 1 #[.val (.ref os), .val (.int (-1 : Int32)), .unset, .unset] [(.int (0 : Int32))])) (fun _ k => XS.iconst X0.here hx rfl (hb hby dfi_0) k) ?_
  refine own_st (T' := s₁) (g' := (mkF m 2 #[.val (.ref os), .val (.int (-1 : Int32)), .val (.int (0 : Int32)), .unset] [])) (fun _ k => XS.istoreN X0.here hx rfl (hb hby dfi_1) rfl (l' := #[.val (.ref os), .val (.int (-1 : Int32)), .val (.int (0 : Int32)), .unset]) rfl k) ?_
  refine own_st (T' := s₁) (g' := (mkF m 3 #[.val (.ref os), .val (.int (-1 : Int32)), .val (.int (0 : Int32)), .unset] [(.ref os)])) (fun _ k => XS.aloadN X0.here hx rfl (hb hby dfi_2) rfl rfl k) ?_
  obtain ⟨cl1, Ar1, S1, M1, H1⟩ := id A1
  refine own_st (T' := s₁) (g' := (mkF m 4 #[.val (.ref os), .val (.int (-1 : Int32)), .val (.int (0 : Int32)), .unset] [(.int (3 : Int32))])) (fun _ k => X0.arraylength hx (by rw [e0]; exact Ar1.1) (State.isArrayOf_alike hZ.alike Ar1.2.1) (g := (mkF m 3 #[.val (.ref os), .val (.int (-1 : Int32)), .val (.int (0 : Int32)), .unset] [(.ref os)])) rfl rfl (hb hby dfi_3) _ (by rw [len_of S1 M1]; exact k)) ?_
  refine own_st (T' := s₁) (g' := (mkF m 5 #[.val (.ref os), .val (.int (-1 : Int32)), .val (.int (0 : Int32)), .val (.int (3 : Int32))] [])) (fun _ k => XS.istoreN X0.here hx rfl (hb hby dfi_4) rfl (l' := #[.val (.ref os), .val (.int (-1 : Int32)), .val (.int (0 : Int32)), .val (.int (3 : Int32))]) rfl k) ?_
  refine own_st (T' := s₁) (g' := (mkF m 6 #[.val (.ref os), .val (.int (-1 : Int32)), .val (.int (0 : Int32)), .val (.int (3 : Int32))] [(.int (0 : Int32))])) (fun _ k => XS.iloadN X0.here hx rfl (hb hby dfi_5) rfl k) ?_
  refine own_st (T' := s₁) (g' := (mkF m 7 #[.val (.ref os), .val (.int (-1 : Int32)), .val (.int (0 : Int32)), .val (.int (3 : Int32))] [(.int (3 : Int32)), (.int (0 : Int32))])) (fun _ k => XS.iloadN X0.here hx rfl (hb hby dfi_6) rfl k) ?_
  refine own_st (T' := s₁) (g' := (mkF m 10 #[.val (.ref os), .val (.int (-1 : Int32)), .val (.int (0 : Int32)), .val (.int (3 : Int32))] [])) (fun _ k => XS.icmpNo X0.here hx rfl (hb hby dfi_7) rfl (tlt (by decide : ((0 : Int32) < (3 : Int32)))).2.1 k) ?_
  refine own_st (T' := s₁) (g' := (mkF m 11 #[.val (.ref os), .val (.int (-1 : Int32)), .val (.int (0 : Int32)), .val (.int (3 : Int32))] [(.ref os)])) (fun _ k => XS.aloadN X0.here hx rfl (hb hby dfi_10) rfl rfl k) ?_
  refine own_st (T' := s₁) (g' := (mkF m 12 #[.val (.ref os), .val (.int (-1 : Int32)), .val (.int (0 : Int32)), .val (.int (3 : Int32))] [(.int (0 : Int32)), (.ref os)])) (fun _ k => XS.iloadN X0.here hx rfl (hb hby dfi_11) rfl k) ?_
  refine own_st (T' := s₁) (g' := (mkF m 13 #[.val (.ref os), .val (.int (-1 : Int32)), .val (.int (0 : Int32)), .val (.int (3 : Int32))] [(.int (-1 : Int32)), (.int (0 : Int32)), (.ref os)])) (fun _ k => XS.iloadN X0.here hx rfl (hb hby dfi_12) rfl k) ?_
  obtain ⟨cl2, Ar2, S2, M2, H2⟩ := id A1
  obtain ⟨T2, h2, X2, e2, W2, st2⟩ := stI X0 hx hZ e0 Ar2 (j := (0 : Int32)) (inb_of S2 ⟨(by decide), (by decide)⟩) (g := (mkF m 13 #[.val (.ref os), .val (.int (-1 : Int32)), .val (.int (0 : Int32)), .val (.int (3 : Int32))] [(.int (-1 : Int32)), (.int (0 : Int32)), (.ref os)])) rfl rfl (hb hby dfi_13)
  have V2 : own_A Z h2 os .int (3 : Int32) (fun i => (.int ((own_up fS (0 : Int32) (-1 : Int32)) i))) := (own_A.set Ar2 S2 M2 H2 (by decide) (by decide) W2).upI
  have N2 := Fr.snoc X2 N0 G1
  refine own_st (g' := (mkF m 14 #[.val (.ref os), .val (.int (-1 : Int32)), .val (.int (0 : Int32)), .val (.int (3 : Int32))] [])) st2 ?_
  refine own_st (T' := T2) (g' := (mkF m 17 #[.val (.ref os), .val (.int (-1 : Int32)), .val (.int (1 : Int32)), .val (.int (3 : Int32))] [])) (fun _ k => XS.iinc X2.here hx rfl (hb hby dfi_14) rfl (l' := #[.val (.ref os), .val (.int (-1 : Int32)), .val (.int (1 : Int32)), .val (.int (3 : Int32))]) rfl k) ?_
  refine own_st (T' := T2) (g' := (mkF m 5 #[.val (.ref os), .val (.int (-1 : Int32)), .val (.int (1 : Int32)), .val (.int (3 : Int32))] [])) (fun _ k => XS.goto X2.here hx rfl (pc0 := 17) (pc' := 5) rfl (hb hby dfi_17) (by decide) (by decide) k) ?_
  refine own_st (T' := T2) (g' := (mkF m 6 #[.val (.ref os), .val (.int (-1 : Int32)), .val (.int (1 : Int32)), .val (.int (3 : Int32))] [(.int (1 : Int32))])) (fun _ k => XS.iloadN X2.here hx rfl (hb hby dfi_5) rfl k) ?_
  refine own_st (T' := T2) (g' := (mkF m 7 #[.val (.ref os), .val (.int (-1 : Int32)), .val (.int (1 : Int32)), .val (.int (3 : Int32))] [(.int (3 : Int32)), (.int (1 : Int32))])) (fun _ k => XS.iloadN X2.here hx rfl (hb hby dfi_6) rfl k) ?_
  refine own_st (T' := T2) (g' := (mkF m 10 #[.val (.ref os), .val (.int (-1 : Int32)), .val (.int (1 : Int32)), .val (.int (3 : Int32))] [])) (fun _ k => XS.icmpNo X2.here hx rfl (hb hby dfi_7) rfl (tlt (by decide : ((1 : Int32) < (3 : Int32)))).2.1 k) ?_
  refine own_st (T' := T2) (g' := (mkF m 11 #[.val (.ref os), .val (.int (-1 : Int32)), .val (.int (1 : Int32)), .val (.int (3 : Int32))] [(.ref os)])) (fun _ k => XS.aloadN X2.here hx rfl (hb hby dfi_10) rfl rfl k) ?_
  refine own_st (T' := T2) (g' := (mkF m 12 #[.val (.ref os), .val (.int (-1 : Int32)), .val (.int (1 : Int32)), .val (.int (3 : Int32))] [(.int (1 : Int32)), (.ref os)])) (fun _ k => XS.iloadN X2.here hx rfl (hb hby dfi_11) rfl k) ?_
  refine own_st (T' := T2) (g' := (mkF m 13 #[.val (.ref os), .val (.int (-1 : Int32)), .val (.int (1 : Int32)), .val (.int (3 : Int32))] [(.int (-1 : Int32)), (.int (1 : Int32)), (.ref os)])) (fun _ k => XS.iloadN X2.here hx rfl (hb hby dfi_12) rfl k) ?_
  obtain ⟨cl3, Ar3, S3, M3, H3⟩ := id V2
  obtain ⟨T3, h3, X3, e3, W3, st3⟩ := stI X2 hx hZ e2 Ar3 (j := (1 : Int32)) (inb_of S3 ⟨(by decide), (by decide)⟩) (g := (mkF m 13 #[.val (.ref os), .val (.int (-1 : Int32)), .val (.int (1 : Int32)), .val (.int (3 : Int32))] [(.int (-1 : Int32)), (.int (1 : Int32)), (.ref os)])) rfl rfl (hb hby dfi_13)
  have V3 : own_A Z h3 os .int (3 : Int32) (fun i => (.int ((own_up (own_up fS (0 : Int32) (-1 : Int32)) (1 : Int32) (-1 : Int32)) i))) := (own_A.set Ar3 S3 M3 H3 (by decide) (by decide) W3).upI
  have N3 := Fr.snoc X3 N2 G1
  refine own_st (g' := (mkF m 14 #[.val (.ref os), .val (.int (-1 : Int32)), .val (.int (1 : Int32)), .val (.int (3 : Int32))] [])) st3 ?_
  refine own_st (T' := T3) (g' := (mkF m 17 #[.val (.ref os), .val (.int (-1 : Int32)), .val (.int (2 : Int32)), .val (.int (3 : Int32))] [])) (fun _ k => XS.iinc X3.here hx rfl (hb hby dfi_14) rfl (l' := #[.val (.ref os), .val (.int (-1 : Int32)), .val (.int (2 : Int32)), .val (.int (3 : Int32))]) rfl k) ?_
  refine own_st (T' := T3) (g' := (mkF m 5 #[.val (.ref os), .val (.int (-1 : Int32)), .val (.int (2 : Int32)), .val (.int (3 : Int32))] [])) (fun _ k => XS.goto X3.here hx rfl (pc0 := 17) (pc' := 5) rfl (hb hby dfi_17) (by decide) (by decide) k) ?_
  refine own_st (T' := T3) (g' := (mkF m 6 #[.val (.ref os), .val (.int (-1 : Int32)), .val (.int (2 : Int32)), .val (.int (3 : Int32))] [(.int (2 : Int32))])) (fun _ k => XS.iloadN X3.here hx rfl (hb hby dfi_5) rfl k) ?_
  refine own_st (T' := T3) (g' := (mkF m 7 #[.val (.ref os), .val (.int (-1 : Int32)), .val (.int (2 : Int32)), .val (.int (3 : Int32))] [(.int (3 : Int32)), (.int (2 : Int32))])) (fun _ k => XS.iloadN X3.here hx rfl (hb hby dfi_6) rfl k) ?_
  refine own_st (T' := T3) (g' := (mkF m 10 #[.val (.ref os), .val (.int (-1 : Int32)), .val (.int (2 : Int32)), .val (.int (3 : Int32))] [])) (fun _ k => XS.icmpNo X3.here hx rfl (hb hby dfi_7) rfl (tlt (by decide : ((2 : Int32) < (3 : Int32)))).2.1 k) ?_
  refine own_st (T' := T3) (g' := (mkF m 11 #[.val (.ref os), .val (.int (-1 : Int32)), .val (.int (2 : Int32)), .val (.int (3 : Int32))] [(.ref os)])) (fun _ k => XS.aloadN X3.here hx rfl (hb hby dfi_10) rfl rfl k) ?_
  refine own_st (T' := T3) (g' := (mkF m 12 #[.val (.ref os), .val (.int (-1 : Int32)), .val (.int (2 : Int32)), .val (.int (3 : Int32))] [(.int (2 : Int32)), (.ref os)])) (fun _ k => XS.iloadN X3.here hx rfl (hb hby dfi_11) rfl k) ?_
  refine own_st (T' := T3) (g' := (mkF m 13 #[.val (.ref os), .val (.int (-1 : Int32)), .val (.int (2 : Int32)), .val (.int (3 : Int32))] [(.int (-1 : Int32)), (.int (2 : Int32)), (.ref os)])) (fun _ k => XS.iloadN X3.here hx rfl (hb hby dfi_12) rfl k) ?_
  obtain ⟨cl4, Ar4, S4, M4, H4⟩ := id V3
  obtain ⟨T4, h4, X4, e4, W4, st4⟩ := stI X3 hx hZ e3 Ar4 (j := (2 : Int32)) (inb_of S4 ⟨(by decide), (by decide)⟩) (g := (mkF m 13 #[.val (.ref os), .val (.int (-1 : Int32)), .val (.int (2 : Int32)), .val (.int (3 : Int32))] [(.int (-1 : Int32)), (.int (2 : Int32)), (.ref os)])) rfl rfl (hb hby dfi_13)
  have V4 : own_A Z h4 os .int (3 : Int32) (fun i => (.int ((own_up (own_up (own_up fS (0 : Int32) (-1 : Int32)) (1 : Int32) (-1 : Int32)) (2 : Int32) (-1 : Int32)) i))) := (own_A.set Ar4 S4 M4 H4 (by decide) (by decide) W4).upI
  have N4 := Fr.snoc X4 N3 G1
  refine own_st (g' := (mkF m 14 #[.val (.ref os), .val (.int (-1 : Int32)), .val (.int (2 : Int32)), .val (.int (3 : Int32))] [])) st4 ?_
  refine own_st (T' := T4) (g' := (mkF m 17 #[.val (.ref os), .val (.int (-1 : Int32)), .val (.int (3 : Int32)), .val (.int (3 : Int32))] [])) (fun _ k => XS.iinc X4.here hx rfl (hb hby dfi_14) rfl (l' := #[.val (.ref os), .val (.int (-1 : Int32)), .val (.int (3 : Int32)), .val (.int (3 : Int32))]) rfl k) ?_
  refine own_st (T' := T4) (g' := (mkF m 5 #[.val (.ref os), .val (.int (-1 : Int32)), .val (.int (3 : Int32)), .val (.int (3 : Int32))] [])) (fun _ k => XS.goto X4.here hx rfl (pc0 := 17) (pc' := 5) rfl (hb hby dfi_17) (by decide) (by decide) k) ?_
  refine own_st (T' := T4) (g' := (mkF m 6 #[.val (.ref os), .val (.int (-1 : Int32)), .val (.int (3 : Int32)), .val (.int (3 : Int32))] [(.int (3 : Int32))])) (fun _ k => XS.iloadN X4.here hx rfl (hb hby dfi_5) rfl k) ?_
  refine own_st (T' := T4) (g' := (mkF m 7 #[.val (.ref os), .val (.int (-1 : Int32)), .val (.int (3 : Int32)), .val (.int (3 : Int32))] [(.int (3 : Int32)), (.int (3 : Int32))])) (fun _ k => XS.iloadN X4.here hx rfl (hb hby dfi_6) rfl k) ?_
  refine own_st (T' := T4) (g' := (mkF m 20 #[.val (.ref os), .val (.int (-1 : Int32)), .val (.int (3 : Int32)), .val (.int (3 : Int32))] [])) (fun _ k => XS.icmpYes X4.here hx rfl (pc0 := 7) (pc' := 20) rfl (hb hby dfi_7) rfl (flt (by decide : ¬ ((3 : Int32) < (3 : Int32)))).2.1 (by decide) (by decide) k) ?_
  exact own_retV X4 hx hlk hret (hb hby dfi_20) (by rw [e4]; exact ⟨rfl, N4, ((((Keep.refl h0 [os]).wr W2 (Or.inl (by simp))).wr W3 (Or.inl (by simp))).wr W4 (Or.inl (by simp))), V4⟩) (by decide) (by decide)
theorem dcl0_0 : decode prog_51_method_3_code 0 = .ok (.iconst 0, 1) := by decide +kernel
theorem dcl0_1 : decode prog_51_method_3_code 1 = .ok (.istore_n 1, 1) := by decide +kernel
theorem dcl0_2 : decode prog_51_method_3_code 2 = .ok (.iload_n 1, 1) := by decide +kernel
theorem dcl0_3 : decode prog_51_method_3_code 3 = .ok (.aload_n 0, 1) := by decide +kernel
theorem dcl0_4 : decode prog_51_method_3_code 4 = .ok (.getfield 26, 3) := by decide +kernel
theorem dcl0_7 : decode prog_51_method_3_code 7 = .ok (.if_icmp .ge 21, 3) := by decide +kernel
theorem dcl0_28 : decode prog_51_method_3_code 28 = .ok (.aload_n 0, 1) := by decide +kernel
theorem dcl0_29 : decode prog_51_method_3_code 29 = .ok (.iconst 0, 1) := by decide +kernel
theorem dcl0_30 : decode prog_51_method_3_code 30 = .ok (.putfield 26, 3) := by decide +kernel
theorem dcl0_33 : decode prog_51_method_3_code 33 = .ok (.return_, 1) := by decide +kernel
theorem pn_cl0 : plainName "com/example/albatross/albatross/NodeQueue" = true := by first | (simp [plainName, overriddenIn]; done) | decide +kernel
theorem ef_cl0 (m : MethodId) (x0 : Addr) : entryFrame m #[(.ref x0)] 2 = mkF m 0 #[.val (.ref x0), .unset] [] := by first | (simp [entryFrame, mkF, argsToLocals, Value.category]; done) | rfl
set_option maxRecDepth 65536 in
set_option maxHeartbeats 40000000 in
theorem rmcl0 (l : Launch) (Z : State) (a0 : Array Value) (hw : ∀ d ∈ tables_1, d.before a0 Z = true) (ws : List Jvm.Cond) (oq oh os ok : Addr) (fH fS : Int32 → Int32) (fK : Int32 → Int64) (h0 : Heap) (n0 : Nat) (Z0 : n0 ≤ h0.size) (hd : own_Ds n0 oq oh os ok) (hq : own_NQ Z h0 oq oh os ok fH fS fK (0 : Int32)) (hI : own_I0 fH fS fK) :
    own_Met l Z ws (⟨"com/example/albatross/albatross/NodeQueue", "clear", "()V"⟩ : MethodName) prog_51_method_3_code 2 none ({ frames := 0, cells := 0, slots := 0, locals := 0 } : Room) ({ frames := 0, cells := 0, slots := 0, locals := 0 } : Room).cells ({ frames := 0, cells := 0, slots := 0, locals := 0 } : Room).slots #[(.ref oq)] h0 (fun v h L => v = none ∧ Fr n0 L ∧ Keep h0 h [oq, oh, os, ok] ∧ ∃ S', own_NQ Z h oq oh os ok fH S' fK (0 : Int32) ∧ own_I0 fH S' fK) := by
  refine own_body (plainFor_of_name pn_cl0) ?_
  intro p e s m below meth c s₁ hx hby hml hown hnm hlk hret hZ hh X0 e0
  have N0 := Fr.nil n0
  have hd0 := hd
  obtain ⟨G_q, G_h, G_s, G_k, D1, D2, D3, D4, D5, D6⟩ := hd
  obtain ⟨E_0, Fh_0, Fs_0, Fk_0, Fz_0, Ah_0, As_0, Ak_0⟩ := hq
  refine own_cast (ef_cl0 m oq) ?_
  refine own_st (T' := s₁) (g' := (mkF m 1 #[.val (.ref oq), .unset] [(.int (0 : Int32))])) (fun _ k => XS.iconst X0.here hx rfl (hb hby dcl0_0) k) ?_
  refine own_st (T' := s₁) (g' := (mkF m 2 #[.val (.ref oq), .val (.int (0 : Int32))] [])) (fun _ k => XS.istoreN X0.here hx rfl (hb hby dcl0_1) rfl (l' := #[.val (.ref oq), .val (.int (0 : Int32))]) rfl k) ?_
  refine own_st (T' := s₁) (g' := (mkF m 3 #[.val (.ref oq), .val (.int (0 : Int32))] [(.int (0 : Int32))])) (fun _ k => XS.iloadN X0.here hx rfl (hb hby dcl0_2) rfl k) ?_
  refine own_st (T' := s₁) (g' := (mkF m 4 #[.val (.ref oq), .val (.int (0 : Int32))] [(.ref oq), (.int (0 : Int32))])) (fun _ k => XS.aloadN X0.here hx rfl (hb hby dcl0_3) rfl rfl k) ?_
  obtain ⟨T1, X1, e1, st1⟩ := getF X0 hx hZ hown (host := "") (Or.inl (own_w hw 27 rfl)) Via.refl e0 Fz_0 (g := (mkF m 4 #[.val (.ref oq), .val (.int (0 : Int32))] [(.ref oq), (.int (0 : Int32))])) rfl rfl (hb hby dcl0_4)
  refine own_st (g' := (mkF m 7 #[.val (.ref oq), .val (.int (0 : Int32))] [(.int (0 : Int32)), (.int (0 : Int32))])) st1 ?_
  refine own_st (T' := T1) (g' := (mkF m 28 #[.val (.ref oq), .val (.int (0 : Int32))] [])) (fun _ k => XS.icmpYes X1.here hx rfl (pc0 := 7) (pc' := 28) rfl (hb hby dcl0_7) rfl (flt (by decide : ¬ ((0 : Int32) < (0 : Int32)))).2.1 (by decide) (by decide) k) ?_
  refine own_st (T' := T1) (g' := (mkF m 29 #[.val (.ref oq), .val (.int (0 : Int32))] [(.ref oq)])) (fun _ k => XS.aloadN X1.here hx rfl (hb hby dcl0_28) rfl rfl k) ?_
  refine own_st (T' := T1) (g' := (mkF m 30 #[.val (.ref oq), .val (.int (0 : Int32))] [(.int (0 : Int32)), (.ref oq)])) (fun _ k => XS.iconst X1.here hx rfl (hb hby dcl0_29) k) ?_
  obtain ⟨T2, h2, X2, e2, W2, st2⟩ := putF X1 hx hZ hown (host := "") (Or.inl (own_w hw 27 rfl)) Via.refl e1 Fz_0 E_0 (Or.inl (own_w hw 28 rfl)) (own_w hw 1 rfl) (ty := .int) (by decide) rfl rfl (g := (mkF m 30 #[.val (.ref oq), .val (.int (0 : Int32))] [(.int (0 : Int32)), (.ref oq)])) rfl rfl (hb hby dcl0_30)
  have Fw2 := Fz_0.same W2
  have N2 := Fr.snoc X2 N0 G_q
  refine own_st (g' := (mkF m 33 #[.val (.ref oq), .val (.int (0 : Int32))] [])) st2 ?_
  exact own_retV X2 hx hlk hret (hb hby dcl0_33) (by rw [e2]; exact ⟨rfl, N2, ((Keep.refl h0 [oq, oh, os, ok]).wr W2 (Or.inl (by simp))), fS, ⟨(E_0.wr W2), (Fh_0.other W2 (Or.inr (slot_ne (Or.inr (own_w hw 11 rfl)) (Or.inl (own_w hw 28 rfl)) (by decide) (t := (.array .int)) (t' := .int) (by decide) (by decide)))), (Fs_0.other W2 (Or.inr (slot_ne (Or.inr (own_w hw 13 rfl)) (Or.inl (own_w hw 28 rfl)) (by decide) (t := (.array .int)) (t' := .int) (by decide) (by decide)))), (Fk_0.other W2 (Or.inr (slot_ne (Or.inr (own_w hw 16 rfl)) (Or.inl (own_w hw 28 rfl)) (by decide) (t := (.array .long)) (t' := .int) (by decide) (by decide)))), Fw2, (Ah_0.other W2 (Ne.symm D1)), (As_0.other W2 (Ne.symm D2)), (Ak_0.other W2 (Ne.symm D3))⟩, own_clr0 hI⟩) (by decide) (by decide)
theorem dcl1_0 : decode prog_51_method_3_code 0 = .ok (.iconst 0, 1) := by decide +kernel
theorem dcl1_1 : decode prog_51_method_3_code 1 = .ok (.istore_n 1, 1) := by decide +kernel
theorem dcl1_2 : decode prog_51_method_3_code 2 = .ok (.iload_n 1, 1) := by decide +kernel
theorem dcl1_3 : decode prog_51_method_3_code 3 = .ok (.aload_n 0, 1) := by decide +kernel
theorem dcl1_4 : decode prog_51_method_3_code 4 = .ok (.getfield 26, 3) := by decide +kernel
theorem dcl1_7 : decode prog_51_method_3_code 7 = .ok (.if_icmp .ge 21, 3) := by decide +kernel
theorem dcl1_10 : decode prog_51_method_3_code 10 = .ok (.aload_n 0, 1) := by decide +kernel
theorem dcl1_11 : decode prog_51_method_3_code 11 = .ok (.getfield 13, 3) := by decide +kernel
theorem dcl1_14 : decode prog_51_method_3_code 14 = .ok (.aload_n 0, 1) := by decide +kernel
theorem dcl1_15 : decode prog_51_method_3_code 15 = .ok (.getfield 7, 3) := by decide +kernel
theorem dcl1_18 : decode prog_51_method_3_code 18 = .ok (.iload_n 1, 1) := by decide +kernel
theorem dcl1_19 : decode prog_51_method_3_code 19 = .ok (.iaload, 1) := by decide +kernel
theorem dcl1_20 : decode prog_51_method_3_code 20 = .ok (.iconst (-1), 1) := by decide +kernel
theorem dcl1_21 : decode prog_51_method_3_code 21 = .ok (.iastore, 1) := by decide +kernel
theorem dcl1_22 : decode prog_51_method_3_code 22 = .ok (.iinc 1 1, 3) := by decide +kernel
theorem dcl1_25 : decode prog_51_method_3_code 25 = .ok (.goto (-23), 3) := by decide +kernel
theorem dcl1_28 : decode prog_51_method_3_code 28 = .ok (.aload_n 0, 1) := by decide +kernel
theorem dcl1_29 : decode prog_51_method_3_code 29 = .ok (.iconst 0, 1) := by decide +kernel
theorem dcl1_30 : decode prog_51_method_3_code 30 = .ok (.putfield 26, 3) := by decide +kernel
theorem dcl1_33 : decode prog_51_method_3_code 33 = .ok (.return_, 1) := by decide +kernel
theorem pn_cl1 : plainName "com/example/albatross/albatross/NodeQueue" = true := by first | (simp [plainName, overriddenIn]; done) | decide +kernel
theorem ef_cl1 (m : MethodId) (x0 : Addr) : entryFrame m #[(.ref x0)] 2 = mkF m 0 #[.val (.ref x0), .unset] [] := by first | (simp [entryFrame, mkF, argsToLocals, Value.category]; done) | rfl
set_option maxRecDepth 65536 in
set_option maxHeartbeats 40000000 in
theorem rmcl1 (l : Launch) (Z : State) (a0 : Array Value) (hw : ∀ d ∈ tables_1, d.before a0 Z = true) (ws : List Jvm.Cond) (oq oh os ok : Addr) (fH fS : Int32 → Int32) (fK : Int32 → Int64) (h0 : Heap) (n0 : Nat) (Z0 : n0 ≤ h0.size) (hd : own_Ds n0 oq oh os ok) (hq : own_NQ Z h0 oq oh os ok fH fS fK (1 : Int32)) (hI : own_I1 fH fS fK) :
    own_Met l Z ws (⟨"com/example/albatross/albatross/NodeQueue", "clear", "()V"⟩ : MethodName) prog_51_method_3_code 2 none ({ frames := 0, cells := 0, slots := 0, locals := 0 } : Room) ({ frames := 0, cells := 0, slots := 0, locals := 0 } : Room).cells ({ frames := 0, cells := 0, slots := 0, locals := 0 } : Room).slots #[(.ref oq)] h0 (fun v h L => v = none ∧ Fr n0 L ∧ Keep h0 h [oq, oh, os, ok] ∧ ∃ S', own_NQ Z h oq oh os ok fH S' fK (0 : Int32) ∧ own_I0 fH S' fK) := by
  refine own_body (plainFor_of_name pn_cl1) ?_
  intro p e s m below meth c s₁ hx hby hml hown hnm hlk hret hZ hh X0 e0
  have N0 := Fr.nil n0
  have hd0 := hd
  obtain ⟨G_q, G_h, G_s, G_k, D1, D2, D3, D4, D5, D6⟩ := hd
  obtain ⟨E_0, Fh_0, Fs_0, Fk_0, Fz_0, Ah_0, As_0, Ak_0⟩ := hq
  refine own_cast (ef_cl1 m oq) ?_
  refine own_st (T' := s₁) (g' := (mkF m 1 #[.val (.ref oq), .unset] [(.int (0 : Int32))])) (fun _ k => XS.iconst X0.here hx rfl (hb hby dcl1_0) k) ?_
  refine own_st (T' := s₁) (g' := (mkF m 2 #[.val (.ref oq), .val (.int (0 : Int32))] [])) (fun _ k => XS.istoreN X0.here hx rfl (hb hby dcl1_1) rfl (l' := #[.val (.ref oq), .val (.int (0 : Int32))]) rfl k) ?_
  refine own_st (T' := s₁) (g' := (mkF m 3 #[.val (.ref oq), .val (.int (0 : Int32))] [(.int (0 : Int32))])) (fun _ k => XS.iloadN X0.here hx rfl (hb hby dcl1_2) rfl k) ?_
  refine own_st (T' := s₁) (g' := (mkF m 4 #[.val (.ref oq), .val (.int (0 : Int32))] [(.ref oq), (.int (0 : Int32))])) (fun _ k => XS.aloadN X0.here hx rfl (hb hby dcl1_3) rfl rfl k) ?_
  obtain ⟨T1, X1, e1, st1⟩ := getF X0 hx hZ hown (host := "") (Or.inl (own_w hw 27 rfl)) Via.refl e0 Fz_0 (g := (mkF m 4 #[.val (.ref oq), .val (.int (0 : Int32))] [(.ref oq), (.int (0 : Int32))])) rfl rfl (hb hby dcl1_4)
  refine own_st (g' := (mkF m 7 #[.val (.ref oq), .val (.int (0 : Int32))] [(.int (1 : Int32)), (.int (0 : Int32))])) st1 ?_
  refine own_st (T' := T1) (g' := (mkF m 10 #[.val (.ref oq), .val (.int (0 : Int32))] [])) (fun _ k => XS.icmpNo X1.here hx rfl (hb hby dcl1_7) rfl (tlt (by decide : ((0 : Int32) < (1 : Int32)))).2.1 k) ?_
  refine own_st (T' := T1) (g' := (mkF m 11 #[.val (.ref oq), .val (.int (0 : Int32))] [(.ref oq)])) (fun _ k => XS.aloadN X1.here hx rfl (hb hby dcl1_10) rfl rfl k) ?_
  obtain ⟨T2, X2, e2, st2⟩ := getF X1 hx hZ hown (host := "") (Or.inl (own_w hw 12 rfl)) Via.refl e1 Fs_0 (g := (mkF m 11 #[.val (.ref oq), .val (.int (0 : Int32))] [(.ref oq)])) rfl rfl (hb hby dcl1_11)
  refine own_st (g' := (mkF m 14 #[.val (.ref oq), .val (.int (0 : Int32))] [(.ref os)])) st2 ?_
  refine own_st (T' := T2) (g' := (mkF m 15 #[.val (.ref oq), .val (.int (0 : Int32))] [(.ref oq), (.ref os)])) (fun _ k => XS.aloadN X2.here hx rfl (hb hby dcl1_14) rfl rfl k) ?_
  obtain ⟨T3, X3, e3, st3⟩ := getF X2 hx hZ hown (host := "") (Or.inl (own_w hw 10 rfl)) Via.refl e2 Fh_0 (g := (mkF m 15 #[.val (.ref oq), .val (.int (0 : Int32))] [(.ref oq), (.ref os)])) rfl rfl (hb hby dcl1_15)
  refine own_st (g' := (mkF m 18 #[.val (.ref oq), .val (.int (0 : Int32))] [(.ref oh), (.ref os)])) st3 ?_
  refine own_st (T' := T3) (g' := (mkF m 19 #[.val (.ref oq), .val (.int (0 : Int32))] [(.int (0 : Int32)), (.ref oh), (.ref os)])) (fun _ k => XS.iloadN X3.here hx rfl (hb hby dcl1_18) rfl k) ?_
  obtain ⟨cl4, Ar4, S4, M4, H4⟩ := id Ah_0
  refine own_st (T' := T3) (g' := (mkF m 20 #[.val (.ref oq), .val (.int (0 : Int32))] [(.int (fH (0 : Int32))), (.ref os)])) (fun _ k => X3.iaload hx (j := (0 : Int32)) (v := (.int (fH (0 : Int32)))) (by rw [e3]; exact Ar4.1) (State.isArrayOf_alike hZ.alike Ar4.2.1) Ar4.2.2 (inb_of S4 ⟨(by decide), (by decide)⟩) (H4 _ (by decide) (by decide)) (g := (mkF m 19 #[.val (.ref oq), .val (.int (0 : Int32))] [(.int (0 : Int32)), (.ref oh), (.ref os)])) rfl rfl (hb hby dcl1_19) _ k) ?_
  refine own_st (T' := T3) (g' := (mkF m 21 #[.val (.ref oq), .val (.int (0 : Int32))] [(.int (-1 : Int32)), (.int (fH (0 : Int32))), (.ref os)])) (fun _ k => XS.iconst X3.here hx rfl (hb hby dcl1_20) k) ?_
  obtain ⟨cl5, Ar5, S5, M5, H5⟩ := id As_0
  obtain ⟨T5, h5, X5, e5, W5, st5⟩ := stI X3 hx hZ e3 Ar5 (j := (fH (0 : Int32))) (inb_of S5 ⟨(show ¬ (fH (0 : Int32)) < 0 from own_ok0 (own_h1_0 hI)), (show (fH (0 : Int32)) < 3 from own_ok3 (own_h1_0 hI))⟩) (g := (mkF m 21 #[.val (.ref oq), .val (.int (0 : Int32))] [(.int (-1 : Int32)), (.int (fH (0 : Int32))), (.ref os)])) rfl rfl (hb hby dcl1_21)
  have V5 : own_A Z h5 os .int (3 : Int32) (fun i => (.int ((own_up fS (fH (0 : Int32)) (-1 : Int32)) i))) := (own_A.set Ar5 S5 M5 H5 (show ¬ (fH (0 : Int32)) < 0 from own_ok0 (own_h1_0 hI)) (show (fH (0 : Int32)) < 3 from own_ok3 (own_h1_0 hI)) W5).upI
  have N5 := Fr.snoc X5 N0 G_s
  refine own_st (g' := (mkF m 22 #[.val (.ref oq), .val (.int (0 : Int32))] [])) st5 ?_
  refine own_st (T' := T5) (g' := (mkF m 25 #[.val (.ref oq), .val (.int (1 : Int32))] [])) (fun _ k => XS.iinc X5.here hx rfl (hb hby dcl1_22) rfl (l' := #[.val (.ref oq), .val (.int (1 : Int32))]) rfl k) ?_
  refine own_st (T' := T5) (g' := (mkF m 2 #[.val (.ref oq), .val (.int (1 : Int32))] [])) (fun _ k => XS.goto X5.here hx rfl (pc0 := 25) (pc' := 2) rfl (hb hby dcl1_25) (by decide) (by decide) k) ?_
  refine own_st (T' := T5) (g' := (mkF m 3 #[.val (.ref oq), .val (.int (1 : Int32))] [(.int (1 : Int32))])) (fun _ k => XS.iloadN X5.here hx rfl (hb hby dcl1_2) rfl k) ?_
  refine own_st (T' := T5) (g' := (mkF m 4 #[.val (.ref oq), .val (.int (1 : Int32))] [(.ref oq), (.int (1 : Int32))])) (fun _ k => XS.aloadN X5.here hx rfl (hb hby dcl1_3) rfl rfl k) ?_
  obtain ⟨T6, X6, e6, st6⟩ := getF X5 hx hZ hown (host := "") (Or.inl (own_w hw 27 rfl)) Via.refl e5 (Fz_0.other W5 (Or.inl D2)) (g := (mkF m 4 #[.val (.ref oq), .val (.int (1 : Int32))] [(.ref oq), (.int (1 : Int32))])) rfl rfl (hb hby dcl1_4)
  refine own_st (g' := (mkF m 7 #[.val (.ref oq), .val (.int (1 : Int32))] [(.int (1 : Int32)), (.int (1 : Int32))])) st6 ?_
  refine own_st (T' := T6) (g' := (mkF m 28 #[.val (.ref oq), .val (.int (1 : Int32))] [])) (fun _ k => XS.icmpYes X6.here hx rfl (pc0 := 7) (pc' := 28) rfl (hb hby dcl1_7) rfl (flt (by decide : ¬ ((1 : Int32) < (1 : Int32)))).2.1 (by decide) (by decide) k) ?_
  refine own_st (T' := T6) (g' := (mkF m 29 #[.val (.ref oq), .val (.int (1 : Int32))] [(.ref oq)])) (fun _ k => XS.aloadN X6.here hx rfl (hb hby dcl1_28) rfl rfl k) ?_
  refine own_st (T' := T6) (g' := (mkF m 30 #[.val (.ref oq), .val (.int (1 : Int32))] [(.int (0 : Int32)), (.ref oq)])) (fun _ k => XS.iconst X6.here hx rfl (hb hby dcl1_29) k) ?_
  obtain ⟨T7, h7, X7, e7, W7, st7⟩ := putF X6 hx hZ hown (host := "") (Or.inl (own_w hw 27 rfl)) Via.refl e6 (Fz_0.other W5 (Or.inl D2)) (E_0.wr W5) (Or.inl (own_w hw 28 rfl)) (own_w hw 1 rfl) (ty := .int) (by decide) rfl rfl (g := (mkF m 30 #[.val (.ref oq), .val (.int (1 : Int32))] [(.int (0 : Int32)), (.ref oq)])) rfl rfl (hb hby dcl1_30)
  have Fw7 := (Fz_0.other W5 (Or.inl D2)).same W7
  have N7 := Fr.snoc X7 N5 G_q
  refine own_st (g' := (mkF m 33 #[.val (.ref oq), .val (.int (1 : Int32))] [])) st7 ?_
  exact own_retV X7 hx hlk hret (hb hby dcl1_33) (by rw [e7]; exact ⟨rfl, N7, (((Keep.refl h0 [oq, oh, os, ok]).wr W5 (Or.inl (by simp))).wr W7 (Or.inl (by simp))), (own_up fS (fH (0 : Int32)) (-1 : Int32)), ⟨((E_0.wr W5).wr W7), ((Fh_0.other W5 (Or.inl D2)).other W7 (Or.inr (slot_ne (Or.inr (own_w hw 11 rfl)) (Or.inl (own_w hw 28 rfl)) (by decide) (t := (.array .int)) (t' := .int) (by decide) (by decide)))), ((Fs_0.other W5 (Or.inl D2)).other W7 (Or.inr (slot_ne (Or.inr (own_w hw 13 rfl)) (Or.inl (own_w hw 28 rfl)) (by decide) (t := (.array .int)) (t' := .int) (by decide) (by decide)))), ((Fk_0.other W5 (Or.inl D2)).other W7 (Or.inr (slot_ne (Or.inr (own_w hw 16 rfl)) (Or.inl (own_w hw 28 rfl)) (by decide) (t := (.array .long)) (t' := .int) (by decide) (by decide)))), Fw7, ((Ah_0.other W5 D4).other W7 (Ne.symm D1)), (V5.other W7 (Ne.symm D2)), ((Ak_0.other W5 (Ne.symm D6)).other W7 (Ne.symm D3))⟩, own_clr1 hI⟩) (by decide) (by decide)
theorem dcl2_0 : decode prog_51_method_3_code 0 = .ok (.iconst 0, 1) := by decide +kernel
theorem dcl2_1 : decode prog_51_method_3_code 1 = .ok (.istore_n 1, 1) := by decide +kernel
theorem dcl2_2 : decode prog_51_method_3_code 2 = .ok (.iload_n 1, 1) := by decide +kernel
theorem dcl2_3 : decode prog_51_method_3_code 3 = .ok (.aload_n 0, 1) := by decide +kernel
theorem dcl2_4 : decode prog_51_method_3_code 4 = .ok (.getfield 26, 3) := by decide +kernel
theorem dcl2_7 : decode prog_51_method_3_code 7 = .ok (.if_icmp .ge 21, 3) := by decide +kernel
theorem dcl2_10 : decode prog_51_method_3_code 10 = .ok (.aload_n 0, 1) := by decide +kernel
theorem dcl2_11 : decode prog_51_method_3_code 11 = .ok (.getfield 13, 3) := by decide +kernel
theorem dcl2_14 : decode prog_51_method_3_code 14 = .ok (.aload_n 0, 1) := by decide +kernel
theorem dcl2_15 : decode prog_51_method_3_code 15 = .ok (.getfield 7, 3) := by decide +kernel
theorem dcl2_18 : decode prog_51_method_3_code 18 = .ok (.iload_n 1, 1) := by decide +kernel
theorem dcl2_19 : decode prog_51_method_3_code 19 = .ok (.iaload, 1) := by decide +kernel
theorem dcl2_20 : decode prog_51_method_3_code 20 = .ok (.iconst (-1), 1) := by decide +kernel
theorem dcl2_21 : decode prog_51_method_3_code 21 = .ok (.iastore, 1) := by decide +kernel
theorem dcl2_22 : decode prog_51_method_3_code 22 = .ok (.iinc 1 1, 3) := by decide +kernel
theorem dcl2_25 : decode prog_51_method_3_code 25 = .ok (.goto (-23), 3) := by decide +kernel
theorem dcl2_28 : decode prog_51_method_3_code 28 = .ok (.aload_n 0, 1) := by decide +kernel
theorem dcl2_29 : decode prog_51_method_3_code 29 = .ok (.iconst 0, 1) := by decide +kernel
theorem dcl2_30 : decode prog_51_method_3_code 30 = .ok (.putfield 26, 3) := by decide +kernel
theorem dcl2_33 : decode prog_51_method_3_code 33 = .ok (.return_, 1) := by decide +kernel
theorem pn_cl2 : plainName "com/example/albatross/albatross/NodeQueue" = true := by first | (simp [plainName, overriddenIn]; done) | decide +kernel
theorem ef_cl2 (m : MethodId) (x0 : Addr) : entryFrame m #[(.ref x0)] 2 = mkF m 0 #[.val (.ref x0), .unset] [] := by first | (simp [entryFrame, mkF, argsToLocals, Value.category]; done) | rfl
set_option maxRecDepth 65536 in
set_option maxHeartbeats 40000000 in
theorem rmcl2 (l : Launch) (Z : State) (a0 : Array Value) (hw : ∀ d ∈ tables_1, d.before a0 Z = true) (ws : List Jvm.Cond) (oq oh os ok : Addr) (fH fS : Int32 → Int32) (fK : Int32 → Int64) (h0 : Heap) (n0 : Nat) (Z0 : n0 ≤ h0.size) (hd : own_Ds n0 oq oh os ok) (hq : own_NQ Z h0 oq oh os ok fH fS fK (2 : Int32)) (hI : own_I2 fH fS fK) :
    own_Met l Z ws (⟨"com/example/albatross/albatross/NodeQueue", "clear", "()V"⟩ : MethodName) prog_51_method_3_code 2 none ({ frames := 0, cells := 0, slots := 0, locals := 0 } : Room) ({ frames := 0, cells := 0, slots := 0, locals := 0 } : Room).cells ({ frames := 0, cells := 0, slots := 0, locals := 0 } : Room).slots #[(.ref oq)] h0 (fun v h L => v = none ∧ Fr n0 L ∧ Keep h0 h [oq, oh, os, ok] ∧ ∃ S', own_NQ Z h oq oh os ok fH S' fK (0 : Int32) ∧ own_I0 fH S' fK) := by
  refine own_body (plainFor_of_name pn_cl2) ?_
  intro p e s m below meth c s₁ hx hby hml hown hnm hlk hret hZ hh X0 e0
  have N0 := Fr.nil n0
  have hd0 := hd
  obtain ⟨G_q, G_h, G_s, G_k, D1, D2, D3, D4, D5, D6⟩ := hd
  obtain ⟨E_0, Fh_0, Fs_0, Fk_0, Fz_0, Ah_0, As_0, Ak_0⟩ := hq
  refine own_cast (ef_cl2 m oq) ?_
  refine own_st (T' := s₁) (g' := (mkF m 1 #[.val (.ref oq), .unset] [(.int (0 : Int32))])) (fun _ k => XS.iconst X0.here hx rfl (hb hby dcl2_0) k) ?_
  refine own_st (T' := s₁) (g' := (mkF m 2 #[.val (.ref oq), .val (.int (0 : Int32))] [])) (fun _ k => XS.istoreN X0.here hx rfl (hb hby dcl2_1) rfl (l' := #[.val (.ref oq), .val (.int (0 : Int32))]) rfl k) ?_
  refine own_st (T' := s₁) (g' := (mkF m 3 #[.val (.ref oq), .val (.int (0 : Int32))] [(.int (0 : Int32))])) (fun _ k => XS.iloadN X0.here hx rfl (hb hby dcl2_2) rfl k) ?_
  refine own_st (T' := s₁) (g' := (mkF m 4 #[.val (.ref oq), .val (.int (0 : Int32))] [(.ref oq), (.int (0 : Int32))])) (fun _ k => XS.aloadN X0.here hx rfl (hb hby dcl2_3) rfl rfl k) ?_
  obtain ⟨T1, X1, e1, st1⟩ := getF X0 hx hZ hown (host := "") (Or.inl (own_w hw 27 rfl)) Via.refl e0 Fz_0 (g := (mkF m 4 #[.val (.ref oq), .val (.int (0 : Int32))] [(.ref oq), (.int (0 : Int32))])) rfl rfl (hb hby dcl2_4)
  refine own_st (g' := (mkF m 7 #[.val (.ref oq), .val (.int (0 : Int32))] [(.int (2 : Int32)), (.int (0 : Int32))])) st1 ?_
  refine own_st (T' := T1) (g' := (mkF m 10 #[.val (.ref oq), .val (.int (0 : Int32))] [])) (fun _ k => XS.icmpNo X1.here hx rfl (hb hby dcl2_7) rfl (tlt (by decide : ((0 : Int32) < (2 : Int32)))).2.1 k) ?_
  refine own_st (T' := T1) (g' := (mkF m 11 #[.val (.ref oq), .val (.int (0 : Int32))] [(.ref oq)])) (fun _ k => XS.aloadN X1.here hx rfl (hb hby dcl2_10) rfl rfl k) ?_
  obtain ⟨T2, X2, e2, st2⟩ := getF X1 hx hZ hown (host := "") (Or.inl (own_w hw 12 rfl)) Via.refl e1 Fs_0 (g := (mkF m 11 #[.val (.ref oq), .val (.int (0 : Int32))] [(.ref oq)])) rfl rfl (hb hby dcl2_11)
  refine own_st (g' := (mkF m 14 #[.val (.ref oq), .val (.int (0 : Int32))] [(.ref os)])) st2 ?_
  refine own_st (T' := T2) (g' := (mkF m 15 #[.val (.ref oq), .val (.int (0 : Int32))] [(.ref oq), (.ref os)])) (fun _ k => XS.aloadN X2.here hx rfl (hb hby dcl2_14) rfl rfl k) ?_
  obtain ⟨T3, X3, e3, st3⟩ := getF X2 hx hZ hown (host := "") (Or.inl (own_w hw 10 rfl)) Via.refl e2 Fh_0 (g := (mkF m 15 #[.val (.ref oq), .val (.int (0 : Int32))] [(.ref oq), (.ref os)])) rfl rfl (hb hby dcl2_15)
  refine own_st (g' := (mkF m 18 #[.val (.ref oq), .val (.int (0 : Int32))] [(.ref oh), (.ref os)])) st3 ?_
  refine own_st (T' := T3) (g' := (mkF m 19 #[.val (.ref oq), .val (.int (0 : Int32))] [(.int (0 : Int32)), (.ref oh), (.ref os)])) (fun _ k => XS.iloadN X3.here hx rfl (hb hby dcl2_18) rfl k) ?_
  obtain ⟨cl4, Ar4, S4, M4, H4⟩ := id Ah_0
  refine own_st (T' := T3) (g' := (mkF m 20 #[.val (.ref oq), .val (.int (0 : Int32))] [(.int (fH (0 : Int32))), (.ref os)])) (fun _ k => X3.iaload hx (j := (0 : Int32)) (v := (.int (fH (0 : Int32)))) (by rw [e3]; exact Ar4.1) (State.isArrayOf_alike hZ.alike Ar4.2.1) Ar4.2.2 (inb_of S4 ⟨(by decide), (by decide)⟩) (H4 _ (by decide) (by decide)) (g := (mkF m 19 #[.val (.ref oq), .val (.int (0 : Int32))] [(.int (0 : Int32)), (.ref oh), (.ref os)])) rfl rfl (hb hby dcl2_19) _ k) ?_
  refine own_st (T' := T3) (g' := (mkF m 21 #[.val (.ref oq), .val (.int (0 : Int32))] [(.int (-1 : Int32)), (.int (fH (0 : Int32))), (.ref os)])) (fun _ k => XS.iconst X3.here hx rfl (hb hby dcl2_20) k) ?_
  obtain ⟨cl5, Ar5, S5, M5, H5⟩ := id As_0
  obtain ⟨T5, h5, X5, e5, W5, st5⟩ := stI X3 hx hZ e3 Ar5 (j := (fH (0 : Int32))) (inb_of S5 ⟨(show ¬ (fH (0 : Int32)) < 0 from own_ok0 (own_h2_0 hI)), (show (fH (0 : Int32)) < 3 from own_ok3 (own_h2_0 hI))⟩) (g := (mkF m 21 #[.val (.ref oq), .val (.int (0 : Int32))] [(.int (-1 : Int32)), (.int (fH (0 : Int32))), (.ref os)])) rfl rfl (hb hby dcl2_21)
  have V5 : own_A Z h5 os .int (3 : Int32) (fun i => (.int ((own_up fS (fH (0 : Int32)) (-1 : Int32)) i))) := (own_A.set Ar5 S5 M5 H5 (show ¬ (fH (0 : Int32)) < 0 from own_ok0 (own_h2_0 hI)) (show (fH (0 : Int32)) < 3 from own_ok3 (own_h2_0 hI)) W5).upI
  have N5 := Fr.snoc X5 N0 G_s
  refine own_st (g' := (mkF m 22 #[.val (.ref oq), .val (.int (0 : Int32))] [])) st5 ?_
  refine own_st (T' := T5) (g' := (mkF m 25 #[.val (.ref oq), .val (.int (1 : Int32))] [])) (fun _ k => XS.iinc X5.here hx rfl (hb hby dcl2_22) rfl (l' := #[.val (.ref oq), .val (.int (1 : Int32))]) rfl k) ?_
  refine own_st (T' := T5) (g' := (mkF m 2 #[.val (.ref oq), .val (.int (1 : Int32))] [])) (fun _ k => XS.goto X5.here hx rfl (pc0 := 25) (pc' := 2) rfl (hb hby dcl2_25) (by decide) (by decide) k) ?_
  refine own_st (T' := T5) (g' := (mkF m 3 #[.val (.ref oq), .val (.int (1 : Int32))] [(.int (1 : Int32))])) (fun _ k => XS.iloadN X5.here hx rfl (hb hby dcl2_2) rfl k) ?_
  refine own_st (T' := T5) (g' := (mkF m 4 #[.val (.ref oq), .val (.int (1 : Int32))] [(.ref oq), (.int (1 : Int32))])) (fun _ k => XS.aloadN X5.here hx rfl (hb hby dcl2_3) rfl rfl k) ?_
  obtain ⟨T6, X6, e6, st6⟩ := getF X5 hx hZ hown (host := "") (Or.inl (own_w hw 27 rfl)) Via.refl e5 (Fz_0.other W5 (Or.inl D2)) (g := (mkF m 4 #[.val (.ref oq), .val (.int (1 : Int32))] [(.ref oq), (.int (1 : Int32))])) rfl rfl (hb hby dcl2_4)
  refine own_st (g' := (mkF m 7 #[.val (.ref oq), .val (.int (1 : Int32))] [(.int (2 : Int32)), (.int (1 : Int32))])) st6 ?_
  refine own_st (T' := T6) (g' := (mkF m 10 #[.val (.ref oq), .val (.int (1 : Int32))] [])) (fun _ k => XS.icmpNo X6.here hx rfl (hb hby dcl2_7) rfl (tlt (by decide : ((1 : Int32) < (2 : Int32)))).2.1 k) ?_
  refine own_st (T' := T6) (g' := (mkF m 11 #[.val (.ref oq), .val (.int (1 : Int32))] [(.ref oq)])) (fun _ k => XS.aloadN X6.here hx rfl (hb hby dcl2_10) rfl rfl k) ?_
  obtain ⟨T7, X7, e7, st7⟩ := getF X6 hx hZ hown (host := "") (Or.inl (own_w hw 12 rfl)) Via.refl e6 (Fs_0.other W5 (Or.inl D2)) (g := (mkF m 11 #[.val (.ref oq), .val (.int (1 : Int32))] [(.ref oq)])) rfl rfl (hb hby dcl2_11)
  refine own_st (g' := (mkF m 14 #[.val (.ref oq), .val (.int (1 : Int32))] [(.ref os)])) st7 ?_
  refine own_st (T' := T7) (g' := (mkF m 15 #[.val (.ref oq), .val (.int (1 : Int32))] [(.ref oq), (.ref os)])) (fun _ k => XS.aloadN X7.here hx rfl (hb hby dcl2_14) rfl rfl k) ?_
  obtain ⟨T8, X8, e8, st8⟩ := getF X7 hx hZ hown (host := "") (Or.inl (own_w hw 10 rfl)) Via.refl e7 (Fh_0.other W5 (Or.inl D2)) (g := (mkF m 15 #[.val (.ref oq), .val (.int (1 : Int32))] [(.ref oq), (.ref os)])) rfl rfl (hb hby dcl2_15)
  refine own_st (g' := (mkF m 18 #[.val (.ref oq), .val (.int (1 : Int32))] [(.ref oh), (.ref os)])) st8 ?_
  refine own_st (T' := T8) (g' := (mkF m 19 #[.val (.ref oq), .val (.int (1 : Int32))] [(.int (1 : Int32)), (.ref oh), (.ref os)])) (fun _ k => XS.iloadN X8.here hx rfl (hb hby dcl2_18) rfl k) ?_
  obtain ⟨cl9, Ar9, S9, M9, H9⟩ := id (Ah_0.other W5 D4)
  refine own_st (T' := T8) (g' := (mkF m 20 #[.val (.ref oq), .val (.int (1 : Int32))] [(.int (fH (1 : Int32))), (.ref os)])) (fun _ k => X8.iaload hx (j := (1 : Int32)) (v := (.int (fH (1 : Int32)))) (by rw [e8]; exact Ar9.1) (State.isArrayOf_alike hZ.alike Ar9.2.1) Ar9.2.2 (inb_of S9 ⟨(by decide), (by decide)⟩) (H9 _ (by decide) (by decide)) (g := (mkF m 19 #[.val (.ref oq), .val (.int (1 : Int32))] [(.int (1 : Int32)), (.ref oh), (.ref os)])) rfl rfl (hb hby dcl2_19) _ k) ?_
  refine own_st (T' := T8) (g' := (mkF m 21 #[.val (.ref oq), .val (.int (1 : Int32))] [(.int (-1 : Int32)), (.int (fH (1 : Int32))), (.ref os)])) (fun _ k => XS.iconst X8.here hx rfl (hb hby dcl2_20) k) ?_
  obtain ⟨cl10, Ar10, S10, M10, H10⟩ := id V5
  obtain ⟨T10, h10, X10, e10, W10, st10⟩ := stI X8 hx hZ e8 Ar10 (j := (fH (1 : Int32))) (inb_of S10 ⟨(show ¬ (fH (1 : Int32)) < 0 from own_ok0 (own_h2_1 hI)), (show (fH (1 : Int32)) < 3 from own_ok3 (own_h2_1 hI))⟩) (g := (mkF m 21 #[.val (.ref oq), .val (.int (1 : Int32))] [(.int (-1 : Int32)), (.int (fH (1 : Int32))), (.ref os)])) rfl rfl (hb hby dcl2_21)
  have V10 : own_A Z h10 os .int (3 : Int32) (fun i => (.int ((own_up (own_up fS (fH (0 : Int32)) (-1 : Int32)) (fH (1 : Int32)) (-1 : Int32)) i))) := (own_A.set Ar10 S10 M10 H10 (show ¬ (fH (1 : Int32)) < 0 from own_ok0 (own_h2_1 hI)) (show (fH (1 : Int32)) < 3 from own_ok3 (own_h2_1 hI)) W10).upI
  have N10 := Fr.snoc X10 N5 G_s
  refine own_st (g' := (mkF m 22 #[.val (.ref oq), .val (.int (1 : Int32))] [])) st10 ?_
  refine own_st (T' := T10) (g' := (mkF m 25 #[.val (.ref oq), .val (.int (2 : Int32))] [])) (fun _ k => XS.iinc X10.here hx rfl (hb hby dcl2_22) rfl (l' := #[.val (.ref oq), .val (.int (2 : Int32))]) rfl k) ?_
  refine own_st (T' := T10) (g' := (mkF m 2 #[.val (.ref oq), .val (.int (2 : Int32))] [])) (fun _ k => XS.goto X10.here hx rfl (pc0 := 25) (pc' := 2) rfl (hb hby dcl2_25) (by decide) (by decide) k) ?_
  refine own_st (T' := T10) (g' := (mkF m 3 #[.val (.ref oq), .val (.int (2 : Int32))] [(.int (2 : Int32))])) (fun _ k => XS.iloadN X10.here hx rfl (hb hby dcl2_2) rfl k) ?_
  refine own_st (T' := T10) (g' := (mkF m 4 #[.val (.ref oq), .val (.int (2 : Int32))] [(.ref oq), (.int (2 : Int32))])) (fun _ k => XS.aloadN X10.here hx rfl (hb hby dcl2_3) rfl rfl k) ?_
  obtain ⟨T11, X11, e11, st11⟩ := getF X10 hx hZ hown (host := "") (Or.inl (own_w hw 27 rfl)) Via.refl e10 ((Fz_0.other W5 (Or.inl D2)).other W10 (Or.inl D2)) (g := (mkF m 4 #[.val (.ref oq), .val (.int (2 : Int32))] [(.ref oq), (.int (2 : Int32))])) rfl rfl (hb hby dcl2_4)
  refine own_st (g' := (mkF m 7 #[.val (.ref oq), .val (.int (2 : Int32))] [(.int (2 : Int32)), (.int (2 : Int32))])) st11 ?_
  refine own_st (T' := T11) (g' := (mkF m 28 #[.val (.ref oq), .val (.int (2 : Int32))] [])) (fun _ k => XS.icmpYes X11.here hx rfl (pc0 := 7) (pc' := 28) rfl (hb hby dcl2_7) rfl (flt (by decide : ¬ ((2 : Int32) < (2 : Int32)))).2.1 (by decide) (by decide) k) ?_
  refine own_st (T' := T11) (g' := (mkF m 29 #[.val (.ref oq), .val (.int (2 : Int32))] [(.ref oq)])) (fun _ k => XS.aloadN X11.here hx rfl (hb hby dcl2_28) rfl rfl k) ?_
  refine own_st (T' := T11) (g' := (mkF m 30 #[.val (.ref oq), .val (.int (2 : Int32))] [(.int (0 : Int32)), (.ref oq)])) (fun _ k => XS.iconst X11.here hx rfl (hb hby dcl2_29) k) ?_
  obtain ⟨T12, h12, X12, e12, W12, st12⟩ := putF X11 hx hZ hown (host := "") (Or.inl (own_w hw 27 rfl)) Via.refl e11 ((Fz_0.other W5 (Or.inl D2)).other W10 (Or.inl D2)) ((E_0.wr W5).wr W10) (Or.inl (own_w hw 28 rfl)) (own_w hw 1 rfl) (ty := .int) (by decide) rfl rfl (g := (mkF m 30 #[.val (.ref oq), .val (.int (2 : Int32))] [(.int (0 : Int32)), (.ref oq)])) rfl rfl (hb hby dcl2_30)
  have Fw12 := ((Fz_0.other W5 (Or.inl D2)).other W10 (Or.inl D2)).same W12
  have N12 := Fr.snoc X12 N10 G_q
  refine own_st (g' := (mkF m 33 #[.val (.ref oq), .val (.int (2 : Int32))] [])) st12 ?_
  exact own_retV X12 hx hlk hret (hb hby dcl2_33) (by rw [e12]; exact ⟨rfl, N12, ((((Keep.refl h0 [oq, oh, os, ok]).wr W5 (Or.inl (by simp))).wr W10 (Or.inl (by simp))).wr W12 (Or.inl (by simp))), (own_up (own_up fS (fH (0 : Int32)) (-1 : Int32)) (fH (1 : Int32)) (-1 : Int32)), ⟨(((E_0.wr W5).wr W10).wr W12), (((Fh_0.other W5 (Or.inl D2)).other W10 (Or.inl D2)).other W12 (Or.inr (slot_ne (Or.inr (own_w hw 11 rfl)) (Or.inl (own_w hw 28 rfl)) (by decide) (t := (.array .int)) (t' := .int) (by decide) (by decide)))), (((Fs_0.other W5 (Or.inl D2)).other W10 (Or.inl D2)).other W12 (Or.inr (slot_ne (Or.inr (own_w hw 13 rfl)) (Or.inl (own_w hw 28 rfl)) (by decide) (t := (.array .int)) (t' := .int) (by decide) (by decide)))), (((Fk_0.other W5 (Or.inl D2)).other W10 (Or.inl D2)).other W12 (Or.inr (slot_ne (Or.inr (own_w hw 16 rfl)) (Or.inl (own_w hw 28 rfl)) (by decide) (t := (.array .long)) (t' := .int) (by decide) (by decide)))), Fw12, (((Ah_0.other W5 D4).other W10 D4).other W12 (Ne.symm D1)), (V10.other W12 (Ne.symm D2)), (((Ak_0.other W5 (Ne.symm D6)).other W10 (Ne.symm D6)).other W12 (Ne.symm D3))⟩, own_clr2 hI⟩) (by decide) (by decide)
theorem dcl3_0 : decode prog_51_method_3_code 0 = .ok (.iconst 0, 1) := by decide +kernel
theorem dcl3_1 : decode prog_51_method_3_code 1 = .ok (.istore_n 1, 1) := by decide +kernel
theorem dcl3_2 : decode prog_51_method_3_code 2 = .ok (.iload_n 1, 1) := by decide +kernel
theorem dcl3_3 : decode prog_51_method_3_code 3 = .ok (.aload_n 0, 1) := by decide +kernel
theorem dcl3_4 : decode prog_51_method_3_code 4 = .ok (.getfield 26, 3) := by decide +kernel
theorem dcl3_7 : decode prog_51_method_3_code 7 = .ok (.if_icmp .ge 21, 3) := by decide +kernel
theorem dcl3_10 : decode prog_51_method_3_code 10 = .ok (.aload_n 0, 1) := by decide +kernel
theorem dcl3_11 : decode prog_51_method_3_code 11 = .ok (.getfield 13, 3) := by decide +kernel
theorem dcl3_14 : decode prog_51_method_3_code 14 = .ok (.aload_n 0, 1) := by decide +kernel
theorem dcl3_15 : decode prog_51_method_3_code 15 = .ok (.getfield 7, 3) := by decide +kernel
theorem dcl3_18 : decode prog_51_method_3_code 18 = .ok (.iload_n 1, 1) := by decide +kernel
theorem dcl3_19 : decode prog_51_method_3_code 19 = .ok (.iaload, 1) := by decide +kernel
theorem dcl3_20 : decode prog_51_method_3_code 20 = .ok (.iconst (-1), 1) := by decide +kernel
theorem dcl3_21 : decode prog_51_method_3_code 21 = .ok (.iastore, 1) := by decide +kernel
theorem dcl3_22 : decode prog_51_method_3_code 22 = .ok (.iinc 1 1, 3) := by decide +kernel
theorem dcl3_25 : decode prog_51_method_3_code 25 = .ok (.goto (-23), 3) := by decide +kernel
theorem dcl3_28 : decode prog_51_method_3_code 28 = .ok (.aload_n 0, 1) := by decide +kernel
theorem dcl3_29 : decode prog_51_method_3_code 29 = .ok (.iconst 0, 1) := by decide +kernel
theorem dcl3_30 : decode prog_51_method_3_code 30 = .ok (.putfield 26, 3) := by decide +kernel
theorem dcl3_33 : decode prog_51_method_3_code 33 = .ok (.return_, 1) := by decide +kernel
theorem pn_cl3 : plainName "com/example/albatross/albatross/NodeQueue" = true := by first | (simp [plainName, overriddenIn]; done) | decide +kernel
theorem ef_cl3 (m : MethodId) (x0 : Addr) : entryFrame m #[(.ref x0)] 2 = mkF m 0 #[.val (.ref x0), .unset] [] := by first | (simp [entryFrame, mkF, argsToLocals, Value.category]; done) | rfl
set_option maxRecDepth 65536 in
set_option maxHeartbeats 40000000 in
theorem rmcl3 (l : Launch) (Z : State) (a0 : Array Value) (hw : ∀ d ∈ tables_1, d.before a0 Z = true) (ws : List Jvm.Cond) (oq oh os ok : Addr) (fH fS : Int32 → Int32) (fK : Int32 → Int64) (h0 : Heap) (n0 : Nat) (Z0 : n0 ≤ h0.size) (hd : own_Ds n0 oq oh os ok) (hq : own_NQ Z h0 oq oh os ok fH fS fK (3 : Int32)) (hI : own_I3 fH fS fK) :
    own_Met l Z ws (⟨"com/example/albatross/albatross/NodeQueue", "clear", "()V"⟩ : MethodName) prog_51_method_3_code 2 none ({ frames := 0, cells := 0, slots := 0, locals := 0 } : Room) ({ frames := 0, cells := 0, slots := 0, locals := 0 } : Room).cells ({ frames := 0, cells := 0, slots := 0, locals := 0 } : Room).slots #[(.ref oq)] h0 (fun v h L => v = none ∧ Fr n0 L ∧ Keep h0 h [oq, oh, os, ok] ∧ ∃ S', own_NQ Z h oq oh os ok fH S' fK (0 : Int32) ∧ own_I0 fH S' fK) := by
  refine own_body (plainFor_of_name pn_cl3) ?_
  intro p e s m below meth c s₁ hx hby hml hown hnm hlk hret hZ hh X0 e0
  have N0 := Fr.nil n0
  have hd0 := hd
  obtain ⟨G_q, G_h, G_s, G_k, D1, D2, D3, D4, D5, D6⟩ := hd
  obtain ⟨E_0, Fh_0, Fs_0, Fk_0, Fz_0, Ah_0, As_0, Ak_0⟩ := hq
  refine own_cast (ef_cl3 m oq) ?_
  refine own_st (T' := s₁) (g' := (mkF m 1 #[.val (.ref oq), .unset] [(.int (0 : Int32))])) (fun _ k => XS.iconst X0.here hx rfl (hb hby dcl3_0) k) ?_
  refine own_st (T' := s₁) (g' := (mkF m 2 #[.val (.ref oq), .val (.int (0 : Int32))] [])) (fun _ k => XS.istoreN X0.here hx rfl (hb hby dcl3_1) rfl (l' := #[.val (.ref oq), .val (.int (0 : Int32))]) rfl k) ?_
  refine own_st (T' := s₁) (g' := (mkF m 3 #[.val (.ref oq), .val (.int (0 : Int32))] [(.int (0 : Int32))])) (fun _ k => XS.iloadN X0.here hx rfl (hb hby dcl3_2) rfl k) ?_
  refine own_st (T' := s₁) (g' := (mkF m 4 #[.val (.ref oq), .val (.int (0 : Int32))] [(.ref oq), (.int (0 : Int32))])) (fun _ k => XS.aloadN X0.here hx rfl (hb hby dcl3_3) rfl rfl k) ?_
  obtain ⟨T1, X1, e1, st1⟩ := getF X0 hx hZ hown (host := "") (Or.inl (own_w hw 27 rfl)) Via.refl e0 Fz_0 (g := (mkF m 4 #[.val (.ref oq), .val (.int (0 : Int32))] [(.ref oq), (.int (0 : Int32))])) rfl rfl (hb hby dcl3_4)
  refine own_st (g' := (mkF m 7 #[.val (.ref oq), .val (.int (0 : Int32))] [(.int (3 : Int32)), (.int (0 : Int32))])) st1 ?_
  refine own_st (T' := T1) (g' := (mkF m 10 #[.val (.ref oq), .val (.int (0 : Int32))] [])) (fun _ k => XS.icmpNo X1.here hx rfl (hb hby dcl3_7) rfl (tlt (by decide : ((0 : Int32) < (3 : Int32)))).2.1 k) ?_
  refine own_st (T' := T1) (g' := (mkF m 11 #[.val (.ref oq), .val (.int (0 : Int32))] [(.ref oq)])) (fun _ k => XS.aloadN X1.here hx rfl (hb hby dcl3_10) rfl rfl k) ?_
  obtain ⟨T2, X2, e2, st2⟩ := getF X1 hx hZ hown (host := "") (Or.inl (own_w hw 12 rfl)) Via.refl e1 Fs_0 (g := (mkF m 11 #[.val (.ref oq), .val (.int (0 : Int32))] [(.ref oq)])) rfl rfl (hb hby dcl3_11)
  refine own_st (g' := (mkF m 14 #[.val (.ref oq), .val (.int (0 : Int32))] [(.ref os)])) st2 ?_
  refine own_st (T' := T2) (g' := (mkF m 15 #[.val (.ref oq), .val (.int (0 : Int32))] [(.ref oq), (.ref os)])) (fun _ k => XS.aloadN X2.here hx rfl (hb hby dcl3_14) rfl rfl k) ?_
  obtain ⟨T3, X3, e3, st3⟩ := getF X2 hx hZ hown (host := "") (Or.inl (own_w hw 10 rfl)) Via.refl e2 Fh_0 (g := (mkF m 15 #[.val (.ref oq), .val (.int (0 : Int32))] [(.ref oq), (.ref os)])) rfl rfl (hb hby dcl3_15)
  refine own_st (g' := (mkF m 18 #[.val (.ref oq), .val (.int (0 : Int32))] [(.ref oh), (.ref os)])) st3 ?_
  refine own_st (T' := T3) (g' := (mkF m 19 #[.val (.ref oq), .val (.int (0 : Int32))] [(.int (0 : Int32)), (.ref oh), (.ref os)])) (fun _ k => XS.iloadN X3.here hx rfl (hb hby dcl3_18) rfl k) ?_
  obtain ⟨cl4, Ar4, S4, M4, H4⟩ := id Ah_0
  refine own_st (T' := T3) (g' := (mkF m 20 #[.val (.ref oq), .val (.int (0 : Int32))] [(.int (fH (0 : Int32))), (.ref os)])) (fun _ k => X3.iaload hx (j := (0 : Int32)) (v := (.int (fH (0 : Int32)))) (by rw [e3]; exact Ar4.1) (State.isArrayOf_alike hZ.alike Ar4.2.1) Ar4.2.2 (inb_of S4 ⟨(by decide), (by decide)⟩) (H4 _ (by decide) (by decide)) (g := (mkF m 19 #[.val (.ref oq), .val (.int (0 : Int32))] [(.int (0 : Int32)), (.ref oh), (.ref os)])) rfl rfl (hb hby dcl3_19) _ k) ?_
  refine own_st (T' := T3) (g' := (mkF m 21 #[.val (.ref oq), .val (.int (0 : Int32))] [(.int (-1 : Int32)), (.int (fH (0 : Int32))), (.ref os)])) (fun _ k => XS.iconst X3.here hx rfl (hb hby dcl3_20) k) ?_
  obtain ⟨cl5, Ar5, S5, M5, H5⟩ := id As_0
  obtain ⟨T5, h5, X5, e5, W5, st5⟩ := stI X3 hx hZ e3 Ar5 (j := (fH (0 : Int32))) (inb_of S5 ⟨(show ¬ (fH (0 : Int32)) < 0 from own_ok0 (own_h3_0 hI)), (show (fH (0 : Int32)) < 3 from own_ok3 (own_h3_0 hI))⟩) (g := (mkF m 21 #[.val (.ref oq), .val (.int (0 : Int32))] [(.int (-1 : Int32)), (.int (fH (0 : Int32))), (.ref os)])) rfl rfl (hb hby dcl3_21)
  have V5 : own_A Z h5 os .int (3 : Int32) (fun i => (.int ((own_up fS (fH (0 : Int32)) (-1 : Int32)) i))) := (own_A.set Ar5 S5 M5 H5 (show ¬ (fH (0 : Int32)) < 0 from own_ok0 (own_h3_0 hI)) (show (fH (0 : Int32)) < 3 from own_ok3 (own_h3_0 hI)) W5).upI
  have N5 := Fr.snoc X5 N0 G_s
  refine own_st (g' := (mkF m 22 #[.val (.ref oq), .val (.int (0 : Int32))] [])) st5 ?_
  refine own_st (T' := T5) (g' := (mkF m 25 #[.val (.ref oq), .val (.int (1 : Int32))] [])) (fun _ k => XS.iinc X5.here hx rfl (hb hby dcl3_22) rfl (l' := #[.val (.ref oq), .val (.int (1 : Int32))]) rfl k) ?_
  refine own_st (T' := T5) (g' := (mkF m 2 #[.val (.ref oq), .val (.int (1 : Int32))] [])) (fun _ k => XS.goto X5.here hx rfl (pc0 := 25) (pc' := 2) rfl (hb hby dcl3_25) (by decide) (by decide) k) ?_
  refine own_st (T' := T5) (g' := (mkF m 3 #[.val (.ref oq), .val (.int (1 : Int32))] [(.int (1 : Int32))])) (fun _ k => XS.iloadN X5.here hx rfl (hb hby dcl3_2) rfl k) ?_
  refine own_st (T' := T5) (g' := (mkF m 4 #[.val (.ref oq), .val (.int (1 : Int32))] [(.ref oq), (.int (1 : Int32))])) (fun _ k => XS.aloadN X5.here hx rfl (hb hby dcl3_3) rfl rfl k) ?_
  obtain ⟨T6, X6, e6, st6⟩ := getF X5 hx hZ hown (host := "") (Or.inl (own_w hw 27 rfl)) Via.refl e5 (Fz_0.other W5 (Or.inl D2)) (g := (mkF m 4 #[.val (.ref oq), .val (.int (1 : Int32))] [(.ref oq), (.int (1 : Int32))])) rfl rfl (hb hby dcl3_4)
  refine own_st (g' := (mkF m 7 #[.val (.ref oq), .val (.int (1 : Int32))] [(.int (3 : Int32)), (.int (1 : Int32))])) st6 ?_
  refine own_st (T' := T6) (g' := (mkF m 10 #[.val (.ref oq), .val (.int (1 : Int32))] [])) (fun _ k => XS.icmpNo X6.here hx rfl (hb hby dcl3_7) rfl (tlt (by decide : ((1 : Int32) < (3 : Int32)))).2.1 k) ?_
  refine own_st (T' := T6) (g' := (mkF m 11 #[.val (.ref oq), .val (.int (1 : Int32))] [(.ref oq)])) (fun _ k => XS.aloadN X6.here hx rfl (hb hby dcl3_10) rfl rfl k) ?_
  obtain ⟨T7, X7, e7, st7⟩ := getF X6 hx hZ hown (host := "") (Or.inl (own_w hw 12 rfl)) Via.refl e6 (Fs_0.other W5 (Or.inl D2)) (g := (mkF m 11 #[.val (.ref oq), .val (.int (1 : Int32))] [(.ref oq)])) rfl rfl (hb hby dcl3_11)
  refine own_st (g' := (mkF m 14 #[.val (.ref oq), .val (.int (1 : Int32))] [(.ref os)])) st7 ?_
  refine own_st (T' := T7) (g' := (mkF m 15 #[.val (.ref oq), .val (.int (1 : Int32))] [(.ref oq), (.ref os)])) (fun _ k => XS.aloadN X7.here hx rfl (hb hby dcl3_14) rfl rfl k) ?_
  obtain ⟨T8, X8, e8, st8⟩ := getF X7 hx hZ hown (host := "") (Or.inl (own_w hw 10 rfl)) Via.refl e7 (Fh_0.other W5 (Or.inl D2)) (g := (mkF m 15 #[.val (.ref oq), .val (.int (1 : Int32))] [(.ref oq), (.ref os)])) rfl rfl (hb hby dcl3_15)
  refine own_st (g' := (mkF m 18 #[.val (.ref oq), .val (.int (1 : Int32))] [(.ref oh), (.ref os)])) st8 ?_
  refine own_st (T' := T8) (g' := (mkF m 19 #[.val (.ref oq), .val (.int (1 : Int32))] [(.int (1 : Int32)), (.ref oh), (.ref os)])) (fun _ k => XS.iloadN X8.here hx rfl (hb hby dcl3_18) rfl k) ?_
  obtain ⟨cl9, Ar9, S9, M9, H9⟩ := id (Ah_0.other W5 D4)
  refine own_st (T' := T8) (g' := (mkF m 20 #[.val (.ref oq), .val (.int (1 : Int32))] [(.int (fH (1 : Int32))), (.ref os)])) (fun _ k => X8.iaload hx (j := (1 : Int32)) (v := (.int (fH (1 : Int32)))) (by rw [e8]; exact Ar9.1) (State.isArrayOf_alike hZ.alike Ar9.2.1) Ar9.2.2 (inb_of S9 ⟨(by decide), (by decide)⟩) (H9 _ (by decide) (by decide)) (g := (mkF m 19 #[.val (.ref oq), .val (.int (1 : Int32))] [(.int (1 : Int32)), (.ref oh), (.ref os)])) rfl rfl (hb hby dcl3_19) _ k) ?_
  refine own_st (T' := T8) (g' := (mkF m 21 #[.val (.ref oq), .val (.int (1 : Int32))] [(.int (-1 : Int32)), (.int (fH (1 : Int32))), (.ref os)])) (fun _ k => XS.iconst X8.here hx rfl (hb hby dcl3_20) k) ?_
  obtain ⟨cl10, Ar10, S10, M10, H10⟩ := id V5
  obtain ⟨T10, h10, X10, e10, W10, st10⟩ := stI X8 hx hZ e8 Ar10 (j := (fH (1 : Int32))) (inb_of S10 ⟨(show ¬ (fH (1 : Int32)) < 0 from own_ok0 (own_h3_1 hI)), (show (fH (1 : Int32)) < 3 from own_ok3 (own_h3_1 hI))⟩) (g := (mkF m 21 #[.val (.ref oq), .val (.int (1 : Int32))] [(.int (-1 : Int32)), (.int (fH (1 : Int32))), (.ref os)])) rfl rfl (hb hby dcl3_21)
  have V10 : own_A Z h10 os .int (3 : Int32) (fun i => (.int ((own_up (own_up fS (fH (0 : Int32)) (-1 : Int32)) (fH (1 : Int32)) (-1 : Int32)) i))) := (own_A.set Ar10 S10 M10 H10 (show ¬ (fH (1 : Int32)) < 0 from own_ok0 (own_h3_1 hI)) (show (fH (1 : Int32)) < 3 from own_ok3 (own_h3_1 hI)) W10).upI
  have N10 := Fr.snoc X10 N5 G_s
  refine own_st (g' := (mkF m 22 #[.val (.ref oq), .val (.int (1 : Int32))] [])) st10 ?_
  refine own_st (T' := T10) (g' := (mkF m 25 #[.val (.ref oq), .val (.int (2 : Int32))] [])) (fun _ k => XS.iinc X10.here hx rfl (hb hby dcl3_22) rfl (l' := #[.val (.ref oq), .val (.int (2 : Int32))]) rfl k) ?_
  refine own_st (T' := T10) (g' := (mkF m 2 #[.val (.ref oq), .val (.int (2 : Int32))] [])) (fun _ k => XS.goto X10.here hx rfl (pc0 := 25) (pc' := 2) rfl (hb hby dcl3_25) (by decide) (by decide) k) ?_
  refine own_st (T' := T10) (g' := (mkF m 3 #[.val (.ref oq), .val (.int (2 : Int32))] [(.int (2 : Int32))])) (fun _ k => XS.iloadN X10.here hx rfl (hb hby dcl3_2) rfl k) ?_
  refine own_st (T' := T10) (g' := (mkF m 4 #[.val (.ref oq), .val (.int (2 : Int32))] [(.ref oq), (.int (2 : Int32))])) (fun _ k => XS.aloadN X10.here hx rfl (hb hby dcl3_3) rfl rfl k) ?_
  obtain ⟨T11, X11, e11, st11⟩ := getF X10 hx hZ hown (host := "") (Or.inl (own_w hw 27 rfl)) Via.refl e10 ((Fz_0.other W5 (Or.inl D2)).other W10 (Or.inl D2)) (g := (mkF m 4 #[.val (.ref oq), .val (.int (2 : Int32))] [(.ref oq), (.int (2 : Int32))])) rfl rfl (hb hby dcl3_4)
  refine own_st (g' := (mkF m 7 #[.val (.ref oq), .val (.int (2 : Int32))] [(.int (3 : Int32)), (.int (2 : Int32))])) st11 ?_
  refine own_st (T' := T11) (g' := (mkF m 10 #[.val (.ref oq), .val (.int (2 : Int32))] [])) (fun _ k => XS.icmpNo X11.here hx rfl (hb hby dcl3_7) rfl (tlt (by decide : ((2 : Int32) < (3 : Int32)))).2.1 k) ?_
  refine own_st (T' := T11) (g' := (mkF m 11 #[.val (.ref oq), .val (.int (2 : Int32))] [(.ref oq)])) (fun _ k => XS.aloadN X11.here hx rfl (hb hby dcl3_10) rfl rfl k) ?_
  obtain ⟨T12, X12, e12, st12⟩ := getF X11 hx hZ hown (host := "") (Or.inl (own_w hw 12 rfl)) Via.refl e11 ((Fs_0.other W5 (Or.inl D2)).other W10 (Or.inl D2)) (g := (mkF m 11 #[.val (.ref oq), .val (.int (2 : Int32))] [(.ref oq)])) rfl rfl (hb hby dcl3_11)
  refine own_st (g' := (mkF m 14 #[.val (.ref oq), .val (.int (2 : Int32))] [(.ref os)])) st12 ?_
  refine own_st (T' := T12) (g' := (mkF m 15 #[.val (.ref oq), .val (.int (2 : Int32))] [(.ref oq), (.ref os)])) (fun _ k => XS.aloadN X12.here hx rfl (hb hby dcl3_14) rfl rfl k) ?_
  obtain ⟨T13, X13, e13, st13⟩ := getF X12 hx hZ hown (host := "") (Or.inl (own_w hw 10 rfl)) Via.refl e12 ((Fh_0.other W5 (Or.inl D2)).other W10 (Or.inl D2)) (g := (mkF m 15 #[.val (.ref oq), .val (.int (2 : Int32))] [(.ref oq), (.ref os)])) rfl rfl (hb hby dcl3_15)
  refine own_st (g' := (mkF m 18 #[.val (.ref oq), .val (.int (2 : Int32))] [(.ref oh), (.ref os)])) st13 ?_
  refine own_st (T' := T13) (g' := (mkF m 19 #[.val (.ref oq), .val (.int (2 : Int32))] [(.int (2 : Int32)), (.ref oh), (.ref os)])) (fun _ k => XS.iloadN X13.here hx rfl (hb hby dcl3_18) rfl k) ?_
  obtain ⟨cl14, Ar14, S14, M14, H14⟩ := id ((Ah_0.other W5 D4).other W10 D4)
  refine own_st (T' := T13) (g' := (mkF m 20 #[.val (.ref oq), .val (.int (2 : Int32))] [(.int (fH (2 : Int32))), (.ref os)])) (fun _ k => X13.iaload hx (j := (2 : Int32)) (v := (.int (fH (2 : Int32)))) (by rw [e13]; exact Ar14.1) (State.isArrayOf_alike hZ.alike Ar14.2.1) Ar14.2.2 (inb_of S14 ⟨(by decide), (by decide)⟩) (H14 _ (by decide) (by decide)) (g := (mkF m 19 #[.val (.ref oq), .val (.int (2 : Int32))] [(.int (2 : Int32)), (.ref oh), (.ref os)])) rfl rfl (hb hby dcl3_19) _ k) ?_
  refine own_st (T' := T13) (g' := (mkF m 21 #[.val (.ref oq), .val (.int (2 : Int32))] [(.int (-1 : Int32)), (.int (fH (2 : Int32))), (.ref os)])) (fun _ k => XS.iconst X13.here hx rfl (hb hby dcl3_20) k) ?_
  obtain ⟨cl15, Ar15, S15, M15, H15⟩ := id V10
  obtain ⟨T15, h15, X15, e15, W15, st15⟩ := stI X13 hx hZ e13 Ar15 (j := (fH (2 : Int32))) (inb_of S15 ⟨(show ¬ (fH (2 : Int32)) < 0 from own_ok0 (own_h3_2 hI)), (show (fH (2 : Int32)) < 3 from own_ok3 (own_h3_2 hI))⟩) (g := (mkF m 21 #[.val (.ref oq), .val (.int (2 : Int32))] [(.int (-1 : Int32)), (.int (fH (2 : Int32))), (.ref os)])) rfl rfl (hb hby dcl3_21)
  have V15 : own_A Z h15 os .int (3 : Int32) (fun i => (.int ((own_up (own_up (own_up fS (fH (0 : Int32)) (-1 : Int32)) (fH (1 : Int32)) (-1 : Int32)) (fH (2 : Int32)) (-1 : Int32)) i))) := (own_A.set Ar15 S15 M15 H15 (show ¬ (fH (2 : Int32)) < 0 from own_ok0 (own_h3_2 hI)) (show (fH (2 : Int32)) < 3 from own_ok3 (own_h3_2 hI)) W15).upI
  have N15 := Fr.snoc X15 N10 G_s
  refine own_st (g' := (mkF m 22 #[.val (.ref oq), .val (.int (2 : Int32))] [])) st15 ?_
  refine own_st (T' := T15) (g' := (mkF m 25 #[.val (.ref oq), .val (.int (3 : Int32))] [])) (fun _ k => XS.iinc X15.here hx rfl (hb hby dcl3_22) rfl (l' := #[.val (.ref oq), .val (.int (3 : Int32))]) rfl k) ?_
  refine own_st (T' := T15) (g' := (mkF m 2 #[.val (.ref oq), .val (.int (3 : Int32))] [])) (fun _ k => XS.goto X15.here hx rfl (pc0 := 25) (pc' := 2) rfl (hb hby dcl3_25) (by decide) (by decide) k) ?_
  refine own_st (T' := T15) (g' := (mkF m 3 #[.val (.ref oq), .val (.int (3 : Int32))] [(.int (3 : Int32))])) (fun _ k => XS.iloadN X15.here hx rfl (hb hby dcl3_2) rfl k) ?_
  refine own_st (T' := T15) (g' := (mkF m 4 #[.val (.ref oq), .val (.int (3 : Int32))] [(.ref oq), (.int (3 : Int32))])) (fun _ k => XS.aloadN X15.here hx rfl (hb hby dcl3_3) rfl rfl k) ?_
  obtain ⟨T16, X16, e16, st16⟩ := getF X15 hx hZ hown (host := "") (Or.inl (own_w hw 27 rfl)) Via.refl e15 (((Fz_0.other W5 (Or.inl D2)).other W10 (Or.inl D2)).other W15 (Or.inl D2)) (g := (mkF m 4 #[.val (.ref oq), .val (.int (3 : Int32))] [(.ref oq), (.int (3 : Int32))])) rfl rfl (hb hby dcl3_4)
  refine own_st (g' := (mkF m 7 #[.val (.ref oq), .val (.int (3 : Int32))] [(.int (3 : Int32)), (.int (3 : Int32))])) st16 ?_
  refine own_st (T' := T16) (g' := (mkF m 28 #[.val (.ref oq), .val (.int (3 : Int32))] [])) (fun _ k => XS.icmpYes X16.here hx rfl (pc0 := 7) (pc' := 28) rfl (hb hby dcl3_7) rfl (flt (by decide : ¬ ((3 : Int32) < (3 : Int32)))).2.1 (by decide) (by decide) k) ?_
  refine own_st (T' := T16) (g' := (mkF m 29 #[.val (.ref oq), .val (.int (3 : Int32))] [(.ref oq)])) (fun _ k => XS.aloadN X16.here hx rfl (hb hby dcl3_28) rfl rfl k) ?_
  refine own_st (T' := T16) (g' := (mkF m 30 #[.val (.ref oq), .val (.int (3 : Int32))] [(.int (0 : Int32)), (.ref oq)])) (fun _ k => XS.iconst X16.here hx rfl (hb hby dcl3_29) k) ?_
  obtain ⟨T17, h17, X17, e17, W17, st17⟩ := putF X16 hx hZ hown (host := "") (Or.inl (own_w hw 27 rfl)) Via.refl e16 (((Fz_0.other W5 (Or.inl D2)).other W10 (Or.inl D2)).other W15 (Or.inl D2)) (((E_0.wr W5).wr W10).wr W15) (Or.inl (own_w hw 28 rfl)) (own_w hw 1 rfl) (ty := .int) (by decide) rfl rfl (g := (mkF m 30 #[.val (.ref oq), .val (.int (3 : Int32))] [(.int (0 : Int32)), (.ref oq)])) rfl rfl (hb hby dcl3_30)
  have Fw17 := (((Fz_0.other W5 (Or.inl D2)).other W10 (Or.inl D2)).other W15 (Or.inl D2)).same W17
  have N17 := Fr.snoc X17 N15 G_q
  refine own_st (g' := (mkF m 33 #[.val (.ref oq), .val (.int (3 : Int32))] [])) st17 ?_
  exact own_retV X17 hx hlk hret (hb hby dcl3_33) (by rw [e17]; exact ⟨rfl, N17, (((((Keep.refl h0 [oq, oh, os, ok]).wr W5 (Or.inl (by simp))).wr W10 (Or.inl (by simp))).wr W15 (Or.inl (by simp))).wr W17 (Or.inl (by simp))), (own_up (own_up (own_up fS (fH (0 : Int32)) (-1 : Int32)) (fH (1 : Int32)) (-1 : Int32)) (fH (2 : Int32)) (-1 : Int32)), ⟨((((E_0.wr W5).wr W10).wr W15).wr W17), ((((Fh_0.other W5 (Or.inl D2)).other W10 (Or.inl D2)).other W15 (Or.inl D2)).other W17 (Or.inr (slot_ne (Or.inr (own_w hw 11 rfl)) (Or.inl (own_w hw 28 rfl)) (by decide) (t := (.array .int)) (t' := .int) (by decide) (by decide)))), ((((Fs_0.other W5 (Or.inl D2)).other W10 (Or.inl D2)).other W15 (Or.inl D2)).other W17 (Or.inr (slot_ne (Or.inr (own_w hw 13 rfl)) (Or.inl (own_w hw 28 rfl)) (by decide) (t := (.array .int)) (t' := .int) (by decide) (by decide)))), ((((Fk_0.other W5 (Or.inl D2)).other W10 (Or.inl D2)).other W15 (Or.inl D2)).other W17 (Or.inr (slot_ne (Or.inr (own_w hw 16 rfl)) (Or.inl (own_w hw 28 rfl)) (by decide) (t := (.array .long)) (t' := .int) (by decide) (by decide)))), Fw17, ((((Ah_0.other W5 D4).other W10 D4).other W15 D4).other W17 (Ne.symm D1)), (V15.other W17 (Ne.symm D2)), ((((Ak_0.other W5 (Ne.symm D6)).other W10 (Ne.symm D6)).other W15 (Ne.symm D6)).other W17 (Ne.symm D3))⟩, own_clr3 hI⟩) (by decide) (by decide)
theorem dpo1_0 : decode prog_51_method_5_code 0 = .ok (.aload_n 0, 1) := by decide +kernel
theorem dpo1_1 : decode prog_51_method_5_code 1 = .ok (.getfield 7, 3) := by decide +kernel
theorem dpo1_4 : decode prog_51_method_5_code 4 = .ok (.iconst 0, 1) := by decide +kernel
theorem dpo1_5 : decode prog_51_method_5_code 5 = .ok (.iaload, 1) := by decide +kernel
theorem dpo1_6 : decode prog_51_method_5_code 6 = .ok (.istore_n 1, 1) := by decide +kernel
theorem dpo1_7 : decode prog_51_method_5_code 7 = .ok (.aload_n 0, 1) := by decide +kernel
theorem dpo1_8 : decode prog_51_method_5_code 8 = .ok (.dup, 1) := by decide +kernel
theorem dpo1_9 : decode prog_51_method_5_code 9 = .ok (.getfield 26, 3) := by decide +kernel
theorem dpo1_12 : decode prog_51_method_5_code 12 = .ok (.iconst 1, 1) := by decide +kernel
theorem dpo1_13 : decode prog_51_method_5_code 13 = .ok (.isub, 1) := by decide +kernel
theorem dpo1_14 : decode prog_51_method_5_code 14 = .ok (.putfield 26, 3) := by decide +kernel
theorem dpo1_17 : decode prog_51_method_5_code 17 = .ok (.aload_n 0, 1) := by decide +kernel
theorem dpo1_18 : decode prog_51_method_5_code 18 = .ok (.getfield 13, 3) := by decide +kernel
theorem dpo1_21 : decode prog_51_method_5_code 21 = .ok (.iload_n 1, 1) := by decide +kernel
theorem dpo1_22 : decode prog_51_method_5_code 22 = .ok (.iconst (-1), 1) := by decide +kernel
theorem dpo1_23 : decode prog_51_method_5_code 23 = .ok (.iastore, 1) := by decide +kernel
theorem dpo1_24 : decode prog_51_method_5_code 24 = .ok (.aload_n 0, 1) := by decide +kernel
theorem dpo1_25 : decode prog_51_method_5_code 25 = .ok (.getfield 26, 3) := by decide +kernel
theorem dpo1_28 : decode prog_51_method_5_code 28 = .ok (.ifCond .le 22, 3) := by decide +kernel
theorem dpo1_50 : decode prog_51_method_5_code 50 = .ok (.iload_n 1, 1) := by decide +kernel
theorem dpo1_51 : decode prog_51_method_5_code 51 = .ok (.ireturn, 1) := by decide +kernel
theorem pn_po1 : plainName "com/example/albatross/albatross/NodeQueue" = true := by first | (simp [plainName, overriddenIn]; done) | decide +kernel
theorem ef_po1 (m : MethodId) (x0 : Addr) : entryFrame m #[(.ref x0)] 2 = mkF m 0 #[.val (.ref x0), .unset] [] := by first | (simp [entryFrame, mkF, argsToLocals, Value.category]; done) | rfl
set_option maxRecDepth 65536 in
set_option maxHeartbeats 40000000 in
theorem rmpo1 (l : Launch) (Z : State) (a0 : Array Value) (hw : ∀ d ∈ tables_1, d.before a0 Z = true) (ws : List Jvm.Cond) (oq oh os ok : Addr) (fH fS : Int32 → Int32) (fK : Int32 → Int64) (h0 : Heap) (n0 : Nat) (Z0 : n0 ≤ h0.size) (hd : own_Ds n0 oq oh os ok) (hq : own_NQ Z h0 oq oh os ok fH fS fK (1 : Int32)) (hI : own_I1 fH fS fK) :
    own_Met l Z ws (⟨"com/example/albatross/albatross/NodeQueue", "poll", "()I"⟩ : MethodName) prog_51_method_5_code 2 (some .int) ({ frames := 2, cells := 0, slots := 0, locals := 29 } : Room) ({ frames := 2, cells := 0, slots := 0, locals := 29 } : Room).cells ({ frames := 2, cells := 0, slots := 0, locals := 29 } : Room).slots #[(.ref oq)] h0 (fun v h L => ∃ f, v = some (.int f) ∧ Fr n0 L ∧ Keep h0 h [oq, oh, os, ok] ∧ ∃ H' S' z', own_NQ Z h oq oh os ok H' S' fK z' ∧ own_Pol fS fK f H' S' z') := by
  refine own_body (plainFor_of_name pn_po1) ?_
  intro p e s m below meth c s₁ hx hby hml hown hnm hlk hret hZ hh X0 e0
  have N0 := Fr.nil n0
  have hd0 := hd
  obtain ⟨G_q, G_h, G_s, G_k, D1, D2, D3, D4, D5, D6⟩ := hd
  obtain ⟨E_0, Fh_0, Fs_0, Fk_0, Fz_0, Ah_0, As_0, Ak_0⟩ := hq
  refine own_cast (ef_po1 m oq) ?_
  refine own_st (T' := s₁) (g' := (mkF m 1 #[.val (.ref oq), .unset] [(.ref oq)])) (fun _ k => XS.aloadN X0.here hx rfl (hb hby dpo1_0) rfl rfl k) ?_
  obtain ⟨T1, X1, e1, st1⟩ := getF X0 hx hZ hown (host := "") (Or.inl (own_w hw 10 rfl)) Via.refl e0 Fh_0 (g := (mkF m 1 #[.val (.ref oq), .unset] [(.ref oq)])) rfl rfl (hb hby dpo1_1)
  refine own_st (g' := (mkF m 4 #[.val (.ref oq), .unset] [(.ref oh)])) st1 ?_
  refine own_st (T' := T1) (g' := (mkF m 5 #[.val (.ref oq), .unset] [(.int (0 : Int32)), (.ref oh)])) (fun _ k => XS.iconst X1.here hx rfl (hb hby dpo1_4) k) ?_
  obtain ⟨cl2, Ar2, S2, M2, H2⟩ := id Ah_0
  refine own_st (T' := T1) (g' := (mkF m 6 #[.val (.ref oq), .unset] [(.int (fH (0 : Int32)))])) (fun _ k => X1.iaload hx (j := (0 : Int32)) (v := (.int (fH (0 : Int32)))) (by rw [e1]; exact Ar2.1) (State.isArrayOf_alike hZ.alike Ar2.2.1) Ar2.2.2 (inb_of S2 ⟨(by decide), (by decide)⟩) (H2 _ (by decide) (by decide)) (g := (mkF m 5 #[.val (.ref oq), .unset] [(.int (0 : Int32)), (.ref oh)])) rfl rfl (hb hby dpo1_5) _ k) ?_
  refine own_st (T' := T1) (g' := (mkF m 7 #[.val (.ref oq), .val (.int (fH (0 : Int32)))] [])) (fun _ k => XS.istoreN X1.here hx rfl (hb hby dpo1_6) rfl (l' := #[.val (.ref oq), .val (.int (fH (0 : Int32)))]) rfl k) ?_
  refine own_st (T' := T1) (g' := (mkF m 8 #[.val (.ref oq), .val (.int (fH (0 : Int32)))] [(.ref oq)])) (fun _ k => XS.aloadN X1.here hx rfl (hb hby dpo1_7) rfl rfl k) ?_
  refine own_st (T' := T1) (g' := (mkF m 9 #[.val (.ref oq), .val (.int (fH (0 : Int32)))] [(.ref oq), (.ref oq)])) (fun _ k => XS.dup X1.here hx rfl (hb hby dpo1_8) rfl rfl k) ?_
  obtain ⟨T3, X3, e3, st3⟩ := getF X1 hx hZ hown (host := "") (Or.inl (own_w hw 27 rfl)) Via.refl e1 Fz_0 (g := (mkF m 9 #[.val (.ref oq), .val (.int (fH (0 : Int32)))] [(.ref oq), (.ref oq)])) rfl rfl (hb hby dpo1_9)
  refine own_st (g' := (mkF m 12 #[.val (.ref oq), .val (.int (fH (0 : Int32)))] [(.int (1 : Int32)), (.ref oq)])) st3 ?_
  refine own_st (T' := T3) (g' := (mkF m 13 #[.val (.ref oq), .val (.int (fH (0 : Int32)))] [(.int (1 : Int32)), (.int (1 : Int32)), (.ref oq)])) (fun _ k => XS.iconst X3.here hx rfl (hb hby dpo1_12) k) ?_
  refine own_st (T' := T3) (g' := (mkF m 14 #[.val (.ref oq), .val (.int (fH (0 : Int32)))] [(.int (0 : Int32)), (.ref oq)])) (fun _ k => XS.isub X3.here hx rfl (hb hby dpo1_13) rfl k) ?_
  obtain ⟨T4, h4, X4, e4, W4, st4⟩ := putF X3 hx hZ hown (host := "") (Or.inl (own_w hw 27 rfl)) Via.refl e3 Fz_0 E_0 (Or.inl (own_w hw 28 rfl)) (own_w hw 1 rfl) (ty := .int) (by decide) rfl rfl (g := (mkF m 14 #[.val (.ref oq), .val (.int (fH (0 : Int32)))] [(.int (0 : Int32)), (.ref oq)])) rfl rfl (hb hby dpo1_14)
  have Fw4 := Fz_0.same W4
  have N4 := Fr.snoc X4 N0 G_q
  refine own_st (g' := (mkF m 17 #[.val (.ref oq), .val (.int (fH (0 : Int32)))] [])) st4 ?_
  refine own_st (T' := T4) (g' := (mkF m 18 #[.val (.ref oq), .val (.int (fH (0 : Int32)))] [(.ref oq)])) (fun _ k => XS.aloadN X4.here hx rfl (hb hby dpo1_17) rfl rfl k) ?_
  obtain ⟨T5, X5, e5, st5⟩ := getF X4 hx hZ hown (host := "") (Or.inl (own_w hw 12 rfl)) Via.refl e4 (Fs_0.other W4 (Or.inr (slot_ne (Or.inr (own_w hw 13 rfl)) (Or.inl (own_w hw 28 rfl)) (by decide) (t := (.array .int)) (t' := .int) (by decide) (by decide)))) (g := (mkF m 18 #[.val (.ref oq), .val (.int (fH (0 : Int32)))] [(.ref oq)])) rfl rfl (hb hby dpo1_18)
  refine own_st (g' := (mkF m 21 #[.val (.ref oq), .val (.int (fH (0 : Int32)))] [(.ref os)])) st5 ?_
  refine own_st (T' := T5) (g' := (mkF m 22 #[.val (.ref oq), .val (.int (fH (0 : Int32)))] [(.int (fH (0 : Int32))), (.ref os)])) (fun _ k => XS.iloadN X5.here hx rfl (hb hby dpo1_21) rfl k) ?_
  refine own_st (T' := T5) (g' := (mkF m 23 #[.val (.ref oq), .val (.int (fH (0 : Int32)))] [(.int (-1 : Int32)), (.int (fH (0 : Int32))), (.ref os)])) (fun _ k => XS.iconst X5.here hx rfl (hb hby dpo1_22) k) ?_
  obtain ⟨cl6, Ar6, S6, M6, H6⟩ := id (As_0.other W4 (Ne.symm D2))
  obtain ⟨T6, h6, X6, e6, W6, st6⟩ := stI X5 hx hZ e5 Ar6 (j := (fH (0 : Int32))) (inb_of S6 ⟨(show ¬ (fH (0 : Int32)) < 0 from own_ok0 (own_h1_0 hI)), (show (fH (0 : Int32)) < 3 from own_ok3 (own_h1_0 hI))⟩) (g := (mkF m 23 #[.val (.ref oq), .val (.int (fH (0 : Int32)))] [(.int (-1 : Int32)), (.int (fH (0 : Int32))), (.ref os)])) rfl rfl (hb hby dpo1_23)
  have V6 : own_A Z h6 os .int (3 : Int32) (fun i => (.int ((own_up fS (fH (0 : Int32)) (-1 : Int32)) i))) := (own_A.set Ar6 S6 M6 H6 (show ¬ (fH (0 : Int32)) < 0 from own_ok0 (own_h1_0 hI)) (show (fH (0 : Int32)) < 3 from own_ok3 (own_h1_0 hI)) W6).upI
  have N6 := Fr.snoc X6 N4 G_s
  refine own_st (g' := (mkF m 24 #[.val (.ref oq), .val (.int (fH (0 : Int32)))] [])) st6 ?_
  refine own_st (T' := T6) (g' := (mkF m 25 #[.val (.ref oq), .val (.int (fH (0 : Int32)))] [(.ref oq)])) (fun _ k => XS.aloadN X6.here hx rfl (hb hby dpo1_24) rfl rfl k) ?_
  obtain ⟨T7, X7, e7, st7⟩ := getF X6 hx hZ hown (host := "") (Or.inl (own_w hw 27 rfl)) Via.refl e6 (Fw4.other W6 (Or.inl D2)) (g := (mkF m 25 #[.val (.ref oq), .val (.int (fH (0 : Int32)))] [(.ref oq)])) rfl rfl (hb hby dpo1_25)
  refine own_st (g' := (mkF m 28 #[.val (.ref oq), .val (.int (fH (0 : Int32)))] [(.int (0 : Int32))])) st7 ?_
  refine own_st (T' := T7) (g' := (mkF m 50 #[.val (.ref oq), .val (.int (fH (0 : Int32)))] [])) (fun _ k => XS.ifYes X7.here hx rfl (pc0 := 28) (pc' := 50) rfl (hb hby dpo1_28) rfl ((if0 _ _).trans (flt (by decide : ¬ ((0 : Int32) < (0 : Int32)))).2.2.2) (by decide) (by decide) k) ?_
  refine own_st (T' := T7) (g' := (mkF m 51 #[.val (.ref oq), .val (.int (fH (0 : Int32)))] [(.int (fH (0 : Int32)))])) (fun _ k => XS.iloadN X7.here hx rfl (hb hby dpo1_50) rfl k) ?_
  exact own_retI X7 hx hlk hret (hb hby dpo1_51) (by rw [e7]; exact ⟨_, rfl, N6, (((Keep.refl h0 [oq, oh, os, ok]).wr W4 (Or.inl (by simp))).wr W6 (Or.inl (by simp))), fH, (own_up fS (fH (0 : Int32)) (-1 : Int32)), (0 : Int32), ⟨((E_0.wr W4).wr W6), ((Fh_0.other W4 (Or.inr (slot_ne (Or.inr (own_w hw 11 rfl)) (Or.inl (own_w hw 28 rfl)) (by decide) (t := (.array .int)) (t' := .int) (by decide) (by decide)))).other W6 (Or.inl D2)), ((Fs_0.other W4 (Or.inr (slot_ne (Or.inr (own_w hw 13 rfl)) (Or.inl (own_w hw 28 rfl)) (by decide) (t := (.array .int)) (t' := .int) (by decide) (by decide)))).other W6 (Or.inl D2)), ((Fk_0.other W4 (Or.inr (slot_ne (Or.inr (own_w hw 16 rfl)) (Or.inl (own_w hw 28 rfl)) (by decide) (t := (.array .long)) (t' := .int) (by decide) (by decide)))).other W6 (Or.inl D2)), (Fw4.other W6 (Or.inl D2)), ((Ah_0.other W4 (Ne.symm D1)).other W6 D4), V6, ((Ak_0.other W4 (Ne.symm D3)).other W6 (Ne.symm D6))⟩, own_pol1 hI⟩) (by decide) (by decide)
theorem dpo2_0 : decode prog_51_method_5_code 0 = .ok (.aload_n 0, 1) := by decide +kernel
theorem dpo2_1 : decode prog_51_method_5_code 1 = .ok (.getfield 7, 3) := by decide +kernel
theorem dpo2_4 : decode prog_51_method_5_code 4 = .ok (.iconst 0, 1) := by decide +kernel
theorem dpo2_5 : decode prog_51_method_5_code 5 = .ok (.iaload, 1) := by decide +kernel
theorem dpo2_6 : decode prog_51_method_5_code 6 = .ok (.istore_n 1, 1) := by decide +kernel
theorem dpo2_7 : decode prog_51_method_5_code 7 = .ok (.aload_n 0, 1) := by decide +kernel
theorem dpo2_8 : decode prog_51_method_5_code 8 = .ok (.dup, 1) := by decide +kernel
theorem dpo2_9 : decode prog_51_method_5_code 9 = .ok (.getfield 26, 3) := by decide +kernel
theorem dpo2_12 : decode prog_51_method_5_code 12 = .ok (.iconst 1, 1) := by decide +kernel
theorem dpo2_13 : decode prog_51_method_5_code 13 = .ok (.isub, 1) := by decide +kernel
theorem dpo2_14 : decode prog_51_method_5_code 14 = .ok (.putfield 26, 3) := by decide +kernel
theorem dpo2_17 : decode prog_51_method_5_code 17 = .ok (.aload_n 0, 1) := by decide +kernel
theorem dpo2_18 : decode prog_51_method_5_code 18 = .ok (.getfield 13, 3) := by decide +kernel
theorem dpo2_21 : decode prog_51_method_5_code 21 = .ok (.iload_n 1, 1) := by decide +kernel
theorem dpo2_22 : decode prog_51_method_5_code 22 = .ok (.iconst (-1), 1) := by decide +kernel
theorem dpo2_23 : decode prog_51_method_5_code 23 = .ok (.iastore, 1) := by decide +kernel
theorem dpo2_24 : decode prog_51_method_5_code 24 = .ok (.aload_n 0, 1) := by decide +kernel
theorem dpo2_25 : decode prog_51_method_5_code 25 = .ok (.getfield 26, 3) := by decide +kernel
theorem dpo2_28 : decode prog_51_method_5_code 28 = .ok (.ifCond .le 22, 3) := by decide +kernel
theorem dpo2_31 : decode prog_51_method_5_code 31 = .ok (.aload_n 0, 1) := by decide +kernel
theorem dpo2_32 : decode prog_51_method_5_code 32 = .ok (.aload_n 0, 1) := by decide +kernel
theorem dpo2_33 : decode prog_51_method_5_code 33 = .ok (.getfield 7, 3) := by decide +kernel
theorem dpo2_36 : decode prog_51_method_5_code 36 = .ok (.aload_n 0, 1) := by decide +kernel
theorem dpo2_37 : decode prog_51_method_5_code 37 = .ok (.getfield 26, 3) := by decide +kernel
theorem dpo2_40 : decode prog_51_method_5_code 40 = .ok (.iaload, 1) := by decide +kernel
theorem dpo2_41 : decode prog_51_method_5_code 41 = .ok (.iconst 0, 1) := by decide +kernel
theorem dpo2_42 : decode prog_51_method_5_code 42 = .ok (.invokevirtual 34, 3) := by decide +kernel
theorem dpo2_45 : decode prog_51_method_5_code 45 = .ok (.aload_n 0, 1) := by decide +kernel
theorem dpo2_46 : decode prog_51_method_5_code 46 = .ok (.iconst 0, 1) := by decide +kernel
theorem dpo2_47 : decode prog_51_method_5_code 47 = .ok (.invokevirtual 38, 3) := by decide +kernel
theorem dpo2_50 : decode prog_51_method_5_code 50 = .ok (.iload_n 1, 1) := by decide +kernel
theorem dpo2_51 : decode prog_51_method_5_code 51 = .ok (.ireturn, 1) := by decide +kernel
theorem pn_po2 : plainName "com/example/albatross/albatross/NodeQueue" = true := by first | (simp [plainName, overriddenIn]; done) | decide +kernel
theorem ef_po2 (m : MethodId) (x0 : Addr) : entryFrame m #[(.ref x0)] 2 = mkF m 0 #[.val (.ref x0), .unset] [] := by first | (simp [entryFrame, mkF, argsToLocals, Value.category]; done) | rfl
set_option maxRecDepth 65536 in
set_option maxHeartbeats 40000000 in
theorem rmpo2 (l : Launch) (Z : State) (a0 : Array Value) (hw : ∀ d ∈ tables_1, d.before a0 Z = true) (ws : List Jvm.Cond) (oq oh os ok : Addr) (fH fS : Int32 → Int32) (fK : Int32 → Int64) (h0 : Heap) (n0 : Nat) (Z0 : n0 ≤ h0.size) (hd : own_Ds n0 oq oh os ok) (hq : own_NQ Z h0 oq oh os ok fH fS fK (2 : Int32)) (hI : own_I2 fH fS fK) :
    own_Met l Z ws (⟨"com/example/albatross/albatross/NodeQueue", "poll", "()I"⟩ : MethodName) prog_51_method_5_code 2 (some .int) ({ frames := 2, cells := 0, slots := 0, locals := 29 } : Room) ({ frames := 2, cells := 0, slots := 0, locals := 29 } : Room).cells ({ frames := 2, cells := 0, slots := 0, locals := 29 } : Room).slots #[(.ref oq)] h0 (fun v h L => ∃ f, v = some (.int f) ∧ Fr n0 L ∧ Keep h0 h [oq, oh, os, ok] ∧ ∃ H' S' z', own_NQ Z h oq oh os ok H' S' fK z' ∧ own_Pol fS fK f H' S' z') := by
  refine own_body (plainFor_of_name pn_po2) ?_
  intro p e s m below meth c s₁ hx hby hml hown hnm hlk hret hZ hh X0 e0
  have N0 := Fr.nil n0
  have hd0 := hd
  obtain ⟨G_q, G_h, G_s, G_k, D1, D2, D3, D4, D5, D6⟩ := hd
  obtain ⟨E_0, Fh_0, Fs_0, Fk_0, Fz_0, Ah_0, As_0, Ak_0⟩ := hq
  refine own_cast (ef_po2 m oq) ?_
  refine own_st (T' := s₁) (g' := (mkF m 1 #[.val (.ref oq), .unset] [(.ref oq)])) (fun _ k => XS.aloadN X0.here hx rfl (hb hby dpo2_0) rfl rfl k) ?_
  obtain ⟨T1, X1, e1, st1⟩ := getF X0 hx hZ hown (host := "") (Or.inl (own_w hw 10 rfl)) Via.refl e0 Fh_0 (g := (mkF m 1 #[.val (.ref oq), .unset] [(.ref oq)])) rfl rfl (hb hby dpo2_1)
  refine own_st (g' := (mkF m 4 #[.val (.ref oq), .unset] [(.ref oh)])) st1 ?_
  refine own_st (T' := T1) (g' := (mkF m 5 #[.val (.ref oq), .unset] [(.int (0 : Int32)), (.ref oh)])) (fun _ k => XS.iconst X1.here hx rfl (hb hby dpo2_4) k) ?_
  obtain ⟨cl2, Ar2, S2, M2, H2⟩ := id Ah_0
  refine own_st (T' := T1) (g' := (mkF m 6 #[.val (.ref oq), .unset] [(.int (fH (0 : Int32)))])) (fun _ k => X1.iaload hx (j := (0 : Int32)) (v := (.int (fH (0 : Int32)))) (by rw [e1]; exact Ar2.1) (State.isArrayOf_alike hZ.alike Ar2.2.1) Ar2.2.2 (inb_of S2 ⟨(by decide), (by decide)⟩) (H2 _ (by decide) (by decide)) (g := (mkF m 5 #[.val (.ref oq), .unset] [(.int (0 : Int32)), (.ref oh)])) rfl rfl (hb hby dpo2_5) _ k) ?_
  refine own_st (T' := T1) (g' := (mkF m 7 #[.val (.ref oq), .val (.int (fH (0 : Int32)))] [])) (fun _ k => XS.istoreN X1.here hx rfl (hb hby dpo2_6) rfl (l' := #[.val (.ref oq), .val (.int (fH (0 : Int32)))]) rfl k) ?_
  refine own_st (T' := T1) (g' := (mkF m 8 #[.val (.ref oq), .val (.int (fH (0 : Int32)))] [(.ref oq)])) (fun _ k => XS.aloadN X1.here hx rfl (hb hby dpo2_7) rfl rfl k) ?_
  refine own_st (T' := T1) (g' := (mkF m 9 #[.val (.ref oq), .val (.int (fH (0 : Int32)))] [(.ref oq), (.ref oq)])) (fun _ k => XS.dup X1.here hx rfl (hb hby dpo2_8) rfl rfl k) ?_
  obtain ⟨T3, X3, e3, st3⟩ := getF X1 hx hZ hown (host := "") (Or.inl (own_w hw 27 rfl)) Via.refl e1 Fz_0 (g := (mkF m 9 #[.val (.ref oq), .val (.int (fH (0 : Int32)))] [(.ref oq), (.ref oq)])) rfl rfl (hb hby dpo2_9)
  refine own_st (g' := (mkF m 12 #[.val (.ref oq), .val (.int (fH (0 : Int32)))] [(.int (2 : Int32)), (.ref oq)])) st3 ?_
  refine own_st (T' := T3) (g' := (mkF m 13 #[.val (.ref oq), .val (.int (fH (0 : Int32)))] [(.int (1 : Int32)), (.int (2 : Int32)), (.ref oq)])) (fun _ k => XS.iconst X3.here hx rfl (hb hby dpo2_12) k) ?_
  refine own_st (T' := T3) (g' := (mkF m 14 #[.val (.ref oq), .val (.int (fH (0 : Int32)))] [(.int (1 : Int32)), (.ref oq)])) (fun _ k => XS.isub X3.here hx rfl (hb hby dpo2_13) rfl k) ?_
  obtain ⟨T4, h4, X4, e4, W4, st4⟩ := putF X3 hx hZ hown (host := "") (Or.inl (own_w hw 27 rfl)) Via.refl e3 Fz_0 E_0 (Or.inl (own_w hw 28 rfl)) (own_w hw 1 rfl) (ty := .int) (by decide) rfl rfl (g := (mkF m 14 #[.val (.ref oq), .val (.int (fH (0 : Int32)))] [(.int (1 : Int32)), (.ref oq)])) rfl rfl (hb hby dpo2_14)
  have Fw4 := Fz_0.same W4
  have N4 := Fr.snoc X4 N0 G_q
  refine own_st (g' := (mkF m 17 #[.val (.ref oq), .val (.int (fH (0 : Int32)))] [])) st4 ?_
  refine own_st (T' := T4) (g' := (mkF m 18 #[.val (.ref oq), .val (.int (fH (0 : Int32)))] [(.ref oq)])) (fun _ k => XS.aloadN X4.here hx rfl (hb hby dpo2_17) rfl rfl k) ?_
  obtain ⟨T5, X5, e5, st5⟩ := getF X4 hx hZ hown (host := "") (Or.inl (own_w hw 12 rfl)) Via.refl e4 (Fs_0.other W4 (Or.inr (slot_ne (Or.inr (own_w hw 13 rfl)) (Or.inl (own_w hw 28 rfl)) (by decide) (t := (.array .int)) (t' := .int) (by decide) (by decide)))) (g := (mkF m 18 #[.val (.ref oq), .val (.int (fH (0 : Int32)))] [(.ref oq)])) rfl rfl (hb hby dpo2_18)
  refine own_st (g' := (mkF m 21 #[.val (.ref oq), .val (.int (fH (0 : Int32)))] [(.ref os)])) st5 ?_
  refine own_st (T' := T5) (g' := (mkF m 22 #[.val (.ref oq), .val (.int (fH (0 : Int32)))] [(.int (fH (0 : Int32))), (.ref os)])) (fun _ k => XS.iloadN X5.here hx rfl (hb hby dpo2_21) rfl k) ?_
  refine own_st (T' := T5) (g' := (mkF m 23 #[.val (.ref oq), .val (.int (fH (0 : Int32)))] [(.int (-1 : Int32)), (.int (fH (0 : Int32))), (.ref os)])) (fun _ k => XS.iconst X5.here hx rfl (hb hby dpo2_22) k) ?_
  obtain ⟨cl6, Ar6, S6, M6, H6⟩ := id (As_0.other W4 (Ne.symm D2))
  obtain ⟨T6, h6, X6, e6, W6, st6⟩ := stI X5 hx hZ e5 Ar6 (j := (fH (0 : Int32))) (inb_of S6 ⟨(show ¬ (fH (0 : Int32)) < 0 from own_ok0 (own_h2_0 hI)), (show (fH (0 : Int32)) < 3 from own_ok3 (own_h2_0 hI))⟩) (g := (mkF m 23 #[.val (.ref oq), .val (.int (fH (0 : Int32)))] [(.int (-1 : Int32)), (.int (fH (0 : Int32))), (.ref os)])) rfl rfl (hb hby dpo2_23)
  have V6 : own_A Z h6 os .int (3 : Int32) (fun i => (.int ((own_up fS (fH (0 : Int32)) (-1 : Int32)) i))) := (own_A.set Ar6 S6 M6 H6 (show ¬ (fH (0 : Int32)) < 0 from own_ok0 (own_h2_0 hI)) (show (fH (0 : Int32)) < 3 from own_ok3 (own_h2_0 hI)) W6).upI
  have N6 := Fr.snoc X6 N4 G_s
  refine own_st (g' := (mkF m 24 #[.val (.ref oq), .val (.int (fH (0 : Int32)))] [])) st6 ?_
  refine own_st (T' := T6) (g' := (mkF m 25 #[.val (.ref oq), .val (.int (fH (0 : Int32)))] [(.ref oq)])) (fun _ k => XS.aloadN X6.here hx rfl (hb hby dpo2_24) rfl rfl k) ?_
  obtain ⟨T7, X7, e7, st7⟩ := getF X6 hx hZ hown (host := "") (Or.inl (own_w hw 27 rfl)) Via.refl e6 (Fw4.other W6 (Or.inl D2)) (g := (mkF m 25 #[.val (.ref oq), .val (.int (fH (0 : Int32)))] [(.ref oq)])) rfl rfl (hb hby dpo2_25)
  refine own_st (g' := (mkF m 28 #[.val (.ref oq), .val (.int (fH (0 : Int32)))] [(.int (1 : Int32))])) st7 ?_
  refine own_st (T' := T7) (g' := (mkF m 31 #[.val (.ref oq), .val (.int (fH (0 : Int32)))] [])) (fun _ k => XS.ifNo X7.here hx rfl (hb hby dpo2_28) rfl ((if0 _ _).trans (tlt (by decide : ((0 : Int32) < (1 : Int32)))).2.2.2) k) ?_
  refine own_st (T' := T7) (g' := (mkF m 32 #[.val (.ref oq), .val (.int (fH (0 : Int32)))] [(.ref oq)])) (fun _ k => XS.aloadN X7.here hx rfl (hb hby dpo2_31) rfl rfl k) ?_
  refine own_st (T' := T7) (g' := (mkF m 33 #[.val (.ref oq), .val (.int (fH (0 : Int32)))] [(.ref oq), (.ref oq)])) (fun _ k => XS.aloadN X7.here hx rfl (hb hby dpo2_32) rfl rfl k) ?_
  obtain ⟨T8, X8, e8, st8⟩ := getF X7 hx hZ hown (host := "") (Or.inl (own_w hw 10 rfl)) Via.refl e7 ((Fh_0.other W4 (Or.inr (slot_ne (Or.inr (own_w hw 11 rfl)) (Or.inl (own_w hw 28 rfl)) (by decide) (t := (.array .int)) (t' := .int) (by decide) (by decide)))).other W6 (Or.inl D2)) (g := (mkF m 33 #[.val (.ref oq), .val (.int (fH (0 : Int32)))] [(.ref oq), (.ref oq)])) rfl rfl (hb hby dpo2_33)
  refine own_st (g' := (mkF m 36 #[.val (.ref oq), .val (.int (fH (0 : Int32)))] [(.ref oh), (.ref oq)])) st8 ?_
  refine own_st (T' := T8) (g' := (mkF m 37 #[.val (.ref oq), .val (.int (fH (0 : Int32)))] [(.ref oq), (.ref oh), (.ref oq)])) (fun _ k => XS.aloadN X8.here hx rfl (hb hby dpo2_36) rfl rfl k) ?_
  obtain ⟨T9, X9, e9, st9⟩ := getF X8 hx hZ hown (host := "") (Or.inl (own_w hw 27 rfl)) Via.refl e8 (Fw4.other W6 (Or.inl D2)) (g := (mkF m 37 #[.val (.ref oq), .val (.int (fH (0 : Int32)))] [(.ref oq), (.ref oh), (.ref oq)])) rfl rfl (hb hby dpo2_37)
  refine own_st (g' := (mkF m 40 #[.val (.ref oq), .val (.int (fH (0 : Int32)))] [(.int (1 : Int32)), (.ref oh), (.ref oq)])) st9 ?_
  obtain ⟨cl10, Ar10, S10, M10, H10⟩ := id ((Ah_0.other W4 (Ne.symm D1)).other W6 D4)
  refine own_st (T' := T9) (g' := (mkF m 41 #[.val (.ref oq), .val (.int (fH (0 : Int32)))] [(.int (fH (1 : Int32))), (.ref oq)])) (fun _ k => X9.iaload hx (j := (1 : Int32)) (v := (.int (fH (1 : Int32)))) (by rw [e9]; exact Ar10.1) (State.isArrayOf_alike hZ.alike Ar10.2.1) Ar10.2.2 (inb_of S10 ⟨(by decide), (by decide)⟩) (H10 _ (by decide) (by decide)) (g := (mkF m 40 #[.val (.ref oq), .val (.int (fH (0 : Int32)))] [(.int (1 : Int32)), (.ref oh), (.ref oq)])) rfl rfl (hb hby dpo2_40) _ k) ?_
  refine own_st (T' := T9) (g' := (mkF m 42 #[.val (.ref oq), .val (.int (fH (0 : Int32)))] [(.int (0 : Int32)), (.int (fH (1 : Int32))), (.ref oq)])) (fun _ k => XS.iconst X9.here hx rfl (hb hby dpo2_41) k) ?_
  refine own_callP X9 hx hZ (y := (⟨"com/example/albatross/albatross/NodeQueue", "place", "(II)V"⟩ : MethodName)) hown (own_w hw 42 rfl) (own_w hw 43 rfl) (own_w hw 1 rfl) (own_w hw 44 rfl) (own_w hw 45 rfl) (own_w hw 2 rfl) (by decide) (W := 0) e9 (b := oq) ((E_0.wr W4).wr W6) (argsL := [(.int (fH (1 : Int32))), (.int (0 : Int32))]) (rest := []) (rmpl l Z a0 hw [] oq oh os ok fH (own_up fS (fH (0 : Int32)) (-1 : Int32)) fK (1 : Int32) (fH (1 : Int32)) (0 : Int32) h6 n0 (Nat.le_trans (Nat.le_trans Z0 (Nat.le_of_eq W4.size.symm)) (Nat.le_of_eq W6.size.symm)) hd0 (show own_NQ Z h6 oq oh os ok fH (own_up fS (fH (0 : Int32)) (-1 : Int32)) fK (1 : Int32) from ⟨((E_0.wr W4).wr W6), ((Fh_0.other W4 (Or.inr (slot_ne (Or.inr (own_w hw 11 rfl)) (Or.inl (own_w hw 28 rfl)) (by decide) (t := (.array .int)) (t' := .int) (by decide) (by decide)))).other W6 (Or.inl D2)), ((Fs_0.other W4 (Or.inr (slot_ne (Or.inr (own_w hw 13 rfl)) (Or.inl (own_w hw 28 rfl)) (by decide) (t := (.array .int)) (t' := .int) (by decide) (by decide)))).other W6 (Or.inl D2)), ((Fk_0.other W4 (Or.inr (slot_ne (Or.inr (own_w hw 16 rfl)) (Or.inl (own_w hw 28 rfl)) (by decide) (t := (.array .long)) (t' := .int) (by decide) (by decide)))).other W6 (Or.inl D2)), (Fw4.other W6 (Or.inl D2)), ((Ah_0.other W4 (Ne.symm D1)).other W6 D4), V6, ((Ak_0.other W4 (Ne.symm D3)).other W6 (Ne.symm D6))⟩) (show ¬ (fH (1 : Int32)) < 0 from own_ok0 (own_h2_1 hI)) (show (fH (1 : Int32)) < 3 from own_ok3 (own_h2_1 hI)) (by decide) (by decide)) (by decide) (by decide) (by decide) (by decide) (g := (mkF m 42 #[.val (.ref oq), .val (.int (fH (0 : Int32)))] [(.int (0 : Int32)), (.int (fH (1 : Int32))), (.ref oq)])) rfl (by rw [hml]; rfl) (lenOf own_pd0 rfl) rfl (by show 2 * 0 + _ ≤ _; exact Nat.le_of_eq rfl) (hb hby dpo2_42) ?_
  rintro _ T11 L11 X11 ⟨rfl, N11q, K11, hq_11⟩
  show own_Go _ _ _ _ _ _ _ T11 (mkF m 45 #[.val (.ref oq), .val (.int (fH (0 : Int32)))] [])
  have N11 := Fr.app N6 N11q
  obtain ⟨E_11, Fh_11, Fs_11, Fk_11, Fz_11, Ah_11, As_11, Ak_11⟩ := hq_11
  refine own_st (T' := T11) (g' := (mkF m 46 #[.val (.ref oq), .val (.int (fH (0 : Int32)))] [(.ref oq)])) (fun _ k => XS.aloadN X11.here hx rfl (hb hby dpo2_45) rfl rfl k) ?_
  refine own_st (T' := T11) (g' := (mkF m 47 #[.val (.ref oq), .val (.int (fH (0 : Int32)))] [(.int (0 : Int32)), (.ref oq)])) (fun _ k => XS.iconst X11.here hx rfl (hb hby dpo2_46) k) ?_
  refine own_callP X11 hx hZ (y := (⟨"com/example/albatross/albatross/NodeQueue", "siftDown", "(I)V"⟩ : MethodName)) hown (own_w hw 56 rfl) (own_w hw 57 rfl) (own_w hw 1 rfl) (own_w hw 58 rfl) (own_w hw 59 rfl) (own_w hw 2 rfl) (by decide) (W := 0) rfl (b := oq) E_11 (argsL := [(.int (0 : Int32))]) (rest := []) (rmsd1 l Z a0 hw [] oq oh os ok (own_up fH (0 : Int32) (fH (1 : Int32))) (own_up (own_up fS (fH (0 : Int32)) (-1 : Int32)) (fH (1 : Int32)) (0 : Int32)) fK T11.heap n0 (Nat.le_trans (Nat.le_trans (Nat.le_trans Z0 (Nat.le_of_eq W4.size.symm)) (Nat.le_of_eq W6.size.symm)) K11.1) hd0 (show own_NQ Z T11.heap oq oh os ok (own_up fH (0 : Int32) (fH (1 : Int32))) (own_up (own_up fS (fH (0 : Int32)) (-1 : Int32)) (fH (1 : Int32)) (0 : Int32)) fK (1 : Int32) from ⟨E_11, Fh_11, Fs_11, Fk_11, Fz_11, Ah_11, As_11, Ak_11⟩) (show ¬ (fH (1 : Int32)) < 0 from own_ok0 (own_h2_1 hI)) (show (fH (1 : Int32)) < 3 from own_ok3 (own_h2_1 hI))) (by decide) (by decide) (by decide) (by decide) (g := (mkF m 47 #[.val (.ref oq), .val (.int (fH (0 : Int32)))] [(.int (0 : Int32)), (.ref oq)])) rfl (by rw [hml]; rfl) (lenOf own_pd1 rfl) rfl (by show 2 * 0 + _ ≤ _; exact Nat.le_of_eq rfl) (hb hby dpo2_47) ?_
  rintro _ T12 L12 X12 ⟨rfl, N12q, K12, hq_12⟩
  show own_Go _ _ _ _ _ _ _ T12 (mkF m 50 #[.val (.ref oq), .val (.int (fH (0 : Int32)))] [])
  have N12 := Fr.app N11 N12q
  obtain ⟨E_12, Fh_12, Fs_12, Fk_12, Fz_12, Ah_12, As_12, Ak_12⟩ := hq_12
  refine own_st (T' := T12) (g' := (mkF m 51 #[.val (.ref oq), .val (.int (fH (0 : Int32)))] [(.int (fH (0 : Int32)))])) (fun _ k => XS.iloadN X12.here hx rfl (hb hby dpo2_50) rfl k) ?_
  exact own_retI X12 hx hlk hret (hb hby dpo2_51) ⟨_, rfl, N12, (((((Keep.refl h0 [oq, oh, os, ok]).wr W4 (Or.inl (by simp))).wr W6 (Or.inl (by simp))).trans K11 (fun x hx => Or.inl hx)).trans K12 (fun x hx => Or.inl hx)), (own_up (own_up fH (0 : Int32) (fH (1 : Int32))) (0 : Int32) ((own_up fH (0 : Int32) (fH (1 : Int32))) (0 : Int32))), (own_up (own_up (own_up fS (fH (0 : Int32)) (-1 : Int32)) (fH (1 : Int32)) (0 : Int32)) ((own_up fH (0 : Int32) (fH (1 : Int32))) (0 : Int32)) (0 : Int32)), (1 : Int32), ⟨E_12, Fh_12, Fs_12, Fk_12, Fz_12, Ah_12, As_12, Ak_12⟩, own_pol2 hI⟩ (by decide) (by decide)
theorem dpo3_0 : decode prog_51_method_5_code 0 = .ok (.aload_n 0, 1) := by decide +kernel
theorem dpo3_1 : decode prog_51_method_5_code 1 = .ok (.getfield 7, 3) := by decide +kernel
theorem dpo3_4 : decode prog_51_method_5_code 4 = .ok (.iconst 0, 1) := by decide +kernel
theorem dpo3_5 : decode prog_51_method_5_code 5 = .ok (.iaload, 1) := by decide +kernel
theorem dpo3_6 : decode prog_51_method_5_code 6 = .ok (.istore_n 1, 1) := by decide +kernel
theorem dpo3_7 : decode prog_51_method_5_code 7 = .ok (.aload_n 0, 1) := by decide +kernel
theorem dpo3_8 : decode prog_51_method_5_code 8 = .ok (.dup, 1) := by decide +kernel
theorem dpo3_9 : decode prog_51_method_5_code 9 = .ok (.getfield 26, 3) := by decide +kernel
theorem dpo3_12 : decode prog_51_method_5_code 12 = .ok (.iconst 1, 1) := by decide +kernel
theorem dpo3_13 : decode prog_51_method_5_code 13 = .ok (.isub, 1) := by decide +kernel
theorem dpo3_14 : decode prog_51_method_5_code 14 = .ok (.putfield 26, 3) := by decide +kernel
theorem dpo3_17 : decode prog_51_method_5_code 17 = .ok (.aload_n 0, 1) := by decide +kernel
theorem dpo3_18 : decode prog_51_method_5_code 18 = .ok (.getfield 13, 3) := by decide +kernel
theorem dpo3_21 : decode prog_51_method_5_code 21 = .ok (.iload_n 1, 1) := by decide +kernel
theorem dpo3_22 : decode prog_51_method_5_code 22 = .ok (.iconst (-1), 1) := by decide +kernel
theorem dpo3_23 : decode prog_51_method_5_code 23 = .ok (.iastore, 1) := by decide +kernel
theorem dpo3_24 : decode prog_51_method_5_code 24 = .ok (.aload_n 0, 1) := by decide +kernel
theorem dpo3_25 : decode prog_51_method_5_code 25 = .ok (.getfield 26, 3) := by decide +kernel
theorem dpo3_28 : decode prog_51_method_5_code 28 = .ok (.ifCond .le 22, 3) := by decide +kernel
theorem dpo3_31 : decode prog_51_method_5_code 31 = .ok (.aload_n 0, 1) := by decide +kernel
theorem dpo3_32 : decode prog_51_method_5_code 32 = .ok (.aload_n 0, 1) := by decide +kernel
theorem dpo3_33 : decode prog_51_method_5_code 33 = .ok (.getfield 7, 3) := by decide +kernel
theorem dpo3_36 : decode prog_51_method_5_code 36 = .ok (.aload_n 0, 1) := by decide +kernel
theorem dpo3_37 : decode prog_51_method_5_code 37 = .ok (.getfield 26, 3) := by decide +kernel
theorem dpo3_40 : decode prog_51_method_5_code 40 = .ok (.iaload, 1) := by decide +kernel
theorem dpo3_41 : decode prog_51_method_5_code 41 = .ok (.iconst 0, 1) := by decide +kernel
theorem dpo3_42 : decode prog_51_method_5_code 42 = .ok (.invokevirtual 34, 3) := by decide +kernel
theorem dpo3_45 : decode prog_51_method_5_code 45 = .ok (.aload_n 0, 1) := by decide +kernel
theorem dpo3_46 : decode prog_51_method_5_code 46 = .ok (.iconst 0, 1) := by decide +kernel
theorem dpo3_47 : decode prog_51_method_5_code 47 = .ok (.invokevirtual 38, 3) := by decide +kernel
theorem dpo3_50 : decode prog_51_method_5_code 50 = .ok (.iload_n 1, 1) := by decide +kernel
theorem dpo3_51 : decode prog_51_method_5_code 51 = .ok (.ireturn, 1) := by decide +kernel
theorem pn_po3 : plainName "com/example/albatross/albatross/NodeQueue" = true := by first | (simp [plainName, overriddenIn]; done) | decide +kernel
theorem ef_po3 (m : MethodId) (x0 : Addr) : entryFrame m #[(.ref x0)] 2 = mkF m 0 #[.val (.ref x0), .unset] [] := by first | (simp [entryFrame, mkF, argsToLocals, Value.category]; done) | rfl
set_option maxRecDepth 65536 in
set_option maxHeartbeats 40000000 in
theorem rmpo3 (l : Launch) (Z : State) (a0 : Array Value) (hw : ∀ d ∈ tables_1, d.before a0 Z = true) (ws : List Jvm.Cond) (oq oh os ok : Addr) (fH fS : Int32 → Int32) (fK : Int32 → Int64) (h0 : Heap) (n0 : Nat) (Z0 : n0 ≤ h0.size) (hd : own_Ds n0 oq oh os ok) (hq : own_NQ Z h0 oq oh os ok fH fS fK (3 : Int32)) (hI : own_I3 fH fS fK) :
    own_Met l Z ws (⟨"com/example/albatross/albatross/NodeQueue", "poll", "()I"⟩ : MethodName) prog_51_method_5_code 2 (some .int) ({ frames := 2, cells := 0, slots := 0, locals := 29 } : Room) ({ frames := 2, cells := 0, slots := 0, locals := 29 } : Room).cells ({ frames := 2, cells := 0, slots := 0, locals := 29 } : Room).slots #[(.ref oq)] h0 (fun v h L => ∃ f, v = some (.int f) ∧ Fr n0 L ∧ Keep h0 h [oq, oh, os, ok] ∧ ∃ H' S' z', own_NQ Z h oq oh os ok H' S' fK z' ∧ own_Pol fS fK f H' S' z') := by
  refine own_body (plainFor_of_name pn_po3) ?_
  intro p e s m below meth c s₁ hx hby hml hown hnm hlk hret hZ hh X0 e0
  have N0 := Fr.nil n0
  have hd0 := hd
  obtain ⟨G_q, G_h, G_s, G_k, D1, D2, D3, D4, D5, D6⟩ := hd
  obtain ⟨E_0, Fh_0, Fs_0, Fk_0, Fz_0, Ah_0, As_0, Ak_0⟩ := hq
  refine own_cast (ef_po3 m oq) ?_
  refine own_st (T' := s₁) (g' := (mkF m 1 #[.val (.ref oq), .unset] [(.ref oq)])) (fun _ k => XS.aloadN X0.here hx rfl (hb hby dpo3_0) rfl rfl k) ?_
  obtain ⟨T1, X1, e1, st1⟩ := getF X0 hx hZ hown (host := "") (Or.inl (own_w hw 10 rfl)) Via.refl e0 Fh_0 (g := (mkF m 1 #[.val (.ref oq), .unset] [(.ref oq)])) rfl rfl (hb hby dpo3_1)
  refine own_st (g' := (mkF m 4 #[.val (.ref oq), .unset] [(.ref oh)])) st1 ?_
  refine own_st (T' := T1) (g' := (mkF m 5 #[.val (.ref oq), .unset] [(.int (0 : Int32)), (.ref oh)])) (fun _ k => XS.iconst X1.here hx rfl (hb hby dpo3_4) k) ?_
  obtain ⟨cl2, Ar2, S2, M2, H2⟩ := id Ah_0
  refine own_st (T' := T1) (g' := (mkF m 6 #[.val (.ref oq), .unset] [(.int (fH (0 : Int32)))])) (fun _ k => X1.iaload hx (j := (0 : Int32)) (v := (.int (fH (0 : Int32)))) (by rw [e1]; exact Ar2.1) (State.isArrayOf_alike hZ.alike Ar2.2.1) Ar2.2.2 (inb_of S2 ⟨(by decide), (by decide)⟩) (H2 _ (by decide) (by decide)) (g := (mkF m 5 #[.val (.ref oq), .unset] [(.int (0 : Int32)), (.ref oh)])) rfl rfl (hb hby dpo3_5) _ k) ?_
  refine own_st (T' := T1) (g' := (mkF m 7 #[.val (.ref oq), .val (.int (fH (0 : Int32)))] [])) (fun _ k => XS.istoreN X1.here hx rfl (hb hby dpo3_6) rfl (l' := #[.val (.ref oq), .val (.int (fH (0 : Int32)))]) rfl k) ?_
  refine own_st (T' := T1) (g' := (mkF m 8 #[.val (.ref oq), .val (.int (fH (0 : Int32)))] [(.ref oq)])) (fun _ k => XS.aloadN X1.here hx rfl (hb hby dpo3_7) rfl rfl k) ?_
  refine own_st (T' := T1) (g' := (mkF m 9 #[.val (.ref oq), .val (.int (fH (0 : Int32)))] [(.ref oq), (.ref oq)])) (fun _ k => XS.dup X1.here hx rfl (hb hby dpo3_8) rfl rfl k) ?_
  obtain ⟨T3, X3, e3, st3⟩ := getF X1 hx hZ hown (host := "") (Or.inl (own_w hw 27 rfl)) Via.refl e1 Fz_0 (g := (mkF m 9 #[.val (.ref oq), .val (.int (fH (0 : Int32)))] [(.ref oq), (.ref oq)])) rfl rfl (hb hby dpo3_9)
  refine own_st (g' := (mkF m 12 #[.val (.ref oq), .val (.int (fH (0 : Int32)))] [(.int (3 : Int32)), (.ref oq)])) st3 ?_
  refine own_st (T' := T3) (g' := (mkF m 13 #[.val (.ref oq), .val (.int (fH (0 : Int32)))] [(.int (1 : Int32)), (.int (3 : Int32)), (.ref oq)])) (fun _ k => XS.iconst X3.here hx rfl (hb hby dpo3_12) k) ?_
  refine own_st (T' := T3) (g' := (mkF m 14 #[.val (.ref oq), .val (.int (fH (0 : Int32)))] [(.int (2 : Int32)), (.ref oq)])) (fun _ k => XS.isub X3.here hx rfl (hb hby dpo3_13) rfl k) ?_
  obtain ⟨T4, h4, X4, e4, W4, st4⟩ := putF X3 hx hZ hown (host := "") (Or.inl (own_w hw 27 rfl)) Via.refl e3 Fz_0 E_0 (Or.inl (own_w hw 28 rfl)) (own_w hw 1 rfl) (ty := .int) (by decide) rfl rfl (g := (mkF m 14 #[.val (.ref oq), .val (.int (fH (0 : Int32)))] [(.int (2 : Int32)), (.ref oq)])) rfl rfl (hb hby dpo3_14)
  have Fw4 := Fz_0.same W4
  have N4 := Fr.snoc X4 N0 G_q
  refine own_st (g' := (mkF m 17 #[.val (.ref oq), .val (.int (fH (0 : Int32)))] [])) st4 ?_
  refine own_st (T' := T4) (g' := (mkF m 18 #[.val (.ref oq), .val (.int (fH (0 : Int32)))] [(.ref oq)])) (fun _ k => XS.aloadN X4.here hx rfl (hb hby dpo3_17) rfl rfl k) ?_
  obtain ⟨T5, X5, e5, st5⟩ := getF X4 hx hZ hown (host := "") (Or.inl (own_w hw 12 rfl)) Via.refl e4 (Fs_0.other W4 (Or.inr (slot_ne (Or.inr (own_w hw 13 rfl)) (Or.inl (own_w hw 28 rfl)) (by decide) (t := (.array .int)) (t' := .int) (by decide) (by decide)))) (g := (mkF m 18 #[.val (.ref oq), .val (.int (fH (0 : Int32)))] [(.ref oq)])) rfl rfl (hb hby dpo3_18)
  refine own_st (g' := (mkF m 21 #[.val (.ref oq), .val (.int (fH (0 : Int32)))] [(.ref os)])) st5 ?_
  refine own_st (T' := T5) (g' := (mkF m 22 #[.val (.ref oq), .val (.int (fH (0 : Int32)))] [(.int (fH (0 : Int32))), (.ref os)])) (fun _ k => XS.iloadN X5.here hx rfl (hb hby dpo3_21) rfl k) ?_
  refine own_st (T' := T5) (g' := (mkF m 23 #[.val (.ref oq), .val (.int (fH (0 : Int32)))] [(.int (-1 : Int32)), (.int (fH (0 : Int32))), (.ref os)])) (fun _ k => XS.iconst X5.here hx rfl (hb hby dpo3_22) k) ?_
  obtain ⟨cl6, Ar6, S6, M6, H6⟩ := id (As_0.other W4 (Ne.symm D2))
  obtain ⟨T6, h6, X6, e6, W6, st6⟩ := stI X5 hx hZ e5 Ar6 (j := (fH (0 : Int32))) (inb_of S6 ⟨(show ¬ (fH (0 : Int32)) < 0 from own_ok0 (own_h3_0 hI)), (show (fH (0 : Int32)) < 3 from own_ok3 (own_h3_0 hI))⟩) (g := (mkF m 23 #[.val (.ref oq), .val (.int (fH (0 : Int32)))] [(.int (-1 : Int32)), (.int (fH (0 : Int32))), (.ref os)])) rfl rfl (hb hby dpo3_23)
  have V6 : own_A Z h6 os .int (3 : Int32) (fun i => (.int ((own_up fS (fH (0 : Int32)) (-1 : Int32)) i))) := (own_A.set Ar6 S6 M6 H6 (show ¬ (fH (0 : Int32)) < 0 from own_ok0 (own_h3_0 hI)) (show (fH (0 : Int32)) < 3 from own_ok3 (own_h3_0 hI)) W6).upI
  have N6 := Fr.snoc X6 N4 G_s
  refine own_st (g' := (mkF m 24 #[.val (.ref oq), .val (.int (fH (0 : Int32)))] [])) st6 ?_
  refine own_st (T' := T6) (g' := (mkF m 25 #[.val (.ref oq), .val (.int (fH (0 : Int32)))] [(.ref oq)])) (fun _ k => XS.aloadN X6.here hx rfl (hb hby dpo3_24) rfl rfl k) ?_
  obtain ⟨T7, X7, e7, st7⟩ := getF X6 hx hZ hown (host := "") (Or.inl (own_w hw 27 rfl)) Via.refl e6 (Fw4.other W6 (Or.inl D2)) (g := (mkF m 25 #[.val (.ref oq), .val (.int (fH (0 : Int32)))] [(.ref oq)])) rfl rfl (hb hby dpo3_25)
  refine own_st (g' := (mkF m 28 #[.val (.ref oq), .val (.int (fH (0 : Int32)))] [(.int (2 : Int32))])) st7 ?_
  refine own_st (T' := T7) (g' := (mkF m 31 #[.val (.ref oq), .val (.int (fH (0 : Int32)))] [])) (fun _ k => XS.ifNo X7.here hx rfl (hb hby dpo3_28) rfl ((if0 _ _).trans (tlt (by decide : ((0 : Int32) < (2 : Int32)))).2.2.2) k) ?_
  refine own_st (T' := T7) (g' := (mkF m 32 #[.val (.ref oq), .val (.int (fH (0 : Int32)))] [(.ref oq)])) (fun _ k => XS.aloadN X7.here hx rfl (hb hby dpo3_31) rfl rfl k) ?_
  refine own_st (T' := T7) (g' := (mkF m 33 #[.val (.ref oq), .val (.int (fH (0 : Int32)))] [(.ref oq), (.ref oq)])) (fun _ k => XS.aloadN X7.here hx rfl (hb hby dpo3_32) rfl rfl k) ?_
  obtain ⟨T8, X8, e8, st8⟩ := getF X7 hx hZ hown (host := "") (Or.inl (own_w hw 10 rfl)) Via.refl e7 ((Fh_0.other W4 (Or.inr (slot_ne (Or.inr (own_w hw 11 rfl)) (Or.inl (own_w hw 28 rfl)) (by decide) (t := (.array .int)) (t' := .int) (by decide) (by decide)))).other W6 (Or.inl D2)) (g := (mkF m 33 #[.val (.ref oq), .val (.int (fH (0 : Int32)))] [(.ref oq), (.ref oq)])) rfl rfl (hb hby dpo3_33)
  refine own_st (g' := (mkF m 36 #[.val (.ref oq), .val (.int (fH (0 : Int32)))] [(.ref oh), (.ref oq)])) st8 ?_
  refine own_st (T' := T8) (g' := (mkF m 37 #[.val (.ref oq), .val (.int (fH (0 : Int32)))] [(.ref oq), (.ref oh), (.ref oq)])) (fun _ k => XS.aloadN X8.here hx rfl (hb hby dpo3_36) rfl rfl k) ?_
  obtain ⟨T9, X9, e9, st9⟩ := getF X8 hx hZ hown (host := "") (Or.inl (own_w hw 27 rfl)) Via.refl e8 (Fw4.other W6 (Or.inl D2)) (g := (mkF m 37 #[.val (.ref oq), .val (.int (fH (0 : Int32)))] [(.ref oq), (.ref oh), (.ref oq)])) rfl rfl (hb hby dpo3_37)
  refine own_st (g' := (mkF m 40 #[.val (.ref oq), .val (.int (fH (0 : Int32)))] [(.int (2 : Int32)), (.ref oh), (.ref oq)])) st9 ?_
  obtain ⟨cl10, Ar10, S10, M10, H10⟩ := id ((Ah_0.other W4 (Ne.symm D1)).other W6 D4)
  refine own_st (T' := T9) (g' := (mkF m 41 #[.val (.ref oq), .val (.int (fH (0 : Int32)))] [(.int (fH (2 : Int32))), (.ref oq)])) (fun _ k => X9.iaload hx (j := (2 : Int32)) (v := (.int (fH (2 : Int32)))) (by rw [e9]; exact Ar10.1) (State.isArrayOf_alike hZ.alike Ar10.2.1) Ar10.2.2 (inb_of S10 ⟨(by decide), (by decide)⟩) (H10 _ (by decide) (by decide)) (g := (mkF m 40 #[.val (.ref oq), .val (.int (fH (0 : Int32)))] [(.int (2 : Int32)), (.ref oh), (.ref oq)])) rfl rfl (hb hby dpo3_40) _ k) ?_
  refine own_st (T' := T9) (g' := (mkF m 42 #[.val (.ref oq), .val (.int (fH (0 : Int32)))] [(.int (0 : Int32)), (.int (fH (2 : Int32))), (.ref oq)])) (fun _ k => XS.iconst X9.here hx rfl (hb hby dpo3_41) k) ?_
  refine own_callP X9 hx hZ (y := (⟨"com/example/albatross/albatross/NodeQueue", "place", "(II)V"⟩ : MethodName)) hown (own_w hw 42 rfl) (own_w hw 43 rfl) (own_w hw 1 rfl) (own_w hw 44 rfl) (own_w hw 45 rfl) (own_w hw 2 rfl) (by decide) (W := 0) e9 (b := oq) ((E_0.wr W4).wr W6) (argsL := [(.int (fH (2 : Int32))), (.int (0 : Int32))]) (rest := []) (rmpl l Z a0 hw [] oq oh os ok fH (own_up fS (fH (0 : Int32)) (-1 : Int32)) fK (2 : Int32) (fH (2 : Int32)) (0 : Int32) h6 n0 (Nat.le_trans (Nat.le_trans Z0 (Nat.le_of_eq W4.size.symm)) (Nat.le_of_eq W6.size.symm)) hd0 (show own_NQ Z h6 oq oh os ok fH (own_up fS (fH (0 : Int32)) (-1 : Int32)) fK (2 : Int32) from ⟨((E_0.wr W4).wr W6), ((Fh_0.other W4 (Or.inr (slot_ne (Or.inr (own_w hw 11 rfl)) (Or.inl (own_w hw 28 rfl)) (by decide) (t := (.array .int)) (t' := .int) (by decide) (by decide)))).other W6 (Or.inl D2)), ((Fs_0.other W4 (Or.inr (slot_ne (Or.inr (own_w hw 13 rfl)) (Or.inl (own_w hw 28 rfl)) (by decide) (t := (.array .int)) (t' := .int) (by decide) (by decide)))).other W6 (Or.inl D2)), ((Fk_0.other W4 (Or.inr (slot_ne (Or.inr (own_w hw 16 rfl)) (Or.inl (own_w hw 28 rfl)) (by decide) (t := (.array .long)) (t' := .int) (by decide) (by decide)))).other W6 (Or.inl D2)), (Fw4.other W6 (Or.inl D2)), ((Ah_0.other W4 (Ne.symm D1)).other W6 D4), V6, ((Ak_0.other W4 (Ne.symm D3)).other W6 (Ne.symm D6))⟩) (show ¬ (fH (2 : Int32)) < 0 from own_ok0 (own_h3_2 hI)) (show (fH (2 : Int32)) < 3 from own_ok3 (own_h3_2 hI)) (by decide) (by decide)) (by decide) (by decide) (by decide) (by decide) (g := (mkF m 42 #[.val (.ref oq), .val (.int (fH (0 : Int32)))] [(.int (0 : Int32)), (.int (fH (2 : Int32))), (.ref oq)])) rfl (by rw [hml]; rfl) (lenOf own_pd0 rfl) rfl (by show 2 * 0 + _ ≤ _; exact Nat.le_of_eq rfl) (hb hby dpo3_42) ?_
  rintro _ T11 L11 X11 ⟨rfl, N11q, K11, hq_11⟩
  show own_Go _ _ _ _ _ _ _ T11 (mkF m 45 #[.val (.ref oq), .val (.int (fH (0 : Int32)))] [])
  have N11 := Fr.app N6 N11q
  obtain ⟨E_11, Fh_11, Fs_11, Fk_11, Fz_11, Ah_11, As_11, Ak_11⟩ := hq_11
  refine own_st (T' := T11) (g' := (mkF m 46 #[.val (.ref oq), .val (.int (fH (0 : Int32)))] [(.ref oq)])) (fun _ k => XS.aloadN X11.here hx rfl (hb hby dpo3_45) rfl rfl k) ?_
  refine own_st (T' := T11) (g' := (mkF m 47 #[.val (.ref oq), .val (.int (fH (0 : Int32)))] [(.int (0 : Int32)), (.ref oq)])) (fun _ k => XS.iconst X11.here hx rfl (hb hby dpo3_46) k) ?_
  refine own_callP X11 hx hZ (y := (⟨"com/example/albatross/albatross/NodeQueue", "siftDown", "(I)V"⟩ : MethodName)) hown (own_w hw 56 rfl) (own_w hw 57 rfl) (own_w hw 1 rfl) (own_w hw 58 rfl) (own_w hw 59 rfl) (own_w hw 2 rfl) (by decide) (W := 0) rfl (b := oq) E_11 (argsL := [(.int (0 : Int32))]) (rest := []) (rmsd2 l Z a0 hw [] oq oh os ok (own_up fH (0 : Int32) (fH (2 : Int32))) (own_up (own_up fS (fH (0 : Int32)) (-1 : Int32)) (fH (2 : Int32)) (0 : Int32)) fK T11.heap n0 (Nat.le_trans (Nat.le_trans (Nat.le_trans Z0 (Nat.le_of_eq W4.size.symm)) (Nat.le_of_eq W6.size.symm)) K11.1) hd0 (show own_NQ Z T11.heap oq oh os ok (own_up fH (0 : Int32) (fH (2 : Int32))) (own_up (own_up fS (fH (0 : Int32)) (-1 : Int32)) (fH (2 : Int32)) (0 : Int32)) fK (2 : Int32) from ⟨E_11, Fh_11, Fs_11, Fk_11, Fz_11, Ah_11, As_11, Ak_11⟩) (show ¬ (fH (2 : Int32)) < 0 from own_ok0 (own_h3_2 hI)) (show (fH (2 : Int32)) < 3 from own_ok3 (own_h3_2 hI)) (show ¬ (fH (1 : Int32)) < 0 from own_ok0 (own_h3_1 hI)) (show (fH (1 : Int32)) < 3 from own_ok3 (own_h3_1 hI))) (by decide) (by decide) (by decide) (by decide) (g := (mkF m 47 #[.val (.ref oq), .val (.int (fH (0 : Int32)))] [(.int (0 : Int32)), (.ref oq)])) rfl (by rw [hml]; rfl) (lenOf own_pd1 rfl) rfl (by show 2 * 0 + _ ≤ _; exact Nat.le_of_eq rfl) (hb hby dpo3_47) ?_
  rintro _ T12 L12 X12 ⟨rfl, N12q, K12, H12, S12, hq_12, hs12⟩
  show own_Go _ _ _ _ _ _ _ T12 (mkF m 50 #[.val (.ref oq), .val (.int (fH (0 : Int32)))] [])
  have N12 := Fr.app N11 N12q
  obtain ⟨E_12, Fh_12, Fs_12, Fk_12, Fz_12, Ah_12, As_12, Ak_12⟩ := hq_12
  refine own_st (T' := T12) (g' := (mkF m 51 #[.val (.ref oq), .val (.int (fH (0 : Int32)))] [(.int (fH (0 : Int32)))])) (fun _ k => XS.iloadN X12.here hx rfl (hb hby dpo3_50) rfl k) ?_
  exact own_retI X12 hx hlk hret (hb hby dpo3_51) ⟨_, rfl, N12, (((((Keep.refl h0 [oq, oh, os, ok]).wr W4 (Or.inl (by simp))).wr W6 (Or.inl (by simp))).trans K11 (fun x hx => Or.inl hx)).trans K12 (fun x hx => Or.inl hx)), H12, S12, (2 : Int32), ⟨E_12, Fh_12, Fs_12, Fk_12, Fz_12, Ah_12, As_12, Ak_12⟩, own_pol3 hI hs12⟩ (by decide) (by decide)
theorem dof0_0 : decode prog_51_method_4_code 0 = .ok (.aload_n 0, 1) := by decide +kernel
theorem dof0_1 : decode prog_51_method_4_code 1 = .ok (.getfield 13, 3) := by decide +kernel
theorem dof0_4 : decode prog_51_method_4_code 4 = .ok (.iload_n 1, 1) := by decide +kernel
theorem dof0_5 : decode prog_51_method_4_code 5 = .ok (.iaload, 1) := by decide +kernel
theorem dof0_6 : decode prog_51_method_4_code 6 = .ok (.ifCond .ge 53, 3) := by decide +kernel
theorem dof0_9 : decode prog_51_method_4_code 9 = .ok (.aload_n 0, 1) := by decide +kernel
theorem dof0_10 : decode prog_51_method_4_code 10 = .ok (.getfield 7, 3) := by decide +kernel
theorem dof0_13 : decode prog_51_method_4_code 13 = .ok (.aload_n 0, 1) := by decide +kernel
theorem dof0_14 : decode prog_51_method_4_code 14 = .ok (.getfield 26, 3) := by decide +kernel
theorem dof0_17 : decode prog_51_method_4_code 17 = .ok (.iload_n 1, 1) := by decide +kernel
theorem dof0_18 : decode prog_51_method_4_code 18 = .ok (.iastore, 1) := by decide +kernel
theorem dof0_19 : decode prog_51_method_4_code 19 = .ok (.aload_n 0, 1) := by decide +kernel
theorem dof0_20 : decode prog_51_method_4_code 20 = .ok (.getfield 13, 3) := by decide +kernel
theorem dof0_23 : decode prog_51_method_4_code 23 = .ok (.iload_n 1, 1) := by decide +kernel
theorem dof0_24 : decode prog_51_method_4_code 24 = .ok (.aload_n 0, 1) := by decide +kernel
theorem dof0_25 : decode prog_51_method_4_code 25 = .ok (.getfield 26, 3) := by decide +kernel
theorem dof0_28 : decode prog_51_method_4_code 28 = .ok (.iastore, 1) := by decide +kernel
theorem dof0_29 : decode prog_51_method_4_code 29 = .ok (.aload_n 0, 1) := by decide +kernel
theorem dof0_30 : decode prog_51_method_4_code 30 = .ok (.getfield 16, 3) := by decide +kernel
theorem dof0_33 : decode prog_51_method_4_code 33 = .ok (.iload_n 1, 1) := by decide +kernel
theorem dof0_34 : decode prog_51_method_4_code 34 = .ok (.lload_n 2, 1) := by decide +kernel
theorem dof0_35 : decode prog_51_method_4_code 35 = .ok (.lastore, 1) := by decide +kernel
theorem dof0_36 : decode prog_51_method_4_code 36 = .ok (.aload_n 0, 1) := by decide +kernel
theorem dof0_37 : decode prog_51_method_4_code 37 = .ok (.dup, 1) := by decide +kernel
theorem dof0_38 : decode prog_51_method_4_code 38 = .ok (.getfield 26, 3) := by decide +kernel
theorem dof0_41 : decode prog_51_method_4_code 41 = .ok (.iconst 1, 1) := by decide +kernel
theorem dof0_42 : decode prog_51_method_4_code 42 = .ok (.iadd, 1) := by decide +kernel
theorem dof0_43 : decode prog_51_method_4_code 43 = .ok (.putfield 26, 3) := by decide +kernel
theorem dof0_46 : decode prog_51_method_4_code 46 = .ok (.aload_n 0, 1) := by decide +kernel
theorem dof0_47 : decode prog_51_method_4_code 47 = .ok (.aload_n 0, 1) := by decide +kernel
theorem dof0_48 : decode prog_51_method_4_code 48 = .ok (.getfield 26, 3) := by decide +kernel
theorem dof0_51 : decode prog_51_method_4_code 51 = .ok (.iconst 1, 1) := by decide +kernel
theorem dof0_52 : decode prog_51_method_4_code 52 = .ok (.isub, 1) := by decide +kernel
theorem dof0_53 : decode prog_51_method_4_code 53 = .ok (.invokevirtual 30, 3) := by decide +kernel
theorem dof0_56 : decode prog_51_method_4_code 56 = .ok (.goto 31, 3) := by decide +kernel
theorem dof0_87 : decode prog_51_method_4_code 87 = .ok (.return_, 1) := by decide +kernel
theorem pn_of0 : plainName "com/example/albatross/albatross/NodeQueue" = true := by first | (simp [plainName, overriddenIn]; done) | decide +kernel
theorem ef_of0 (m : MethodId) (x0 : Addr) (x1 : Int32) (x2 : Int64) : entryFrame m #[(.ref x0), (.int x1), (.long x2)] 4 = mkF m 0 #[.val (.ref x0), .val (.int x1), .val (.long x2), .second] [] := by first | (simp [entryFrame, mkF, argsToLocals, Value.category]; done) | rfl
set_option maxRecDepth 65536 in
set_option maxHeartbeats 40000000 in
theorem rmof0 (l : Launch) (Z : State) (a0 : Array Value) (hw : ∀ d ∈ tables_1, d.before a0 Z = true) (ws : List Jvm.Cond) (oq oh os ok : Addr) (fH fS : Int32 → Int32) (fK : Int32 → Int64) (p1 : Int32) (q2 : Int64) (h0 : Heap) (n0 : Nat) (Z0 : n0 ≤ h0.size) (hd : own_Ds n0 oq oh os ok) (hq : own_NQ Z h0 oq oh os ok fH fS fK (0 : Int32)) (hI : own_I0 fH fS fK) (ho : own_ok p1) :
    own_Met l Z ws (⟨"com/example/albatross/albatross/NodeQueue", "offer", "(IJ)V"⟩ : MethodName) prog_51_method_4_code 4 none ({ frames := 2, cells := 0, slots := 0, locals := 28 } : Room) ({ frames := 2, cells := 0, slots := 0, locals := 28 } : Room).cells ({ frames := 2, cells := 0, slots := 0, locals := 28 } : Room).slots #[(.ref oq), (.int p1), (.long q2)] h0 (fun v h L => v = none ∧ Fr n0 L ∧ Keep h0 h [oq, oh, os, ok] ∧ ∃ H' S' K' z', own_NQ Z h oq oh os ok H' S' K' z' ∧ own_Off fS fK p1 q2 H' S' K' z') := by
  refine own_body (plainFor_of_name pn_of0) ?_
  intro p e s m below meth c s₁ hx hby hml hown hnm hlk hret hZ hh X0 e0
  have N0 := Fr.nil n0
  have hI' : own_Inv fH fS fK (0 : Int32) := own_inv0 hI
  have hd0 := hd
  obtain ⟨G_q, G_h, G_s, G_k, D1, D2, D3, D4, D5, D6⟩ := hd
  obtain ⟨E_0, Fh_0, Fs_0, Fk_0, Fz_0, Ah_0, As_0, Ak_0⟩ := hq
  refine own_cast (ef_of0 m oq p1 q2) ?_
  refine own_st (T' := s₁) (g' := (mkF m 1 #[.val (.ref oq), .val (.int p1), .val (.long q2), .second] [(.ref oq)])) (fun _ k => XS.aloadN X0.here hx rfl (hb hby dof0_0) rfl rfl k) ?_
  obtain ⟨T1, X1, e1, st1⟩ := getF X0 hx hZ hown (host := "") (Or.inl (own_w hw 12 rfl)) Via.refl e0 Fs_0 (g := (mkF m 1 #[.val (.ref oq), .val (.int p1), .val (.long q2), .second] [(.ref oq)])) rfl rfl (hb hby dof0_1)
  refine own_st (g' := (mkF m 4 #[.val (.ref oq), .val (.int p1), .val (.long q2), .second] [(.ref os)])) st1 ?_
  refine own_st (T' := T1) (g' := (mkF m 5 #[.val (.ref oq), .val (.int p1), .val (.long q2), .second] [(.int p1), (.ref os)])) (fun _ k => XS.iloadN X1.here hx rfl (hb hby dof0_4) rfl k) ?_
  obtain ⟨cl2, Ar2, S2, M2, H2⟩ := id As_0
  refine own_st (T' := T1) (g' := (mkF m 6 #[.val (.ref oq), .val (.int p1), .val (.long q2), .second] [(.int (fS p1))])) (fun _ k => X1.iaload hx (j := p1) (v := (.int (fS p1))) (by rw [e1]; exact Ar2.1) (State.isArrayOf_alike hZ.alike Ar2.2.1) Ar2.2.2 (inb_of S2 ⟨(own_ok0 ho), (own_ok3 ho)⟩) (H2 _ (own_ok0 ho) (own_ok3 ho)) (g := (mkF m 5 #[.val (.ref oq), .val (.int p1), .val (.long q2), .second] [(.int p1), (.ref os)])) rfl rfl (hb hby dof0_5) _ k) ?_
  by_cases hc6_3 : (fS p1) < (0 : Int32)
  · refine own_st (T' := T1) (g' := (mkF m 9 #[.val (.ref oq), .val (.int p1), .val (.long q2), .second] [])) (fun _ k => XS.ifNo X1.here hx rfl (hb hby dof0_6) rfl ((if0 _ _).trans (tlt hc6_3).2.1) k) ?_
    refine own_st (T' := T1) (g' := (mkF m 10 #[.val (.ref oq), .val (.int p1), .val (.long q2), .second] [(.ref oq)])) (fun _ k => XS.aloadN X1.here hx rfl (hb hby dof0_9) rfl rfl k) ?_
    obtain ⟨T4, X4, e4, st4⟩ := getF X1 hx hZ hown (host := "") (Or.inl (own_w hw 10 rfl)) Via.refl e1 Fh_0 (g := (mkF m 10 #[.val (.ref oq), .val (.int p1), .val (.long q2), .second] [(.ref oq)])) rfl rfl (hb hby dof0_10)
    refine own_st (g' := (mkF m 13 #[.val (.ref oq), .val (.int p1), .val (.long q2), .second] [(.ref oh)])) st4 ?_
    refine own_st (T' := T4) (g' := (mkF m 14 #[.val (.ref oq), .val (.int p1), .val (.long q2), .second] [(.ref oq), (.ref oh)])) (fun _ k => XS.aloadN X4.here hx rfl (hb hby dof0_13) rfl rfl k) ?_
    obtain ⟨T5, X5, e5, st5⟩ := getF X4 hx hZ hown (host := "") (Or.inl (own_w hw 27 rfl)) Via.refl e4 Fz_0 (g := (mkF m 14 #[.val (.ref oq), .val (.int p1), .val (.long q2), .second] [(.ref oq), (.ref oh)])) rfl rfl (hb hby dof0_14)
    refine own_st (g' := (mkF m 17 #[.val (.ref oq), .val (.int p1), .val (.long q2), .second] [(.int (0 : Int32)), (.ref oh)])) st5 ?_
    refine own_st (T' := T5) (g' := (mkF m 18 #[.val (.ref oq), .val (.int p1), .val (.long q2), .second] [(.int p1), (.int (0 : Int32)), (.ref oh)])) (fun _ k => XS.iloadN X5.here hx rfl (hb hby dof0_17) rfl k) ?_
    obtain ⟨cl6, Ar6, S6, M6, H6⟩ := id Ah_0
    obtain ⟨T6, h6, X6, e6, W6, st6⟩ := stI X5 hx hZ e5 Ar6 (j := (0 : Int32)) (inb_of S6 ⟨(by decide), (by decide)⟩) (g := (mkF m 18 #[.val (.ref oq), .val (.int p1), .val (.long q2), .second] [(.int p1), (.int (0 : Int32)), (.ref oh)])) rfl rfl (hb hby dof0_18)
    have V6 : own_A Z h6 oh .int (3 : Int32) (fun i => (.int ((own_up fH (0 : Int32) p1) i))) := (own_A.set Ar6 S6 M6 H6 (by decide) (by decide) W6).upI
    have N6 := Fr.snoc X6 N0 G_h
    refine own_st (g' := (mkF m 19 #[.val (.ref oq), .val (.int p1), .val (.long q2), .second] [])) st6 ?_
    refine own_st (T' := T6) (g' := (mkF m 20 #[.val (.ref oq), .val (.int p1), .val (.long q2), .second] [(.ref oq)])) (fun _ k => XS.aloadN X6.here hx rfl (hb hby dof0_19) rfl rfl k) ?_
    obtain ⟨T7, X7, e7, st7⟩ := getF X6 hx hZ hown (host := "") (Or.inl (own_w hw 12 rfl)) Via.refl e6 (Fs_0.other W6 (Or.inl D1)) (g := (mkF m 20 #[.val (.ref oq), .val (.int p1), .val (.long q2), .second] [(.ref oq)])) rfl rfl (hb hby dof0_20)
    refine own_st (g' := (mkF m 23 #[.val (.ref oq), .val (.int p1), .val (.long q2), .second] [(.ref os)])) st7 ?_
    refine own_st (T' := T7) (g' := (mkF m 24 #[.val (.ref oq), .val (.int p1), .val (.long q2), .second] [(.int p1), (.ref os)])) (fun _ k => XS.iloadN X7.here hx rfl (hb hby dof0_23) rfl k) ?_
    refine own_st (T' := T7) (g' := (mkF m 25 #[.val (.ref oq), .val (.int p1), .val (.long q2), .second] [(.ref oq), (.int p1), (.ref os)])) (fun _ k => XS.aloadN X7.here hx rfl (hb hby dof0_24) rfl rfl k) ?_
    obtain ⟨T8, X8, e8, st8⟩ := getF X7 hx hZ hown (host := "") (Or.inl (own_w hw 27 rfl)) Via.refl e7 (Fz_0.other W6 (Or.inl D1)) (g := (mkF m 25 #[.val (.ref oq), .val (.int p1), .val (.long q2), .second] [(.ref oq), (.int p1), (.ref os)])) rfl rfl (hb hby dof0_25)
    refine own_st (g' := (mkF m 28 #[.val (.ref oq), .val (.int p1), .val (.long q2), .second] [(.int (0 : Int32)), (.int p1), (.ref os)])) st8 ?_
    obtain ⟨cl9, Ar9, S9, M9, H9⟩ := id (As_0.other W6 (Ne.symm D4))
    obtain ⟨T9, h9, X9, e9, W9, st9⟩ := stI X8 hx hZ e8 Ar9 (j := p1) (inb_of S9 ⟨(own_ok0 ho), (own_ok3 ho)⟩) (g := (mkF m 28 #[.val (.ref oq), .val (.int p1), .val (.long q2), .second] [(.int (0 : Int32)), (.int p1), (.ref os)])) rfl rfl (hb hby dof0_28)
    have V9 : own_A Z h9 os .int (3 : Int32) (fun i => (.int ((own_up fS p1 (0 : Int32)) i))) := (own_A.set Ar9 S9 M9 H9 (own_ok0 ho) (own_ok3 ho) W9).upI
    have N9 := Fr.snoc X9 N6 G_s
    refine own_st (g' := (mkF m 29 #[.val (.ref oq), .val (.int p1), .val (.long q2), .second] [])) st9 ?_
    refine own_st (T' := T9) (g' := (mkF m 30 #[.val (.ref oq), .val (.int p1), .val (.long q2), .second] [(.ref oq)])) (fun _ k => XS.aloadN X9.here hx rfl (hb hby dof0_29) rfl rfl k) ?_
    obtain ⟨T10, X10, e10, st10⟩ := getF X9 hx hZ hown (host := "") (Or.inl (own_w hw 15 rfl)) Via.refl e9 ((Fk_0.other W6 (Or.inl D1)).other W9 (Or.inl D2)) (g := (mkF m 30 #[.val (.ref oq), .val (.int p1), .val (.long q2), .second] [(.ref oq)])) rfl rfl (hb hby dof0_30)
    refine own_st (g' := (mkF m 33 #[.val (.ref oq), .val (.int p1), .val (.long q2), .second] [(.ref ok)])) st10 ?_
    refine own_st (T' := T10) (g' := (mkF m 34 #[.val (.ref oq), .val (.int p1), .val (.long q2), .second] [(.int p1), (.ref ok)])) (fun _ k => XS.iloadN X10.here hx rfl (hb hby dof0_33) rfl k) ?_
    refine own_st (T' := T10) (g' := (mkF m 35 #[.val (.ref oq), .val (.int p1), .val (.long q2), .second] [(.long q2), (.int p1), (.ref ok)])) (fun _ k => XS.lloadN X10.here hx rfl (hb hby dof0_34) rfl k) ?_
    obtain ⟨cl11, Ar11, S11, M11, H11⟩ := id ((Ak_0.other W6 (Ne.symm D5)).other W9 (Ne.symm D6))
    obtain ⟨T11, h11, X11, e11, W11, st11⟩ := stJ X10 hx hZ e10 Ar11 (j := p1) (inb_of S11 ⟨(own_ok0 ho), (own_ok3 ho)⟩) (g := (mkF m 35 #[.val (.ref oq), .val (.int p1), .val (.long q2), .second] [(.long q2), (.int p1), (.ref ok)])) rfl rfl (hb hby dof0_35)
    have V11 : own_A Z h11 ok .long (3 : Int32) (fun i => (.long ((own_up fK p1 q2) i))) := (own_A.set Ar11 S11 M11 H11 (own_ok0 ho) (own_ok3 ho) W11).upJ
    have N11 := Fr.snoc X11 N9 G_k
    refine own_st (g' := (mkF m 36 #[.val (.ref oq), .val (.int p1), .val (.long q2), .second] [])) st11 ?_
    refine own_st (T' := T11) (g' := (mkF m 37 #[.val (.ref oq), .val (.int p1), .val (.long q2), .second] [(.ref oq)])) (fun _ k => XS.aloadN X11.here hx rfl (hb hby dof0_36) rfl rfl k) ?_
    refine own_st (T' := T11) (g' := (mkF m 38 #[.val (.ref oq), .val (.int p1), .val (.long q2), .second] [(.ref oq), (.ref oq)])) (fun _ k => XS.dup X11.here hx rfl (hb hby dof0_37) rfl rfl k) ?_
    obtain ⟨T12, X12, e12, st12⟩ := getF X11 hx hZ hown (host := "") (Or.inl (own_w hw 27 rfl)) Via.refl e11 (((Fz_0.other W6 (Or.inl D1)).other W9 (Or.inl D2)).other W11 (Or.inl D3)) (g := (mkF m 38 #[.val (.ref oq), .val (.int p1), .val (.long q2), .second] [(.ref oq), (.ref oq)])) rfl rfl (hb hby dof0_38)
    refine own_st (g' := (mkF m 41 #[.val (.ref oq), .val (.int p1), .val (.long q2), .second] [(.int (0 : Int32)), (.ref oq)])) st12 ?_
    refine own_st (T' := T12) (g' := (mkF m 42 #[.val (.ref oq), .val (.int p1), .val (.long q2), .second] [(.int (1 : Int32)), (.int (0 : Int32)), (.ref oq)])) (fun _ k => XS.iconst X12.here hx rfl (hb hby dof0_41) k) ?_
    refine own_st (T' := T12) (g' := (mkF m 43 #[.val (.ref oq), .val (.int p1), .val (.long q2), .second] [(.int (1 : Int32)), (.ref oq)])) (fun _ k => XS.iadd X12.here hx rfl (hb hby dof0_42) rfl k) ?_
    obtain ⟨T13, h13, X13, e13, W13, st13⟩ := putF X12 hx hZ hown (host := "") (Or.inl (own_w hw 27 rfl)) Via.refl e12 (((Fz_0.other W6 (Or.inl D1)).other W9 (Or.inl D2)).other W11 (Or.inl D3)) (((E_0.wr W6).wr W9).wr W11) (Or.inl (own_w hw 28 rfl)) (own_w hw 1 rfl) (ty := .int) (by decide) rfl rfl (g := (mkF m 43 #[.val (.ref oq), .val (.int p1), .val (.long q2), .second] [(.int (1 : Int32)), (.ref oq)])) rfl rfl (hb hby dof0_43)
    have Fw13 := (((Fz_0.other W6 (Or.inl D1)).other W9 (Or.inl D2)).other W11 (Or.inl D3)).same W13
    have N13 := Fr.snoc X13 N11 G_q
    refine own_st (g' := (mkF m 46 #[.val (.ref oq), .val (.int p1), .val (.long q2), .second] [])) st13 ?_
    refine own_st (T' := T13) (g' := (mkF m 47 #[.val (.ref oq), .val (.int p1), .val (.long q2), .second] [(.ref oq)])) (fun _ k => XS.aloadN X13.here hx rfl (hb hby dof0_46) rfl rfl k) ?_
    refine own_st (T' := T13) (g' := (mkF m 48 #[.val (.ref oq), .val (.int p1), .val (.long q2), .second] [(.ref oq), (.ref oq)])) (fun _ k => XS.aloadN X13.here hx rfl (hb hby dof0_47) rfl rfl k) ?_
    obtain ⟨T14, X14, e14, st14⟩ := getF X13 hx hZ hown (host := "") (Or.inl (own_w hw 27 rfl)) Via.refl e13 Fw13 (g := (mkF m 48 #[.val (.ref oq), .val (.int p1), .val (.long q2), .second] [(.ref oq), (.ref oq)])) rfl rfl (hb hby dof0_48)
    refine own_st (g' := (mkF m 51 #[.val (.ref oq), .val (.int p1), .val (.long q2), .second] [(.int (1 : Int32)), (.ref oq)])) st14 ?_
    refine own_st (T' := T14) (g' := (mkF m 52 #[.val (.ref oq), .val (.int p1), .val (.long q2), .second] [(.int (1 : Int32)), (.int (1 : Int32)), (.ref oq)])) (fun _ k => XS.iconst X14.here hx rfl (hb hby dof0_51) k) ?_
    refine own_st (T' := T14) (g' := (mkF m 53 #[.val (.ref oq), .val (.int p1), .val (.long q2), .second] [(.int (0 : Int32)), (.ref oq)])) (fun _ k => XS.isub X14.here hx rfl (hb hby dof0_52) rfl k) ?_
    refine own_callP X14 hx hZ (y := (⟨"com/example/albatross/albatross/NodeQueue", "siftUp", "(I)V"⟩ : MethodName)) hown (own_w hw 38 rfl) (own_w hw 39 rfl) (own_w hw 1 rfl) (own_w hw 40 rfl) (own_w hw 41 rfl) (own_w hw 2 rfl) (by decide) (W := 0) e14 (b := oq) ((((E_0.wr W6).wr W9).wr W11).wr W13) (argsL := [(.int (0 : Int32))]) (rest := []) (rmsu0 l Z a0 hw [] oq oh os ok (own_up fH (0 : Int32) p1) (own_up fS p1 (0 : Int32)) (own_up fK p1 q2) (1 : Int32) h13 n0 (Nat.le_trans (Nat.le_trans (Nat.le_trans (Nat.le_trans Z0 (Nat.le_of_eq W6.size.symm)) (Nat.le_of_eq W9.size.symm)) (Nat.le_of_eq W11.size.symm)) (Nat.le_of_eq W13.size.symm)) hd0 (show own_NQ Z h13 oq oh os ok (own_up fH (0 : Int32) p1) (own_up fS p1 (0 : Int32)) (own_up fK p1 q2) (1 : Int32) from ⟨((((E_0.wr W6).wr W9).wr W11).wr W13), ((((Fh_0.other W6 (Or.inl D1)).other W9 (Or.inl D2)).other W11 (Or.inl D3)).other W13 (Or.inr (slot_ne (Or.inr (own_w hw 11 rfl)) (Or.inl (own_w hw 28 rfl)) (by decide) (t := (.array .int)) (t' := .int) (by decide) (by decide)))), ((((Fs_0.other W6 (Or.inl D1)).other W9 (Or.inl D2)).other W11 (Or.inl D3)).other W13 (Or.inr (slot_ne (Or.inr (own_w hw 13 rfl)) (Or.inl (own_w hw 28 rfl)) (by decide) (t := (.array .int)) (t' := .int) (by decide) (by decide)))), ((((Fk_0.other W6 (Or.inl D1)).other W9 (Or.inl D2)).other W11 (Or.inl D3)).other W13 (Or.inr (slot_ne (Or.inr (own_w hw 16 rfl)) (Or.inl (own_w hw 28 rfl)) (by decide) (t := (.array .long)) (t' := .int) (by decide) (by decide)))), Fw13, (((V6.other W9 D4).other W11 D5).other W13 (Ne.symm D1)), ((V9.other W11 D6).other W13 (Ne.symm D2)), (V11.other W13 (Ne.symm D3))⟩) (show ¬ p1 < 0 from own_ok0 ho) (show p1 < 3 from own_ok3 ho)) (by decide) (by decide) (by decide) (by decide) (g := (mkF m 53 #[.val (.ref oq), .val (.int p1), .val (.long q2), .second] [(.int (0 : Int32)), (.ref oq)])) rfl (by rw [hml]; rfl) (lenOf own_pd1 rfl) rfl (by show 2 * 0 + _ ≤ _; exact Nat.le_of_eq rfl) (hb hby dof0_53) ?_
    rintro _ T15 L15 X15 ⟨rfl, N15q, K15, hq_15⟩
    show own_Go _ _ _ _ _ _ _ T15 (mkF m 56 #[.val (.ref oq), .val (.int p1), .val (.long q2), .second] [])
    have N15 := Fr.app N13 N15q
    obtain ⟨E_15, Fh_15, Fs_15, Fk_15, Fz_15, Ah_15, As_15, Ak_15⟩ := hq_15
    refine own_st (T' := T15) (g' := (mkF m 87 #[.val (.ref oq), .val (.int p1), .val (.long q2), .second] [])) (fun _ k => XS.goto X15.here hx rfl (pc0 := 56) (pc' := 87) rfl (hb hby dof0_56) (by decide) (by decide) k) ?_
    exact own_retV X15 hx hlk hret (hb hby dof0_87) ⟨rfl, N15, ((((((Keep.refl h0 [oq, oh, os, ok]).wr W6 (Or.inl (by simp))).wr W9 (Or.inl (by simp))).wr W11 (Or.inl (by simp))).wr W13 (Or.inl (by simp))).trans K15 (fun x hx => Or.inl hx)), (own_up (own_up fH (0 : Int32) p1) (0 : Int32) ((own_up fH (0 : Int32) p1) (0 : Int32))), (own_up (own_up fS p1 (0 : Int32)) ((own_up fH (0 : Int32) p1) (0 : Int32)) (0 : Int32)), (own_up fK p1 q2), (1 : Int32), ⟨E_15, Fh_15, Fs_15, Fk_15, Fz_15, Ah_15, As_15, Ak_15⟩, own_offA0 hI ho hc6_3⟩ (by decide) (by decide)
  · refine own_st (T' := T1) (g' := (mkF m 59 #[.val (.ref oq), .val (.int p1), .val (.long q2), .second] [])) (fun _ k => XS.ifYes X1.here hx rfl (pc0 := 6) (pc' := 59) rfl (hb hby dof0_6) rfl ((if0 _ _).trans (flt hc6_3).2.1) (by decide) (by decide) k) ?_
    exact (own_none hI ho hc6_3).elim
theorem dof1_0 : decode prog_51_method_4_code 0 = .ok (.aload_n 0, 1) := by decide +kernel
theorem dof1_1 : decode prog_51_method_4_code 1 = .ok (.getfield 13, 3) := by decide +kernel
theorem dof1_4 : decode prog_51_method_4_code 4 = .ok (.iload_n 1, 1) := by decide +kernel
theorem dof1_5 : decode prog_51_method_4_code 5 = .ok (.iaload, 1) := by decide +kernel
theorem dof1_6 : decode prog_51_method_4_code 6 = .ok (.ifCond .ge 53, 3) := by decide +kernel
theorem dof1_9 : decode prog_51_method_4_code 9 = .ok (.aload_n 0, 1) := by decide +kernel
theorem dof1_10 : decode prog_51_method_4_code 10 = .ok (.getfield 7, 3) := by decide +kernel
theorem dof1_13 : decode prog_51_method_4_code 13 = .ok (.aload_n 0, 1) := by decide +kernel
theorem dof1_14 : decode prog_51_method_4_code 14 = .ok (.getfield 26, 3) := by decide +kernel
theorem dof1_17 : decode prog_51_method_4_code 17 = .ok (.iload_n 1, 1) := by decide +kernel
theorem dof1_18 : decode prog_51_method_4_code 18 = .ok (.iastore, 1) := by decide +kernel
theorem dof1_19 : decode prog_51_method_4_code 19 = .ok (.aload_n 0, 1) := by decide +kernel
theorem dof1_20 : decode prog_51_method_4_code 20 = .ok (.getfield 13, 3) := by decide +kernel
theorem dof1_23 : decode prog_51_method_4_code 23 = .ok (.iload_n 1, 1) := by decide +kernel
theorem dof1_24 : decode prog_51_method_4_code 24 = .ok (.aload_n 0, 1) := by decide +kernel
theorem dof1_25 : decode prog_51_method_4_code 25 = .ok (.getfield 26, 3) := by decide +kernel
theorem dof1_28 : decode prog_51_method_4_code 28 = .ok (.iastore, 1) := by decide +kernel
theorem dof1_29 : decode prog_51_method_4_code 29 = .ok (.aload_n 0, 1) := by decide +kernel
theorem dof1_30 : decode prog_51_method_4_code 30 = .ok (.getfield 16, 3) := by decide +kernel
theorem dof1_33 : decode prog_51_method_4_code 33 = .ok (.iload_n 1, 1) := by decide +kernel
theorem dof1_34 : decode prog_51_method_4_code 34 = .ok (.lload_n 2, 1) := by decide +kernel
theorem dof1_35 : decode prog_51_method_4_code 35 = .ok (.lastore, 1) := by decide +kernel
theorem dof1_36 : decode prog_51_method_4_code 36 = .ok (.aload_n 0, 1) := by decide +kernel
theorem dof1_37 : decode prog_51_method_4_code 37 = .ok (.dup, 1) := by decide +kernel
theorem dof1_38 : decode prog_51_method_4_code 38 = .ok (.getfield 26, 3) := by decide +kernel
theorem dof1_41 : decode prog_51_method_4_code 41 = .ok (.iconst 1, 1) := by decide +kernel
theorem dof1_42 : decode prog_51_method_4_code 42 = .ok (.iadd, 1) := by decide +kernel
theorem dof1_43 : decode prog_51_method_4_code 43 = .ok (.putfield 26, 3) := by decide +kernel
theorem dof1_46 : decode prog_51_method_4_code 46 = .ok (.aload_n 0, 1) := by decide +kernel
theorem dof1_47 : decode prog_51_method_4_code 47 = .ok (.aload_n 0, 1) := by decide +kernel
theorem dof1_48 : decode prog_51_method_4_code 48 = .ok (.getfield 26, 3) := by decide +kernel
theorem dof1_51 : decode prog_51_method_4_code 51 = .ok (.iconst 1, 1) := by decide +kernel
theorem dof1_52 : decode prog_51_method_4_code 52 = .ok (.isub, 1) := by decide +kernel
theorem dof1_53 : decode prog_51_method_4_code 53 = .ok (.invokevirtual 30, 3) := by decide +kernel
theorem dof1_56 : decode prog_51_method_4_code 56 = .ok (.goto 31, 3) := by decide +kernel
theorem dof1_59 : decode prog_51_method_4_code 59 = .ok (.lload_n 2, 1) := by decide +kernel
theorem dof1_60 : decode prog_51_method_4_code 60 = .ok (.aload_n 0, 1) := by decide +kernel
theorem dof1_61 : decode prog_51_method_4_code 61 = .ok (.getfield 16, 3) := by decide +kernel
theorem dof1_64 : decode prog_51_method_4_code 64 = .ok (.iload_n 1, 1) := by decide +kernel
theorem dof1_65 : decode prog_51_method_4_code 65 = .ok (.laload, 1) := by decide +kernel
theorem dof1_66 : decode prog_51_method_4_code 66 = .ok (.lcmp, 1) := by decide +kernel
theorem dof1_67 : decode prog_51_method_4_code 67 = .ok (.ifCond .ge 20, 3) := by decide +kernel
theorem dof1_70 : decode prog_51_method_4_code 70 = .ok (.aload_n 0, 1) := by decide +kernel
theorem dof1_71 : decode prog_51_method_4_code 71 = .ok (.getfield 16, 3) := by decide +kernel
theorem dof1_74 : decode prog_51_method_4_code 74 = .ok (.iload_n 1, 1) := by decide +kernel
theorem dof1_75 : decode prog_51_method_4_code 75 = .ok (.lload_n 2, 1) := by decide +kernel
theorem dof1_76 : decode prog_51_method_4_code 76 = .ok (.lastore, 1) := by decide +kernel
theorem dof1_77 : decode prog_51_method_4_code 77 = .ok (.aload_n 0, 1) := by decide +kernel
theorem dof1_78 : decode prog_51_method_4_code 78 = .ok (.aload_n 0, 1) := by decide +kernel
theorem dof1_79 : decode prog_51_method_4_code 79 = .ok (.getfield 13, 3) := by decide +kernel
theorem dof1_82 : decode prog_51_method_4_code 82 = .ok (.iload_n 1, 1) := by decide +kernel
theorem dof1_83 : decode prog_51_method_4_code 83 = .ok (.iaload, 1) := by decide +kernel
theorem dof1_84 : decode prog_51_method_4_code 84 = .ok (.invokevirtual 30, 3) := by decide +kernel
theorem dof1_87 : decode prog_51_method_4_code 87 = .ok (.return_, 1) := by decide +kernel
theorem pn_of1 : plainName "com/example/albatross/albatross/NodeQueue" = true := by first | (simp [plainName, overriddenIn]; done) | decide +kernel
theorem ef_of1 (m : MethodId) (x0 : Addr) (x1 : Int32) (x2 : Int64) : entryFrame m #[(.ref x0), (.int x1), (.long x2)] 4 = mkF m 0 #[.val (.ref x0), .val (.int x1), .val (.long x2), .second] [] := by first | (simp [entryFrame, mkF, argsToLocals, Value.category]; done) | rfl
set_option maxRecDepth 65536 in
set_option maxHeartbeats 40000000 in
theorem rmof1 (l : Launch) (Z : State) (a0 : Array Value) (hw : ∀ d ∈ tables_1, d.before a0 Z = true) (ws : List Jvm.Cond) (oq oh os ok : Addr) (fH fS : Int32 → Int32) (fK : Int32 → Int64) (p1 : Int32) (q2 : Int64) (h0 : Heap) (n0 : Nat) (Z0 : n0 ≤ h0.size) (hd : own_Ds n0 oq oh os ok) (hq : own_NQ Z h0 oq oh os ok fH fS fK (1 : Int32)) (hI : own_I1 fH fS fK) (ho : own_ok p1) :
    own_Met l Z ws (⟨"com/example/albatross/albatross/NodeQueue", "offer", "(IJ)V"⟩ : MethodName) prog_51_method_4_code 4 none ({ frames := 2, cells := 0, slots := 0, locals := 28 } : Room) ({ frames := 2, cells := 0, slots := 0, locals := 28 } : Room).cells ({ frames := 2, cells := 0, slots := 0, locals := 28 } : Room).slots #[(.ref oq), (.int p1), (.long q2)] h0 (fun v h L => v = none ∧ Fr n0 L ∧ Keep h0 h [oq, oh, os, ok] ∧ ∃ H' S' K' z', own_NQ Z h oq oh os ok H' S' K' z' ∧ own_Off fS fK p1 q2 H' S' K' z') := by
  refine own_body (plainFor_of_name pn_of1) ?_
  intro p e s m below meth c s₁ hx hby hml hown hnm hlk hret hZ hh X0 e0
  have N0 := Fr.nil n0
  have hI' : own_Inv fH fS fK (1 : Int32) := own_inv1 hI
  have hd0 := hd
  obtain ⟨G_q, G_h, G_s, G_k, D1, D2, D3, D4, D5, D6⟩ := hd
  obtain ⟨E_0, Fh_0, Fs_0, Fk_0, Fz_0, Ah_0, As_0, Ak_0⟩ := hq
  refine own_cast (ef_of1 m oq p1 q2) ?_
  refine own_st (T' := s₁) (g' := (mkF m 1 #[.val (.ref oq), .val (.int p1), .val (.long q2), .second] [(.ref oq)])) (fun _ k => XS.aloadN X0.here hx rfl (hb hby dof1_0) rfl rfl k) ?_
  obtain ⟨T1, X1, e1, st1⟩ := getF X0 hx hZ hown (host := "") (Or.inl (own_w hw 12 rfl)) Via.refl e0 Fs_0 (g := (mkF m 1 #[.val (.ref oq), .val (.int p1), .val (.long q2), .second] [(.ref oq)])) rfl rfl (hb hby dof1_1)
  refine own_st (g' := (mkF m 4 #[.val (.ref oq), .val (.int p1), .val (.long q2), .second] [(.ref os)])) st1 ?_
  refine own_st (T' := T1) (g' := (mkF m 5 #[.val (.ref oq), .val (.int p1), .val (.long q2), .second] [(.int p1), (.ref os)])) (fun _ k => XS.iloadN X1.here hx rfl (hb hby dof1_4) rfl k) ?_
  obtain ⟨cl2, Ar2, S2, M2, H2⟩ := id As_0
  refine own_st (T' := T1) (g' := (mkF m 6 #[.val (.ref oq), .val (.int p1), .val (.long q2), .second] [(.int (fS p1))])) (fun _ k => X1.iaload hx (j := p1) (v := (.int (fS p1))) (by rw [e1]; exact Ar2.1) (State.isArrayOf_alike hZ.alike Ar2.2.1) Ar2.2.2 (inb_of S2 ⟨(own_ok0 ho), (own_ok3 ho)⟩) (H2 _ (own_ok0 ho) (own_ok3 ho)) (g := (mkF m 5 #[.val (.ref oq), .val (.int p1), .val (.long q2), .second] [(.int p1), (.ref os)])) rfl rfl (hb hby dof1_5) _ k) ?_
  by_cases hc6_3 : (fS p1) < (0 : Int32)
  · refine own_st (T' := T1) (g' := (mkF m 9 #[.val (.ref oq), .val (.int p1), .val (.long q2), .second] [])) (fun _ k => XS.ifNo X1.here hx rfl (hb hby dof1_6) rfl ((if0 _ _).trans (tlt hc6_3).2.1) k) ?_
    refine own_st (T' := T1) (g' := (mkF m 10 #[.val (.ref oq), .val (.int p1), .val (.long q2), .second] [(.ref oq)])) (fun _ k => XS.aloadN X1.here hx rfl (hb hby dof1_9) rfl rfl k) ?_
    obtain ⟨T4, X4, e4, st4⟩ := getF X1 hx hZ hown (host := "") (Or.inl (own_w hw 10 rfl)) Via.refl e1 Fh_0 (g := (mkF m 10 #[.val (.ref oq), .val (.int p1), .val (.long q2), .second] [(.ref oq)])) rfl rfl (hb hby dof1_10)
    refine own_st (g' := (mkF m 13 #[.val (.ref oq), .val (.int p1), .val (.long q2), .second] [(.ref oh)])) st4 ?_
    refine own_st (T' := T4) (g' := (mkF m 14 #[.val (.ref oq), .val (.int p1), .val (.long q2), .second] [(.ref oq), (.ref oh)])) (fun _ k => XS.aloadN X4.here hx rfl (hb hby dof1_13) rfl rfl k) ?_
    obtain ⟨T5, X5, e5, st5⟩ := getF X4 hx hZ hown (host := "") (Or.inl (own_w hw 27 rfl)) Via.refl e4 Fz_0 (g := (mkF m 14 #[.val (.ref oq), .val (.int p1), .val (.long q2), .second] [(.ref oq), (.ref oh)])) rfl rfl (hb hby dof1_14)
    refine own_st (g' := (mkF m 17 #[.val (.ref oq), .val (.int p1), .val (.long q2), .second] [(.int (1 : Int32)), (.ref oh)])) st5 ?_
    refine own_st (T' := T5) (g' := (mkF m 18 #[.val (.ref oq), .val (.int p1), .val (.long q2), .second] [(.int p1), (.int (1 : Int32)), (.ref oh)])) (fun _ k => XS.iloadN X5.here hx rfl (hb hby dof1_17) rfl k) ?_
    obtain ⟨cl6, Ar6, S6, M6, H6⟩ := id Ah_0
    obtain ⟨T6, h6, X6, e6, W6, st6⟩ := stI X5 hx hZ e5 Ar6 (j := (1 : Int32)) (inb_of S6 ⟨(by decide), (by decide)⟩) (g := (mkF m 18 #[.val (.ref oq), .val (.int p1), .val (.long q2), .second] [(.int p1), (.int (1 : Int32)), (.ref oh)])) rfl rfl (hb hby dof1_18)
    have V6 : own_A Z h6 oh .int (3 : Int32) (fun i => (.int ((own_up fH (1 : Int32) p1) i))) := (own_A.set Ar6 S6 M6 H6 (by decide) (by decide) W6).upI
    have N6 := Fr.snoc X6 N0 G_h
    refine own_st (g' := (mkF m 19 #[.val (.ref oq), .val (.int p1), .val (.long q2), .second] [])) st6 ?_
    refine own_st (T' := T6) (g' := (mkF m 20 #[.val (.ref oq), .val (.int p1), .val (.long q2), .second] [(.ref oq)])) (fun _ k => XS.aloadN X6.here hx rfl (hb hby dof1_19) rfl rfl k) ?_
    obtain ⟨T7, X7, e7, st7⟩ := getF X6 hx hZ hown (host := "") (Or.inl (own_w hw 12 rfl)) Via.refl e6 (Fs_0.other W6 (Or.inl D1)) (g := (mkF m 20 #[.val (.ref oq), .val (.int p1), .val (.long q2), .second] [(.ref oq)])) rfl rfl (hb hby dof1_20)
    refine own_st (g' := (mkF m 23 #[.val (.ref oq), .val (.int p1), .val (.long q2), .second] [(.ref os)])) st7 ?_
    refine own_st (T' := T7) (g' := (mkF m 24 #[.val (.ref oq), .val (.int p1), .val (.long q2), .second] [(.int p1), (.ref os)])) (fun _ k => XS.iloadN X7.here hx rfl (hb hby dof1_23) rfl k) ?_
    refine own_st (T' := T7) (g' := (mkF m 25 #[.val (.ref oq), .val (.int p1), .val (.long q2), .second] [(.ref oq), (.int p1), (.ref os)])) (fun _ k => XS.aloadN X7.here hx rfl (hb hby dof1_24) rfl rfl k) ?_
    obtain ⟨T8, X8, e8, st8⟩ := getF X7 hx hZ hown (host := "") (Or.inl (own_w hw 27 rfl)) Via.refl e7 (Fz_0.other W6 (Or.inl D1)) (g := (mkF m 25 #[.val (.ref oq), .val (.int p1), .val (.long q2), .second] [(.ref oq), (.int p1), (.ref os)])) rfl rfl (hb hby dof1_25)
    refine own_st (g' := (mkF m 28 #[.val (.ref oq), .val (.int p1), .val (.long q2), .second] [(.int (1 : Int32)), (.int p1), (.ref os)])) st8 ?_
    obtain ⟨cl9, Ar9, S9, M9, H9⟩ := id (As_0.other W6 (Ne.symm D4))
    obtain ⟨T9, h9, X9, e9, W9, st9⟩ := stI X8 hx hZ e8 Ar9 (j := p1) (inb_of S9 ⟨(own_ok0 ho), (own_ok3 ho)⟩) (g := (mkF m 28 #[.val (.ref oq), .val (.int p1), .val (.long q2), .second] [(.int (1 : Int32)), (.int p1), (.ref os)])) rfl rfl (hb hby dof1_28)
    have V9 : own_A Z h9 os .int (3 : Int32) (fun i => (.int ((own_up fS p1 (1 : Int32)) i))) := (own_A.set Ar9 S9 M9 H9 (own_ok0 ho) (own_ok3 ho) W9).upI
    have N9 := Fr.snoc X9 N6 G_s
    refine own_st (g' := (mkF m 29 #[.val (.ref oq), .val (.int p1), .val (.long q2), .second] [])) st9 ?_
    refine own_st (T' := T9) (g' := (mkF m 30 #[.val (.ref oq), .val (.int p1), .val (.long q2), .second] [(.ref oq)])) (fun _ k => XS.aloadN X9.here hx rfl (hb hby dof1_29) rfl rfl k) ?_
    obtain ⟨T10, X10, e10, st10⟩ := getF X9 hx hZ hown (host := "") (Or.inl (own_w hw 15 rfl)) Via.refl e9 ((Fk_0.other W6 (Or.inl D1)).other W9 (Or.inl D2)) (g := (mkF m 30 #[.val (.ref oq), .val (.int p1), .val (.long q2), .second] [(.ref oq)])) rfl rfl (hb hby dof1_30)
    refine own_st (g' := (mkF m 33 #[.val (.ref oq), .val (.int p1), .val (.long q2), .second] [(.ref ok)])) st10 ?_
    refine own_st (T' := T10) (g' := (mkF m 34 #[.val (.ref oq), .val (.int p1), .val (.long q2), .second] [(.int p1), (.ref ok)])) (fun _ k => XS.iloadN X10.here hx rfl (hb hby dof1_33) rfl k) ?_
    refine own_st (T' := T10) (g' := (mkF m 35 #[.val (.ref oq), .val (.int p1), .val (.long q2), .second] [(.long q2), (.int p1), (.ref ok)])) (fun _ k => XS.lloadN X10.here hx rfl (hb hby dof1_34) rfl k) ?_
    obtain ⟨cl11, Ar11, S11, M11, H11⟩ := id ((Ak_0.other W6 (Ne.symm D5)).other W9 (Ne.symm D6))
    obtain ⟨T11, h11, X11, e11, W11, st11⟩ := stJ X10 hx hZ e10 Ar11 (j := p1) (inb_of S11 ⟨(own_ok0 ho), (own_ok3 ho)⟩) (g := (mkF m 35 #[.val (.ref oq), .val (.int p1), .val (.long q2), .second] [(.long q2), (.int p1), (.ref ok)])) rfl rfl (hb hby dof1_35)
    have V11 : own_A Z h11 ok .long (3 : Int32) (fun i => (.long ((own_up fK p1 q2) i))) := (own_A.set Ar11 S11 M11 H11 (own_ok0 ho) (own_ok3 ho) W11).upJ
    have N11 := Fr.snoc X11 N9 G_k
    refine own_st (g' := (mkF m 36 #[.val (.ref oq), .val (.int p1), .val (.long q2), .second] [])) st11 ?_
    refine own_st (T' := T11) (g' := (mkF m 37 #[.val (.ref oq), .val (.int p1), .val (.long q2), .second] [(.ref oq)])) (fun _ k => XS.aloadN X11.here hx rfl (hb hby dof1_36) rfl rfl k) ?_
    refine own_st (T' := T11) (g' := (mkF m 38 #[.val (.ref oq), .val (.int p1), .val (.long q2), .second] [(.ref oq), (.ref oq)])) (fun _ k => XS.dup X11.here hx rfl (hb hby dof1_37) rfl rfl k) ?_
    obtain ⟨T12, X12, e12, st12⟩ := getF X11 hx hZ hown (host := "") (Or.inl (own_w hw 27 rfl)) Via.refl e11 (((Fz_0.other W6 (Or.inl D1)).other W9 (Or.inl D2)).other W11 (Or.inl D3)) (g := (mkF m 38 #[.val (.ref oq), .val (.int p1), .val (.long q2), .second] [(.ref oq), (.ref oq)])) rfl rfl (hb hby dof1_38)
    refine own_st (g' := (mkF m 41 #[.val (.ref oq), .val (.int p1), .val (.long q2), .second] [(.int (1 : Int32)), (.ref oq)])) st12 ?_
    refine own_st (T' := T12) (g' := (mkF m 42 #[.val (.ref oq), .val (.int p1), .val (.long q2), .second] [(.int (1 : Int32)), (.int (1 : Int32)), (.ref oq)])) (fun _ k => XS.iconst X12.here hx rfl (hb hby dof1_41) k) ?_
    refine own_st (T' := T12) (g' := (mkF m 43 #[.val (.ref oq), .val (.int p1), .val (.long q2), .second] [(.int (2 : Int32)), (.ref oq)])) (fun _ k => XS.iadd X12.here hx rfl (hb hby dof1_42) rfl k) ?_
    obtain ⟨T13, h13, X13, e13, W13, st13⟩ := putF X12 hx hZ hown (host := "") (Or.inl (own_w hw 27 rfl)) Via.refl e12 (((Fz_0.other W6 (Or.inl D1)).other W9 (Or.inl D2)).other W11 (Or.inl D3)) (((E_0.wr W6).wr W9).wr W11) (Or.inl (own_w hw 28 rfl)) (own_w hw 1 rfl) (ty := .int) (by decide) rfl rfl (g := (mkF m 43 #[.val (.ref oq), .val (.int p1), .val (.long q2), .second] [(.int (2 : Int32)), (.ref oq)])) rfl rfl (hb hby dof1_43)
    have Fw13 := (((Fz_0.other W6 (Or.inl D1)).other W9 (Or.inl D2)).other W11 (Or.inl D3)).same W13
    have N13 := Fr.snoc X13 N11 G_q
    refine own_st (g' := (mkF m 46 #[.val (.ref oq), .val (.int p1), .val (.long q2), .second] [])) st13 ?_
    refine own_st (T' := T13) (g' := (mkF m 47 #[.val (.ref oq), .val (.int p1), .val (.long q2), .second] [(.ref oq)])) (fun _ k => XS.aloadN X13.here hx rfl (hb hby dof1_46) rfl rfl k) ?_
    refine own_st (T' := T13) (g' := (mkF m 48 #[.val (.ref oq), .val (.int p1), .val (.long q2), .second] [(.ref oq), (.ref oq)])) (fun _ k => XS.aloadN X13.here hx rfl (hb hby dof1_47) rfl rfl k) ?_
    obtain ⟨T14, X14, e14, st14⟩ := getF X13 hx hZ hown (host := "") (Or.inl (own_w hw 27 rfl)) Via.refl e13 Fw13 (g := (mkF m 48 #[.val (.ref oq), .val (.int p1), .val (.long q2), .second] [(.ref oq), (.ref oq)])) rfl rfl (hb hby dof1_48)
    refine own_st (g' := (mkF m 51 #[.val (.ref oq), .val (.int p1), .val (.long q2), .second] [(.int (2 : Int32)), (.ref oq)])) st14 ?_
    refine own_st (T' := T14) (g' := (mkF m 52 #[.val (.ref oq), .val (.int p1), .val (.long q2), .second] [(.int (1 : Int32)), (.int (2 : Int32)), (.ref oq)])) (fun _ k => XS.iconst X14.here hx rfl (hb hby dof1_51) k) ?_
    refine own_st (T' := T14) (g' := (mkF m 53 #[.val (.ref oq), .val (.int p1), .val (.long q2), .second] [(.int (1 : Int32)), (.ref oq)])) (fun _ k => XS.isub X14.here hx rfl (hb hby dof1_52) rfl k) ?_
    refine own_callP X14 hx hZ (y := (⟨"com/example/albatross/albatross/NodeQueue", "siftUp", "(I)V"⟩ : MethodName)) hown (own_w hw 38 rfl) (own_w hw 39 rfl) (own_w hw 1 rfl) (own_w hw 40 rfl) (own_w hw 41 rfl) (own_w hw 2 rfl) (by decide) (W := 0) e14 (b := oq) ((((E_0.wr W6).wr W9).wr W11).wr W13) (argsL := [(.int (1 : Int32))]) (rest := []) (rmsu1 l Z a0 hw [] oq oh os ok (own_up fH (1 : Int32) p1) (own_up fS p1 (1 : Int32)) (own_up fK p1 q2) (2 : Int32) h13 n0 (Nat.le_trans (Nat.le_trans (Nat.le_trans (Nat.le_trans Z0 (Nat.le_of_eq W6.size.symm)) (Nat.le_of_eq W9.size.symm)) (Nat.le_of_eq W11.size.symm)) (Nat.le_of_eq W13.size.symm)) hd0 (show own_NQ Z h13 oq oh os ok (own_up fH (1 : Int32) p1) (own_up fS p1 (1 : Int32)) (own_up fK p1 q2) (2 : Int32) from ⟨((((E_0.wr W6).wr W9).wr W11).wr W13), ((((Fh_0.other W6 (Or.inl D1)).other W9 (Or.inl D2)).other W11 (Or.inl D3)).other W13 (Or.inr (slot_ne (Or.inr (own_w hw 11 rfl)) (Or.inl (own_w hw 28 rfl)) (by decide) (t := (.array .int)) (t' := .int) (by decide) (by decide)))), ((((Fs_0.other W6 (Or.inl D1)).other W9 (Or.inl D2)).other W11 (Or.inl D3)).other W13 (Or.inr (slot_ne (Or.inr (own_w hw 13 rfl)) (Or.inl (own_w hw 28 rfl)) (by decide) (t := (.array .int)) (t' := .int) (by decide) (by decide)))), ((((Fk_0.other W6 (Or.inl D1)).other W9 (Or.inl D2)).other W11 (Or.inl D3)).other W13 (Or.inr (slot_ne (Or.inr (own_w hw 16 rfl)) (Or.inl (own_w hw 28 rfl)) (by decide) (t := (.array .long)) (t' := .int) (by decide) (by decide)))), Fw13, (((V6.other W9 D4).other W11 D5).other W13 (Ne.symm D1)), ((V9.other W11 D6).other W13 (Ne.symm D2)), (V11.other W13 (Ne.symm D3))⟩) (show ¬ p1 < 0 from own_ok0 ho) (show p1 < 3 from own_ok3 ho) (show ¬ (fH (0 : Int32)) < 0 from own_ok0 (own_h1_0 hI)) (show (fH (0 : Int32)) < 3 from own_ok3 (own_h1_0 hI))) (by decide) (by decide) (by decide) (by decide) (g := (mkF m 53 #[.val (.ref oq), .val (.int p1), .val (.long q2), .second] [(.int (1 : Int32)), (.ref oq)])) rfl (by rw [hml]; rfl) (lenOf own_pd1 rfl) rfl (by show 2 * 0 + _ ≤ _; exact Nat.le_of_eq rfl) (hb hby dof1_53) ?_
    rintro _ T15 L15 X15 ⟨rfl, N15q, K15, H15, S15, hq_15, hs15⟩
    show own_Go _ _ _ _ _ _ _ T15 (mkF m 56 #[.val (.ref oq), .val (.int p1), .val (.long q2), .second] [])
    have N15 := Fr.app N13 N15q
    obtain ⟨E_15, Fh_15, Fs_15, Fk_15, Fz_15, Ah_15, As_15, Ak_15⟩ := hq_15
    refine own_st (T' := T15) (g' := (mkF m 87 #[.val (.ref oq), .val (.int p1), .val (.long q2), .second] [])) (fun _ k => XS.goto X15.here hx rfl (pc0 := 56) (pc' := 87) rfl (hb hby dof1_56) (by decide) (by decide) k) ?_
    exact own_retV X15 hx hlk hret (hb hby dof1_87) ⟨rfl, N15, ((((((Keep.refl h0 [oq, oh, os, ok]).wr W6 (Or.inl (by simp))).wr W9 (Or.inl (by simp))).wr W11 (Or.inl (by simp))).wr W13 (Or.inl (by simp))).trans K15 (fun x hx => Or.inl hx)), H15, S15, (own_up fK p1 q2), (2 : Int32), ⟨E_15, Fh_15, Fs_15, Fk_15, Fz_15, Ah_15, As_15, Ak_15⟩, own_offA1 hI ho hc6_3 hs15⟩ (by decide) (by decide)
  · refine own_st (T' := T1) (g' := (mkF m 59 #[.val (.ref oq), .val (.int p1), .val (.long q2), .second] [])) (fun _ k => XS.ifYes X1.here hx rfl (pc0 := 6) (pc' := 59) rfl (hb hby dof1_6) rfl ((if0 _ _).trans (flt hc6_3).2.1) (by decide) (by decide) k) ?_
    refine own_st (T' := T1) (g' := (mkF m 60 #[.val (.ref oq), .val (.int p1), .val (.long q2), .second] [(.long q2)])) (fun _ k => XS.lloadN X1.here hx rfl (hb hby dof1_59) rfl k) ?_
    refine own_st (T' := T1) (g' := (mkF m 61 #[.val (.ref oq), .val (.int p1), .val (.long q2), .second] [(.ref oq), (.long q2)])) (fun _ k => XS.aloadN X1.here hx rfl (hb hby dof1_60) rfl rfl k) ?_
    obtain ⟨T16, X16, e16, st16⟩ := getF X1 hx hZ hown (host := "") (Or.inl (own_w hw 15 rfl)) Via.refl e1 Fk_0 (g := (mkF m 61 #[.val (.ref oq), .val (.int p1), .val (.long q2), .second] [(.ref oq), (.long q2)])) rfl rfl (hb hby dof1_61)
    refine own_st (g' := (mkF m 64 #[.val (.ref oq), .val (.int p1), .val (.long q2), .second] [(.ref ok), (.long q2)])) st16 ?_
    refine own_st (T' := T16) (g' := (mkF m 65 #[.val (.ref oq), .val (.int p1), .val (.long q2), .second] [(.int p1), (.ref ok), (.long q2)])) (fun _ k => XS.iloadN X16.here hx rfl (hb hby dof1_64) rfl k) ?_
    obtain ⟨cl17, Ar17, S17, M17, H17⟩ := id Ak_0
    refine own_st (T' := T16) (g' := (mkF m 66 #[.val (.ref oq), .val (.int p1), .val (.long q2), .second] [(.long (fK p1)), (.long q2)])) (fun _ k => X16.laload hx (j := p1) (v := (.long (fK p1))) (by rw [e16]; exact Ar17.1) (State.isArrayOf_alike hZ.alike Ar17.2.1) Ar17.2.2 (inb_of S17 ⟨(own_ok0 ho), (own_ok3 ho)⟩) (H17 _ (own_ok0 ho) (own_ok3 ho)) (g := (mkF m 65 #[.val (.ref oq), .val (.int p1), .val (.long q2), .second] [(.int p1), (.ref ok), (.long q2)])) rfl rfl (hb hby dof1_65) _ k) ?_
    refine own_st (T' := T16) (g' := (mkF m 67 #[.val (.ref oq), .val (.int p1), .val (.long q2), .second] [(.int (lcmpW q2 (fK p1)))])) (fun _ k => XS.lcmp X16.here hx rfl (hb hby dof1_66) rfl k) ?_
    by_cases hc67_18 : q2 < (fK p1)
    · refine own_st (T' := T16) (g' := (mkF m 70 #[.val (.ref oq), .val (.int p1), .val (.long q2), .second] [])) (fun _ k => XS.ifNo X16.here hx rfl (hb hby dof1_67) rfl ((if0 _ _).trans (tlt ((lw_lt _ _).mpr hc67_18)).2.1) k) ?_
      refine own_st (T' := T16) (g' := (mkF m 71 #[.val (.ref oq), .val (.int p1), .val (.long q2), .second] [(.ref oq)])) (fun _ k => XS.aloadN X16.here hx rfl (hb hby dof1_70) rfl rfl k) ?_
      obtain ⟨T19, X19, e19, st19⟩ := getF X16 hx hZ hown (host := "") (Or.inl (own_w hw 15 rfl)) Via.refl e16 Fk_0 (g := (mkF m 71 #[.val (.ref oq), .val (.int p1), .val (.long q2), .second] [(.ref oq)])) rfl rfl (hb hby dof1_71)
      refine own_st (g' := (mkF m 74 #[.val (.ref oq), .val (.int p1), .val (.long q2), .second] [(.ref ok)])) st19 ?_
      refine own_st (T' := T19) (g' := (mkF m 75 #[.val (.ref oq), .val (.int p1), .val (.long q2), .second] [(.int p1), (.ref ok)])) (fun _ k => XS.iloadN X19.here hx rfl (hb hby dof1_74) rfl k) ?_
      refine own_st (T' := T19) (g' := (mkF m 76 #[.val (.ref oq), .val (.int p1), .val (.long q2), .second] [(.long q2), (.int p1), (.ref ok)])) (fun _ k => XS.lloadN X19.here hx rfl (hb hby dof1_75) rfl k) ?_
      obtain ⟨cl20, Ar20, S20, M20, H20⟩ := id Ak_0
      obtain ⟨T20, h20, X20, e20, W20, st20⟩ := stJ X19 hx hZ e19 Ar20 (j := p1) (inb_of S20 ⟨(own_ok0 ho), (own_ok3 ho)⟩) (g := (mkF m 76 #[.val (.ref oq), .val (.int p1), .val (.long q2), .second] [(.long q2), (.int p1), (.ref ok)])) rfl rfl (hb hby dof1_76)
      have V20 : own_A Z h20 ok .long (3 : Int32) (fun i => (.long ((own_up fK p1 q2) i))) := (own_A.set Ar20 S20 M20 H20 (own_ok0 ho) (own_ok3 ho) W20).upJ
      have N20 := Fr.snoc X20 N0 G_k
      refine own_st (g' := (mkF m 77 #[.val (.ref oq), .val (.int p1), .val (.long q2), .second] [])) st20 ?_
      refine own_st (T' := T20) (g' := (mkF m 78 #[.val (.ref oq), .val (.int p1), .val (.long q2), .second] [(.ref oq)])) (fun _ k => XS.aloadN X20.here hx rfl (hb hby dof1_77) rfl rfl k) ?_
      refine own_st (T' := T20) (g' := (mkF m 79 #[.val (.ref oq), .val (.int p1), .val (.long q2), .second] [(.ref oq), (.ref oq)])) (fun _ k => XS.aloadN X20.here hx rfl (hb hby dof1_78) rfl rfl k) ?_
      obtain ⟨T21, X21, e21, st21⟩ := getF X20 hx hZ hown (host := "") (Or.inl (own_w hw 12 rfl)) Via.refl e20 (Fs_0.other W20 (Or.inl D3)) (g := (mkF m 79 #[.val (.ref oq), .val (.int p1), .val (.long q2), .second] [(.ref oq), (.ref oq)])) rfl rfl (hb hby dof1_79)
      refine own_st (g' := (mkF m 82 #[.val (.ref oq), .val (.int p1), .val (.long q2), .second] [(.ref os), (.ref oq)])) st21 ?_
      refine own_st (T' := T21) (g' := (mkF m 83 #[.val (.ref oq), .val (.int p1), .val (.long q2), .second] [(.int p1), (.ref os), (.ref oq)])) (fun _ k => XS.iloadN X21.here hx rfl (hb hby dof1_82) rfl k) ?_
      obtain ⟨cl22, Ar22, S22, M22, H22⟩ := id (As_0.other W20 D6)
      refine own_st (T' := T21) (g' := (mkF m 84 #[.val (.ref oq), .val (.int p1), .val (.long q2), .second] [(.int (fS p1)), (.ref oq)])) (fun _ k => X21.iaload hx (j := p1) (v := (.int (fS p1))) (by rw [e21]; exact Ar22.1) (State.isArrayOf_alike hZ.alike Ar22.2.1) Ar22.2.2 (inb_of S22 ⟨(own_ok0 ho), (own_ok3 ho)⟩) (H22 _ (own_ok0 ho) (own_ok3 ho)) (g := (mkF m 83 #[.val (.ref oq), .val (.int p1), .val (.long q2), .second] [(.int p1), (.ref os), (.ref oq)])) rfl rfl (hb hby dof1_83) _ k) ?_
      obtain hsv := own_sl1 hI ho hc6_3
      · refine own_cast (g' := (mkF m 84 #[.val (.ref oq), .val (.int p1), .val (.long q2), .second] [(.int (0 : Int32)), (.ref oq)])) (by rw [hsv]) ?_
        refine own_callP X21 hx hZ (y := (⟨"com/example/albatross/albatross/NodeQueue", "siftUp", "(I)V"⟩ : MethodName)) hown (own_w hw 38 rfl) (own_w hw 39 rfl) (own_w hw 1 rfl) (own_w hw 40 rfl) (own_w hw 41 rfl) (own_w hw 2 rfl) (by decide) (W := 0) e21 (b := oq) (E_0.wr W20) (argsL := [(.int (0 : Int32))]) (rest := []) (rmsu0 l Z a0 hw [] oq oh os ok fH fS (own_up fK p1 q2) (1 : Int32) h20 n0 (Nat.le_trans Z0 (Nat.le_of_eq W20.size.symm)) hd0 (show own_NQ Z h20 oq oh os ok fH fS (own_up fK p1 q2) (1 : Int32) from ⟨(E_0.wr W20), (Fh_0.other W20 (Or.inl D3)), (Fs_0.other W20 (Or.inl D3)), (Fk_0.other W20 (Or.inl D3)), (Fz_0.other W20 (Or.inl D3)), (Ah_0.other W20 D5), (As_0.other W20 D6), V20⟩) (show ¬ (fH (0 : Int32)) < 0 from own_ok0 (own_h1_0 hI)) (show (fH (0 : Int32)) < 3 from own_ok3 (own_h1_0 hI))) (by decide) (by decide) (by decide) (by decide) (g := (mkF m 84 #[.val (.ref oq), .val (.int p1), .val (.long q2), .second] [(.int (0 : Int32)), (.ref oq)])) rfl (by rw [hml]; rfl) (lenOf own_pd1 rfl) rfl (by show 2 * 0 + _ ≤ _; exact Nat.le_of_eq rfl) (hb hby dof1_84) ?_
        rintro _ T23 L23 X23 ⟨rfl, N23q, K23, hq_23⟩
        show own_Go _ _ _ _ _ _ _ T23 (mkF m 87 #[.val (.ref oq), .val (.int p1), .val (.long q2), .second] [])
        have N23 := Fr.app N20 N23q
        obtain ⟨E_23, Fh_23, Fs_23, Fk_23, Fz_23, Ah_23, As_23, Ak_23⟩ := hq_23
        exact own_retV X23 hx hlk hret (hb hby dof1_87) ⟨rfl, N23, (((Keep.refl h0 [oq, oh, os, ok]).wr W20 (Or.inl (by simp))).trans K23 (fun x hx => Or.inl hx)), (own_up fH (0 : Int32) (fH (0 : Int32))), (own_up fS (fH (0 : Int32)) (0 : Int32)), (own_up fK p1 q2), (1 : Int32), ⟨E_23, Fh_23, Fs_23, Fk_23, Fz_23, Ah_23, As_23, Ak_23⟩, own_offB1_0 hI ho hsv hc67_18⟩ (by decide) (by decide)
    · refine own_st (T' := T16) (g' := (mkF m 87 #[.val (.ref oq), .val (.int p1), .val (.long q2), .second] [])) (fun _ k => XS.ifYes X16.here hx rfl (pc0 := 67) (pc' := 87) rfl (hb hby dof1_67) rfl ((if0 _ _).trans (flt (mt (lw_lt _ _).mp hc67_18)).2.1) (by decide) (by decide) k) ?_
      exact own_retV X16 hx hlk hret (hb hby dof1_87) (by rw [e16]; exact ⟨rfl, N0, (Keep.refl h0 [oq, oh, os, ok]), fH, fS, fK, (1 : Int32), ⟨E_0, Fh_0, Fs_0, Fk_0, Fz_0, Ah_0, As_0, Ak_0⟩, own_offN hI' ho hc6_3⟩) (by decide) (by decide)
theorem dof2_0 : decode prog_51_method_4_code 0 = .ok (.aload_n 0, 1) := by decide +kernel
theorem dof2_1 : decode prog_51_method_4_code 1 = .ok (.getfield 13, 3) := by decide +kernel
theorem dof2_4 : decode prog_51_method_4_code 4 = .ok (.iload_n 1, 1) := by decide +kernel
theorem dof2_5 : decode prog_51_method_4_code 5 = .ok (.iaload, 1) := by decide +kernel
theorem dof2_6 : decode prog_51_method_4_code 6 = .ok (.ifCond .ge 53, 3) := by decide +kernel
theorem dof2_9 : decode prog_51_method_4_code 9 = .ok (.aload_n 0, 1) := by decide +kernel
theorem dof2_10 : decode prog_51_method_4_code 10 = .ok (.getfield 7, 3) := by decide +kernel
theorem dof2_13 : decode prog_51_method_4_code 13 = .ok (.aload_n 0, 1) := by decide +kernel
theorem dof2_14 : decode prog_51_method_4_code 14 = .ok (.getfield 26, 3) := by decide +kernel
theorem dof2_17 : decode prog_51_method_4_code 17 = .ok (.iload_n 1, 1) := by decide +kernel
theorem dof2_18 : decode prog_51_method_4_code 18 = .ok (.iastore, 1) := by decide +kernel
theorem dof2_19 : decode prog_51_method_4_code 19 = .ok (.aload_n 0, 1) := by decide +kernel
theorem dof2_20 : decode prog_51_method_4_code 20 = .ok (.getfield 13, 3) := by decide +kernel
theorem dof2_23 : decode prog_51_method_4_code 23 = .ok (.iload_n 1, 1) := by decide +kernel
theorem dof2_24 : decode prog_51_method_4_code 24 = .ok (.aload_n 0, 1) := by decide +kernel
theorem dof2_25 : decode prog_51_method_4_code 25 = .ok (.getfield 26, 3) := by decide +kernel
theorem dof2_28 : decode prog_51_method_4_code 28 = .ok (.iastore, 1) := by decide +kernel
theorem dof2_29 : decode prog_51_method_4_code 29 = .ok (.aload_n 0, 1) := by decide +kernel
theorem dof2_30 : decode prog_51_method_4_code 30 = .ok (.getfield 16, 3) := by decide +kernel
theorem dof2_33 : decode prog_51_method_4_code 33 = .ok (.iload_n 1, 1) := by decide +kernel
theorem dof2_34 : decode prog_51_method_4_code 34 = .ok (.lload_n 2, 1) := by decide +kernel
theorem dof2_35 : decode prog_51_method_4_code 35 = .ok (.lastore, 1) := by decide +kernel
theorem dof2_36 : decode prog_51_method_4_code 36 = .ok (.aload_n 0, 1) := by decide +kernel
theorem dof2_37 : decode prog_51_method_4_code 37 = .ok (.dup, 1) := by decide +kernel
theorem dof2_38 : decode prog_51_method_4_code 38 = .ok (.getfield 26, 3) := by decide +kernel
theorem dof2_41 : decode prog_51_method_4_code 41 = .ok (.iconst 1, 1) := by decide +kernel
theorem dof2_42 : decode prog_51_method_4_code 42 = .ok (.iadd, 1) := by decide +kernel
theorem dof2_43 : decode prog_51_method_4_code 43 = .ok (.putfield 26, 3) := by decide +kernel
theorem dof2_46 : decode prog_51_method_4_code 46 = .ok (.aload_n 0, 1) := by decide +kernel
theorem dof2_47 : decode prog_51_method_4_code 47 = .ok (.aload_n 0, 1) := by decide +kernel
theorem dof2_48 : decode prog_51_method_4_code 48 = .ok (.getfield 26, 3) := by decide +kernel
theorem dof2_51 : decode prog_51_method_4_code 51 = .ok (.iconst 1, 1) := by decide +kernel
theorem dof2_52 : decode prog_51_method_4_code 52 = .ok (.isub, 1) := by decide +kernel
theorem dof2_53 : decode prog_51_method_4_code 53 = .ok (.invokevirtual 30, 3) := by decide +kernel
theorem dof2_56 : decode prog_51_method_4_code 56 = .ok (.goto 31, 3) := by decide +kernel
theorem dof2_59 : decode prog_51_method_4_code 59 = .ok (.lload_n 2, 1) := by decide +kernel
theorem dof2_60 : decode prog_51_method_4_code 60 = .ok (.aload_n 0, 1) := by decide +kernel
theorem dof2_61 : decode prog_51_method_4_code 61 = .ok (.getfield 16, 3) := by decide +kernel
theorem dof2_64 : decode prog_51_method_4_code 64 = .ok (.iload_n 1, 1) := by decide +kernel
theorem dof2_65 : decode prog_51_method_4_code 65 = .ok (.laload, 1) := by decide +kernel
theorem dof2_66 : decode prog_51_method_4_code 66 = .ok (.lcmp, 1) := by decide +kernel
theorem dof2_67 : decode prog_51_method_4_code 67 = .ok (.ifCond .ge 20, 3) := by decide +kernel
theorem dof2_70 : decode prog_51_method_4_code 70 = .ok (.aload_n 0, 1) := by decide +kernel
theorem dof2_71 : decode prog_51_method_4_code 71 = .ok (.getfield 16, 3) := by decide +kernel
theorem dof2_74 : decode prog_51_method_4_code 74 = .ok (.iload_n 1, 1) := by decide +kernel
theorem dof2_75 : decode prog_51_method_4_code 75 = .ok (.lload_n 2, 1) := by decide +kernel
theorem dof2_76 : decode prog_51_method_4_code 76 = .ok (.lastore, 1) := by decide +kernel
theorem dof2_77 : decode prog_51_method_4_code 77 = .ok (.aload_n 0, 1) := by decide +kernel
theorem dof2_78 : decode prog_51_method_4_code 78 = .ok (.aload_n 0, 1) := by decide +kernel
theorem dof2_79 : decode prog_51_method_4_code 79 = .ok (.getfield 13, 3) := by decide +kernel
theorem dof2_82 : decode prog_51_method_4_code 82 = .ok (.iload_n 1, 1) := by decide +kernel
theorem dof2_83 : decode prog_51_method_4_code 83 = .ok (.iaload, 1) := by decide +kernel
theorem dof2_84 : decode prog_51_method_4_code 84 = .ok (.invokevirtual 30, 3) := by decide +kernel
theorem dof2_87 : decode prog_51_method_4_code 87 = .ok (.return_, 1) := by decide +kernel
theorem pn_of2 : plainName "com/example/albatross/albatross/NodeQueue" = true := by first | (simp [plainName, overriddenIn]; done) | decide +kernel
theorem ef_of2 (m : MethodId) (x0 : Addr) (x1 : Int32) (x2 : Int64) : entryFrame m #[(.ref x0), (.int x1), (.long x2)] 4 = mkF m 0 #[.val (.ref x0), .val (.int x1), .val (.long x2), .second] [] := by first | (simp [entryFrame, mkF, argsToLocals, Value.category]; done) | rfl
set_option maxRecDepth 65536 in
set_option maxHeartbeats 40000000 in
theorem rmof2 (l : Launch) (Z : State) (a0 : Array Value) (hw : ∀ d ∈ tables_1, d.before a0 Z = true) (ws : List Jvm.Cond) (oq oh os ok : Addr) (fH fS : Int32 → Int32) (fK : Int32 → Int64) (p1 : Int32) (q2 : Int64) (h0 : Heap) (n0 : Nat) (Z0 : n0 ≤ h0.size) (hd : own_Ds n0 oq oh os ok) (hq : own_NQ Z h0 oq oh os ok fH fS fK (2 : Int32)) (hI : own_I2 fH fS fK) (ho : own_ok p1) :
    own_Met l Z ws (⟨"com/example/albatross/albatross/NodeQueue", "offer", "(IJ)V"⟩ : MethodName) prog_51_method_4_code 4 none ({ frames := 2, cells := 0, slots := 0, locals := 28 } : Room) ({ frames := 2, cells := 0, slots := 0, locals := 28 } : Room).cells ({ frames := 2, cells := 0, slots := 0, locals := 28 } : Room).slots #[(.ref oq), (.int p1), (.long q2)] h0 (fun v h L => v = none ∧ Fr n0 L ∧ Keep h0 h [oq, oh, os, ok] ∧ ∃ H' S' K' z', own_NQ Z h oq oh os ok H' S' K' z' ∧ own_Off fS fK p1 q2 H' S' K' z') := by
  refine own_body (plainFor_of_name pn_of2) ?_
  intro p e s m below meth c s₁ hx hby hml hown hnm hlk hret hZ hh X0 e0
  have N0 := Fr.nil n0
  have hI' : own_Inv fH fS fK (2 : Int32) := own_inv2 hI
  have hd0 := hd
  obtain ⟨G_q, G_h, G_s, G_k, D1, D2, D3, D4, D5, D6⟩ := hd
  obtain ⟨E_0, Fh_0, Fs_0, Fk_0, Fz_0, Ah_0, As_0, Ak_0⟩ := hq
  refine own_cast (ef_of2 m oq p1 q2) ?_
  refine own_st (T' := s₁) (g' := (mkF m 1 #[.val (.ref oq), .val (.int p1), .val (.long q2), .second] [(.ref oq)])) (fun _ k => XS.aloadN X0.here hx rfl (hb hby dof2_0) rfl rfl k) ?_
  obtain ⟨T1, X1, e1, st1⟩ := getF X0 hx hZ hown (host := "") (Or.inl (own_w hw 12 rfl)) Via.refl e0 Fs_0 (g := (mkF m 1 #[.val (.ref oq), .val (.int p1), .val (.long q2), .second] [(.ref oq)])) rfl rfl (hb hby dof2_1)
  refine own_st (g' := (mkF m 4 #[.val (.ref oq), .val (.int p1), .val (.long q2), .second] [(.ref os)])) st1 ?_
  refine own_st (T' := T1) (g' := (mkF m 5 #[.val (.ref oq), .val (.int p1), .val (.long q2), .second] [(.int p1), (.ref os)])) (fun _ k => XS.iloadN X1.here hx rfl (hb hby dof2_4) rfl k) ?_
  obtain ⟨cl2, Ar2, S2, M2, H2⟩ := id As_0
  refine own_st (T' := T1) (g' := (mkF m 6 #[.val (.ref oq), .val (.int p1), .val (.long q2), .second] [(.int (fS p1))])) (fun _ k => X1.iaload hx (j := p1) (v := (.int (fS p1))) (by rw [e1]; exact Ar2.1) (State.isArrayOf_alike hZ.alike Ar2.2.1) Ar2.2.2 (inb_of S2 ⟨(own_ok0 ho), (own_ok3 ho)⟩) (H2 _ (own_ok0 ho) (own_ok3 ho)) (g := (mkF m 5 #[.val (.ref oq), .val (.int p1), .val (.long q2), .second] [(.int p1), (.ref os)])) rfl rfl (hb hby dof2_5) _ k) ?_
  by_cases hc6_3 : (fS p1) < (0 : Int32)
  · refine own_st (T' := T1) (g' := (mkF m 9 #[.val (.ref oq), .val (.int p1), .val (.long q2), .second] [])) (fun _ k => XS.ifNo X1.here hx rfl (hb hby dof2_6) rfl ((if0 _ _).trans (tlt hc6_3).2.1) k) ?_
    refine own_st (T' := T1) (g' := (mkF m 10 #[.val (.ref oq), .val (.int p1), .val (.long q2), .second] [(.ref oq)])) (fun _ k => XS.aloadN X1.here hx rfl (hb hby dof2_9) rfl rfl k) ?_
    obtain ⟨T4, X4, e4, st4⟩ := getF X1 hx hZ hown (host := "") (Or.inl (own_w hw 10 rfl)) Via.refl e1 Fh_0 (g := (mkF m 10 #[.val (.ref oq), .val (.int p1), .val (.long q2), .second] [(.ref oq)])) rfl rfl (hb hby dof2_10)
    refine own_st (g' := (mkF m 13 #[.val (.ref oq), .val (.int p1), .val (.long q2), .second] [(.ref oh)])) st4 ?_
    refine own_st (T' := T4) (g' := (mkF m 14 #[.val (.ref oq), .val (.int p1), .val (.long q2), .second] [(.ref oq), (.ref oh)])) (fun _ k => XS.aloadN X4.here hx rfl (hb hby dof2_13) rfl rfl k) ?_
    obtain ⟨T5, X5, e5, st5⟩ := getF X4 hx hZ hown (host := "") (Or.inl (own_w hw 27 rfl)) Via.refl e4 Fz_0 (g := (mkF m 14 #[.val (.ref oq), .val (.int p1), .val (.long q2), .second] [(.ref oq), (.ref oh)])) rfl rfl (hb hby dof2_14)
    refine own_st (g' := (mkF m 17 #[.val (.ref oq), .val (.int p1), .val (.long q2), .second] [(.int (2 : Int32)), (.ref oh)])) st5 ?_
    refine own_st (T' := T5) (g' := (mkF m 18 #[.val (.ref oq), .val (.int p1), .val (.long q2), .second] [(.int p1), (.int (2 : Int32)), (.ref oh)])) (fun _ k => XS.iloadN X5.here hx rfl (hb hby dof2_17) rfl k) ?_
    obtain ⟨cl6, Ar6, S6, M6, H6⟩ := id Ah_0
    obtain ⟨T6, h6, X6, e6, W6, st6⟩ := stI X5 hx hZ e5 Ar6 (j := (2 : Int32)) (inb_of S6 ⟨(by decide), (by decide)⟩) (g := (mkF m 18 #[.val (.ref oq), .val (.int p1), .val (.long q2), .second] [(.int p1), (.int (2 : Int32)), (.ref oh)])) rfl rfl (hb hby dof2_18)
    have V6 : own_A Z h6 oh .int (3 : Int32) (fun i => (.int ((own_up fH (2 : Int32) p1) i))) := (own_A.set Ar6 S6 M6 H6 (by decide) (by decide) W6).upI
    have N6 := Fr.snoc X6 N0 G_h
    refine own_st (g' := (mkF m 19 #[.val (.ref oq), .val (.int p1), .val (.long q2), .second] [])) st6 ?_
    refine own_st (T' := T6) (g' := (mkF m 20 #[.val (.ref oq), .val (.int p1), .val (.long q2), .second] [(.ref oq)])) (fun _ k => XS.aloadN X6.here hx rfl (hb hby dof2_19) rfl rfl k) ?_
    obtain ⟨T7, X7, e7, st7⟩ := getF X6 hx hZ hown (host := "") (Or.inl (own_w hw 12 rfl)) Via.refl e6 (Fs_0.other W6 (Or.inl D1)) (g := (mkF m 20 #[.val (.ref oq), .val (.int p1), .val (.long q2), .second] [(.ref oq)])) rfl rfl (hb hby dof2_20)
    refine own_st (g' := (mkF m 23 #[.val (.ref oq), .val (.int p1), .val (.long q2), .second] [(.ref os)])) st7 ?_
    refine own_st (T' := T7) (g' := (mkF m 24 #[.val (.ref oq), .val (.int p1), .val (.long q2), .second] [(.int p1), (.ref os)])) (fun _ k => XS.iloadN X7.here hx rfl (hb hby dof2_23) rfl k) ?_
    refine own_st (T' := T7) (g' := (mkF m 25 #[.val (.ref oq), .val (.int p1), .val (.long q2), .second] [(.ref oq), (.int p1), (.ref os)])) (fun _ k => XS.aloadN X7.here hx rfl (hb hby dof2_24) rfl rfl k) ?_
    obtain ⟨T8, X8, e8, st8⟩ := getF X7 hx hZ hown (host := "") (Or.inl (own_w hw 27 rfl)) Via.refl e7 (Fz_0.other W6 (Or.inl D1)) (g := (mkF m 25 #[.val (.ref oq), .val (.int p1), .val (.long q2), .second] [(.ref oq), (.int p1), (.ref os)])) rfl rfl (hb hby dof2_25)
    refine own_st (g' := (mkF m 28 #[.val (.ref oq), .val (.int p1), .val (.long q2), .second] [(.int (2 : Int32)), (.int p1), (.ref os)])) st8 ?_
    obtain ⟨cl9, Ar9, S9, M9, H9⟩ := id (As_0.other W6 (Ne.symm D4))
    obtain ⟨T9, h9, X9, e9, W9, st9⟩ := stI X8 hx hZ e8 Ar9 (j := p1) (inb_of S9 ⟨(own_ok0 ho), (own_ok3 ho)⟩) (g := (mkF m 28 #[.val (.ref oq), .val (.int p1), .val (.long q2), .second] [(.int (2 : Int32)), (.int p1), (.ref os)])) rfl rfl (hb hby dof2_28)
    have V9 : own_A Z h9 os .int (3 : Int32) (fun i => (.int ((own_up fS p1 (2 : Int32)) i))) := (own_A.set Ar9 S9 M9 H9 (own_ok0 ho) (own_ok3 ho) W9).upI
    have N9 := Fr.snoc X9 N6 G_s
    refine own_st (g' := (mkF m 29 #[.val (.ref oq), .val (.int p1), .val (.long q2), .second] [])) st9 ?_
    refine own_st (T' := T9) (g' := (mkF m 30 #[.val (.ref oq), .val (.int p1), .val (.long q2), .second] [(.ref oq)])) (fun _ k => XS.aloadN X9.here hx rfl (hb hby dof2_29) rfl rfl k) ?_
    obtain ⟨T10, X10, e10, st10⟩ := getF X9 hx hZ hown (host := "") (Or.inl (own_w hw 15 rfl)) Via.refl e9 ((Fk_0.other W6 (Or.inl D1)).other W9 (Or.inl D2)) (g := (mkF m 30 #[.val (.ref oq), .val (.int p1), .val (.long q2), .second] [(.ref oq)])) rfl rfl (hb hby dof2_30)
    refine own_st (g' := (mkF m 33 #[.val (.ref oq), .val (.int p1), .val (.long q2), .second] [(.ref ok)])) st10 ?_
    refine own_st (T' := T10) (g' := (mkF m 34 #[.val (.ref oq), .val (.int p1), .val (.long q2), .second] [(.int p1), (.ref ok)])) (fun _ k => XS.iloadN X10.here hx rfl (hb hby dof2_33) rfl k) ?_
    refine own_st (T' := T10) (g' := (mkF m 35 #[.val (.ref oq), .val (.int p1), .val (.long q2), .second] [(.long q2), (.int p1), (.ref ok)])) (fun _ k => XS.lloadN X10.here hx rfl (hb hby dof2_34) rfl k) ?_
    obtain ⟨cl11, Ar11, S11, M11, H11⟩ := id ((Ak_0.other W6 (Ne.symm D5)).other W9 (Ne.symm D6))
    obtain ⟨T11, h11, X11, e11, W11, st11⟩ := stJ X10 hx hZ e10 Ar11 (j := p1) (inb_of S11 ⟨(own_ok0 ho), (own_ok3 ho)⟩) (g := (mkF m 35 #[.val (.ref oq), .val (.int p1), .val (.long q2), .second] [(.long q2), (.int p1), (.ref ok)])) rfl rfl (hb hby dof2_35)
    have V11 : own_A Z h11 ok .long (3 : Int32) (fun i => (.long ((own_up fK p1 q2) i))) := (own_A.set Ar11 S11 M11 H11 (own_ok0 ho) (own_ok3 ho) W11).upJ
    have N11 := Fr.snoc X11 N9 G_k
    refine own_st (g' := (mkF m 36 #[.val (.ref oq), .val (.int p1), .val (.long q2), .second] [])) st11 ?_
    refine own_st (T' := T11) (g' := (mkF m 37 #[.val (.ref oq), .val (.int p1), .val (.long q2), .second] [(.ref oq)])) (fun _ k => XS.aloadN X11.here hx rfl (hb hby dof2_36) rfl rfl k) ?_
    refine own_st (T' := T11) (g' := (mkF m 38 #[.val (.ref oq), .val (.int p1), .val (.long q2), .second] [(.ref oq), (.ref oq)])) (fun _ k => XS.dup X11.here hx rfl (hb hby dof2_37) rfl rfl k) ?_
    obtain ⟨T12, X12, e12, st12⟩ := getF X11 hx hZ hown (host := "") (Or.inl (own_w hw 27 rfl)) Via.refl e11 (((Fz_0.other W6 (Or.inl D1)).other W9 (Or.inl D2)).other W11 (Or.inl D3)) (g := (mkF m 38 #[.val (.ref oq), .val (.int p1), .val (.long q2), .second] [(.ref oq), (.ref oq)])) rfl rfl (hb hby dof2_38)
    refine own_st (g' := (mkF m 41 #[.val (.ref oq), .val (.int p1), .val (.long q2), .second] [(.int (2 : Int32)), (.ref oq)])) st12 ?_
    refine own_st (T' := T12) (g' := (mkF m 42 #[.val (.ref oq), .val (.int p1), .val (.long q2), .second] [(.int (1 : Int32)), (.int (2 : Int32)), (.ref oq)])) (fun _ k => XS.iconst X12.here hx rfl (hb hby dof2_41) k) ?_
    refine own_st (T' := T12) (g' := (mkF m 43 #[.val (.ref oq), .val (.int p1), .val (.long q2), .second] [(.int (3 : Int32)), (.ref oq)])) (fun _ k => XS.iadd X12.here hx rfl (hb hby dof2_42) rfl k) ?_
    obtain ⟨T13, h13, X13, e13, W13, st13⟩ := putF X12 hx hZ hown (host := "") (Or.inl (own_w hw 27 rfl)) Via.refl e12 (((Fz_0.other W6 (Or.inl D1)).other W9 (Or.inl D2)).other W11 (Or.inl D3)) (((E_0.wr W6).wr W9).wr W11) (Or.inl (own_w hw 28 rfl)) (own_w hw 1 rfl) (ty := .int) (by decide) rfl rfl (g := (mkF m 43 #[.val (.ref oq), .val (.int p1), .val (.long q2), .second] [(.int (3 : Int32)), (.ref oq)])) rfl rfl (hb hby dof2_43)
    have Fw13 := (((Fz_0.other W6 (Or.inl D1)).other W9 (Or.inl D2)).other W11 (Or.inl D3)).same W13
    have N13 := Fr.snoc X13 N11 G_q
    refine own_st (g' := (mkF m 46 #[.val (.ref oq), .val (.int p1), .val (.long q2), .second] [])) st13 ?_
    refine own_st (T' := T13) (g' := (mkF m 47 #[.val (.ref oq), .val (.int p1), .val (.long q2), .second] [(.ref oq)])) (fun _ k => XS.aloadN X13.here hx rfl (hb hby dof2_46) rfl rfl k) ?_
    refine own_st (T' := T13) (g' := (mkF m 48 #[.val (.ref oq), .val (.int p1), .val (.long q2), .second] [(.ref oq), (.ref oq)])) (fun _ k => XS.aloadN X13.here hx rfl (hb hby dof2_47) rfl rfl k) ?_
    obtain ⟨T14, X14, e14, st14⟩ := getF X13 hx hZ hown (host := "") (Or.inl (own_w hw 27 rfl)) Via.refl e13 Fw13 (g := (mkF m 48 #[.val (.ref oq), .val (.int p1), .val (.long q2), .second] [(.ref oq), (.ref oq)])) rfl rfl (hb hby dof2_48)
    refine own_st (g' := (mkF m 51 #[.val (.ref oq), .val (.int p1), .val (.long q2), .second] [(.int (3 : Int32)), (.ref oq)])) st14 ?_
    refine own_st (T' := T14) (g' := (mkF m 52 #[.val (.ref oq), .val (.int p1), .val (.long q2), .second] [(.int (1 : Int32)), (.int (3 : Int32)), (.ref oq)])) (fun _ k => XS.iconst X14.here hx rfl (hb hby dof2_51) k) ?_
    refine own_st (T' := T14) (g' := (mkF m 53 #[.val (.ref oq), .val (.int p1), .val (.long q2), .second] [(.int (2 : Int32)), (.ref oq)])) (fun _ k => XS.isub X14.here hx rfl (hb hby dof2_52) rfl k) ?_
    refine own_callP X14 hx hZ (y := (⟨"com/example/albatross/albatross/NodeQueue", "siftUp", "(I)V"⟩ : MethodName)) hown (own_w hw 38 rfl) (own_w hw 39 rfl) (own_w hw 1 rfl) (own_w hw 40 rfl) (own_w hw 41 rfl) (own_w hw 2 rfl) (by decide) (W := 0) e14 (b := oq) ((((E_0.wr W6).wr W9).wr W11).wr W13) (argsL := [(.int (2 : Int32))]) (rest := []) (rmsu2 l Z a0 hw [] oq oh os ok (own_up fH (2 : Int32) p1) (own_up fS p1 (2 : Int32)) (own_up fK p1 q2) (3 : Int32) h13 n0 (Nat.le_trans (Nat.le_trans (Nat.le_trans (Nat.le_trans Z0 (Nat.le_of_eq W6.size.symm)) (Nat.le_of_eq W9.size.symm)) (Nat.le_of_eq W11.size.symm)) (Nat.le_of_eq W13.size.symm)) hd0 (show own_NQ Z h13 oq oh os ok (own_up fH (2 : Int32) p1) (own_up fS p1 (2 : Int32)) (own_up fK p1 q2) (3 : Int32) from ⟨((((E_0.wr W6).wr W9).wr W11).wr W13), ((((Fh_0.other W6 (Or.inl D1)).other W9 (Or.inl D2)).other W11 (Or.inl D3)).other W13 (Or.inr (slot_ne (Or.inr (own_w hw 11 rfl)) (Or.inl (own_w hw 28 rfl)) (by decide) (t := (.array .int)) (t' := .int) (by decide) (by decide)))), ((((Fs_0.other W6 (Or.inl D1)).other W9 (Or.inl D2)).other W11 (Or.inl D3)).other W13 (Or.inr (slot_ne (Or.inr (own_w hw 13 rfl)) (Or.inl (own_w hw 28 rfl)) (by decide) (t := (.array .int)) (t' := .int) (by decide) (by decide)))), ((((Fk_0.other W6 (Or.inl D1)).other W9 (Or.inl D2)).other W11 (Or.inl D3)).other W13 (Or.inr (slot_ne (Or.inr (own_w hw 16 rfl)) (Or.inl (own_w hw 28 rfl)) (by decide) (t := (.array .long)) (t' := .int) (by decide) (by decide)))), Fw13, (((V6.other W9 D4).other W11 D5).other W13 (Ne.symm D1)), ((V9.other W11 D6).other W13 (Ne.symm D2)), (V11.other W13 (Ne.symm D3))⟩) (show ¬ p1 < 0 from own_ok0 ho) (show p1 < 3 from own_ok3 ho) (show ¬ (fH (0 : Int32)) < 0 from own_ok0 (own_h2_0 hI)) (show (fH (0 : Int32)) < 3 from own_ok3 (own_h2_0 hI))) (by decide) (by decide) (by decide) (by decide) (g := (mkF m 53 #[.val (.ref oq), .val (.int p1), .val (.long q2), .second] [(.int (2 : Int32)), (.ref oq)])) rfl (by rw [hml]; rfl) (lenOf own_pd1 rfl) rfl (by show 2 * 0 + _ ≤ _; exact Nat.le_of_eq rfl) (hb hby dof2_53) ?_
    rintro _ T15 L15 X15 ⟨rfl, N15q, K15, H15, S15, hq_15, hs15⟩
    show own_Go _ _ _ _ _ _ _ T15 (mkF m 56 #[.val (.ref oq), .val (.int p1), .val (.long q2), .second] [])
    have N15 := Fr.app N13 N15q
    obtain ⟨E_15, Fh_15, Fs_15, Fk_15, Fz_15, Ah_15, As_15, Ak_15⟩ := hq_15
    refine own_st (T' := T15) (g' := (mkF m 87 #[.val (.ref oq), .val (.int p1), .val (.long q2), .second] [])) (fun _ k => XS.goto X15.here hx rfl (pc0 := 56) (pc' := 87) rfl (hb hby dof2_56) (by decide) (by decide) k) ?_
    exact own_retV X15 hx hlk hret (hb hby dof2_87) ⟨rfl, N15, ((((((Keep.refl h0 [oq, oh, os, ok]).wr W6 (Or.inl (by simp))).wr W9 (Or.inl (by simp))).wr W11 (Or.inl (by simp))).wr W13 (Or.inl (by simp))).trans K15 (fun x hx => Or.inl hx)), H15, S15, (own_up fK p1 q2), (3 : Int32), ⟨E_15, Fh_15, Fs_15, Fk_15, Fz_15, Ah_15, As_15, Ak_15⟩, own_offA2 hI ho hc6_3 hs15⟩ (by decide) (by decide)
  · refine own_st (T' := T1) (g' := (mkF m 59 #[.val (.ref oq), .val (.int p1), .val (.long q2), .second] [])) (fun _ k => XS.ifYes X1.here hx rfl (pc0 := 6) (pc' := 59) rfl (hb hby dof2_6) rfl ((if0 _ _).trans (flt hc6_3).2.1) (by decide) (by decide) k) ?_
    refine own_st (T' := T1) (g' := (mkF m 60 #[.val (.ref oq), .val (.int p1), .val (.long q2), .second] [(.long q2)])) (fun _ k => XS.lloadN X1.here hx rfl (hb hby dof2_59) rfl k) ?_
    refine own_st (T' := T1) (g' := (mkF m 61 #[.val (.ref oq), .val (.int p1), .val (.long q2), .second] [(.ref oq), (.long q2)])) (fun _ k => XS.aloadN X1.here hx rfl (hb hby dof2_60) rfl rfl k) ?_
    obtain ⟨T16, X16, e16, st16⟩ := getF X1 hx hZ hown (host := "") (Or.inl (own_w hw 15 rfl)) Via.refl e1 Fk_0 (g := (mkF m 61 #[.val (.ref oq), .val (.int p1), .val (.long q2), .second] [(.ref oq), (.long q2)])) rfl rfl (hb hby dof2_61)
    refine own_st (g' := (mkF m 64 #[.val (.ref oq), .val (.int p1), .val (.long q2), .second] [(.ref ok), (.long q2)])) st16 ?_
    refine own_st (T' := T16) (g' := (mkF m 65 #[.val (.ref oq), .val (.int p1), .val (.long q2), .second] [(.int p1), (.ref ok), (.long q2)])) (fun _ k => XS.iloadN X16.here hx rfl (hb hby dof2_64) rfl k) ?_
    obtain ⟨cl17, Ar17, S17, M17, H17⟩ := id Ak_0
    refine own_st (T' := T16) (g' := (mkF m 66 #[.val (.ref oq), .val (.int p1), .val (.long q2), .second] [(.long (fK p1)), (.long q2)])) (fun _ k => X16.laload hx (j := p1) (v := (.long (fK p1))) (by rw [e16]; exact Ar17.1) (State.isArrayOf_alike hZ.alike Ar17.2.1) Ar17.2.2 (inb_of S17 ⟨(own_ok0 ho), (own_ok3 ho)⟩) (H17 _ (own_ok0 ho) (own_ok3 ho)) (g := (mkF m 65 #[.val (.ref oq), .val (.int p1), .val (.long q2), .second] [(.int p1), (.ref ok), (.long q2)])) rfl rfl (hb hby dof2_65) _ k) ?_
    refine own_st (T' := T16) (g' := (mkF m 67 #[.val (.ref oq), .val (.int p1), .val (.long q2), .second] [(.int (lcmpW q2 (fK p1)))])) (fun _ k => XS.lcmp X16.here hx rfl (hb hby dof2_66) rfl k) ?_
    by_cases hc67_18 : q2 < (fK p1)
    · refine own_st (T' := T16) (g' := (mkF m 70 #[.val (.ref oq), .val (.int p1), .val (.long q2), .second] [])) (fun _ k => XS.ifNo X16.here hx rfl (hb hby dof2_67) rfl ((if0 _ _).trans (tlt ((lw_lt _ _).mpr hc67_18)).2.1) k) ?_
      refine own_st (T' := T16) (g' := (mkF m 71 #[.val (.ref oq), .val (.int p1), .val (.long q2), .second] [(.ref oq)])) (fun _ k => XS.aloadN X16.here hx rfl (hb hby dof2_70) rfl rfl k) ?_
      obtain ⟨T19, X19, e19, st19⟩ := getF X16 hx hZ hown (host := "") (Or.inl (own_w hw 15 rfl)) Via.refl e16 Fk_0 (g := (mkF m 71 #[.val (.ref oq), .val (.int p1), .val (.long q2), .second] [(.ref oq)])) rfl rfl (hb hby dof2_71)
      refine own_st (g' := (mkF m 74 #[.val (.ref oq), .val (.int p1), .val (.long q2), .second] [(.ref ok)])) st19 ?_
      refine own_st (T' := T19) (g' := (mkF m 75 #[.val (.ref oq), .val (.int p1), .val (.long q2), .second] [(.int p1), (.ref ok)])) (fun _ k => XS.iloadN X19.here hx rfl (hb hby dof2_74) rfl k) ?_
      refine own_st (T' := T19) (g' := (mkF m 76 #[.val (.ref oq), .val (.int p1), .val (.long q2), .second] [(.long q2), (.int p1), (.ref ok)])) (fun _ k => XS.lloadN X19.here hx rfl (hb hby dof2_75) rfl k) ?_
      obtain ⟨cl20, Ar20, S20, M20, H20⟩ := id Ak_0
      obtain ⟨T20, h20, X20, e20, W20, st20⟩ := stJ X19 hx hZ e19 Ar20 (j := p1) (inb_of S20 ⟨(own_ok0 ho), (own_ok3 ho)⟩) (g := (mkF m 76 #[.val (.ref oq), .val (.int p1), .val (.long q2), .second] [(.long q2), (.int p1), (.ref ok)])) rfl rfl (hb hby dof2_76)
      have V20 : own_A Z h20 ok .long (3 : Int32) (fun i => (.long ((own_up fK p1 q2) i))) := (own_A.set Ar20 S20 M20 H20 (own_ok0 ho) (own_ok3 ho) W20).upJ
      have N20 := Fr.snoc X20 N0 G_k
      refine own_st (g' := (mkF m 77 #[.val (.ref oq), .val (.int p1), .val (.long q2), .second] [])) st20 ?_
      refine own_st (T' := T20) (g' := (mkF m 78 #[.val (.ref oq), .val (.int p1), .val (.long q2), .second] [(.ref oq)])) (fun _ k => XS.aloadN X20.here hx rfl (hb hby dof2_77) rfl rfl k) ?_
      refine own_st (T' := T20) (g' := (mkF m 79 #[.val (.ref oq), .val (.int p1), .val (.long q2), .second] [(.ref oq), (.ref oq)])) (fun _ k => XS.aloadN X20.here hx rfl (hb hby dof2_78) rfl rfl k) ?_
      obtain ⟨T21, X21, e21, st21⟩ := getF X20 hx hZ hown (host := "") (Or.inl (own_w hw 12 rfl)) Via.refl e20 (Fs_0.other W20 (Or.inl D3)) (g := (mkF m 79 #[.val (.ref oq), .val (.int p1), .val (.long q2), .second] [(.ref oq), (.ref oq)])) rfl rfl (hb hby dof2_79)
      refine own_st (g' := (mkF m 82 #[.val (.ref oq), .val (.int p1), .val (.long q2), .second] [(.ref os), (.ref oq)])) st21 ?_
      refine own_st (T' := T21) (g' := (mkF m 83 #[.val (.ref oq), .val (.int p1), .val (.long q2), .second] [(.int p1), (.ref os), (.ref oq)])) (fun _ k => XS.iloadN X21.here hx rfl (hb hby dof2_82) rfl k) ?_
      obtain ⟨cl22, Ar22, S22, M22, H22⟩ := id (As_0.other W20 D6)
      refine own_st (T' := T21) (g' := (mkF m 84 #[.val (.ref oq), .val (.int p1), .val (.long q2), .second] [(.int (fS p1)), (.ref oq)])) (fun _ k => X21.iaload hx (j := p1) (v := (.int (fS p1))) (by rw [e21]; exact Ar22.1) (State.isArrayOf_alike hZ.alike Ar22.2.1) Ar22.2.2 (inb_of S22 ⟨(own_ok0 ho), (own_ok3 ho)⟩) (H22 _ (own_ok0 ho) (own_ok3 ho)) (g := (mkF m 83 #[.val (.ref oq), .val (.int p1), .val (.long q2), .second] [(.int p1), (.ref os), (.ref oq)])) rfl rfl (hb hby dof2_83) _ k) ?_
      obtain hsv | hsv := own_sl2 hI ho hc6_3
      · refine own_cast (g' := (mkF m 84 #[.val (.ref oq), .val (.int p1), .val (.long q2), .second] [(.int (0 : Int32)), (.ref oq)])) (by rw [hsv]) ?_
        refine own_callP X21 hx hZ (y := (⟨"com/example/albatross/albatross/NodeQueue", "siftUp", "(I)V"⟩ : MethodName)) hown (own_w hw 38 rfl) (own_w hw 39 rfl) (own_w hw 1 rfl) (own_w hw 40 rfl) (own_w hw 41 rfl) (own_w hw 2 rfl) (by decide) (W := 0) e21 (b := oq) (E_0.wr W20) (argsL := [(.int (0 : Int32))]) (rest := []) (rmsu0 l Z a0 hw [] oq oh os ok fH fS (own_up fK p1 q2) (2 : Int32) h20 n0 (Nat.le_trans Z0 (Nat.le_of_eq W20.size.symm)) hd0 (show own_NQ Z h20 oq oh os ok fH fS (own_up fK p1 q2) (2 : Int32) from ⟨(E_0.wr W20), (Fh_0.other W20 (Or.inl D3)), (Fs_0.other W20 (Or.inl D3)), (Fk_0.other W20 (Or.inl D3)), (Fz_0.other W20 (Or.inl D3)), (Ah_0.other W20 D5), (As_0.other W20 D6), V20⟩) (show ¬ (fH (0 : Int32)) < 0 from own_ok0 (own_h2_0 hI)) (show (fH (0 : Int32)) < 3 from own_ok3 (own_h2_0 hI))) (by decide) (by decide) (by decide) (by decide) (g := (mkF m 84 #[.val (.ref oq), .val (.int p1), .val (.long q2), .second] [(.int (0 : Int32)), (.ref oq)])) rfl (by rw [hml]; rfl) (lenOf own_pd1 rfl) rfl (by show 2 * 0 + _ ≤ _; exact Nat.le_of_eq rfl) (hb hby dof2_84) ?_
        rintro _ T23 L23 X23 ⟨rfl, N23q, K23, hq_23⟩
        show own_Go _ _ _ _ _ _ _ T23 (mkF m 87 #[.val (.ref oq), .val (.int p1), .val (.long q2), .second] [])
        have N23 := Fr.app N20 N23q
        obtain ⟨E_23, Fh_23, Fs_23, Fk_23, Fz_23, Ah_23, As_23, Ak_23⟩ := hq_23
        exact own_retV X23 hx hlk hret (hb hby dof2_87) ⟨rfl, N23, (((Keep.refl h0 [oq, oh, os, ok]).wr W20 (Or.inl (by simp))).trans K23 (fun x hx => Or.inl hx)), (own_up fH (0 : Int32) (fH (0 : Int32))), (own_up fS (fH (0 : Int32)) (0 : Int32)), (own_up fK p1 q2), (2 : Int32), ⟨E_23, Fh_23, Fs_23, Fk_23, Fz_23, Ah_23, As_23, Ak_23⟩, own_offB2_0 hI ho hsv hc67_18⟩ (by decide) (by decide)
      · refine own_cast (g' := (mkF m 84 #[.val (.ref oq), .val (.int p1), .val (.long q2), .second] [(.int (1 : Int32)), (.ref oq)])) (by rw [hsv]) ?_
        refine own_callP X21 hx hZ (y := (⟨"com/example/albatross/albatross/NodeQueue", "siftUp", "(I)V"⟩ : MethodName)) hown (own_w hw 38 rfl) (own_w hw 39 rfl) (own_w hw 1 rfl) (own_w hw 40 rfl) (own_w hw 41 rfl) (own_w hw 2 rfl) (by decide) (W := 0) e21 (b := oq) (E_0.wr W20) (argsL := [(.int (1 : Int32))]) (rest := []) (rmsu1 l Z a0 hw [] oq oh os ok fH fS (own_up fK p1 q2) (2 : Int32) h20 n0 (Nat.le_trans Z0 (Nat.le_of_eq W20.size.symm)) hd0 (show own_NQ Z h20 oq oh os ok fH fS (own_up fK p1 q2) (2 : Int32) from ⟨(E_0.wr W20), (Fh_0.other W20 (Or.inl D3)), (Fs_0.other W20 (Or.inl D3)), (Fk_0.other W20 (Or.inl D3)), (Fz_0.other W20 (Or.inl D3)), (Ah_0.other W20 D5), (As_0.other W20 D6), V20⟩) (show ¬ (fH (1 : Int32)) < 0 from own_ok0 (own_h2_1 hI)) (show (fH (1 : Int32)) < 3 from own_ok3 (own_h2_1 hI)) (show ¬ (fH (0 : Int32)) < 0 from own_ok0 (own_h2_0 hI)) (show (fH (0 : Int32)) < 3 from own_ok3 (own_h2_0 hI))) (by decide) (by decide) (by decide) (by decide) (g := (mkF m 84 #[.val (.ref oq), .val (.int p1), .val (.long q2), .second] [(.int (1 : Int32)), (.ref oq)])) rfl (by rw [hml]; rfl) (lenOf own_pd1 rfl) rfl (by show 2 * 0 + _ ≤ _; exact Nat.le_of_eq rfl) (hb hby dof2_84) ?_
        rintro _ T24 L24 X24 ⟨rfl, N24q, K24, H24, S24, hq_24, hs24⟩
        show own_Go _ _ _ _ _ _ _ T24 (mkF m 87 #[.val (.ref oq), .val (.int p1), .val (.long q2), .second] [])
        have N24 := Fr.app N20 N24q
        obtain ⟨E_24, Fh_24, Fs_24, Fk_24, Fz_24, Ah_24, As_24, Ak_24⟩ := hq_24
        exact own_retV X24 hx hlk hret (hb hby dof2_87) ⟨rfl, N24, (((Keep.refl h0 [oq, oh, os, ok]).wr W20 (Or.inl (by simp))).trans K24 (fun x hx => Or.inl hx)), H24, S24, (own_up fK p1 q2), (2 : Int32), ⟨E_24, Fh_24, Fs_24, Fk_24, Fz_24, Ah_24, As_24, Ak_24⟩, own_offB2_1 hI ho hsv hc67_18 hs24⟩ (by decide) (by decide)
    · refine own_st (T' := T16) (g' := (mkF m 87 #[.val (.ref oq), .val (.int p1), .val (.long q2), .second] [])) (fun _ k => XS.ifYes X16.here hx rfl (pc0 := 67) (pc' := 87) rfl (hb hby dof2_67) rfl ((if0 _ _).trans (flt (mt (lw_lt _ _).mp hc67_18)).2.1) (by decide) (by decide) k) ?_
      exact own_retV X16 hx hlk hret (hb hby dof2_87) (by rw [e16]; exact ⟨rfl, N0, (Keep.refl h0 [oq, oh, os, ok]), fH, fS, fK, (2 : Int32), ⟨E_0, Fh_0, Fs_0, Fk_0, Fz_0, Ah_0, As_0, Ak_0⟩, own_offN hI' ho hc6_3⟩) (by decide) (by decide)
theorem dof3_0 : decode prog_51_method_4_code 0 = .ok (.aload_n 0, 1) := by decide +kernel
theorem dof3_1 : decode prog_51_method_4_code 1 = .ok (.getfield 13, 3) := by decide +kernel
theorem dof3_4 : decode prog_51_method_4_code 4 = .ok (.iload_n 1, 1) := by decide +kernel
theorem dof3_5 : decode prog_51_method_4_code 5 = .ok (.iaload, 1) := by decide +kernel
theorem dof3_6 : decode prog_51_method_4_code 6 = .ok (.ifCond .ge 53, 3) := by decide +kernel
theorem dof3_59 : decode prog_51_method_4_code 59 = .ok (.lload_n 2, 1) := by decide +kernel
theorem dof3_60 : decode prog_51_method_4_code 60 = .ok (.aload_n 0, 1) := by decide +kernel
theorem dof3_61 : decode prog_51_method_4_code 61 = .ok (.getfield 16, 3) := by decide +kernel
theorem dof3_64 : decode prog_51_method_4_code 64 = .ok (.iload_n 1, 1) := by decide +kernel
theorem dof3_65 : decode prog_51_method_4_code 65 = .ok (.laload, 1) := by decide +kernel
theorem dof3_66 : decode prog_51_method_4_code 66 = .ok (.lcmp, 1) := by decide +kernel
theorem dof3_67 : decode prog_51_method_4_code 67 = .ok (.ifCond .ge 20, 3) := by decide +kernel
theorem dof3_70 : decode prog_51_method_4_code 70 = .ok (.aload_n 0, 1) := by decide +kernel
theorem dof3_71 : decode prog_51_method_4_code 71 = .ok (.getfield 16, 3) := by decide +kernel
theorem dof3_74 : decode prog_51_method_4_code 74 = .ok (.iload_n 1, 1) := by decide +kernel
theorem dof3_75 : decode prog_51_method_4_code 75 = .ok (.lload_n 2, 1) := by decide +kernel
theorem dof3_76 : decode prog_51_method_4_code 76 = .ok (.lastore, 1) := by decide +kernel
theorem dof3_77 : decode prog_51_method_4_code 77 = .ok (.aload_n 0, 1) := by decide +kernel
theorem dof3_78 : decode prog_51_method_4_code 78 = .ok (.aload_n 0, 1) := by decide +kernel
theorem dof3_79 : decode prog_51_method_4_code 79 = .ok (.getfield 13, 3) := by decide +kernel
theorem dof3_82 : decode prog_51_method_4_code 82 = .ok (.iload_n 1, 1) := by decide +kernel
theorem dof3_83 : decode prog_51_method_4_code 83 = .ok (.iaload, 1) := by decide +kernel
theorem dof3_84 : decode prog_51_method_4_code 84 = .ok (.invokevirtual 30, 3) := by decide +kernel
theorem dof3_87 : decode prog_51_method_4_code 87 = .ok (.return_, 1) := by decide +kernel
theorem pn_of3 : plainName "com/example/albatross/albatross/NodeQueue" = true := by first | (simp [plainName, overriddenIn]; done) | decide +kernel
theorem ef_of3 (m : MethodId) (x0 : Addr) (x1 : Int32) (x2 : Int64) : entryFrame m #[(.ref x0), (.int x1), (.long x2)] 4 = mkF m 0 #[.val (.ref x0), .val (.int x1), .val (.long x2), .second] [] := by first | (simp [entryFrame, mkF, argsToLocals, Value.category]; done) | rfl
set_option maxRecDepth 65536 in
set_option maxHeartbeats 40000000 in
theorem rmof3 (l : Launch) (Z : State) (a0 : Array Value) (hw : ∀ d ∈ tables_1, d.before a0 Z = true) (ws : List Jvm.Cond) (oq oh os ok : Addr) (fH fS : Int32 → Int32) (fK : Int32 → Int64) (p1 : Int32) (q2 : Int64) (h0 : Heap) (n0 : Nat) (Z0 : n0 ≤ h0.size) (hd : own_Ds n0 oq oh os ok) (hq : own_NQ Z h0 oq oh os ok fH fS fK (3 : Int32)) (hI : own_I3 fH fS fK) (ho : own_ok p1) :
    own_Met l Z ws (⟨"com/example/albatross/albatross/NodeQueue", "offer", "(IJ)V"⟩ : MethodName) prog_51_method_4_code 4 none ({ frames := 2, cells := 0, slots := 0, locals := 28 } : Room) ({ frames := 2, cells := 0, slots := 0, locals := 28 } : Room).cells ({ frames := 2, cells := 0, slots := 0, locals := 28 } : Room).slots #[(.ref oq), (.int p1), (.long q2)] h0 (fun v h L => v = none ∧ Fr n0 L ∧ Keep h0 h [oq, oh, os, ok] ∧ ∃ H' S' K' z', own_NQ Z h oq oh os ok H' S' K' z' ∧ own_Off fS fK p1 q2 H' S' K' z') := by
  refine own_body (plainFor_of_name pn_of3) ?_
  intro p e s m below meth c s₁ hx hby hml hown hnm hlk hret hZ hh X0 e0
  have N0 := Fr.nil n0
  have hI' : own_Inv fH fS fK (3 : Int32) := own_inv3 hI
  have hd0 := hd
  obtain ⟨G_q, G_h, G_s, G_k, D1, D2, D3, D4, D5, D6⟩ := hd
  obtain ⟨E_0, Fh_0, Fs_0, Fk_0, Fz_0, Ah_0, As_0, Ak_0⟩ := hq
  refine own_cast (ef_of3 m oq p1 q2) ?_
  refine own_st (T' := s₁) (g' := (mkF m 1 #[.val (.ref oq), .val (.int p1), .val (.long q2), .second] [(.ref oq)])) (fun _ k => XS.aloadN X0.here hx rfl (hb hby dof3_0) rfl rfl k) ?_
  obtain ⟨T1, X1, e1, st1⟩ := getF X0 hx hZ hown (host := "") (Or.inl (own_w hw 12 rfl)) Via.refl e0 Fs_0 (g := (mkF m 1 #[.val (.ref oq), .val (.int p1), .val (.long q2), .second] [(.ref oq)])) rfl rfl (hb hby dof3_1)
  refine own_st (g' := (mkF m 4 #[.val (.ref oq), .val (.int p1), .val (.long q2), .second] [(.ref os)])) st1 ?_
  refine own_st (T' := T1) (g' := (mkF m 5 #[.val (.ref oq), .val (.int p1), .val (.long q2), .second] [(.int p1), (.ref os)])) (fun _ k => XS.iloadN X1.here hx rfl (hb hby dof3_4) rfl k) ?_
  obtain ⟨cl2, Ar2, S2, M2, H2⟩ := id As_0
  refine own_st (T' := T1) (g' := (mkF m 6 #[.val (.ref oq), .val (.int p1), .val (.long q2), .second] [(.int (fS p1))])) (fun _ k => X1.iaload hx (j := p1) (v := (.int (fS p1))) (by rw [e1]; exact Ar2.1) (State.isArrayOf_alike hZ.alike Ar2.2.1) Ar2.2.2 (inb_of S2 ⟨(own_ok0 ho), (own_ok3 ho)⟩) (H2 _ (own_ok0 ho) (own_ok3 ho)) (g := (mkF m 5 #[.val (.ref oq), .val (.int p1), .val (.long q2), .second] [(.int p1), (.ref os)])) rfl rfl (hb hby dof3_5) _ k) ?_
  by_cases hc6_3 : (fS p1) < (0 : Int32)
  · refine own_st (T' := T1) (g' := (mkF m 9 #[.val (.ref oq), .val (.int p1), .val (.long q2), .second] [])) (fun _ k => XS.ifNo X1.here hx rfl (hb hby dof3_6) rfl ((if0 _ _).trans (tlt hc6_3).2.1) k) ?_
    exact (own_full hI ho hc6_3).elim
  · refine own_st (T' := T1) (g' := (mkF m 59 #[.val (.ref oq), .val (.int p1), .val (.long q2), .second] [])) (fun _ k => XS.ifYes X1.here hx rfl (pc0 := 6) (pc' := 59) rfl (hb hby dof3_6) rfl ((if0 _ _).trans (flt hc6_3).2.1) (by decide) (by decide) k) ?_
    refine own_st (T' := T1) (g' := (mkF m 60 #[.val (.ref oq), .val (.int p1), .val (.long q2), .second] [(.long q2)])) (fun _ k => XS.lloadN X1.here hx rfl (hb hby dof3_59) rfl k) ?_
    refine own_st (T' := T1) (g' := (mkF m 61 #[.val (.ref oq), .val (.int p1), .val (.long q2), .second] [(.ref oq), (.long q2)])) (fun _ k => XS.aloadN X1.here hx rfl (hb hby dof3_60) rfl rfl k) ?_
    obtain ⟨T4, X4, e4, st4⟩ := getF X1 hx hZ hown (host := "") (Or.inl (own_w hw 15 rfl)) Via.refl e1 Fk_0 (g := (mkF m 61 #[.val (.ref oq), .val (.int p1), .val (.long q2), .second] [(.ref oq), (.long q2)])) rfl rfl (hb hby dof3_61)
    refine own_st (g' := (mkF m 64 #[.val (.ref oq), .val (.int p1), .val (.long q2), .second] [(.ref ok), (.long q2)])) st4 ?_
    refine own_st (T' := T4) (g' := (mkF m 65 #[.val (.ref oq), .val (.int p1), .val (.long q2), .second] [(.int p1), (.ref ok), (.long q2)])) (fun _ k => XS.iloadN X4.here hx rfl (hb hby dof3_64) rfl k) ?_
    obtain ⟨cl5, Ar5, S5, M5, H5⟩ := id Ak_0
    refine own_st (T' := T4) (g' := (mkF m 66 #[.val (.ref oq), .val (.int p1), .val (.long q2), .second] [(.long (fK p1)), (.long q2)])) (fun _ k => X4.laload hx (j := p1) (v := (.long (fK p1))) (by rw [e4]; exact Ar5.1) (State.isArrayOf_alike hZ.alike Ar5.2.1) Ar5.2.2 (inb_of S5 ⟨(own_ok0 ho), (own_ok3 ho)⟩) (H5 _ (own_ok0 ho) (own_ok3 ho)) (g := (mkF m 65 #[.val (.ref oq), .val (.int p1), .val (.long q2), .second] [(.int p1), (.ref ok), (.long q2)])) rfl rfl (hb hby dof3_65) _ k) ?_
    refine own_st (T' := T4) (g' := (mkF m 67 #[.val (.ref oq), .val (.int p1), .val (.long q2), .second] [(.int (lcmpW q2 (fK p1)))])) (fun _ k => XS.lcmp X4.here hx rfl (hb hby dof3_66) rfl k) ?_
    by_cases hc67_6 : q2 < (fK p1)
    · refine own_st (T' := T4) (g' := (mkF m 70 #[.val (.ref oq), .val (.int p1), .val (.long q2), .second] [])) (fun _ k => XS.ifNo X4.here hx rfl (hb hby dof3_67) rfl ((if0 _ _).trans (tlt ((lw_lt _ _).mpr hc67_6)).2.1) k) ?_
      refine own_st (T' := T4) (g' := (mkF m 71 #[.val (.ref oq), .val (.int p1), .val (.long q2), .second] [(.ref oq)])) (fun _ k => XS.aloadN X4.here hx rfl (hb hby dof3_70) rfl rfl k) ?_
      obtain ⟨T7, X7, e7, st7⟩ := getF X4 hx hZ hown (host := "") (Or.inl (own_w hw 15 rfl)) Via.refl e4 Fk_0 (g := (mkF m 71 #[.val (.ref oq), .val (.int p1), .val (.long q2), .second] [(.ref oq)])) rfl rfl (hb hby dof3_71)
      refine own_st (g' := (mkF m 74 #[.val (.ref oq), .val (.int p1), .val (.long q2), .second] [(.ref ok)])) st7 ?_
      refine own_st (T' := T7) (g' := (mkF m 75 #[.val (.ref oq), .val (.int p1), .val (.long q2), .second] [(.int p1), (.ref ok)])) (fun _ k => XS.iloadN X7.here hx rfl (hb hby dof3_74) rfl k) ?_
      refine own_st (T' := T7) (g' := (mkF m 76 #[.val (.ref oq), .val (.int p1), .val (.long q2), .second] [(.long q2), (.int p1), (.ref ok)])) (fun _ k => XS.lloadN X7.here hx rfl (hb hby dof3_75) rfl k) ?_
      obtain ⟨cl8, Ar8, S8, M8, H8⟩ := id Ak_0
      obtain ⟨T8, h8, X8, e8, W8, st8⟩ := stJ X7 hx hZ e7 Ar8 (j := p1) (inb_of S8 ⟨(own_ok0 ho), (own_ok3 ho)⟩) (g := (mkF m 76 #[.val (.ref oq), .val (.int p1), .val (.long q2), .second] [(.long q2), (.int p1), (.ref ok)])) rfl rfl (hb hby dof3_76)
      have V8 : own_A Z h8 ok .long (3 : Int32) (fun i => (.long ((own_up fK p1 q2) i))) := (own_A.set Ar8 S8 M8 H8 (own_ok0 ho) (own_ok3 ho) W8).upJ
      have N8 := Fr.snoc X8 N0 G_k
      refine own_st (g' := (mkF m 77 #[.val (.ref oq), .val (.int p1), .val (.long q2), .second] [])) st8 ?_
      refine own_st (T' := T8) (g' := (mkF m 78 #[.val (.ref oq), .val (.int p1), .val (.long q2), .second] [(.ref oq)])) (fun _ k => XS.aloadN X8.here hx rfl (hb hby dof3_77) rfl rfl k) ?_
      refine own_st (T' := T8) (g' := (mkF m 79 #[.val (.ref oq), .val (.int p1), .val (.long q2), .second] [(.ref oq), (.ref oq)])) (fun _ k => XS.aloadN X8.here hx rfl (hb hby dof3_78) rfl rfl k) ?_
      obtain ⟨T9, X9, e9, st9⟩ := getF X8 hx hZ hown (host := "") (Or.inl (own_w hw 12 rfl)) Via.refl e8 (Fs_0.other W8 (Or.inl D3)) (g := (mkF m 79 #[.val (.ref oq), .val (.int p1), .val (.long q2), .second] [(.ref oq), (.ref oq)])) rfl rfl (hb hby dof3_79)
      refine own_st (g' := (mkF m 82 #[.val (.ref oq), .val (.int p1), .val (.long q2), .second] [(.ref os), (.ref oq)])) st9 ?_
      refine own_st (T' := T9) (g' := (mkF m 83 #[.val (.ref oq), .val (.int p1), .val (.long q2), .second] [(.int p1), (.ref os), (.ref oq)])) (fun _ k => XS.iloadN X9.here hx rfl (hb hby dof3_82) rfl k) ?_
      obtain ⟨cl10, Ar10, S10, M10, H10⟩ := id (As_0.other W8 D6)
      refine own_st (T' := T9) (g' := (mkF m 84 #[.val (.ref oq), .val (.int p1), .val (.long q2), .second] [(.int (fS p1)), (.ref oq)])) (fun _ k => X9.iaload hx (j := p1) (v := (.int (fS p1))) (by rw [e9]; exact Ar10.1) (State.isArrayOf_alike hZ.alike Ar10.2.1) Ar10.2.2 (inb_of S10 ⟨(own_ok0 ho), (own_ok3 ho)⟩) (H10 _ (own_ok0 ho) (own_ok3 ho)) (g := (mkF m 83 #[.val (.ref oq), .val (.int p1), .val (.long q2), .second] [(.int p1), (.ref os), (.ref oq)])) rfl rfl (hb hby dof3_83) _ k) ?_
      obtain hsv | hsv | hsv := own_sl3 hI ho hc6_3
      · refine own_cast (g' := (mkF m 84 #[.val (.ref oq), .val (.int p1), .val (.long q2), .second] [(.int (0 : Int32)), (.ref oq)])) (by rw [hsv]) ?_
        refine own_callP X9 hx hZ (y := (⟨"com/example/albatross/albatross/NodeQueue", "siftUp", "(I)V"⟩ : MethodName)) hown (own_w hw 38 rfl) (own_w hw 39 rfl) (own_w hw 1 rfl) (own_w hw 40 rfl) (own_w hw 41 rfl) (own_w hw 2 rfl) (by decide) (W := 0) e9 (b := oq) (E_0.wr W8) (argsL := [(.int (0 : Int32))]) (rest := []) (rmsu0 l Z a0 hw [] oq oh os ok fH fS (own_up fK p1 q2) (3 : Int32) h8 n0 (Nat.le_trans Z0 (Nat.le_of_eq W8.size.symm)) hd0 (show own_NQ Z h8 oq oh os ok fH fS (own_up fK p1 q2) (3 : Int32) from ⟨(E_0.wr W8), (Fh_0.other W8 (Or.inl D3)), (Fs_0.other W8 (Or.inl D3)), (Fk_0.other W8 (Or.inl D3)), (Fz_0.other W8 (Or.inl D3)), (Ah_0.other W8 D5), (As_0.other W8 D6), V8⟩) (show ¬ (fH (0 : Int32)) < 0 from own_ok0 (own_h3_0 hI)) (show (fH (0 : Int32)) < 3 from own_ok3 (own_h3_0 hI))) (by decide) (by decide) (by decide) (by decide) (g := (mkF m 84 #[.val (.ref oq), .val (.int p1), .val (.long q2), .second] [(.int (0 : Int32)), (.ref oq)])) rfl (by rw [hml]; rfl) (lenOf own_pd1 rfl) rfl (by show 2 * 0 + _ ≤ _; exact Nat.le_of_eq rfl) (hb hby dof3_84) ?_
        rintro _ T11 L11 X11 ⟨rfl, N11q, K11, hq_11⟩
        show own_Go _ _ _ _ _ _ _ T11 (mkF m 87 #[.val (.ref oq), .val (.int p1), .val (.long q2), .second] [])
        have N11 := Fr.app N8 N11q
        obtain ⟨E_11, Fh_11, Fs_11, Fk_11, Fz_11, Ah_11, As_11, Ak_11⟩ := hq_11
        exact own_retV X11 hx hlk hret (hb hby dof3_87) ⟨rfl, N11, (((Keep.refl h0 [oq, oh, os, ok]).wr W8 (Or.inl (by simp))).trans K11 (fun x hx => Or.inl hx)), (own_up fH (0 : Int32) (fH (0 : Int32))), (own_up fS (fH (0 : Int32)) (0 : Int32)), (own_up fK p1 q2), (3 : Int32), ⟨E_11, Fh_11, Fs_11, Fk_11, Fz_11, Ah_11, As_11, Ak_11⟩, own_offB3_0 hI ho hsv hc67_6⟩ (by decide) (by decide)
      · refine own_cast (g' := (mkF m 84 #[.val (.ref oq), .val (.int p1), .val (.long q2), .second] [(.int (1 : Int32)), (.ref oq)])) (by rw [hsv]) ?_
        refine own_callP X9 hx hZ (y := (⟨"com/example/albatross/albatross/NodeQueue", "siftUp", "(I)V"⟩ : MethodName)) hown (own_w hw 38 rfl) (own_w hw 39 rfl) (own_w hw 1 rfl) (own_w hw 40 rfl) (own_w hw 41 rfl) (own_w hw 2 rfl) (by decide) (W := 0) e9 (b := oq) (E_0.wr W8) (argsL := [(.int (1 : Int32))]) (rest := []) (rmsu1 l Z a0 hw [] oq oh os ok fH fS (own_up fK p1 q2) (3 : Int32) h8 n0 (Nat.le_trans Z0 (Nat.le_of_eq W8.size.symm)) hd0 (show own_NQ Z h8 oq oh os ok fH fS (own_up fK p1 q2) (3 : Int32) from ⟨(E_0.wr W8), (Fh_0.other W8 (Or.inl D3)), (Fs_0.other W8 (Or.inl D3)), (Fk_0.other W8 (Or.inl D3)), (Fz_0.other W8 (Or.inl D3)), (Ah_0.other W8 D5), (As_0.other W8 D6), V8⟩) (show ¬ (fH (1 : Int32)) < 0 from own_ok0 (own_h3_1 hI)) (show (fH (1 : Int32)) < 3 from own_ok3 (own_h3_1 hI)) (show ¬ (fH (0 : Int32)) < 0 from own_ok0 (own_h3_0 hI)) (show (fH (0 : Int32)) < 3 from own_ok3 (own_h3_0 hI))) (by decide) (by decide) (by decide) (by decide) (g := (mkF m 84 #[.val (.ref oq), .val (.int p1), .val (.long q2), .second] [(.int (1 : Int32)), (.ref oq)])) rfl (by rw [hml]; rfl) (lenOf own_pd1 rfl) rfl (by show 2 * 0 + _ ≤ _; exact Nat.le_of_eq rfl) (hb hby dof3_84) ?_
        rintro _ T12 L12 X12 ⟨rfl, N12q, K12, H12, S12, hq_12, hs12⟩
        show own_Go _ _ _ _ _ _ _ T12 (mkF m 87 #[.val (.ref oq), .val (.int p1), .val (.long q2), .second] [])
        have N12 := Fr.app N8 N12q
        obtain ⟨E_12, Fh_12, Fs_12, Fk_12, Fz_12, Ah_12, As_12, Ak_12⟩ := hq_12
        exact own_retV X12 hx hlk hret (hb hby dof3_87) ⟨rfl, N12, (((Keep.refl h0 [oq, oh, os, ok]).wr W8 (Or.inl (by simp))).trans K12 (fun x hx => Or.inl hx)), H12, S12, (own_up fK p1 q2), (3 : Int32), ⟨E_12, Fh_12, Fs_12, Fk_12, Fz_12, Ah_12, As_12, Ak_12⟩, own_offB3_1 hI ho hsv hc67_6 hs12⟩ (by decide) (by decide)
      · refine own_cast (g' := (mkF m 84 #[.val (.ref oq), .val (.int p1), .val (.long q2), .second] [(.int (2 : Int32)), (.ref oq)])) (by rw [hsv]) ?_
        refine own_callP X9 hx hZ (y := (⟨"com/example/albatross/albatross/NodeQueue", "siftUp", "(I)V"⟩ : MethodName)) hown (own_w hw 38 rfl) (own_w hw 39 rfl) (own_w hw 1 rfl) (own_w hw 40 rfl) (own_w hw 41 rfl) (own_w hw 2 rfl) (by decide) (W := 0) e9 (b := oq) (E_0.wr W8) (argsL := [(.int (2 : Int32))]) (rest := []) (rmsu2 l Z a0 hw [] oq oh os ok fH fS (own_up fK p1 q2) (3 : Int32) h8 n0 (Nat.le_trans Z0 (Nat.le_of_eq W8.size.symm)) hd0 (show own_NQ Z h8 oq oh os ok fH fS (own_up fK p1 q2) (3 : Int32) from ⟨(E_0.wr W8), (Fh_0.other W8 (Or.inl D3)), (Fs_0.other W8 (Or.inl D3)), (Fk_0.other W8 (Or.inl D3)), (Fz_0.other W8 (Or.inl D3)), (Ah_0.other W8 D5), (As_0.other W8 D6), V8⟩) (show ¬ (fH (2 : Int32)) < 0 from own_ok0 (own_h3_2 hI)) (show (fH (2 : Int32)) < 3 from own_ok3 (own_h3_2 hI)) (show ¬ (fH (0 : Int32)) < 0 from own_ok0 (own_h3_0 hI)) (show (fH (0 : Int32)) < 3 from own_ok3 (own_h3_0 hI))) (by decide) (by decide) (by decide) (by decide) (g := (mkF m 84 #[.val (.ref oq), .val (.int p1), .val (.long q2), .second] [(.int (2 : Int32)), (.ref oq)])) rfl (by rw [hml]; rfl) (lenOf own_pd1 rfl) rfl (by show 2 * 0 + _ ≤ _; exact Nat.le_of_eq rfl) (hb hby dof3_84) ?_
        rintro _ T13 L13 X13 ⟨rfl, N13q, K13, H13, S13, hq_13, hs13⟩
        show own_Go _ _ _ _ _ _ _ T13 (mkF m 87 #[.val (.ref oq), .val (.int p1), .val (.long q2), .second] [])
        have N13 := Fr.app N8 N13q
        obtain ⟨E_13, Fh_13, Fs_13, Fk_13, Fz_13, Ah_13, As_13, Ak_13⟩ := hq_13
        exact own_retV X13 hx hlk hret (hb hby dof3_87) ⟨rfl, N13, (((Keep.refl h0 [oq, oh, os, ok]).wr W8 (Or.inl (by simp))).trans K13 (fun x hx => Or.inl hx)), H13, S13, (own_up fK p1 q2), (3 : Int32), ⟨E_13, Fh_13, Fs_13, Fk_13, Fz_13, Ah_13, As_13, Ak_13⟩, own_offB3_2 hI ho hsv hc67_6 hs13⟩ (by decide) (by decide)
    · refine own_st (T' := T4) (g' := (mkF m 87 #[.val (.ref oq), .val (.int p1), .val (.long q2), .second] [])) (fun _ k => XS.ifYes X4.here hx rfl (pc0 := 67) (pc' := 87) rfl (hb hby dof3_67) rfl ((if0 _ _).trans (flt (mt (lw_lt _ _).mp hc67_6)).2.1) (by decide) (by decide) k) ?_
      exact own_retV X4 hx hlk hret (hb hby dof3_87) (by rw [e4]; exact ⟨rfl, N0, (Keep.refl h0 [oq, oh, os, ok]), fH, fS, fK, (3 : Int32), ⟨E_0, Fh_0, Fs_0, Fk_0, Fz_0, Ah_0, As_0, Ak_0⟩, own_offN hI' ho hc6_3⟩) (by decide) (by decide)
theorem rmof (l : Launch) (Z : State) (a0 : Array Value) (hw : ∀ d ∈ tables_1, d.before a0 Z = true) (ws : List Jvm.Cond) (oq oh os ok : Addr) (fH fS : Int32 → Int32) (fK : Int32 → Int64) (z1 : Int32) (p1 : Int32) (q2 : Int64) (h0 : Heap) (n0 : Nat) (Z0 : n0 ≤ h0.size) (hd : own_Ds n0 oq oh os ok) (hq : own_NQ Z h0 oq oh os ok fH fS fK z1) (hI : own_Inv fH fS fK z1) (ho : own_ok p1) :
    own_Met l Z ws (⟨"com/example/albatross/albatross/NodeQueue", "offer", "(IJ)V"⟩ : MethodName) prog_51_method_4_code 4 none ({ frames := 2, cells := 0, slots := 0, locals := 28 } : Room) ({ frames := 2, cells := 0, slots := 0, locals := 28 } : Room).cells ({ frames := 2, cells := 0, slots := 0, locals := 28 } : Room).slots #[(.ref oq), (.int p1), (.long q2)] h0 (fun v h L => v = none ∧ Fr n0 L ∧ Keep h0 h [oq, oh, os, ok] ∧ ∃ H' S' K' z', own_NQ Z h oq oh os ok H' S' K' z' ∧ own_Off fS fK p1 q2 H' S' K' z') := by
  rcases hI with ⟨rfl, hI⟩ | ⟨rfl, hI⟩ | ⟨rfl, hI⟩ | ⟨rfl, hI⟩
  · exact rmof0 l Z a0 hw ws oq oh os ok fH fS fK p1 q2 h0 n0 Z0 hd hq hI ho
  · exact rmof1 l Z a0 hw ws oq oh os ok fH fS fK p1 q2 h0 n0 Z0 hd hq hI ho
  · exact rmof2 l Z a0 hw ws oq oh os ok fH fS fK p1 q2 h0 n0 Z0 hd hq hI ho
  · exact rmof3 l Z a0 hw ws oq oh os ok fH fS fK p1 q2 h0 n0 Z0 hd hq hI ho
theorem rmpo (l : Launch) (Z : State) (a0 : Array Value) (hw : ∀ d ∈ tables_1, d.before a0 Z = true) (ws : List Jvm.Cond) (oq oh os ok : Addr) (fH fS : Int32 → Int32) (fK : Int32 → Int64) (z1 : Int32)  (h0 : Heap) (n0 : Nat) (Z0 : n0 ≤ h0.size) (hd : own_Ds n0 oq oh os ok) (hq : own_NQ Z h0 oq oh os ok fH fS fK z1) (hI : own_Inv fH fS fK z1) (hz : ¬ z1 = 0) :
    own_Met l Z ws (⟨"com/example/albatross/albatross/NodeQueue", "poll", "()I"⟩ : MethodName) prog_51_method_5_code 2 (some .int) ({ frames := 2, cells := 0, slots := 0, locals := 29 } : Room) ({ frames := 2, cells := 0, slots := 0, locals := 29 } : Room).cells ({ frames := 2, cells := 0, slots := 0, locals := 29 } : Room).slots #[(.ref oq)] h0 (fun v h L => ∃ f, v = some (.int f) ∧ Fr n0 L ∧ Keep h0 h [oq, oh, os, ok] ∧ ∃ H' S' z', own_NQ Z h oq oh os ok H' S' fK z' ∧ own_Pol fS fK f H' S' z') := by
  rcases hI with ⟨rfl, hI⟩ | ⟨rfl, hI⟩ | ⟨rfl, hI⟩ | ⟨rfl, hI⟩
  · exact absurd rfl hz
  · exact rmpo1 l Z a0 hw ws oq oh os ok fH fS fK  h0 n0 Z0 hd hq hI 
  · exact rmpo2 l Z a0 hw ws oq oh os ok fH fS fK  h0 n0 Z0 hd hq hI 
  · exact rmpo3 l Z a0 hw ws oq oh os ok fH fS fK  h0 n0 Z0 hd hq hI 
theorem rmcl (l : Launch) (Z : State) (a0 : Array Value) (hw : ∀ d ∈ tables_1, d.before a0 Z = true) (ws : List Jvm.Cond) (oq oh os ok : Addr) (fH fS : Int32 → Int32) (fK : Int32 → Int64) (z1 : Int32)  (h0 : Heap) (n0 : Nat) (Z0 : n0 ≤ h0.size) (hd : own_Ds n0 oq oh os ok) (hq : own_NQ Z h0 oq oh os ok fH fS fK z1) (hI : own_Inv fH fS fK z1)  :
    own_Met l Z ws (⟨"com/example/albatross/albatross/NodeQueue", "clear", "()V"⟩ : MethodName) prog_51_method_3_code 2 none ({ frames := 0, cells := 0, slots := 0, locals := 0 } : Room) ({ frames := 0, cells := 0, slots := 0, locals := 0 } : Room).cells ({ frames := 0, cells := 0, slots := 0, locals := 0 } : Room).slots #[(.ref oq)] h0 (fun v h L => v = none ∧ Fr n0 L ∧ Keep h0 h [oq, oh, os, ok] ∧ ∃ S', own_NQ Z h oq oh os ok fH S' fK (0 : Int32) ∧ own_I0 fH S' fK) := by
  rcases hI with ⟨rfl, hI⟩ | ⟨rfl, hI⟩ | ⟨rfl, hI⟩ | ⟨rfl, hI⟩
  · exact rmcl0 l Z a0 hw ws oq oh os ok fH fS fK  h0 n0 Z0 hd hq hI 
  · exact rmcl1 l Z a0 hw ws oq oh os ok fH fS fK  h0 n0 Z0 hd hq hI 
  · exact rmcl2 l Z a0 hw ws oq oh os ok fH fS fK  h0 n0 Z0 hd hq hI 
  · exact rmcl3 l Z a0 hw ws oq oh os ok fH fS fK  h0 n0 Z0 hd hq hI 
theorem din_0 : decode prog_51_method_1_code 0 = .ok (.aload_n 0, 1) := by decide +kernel
theorem din_1 : decode prog_51_method_1_code 1 = .ok (.invokespecial 1, 3) := by decide +kernel
theorem din_4 : decode prog_51_method_1_code 4 = .ok (.aload_n 0, 1) := by decide +kernel
theorem din_5 : decode prog_51_method_1_code 5 = .ok (.iload_n 1, 1) := by decide +kernel
theorem din_6 : decode prog_51_method_1_code 6 = .ok (.newarray .int, 2) := by decide +kernel
theorem din_8 : decode prog_51_method_1_code 8 = .ok (.putfield 7, 3) := by decide +kernel
theorem din_11 : decode prog_51_method_1_code 11 = .ok (.aload_n 0, 1) := by decide +kernel
theorem din_12 : decode prog_51_method_1_code 12 = .ok (.iload_n 1, 1) := by decide +kernel
theorem din_13 : decode prog_51_method_1_code 13 = .ok (.newarray .int, 2) := by decide +kernel
theorem din_15 : decode prog_51_method_1_code 15 = .ok (.putfield 13, 3) := by decide +kernel
theorem din_18 : decode prog_51_method_1_code 18 = .ok (.aload_n 0, 1) := by decide +kernel
theorem din_19 : decode prog_51_method_1_code 19 = .ok (.iload_n 1, 1) := by decide +kernel
theorem din_20 : decode prog_51_method_1_code 20 = .ok (.newarray .long, 2) := by decide +kernel
theorem din_22 : decode prog_51_method_1_code 22 = .ok (.putfield 16, 3) := by decide +kernel
theorem din_25 : decode prog_51_method_1_code 25 = .ok (.aload_n 0, 1) := by decide +kernel
theorem din_26 : decode prog_51_method_1_code 26 = .ok (.getfield 13, 3) := by decide +kernel
theorem din_29 : decode prog_51_method_1_code 29 = .ok (.iconst (-1), 1) := by decide +kernel
theorem din_30 : decode prog_51_method_1_code 30 = .ok (.invokestatic 20, 3) := by decide +kernel
theorem din_33 : decode prog_51_method_1_code 33 = .ok (.return_, 1) := by decide +kernel
theorem pn_in : plainName "com/example/albatross/albatross/NodeQueue" = true := by first | (simp [plainName, overriddenIn]; done) | decide +kernel
theorem ef_in (m : MethodId) (x0 : Addr) (x1 : Int32) : entryFrame m #[(.ref x0), (.int x1)] 2 = mkF m 0 #[.val (.ref x0), .val (.int x1)] [] := by first | (simp [entryFrame, mkF, argsToLocals, Value.category]; done) | rfl
set_option maxRecDepth 65536 in
set_option maxHeartbeats 40000000 in
theorem rmin (l : Launch) (Z : State) (a0 : Array Value) (hw : ∀ d ∈ tables_1, d.before a0 Z = true) (ws : List Jvm.Cond) (oq : Addr) (h0 : Heap) (n0 : Nat) (Z0 : n0 ≤ h0.size) (F1 : Fld Z h0 oq "com/example/albatross/albatross/NodeQueue" "heap" "[I" .null) (F2 : Fld Z h0 oq "com/example/albatross/albatross/NodeQueue" "slot" "[I" .null) (F3 : Fld Z h0 oq "com/example/albatross/albatross/NodeQueue" "key" "[J" .null) (F4 : Fld Z h0 oq "com/example/albatross/albatross/NodeQueue" "size" "I" (.int (0 : Int32))) (E1 : Exa Z h0 oq "com/example/albatross/albatross/NodeQueue") (G1 : n0 ≤ oq) :
    own_Met l Z ws (⟨"com/example/albatross/albatross/NodeQueue", "<init>", "(I)V"⟩ : MethodName) prog_51_method_1_code 2 none ({ frames := 1, cells := 3, slots := 9, locals := 15 } : Room) ({ frames := 1, cells := 3, slots := 9, locals := 15 } : Room).cells ({ frames := 1, cells := 3, slots := 9, locals := 15 } : Room).slots #[(.ref oq), (.int (3 : Int32))] h0 (fun v h L => v = none ∧ Fr n0 L ∧ Keep h0 h [oq] ∧ ∃ oh os ok, own_Ds n0 oq oh os ok ∧ own_NQ Z h oq oh os ok (fun _ => (0 : Int32)) (own_up (own_up (own_up (fun _ => (0 : Int32)) (0 : Int32) (-1 : Int32)) (1 : Int32) (-1 : Int32)) (2 : Int32) (-1 : Int32)) (fun _ => (0 : Int64)) (0 : Int32)) := by
  refine own_body (plainFor_of_name pn_in) ?_
  intro p e s m below meth c s₁ hx hby hml hown hnm hlk hret hZ hh X0 e0
  have N0 := Fr.nil n0
  refine own_cast (ef_in m oq (3 : Int32)) ?_
  refine own_st (T' := s₁) (g' := (mkF m 1 #[.val (.ref oq), .val (.int (3 : Int32))] [(.ref oq)])) (fun _ k => XS.aloadN X0.here hx rfl (hb hby din_0) rfl rfl k) ?_
  obtain ⟨T1, X1, e1, st1⟩ := initO X0 hx hZ hown (own_w hw 6 rfl) (own_w hw 7 rfl) (own_w hw 8 rfl) e0 (g := (mkF m 1 #[.val (.ref oq), .val (.int (3 : Int32))] [(.ref oq)])) rfl (by rw [hml]; rfl) rfl (hb hby din_1) (by decide) (W := 0) (by show 2 * 0 + _ ≤ _; exact Nat.le_of_eq rfl) (by decide)
  refine own_st (g' := (mkF m 4 #[.val (.ref oq), .val (.int (3 : Int32))] [])) st1 ?_
  refine own_st (T' := T1) (g' := (mkF m 5 #[.val (.ref oq), .val (.int (3 : Int32))] [(.ref oq)])) (fun _ k => XS.aloadN X1.here hx rfl (hb hby din_4) rfl rfl k) ?_
  refine own_st (T' := T1) (g' := (mkF m 6 #[.val (.ref oq), .val (.int (3 : Int32))] [(.int (3 : Int32)), (.ref oq)])) (fun _ k => XS.iloadN X1.here hx rfl (hb hby din_5) rfl k) ?_
  obtain ⟨T2, h2, k2, X2, e2, E2, A2, st2⟩ := newP X1 hx hZ (own_w hw 9 rfl) e1 (g := (mkF m 6 #[.val (.ref oq), .val (.int (3 : Int32))] [(.int (3 : Int32)), (.ref oq)])) rfl (hb hby din_6) rfl (by decide) (cap := 3) (by decide) (by decide) (by decide) (by decide)
  obtain ⟨b2, g2⟩ : ∃ z, z = h0.size := ⟨_, rfl⟩
  rw [← g2] at A2 st2
  have G_b2 : n0 ≤ b2 := Nat.le_trans Z0 (Nat.le_of_eq g2.symm)
  have sz_b2 : h0.size ≤ b2 := Nat.le_trans (Keep.refl h0 [oq]).1 (Nat.le_of_eq g2.symm)
  have V2 : own_A Z h2 b2 .int (3 : Int32) (fun i => (.int ((fun _ => (0 : Int32)) i))) := own_A.new A2 (by decide)
  refine own_st (g' := (mkF m 8 #[.val (.ref oq), .val (.int (3 : Int32))] [(.ref b2), (.ref oq)])) st2 ?_
  obtain ⟨T3, h3, X3, e3, W3, st3⟩ := putF X2 hx hZ hown (host := "") (Or.inl (own_w hw 10 rfl)) Via.refl e2 (F1.ext E2) (E1.ext E2) (Or.inr ⟨(own_w hw 11 rfl), rfl, hnm⟩) (own_w hw 1 rfl) (ty := (.array .int)) (by decide) rfl rfl (g := (mkF m 8 #[.val (.ref oq), .val (.int (3 : Int32))] [(.ref b2), (.ref oq)])) rfl rfl (hb hby din_8)
  have Fw3 := (F1.ext E2).same W3
  have N3 := Fr.snoc X3 N0 G1
  refine own_st (g' := (mkF m 11 #[.val (.ref oq), .val (.int (3 : Int32))] [])) st3 ?_
  refine own_st (T' := T3) (g' := (mkF m 12 #[.val (.ref oq), .val (.int (3 : Int32))] [(.ref oq)])) (fun _ k => XS.aloadN X3.here hx rfl (hb hby din_11) rfl rfl k) ?_
  refine own_st (T' := T3) (g' := (mkF m 13 #[.val (.ref oq), .val (.int (3 : Int32))] [(.int (3 : Int32)), (.ref oq)])) (fun _ k => XS.iloadN X3.here hx rfl (hb hby din_12) rfl k) ?_
  obtain ⟨T4, h4, k4, X4, e4, E4, A4, st4⟩ := newP X3 hx hZ (own_w hw 9 rfl) e3 (g := (mkF m 13 #[.val (.ref oq), .val (.int (3 : Int32))] [(.int (3 : Int32)), (.ref oq)])) rfl (hb hby din_13) rfl (by decide) (cap := 3) (by decide) (by decide) (by decide) (by decide)
  obtain ⟨b4, g4⟩ : ∃ z, z = h3.size := ⟨_, rfl⟩
  rw [← g4] at A4 st4
  have G_b4 : n0 ≤ b4 := Nat.le_trans (Nat.le_trans (Nat.le_trans Z0 E2.1) (Nat.le_of_eq W3.size.symm)) (Nat.le_of_eq g4.symm)
  have sz_b4 : h0.size ≤ b4 := Nat.le_trans (((Keep.refl h0 [oq]).ext E2).wr W3 (Or.inl (by simp))).1 (Nat.le_of_eq g4.symm)
  have V4 : own_A Z h4 b4 .int (3 : Int32) (fun i => (.int ((fun _ => (0 : Int32)) i))) := own_A.new A4 (by decide)
  refine own_st (g' := (mkF m 15 #[.val (.ref oq), .val (.int (3 : Int32))] [(.ref b4), (.ref oq)])) st4 ?_
  obtain ⟨T5, h5, X5, e5, W5, st5⟩ := putF X4 hx hZ hown (host := "") (Or.inl (own_w hw 12 rfl)) Via.refl e4 (((F2.ext E2).other W3 (Or.inr (slot_ne (Or.inr (own_w hw 13 rfl)) (Or.inr (own_w hw 11 rfl)) (by decide) (t := (.array .int)) (t' := (.array .int)) (by decide) (by decide)))).ext E4) (((E1.ext E2).wr W3).ext E4) (Or.inr ⟨(own_w hw 13 rfl), rfl, hnm⟩) (own_w hw 1 rfl) (ty := (.array .int)) (by decide) rfl rfl (g := (mkF m 15 #[.val (.ref oq), .val (.int (3 : Int32))] [(.ref b4), (.ref oq)])) rfl rfl (hb hby din_15)
  have Fw5 := (((F2.ext E2).other W3 (Or.inr (slot_ne (Or.inr (own_w hw 13 rfl)) (Or.inr (own_w hw 11 rfl)) (by decide) (t := (.array .int)) (t' := (.array .int)) (by decide) (by decide)))).ext E4).same W5
  have N5 := Fr.snoc X5 N3 G1
  refine own_st (g' := (mkF m 18 #[.val (.ref oq), .val (.int (3 : Int32))] [])) st5 ?_
  refine own_st (T' := T5) (g' := (mkF m 19 #[.val (.ref oq), .val (.int (3 : Int32))] [(.ref oq)])) (fun _ k => XS.aloadN X5.here hx rfl (hb hby din_18) rfl rfl k) ?_
  refine own_st (T' := T5) (g' := (mkF m 20 #[.val (.ref oq), .val (.int (3 : Int32))] [(.int (3 : Int32)), (.ref oq)])) (fun _ k => XS.iloadN X5.here hx rfl (hb hby din_19) rfl k) ?_
  obtain ⟨T6, h6, k6, X6, e6, E6, A6, st6⟩ := newP X5 hx hZ (own_w hw 14 rfl) e5 (g := (mkF m 20 #[.val (.ref oq), .val (.int (3 : Int32))] [(.int (3 : Int32)), (.ref oq)])) rfl (hb hby din_20) rfl (by decide) (cap := 3) (by decide) (by decide) (by decide) (by decide)
  obtain ⟨b6, g6⟩ : ∃ z, z = h5.size := ⟨_, rfl⟩
  rw [← g6] at A6 st6
  have G_b6 : n0 ≤ b6 := Nat.le_trans (Nat.le_trans (Nat.le_trans (Nat.le_trans (Nat.le_trans Z0 E2.1) (Nat.le_of_eq W3.size.symm)) E4.1) (Nat.le_of_eq W5.size.symm)) (Nat.le_of_eq g6.symm)
  have sz_b6 : h0.size ≤ b6 := Nat.le_trans (((((Keep.refl h0 [oq]).ext E2).wr W3 (Or.inl (by simp))).ext E4).wr W5 (Or.inl (by simp))).1 (Nat.le_of_eq g6.symm)
  have V6 : own_A Z h6 b6 .long (3 : Int32) (fun i => (.long ((fun _ => (0 : Int64)) i))) := own_A.new A6 (by decide)
  refine own_st (g' := (mkF m 22 #[.val (.ref oq), .val (.int (3 : Int32))] [(.ref b6), (.ref oq)])) st6 ?_
  obtain ⟨T7, h7, X7, e7, W7, st7⟩ := putF X6 hx hZ hown (host := "") (Or.inl (own_w hw 15 rfl)) Via.refl e6 (((((F3.ext E2).other W3 (Or.inr (slot_ne (Or.inr (own_w hw 16 rfl)) (Or.inr (own_w hw 11 rfl)) (by decide) (t := (.array .long)) (t' := (.array .int)) (by decide) (by decide)))).ext E4).other W5 (Or.inr (slot_ne (Or.inr (own_w hw 16 rfl)) (Or.inr (own_w hw 13 rfl)) (by decide) (t := (.array .long)) (t' := (.array .int)) (by decide) (by decide)))).ext E6) (((((E1.ext E2).wr W3).ext E4).wr W5).ext E6) (Or.inr ⟨(own_w hw 16 rfl), rfl, hnm⟩) (own_w hw 1 rfl) (ty := (.array .long)) (by decide) rfl rfl (g := (mkF m 22 #[.val (.ref oq), .val (.int (3 : Int32))] [(.ref b6), (.ref oq)])) rfl rfl (hb hby din_22)
  have Fw7 := (((((F3.ext E2).other W3 (Or.inr (slot_ne (Or.inr (own_w hw 16 rfl)) (Or.inr (own_w hw 11 rfl)) (by decide) (t := (.array .long)) (t' := (.array .int)) (by decide) (by decide)))).ext E4).other W5 (Or.inr (slot_ne (Or.inr (own_w hw 16 rfl)) (Or.inr (own_w hw 13 rfl)) (by decide) (t := (.array .long)) (t' := (.array .int)) (by decide) (by decide)))).ext E6).same W7
  have N7 := Fr.snoc X7 N5 G1
  refine own_st (g' := (mkF m 25 #[.val (.ref oq), .val (.int (3 : Int32))] [])) st7 ?_
  refine own_st (T' := T7) (g' := (mkF m 26 #[.val (.ref oq), .val (.int (3 : Int32))] [(.ref oq)])) (fun _ k => XS.aloadN X7.here hx rfl (hb hby din_25) rfl rfl k) ?_
  obtain ⟨T8, X8, e8, st8⟩ := getF X7 hx hZ hown (host := "") (Or.inl (own_w hw 12 rfl)) Via.refl e7 ((Fw5.ext E6).other W7 (Or.inr (slot_ne (Or.inr (own_w hw 13 rfl)) (Or.inr (own_w hw 16 rfl)) (by decide) (t := (.array .int)) (t' := (.array .long)) (by decide) (by decide)))) (g := (mkF m 26 #[.val (.ref oq), .val (.int (3 : Int32))] [(.ref oq)])) rfl rfl (hb hby din_26)
  refine own_st (g' := (mkF m 29 #[.val (.ref oq), .val (.int (3 : Int32))] [(.ref b4)])) st8 ?_
  refine own_st (T' := T8) (g' := (mkF m 30 #[.val (.ref oq), .val (.int (3 : Int32))] [(.int (-1 : Int32)), (.ref b4)])) (fun _ k => XS.iconst X8.here hx rfl (hb hby din_29) k) ?_
  refine own_callS X8 hx hZ (y := (⟨"java/util/Arrays", "fill", "([II)V"⟩ : MethodName)) hown (own_w hw 17 rfl) (own_w hw 18 rfl) (own_w hw 19 rfl) (own_w hw 20 rfl) (by decide) (W := 0) e8 (argsL := [(.ref b4), (.int (-1 : Int32))]) (rest := []) (rmfi l Z a0 hw [] b4 (fun _ => (0 : Int32)) h7 n0 (Nat.le_trans (Nat.le_trans (Nat.le_trans (Nat.le_trans (Nat.le_trans (Nat.le_trans Z0 E2.1) (Nat.le_of_eq W3.size.symm)) E4.1) (Nat.le_of_eq W5.size.symm)) E6.1) (Nat.le_of_eq W7.size.symm)) (((V4.other W5 (Ne.symm (Nat.ne_of_lt (Nat.lt_of_lt_of_le ((E1.ext E2).wr W3).lt (Nat.le_of_eq g4.symm))))).ext E6).other W7 (Ne.symm (Nat.ne_of_lt (Nat.lt_of_lt_of_le ((E1.ext E2).wr W3).lt (Nat.le_of_eq g4.symm))))) G_b4) (by decide) (by decide) (by decide) (by decide) (g := (mkF m 30 #[.val (.ref oq), .val (.int (3 : Int32))] [(.int (-1 : Int32)), (.ref b4)])) rfl (by rw [hml]; rfl) (lenOf own_pd2 rfl) rfl (by show 2 * 0 + _ ≤ _; exact Nat.le_of_eq rfl) (hb hby din_30) ?_
  rintro _ T9 L9 X9 ⟨rfl, N9q, K9, V9⟩
  show own_Go _ _ _ _ _ _ _ T9 (mkF m 33 #[.val (.ref oq), .val (.int (3 : Int32))] [])
  have N9 := Fr.app N7 N9q
  exact own_retV X9 hx hlk hret (hb hby din_33) ⟨rfl, N9, ((((((((Keep.refl h0 [oq]).ext E2).wr W3 (Or.inl (by simp))).ext E4).wr W5 (Or.inl (by simp))).ext E6).wr W7 (Or.inl (by simp))).trans K9 (allS (Or.inr sz_b4) all0)), b2, b4, b6, ⟨G1, G_b2, G_b4, G_b6, (Nat.ne_of_lt (Nat.lt_of_lt_of_le E1.lt (Nat.le_of_eq g2.symm))), (Nat.ne_of_lt (Nat.lt_of_lt_of_le ((E1.ext E2).wr W3).lt (Nat.le_of_eq g4.symm))), (Nat.ne_of_lt (Nat.lt_of_lt_of_le ((((E1.ext E2).wr W3).ext E4).wr W5).lt (Nat.le_of_eq g6.symm))), (Nat.ne_of_lt (Nat.lt_of_lt_of_le (V2.other W3 (Ne.symm (Nat.ne_of_lt (Nat.lt_of_lt_of_le E1.lt (Nat.le_of_eq g2.symm))))).lt (Nat.le_of_eq g4.symm))), (Nat.ne_of_lt (Nat.lt_of_lt_of_le (((V2.other W3 (Ne.symm (Nat.ne_of_lt (Nat.lt_of_lt_of_le E1.lt (Nat.le_of_eq g2.symm))))).ext E4).other W5 (Ne.symm (Nat.ne_of_lt (Nat.lt_of_lt_of_le E1.lt (Nat.le_of_eq g2.symm))))).lt (Nat.le_of_eq g6.symm))), (Nat.ne_of_lt (Nat.lt_of_lt_of_le (V4.other W5 (Ne.symm (Nat.ne_of_lt (Nat.lt_of_lt_of_le ((E1.ext E2).wr W3).lt (Nat.le_of_eq g4.symm))))).lt (Nat.le_of_eq g6.symm)))⟩, ⟨(((((((E1.ext E2).wr W3).ext E4).wr W5).ext E6).wr W7).keep K9), (((((Fw3.ext E4).other W5 (Or.inr (slot_ne (Or.inr (own_w hw 11 rfl)) (Or.inr (own_w hw 13 rfl)) (by decide) (t := (.array .int)) (t' := (.array .int)) (by decide) (by decide)))).ext E6).other W7 (Or.inr (slot_ne (Or.inr (own_w hw 11 rfl)) (Or.inr (own_w hw 16 rfl)) (by decide) (t := (.array .int)) (t' := (.array .long)) (by decide) (by decide)))).keep K9 (ninS (Nat.ne_of_lt (Nat.lt_of_lt_of_le ((E1.ext E2).wr W3).lt (Nat.le_of_eq g4.symm))) nin0)), (((Fw5.ext E6).other W7 (Or.inr (slot_ne (Or.inr (own_w hw 13 rfl)) (Or.inr (own_w hw 16 rfl)) (by decide) (t := (.array .int)) (t' := (.array .long)) (by decide) (by decide)))).keep K9 (ninS (Nat.ne_of_lt (Nat.lt_of_lt_of_le ((E1.ext E2).wr W3).lt (Nat.le_of_eq g4.symm))) nin0)), (Fw7.keep K9 (ninS (Nat.ne_of_lt (Nat.lt_of_lt_of_le ((E1.ext E2).wr W3).lt (Nat.le_of_eq g4.symm))) nin0)), (((((((F4.ext E2).other W3 (Or.inr (slot_ne (Or.inl (own_w hw 28 rfl)) (Or.inr (own_w hw 11 rfl)) (by decide) (t := .int) (t' := (.array .int)) (by decide) (by decide)))).ext E4).other W5 (Or.inr (slot_ne (Or.inl (own_w hw 28 rfl)) (Or.inr (own_w hw 13 rfl)) (by decide) (t := .int) (t' := (.array .int)) (by decide) (by decide)))).ext E6).other W7 (Or.inr (slot_ne (Or.inl (own_w hw 28 rfl)) (Or.inr (own_w hw 16 rfl)) (by decide) (t := .int) (t' := (.array .long)) (by decide) (by decide)))).keep K9 (ninS (Nat.ne_of_lt (Nat.lt_of_lt_of_le ((E1.ext E2).wr W3).lt (Nat.le_of_eq g4.symm))) nin0)), ((((((V2.other W3 (Ne.symm (Nat.ne_of_lt (Nat.lt_of_lt_of_le E1.lt (Nat.le_of_eq g2.symm))))).ext E4).other W5 (Ne.symm (Nat.ne_of_lt (Nat.lt_of_lt_of_le E1.lt (Nat.le_of_eq g2.symm))))).ext E6).other W7 (Ne.symm (Nat.ne_of_lt (Nat.lt_of_lt_of_le E1.lt (Nat.le_of_eq g2.symm))))).keep K9 (ninS (Nat.ne_of_lt (Nat.lt_of_lt_of_le (V2.other W3 (Ne.symm (Nat.ne_of_lt (Nat.lt_of_lt_of_le E1.lt (Nat.le_of_eq g2.symm))))).lt (Nat.le_of_eq g4.symm))) nin0)), V9, ((V6.other W7 (Ne.symm (Nat.ne_of_lt (Nat.lt_of_lt_of_le ((((E1.ext E2).wr W3).ext E4).wr W5).lt (Nat.le_of_eq g6.symm))))).keep K9 (ninS (Ne.symm (Nat.ne_of_lt (Nat.lt_of_lt_of_le (V4.other W5 (Ne.symm (Nat.ne_of_lt (Nat.lt_of_lt_of_le ((E1.ext E2).wr W3).lt (Nat.le_of_eq g4.symm))))).lt (Nat.le_of_eq g6.symm)))) nin0))⟩⟩ (by decide) (by decide)
theorem own_init : own_Inv (fun _ => (0 : Int32)) (own_up (own_up (own_up (fun _ => (0 : Int32)) (0 : Int32) (-1 : Int32)) (1 : Int32) (-1 : Int32)) (2 : Int32) (-1 : Int32)) (fun _ => (0 : Int64)) 0 := own_inv0 (fun v h => by rcases h with rfl | rfl | rfl <;> rfl)
def own_Rel (S B : Int32 → Int32) : Prop := ∀ v, own_ok v → (B v = 1 ∧ ¬ S v < 0) ∨ (B v = 0 ∧ S v < 0)
section
variable {H S H' S' B : Int32 → Int32} {K K' : Int32 → Int64} {p f z z' : Int32} {k : Int64}
theorem own_rel0 : own_Rel (own_up (own_up (own_up (fun _ => (0 : Int32)) (0 : Int32) (-1 : Int32)) (1 : Int32) (-1 : Int32)) (2 : Int32) (-1 : Int32)) (fun _ => (0 : Int32)) := fun v h => Or.inr ⟨rfl, by rcases h with rfl | rfl | rfl <;> decide⟩
theorem own_relO (hR : own_Rel S B) (hO : own_Off S K p k H' S' K' z') (ho : own_ok p) : own_Rel S' (own_up B p 1) := by
  intro v hv
  have q := hO.2.1 v hv
  by_cases e : v = p
  · subst e; rw [own_up_eq]; exact Or.inl ⟨rfl, fun u => (q.mp u).2 rfl⟩
  · rw [own_up_ne _ _ e]
    rcases hR v hv with ⟨b, s⟩ | ⟨b, s⟩
    · exact Or.inl ⟨b, fun u => s (q.mp u).1⟩
    · exact Or.inr ⟨b, q.mpr ⟨s, e⟩⟩
theorem own_relC (hC : own_I0 H S K) : own_Rel S (own_up (own_up (own_up B 0 0) 1 0) 2 0) := by
  intro v hv
  refine Or.inr ⟨?_, by rw [hC v hv]; decide⟩
  rcases hv with rfl | rfl | rfl <;> rfl
theorem own_relP (hR : own_Rel S B) (hP : own_Pol S K f H' S' z') : ¬ B f = 0 ∧ own_Rel S' (own_up B f 0) := by
  obtain ⟨ho, hs, -, -, hm⟩ := hP
  refine ⟨?_, fun v hv => ?_⟩
  · rcases hR f ho with ⟨b, -⟩ | ⟨-, s⟩
    · rw [b]; decide
    · exact absurd s hs
  · have q := hm v hv
    by_cases e : v = f
    · subst e; rw [own_up_eq]; exact Or.inr ⟨rfl, q.mpr (Or.inr rfl)⟩
    · rw [own_up_ne _ _ e]
      rcases hR v hv with ⟨b, s⟩ | ⟨b, s⟩
      · exact Or.inl ⟨b, fun u => (q.mp u).elim s e⟩
      · exact Or.inr ⟨b, q.mpr (Or.inl s)⟩
theorem own_b0 (hR : own_Rel S B) {v : Int32} (hv : own_ok v) : B v = 0 ↔ S v < 0 := by
  rcases hR v hv with ⟨b, s⟩ | ⟨b, s⟩
  · rw [b]; exact ⟨fun q => absurd q (by decide), fun q => absurd q s⟩
  · exact ⟨fun _ => s, fun _ => b⟩
theorem own_any (hR : own_Rel S B) (hI : own_Inv H S K z) (h : ¬ (if (B (0 : Int32)) = (0 : Int32) then (if (B (1 : Int32)) = (0 : Int32) then (if (B (2 : Int32)) = (0 : Int32) then (0 : Int32) else (1 : Int32)) else (1 : Int32)) else (1 : Int32)) = (0 : Int32)) : ¬ z = 0 := by
  intro e
  obtain ⟨a, b, c⟩ := (own_z0 hI).mp e
  rw [if_pos ((own_b0 hR own_k0).mpr a), if_pos ((own_b0 hR own_k1).mpr b), if_pos ((own_b0 hR own_k2).mpr c)] at h
  exact h rfl
theorem own_last (hI : own_Inv H S K z) (hR : own_Rel S B) : (if z = (0 : Int32) then (1 : Int32) else (0 : Int32)) = (if (B (0 : Int32)) = (0 : Int32) then (if (B (1 : Int32)) = (0 : Int32) then (if (B (2 : Int32)) = (0 : Int32) then (1 : Int32) else (0 : Int32)) else (0 : Int32)) else (0 : Int32)) := by
  by_cases e : z = 0
  · obtain ⟨a, b, c⟩ := (own_z0 hI).mp e
    rw [if_pos e, if_pos ((own_b0 hR own_k0).mpr a), if_pos ((own_b0 hR own_k1).mpr b), if_pos ((own_b0 hR own_k2).mpr c)]
  · rw [if_neg e]
    by_cases a : B 0 = 0
    · rw [if_pos a]
      by_cases b : B 1 = 0
      · rw [if_pos b]
        by_cases c : B 2 = 0
        · exact absurd ((own_z0 hI).mpr ⟨(own_b0 hR own_k0).mp a, (own_b0 hR own_k1).mp b, (own_b0 hR own_k2).mp c⟩) e
        · rw [if_neg c]
      · rw [if_neg b]
    · rw [if_neg a]
theorem own_okle {v : Int32} (h : own_ok v) : ¬ (2 : Int32) < v := by rcases h with rfl | rfl | rfl <;> decide
theorem own_node {p nv : Int32} (h : ((((p.toUInt32 >>> ((2 : Int32) &&& 31).toUInt32).toInt32) &&& (3 : Int32)) % (3 : Int32)) = nv) : own_ok nv := by
  generalize ((p.toUInt32 >>> ((2 : Int32) &&& 31).toUInt32).toInt32) = w at h
  have h1 := c_and w (3 : Int32) (by decide)
  have h2 := (c_irem (w &&& (3 : Int32)) (3 : Int32) 3 rfl).1 h1.1
  rw [h] at h2
  simp only [own_ok, ← Int32.toInt_inj]
  simp
  omega
end
theorem own_nqw {Z : State} {h h' : Heap} {oq oh os ok b : Addr} {fH fS : Int32 → Int32} {fK : Int32 → Int64} {z1 : Int32} {sl : Nat} {v : Value} (W : Wr h h' b sl v) (hnb : b ∉ [oq, oh, os, ok]) (q : own_NQ Z h oq oh os ok fH fS fK z1) : own_NQ Z h' oq oh os ok fH fS fK z1 := by
  obtain ⟨E, F1, F2, F3, F4, A1, A2, A3⟩ := q
  have n1 : oq ≠ b := fun e => hnb (by simp [e])
  have n2 : oh ≠ b := fun e => hnb (by simp [e])
  have n3 : os ≠ b := fun e => hnb (by simp [e])
  have n4 : ok ≠ b := fun e => hnb (by simp [e])
  exact ⟨E.wr W, F1.other W (Or.inl n1), F2.other W (Or.inl n1), F3.other W (Or.inl n1), F4.other W (Or.inl n1), A1.other W n2, A2.other W n3, A3.other W n4⟩
theorem own_nqe {Z : State} {h h' : Heap} {oq oh os ok : Addr} {fH fS : Int32 → Int32} {fK : Int32 → Int64} {z1 : Int32} (E' : Ext h h') (q : own_NQ Z h oq oh os ok fH fS fK z1) : own_NQ Z h' oq oh os ok fH fS fK z1 := by
  obtain ⟨E, F1, F2, F3, F4, A1, A2, A3⟩ := q
  exact ⟨E.ext E', F1.ext E', F2.ext E', F3.ext E', F4.ext E', A1.ext E', A2.ext E', A3.ext E'⟩
theorem own_nin {Z : State} {h : Heap} {oq oh os ok b : Addr} {fH fS : Int32 → Int32} {fK : Int32 → Int64} {z1 : Int32} (q : own_NQ Z h oq oh os ok fH fS fK z1) (g : b = h.size) : b ∉ [oq, oh, os, ok] := by
  obtain ⟨E, F1, F2, F3, F4, A1, A2, A3⟩ := q
  have a1 := E.lt; have a2 := A1.lt; have a3 := A2.lt; have a4 := A3.lt
  intro hm
  simp only [List.mem_cons, List.not_mem_nil, or_false] at hm
  rcases hm with e | e | e | e <;> (subst e; rw [g] at *; exact absurd ‹_› (Nat.lt_irrefl _))
theorem dst_0 : decode method_3_code 0 = .ok (.iload_n 2, 1) := by decide +kernel
theorem dst_1 : decode method_3_code 1 = .ok (.iconst 3, 1) := by decide +kernel
theorem dst_2 : decode method_3_code 2 = .ok (.iand, 1) := by decide +kernel
theorem dst_3 : decode method_3_code 3 = .ok (.istore 5, 2) := by decide +kernel
theorem dst_5 : decode method_3_code 5 = .ok (.iload_n 2, 1) := by decide +kernel
theorem dst_6 : decode method_3_code 6 = .ok (.iconst 2, 1) := by decide +kernel
theorem dst_7 : decode method_3_code 7 = .ok (.iushr, 1) := by decide +kernel
theorem dst_8 : decode method_3_code 8 = .ok (.iconst 3, 1) := by decide +kernel
theorem dst_9 : decode method_3_code 9 = .ok (.iand, 1) := by decide +kernel
theorem dst_10 : decode method_3_code 10 = .ok (.iconst 3, 1) := by decide +kernel
theorem dst_11 : decode method_3_code 11 = .ok (.irem, 1) := by decide +kernel
theorem dst_12 : decode method_3_code 12 = .ok (.istore 6, 2) := by decide +kernel
theorem dst_14 : decode method_3_code 14 = .ok (.aload_n 1, 1) := by decide +kernel
theorem dst_15 : decode method_3_code 15 = .ok (.iconst 0, 1) := by decide +kernel
theorem dst_16 : decode method_3_code 16 = .ok (.baload, 1) := by decide +kernel
theorem dst_17 : decode method_3_code 17 = .ok (.ifCond .ne 15, 3) := by decide +kernel
theorem dst_20 : decode method_3_code 20 = .ok (.aload_n 1, 1) := by decide +kernel
theorem dst_21 : decode method_3_code 21 = .ok (.iconst 1, 1) := by decide +kernel
theorem dst_22 : decode method_3_code 22 = .ok (.baload, 1) := by decide +kernel
theorem dst_23 : decode method_3_code 23 = .ok (.ifCond .ne 9, 3) := by decide +kernel
theorem dst_26 : decode method_3_code 26 = .ok (.aload_n 1, 1) := by decide +kernel
theorem dst_27 : decode method_3_code 27 = .ok (.iconst 2, 1) := by decide +kernel
theorem dst_28 : decode method_3_code 28 = .ok (.baload, 1) := by decide +kernel
theorem dst_29 : decode method_3_code 29 = .ok (.ifCond .eq 7, 3) := by decide +kernel
theorem dst_32 : decode method_3_code 32 = .ok (.iconst 1, 1) := by decide +kernel
theorem dst_33 : decode method_3_code 33 = .ok (.goto 4, 3) := by decide +kernel
theorem dst_36 : decode method_3_code 36 = .ok (.iconst 0, 1) := by decide +kernel
theorem dst_37 : decode method_3_code 37 = .ok (.istore 7, 2) := by decide +kernel
theorem dst_39 : decode method_3_code 39 = .ok (.iload 5, 2) := by decide +kernel
theorem dst_41 : decode method_3_code 41 = .ok (.iconst 3, 1) := by decide +kernel
theorem dst_42 : decode method_3_code 42 = .ok (.if_icmp .ne 22, 3) := by decide +kernel
theorem dst_45 : decode method_3_code 45 = .ok (.aload_n 0, 1) := by decide +kernel
theorem dst_46 : decode method_3_code 46 = .ok (.invokevirtual 22, 3) := by decide +kernel
theorem dst_49 : decode method_3_code 49 = .ok (.aload_n 1, 1) := by decide +kernel
theorem dst_50 : decode method_3_code 50 = .ok (.iconst 0, 1) := by decide +kernel
theorem dst_51 : decode method_3_code 51 = .ok (.iconst 0, 1) := by decide +kernel
theorem dst_52 : decode method_3_code 52 = .ok (.bastore, 1) := by decide +kernel
theorem dst_53 : decode method_3_code 53 = .ok (.aload_n 1, 1) := by decide +kernel
theorem dst_54 : decode method_3_code 54 = .ok (.iconst 1, 1) := by decide +kernel
theorem dst_55 : decode method_3_code 55 = .ok (.iconst 0, 1) := by decide +kernel
theorem dst_56 : decode method_3_code 56 = .ok (.bastore, 1) := by decide +kernel
theorem dst_57 : decode method_3_code 57 = .ok (.aload_n 1, 1) := by decide +kernel
theorem dst_58 : decode method_3_code 58 = .ok (.iconst 2, 1) := by decide +kernel
theorem dst_59 : decode method_3_code 59 = .ok (.iconst 0, 1) := by decide +kernel
theorem dst_60 : decode method_3_code 60 = .ok (.bastore, 1) := by decide +kernel
theorem dst_61 : decode method_3_code 61 = .ok (.goto 62, 3) := by decide +kernel
theorem dst_64 : decode method_3_code 64 = .ok (.iload 5, 2) := by decide +kernel
theorem dst_66 : decode method_3_code 66 = .ok (.iconst 2, 1) := by decide +kernel
theorem dst_67 : decode method_3_code 67 = .ok (.if_icmp .ne 44, 3) := by decide +kernel
theorem dst_70 : decode method_3_code 70 = .ok (.iload 7, 2) := by decide +kernel
theorem dst_72 : decode method_3_code 72 = .ok (.ifCond .eq 39, 3) := by decide +kernel
theorem dst_75 : decode method_3_code 75 = .ok (.aload_n 0, 1) := by decide +kernel
theorem dst_76 : decode method_3_code 76 = .ok (.invokevirtual 25, 3) := by decide +kernel
theorem dst_79 : decode method_3_code 79 = .ok (.istore 8, 2) := by decide +kernel
theorem dst_81 : decode method_3_code 81 = .ok (.iload 8, 2) := by decide +kernel
theorem dst_83 : decode method_3_code 83 = .ok (.ifCond .lt 9, 3) := by decide +kernel
theorem dst_86 : decode method_3_code 86 = .ok (.iload 8, 2) := by decide +kernel
theorem dst_88 : decode method_3_code 88 = .ok (.iconst 2, 1) := by decide +kernel
theorem dst_89 : decode method_3_code 89 = .ok (.if_icmp .le 5, 3) := by decide +kernel
theorem dst_94 : decode method_3_code 94 = .ok (.aload_n 1, 1) := by decide +kernel
theorem dst_95 : decode method_3_code 95 = .ok (.iload 8, 2) := by decide +kernel
theorem dst_97 : decode method_3_code 97 = .ok (.baload, 1) := by decide +kernel
theorem dst_98 : decode method_3_code 98 = .ok (.ifCond .ne 5, 3) := by decide +kernel
theorem dst_103 : decode method_3_code 103 = .ok (.aload_n 1, 1) := by decide +kernel
theorem dst_104 : decode method_3_code 104 = .ok (.iload 8, 2) := by decide +kernel
theorem dst_106 : decode method_3_code 106 = .ok (.iconst 0, 1) := by decide +kernel
theorem dst_107 : decode method_3_code 107 = .ok (.bastore, 1) := by decide +kernel
theorem dst_108 : decode method_3_code 108 = .ok (.goto 15, 3) := by decide +kernel
theorem dst_111 : decode method_3_code 111 = .ok (.aload_n 0, 1) := by decide +kernel
theorem dst_112 : decode method_3_code 112 = .ok (.iload 6, 2) := by decide +kernel
theorem dst_114 : decode method_3_code 114 = .ok (.lload_n 3, 1) := by decide +kernel
theorem dst_115 : decode method_3_code 115 = .ok (.invokevirtual 29, 3) := by decide +kernel
theorem dst_118 : decode method_3_code 118 = .ok (.aload_n 1, 1) := by decide +kernel
theorem dst_119 : decode method_3_code 119 = .ok (.iload 6, 2) := by decide +kernel
theorem dst_121 : decode method_3_code 121 = .ok (.iconst 1, 1) := by decide +kernel
theorem dst_122 : decode method_3_code 122 = .ok (.bastore, 1) := by decide +kernel
theorem dst_123 : decode method_3_code 123 = .ok (.aload_n 1, 1) := by decide +kernel
theorem dst_124 : decode method_3_code 124 = .ok (.iconst 0, 1) := by decide +kernel
theorem dst_125 : decode method_3_code 125 = .ok (.baload, 1) := by decide +kernel
theorem dst_126 : decode method_3_code 126 = .ok (.ifCond .ne 19, 3) := by decide +kernel
theorem dst_129 : decode method_3_code 129 = .ok (.aload_n 1, 1) := by decide +kernel
theorem dst_130 : decode method_3_code 130 = .ok (.iconst 1, 1) := by decide +kernel
theorem dst_131 : decode method_3_code 131 = .ok (.baload, 1) := by decide +kernel
theorem dst_132 : decode method_3_code 132 = .ok (.ifCond .ne 13, 3) := by decide +kernel
theorem dst_135 : decode method_3_code 135 = .ok (.aload_n 1, 1) := by decide +kernel
theorem dst_136 : decode method_3_code 136 = .ok (.iconst 2, 1) := by decide +kernel
theorem dst_137 : decode method_3_code 137 = .ok (.baload, 1) := by decide +kernel
theorem dst_138 : decode method_3_code 138 = .ok (.ifCond .ne 7, 3) := by decide +kernel
theorem dst_141 : decode method_3_code 141 = .ok (.iconst 1, 1) := by decide +kernel
theorem dst_142 : decode method_3_code 142 = .ok (.goto 4, 3) := by decide +kernel
theorem dst_145 : decode method_3_code 145 = .ok (.iconst 0, 1) := by decide +kernel
theorem dst_146 : decode method_3_code 146 = .ok (.istore 8, 2) := by decide +kernel
theorem dst_148 : decode method_3_code 148 = .ok (.aload_n 0, 1) := by decide +kernel
theorem dst_149 : decode method_3_code 149 = .ok (.invokevirtual 12, 3) := by decide +kernel
theorem dst_152 : decode method_3_code 152 = .ok (.iload 8, 2) := by decide +kernel
theorem dst_154 : decode method_3_code 154 = .ok (.if_icmp .ne 7, 3) := by decide +kernel
theorem dst_157 : decode method_3_code 157 = .ok (.iconst 1, 1) := by decide +kernel
theorem dst_158 : decode method_3_code 158 = .ok (.goto 4, 3) := by decide +kernel
theorem dst_162 : decode method_3_code 162 = .ok (.ireturn, 1) := by decide +kernel
theorem pn_st : plainName "com/example/albatross/albatross/NodeQueueIsEmptyPinLaw" = true := by first | (simp [plainName, overriddenIn]; done) | decide +kernel
theorem ef_st (m : MethodId) (x0 : Addr) (x1 : Addr) (x2 : Int32) (x3 : Int64) : entryFrame m #[(.ref x0), (.ref x1), (.int x2), (.long x3)] 9 = mkF m 0 #[.val (.ref x0), .val (.ref x1), .val (.int x2), .val (.long x3), .second, .unset, .unset, .unset, .unset] [] := by first | (simp [entryFrame, mkF, argsToLocals, Value.category]; done) | rfl
set_option maxRecDepth 65536 in
set_option maxHeartbeats 40000000 in
theorem rmst (l : Launch) (Z : State) (a0 : Array Value) (hw : ∀ d ∈ tables_1, d.before a0 Z = true) (ws : List Jvm.Cond) (oq oh os ok : Addr) (fH fS : Int32 → Int32) (fK : Int32 → Int64) (z1 : Int32) (ob : Addr) (fB : Int32 → Int32) (p2 : Int32) (q3 : Int64) (h0 : Heap) (n0 : Nat) (Z0 : n0 ≤ h0.size) (hd : own_Ds n0 oq oh os ok) (hq : own_NQ Z h0 oq oh os ok fH fS fK z1) (hI : own_Inv fH fS fK z1) (Ab : own_A Z h0 ob .boolean (3 : Int32) (fun i => (.int (fB i)))) (G_b : n0 ≤ ob) (hnb : ob ∉ [oq, oh, os, ok]) (hR : own_Rel fS fB) :
    own_Met l Z ws (⟨"com/example/albatross/albatross/NodeQueueIsEmptyPinLaw", "step", "(Lcom/example/albatross/albatross/NodeQueue;[ZIJ)Z"⟩ : MethodName) method_3_code 9 (some .boolean) ({ frames := 3, cells := 0, slots := 0, locals := 60 } : Room) ({ frames := 3, cells := 0, slots := 0, locals := 60 } : Room).cells ({ frames := 3, cells := 0, slots := 0, locals := 60 } : Room).slots #[(.ref oq), (.ref ob), (.int p2), (.long q3)] h0 (fun v h L => v = some (.int 1) ∧ Fr n0 L ∧ Keep h0 h ([oq, oh, os, ok] ++ [ob]) ∧ ∃ H' S' K' z' B', own_NQ Z h oq oh os ok H' S' K' z' ∧ own_Inv H' S' K' z' ∧ own_A Z h ob .boolean (3 : Int32) (fun i => (.int (B' i))) ∧ own_Rel S' B') := by
  refine own_body (plainFor_of_name pn_st) ?_
  intro p e s m below meth c s₁ hx hby hml hown hnm hlk hret hZ hh X0 e0
  have N0 := Fr.nil n0
  have hd0 := hd
  obtain ⟨G_q, G_h, G_s, G_k, D1, D2, D3, D4, D5, D6⟩ := hd0
  refine own_cast (ef_st m oq ob p2 q3) ?_
  refine own_st (T' := s₁) (g' := (mkF m 1 #[.val (.ref oq), .val (.ref ob), .val (.int p2), .val (.long q3), .second, .unset, .unset, .unset, .unset] [(.int p2)])) (fun _ k => XS.iloadN X0.here hx rfl (hb hby dst_0) rfl k) ?_
  refine own_st (T' := s₁) (g' := (mkF m 2 #[.val (.ref oq), .val (.ref ob), .val (.int p2), .val (.long q3), .second, .unset, .unset, .unset, .unset] [(.int (3 : Int32)), (.int p2)])) (fun _ k => XS.iconst X0.here hx rfl (hb hby dst_1) k) ?_
  refine own_st (T' := s₁) (g' := (mkF m 3 #[.val (.ref oq), .val (.ref ob), .val (.int p2), .val (.long q3), .second, .unset, .unset, .unset, .unset] [(.int (p2 &&& (3 : Int32)))])) (fun _ k => XS.iand X0.here hx rfl (hb hby dst_2) rfl k) ?_
  refine own_st (T' := s₁) (g' := (mkF m 5 #[.val (.ref oq), .val (.ref ob), .val (.int p2), .val (.long q3), .second, .val (.int (p2 &&& (3 : Int32))), .unset, .unset, .unset] [])) (fun _ k => XS.istore X0.here hx rfl (hb hby dst_3) rfl (l' := #[.val (.ref oq), .val (.ref ob), .val (.int p2), .val (.long q3), .second, .val (.int (p2 &&& (3 : Int32))), .unset, .unset, .unset]) rfl k) ?_
  refine own_st (T' := s₁) (g' := (mkF m 6 #[.val (.ref oq), .val (.ref ob), .val (.int p2), .val (.long q3), .second, .val (.int (p2 &&& (3 : Int32))), .unset, .unset, .unset] [(.int p2)])) (fun _ k => XS.iloadN X0.here hx rfl (hb hby dst_5) rfl k) ?_
  refine own_st (T' := s₁) (g' := (mkF m 7 #[.val (.ref oq), .val (.ref ob), .val (.int p2), .val (.long q3), .second, .val (.int (p2 &&& (3 : Int32))), .unset, .unset, .unset] [(.int (2 : Int32)), (.int p2)])) (fun _ k => XS.iconst X0.here hx rfl (hb hby dst_6) k) ?_
  refine own_st (T' := s₁) (g' := (mkF m 8 #[.val (.ref oq), .val (.ref ob), .val (.int p2), .val (.long q3), .second, .val (.int (p2 &&& (3 : Int32))), .unset, .unset, .unset] [(.int ((p2.toUInt32 >>> ((2 : Int32) &&& 31).toUInt32).toInt32))])) (fun _ k => XS.iushr X0.here hx rfl (hb hby dst_7) rfl k) ?_
  refine own_st (T' := s₁) (g' := (mkF m 9 #[.val (.ref oq), .val (.ref ob), .val (.int p2), .val (.long q3), .second, .val (.int (p2 &&& (3 : Int32))), .unset, .unset, .unset] [(.int (3 : Int32)), (.int ((p2.toUInt32 >>> ((2 : Int32) &&& 31).toUInt32).toInt32))])) (fun _ k => XS.iconst X0.here hx rfl (hb hby dst_8) k) ?_
  refine own_st (T' := s₁) (g' := (mkF m 10 #[.val (.ref oq), .val (.ref ob), .val (.int p2), .val (.long q3), .second, .val (.int (p2 &&& (3 : Int32))), .unset, .unset, .unset] [(.int (((p2.toUInt32 >>> ((2 : Int32) &&& 31).toUInt32).toInt32) &&& (3 : Int32)))])) (fun _ k => XS.iand X0.here hx rfl (hb hby dst_9) rfl k) ?_
  refine own_st (T' := s₁) (g' := (mkF m 11 #[.val (.ref oq), .val (.ref ob), .val (.int p2), .val (.long q3), .second, .val (.int (p2 &&& (3 : Int32))), .unset, .unset, .unset] [(.int (3 : Int32)), (.int (((p2.toUInt32 >>> ((2 : Int32) &&& 31).toUInt32).toInt32) &&& (3 : Int32)))])) (fun _ k => XS.iconst X0.here hx rfl (hb hby dst_10) k) ?_
  refine own_st (T' := s₁) (g' := (mkF m 12 #[.val (.ref oq), .val (.ref ob), .val (.int p2), .val (.long q3), .second, .val (.int (p2 &&& (3 : Int32))), .unset, .unset, .unset] [(.int ((((p2.toUInt32 >>> ((2 : Int32) &&& 31).toUInt32).toInt32) &&& (3 : Int32)) % (3 : Int32)))])) (fun _ k => iremM X0 hx rfl (hb hby dst_11) rfl (by decide) k) ?_
  generalize hnv : ((((p2.toUInt32 >>> ((2 : Int32) &&& 31).toUInt32).toInt32) &&& (3 : Int32)) % (3 : Int32)) = nv
  have ho := own_node hnv
  refine own_st (T' := s₁) (g' := (mkF m 14 #[.val (.ref oq), .val (.ref ob), .val (.int p2), .val (.long q3), .second, .val (.int (p2 &&& (3 : Int32))), .val (.int nv), .unset, .unset] [])) (fun _ k => XS.istore X0.here hx rfl (hb hby dst_12) rfl (l' := #[.val (.ref oq), .val (.ref ob), .val (.int p2), .val (.long q3), .second, .val (.int (p2 &&& (3 : Int32))), .val (.int nv), .unset, .unset]) rfl k) ?_
  refine own_st (T' := s₁) (g' := (mkF m 15 #[.val (.ref oq), .val (.ref ob), .val (.int p2), .val (.long q3), .second, .val (.int (p2 &&& (3 : Int32))), .val (.int nv), .unset, .unset] [(.ref ob)])) (fun _ k => XS.aloadN X0.here hx rfl (hb hby dst_14) rfl rfl k) ?_
  refine own_st (T' := s₁) (g' := (mkF m 16 #[.val (.ref oq), .val (.ref ob), .val (.int p2), .val (.long q3), .second, .val (.int (p2 &&& (3 : Int32))), .val (.int nv), .unset, .unset] [(.int (0 : Int32)), (.ref ob)])) (fun _ k => XS.iconst X0.here hx rfl (hb hby dst_15) k) ?_
  obtain ⟨cl1, Ar1, S1, M1, H1⟩ := id Ab
  refine own_st (T' := s₁) (g' := (mkF m 17 #[.val (.ref oq), .val (.ref ob), .val (.int p2), .val (.long q3), .second, .val (.int (p2 &&& (3 : Int32))), .val (.int nv), .unset, .unset] [(.int (fB (0 : Int32)))])) (fun _ k => X0.baloadBooleans hx (j := (0 : Int32)) (v := (.int (fB (0 : Int32)))) (by rw [e0]; exact Ar1.1) (State.isArrayOf_alike hZ.alike Ar1.2.1) Ar1.2.2 (inb_of S1 ⟨(by decide), (by decide)⟩) (H1 _ (by decide) (by decide)) (g := (mkF m 16 #[.val (.ref oq), .val (.ref ob), .val (.int p2), .val (.long q3), .second, .val (.int (p2 &&& (3 : Int32))), .val (.int nv), .unset, .unset] [(.int (0 : Int32)), (.ref ob)])) rfl rfl (hb hby dst_16) _ k) ?_
  refine own_st (T' := s₁) (g' := (mkF m 37 #[.val (.ref oq), .val (.ref ob), .val (.int p2), .val (.long q3), .second, .val (.int (p2 &&& (3 : Int32))), .val (.int nv), .unset, .unset] [(.int (if (fB (0 : Int32)) = (0 : Int32) then (if (fB (1 : Int32)) = (0 : Int32) then (if (fB (2 : Int32)) = (0 : Int32) then (0 : Int32) else (1 : Int32)) else (1 : Int32)) else (1 : Int32)))])) (fun t k => ?_) ?_
  · by_cases hc17_2 : (fB (0 : Int32)) = (0 : Int32)
    · refine own_sq (T' := s₁) (g' := (mkF m 20 #[.val (.ref oq), .val (.ref ob), .val (.int p2), .val (.long q3), .second, .val (.int (p2 &&& (3 : Int32))), .val (.int nv), .unset, .unset] [])) (fun k => XS.ifNo X0.here hx rfl (hb hby dst_17) rfl ((if0 _ _).trans (teq hc17_2).2) k) ?_
      refine own_sq (T' := s₁) (g' := (mkF m 21 #[.val (.ref oq), .val (.ref ob), .val (.int p2), .val (.long q3), .second, .val (.int (p2 &&& (3 : Int32))), .val (.int nv), .unset, .unset] [(.ref ob)])) (fun k => XS.aloadN X0.here hx rfl (hb hby dst_20) rfl rfl k) ?_
      refine own_sq (T' := s₁) (g' := (mkF m 22 #[.val (.ref oq), .val (.ref ob), .val (.int p2), .val (.long q3), .second, .val (.int (p2 &&& (3 : Int32))), .val (.int nv), .unset, .unset] [(.int (1 : Int32)), (.ref ob)])) (fun k => XS.iconst X0.here hx rfl (hb hby dst_21) k) ?_
      obtain ⟨cl3, Ar3, S3, M3, H3⟩ := id Ab
      refine own_sq (T' := s₁) (g' := (mkF m 23 #[.val (.ref oq), .val (.ref ob), .val (.int p2), .val (.long q3), .second, .val (.int (p2 &&& (3 : Int32))), .val (.int nv), .unset, .unset] [(.int (fB (1 : Int32)))])) (fun k => X0.baloadBooleans hx (j := (1 : Int32)) (v := (.int (fB (1 : Int32)))) (by rw [e0]; exact Ar3.1) (State.isArrayOf_alike hZ.alike Ar3.2.1) Ar3.2.2 (inb_of S3 ⟨(by decide), (by decide)⟩) (H3 _ (by decide) (by decide)) (g := (mkF m 22 #[.val (.ref oq), .val (.ref ob), .val (.int p2), .val (.long q3), .second, .val (.int (p2 &&& (3 : Int32))), .val (.int nv), .unset, .unset] [(.int (1 : Int32)), (.ref ob)])) rfl rfl (hb hby dst_22) _ k) ?_
      by_cases hc23_4 : (fB (1 : Int32)) = (0 : Int32)
      · refine own_sq (T' := s₁) (g' := (mkF m 26 #[.val (.ref oq), .val (.ref ob), .val (.int p2), .val (.long q3), .second, .val (.int (p2 &&& (3 : Int32))), .val (.int nv), .unset, .unset] [])) (fun k => XS.ifNo X0.here hx rfl (hb hby dst_23) rfl ((if0 _ _).trans (teq hc23_4).2) k) ?_
        refine own_sq (T' := s₁) (g' := (mkF m 27 #[.val (.ref oq), .val (.ref ob), .val (.int p2), .val (.long q3), .second, .val (.int (p2 &&& (3 : Int32))), .val (.int nv), .unset, .unset] [(.ref ob)])) (fun k => XS.aloadN X0.here hx rfl (hb hby dst_26) rfl rfl k) ?_
        refine own_sq (T' := s₁) (g' := (mkF m 28 #[.val (.ref oq), .val (.ref ob), .val (.int p2), .val (.long q3), .second, .val (.int (p2 &&& (3 : Int32))), .val (.int nv), .unset, .unset] [(.int (2 : Int32)), (.ref ob)])) (fun k => XS.iconst X0.here hx rfl (hb hby dst_27) k) ?_
        obtain ⟨cl5, Ar5, S5, M5, H5⟩ := id Ab
        refine own_sq (T' := s₁) (g' := (mkF m 29 #[.val (.ref oq), .val (.ref ob), .val (.int p2), .val (.long q3), .second, .val (.int (p2 &&& (3 : Int32))), .val (.int nv), .unset, .unset] [(.int (fB (2 : Int32)))])) (fun k => X0.baloadBooleans hx (j := (2 : Int32)) (v := (.int (fB (2 : Int32)))) (by rw [e0]; exact Ar5.1) (State.isArrayOf_alike hZ.alike Ar5.2.1) Ar5.2.2 (inb_of S5 ⟨(by decide), (by decide)⟩) (H5 _ (by decide) (by decide)) (g := (mkF m 28 #[.val (.ref oq), .val (.ref ob), .val (.int p2), .val (.long q3), .second, .val (.int (p2 &&& (3 : Int32))), .val (.int nv), .unset, .unset] [(.int (2 : Int32)), (.ref ob)])) rfl rfl (hb hby dst_28) _ k) ?_
        by_cases hc29_6 : (fB (2 : Int32)) = (0 : Int32)
        · refine own_sq (T' := s₁) (g' := (mkF m 36 #[.val (.ref oq), .val (.ref ob), .val (.int p2), .val (.long q3), .second, .val (.int (p2 &&& (3 : Int32))), .val (.int nv), .unset, .unset] [])) (fun k => XS.ifYes X0.here hx rfl (pc0 := 29) (pc' := 36) rfl (hb hby dst_29) rfl ((if0 _ _).trans (teq hc29_6).1) (by decide) (by decide) k) ?_
          refine own_sq (T' := s₁) (g' := (mkF m 37 #[.val (.ref oq), .val (.ref ob), .val (.int p2), .val (.long q3), .second, .val (.int (p2 &&& (3 : Int32))), .val (.int nv), .unset, .unset] [(.int (0 : Int32))])) (fun k => XS.iconst X0.here hx rfl (hb hby dst_36) k) ?_
          simp only [if_pos hc17_2, if_pos hc23_4, if_pos hc29_6] at k; exact k
        · refine own_sq (T' := s₁) (g' := (mkF m 32 #[.val (.ref oq), .val (.ref ob), .val (.int p2), .val (.long q3), .second, .val (.int (p2 &&& (3 : Int32))), .val (.int nv), .unset, .unset] [])) (fun k => XS.ifNo X0.here hx rfl (hb hby dst_29) rfl ((if0 _ _).trans (feq hc29_6).1) k) ?_
          refine own_sq (T' := s₁) (g' := (mkF m 33 #[.val (.ref oq), .val (.ref ob), .val (.int p2), .val (.long q3), .second, .val (.int (p2 &&& (3 : Int32))), .val (.int nv), .unset, .unset] [(.int (1 : Int32))])) (fun k => XS.iconst X0.here hx rfl (hb hby dst_32) k) ?_
          refine own_sq (T' := s₁) (g' := (mkF m 37 #[.val (.ref oq), .val (.ref ob), .val (.int p2), .val (.long q3), .second, .val (.int (p2 &&& (3 : Int32))), .val (.int nv), .unset, .unset] [(.int (1 : Int32))])) (fun k => XS.goto X0.here hx rfl (pc0 := 33) (pc' := 37) rfl (hb hby dst_33) (by decide) (by decide) k) ?_
          simp only [if_pos hc17_2, if_pos hc23_4, if_neg hc29_6] at k; exact k
      · refine own_sq (T' := s₁) (g' := (mkF m 32 #[.val (.ref oq), .val (.ref ob), .val (.int p2), .val (.long q3), .second, .val (.int (p2 &&& (3 : Int32))), .val (.int nv), .unset, .unset] [])) (fun k => XS.ifYes X0.here hx rfl (pc0 := 23) (pc' := 32) rfl (hb hby dst_23) rfl ((if0 _ _).trans (feq hc23_4).2) (by decide) (by decide) k) ?_
        refine own_sq (T' := s₁) (g' := (mkF m 33 #[.val (.ref oq), .val (.ref ob), .val (.int p2), .val (.long q3), .second, .val (.int (p2 &&& (3 : Int32))), .val (.int nv), .unset, .unset] [(.int (1 : Int32))])) (fun k => XS.iconst X0.here hx rfl (hb hby dst_32) k) ?_
        refine own_sq (T' := s₁) (g' := (mkF m 37 #[.val (.ref oq), .val (.ref ob), .val (.int p2), .val (.long q3), .second, .val (.int (p2 &&& (3 : Int32))), .val (.int nv), .unset, .unset] [(.int (1 : Int32))])) (fun k => XS.goto X0.here hx rfl (pc0 := 33) (pc' := 37) rfl (hb hby dst_33) (by decide) (by decide) k) ?_
        simp only [if_pos hc17_2, if_neg hc23_4] at k; exact k
    · refine own_sq (T' := s₁) (g' := (mkF m 32 #[.val (.ref oq), .val (.ref ob), .val (.int p2), .val (.long q3), .second, .val (.int (p2 &&& (3 : Int32))), .val (.int nv), .unset, .unset] [])) (fun k => XS.ifYes X0.here hx rfl (pc0 := 17) (pc' := 32) rfl (hb hby dst_17) rfl ((if0 _ _).trans (feq hc17_2).2) (by decide) (by decide) k) ?_
      refine own_sq (T' := s₁) (g' := (mkF m 33 #[.val (.ref oq), .val (.ref ob), .val (.int p2), .val (.long q3), .second, .val (.int (p2 &&& (3 : Int32))), .val (.int nv), .unset, .unset] [(.int (1 : Int32))])) (fun k => XS.iconst X0.here hx rfl (hb hby dst_32) k) ?_
      refine own_sq (T' := s₁) (g' := (mkF m 37 #[.val (.ref oq), .val (.ref ob), .val (.int p2), .val (.long q3), .second, .val (.int (p2 &&& (3 : Int32))), .val (.int nv), .unset, .unset] [(.int (1 : Int32))])) (fun k => XS.goto X0.here hx rfl (pc0 := 33) (pc' := 37) rfl (hb hby dst_33) (by decide) (by decide) k) ?_
      simp only [if_neg hc17_2] at k; exact k
  refine own_st (T' := s₁) (g' := (mkF m 39 #[.val (.ref oq), .val (.ref ob), .val (.int p2), .val (.long q3), .second, .val (.int (p2 &&& (3 : Int32))), .val (.int nv), .val (.int (if (fB (0 : Int32)) = (0 : Int32) then (if (fB (1 : Int32)) = (0 : Int32) then (if (fB (2 : Int32)) = (0 : Int32) then (0 : Int32) else (1 : Int32)) else (1 : Int32)) else (1 : Int32))), .unset] [])) (fun _ k => XS.istore X0.here hx rfl (hb hby dst_37) rfl (l' := #[.val (.ref oq), .val (.ref ob), .val (.int p2), .val (.long q3), .second, .val (.int (p2 &&& (3 : Int32))), .val (.int nv), .val (.int (if (fB (0 : Int32)) = (0 : Int32) then (if (fB (1 : Int32)) = (0 : Int32) then (if (fB (2 : Int32)) = (0 : Int32) then (0 : Int32) else (1 : Int32)) else (1 : Int32)) else (1 : Int32))), .unset]) rfl k) ?_
  refine own_st (T' := s₁) (g' := (mkF m 41 #[.val (.ref oq), .val (.ref ob), .val (.int p2), .val (.long q3), .second, .val (.int (p2 &&& (3 : Int32))), .val (.int nv), .val (.int (if (fB (0 : Int32)) = (0 : Int32) then (if (fB (1 : Int32)) = (0 : Int32) then (if (fB (2 : Int32)) = (0 : Int32) then (0 : Int32) else (1 : Int32)) else (1 : Int32)) else (1 : Int32))), .unset] [(.int (p2 &&& (3 : Int32)))])) (fun _ k => XS.iload X0.here hx rfl (hb hby dst_39) rfl k) ?_
  refine own_st (T' := s₁) (g' := (mkF m 42 #[.val (.ref oq), .val (.ref ob), .val (.int p2), .val (.long q3), .second, .val (.int (p2 &&& (3 : Int32))), .val (.int nv), .val (.int (if (fB (0 : Int32)) = (0 : Int32) then (if (fB (1 : Int32)) = (0 : Int32) then (if (fB (2 : Int32)) = (0 : Int32) then (0 : Int32) else (1 : Int32)) else (1 : Int32)) else (1 : Int32))), .unset] [(.int (3 : Int32)), (.int (p2 &&& (3 : Int32)))])) (fun _ k => XS.iconst X0.here hx rfl (hb hby dst_41) k) ?_
  by_cases hc42_7 : (p2 &&& (3 : Int32)) = (3 : Int32)
  · refine own_st (T' := s₁) (g' := (mkF m 45 #[.val (.ref oq), .val (.ref ob), .val (.int p2), .val (.long q3), .second, .val (.int (p2 &&& (3 : Int32))), .val (.int nv), .val (.int (if (fB (0 : Int32)) = (0 : Int32) then (if (fB (1 : Int32)) = (0 : Int32) then (if (fB (2 : Int32)) = (0 : Int32) then (0 : Int32) else (1 : Int32)) else (1 : Int32)) else (1 : Int32))), .unset] [])) (fun _ k => XS.icmpNo X0.here hx rfl (hb hby dst_42) rfl (teq hc42_7).2 k) ?_
    refine own_st (T' := s₁) (g' := (mkF m 46 #[.val (.ref oq), .val (.ref ob), .val (.int p2), .val (.long q3), .second, .val (.int (p2 &&& (3 : Int32))), .val (.int nv), .val (.int (if (fB (0 : Int32)) = (0 : Int32) then (if (fB (1 : Int32)) = (0 : Int32) then (if (fB (2 : Int32)) = (0 : Int32) then (0 : Int32) else (1 : Int32)) else (1 : Int32)) else (1 : Int32))), .unset] [(.ref oq)])) (fun _ k => XS.aloadN X0.here hx rfl (hb hby dst_45) rfl rfl k) ?_
    refine own_callV X0 hx hZ (y := (⟨"com/example/albatross/albatross/NodeQueue", "clear", "()V"⟩ : MethodName)) hown (own_w hw 46 rfl) (own_w hw 47 rfl) (own_w hw 49 rfl) (own_w hw 48 rfl) (own_w hw 50 rfl) (own_w hw 2 rfl) (by decide) (W := 0) e0 (b := oq) hq.1 (argsL := []) (rest := []) (rmcl l Z a0 hw [] oq oh os ok fH fS fK z1 h0 n0 Z0 hd hq hI) (by decide) (by decide) (by decide) (by decide) (g := (mkF m 46 #[.val (.ref oq), .val (.ref ob), .val (.int p2), .val (.long q3), .second, .val (.int (p2 &&& (3 : Int32))), .val (.int nv), .val (.int (if (fB (0 : Int32)) = (0 : Int32) then (if (fB (1 : Int32)) = (0 : Int32) then (if (fB (2 : Int32)) = (0 : Int32) then (0 : Int32) else (1 : Int32)) else (1 : Int32)) else (1 : Int32))), .unset] [(.ref oq)])) rfl (by rw [hml]; rfl) (lenOf own_pd3 rfl) rfl (by show 2 * 0 + _ ≤ _; exact Nat.le_of_eq rfl) (hb hby dst_46) ?_
    rintro _ T8 L8 X8 ⟨rfl, N8q, K8, S8, hq_8, hC8⟩
    show own_Go _ _ _ _ _ _ _ T8 (mkF m 49 #[.val (.ref oq), .val (.ref ob), .val (.int p2), .val (.long q3), .second, .val (.int (p2 &&& (3 : Int32))), .val (.int nv), .val (.int (if (fB (0 : Int32)) = (0 : Int32) then (if (fB (1 : Int32)) = (0 : Int32) then (if (fB (2 : Int32)) = (0 : Int32) then (0 : Int32) else (1 : Int32)) else (1 : Int32)) else (1 : Int32))), .unset] [])
    have N8 := Fr.app N0 N8q
    refine own_st (T' := T8) (g' := (mkF m 50 #[.val (.ref oq), .val (.ref ob), .val (.int p2), .val (.long q3), .second, .val (.int (p2 &&& (3 : Int32))), .val (.int nv), .val (.int (if (fB (0 : Int32)) = (0 : Int32) then (if (fB (1 : Int32)) = (0 : Int32) then (if (fB (2 : Int32)) = (0 : Int32) then (0 : Int32) else (1 : Int32)) else (1 : Int32)) else (1 : Int32))), .unset] [(.ref ob)])) (fun _ k => XS.aloadN X8.here hx rfl (hb hby dst_49) rfl rfl k) ?_
    refine own_st (T' := T8) (g' := (mkF m 51 #[.val (.ref oq), .val (.ref ob), .val (.int p2), .val (.long q3), .second, .val (.int (p2 &&& (3 : Int32))), .val (.int nv), .val (.int (if (fB (0 : Int32)) = (0 : Int32) then (if (fB (1 : Int32)) = (0 : Int32) then (if (fB (2 : Int32)) = (0 : Int32) then (0 : Int32) else (1 : Int32)) else (1 : Int32)) else (1 : Int32))), .unset] [(.int (0 : Int32)), (.ref ob)])) (fun _ k => XS.iconst X8.here hx rfl (hb hby dst_50) k) ?_
    refine own_st (T' := T8) (g' := (mkF m 52 #[.val (.ref oq), .val (.ref ob), .val (.int p2), .val (.long q3), .second, .val (.int (p2 &&& (3 : Int32))), .val (.int nv), .val (.int (if (fB (0 : Int32)) = (0 : Int32) then (if (fB (1 : Int32)) = (0 : Int32) then (if (fB (2 : Int32)) = (0 : Int32) then (0 : Int32) else (1 : Int32)) else (1 : Int32)) else (1 : Int32))), .unset] [(.int (0 : Int32)), (.int (0 : Int32)), (.ref ob)])) (fun _ k => XS.iconst X8.here hx rfl (hb hby dst_51) k) ?_
    obtain ⟨cl9, Ar9, S9, M9, H9⟩ := id (Ab.keep K8 hnb)
    obtain ⟨T9, h9, X9, e9, W9, st9⟩ := stZ X8 hx hZ rfl Ar9 (j := (0 : Int32)) (inb_of S9 ⟨(by decide), (by decide)⟩) (g := (mkF m 52 #[.val (.ref oq), .val (.ref ob), .val (.int p2), .val (.long q3), .second, .val (.int (p2 &&& (3 : Int32))), .val (.int nv), .val (.int (if (fB (0 : Int32)) = (0 : Int32) then (if (fB (1 : Int32)) = (0 : Int32) then (if (fB (2 : Int32)) = (0 : Int32) then (0 : Int32) else (1 : Int32)) else (1 : Int32)) else (1 : Int32))), .unset] [(.int (0 : Int32)), (.int (0 : Int32)), (.ref ob)])) rfl rfl (hb hby dst_52)
    have V9 : own_A Z h9 ob .boolean (3 : Int32) (fun i => (.int ((own_up fB (0 : Int32) (0 : Int32)) i))) := (own_A.set Ar9 S9 M9 H9 (by decide) (by decide) W9).upI
    have N9 := Fr.snoc X9 N8 G_b
    have hq_w9 : own_NQ Z h9 oq oh os ok fH S8 fK (0 : Int32) := own_nqw W9 hnb hq_8
    refine own_st (g' := (mkF m 53 #[.val (.ref oq), .val (.ref ob), .val (.int p2), .val (.long q3), .second, .val (.int (p2 &&& (3 : Int32))), .val (.int nv), .val (.int (if (fB (0 : Int32)) = (0 : Int32) then (if (fB (1 : Int32)) = (0 : Int32) then (if (fB (2 : Int32)) = (0 : Int32) then (0 : Int32) else (1 : Int32)) else (1 : Int32)) else (1 : Int32))), .unset] [])) st9 ?_
    refine own_st (T' := T9) (g' := (mkF m 54 #[.val (.ref oq), .val (.ref ob), .val (.int p2), .val (.long q3), .second, .val (.int (p2 &&& (3 : Int32))), .val (.int nv), .val (.int (if (fB (0 : Int32)) = (0 : Int32) then (if (fB (1 : Int32)) = (0 : Int32) then (if (fB (2 : Int32)) = (0 : Int32) then (0 : Int32) else (1 : Int32)) else (1 : Int32)) else (1 : Int32))), .unset] [(.ref ob)])) (fun _ k => XS.aloadN X9.here hx rfl (hb hby dst_53) rfl rfl k) ?_
    refine own_st (T' := T9) (g' := (mkF m 55 #[.val (.ref oq), .val (.ref ob), .val (.int p2), .val (.long q3), .second, .val (.int (p2 &&& (3 : Int32))), .val (.int nv), .val (.int (if (fB (0 : Int32)) = (0 : Int32) then (if (fB (1 : Int32)) = (0 : Int32) then (if (fB (2 : Int32)) = (0 : Int32) then (0 : Int32) else (1 : Int32)) else (1 : Int32)) else (1 : Int32))), .unset] [(.int (1 : Int32)), (.ref ob)])) (fun _ k => XS.iconst X9.here hx rfl (hb hby dst_54) k) ?_
    refine own_st (T' := T9) (g' := (mkF m 56 #[.val (.ref oq), .val (.ref ob), .val (.int p2), .val (.long q3), .second, .val (.int (p2 &&& (3 : Int32))), .val (.int nv), .val (.int (if (fB (0 : Int32)) = (0 : Int32) then (if (fB (1 : Int32)) = (0 : Int32) then (if (fB (2 : Int32)) = (0 : Int32) then (0 : Int32) else (1 : Int32)) else (1 : Int32)) else (1 : Int32))), .unset] [(.int (0 : Int32)), (.int (1 : Int32)), (.ref ob)])) (fun _ k => XS.iconst X9.here hx rfl (hb hby dst_55) k) ?_
    obtain ⟨cl10, Ar10, S10, M10, H10⟩ := id V9
    obtain ⟨T10, h10, X10, e10, W10, st10⟩ := stZ X9 hx hZ e9 Ar10 (j := (1 : Int32)) (inb_of S10 ⟨(by decide), (by decide)⟩) (g := (mkF m 56 #[.val (.ref oq), .val (.ref ob), .val (.int p2), .val (.long q3), .second, .val (.int (p2 &&& (3 : Int32))), .val (.int nv), .val (.int (if (fB (0 : Int32)) = (0 : Int32) then (if (fB (1 : Int32)) = (0 : Int32) then (if (fB (2 : Int32)) = (0 : Int32) then (0 : Int32) else (1 : Int32)) else (1 : Int32)) else (1 : Int32))), .unset] [(.int (0 : Int32)), (.int (1 : Int32)), (.ref ob)])) rfl rfl (hb hby dst_56)
    have V10 : own_A Z h10 ob .boolean (3 : Int32) (fun i => (.int ((own_up (own_up fB (0 : Int32) (0 : Int32)) (1 : Int32) (0 : Int32)) i))) := (own_A.set Ar10 S10 M10 H10 (by decide) (by decide) W10).upI
    have N10 := Fr.snoc X10 N9 G_b
    have hq_w10 : own_NQ Z h10 oq oh os ok fH S8 fK (0 : Int32) := own_nqw W10 hnb hq_w9
    refine own_st (g' := (mkF m 57 #[.val (.ref oq), .val (.ref ob), .val (.int p2), .val (.long q3), .second, .val (.int (p2 &&& (3 : Int32))), .val (.int nv), .val (.int (if (fB (0 : Int32)) = (0 : Int32) then (if (fB (1 : Int32)) = (0 : Int32) then (if (fB (2 : Int32)) = (0 : Int32) then (0 : Int32) else (1 : Int32)) else (1 : Int32)) else (1 : Int32))), .unset] [])) st10 ?_
    refine own_st (T' := T10) (g' := (mkF m 58 #[.val (.ref oq), .val (.ref ob), .val (.int p2), .val (.long q3), .second, .val (.int (p2 &&& (3 : Int32))), .val (.int nv), .val (.int (if (fB (0 : Int32)) = (0 : Int32) then (if (fB (1 : Int32)) = (0 : Int32) then (if (fB (2 : Int32)) = (0 : Int32) then (0 : Int32) else (1 : Int32)) else (1 : Int32)) else (1 : Int32))), .unset] [(.ref ob)])) (fun _ k => XS.aloadN X10.here hx rfl (hb hby dst_57) rfl rfl k) ?_
    refine own_st (T' := T10) (g' := (mkF m 59 #[.val (.ref oq), .val (.ref ob), .val (.int p2), .val (.long q3), .second, .val (.int (p2 &&& (3 : Int32))), .val (.int nv), .val (.int (if (fB (0 : Int32)) = (0 : Int32) then (if (fB (1 : Int32)) = (0 : Int32) then (if (fB (2 : Int32)) = (0 : Int32) then (0 : Int32) else (1 : Int32)) else (1 : Int32)) else (1 : Int32))), .unset] [(.int (2 : Int32)), (.ref ob)])) (fun _ k => XS.iconst X10.here hx rfl (hb hby dst_58) k) ?_
    refine own_st (T' := T10) (g' := (mkF m 60 #[.val (.ref oq), .val (.ref ob), .val (.int p2), .val (.long q3), .second, .val (.int (p2 &&& (3 : Int32))), .val (.int nv), .val (.int (if (fB (0 : Int32)) = (0 : Int32) then (if (fB (1 : Int32)) = (0 : Int32) then (if (fB (2 : Int32)) = (0 : Int32) then (0 : Int32) else (1 : Int32)) else (1 : Int32)) else (1 : Int32))), .unset] [(.int (0 : Int32)), (.int (2 : Int32)), (.ref ob)])) (fun _ k => XS.iconst X10.here hx rfl (hb hby dst_59) k) ?_
    obtain ⟨cl11, Ar11, S11, M11, H11⟩ := id V10
    obtain ⟨T11, h11, X11, e11, W11, st11⟩ := stZ X10 hx hZ e10 Ar11 (j := (2 : Int32)) (inb_of S11 ⟨(by decide), (by decide)⟩) (g := (mkF m 60 #[.val (.ref oq), .val (.ref ob), .val (.int p2), .val (.long q3), .second, .val (.int (p2 &&& (3 : Int32))), .val (.int nv), .val (.int (if (fB (0 : Int32)) = (0 : Int32) then (if (fB (1 : Int32)) = (0 : Int32) then (if (fB (2 : Int32)) = (0 : Int32) then (0 : Int32) else (1 : Int32)) else (1 : Int32)) else (1 : Int32))), .unset] [(.int (0 : Int32)), (.int (2 : Int32)), (.ref ob)])) rfl rfl (hb hby dst_60)
    have V11 : own_A Z h11 ob .boolean (3 : Int32) (fun i => (.int ((own_up (own_up (own_up fB (0 : Int32) (0 : Int32)) (1 : Int32) (0 : Int32)) (2 : Int32) (0 : Int32)) i))) := (own_A.set Ar11 S11 M11 H11 (by decide) (by decide) W11).upI
    have N11 := Fr.snoc X11 N10 G_b
    have hq_w11 : own_NQ Z h11 oq oh os ok fH S8 fK (0 : Int32) := own_nqw W11 hnb hq_w10
    refine own_st (g' := (mkF m 61 #[.val (.ref oq), .val (.ref ob), .val (.int p2), .val (.long q3), .second, .val (.int (p2 &&& (3 : Int32))), .val (.int nv), .val (.int (if (fB (0 : Int32)) = (0 : Int32) then (if (fB (1 : Int32)) = (0 : Int32) then (if (fB (2 : Int32)) = (0 : Int32) then (0 : Int32) else (1 : Int32)) else (1 : Int32)) else (1 : Int32))), .unset] [])) st11 ?_
    refine own_st (T' := T11) (g' := (mkF m 123 #[.val (.ref oq), .val (.ref ob), .val (.int p2), .val (.long q3), .second, .val (.int (p2 &&& (3 : Int32))), .val (.int nv), .val (.int (if (fB (0 : Int32)) = (0 : Int32) then (if (fB (1 : Int32)) = (0 : Int32) then (if (fB (2 : Int32)) = (0 : Int32) then (0 : Int32) else (1 : Int32)) else (1 : Int32)) else (1 : Int32))), .unset] [])) (fun _ k => XS.goto X11.here hx rfl (pc0 := 61) (pc' := 123) rfl (hb hby dst_61) (by decide) (by decide) k) ?_
    have hR_8 : own_Rel S8 (own_up (own_up (own_up fB (0 : Int32) (0 : Int32)) (1 : Int32) (0 : Int32)) (2 : Int32) (0 : Int32)) := own_relC hC8
    refine own_st (T' := T11) (g' := (mkF m 124 #[.val (.ref oq), .val (.ref ob), .val (.int p2), .val (.long q3), .second, .val (.int (p2 &&& (3 : Int32))), .val (.int nv), .val (.int (if (fB (0 : Int32)) = (0 : Int32) then (if (fB (1 : Int32)) = (0 : Int32) then (if (fB (2 : Int32)) = (0 : Int32) then (0 : Int32) else (1 : Int32)) else (1 : Int32)) else (1 : Int32))), .unset] [(.ref ob)])) (fun _ k => XS.aloadN X11.here hx rfl (hb hby dst_123) rfl rfl k) ?_
    refine own_st (T' := T11) (g' := (mkF m 125 #[.val (.ref oq), .val (.ref ob), .val (.int p2), .val (.long q3), .second, .val (.int (p2 &&& (3 : Int32))), .val (.int nv), .val (.int (if (fB (0 : Int32)) = (0 : Int32) then (if (fB (1 : Int32)) = (0 : Int32) then (if (fB (2 : Int32)) = (0 : Int32) then (0 : Int32) else (1 : Int32)) else (1 : Int32)) else (1 : Int32))), .unset] [(.int (0 : Int32)), (.ref ob)])) (fun _ k => XS.iconst X11.here hx rfl (hb hby dst_124) k) ?_
    obtain ⟨cl12, Ar12, S12, M12, H12⟩ := id V11
    refine own_st (T' := T11) (g' := (mkF m 126 #[.val (.ref oq), .val (.ref ob), .val (.int p2), .val (.long q3), .second, .val (.int (p2 &&& (3 : Int32))), .val (.int nv), .val (.int (if (fB (0 : Int32)) = (0 : Int32) then (if (fB (1 : Int32)) = (0 : Int32) then (if (fB (2 : Int32)) = (0 : Int32) then (0 : Int32) else (1 : Int32)) else (1 : Int32)) else (1 : Int32))), .unset] [(.int (0 : Int32))])) (fun _ k => X11.baloadBooleans hx (j := (0 : Int32)) (v := (.int (0 : Int32))) (by rw [e11]; exact Ar12.1) (State.isArrayOf_alike hZ.alike Ar12.2.1) Ar12.2.2 (inb_of S12 ⟨(by decide), (by decide)⟩) (H12 _ (by decide) (by decide)) (g := (mkF m 125 #[.val (.ref oq), .val (.ref ob), .val (.int p2), .val (.long q3), .second, .val (.int (p2 &&& (3 : Int32))), .val (.int nv), .val (.int (if (fB (0 : Int32)) = (0 : Int32) then (if (fB (1 : Int32)) = (0 : Int32) then (if (fB (2 : Int32)) = (0 : Int32) then (0 : Int32) else (1 : Int32)) else (1 : Int32)) else (1 : Int32))), .unset] [(.int (0 : Int32)), (.ref ob)])) rfl rfl (hb hby dst_125) _ k) ?_
    refine own_st (T' := T11) (g' := (mkF m 146 #[.val (.ref oq), .val (.ref ob), .val (.int p2), .val (.long q3), .second, .val (.int (p2 &&& (3 : Int32))), .val (.int nv), .val (.int (if (fB (0 : Int32)) = (0 : Int32) then (if (fB (1 : Int32)) = (0 : Int32) then (if (fB (2 : Int32)) = (0 : Int32) then (0 : Int32) else (1 : Int32)) else (1 : Int32)) else (1 : Int32))), .unset] [(.int (1 : Int32))])) (fun t k => ?_) ?_
    · refine own_sq (T' := T11) (g' := (mkF m 129 #[.val (.ref oq), .val (.ref ob), .val (.int p2), .val (.long q3), .second, .val (.int (p2 &&& (3 : Int32))), .val (.int nv), .val (.int (if (fB (0 : Int32)) = (0 : Int32) then (if (fB (1 : Int32)) = (0 : Int32) then (if (fB (2 : Int32)) = (0 : Int32) then (0 : Int32) else (1 : Int32)) else (1 : Int32)) else (1 : Int32))), .unset] [])) (fun k => XS.ifNo X11.here hx rfl (hb hby dst_126) rfl ((if0 _ _).trans (teq (by decide : ((0 : Int32) = (0 : Int32)))).2) k) ?_
      refine own_sq (T' := T11) (g' := (mkF m 130 #[.val (.ref oq), .val (.ref ob), .val (.int p2), .val (.long q3), .second, .val (.int (p2 &&& (3 : Int32))), .val (.int nv), .val (.int (if (fB (0 : Int32)) = (0 : Int32) then (if (fB (1 : Int32)) = (0 : Int32) then (if (fB (2 : Int32)) = (0 : Int32) then (0 : Int32) else (1 : Int32)) else (1 : Int32)) else (1 : Int32))), .unset] [(.ref ob)])) (fun k => XS.aloadN X11.here hx rfl (hb hby dst_129) rfl rfl k) ?_
      refine own_sq (T' := T11) (g' := (mkF m 131 #[.val (.ref oq), .val (.ref ob), .val (.int p2), .val (.long q3), .second, .val (.int (p2 &&& (3 : Int32))), .val (.int nv), .val (.int (if (fB (0 : Int32)) = (0 : Int32) then (if (fB (1 : Int32)) = (0 : Int32) then (if (fB (2 : Int32)) = (0 : Int32) then (0 : Int32) else (1 : Int32)) else (1 : Int32)) else (1 : Int32))), .unset] [(.int (1 : Int32)), (.ref ob)])) (fun k => XS.iconst X11.here hx rfl (hb hby dst_130) k) ?_
      obtain ⟨cl13, Ar13, S13, M13, H13⟩ := id V11
      refine own_sq (T' := T11) (g' := (mkF m 132 #[.val (.ref oq), .val (.ref ob), .val (.int p2), .val (.long q3), .second, .val (.int (p2 &&& (3 : Int32))), .val (.int nv), .val (.int (if (fB (0 : Int32)) = (0 : Int32) then (if (fB (1 : Int32)) = (0 : Int32) then (if (fB (2 : Int32)) = (0 : Int32) then (0 : Int32) else (1 : Int32)) else (1 : Int32)) else (1 : Int32))), .unset] [(.int (0 : Int32))])) (fun k => X11.baloadBooleans hx (j := (1 : Int32)) (v := (.int (0 : Int32))) (by rw [e11]; exact Ar13.1) (State.isArrayOf_alike hZ.alike Ar13.2.1) Ar13.2.2 (inb_of S13 ⟨(by decide), (by decide)⟩) (H13 _ (by decide) (by decide)) (g := (mkF m 131 #[.val (.ref oq), .val (.ref ob), .val (.int p2), .val (.long q3), .second, .val (.int (p2 &&& (3 : Int32))), .val (.int nv), .val (.int (if (fB (0 : Int32)) = (0 : Int32) then (if (fB (1 : Int32)) = (0 : Int32) then (if (fB (2 : Int32)) = (0 : Int32) then (0 : Int32) else (1 : Int32)) else (1 : Int32)) else (1 : Int32))), .unset] [(.int (1 : Int32)), (.ref ob)])) rfl rfl (hb hby dst_131) _ k) ?_
      refine own_sq (T' := T11) (g' := (mkF m 135 #[.val (.ref oq), .val (.ref ob), .val (.int p2), .val (.long q3), .second, .val (.int (p2 &&& (3 : Int32))), .val (.int nv), .val (.int (if (fB (0 : Int32)) = (0 : Int32) then (if (fB (1 : Int32)) = (0 : Int32) then (if (fB (2 : Int32)) = (0 : Int32) then (0 : Int32) else (1 : Int32)) else (1 : Int32)) else (1 : Int32))), .unset] [])) (fun k => XS.ifNo X11.here hx rfl (hb hby dst_132) rfl ((if0 _ _).trans (teq (by decide : ((0 : Int32) = (0 : Int32)))).2) k) ?_
      refine own_sq (T' := T11) (g' := (mkF m 136 #[.val (.ref oq), .val (.ref ob), .val (.int p2), .val (.long q3), .second, .val (.int (p2 &&& (3 : Int32))), .val (.int nv), .val (.int (if (fB (0 : Int32)) = (0 : Int32) then (if (fB (1 : Int32)) = (0 : Int32) then (if (fB (2 : Int32)) = (0 : Int32) then (0 : Int32) else (1 : Int32)) else (1 : Int32)) else (1 : Int32))), .unset] [(.ref ob)])) (fun k => XS.aloadN X11.here hx rfl (hb hby dst_135) rfl rfl k) ?_
      refine own_sq (T' := T11) (g' := (mkF m 137 #[.val (.ref oq), .val (.ref ob), .val (.int p2), .val (.long q3), .second, .val (.int (p2 &&& (3 : Int32))), .val (.int nv), .val (.int (if (fB (0 : Int32)) = (0 : Int32) then (if (fB (1 : Int32)) = (0 : Int32) then (if (fB (2 : Int32)) = (0 : Int32) then (0 : Int32) else (1 : Int32)) else (1 : Int32)) else (1 : Int32))), .unset] [(.int (2 : Int32)), (.ref ob)])) (fun k => XS.iconst X11.here hx rfl (hb hby dst_136) k) ?_
      obtain ⟨cl14, Ar14, S14, M14, H14⟩ := id V11
      refine own_sq (T' := T11) (g' := (mkF m 138 #[.val (.ref oq), .val (.ref ob), .val (.int p2), .val (.long q3), .second, .val (.int (p2 &&& (3 : Int32))), .val (.int nv), .val (.int (if (fB (0 : Int32)) = (0 : Int32) then (if (fB (1 : Int32)) = (0 : Int32) then (if (fB (2 : Int32)) = (0 : Int32) then (0 : Int32) else (1 : Int32)) else (1 : Int32)) else (1 : Int32))), .unset] [(.int (0 : Int32))])) (fun k => X11.baloadBooleans hx (j := (2 : Int32)) (v := (.int (0 : Int32))) (by rw [e11]; exact Ar14.1) (State.isArrayOf_alike hZ.alike Ar14.2.1) Ar14.2.2 (inb_of S14 ⟨(by decide), (by decide)⟩) (H14 _ (by decide) (by decide)) (g := (mkF m 137 #[.val (.ref oq), .val (.ref ob), .val (.int p2), .val (.long q3), .second, .val (.int (p2 &&& (3 : Int32))), .val (.int nv), .val (.int (if (fB (0 : Int32)) = (0 : Int32) then (if (fB (1 : Int32)) = (0 : Int32) then (if (fB (2 : Int32)) = (0 : Int32) then (0 : Int32) else (1 : Int32)) else (1 : Int32)) else (1 : Int32))), .unset] [(.int (2 : Int32)), (.ref ob)])) rfl rfl (hb hby dst_137) _ k) ?_
      refine own_sq (T' := T11) (g' := (mkF m 141 #[.val (.ref oq), .val (.ref ob), .val (.int p2), .val (.long q3), .second, .val (.int (p2 &&& (3 : Int32))), .val (.int nv), .val (.int (if (fB (0 : Int32)) = (0 : Int32) then (if (fB (1 : Int32)) = (0 : Int32) then (if (fB (2 : Int32)) = (0 : Int32) then (0 : Int32) else (1 : Int32)) else (1 : Int32)) else (1 : Int32))), .unset] [])) (fun k => XS.ifNo X11.here hx rfl (hb hby dst_138) rfl ((if0 _ _).trans (teq (by decide : ((0 : Int32) = (0 : Int32)))).2) k) ?_
      refine own_sq (T' := T11) (g' := (mkF m 142 #[.val (.ref oq), .val (.ref ob), .val (.int p2), .val (.long q3), .second, .val (.int (p2 &&& (3 : Int32))), .val (.int nv), .val (.int (if (fB (0 : Int32)) = (0 : Int32) then (if (fB (1 : Int32)) = (0 : Int32) then (if (fB (2 : Int32)) = (0 : Int32) then (0 : Int32) else (1 : Int32)) else (1 : Int32)) else (1 : Int32))), .unset] [(.int (1 : Int32))])) (fun k => XS.iconst X11.here hx rfl (hb hby dst_141) k) ?_
      refine own_sq (T' := T11) (g' := (mkF m 146 #[.val (.ref oq), .val (.ref ob), .val (.int p2), .val (.long q3), .second, .val (.int (p2 &&& (3 : Int32))), .val (.int nv), .val (.int (if (fB (0 : Int32)) = (0 : Int32) then (if (fB (1 : Int32)) = (0 : Int32) then (if (fB (2 : Int32)) = (0 : Int32) then (0 : Int32) else (1 : Int32)) else (1 : Int32)) else (1 : Int32))), .unset] [(.int (1 : Int32))])) (fun k => XS.goto X11.here hx rfl (pc0 := 142) (pc' := 146) rfl (hb hby dst_142) (by decide) (by decide) k) ?_
      exact k
    refine own_st (T' := T11) (g' := (mkF m 148 #[.val (.ref oq), .val (.ref ob), .val (.int p2), .val (.long q3), .second, .val (.int (p2 &&& (3 : Int32))), .val (.int nv), .val (.int (if (fB (0 : Int32)) = (0 : Int32) then (if (fB (1 : Int32)) = (0 : Int32) then (if (fB (2 : Int32)) = (0 : Int32) then (0 : Int32) else (1 : Int32)) else (1 : Int32)) else (1 : Int32))), .val (.int (1 : Int32))] [])) (fun _ k => XS.istore X11.here hx rfl (hb hby dst_146) rfl (l' := #[.val (.ref oq), .val (.ref ob), .val (.int p2), .val (.long q3), .second, .val (.int (p2 &&& (3 : Int32))), .val (.int nv), .val (.int (if (fB (0 : Int32)) = (0 : Int32) then (if (fB (1 : Int32)) = (0 : Int32) then (if (fB (2 : Int32)) = (0 : Int32) then (0 : Int32) else (1 : Int32)) else (1 : Int32)) else (1 : Int32))), .val (.int (1 : Int32))]) rfl k) ?_
    refine own_st (T' := T11) (g' := (mkF m 149 #[.val (.ref oq), .val (.ref ob), .val (.int p2), .val (.long q3), .second, .val (.int (p2 &&& (3 : Int32))), .val (.int nv), .val (.int (if (fB (0 : Int32)) = (0 : Int32) then (if (fB (1 : Int32)) = (0 : Int32) then (if (fB (2 : Int32)) = (0 : Int32) then (0 : Int32) else (1 : Int32)) else (1 : Int32)) else (1 : Int32))), .val (.int (1 : Int32))] [(.ref oq)])) (fun _ k => XS.aloadN X11.here hx rfl (hb hby dst_148) rfl rfl k) ?_
    refine own_callV X11 hx hZ (y := (⟨"com/example/albatross/albatross/NodeQueue", "isEmpty", "()Z"⟩ : MethodName)) hown (own_w hw 22 rfl) (own_w hw 23 rfl) (own_w hw 25 rfl) (own_w hw 24 rfl) (own_w hw 26 rfl) (own_w hw 2 rfl) (by decide) (W := 0) e11 (b := oq) hq_w11.1 (argsL := []) (rest := []) (rmie l Z a0 hw [] oq (0 : Int32) h11 n0 (Nat.le_trans (Nat.le_trans (Nat.le_trans (Nat.le_trans Z0 K8.1) (Nat.le_of_eq W9.size.symm)) (Nat.le_of_eq W10.size.symm)) (Nat.le_of_eq W11.size.symm)) hq_w11.2.2.2.2.1) (by decide) (by decide) (by decide) (by decide) (g := (mkF m 149 #[.val (.ref oq), .val (.ref ob), .val (.int p2), .val (.long q3), .second, .val (.int (p2 &&& (3 : Int32))), .val (.int nv), .val (.int (if (fB (0 : Int32)) = (0 : Int32) then (if (fB (1 : Int32)) = (0 : Int32) then (if (fB (2 : Int32)) = (0 : Int32) then (0 : Int32) else (1 : Int32)) else (1 : Int32)) else (1 : Int32))), .val (.int (1 : Int32))] [(.ref oq)])) rfl (by rw [hml]; rfl) (lenOf own_pd4 rfl) rfl (by show 2 * 0 + _ ≤ _; exact Nat.le_of_eq rfl) (hb hby dst_149) ?_
    rintro _ T15 L15 X15 ⟨rfl, N15q, e15⟩
    show own_Go _ _ _ _ _ _ _ T15 (mkF m 152 #[.val (.ref oq), .val (.ref ob), .val (.int p2), .val (.long q3), .second, .val (.int (p2 &&& (3 : Int32))), .val (.int nv), .val (.int (if (fB (0 : Int32)) = (0 : Int32) then (if (fB (1 : Int32)) = (0 : Int32) then (if (fB (2 : Int32)) = (0 : Int32) then (0 : Int32) else (1 : Int32)) else (1 : Int32)) else (1 : Int32))), .val (.int (1 : Int32))] [(.int (if (0 : Int32) = (0 : Int32) then (1 : Int32) else (0 : Int32)))])
    have N15 := Fr.app N11 N15q
    have hq_15 : own_NQ Z T15.heap oq oh os ok fH S8 fK (0 : Int32) := by rw [e15]; exact hq_w11
    have Ab_15 : own_A Z T15.heap ob .boolean (3 : Int32) (fun i => (.int ((own_up (own_up (own_up fB (0 : Int32) (0 : Int32)) (1 : Int32) (0 : Int32)) (2 : Int32) (0 : Int32)) i))) := by rw [e15]; exact V11
    refine own_st (T' := T15) (g' := (mkF m 154 #[.val (.ref oq), .val (.ref ob), .val (.int p2), .val (.long q3), .second, .val (.int (p2 &&& (3 : Int32))), .val (.int nv), .val (.int (if (fB (0 : Int32)) = (0 : Int32) then (if (fB (1 : Int32)) = (0 : Int32) then (if (fB (2 : Int32)) = (0 : Int32) then (0 : Int32) else (1 : Int32)) else (1 : Int32)) else (1 : Int32))), .val (.int (1 : Int32))] [(.int (1 : Int32)), (.int (if (0 : Int32) = (0 : Int32) then (1 : Int32) else (0 : Int32)))])) (fun _ k => XS.iload X15.here hx rfl (hb hby dst_152) rfl k) ?_
    refine own_st (T' := T15) (g' := (mkF m 157 #[.val (.ref oq), .val (.ref ob), .val (.int p2), .val (.long q3), .second, .val (.int (p2 &&& (3 : Int32))), .val (.int nv), .val (.int (if (fB (0 : Int32)) = (0 : Int32) then (if (fB (1 : Int32)) = (0 : Int32) then (if (fB (2 : Int32)) = (0 : Int32) then (0 : Int32) else (1 : Int32)) else (1 : Int32)) else (1 : Int32))), .val (.int (1 : Int32))] [])) (fun _ k => XS.icmpNo X15.here hx rfl (hb hby dst_154) rfl (teq (own_last (own_inv0 hC8) hR_8 : ((if (0 : Int32) = (0 : Int32) then (1 : Int32) else (0 : Int32)) = (1 : Int32)))).2 k) ?_
    refine own_st (T' := T15) (g' := (mkF m 158 #[.val (.ref oq), .val (.ref ob), .val (.int p2), .val (.long q3), .second, .val (.int (p2 &&& (3 : Int32))), .val (.int nv), .val (.int (if (fB (0 : Int32)) = (0 : Int32) then (if (fB (1 : Int32)) = (0 : Int32) then (if (fB (2 : Int32)) = (0 : Int32) then (0 : Int32) else (1 : Int32)) else (1 : Int32)) else (1 : Int32))), .val (.int (1 : Int32))] [(.int (1 : Int32))])) (fun _ k => XS.iconst X15.here hx rfl (hb hby dst_157) k) ?_
    refine own_st (T' := T15) (g' := (mkF m 162 #[.val (.ref oq), .val (.ref ob), .val (.int p2), .val (.long q3), .second, .val (.int (p2 &&& (3 : Int32))), .val (.int nv), .val (.int (if (fB (0 : Int32)) = (0 : Int32) then (if (fB (1 : Int32)) = (0 : Int32) then (if (fB (2 : Int32)) = (0 : Int32) then (0 : Int32) else (1 : Int32)) else (1 : Int32)) else (1 : Int32))), .val (.int (1 : Int32))] [(.int (1 : Int32))])) (fun _ k => XS.goto X15.here hx rfl (pc0 := 158) (pc' := 162) rfl (hb hby dst_158) (by decide) (by decide) k) ?_
    exact own_retN X15 hx hlk hret (by simp) (hb hby dst_162) ⟨rfl, N15, (by rw [e15]; exact (((((Keep.refl h0 ([oq, oh, os, ok] ++ [ob])).trans K8 (fun x hx => Or.inl (List.mem_append_left _ hx))).wr W9 (Or.inl (by simp))).wr W10 (Or.inl (by simp))).wr W11 (Or.inl (by simp)))), fH, S8, fK, (0 : Int32), (own_up (own_up (own_up fB (0 : Int32) (0 : Int32)) (1 : Int32) (0 : Int32)) (2 : Int32) (0 : Int32)), hq_15, (own_inv0 hC8), Ab_15, hR_8⟩ (by decide) (by decide)
  · refine own_st (T' := s₁) (g' := (mkF m 64 #[.val (.ref oq), .val (.ref ob), .val (.int p2), .val (.long q3), .second, .val (.int (p2 &&& (3 : Int32))), .val (.int nv), .val (.int (if (fB (0 : Int32)) = (0 : Int32) then (if (fB (1 : Int32)) = (0 : Int32) then (if (fB (2 : Int32)) = (0 : Int32) then (0 : Int32) else (1 : Int32)) else (1 : Int32)) else (1 : Int32))), .unset] [])) (fun _ k => XS.icmpYes X0.here hx rfl (pc0 := 42) (pc' := 64) rfl (hb hby dst_42) rfl (feq hc42_7).2 (by decide) (by decide) k) ?_
    refine own_st (T' := s₁) (g' := (mkF m 66 #[.val (.ref oq), .val (.ref ob), .val (.int p2), .val (.long q3), .second, .val (.int (p2 &&& (3 : Int32))), .val (.int nv), .val (.int (if (fB (0 : Int32)) = (0 : Int32) then (if (fB (1 : Int32)) = (0 : Int32) then (if (fB (2 : Int32)) = (0 : Int32) then (0 : Int32) else (1 : Int32)) else (1 : Int32)) else (1 : Int32))), .unset] [(.int (p2 &&& (3 : Int32)))])) (fun _ k => XS.iload X0.here hx rfl (hb hby dst_64) rfl k) ?_
    refine own_st (T' := s₁) (g' := (mkF m 67 #[.val (.ref oq), .val (.ref ob), .val (.int p2), .val (.long q3), .second, .val (.int (p2 &&& (3 : Int32))), .val (.int nv), .val (.int (if (fB (0 : Int32)) = (0 : Int32) then (if (fB (1 : Int32)) = (0 : Int32) then (if (fB (2 : Int32)) = (0 : Int32) then (0 : Int32) else (1 : Int32)) else (1 : Int32)) else (1 : Int32))), .unset] [(.int (2 : Int32)), (.int (p2 &&& (3 : Int32)))])) (fun _ k => XS.iconst X0.here hx rfl (hb hby dst_66) k) ?_
    by_cases hc67_16 : (p2 &&& (3 : Int32)) = (2 : Int32)
    · refine own_st (T' := s₁) (g' := (mkF m 70 #[.val (.ref oq), .val (.ref ob), .val (.int p2), .val (.long q3), .second, .val (.int (p2 &&& (3 : Int32))), .val (.int nv), .val (.int (if (fB (0 : Int32)) = (0 : Int32) then (if (fB (1 : Int32)) = (0 : Int32) then (if (fB (2 : Int32)) = (0 : Int32) then (0 : Int32) else (1 : Int32)) else (1 : Int32)) else (1 : Int32))), .unset] [])) (fun _ k => XS.icmpNo X0.here hx rfl (hb hby dst_67) rfl (teq hc67_16).2 k) ?_
      refine own_st (T' := s₁) (g' := (mkF m 72 #[.val (.ref oq), .val (.ref ob), .val (.int p2), .val (.long q3), .second, .val (.int (p2 &&& (3 : Int32))), .val (.int nv), .val (.int (if (fB (0 : Int32)) = (0 : Int32) then (if (fB (1 : Int32)) = (0 : Int32) then (if (fB (2 : Int32)) = (0 : Int32) then (0 : Int32) else (1 : Int32)) else (1 : Int32)) else (1 : Int32))), .unset] [(.int (if (fB (0 : Int32)) = (0 : Int32) then (if (fB (1 : Int32)) = (0 : Int32) then (if (fB (2 : Int32)) = (0 : Int32) then (0 : Int32) else (1 : Int32)) else (1 : Int32)) else (1 : Int32)))])) (fun _ k => XS.iload X0.here hx rfl (hb hby dst_70) rfl k) ?_
      by_cases hc72_17 : (if (fB (0 : Int32)) = (0 : Int32) then (if (fB (1 : Int32)) = (0 : Int32) then (if (fB (2 : Int32)) = (0 : Int32) then (0 : Int32) else (1 : Int32)) else (1 : Int32)) else (1 : Int32)) = (0 : Int32)
      · refine own_st (T' := s₁) (g' := (mkF m 111 #[.val (.ref oq), .val (.ref ob), .val (.int p2), .val (.long q3), .second, .val (.int (p2 &&& (3 : Int32))), .val (.int nv), .val (.int (if (fB (0 : Int32)) = (0 : Int32) then (if (fB (1 : Int32)) = (0 : Int32) then (if (fB (2 : Int32)) = (0 : Int32) then (0 : Int32) else (1 : Int32)) else (1 : Int32)) else (1 : Int32))), .unset] [])) (fun _ k => XS.ifYes X0.here hx rfl (pc0 := 72) (pc' := 111) rfl (hb hby dst_72) rfl ((if0 _ _).trans (teq hc72_17).1) (by decide) (by decide) k) ?_
        refine own_st (T' := s₁) (g' := (mkF m 112 #[.val (.ref oq), .val (.ref ob), .val (.int p2), .val (.long q3), .second, .val (.int (p2 &&& (3 : Int32))), .val (.int nv), .val (.int (if (fB (0 : Int32)) = (0 : Int32) then (if (fB (1 : Int32)) = (0 : Int32) then (if (fB (2 : Int32)) = (0 : Int32) then (0 : Int32) else (1 : Int32)) else (1 : Int32)) else (1 : Int32))), .unset] [(.ref oq)])) (fun _ k => XS.aloadN X0.here hx rfl (hb hby dst_111) rfl rfl k) ?_
        refine own_st (T' := s₁) (g' := (mkF m 114 #[.val (.ref oq), .val (.ref ob), .val (.int p2), .val (.long q3), .second, .val (.int (p2 &&& (3 : Int32))), .val (.int nv), .val (.int (if (fB (0 : Int32)) = (0 : Int32) then (if (fB (1 : Int32)) = (0 : Int32) then (if (fB (2 : Int32)) = (0 : Int32) then (0 : Int32) else (1 : Int32)) else (1 : Int32)) else (1 : Int32))), .unset] [(.int nv), (.ref oq)])) (fun _ k => XS.iload X0.here hx rfl (hb hby dst_112) rfl k) ?_
        refine own_st (T' := s₁) (g' := (mkF m 115 #[.val (.ref oq), .val (.ref ob), .val (.int p2), .val (.long q3), .second, .val (.int (p2 &&& (3 : Int32))), .val (.int nv), .val (.int (if (fB (0 : Int32)) = (0 : Int32) then (if (fB (1 : Int32)) = (0 : Int32) then (if (fB (2 : Int32)) = (0 : Int32) then (0 : Int32) else (1 : Int32)) else (1 : Int32)) else (1 : Int32))), .unset] [(.long q3), (.int nv), (.ref oq)])) (fun _ k => XS.lloadN X0.here hx rfl (hb hby dst_114) rfl k) ?_
        refine own_callV X0 hx hZ (y := (⟨"com/example/albatross/albatross/NodeQueue", "offer", "(IJ)V"⟩ : MethodName)) hown (own_w hw 33 rfl) (own_w hw 34 rfl) (own_w hw 36 rfl) (own_w hw 35 rfl) (own_w hw 37 rfl) (own_w hw 2 rfl) (by decide) (W := 0) e0 (b := oq) hq.1 (argsL := [(.int nv), (.long q3)]) (rest := []) (rmof l Z a0 hw [] oq oh os ok fH fS fK z1 nv q3 h0 n0 Z0 hd hq hI ho) (by decide) (by decide) (by decide) (by decide) (g := (mkF m 115 #[.val (.ref oq), .val (.ref ob), .val (.int p2), .val (.long q3), .second, .val (.int (p2 &&& (3 : Int32))), .val (.int nv), .val (.int (if (fB (0 : Int32)) = (0 : Int32) then (if (fB (1 : Int32)) = (0 : Int32) then (if (fB (2 : Int32)) = (0 : Int32) then (0 : Int32) else (1 : Int32)) else (1 : Int32)) else (1 : Int32))), .unset] [(.long q3), (.int nv), (.ref oq)])) rfl (by rw [hml]; rfl) (lenOf own_pd5 rfl) rfl (by show 2 * 0 + _ ≤ _; exact Nat.le_of_eq rfl) (hb hby dst_115) ?_
        rintro _ T18 L18 X18 ⟨rfl, N18q, K18, H18, S18, Kf18, z18, hq_18, hO18⟩
        show own_Go _ _ _ _ _ _ _ T18 (mkF m 118 #[.val (.ref oq), .val (.ref ob), .val (.int p2), .val (.long q3), .second, .val (.int (p2 &&& (3 : Int32))), .val (.int nv), .val (.int (if (fB (0 : Int32)) = (0 : Int32) then (if (fB (1 : Int32)) = (0 : Int32) then (if (fB (2 : Int32)) = (0 : Int32) then (0 : Int32) else (1 : Int32)) else (1 : Int32)) else (1 : Int32))), .unset] [])
        have N18 := Fr.app N0 N18q
        refine own_st (T' := T18) (g' := (mkF m 119 #[.val (.ref oq), .val (.ref ob), .val (.int p2), .val (.long q3), .second, .val (.int (p2 &&& (3 : Int32))), .val (.int nv), .val (.int (if (fB (0 : Int32)) = (0 : Int32) then (if (fB (1 : Int32)) = (0 : Int32) then (if (fB (2 : Int32)) = (0 : Int32) then (0 : Int32) else (1 : Int32)) else (1 : Int32)) else (1 : Int32))), .unset] [(.ref ob)])) (fun _ k => XS.aloadN X18.here hx rfl (hb hby dst_118) rfl rfl k) ?_
        refine own_st (T' := T18) (g' := (mkF m 121 #[.val (.ref oq), .val (.ref ob), .val (.int p2), .val (.long q3), .second, .val (.int (p2 &&& (3 : Int32))), .val (.int nv), .val (.int (if (fB (0 : Int32)) = (0 : Int32) then (if (fB (1 : Int32)) = (0 : Int32) then (if (fB (2 : Int32)) = (0 : Int32) then (0 : Int32) else (1 : Int32)) else (1 : Int32)) else (1 : Int32))), .unset] [(.int nv), (.ref ob)])) (fun _ k => XS.iload X18.here hx rfl (hb hby dst_119) rfl k) ?_
        refine own_st (T' := T18) (g' := (mkF m 122 #[.val (.ref oq), .val (.ref ob), .val (.int p2), .val (.long q3), .second, .val (.int (p2 &&& (3 : Int32))), .val (.int nv), .val (.int (if (fB (0 : Int32)) = (0 : Int32) then (if (fB (1 : Int32)) = (0 : Int32) then (if (fB (2 : Int32)) = (0 : Int32) then (0 : Int32) else (1 : Int32)) else (1 : Int32)) else (1 : Int32))), .unset] [(.int (1 : Int32)), (.int nv), (.ref ob)])) (fun _ k => XS.iconst X18.here hx rfl (hb hby dst_121) k) ?_
        obtain ⟨cl19, Ar19, S19, M19, H19⟩ := id (Ab.keep K18 hnb)
        obtain ⟨T19, h19, X19, e19, W19, st19⟩ := stZ X18 hx hZ rfl Ar19 (j := nv) (inb_of S19 ⟨(own_ok0 ho), (own_ok3 ho)⟩) (g := (mkF m 122 #[.val (.ref oq), .val (.ref ob), .val (.int p2), .val (.long q3), .second, .val (.int (p2 &&& (3 : Int32))), .val (.int nv), .val (.int (if (fB (0 : Int32)) = (0 : Int32) then (if (fB (1 : Int32)) = (0 : Int32) then (if (fB (2 : Int32)) = (0 : Int32) then (0 : Int32) else (1 : Int32)) else (1 : Int32)) else (1 : Int32))), .unset] [(.int (1 : Int32)), (.int nv), (.ref ob)])) rfl rfl (hb hby dst_122)
        have V19 : own_A Z h19 ob .boolean (3 : Int32) (fun i => (.int ((own_up fB nv (1 : Int32)) i))) := (own_A.set Ar19 S19 M19 H19 (own_ok0 ho) (own_ok3 ho) W19).upI
        have N19 := Fr.snoc X19 N18 G_b
        have hq_w19 : own_NQ Z h19 oq oh os ok H18 S18 Kf18 z18 := own_nqw W19 hnb hq_18
        refine own_st (g' := (mkF m 123 #[.val (.ref oq), .val (.ref ob), .val (.int p2), .val (.long q3), .second, .val (.int (p2 &&& (3 : Int32))), .val (.int nv), .val (.int (if (fB (0 : Int32)) = (0 : Int32) then (if (fB (1 : Int32)) = (0 : Int32) then (if (fB (2 : Int32)) = (0 : Int32) then (0 : Int32) else (1 : Int32)) else (1 : Int32)) else (1 : Int32))), .unset] [])) st19 ?_
        have hR_18 : own_Rel S18 (own_up fB nv (1 : Int32)) := own_relO hR hO18 ho
        refine own_st (T' := T19) (g' := (mkF m 124 #[.val (.ref oq), .val (.ref ob), .val (.int p2), .val (.long q3), .second, .val (.int (p2 &&& (3 : Int32))), .val (.int nv), .val (.int (if (fB (0 : Int32)) = (0 : Int32) then (if (fB (1 : Int32)) = (0 : Int32) then (if (fB (2 : Int32)) = (0 : Int32) then (0 : Int32) else (1 : Int32)) else (1 : Int32)) else (1 : Int32))), .unset] [(.ref ob)])) (fun _ k => XS.aloadN X19.here hx rfl (hb hby dst_123) rfl rfl k) ?_
        refine own_st (T' := T19) (g' := (mkF m 125 #[.val (.ref oq), .val (.ref ob), .val (.int p2), .val (.long q3), .second, .val (.int (p2 &&& (3 : Int32))), .val (.int nv), .val (.int (if (fB (0 : Int32)) = (0 : Int32) then (if (fB (1 : Int32)) = (0 : Int32) then (if (fB (2 : Int32)) = (0 : Int32) then (0 : Int32) else (1 : Int32)) else (1 : Int32)) else (1 : Int32))), .unset] [(.int (0 : Int32)), (.ref ob)])) (fun _ k => XS.iconst X19.here hx rfl (hb hby dst_124) k) ?_
        obtain ⟨cl20, Ar20, S20, M20, H20⟩ := id V19
        refine own_st (T' := T19) (g' := (mkF m 126 #[.val (.ref oq), .val (.ref ob), .val (.int p2), .val (.long q3), .second, .val (.int (p2 &&& (3 : Int32))), .val (.int nv), .val (.int (if (fB (0 : Int32)) = (0 : Int32) then (if (fB (1 : Int32)) = (0 : Int32) then (if (fB (2 : Int32)) = (0 : Int32) then (0 : Int32) else (1 : Int32)) else (1 : Int32)) else (1 : Int32))), .unset] [(.int ((own_up fB nv (1 : Int32)) (0 : Int32)))])) (fun _ k => X19.baloadBooleans hx (j := (0 : Int32)) (v := (.int ((own_up fB nv (1 : Int32)) (0 : Int32)))) (by rw [e19]; exact Ar20.1) (State.isArrayOf_alike hZ.alike Ar20.2.1) Ar20.2.2 (inb_of S20 ⟨(by decide), (by decide)⟩) (H20 _ (by decide) (by decide)) (g := (mkF m 125 #[.val (.ref oq), .val (.ref ob), .val (.int p2), .val (.long q3), .second, .val (.int (p2 &&& (3 : Int32))), .val (.int nv), .val (.int (if (fB (0 : Int32)) = (0 : Int32) then (if (fB (1 : Int32)) = (0 : Int32) then (if (fB (2 : Int32)) = (0 : Int32) then (0 : Int32) else (1 : Int32)) else (1 : Int32)) else (1 : Int32))), .unset] [(.int (0 : Int32)), (.ref ob)])) rfl rfl (hb hby dst_125) _ k) ?_
        refine own_st (T' := T19) (g' := (mkF m 146 #[.val (.ref oq), .val (.ref ob), .val (.int p2), .val (.long q3), .second, .val (.int (p2 &&& (3 : Int32))), .val (.int nv), .val (.int (if (fB (0 : Int32)) = (0 : Int32) then (if (fB (1 : Int32)) = (0 : Int32) then (if (fB (2 : Int32)) = (0 : Int32) then (0 : Int32) else (1 : Int32)) else (1 : Int32)) else (1 : Int32))), .unset] [(.int (if ((own_up fB nv (1 : Int32)) (0 : Int32)) = (0 : Int32) then (if ((own_up fB nv (1 : Int32)) (1 : Int32)) = (0 : Int32) then (if ((own_up fB nv (1 : Int32)) (2 : Int32)) = (0 : Int32) then (1 : Int32) else (0 : Int32)) else (0 : Int32)) else (0 : Int32)))])) (fun t k => ?_) ?_
        · by_cases hc126_21 : ((own_up fB nv (1 : Int32)) (0 : Int32)) = (0 : Int32)
          · refine own_sq (T' := T19) (g' := (mkF m 129 #[.val (.ref oq), .val (.ref ob), .val (.int p2), .val (.long q3), .second, .val (.int (p2 &&& (3 : Int32))), .val (.int nv), .val (.int (if (fB (0 : Int32)) = (0 : Int32) then (if (fB (1 : Int32)) = (0 : Int32) then (if (fB (2 : Int32)) = (0 : Int32) then (0 : Int32) else (1 : Int32)) else (1 : Int32)) else (1 : Int32))), .unset] [])) (fun k => XS.ifNo X19.here hx rfl (hb hby dst_126) rfl ((if0 _ _).trans (teq hc126_21).2) k) ?_
            refine own_sq (T' := T19) (g' := (mkF m 130 #[.val (.ref oq), .val (.ref ob), .val (.int p2), .val (.long q3), .second, .val (.int (p2 &&& (3 : Int32))), .val (.int nv), .val (.int (if (fB (0 : Int32)) = (0 : Int32) then (if (fB (1 : Int32)) = (0 : Int32) then (if (fB (2 : Int32)) = (0 : Int32) then (0 : Int32) else (1 : Int32)) else (1 : Int32)) else (1 : Int32))), .unset] [(.ref ob)])) (fun k => XS.aloadN X19.here hx rfl (hb hby dst_129) rfl rfl k) ?_
            refine own_sq (T' := T19) (g' := (mkF m 131 #[.val (.ref oq), .val (.ref ob), .val (.int p2), .val (.long q3), .second, .val (.int (p2 &&& (3 : Int32))), .val (.int nv), .val (.int (if (fB (0 : Int32)) = (0 : Int32) then (if (fB (1 : Int32)) = (0 : Int32) then (if (fB (2 : Int32)) = (0 : Int32) then (0 : Int32) else (1 : Int32)) else (1 : Int32)) else (1 : Int32))), .unset] [(.int (1 : Int32)), (.ref ob)])) (fun k => XS.iconst X19.here hx rfl (hb hby dst_130) k) ?_
            obtain ⟨cl22, Ar22, S22, M22, H22⟩ := id V19
            refine own_sq (T' := T19) (g' := (mkF m 132 #[.val (.ref oq), .val (.ref ob), .val (.int p2), .val (.long q3), .second, .val (.int (p2 &&& (3 : Int32))), .val (.int nv), .val (.int (if (fB (0 : Int32)) = (0 : Int32) then (if (fB (1 : Int32)) = (0 : Int32) then (if (fB (2 : Int32)) = (0 : Int32) then (0 : Int32) else (1 : Int32)) else (1 : Int32)) else (1 : Int32))), .unset] [(.int ((own_up fB nv (1 : Int32)) (1 : Int32)))])) (fun k => X19.baloadBooleans hx (j := (1 : Int32)) (v := (.int ((own_up fB nv (1 : Int32)) (1 : Int32)))) (by rw [e19]; exact Ar22.1) (State.isArrayOf_alike hZ.alike Ar22.2.1) Ar22.2.2 (inb_of S22 ⟨(by decide), (by decide)⟩) (H22 _ (by decide) (by decide)) (g := (mkF m 131 #[.val (.ref oq), .val (.ref ob), .val (.int p2), .val (.long q3), .second, .val (.int (p2 &&& (3 : Int32))), .val (.int nv), .val (.int (if (fB (0 : Int32)) = (0 : Int32) then (if (fB (1 : Int32)) = (0 : Int32) then (if (fB (2 : Int32)) = (0 : Int32) then (0 : Int32) else (1 : Int32)) else (1 : Int32)) else (1 : Int32))), .unset] [(.int (1 : Int32)), (.ref ob)])) rfl rfl (hb hby dst_131) _ k) ?_
            by_cases hc132_23 : ((own_up fB nv (1 : Int32)) (1 : Int32)) = (0 : Int32)
            · refine own_sq (T' := T19) (g' := (mkF m 135 #[.val (.ref oq), .val (.ref ob), .val (.int p2), .val (.long q3), .second, .val (.int (p2 &&& (3 : Int32))), .val (.int nv), .val (.int (if (fB (0 : Int32)) = (0 : Int32) then (if (fB (1 : Int32)) = (0 : Int32) then (if (fB (2 : Int32)) = (0 : Int32) then (0 : Int32) else (1 : Int32)) else (1 : Int32)) else (1 : Int32))), .unset] [])) (fun k => XS.ifNo X19.here hx rfl (hb hby dst_132) rfl ((if0 _ _).trans (teq hc132_23).2) k) ?_
              refine own_sq (T' := T19) (g' := (mkF m 136 #[.val (.ref oq), .val (.ref ob), .val (.int p2), .val (.long q3), .second, .val (.int (p2 &&& (3 : Int32))), .val (.int nv), .val (.int (if (fB (0 : Int32)) = (0 : Int32) then (if (fB (1 : Int32)) = (0 : Int32) then (if (fB (2 : Int32)) = (0 : Int32) then (0 : Int32) else (1 : Int32)) else (1 : Int32)) else (1 : Int32))), .unset] [(.ref ob)])) (fun k => XS.aloadN X19.here hx rfl (hb hby dst_135) rfl rfl k) ?_
              refine own_sq (T' := T19) (g' := (mkF m 137 #[.val (.ref oq), .val (.ref ob), .val (.int p2), .val (.long q3), .second, .val (.int (p2 &&& (3 : Int32))), .val (.int nv), .val (.int (if (fB (0 : Int32)) = (0 : Int32) then (if (fB (1 : Int32)) = (0 : Int32) then (if (fB (2 : Int32)) = (0 : Int32) then (0 : Int32) else (1 : Int32)) else (1 : Int32)) else (1 : Int32))), .unset] [(.int (2 : Int32)), (.ref ob)])) (fun k => XS.iconst X19.here hx rfl (hb hby dst_136) k) ?_
              obtain ⟨cl24, Ar24, S24, M24, H24⟩ := id V19
              refine own_sq (T' := T19) (g' := (mkF m 138 #[.val (.ref oq), .val (.ref ob), .val (.int p2), .val (.long q3), .second, .val (.int (p2 &&& (3 : Int32))), .val (.int nv), .val (.int (if (fB (0 : Int32)) = (0 : Int32) then (if (fB (1 : Int32)) = (0 : Int32) then (if (fB (2 : Int32)) = (0 : Int32) then (0 : Int32) else (1 : Int32)) else (1 : Int32)) else (1 : Int32))), .unset] [(.int ((own_up fB nv (1 : Int32)) (2 : Int32)))])) (fun k => X19.baloadBooleans hx (j := (2 : Int32)) (v := (.int ((own_up fB nv (1 : Int32)) (2 : Int32)))) (by rw [e19]; exact Ar24.1) (State.isArrayOf_alike hZ.alike Ar24.2.1) Ar24.2.2 (inb_of S24 ⟨(by decide), (by decide)⟩) (H24 _ (by decide) (by decide)) (g := (mkF m 137 #[.val (.ref oq), .val (.ref ob), .val (.int p2), .val (.long q3), .second, .val (.int (p2 &&& (3 : Int32))), .val (.int nv), .val (.int (if (fB (0 : Int32)) = (0 : Int32) then (if (fB (1 : Int32)) = (0 : Int32) then (if (fB (2 : Int32)) = (0 : Int32) then (0 : Int32) else (1 : Int32)) else (1 : Int32)) else (1 : Int32))), .unset] [(.int (2 : Int32)), (.ref ob)])) rfl rfl (hb hby dst_137) _ k) ?_
              by_cases hc138_25 : ((own_up fB nv (1 : Int32)) (2 : Int32)) = (0 : Int32)
              · refine own_sq (T' := T19) (g' := (mkF m 141 #[.val (.ref oq), .val (.ref ob), .val (.int p2), .val (.long q3), .second, .val (.int (p2 &&& (3 : Int32))), .val (.int nv), .val (.int (if (fB (0 : Int32)) = (0 : Int32) then (if (fB (1 : Int32)) = (0 : Int32) then (if (fB (2 : Int32)) = (0 : Int32) then (0 : Int32) else (1 : Int32)) else (1 : Int32)) else (1 : Int32))), .unset] [])) (fun k => XS.ifNo X19.here hx rfl (hb hby dst_138) rfl ((if0 _ _).trans (teq hc138_25).2) k) ?_
                refine own_sq (T' := T19) (g' := (mkF m 142 #[.val (.ref oq), .val (.ref ob), .val (.int p2), .val (.long q3), .second, .val (.int (p2 &&& (3 : Int32))), .val (.int nv), .val (.int (if (fB (0 : Int32)) = (0 : Int32) then (if (fB (1 : Int32)) = (0 : Int32) then (if (fB (2 : Int32)) = (0 : Int32) then (0 : Int32) else (1 : Int32)) else (1 : Int32)) else (1 : Int32))), .unset] [(.int (1 : Int32))])) (fun k => XS.iconst X19.here hx rfl (hb hby dst_141) k) ?_
                refine own_sq (T' := T19) (g' := (mkF m 146 #[.val (.ref oq), .val (.ref ob), .val (.int p2), .val (.long q3), .second, .val (.int (p2 &&& (3 : Int32))), .val (.int nv), .val (.int (if (fB (0 : Int32)) = (0 : Int32) then (if (fB (1 : Int32)) = (0 : Int32) then (if (fB (2 : Int32)) = (0 : Int32) then (0 : Int32) else (1 : Int32)) else (1 : Int32)) else (1 : Int32))), .unset] [(.int (1 : Int32))])) (fun k => XS.goto X19.here hx rfl (pc0 := 142) (pc' := 146) rfl (hb hby dst_142) (by decide) (by decide) k) ?_
                simp only [if_pos hc126_21, if_pos hc132_23, if_pos hc138_25] at k; exact k
              · refine own_sq (T' := T19) (g' := (mkF m 145 #[.val (.ref oq), .val (.ref ob), .val (.int p2), .val (.long q3), .second, .val (.int (p2 &&& (3 : Int32))), .val (.int nv), .val (.int (if (fB (0 : Int32)) = (0 : Int32) then (if (fB (1 : Int32)) = (0 : Int32) then (if (fB (2 : Int32)) = (0 : Int32) then (0 : Int32) else (1 : Int32)) else (1 : Int32)) else (1 : Int32))), .unset] [])) (fun k => XS.ifYes X19.here hx rfl (pc0 := 138) (pc' := 145) rfl (hb hby dst_138) rfl ((if0 _ _).trans (feq hc138_25).2) (by decide) (by decide) k) ?_
                refine own_sq (T' := T19) (g' := (mkF m 146 #[.val (.ref oq), .val (.ref ob), .val (.int p2), .val (.long q3), .second, .val (.int (p2 &&& (3 : Int32))), .val (.int nv), .val (.int (if (fB (0 : Int32)) = (0 : Int32) then (if (fB (1 : Int32)) = (0 : Int32) then (if (fB (2 : Int32)) = (0 : Int32) then (0 : Int32) else (1 : Int32)) else (1 : Int32)) else (1 : Int32))), .unset] [(.int (0 : Int32))])) (fun k => XS.iconst X19.here hx rfl (hb hby dst_145) k) ?_
                simp only [if_pos hc126_21, if_pos hc132_23, if_neg hc138_25] at k; exact k
            · refine own_sq (T' := T19) (g' := (mkF m 145 #[.val (.ref oq), .val (.ref ob), .val (.int p2), .val (.long q3), .second, .val (.int (p2 &&& (3 : Int32))), .val (.int nv), .val (.int (if (fB (0 : Int32)) = (0 : Int32) then (if (fB (1 : Int32)) = (0 : Int32) then (if (fB (2 : Int32)) = (0 : Int32) then (0 : Int32) else (1 : Int32)) else (1 : Int32)) else (1 : Int32))), .unset] [])) (fun k => XS.ifYes X19.here hx rfl (pc0 := 132) (pc' := 145) rfl (hb hby dst_132) rfl ((if0 _ _).trans (feq hc132_23).2) (by decide) (by decide) k) ?_
              refine own_sq (T' := T19) (g' := (mkF m 146 #[.val (.ref oq), .val (.ref ob), .val (.int p2), .val (.long q3), .second, .val (.int (p2 &&& (3 : Int32))), .val (.int nv), .val (.int (if (fB (0 : Int32)) = (0 : Int32) then (if (fB (1 : Int32)) = (0 : Int32) then (if (fB (2 : Int32)) = (0 : Int32) then (0 : Int32) else (1 : Int32)) else (1 : Int32)) else (1 : Int32))), .unset] [(.int (0 : Int32))])) (fun k => XS.iconst X19.here hx rfl (hb hby dst_145) k) ?_
              simp only [if_pos hc126_21, if_neg hc132_23] at k; exact k
          · refine own_sq (T' := T19) (g' := (mkF m 145 #[.val (.ref oq), .val (.ref ob), .val (.int p2), .val (.long q3), .second, .val (.int (p2 &&& (3 : Int32))), .val (.int nv), .val (.int (if (fB (0 : Int32)) = (0 : Int32) then (if (fB (1 : Int32)) = (0 : Int32) then (if (fB (2 : Int32)) = (0 : Int32) then (0 : Int32) else (1 : Int32)) else (1 : Int32)) else (1 : Int32))), .unset] [])) (fun k => XS.ifYes X19.here hx rfl (pc0 := 126) (pc' := 145) rfl (hb hby dst_126) rfl ((if0 _ _).trans (feq hc126_21).2) (by decide) (by decide) k) ?_
            refine own_sq (T' := T19) (g' := (mkF m 146 #[.val (.ref oq), .val (.ref ob), .val (.int p2), .val (.long q3), .second, .val (.int (p2 &&& (3 : Int32))), .val (.int nv), .val (.int (if (fB (0 : Int32)) = (0 : Int32) then (if (fB (1 : Int32)) = (0 : Int32) then (if (fB (2 : Int32)) = (0 : Int32) then (0 : Int32) else (1 : Int32)) else (1 : Int32)) else (1 : Int32))), .unset] [(.int (0 : Int32))])) (fun k => XS.iconst X19.here hx rfl (hb hby dst_145) k) ?_
            simp only [if_neg hc126_21] at k; exact k
        refine own_st (T' := T19) (g' := (mkF m 148 #[.val (.ref oq), .val (.ref ob), .val (.int p2), .val (.long q3), .second, .val (.int (p2 &&& (3 : Int32))), .val (.int nv), .val (.int (if (fB (0 : Int32)) = (0 : Int32) then (if (fB (1 : Int32)) = (0 : Int32) then (if (fB (2 : Int32)) = (0 : Int32) then (0 : Int32) else (1 : Int32)) else (1 : Int32)) else (1 : Int32))), .val (.int (if ((own_up fB nv (1 : Int32)) (0 : Int32)) = (0 : Int32) then (if ((own_up fB nv (1 : Int32)) (1 : Int32)) = (0 : Int32) then (if ((own_up fB nv (1 : Int32)) (2 : Int32)) = (0 : Int32) then (1 : Int32) else (0 : Int32)) else (0 : Int32)) else (0 : Int32)))] [])) (fun _ k => XS.istore X19.here hx rfl (hb hby dst_146) rfl (l' := #[.val (.ref oq), .val (.ref ob), .val (.int p2), .val (.long q3), .second, .val (.int (p2 &&& (3 : Int32))), .val (.int nv), .val (.int (if (fB (0 : Int32)) = (0 : Int32) then (if (fB (1 : Int32)) = (0 : Int32) then (if (fB (2 : Int32)) = (0 : Int32) then (0 : Int32) else (1 : Int32)) else (1 : Int32)) else (1 : Int32))), .val (.int (if ((own_up fB nv (1 : Int32)) (0 : Int32)) = (0 : Int32) then (if ((own_up fB nv (1 : Int32)) (1 : Int32)) = (0 : Int32) then (if ((own_up fB nv (1 : Int32)) (2 : Int32)) = (0 : Int32) then (1 : Int32) else (0 : Int32)) else (0 : Int32)) else (0 : Int32)))]) rfl k) ?_
        refine own_st (T' := T19) (g' := (mkF m 149 #[.val (.ref oq), .val (.ref ob), .val (.int p2), .val (.long q3), .second, .val (.int (p2 &&& (3 : Int32))), .val (.int nv), .val (.int (if (fB (0 : Int32)) = (0 : Int32) then (if (fB (1 : Int32)) = (0 : Int32) then (if (fB (2 : Int32)) = (0 : Int32) then (0 : Int32) else (1 : Int32)) else (1 : Int32)) else (1 : Int32))), .val (.int (if ((own_up fB nv (1 : Int32)) (0 : Int32)) = (0 : Int32) then (if ((own_up fB nv (1 : Int32)) (1 : Int32)) = (0 : Int32) then (if ((own_up fB nv (1 : Int32)) (2 : Int32)) = (0 : Int32) then (1 : Int32) else (0 : Int32)) else (0 : Int32)) else (0 : Int32)))] [(.ref oq)])) (fun _ k => XS.aloadN X19.here hx rfl (hb hby dst_148) rfl rfl k) ?_
        refine own_callV X19 hx hZ (y := (⟨"com/example/albatross/albatross/NodeQueue", "isEmpty", "()Z"⟩ : MethodName)) hown (own_w hw 22 rfl) (own_w hw 23 rfl) (own_w hw 25 rfl) (own_w hw 24 rfl) (own_w hw 26 rfl) (own_w hw 2 rfl) (by decide) (W := 0) e19 (b := oq) hq_w19.1 (argsL := []) (rest := []) (rmie l Z a0 hw [] oq z18 h19 n0 (Nat.le_trans (Nat.le_trans Z0 K18.1) (Nat.le_of_eq W19.size.symm)) hq_w19.2.2.2.2.1) (by decide) (by decide) (by decide) (by decide) (g := (mkF m 149 #[.val (.ref oq), .val (.ref ob), .val (.int p2), .val (.long q3), .second, .val (.int (p2 &&& (3 : Int32))), .val (.int nv), .val (.int (if (fB (0 : Int32)) = (0 : Int32) then (if (fB (1 : Int32)) = (0 : Int32) then (if (fB (2 : Int32)) = (0 : Int32) then (0 : Int32) else (1 : Int32)) else (1 : Int32)) else (1 : Int32))), .val (.int (if ((own_up fB nv (1 : Int32)) (0 : Int32)) = (0 : Int32) then (if ((own_up fB nv (1 : Int32)) (1 : Int32)) = (0 : Int32) then (if ((own_up fB nv (1 : Int32)) (2 : Int32)) = (0 : Int32) then (1 : Int32) else (0 : Int32)) else (0 : Int32)) else (0 : Int32)))] [(.ref oq)])) rfl (by rw [hml]; rfl) (lenOf own_pd4 rfl) rfl (by show 2 * 0 + _ ≤ _; exact Nat.le_of_eq rfl) (hb hby dst_149) ?_
        rintro _ T26 L26 X26 ⟨rfl, N26q, e26⟩
        show own_Go _ _ _ _ _ _ _ T26 (mkF m 152 #[.val (.ref oq), .val (.ref ob), .val (.int p2), .val (.long q3), .second, .val (.int (p2 &&& (3 : Int32))), .val (.int nv), .val (.int (if (fB (0 : Int32)) = (0 : Int32) then (if (fB (1 : Int32)) = (0 : Int32) then (if (fB (2 : Int32)) = (0 : Int32) then (0 : Int32) else (1 : Int32)) else (1 : Int32)) else (1 : Int32))), .val (.int (if ((own_up fB nv (1 : Int32)) (0 : Int32)) = (0 : Int32) then (if ((own_up fB nv (1 : Int32)) (1 : Int32)) = (0 : Int32) then (if ((own_up fB nv (1 : Int32)) (2 : Int32)) = (0 : Int32) then (1 : Int32) else (0 : Int32)) else (0 : Int32)) else (0 : Int32)))] [(.int (if z18 = (0 : Int32) then (1 : Int32) else (0 : Int32)))])
        have N26 := Fr.app N19 N26q
        have hq_26 : own_NQ Z T26.heap oq oh os ok H18 S18 Kf18 z18 := by rw [e26]; exact hq_w19
        have Ab_26 : own_A Z T26.heap ob .boolean (3 : Int32) (fun i => (.int ((own_up fB nv (1 : Int32)) i))) := by rw [e26]; exact V19
        refine own_st (T' := T26) (g' := (mkF m 154 #[.val (.ref oq), .val (.ref ob), .val (.int p2), .val (.long q3), .second, .val (.int (p2 &&& (3 : Int32))), .val (.int nv), .val (.int (if (fB (0 : Int32)) = (0 : Int32) then (if (fB (1 : Int32)) = (0 : Int32) then (if (fB (2 : Int32)) = (0 : Int32) then (0 : Int32) else (1 : Int32)) else (1 : Int32)) else (1 : Int32))), .val (.int (if ((own_up fB nv (1 : Int32)) (0 : Int32)) = (0 : Int32) then (if ((own_up fB nv (1 : Int32)) (1 : Int32)) = (0 : Int32) then (if ((own_up fB nv (1 : Int32)) (2 : Int32)) = (0 : Int32) then (1 : Int32) else (0 : Int32)) else (0 : Int32)) else (0 : Int32)))] [(.int (if ((own_up fB nv (1 : Int32)) (0 : Int32)) = (0 : Int32) then (if ((own_up fB nv (1 : Int32)) (1 : Int32)) = (0 : Int32) then (if ((own_up fB nv (1 : Int32)) (2 : Int32)) = (0 : Int32) then (1 : Int32) else (0 : Int32)) else (0 : Int32)) else (0 : Int32))), (.int (if z18 = (0 : Int32) then (1 : Int32) else (0 : Int32)))])) (fun _ k => XS.iload X26.here hx rfl (hb hby dst_152) rfl k) ?_
        refine own_st (T' := T26) (g' := (mkF m 157 #[.val (.ref oq), .val (.ref ob), .val (.int p2), .val (.long q3), .second, .val (.int (p2 &&& (3 : Int32))), .val (.int nv), .val (.int (if (fB (0 : Int32)) = (0 : Int32) then (if (fB (1 : Int32)) = (0 : Int32) then (if (fB (2 : Int32)) = (0 : Int32) then (0 : Int32) else (1 : Int32)) else (1 : Int32)) else (1 : Int32))), .val (.int (if ((own_up fB nv (1 : Int32)) (0 : Int32)) = (0 : Int32) then (if ((own_up fB nv (1 : Int32)) (1 : Int32)) = (0 : Int32) then (if ((own_up fB nv (1 : Int32)) (2 : Int32)) = (0 : Int32) then (1 : Int32) else (0 : Int32)) else (0 : Int32)) else (0 : Int32)))] [])) (fun _ k => XS.icmpNo X26.here hx rfl (hb hby dst_154) rfl (teq (own_last hO18.1 hR_18 : ((if z18 = (0 : Int32) then (1 : Int32) else (0 : Int32)) = (if ((own_up fB nv (1 : Int32)) (0 : Int32)) = (0 : Int32) then (if ((own_up fB nv (1 : Int32)) (1 : Int32)) = (0 : Int32) then (if ((own_up fB nv (1 : Int32)) (2 : Int32)) = (0 : Int32) then (1 : Int32) else (0 : Int32)) else (0 : Int32)) else (0 : Int32))))).2 k) ?_
        refine own_st (T' := T26) (g' := (mkF m 158 #[.val (.ref oq), .val (.ref ob), .val (.int p2), .val (.long q3), .second, .val (.int (p2 &&& (3 : Int32))), .val (.int nv), .val (.int (if (fB (0 : Int32)) = (0 : Int32) then (if (fB (1 : Int32)) = (0 : Int32) then (if (fB (2 : Int32)) = (0 : Int32) then (0 : Int32) else (1 : Int32)) else (1 : Int32)) else (1 : Int32))), .val (.int (if ((own_up fB nv (1 : Int32)) (0 : Int32)) = (0 : Int32) then (if ((own_up fB nv (1 : Int32)) (1 : Int32)) = (0 : Int32) then (if ((own_up fB nv (1 : Int32)) (2 : Int32)) = (0 : Int32) then (1 : Int32) else (0 : Int32)) else (0 : Int32)) else (0 : Int32)))] [(.int (1 : Int32))])) (fun _ k => XS.iconst X26.here hx rfl (hb hby dst_157) k) ?_
        refine own_st (T' := T26) (g' := (mkF m 162 #[.val (.ref oq), .val (.ref ob), .val (.int p2), .val (.long q3), .second, .val (.int (p2 &&& (3 : Int32))), .val (.int nv), .val (.int (if (fB (0 : Int32)) = (0 : Int32) then (if (fB (1 : Int32)) = (0 : Int32) then (if (fB (2 : Int32)) = (0 : Int32) then (0 : Int32) else (1 : Int32)) else (1 : Int32)) else (1 : Int32))), .val (.int (if ((own_up fB nv (1 : Int32)) (0 : Int32)) = (0 : Int32) then (if ((own_up fB nv (1 : Int32)) (1 : Int32)) = (0 : Int32) then (if ((own_up fB nv (1 : Int32)) (2 : Int32)) = (0 : Int32) then (1 : Int32) else (0 : Int32)) else (0 : Int32)) else (0 : Int32)))] [(.int (1 : Int32))])) (fun _ k => XS.goto X26.here hx rfl (pc0 := 158) (pc' := 162) rfl (hb hby dst_158) (by decide) (by decide) k) ?_
        exact own_retN X26 hx hlk hret (by simp) (hb hby dst_162) ⟨rfl, N26, (by rw [e26]; exact (((Keep.refl h0 ([oq, oh, os, ok] ++ [ob])).trans K18 (fun x hx => Or.inl (List.mem_append_left _ hx))).wr W19 (Or.inl (by simp)))), H18, S18, Kf18, z18, (own_up fB nv (1 : Int32)), hq_26, hO18.1, Ab_26, hR_18⟩ (by decide) (by decide)
      · refine own_st (T' := s₁) (g' := (mkF m 75 #[.val (.ref oq), .val (.ref ob), .val (.int p2), .val (.long q3), .second, .val (.int (p2 &&& (3 : Int32))), .val (.int nv), .val (.int (if (fB (0 : Int32)) = (0 : Int32) then (if (fB (1 : Int32)) = (0 : Int32) then (if (fB (2 : Int32)) = (0 : Int32) then (0 : Int32) else (1 : Int32)) else (1 : Int32)) else (1 : Int32))), .unset] [])) (fun _ k => XS.ifNo X0.here hx rfl (hb hby dst_72) rfl ((if0 _ _).trans (feq hc72_17).1) k) ?_
        refine own_st (T' := s₁) (g' := (mkF m 76 #[.val (.ref oq), .val (.ref ob), .val (.int p2), .val (.long q3), .second, .val (.int (p2 &&& (3 : Int32))), .val (.int nv), .val (.int (if (fB (0 : Int32)) = (0 : Int32) then (if (fB (1 : Int32)) = (0 : Int32) then (if (fB (2 : Int32)) = (0 : Int32) then (0 : Int32) else (1 : Int32)) else (1 : Int32)) else (1 : Int32))), .unset] [(.ref oq)])) (fun _ k => XS.aloadN X0.here hx rfl (hb hby dst_75) rfl rfl k) ?_
        refine own_callV X0 hx hZ (y := (⟨"com/example/albatross/albatross/NodeQueue", "poll", "()I"⟩ : MethodName)) hown (own_w hw 51 rfl) (own_w hw 52 rfl) (own_w hw 54 rfl) (own_w hw 53 rfl) (own_w hw 55 rfl) (own_w hw 2 rfl) (by decide) (W := 0) e0 (b := oq) hq.1 (argsL := []) (rest := []) (rmpo l Z a0 hw [] oq oh os ok fH fS fK z1 h0 n0 Z0 hd hq hI (own_any hR hI hc72_17)) (by decide) (by decide) (by decide) (by decide) (g := (mkF m 76 #[.val (.ref oq), .val (.ref ob), .val (.int p2), .val (.long q3), .second, .val (.int (p2 &&& (3 : Int32))), .val (.int nv), .val (.int (if (fB (0 : Int32)) = (0 : Int32) then (if (fB (1 : Int32)) = (0 : Int32) then (if (fB (2 : Int32)) = (0 : Int32) then (0 : Int32) else (1 : Int32)) else (1 : Int32)) else (1 : Int32))), .unset] [(.ref oq)])) rfl (by rw [hml]; rfl) (lenOf own_pd6 rfl) rfl (by show 2 * 0 + _ ≤ _; exact Nat.le_of_eq rfl) (hb hby dst_76) ?_
        rintro _ T27 L27 X27 ⟨f27, rfl, N27q, K27, H27, S27, z27, hq_27, hP27⟩
        show own_Go _ _ _ _ _ _ _ T27 (mkF m 79 #[.val (.ref oq), .val (.ref ob), .val (.int p2), .val (.long q3), .second, .val (.int (p2 &&& (3 : Int32))), .val (.int nv), .val (.int (if (fB (0 : Int32)) = (0 : Int32) then (if (fB (1 : Int32)) = (0 : Int32) then (if (fB (2 : Int32)) = (0 : Int32) then (0 : Int32) else (1 : Int32)) else (1 : Int32)) else (1 : Int32))), .unset] [(.int f27)])
        have N27 := Fr.app N0 N27q
        have hr27 := own_relP hR hP27
        refine own_st (T' := T27) (g' := (mkF m 81 #[.val (.ref oq), .val (.ref ob), .val (.int p2), .val (.long q3), .second, .val (.int (p2 &&& (3 : Int32))), .val (.int nv), .val (.int (if (fB (0 : Int32)) = (0 : Int32) then (if (fB (1 : Int32)) = (0 : Int32) then (if (fB (2 : Int32)) = (0 : Int32) then (0 : Int32) else (1 : Int32)) else (1 : Int32)) else (1 : Int32))), .val (.int f27)] [])) (fun _ k => XS.istore X27.here hx rfl (hb hby dst_79) rfl (l' := #[.val (.ref oq), .val (.ref ob), .val (.int p2), .val (.long q3), .second, .val (.int (p2 &&& (3 : Int32))), .val (.int nv), .val (.int (if (fB (0 : Int32)) = (0 : Int32) then (if (fB (1 : Int32)) = (0 : Int32) then (if (fB (2 : Int32)) = (0 : Int32) then (0 : Int32) else (1 : Int32)) else (1 : Int32)) else (1 : Int32))), .val (.int f27)]) rfl k) ?_
        refine own_st (T' := T27) (g' := (mkF m 83 #[.val (.ref oq), .val (.ref ob), .val (.int p2), .val (.long q3), .second, .val (.int (p2 &&& (3 : Int32))), .val (.int nv), .val (.int (if (fB (0 : Int32)) = (0 : Int32) then (if (fB (1 : Int32)) = (0 : Int32) then (if (fB (2 : Int32)) = (0 : Int32) then (0 : Int32) else (1 : Int32)) else (1 : Int32)) else (1 : Int32))), .val (.int f27)] [(.int f27)])) (fun _ k => XS.iload X27.here hx rfl (hb hby dst_81) rfl k) ?_
        refine own_st (T' := T27) (g' := (mkF m 86 #[.val (.ref oq), .val (.ref ob), .val (.int p2), .val (.long q3), .second, .val (.int (p2 &&& (3 : Int32))), .val (.int nv), .val (.int (if (fB (0 : Int32)) = (0 : Int32) then (if (fB (1 : Int32)) = (0 : Int32) then (if (fB (2 : Int32)) = (0 : Int32) then (0 : Int32) else (1 : Int32)) else (1 : Int32)) else (1 : Int32))), .val (.int f27)] [])) (fun _ k => XS.ifNo X27.here hx rfl (hb hby dst_83) rfl ((if0 _ _).trans (flt (own_ok0 hP27.1 : ¬ (f27 < (0 : Int32)))).1) k) ?_
        refine own_st (T' := T27) (g' := (mkF m 88 #[.val (.ref oq), .val (.ref ob), .val (.int p2), .val (.long q3), .second, .val (.int (p2 &&& (3 : Int32))), .val (.int nv), .val (.int (if (fB (0 : Int32)) = (0 : Int32) then (if (fB (1 : Int32)) = (0 : Int32) then (if (fB (2 : Int32)) = (0 : Int32) then (0 : Int32) else (1 : Int32)) else (1 : Int32)) else (1 : Int32))), .val (.int f27)] [(.int f27)])) (fun _ k => XS.iload X27.here hx rfl (hb hby dst_86) rfl k) ?_
        refine own_st (T' := T27) (g' := (mkF m 89 #[.val (.ref oq), .val (.ref ob), .val (.int p2), .val (.long q3), .second, .val (.int (p2 &&& (3 : Int32))), .val (.int nv), .val (.int (if (fB (0 : Int32)) = (0 : Int32) then (if (fB (1 : Int32)) = (0 : Int32) then (if (fB (2 : Int32)) = (0 : Int32) then (0 : Int32) else (1 : Int32)) else (1 : Int32)) else (1 : Int32))), .val (.int f27)] [(.int (2 : Int32)), (.int f27)])) (fun _ k => XS.iconst X27.here hx rfl (hb hby dst_88) k) ?_
        refine own_st (T' := T27) (g' := (mkF m 94 #[.val (.ref oq), .val (.ref ob), .val (.int p2), .val (.long q3), .second, .val (.int (p2 &&& (3 : Int32))), .val (.int nv), .val (.int (if (fB (0 : Int32)) = (0 : Int32) then (if (fB (1 : Int32)) = (0 : Int32) then (if (fB (2 : Int32)) = (0 : Int32) then (0 : Int32) else (1 : Int32)) else (1 : Int32)) else (1 : Int32))), .val (.int f27)] [])) (fun _ k => XS.icmpYes X27.here hx rfl (pc0 := 89) (pc' := 94) rfl (hb hby dst_89) rfl (flt (own_okle hP27.1 : ¬ ((2 : Int32) < f27))).2.2.2 (by decide) (by decide) k) ?_
        refine own_st (T' := T27) (g' := (mkF m 95 #[.val (.ref oq), .val (.ref ob), .val (.int p2), .val (.long q3), .second, .val (.int (p2 &&& (3 : Int32))), .val (.int nv), .val (.int (if (fB (0 : Int32)) = (0 : Int32) then (if (fB (1 : Int32)) = (0 : Int32) then (if (fB (2 : Int32)) = (0 : Int32) then (0 : Int32) else (1 : Int32)) else (1 : Int32)) else (1 : Int32))), .val (.int f27)] [(.ref ob)])) (fun _ k => XS.aloadN X27.here hx rfl (hb hby dst_94) rfl rfl k) ?_
        refine own_st (T' := T27) (g' := (mkF m 97 #[.val (.ref oq), .val (.ref ob), .val (.int p2), .val (.long q3), .second, .val (.int (p2 &&& (3 : Int32))), .val (.int nv), .val (.int (if (fB (0 : Int32)) = (0 : Int32) then (if (fB (1 : Int32)) = (0 : Int32) then (if (fB (2 : Int32)) = (0 : Int32) then (0 : Int32) else (1 : Int32)) else (1 : Int32)) else (1 : Int32))), .val (.int f27)] [(.int f27), (.ref ob)])) (fun _ k => XS.iload X27.here hx rfl (hb hby dst_95) rfl k) ?_
        obtain ⟨cl28, Ar28, S28, M28, H28⟩ := id (Ab.keep K27 hnb)
        refine own_st (T' := T27) (g' := (mkF m 98 #[.val (.ref oq), .val (.ref ob), .val (.int p2), .val (.long q3), .second, .val (.int (p2 &&& (3 : Int32))), .val (.int nv), .val (.int (if (fB (0 : Int32)) = (0 : Int32) then (if (fB (1 : Int32)) = (0 : Int32) then (if (fB (2 : Int32)) = (0 : Int32) then (0 : Int32) else (1 : Int32)) else (1 : Int32)) else (1 : Int32))), .val (.int f27)] [(.int (fB f27))])) (fun _ k => X27.baloadBooleans hx (j := f27) (v := (.int (fB f27))) Ar28.1 (State.isArrayOf_alike hZ.alike Ar28.2.1) Ar28.2.2 (inb_of S28 ⟨(own_ok0 hP27.1), (own_ok3 hP27.1)⟩) (H28 _ (own_ok0 hP27.1) (own_ok3 hP27.1)) (g := (mkF m 97 #[.val (.ref oq), .val (.ref ob), .val (.int p2), .val (.long q3), .second, .val (.int (p2 &&& (3 : Int32))), .val (.int nv), .val (.int (if (fB (0 : Int32)) = (0 : Int32) then (if (fB (1 : Int32)) = (0 : Int32) then (if (fB (2 : Int32)) = (0 : Int32) then (0 : Int32) else (1 : Int32)) else (1 : Int32)) else (1 : Int32))), .val (.int f27)] [(.int f27), (.ref ob)])) rfl rfl (hb hby dst_97) _ k) ?_
        refine own_st (T' := T27) (g' := (mkF m 103 #[.val (.ref oq), .val (.ref ob), .val (.int p2), .val (.long q3), .second, .val (.int (p2 &&& (3 : Int32))), .val (.int nv), .val (.int (if (fB (0 : Int32)) = (0 : Int32) then (if (fB (1 : Int32)) = (0 : Int32) then (if (fB (2 : Int32)) = (0 : Int32) then (0 : Int32) else (1 : Int32)) else (1 : Int32)) else (1 : Int32))), .val (.int f27)] [])) (fun _ k => XS.ifYes X27.here hx rfl (pc0 := 98) (pc' := 103) rfl (hb hby dst_98) rfl ((if0 _ _).trans (feq (hr27.1 : ¬ ((fB f27) = (0 : Int32)))).2) (by decide) (by decide) k) ?_
        refine own_st (T' := T27) (g' := (mkF m 104 #[.val (.ref oq), .val (.ref ob), .val (.int p2), .val (.long q3), .second, .val (.int (p2 &&& (3 : Int32))), .val (.int nv), .val (.int (if (fB (0 : Int32)) = (0 : Int32) then (if (fB (1 : Int32)) = (0 : Int32) then (if (fB (2 : Int32)) = (0 : Int32) then (0 : Int32) else (1 : Int32)) else (1 : Int32)) else (1 : Int32))), .val (.int f27)] [(.ref ob)])) (fun _ k => XS.aloadN X27.here hx rfl (hb hby dst_103) rfl rfl k) ?_
        refine own_st (T' := T27) (g' := (mkF m 106 #[.val (.ref oq), .val (.ref ob), .val (.int p2), .val (.long q3), .second, .val (.int (p2 &&& (3 : Int32))), .val (.int nv), .val (.int (if (fB (0 : Int32)) = (0 : Int32) then (if (fB (1 : Int32)) = (0 : Int32) then (if (fB (2 : Int32)) = (0 : Int32) then (0 : Int32) else (1 : Int32)) else (1 : Int32)) else (1 : Int32))), .val (.int f27)] [(.int f27), (.ref ob)])) (fun _ k => XS.iload X27.here hx rfl (hb hby dst_104) rfl k) ?_
        refine own_st (T' := T27) (g' := (mkF m 107 #[.val (.ref oq), .val (.ref ob), .val (.int p2), .val (.long q3), .second, .val (.int (p2 &&& (3 : Int32))), .val (.int nv), .val (.int (if (fB (0 : Int32)) = (0 : Int32) then (if (fB (1 : Int32)) = (0 : Int32) then (if (fB (2 : Int32)) = (0 : Int32) then (0 : Int32) else (1 : Int32)) else (1 : Int32)) else (1 : Int32))), .val (.int f27)] [(.int (0 : Int32)), (.int f27), (.ref ob)])) (fun _ k => XS.iconst X27.here hx rfl (hb hby dst_106) k) ?_
        obtain ⟨cl29, Ar29, S29, M29, H29⟩ := id (Ab.keep K27 hnb)
        obtain ⟨T29, h29, X29, e29, W29, st29⟩ := stZ X27 hx hZ rfl Ar29 (j := f27) (inb_of S29 ⟨(own_ok0 hP27.1), (own_ok3 hP27.1)⟩) (g := (mkF m 107 #[.val (.ref oq), .val (.ref ob), .val (.int p2), .val (.long q3), .second, .val (.int (p2 &&& (3 : Int32))), .val (.int nv), .val (.int (if (fB (0 : Int32)) = (0 : Int32) then (if (fB (1 : Int32)) = (0 : Int32) then (if (fB (2 : Int32)) = (0 : Int32) then (0 : Int32) else (1 : Int32)) else (1 : Int32)) else (1 : Int32))), .val (.int f27)] [(.int (0 : Int32)), (.int f27), (.ref ob)])) rfl rfl (hb hby dst_107)
        have V29 : own_A Z h29 ob .boolean (3 : Int32) (fun i => (.int ((own_up fB f27 (0 : Int32)) i))) := (own_A.set Ar29 S29 M29 H29 (own_ok0 hP27.1) (own_ok3 hP27.1) W29).upI
        have N29 := Fr.snoc X29 N27 G_b
        have hq_w29 : own_NQ Z h29 oq oh os ok H27 S27 fK z27 := own_nqw W29 hnb hq_27
        refine own_st (g' := (mkF m 108 #[.val (.ref oq), .val (.ref ob), .val (.int p2), .val (.long q3), .second, .val (.int (p2 &&& (3 : Int32))), .val (.int nv), .val (.int (if (fB (0 : Int32)) = (0 : Int32) then (if (fB (1 : Int32)) = (0 : Int32) then (if (fB (2 : Int32)) = (0 : Int32) then (0 : Int32) else (1 : Int32)) else (1 : Int32)) else (1 : Int32))), .val (.int f27)] [])) st29 ?_
        refine own_st (T' := T29) (g' := (mkF m 123 #[.val (.ref oq), .val (.ref ob), .val (.int p2), .val (.long q3), .second, .val (.int (p2 &&& (3 : Int32))), .val (.int nv), .val (.int (if (fB (0 : Int32)) = (0 : Int32) then (if (fB (1 : Int32)) = (0 : Int32) then (if (fB (2 : Int32)) = (0 : Int32) then (0 : Int32) else (1 : Int32)) else (1 : Int32)) else (1 : Int32))), .val (.int f27)] [])) (fun _ k => XS.goto X29.here hx rfl (pc0 := 108) (pc' := 123) rfl (hb hby dst_108) (by decide) (by decide) k) ?_
        have hR_27 : own_Rel S27 (own_up fB f27 (0 : Int32)) := hr27.2
        refine own_st (T' := T29) (g' := (mkF m 124 #[.val (.ref oq), .val (.ref ob), .val (.int p2), .val (.long q3), .second, .val (.int (p2 &&& (3 : Int32))), .val (.int nv), .val (.int (if (fB (0 : Int32)) = (0 : Int32) then (if (fB (1 : Int32)) = (0 : Int32) then (if (fB (2 : Int32)) = (0 : Int32) then (0 : Int32) else (1 : Int32)) else (1 : Int32)) else (1 : Int32))), .val (.int f27)] [(.ref ob)])) (fun _ k => XS.aloadN X29.here hx rfl (hb hby dst_123) rfl rfl k) ?_
        refine own_st (T' := T29) (g' := (mkF m 125 #[.val (.ref oq), .val (.ref ob), .val (.int p2), .val (.long q3), .second, .val (.int (p2 &&& (3 : Int32))), .val (.int nv), .val (.int (if (fB (0 : Int32)) = (0 : Int32) then (if (fB (1 : Int32)) = (0 : Int32) then (if (fB (2 : Int32)) = (0 : Int32) then (0 : Int32) else (1 : Int32)) else (1 : Int32)) else (1 : Int32))), .val (.int f27)] [(.int (0 : Int32)), (.ref ob)])) (fun _ k => XS.iconst X29.here hx rfl (hb hby dst_124) k) ?_
        obtain ⟨cl30, Ar30, S30, M30, H30⟩ := id V29
        refine own_st (T' := T29) (g' := (mkF m 126 #[.val (.ref oq), .val (.ref ob), .val (.int p2), .val (.long q3), .second, .val (.int (p2 &&& (3 : Int32))), .val (.int nv), .val (.int (if (fB (0 : Int32)) = (0 : Int32) then (if (fB (1 : Int32)) = (0 : Int32) then (if (fB (2 : Int32)) = (0 : Int32) then (0 : Int32) else (1 : Int32)) else (1 : Int32)) else (1 : Int32))), .val (.int f27)] [(.int ((own_up fB f27 (0 : Int32)) (0 : Int32)))])) (fun _ k => X29.baloadBooleans hx (j := (0 : Int32)) (v := (.int ((own_up fB f27 (0 : Int32)) (0 : Int32)))) (by rw [e29]; exact Ar30.1) (State.isArrayOf_alike hZ.alike Ar30.2.1) Ar30.2.2 (inb_of S30 ⟨(by decide), (by decide)⟩) (H30 _ (by decide) (by decide)) (g := (mkF m 125 #[.val (.ref oq), .val (.ref ob), .val (.int p2), .val (.long q3), .second, .val (.int (p2 &&& (3 : Int32))), .val (.int nv), .val (.int (if (fB (0 : Int32)) = (0 : Int32) then (if (fB (1 : Int32)) = (0 : Int32) then (if (fB (2 : Int32)) = (0 : Int32) then (0 : Int32) else (1 : Int32)) else (1 : Int32)) else (1 : Int32))), .val (.int f27)] [(.int (0 : Int32)), (.ref ob)])) rfl rfl (hb hby dst_125) _ k) ?_
        refine own_st (T' := T29) (g' := (mkF m 146 #[.val (.ref oq), .val (.ref ob), .val (.int p2), .val (.long q3), .second, .val (.int (p2 &&& (3 : Int32))), .val (.int nv), .val (.int (if (fB (0 : Int32)) = (0 : Int32) then (if (fB (1 : Int32)) = (0 : Int32) then (if (fB (2 : Int32)) = (0 : Int32) then (0 : Int32) else (1 : Int32)) else (1 : Int32)) else (1 : Int32))), .val (.int f27)] [(.int (if ((own_up fB f27 (0 : Int32)) (0 : Int32)) = (0 : Int32) then (if ((own_up fB f27 (0 : Int32)) (1 : Int32)) = (0 : Int32) then (if ((own_up fB f27 (0 : Int32)) (2 : Int32)) = (0 : Int32) then (1 : Int32) else (0 : Int32)) else (0 : Int32)) else (0 : Int32)))])) (fun t k => ?_) ?_
        · by_cases hc126_31 : ((own_up fB f27 (0 : Int32)) (0 : Int32)) = (0 : Int32)
          · refine own_sq (T' := T29) (g' := (mkF m 129 #[.val (.ref oq), .val (.ref ob), .val (.int p2), .val (.long q3), .second, .val (.int (p2 &&& (3 : Int32))), .val (.int nv), .val (.int (if (fB (0 : Int32)) = (0 : Int32) then (if (fB (1 : Int32)) = (0 : Int32) then (if (fB (2 : Int32)) = (0 : Int32) then (0 : Int32) else (1 : Int32)) else (1 : Int32)) else (1 : Int32))), .val (.int f27)] [])) (fun k => XS.ifNo X29.here hx rfl (hb hby dst_126) rfl ((if0 _ _).trans (teq hc126_31).2) k) ?_
            refine own_sq (T' := T29) (g' := (mkF m 130 #[.val (.ref oq), .val (.ref ob), .val (.int p2), .val (.long q3), .second, .val (.int (p2 &&& (3 : Int32))), .val (.int nv), .val (.int (if (fB (0 : Int32)) = (0 : Int32) then (if (fB (1 : Int32)) = (0 : Int32) then (if (fB (2 : Int32)) = (0 : Int32) then (0 : Int32) else (1 : Int32)) else (1 : Int32)) else (1 : Int32))), .val (.int f27)] [(.ref ob)])) (fun k => XS.aloadN X29.here hx rfl (hb hby dst_129) rfl rfl k) ?_
            refine own_sq (T' := T29) (g' := (mkF m 131 #[.val (.ref oq), .val (.ref ob), .val (.int p2), .val (.long q3), .second, .val (.int (p2 &&& (3 : Int32))), .val (.int nv), .val (.int (if (fB (0 : Int32)) = (0 : Int32) then (if (fB (1 : Int32)) = (0 : Int32) then (if (fB (2 : Int32)) = (0 : Int32) then (0 : Int32) else (1 : Int32)) else (1 : Int32)) else (1 : Int32))), .val (.int f27)] [(.int (1 : Int32)), (.ref ob)])) (fun k => XS.iconst X29.here hx rfl (hb hby dst_130) k) ?_
            obtain ⟨cl32, Ar32, S32, M32, H32⟩ := id V29
            refine own_sq (T' := T29) (g' := (mkF m 132 #[.val (.ref oq), .val (.ref ob), .val (.int p2), .val (.long q3), .second, .val (.int (p2 &&& (3 : Int32))), .val (.int nv), .val (.int (if (fB (0 : Int32)) = (0 : Int32) then (if (fB (1 : Int32)) = (0 : Int32) then (if (fB (2 : Int32)) = (0 : Int32) then (0 : Int32) else (1 : Int32)) else (1 : Int32)) else (1 : Int32))), .val (.int f27)] [(.int ((own_up fB f27 (0 : Int32)) (1 : Int32)))])) (fun k => X29.baloadBooleans hx (j := (1 : Int32)) (v := (.int ((own_up fB f27 (0 : Int32)) (1 : Int32)))) (by rw [e29]; exact Ar32.1) (State.isArrayOf_alike hZ.alike Ar32.2.1) Ar32.2.2 (inb_of S32 ⟨(by decide), (by decide)⟩) (H32 _ (by decide) (by decide)) (g := (mkF m 131 #[.val (.ref oq), .val (.ref ob), .val (.int p2), .val (.long q3), .second, .val (.int (p2 &&& (3 : Int32))), .val (.int nv), .val (.int (if (fB (0 : Int32)) = (0 : Int32) then (if (fB (1 : Int32)) = (0 : Int32) then (if (fB (2 : Int32)) = (0 : Int32) then (0 : Int32) else (1 : Int32)) else (1 : Int32)) else (1 : Int32))), .val (.int f27)] [(.int (1 : Int32)), (.ref ob)])) rfl rfl (hb hby dst_131) _ k) ?_
            by_cases hc132_33 : ((own_up fB f27 (0 : Int32)) (1 : Int32)) = (0 : Int32)
            · refine own_sq (T' := T29) (g' := (mkF m 135 #[.val (.ref oq), .val (.ref ob), .val (.int p2), .val (.long q3), .second, .val (.int (p2 &&& (3 : Int32))), .val (.int nv), .val (.int (if (fB (0 : Int32)) = (0 : Int32) then (if (fB (1 : Int32)) = (0 : Int32) then (if (fB (2 : Int32)) = (0 : Int32) then (0 : Int32) else (1 : Int32)) else (1 : Int32)) else (1 : Int32))), .val (.int f27)] [])) (fun k => XS.ifNo X29.here hx rfl (hb hby dst_132) rfl ((if0 _ _).trans (teq hc132_33).2) k) ?_
              refine own_sq (T' := T29) (g' := (mkF m 136 #[.val (.ref oq), .val (.ref ob), .val (.int p2), .val (.long q3), .second, .val (.int (p2 &&& (3 : Int32))), .val (.int nv), .val (.int (if (fB (0 : Int32)) = (0 : Int32) then (if (fB (1 : Int32)) = (0 : Int32) then (if (fB (2 : Int32)) = (0 : Int32) then (0 : Int32) else (1 : Int32)) else (1 : Int32)) else (1 : Int32))), .val (.int f27)] [(.ref ob)])) (fun k => XS.aloadN X29.here hx rfl (hb hby dst_135) rfl rfl k) ?_
              refine own_sq (T' := T29) (g' := (mkF m 137 #[.val (.ref oq), .val (.ref ob), .val (.int p2), .val (.long q3), .second, .val (.int (p2 &&& (3 : Int32))), .val (.int nv), .val (.int (if (fB (0 : Int32)) = (0 : Int32) then (if (fB (1 : Int32)) = (0 : Int32) then (if (fB (2 : Int32)) = (0 : Int32) then (0 : Int32) else (1 : Int32)) else (1 : Int32)) else (1 : Int32))), .val (.int f27)] [(.int (2 : Int32)), (.ref ob)])) (fun k => XS.iconst X29.here hx rfl (hb hby dst_136) k) ?_
              obtain ⟨cl34, Ar34, S34, M34, H34⟩ := id V29
              refine own_sq (T' := T29) (g' := (mkF m 138 #[.val (.ref oq), .val (.ref ob), .val (.int p2), .val (.long q3), .second, .val (.int (p2 &&& (3 : Int32))), .val (.int nv), .val (.int (if (fB (0 : Int32)) = (0 : Int32) then (if (fB (1 : Int32)) = (0 : Int32) then (if (fB (2 : Int32)) = (0 : Int32) then (0 : Int32) else (1 : Int32)) else (1 : Int32)) else (1 : Int32))), .val (.int f27)] [(.int ((own_up fB f27 (0 : Int32)) (2 : Int32)))])) (fun k => X29.baloadBooleans hx (j := (2 : Int32)) (v := (.int ((own_up fB f27 (0 : Int32)) (2 : Int32)))) (by rw [e29]; exact Ar34.1) (State.isArrayOf_alike hZ.alike Ar34.2.1) Ar34.2.2 (inb_of S34 ⟨(by decide), (by decide)⟩) (H34 _ (by decide) (by decide)) (g := (mkF m 137 #[.val (.ref oq), .val (.ref ob), .val (.int p2), .val (.long q3), .second, .val (.int (p2 &&& (3 : Int32))), .val (.int nv), .val (.int (if (fB (0 : Int32)) = (0 : Int32) then (if (fB (1 : Int32)) = (0 : Int32) then (if (fB (2 : Int32)) = (0 : Int32) then (0 : Int32) else (1 : Int32)) else (1 : Int32)) else (1 : Int32))), .val (.int f27)] [(.int (2 : Int32)), (.ref ob)])) rfl rfl (hb hby dst_137) _ k) ?_
              by_cases hc138_35 : ((own_up fB f27 (0 : Int32)) (2 : Int32)) = (0 : Int32)
              · refine own_sq (T' := T29) (g' := (mkF m 141 #[.val (.ref oq), .val (.ref ob), .val (.int p2), .val (.long q3), .second, .val (.int (p2 &&& (3 : Int32))), .val (.int nv), .val (.int (if (fB (0 : Int32)) = (0 : Int32) then (if (fB (1 : Int32)) = (0 : Int32) then (if (fB (2 : Int32)) = (0 : Int32) then (0 : Int32) else (1 : Int32)) else (1 : Int32)) else (1 : Int32))), .val (.int f27)] [])) (fun k => XS.ifNo X29.here hx rfl (hb hby dst_138) rfl ((if0 _ _).trans (teq hc138_35).2) k) ?_
                refine own_sq (T' := T29) (g' := (mkF m 142 #[.val (.ref oq), .val (.ref ob), .val (.int p2), .val (.long q3), .second, .val (.int (p2 &&& (3 : Int32))), .val (.int nv), .val (.int (if (fB (0 : Int32)) = (0 : Int32) then (if (fB (1 : Int32)) = (0 : Int32) then (if (fB (2 : Int32)) = (0 : Int32) then (0 : Int32) else (1 : Int32)) else (1 : Int32)) else (1 : Int32))), .val (.int f27)] [(.int (1 : Int32))])) (fun k => XS.iconst X29.here hx rfl (hb hby dst_141) k) ?_
                refine own_sq (T' := T29) (g' := (mkF m 146 #[.val (.ref oq), .val (.ref ob), .val (.int p2), .val (.long q3), .second, .val (.int (p2 &&& (3 : Int32))), .val (.int nv), .val (.int (if (fB (0 : Int32)) = (0 : Int32) then (if (fB (1 : Int32)) = (0 : Int32) then (if (fB (2 : Int32)) = (0 : Int32) then (0 : Int32) else (1 : Int32)) else (1 : Int32)) else (1 : Int32))), .val (.int f27)] [(.int (1 : Int32))])) (fun k => XS.goto X29.here hx rfl (pc0 := 142) (pc' := 146) rfl (hb hby dst_142) (by decide) (by decide) k) ?_
                simp only [if_pos hc126_31, if_pos hc132_33, if_pos hc138_35] at k; exact k
              · refine own_sq (T' := T29) (g' := (mkF m 145 #[.val (.ref oq), .val (.ref ob), .val (.int p2), .val (.long q3), .second, .val (.int (p2 &&& (3 : Int32))), .val (.int nv), .val (.int (if (fB (0 : Int32)) = (0 : Int32) then (if (fB (1 : Int32)) = (0 : Int32) then (if (fB (2 : Int32)) = (0 : Int32) then (0 : Int32) else (1 : Int32)) else (1 : Int32)) else (1 : Int32))), .val (.int f27)] [])) (fun k => XS.ifYes X29.here hx rfl (pc0 := 138) (pc' := 145) rfl (hb hby dst_138) rfl ((if0 _ _).trans (feq hc138_35).2) (by decide) (by decide) k) ?_
                refine own_sq (T' := T29) (g' := (mkF m 146 #[.val (.ref oq), .val (.ref ob), .val (.int p2), .val (.long q3), .second, .val (.int (p2 &&& (3 : Int32))), .val (.int nv), .val (.int (if (fB (0 : Int32)) = (0 : Int32) then (if (fB (1 : Int32)) = (0 : Int32) then (if (fB (2 : Int32)) = (0 : Int32) then (0 : Int32) else (1 : Int32)) else (1 : Int32)) else (1 : Int32))), .val (.int f27)] [(.int (0 : Int32))])) (fun k => XS.iconst X29.here hx rfl (hb hby dst_145) k) ?_
                simp only [if_pos hc126_31, if_pos hc132_33, if_neg hc138_35] at k; exact k
            · refine own_sq (T' := T29) (g' := (mkF m 145 #[.val (.ref oq), .val (.ref ob), .val (.int p2), .val (.long q3), .second, .val (.int (p2 &&& (3 : Int32))), .val (.int nv), .val (.int (if (fB (0 : Int32)) = (0 : Int32) then (if (fB (1 : Int32)) = (0 : Int32) then (if (fB (2 : Int32)) = (0 : Int32) then (0 : Int32) else (1 : Int32)) else (1 : Int32)) else (1 : Int32))), .val (.int f27)] [])) (fun k => XS.ifYes X29.here hx rfl (pc0 := 132) (pc' := 145) rfl (hb hby dst_132) rfl ((if0 _ _).trans (feq hc132_33).2) (by decide) (by decide) k) ?_
              refine own_sq (T' := T29) (g' := (mkF m 146 #[.val (.ref oq), .val (.ref ob), .val (.int p2), .val (.long q3), .second, .val (.int (p2 &&& (3 : Int32))), .val (.int nv), .val (.int (if (fB (0 : Int32)) = (0 : Int32) then (if (fB (1 : Int32)) = (0 : Int32) then (if (fB (2 : Int32)) = (0 : Int32) then (0 : Int32) else (1 : Int32)) else (1 : Int32)) else (1 : Int32))), .val (.int f27)] [(.int (0 : Int32))])) (fun k => XS.iconst X29.here hx rfl (hb hby dst_145) k) ?_
              simp only [if_pos hc126_31, if_neg hc132_33] at k; exact k
          · refine own_sq (T' := T29) (g' := (mkF m 145 #[.val (.ref oq), .val (.ref ob), .val (.int p2), .val (.long q3), .second, .val (.int (p2 &&& (3 : Int32))), .val (.int nv), .val (.int (if (fB (0 : Int32)) = (0 : Int32) then (if (fB (1 : Int32)) = (0 : Int32) then (if (fB (2 : Int32)) = (0 : Int32) then (0 : Int32) else (1 : Int32)) else (1 : Int32)) else (1 : Int32))), .val (.int f27)] [])) (fun k => XS.ifYes X29.here hx rfl (pc0 := 126) (pc' := 145) rfl (hb hby dst_126) rfl ((if0 _ _).trans (feq hc126_31).2) (by decide) (by decide) k) ?_
            refine own_sq (T' := T29) (g' := (mkF m 146 #[.val (.ref oq), .val (.ref ob), .val (.int p2), .val (.long q3), .second, .val (.int (p2 &&& (3 : Int32))), .val (.int nv), .val (.int (if (fB (0 : Int32)) = (0 : Int32) then (if (fB (1 : Int32)) = (0 : Int32) then (if (fB (2 : Int32)) = (0 : Int32) then (0 : Int32) else (1 : Int32)) else (1 : Int32)) else (1 : Int32))), .val (.int f27)] [(.int (0 : Int32))])) (fun k => XS.iconst X29.here hx rfl (hb hby dst_145) k) ?_
            simp only [if_neg hc126_31] at k; exact k
        refine own_st (T' := T29) (g' := (mkF m 148 #[.val (.ref oq), .val (.ref ob), .val (.int p2), .val (.long q3), .second, .val (.int (p2 &&& (3 : Int32))), .val (.int nv), .val (.int (if (fB (0 : Int32)) = (0 : Int32) then (if (fB (1 : Int32)) = (0 : Int32) then (if (fB (2 : Int32)) = (0 : Int32) then (0 : Int32) else (1 : Int32)) else (1 : Int32)) else (1 : Int32))), .val (.int (if ((own_up fB f27 (0 : Int32)) (0 : Int32)) = (0 : Int32) then (if ((own_up fB f27 (0 : Int32)) (1 : Int32)) = (0 : Int32) then (if ((own_up fB f27 (0 : Int32)) (2 : Int32)) = (0 : Int32) then (1 : Int32) else (0 : Int32)) else (0 : Int32)) else (0 : Int32)))] [])) (fun _ k => XS.istore X29.here hx rfl (hb hby dst_146) rfl (l' := #[.val (.ref oq), .val (.ref ob), .val (.int p2), .val (.long q3), .second, .val (.int (p2 &&& (3 : Int32))), .val (.int nv), .val (.int (if (fB (0 : Int32)) = (0 : Int32) then (if (fB (1 : Int32)) = (0 : Int32) then (if (fB (2 : Int32)) = (0 : Int32) then (0 : Int32) else (1 : Int32)) else (1 : Int32)) else (1 : Int32))), .val (.int (if ((own_up fB f27 (0 : Int32)) (0 : Int32)) = (0 : Int32) then (if ((own_up fB f27 (0 : Int32)) (1 : Int32)) = (0 : Int32) then (if ((own_up fB f27 (0 : Int32)) (2 : Int32)) = (0 : Int32) then (1 : Int32) else (0 : Int32)) else (0 : Int32)) else (0 : Int32)))]) rfl k) ?_
        refine own_st (T' := T29) (g' := (mkF m 149 #[.val (.ref oq), .val (.ref ob), .val (.int p2), .val (.long q3), .second, .val (.int (p2 &&& (3 : Int32))), .val (.int nv), .val (.int (if (fB (0 : Int32)) = (0 : Int32) then (if (fB (1 : Int32)) = (0 : Int32) then (if (fB (2 : Int32)) = (0 : Int32) then (0 : Int32) else (1 : Int32)) else (1 : Int32)) else (1 : Int32))), .val (.int (if ((own_up fB f27 (0 : Int32)) (0 : Int32)) = (0 : Int32) then (if ((own_up fB f27 (0 : Int32)) (1 : Int32)) = (0 : Int32) then (if ((own_up fB f27 (0 : Int32)) (2 : Int32)) = (0 : Int32) then (1 : Int32) else (0 : Int32)) else (0 : Int32)) else (0 : Int32)))] [(.ref oq)])) (fun _ k => XS.aloadN X29.here hx rfl (hb hby dst_148) rfl rfl k) ?_
        refine own_callV X29 hx hZ (y := (⟨"com/example/albatross/albatross/NodeQueue", "isEmpty", "()Z"⟩ : MethodName)) hown (own_w hw 22 rfl) (own_w hw 23 rfl) (own_w hw 25 rfl) (own_w hw 24 rfl) (own_w hw 26 rfl) (own_w hw 2 rfl) (by decide) (W := 0) e29 (b := oq) hq_w29.1 (argsL := []) (rest := []) (rmie l Z a0 hw [] oq z27 h29 n0 (Nat.le_trans (Nat.le_trans Z0 K27.1) (Nat.le_of_eq W29.size.symm)) hq_w29.2.2.2.2.1) (by decide) (by decide) (by decide) (by decide) (g := (mkF m 149 #[.val (.ref oq), .val (.ref ob), .val (.int p2), .val (.long q3), .second, .val (.int (p2 &&& (3 : Int32))), .val (.int nv), .val (.int (if (fB (0 : Int32)) = (0 : Int32) then (if (fB (1 : Int32)) = (0 : Int32) then (if (fB (2 : Int32)) = (0 : Int32) then (0 : Int32) else (1 : Int32)) else (1 : Int32)) else (1 : Int32))), .val (.int (if ((own_up fB f27 (0 : Int32)) (0 : Int32)) = (0 : Int32) then (if ((own_up fB f27 (0 : Int32)) (1 : Int32)) = (0 : Int32) then (if ((own_up fB f27 (0 : Int32)) (2 : Int32)) = (0 : Int32) then (1 : Int32) else (0 : Int32)) else (0 : Int32)) else (0 : Int32)))] [(.ref oq)])) rfl (by rw [hml]; rfl) (lenOf own_pd4 rfl) rfl (by show 2 * 0 + _ ≤ _; exact Nat.le_of_eq rfl) (hb hby dst_149) ?_
        rintro _ T36 L36 X36 ⟨rfl, N36q, e36⟩
        show own_Go _ _ _ _ _ _ _ T36 (mkF m 152 #[.val (.ref oq), .val (.ref ob), .val (.int p2), .val (.long q3), .second, .val (.int (p2 &&& (3 : Int32))), .val (.int nv), .val (.int (if (fB (0 : Int32)) = (0 : Int32) then (if (fB (1 : Int32)) = (0 : Int32) then (if (fB (2 : Int32)) = (0 : Int32) then (0 : Int32) else (1 : Int32)) else (1 : Int32)) else (1 : Int32))), .val (.int (if ((own_up fB f27 (0 : Int32)) (0 : Int32)) = (0 : Int32) then (if ((own_up fB f27 (0 : Int32)) (1 : Int32)) = (0 : Int32) then (if ((own_up fB f27 (0 : Int32)) (2 : Int32)) = (0 : Int32) then (1 : Int32) else (0 : Int32)) else (0 : Int32)) else (0 : Int32)))] [(.int (if z27 = (0 : Int32) then (1 : Int32) else (0 : Int32)))])
        have N36 := Fr.app N29 N36q
        have hq_36 : own_NQ Z T36.heap oq oh os ok H27 S27 fK z27 := by rw [e36]; exact hq_w29
        have Ab_36 : own_A Z T36.heap ob .boolean (3 : Int32) (fun i => (.int ((own_up fB f27 (0 : Int32)) i))) := by rw [e36]; exact V29
        refine own_st (T' := T36) (g' := (mkF m 154 #[.val (.ref oq), .val (.ref ob), .val (.int p2), .val (.long q3), .second, .val (.int (p2 &&& (3 : Int32))), .val (.int nv), .val (.int (if (fB (0 : Int32)) = (0 : Int32) then (if (fB (1 : Int32)) = (0 : Int32) then (if (fB (2 : Int32)) = (0 : Int32) then (0 : Int32) else (1 : Int32)) else (1 : Int32)) else (1 : Int32))), .val (.int (if ((own_up fB f27 (0 : Int32)) (0 : Int32)) = (0 : Int32) then (if ((own_up fB f27 (0 : Int32)) (1 : Int32)) = (0 : Int32) then (if ((own_up fB f27 (0 : Int32)) (2 : Int32)) = (0 : Int32) then (1 : Int32) else (0 : Int32)) else (0 : Int32)) else (0 : Int32)))] [(.int (if ((own_up fB f27 (0 : Int32)) (0 : Int32)) = (0 : Int32) then (if ((own_up fB f27 (0 : Int32)) (1 : Int32)) = (0 : Int32) then (if ((own_up fB f27 (0 : Int32)) (2 : Int32)) = (0 : Int32) then (1 : Int32) else (0 : Int32)) else (0 : Int32)) else (0 : Int32))), (.int (if z27 = (0 : Int32) then (1 : Int32) else (0 : Int32)))])) (fun _ k => XS.iload X36.here hx rfl (hb hby dst_152) rfl k) ?_
        refine own_st (T' := T36) (g' := (mkF m 157 #[.val (.ref oq), .val (.ref ob), .val (.int p2), .val (.long q3), .second, .val (.int (p2 &&& (3 : Int32))), .val (.int nv), .val (.int (if (fB (0 : Int32)) = (0 : Int32) then (if (fB (1 : Int32)) = (0 : Int32) then (if (fB (2 : Int32)) = (0 : Int32) then (0 : Int32) else (1 : Int32)) else (1 : Int32)) else (1 : Int32))), .val (.int (if ((own_up fB f27 (0 : Int32)) (0 : Int32)) = (0 : Int32) then (if ((own_up fB f27 (0 : Int32)) (1 : Int32)) = (0 : Int32) then (if ((own_up fB f27 (0 : Int32)) (2 : Int32)) = (0 : Int32) then (1 : Int32) else (0 : Int32)) else (0 : Int32)) else (0 : Int32)))] [])) (fun _ k => XS.icmpNo X36.here hx rfl (hb hby dst_154) rfl (teq (own_last hP27.2.2.2.1 hR_27 : ((if z27 = (0 : Int32) then (1 : Int32) else (0 : Int32)) = (if ((own_up fB f27 (0 : Int32)) (0 : Int32)) = (0 : Int32) then (if ((own_up fB f27 (0 : Int32)) (1 : Int32)) = (0 : Int32) then (if ((own_up fB f27 (0 : Int32)) (2 : Int32)) = (0 : Int32) then (1 : Int32) else (0 : Int32)) else (0 : Int32)) else (0 : Int32))))).2 k) ?_
        refine own_st (T' := T36) (g' := (mkF m 158 #[.val (.ref oq), .val (.ref ob), .val (.int p2), .val (.long q3), .second, .val (.int (p2 &&& (3 : Int32))), .val (.int nv), .val (.int (if (fB (0 : Int32)) = (0 : Int32) then (if (fB (1 : Int32)) = (0 : Int32) then (if (fB (2 : Int32)) = (0 : Int32) then (0 : Int32) else (1 : Int32)) else (1 : Int32)) else (1 : Int32))), .val (.int (if ((own_up fB f27 (0 : Int32)) (0 : Int32)) = (0 : Int32) then (if ((own_up fB f27 (0 : Int32)) (1 : Int32)) = (0 : Int32) then (if ((own_up fB f27 (0 : Int32)) (2 : Int32)) = (0 : Int32) then (1 : Int32) else (0 : Int32)) else (0 : Int32)) else (0 : Int32)))] [(.int (1 : Int32))])) (fun _ k => XS.iconst X36.here hx rfl (hb hby dst_157) k) ?_
        refine own_st (T' := T36) (g' := (mkF m 162 #[.val (.ref oq), .val (.ref ob), .val (.int p2), .val (.long q3), .second, .val (.int (p2 &&& (3 : Int32))), .val (.int nv), .val (.int (if (fB (0 : Int32)) = (0 : Int32) then (if (fB (1 : Int32)) = (0 : Int32) then (if (fB (2 : Int32)) = (0 : Int32) then (0 : Int32) else (1 : Int32)) else (1 : Int32)) else (1 : Int32))), .val (.int (if ((own_up fB f27 (0 : Int32)) (0 : Int32)) = (0 : Int32) then (if ((own_up fB f27 (0 : Int32)) (1 : Int32)) = (0 : Int32) then (if ((own_up fB f27 (0 : Int32)) (2 : Int32)) = (0 : Int32) then (1 : Int32) else (0 : Int32)) else (0 : Int32)) else (0 : Int32)))] [(.int (1 : Int32))])) (fun _ k => XS.goto X36.here hx rfl (pc0 := 158) (pc' := 162) rfl (hb hby dst_158) (by decide) (by decide) k) ?_
        exact own_retN X36 hx hlk hret (by simp) (hb hby dst_162) ⟨rfl, N36, (by rw [e36]; exact (((Keep.refl h0 ([oq, oh, os, ok] ++ [ob])).trans K27 (fun x hx => Or.inl (List.mem_append_left _ hx))).wr W29 (Or.inl (by simp)))), H27, S27, fK, z27, (own_up fB f27 (0 : Int32)), hq_36, hP27.2.2.2.1, Ab_36, hR_27⟩ (by decide) (by decide)
    · refine own_st (T' := s₁) (g' := (mkF m 111 #[.val (.ref oq), .val (.ref ob), .val (.int p2), .val (.long q3), .second, .val (.int (p2 &&& (3 : Int32))), .val (.int nv), .val (.int (if (fB (0 : Int32)) = (0 : Int32) then (if (fB (1 : Int32)) = (0 : Int32) then (if (fB (2 : Int32)) = (0 : Int32) then (0 : Int32) else (1 : Int32)) else (1 : Int32)) else (1 : Int32))), .unset] [])) (fun _ k => XS.icmpYes X0.here hx rfl (pc0 := 67) (pc' := 111) rfl (hb hby dst_67) rfl (feq hc67_16).2 (by decide) (by decide) k) ?_
      refine own_st (T' := s₁) (g' := (mkF m 112 #[.val (.ref oq), .val (.ref ob), .val (.int p2), .val (.long q3), .second, .val (.int (p2 &&& (3 : Int32))), .val (.int nv), .val (.int (if (fB (0 : Int32)) = (0 : Int32) then (if (fB (1 : Int32)) = (0 : Int32) then (if (fB (2 : Int32)) = (0 : Int32) then (0 : Int32) else (1 : Int32)) else (1 : Int32)) else (1 : Int32))), .unset] [(.ref oq)])) (fun _ k => XS.aloadN X0.here hx rfl (hb hby dst_111) rfl rfl k) ?_
      refine own_st (T' := s₁) (g' := (mkF m 114 #[.val (.ref oq), .val (.ref ob), .val (.int p2), .val (.long q3), .second, .val (.int (p2 &&& (3 : Int32))), .val (.int nv), .val (.int (if (fB (0 : Int32)) = (0 : Int32) then (if (fB (1 : Int32)) = (0 : Int32) then (if (fB (2 : Int32)) = (0 : Int32) then (0 : Int32) else (1 : Int32)) else (1 : Int32)) else (1 : Int32))), .unset] [(.int nv), (.ref oq)])) (fun _ k => XS.iload X0.here hx rfl (hb hby dst_112) rfl k) ?_
      refine own_st (T' := s₁) (g' := (mkF m 115 #[.val (.ref oq), .val (.ref ob), .val (.int p2), .val (.long q3), .second, .val (.int (p2 &&& (3 : Int32))), .val (.int nv), .val (.int (if (fB (0 : Int32)) = (0 : Int32) then (if (fB (1 : Int32)) = (0 : Int32) then (if (fB (2 : Int32)) = (0 : Int32) then (0 : Int32) else (1 : Int32)) else (1 : Int32)) else (1 : Int32))), .unset] [(.long q3), (.int nv), (.ref oq)])) (fun _ k => XS.lloadN X0.here hx rfl (hb hby dst_114) rfl k) ?_
      refine own_callV X0 hx hZ (y := (⟨"com/example/albatross/albatross/NodeQueue", "offer", "(IJ)V"⟩ : MethodName)) hown (own_w hw 33 rfl) (own_w hw 34 rfl) (own_w hw 36 rfl) (own_w hw 35 rfl) (own_w hw 37 rfl) (own_w hw 2 rfl) (by decide) (W := 0) e0 (b := oq) hq.1 (argsL := [(.int nv), (.long q3)]) (rest := []) (rmof l Z a0 hw [] oq oh os ok fH fS fK z1 nv q3 h0 n0 Z0 hd hq hI ho) (by decide) (by decide) (by decide) (by decide) (g := (mkF m 115 #[.val (.ref oq), .val (.ref ob), .val (.int p2), .val (.long q3), .second, .val (.int (p2 &&& (3 : Int32))), .val (.int nv), .val (.int (if (fB (0 : Int32)) = (0 : Int32) then (if (fB (1 : Int32)) = (0 : Int32) then (if (fB (2 : Int32)) = (0 : Int32) then (0 : Int32) else (1 : Int32)) else (1 : Int32)) else (1 : Int32))), .unset] [(.long q3), (.int nv), (.ref oq)])) rfl (by rw [hml]; rfl) (lenOf own_pd5 rfl) rfl (by show 2 * 0 + _ ≤ _; exact Nat.le_of_eq rfl) (hb hby dst_115) ?_
      rintro _ T37 L37 X37 ⟨rfl, N37q, K37, H37, S37, Kf37, z37, hq_37, hO37⟩
      show own_Go _ _ _ _ _ _ _ T37 (mkF m 118 #[.val (.ref oq), .val (.ref ob), .val (.int p2), .val (.long q3), .second, .val (.int (p2 &&& (3 : Int32))), .val (.int nv), .val (.int (if (fB (0 : Int32)) = (0 : Int32) then (if (fB (1 : Int32)) = (0 : Int32) then (if (fB (2 : Int32)) = (0 : Int32) then (0 : Int32) else (1 : Int32)) else (1 : Int32)) else (1 : Int32))), .unset] [])
      have N37 := Fr.app N0 N37q
      refine own_st (T' := T37) (g' := (mkF m 119 #[.val (.ref oq), .val (.ref ob), .val (.int p2), .val (.long q3), .second, .val (.int (p2 &&& (3 : Int32))), .val (.int nv), .val (.int (if (fB (0 : Int32)) = (0 : Int32) then (if (fB (1 : Int32)) = (0 : Int32) then (if (fB (2 : Int32)) = (0 : Int32) then (0 : Int32) else (1 : Int32)) else (1 : Int32)) else (1 : Int32))), .unset] [(.ref ob)])) (fun _ k => XS.aloadN X37.here hx rfl (hb hby dst_118) rfl rfl k) ?_
      refine own_st (T' := T37) (g' := (mkF m 121 #[.val (.ref oq), .val (.ref ob), .val (.int p2), .val (.long q3), .second, .val (.int (p2 &&& (3 : Int32))), .val (.int nv), .val (.int (if (fB (0 : Int32)) = (0 : Int32) then (if (fB (1 : Int32)) = (0 : Int32) then (if (fB (2 : Int32)) = (0 : Int32) then (0 : Int32) else (1 : Int32)) else (1 : Int32)) else (1 : Int32))), .unset] [(.int nv), (.ref ob)])) (fun _ k => XS.iload X37.here hx rfl (hb hby dst_119) rfl k) ?_
      refine own_st (T' := T37) (g' := (mkF m 122 #[.val (.ref oq), .val (.ref ob), .val (.int p2), .val (.long q3), .second, .val (.int (p2 &&& (3 : Int32))), .val (.int nv), .val (.int (if (fB (0 : Int32)) = (0 : Int32) then (if (fB (1 : Int32)) = (0 : Int32) then (if (fB (2 : Int32)) = (0 : Int32) then (0 : Int32) else (1 : Int32)) else (1 : Int32)) else (1 : Int32))), .unset] [(.int (1 : Int32)), (.int nv), (.ref ob)])) (fun _ k => XS.iconst X37.here hx rfl (hb hby dst_121) k) ?_
      obtain ⟨cl38, Ar38, S38, M38, H38⟩ := id (Ab.keep K37 hnb)
      obtain ⟨T38, h38, X38, e38, W38, st38⟩ := stZ X37 hx hZ rfl Ar38 (j := nv) (inb_of S38 ⟨(own_ok0 ho), (own_ok3 ho)⟩) (g := (mkF m 122 #[.val (.ref oq), .val (.ref ob), .val (.int p2), .val (.long q3), .second, .val (.int (p2 &&& (3 : Int32))), .val (.int nv), .val (.int (if (fB (0 : Int32)) = (0 : Int32) then (if (fB (1 : Int32)) = (0 : Int32) then (if (fB (2 : Int32)) = (0 : Int32) then (0 : Int32) else (1 : Int32)) else (1 : Int32)) else (1 : Int32))), .unset] [(.int (1 : Int32)), (.int nv), (.ref ob)])) rfl rfl (hb hby dst_122)
      have V38 : own_A Z h38 ob .boolean (3 : Int32) (fun i => (.int ((own_up fB nv (1 : Int32)) i))) := (own_A.set Ar38 S38 M38 H38 (own_ok0 ho) (own_ok3 ho) W38).upI
      have N38 := Fr.snoc X38 N37 G_b
      have hq_w38 : own_NQ Z h38 oq oh os ok H37 S37 Kf37 z37 := own_nqw W38 hnb hq_37
      refine own_st (g' := (mkF m 123 #[.val (.ref oq), .val (.ref ob), .val (.int p2), .val (.long q3), .second, .val (.int (p2 &&& (3 : Int32))), .val (.int nv), .val (.int (if (fB (0 : Int32)) = (0 : Int32) then (if (fB (1 : Int32)) = (0 : Int32) then (if (fB (2 : Int32)) = (0 : Int32) then (0 : Int32) else (1 : Int32)) else (1 : Int32)) else (1 : Int32))), .unset] [])) st38 ?_
      have hR_37 : own_Rel S37 (own_up fB nv (1 : Int32)) := own_relO hR hO37 ho
      refine own_st (T' := T38) (g' := (mkF m 124 #[.val (.ref oq), .val (.ref ob), .val (.int p2), .val (.long q3), .second, .val (.int (p2 &&& (3 : Int32))), .val (.int nv), .val (.int (if (fB (0 : Int32)) = (0 : Int32) then (if (fB (1 : Int32)) = (0 : Int32) then (if (fB (2 : Int32)) = (0 : Int32) then (0 : Int32) else (1 : Int32)) else (1 : Int32)) else (1 : Int32))), .unset] [(.ref ob)])) (fun _ k => XS.aloadN X38.here hx rfl (hb hby dst_123) rfl rfl k) ?_
      refine own_st (T' := T38) (g' := (mkF m 125 #[.val (.ref oq), .val (.ref ob), .val (.int p2), .val (.long q3), .second, .val (.int (p2 &&& (3 : Int32))), .val (.int nv), .val (.int (if (fB (0 : Int32)) = (0 : Int32) then (if (fB (1 : Int32)) = (0 : Int32) then (if (fB (2 : Int32)) = (0 : Int32) then (0 : Int32) else (1 : Int32)) else (1 : Int32)) else (1 : Int32))), .unset] [(.int (0 : Int32)), (.ref ob)])) (fun _ k => XS.iconst X38.here hx rfl (hb hby dst_124) k) ?_
      obtain ⟨cl39, Ar39, S39, M39, H39⟩ := id V38
      refine own_st (T' := T38) (g' := (mkF m 126 #[.val (.ref oq), .val (.ref ob), .val (.int p2), .val (.long q3), .second, .val (.int (p2 &&& (3 : Int32))), .val (.int nv), .val (.int (if (fB (0 : Int32)) = (0 : Int32) then (if (fB (1 : Int32)) = (0 : Int32) then (if (fB (2 : Int32)) = (0 : Int32) then (0 : Int32) else (1 : Int32)) else (1 : Int32)) else (1 : Int32))), .unset] [(.int ((own_up fB nv (1 : Int32)) (0 : Int32)))])) (fun _ k => X38.baloadBooleans hx (j := (0 : Int32)) (v := (.int ((own_up fB nv (1 : Int32)) (0 : Int32)))) (by rw [e38]; exact Ar39.1) (State.isArrayOf_alike hZ.alike Ar39.2.1) Ar39.2.2 (inb_of S39 ⟨(by decide), (by decide)⟩) (H39 _ (by decide) (by decide)) (g := (mkF m 125 #[.val (.ref oq), .val (.ref ob), .val (.int p2), .val (.long q3), .second, .val (.int (p2 &&& (3 : Int32))), .val (.int nv), .val (.int (if (fB (0 : Int32)) = (0 : Int32) then (if (fB (1 : Int32)) = (0 : Int32) then (if (fB (2 : Int32)) = (0 : Int32) then (0 : Int32) else (1 : Int32)) else (1 : Int32)) else (1 : Int32))), .unset] [(.int (0 : Int32)), (.ref ob)])) rfl rfl (hb hby dst_125) _ k) ?_
      refine own_st (T' := T38) (g' := (mkF m 146 #[.val (.ref oq), .val (.ref ob), .val (.int p2), .val (.long q3), .second, .val (.int (p2 &&& (3 : Int32))), .val (.int nv), .val (.int (if (fB (0 : Int32)) = (0 : Int32) then (if (fB (1 : Int32)) = (0 : Int32) then (if (fB (2 : Int32)) = (0 : Int32) then (0 : Int32) else (1 : Int32)) else (1 : Int32)) else (1 : Int32))), .unset] [(.int (if ((own_up fB nv (1 : Int32)) (0 : Int32)) = (0 : Int32) then (if ((own_up fB nv (1 : Int32)) (1 : Int32)) = (0 : Int32) then (if ((own_up fB nv (1 : Int32)) (2 : Int32)) = (0 : Int32) then (1 : Int32) else (0 : Int32)) else (0 : Int32)) else (0 : Int32)))])) (fun t k => ?_) ?_
      · by_cases hc126_40 : ((own_up fB nv (1 : Int32)) (0 : Int32)) = (0 : Int32)
        · refine own_sq (T' := T38) (g' := (mkF m 129 #[.val (.ref oq), .val (.ref ob), .val (.int p2), .val (.long q3), .second, .val (.int (p2 &&& (3 : Int32))), .val (.int nv), .val (.int (if (fB (0 : Int32)) = (0 : Int32) then (if (fB (1 : Int32)) = (0 : Int32) then (if (fB (2 : Int32)) = (0 : Int32) then (0 : Int32) else (1 : Int32)) else (1 : Int32)) else (1 : Int32))), .unset] [])) (fun k => XS.ifNo X38.here hx rfl (hb hby dst_126) rfl ((if0 _ _).trans (teq hc126_40).2) k) ?_
          refine own_sq (T' := T38) (g' := (mkF m 130 #[.val (.ref oq), .val (.ref ob), .val (.int p2), .val (.long q3), .second, .val (.int (p2 &&& (3 : Int32))), .val (.int nv), .val (.int (if (fB (0 : Int32)) = (0 : Int32) then (if (fB (1 : Int32)) = (0 : Int32) then (if (fB (2 : Int32)) = (0 : Int32) then (0 : Int32) else (1 : Int32)) else (1 : Int32)) else (1 : Int32))), .unset] [(.ref ob)])) (fun k => XS.aloadN X38.here hx rfl (hb hby dst_129) rfl rfl k) ?_
          refine own_sq (T' := T38) (g' := (mkF m 131 #[.val (.ref oq), .val (.ref ob), .val (.int p2), .val (.long q3), .second, .val (.int (p2 &&& (3 : Int32))), .val (.int nv), .val (.int (if (fB (0 : Int32)) = (0 : Int32) then (if (fB (1 : Int32)) = (0 : Int32) then (if (fB (2 : Int32)) = (0 : Int32) then (0 : Int32) else (1 : Int32)) else (1 : Int32)) else (1 : Int32))), .unset] [(.int (1 : Int32)), (.ref ob)])) (fun k => XS.iconst X38.here hx rfl (hb hby dst_130) k) ?_
          obtain ⟨cl41, Ar41, S41, M41, H41⟩ := id V38
          refine own_sq (T' := T38) (g' := (mkF m 132 #[.val (.ref oq), .val (.ref ob), .val (.int p2), .val (.long q3), .second, .val (.int (p2 &&& (3 : Int32))), .val (.int nv), .val (.int (if (fB (0 : Int32)) = (0 : Int32) then (if (fB (1 : Int32)) = (0 : Int32) then (if (fB (2 : Int32)) = (0 : Int32) then (0 : Int32) else (1 : Int32)) else (1 : Int32)) else (1 : Int32))), .unset] [(.int ((own_up fB nv (1 : Int32)) (1 : Int32)))])) (fun k => X38.baloadBooleans hx (j := (1 : Int32)) (v := (.int ((own_up fB nv (1 : Int32)) (1 : Int32)))) (by rw [e38]; exact Ar41.1) (State.isArrayOf_alike hZ.alike Ar41.2.1) Ar41.2.2 (inb_of S41 ⟨(by decide), (by decide)⟩) (H41 _ (by decide) (by decide)) (g := (mkF m 131 #[.val (.ref oq), .val (.ref ob), .val (.int p2), .val (.long q3), .second, .val (.int (p2 &&& (3 : Int32))), .val (.int nv), .val (.int (if (fB (0 : Int32)) = (0 : Int32) then (if (fB (1 : Int32)) = (0 : Int32) then (if (fB (2 : Int32)) = (0 : Int32) then (0 : Int32) else (1 : Int32)) else (1 : Int32)) else (1 : Int32))), .unset] [(.int (1 : Int32)), (.ref ob)])) rfl rfl (hb hby dst_131) _ k) ?_
          by_cases hc132_42 : ((own_up fB nv (1 : Int32)) (1 : Int32)) = (0 : Int32)
          · refine own_sq (T' := T38) (g' := (mkF m 135 #[.val (.ref oq), .val (.ref ob), .val (.int p2), .val (.long q3), .second, .val (.int (p2 &&& (3 : Int32))), .val (.int nv), .val (.int (if (fB (0 : Int32)) = (0 : Int32) then (if (fB (1 : Int32)) = (0 : Int32) then (if (fB (2 : Int32)) = (0 : Int32) then (0 : Int32) else (1 : Int32)) else (1 : Int32)) else (1 : Int32))), .unset] [])) (fun k => XS.ifNo X38.here hx rfl (hb hby dst_132) rfl ((if0 _ _).trans (teq hc132_42).2) k) ?_
            refine own_sq (T' := T38) (g' := (mkF m 136 #[.val (.ref oq), .val (.ref ob), .val (.int p2), .val (.long q3), .second, .val (.int (p2 &&& (3 : Int32))), .val (.int nv), .val (.int (if (fB (0 : Int32)) = (0 : Int32) then (if (fB (1 : Int32)) = (0 : Int32) then (if (fB (2 : Int32)) = (0 : Int32) then (0 : Int32) else (1 : Int32)) else (1 : Int32)) else (1 : Int32))), .unset] [(.ref ob)])) (fun k => XS.aloadN X38.here hx rfl (hb hby dst_135) rfl rfl k) ?_
            refine own_sq (T' := T38) (g' := (mkF m 137 #[.val (.ref oq), .val (.ref ob), .val (.int p2), .val (.long q3), .second, .val (.int (p2 &&& (3 : Int32))), .val (.int nv), .val (.int (if (fB (0 : Int32)) = (0 : Int32) then (if (fB (1 : Int32)) = (0 : Int32) then (if (fB (2 : Int32)) = (0 : Int32) then (0 : Int32) else (1 : Int32)) else (1 : Int32)) else (1 : Int32))), .unset] [(.int (2 : Int32)), (.ref ob)])) (fun k => XS.iconst X38.here hx rfl (hb hby dst_136) k) ?_
            obtain ⟨cl43, Ar43, S43, M43, H43⟩ := id V38
            refine own_sq (T' := T38) (g' := (mkF m 138 #[.val (.ref oq), .val (.ref ob), .val (.int p2), .val (.long q3), .second, .val (.int (p2 &&& (3 : Int32))), .val (.int nv), .val (.int (if (fB (0 : Int32)) = (0 : Int32) then (if (fB (1 : Int32)) = (0 : Int32) then (if (fB (2 : Int32)) = (0 : Int32) then (0 : Int32) else (1 : Int32)) else (1 : Int32)) else (1 : Int32))), .unset] [(.int ((own_up fB nv (1 : Int32)) (2 : Int32)))])) (fun k => X38.baloadBooleans hx (j := (2 : Int32)) (v := (.int ((own_up fB nv (1 : Int32)) (2 : Int32)))) (by rw [e38]; exact Ar43.1) (State.isArrayOf_alike hZ.alike Ar43.2.1) Ar43.2.2 (inb_of S43 ⟨(by decide), (by decide)⟩) (H43 _ (by decide) (by decide)) (g := (mkF m 137 #[.val (.ref oq), .val (.ref ob), .val (.int p2), .val (.long q3), .second, .val (.int (p2 &&& (3 : Int32))), .val (.int nv), .val (.int (if (fB (0 : Int32)) = (0 : Int32) then (if (fB (1 : Int32)) = (0 : Int32) then (if (fB (2 : Int32)) = (0 : Int32) then (0 : Int32) else (1 : Int32)) else (1 : Int32)) else (1 : Int32))), .unset] [(.int (2 : Int32)), (.ref ob)])) rfl rfl (hb hby dst_137) _ k) ?_
            by_cases hc138_44 : ((own_up fB nv (1 : Int32)) (2 : Int32)) = (0 : Int32)
            · refine own_sq (T' := T38) (g' := (mkF m 141 #[.val (.ref oq), .val (.ref ob), .val (.int p2), .val (.long q3), .second, .val (.int (p2 &&& (3 : Int32))), .val (.int nv), .val (.int (if (fB (0 : Int32)) = (0 : Int32) then (if (fB (1 : Int32)) = (0 : Int32) then (if (fB (2 : Int32)) = (0 : Int32) then (0 : Int32) else (1 : Int32)) else (1 : Int32)) else (1 : Int32))), .unset] [])) (fun k => XS.ifNo X38.here hx rfl (hb hby dst_138) rfl ((if0 _ _).trans (teq hc138_44).2) k) ?_
              refine own_sq (T' := T38) (g' := (mkF m 142 #[.val (.ref oq), .val (.ref ob), .val (.int p2), .val (.long q3), .second, .val (.int (p2 &&& (3 : Int32))), .val (.int nv), .val (.int (if (fB (0 : Int32)) = (0 : Int32) then (if (fB (1 : Int32)) = (0 : Int32) then (if (fB (2 : Int32)) = (0 : Int32) then (0 : Int32) else (1 : Int32)) else (1 : Int32)) else (1 : Int32))), .unset] [(.int (1 : Int32))])) (fun k => XS.iconst X38.here hx rfl (hb hby dst_141) k) ?_
              refine own_sq (T' := T38) (g' := (mkF m 146 #[.val (.ref oq), .val (.ref ob), .val (.int p2), .val (.long q3), .second, .val (.int (p2 &&& (3 : Int32))), .val (.int nv), .val (.int (if (fB (0 : Int32)) = (0 : Int32) then (if (fB (1 : Int32)) = (0 : Int32) then (if (fB (2 : Int32)) = (0 : Int32) then (0 : Int32) else (1 : Int32)) else (1 : Int32)) else (1 : Int32))), .unset] [(.int (1 : Int32))])) (fun k => XS.goto X38.here hx rfl (pc0 := 142) (pc' := 146) rfl (hb hby dst_142) (by decide) (by decide) k) ?_
              simp only [if_pos hc126_40, if_pos hc132_42, if_pos hc138_44] at k; exact k
            · refine own_sq (T' := T38) (g' := (mkF m 145 #[.val (.ref oq), .val (.ref ob), .val (.int p2), .val (.long q3), .second, .val (.int (p2 &&& (3 : Int32))), .val (.int nv), .val (.int (if (fB (0 : Int32)) = (0 : Int32) then (if (fB (1 : Int32)) = (0 : Int32) then (if (fB (2 : Int32)) = (0 : Int32) then (0 : Int32) else (1 : Int32)) else (1 : Int32)) else (1 : Int32))), .unset] [])) (fun k => XS.ifYes X38.here hx rfl (pc0 := 138) (pc' := 145) rfl (hb hby dst_138) rfl ((if0 _ _).trans (feq hc138_44).2) (by decide) (by decide) k) ?_
              refine own_sq (T' := T38) (g' := (mkF m 146 #[.val (.ref oq), .val (.ref ob), .val (.int p2), .val (.long q3), .second, .val (.int (p2 &&& (3 : Int32))), .val (.int nv), .val (.int (if (fB (0 : Int32)) = (0 : Int32) then (if (fB (1 : Int32)) = (0 : Int32) then (if (fB (2 : Int32)) = (0 : Int32) then (0 : Int32) else (1 : Int32)) else (1 : Int32)) else (1 : Int32))), .unset] [(.int (0 : Int32))])) (fun k => XS.iconst X38.here hx rfl (hb hby dst_145) k) ?_
              simp only [if_pos hc126_40, if_pos hc132_42, if_neg hc138_44] at k; exact k
          · refine own_sq (T' := T38) (g' := (mkF m 145 #[.val (.ref oq), .val (.ref ob), .val (.int p2), .val (.long q3), .second, .val (.int (p2 &&& (3 : Int32))), .val (.int nv), .val (.int (if (fB (0 : Int32)) = (0 : Int32) then (if (fB (1 : Int32)) = (0 : Int32) then (if (fB (2 : Int32)) = (0 : Int32) then (0 : Int32) else (1 : Int32)) else (1 : Int32)) else (1 : Int32))), .unset] [])) (fun k => XS.ifYes X38.here hx rfl (pc0 := 132) (pc' := 145) rfl (hb hby dst_132) rfl ((if0 _ _).trans (feq hc132_42).2) (by decide) (by decide) k) ?_
            refine own_sq (T' := T38) (g' := (mkF m 146 #[.val (.ref oq), .val (.ref ob), .val (.int p2), .val (.long q3), .second, .val (.int (p2 &&& (3 : Int32))), .val (.int nv), .val (.int (if (fB (0 : Int32)) = (0 : Int32) then (if (fB (1 : Int32)) = (0 : Int32) then (if (fB (2 : Int32)) = (0 : Int32) then (0 : Int32) else (1 : Int32)) else (1 : Int32)) else (1 : Int32))), .unset] [(.int (0 : Int32))])) (fun k => XS.iconst X38.here hx rfl (hb hby dst_145) k) ?_
            simp only [if_pos hc126_40, if_neg hc132_42] at k; exact k
        · refine own_sq (T' := T38) (g' := (mkF m 145 #[.val (.ref oq), .val (.ref ob), .val (.int p2), .val (.long q3), .second, .val (.int (p2 &&& (3 : Int32))), .val (.int nv), .val (.int (if (fB (0 : Int32)) = (0 : Int32) then (if (fB (1 : Int32)) = (0 : Int32) then (if (fB (2 : Int32)) = (0 : Int32) then (0 : Int32) else (1 : Int32)) else (1 : Int32)) else (1 : Int32))), .unset] [])) (fun k => XS.ifYes X38.here hx rfl (pc0 := 126) (pc' := 145) rfl (hb hby dst_126) rfl ((if0 _ _).trans (feq hc126_40).2) (by decide) (by decide) k) ?_
          refine own_sq (T' := T38) (g' := (mkF m 146 #[.val (.ref oq), .val (.ref ob), .val (.int p2), .val (.long q3), .second, .val (.int (p2 &&& (3 : Int32))), .val (.int nv), .val (.int (if (fB (0 : Int32)) = (0 : Int32) then (if (fB (1 : Int32)) = (0 : Int32) then (if (fB (2 : Int32)) = (0 : Int32) then (0 : Int32) else (1 : Int32)) else (1 : Int32)) else (1 : Int32))), .unset] [(.int (0 : Int32))])) (fun k => XS.iconst X38.here hx rfl (hb hby dst_145) k) ?_
          simp only [if_neg hc126_40] at k; exact k
      refine own_st (T' := T38) (g' := (mkF m 148 #[.val (.ref oq), .val (.ref ob), .val (.int p2), .val (.long q3), .second, .val (.int (p2 &&& (3 : Int32))), .val (.int nv), .val (.int (if (fB (0 : Int32)) = (0 : Int32) then (if (fB (1 : Int32)) = (0 : Int32) then (if (fB (2 : Int32)) = (0 : Int32) then (0 : Int32) else (1 : Int32)) else (1 : Int32)) else (1 : Int32))), .val (.int (if ((own_up fB nv (1 : Int32)) (0 : Int32)) = (0 : Int32) then (if ((own_up fB nv (1 : Int32)) (1 : Int32)) = (0 : Int32) then (if ((own_up fB nv (1 : Int32)) (2 : Int32)) = (0 : Int32) then (1 : Int32) else (0 : Int32)) else (0 : Int32)) else (0 : Int32)))] [])) (fun _ k => XS.istore X38.here hx rfl (hb hby dst_146) rfl (l' := #[.val (.ref oq), .val (.ref ob), .val (.int p2), .val (.long q3), .second, .val (.int (p2 &&& (3 : Int32))), .val (.int nv), .val (.int (if (fB (0 : Int32)) = (0 : Int32) then (if (fB (1 : Int32)) = (0 : Int32) then (if (fB (2 : Int32)) = (0 : Int32) then (0 : Int32) else (1 : Int32)) else (1 : Int32)) else (1 : Int32))), .val (.int (if ((own_up fB nv (1 : Int32)) (0 : Int32)) = (0 : Int32) then (if ((own_up fB nv (1 : Int32)) (1 : Int32)) = (0 : Int32) then (if ((own_up fB nv (1 : Int32)) (2 : Int32)) = (0 : Int32) then (1 : Int32) else (0 : Int32)) else (0 : Int32)) else (0 : Int32)))]) rfl k) ?_
      refine own_st (T' := T38) (g' := (mkF m 149 #[.val (.ref oq), .val (.ref ob), .val (.int p2), .val (.long q3), .second, .val (.int (p2 &&& (3 : Int32))), .val (.int nv), .val (.int (if (fB (0 : Int32)) = (0 : Int32) then (if (fB (1 : Int32)) = (0 : Int32) then (if (fB (2 : Int32)) = (0 : Int32) then (0 : Int32) else (1 : Int32)) else (1 : Int32)) else (1 : Int32))), .val (.int (if ((own_up fB nv (1 : Int32)) (0 : Int32)) = (0 : Int32) then (if ((own_up fB nv (1 : Int32)) (1 : Int32)) = (0 : Int32) then (if ((own_up fB nv (1 : Int32)) (2 : Int32)) = (0 : Int32) then (1 : Int32) else (0 : Int32)) else (0 : Int32)) else (0 : Int32)))] [(.ref oq)])) (fun _ k => XS.aloadN X38.here hx rfl (hb hby dst_148) rfl rfl k) ?_
      refine own_callV X38 hx hZ (y := (⟨"com/example/albatross/albatross/NodeQueue", "isEmpty", "()Z"⟩ : MethodName)) hown (own_w hw 22 rfl) (own_w hw 23 rfl) (own_w hw 25 rfl) (own_w hw 24 rfl) (own_w hw 26 rfl) (own_w hw 2 rfl) (by decide) (W := 0) e38 (b := oq) hq_w38.1 (argsL := []) (rest := []) (rmie l Z a0 hw [] oq z37 h38 n0 (Nat.le_trans (Nat.le_trans Z0 K37.1) (Nat.le_of_eq W38.size.symm)) hq_w38.2.2.2.2.1) (by decide) (by decide) (by decide) (by decide) (g := (mkF m 149 #[.val (.ref oq), .val (.ref ob), .val (.int p2), .val (.long q3), .second, .val (.int (p2 &&& (3 : Int32))), .val (.int nv), .val (.int (if (fB (0 : Int32)) = (0 : Int32) then (if (fB (1 : Int32)) = (0 : Int32) then (if (fB (2 : Int32)) = (0 : Int32) then (0 : Int32) else (1 : Int32)) else (1 : Int32)) else (1 : Int32))), .val (.int (if ((own_up fB nv (1 : Int32)) (0 : Int32)) = (0 : Int32) then (if ((own_up fB nv (1 : Int32)) (1 : Int32)) = (0 : Int32) then (if ((own_up fB nv (1 : Int32)) (2 : Int32)) = (0 : Int32) then (1 : Int32) else (0 : Int32)) else (0 : Int32)) else (0 : Int32)))] [(.ref oq)])) rfl (by rw [hml]; rfl) (lenOf own_pd4 rfl) rfl (by show 2 * 0 + _ ≤ _; exact Nat.le_of_eq rfl) (hb hby dst_149) ?_
      rintro _ T45 L45 X45 ⟨rfl, N45q, e45⟩
      show own_Go _ _ _ _ _ _ _ T45 (mkF m 152 #[.val (.ref oq), .val (.ref ob), .val (.int p2), .val (.long q3), .second, .val (.int (p2 &&& (3 : Int32))), .val (.int nv), .val (.int (if (fB (0 : Int32)) = (0 : Int32) then (if (fB (1 : Int32)) = (0 : Int32) then (if (fB (2 : Int32)) = (0 : Int32) then (0 : Int32) else (1 : Int32)) else (1 : Int32)) else (1 : Int32))), .val (.int (if ((own_up fB nv (1 : Int32)) (0 : Int32)) = (0 : Int32) then (if ((own_up fB nv (1 : Int32)) (1 : Int32)) = (0 : Int32) then (if ((own_up fB nv (1 : Int32)) (2 : Int32)) = (0 : Int32) then (1 : Int32) else (0 : Int32)) else (0 : Int32)) else (0 : Int32)))] [(.int (if z37 = (0 : Int32) then (1 : Int32) else (0 : Int32)))])
      have N45 := Fr.app N38 N45q
      have hq_45 : own_NQ Z T45.heap oq oh os ok H37 S37 Kf37 z37 := by rw [e45]; exact hq_w38
      have Ab_45 : own_A Z T45.heap ob .boolean (3 : Int32) (fun i => (.int ((own_up fB nv (1 : Int32)) i))) := by rw [e45]; exact V38
      refine own_st (T' := T45) (g' := (mkF m 154 #[.val (.ref oq), .val (.ref ob), .val (.int p2), .val (.long q3), .second, .val (.int (p2 &&& (3 : Int32))), .val (.int nv), .val (.int (if (fB (0 : Int32)) = (0 : Int32) then (if (fB (1 : Int32)) = (0 : Int32) then (if (fB (2 : Int32)) = (0 : Int32) then (0 : Int32) else (1 : Int32)) else (1 : Int32)) else (1 : Int32))), .val (.int (if ((own_up fB nv (1 : Int32)) (0 : Int32)) = (0 : Int32) then (if ((own_up fB nv (1 : Int32)) (1 : Int32)) = (0 : Int32) then (if ((own_up fB nv (1 : Int32)) (2 : Int32)) = (0 : Int32) then (1 : Int32) else (0 : Int32)) else (0 : Int32)) else (0 : Int32)))] [(.int (if ((own_up fB nv (1 : Int32)) (0 : Int32)) = (0 : Int32) then (if ((own_up fB nv (1 : Int32)) (1 : Int32)) = (0 : Int32) then (if ((own_up fB nv (1 : Int32)) (2 : Int32)) = (0 : Int32) then (1 : Int32) else (0 : Int32)) else (0 : Int32)) else (0 : Int32))), (.int (if z37 = (0 : Int32) then (1 : Int32) else (0 : Int32)))])) (fun _ k => XS.iload X45.here hx rfl (hb hby dst_152) rfl k) ?_
      refine own_st (T' := T45) (g' := (mkF m 157 #[.val (.ref oq), .val (.ref ob), .val (.int p2), .val (.long q3), .second, .val (.int (p2 &&& (3 : Int32))), .val (.int nv), .val (.int (if (fB (0 : Int32)) = (0 : Int32) then (if (fB (1 : Int32)) = (0 : Int32) then (if (fB (2 : Int32)) = (0 : Int32) then (0 : Int32) else (1 : Int32)) else (1 : Int32)) else (1 : Int32))), .val (.int (if ((own_up fB nv (1 : Int32)) (0 : Int32)) = (0 : Int32) then (if ((own_up fB nv (1 : Int32)) (1 : Int32)) = (0 : Int32) then (if ((own_up fB nv (1 : Int32)) (2 : Int32)) = (0 : Int32) then (1 : Int32) else (0 : Int32)) else (0 : Int32)) else (0 : Int32)))] [])) (fun _ k => XS.icmpNo X45.here hx rfl (hb hby dst_154) rfl (teq (own_last hO37.1 hR_37 : ((if z37 = (0 : Int32) then (1 : Int32) else (0 : Int32)) = (if ((own_up fB nv (1 : Int32)) (0 : Int32)) = (0 : Int32) then (if ((own_up fB nv (1 : Int32)) (1 : Int32)) = (0 : Int32) then (if ((own_up fB nv (1 : Int32)) (2 : Int32)) = (0 : Int32) then (1 : Int32) else (0 : Int32)) else (0 : Int32)) else (0 : Int32))))).2 k) ?_
      refine own_st (T' := T45) (g' := (mkF m 158 #[.val (.ref oq), .val (.ref ob), .val (.int p2), .val (.long q3), .second, .val (.int (p2 &&& (3 : Int32))), .val (.int nv), .val (.int (if (fB (0 : Int32)) = (0 : Int32) then (if (fB (1 : Int32)) = (0 : Int32) then (if (fB (2 : Int32)) = (0 : Int32) then (0 : Int32) else (1 : Int32)) else (1 : Int32)) else (1 : Int32))), .val (.int (if ((own_up fB nv (1 : Int32)) (0 : Int32)) = (0 : Int32) then (if ((own_up fB nv (1 : Int32)) (1 : Int32)) = (0 : Int32) then (if ((own_up fB nv (1 : Int32)) (2 : Int32)) = (0 : Int32) then (1 : Int32) else (0 : Int32)) else (0 : Int32)) else (0 : Int32)))] [(.int (1 : Int32))])) (fun _ k => XS.iconst X45.here hx rfl (hb hby dst_157) k) ?_
      refine own_st (T' := T45) (g' := (mkF m 162 #[.val (.ref oq), .val (.ref ob), .val (.int p2), .val (.long q3), .second, .val (.int (p2 &&& (3 : Int32))), .val (.int nv), .val (.int (if (fB (0 : Int32)) = (0 : Int32) then (if (fB (1 : Int32)) = (0 : Int32) then (if (fB (2 : Int32)) = (0 : Int32) then (0 : Int32) else (1 : Int32)) else (1 : Int32)) else (1 : Int32))), .val (.int (if ((own_up fB nv (1 : Int32)) (0 : Int32)) = (0 : Int32) then (if ((own_up fB nv (1 : Int32)) (1 : Int32)) = (0 : Int32) then (if ((own_up fB nv (1 : Int32)) (2 : Int32)) = (0 : Int32) then (1 : Int32) else (0 : Int32)) else (0 : Int32)) else (0 : Int32)))] [(.int (1 : Int32))])) (fun _ k => XS.goto X45.here hx rfl (pc0 := 158) (pc' := 162) rfl (hb hby dst_158) (by decide) (by decide) k) ?_
      exact own_retN X45 hx hlk hret (by simp) (hb hby dst_162) ⟨rfl, N45, (by rw [e45]; exact (((Keep.refl h0 ([oq, oh, os, ok] ++ [ob])).trans K37 (fun x hx => Or.inl (List.mem_append_left _ hx))).wr W38 (Or.inl (by simp)))), H37, S37, Kf37, z37, (own_up fB nv (1 : Int32)), hq_45, hO37.1, Ab_45, hR_37⟩ (by decide) (by decide)
theorem pn_0 : plainName "com/example/albatross/albatross/NodeQueueIsEmptyPinLaw" = true := by first | (simp [plainName, overriddenIn]; done) | decide +kernel
theorem ef_0 (m : MethodId) (x0 : Int32) (x1 : Int64) (x2 : Int64) (x3 : Int64) (x4 : Int64) : entryFrame m #[(.int x0), (.long x1), (.long x2), (.long x3), (.long x4)] maxLocals = mkF m 0 #[.val (.int x0), .val (.long x1), .second, .val (.long x2), .second, .val (.long x3), .second, .val (.long x4), .second, .unset, .unset] [] := by first | (simp [entryFrame, mkF, argsToLocals, Value.category, maxLocals]; done) | rfl
set_option maxRecDepth 65536 in
set_option maxHeartbeats 40000000 in
theorem rm0 (l : Launch) (Z : State) (a0 : Array Value) (hw : ∀ d ∈ tables_1, d.before a0 Z = true) (ws : List Jvm.Cond) (p0 : Int32) (q1 q2 q3 q4 : Int64) (h0 : Heap) (n0 : Nat) (Z0 : n0 ≤ h0.size)  :
    own_Met l Z ws x code maxLocals ret room_1 24 128 #[(.int p0), (.long q1), (.long q2), (.long q3), (.long q4)] h0 (fun v h L => v = some (.int 1) ∧ Fr n0 L) := by
  refine own_body (plainFor_of_name pn_0) ?_
  intro p e s m below meth c s₁ hx hby hml hown hnm hlk hret hZ hh X0 e0
  have N0 := Fr.nil n0
  refine own_cast (ef_0 m p0 q1 q2 q3 q4) ?_
  obtain ⟨T1, h1, X1, e1, E1, A1, D1, -, st1⟩ := newO X0 hx hZ hown (own_w hw 0 rfl) (own_w hw 1 rfl) (own_w hw 2 rfl) e0 (g := (mkF m 0 #[.val (.int p0), .val (.long q1), .second, .val (.long q2), .second, .val (.long q3), .second, .val (.long q4), .second, .unset, .unset] [])) rfl (hb hby at_0) (by decide) (by decide)
  obtain ⟨b1, g1⟩ : ∃ z, z = h0.size := ⟨_, rfl⟩
  rw [← g1] at A1 D1 st1
  have G_b1 : n0 ≤ b1 := Nat.le_trans Z0 (Nat.le_of_eq g1.symm)
  have sz_b1 : h0.size ≤ b1 := Nat.le_trans (Keep.refl h0 []).1 (Nat.le_of_eq g1.symm)
  have F1_heap : Fld Z h1 b1 "com/example/albatross/albatross/NodeQueue" "heap" "[I" .null := D1 (Or.inr (own_w hw 11 rfl)) (ty := (.array .int)) (by decide)
  have F1_slot : Fld Z h1 b1 "com/example/albatross/albatross/NodeQueue" "slot" "[I" .null := D1 (Or.inr (own_w hw 13 rfl)) (ty := (.array .int)) (by decide)
  have F1_key : Fld Z h1 b1 "com/example/albatross/albatross/NodeQueue" "key" "[J" .null := D1 (Or.inr (own_w hw 16 rfl)) (ty := (.array .long)) (by decide)
  have F1_size : Fld Z h1 b1 "com/example/albatross/albatross/NodeQueue" "size" "I" (.int (0 : Int32)) := D1 (Or.inl (own_w hw 28 rfl)) (ty := .int) (by decide)
  refine own_st (g' := (mkF m 3 #[.val (.int p0), .val (.long q1), .second, .val (.long q2), .second, .val (.long q3), .second, .val (.long q4), .second, .unset, .unset] [(.ref b1)])) st1 ?_
  refine own_st (T' := T1) (g' := (mkF m 4 #[.val (.int p0), .val (.long q1), .second, .val (.long q2), .second, .val (.long q3), .second, .val (.long q4), .second, .unset, .unset] [(.ref b1), (.ref b1)])) (fun _ k => XS.dup X1.here hx rfl (hb hby at_3) rfl rfl k) ?_
  refine own_st (T' := T1) (g' := (mkF m 5 #[.val (.int p0), .val (.long q1), .second, .val (.long q2), .second, .val (.long q3), .second, .val (.long q4), .second, .unset, .unset] [(.int (3 : Int32)), (.ref b1), (.ref b1)])) (fun _ k => XS.iconst X1.here hx rfl (hb hby at_4) k) ?_
  refine own_callC X1 hx hZ (y := (⟨"com/example/albatross/albatross/NodeQueue", "<init>", "(I)V"⟩ : MethodName)) rfl hown (own_w hw 3 rfl) (own_w hw 4 rfl) (own_w hw 5 rfl) (own_w hw 2 rfl) (by decide) (W := 1) e1 (b := b1) (argsL := [(.int (3 : Int32))]) (rest := [(.ref b1)]) (rmin l Z a0 hw [] b1 h1 n0 (Nat.le_trans Z0 E1.1) F1_heap F1_slot F1_key F1_size A1 G_b1) (by decide) (by decide) (by decide) (by decide) (g := (mkF m 5 #[.val (.int p0), .val (.long q1), .second, .val (.long q2), .second, .val (.long q3), .second, .val (.long q4), .second, .unset, .unset] [(.int (3 : Int32)), (.ref b1), (.ref b1)])) rfl (by rw [hml]; rfl) (lenOf own_pd1 rfl) rfl (by show 2 * 0 + _ ≤ _; exact Nat.le_of_eq rfl) (hb hby at_5) ?_
  rintro _ T2 L2 X2 ⟨rfl, N2q, K2, oh, os, ok, hd, hq_2⟩
  show own_Go _ _ _ _ _ _ _ T2 (mkF m 8 #[.val (.int p0), .val (.long q1), .second, .val (.long q2), .second, .val (.long q3), .second, .val (.long q4), .second, .unset, .unset] [(.ref b1)])
  have N2 := Fr.app N0 N2q
  refine own_st (T' := T2) (g' := (mkF m 10 #[.val (.int p0), .val (.long q1), .second, .val (.long q2), .second, .val (.long q3), .second, .val (.long q4), .second, .val (.ref b1), .unset] [])) (fun _ k => XS.astore X2.here hx rfl (hb hby at_8) rfl rfl (l' := #[.val (.int p0), .val (.long q1), .second, .val (.long q2), .second, .val (.long q3), .second, .val (.long q4), .second, .val (.ref b1), .unset]) rfl k) ?_
  refine own_st (T' := T2) (g' := (mkF m 11 #[.val (.int p0), .val (.long q1), .second, .val (.long q2), .second, .val (.long q3), .second, .val (.long q4), .second, .val (.ref b1), .unset] [(.int (3 : Int32))])) (fun _ k => XS.iconst X2.here hx rfl (hb hby at_10) k) ?_
  obtain ⟨T3, h3, k3, X3, e3, E3, A3, st3⟩ := newP X2 hx hZ (own_w hw 21 rfl) rfl (g := (mkF m 11 #[.val (.int p0), .val (.long q1), .second, .val (.long q2), .second, .val (.long q3), .second, .val (.long q4), .second, .val (.ref b1), .unset] [(.int (3 : Int32))])) rfl (hb hby at_11) rfl (by decide) (cap := 3) (by decide) (by decide) (by decide) (by decide)
  obtain ⟨b3, g3⟩ : ∃ z, z = T2.heap.size := ⟨_, rfl⟩
  rw [← g3] at A3 st3
  have G_b3 : n0 ≤ b3 := Nat.le_trans (Nat.le_trans (Nat.le_trans Z0 E1.1) K2.1) (Nat.le_of_eq g3.symm)
  have V3 : own_A Z h3 b3 .boolean (3 : Int32) (fun i => (.int ((fun _ => (0 : Int32)) i))) := own_A.new A3 (by decide)
  refine own_st (g' := (mkF m 13 #[.val (.int p0), .val (.long q1), .second, .val (.long q2), .second, .val (.long q3), .second, .val (.long q4), .second, .val (.ref b1), .unset] [(.ref b3)])) st3 ?_
  have hq_3 := own_nqe E3 hq_2
  have hnb := own_nin hq_2 g3
  refine own_st (T' := T3) (g' := (mkF m 15 #[.val (.int p0), .val (.long q1), .second, .val (.long q2), .second, .val (.long q3), .second, .val (.long q4), .second, .val (.ref b1), .val (.ref b3)] [])) (fun _ k => XS.astore X3.here hx rfl (hb hby at_13) rfl rfl (l' := #[.val (.int p0), .val (.long q1), .second, .val (.long q2), .second, .val (.long q3), .second, .val (.long q4), .second, .val (.ref b1), .val (.ref b3)]) rfl k) ?_
  refine own_st (T' := T3) (g' := (mkF m 17 #[.val (.int p0), .val (.long q1), .second, .val (.long q2), .second, .val (.long q3), .second, .val (.long q4), .second, .val (.ref b1), .val (.ref b3)] [(.ref b1)])) (fun _ k => XS.aload X3.here hx rfl (hb hby at_15) rfl rfl k) ?_
  refine own_callV X3 hx hZ (y := (⟨"com/example/albatross/albatross/NodeQueue", "isEmpty", "()Z"⟩ : MethodName)) hown (own_w hw 22 rfl) (own_w hw 23 rfl) (own_w hw 25 rfl) (own_w hw 24 rfl) (own_w hw 26 rfl) (own_w hw 2 rfl) (by decide) (W := 0) e3 (b := b1) hq_3.1 (argsL := []) (rest := []) (rmie l Z a0 hw [] b1 (0 : Int32) h3 n0 (Nat.le_trans (Nat.le_trans (Nat.le_trans Z0 E1.1) K2.1) E3.1) hq_3.2.2.2.2.1) (by decide) (by decide) (by decide) (by decide) (g := (mkF m 17 #[.val (.int p0), .val (.long q1), .second, .val (.long q2), .second, .val (.long q3), .second, .val (.long q4), .second, .val (.ref b1), .val (.ref b3)] [(.ref b1)])) rfl (by rw [hml]; rfl) (lenOf own_pd4 rfl) rfl (by show 2 * 0 + _ ≤ _; exact Nat.le_of_eq rfl) (hb hby at_17) ?_
  rintro _ T4 L4 X4 ⟨rfl, N4q, e4⟩
  show own_Go _ _ _ _ _ _ _ T4 (mkF m 20 #[.val (.int p0), .val (.long q1), .second, .val (.long q2), .second, .val (.long q3), .second, .val (.long q4), .second, .val (.ref b1), .val (.ref b3)] [(.int (1 : Int32))])
  have N4 := Fr.app N2 N4q
  have hq_4 : own_NQ Z T4.heap b1 oh os ok (fun _ => (0 : Int32)) (own_up (own_up (own_up (fun _ => (0 : Int32)) (0 : Int32) (-1 : Int32)) (1 : Int32) (-1 : Int32)) (2 : Int32) (-1 : Int32)) (fun _ => (0 : Int64)) (0 : Int32) := by rw [e4]; exact hq_3
  have Ab_4 : own_A Z T4.heap b3 .boolean (3 : Int32) (fun i => (.int ((fun _ => (0 : Int32)) i))) := by rw [e4]; exact V3
  refine own_st (T' := T4) (g' := (mkF m 25 #[.val (.int p0), .val (.long q1), .second, .val (.long q2), .second, .val (.long q3), .second, .val (.long q4), .second, .val (.ref b1), .val (.ref b3)] [])) (fun _ k => XS.ifYes X4.here hx rfl (pc0 := 20) (pc' := 25) rfl (hb hby at_20) rfl ((if0 _ _).trans (feq (by decide : ¬ ((1 : Int32) = (0 : Int32)))).2) (by decide) (by decide) k) ?_
  refine own_st (T' := T4) (g' := (mkF m 27 #[.val (.int p0), .val (.long q1), .second, .val (.long q2), .second, .val (.long q3), .second, .val (.long q4), .second, .val (.ref b1), .val (.ref b3)] [(.ref b1)])) (fun _ k => XS.aload X4.here hx rfl (hb hby at_25) rfl rfl k) ?_
  refine own_st (T' := T4) (g' := (mkF m 29 #[.val (.int p0), .val (.long q1), .second, .val (.long q2), .second, .val (.long q3), .second, .val (.long q4), .second, .val (.ref b1), .val (.ref b3)] [(.ref b3), (.ref b1)])) (fun _ k => XS.aload X4.here hx rfl (hb hby at_27) rfl rfl k) ?_
  refine own_st (T' := T4) (g' := (mkF m 30 #[.val (.int p0), .val (.long q1), .second, .val (.long q2), .second, .val (.long q3), .second, .val (.long q4), .second, .val (.ref b1), .val (.ref b3)] [(.int p0), (.ref b3), (.ref b1)])) (fun _ k => XS.iloadN X4.here hx rfl (hb hby at_29) rfl k) ?_
  refine own_st (T' := T4) (g' := (mkF m 31 #[.val (.int p0), .val (.long q1), .second, .val (.long q2), .second, .val (.long q3), .second, .val (.long q4), .second, .val (.ref b1), .val (.ref b3)] [(.long q1), (.int p0), (.ref b3), (.ref b1)])) (fun _ k => XS.lloadN X4.here hx rfl (hb hby at_30) rfl k) ?_
  refine own_callS X4 hx hZ (y := (⟨"com/example/albatross/albatross/NodeQueueIsEmptyPinLaw", "step", "(Lcom/example/albatross/albatross/NodeQueue;[ZIJ)Z"⟩ : MethodName)) hown (own_w hw 29 rfl) (own_w hw 30 rfl) (own_w hw 31 rfl) (own_w hw 32 rfl) (by decide) (W := 0) rfl (argsL := [(.ref b1), (.ref b3), (.int p0), (.long q1)]) (rest := []) (rmst l Z a0 hw [] b1 oh os ok (fun _ => (0 : Int32)) (own_up (own_up (own_up (fun _ => (0 : Int32)) (0 : Int32) (-1 : Int32)) (1 : Int32) (-1 : Int32)) (2 : Int32) (-1 : Int32)) (fun _ => (0 : Int64)) (0 : Int32) b3 (fun _ => (0 : Int32)) p0 q1 T4.heap n0 (by rw [e4]; exact (Nat.le_trans (Nat.le_trans (Nat.le_trans Z0 E1.1) K2.1) E3.1)) hd hq_4 own_init Ab_4 G_b3 hnb own_rel0) (by decide) (by decide) (by decide) (by decide) (g := (mkF m 31 #[.val (.int p0), .val (.long q1), .second, .val (.long q2), .second, .val (.long q3), .second, .val (.long q4), .second, .val (.ref b1), .val (.ref b3)] [(.long q1), (.int p0), (.ref b3), (.ref b1)])) rfl (by rw [hml]; rfl) (lenOf own_pd7 rfl) rfl (by show 2 * 0 + _ ≤ _; exact Nat.le_of_eq rfl) (hb hby at_31) ?_
  rintro _ T5 L5 X5 ⟨rfl, N5q, K5, H5, S5, Kf5, z5, B5, hq_5, hI5, Ab5, hR5⟩
  show own_Go _ _ _ _ _ _ _ T5 (mkF m 34 #[.val (.int p0), .val (.long q1), .second, .val (.long q2), .second, .val (.long q3), .second, .val (.long q4), .second, .val (.ref b1), .val (.ref b3)] [(.int (1 : Int32))])
  have N5 := Fr.app N4 N5q
  refine own_st (T' := T5) (g' := (mkF m 39 #[.val (.int p0), .val (.long q1), .second, .val (.long q2), .second, .val (.long q3), .second, .val (.long q4), .second, .val (.ref b1), .val (.ref b3)] [])) (fun _ k => XS.ifYes X5.here hx rfl (pc0 := 34) (pc' := 39) rfl (hb hby at_34) rfl ((if0 _ _).trans (feq (by decide : ¬ ((1 : Int32) = (0 : Int32)))).2) (by decide) (by decide) k) ?_
  refine own_st (T' := T5) (g' := (mkF m 41 #[.val (.int p0), .val (.long q1), .second, .val (.long q2), .second, .val (.long q3), .second, .val (.long q4), .second, .val (.ref b1), .val (.ref b3)] [(.ref b1)])) (fun _ k => XS.aload X5.here hx rfl (hb hby at_39) rfl rfl k) ?_
  refine own_st (T' := T5) (g' := (mkF m 43 #[.val (.int p0), .val (.long q1), .second, .val (.long q2), .second, .val (.long q3), .second, .val (.long q4), .second, .val (.ref b1), .val (.ref b3)] [(.ref b3), (.ref b1)])) (fun _ k => XS.aload X5.here hx rfl (hb hby at_41) rfl rfl k) ?_
  refine own_st (T' := T5) (g' := (mkF m 44 #[.val (.int p0), .val (.long q1), .second, .val (.long q2), .second, .val (.long q3), .second, .val (.long q4), .second, .val (.ref b1), .val (.ref b3)] [(.int p0), (.ref b3), (.ref b1)])) (fun _ k => XS.iloadN X5.here hx rfl (hb hby at_43) rfl k) ?_
  refine own_st (T' := T5) (g' := (mkF m 45 #[.val (.int p0), .val (.long q1), .second, .val (.long q2), .second, .val (.long q3), .second, .val (.long q4), .second, .val (.ref b1), .val (.ref b3)] [(.int (4 : Int32)), (.int p0), (.ref b3), (.ref b1)])) (fun _ k => XS.iconst X5.here hx rfl (hb hby at_44) k) ?_
  refine own_st (T' := T5) (g' := (mkF m 46 #[.val (.int p0), .val (.long q1), .second, .val (.long q2), .second, .val (.long q3), .second, .val (.long q4), .second, .val (.ref b1), .val (.ref b3)] [(.int ((p0.toUInt32 >>> ((4 : Int32) &&& 31).toUInt32).toInt32)), (.ref b3), (.ref b1)])) (fun _ k => XS.iushr X5.here hx rfl (hb hby at_45) rfl k) ?_
  refine own_st (T' := T5) (g' := (mkF m 47 #[.val (.int p0), .val (.long q1), .second, .val (.long q2), .second, .val (.long q3), .second, .val (.long q4), .second, .val (.ref b1), .val (.ref b3)] [(.long q2), (.int ((p0.toUInt32 >>> ((4 : Int32) &&& 31).toUInt32).toInt32)), (.ref b3), (.ref b1)])) (fun _ k => XS.lloadN X5.here hx rfl (hb hby at_46) rfl k) ?_
  refine own_callS X5 hx hZ (y := (⟨"com/example/albatross/albatross/NodeQueueIsEmptyPinLaw", "step", "(Lcom/example/albatross/albatross/NodeQueue;[ZIJ)Z"⟩ : MethodName)) hown (own_w hw 29 rfl) (own_w hw 30 rfl) (own_w hw 31 rfl) (own_w hw 32 rfl) (by decide) (W := 0) rfl (argsL := [(.ref b1), (.ref b3), (.int ((p0.toUInt32 >>> ((4 : Int32) &&& 31).toUInt32).toInt32)), (.long q2)]) (rest := []) (rmst l Z a0 hw [] b1 oh os ok H5 S5 Kf5 z5 b3 B5 ((p0.toUInt32 >>> ((4 : Int32) &&& 31).toUInt32).toInt32) q2 T5.heap n0 (Nat.le_trans (by rw [e4]; exact (Nat.le_trans (Nat.le_trans (Nat.le_trans Z0 E1.1) K2.1) E3.1)) K5.1) hd hq_5 hI5 Ab5 G_b3 hnb hR5) (by decide) (by decide) (by decide) (by decide) (g := (mkF m 47 #[.val (.int p0), .val (.long q1), .second, .val (.long q2), .second, .val (.long q3), .second, .val (.long q4), .second, .val (.ref b1), .val (.ref b3)] [(.long q2), (.int ((p0.toUInt32 >>> ((4 : Int32) &&& 31).toUInt32).toInt32)), (.ref b3), (.ref b1)])) rfl (by rw [hml]; rfl) (lenOf own_pd7 rfl) rfl (by show 2 * 0 + _ ≤ _; exact Nat.le_of_eq rfl) (hb hby at_47) ?_
  rintro _ T6 L6 X6 ⟨rfl, N6q, K6, H6, S6, Kf6, z6, B6, hq_6, hI6, Ab6, hR6⟩
  show own_Go _ _ _ _ _ _ _ T6 (mkF m 50 #[.val (.int p0), .val (.long q1), .second, .val (.long q2), .second, .val (.long q3), .second, .val (.long q4), .second, .val (.ref b1), .val (.ref b3)] [(.int (1 : Int32))])
  have N6 := Fr.app N5 N6q
  refine own_st (T' := T6) (g' := (mkF m 55 #[.val (.int p0), .val (.long q1), .second, .val (.long q2), .second, .val (.long q3), .second, .val (.long q4), .second, .val (.ref b1), .val (.ref b3)] [])) (fun _ k => XS.ifYes X6.here hx rfl (pc0 := 50) (pc' := 55) rfl (hb hby at_50) rfl ((if0 _ _).trans (feq (by decide : ¬ ((1 : Int32) = (0 : Int32)))).2) (by decide) (by decide) k) ?_
  refine own_st (T' := T6) (g' := (mkF m 57 #[.val (.int p0), .val (.long q1), .second, .val (.long q2), .second, .val (.long q3), .second, .val (.long q4), .second, .val (.ref b1), .val (.ref b3)] [(.ref b1)])) (fun _ k => XS.aload X6.here hx rfl (hb hby at_55) rfl rfl k) ?_
  refine own_st (T' := T6) (g' := (mkF m 59 #[.val (.int p0), .val (.long q1), .second, .val (.long q2), .second, .val (.long q3), .second, .val (.long q4), .second, .val (.ref b1), .val (.ref b3)] [(.ref b3), (.ref b1)])) (fun _ k => XS.aload X6.here hx rfl (hb hby at_57) rfl rfl k) ?_
  refine own_st (T' := T6) (g' := (mkF m 60 #[.val (.int p0), .val (.long q1), .second, .val (.long q2), .second, .val (.long q3), .second, .val (.long q4), .second, .val (.ref b1), .val (.ref b3)] [(.int p0), (.ref b3), (.ref b1)])) (fun _ k => XS.iloadN X6.here hx rfl (hb hby at_59) rfl k) ?_
  refine own_st (T' := T6) (g' := (mkF m 62 #[.val (.int p0), .val (.long q1), .second, .val (.long q2), .second, .val (.long q3), .second, .val (.long q4), .second, .val (.ref b1), .val (.ref b3)] [(.int (8 : Int32)), (.int p0), (.ref b3), (.ref b1)])) (fun _ k => XS.bipush X6.here hx rfl (hb hby at_60) k) ?_
  refine own_st (T' := T6) (g' := (mkF m 63 #[.val (.int p0), .val (.long q1), .second, .val (.long q2), .second, .val (.long q3), .second, .val (.long q4), .second, .val (.ref b1), .val (.ref b3)] [(.int ((p0.toUInt32 >>> ((8 : Int32) &&& 31).toUInt32).toInt32)), (.ref b3), (.ref b1)])) (fun _ k => XS.iushr X6.here hx rfl (hb hby at_62) rfl k) ?_
  refine own_st (T' := T6) (g' := (mkF m 65 #[.val (.int p0), .val (.long q1), .second, .val (.long q2), .second, .val (.long q3), .second, .val (.long q4), .second, .val (.ref b1), .val (.ref b3)] [(.long q3), (.int ((p0.toUInt32 >>> ((8 : Int32) &&& 31).toUInt32).toInt32)), (.ref b3), (.ref b1)])) (fun _ k => XS.lload X6.here hx rfl (hb hby at_63) rfl k) ?_
  refine own_callS X6 hx hZ (y := (⟨"com/example/albatross/albatross/NodeQueueIsEmptyPinLaw", "step", "(Lcom/example/albatross/albatross/NodeQueue;[ZIJ)Z"⟩ : MethodName)) hown (own_w hw 29 rfl) (own_w hw 30 rfl) (own_w hw 31 rfl) (own_w hw 32 rfl) (by decide) (W := 0) rfl (argsL := [(.ref b1), (.ref b3), (.int ((p0.toUInt32 >>> ((8 : Int32) &&& 31).toUInt32).toInt32)), (.long q3)]) (rest := []) (rmst l Z a0 hw [] b1 oh os ok H6 S6 Kf6 z6 b3 B6 ((p0.toUInt32 >>> ((8 : Int32) &&& 31).toUInt32).toInt32) q3 T6.heap n0 (Nat.le_trans (Nat.le_trans (by rw [e4]; exact (Nat.le_trans (Nat.le_trans (Nat.le_trans Z0 E1.1) K2.1) E3.1)) K5.1) K6.1) hd hq_6 hI6 Ab6 G_b3 hnb hR6) (by decide) (by decide) (by decide) (by decide) (g := (mkF m 65 #[.val (.int p0), .val (.long q1), .second, .val (.long q2), .second, .val (.long q3), .second, .val (.long q4), .second, .val (.ref b1), .val (.ref b3)] [(.long q3), (.int ((p0.toUInt32 >>> ((8 : Int32) &&& 31).toUInt32).toInt32)), (.ref b3), (.ref b1)])) rfl (by rw [hml]; rfl) (lenOf own_pd7 rfl) rfl (by show 2 * 0 + _ ≤ _; exact Nat.le_of_eq rfl) (hb hby at_65) ?_
  rintro _ T7 L7 X7 ⟨rfl, N7q, K7, H7, S7, Kf7, z7, B7, hq_7, hI7, Ab7, hR7⟩
  show own_Go _ _ _ _ _ _ _ T7 (mkF m 68 #[.val (.int p0), .val (.long q1), .second, .val (.long q2), .second, .val (.long q3), .second, .val (.long q4), .second, .val (.ref b1), .val (.ref b3)] [(.int (1 : Int32))])
  have N7 := Fr.app N6 N7q
  refine own_st (T' := T7) (g' := (mkF m 73 #[.val (.int p0), .val (.long q1), .second, .val (.long q2), .second, .val (.long q3), .second, .val (.long q4), .second, .val (.ref b1), .val (.ref b3)] [])) (fun _ k => XS.ifYes X7.here hx rfl (pc0 := 68) (pc' := 73) rfl (hb hby at_68) rfl ((if0 _ _).trans (feq (by decide : ¬ ((1 : Int32) = (0 : Int32)))).2) (by decide) (by decide) k) ?_
  refine own_st (T' := T7) (g' := (mkF m 75 #[.val (.int p0), .val (.long q1), .second, .val (.long q2), .second, .val (.long q3), .second, .val (.long q4), .second, .val (.ref b1), .val (.ref b3)] [(.ref b1)])) (fun _ k => XS.aload X7.here hx rfl (hb hby at_73) rfl rfl k) ?_
  refine own_st (T' := T7) (g' := (mkF m 77 #[.val (.int p0), .val (.long q1), .second, .val (.long q2), .second, .val (.long q3), .second, .val (.long q4), .second, .val (.ref b1), .val (.ref b3)] [(.ref b3), (.ref b1)])) (fun _ k => XS.aload X7.here hx rfl (hb hby at_75) rfl rfl k) ?_
  refine own_st (T' := T7) (g' := (mkF m 78 #[.val (.int p0), .val (.long q1), .second, .val (.long q2), .second, .val (.long q3), .second, .val (.long q4), .second, .val (.ref b1), .val (.ref b3)] [(.int p0), (.ref b3), (.ref b1)])) (fun _ k => XS.iloadN X7.here hx rfl (hb hby at_77) rfl k) ?_
  refine own_st (T' := T7) (g' := (mkF m 80 #[.val (.int p0), .val (.long q1), .second, .val (.long q2), .second, .val (.long q3), .second, .val (.long q4), .second, .val (.ref b1), .val (.ref b3)] [(.int (12 : Int32)), (.int p0), (.ref b3), (.ref b1)])) (fun _ k => XS.bipush X7.here hx rfl (hb hby at_78) k) ?_
  refine own_st (T' := T7) (g' := (mkF m 81 #[.val (.int p0), .val (.long q1), .second, .val (.long q2), .second, .val (.long q3), .second, .val (.long q4), .second, .val (.ref b1), .val (.ref b3)] [(.int ((p0.toUInt32 >>> ((12 : Int32) &&& 31).toUInt32).toInt32)), (.ref b3), (.ref b1)])) (fun _ k => XS.iushr X7.here hx rfl (hb hby at_80) rfl k) ?_
  refine own_st (T' := T7) (g' := (mkF m 83 #[.val (.int p0), .val (.long q1), .second, .val (.long q2), .second, .val (.long q3), .second, .val (.long q4), .second, .val (.ref b1), .val (.ref b3)] [(.long q4), (.int ((p0.toUInt32 >>> ((12 : Int32) &&& 31).toUInt32).toInt32)), (.ref b3), (.ref b1)])) (fun _ k => XS.lload X7.here hx rfl (hb hby at_81) rfl k) ?_
  refine own_callS X7 hx hZ (y := (⟨"com/example/albatross/albatross/NodeQueueIsEmptyPinLaw", "step", "(Lcom/example/albatross/albatross/NodeQueue;[ZIJ)Z"⟩ : MethodName)) hown (own_w hw 29 rfl) (own_w hw 30 rfl) (own_w hw 31 rfl) (own_w hw 32 rfl) (by decide) (W := 0) rfl (argsL := [(.ref b1), (.ref b3), (.int ((p0.toUInt32 >>> ((12 : Int32) &&& 31).toUInt32).toInt32)), (.long q4)]) (rest := []) (rmst l Z a0 hw [] b1 oh os ok H7 S7 Kf7 z7 b3 B7 ((p0.toUInt32 >>> ((12 : Int32) &&& 31).toUInt32).toInt32) q4 T7.heap n0 (Nat.le_trans (Nat.le_trans (Nat.le_trans (by rw [e4]; exact (Nat.le_trans (Nat.le_trans (Nat.le_trans Z0 E1.1) K2.1) E3.1)) K5.1) K6.1) K7.1) hd hq_7 hI7 Ab7 G_b3 hnb hR7) (by decide) (by decide) (by decide) (by decide) (g := (mkF m 83 #[.val (.int p0), .val (.long q1), .second, .val (.long q2), .second, .val (.long q3), .second, .val (.long q4), .second, .val (.ref b1), .val (.ref b3)] [(.long q4), (.int ((p0.toUInt32 >>> ((12 : Int32) &&& 31).toUInt32).toInt32)), (.ref b3), (.ref b1)])) rfl (by rw [hml]; rfl) (lenOf own_pd7 rfl) rfl (by show 2 * 0 + _ ≤ _; exact Nat.le_of_eq rfl) (hb hby at_83) ?_
  rintro _ T8 L8 X8 ⟨rfl, N8q, K8, H8, S8, Kf8, z8, B8, hq_8, hI8, Ab8, hR8⟩
  show own_Go _ _ _ _ _ _ _ T8 (mkF m 86 #[.val (.int p0), .val (.long q1), .second, .val (.long q2), .second, .val (.long q3), .second, .val (.long q4), .second, .val (.ref b1), .val (.ref b3)] [(.int (1 : Int32))])
  have N8 := Fr.app N7 N8q
  exact own_retN X8 hx hlk hret (by simp) (hb hby at_86) ⟨rfl, N8⟩ (by decide) (by decide)
set_option maxRecDepth 65536 in
set_option maxHeartbeats 40000000 in
theorem comes_1 {Post : Tables → Env → Array Value → State → Outcome → State → Prop} (hpost : ∀ tb e args s v u, (limb_1_1.after args s (.returned v) u = true ∧ limb_1_2.after args s (.returned v) u = true ∧ True) → FrameEnd s (.returned v) u (Jvm.fieldLocs frame_1_writes args s ++ Jvm.arrayLocs frame_1_arrays args s ++ Jvm.staticLocs frame_1_statics s) 24 128 → Post tb e args s (.returned v) u) :
    ArmFor flags0 classFile x code maxLocals ret World_1 tables_1 room_1 Calls_1 rest_1 Pre_1 Post := by
  intro l hfl _ _ p e ha hc hk s m args below hf hA hF happ hP
  obtain ⟨hcalls, hrest, hpre⟩ := hP
  obtain ⟨-, -, -, hnamed, -, -, -, hat⟩ := (Spec.applies_iff hf).mp happ
  obtain ⟨hg, hn⟩ := and_e (Cond.before_iff.mp (show (Jvm.Cond.and given_1 narrow_1).before args s = true from hpre))
  obtain ⟨h1, g0⟩ := and_e hg
  obtain ⟨w0, w1, w2, w3, w4, rfl⟩ : ∃ w0 w1 w2 w3 w4 : Value, args = #[w0, w1, w2, w3, w4] := by
    have hs : args.size = 5 := by simpa [Cond.value, given_1] using h1
    obtain ⟨L⟩ := args
    match L, hs with
    | [w0, w1, w2, w3, w4], _ => exact ⟨w0, w1, w2, w3, w4, rfl⟩
  have hw := fun d (hd : d ∈ tables_1) => atoms_spec (ws := Jvm.Cond.code x code maxLocals ret :: tables_1) hat d (List.mem_cons_of_mem _ hd)
  have hfit : Fit s := fun {y c} hc i hi => by
    obtain ⟨ha, rfl⟩ := Array.getElem?_eq_some_iff.mp hc
    have q := List.all_eq_true.mp ((Array.all_eq_true_iff_forall_mem.mp hF) _ (Array.getElem_mem ha)) i (List.mem_range.mpr hi)
    simpa [Array.getElem?_eq_getElem hi] using q
  obtain ⟨q0, g1⟩ := and_e g0
  obtain ⟨i0, e0⟩ := is_v q0
  obtain rfl : w0 = (.int i0) := Option.some.inj e0
  obtain ⟨q1, g2⟩ := and_e g1
  obtain ⟨i1, e1⟩ := isL_v q1
  obtain rfl : w1 = (.long i1) := Option.some.inj e1
  obtain ⟨q2, g3⟩ := and_e g2
  obtain ⟨i2, e2⟩ := isL_v q2
  obtain rfl : w2 = (.long i2) := Option.some.inj e2
  obtain ⟨q3, g4⟩ := and_e g3
  obtain ⟨i3, e3⟩ := isL_v q3
  obtain rfl : w3 = (.long i3) := Option.some.inj e3
  obtain ⟨i4, e4⟩ := isL_v g4
  obtain rfl : w4 = (.long i4) := Option.some.inj e4
  obtain ⟨n, o, h1, h2, h3, _, L, rfl, ⟨rfl, N⟩, hq⟩ := rm0 l s _ hw tables_1 i0 i1 i2 i3 i4  s.heap s.heap.size (Nat.le_refl _)  p e ha hc hk s m _ below hf ((Spec.applies_iff_loose hf).mp happ).1 ⟨rfl, State.Warmed39.refl s, rfl⟩ trivial
  refine ⟨n, _, h1, h2, h3, hpost _ _ _ _ _ _ ⟨Cond.after_iff.mpr rfl, Cond.after_iff.mpr (eq_i res_at (Term.int_eval (1)) rfl), trivial⟩ ⟨hq.1, hq.2.1, (hq.2.2.sift fun y hy => Or.inr (N y hy)).mono (by decide) (by decide)⟩⟩
theorem main_1_1 : Claimed_1_1 := comes_1 fun _ _ _ _ _ _ h hF => ⟨h.1, hF⟩
theorem main_1_2 : Claimed_1_2 := comes_1 fun _ _ _ _ _ _ h hF => ⟨h.2.1, hF⟩
end Jvm.Pilot.@@N@@
namespace Jvm.Pilot.@@N@@
open Jvm Jvm.ClassFile Sem Op Lib Jvm.Free Jvm.Stand Jvm.Pilot.@@N@@.Jvm.D
/-! MADE BY PROGRAM (witnessworld.py) out of the Statement's table words and the real class files: 14 classes; the members and pool entries that the words name. The judged class is class 1, her method 1. -/
namespace start1
open Jvm.ClassFile
def u (s : String) : CpInfo := .utf8 (stringToUtf16 s)
/-- a pool by its gaps: so many unusable entries, then the entry; so many at the end -/
def gap : Nat → List CpInfo → List CpInfo
  | 0, r => r
  | n + 1, r => .unusable :: gap n r
def poolList (es : List (Nat × CpInfo)) (last : Nat) : List CpInfo := es.foldr (fun e r => gap e.1 (e.2 :: r)) (gap last [])
def pool (es : List (Nat × CpInfo)) (last : Nat) : Array CpInfo := ⟨poolList es last⟩
def fileOf (pool : Array CpInfo) (this : Nat) (attrs : Array Attribute := #[]) (ms : Array MethodInfo := #[]) (fl : Nat := 33) (sup : Nat := 0) (ifs : Array Nat := #[]) (fds : Array FieldInfo := #[]) : ClassFile where
  minorVersion := 0
  majorVersion := 65
  constantPool := pool
  accessFlags := fl
  thisClass := this
  superClass := sup
  interfaces := ifs
  fields := fds
  methods := ms
  attributes := attrs
def plain (name : String) (sup : Option ClassId) : Class where
  name := name
  kind := .ordinary
  loader := none
  accessFlags := 33
  super := sup
  interfaces := #[]
  cf := none
  fields := #[]
  methods := #[]
  instanceTypes := #[]
  staticTypes := #[]
  resolved := #[]
  callSites := []
  init := .initialized
  statics := none
  mirror := none

def pool0 : Array CpInfo := pool [(5, u "<init>"), (0, u "()V"), (1, .class_ 10), (1, u "java/lang/Object")] 113

def k0c0 : Code := { maxStack := 0, maxLocals := 1, code := object_method_1_code, exceptionTable := #[], attributes := #[] }
def k0m0 : Method := { name := "<init>", desc := "()V", sig := { parameters := [], returnType := none }, accessFlags := 1, code := some k0c0 }
/-- java/lang/Object -/
def k0 : Class := { plain "java/lang/Object" none with
  accessFlags := 33
  interfaces := #[]
  cf := some (fileOf pool0 8 #[] #[{ accessFlags := 1, nameIndex := 5, descriptorIndex := 6, attributes := #[] }] 33 0 #[] #[])
  fields := #[]
  methods := #[k0m0]
  instanceTypes := #[]
  staticTypes := #[]
  resolved := Array.replicate 124 none
  statics := none }

def pool1 : Array CpInfo := pool [(2, .class_ 4), (1, u "java/lang/Object"), (0, u "<init>"), (0, u "()V"), (0, .class_ 8), (0, u "com/example/albatross/albatross/NodeQueue"), (0, .methodref 7 10), (0, .nameAndType 5 11), (0, u "(I)V"), (0, .methodref 7 13), (0, .nameAndType 14 15), (0, u "isEmpty"), (0, u "()Z"), (0, .methodref 17 18), (0, .class_ 19), (0, .nameAndType 20 21), (0, u "com/example/albatross/albatross/NodeQueueIsEmptyPinLaw"), (0, u "step"), (0, u "(Lcom/example/albatross/albatross/NodeQueue;[ZIJ)Z"), (0, .methodref 7 23), (0, .nameAndType 24 6), (0, u "clear"), (0, .methodref 7 26), (0, .nameAndType 27 28), (0, u "poll"), (0, u "()I"), (0, .methodref 7 30), (0, .nameAndType 31 32), (0, u "offer"), (0, u "(IJ)V"), (2, u "law"), (0, u "(IJJJJ)Z")] 5

def k1m0 : Method := { name := "<init>", desc := "()V", sig := { parameters := [], returnType := none }, accessFlags := 1, code := none }
def k1c1 : Code := { maxStack := 5, maxLocals := 11, code := code, exceptionTable := #[], attributes := #[] }
def k1m1 : Method := { name := "law", desc := "(IJJJJ)Z", sig := { parameters := [.int, .long, .long, .long, .long], returnType := some .boolean }, accessFlags := 9, code := some k1c1 }
def k1c2 : Code := { maxStack := 4, maxLocals := 9, code := method_3_code, exceptionTable := #[], attributes := #[] }
def k1m2 : Method := { name := "step", desc := "(Lcom/example/albatross/albatross/NodeQueue;[ZIJ)Z", sig := { parameters := [(.object "com/example/albatross/albatross/NodeQueue"), (.array .boolean), .int, .long], returnType := some .boolean }, accessFlags := 10, code := some k1c2 }
/-- com/example/albatross/albatross/NodeQueueIsEmptyPinLaw -/
def k1 : Class := { plain "com/example/albatross/albatross/NodeQueueIsEmptyPinLaw" (some 0) with
  accessFlags := 49
  interfaces := #[]
  cf := some (fileOf pool1 17 #[] #[{ accessFlags := 1, nameIndex := 5, descriptorIndex := 6, attributes := #[] }, { accessFlags := 9, nameIndex := 35, descriptorIndex := 36, attributes := #[] }, { accessFlags := 10, nameIndex := 20, descriptorIndex := 21, attributes := #[] }] 49 2 #[] #[])
  fields := #[]
  methods := #[k1m0, k1m1, k1m2]
  instanceTypes := #[]
  staticTypes := #[]
  resolved := Array.replicate 42 none
  statics := none }

def pool2 : Array CpInfo := pool [(1, .methodref 2 3), (0, .class_ 4), (0, .nameAndType 5 6), (0, u "java/lang/Object"), (0, u "<init>"), (0, u "()V"), (0, .fieldref 8 9), (0, .class_ 10), (0, .nameAndType 11 12), (0, u "com/example/albatross/albatross/NodeQueue"), (0, u "heap"), (0, u "[I"), (0, .fieldref 8 14), (0, .nameAndType 15 12), (0, u "slot"), (0, .fieldref 8 17), (0, .nameAndType 18 19), (0, u "key"), (0, u "[J"), (0, .methodref 21 22), (0, .class_ 23), (0, .nameAndType 24 25), (0, u "java/util/Arrays"), (0, u "fill"), (0, u "([II)V"), (0, .fieldref 8 27), (0, .nameAndType 28 29), (0, u "size"), (0, u "I"), (0, .methodref 8 31), (0, .nameAndType 32 33), (0, u "siftUp"), (0, u "(I)V"), (0, .methodref 8 35), (0, .nameAndType 36 37), (0, u "place"), (0, u "(II)V"), (0, .methodref 8 39), (0, .nameAndType 40 33), (0, u "siftDown"), (2, u "isEmpty"), (0, u "()Z"), (1, u "clear"), (0, u "offer"), (0, u "(IJ)V"), (0, u "poll"), (0, u "()I")] 2

def k2c0 : Code := { maxStack := 2, maxLocals := 2, code := prog_51_method_1_code, exceptionTable := #[], attributes := #[] }
def k2m0 : Method := { name := "<init>", desc := "(I)V", sig := { parameters := [.int], returnType := none }, accessFlags := 0, code := some k2c0 }
def k2c1 : Code := { maxStack := 1, maxLocals := 1, code := prog_51_method_2_code, exceptionTable := #[], attributes := #[] }
def k2m1 : Method := { name := "isEmpty", desc := "()Z", sig := { parameters := [], returnType := some .boolean }, accessFlags := 0, code := some k2c1 }
def k2c2 : Code := { maxStack := 3, maxLocals := 2, code := prog_51_method_3_code, exceptionTable := #[], attributes := #[] }
def k2m2 : Method := { name := "clear", desc := "()V", sig := { parameters := [], returnType := none }, accessFlags := 0, code := some k2c2 }
def k2c3 : Code := { maxStack := 4, maxLocals := 4, code := prog_51_method_4_code, exceptionTable := #[], attributes := #[] }
def k2m3 : Method := { name := "offer", desc := "(IJ)V", sig := { parameters := [.int, .long], returnType := none }, accessFlags := 0, code := some k2c3 }
def k2c4 : Code := { maxStack := 3, maxLocals := 2, code := prog_51_method_5_code, exceptionTable := #[], attributes := #[] }
def k2m4 : Method := { name := "poll", desc := "()I", sig := { parameters := [], returnType := some .int }, accessFlags := 0, code := some k2c4 }
def k2c5 : Code := { maxStack := 4, maxLocals := 3, code := prog_51_method_6_code, exceptionTable := #[], attributes := #[] }
def k2m5 : Method := { name := "siftUp", desc := "(I)V", sig := { parameters := [.int], returnType := none }, accessFlags := 2, code := some k2c5 }
def k2c6 : Code := { maxStack := 5, maxLocals := 4, code := prog_51_method_7_code, exceptionTable := #[], attributes := #[] }
def k2m6 : Method := { name := "siftDown", desc := "(I)V", sig := { parameters := [.int], returnType := none }, accessFlags := 2, code := some k2c6 }
def k2c7 : Code := { maxStack := 3, maxLocals := 3, code := prog_51_method_8_code, exceptionTable := #[], attributes := #[] }
def k2m7 : Method := { name := "place", desc := "(II)V", sig := { parameters := [.int, .int], returnType := none }, accessFlags := 2, code := some k2c7 }
/-- com/example/albatross/albatross/NodeQueue -/
def k2 : Class := { plain "com/example/albatross/albatross/NodeQueue" (some 0) with
  accessFlags := 48
  interfaces := #[]
  cf := some (fileOf pool2 8 #[] #[{ accessFlags := 0, nameIndex := 5, descriptorIndex := 33, attributes := #[] }, { accessFlags := 0, nameIndex := 43, descriptorIndex := 44, attributes := #[] }, { accessFlags := 0, nameIndex := 46, descriptorIndex := 6, attributes := #[] }, { accessFlags := 0, nameIndex := 47, descriptorIndex := 48, attributes := #[] }, { accessFlags := 0, nameIndex := 49, descriptorIndex := 50, attributes := #[] }, { accessFlags := 2, nameIndex := 32, descriptorIndex := 33, attributes := #[] }, { accessFlags := 2, nameIndex := 40, descriptorIndex := 33, attributes := #[] }, { accessFlags := 2, nameIndex := 36, descriptorIndex := 37, attributes := #[] }] 48 2 #[] #[{ accessFlags := 18, nameIndex := 11, descriptorIndex := 12, attributes := #[] }, { accessFlags := 18, nameIndex := 15, descriptorIndex := 12, attributes := #[] }, { accessFlags := 18, nameIndex := 18, descriptorIndex := 19, attributes := #[] }, { accessFlags := 2, nameIndex := 28, descriptorIndex := 29, attributes := #[] }])
  fields := #[{ name := "heap", type := (.array .int), accessFlags := 18, slot := 0, constantValue := 0 }, { name := "slot", type := (.array .int), accessFlags := 18, slot := 1, constantValue := 0 }, { name := "key", type := (.array .long), accessFlags := 18, slot := 2, constantValue := 0 }, { name := "size", type := .int, accessFlags := 2, slot := 3, constantValue := 0 }]
  methods := #[k2m0, k2m1, k2m2, k2m3, k2m4, k2m5, k2m6, k2m7]
  instanceTypes := #[(.array .int), (.array .int), (.array .long), .int]
  staticTypes := #[]
  resolved := Array.replicate 53 none
  statics := none }

def pool3 : Array CpInfo := pool [(2, .class_ 4), (1, u "java/lang/Object"), (0, u "<init>"), (0, u "()V"), (7, .class_ 16), (1, u "java/util/Arrays"), (57, .class_ 76), (1, u "java/util/Arrays$NaturalOrder"), (36, .class_ 115), (1, u "java/util/Arrays$LegacyMergeSort"), (1, u "Z"), (257, .class_ 376), (0, u "java/util/Arrays$ArrayList"), (68, u "$assertionsDisabled"), (269, u "MIN_ARRAY_SORT_GRAN"), (0, u "I"), (2, u "INSERTIONSORT_THRESHOLD"), (120, u "fill"), (4, u "([II)V"), (129, .class_ 976), (0, u "java/util/Arrays$ArrayItr")] 52

def k3m0 : Method := { name := "<init>", desc := "()V", sig := { parameters := [], returnType := none }, accessFlags := 2, code := none }
def k3c1 : Code := { maxStack := 3, maxLocals := 4, code := jdk_65_method_103_code, exceptionTable := #[], attributes := #[] }
def k3m1 : Method := { name := "fill", desc := "([II)V", sig := { parameters := [(.array .int), .int], returnType := none }, accessFlags := 9, code := some k3c1 }
/-- java/util/Arrays -/
def k3 : Class := { plain "java/util/Arrays" (some 0) with
  accessFlags := 49
  interfaces := #[]
  cf := some (fileOf pool3 14 #[.nestMembers #[975, 375, 113, 74]] #[{ accessFlags := 2, nameIndex := 5, descriptorIndex := 6, attributes := #[] }, { accessFlags := 9, nameIndex := 840, descriptorIndex := 845, attributes := #[] }] 49 2 #[] #[{ accessFlags := 26, nameIndex := 715, descriptorIndex := 716, attributes := #[] }, { accessFlags := 26, nameIndex := 719, descriptorIndex := 716, attributes := #[] }, { accessFlags := 4120, nameIndex := 445, descriptorIndex := 117, attributes := #[] }])
  fields := #[{ name := "MIN_ARRAY_SORT_GRAN", type := .int, accessFlags := 26, slot := 0, constantValue := 0 }, { name := "INSERTIONSORT_THRESHOLD", type := .int, accessFlags := 26, slot := 1, constantValue := 0 }, { name := "$assertionsDisabled", type := .boolean, accessFlags := 4120, slot := 2, constantValue := 0 }]
  methods := #[k3m0, k3m1]
  instanceTypes := #[]
  staticTypes := #[.int, .int, .boolean]
  resolved := Array.replicate 1029 none
  statics := none }

def pool4 : Array CpInfo := pool [(1, u "java/lang/Cloneable"), (0, .class_ 1), (0, u "java/lang/Object"), (0, .class_ 3)] 3

/-- java/lang/Cloneable -/
def k4 : Class := { plain "java/lang/Cloneable" (some 0) with
  accessFlags := 1537
  interfaces := #[]
  cf := some (fileOf pool4 2 #[] #[] 1537 4 #[] #[])
  fields := #[]
  methods := #[]
  instanceTypes := #[]
  staticTypes := #[]
  resolved := Array.replicate 8 none
  statics := none }

def pool5 : Array CpInfo := pool [(1, u "java/io/Serializable"), (0, .class_ 1), (0, u "java/lang/Object"), (0, .class_ 3)] 3

/-- java/io/Serializable -/
def k5 : Class := { plain "java/io/Serializable" (some 0) with
  accessFlags := 1537
  interfaces := #[]
  cf := some (fileOf pool5 2 #[] #[] 1537 4 #[] #[])
  fields := #[]
  methods := #[]
  instanceTypes := #[]
  staticTypes := #[]
  resolved := Array.replicate 8 none
  statics := none }

/-- the primitive boolean -/
def k6 : Class := { plain "boolean" none with kind := .primitive 'Z', accessFlags := 0x411 }
/-- [Z -/
def k7 : Class := { plain "[Z" (some 0) with kind := .array 6 .boolean, interfaces := #[4, 5], accessFlags := 1041 }

/-- the primitive byte -/
def k8 : Class := { plain "byte" none with kind := .primitive 'B', accessFlags := 0x411 }
/-- [B -/
def k9 : Class := { plain "[B" (some 0) with kind := .array 8 .byte, interfaces := #[4, 5], accessFlags := 1041 }

/-- the primitive int -/
def k10 : Class := { plain "int" none with kind := .primitive 'I', accessFlags := 0x411 }
/-- [I -/
def k11 : Class := { plain "[I" (some 0) with kind := .array 10 .int, interfaces := #[4, 5], accessFlags := 1041 }

/-- the primitive long -/
def k12 : Class := { plain "long" none with kind := .primitive 'J', accessFlags := 0x411 }
/-- [J -/
def k13 : Class := { plain "[J" (some 0) with kind := .array 12 .long, interfaces := #[4, 5], accessFlags := 1041 }

def heap : Heap := #[]
def classes : Array Class := #[k0, k1, k2, k3, k4, k5, k6, k7, k8, k9, k10, k11, k12, k13]
def interned : List (Array UInt16 × Addr) := []
def slotsUsed : Nat := 0
def theMethod : MethodId := ⟨1, 1⟩
def args0 : Array Value := #[.int 3, .long 5, .long 6, .long 7, .long 8]
def aboutOver (below : List Frame) : State where
  vm := { classes := classes, interned := interned.toArray }
  heap := heap
  slotsUsed := slotsUsed
  threads := #[{ frames := .invoking theMethod args0 :: below }]
def below0 : List Frame := [.native { method := ⟨0, 0⟩, args := #[] }]
def about1 : State := aboutOver below0
def p0 : Program := .bare "" "" ""
def e0 : Env := launch0.env 0 0 0
theorem w_frames : about1.frames = Frame.invoking theMethod args0 :: below0 := rfl
set_option maxRecDepth 65536 in
theorem w_args : argsFit about1.vm theMethod args0 = true := by decide +kernel
set_option maxRecDepth 65536 in
theorem w_heap : heapFits about1 = true := by decide +kernel
set_option maxRecDepth 65536 in
theorem w_runnable : about1.curStatus? = some .runnable := by decide +kernel
set_option maxRecDepth 65536 in
theorem w_alone : about1.alone = true := by decide +kernel
set_option maxRecDepth 65536 in
theorem w_named : about1.methodNamed? x = some theMethod := by decide +kernel
set_option maxRecDepth 65536 in
theorem w_hears : about1.hears theMethod below0 = true := by decide +kernel
set_option maxRecDepth 65536 in
theorem w_ripe : about1.ripe theMethod args0 below0 = true := by decide +kernel
theorem w_running : about1.status = .running := rfl
set_option maxRecDepth 65536 in
theorem w_room : about1.hasRoom e0.platform room_1 = true :=
  launch0.hasRoom_least _ room_1 (by decide +kernel) (by decide +kernel) (by decide +kernel) (by decide +kernel) (by decide +kernel) (by decide +kernel)
theorem allAtoms_all (ts : List Jvm.Cond) (a : Array Jvm.Value) (st : Jvm.State) : (allAtoms ts).before a st = ts.all (fun c => c.before a st) := by
  induction ts with
  | nil => rfl
  | cons c t ih =>
    show (Jvm.Cond.and c (allAtoms t)).before a st = _
    rw [Jvm.Cond.before_and, ih, List.all_cons]
def words1 : List Jvm.Cond := Jvm.Cond.code x code maxLocals ret :: tables_1
/-- a 'code' word, met by the world's own term for the bytes: nothing is compared byte by byte -/
theorem code_word {y : MethodName} {bytes : ByteArray} {mx : Nat} {rt : Option FieldType} {a : Array Value} {s : State} {m : MethodId} {meth : Method} {c : Code} (h1 : s.methodNamed? y = some m) (h2 : s.vm.method? m = some meth) (h3 : meth.code = some c) (h4 : c.code = bytes)
    (h5 : (c.maxLocals == mx && c.exceptionTable.isEmpty && decide (c.maxStack ≤ mostOperands) && decide (meth.sig.returnType = rt) && !meth.locks && decide (parseMethodDescriptor y.desc = some meth.sig)) = true) : (Jvm.Cond.code y bytes mx rt).before a s = true := by
  simp only [Bool.and_eq_true, beq_iff_eq, Bool.not_eq_true', decide_eq_true_eq] at h5
  obtain ⟨⟨⟨⟨⟨g1, g2⟩, g3⟩, g4⟩, g5⟩, g6⟩ := h5
  simp [Cond.before, Cond.holds, Cond.value, h1, h2, h3, h4, g1, g2, g3, g4, g5, g6]
def isCode : Jvm.Cond → Bool
  | .code _ _ _ _ => true
  | _ => false
theorem all_split {L : List Jvm.Cond} {P : Jvm.Cond → Bool} (h1 : L.all (fun c => isCode c || P c) = true) (h2 : ∀ c ∈ L.filter isCode, P c = true) : L.all P = true := by
  refine List.all_eq_true.mpr fun c hc => ?_
  have h := List.all_eq_true.mp h1 c hc
  rcases Bool.eq_false_or_eq_true (isCode c) with hi | hi
  · exact h2 c (List.mem_filter.mpr ⟨hc, hi⟩)
  · simpa [hi] using h
set_option maxRecDepth 65536 in
theorem w_c0 : (Jvm.Cond.code x code maxLocals ret).before args0 about1 = true := code_word (m := ⟨1, 1⟩) (meth := k1m1) (c := k1c1) (by decide +kernel) rfl rfl rfl (by decide +kernel)
set_option maxRecDepth 65536 in
theorem w_c1 : (Jvm.Cond.code ({ cls := "com/example/albatross/albatross/NodeQueue", name := "<init>", desc := "(I)V" } : Jvm.MethodName) prog_51_method_1_code (2 : Nat) (Option.none : Option Jvm.ClassFile.FieldType)).before args0 about1 = true := code_word (m := ⟨2, 0⟩) (meth := k2m0) (c := k2c0) (by decide +kernel) rfl rfl rfl (by decide +kernel)
set_option maxRecDepth 65536 in
theorem w_c2 : (Jvm.Cond.code ({ cls := "java/lang/Object", name := "<init>", desc := "()V" } : Jvm.MethodName) object_method_1_code (1 : Nat) (Option.none : Option Jvm.ClassFile.FieldType)).before args0 about1 = true := code_word (m := ⟨0, 0⟩) (meth := k0m0) (c := k0c0) (by decide +kernel) rfl rfl rfl (by decide +kernel)
set_option maxRecDepth 65536 in
theorem w_c3 : (Jvm.Cond.code ({ cls := "java/util/Arrays", name := "fill", desc := "([II)V" } : Jvm.MethodName) jdk_65_method_103_code (4 : Nat) (Option.none : Option Jvm.ClassFile.FieldType)).before args0 about1 = true := code_word (m := ⟨3, 1⟩) (meth := k3m1) (c := k3c1) (by decide +kernel) rfl rfl rfl (by decide +kernel)
set_option maxRecDepth 65536 in
theorem w_c4 : (Jvm.Cond.code ({ cls := "com/example/albatross/albatross/NodeQueue", name := "isEmpty", desc := "()Z" } : Jvm.MethodName) prog_51_method_2_code (1 : Nat) (Option.some Jvm.ClassFile.FieldType.boolean)).before args0 about1 = true := code_word (m := ⟨2, 1⟩) (meth := k2m1) (c := k2c1) (by decide +kernel) rfl rfl rfl (by decide +kernel)
set_option maxRecDepth 65536 in
theorem w_c5 : (Jvm.Cond.code ({ cls := "com/example/albatross/albatross/NodeQueueIsEmptyPinLaw", name := "step", desc := "(Lcom/example/albatross/albatross/NodeQueue;[ZIJ)Z" } : Jvm.MethodName) method_3_code (9 : Nat) (Option.some Jvm.ClassFile.FieldType.boolean)).before args0 about1 = true := code_word (m := ⟨1, 2⟩) (meth := k1m2) (c := k1c2) (by decide +kernel) rfl rfl rfl (by decide +kernel)
set_option maxRecDepth 65536 in
theorem w_c6 : (Jvm.Cond.code ({ cls := "com/example/albatross/albatross/NodeQueue", name := "offer", desc := "(IJ)V" } : Jvm.MethodName) prog_51_method_4_code (4 : Nat) (Option.none : Option Jvm.ClassFile.FieldType)).before args0 about1 = true := code_word (m := ⟨2, 3⟩) (meth := k2m3) (c := k2c3) (by decide +kernel) rfl rfl rfl (by decide +kernel)
set_option maxRecDepth 65536 in
theorem w_c7 : (Jvm.Cond.code ({ cls := "com/example/albatross/albatross/NodeQueue", name := "siftUp", desc := "(I)V" } : Jvm.MethodName) prog_51_method_6_code (3 : Nat) (Option.none : Option Jvm.ClassFile.FieldType)).before args0 about1 = true := code_word (m := ⟨2, 5⟩) (meth := k2m5) (c := k2c5) (by decide +kernel) rfl rfl rfl (by decide +kernel)
set_option maxRecDepth 65536 in
theorem w_c8 : (Jvm.Cond.code ({ cls := "com/example/albatross/albatross/NodeQueue", name := "place", desc := "(II)V" } : Jvm.MethodName) prog_51_method_8_code (3 : Nat) (Option.none : Option Jvm.ClassFile.FieldType)).before args0 about1 = true := code_word (m := ⟨2, 7⟩) (meth := k2m7) (c := k2c7) (by decide +kernel) rfl rfl rfl (by decide +kernel)
set_option maxRecDepth 65536 in
theorem w_c9 : (Jvm.Cond.code ({ cls := "com/example/albatross/albatross/NodeQueue", name := "clear", desc := "()V" } : Jvm.MethodName) prog_51_method_3_code (2 : Nat) (Option.none : Option Jvm.ClassFile.FieldType)).before args0 about1 = true := code_word (m := ⟨2, 2⟩) (meth := k2m2) (c := k2c2) (by decide +kernel) rfl rfl rfl (by decide +kernel)
set_option maxRecDepth 65536 in
theorem w_c10 : (Jvm.Cond.code ({ cls := "com/example/albatross/albatross/NodeQueue", name := "poll", desc := "()I" } : Jvm.MethodName) prog_51_method_5_code (2 : Nat) (Option.some Jvm.ClassFile.FieldType.int)).before args0 about1 = true := code_word (m := ⟨2, 4⟩) (meth := k2m4) (c := k2c4) (by decide +kernel) rfl rfl rfl (by decide +kernel)
set_option maxRecDepth 65536 in
theorem w_c11 : (Jvm.Cond.code ({ cls := "com/example/albatross/albatross/NodeQueue", name := "siftDown", desc := "(I)V" } : Jvm.MethodName) prog_51_method_7_code (4 : Nat) (Option.none : Option Jvm.ClassFile.FieldType)).before args0 about1 = true := code_word (m := ⟨2, 6⟩) (meth := k2m6) (c := k2c6) (by decide +kernel) rfl rfl rfl (by decide +kernel)
def codes1 : List Jvm.Cond := [Jvm.Cond.code x code maxLocals ret, Jvm.Cond.code ({ cls := "com/example/albatross/albatross/NodeQueue", name := "<init>", desc := "(I)V" } : Jvm.MethodName) prog_51_method_1_code (2 : Nat) (Option.none : Option Jvm.ClassFile.FieldType), Jvm.Cond.code ({ cls := "java/lang/Object", name := "<init>", desc := "()V" } : Jvm.MethodName) object_method_1_code (1 : Nat) (Option.none : Option Jvm.ClassFile.FieldType), Jvm.Cond.code ({ cls := "java/util/Arrays", name := "fill", desc := "([II)V" } : Jvm.MethodName) jdk_65_method_103_code (4 : Nat) (Option.none : Option Jvm.ClassFile.FieldType), Jvm.Cond.code ({ cls := "com/example/albatross/albatross/NodeQueue", name := "isEmpty", desc := "()Z" } : Jvm.MethodName) prog_51_method_2_code (1 : Nat) (Option.some Jvm.ClassFile.FieldType.boolean), Jvm.Cond.code ({ cls := "com/example/albatross/albatross/NodeQueueIsEmptyPinLaw", name := "step", desc := "(Lcom/example/albatross/albatross/NodeQueue;[ZIJ)Z" } : Jvm.MethodName) method_3_code (9 : Nat) (Option.some Jvm.ClassFile.FieldType.boolean), Jvm.Cond.code ({ cls := "com/example/albatross/albatross/NodeQueue", name := "offer", desc := "(IJ)V" } : Jvm.MethodName) prog_51_method_4_code (4 : Nat) (Option.none : Option Jvm.ClassFile.FieldType), Jvm.Cond.code ({ cls := "com/example/albatross/albatross/NodeQueue", name := "siftUp", desc := "(I)V" } : Jvm.MethodName) prog_51_method_6_code (3 : Nat) (Option.none : Option Jvm.ClassFile.FieldType), Jvm.Cond.code ({ cls := "com/example/albatross/albatross/NodeQueue", name := "place", desc := "(II)V" } : Jvm.MethodName) prog_51_method_8_code (3 : Nat) (Option.none : Option Jvm.ClassFile.FieldType), Jvm.Cond.code ({ cls := "com/example/albatross/albatross/NodeQueue", name := "clear", desc := "()V" } : Jvm.MethodName) prog_51_method_3_code (2 : Nat) (Option.none : Option Jvm.ClassFile.FieldType), Jvm.Cond.code ({ cls := "com/example/albatross/albatross/NodeQueue", name := "poll", desc := "()I" } : Jvm.MethodName) prog_51_method_5_code (2 : Nat) (Option.some Jvm.ClassFile.FieldType.int), Jvm.Cond.code ({ cls := "com/example/albatross/albatross/NodeQueue", name := "siftDown", desc := "(I)V" } : Jvm.MethodName) prog_51_method_7_code (4 : Nat) (Option.none : Option Jvm.ClassFile.FieldType)]
set_option maxRecDepth 65536 in
theorem codes_eq : words1.filter isCode = codes1 := rfl
theorem w_codes : ∀ c ∈ words1.filter isCode, c.before args0 about1 = true := by
  rw [codes_eq]
  intro c hc
  simp only [codes1, List.mem_cons, List.not_mem_nil, or_false] at hc
  rcases hc with rfl | rfl | rfl | rfl | rfl | rfl | rfl | rfl | rfl | rfl | rfl | rfl
  · exact w_c0
  · exact w_c1
  · exact w_c2
  · exact w_c3
  · exact w_c4
  · exact w_c5
  · exact w_c6
  · exact w_c7
  · exact w_c8
  · exact w_c9
  · exact w_c10
  · exact w_c11
set_option maxRecDepth 65536 in
theorem w_t1 : (words1.take 24).all (fun c => isCode c || c.before args0 about1) = true := by decide +kernel
set_option maxRecDepth 65536 in
theorem w_t2 : ((words1.drop 24).take 24).all (fun c => isCode c || c.before args0 about1) = true := by decide +kernel
set_option maxRecDepth 65536 in
theorem w_t3 : ((words1.drop 24).drop 24).all (fun c => isCode c || c.before args0 about1) = true := by decide +kernel
theorem w_tables : (allAtoms (Jvm.Cond.code x code maxLocals ret :: tables_1)).before args0 about1 = true := by
  rw [allAtoms_all]
  show words1.all (fun c => c.before args0 about1) = true
  refine all_split ?_ w_codes
  rw [← List.take_append_drop 24 words1, List.all_append, w_t1, ← List.take_append_drop 24 (words1.drop 24), List.all_append, w_t2, w_t3]
  rfl
set_option maxRecDepth 65536 in
theorem w_case : (Jvm.Cond.and given_1 narrow_1).before args0 about1 = true := by decide +kernel
theorem w_applies : (headSpec (Jvm.Cond.code x code maxLocals ret :: tables_1) room_1).applies x e0.platform about1 = true :=
  (Spec.applies_iff w_frames).mpr ⟨w_running, w_runnable, w_alone, w_named, w_hears, w_ripe, w_room, w_tables⟩
theorem atStart : AtStart classFile x code maxLocals ret World_1 tables_1 room_1 Calls_1 rest_1 Pre_1 launch0 p0 e0 about1 theMethod args0 below0 :=
  ⟨lists_1, trivial, launch0.admits_env _ _ _, launch0.least_env, fairChoices_fair.cas, fairChoices_fair.clock, w_frames, w_args, w_heap, w_applies, trivial, trivial, w_case⟩
end start1
theorem witness_1 : WitnessClaimed_1 := ⟨start1.p0, start1.e0, start1.about1, start1.theMethod, start1.args0, start1.below0, start1.atStart⟩
end Jvm.Pilot.@@N@@
