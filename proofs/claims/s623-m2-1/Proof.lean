import JvmDerived
import JvmDerived.Pilot.@@N@@Statement
import JvmDerived.Pilot.@@N@@Code
set_option linter.unusedVariables false
set_option linter.unusedSimpArgs false
namespace Jvm.RoadKit
open Sem ClassFile Op Lib Jvm.Stand Jvm.Free Jvm.LawKit
section Own
variable {p : Program} {l : Launch} {e : Env} {R : Room} {s : State} {m : MethodId} {args : Array Value} {below : List Frame} {meth : Method} {c : Code} {T T' : State} {locs : List Loc} {cells slots : Nat} {Z : State} {a0 : Array Value} {h : Heap} {Q : Option Value → Heap → List Loc → Prop} {kc ks : Nat}
/-- from here (state T, frame g) the body runs to its return, with Q of what it returns, the heap and the places written -/
def own_Go (p : Program) (e : Env) (s : State) (below : List Frame) (Q : Option Value → Heap → List Loc → Prop) (kc ks : Nat) (T : State) (g : JFrame) : Prop :=
  ∃ s₂ o, Steps p.tables e below (T.setTop g) s₂ ∧ s₂.status = .running ∧ Ended s₂ below o ∧ ∃ v L, o = .returned v ∧ Q v s₂.heap L ∧ FrameEnd s o s₂ L kc ks
theorem own_st {g g' : JFrame} (st : ∀ target, Steps p.tables e below (T'.setTop g') target → Steps p.tables e below (T.setTop g) target) (k : own_Go p e s below Q kc ks T' g') : own_Go p e s below Q kc ks T g := by
  obtain ⟨s₂, o, h1, r⟩ := k; exact ⟨s₂, o, st _ h1, r⟩
theorem own_sq {g g' : JFrame} {t : State} (st : Steps p.tables e below (T'.setTop g') t → Steps p.tables e below (T.setTop g) t) (k : Steps p.tables e below (T'.setTop g') t) : Steps p.tables e below (T.setTop g) t := st k
theorem own_cast {g g' : JFrame} (q : g = g') (k : own_Go p e s below Q kc ks T g') : own_Go p e s below Q kc ks T g := q ▸ k
theorem own_retI (X : Stand p l e R s m args below meth c T locs cells slots) (hx : p.tables.exec = Jvm.exec) (hlk : meth.locks = false) (hret : meth.sig.returnType = some .int) {pc : Nat} {Ls : Array Slot} {z : Int32} {rest : List Value} (hd : decode c.code pc = .ok (.ireturn, 1)) (hq : Q (some (.int z)) T.heap locs) (hc : cells ≤ kc) (hs : slots ≤ ks) : own_Go p e s below Q kc ks T (mkF m pc Ls (.int z :: rest)) := by
  obtain ⟨fs, hr, hrun, hended, hW, hsame⟩ := X.leave (v := some (.int z)) (fun h => by rw [hret] at h; cases h) hlk
  exact ⟨_, _, retOut X hx hret (by rfl) (Or.inl ⟨rfl, Or.inl rfl, z, rfl⟩) hd hr, hrun, hended, _, _, rfl, hq, ⟨_, rfl⟩, hW, hsame.mono hc hs⟩
theorem own_retN (X : Stand p l e R s m args below meth c T locs cells slots) (hx : p.tables.exec = Jvm.exec) (hlk : meth.locks = false) {t : FieldType} (hret : meth.sig.returnType = some t) (ht : t = .boolean ∨ t = .byte ∨ t = .char ∨ t = .short) {pc : Nat} {Ls : Array Slot} {z : Int32} {rest : List Value} (hd : decode c.code pc = .ok (.ireturn, 1)) (hq : Q (some (.int (nar t z))) T.heap locs) (hc : cells ≤ kc) (hs : slots ≤ ks) : own_Go p e s below Q kc ks T (mkF m pc Ls (.int z :: rest)) := by
  obtain ⟨fs, hr, hrun, hended, hW, hsame⟩ := X.leave (v := some (.int (nar t z))) (fun h => by rw [hret] at h; cases h) hlk
  exact ⟨_, _, retN X hx hret ht hd hr, hrun, hended, _, _, rfl, hq, ⟨_, rfl⟩, hW, hsame.mono hc hs⟩
theorem own_retJ (X : Stand p l e R s m args below meth c T locs cells slots) (hx : p.tables.exec = Jvm.exec) (hlk : meth.locks = false) (hret : meth.sig.returnType = some .long) {pc : Nat} {Ls : Array Slot} {z : Int64} {rest : List Value} (hd : decode c.code pc = .ok (.lreturn, 1)) (hq : Q (some (.long z)) T.heap locs) (hc : cells ≤ kc) (hs : slots ≤ ks) : own_Go p e s below Q kc ks T (mkF m pc Ls (.long z :: rest)) := by
  obtain ⟨fs, hr, hrun, hended, hW, hsame⟩ := X.leave (v := some (.long z)) (fun h => by rw [hret] at h; cases h) hlk
  exact ⟨_, _, retOut X hx hret (by rfl) (Or.inr (Or.inl ⟨rfl, rfl, z, rfl⟩)) hd hr, hrun, hended, _, _, rfl, hq, ⟨_, rfl⟩, hW, hsame.mono hc hs⟩
theorem own_retA (X : Stand p l e R s m args below meth c T locs cells slots) (hx : p.tables.exec = Jvm.exec) (hlk : meth.locks = false) {t : FieldType} (hret : meth.sig.returnType = some t) (ht : t.isReference = true) {pc : Nat} {Ls : Array Slot} {v : Value} {rest : List Value} (hv : v.isRef = true) (hd : decode c.code pc = .ok (.areturn, 1)) (hq : Q (some v) T.heap locs) (hc : cells ≤ kc) (hs : slots ≤ ks) : own_Go p e s below Q kc ks T (mkF m pc Ls (v :: rest)) := by
  obtain ⟨fs, hr, hrun, hended, hW, hsame⟩ := X.leave (v := some v) (fun h => by rw [hret] at h; cases h) hlk
  have hn : narrow t v = v := by cases v <;> first | (cases hv; done) | (cases t <;> first | (cases ht; done) | rfl)
  exact ⟨_, _, retOut X hx hret hn (Or.inr (Or.inr (Or.inr (Or.inr ⟨rfl, ht, hv⟩)))) hd hr, hrun, hended, _, _, rfl, hq, ⟨_, rfl⟩, hW, hsame.mono hc hs⟩
theorem own_retV (X : Stand p l e R s m args below meth c T locs cells slots) (hx : p.tables.exec = Jvm.exec) (hlk : meth.locks = false) (hret : meth.sig.returnType = none) {pc : Nat} {Ls : Array Slot} (hd : decode c.code pc = .ok (.return_, 1)) (hq : Q none T.heap locs) (hc : cells ≤ kc) (hs : slots ≤ ks) : own_Go p e s below Q kc ks T (mkF m pc Ls []) := by
  obtain ⟨fs, hr, hrun, hended, hW, hsame⟩ := X.leave (v := none) (fun _ => rfl) hlk
  exact ⟨_, _, X.returnOut hx hret hd hr, hrun, hended, _, _, rfl, hq, ⟨_, rfl⟩, hW, hsame.mono hc hs⟩
/-- a body's contract: entered with these arguments at the heap h0 it returns, with Q -/
def own_Met (l : Launch) (Z : State) (ws : List Cond) (y : MethodName) (bytes : ByteArray) (maxL : Nat) (ret : Option FieldType) (rm : Room) (kc ks : Nat) (as' : Array Value) (h0 : Heap) (Q : Option Value → Heap → List Loc → Prop) : Prop :=
  MetFree l y (head1 (Cond.code y bytes maxL ret :: ws) rm) (fun a U => a = as' ∧ Z.Warmed39 U.vm ∧ U.heap = h0) (fun _ _ _ _ _ => True) (fun _ U o U' => ∃ v L, o = .returned v ∧ Q v U'.heap L ∧ FrameEnd U o U' L kc ks)
theorem own_body {ws : List Cond} {y : MethodName} {bytes : ByteArray} {maxL : Nat} {ret : Option FieldType} {rm : Room} {as' : Array Value} {h0 : Heap} (pn : plainFor y = true)
    (body : ∀ (p : Program) (e : Env) (s : State) (m : MethodId) (below : List Frame) (meth : Method) (c : Code) (s₁ : State), p.tables.exec = Jvm.exec → c.code = bytes → c.maxLocals = maxL → s.vm.findClass y.cls = some m.cls → meth.name = y.name → meth.locks = false → meth.sig.returnType = ret → Z.Warmed39 s.vm → s.heap = h0 →
      Stand p l e rm s m as' below meth c s₁ [] 0 0 → s₁.heap = h0 → own_Go p e s below Q kc ks s₁ (entryFrame m as' maxL)) : own_Met l Z ws y bytes maxL ret rm kc ks as' h0 Q := by
  refine MetFree.of_bodySF pn hisR ?_
  intro p e s m args below meth c s₁ Bd hml0 hP hK
  obtain ⟨rfl, hZ, hh⟩ := hP
  exact body p e s m below meth c s₁ Bd.exec Bd.bytes hml0 (findClass_of_methodNamed Bd.named) (name_of_methodNamed Bd.named Bd.method).1 Bd.notSynchronized Bd.returns hZ hh (Stand.of_body Bd) (by rw [← hh, Bd.state]; rfl)
theorem own_callS (X : Stand p l e R s m args below meth c T locs cells slots) (hx : p.tables.exec = Jvm.exec) (hZ : Z.Warmed39 s.vm) {own : String} {index : Nat} {y : MethodName} {bytes : ByteArray} {maxL : Nat} {ret : Option FieldType}
    (hown : s.vm.findClass own = some m.cls) (w1 : (Cond.methodLink own index y).before a0 Z = true) (w2 : (Cond.static y).before a0 Z = true) (w3 : (Cond.initialized y.cls).before a0 Z = true) (w4 : (Cond.code y bytes maxL ret).before a0 Z = true)
    (hy : y.cls ≠ "java/lang/invoke/MethodHandle" ∧ y.cls ≠ "java/lang/invoke/VarHandle") {rm : Room} {W : Nat} {Qc : Option Value → Heap → List Loc → Prop} (eT : T.heap = h) {argsL rest : List Value}
    (hM : own_Met l Z [] y bytes maxL ret rm rm.cells rm.slots argsL.toArray h Qc) (hf : rm.frames + 1 ≤ R.frames) (hl : W + (maxL + 11) + rm.locals ≤ R.locals) (hcs : cells + rm.cells ≤ R.cells) (hss : slots + rm.slots ≤ R.slots)
    {g : JFrame} (hg : g.method = m) (hsize : g.locals.size = c.maxLocals) (hlen : ∀ sig, parseMethodDescriptor y.desc = some sig → argsL.length = sig.parameters.length) (hstack : g.stack = argsL.reverse ++ rest)
    (hW : 2 * g.monitorRoom + (rest.map fun v => v.category).sum ≤ W) (hdg : decode c.code g.pc = .ok (.invokestatic index, 3))
    (k : ∀ v T' L, Stand p l e R s m args below meth c T' (locs ++ L) (cells + rm.cells) (slots + rm.slots) → Qc v T'.heap L → own_Go p e s below Q kc ks T' { g with pc := g.pc + 3, stack := v.toList ++ rest }) : own_Go p e s below Q kc ks T g := by
  obtain ⟨v, _, ⟨T6, L6, k6, n6⟩, -, X6, ⟨Lc6, hQ6, l6, y6, z6⟩, st6⟩ := Jvm.LawKit.callS X hx (y := y) hown (mvT hZ w1) (mvT hZ w2) (mvT hZ w3) (mvT hZ w4) hy (backOf (W := W) hM hZ w4 w3 hf hl) hg hsize (argsL := argsL) (rest := rest) hlen hstack hW hdg (fun _ _ => ⟨rfl, eT, hcs, hss⟩)
  dsimp only [Pt.U, Pt.locs, Pt.cells, Pt.slots] at X6 l6 y6 z6 st6 hQ6
  subst l6 y6 z6
  exact own_st st6 (k v T6 Lc6 X6 hQ6)
theorem own_callV (X : Stand p l e R s m args below meth c T locs cells slots) (hx : p.tables.exec = Jvm.exec) (hZ : Z.Warmed39 s.vm) {own C : String} {index : Nat} {y : MethodName} {bytes : ByteArray} {maxL : Nat} {ret : Option FieldType}
    (hown : s.vm.findClass own = some m.cls) (w1 : (Cond.methodLink own index y).before a0 Z = true) (w2 : (Cond.declares y).before a0 Z = true) (w3 : (Cond.selects C y y).before a0 Z = true) (w4 : (Cond.instanceMethod y).before a0 Z = true) (w5 : (Cond.code y bytes maxL ret).before a0 Z = true) (w6 : (Cond.initialized y.cls).before a0 Z = true)
    (hy : y.cls ≠ "java/lang/invoke/MethodHandle" ∧ y.cls ≠ "java/lang/invoke/VarHandle") {rm : Room} {W : Nat} {Qc : Option Value → Heap → List Loc → Prop} (eT : T.heap = h) {b : Addr} (E : Exa Z h b C) {argsL rest : List Value}
    (hM : own_Met l Z [] y bytes maxL ret rm rm.cells rm.slots (.ref b :: argsL).toArray h Qc) (hf : rm.frames + 1 ≤ R.frames) (hl : W + (maxL + 11) + rm.locals ≤ R.locals) (hcs : cells + rm.cells ≤ R.cells) (hss : slots + rm.slots ≤ R.slots)
    {g : JFrame} (hg : g.method = m) (hsize : g.locals.size = c.maxLocals) (hlen : ∀ sig, parseMethodDescriptor y.desc = some sig → argsL.length = sig.parameters.length) (hstack : g.stack = argsL.reverse ++ .ref b :: rest)
    (hW : 2 * g.monitorRoom + (rest.map fun v => v.category).sum ≤ W) (hdg : decode c.code g.pc = .ok (.invokevirtual index, 3))
    (k : ∀ v T' L, Stand p l e R s m args below meth c T' (locs ++ L) (cells + rm.cells) (slots + rm.slots) → Qc v T'.heap L → own_Go p e s below Q kc ks T' { g with pc := g.pc + 3, stack := v.toList ++ rest }) : own_Go p e s below Q kc ks T g := by
  obtain ⟨cq, kq, qa, qb, qc⟩ := isOf hZ eT E
  obtain ⟨v, _, ⟨T6, L6, k6, n6⟩, -, X6, ⟨Lc6, hQ6, l6, y6, z6⟩, st6⟩ := X.virtualBack hx (y := y) (z := y) hown (mvT hZ w1) (mvT hZ w2) (notFace_of_selects (args := #[]) (mvT hZ w3)) (mvT hZ w3) (mvT hZ w4) hy (backOf (W := W) hM hZ w5 w6 hf hl) qa qc hg hsize (Steps.refl _) (argsL := argsL) (rest := rest) hlen hstack hW hdg (fun _ _ => ⟨rfl, eT, hcs, hss⟩)
  dsimp only [Pt.U, Pt.locs, Pt.cells, Pt.slots] at X6 l6 y6 z6 st6 hQ6
  subst l6 y6 z6
  exact own_st (fun _ q => st6.trans q) (k v T6 Lc6 X6 hQ6)
theorem own_callC (X : Stand p l e R s m args below meth c T locs cells slots) (hx : p.tables.exec = Jvm.exec) (hZ : Z.Warmed39 s.vm) {own : String} {index : Nat} {y : MethodName} {bytes : ByteArray} {maxL : Nat} (hy1 : y.name = "<init>")
    (hown : s.vm.findClass own = some m.cls) (w1 : (Cond.methodLink own index y).before a0 Z = true) (w2 : (Cond.instanceMethod y).before a0 Z = true) (w3 : (Cond.code y bytes maxL none).before a0 Z = true) (w4 : (Cond.initialized y.cls).before a0 Z = true)
    (hy : y.cls ≠ "java/lang/invoke/MethodHandle" ∧ y.cls ≠ "java/lang/invoke/VarHandle") {rm : Room} {W : Nat} {Qc : Option Value → Heap → List Loc → Prop} (eT : T.heap = h) {b : Addr} {argsL rest : List Value}
    (hM : own_Met l Z [] y bytes maxL none rm rm.cells rm.slots (.ref b :: argsL).toArray h Qc) (hf : rm.frames + 1 ≤ R.frames) (hl : W + (maxL + 11) + rm.locals ≤ R.locals) (hcs : cells + rm.cells ≤ R.cells) (hss : slots + rm.slots ≤ R.slots)
    {g : JFrame} (hg : g.method = m) (hsize : g.locals.size = c.maxLocals) (hlen : ∀ sig, parseMethodDescriptor y.desc = some sig → argsL.length = sig.parameters.length) (hstack : g.stack = argsL.reverse ++ .ref b :: rest)
    (hW : 2 * g.monitorRoom + (rest.map fun v => v.category).sum ≤ W) (hdg : decode c.code g.pc = .ok (.invokespecial index, 3))
    (k : ∀ v T' L, Stand p l e R s m args below meth c T' (locs ++ L) (cells + rm.cells) (slots + rm.slots) → Qc v T'.heap L → own_Go p e s below Q kc ks T' { g with pc := g.pc + 3, stack := v.toList ++ rest }) : own_Go p e s below Q kc ks T g := by
  obtain ⟨v, _, ⟨T6, L6, k6, n6⟩, -, X6, ⟨Lc6, hQ6, l6, y6, z6⟩, st6⟩ := X.specialBack hx (y := y) hy1 hown (mvT hZ w1) (mvT hZ w2) (mvT hZ w3) hy (backOf (W := W) hM hZ w3 w4 hf hl) hg hsize (Steps.refl _) (a := b) (argsL := argsL) (rest := rest) hlen hstack hW hdg (fun _ _ => ⟨rfl, eT, hcs, hss⟩)
  dsimp only [Pt.U, Pt.locs, Pt.cells, Pt.slots] at X6 l6 y6 z6 st6 hQ6
  subst l6 y6 z6
  exact own_st (fun _ q => st6.trans q) (k v T6 Lc6 X6 hQ6)
theorem own_callP (X : Stand p l e R s m args below meth c T locs cells slots) (hx : p.tables.exec = Jvm.exec) (hZ : Z.Warmed39 s.vm) {own : String} {index : Nat} {y : MethodName} {bytes : ByteArray} {maxL : Nat} {ret : Option FieldType}
    (hown : s.vm.findClass own = some m.cls) (w1 : (Cond.methodLink own index y).before a0 Z = true) (w2 : (Cond.instanceMethod y).before a0 Z = true) {kk : Nat} (w3 : (Cond.instantiable y.cls kk).before a0 Z = true) (w4 : (Cond.privateMethod y).before a0 Z = true) (w5 : (Cond.code y bytes maxL ret).before a0 Z = true) (w6 : (Cond.initialized y.cls).before a0 Z = true)
    (hy : y.cls ≠ "java/lang/invoke/MethodHandle" ∧ y.cls ≠ "java/lang/invoke/VarHandle") {rm : Room} {W : Nat} {Qc : Option Value → Heap → List Loc → Prop} (eT : T.heap = h) {b : Addr} {C : String} (E : Exa Z h b C) {argsL rest : List Value}
    (hM : own_Met l Z [] y bytes maxL ret rm rm.cells rm.slots (.ref b :: argsL).toArray h Qc) (hf : rm.frames + 1 ≤ R.frames) (hl : W + (maxL + 11) + rm.locals ≤ R.locals) (hcs : cells + rm.cells ≤ R.cells) (hss : slots + rm.slots ≤ R.slots)
    {g : JFrame} (hg : g.method = m) (hsize : g.locals.size = c.maxLocals) (hlen : ∀ sig, parseMethodDescriptor y.desc = some sig → argsL.length = sig.parameters.length) (hstack : g.stack = argsL.reverse ++ .ref b :: rest)
    (hW : 2 * g.monitorRoom + (rest.map fun v => v.category).sum ≤ W) (hdg : decode c.code g.pc = .ok (.invokevirtual index, 3))
    (k : ∀ v T' L, Stand p l e R s m args below meth c T' (locs ++ L) (cells + rm.cells) (slots + rm.slots) → Qc v T'.heap L → own_Go p e s below Q kc ks T' { g with pc := g.pc + 3, stack := v.toList ++ rest }) : own_Go p e s below Q kc ks T g := by
  obtain ⟨cq, q1, q2⟩ := E.cell
  have w3' : (Cond.instantiable y.cls kk).before args s = true := mvT hZ w3
  obtain ⟨c2, k2, i1, i2, i3, i4, -⟩ := Cond.instantiable_spec w3'
  have hsel : (Cond.selects y.cls y y).before args s = true := selects_self_of_private i1 i2 (Bool.or_eq_false_iff.mp i4).1 (Cond.privateMethod_at (mvP hZ w4 (args := #[]))) (mvT hZ w2) hy
  obtain ⟨v, _, ⟨T6, L6, k6, n6⟩, -, X6, ⟨Lc6, hQ6, l6, y6, z6⟩, st6⟩ := X.privateBack hx (y := y) hown (mvT hZ w1) (mvT hZ w2) hsel (Cond.privateMethod_at (mvP hZ w4 (args := #[]))) (mvT hZ w5) hy (backOf (W := W) hM hZ w5 w6 hf hl) hg hsize (Steps.refl _) (a := b) (by rw [eT]; exact q1) q2 (argsL := argsL) (rest := rest) hlen hstack hW hdg (fun _ _ => ⟨rfl, eT, hcs, hss⟩)
  dsimp only [Pt.U, Pt.locs, Pt.cells, Pt.slots] at X6 l6 y6 z6 st6 hQ6
  subst l6 y6 z6
  exact own_st (fun _ q => st6.trans q) (k v T6 Lc6 X6 hQ6)
end Own
end Jvm.RoadKit
namespace Jvm.Pilot.@@N@@
open Jvm Jvm.ClassFile Sem Op Lib Jvm.Free Jvm.Stand Jvm.LawKit Jvm.RoadKit Bundle Jvm.Pilot.@@N@@.Jvm.D
theorem own_w {Z : State} {a0 : Array Value} (hw : ∀ d ∈ tables_1, d.before a0 Z = true) (i : Nat) {d : Jvm.Cond} (q : tables_1[i]? = some d) : d.before a0 Z = true := hw d (List.mem_of_getElem? q)
theorem own_pd0 : parseMethodDescriptor "(J)J" = some ⟨[.long], some .long⟩ := by decide +kernel
theorem own_pd1 : parseMethodDescriptor "(J)V" = some ⟨[.long], none⟩ := by decide +kernel
theorem own_pd2 : parseMethodDescriptor "()J" = some ⟨[], some .long⟩ := by decide +kernel
def own_inv (q : Int64) : Int64 :=
  let x1 := q * ((2 : Int64) - q * q)
  let x2 := x1 * ((2 : Int64) - q * x1)
  let x3 := x2 * ((2 : Int64) - q * x2)
  let x4 := x3 * ((2 : Int64) - q * x3)
  x4 * ((2 : Int64) - q * x4)
def own_mix (z : Int64) : Int64 :=
  let z1 := (z ^^^ ((z.toUInt64 >>> ((30 : Int32) &&& 0x3f).toInt64.toUInt64).toInt64)) * (-4658895280553007687 : Int64)
  let z2 := (z1 ^^^ ((z1.toUInt64 >>> ((27 : Int32) &&& 0x3f).toInt64.toUInt64).toInt64)) * (-7723592293110705685 : Int64)
  z2 ^^^ ((z2.toUInt64 >>> ((31 : Int32) &&& 0x3f).toInt64.toUInt64).toInt64)
def own_unmix (y : Int64) : Int64 :=
  let u1 := (y ^^^ ((y.toUInt64 >>> ((31 : Int32) &&& 0x3f).toInt64.toUInt64).toInt64)) ^^^ ((y.toUInt64 >>> ((62 : Int32) &&& 0x3f).toInt64.toUInt64).toInt64)
  let u2 := u1 * own_inv (-7723592293110705685 : Int64)
  let u3 := (u2 ^^^ ((u2.toUInt64 >>> ((27 : Int32) &&& 0x3f).toInt64.toUInt64).toInt64)) ^^^ ((u2.toUInt64 >>> ((54 : Int32) &&& 0x3f).toInt64.toUInt64).toInt64)
  let u4 := u3 * own_inv (-4658895280553007687 : Int64)
  (u4 ^^^ ((u4.toUInt64 >>> ((30 : Int32) &&& 0x3f).toInt64.toUInt64).toInt64)) ^^^ ((u4.toUInt64 >>> ((60 : Int32) &&& 0x3f).toInt64.toUInt64).toInt64)
theorem d1_0 : decode prog_71_method_1_code 0 = .ok (.aload_n 0, 1) := by decide +kernel
theorem d1_1 : decode prog_71_method_1_code 1 = .ok (.invokespecial 1, 3) := by decide +kernel
theorem d1_4 : decode prog_71_method_1_code 4 = .ok (.aload_n 0, 1) := by decide +kernel
theorem d1_5 : decode prog_71_method_1_code 5 = .ok (.lload_n 1, 1) := by decide +kernel
theorem d1_6 : decode prog_71_method_1_code 6 = .ok (.putfield 7, 3) := by decide +kernel
theorem d1_9 : decode prog_71_method_1_code 9 = .ok (.return_, 1) := by decide +kernel
theorem pn_1 : plainName "com/example/daphnia/daphnia/values/SeededRandom" = true := by first | (simp [plainName, overriddenIn]; done) | decide +kernel
theorem ef_1 (m : MethodId) (x0 : Addr) (x1 : Int64) : entryFrame m #[(.ref x0), (.long x1)] 3 = mkF m 0 #[.val (.ref x0), .val (.long x1), .second] [] := by first | (simp [entryFrame, mkF, argsToLocals, Value.category]; done) | rfl
set_option maxRecDepth 65536 in
set_option maxHeartbeats 40000000 in
theorem rm1 (l : Launch) (Z : State) (a0 : Array Value) (hw : ∀ d ∈ tables_1, d.before a0 Z = true) (ws : List Jvm.Cond) (a1 : Addr) (q2 w0 : Int64) (h0 : Heap) (n0 : Nat) (Z0 : n0 ≤ h0.size) (F1 : Fld Z h0 a1 "com/example/daphnia/daphnia/values/SeededRandom" "state" "J" (.long w0)) (E1 : Exa Z h0 a1 "com/example/daphnia/daphnia/values/SeededRandom") (G1 : n0 ≤ a1) :
    own_Met l Z ws (⟨"com/example/daphnia/daphnia/values/SeededRandom", "<init>", "(J)V"⟩ : MethodName) prog_71_method_1_code 3 none ({ frames := 1, cells := 0, slots := 0, locals := 12 } : Room) ({ frames := 1, cells := 0, slots := 0, locals := 12 } : Room).cells ({ frames := 1, cells := 0, slots := 0, locals := 12 } : Room).slots #[(.ref a1), (.long q2)] h0 (fun v h L => v = none ∧ Fr n0 L ∧ Keep h0 h [a1] ∧ Exa Z h a1 "com/example/daphnia/daphnia/values/SeededRandom" ∧ Fld Z h a1 "com/example/daphnia/daphnia/values/SeededRandom" "state" "J" (.long q2)) := by
  refine own_body (plainFor_of_name pn_1) ?_
  intro p e s m below meth c s₁ hx hby hml hown hnm hlk hret hZ hh X0 e0
  have N0 := Fr.nil n0
  refine own_cast (ef_1 m a1 q2) ?_
  refine own_st (T' := s₁) (g' := (mkF m 1 #[.val (.ref a1), .val (.long q2), .second] [(.ref a1)])) (fun _ k => XS.aloadN X0.here hx rfl (hb hby d1_0) rfl rfl k) ?_
  obtain ⟨T1, X1, e1, st1⟩ := initO X0 hx hZ hown (own_w hw 7 rfl) (own_w hw 8 rfl) (own_w hw 9 rfl) e0 (g := (mkF m 1 #[.val (.ref a1), .val (.long q2), .second] [(.ref a1)])) rfl (by rw [hml]; rfl) rfl (hb hby d1_1) (by decide) (W := 0) (by show 2 * 0 + _ ≤ _; exact Nat.le_of_eq rfl) (by decide)
  refine own_st (g' := (mkF m 4 #[.val (.ref a1), .val (.long q2), .second] [])) st1 ?_
  refine own_st (T' := T1) (g' := (mkF m 5 #[.val (.ref a1), .val (.long q2), .second] [(.ref a1)])) (fun _ k => XS.aloadN X1.here hx rfl (hb hby d1_4) rfl rfl k) ?_
  refine own_st (T' := T1) (g' := (mkF m 6 #[.val (.ref a1), .val (.long q2), .second] [(.long q2), (.ref a1)])) (fun _ k => XS.lloadN X1.here hx rfl (hb hby d1_5) rfl k) ?_
  obtain ⟨T2, h2, X2, e2, W2, st2⟩ := putF X1 hx hZ hown (host := "") (Or.inl (own_w hw 10 rfl)) Via.refl e1 F1 E1 (Or.inl (own_w hw 11 rfl)) (own_w hw 2 rfl) (ty := .long) (by decide) rfl rfl (g := (mkF m 6 #[.val (.ref a1), .val (.long q2), .second] [(.long q2), (.ref a1)])) rfl rfl (hb hby d1_6)
  have Fw2 := F1.same W2
  have N2 := Fr.snoc X2 N0 G1
  refine own_st (g' := (mkF m 9 #[.val (.ref a1), .val (.long q2), .second] [])) st2 ?_
  exact own_retV X2 hx hlk hret (hb hby d1_9) (by rw [e2]; exact ⟨rfl, N2, ((Keep.refl h0 [a1]).wr W2 (Or.inl (List.mem_of_getElem? (i := 0) rfl))), (E1.wr W2), Fw2⟩) (by decide) (by decide)
theorem d3_0 : decode prog_71_method_4_code 0 = .ok (.aload_n 0, 1) := by decide +kernel
theorem d3_1 : decode prog_71_method_4_code 1 = .ok (.dup, 1) := by decide +kernel
theorem d3_2 : decode prog_71_method_4_code 2 = .ok (.getfield 7, 3) := by decide +kernel
theorem d3_5 : decode prog_71_method_4_code 5 = .ok (.ldc2_w 20, 3) := by decide +kernel
theorem d3_8 : decode prog_71_method_4_code 8 = .ok (.ladd, 1) := by decide +kernel
theorem d3_9 : decode prog_71_method_4_code 9 = .ok (.putfield 7, 3) := by decide +kernel
theorem d3_12 : decode prog_71_method_4_code 12 = .ok (.aload_n 0, 1) := by decide +kernel
theorem d3_13 : decode prog_71_method_4_code 13 = .ok (.getfield 7, 3) := by decide +kernel
theorem d3_16 : decode prog_71_method_4_code 16 = .ok (.lstore_n 1, 1) := by decide +kernel
theorem d3_17 : decode prog_71_method_4_code 17 = .ok (.lload_n 1, 1) := by decide +kernel
theorem d3_18 : decode prog_71_method_4_code 18 = .ok (.lload_n 1, 1) := by decide +kernel
theorem d3_19 : decode prog_71_method_4_code 19 = .ok (.bipush 30, 2) := by decide +kernel
theorem d3_21 : decode prog_71_method_4_code 21 = .ok (.lushr, 1) := by decide +kernel
theorem d3_22 : decode prog_71_method_4_code 22 = .ok (.lxor, 1) := by decide +kernel
theorem d3_23 : decode prog_71_method_4_code 23 = .ok (.ldc2_w 22, 3) := by decide +kernel
theorem d3_26 : decode prog_71_method_4_code 26 = .ok (.lmul, 1) := by decide +kernel
theorem d3_27 : decode prog_71_method_4_code 27 = .ok (.lstore_n 1, 1) := by decide +kernel
theorem d3_28 : decode prog_71_method_4_code 28 = .ok (.lload_n 1, 1) := by decide +kernel
theorem d3_29 : decode prog_71_method_4_code 29 = .ok (.lload_n 1, 1) := by decide +kernel
theorem d3_30 : decode prog_71_method_4_code 30 = .ok (.bipush 27, 2) := by decide +kernel
theorem d3_32 : decode prog_71_method_4_code 32 = .ok (.lushr, 1) := by decide +kernel
theorem d3_33 : decode prog_71_method_4_code 33 = .ok (.lxor, 1) := by decide +kernel
theorem d3_34 : decode prog_71_method_4_code 34 = .ok (.ldc2_w 24, 3) := by decide +kernel
theorem d3_37 : decode prog_71_method_4_code 37 = .ok (.lmul, 1) := by decide +kernel
theorem d3_38 : decode prog_71_method_4_code 38 = .ok (.lstore_n 1, 1) := by decide +kernel
theorem d3_39 : decode prog_71_method_4_code 39 = .ok (.lload_n 1, 1) := by decide +kernel
theorem d3_40 : decode prog_71_method_4_code 40 = .ok (.lload_n 1, 1) := by decide +kernel
theorem d3_41 : decode prog_71_method_4_code 41 = .ok (.bipush 31, 2) := by decide +kernel
theorem d3_43 : decode prog_71_method_4_code 43 = .ok (.lushr, 1) := by decide +kernel
theorem d3_44 : decode prog_71_method_4_code 44 = .ok (.lxor, 1) := by decide +kernel
theorem d3_45 : decode prog_71_method_4_code 45 = .ok (.lreturn, 1) := by decide +kernel
theorem pn_3 : plainName "com/example/daphnia/daphnia/values/SeededRandom" = true := by first | (simp [plainName, overriddenIn]; done) | decide +kernel
theorem ef_3 (m : MethodId) (x0 : Addr) : entryFrame m #[(.ref x0)] 3 = mkF m 0 #[.val (.ref x0), .unset, .unset] [] := by first | (simp [entryFrame, mkF, argsToLocals, Value.category]; done) | rfl
set_option maxRecDepth 65536 in
set_option maxHeartbeats 40000000 in
theorem rm3 (l : Launch) (Z : State) (a0 : Array Value) (hw : ∀ d ∈ tables_1, d.before a0 Z = true) (ws : List Jvm.Cond) (a1 : Addr) (w0 : Int64) (h0 : Heap) (n0 : Nat) (Z0 : n0 ≤ h0.size) (F1 : Fld Z h0 a1 "com/example/daphnia/daphnia/values/SeededRandom" "state" "J" (.long w0)) (E1 : Exa Z h0 a1 "com/example/daphnia/daphnia/values/SeededRandom") (G1 : n0 ≤ a1) :
    own_Met l Z ws (⟨"com/example/daphnia/daphnia/values/SeededRandom", "nextLong", "()J"⟩ : MethodName) prog_71_method_4_code 3 (some .long) ({ frames := 0, cells := 0, slots := 0, locals := 0 } : Room) ({ frames := 0, cells := 0, slots := 0, locals := 0 } : Room).cells ({ frames := 0, cells := 0, slots := 0, locals := 0 } : Room).slots #[(.ref a1)] h0 (fun v h L => v = some (.long (own_mix (w0 + (-7046029254386353131 : Int64)))) ∧ Fr n0 L ∧ Keep h0 h [a1] ∧ Exa Z h a1 "com/example/daphnia/daphnia/values/SeededRandom" ∧ Fld Z h a1 "com/example/daphnia/daphnia/values/SeededRandom" "state" "J" (.long (w0 + (-7046029254386353131 : Int64)))) := by
  refine own_body (plainFor_of_name pn_3) ?_
  intro p e s m below meth c s₁ hx hby hml hown hnm hlk hret hZ hh X0 e0
  have N0 := Fr.nil n0
  refine own_cast (ef_3 m a1) ?_
  refine own_st (T' := s₁) (g' := (mkF m 1 #[.val (.ref a1), .unset, .unset] [(.ref a1)])) (fun _ k => XS.aloadN X0.here hx rfl (hb hby d3_0) rfl rfl k) ?_
  refine own_st (T' := s₁) (g' := (mkF m 2 #[.val (.ref a1), .unset, .unset] [(.ref a1), (.ref a1)])) (fun _ k => XS.dup X0.here hx rfl (hb hby d3_1) rfl rfl k) ?_
  obtain ⟨T1, X1, e1, st1⟩ := getF X0 hx hZ hown (host := "") (Or.inl (own_w hw 10 rfl)) Via.refl e0 F1 (g := (mkF m 2 #[.val (.ref a1), .unset, .unset] [(.ref a1), (.ref a1)])) rfl rfl (hb hby d3_2)
  refine own_st (g' := (mkF m 5 #[.val (.ref a1), .unset, .unset] [(.long w0), (.ref a1)])) st1 ?_
  refine own_st (T' := T1) (g' := (mkF m 8 #[.val (.ref a1), .unset, .unset] [(.long (-7046029254386353131 : Int64)), (.long w0), (.ref a1)])) (fun _ k => X1.ldc2Long hx hown (mvT hZ (own_w hw 17 rfl)) (g := (mkF m 5 #[.val (.ref a1), .unset, .unset] [(.long w0), (.ref a1)])) rfl (hb hby d3_5) _ k) ?_
  refine own_st (T' := T1) (g' := (mkF m 9 #[.val (.ref a1), .unset, .unset] [(.long (w0 + (-7046029254386353131 : Int64))), (.ref a1)])) (fun _ k => XS.ladd X1.here hx rfl (hb hby d3_8) rfl k) ?_
  obtain ⟨T2, h2, X2, e2, W2, st2⟩ := putF X1 hx hZ hown (host := "") (Or.inl (own_w hw 10 rfl)) Via.refl e1 F1 E1 (Or.inl (own_w hw 11 rfl)) (own_w hw 2 rfl) (ty := .long) (by decide) rfl rfl (g := (mkF m 9 #[.val (.ref a1), .unset, .unset] [(.long (w0 + (-7046029254386353131 : Int64))), (.ref a1)])) rfl rfl (hb hby d3_9)
  have Fw2 := F1.same W2
  have N2 := Fr.snoc X2 N0 G1
  refine own_st (g' := (mkF m 12 #[.val (.ref a1), .unset, .unset] [])) st2 ?_
  refine own_st (T' := T2) (g' := (mkF m 13 #[.val (.ref a1), .unset, .unset] [(.ref a1)])) (fun _ k => XS.aloadN X2.here hx rfl (hb hby d3_12) rfl rfl k) ?_
  obtain ⟨T3, X3, e3, st3⟩ := getF X2 hx hZ hown (host := "") (Or.inl (own_w hw 10 rfl)) Via.refl e2 Fw2 (g := (mkF m 13 #[.val (.ref a1), .unset, .unset] [(.ref a1)])) rfl rfl (hb hby d3_13)
  refine own_st (g' := (mkF m 16 #[.val (.ref a1), .unset, .unset] [(.long (w0 + (-7046029254386353131 : Int64)))])) st3 ?_
  refine own_st (T' := T3) (g' := (mkF m 17 #[.val (.ref a1), .val (.long (w0 + (-7046029254386353131 : Int64))), .second] [])) (fun _ k => XS.lstoreN X3.here hx rfl (hb hby d3_16) rfl (l' := #[.val (.ref a1), .val (.long (w0 + (-7046029254386353131 : Int64))), .second]) rfl k) ?_
  refine own_st (T' := T3) (g' := (mkF m 18 #[.val (.ref a1), .val (.long (w0 + (-7046029254386353131 : Int64))), .second] [(.long (w0 + (-7046029254386353131 : Int64)))])) (fun _ k => XS.lloadN X3.here hx rfl (hb hby d3_17) rfl k) ?_
  refine own_st (T' := T3) (g' := (mkF m 19 #[.val (.ref a1), .val (.long (w0 + (-7046029254386353131 : Int64))), .second] [(.long (w0 + (-7046029254386353131 : Int64))), (.long (w0 + (-7046029254386353131 : Int64)))])) (fun _ k => XS.lloadN X3.here hx rfl (hb hby d3_18) rfl k) ?_
  refine own_st (T' := T3) (g' := (mkF m 21 #[.val (.ref a1), .val (.long (w0 + (-7046029254386353131 : Int64))), .second] [(.int (30 : Int32)), (.long (w0 + (-7046029254386353131 : Int64))), (.long (w0 + (-7046029254386353131 : Int64)))])) (fun _ k => XS.bipush X3.here hx rfl (hb hby d3_19) k) ?_
  refine own_st (T' := T3) (g' := (mkF m 22 #[.val (.ref a1), .val (.long (w0 + (-7046029254386353131 : Int64))), .second] [(.long (((w0 + (-7046029254386353131 : Int64)).toUInt64 >>> ((30 : Int32) &&& 0x3f).toInt64.toUInt64).toInt64)), (.long (w0 + (-7046029254386353131 : Int64)))])) (fun _ k => XS.lushr X3.here hx rfl (hb hby d3_21) rfl k) ?_
  refine own_st (T' := T3) (g' := (mkF m 23 #[.val (.ref a1), .val (.long (w0 + (-7046029254386353131 : Int64))), .second] [(.long ((w0 + (-7046029254386353131 : Int64)) ^^^ (((w0 + (-7046029254386353131 : Int64)).toUInt64 >>> ((30 : Int32) &&& 0x3f).toInt64.toUInt64).toInt64)))])) (fun _ k => XS.lxor X3.here hx rfl (hb hby d3_22) rfl k) ?_
  refine own_st (T' := T3) (g' := (mkF m 26 #[.val (.ref a1), .val (.long (w0 + (-7046029254386353131 : Int64))), .second] [(.long (-4658895280553007687 : Int64)), (.long ((w0 + (-7046029254386353131 : Int64)) ^^^ (((w0 + (-7046029254386353131 : Int64)).toUInt64 >>> ((30 : Int32) &&& 0x3f).toInt64.toUInt64).toInt64)))])) (fun _ k => X3.ldc2Long hx hown (mvT hZ (own_w hw 18 rfl)) (g := (mkF m 23 #[.val (.ref a1), .val (.long (w0 + (-7046029254386353131 : Int64))), .second] [(.long ((w0 + (-7046029254386353131 : Int64)) ^^^ (((w0 + (-7046029254386353131 : Int64)).toUInt64 >>> ((30 : Int32) &&& 0x3f).toInt64.toUInt64).toInt64)))])) rfl (hb hby d3_23) _ k) ?_
  refine own_st (T' := T3) (g' := (mkF m 27 #[.val (.ref a1), .val (.long (w0 + (-7046029254386353131 : Int64))), .second] [(.long (((w0 + (-7046029254386353131 : Int64)) ^^^ (((w0 + (-7046029254386353131 : Int64)).toUInt64 >>> ((30 : Int32) &&& 0x3f).toInt64.toUInt64).toInt64)) * (-4658895280553007687 : Int64)))])) (fun _ k => XS.lmul X3.here hx rfl (hb hby d3_26) rfl k) ?_
  generalize hz1 : (((w0 + (-7046029254386353131 : Int64)) ^^^ (((w0 + (-7046029254386353131 : Int64)).toUInt64 >>> ((30 : Int32) &&& 0x3f).toInt64.toUInt64).toInt64)) * (-4658895280553007687 : Int64)) = z1
  refine own_st (T' := T3) (g' := (mkF m 28 #[.val (.ref a1), .val (.long z1), .second] [])) (fun _ k => XS.lstoreN X3.here hx rfl (hb hby d3_27) rfl (l' := #[.val (.ref a1), .val (.long z1), .second]) rfl k) ?_
  refine own_st (T' := T3) (g' := (mkF m 29 #[.val (.ref a1), .val (.long z1), .second] [(.long z1)])) (fun _ k => XS.lloadN X3.here hx rfl (hb hby d3_28) rfl k) ?_
  refine own_st (T' := T3) (g' := (mkF m 30 #[.val (.ref a1), .val (.long z1), .second] [(.long z1), (.long z1)])) (fun _ k => XS.lloadN X3.here hx rfl (hb hby d3_29) rfl k) ?_
  refine own_st (T' := T3) (g' := (mkF m 32 #[.val (.ref a1), .val (.long z1), .second] [(.int (27 : Int32)), (.long z1), (.long z1)])) (fun _ k => XS.bipush X3.here hx rfl (hb hby d3_30) k) ?_
  refine own_st (T' := T3) (g' := (mkF m 33 #[.val (.ref a1), .val (.long z1), .second] [(.long ((z1.toUInt64 >>> ((27 : Int32) &&& 0x3f).toInt64.toUInt64).toInt64)), (.long z1)])) (fun _ k => XS.lushr X3.here hx rfl (hb hby d3_32) rfl k) ?_
  refine own_st (T' := T3) (g' := (mkF m 34 #[.val (.ref a1), .val (.long z1), .second] [(.long (z1 ^^^ ((z1.toUInt64 >>> ((27 : Int32) &&& 0x3f).toInt64.toUInt64).toInt64)))])) (fun _ k => XS.lxor X3.here hx rfl (hb hby d3_33) rfl k) ?_
  refine own_st (T' := T3) (g' := (mkF m 37 #[.val (.ref a1), .val (.long z1), .second] [(.long (-7723592293110705685 : Int64)), (.long (z1 ^^^ ((z1.toUInt64 >>> ((27 : Int32) &&& 0x3f).toInt64.toUInt64).toInt64)))])) (fun _ k => X3.ldc2Long hx hown (mvT hZ (own_w hw 19 rfl)) (g := (mkF m 34 #[.val (.ref a1), .val (.long z1), .second] [(.long (z1 ^^^ ((z1.toUInt64 >>> ((27 : Int32) &&& 0x3f).toInt64.toUInt64).toInt64)))])) rfl (hb hby d3_34) _ k) ?_
  refine own_st (T' := T3) (g' := (mkF m 38 #[.val (.ref a1), .val (.long z1), .second] [(.long ((z1 ^^^ ((z1.toUInt64 >>> ((27 : Int32) &&& 0x3f).toInt64.toUInt64).toInt64)) * (-7723592293110705685 : Int64)))])) (fun _ k => XS.lmul X3.here hx rfl (hb hby d3_37) rfl k) ?_
  generalize hz2 : ((z1 ^^^ ((z1.toUInt64 >>> ((27 : Int32) &&& 0x3f).toInt64.toUInt64).toInt64)) * (-7723592293110705685 : Int64)) = z2
  refine own_st (T' := T3) (g' := (mkF m 39 #[.val (.ref a1), .val (.long z2), .second] [])) (fun _ k => XS.lstoreN X3.here hx rfl (hb hby d3_38) rfl (l' := #[.val (.ref a1), .val (.long z2), .second]) rfl k) ?_
  refine own_st (T' := T3) (g' := (mkF m 40 #[.val (.ref a1), .val (.long z2), .second] [(.long z2)])) (fun _ k => XS.lloadN X3.here hx rfl (hb hby d3_39) rfl k) ?_
  refine own_st (T' := T3) (g' := (mkF m 41 #[.val (.ref a1), .val (.long z2), .second] [(.long z2), (.long z2)])) (fun _ k => XS.lloadN X3.here hx rfl (hb hby d3_40) rfl k) ?_
  refine own_st (T' := T3) (g' := (mkF m 43 #[.val (.ref a1), .val (.long z2), .second] [(.int (31 : Int32)), (.long z2), (.long z2)])) (fun _ k => XS.bipush X3.here hx rfl (hb hby d3_41) k) ?_
  refine own_st (T' := T3) (g' := (mkF m 44 #[.val (.ref a1), .val (.long z2), .second] [(.long ((z2.toUInt64 >>> ((31 : Int32) &&& 0x3f).toInt64.toUInt64).toInt64)), (.long z2)])) (fun _ k => XS.lushr X3.here hx rfl (hb hby d3_43) rfl k) ?_
  refine own_st (T' := T3) (g' := (mkF m 45 #[.val (.ref a1), .val (.long z2), .second] [(.long (z2 ^^^ ((z2.toUInt64 >>> ((31 : Int32) &&& 0x3f).toInt64.toUInt64).toInt64)))])) (fun _ k => XS.lxor X3.here hx rfl (hb hby d3_44) rfl k) ?_
  exact own_retJ X3 hx hlk hret (hb hby d3_45) (by rw [e3]; exact ⟨by subst hz2 hz1; rfl, N2, ((Keep.refl h0 [a1]).wr W2 (Or.inl (List.mem_of_getElem? (i := 0) rfl))), (E1.wr W2), Fw2⟩) (by decide) (by decide)
theorem d5_0 : decode method_2_code 0 = .ok (.lload_n 0, 1) := by decide +kernel
theorem d5_1 : decode method_2_code 1 = .ok (.lstore_n 2, 1) := by decide +kernel
theorem d5_2 : decode method_2_code 2 = .ok (.lload_n 2, 1) := by decide +kernel
theorem d5_3 : decode method_2_code 3 = .ok (.ldc2_w 7, 3) := by decide +kernel
theorem d5_6 : decode method_2_code 6 = .ok (.lload_n 0, 1) := by decide +kernel
theorem d5_7 : decode method_2_code 7 = .ok (.lload_n 2, 1) := by decide +kernel
theorem d5_8 : decode method_2_code 8 = .ok (.lmul, 1) := by decide +kernel
theorem d5_9 : decode method_2_code 9 = .ok (.lsub, 1) := by decide +kernel
theorem d5_10 : decode method_2_code 10 = .ok (.lmul, 1) := by decide +kernel
theorem d5_11 : decode method_2_code 11 = .ok (.lstore_n 2, 1) := by decide +kernel
theorem d5_12 : decode method_2_code 12 = .ok (.lload_n 2, 1) := by decide +kernel
theorem d5_13 : decode method_2_code 13 = .ok (.ldc2_w 7, 3) := by decide +kernel
theorem d5_16 : decode method_2_code 16 = .ok (.lload_n 0, 1) := by decide +kernel
theorem d5_17 : decode method_2_code 17 = .ok (.lload_n 2, 1) := by decide +kernel
theorem d5_18 : decode method_2_code 18 = .ok (.lmul, 1) := by decide +kernel
theorem d5_19 : decode method_2_code 19 = .ok (.lsub, 1) := by decide +kernel
theorem d5_20 : decode method_2_code 20 = .ok (.lmul, 1) := by decide +kernel
theorem d5_21 : decode method_2_code 21 = .ok (.lstore_n 2, 1) := by decide +kernel
theorem d5_22 : decode method_2_code 22 = .ok (.lload_n 2, 1) := by decide +kernel
theorem d5_23 : decode method_2_code 23 = .ok (.ldc2_w 7, 3) := by decide +kernel
theorem d5_26 : decode method_2_code 26 = .ok (.lload_n 0, 1) := by decide +kernel
theorem d5_27 : decode method_2_code 27 = .ok (.lload_n 2, 1) := by decide +kernel
theorem d5_28 : decode method_2_code 28 = .ok (.lmul, 1) := by decide +kernel
theorem d5_29 : decode method_2_code 29 = .ok (.lsub, 1) := by decide +kernel
theorem d5_30 : decode method_2_code 30 = .ok (.lmul, 1) := by decide +kernel
theorem d5_31 : decode method_2_code 31 = .ok (.lstore_n 2, 1) := by decide +kernel
theorem d5_32 : decode method_2_code 32 = .ok (.lload_n 2, 1) := by decide +kernel
theorem d5_33 : decode method_2_code 33 = .ok (.ldc2_w 7, 3) := by decide +kernel
theorem d5_36 : decode method_2_code 36 = .ok (.lload_n 0, 1) := by decide +kernel
theorem d5_37 : decode method_2_code 37 = .ok (.lload_n 2, 1) := by decide +kernel
theorem d5_38 : decode method_2_code 38 = .ok (.lmul, 1) := by decide +kernel
theorem d5_39 : decode method_2_code 39 = .ok (.lsub, 1) := by decide +kernel
theorem d5_40 : decode method_2_code 40 = .ok (.lmul, 1) := by decide +kernel
theorem d5_41 : decode method_2_code 41 = .ok (.lstore_n 2, 1) := by decide +kernel
theorem d5_42 : decode method_2_code 42 = .ok (.lload_n 2, 1) := by decide +kernel
theorem d5_43 : decode method_2_code 43 = .ok (.ldc2_w 7, 3) := by decide +kernel
theorem d5_46 : decode method_2_code 46 = .ok (.lload_n 0, 1) := by decide +kernel
theorem d5_47 : decode method_2_code 47 = .ok (.lload_n 2, 1) := by decide +kernel
theorem d5_48 : decode method_2_code 48 = .ok (.lmul, 1) := by decide +kernel
theorem d5_49 : decode method_2_code 49 = .ok (.lsub, 1) := by decide +kernel
theorem d5_50 : decode method_2_code 50 = .ok (.lmul, 1) := by decide +kernel
theorem d5_51 : decode method_2_code 51 = .ok (.lstore_n 2, 1) := by decide +kernel
theorem d5_52 : decode method_2_code 52 = .ok (.lload_n 2, 1) := by decide +kernel
theorem d5_53 : decode method_2_code 53 = .ok (.lreturn, 1) := by decide +kernel
theorem pn_5 : plainName "com/example/daphnia/daphnia/values/SeededRandomNextLongPinLaw" = true := by first | (simp [plainName, overriddenIn]; done) | decide +kernel
theorem ef_5 (m : MethodId) (x0 : Int64) : entryFrame m #[(.long x0)] 4 = mkF m 0 #[.val (.long x0), .second, .unset, .unset] [] := by first | (simp [entryFrame, mkF, argsToLocals, Value.category]; done) | rfl
set_option maxRecDepth 65536 in
set_option maxHeartbeats 40000000 in
theorem rm5 (l : Launch) (Z : State) (a0 : Array Value) (hw : ∀ d ∈ tables_1, d.before a0 Z = true) (ws : List Jvm.Cond) (q1 : Int64) (h0 : Heap) (n0 : Nat) (Z0 : n0 ≤ h0.size)  :
    own_Met l Z ws (⟨"com/example/daphnia/daphnia/values/SeededRandomNextLongPinLaw", "inverse", "(J)J"⟩ : MethodName) method_2_code 4 (some .long) ({ frames := 0, cells := 0, slots := 0, locals := 0 } : Room) ({ frames := 0, cells := 0, slots := 0, locals := 0 } : Room).cells ({ frames := 0, cells := 0, slots := 0, locals := 0 } : Room).slots #[(.long q1)] h0 (fun v h L => v = some (.long (own_inv q1)) ∧ Fr n0 L ∧ h = h0) := by
  refine own_body (plainFor_of_name pn_5) ?_
  intro p e s m below meth c s₁ hx hby hml hown hnm hlk hret hZ hh X0 e0
  have N0 := Fr.nil n0
  refine own_cast (ef_5 m q1) ?_
  refine own_st (T' := s₁) (g' := (mkF m 1 #[.val (.long q1), .second, .unset, .unset] [(.long q1)])) (fun _ k => XS.lloadN X0.here hx rfl (hb hby d5_0) rfl k) ?_
  refine own_st (T' := s₁) (g' := (mkF m 2 #[.val (.long q1), .second, .val (.long q1), .second] [])) (fun _ k => XS.lstoreN X0.here hx rfl (hb hby d5_1) rfl (l' := #[.val (.long q1), .second, .val (.long q1), .second]) rfl k) ?_
  refine own_st (T' := s₁) (g' := (mkF m 3 #[.val (.long q1), .second, .val (.long q1), .second] [(.long q1)])) (fun _ k => XS.lloadN X0.here hx rfl (hb hby d5_2) rfl k) ?_
  refine own_st (T' := s₁) (g' := (mkF m 6 #[.val (.long q1), .second, .val (.long q1), .second] [(.long (2 : Int64)), (.long q1)])) (fun _ k => X0.ldc2Long hx hown (mvT hZ (own_w hw 28 rfl)) (g := (mkF m 3 #[.val (.long q1), .second, .val (.long q1), .second] [(.long q1)])) rfl (hb hby d5_3) _ k) ?_
  refine own_st (T' := s₁) (g' := (mkF m 7 #[.val (.long q1), .second, .val (.long q1), .second] [(.long q1), (.long (2 : Int64)), (.long q1)])) (fun _ k => XS.lloadN X0.here hx rfl (hb hby d5_6) rfl k) ?_
  refine own_st (T' := s₁) (g' := (mkF m 8 #[.val (.long q1), .second, .val (.long q1), .second] [(.long q1), (.long q1), (.long (2 : Int64)), (.long q1)])) (fun _ k => XS.lloadN X0.here hx rfl (hb hby d5_7) rfl k) ?_
  refine own_st (T' := s₁) (g' := (mkF m 9 #[.val (.long q1), .second, .val (.long q1), .second] [(.long (q1 * q1)), (.long (2 : Int64)), (.long q1)])) (fun _ k => XS.lmul X0.here hx rfl (hb hby d5_8) rfl k) ?_
  refine own_st (T' := s₁) (g' := (mkF m 10 #[.val (.long q1), .second, .val (.long q1), .second] [(.long ((2 : Int64) - (q1 * q1))), (.long q1)])) (fun _ k => XS.lsub X0.here hx rfl (hb hby d5_9) rfl k) ?_
  refine own_st (T' := s₁) (g' := (mkF m 11 #[.val (.long q1), .second, .val (.long q1), .second] [(.long (q1 * ((2 : Int64) - (q1 * q1))))])) (fun _ k => XS.lmul X0.here hx rfl (hb hby d5_10) rfl k) ?_
  generalize hx1 : (q1 * ((2 : Int64) - (q1 * q1))) = x1
  refine own_st (T' := s₁) (g' := (mkF m 12 #[.val (.long q1), .second, .val (.long x1), .second] [])) (fun _ k => XS.lstoreN X0.here hx rfl (hb hby d5_11) rfl (l' := #[.val (.long q1), .second, .val (.long x1), .second]) rfl k) ?_
  refine own_st (T' := s₁) (g' := (mkF m 13 #[.val (.long q1), .second, .val (.long x1), .second] [(.long x1)])) (fun _ k => XS.lloadN X0.here hx rfl (hb hby d5_12) rfl k) ?_
  refine own_st (T' := s₁) (g' := (mkF m 16 #[.val (.long q1), .second, .val (.long x1), .second] [(.long (2 : Int64)), (.long x1)])) (fun _ k => X0.ldc2Long hx hown (mvT hZ (own_w hw 28 rfl)) (g := (mkF m 13 #[.val (.long q1), .second, .val (.long x1), .second] [(.long x1)])) rfl (hb hby d5_13) _ k) ?_
  refine own_st (T' := s₁) (g' := (mkF m 17 #[.val (.long q1), .second, .val (.long x1), .second] [(.long q1), (.long (2 : Int64)), (.long x1)])) (fun _ k => XS.lloadN X0.here hx rfl (hb hby d5_16) rfl k) ?_
  refine own_st (T' := s₁) (g' := (mkF m 18 #[.val (.long q1), .second, .val (.long x1), .second] [(.long x1), (.long q1), (.long (2 : Int64)), (.long x1)])) (fun _ k => XS.lloadN X0.here hx rfl (hb hby d5_17) rfl k) ?_
  refine own_st (T' := s₁) (g' := (mkF m 19 #[.val (.long q1), .second, .val (.long x1), .second] [(.long (q1 * x1)), (.long (2 : Int64)), (.long x1)])) (fun _ k => XS.lmul X0.here hx rfl (hb hby d5_18) rfl k) ?_
  refine own_st (T' := s₁) (g' := (mkF m 20 #[.val (.long q1), .second, .val (.long x1), .second] [(.long ((2 : Int64) - (q1 * x1))), (.long x1)])) (fun _ k => XS.lsub X0.here hx rfl (hb hby d5_19) rfl k) ?_
  refine own_st (T' := s₁) (g' := (mkF m 21 #[.val (.long q1), .second, .val (.long x1), .second] [(.long (x1 * ((2 : Int64) - (q1 * x1))))])) (fun _ k => XS.lmul X0.here hx rfl (hb hby d5_20) rfl k) ?_
  generalize hx2 : (x1 * ((2 : Int64) - (q1 * x1))) = x2
  refine own_st (T' := s₁) (g' := (mkF m 22 #[.val (.long q1), .second, .val (.long x2), .second] [])) (fun _ k => XS.lstoreN X0.here hx rfl (hb hby d5_21) rfl (l' := #[.val (.long q1), .second, .val (.long x2), .second]) rfl k) ?_
  refine own_st (T' := s₁) (g' := (mkF m 23 #[.val (.long q1), .second, .val (.long x2), .second] [(.long x2)])) (fun _ k => XS.lloadN X0.here hx rfl (hb hby d5_22) rfl k) ?_
  refine own_st (T' := s₁) (g' := (mkF m 26 #[.val (.long q1), .second, .val (.long x2), .second] [(.long (2 : Int64)), (.long x2)])) (fun _ k => X0.ldc2Long hx hown (mvT hZ (own_w hw 28 rfl)) (g := (mkF m 23 #[.val (.long q1), .second, .val (.long x2), .second] [(.long x2)])) rfl (hb hby d5_23) _ k) ?_
  refine own_st (T' := s₁) (g' := (mkF m 27 #[.val (.long q1), .second, .val (.long x2), .second] [(.long q1), (.long (2 : Int64)), (.long x2)])) (fun _ k => XS.lloadN X0.here hx rfl (hb hby d5_26) rfl k) ?_
  refine own_st (T' := s₁) (g' := (mkF m 28 #[.val (.long q1), .second, .val (.long x2), .second] [(.long x2), (.long q1), (.long (2 : Int64)), (.long x2)])) (fun _ k => XS.lloadN X0.here hx rfl (hb hby d5_27) rfl k) ?_
  refine own_st (T' := s₁) (g' := (mkF m 29 #[.val (.long q1), .second, .val (.long x2), .second] [(.long (q1 * x2)), (.long (2 : Int64)), (.long x2)])) (fun _ k => XS.lmul X0.here hx rfl (hb hby d5_28) rfl k) ?_
  refine own_st (T' := s₁) (g' := (mkF m 30 #[.val (.long q1), .second, .val (.long x2), .second] [(.long ((2 : Int64) - (q1 * x2))), (.long x2)])) (fun _ k => XS.lsub X0.here hx rfl (hb hby d5_29) rfl k) ?_
  refine own_st (T' := s₁) (g' := (mkF m 31 #[.val (.long q1), .second, .val (.long x2), .second] [(.long (x2 * ((2 : Int64) - (q1 * x2))))])) (fun _ k => XS.lmul X0.here hx rfl (hb hby d5_30) rfl k) ?_
  generalize hx3 : (x2 * ((2 : Int64) - (q1 * x2))) = x3
  refine own_st (T' := s₁) (g' := (mkF m 32 #[.val (.long q1), .second, .val (.long x3), .second] [])) (fun _ k => XS.lstoreN X0.here hx rfl (hb hby d5_31) rfl (l' := #[.val (.long q1), .second, .val (.long x3), .second]) rfl k) ?_
  refine own_st (T' := s₁) (g' := (mkF m 33 #[.val (.long q1), .second, .val (.long x3), .second] [(.long x3)])) (fun _ k => XS.lloadN X0.here hx rfl (hb hby d5_32) rfl k) ?_
  refine own_st (T' := s₁) (g' := (mkF m 36 #[.val (.long q1), .second, .val (.long x3), .second] [(.long (2 : Int64)), (.long x3)])) (fun _ k => X0.ldc2Long hx hown (mvT hZ (own_w hw 28 rfl)) (g := (mkF m 33 #[.val (.long q1), .second, .val (.long x3), .second] [(.long x3)])) rfl (hb hby d5_33) _ k) ?_
  refine own_st (T' := s₁) (g' := (mkF m 37 #[.val (.long q1), .second, .val (.long x3), .second] [(.long q1), (.long (2 : Int64)), (.long x3)])) (fun _ k => XS.lloadN X0.here hx rfl (hb hby d5_36) rfl k) ?_
  refine own_st (T' := s₁) (g' := (mkF m 38 #[.val (.long q1), .second, .val (.long x3), .second] [(.long x3), (.long q1), (.long (2 : Int64)), (.long x3)])) (fun _ k => XS.lloadN X0.here hx rfl (hb hby d5_37) rfl k) ?_
  refine own_st (T' := s₁) (g' := (mkF m 39 #[.val (.long q1), .second, .val (.long x3), .second] [(.long (q1 * x3)), (.long (2 : Int64)), (.long x3)])) (fun _ k => XS.lmul X0.here hx rfl (hb hby d5_38) rfl k) ?_
  refine own_st (T' := s₁) (g' := (mkF m 40 #[.val (.long q1), .second, .val (.long x3), .second] [(.long ((2 : Int64) - (q1 * x3))), (.long x3)])) (fun _ k => XS.lsub X0.here hx rfl (hb hby d5_39) rfl k) ?_
  refine own_st (T' := s₁) (g' := (mkF m 41 #[.val (.long q1), .second, .val (.long x3), .second] [(.long (x3 * ((2 : Int64) - (q1 * x3))))])) (fun _ k => XS.lmul X0.here hx rfl (hb hby d5_40) rfl k) ?_
  generalize hx4 : (x3 * ((2 : Int64) - (q1 * x3))) = x4
  refine own_st (T' := s₁) (g' := (mkF m 42 #[.val (.long q1), .second, .val (.long x4), .second] [])) (fun _ k => XS.lstoreN X0.here hx rfl (hb hby d5_41) rfl (l' := #[.val (.long q1), .second, .val (.long x4), .second]) rfl k) ?_
  refine own_st (T' := s₁) (g' := (mkF m 43 #[.val (.long q1), .second, .val (.long x4), .second] [(.long x4)])) (fun _ k => XS.lloadN X0.here hx rfl (hb hby d5_42) rfl k) ?_
  refine own_st (T' := s₁) (g' := (mkF m 46 #[.val (.long q1), .second, .val (.long x4), .second] [(.long (2 : Int64)), (.long x4)])) (fun _ k => X0.ldc2Long hx hown (mvT hZ (own_w hw 28 rfl)) (g := (mkF m 43 #[.val (.long q1), .second, .val (.long x4), .second] [(.long x4)])) rfl (hb hby d5_43) _ k) ?_
  refine own_st (T' := s₁) (g' := (mkF m 47 #[.val (.long q1), .second, .val (.long x4), .second] [(.long q1), (.long (2 : Int64)), (.long x4)])) (fun _ k => XS.lloadN X0.here hx rfl (hb hby d5_46) rfl k) ?_
  refine own_st (T' := s₁) (g' := (mkF m 48 #[.val (.long q1), .second, .val (.long x4), .second] [(.long x4), (.long q1), (.long (2 : Int64)), (.long x4)])) (fun _ k => XS.lloadN X0.here hx rfl (hb hby d5_47) rfl k) ?_
  refine own_st (T' := s₁) (g' := (mkF m 49 #[.val (.long q1), .second, .val (.long x4), .second] [(.long (q1 * x4)), (.long (2 : Int64)), (.long x4)])) (fun _ k => XS.lmul X0.here hx rfl (hb hby d5_48) rfl k) ?_
  refine own_st (T' := s₁) (g' := (mkF m 50 #[.val (.long q1), .second, .val (.long x4), .second] [(.long ((2 : Int64) - (q1 * x4))), (.long x4)])) (fun _ k => XS.lsub X0.here hx rfl (hb hby d5_49) rfl k) ?_
  refine own_st (T' := s₁) (g' := (mkF m 51 #[.val (.long q1), .second, .val (.long x4), .second] [(.long (x4 * ((2 : Int64) - (q1 * x4))))])) (fun _ k => XS.lmul X0.here hx rfl (hb hby d5_50) rfl k) ?_
  generalize hx5 : (x4 * ((2 : Int64) - (q1 * x4))) = x5
  refine own_st (T' := s₁) (g' := (mkF m 52 #[.val (.long q1), .second, .val (.long x5), .second] [])) (fun _ k => XS.lstoreN X0.here hx rfl (hb hby d5_51) rfl (l' := #[.val (.long q1), .second, .val (.long x5), .second]) rfl k) ?_
  refine own_st (T' := s₁) (g' := (mkF m 53 #[.val (.long q1), .second, .val (.long x5), .second] [(.long x5)])) (fun _ k => XS.lloadN X0.here hx rfl (hb hby d5_52) rfl k) ?_
  exact own_retJ X0 hx hlk hret (hb hby d5_53) ⟨by subst hx5 hx4 hx3 hx2 hx1; rfl, N0, e0⟩ (by decide) (by decide)
theorem d4_0 : decode method_3_code 0 = .ok (.lload_n 0, 1) := by decide +kernel
theorem d4_1 : decode method_3_code 1 = .ok (.lload_n 0, 1) := by decide +kernel
theorem d4_2 : decode method_3_code 2 = .ok (.bipush 31, 2) := by decide +kernel
theorem d4_4 : decode method_3_code 4 = .ok (.lushr, 1) := by decide +kernel
theorem d4_5 : decode method_3_code 5 = .ok (.lxor, 1) := by decide +kernel
theorem d4_6 : decode method_3_code 6 = .ok (.lload_n 0, 1) := by decide +kernel
theorem d4_7 : decode method_3_code 7 = .ok (.bipush 62, 2) := by decide +kernel
theorem d4_9 : decode method_3_code 9 = .ok (.lushr, 1) := by decide +kernel
theorem d4_10 : decode method_3_code 10 = .ok (.lxor, 1) := by decide +kernel
theorem d4_11 : decode method_3_code 11 = .ok (.lstore_n 2, 1) := by decide +kernel
theorem d4_12 : decode method_3_code 12 = .ok (.lload_n 2, 1) := by decide +kernel
theorem d4_13 : decode method_3_code 13 = .ok (.ldc2_w 9, 3) := by decide +kernel
theorem d4_16 : decode method_3_code 16 = .ok (.invokestatic 11, 3) := by decide +kernel
theorem d4_19 : decode method_3_code 19 = .ok (.lmul, 1) := by decide +kernel
theorem d4_20 : decode method_3_code 20 = .ok (.lstore_n 2, 1) := by decide +kernel
theorem d4_21 : decode method_3_code 21 = .ok (.lload_n 2, 1) := by decide +kernel
theorem d4_22 : decode method_3_code 22 = .ok (.lload_n 2, 1) := by decide +kernel
theorem d4_23 : decode method_3_code 23 = .ok (.bipush 27, 2) := by decide +kernel
theorem d4_25 : decode method_3_code 25 = .ok (.lushr, 1) := by decide +kernel
theorem d4_26 : decode method_3_code 26 = .ok (.lxor, 1) := by decide +kernel
theorem d4_27 : decode method_3_code 27 = .ok (.lload_n 2, 1) := by decide +kernel
theorem d4_28 : decode method_3_code 28 = .ok (.bipush 54, 2) := by decide +kernel
theorem d4_30 : decode method_3_code 30 = .ok (.lushr, 1) := by decide +kernel
theorem d4_31 : decode method_3_code 31 = .ok (.lxor, 1) := by decide +kernel
theorem d4_32 : decode method_3_code 32 = .ok (.lstore_n 2, 1) := by decide +kernel
theorem d4_33 : decode method_3_code 33 = .ok (.lload_n 2, 1) := by decide +kernel
theorem d4_34 : decode method_3_code 34 = .ok (.ldc2_w 17, 3) := by decide +kernel
theorem d4_37 : decode method_3_code 37 = .ok (.invokestatic 11, 3) := by decide +kernel
theorem d4_40 : decode method_3_code 40 = .ok (.lmul, 1) := by decide +kernel
theorem d4_41 : decode method_3_code 41 = .ok (.lstore_n 2, 1) := by decide +kernel
theorem d4_42 : decode method_3_code 42 = .ok (.lload_n 2, 1) := by decide +kernel
theorem d4_43 : decode method_3_code 43 = .ok (.lload_n 2, 1) := by decide +kernel
theorem d4_44 : decode method_3_code 44 = .ok (.bipush 30, 2) := by decide +kernel
theorem d4_46 : decode method_3_code 46 = .ok (.lushr, 1) := by decide +kernel
theorem d4_47 : decode method_3_code 47 = .ok (.lxor, 1) := by decide +kernel
theorem d4_48 : decode method_3_code 48 = .ok (.lload_n 2, 1) := by decide +kernel
theorem d4_49 : decode method_3_code 49 = .ok (.bipush 60, 2) := by decide +kernel
theorem d4_51 : decode method_3_code 51 = .ok (.lushr, 1) := by decide +kernel
theorem d4_52 : decode method_3_code 52 = .ok (.lxor, 1) := by decide +kernel
theorem d4_53 : decode method_3_code 53 = .ok (.lstore_n 2, 1) := by decide +kernel
theorem d4_54 : decode method_3_code 54 = .ok (.lload_n 2, 1) := by decide +kernel
theorem d4_55 : decode method_3_code 55 = .ok (.lreturn, 1) := by decide +kernel
theorem pn_4 : plainName "com/example/daphnia/daphnia/values/SeededRandomNextLongPinLaw" = true := by first | (simp [plainName, overriddenIn]; done) | decide +kernel
theorem ef_4 (m : MethodId) (x0 : Int64) : entryFrame m #[(.long x0)] 4 = mkF m 0 #[.val (.long x0), .second, .unset, .unset] [] := by first | (simp [entryFrame, mkF, argsToLocals, Value.category]; done) | rfl
set_option maxRecDepth 65536 in
set_option maxHeartbeats 40000000 in
theorem rm4 (l : Launch) (Z : State) (a0 : Array Value) (hw : ∀ d ∈ tables_1, d.before a0 Z = true) (ws : List Jvm.Cond) (q1 : Int64) (h0 : Heap) (n0 : Nat) (Z0 : n0 ≤ h0.size)  :
    own_Met l Z ws (⟨"com/example/daphnia/daphnia/values/SeededRandomNextLongPinLaw", "unmix", "(J)J"⟩ : MethodName) method_3_code 4 (some .long) ({ frames := 1, cells := 0, slots := 0, locals := 17 } : Room) ({ frames := 1, cells := 0, slots := 0, locals := 17 } : Room).cells ({ frames := 1, cells := 0, slots := 0, locals := 17 } : Room).slots #[(.long q1)] h0 (fun v h L => v = some (.long (own_unmix q1)) ∧ Fr n0 L ∧ h = h0) := by
  refine own_body (plainFor_of_name pn_4) ?_
  intro p e s m below meth c s₁ hx hby hml hown hnm hlk hret hZ hh X0 e0
  have N0 := Fr.nil n0
  refine own_cast (ef_4 m q1) ?_
  refine own_st (T' := s₁) (g' := (mkF m 1 #[.val (.long q1), .second, .unset, .unset] [(.long q1)])) (fun _ k => XS.lloadN X0.here hx rfl (hb hby d4_0) rfl k) ?_
  refine own_st (T' := s₁) (g' := (mkF m 2 #[.val (.long q1), .second, .unset, .unset] [(.long q1), (.long q1)])) (fun _ k => XS.lloadN X0.here hx rfl (hb hby d4_1) rfl k) ?_
  refine own_st (T' := s₁) (g' := (mkF m 4 #[.val (.long q1), .second, .unset, .unset] [(.int (31 : Int32)), (.long q1), (.long q1)])) (fun _ k => XS.bipush X0.here hx rfl (hb hby d4_2) k) ?_
  refine own_st (T' := s₁) (g' := (mkF m 5 #[.val (.long q1), .second, .unset, .unset] [(.long ((q1.toUInt64 >>> ((31 : Int32) &&& 0x3f).toInt64.toUInt64).toInt64)), (.long q1)])) (fun _ k => XS.lushr X0.here hx rfl (hb hby d4_4) rfl k) ?_
  refine own_st (T' := s₁) (g' := (mkF m 6 #[.val (.long q1), .second, .unset, .unset] [(.long (q1 ^^^ ((q1.toUInt64 >>> ((31 : Int32) &&& 0x3f).toInt64.toUInt64).toInt64)))])) (fun _ k => XS.lxor X0.here hx rfl (hb hby d4_5) rfl k) ?_
  refine own_st (T' := s₁) (g' := (mkF m 7 #[.val (.long q1), .second, .unset, .unset] [(.long q1), (.long (q1 ^^^ ((q1.toUInt64 >>> ((31 : Int32) &&& 0x3f).toInt64.toUInt64).toInt64)))])) (fun _ k => XS.lloadN X0.here hx rfl (hb hby d4_6) rfl k) ?_
  refine own_st (T' := s₁) (g' := (mkF m 9 #[.val (.long q1), .second, .unset, .unset] [(.int (62 : Int32)), (.long q1), (.long (q1 ^^^ ((q1.toUInt64 >>> ((31 : Int32) &&& 0x3f).toInt64.toUInt64).toInt64)))])) (fun _ k => XS.bipush X0.here hx rfl (hb hby d4_7) k) ?_
  refine own_st (T' := s₁) (g' := (mkF m 10 #[.val (.long q1), .second, .unset, .unset] [(.long ((q1.toUInt64 >>> ((62 : Int32) &&& 0x3f).toInt64.toUInt64).toInt64)), (.long (q1 ^^^ ((q1.toUInt64 >>> ((31 : Int32) &&& 0x3f).toInt64.toUInt64).toInt64)))])) (fun _ k => XS.lushr X0.here hx rfl (hb hby d4_9) rfl k) ?_
  refine own_st (T' := s₁) (g' := (mkF m 11 #[.val (.long q1), .second, .unset, .unset] [(.long ((q1 ^^^ ((q1.toUInt64 >>> ((31 : Int32) &&& 0x3f).toInt64.toUInt64).toInt64)) ^^^ ((q1.toUInt64 >>> ((62 : Int32) &&& 0x3f).toInt64.toUInt64).toInt64)))])) (fun _ k => XS.lxor X0.here hx rfl (hb hby d4_10) rfl k) ?_
  generalize hu1 : ((q1 ^^^ ((q1.toUInt64 >>> ((31 : Int32) &&& 0x3f).toInt64.toUInt64).toInt64)) ^^^ ((q1.toUInt64 >>> ((62 : Int32) &&& 0x3f).toInt64.toUInt64).toInt64)) = u1
  refine own_st (T' := s₁) (g' := (mkF m 12 #[.val (.long q1), .second, .val (.long u1), .second] [])) (fun _ k => XS.lstoreN X0.here hx rfl (hb hby d4_11) rfl (l' := #[.val (.long q1), .second, .val (.long u1), .second]) rfl k) ?_
  refine own_st (T' := s₁) (g' := (mkF m 13 #[.val (.long q1), .second, .val (.long u1), .second] [(.long u1)])) (fun _ k => XS.lloadN X0.here hx rfl (hb hby d4_12) rfl k) ?_
  refine own_st (T' := s₁) (g' := (mkF m 16 #[.val (.long q1), .second, .val (.long u1), .second] [(.long (-7723592293110705685 : Int64)), (.long u1)])) (fun _ k => X0.ldc2Long hx hown (mvT hZ (own_w hw 24 rfl)) (g := (mkF m 13 #[.val (.long q1), .second, .val (.long u1), .second] [(.long u1)])) rfl (hb hby d4_13) _ k) ?_
  refine own_callS X0 hx hZ (y := (⟨"com/example/daphnia/daphnia/values/SeededRandomNextLongPinLaw", "inverse", "(J)J"⟩ : MethodName)) hown (own_w hw 25 rfl) (own_w hw 26 rfl) (own_w hw 22 rfl) (own_w hw 27 rfl) (by decide) (W := 2) e0 (argsL := [(.long (-7723592293110705685 : Int64))]) (rest := [(.long u1)]) (rm5 l Z a0 hw [] (-7723592293110705685 : Int64) h0 n0 Z0) (by decide) (by decide) (by decide) (by decide) (g := (mkF m 16 #[.val (.long q1), .second, .val (.long u1), .second] [(.long (-7723592293110705685 : Int64)), (.long u1)])) rfl (by rw [hml]; rfl) (lenOf own_pd0 rfl) rfl (by show 2 * 0 + _ ≤ _; exact Nat.le_of_eq rfl) (hb hby d4_16) ?_
  rintro _ T1 L1 X1 ⟨rfl, N1q, e1⟩
  show own_Go _ _ _ _ _ _ _ T1 (mkF m 19 #[.val (.long q1), .second, .val (.long u1), .second] [(.long (own_inv (-7723592293110705685 : Int64))), (.long u1)])
  have N1 := Fr.app N0 N1q
  refine own_st (T' := T1) (g' := (mkF m 20 #[.val (.long q1), .second, .val (.long u1), .second] [(.long (u1 * (own_inv (-7723592293110705685 : Int64))))])) (fun _ k => XS.lmul X1.here hx rfl (hb hby d4_19) rfl k) ?_
  generalize hu2 : (u1 * (own_inv (-7723592293110705685 : Int64))) = u2
  refine own_st (T' := T1) (g' := (mkF m 21 #[.val (.long q1), .second, .val (.long u2), .second] [])) (fun _ k => XS.lstoreN X1.here hx rfl (hb hby d4_20) rfl (l' := #[.val (.long q1), .second, .val (.long u2), .second]) rfl k) ?_
  refine own_st (T' := T1) (g' := (mkF m 22 #[.val (.long q1), .second, .val (.long u2), .second] [(.long u2)])) (fun _ k => XS.lloadN X1.here hx rfl (hb hby d4_21) rfl k) ?_
  refine own_st (T' := T1) (g' := (mkF m 23 #[.val (.long q1), .second, .val (.long u2), .second] [(.long u2), (.long u2)])) (fun _ k => XS.lloadN X1.here hx rfl (hb hby d4_22) rfl k) ?_
  refine own_st (T' := T1) (g' := (mkF m 25 #[.val (.long q1), .second, .val (.long u2), .second] [(.int (27 : Int32)), (.long u2), (.long u2)])) (fun _ k => XS.bipush X1.here hx rfl (hb hby d4_23) k) ?_
  refine own_st (T' := T1) (g' := (mkF m 26 #[.val (.long q1), .second, .val (.long u2), .second] [(.long ((u2.toUInt64 >>> ((27 : Int32) &&& 0x3f).toInt64.toUInt64).toInt64)), (.long u2)])) (fun _ k => XS.lushr X1.here hx rfl (hb hby d4_25) rfl k) ?_
  refine own_st (T' := T1) (g' := (mkF m 27 #[.val (.long q1), .second, .val (.long u2), .second] [(.long (u2 ^^^ ((u2.toUInt64 >>> ((27 : Int32) &&& 0x3f).toInt64.toUInt64).toInt64)))])) (fun _ k => XS.lxor X1.here hx rfl (hb hby d4_26) rfl k) ?_
  refine own_st (T' := T1) (g' := (mkF m 28 #[.val (.long q1), .second, .val (.long u2), .second] [(.long u2), (.long (u2 ^^^ ((u2.toUInt64 >>> ((27 : Int32) &&& 0x3f).toInt64.toUInt64).toInt64)))])) (fun _ k => XS.lloadN X1.here hx rfl (hb hby d4_27) rfl k) ?_
  refine own_st (T' := T1) (g' := (mkF m 30 #[.val (.long q1), .second, .val (.long u2), .second] [(.int (54 : Int32)), (.long u2), (.long (u2 ^^^ ((u2.toUInt64 >>> ((27 : Int32) &&& 0x3f).toInt64.toUInt64).toInt64)))])) (fun _ k => XS.bipush X1.here hx rfl (hb hby d4_28) k) ?_
  refine own_st (T' := T1) (g' := (mkF m 31 #[.val (.long q1), .second, .val (.long u2), .second] [(.long ((u2.toUInt64 >>> ((54 : Int32) &&& 0x3f).toInt64.toUInt64).toInt64)), (.long (u2 ^^^ ((u2.toUInt64 >>> ((27 : Int32) &&& 0x3f).toInt64.toUInt64).toInt64)))])) (fun _ k => XS.lushr X1.here hx rfl (hb hby d4_30) rfl k) ?_
  refine own_st (T' := T1) (g' := (mkF m 32 #[.val (.long q1), .second, .val (.long u2), .second] [(.long ((u2 ^^^ ((u2.toUInt64 >>> ((27 : Int32) &&& 0x3f).toInt64.toUInt64).toInt64)) ^^^ ((u2.toUInt64 >>> ((54 : Int32) &&& 0x3f).toInt64.toUInt64).toInt64)))])) (fun _ k => XS.lxor X1.here hx rfl (hb hby d4_31) rfl k) ?_
  generalize hu3 : ((u2 ^^^ ((u2.toUInt64 >>> ((27 : Int32) &&& 0x3f).toInt64.toUInt64).toInt64)) ^^^ ((u2.toUInt64 >>> ((54 : Int32) &&& 0x3f).toInt64.toUInt64).toInt64)) = u3
  refine own_st (T' := T1) (g' := (mkF m 33 #[.val (.long q1), .second, .val (.long u3), .second] [])) (fun _ k => XS.lstoreN X1.here hx rfl (hb hby d4_32) rfl (l' := #[.val (.long q1), .second, .val (.long u3), .second]) rfl k) ?_
  refine own_st (T' := T1) (g' := (mkF m 34 #[.val (.long q1), .second, .val (.long u3), .second] [(.long u3)])) (fun _ k => XS.lloadN X1.here hx rfl (hb hby d4_33) rfl k) ?_
  refine own_st (T' := T1) (g' := (mkF m 37 #[.val (.long q1), .second, .val (.long u3), .second] [(.long (-4658895280553007687 : Int64)), (.long u3)])) (fun _ k => X1.ldc2Long hx hown (mvT hZ (own_w hw 29 rfl)) (g := (mkF m 34 #[.val (.long q1), .second, .val (.long u3), .second] [(.long u3)])) rfl (hb hby d4_34) _ k) ?_
  refine own_callS X1 hx hZ (y := (⟨"com/example/daphnia/daphnia/values/SeededRandomNextLongPinLaw", "inverse", "(J)J"⟩ : MethodName)) hown (own_w hw 25 rfl) (own_w hw 26 rfl) (own_w hw 22 rfl) (own_w hw 27 rfl) (by decide) (W := 2) e1 (argsL := [(.long (-4658895280553007687 : Int64))]) (rest := [(.long u3)]) (rm5 l Z a0 hw [] (-4658895280553007687 : Int64) h0 n0 Z0) (by decide) (by decide) (by decide) (by decide) (g := (mkF m 37 #[.val (.long q1), .second, .val (.long u3), .second] [(.long (-4658895280553007687 : Int64)), (.long u3)])) rfl (by rw [hml]; rfl) (lenOf own_pd0 rfl) rfl (by show 2 * 0 + _ ≤ _; exact Nat.le_of_eq rfl) (hb hby d4_37) ?_
  rintro _ T2 L2 X2 ⟨rfl, N2q, e2⟩
  show own_Go _ _ _ _ _ _ _ T2 (mkF m 40 #[.val (.long q1), .second, .val (.long u3), .second] [(.long (own_inv (-4658895280553007687 : Int64))), (.long u3)])
  have N2 := Fr.app N1 N2q
  refine own_st (T' := T2) (g' := (mkF m 41 #[.val (.long q1), .second, .val (.long u3), .second] [(.long (u3 * (own_inv (-4658895280553007687 : Int64))))])) (fun _ k => XS.lmul X2.here hx rfl (hb hby d4_40) rfl k) ?_
  generalize hu4 : (u3 * (own_inv (-4658895280553007687 : Int64))) = u4
  refine own_st (T' := T2) (g' := (mkF m 42 #[.val (.long q1), .second, .val (.long u4), .second] [])) (fun _ k => XS.lstoreN X2.here hx rfl (hb hby d4_41) rfl (l' := #[.val (.long q1), .second, .val (.long u4), .second]) rfl k) ?_
  refine own_st (T' := T2) (g' := (mkF m 43 #[.val (.long q1), .second, .val (.long u4), .second] [(.long u4)])) (fun _ k => XS.lloadN X2.here hx rfl (hb hby d4_42) rfl k) ?_
  refine own_st (T' := T2) (g' := (mkF m 44 #[.val (.long q1), .second, .val (.long u4), .second] [(.long u4), (.long u4)])) (fun _ k => XS.lloadN X2.here hx rfl (hb hby d4_43) rfl k) ?_
  refine own_st (T' := T2) (g' := (mkF m 46 #[.val (.long q1), .second, .val (.long u4), .second] [(.int (30 : Int32)), (.long u4), (.long u4)])) (fun _ k => XS.bipush X2.here hx rfl (hb hby d4_44) k) ?_
  refine own_st (T' := T2) (g' := (mkF m 47 #[.val (.long q1), .second, .val (.long u4), .second] [(.long ((u4.toUInt64 >>> ((30 : Int32) &&& 0x3f).toInt64.toUInt64).toInt64)), (.long u4)])) (fun _ k => XS.lushr X2.here hx rfl (hb hby d4_46) rfl k) ?_
  refine own_st (T' := T2) (g' := (mkF m 48 #[.val (.long q1), .second, .val (.long u4), .second] [(.long (u4 ^^^ ((u4.toUInt64 >>> ((30 : Int32) &&& 0x3f).toInt64.toUInt64).toInt64)))])) (fun _ k => XS.lxor X2.here hx rfl (hb hby d4_47) rfl k) ?_
  refine own_st (T' := T2) (g' := (mkF m 49 #[.val (.long q1), .second, .val (.long u4), .second] [(.long u4), (.long (u4 ^^^ ((u4.toUInt64 >>> ((30 : Int32) &&& 0x3f).toInt64.toUInt64).toInt64)))])) (fun _ k => XS.lloadN X2.here hx rfl (hb hby d4_48) rfl k) ?_
  refine own_st (T' := T2) (g' := (mkF m 51 #[.val (.long q1), .second, .val (.long u4), .second] [(.int (60 : Int32)), (.long u4), (.long (u4 ^^^ ((u4.toUInt64 >>> ((30 : Int32) &&& 0x3f).toInt64.toUInt64).toInt64)))])) (fun _ k => XS.bipush X2.here hx rfl (hb hby d4_49) k) ?_
  refine own_st (T' := T2) (g' := (mkF m 52 #[.val (.long q1), .second, .val (.long u4), .second] [(.long ((u4.toUInt64 >>> ((60 : Int32) &&& 0x3f).toInt64.toUInt64).toInt64)), (.long (u4 ^^^ ((u4.toUInt64 >>> ((30 : Int32) &&& 0x3f).toInt64.toUInt64).toInt64)))])) (fun _ k => XS.lushr X2.here hx rfl (hb hby d4_51) rfl k) ?_
  refine own_st (T' := T2) (g' := (mkF m 53 #[.val (.long q1), .second, .val (.long u4), .second] [(.long ((u4 ^^^ ((u4.toUInt64 >>> ((30 : Int32) &&& 0x3f).toInt64.toUInt64).toInt64)) ^^^ ((u4.toUInt64 >>> ((60 : Int32) &&& 0x3f).toInt64.toUInt64).toInt64)))])) (fun _ k => XS.lxor X2.here hx rfl (hb hby d4_52) rfl k) ?_
  generalize hu5 : ((u4 ^^^ ((u4.toUInt64 >>> ((30 : Int32) &&& 0x3f).toInt64.toUInt64).toInt64)) ^^^ ((u4.toUInt64 >>> ((60 : Int32) &&& 0x3f).toInt64.toUInt64).toInt64)) = u5
  refine own_st (T' := T2) (g' := (mkF m 54 #[.val (.long q1), .second, .val (.long u5), .second] [])) (fun _ k => XS.lstoreN X2.here hx rfl (hb hby d4_53) rfl (l' := #[.val (.long q1), .second, .val (.long u5), .second]) rfl k) ?_
  refine own_st (T' := T2) (g' := (mkF m 55 #[.val (.long q1), .second, .val (.long u5), .second] [(.long u5)])) (fun _ k => XS.lloadN X2.here hx rfl (hb hby d4_54) rfl k) ?_
  exact own_retJ X2 hx hlk hret (hb hby d4_55) ⟨by subst hu5 hu4 hu3 hu2 hu1; rfl, N2, e2⟩ (by decide) (by decide)
theorem own_xs30 (x : Int64) : (((x ^^^ ((x.toUInt64 >>> ((30 : Int32) &&& 0x3f).toInt64.toUInt64).toInt64)) ^^^ (((x ^^^ ((x.toUInt64 >>> ((30 : Int32) &&& 0x3f).toInt64.toUInt64).toInt64)).toUInt64 >>> ((30 : Int32) &&& 0x3f).toInt64.toUInt64).toInt64)) ^^^ (((x ^^^ ((x.toUInt64 >>> ((30 : Int32) &&& 0x3f).toInt64.toUInt64).toInt64)).toUInt64 >>> ((60 : Int32) &&& 0x3f).toInt64.toUInt64).toInt64)) = x := by
  apply Int64.toBitVec_inj.mp
  have e1 : ((30 : Int32) &&& 0x3f).toInt64.toUInt64 = 30 := by decide
  have e2 : ((60 : Int32) &&& 0x3f).toInt64.toUInt64 = 60 := by decide
  rw [e1, e2]
  simp only [Int64.toBitVec_xor, UInt64.toBitVec_toInt64, UInt64.toBitVec_shiftRight, Int64.toBitVec_toUInt64]
  generalize x.toBitVec = b
  have a1 : ∀ c : BitVec 64, c >>> ((30 : UInt64).toBitVec % 64) = c >>> 30 := fun c => rfl
  have a2 : ∀ c : BitVec 64, c >>> ((60 : UInt64).toBitVec % 64) = c >>> 60 := fun c => rfl
  rw [a1, a1, a2]
  apply BitVec.eq_of_getLsbD_eq
  intro i hi
  simp only [BitVec.getLsbD_xor, BitVec.getLsbD_ushiftRight]
  have z : b.getLsbD (30 + (60 + i)) = false := BitVec.getLsbD_of_ge _ _ (by omega)
  have c1 : 30 + (30 + i) = 60 + i := by omega
  rw [z, c1]
  generalize b.getLsbD i = p; generalize b.getLsbD (30 + i) = q; generalize b.getLsbD (60 + i) = r
  revert p q r; decide
theorem own_xs27 (x : Int64) : (((x ^^^ ((x.toUInt64 >>> ((27 : Int32) &&& 0x3f).toInt64.toUInt64).toInt64)) ^^^ (((x ^^^ ((x.toUInt64 >>> ((27 : Int32) &&& 0x3f).toInt64.toUInt64).toInt64)).toUInt64 >>> ((27 : Int32) &&& 0x3f).toInt64.toUInt64).toInt64)) ^^^ (((x ^^^ ((x.toUInt64 >>> ((27 : Int32) &&& 0x3f).toInt64.toUInt64).toInt64)).toUInt64 >>> ((54 : Int32) &&& 0x3f).toInt64.toUInt64).toInt64)) = x := by
  apply Int64.toBitVec_inj.mp
  have e1 : ((27 : Int32) &&& 0x3f).toInt64.toUInt64 = 27 := by decide
  have e2 : ((54 : Int32) &&& 0x3f).toInt64.toUInt64 = 54 := by decide
  rw [e1, e2]
  simp only [Int64.toBitVec_xor, UInt64.toBitVec_toInt64, UInt64.toBitVec_shiftRight, Int64.toBitVec_toUInt64]
  generalize x.toBitVec = b
  have a1 : ∀ c : BitVec 64, c >>> ((27 : UInt64).toBitVec % 64) = c >>> 27 := fun c => rfl
  have a2 : ∀ c : BitVec 64, c >>> ((54 : UInt64).toBitVec % 64) = c >>> 54 := fun c => rfl
  rw [a1, a1, a2]
  apply BitVec.eq_of_getLsbD_eq
  intro i hi
  simp only [BitVec.getLsbD_xor, BitVec.getLsbD_ushiftRight]
  have z : b.getLsbD (27 + (54 + i)) = false := BitVec.getLsbD_of_ge _ _ (by omega)
  have c1 : 27 + (27 + i) = 54 + i := by omega
  rw [z, c1]
  generalize b.getLsbD i = p; generalize b.getLsbD (27 + i) = q; generalize b.getLsbD (54 + i) = r
  revert p q r; decide
theorem own_xs31 (x : Int64) : (((x ^^^ ((x.toUInt64 >>> ((31 : Int32) &&& 0x3f).toInt64.toUInt64).toInt64)) ^^^ (((x ^^^ ((x.toUInt64 >>> ((31 : Int32) &&& 0x3f).toInt64.toUInt64).toInt64)).toUInt64 >>> ((31 : Int32) &&& 0x3f).toInt64.toUInt64).toInt64)) ^^^ (((x ^^^ ((x.toUInt64 >>> ((31 : Int32) &&& 0x3f).toInt64.toUInt64).toInt64)).toUInt64 >>> ((62 : Int32) &&& 0x3f).toInt64.toUInt64).toInt64)) = x := by
  apply Int64.toBitVec_inj.mp
  have e1 : ((31 : Int32) &&& 0x3f).toInt64.toUInt64 = 31 := by decide
  have e2 : ((62 : Int32) &&& 0x3f).toInt64.toUInt64 = 62 := by decide
  rw [e1, e2]
  simp only [Int64.toBitVec_xor, UInt64.toBitVec_toInt64, UInt64.toBitVec_shiftRight, Int64.toBitVec_toUInt64]
  generalize x.toBitVec = b
  have a1 : ∀ c : BitVec 64, c >>> ((31 : UInt64).toBitVec % 64) = c >>> 31 := fun c => rfl
  have a2 : ∀ c : BitVec 64, c >>> ((62 : UInt64).toBitVec % 64) = c >>> 62 := fun c => rfl
  rw [a1, a1, a2]
  apply BitVec.eq_of_getLsbD_eq
  intro i hi
  simp only [BitVec.getLsbD_xor, BitVec.getLsbD_ushiftRight]
  have z : b.getLsbD (31 + (62 + i)) = false := BitVec.getLsbD_of_ge _ _ (by omega)
  have c1 : 31 + (31 + i) = 62 + i := by omega
  rw [z, c1]
  generalize b.getLsbD i = p; generalize b.getLsbD (31 + i) = q; generalize b.getLsbD (62 + i) = r
  revert p q r; decide
theorem own_inv1 : (-4658895280553007687 : Int64) * own_inv (-4658895280553007687 : Int64) = 1 := by decide +kernel
theorem own_inv2 : (-7723592293110705685 : Int64) * own_inv (-7723592293110705685 : Int64) = 1 := by decide +kernel
theorem own_law (z : Int64) : own_unmix (own_mix z) = z := by
  simp only [own_unmix, own_mix]
  rw [own_xs31, Int64.mul_assoc, own_inv2, Int64.mul_one, own_xs27, Int64.mul_assoc, own_inv1, Int64.mul_one, own_xs30]
theorem pn_0 : plainName "com/example/daphnia/daphnia/values/SeededRandomNextLongPinLaw" = true := by first | (simp [plainName, overriddenIn]; done) | decide +kernel
theorem ef_0 (m : MethodId) (x0 : Int64) : entryFrame m #[(.long x0)] maxLocals = mkF m 0 #[.val (.long x0), .second, .unset, .unset, .unset, .unset, .unset, .unset, .unset] [] := by first | (simp [entryFrame, mkF, argsToLocals, Value.category, maxLocals]; done) | rfl
set_option maxRecDepth 65536 in
set_option maxHeartbeats 40000000 in
theorem rm0 (l : Launch) (Z : State) (a0 : Array Value) (hw : ∀ d ∈ tables_1, d.before a0 Z = true) (ws : List Jvm.Cond) (q1 : Int64) (h0 : Heap) (n0 : Nat) (Z0 : n0 ≤ h0.size)  :
    own_Met l Z ws x code maxLocals ret room_1 16 128 #[(.long q1)] h0 (fun v h L => v = some (.int 1) ∧ Fr n0 L) := by
  refine own_body (plainFor_of_name pn_0) ?_
  intro p e s m below meth c s₁ hx hby hml hown hnm hlk hret hZ hh X0 e0
  have N0 := Fr.nil n0
  refine own_cast (ef_0 m q1) ?_
  refine own_st (T' := s₁) (g' := (mkF m 3 #[.val (.long q1), .second, .unset, .unset, .unset, .unset, .unset, .unset, .unset] [(.long (-7046029254386353131 : Int64))])) (fun _ k => X0.ldc2Long hx hown (mvT hZ (own_w hw 0 rfl)) (g := (mkF m 0 #[.val (.long q1), .second, .unset, .unset, .unset, .unset, .unset, .unset, .unset] [])) rfl (hb hby at_0) _ k) ?_
  refine own_st (T' := s₁) (g' := (mkF m 4 #[.val (.long q1), .second, .val (.long (-7046029254386353131 : Int64)), .second, .unset, .unset, .unset, .unset, .unset] [])) (fun _ k => XS.lstoreN X0.here hx rfl (hb hby at_3) rfl (l' := #[.val (.long q1), .second, .val (.long (-7046029254386353131 : Int64)), .second, .unset, .unset, .unset, .unset, .unset]) rfl k) ?_
  obtain ⟨T1, h1, X1, e1, E1, A1, D1, -, st1⟩ := newO X0 hx hZ hown (own_w hw 1 rfl) (own_w hw 2 rfl) (own_w hw 3 rfl) e0 (g := (mkF m 4 #[.val (.long q1), .second, .val (.long (-7046029254386353131 : Int64)), .second, .unset, .unset, .unset, .unset, .unset] [])) rfl (hb hby at_4) (by decide) (by decide)
  obtain ⟨b1, g1⟩ : ∃ z, z = h0.size := ⟨_, rfl⟩
  rw [← g1] at A1 D1 st1
  have G_b1 : n0 ≤ b1 := Nat.le_trans Z0 (Nat.le_of_eq g1.symm)
  have sz_b1 : h0.size ≤ b1 := Nat.le_trans (Keep.refl h0 []).1 (Nat.le_of_eq g1.symm)
  have F1_state : Fld Z h1 b1 "com/example/daphnia/daphnia/values/SeededRandom" "state" "J" (.long (0 : Int64)) := D1 (Or.inl (own_w hw 11 rfl)) (ty := .long) (by decide)
  refine own_st (g' := (mkF m 7 #[.val (.long q1), .second, .val (.long (-7046029254386353131 : Int64)), .second, .unset, .unset, .unset, .unset, .unset] [(.ref b1)])) st1 ?_
  refine own_st (T' := T1) (g' := (mkF m 8 #[.val (.long q1), .second, .val (.long (-7046029254386353131 : Int64)), .second, .unset, .unset, .unset, .unset, .unset] [(.ref b1), (.ref b1)])) (fun _ k => XS.dup X1.here hx rfl (hb hby at_7) rfl rfl k) ?_
  refine own_st (T' := T1) (g' := (mkF m 9 #[.val (.long q1), .second, .val (.long (-7046029254386353131 : Int64)), .second, .unset, .unset, .unset, .unset, .unset] [(.long q1), (.ref b1), (.ref b1)])) (fun _ k => XS.lloadN X1.here hx rfl (hb hby at_8) rfl k) ?_
  refine own_callC X1 hx hZ (y := (⟨"com/example/daphnia/daphnia/values/SeededRandom", "<init>", "(J)V"⟩ : MethodName)) rfl hown (own_w hw 4 rfl) (own_w hw 5 rfl) (own_w hw 6 rfl) (own_w hw 3 rfl) (by decide) (W := 1) e1 (b := b1) (argsL := [(.long q1)]) (rest := [(.ref b1)]) (rm1 l Z a0 hw [] b1 q1 (0 : Int64) h1 n0 (Nat.le_trans Z0 E1.1) F1_state A1 G_b1) (by decide) (by decide) (by decide) (by decide) (g := (mkF m 9 #[.val (.long q1), .second, .val (.long (-7046029254386353131 : Int64)), .second, .unset, .unset, .unset, .unset, .unset] [(.long q1), (.ref b1), (.ref b1)])) rfl (by rw [hml]; rfl) (lenOf own_pd1 rfl) rfl (by show 2 * 0 + _ ≤ _; exact Nat.le_of_eq rfl) (hb hby at_9) ?_
  rintro _ T2 L2 X2 ⟨rfl, N2q, K2, E2, P2⟩
  show own_Go _ _ _ _ _ _ _ T2 (mkF m 12 #[.val (.long q1), .second, .val (.long (-7046029254386353131 : Int64)), .second, .unset, .unset, .unset, .unset, .unset] [(.ref b1)])
  have N2 := Fr.app N0 N2q
  refine own_st (T' := T2) (g' := (mkF m 14 #[.val (.long q1), .second, .val (.long (-7046029254386353131 : Int64)), .second, .val (.ref b1), .unset, .unset, .unset, .unset] [])) (fun _ k => XS.astore X2.here hx rfl (hb hby at_12) rfl rfl (l' := #[.val (.long q1), .second, .val (.long (-7046029254386353131 : Int64)), .second, .val (.ref b1), .unset, .unset, .unset, .unset]) rfl k) ?_
  refine own_st (T' := T2) (g' := (mkF m 16 #[.val (.long q1), .second, .val (.long (-7046029254386353131 : Int64)), .second, .val (.ref b1), .unset, .unset, .unset, .unset] [(.ref b1)])) (fun _ k => XS.aload X2.here hx rfl (hb hby at_14) rfl rfl k) ?_
  refine own_callV X2 hx hZ (y := (⟨"com/example/daphnia/daphnia/values/SeededRandom", "nextLong", "()J"⟩ : MethodName)) hown (own_w hw 12 rfl) (own_w hw 13 rfl) (own_w hw 15 rfl) (own_w hw 14 rfl) (own_w hw 16 rfl) (own_w hw 3 rfl) (by decide) (W := 0) rfl (b := b1) E2 (argsL := []) (rest := []) (rm3 l Z a0 hw [] b1 q1 T2.heap n0 (Nat.le_trans (Nat.le_trans Z0 E1.1) K2.1) P2 E2 G_b1) (by decide) (by decide) (by decide) (by decide) (g := (mkF m 16 #[.val (.long q1), .second, .val (.long (-7046029254386353131 : Int64)), .second, .val (.ref b1), .unset, .unset, .unset, .unset] [(.ref b1)])) rfl (by rw [hml]; rfl) (lenOf own_pd2 rfl) rfl (by show 2 * 0 + _ ≤ _; exact Nat.le_of_eq rfl) (hb hby at_16) ?_
  rintro _ T3 L3 X3 ⟨rfl, N3q, K3, E3, P3⟩
  show own_Go _ _ _ _ _ _ _ T3 (mkF m 19 #[.val (.long q1), .second, .val (.long (-7046029254386353131 : Int64)), .second, .val (.ref b1), .unset, .unset, .unset, .unset] [(.long (own_mix (q1 + (-7046029254386353131 : Int64))))])
  have N3 := Fr.app N2 N3q
  refine own_st (T' := T3) (g' := (mkF m 21 #[.val (.long q1), .second, .val (.long (-7046029254386353131 : Int64)), .second, .val (.ref b1), .val (.long (own_mix (q1 + (-7046029254386353131 : Int64)))), .second, .unset, .unset] [])) (fun _ k => XS.lstore X3.here hx rfl (hb hby at_19) rfl (l' := #[.val (.long q1), .second, .val (.long (-7046029254386353131 : Int64)), .second, .val (.ref b1), .val (.long (own_mix (q1 + (-7046029254386353131 : Int64)))), .second, .unset, .unset]) rfl k) ?_
  refine own_st (T' := T3) (g' := (mkF m 23 #[.val (.long q1), .second, .val (.long (-7046029254386353131 : Int64)), .second, .val (.ref b1), .val (.long (own_mix (q1 + (-7046029254386353131 : Int64)))), .second, .unset, .unset] [(.ref b1)])) (fun _ k => XS.aload X3.here hx rfl (hb hby at_21) rfl rfl k) ?_
  refine own_callV X3 hx hZ (y := (⟨"com/example/daphnia/daphnia/values/SeededRandom", "nextLong", "()J"⟩ : MethodName)) hown (own_w hw 12 rfl) (own_w hw 13 rfl) (own_w hw 15 rfl) (own_w hw 14 rfl) (own_w hw 16 rfl) (own_w hw 3 rfl) (by decide) (W := 0) rfl (b := b1) E3 (argsL := []) (rest := []) (rm3 l Z a0 hw [] b1 (q1 + (-7046029254386353131 : Int64)) T3.heap n0 (Nat.le_trans (Nat.le_trans (Nat.le_trans Z0 E1.1) K2.1) K3.1) P3 E3 G_b1) (by decide) (by decide) (by decide) (by decide) (g := (mkF m 23 #[.val (.long q1), .second, .val (.long (-7046029254386353131 : Int64)), .second, .val (.ref b1), .val (.long (own_mix (q1 + (-7046029254386353131 : Int64)))), .second, .unset, .unset] [(.ref b1)])) rfl (by rw [hml]; rfl) (lenOf own_pd2 rfl) rfl (by show 2 * 0 + _ ≤ _; exact Nat.le_of_eq rfl) (hb hby at_23) ?_
  rintro _ T4 L4 X4 ⟨rfl, N4q, K4, E4, P4⟩
  show own_Go _ _ _ _ _ _ _ T4 (mkF m 26 #[.val (.long q1), .second, .val (.long (-7046029254386353131 : Int64)), .second, .val (.ref b1), .val (.long (own_mix (q1 + (-7046029254386353131 : Int64)))), .second, .unset, .unset] [(.long (own_mix ((q1 + (-7046029254386353131 : Int64)) + (-7046029254386353131 : Int64))))])
  have N4 := Fr.app N3 N4q
  refine own_st (T' := T4) (g' := (mkF m 28 #[.val (.long q1), .second, .val (.long (-7046029254386353131 : Int64)), .second, .val (.ref b1), .val (.long (own_mix (q1 + (-7046029254386353131 : Int64)))), .second, .val (.long (own_mix ((q1 + (-7046029254386353131 : Int64)) + (-7046029254386353131 : Int64)))), .second] [])) (fun _ k => XS.lstore X4.here hx rfl (hb hby at_26) rfl (l' := #[.val (.long q1), .second, .val (.long (-7046029254386353131 : Int64)), .second, .val (.ref b1), .val (.long (own_mix (q1 + (-7046029254386353131 : Int64)))), .second, .val (.long (own_mix ((q1 + (-7046029254386353131 : Int64)) + (-7046029254386353131 : Int64)))), .second]) rfl k) ?_
  refine own_st (T' := T4) (g' := (mkF m 30 #[.val (.long q1), .second, .val (.long (-7046029254386353131 : Int64)), .second, .val (.ref b1), .val (.long (own_mix (q1 + (-7046029254386353131 : Int64)))), .second, .val (.long (own_mix ((q1 + (-7046029254386353131 : Int64)) + (-7046029254386353131 : Int64)))), .second] [(.long (own_mix (q1 + (-7046029254386353131 : Int64))))])) (fun _ k => XS.lload X4.here hx rfl (hb hby at_28) rfl k) ?_
  refine own_callS X4 hx hZ (y := (⟨"com/example/daphnia/daphnia/values/SeededRandomNextLongPinLaw", "unmix", "(J)J"⟩ : MethodName)) hown (own_w hw 20 rfl) (own_w hw 21 rfl) (own_w hw 22 rfl) (own_w hw 23 rfl) (by decide) (W := 0) rfl (argsL := [(.long (own_mix (q1 + (-7046029254386353131 : Int64))))]) (rest := []) (rm4 l Z a0 hw [] (own_mix (q1 + (-7046029254386353131 : Int64))) T4.heap n0 (Nat.le_trans (Nat.le_trans (Nat.le_trans (Nat.le_trans Z0 E1.1) K2.1) K3.1) K4.1)) (by decide) (by decide) (by decide) (by decide) (g := (mkF m 30 #[.val (.long q1), .second, .val (.long (-7046029254386353131 : Int64)), .second, .val (.ref b1), .val (.long (own_mix (q1 + (-7046029254386353131 : Int64)))), .second, .val (.long (own_mix ((q1 + (-7046029254386353131 : Int64)) + (-7046029254386353131 : Int64)))), .second] [(.long (own_mix (q1 + (-7046029254386353131 : Int64))))])) rfl (by rw [hml]; rfl) (lenOf own_pd0 rfl) rfl (by show 2 * 0 + _ ≤ _; exact Nat.le_of_eq rfl) (hb hby at_30) ?_
  rintro _ T5 L5 X5 ⟨rfl, N5q, e5⟩
  show own_Go _ _ _ _ _ _ _ T5 (mkF m 33 #[.val (.long q1), .second, .val (.long (-7046029254386353131 : Int64)), .second, .val (.ref b1), .val (.long (own_mix (q1 + (-7046029254386353131 : Int64)))), .second, .val (.long (own_mix ((q1 + (-7046029254386353131 : Int64)) + (-7046029254386353131 : Int64)))), .second] [(.long (own_unmix (own_mix (q1 + (-7046029254386353131 : Int64)))))])
  have N5 := Fr.app N4 N5q
  refine own_st (T' := T5) (g' := (mkF m 34 #[.val (.long q1), .second, .val (.long (-7046029254386353131 : Int64)), .second, .val (.ref b1), .val (.long (own_mix (q1 + (-7046029254386353131 : Int64)))), .second, .val (.long (own_mix ((q1 + (-7046029254386353131 : Int64)) + (-7046029254386353131 : Int64)))), .second] [(.long q1), (.long (own_unmix (own_mix (q1 + (-7046029254386353131 : Int64)))))])) (fun _ k => XS.lloadN X5.here hx rfl (hb hby at_33) rfl k) ?_
  refine own_st (T' := T5) (g' := (mkF m 35 #[.val (.long q1), .second, .val (.long (-7046029254386353131 : Int64)), .second, .val (.ref b1), .val (.long (own_mix (q1 + (-7046029254386353131 : Int64)))), .second, .val (.long (own_mix ((q1 + (-7046029254386353131 : Int64)) + (-7046029254386353131 : Int64)))), .second] [(.long (-7046029254386353131 : Int64)), (.long q1), (.long (own_unmix (own_mix (q1 + (-7046029254386353131 : Int64)))))])) (fun _ k => XS.lloadN X5.here hx rfl (hb hby at_34) rfl k) ?_
  refine own_st (T' := T5) (g' := (mkF m 36 #[.val (.long q1), .second, .val (.long (-7046029254386353131 : Int64)), .second, .val (.ref b1), .val (.long (own_mix (q1 + (-7046029254386353131 : Int64)))), .second, .val (.long (own_mix ((q1 + (-7046029254386353131 : Int64)) + (-7046029254386353131 : Int64)))), .second] [(.long (q1 + (-7046029254386353131 : Int64))), (.long (own_unmix (own_mix (q1 + (-7046029254386353131 : Int64)))))])) (fun _ k => XS.ladd X5.here hx rfl (hb hby at_35) rfl k) ?_
  refine own_st (T' := T5) (g' := (mkF m 37 #[.val (.long q1), .second, .val (.long (-7046029254386353131 : Int64)), .second, .val (.ref b1), .val (.long (own_mix (q1 + (-7046029254386353131 : Int64)))), .second, .val (.long (own_mix ((q1 + (-7046029254386353131 : Int64)) + (-7046029254386353131 : Int64)))), .second] [(.int (lcmpW (own_unmix (own_mix (q1 + (-7046029254386353131 : Int64)))) (q1 + (-7046029254386353131 : Int64))))])) (fun _ k => XS.lcmp X5.here hx rfl (hb hby at_36) rfl k) ?_
  refine own_st (T' := T5) (g' := (mkF m 40 #[.val (.long q1), .second, .val (.long (-7046029254386353131 : Int64)), .second, .val (.ref b1), .val (.long (own_mix (q1 + (-7046029254386353131 : Int64)))), .second, .val (.long (own_mix ((q1 + (-7046029254386353131 : Int64)) + (-7046029254386353131 : Int64)))), .second] [])) (fun _ k => XS.ifNo X5.here hx rfl (hb hby at_37) rfl ((if0 _ _).trans (teq ((lw_eq _ _).mpr (own_law _ : ((own_unmix (own_mix (q1 + (-7046029254386353131 : Int64)))) = (q1 + (-7046029254386353131 : Int64)))))).2) k) ?_
  refine own_st (T' := T5) (g' := (mkF m 42 #[.val (.long q1), .second, .val (.long (-7046029254386353131 : Int64)), .second, .val (.ref b1), .val (.long (own_mix (q1 + (-7046029254386353131 : Int64)))), .second, .val (.long (own_mix ((q1 + (-7046029254386353131 : Int64)) + (-7046029254386353131 : Int64)))), .second] [(.long (own_mix ((q1 + (-7046029254386353131 : Int64)) + (-7046029254386353131 : Int64))))])) (fun _ k => XS.lload X5.here hx rfl (hb hby at_40) rfl k) ?_
  refine own_callS X5 hx hZ (y := (⟨"com/example/daphnia/daphnia/values/SeededRandomNextLongPinLaw", "unmix", "(J)J"⟩ : MethodName)) hown (own_w hw 20 rfl) (own_w hw 21 rfl) (own_w hw 22 rfl) (own_w hw 23 rfl) (by decide) (W := 0) e5 (argsL := [(.long (own_mix ((q1 + (-7046029254386353131 : Int64)) + (-7046029254386353131 : Int64))))]) (rest := []) (rm4 l Z a0 hw [] (own_mix ((q1 + (-7046029254386353131 : Int64)) + (-7046029254386353131 : Int64))) T4.heap n0 (Nat.le_trans (Nat.le_trans (Nat.le_trans (Nat.le_trans Z0 E1.1) K2.1) K3.1) K4.1)) (by decide) (by decide) (by decide) (by decide) (g := (mkF m 42 #[.val (.long q1), .second, .val (.long (-7046029254386353131 : Int64)), .second, .val (.ref b1), .val (.long (own_mix (q1 + (-7046029254386353131 : Int64)))), .second, .val (.long (own_mix ((q1 + (-7046029254386353131 : Int64)) + (-7046029254386353131 : Int64)))), .second] [(.long (own_mix ((q1 + (-7046029254386353131 : Int64)) + (-7046029254386353131 : Int64))))])) rfl (by rw [hml]; rfl) (lenOf own_pd0 rfl) rfl (by show 2 * 0 + _ ≤ _; exact Nat.le_of_eq rfl) (hb hby at_42) ?_
  rintro _ T6 L6 X6 ⟨rfl, N6q, e6⟩
  show own_Go _ _ _ _ _ _ _ T6 (mkF m 45 #[.val (.long q1), .second, .val (.long (-7046029254386353131 : Int64)), .second, .val (.ref b1), .val (.long (own_mix (q1 + (-7046029254386353131 : Int64)))), .second, .val (.long (own_mix ((q1 + (-7046029254386353131 : Int64)) + (-7046029254386353131 : Int64)))), .second] [(.long (own_unmix (own_mix ((q1 + (-7046029254386353131 : Int64)) + (-7046029254386353131 : Int64)))))])
  have N6 := Fr.app N5 N6q
  refine own_st (T' := T6) (g' := (mkF m 46 #[.val (.long q1), .second, .val (.long (-7046029254386353131 : Int64)), .second, .val (.ref b1), .val (.long (own_mix (q1 + (-7046029254386353131 : Int64)))), .second, .val (.long (own_mix ((q1 + (-7046029254386353131 : Int64)) + (-7046029254386353131 : Int64)))), .second] [(.long q1), (.long (own_unmix (own_mix ((q1 + (-7046029254386353131 : Int64)) + (-7046029254386353131 : Int64)))))])) (fun _ k => XS.lloadN X6.here hx rfl (hb hby at_45) rfl k) ?_
  refine own_st (T' := T6) (g' := (mkF m 47 #[.val (.long q1), .second, .val (.long (-7046029254386353131 : Int64)), .second, .val (.ref b1), .val (.long (own_mix (q1 + (-7046029254386353131 : Int64)))), .second, .val (.long (own_mix ((q1 + (-7046029254386353131 : Int64)) + (-7046029254386353131 : Int64)))), .second] [(.long (-7046029254386353131 : Int64)), (.long q1), (.long (own_unmix (own_mix ((q1 + (-7046029254386353131 : Int64)) + (-7046029254386353131 : Int64)))))])) (fun _ k => XS.lloadN X6.here hx rfl (hb hby at_46) rfl k) ?_
  refine own_st (T' := T6) (g' := (mkF m 48 #[.val (.long q1), .second, .val (.long (-7046029254386353131 : Int64)), .second, .val (.ref b1), .val (.long (own_mix (q1 + (-7046029254386353131 : Int64)))), .second, .val (.long (own_mix ((q1 + (-7046029254386353131 : Int64)) + (-7046029254386353131 : Int64)))), .second] [(.long (q1 + (-7046029254386353131 : Int64))), (.long (own_unmix (own_mix ((q1 + (-7046029254386353131 : Int64)) + (-7046029254386353131 : Int64)))))])) (fun _ k => XS.ladd X6.here hx rfl (hb hby at_47) rfl k) ?_
  refine own_st (T' := T6) (g' := (mkF m 49 #[.val (.long q1), .second, .val (.long (-7046029254386353131 : Int64)), .second, .val (.ref b1), .val (.long (own_mix (q1 + (-7046029254386353131 : Int64)))), .second, .val (.long (own_mix ((q1 + (-7046029254386353131 : Int64)) + (-7046029254386353131 : Int64)))), .second] [(.long (-7046029254386353131 : Int64)), (.long (q1 + (-7046029254386353131 : Int64))), (.long (own_unmix (own_mix ((q1 + (-7046029254386353131 : Int64)) + (-7046029254386353131 : Int64)))))])) (fun _ k => XS.lloadN X6.here hx rfl (hb hby at_48) rfl k) ?_
  refine own_st (T' := T6) (g' := (mkF m 50 #[.val (.long q1), .second, .val (.long (-7046029254386353131 : Int64)), .second, .val (.ref b1), .val (.long (own_mix (q1 + (-7046029254386353131 : Int64)))), .second, .val (.long (own_mix ((q1 + (-7046029254386353131 : Int64)) + (-7046029254386353131 : Int64)))), .second] [(.long ((q1 + (-7046029254386353131 : Int64)) + (-7046029254386353131 : Int64))), (.long (own_unmix (own_mix ((q1 + (-7046029254386353131 : Int64)) + (-7046029254386353131 : Int64)))))])) (fun _ k => XS.ladd X6.here hx rfl (hb hby at_49) rfl k) ?_
  refine own_st (T' := T6) (g' := (mkF m 51 #[.val (.long q1), .second, .val (.long (-7046029254386353131 : Int64)), .second, .val (.ref b1), .val (.long (own_mix (q1 + (-7046029254386353131 : Int64)))), .second, .val (.long (own_mix ((q1 + (-7046029254386353131 : Int64)) + (-7046029254386353131 : Int64)))), .second] [(.int (lcmpW (own_unmix (own_mix ((q1 + (-7046029254386353131 : Int64)) + (-7046029254386353131 : Int64)))) ((q1 + (-7046029254386353131 : Int64)) + (-7046029254386353131 : Int64))))])) (fun _ k => XS.lcmp X6.here hx rfl (hb hby at_50) rfl k) ?_
  refine own_st (T' := T6) (g' := (mkF m 54 #[.val (.long q1), .second, .val (.long (-7046029254386353131 : Int64)), .second, .val (.ref b1), .val (.long (own_mix (q1 + (-7046029254386353131 : Int64)))), .second, .val (.long (own_mix ((q1 + (-7046029254386353131 : Int64)) + (-7046029254386353131 : Int64)))), .second] [])) (fun _ k => XS.ifNo X6.here hx rfl (hb hby at_51) rfl ((if0 _ _).trans (teq ((lw_eq _ _).mpr (own_law _ : ((own_unmix (own_mix ((q1 + (-7046029254386353131 : Int64)) + (-7046029254386353131 : Int64)))) = ((q1 + (-7046029254386353131 : Int64)) + (-7046029254386353131 : Int64)))))).2) k) ?_
  refine own_st (T' := T6) (g' := (mkF m 55 #[.val (.long q1), .second, .val (.long (-7046029254386353131 : Int64)), .second, .val (.ref b1), .val (.long (own_mix (q1 + (-7046029254386353131 : Int64)))), .second, .val (.long (own_mix ((q1 + (-7046029254386353131 : Int64)) + (-7046029254386353131 : Int64)))), .second] [(.int (1 : Int32))])) (fun _ k => XS.iconst X6.here hx rfl (hb hby at_54) k) ?_
  refine own_st (T' := T6) (g' := (mkF m 59 #[.val (.long q1), .second, .val (.long (-7046029254386353131 : Int64)), .second, .val (.ref b1), .val (.long (own_mix (q1 + (-7046029254386353131 : Int64)))), .second, .val (.long (own_mix ((q1 + (-7046029254386353131 : Int64)) + (-7046029254386353131 : Int64)))), .second] [(.int (1 : Int32))])) (fun _ k => XS.goto X6.here hx rfl (pc0 := 55) (pc' := 59) rfl (hb hby at_55) (by decide) (by decide) k) ?_
  exact own_retN X6 hx hlk hret (by simp) (hb hby at_59) ⟨rfl, N6⟩ (by decide) (by decide)
set_option maxRecDepth 65536 in
set_option maxHeartbeats 40000000 in
theorem comes_1 {Post : Tables → Env → Array Value → State → Outcome → State → Prop} (hpost : ∀ tb e args s v u, (limb_1_1.after args s (.returned v) u = true ∧ limb_1_2.after args s (.returned v) u = true ∧ True) → FrameEnd s (.returned v) u (Jvm.fieldLocs frame_1_writes args s ++ Jvm.arrayLocs frame_1_arrays args s ++ Jvm.staticLocs frame_1_statics s) 16 128 → Post tb e args s (.returned v) u) :
    ArmFor flags0 classFile x code maxLocals ret World_1 tables_1 room_1 Calls_1 rest_1 Pre_1 Post := by
  intro l hfl _ _ p e ha hc hk s m args below hf hA hF happ hP
  obtain ⟨hcalls, hrest, hpre⟩ := hP
  obtain ⟨-, -, -, hnamed, -, -, -, hat⟩ := (Spec.applies_iff hf).mp happ
  obtain ⟨hg, hn⟩ := and_e (Cond.before_iff.mp (show (Jvm.Cond.and given_1 narrow_1).before args s = true from hpre))
  obtain ⟨h1, g0⟩ := and_e hg
  obtain ⟨w0, rfl⟩ : ∃ w0 : Value, args = #[w0] := by
    have hs : args.size = 1 := by simpa [Cond.value, given_1] using h1
    obtain ⟨L⟩ := args
    match L, hs with
    | [w0], _ => exact ⟨w0, rfl⟩
  have hw := fun d (hd : d ∈ tables_1) => atoms_spec (ws := Jvm.Cond.code x code maxLocals ret :: tables_1) hat d (List.mem_cons_of_mem _ hd)
  have hfit : Fit s := fun {y c} hc i hi => by
    obtain ⟨ha, rfl⟩ := Array.getElem?_eq_some_iff.mp hc
    have q := List.all_eq_true.mp ((Array.all_eq_true_iff_forall_mem.mp hF) _ (Array.getElem_mem ha)) i (List.mem_range.mpr hi)
    simpa [Array.getElem?_eq_getElem hi] using q
  obtain ⟨i0, e0⟩ := isL_v g0
  obtain rfl : w0 = (.long i0) := Option.some.inj e0
  obtain ⟨n, o, h1, h2, h3, _, L, rfl, ⟨rfl, N⟩, hq⟩ := rm0 l s _ hw tables_1 i0  s.heap s.heap.size (Nat.le_refl _)  p e ha hc hk s m _ below hf ((Spec.applies_iff_loose hf).mp happ).1 ⟨rfl, State.Warmed39.refl s, rfl⟩ trivial
  refine ⟨n, _, h1, h2, h3, hpost _ _ _ _ _ _ ⟨Cond.after_iff.mpr rfl, Cond.after_iff.mpr (eq_i res_at (Term.int_eval (1)) rfl), trivial⟩ ⟨hq.1, hq.2.1, (hq.2.2.sift fun y hy => Or.inr (N y hy)).mono (by decide) (by decide)⟩⟩
theorem main_1_1 : Claimed_1_1 := comes_1 fun _ _ _ _ _ _ h hF => ⟨h.1, hF⟩
theorem main_1_2 : Claimed_1_2 := comes_1 fun _ _ _ _ _ _ h hF => ⟨h.2.1, hF⟩
end Jvm.Pilot.@@N@@
namespace Jvm.Pilot.@@N@@
open Jvm Jvm.ClassFile Sem Op Lib Jvm.Free Jvm.Stand Jvm.Pilot.@@N@@.Jvm.D
/-! MADE BY PROGRAM (witnessworld.py) out of the Statement's table words and the real class files: 9 classes; the members and pool entries that the words name. The judged class is class 1, her method 3. -/
namespace start1
open Jvm.ClassFile
def u (s : String) : CpInfo := .utf8 (stringToUtf16 s)
/-- a pool by its gaps: so many unusable entries, then the entry; so many at the end -/
def gap : Nat → List CpInfo → List CpInfo
  | 0, r => r
  | n + 1, r => .unusable :: gap n r
def poolList (es : List (Nat × CpInfo)) (last : Nat) : List CpInfo := es.foldr (fun e r => gap e.1 (e.2 :: r)) (gap last [])
def pool (es : List (Nat × CpInfo)) (last : Nat) : Array CpInfo := ⟨poolList es last⟩
def fileOf (pool : Array CpInfo) (this : Nat) (attrs : Array Attribute := #[]) (ms : Array MethodInfo := #[]) (fl : Nat := 33) (sup : Nat := 0) (ifs : Array Nat := #[]) (fds : Array FieldInfo := #[]) : ClassFile where
  minorVersion := 0
  majorVersion := 65
  constantPool := pool
  accessFlags := fl
  thisClass := this
  superClass := sup
  interfaces := ifs
  fields := fds
  methods := ms
  attributes := attrs
def plain (name : String) (sup : Option ClassId) : Class where
  name := name
  kind := .ordinary
  loader := none
  accessFlags := 33
  super := sup
  interfaces := #[]
  cf := none
  fields := #[]
  methods := #[]
  instanceTypes := #[]
  staticTypes := #[]
  resolved := #[]
  callSites := []
  init := .initialized
  statics := none
  mirror := none

def pool0 : Array CpInfo := pool [(5, u "<init>"), (0, u "()V"), (1, .class_ 10), (1, u "java/lang/Object")] 113

def k0c0 : Code := { maxStack := 0, maxLocals := 1, code := object_method_1_code, exceptionTable := #[], attributes := #[] }
def k0m0 : Method := { name := "<init>", desc := "()V", sig := { parameters := [], returnType := none }, accessFlags := 1, code := some k0c0 }
/-- java/lang/Object -/
def k0 : Class := { plain "java/lang/Object" none with
  accessFlags := 33
  interfaces := #[]
  cf := some (fileOf pool0 8 #[] #[{ accessFlags := 1, nameIndex := 5, descriptorIndex := 6, attributes := #[] }] 33 0 #[] #[])
  fields := #[]
  methods := #[k0m0]
  instanceTypes := #[]
  staticTypes := #[]
  resolved := Array.replicate 124 none
  statics := none }

def pool1 : Array CpInfo := pool [(2, .class_ 4), (1, u "java/lang/Object"), (0, u "<init>"), (0, u "()V"), (0, .long 2), (1, .long 10723151780598845931), (1, .methodref 12 13), (0, .class_ 14), (0, .nameAndType 15 16), (0, u "com/example/daphnia/daphnia/values/SeededRandomNextLongPinLaw"), (0, u "inverse"), (0, u "(J)J"), (0, .long 13787848793156543929), (1, .long 11400714819323198485), (1, .class_ 22), (0, u "com/example/daphnia/daphnia/values/SeededRandom"), (0, .methodref 21 24), (0, .nameAndType 5 25), (0, u "(J)V"), (0, .methodref 21 27), (0, .nameAndType 28 29), (0, u "nextLong"), (0, u "()J"), (0, .methodref 12 31), (0, .nameAndType 32 16), (0, u "unmix"), (2, u "law"), (0, u "(J)Z")] 3

def k1m0 : Method := { name := "<init>", desc := "()V", sig := { parameters := [], returnType := none }, accessFlags := 2, code := none }
def k1c1 : Code := { maxStack := 8, maxLocals := 4, code := method_2_code, exceptionTable := #[], attributes := #[] }
def k1m1 : Method := { name := "inverse", desc := "(J)J", sig := { parameters := [.long], returnType := some .long }, accessFlags := 10, code := some k1c1 }
def k1c2 : Code := { maxStack := 5, maxLocals := 4, code := method_3_code, exceptionTable := #[], attributes := #[] }
def k1m2 : Method := { name := "unmix", desc := "(J)J", sig := { parameters := [.long], returnType := some .long }, accessFlags := 10, code := some k1c2 }
def k1c3 : Code := { maxStack := 6, maxLocals := 9, code := code, exceptionTable := #[], attributes := #[] }
def k1m3 : Method := { name := "law", desc := "(J)Z", sig := { parameters := [.long], returnType := some .boolean }, accessFlags := 9, code := some k1c3 }
/-- com/example/daphnia/daphnia/values/SeededRandomNextLongPinLaw -/
def k1 : Class := { plain "com/example/daphnia/daphnia/values/SeededRandomNextLongPinLaw" (some 0) with
  accessFlags := 49
  interfaces := #[]
  cf := some (fileOf pool1 12 #[] #[{ accessFlags := 2, nameIndex := 5, descriptorIndex := 6, attributes := #[] }, { accessFlags := 10, nameIndex := 15, descriptorIndex := 16, attributes := #[] }, { accessFlags := 10, nameIndex := 32, descriptorIndex := 16, attributes := #[] }, { accessFlags := 9, nameIndex := 35, descriptorIndex := 36, attributes := #[] }] 49 2 #[] #[])
  fields := #[]
  methods := #[k1m0, k1m1, k1m2, k1m3]
  instanceTypes := #[]
  staticTypes := #[]
  resolved := Array.replicate 40 none
  statics := none }

def pool2 : Array CpInfo := pool [(1, .methodref 2 3), (0, .class_ 4), (0, .nameAndType 5 6), (0, u "java/lang/Object"), (0, u "<init>"), (0, u "()V"), (0, .fieldref 8 9), (0, .class_ 10), (0, .nameAndType 11 12), (0, u "com/example/daphnia/daphnia/values/SeededRandom"), (0, u "state"), (0, u "J"), (5, u "nextLong"), (0, u "()J"), (0, .long 11400714819323198485), (1, .long 13787848793156543929), (1, .long 10723151780598845931), (74, u "GAMMA"), (1, u "(J)V")] 30

def k2c0 : Code := { maxStack := 3, maxLocals := 3, code := prog_71_method_1_code, exceptionTable := #[], attributes := #[] }
def k2m0 : Method := { name := "<init>", desc := "(J)V", sig := { parameters := [.long], returnType := none }, accessFlags := 1, code := some k2c0 }
def k2c1 : Code := { maxStack := 5, maxLocals := 3, code := prog_71_method_4_code, exceptionTable := #[], attributes := #[] }
def k2m1 : Method := { name := "nextLong", desc := "()J", sig := { parameters := [], returnType := some .long }, accessFlags := 1, code := some k2c1 }
/-- com/example/daphnia/daphnia/values/SeededRandom -/
def k2 : Class := { plain "com/example/daphnia/daphnia/values/SeededRandom" (some 0) with
  accessFlags := 33
  interfaces := #[]
  cf := some (fileOf pool2 8 #[] #[{ accessFlags := 1, nameIndex := 5, descriptorIndex := 101, attributes := #[] }, { accessFlags := 1, nameIndex := 18, descriptorIndex := 19, attributes := #[] }] 33 2 #[] #[{ accessFlags := 26, nameIndex := 99, descriptorIndex := 12, attributes := #[] }, { accessFlags := 2, nameIndex := 11, descriptorIndex := 12, attributes := #[] }])
  fields := #[{ name := "GAMMA", type := .long, accessFlags := 26, slot := 0, constantValue := 0 }, { name := "state", type := .long, accessFlags := 2, slot := 0, constantValue := 0 }]
  methods := #[k2m0, k2m1]
  instanceTypes := #[.long]
  staticTypes := #[.long]
  resolved := Array.replicate 132 none
  statics := none }

def pool3 : Array CpInfo := pool [(1, u "java/lang/Cloneable"), (0, .class_ 1), (0, u "java/lang/Object"), (0, .class_ 3)] 3

/-- java/lang/Cloneable -/
def k3 : Class := { plain "java/lang/Cloneable" (some 0) with
  accessFlags := 1537
  interfaces := #[]
  cf := some (fileOf pool3 2 #[] #[] 1537 4 #[] #[])
  fields := #[]
  methods := #[]
  instanceTypes := #[]
  staticTypes := #[]
  resolved := Array.replicate 8 none
  statics := none }

def pool4 : Array CpInfo := pool [(1, u "java/io/Serializable"), (0, .class_ 1), (0, u "java/lang/Object"), (0, .class_ 3)] 3

/-- java/io/Serializable -/
def k4 : Class := { plain "java/io/Serializable" (some 0) with
  accessFlags := 1537
  interfaces := #[]
  cf := some (fileOf pool4 2 #[] #[] 1537 4 #[] #[])
  fields := #[]
  methods := #[]
  instanceTypes := #[]
  staticTypes := #[]
  resolved := Array.replicate 8 none
  statics := none }

/-- the primitive byte -/
def k5 : Class := { plain "byte" none with kind := .primitive 'B', accessFlags := 0x411 }
/-- [B -/
def k6 : Class := { plain "[B" (some 0) with kind := .array 5 .byte, interfaces := #[3, 4], accessFlags := 1041 }

/-- the primitive int -/
def k7 : Class := { plain "int" none with kind := .primitive 'I', accessFlags := 0x411 }
/-- [I -/
def k8 : Class := { plain "[I" (some 0) with kind := .array 7 .int, interfaces := #[3, 4], accessFlags := 1041 }

def heap : Heap := #[]
def classes : Array Class := #[k0, k1, k2, k3, k4, k5, k6, k7, k8]
def interned : List (Array UInt16 × Addr) := []
def slotsUsed : Nat := 0
def theMethod : MethodId := ⟨1, 3⟩
def args0 : Array Value := #[.long 5]
def aboutOver (below : List Frame) : State where
  vm := { classes := classes, interned := interned.toArray }
  heap := heap
  slotsUsed := slotsUsed
  threads := #[{ frames := .invoking theMethod args0 :: below }]
def below0 : List Frame := [.native { method := ⟨0, 0⟩, args := #[] }]
def about1 : State := aboutOver below0
def p0 : Program := .bare "" "" ""
def e0 : Env := launch0.env 0 0 0
theorem w_frames : about1.frames = Frame.invoking theMethod args0 :: below0 := rfl
set_option maxRecDepth 65536 in
theorem w_args : argsFit about1.vm theMethod args0 = true := by decide +kernel
set_option maxRecDepth 65536 in
theorem w_heap : heapFits about1 = true := by decide +kernel
set_option maxRecDepth 65536 in
theorem w_runnable : about1.curStatus? = some .runnable := by decide +kernel
set_option maxRecDepth 65536 in
theorem w_alone : about1.alone = true := by decide +kernel
set_option maxRecDepth 65536 in
theorem w_named : about1.methodNamed? x = some theMethod := by decide +kernel
set_option maxRecDepth 65536 in
theorem w_hears : about1.hears theMethod below0 = true := by decide +kernel
set_option maxRecDepth 65536 in
theorem w_ripe : about1.ripe theMethod args0 below0 = true := by decide +kernel
theorem w_running : about1.status = .running := rfl
set_option maxRecDepth 65536 in
theorem w_room : about1.hasRoom e0.platform room_1 = true :=
  launch0.hasRoom_least _ room_1 (by decide +kernel) (by decide +kernel) (by decide +kernel) (by decide +kernel) (by decide +kernel) (by decide +kernel)
theorem allAtoms_all (ts : List Jvm.Cond) (a : Array Jvm.Value) (st : Jvm.State) : (allAtoms ts).before a st = ts.all (fun c => c.before a st) := by
  induction ts with
  | nil => rfl
  | cons c t ih =>
    show (Jvm.Cond.and c (allAtoms t)).before a st = _
    rw [Jvm.Cond.before_and, ih, List.all_cons]
def words1 : List Jvm.Cond := Jvm.Cond.code x code maxLocals ret :: tables_1
/-- a 'code' word, met by the world's own term for the bytes: nothing is compared byte by byte -/
theorem code_word {y : MethodName} {bytes : ByteArray} {mx : Nat} {rt : Option FieldType} {a : Array Value} {s : State} {m : MethodId} {meth : Method} {c : Code} (h1 : s.methodNamed? y = some m) (h2 : s.vm.method? m = some meth) (h3 : meth.code = some c) (h4 : c.code = bytes)
    (h5 : (c.maxLocals == mx && c.exceptionTable.isEmpty && decide (c.maxStack ≤ mostOperands) && decide (meth.sig.returnType = rt) && !meth.locks && decide (parseMethodDescriptor y.desc = some meth.sig)) = true) : (Jvm.Cond.code y bytes mx rt).before a s = true := by
  simp only [Bool.and_eq_true, beq_iff_eq, Bool.not_eq_true', decide_eq_true_eq] at h5
  obtain ⟨⟨⟨⟨⟨g1, g2⟩, g3⟩, g4⟩, g5⟩, g6⟩ := h5
  simp [Cond.before, Cond.holds, Cond.value, h1, h2, h3, h4, g1, g2, g3, g4, g5, g6]
def isCode : Jvm.Cond → Bool
  | .code _ _ _ _ => true
  | _ => false
theorem all_split {L : List Jvm.Cond} {P : Jvm.Cond → Bool} (h1 : L.all (fun c => isCode c || P c) = true) (h2 : ∀ c ∈ L.filter isCode, P c = true) : L.all P = true := by
  refine List.all_eq_true.mpr fun c hc => ?_
  have h := List.all_eq_true.mp h1 c hc
  rcases Bool.eq_false_or_eq_true (isCode c) with hi | hi
  · exact h2 c (List.mem_filter.mpr ⟨hc, hi⟩)
  · simpa [hi] using h
set_option maxRecDepth 65536 in
theorem w_c0 : (Jvm.Cond.code x code maxLocals ret).before args0 about1 = true := code_word (m := ⟨1, 3⟩) (meth := k1m3) (c := k1c3) (by decide +kernel) rfl rfl rfl (by decide +kernel)
set_option maxRecDepth 65536 in
theorem w_c1 : (Jvm.Cond.code ({ cls := "com/example/daphnia/daphnia/values/SeededRandom", name := "<init>", desc := "(J)V" } : Jvm.MethodName) prog_71_method_1_code (3 : Nat) (Option.none : Option Jvm.ClassFile.FieldType)).before args0 about1 = true := code_word (m := ⟨2, 0⟩) (meth := k2m0) (c := k2c0) (by decide +kernel) rfl rfl rfl (by decide +kernel)
set_option maxRecDepth 65536 in
theorem w_c2 : (Jvm.Cond.code ({ cls := "java/lang/Object", name := "<init>", desc := "()V" } : Jvm.MethodName) object_method_1_code (1 : Nat) (Option.none : Option Jvm.ClassFile.FieldType)).before args0 about1 = true := code_word (m := ⟨0, 0⟩) (meth := k0m0) (c := k0c0) (by decide +kernel) rfl rfl rfl (by decide +kernel)
set_option maxRecDepth 65536 in
theorem w_c3 : (Jvm.Cond.code ({ cls := "com/example/daphnia/daphnia/values/SeededRandom", name := "nextLong", desc := "()J" } : Jvm.MethodName) prog_71_method_4_code (3 : Nat) (Option.some Jvm.ClassFile.FieldType.long)).before args0 about1 = true := code_word (m := ⟨2, 1⟩) (meth := k2m1) (c := k2c1) (by decide +kernel) rfl rfl rfl (by decide +kernel)
set_option maxRecDepth 65536 in
theorem w_c4 : (Jvm.Cond.code ({ cls := "com/example/daphnia/daphnia/values/SeededRandomNextLongPinLaw", name := "unmix", desc := "(J)J" } : Jvm.MethodName) method_3_code (4 : Nat) (Option.some Jvm.ClassFile.FieldType.long)).before args0 about1 = true := code_word (m := ⟨1, 2⟩) (meth := k1m2) (c := k1c2) (by decide +kernel) rfl rfl rfl (by decide +kernel)
set_option maxRecDepth 65536 in
theorem w_c5 : (Jvm.Cond.code ({ cls := "com/example/daphnia/daphnia/values/SeededRandomNextLongPinLaw", name := "inverse", desc := "(J)J" } : Jvm.MethodName) method_2_code (4 : Nat) (Option.some Jvm.ClassFile.FieldType.long)).before args0 about1 = true := code_word (m := ⟨1, 1⟩) (meth := k1m1) (c := k1c1) (by decide +kernel) rfl rfl rfl (by decide +kernel)
def codes1 : List Jvm.Cond := [Jvm.Cond.code x code maxLocals ret, Jvm.Cond.code ({ cls := "com/example/daphnia/daphnia/values/SeededRandom", name := "<init>", desc := "(J)V" } : Jvm.MethodName) prog_71_method_1_code (3 : Nat) (Option.none : Option Jvm.ClassFile.FieldType), Jvm.Cond.code ({ cls := "java/lang/Object", name := "<init>", desc := "()V" } : Jvm.MethodName) object_method_1_code (1 : Nat) (Option.none : Option Jvm.ClassFile.FieldType), Jvm.Cond.code ({ cls := "com/example/daphnia/daphnia/values/SeededRandom", name := "nextLong", desc := "()J" } : Jvm.MethodName) prog_71_method_4_code (3 : Nat) (Option.some Jvm.ClassFile.FieldType.long), Jvm.Cond.code ({ cls := "com/example/daphnia/daphnia/values/SeededRandomNextLongPinLaw", name := "unmix", desc := "(J)J" } : Jvm.MethodName) method_3_code (4 : Nat) (Option.some Jvm.ClassFile.FieldType.long), Jvm.Cond.code ({ cls := "com/example/daphnia/daphnia/values/SeededRandomNextLongPinLaw", name := "inverse", desc := "(J)J" } : Jvm.MethodName) method_2_code (4 : Nat) (Option.some Jvm.ClassFile.FieldType.long)]
set_option maxRecDepth 65536 in
theorem codes_eq : words1.filter isCode = codes1 := rfl
theorem w_codes : ∀ c ∈ words1.filter isCode, c.before args0 about1 = true := by
  rw [codes_eq]
  intro c hc
  simp only [codes1, List.mem_cons, List.not_mem_nil, or_false] at hc
  rcases hc with rfl | rfl | rfl | rfl | rfl | rfl
  · exact w_c0
  · exact w_c1
  · exact w_c2
  · exact w_c3
  · exact w_c4
  · exact w_c5
set_option maxRecDepth 65536 in
theorem w_t1 : (words1.take 24).all (fun c => isCode c || c.before args0 about1) = true := by decide +kernel
set_option maxRecDepth 65536 in
theorem w_t2 : (words1.drop 24).all (fun c => isCode c || c.before args0 about1) = true := by decide +kernel
theorem w_tables : (allAtoms (Jvm.Cond.code x code maxLocals ret :: tables_1)).before args0 about1 = true := by
  rw [allAtoms_all]
  show words1.all (fun c => c.before args0 about1) = true
  refine all_split ?_ w_codes
  rw [← List.take_append_drop 24 words1, List.all_append, w_t1, w_t2]
  rfl
set_option maxRecDepth 65536 in
theorem w_case : (Jvm.Cond.and given_1 narrow_1).before args0 about1 = true := by decide +kernel
theorem w_applies : (headSpec (Jvm.Cond.code x code maxLocals ret :: tables_1) room_1).applies x e0.platform about1 = true :=
  (Spec.applies_iff w_frames).mpr ⟨w_running, w_runnable, w_alone, w_named, w_hears, w_ripe, w_room, w_tables⟩
theorem atStart : AtStart classFile x code maxLocals ret World_1 tables_1 room_1 Calls_1 rest_1 Pre_1 launch0 p0 e0 about1 theMethod args0 below0 :=
  ⟨lists_1, trivial, launch0.admits_env _ _ _, launch0.least_env, fairChoices_fair.cas, fairChoices_fair.clock, w_frames, w_args, w_heap, w_applies, trivial, trivial, w_case⟩
end start1
theorem witness_1 : WitnessClaimed_1 := ⟨start1.p0, start1.e0, start1.about1, start1.theMethod, start1.args0, start1.below0, start1.atStart⟩
end Jvm.Pilot.@@N@@
