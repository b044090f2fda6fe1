import JvmDerived
import JvmDerived.Pilot.@@N@@Statement
import JvmDerived.Pilot.@@N@@Code
set_option linter.unusedVariables false
set_option linter.unusedSimpArgs false
namespace Jvm.RoadKit
open Sem ClassFile Op Lib Jvm.Stand Jvm.Free Jvm.LawKit
section Own
variable {p : Program} {l : Launch} {e : Env} {R : Room} {s : State} {m : MethodId} {args : Array Value} {below : List Frame} {meth : Method} {c : Code} {T T' : State} {locs : List Loc} {cells slots : Nat} {Z : State} {a0 : Array Value} {h : Heap} {Q : Option Value → Heap → List Loc → Prop} {kc ks : Nat}
/-- from here (state T, frame g) the body runs to its return, with Q of what it returns, the heap and the places written -/
def own_Go (p : Program) (e : Env) (s : State) (below : List Frame) (Q : Option Value → Heap → List Loc → Prop) (kc ks : Nat) (T : State) (g : JFrame) : Prop :=
  ∃ s₂ o, Steps p.tables e below (T.setTop g) s₂ ∧ s₂.status = .running ∧ Ended s₂ below o ∧ ∃ v L, o = .returned v ∧ Q v s₂.heap L ∧ FrameEnd s o s₂ L kc ks
theorem own_st {g g' : JFrame} (st : ∀ target, Steps p.tables e below (T'.setTop g') target → Steps p.tables e below (T.setTop g) target) (k : own_Go p e s below Q kc ks T' g') : own_Go p e s below Q kc ks T g := by
  obtain ⟨s₂, o, h1, r⟩ := k; exact ⟨s₂, o, st _ h1, r⟩
theorem own_sq {g g' : JFrame} {t : State} (st : Steps p.tables e below (T'.setTop g') t → Steps p.tables e below (T.setTop g) t) (k : Steps p.tables e below (T'.setTop g') t) : Steps p.tables e below (T.setTop g) t := st k
theorem own_cast {g g' : JFrame} (q : g = g') (k : own_Go p e s below Q kc ks T g') : own_Go p e s below Q kc ks T g := q ▸ k
theorem own_retI (X : Stand p l e R s m args below meth c T locs cells slots) (hx : p.tables.exec = Jvm.exec) (hlk : meth.locks = false) (hret : meth.sig.returnType = some .int) {pc : Nat} {Ls : Array Slot} {z : Int32} {rest : List Value} (hd : decode c.code pc = .ok (.ireturn, 1)) (hq : Q (some (.int z)) T.heap locs) (hc : cells ≤ kc) (hs : slots ≤ ks) : own_Go p e s below Q kc ks T (mkF m pc Ls (.int z :: rest)) := by
  obtain ⟨fs, hr, hrun, hended, hW, hsame⟩ := X.leave (v := some (.int z)) (fun h => by rw [hret] at h; cases h) hlk
  exact ⟨_, _, retOut X hx hret (by rfl) (Or.inl ⟨rfl, Or.inl rfl, z, rfl⟩) hd hr, hrun, hended, _, _, rfl, hq, ⟨_, rfl⟩, hW, hsame.mono hc hs⟩
theorem own_retN (X : Stand p l e R s m args below meth c T locs cells slots) (hx : p.tables.exec = Jvm.exec) (hlk : meth.locks = false) {t : FieldType} (hret : meth.sig.returnType = some t) (ht : t = .boolean ∨ t = .byte ∨ t = .char ∨ t = .short) {pc : Nat} {Ls : Array Slot} {z : Int32} {rest : List Value} (hd : decode c.code pc = .ok (.ireturn, 1)) (hq : Q (some (.int (nar t z))) T.heap locs) (hc : cells ≤ kc) (hs : slots ≤ ks) : own_Go p e s below Q kc ks T (mkF m pc Ls (.int z :: rest)) := by
  obtain ⟨fs, hr, hrun, hended, hW, hsame⟩ := X.leave (v := some (.int (nar t z))) (fun h => by rw [hret] at h; cases h) hlk
  exact ⟨_, _, retN X hx hret ht hd hr, hrun, hended, _, _, rfl, hq, ⟨_, rfl⟩, hW, hsame.mono hc hs⟩
theorem own_retJ (X : Stand p l e R s m args below meth c T locs cells slots) (hx : p.tables.exec = Jvm.exec) (hlk : meth.locks = false) (hret : meth.sig.returnType = some .long) {pc : Nat} {Ls : Array Slot} {z : Int64} {rest : List Value} (hd : decode c.code pc = .ok (.lreturn, 1)) (hq : Q (some (.long z)) T.heap locs) (hc : cells ≤ kc) (hs : slots ≤ ks) : own_Go p e s below Q kc ks T (mkF m pc Ls (.long z :: rest)) := by
  obtain ⟨fs, hr, hrun, hended, hW, hsame⟩ := X.leave (v := some (.long z)) (fun h => by rw [hret] at h; cases h) hlk
  exact ⟨_, _, retOut X hx hret (by rfl) (Or.inr (Or.inl ⟨rfl, rfl, z, rfl⟩)) hd hr, hrun, hended, _, _, rfl, hq, ⟨_, rfl⟩, hW, hsame.mono hc hs⟩
theorem own_retA (X : Stand p l e R s m args below meth c T locs cells slots) (hx : p.tables.exec = Jvm.exec) (hlk : meth.locks = false) {t : FieldType} (hret : meth.sig.returnType = some t) (ht : t.isReference = true) {pc : Nat} {Ls : Array Slot} {v : Value} {rest : List Value} (hv : v.isRef = true) (hd : decode c.code pc = .ok (.areturn, 1)) (hq : Q (some v) T.heap locs) (hc : cells ≤ kc) (hs : slots ≤ ks) : own_Go p e s below Q kc ks T (mkF m pc Ls (v :: rest)) := by
  obtain ⟨fs, hr, hrun, hended, hW, hsame⟩ := X.leave (v := some v) (fun h => by rw [hret] at h; cases h) hlk
  have hn : narrow t v = v := by cases v <;> first | (cases hv; done) | (cases t <;> first | (cases ht; done) | rfl)
  exact ⟨_, _, retOut X hx hret hn (Or.inr (Or.inr (Or.inr (Or.inr ⟨rfl, ht, hv⟩)))) hd hr, hrun, hended, _, _, rfl, hq, ⟨_, rfl⟩, hW, hsame.mono hc hs⟩
theorem own_retV (X : Stand p l e R s m args below meth c T locs cells slots) (hx : p.tables.exec = Jvm.exec) (hlk : meth.locks = false) (hret : meth.sig.returnType = none) {pc : Nat} {Ls : Array Slot} (hd : decode c.code pc = .ok (.return_, 1)) (hq : Q none T.heap locs) (hc : cells ≤ kc) (hs : slots ≤ ks) : own_Go p e s below Q kc ks T (mkF m pc Ls []) := by
  obtain ⟨fs, hr, hrun, hended, hW, hsame⟩ := X.leave (v := none) (fun _ => rfl) hlk
  exact ⟨_, _, X.returnOut hx hret hd hr, hrun, hended, _, _, rfl, hq, ⟨_, rfl⟩, hW, hsame.mono hc hs⟩
/-- a body's contract: entered with these arguments at the heap h0 it returns, with Q -/
def own_Met (l : Launch) (Z : State) (ws : List Cond) (y : MethodName) (bytes : ByteArray) (maxL : Nat) (ret : Option FieldType) (rm : Room) (kc ks : Nat) (as' : Array Value) (h0 : Heap) (Q : Option Value → Heap → List Loc → Prop) : Prop :=
  MetFree l y (head1 (Cond.code y bytes maxL ret :: ws) rm) (fun a U => a = as' ∧ Z.Warmed39 U.vm ∧ U.heap = h0) (fun _ _ _ _ _ => True) (fun _ U o U' => ∃ v L, o = .returned v ∧ Q v U'.heap L ∧ FrameEnd U o U' L kc ks)
theorem own_body {ws : List Cond} {y : MethodName} {bytes : ByteArray} {maxL : Nat} {ret : Option FieldType} {rm : Room} {as' : Array Value} {h0 : Heap} (pn : plainFor y = true)
    (body : ∀ (p : Program) (e : Env) (s : State) (m : MethodId) (below : List Frame) (meth : Method) (c : Code) (s₁ : State), p.tables.exec = Jvm.exec → c.code = bytes → c.maxLocals = maxL → s.vm.findClass y.cls = some m.cls → meth.name = y.name → meth.locks = false → meth.sig.returnType = ret → Z.Warmed39 s.vm → s.heap = h0 →
      Stand p l e rm s m as' below meth c s₁ [] 0 0 → s₁.heap = h0 → own_Go p e s below Q kc ks s₁ (entryFrame m as' maxL)) : own_Met l Z ws y bytes maxL ret rm kc ks as' h0 Q := by
  refine MetFree.of_bodySF pn hisR ?_
  intro p e s m args below meth c s₁ Bd hml0 hP hK
  obtain ⟨rfl, hZ, hh⟩ := hP
  exact body p e s m below meth c s₁ Bd.exec Bd.bytes hml0 (findClass_of_methodNamed Bd.named) (name_of_methodNamed Bd.named Bd.method).1 Bd.notSynchronized Bd.returns hZ hh (Stand.of_body Bd) (by rw [← hh, Bd.state]; rfl)
theorem own_callS (X : Stand p l e R s m args below meth c T locs cells slots) (hx : p.tables.exec = Jvm.exec) (hZ : Z.Warmed39 s.vm) {own : String} {index : Nat} {y : MethodName} {bytes : ByteArray} {maxL : Nat} {ret : Option FieldType}
    (hown : s.vm.findClass own = some m.cls) (w1 : (Cond.methodLink own index y).before a0 Z = true) (w2 : (Cond.static y).before a0 Z = true) (w3 : (Cond.initialized y.cls).before a0 Z = true) (w4 : (Cond.code y bytes maxL ret).before a0 Z = true)
    (hy : y.cls ≠ "java/lang/invoke/MethodHandle" ∧ y.cls ≠ "java/lang/invoke/VarHandle") {rm : Room} {W : Nat} {Qc : Option Value → Heap → List Loc → Prop} (eT : T.heap = h) {argsL rest : List Value}
    (hM : own_Met l Z [] y bytes maxL ret rm rm.cells rm.slots argsL.toArray h Qc) (hf : rm.frames + 1 ≤ R.frames) (hl : W + (maxL + 11) + rm.locals ≤ R.locals) (hcs : cells + rm.cells ≤ R.cells) (hss : slots + rm.slots ≤ R.slots)
    {g : JFrame} (hg : g.method = m) (hsize : g.locals.size = c.maxLocals) (hlen : ∀ sig, parseMethodDescriptor y.desc = some sig → argsL.length = sig.parameters.length) (hstack : g.stack = argsL.reverse ++ rest)
    (hW : 2 * g.monitorRoom + (rest.map fun v => v.category).sum ≤ W) (hdg : decode c.code g.pc = .ok (.invokestatic index, 3))
    (k : ∀ v T' L, Stand p l e R s m args below meth c T' (locs ++ L) (cells + rm.cells) (slots + rm.slots) → Qc v T'.heap L → own_Go p e s below Q kc ks T' { g with pc := g.pc + 3, stack := v.toList ++ rest }) : own_Go p e s below Q kc ks T g := by
  obtain ⟨v, _, ⟨T6, L6, k6, n6⟩, -, X6, ⟨Lc6, hQ6, l6, y6, z6⟩, st6⟩ := Jvm.LawKit.callS X hx (y := y) hown (mvT hZ w1) (mvT hZ w2) (mvT hZ w3) (mvT hZ w4) hy (backOf (W := W) hM hZ w4 w3 hf hl) hg hsize (argsL := argsL) (rest := rest) hlen hstack hW hdg (fun _ _ => ⟨rfl, eT, hcs, hss⟩)
  dsimp only [Pt.U, Pt.locs, Pt.cells, Pt.slots] at X6 l6 y6 z6 st6 hQ6
  subst l6 y6 z6
  exact own_st st6 (k v T6 Lc6 X6 hQ6)
theorem own_callV (X : Stand p l e R s m args below meth c T locs cells slots) (hx : p.tables.exec = Jvm.exec) (hZ : Z.Warmed39 s.vm) {own C : String} {index : Nat} {y : MethodName} {bytes : ByteArray} {maxL : Nat} {ret : Option FieldType}
    (hown : s.vm.findClass own = some m.cls) (w1 : (Cond.methodLink own index y).before a0 Z = true) (w2 : (Cond.declares y).before a0 Z = true) (w3 : (Cond.selects C y y).before a0 Z = true) (w4 : (Cond.instanceMethod y).before a0 Z = true) (w5 : (Cond.code y bytes maxL ret).before a0 Z = true) (w6 : (Cond.initialized y.cls).before a0 Z = true)
    (hy : y.cls ≠ "java/lang/invoke/MethodHandle" ∧ y.cls ≠ "java/lang/invoke/VarHandle") {rm : Room} {W : Nat} {Qc : Option Value → Heap → List Loc → Prop} (eT : T.heap = h) {b : Addr} (E : Exa Z h b C) {argsL rest : List Value}
    (hM : own_Met l Z [] y bytes maxL ret rm rm.cells rm.slots (.ref b :: argsL).toArray h Qc) (hf : rm.frames + 1 ≤ R.frames) (hl : W + (maxL + 11) + rm.locals ≤ R.locals) (hcs : cells + rm.cells ≤ R.cells) (hss : slots + rm.slots ≤ R.slots)
    {g : JFrame} (hg : g.method = m) (hsize : g.locals.size = c.maxLocals) (hlen : ∀ sig, parseMethodDescriptor y.desc = some sig → argsL.length = sig.parameters.length) (hstack : g.stack = argsL.reverse ++ .ref b :: rest)
    (hW : 2 * g.monitorRoom + (rest.map fun v => v.category).sum ≤ W) (hdg : decode c.code g.pc = .ok (.invokevirtual index, 3))
    (k : ∀ v T' L, Stand p l e R s m args below meth c T' (locs ++ L) (cells + rm.cells) (slots + rm.slots) → Qc v T'.heap L → own_Go p e s below Q kc ks T' { g with pc := g.pc + 3, stack := v.toList ++ rest }) : own_Go p e s below Q kc ks T g := by
  obtain ⟨cq, kq, qa, qb, qc⟩ := isOf hZ eT E
  obtain ⟨v, _, ⟨T6, L6, k6, n6⟩, -, X6, ⟨Lc6, hQ6, l6, y6, z6⟩, st6⟩ := X.virtualBack hx (y := y) (z := y) hown (mvT hZ w1) (mvT hZ w2) (notFace_of_selects (args := #[]) (mvT hZ w3)) (mvT hZ w3) (mvT hZ w4) hy (backOf (W := W) hM hZ w5 w6 hf hl) qa qc hg hsize (Steps.refl _) (argsL := argsL) (rest := rest) hlen hstack hW hdg (fun _ _ => ⟨rfl, eT, hcs, hss⟩)
  dsimp only [Pt.U, Pt.locs, Pt.cells, Pt.slots] at X6 l6 y6 z6 st6 hQ6
  subst l6 y6 z6
  exact own_st (fun _ q => st6.trans q) (k v T6 Lc6 X6 hQ6)
theorem own_callC (X : Stand p l e R s m args below meth c T locs cells slots) (hx : p.tables.exec = Jvm.exec) (hZ : Z.Warmed39 s.vm) {own : String} {index : Nat} {y : MethodName} {bytes : ByteArray} {maxL : Nat} (hy1 : y.name = "<init>")
    (hown : s.vm.findClass own = some m.cls) (w1 : (Cond.methodLink own index y).before a0 Z = true) (w2 : (Cond.instanceMethod y).before a0 Z = true) (w3 : (Cond.code y bytes maxL none).before a0 Z = true) (w4 : (Cond.initialized y.cls).before a0 Z = true)
    (hy : y.cls ≠ "java/lang/invoke/MethodHandle" ∧ y.cls ≠ "java/lang/invoke/VarHandle") {rm : Room} {W : Nat} {Qc : Option Value → Heap → List Loc → Prop} (eT : T.heap = h) {b : Addr} {argsL rest : List Value}
    (hM : own_Met l Z [] y bytes maxL none rm rm.cells rm.slots (.ref b :: argsL).toArray h Qc) (hf : rm.frames + 1 ≤ R.frames) (hl : W + (maxL + 11) + rm.locals ≤ R.locals) (hcs : cells + rm.cells ≤ R.cells) (hss : slots + rm.slots ≤ R.slots)
    {g : JFrame} (hg : g.method = m) (hsize : g.locals.size = c.maxLocals) (hlen : ∀ sig, parseMethodDescriptor y.desc = some sig → argsL.length = sig.parameters.length) (hstack : g.stack = argsL.reverse ++ .ref b :: rest)
    (hW : 2 * g.monitorRoom + (rest.map fun v => v.category).sum ≤ W) (hdg : decode c.code g.pc = .ok (.invokespecial index, 3))
    (k : ∀ v T' L, Stand p l e R s m args below meth c T' (locs ++ L) (cells + rm.cells) (slots + rm.slots) → Qc v T'.heap L → own_Go p e s below Q kc ks T' { g with pc := g.pc + 3, stack := v.toList ++ rest }) : own_Go p e s below Q kc ks T g := by
  obtain ⟨v, _, ⟨T6, L6, k6, n6⟩, -, X6, ⟨Lc6, hQ6, l6, y6, z6⟩, st6⟩ := X.specialBack hx (y := y) hy1 hown (mvT hZ w1) (mvT hZ w2) (mvT hZ w3) hy (backOf (W := W) hM hZ w3 w4 hf hl) hg hsize (Steps.refl _) (a := b) (argsL := argsL) (rest := rest) hlen hstack hW hdg (fun _ _ => ⟨rfl, eT, hcs, hss⟩)
  dsimp only [Pt.U, Pt.locs, Pt.cells, Pt.slots] at X6 l6 y6 z6 st6 hQ6
  subst l6 y6 z6
  exact own_st (fun _ q => st6.trans q) (k v T6 Lc6 X6 hQ6)
theorem own_callP (X : Stand p l e R s m args below meth c T locs cells slots) (hx : p.tables.exec = Jvm.exec) (hZ : Z.Warmed39 s.vm) {own : String} {index : Nat} {y : MethodName} {bytes : ByteArray} {maxL : Nat} {ret : Option FieldType}
    (hown : s.vm.findClass own = some m.cls) (w1 : (Cond.methodLink own index y).before a0 Z = true) (w2 : (Cond.instanceMethod y).before a0 Z = true) {kk : Nat} (w3 : (Cond.instantiable y.cls kk).before a0 Z = true) (w4 : (Cond.privateMethod y).before a0 Z = true) (w5 : (Cond.code y bytes maxL ret).before a0 Z = true) (w6 : (Cond.initialized y.cls).before a0 Z = true)
    (hy : y.cls ≠ "java/lang/invoke/MethodHandle" ∧ y.cls ≠ "java/lang/invoke/VarHandle") {rm : Room} {W : Nat} {Qc : Option Value → Heap → List Loc → Prop} (eT : T.heap = h) {b : Addr} {C : String} (E : Exa Z h b C) {argsL rest : List Value}
    (hM : own_Met l Z [] y bytes maxL ret rm rm.cells rm.slots (.ref b :: argsL).toArray h Qc) (hf : rm.frames + 1 ≤ R.frames) (hl : W + (maxL + 11) + rm.locals ≤ R.locals) (hcs : cells + rm.cells ≤ R.cells) (hss : slots + rm.slots ≤ R.slots)
    {g : JFrame} (hg : g.method = m) (hsize : g.locals.size = c.maxLocals) (hlen : ∀ sig, parseMethodDescriptor y.desc = some sig → argsL.length = sig.parameters.length) (hstack : g.stack = argsL.reverse ++ .ref b :: rest)
    (hW : 2 * g.monitorRoom + (rest.map fun v => v.category).sum ≤ W) (hdg : decode c.code g.pc = .ok (.invokevirtual index, 3))
    (k : ∀ v T' L, Stand p l e R s m args below meth c T' (locs ++ L) (cells + rm.cells) (slots + rm.slots) → Qc v T'.heap L → own_Go p e s below Q kc ks T' { g with pc := g.pc + 3, stack := v.toList ++ rest }) : own_Go p e s below Q kc ks T g := by
  obtain ⟨cq, q1, q2⟩ := E.cell
  have w3' : (Cond.instantiable y.cls kk).before args s = true := mvT hZ w3
  obtain ⟨c2, k2, i1, i2, i3, i4, -⟩ := Cond.instantiable_spec w3'
  have hsel : (Cond.selects y.cls y y).before args s = true := selects_self_of_private i1 i2 (Bool.or_eq_false_iff.mp i4).1 (Cond.privateMethod_at (mvP hZ w4 (args := #[]))) (mvT hZ w2) hy
  obtain ⟨v, _, ⟨T6, L6, k6, n6⟩, -, X6, ⟨Lc6, hQ6, l6, y6, z6⟩, st6⟩ := X.privateBack hx (y := y) hown (mvT hZ w1) (mvT hZ w2) hsel (Cond.privateMethod_at (mvP hZ w4 (args := #[]))) (mvT hZ w5) hy (backOf (W := W) hM hZ w5 w6 hf hl) hg hsize (Steps.refl _) (a := b) (by rw [eT]; exact q1) q2 (argsL := argsL) (rest := rest) hlen hstack hW hdg (fun _ _ => ⟨rfl, eT, hcs, hss⟩)
  dsimp only [Pt.U, Pt.locs, Pt.cells, Pt.slots] at X6 l6 y6 z6 st6 hQ6
  subst l6 y6 z6
  exact own_st (fun _ q => st6.trans q) (k v T6 Lc6 X6 hQ6)
end Own
end Jvm.RoadKit
namespace Jvm.Pilot.@@N@@
open Jvm Jvm.ClassFile Sem Op Lib Jvm.Free Jvm.Stand Jvm.LawKit Jvm.RoadKit Bundle Jvm.Pilot.@@N@@.Jvm.D
theorem own_w {Z : State} {a0 : Array Value} (hw : ∀ d ∈ tables_1, d.before a0 Z = true) (i : Nat) {d : Jvm.Cond} (q : tables_1[i]? = some d) : d.before a0 Z = true := hw d (List.mem_of_getElem? q)
theorem own_pd0 : parseMethodDescriptor "()V" = some ⟨[], none⟩ := by decide +kernel
theorem own_pd1 : parseMethodDescriptor "(ZIC)V" = some ⟨[.boolean, .int, .char], none⟩ := by decide +kernel
theorem own_pd2 : parseMethodDescriptor "()Z" = some ⟨[], some .boolean⟩ := by decide +kernel
theorem d2_0 : decode jdk_30_method_1_code 0 = .ok (.aload_n 0, 1) := by decide +kernel
theorem d2_1 : decode jdk_30_method_1_code 1 = .ok (.invokespecial 1, 3) := by decide +kernel
theorem d2_4 : decode jdk_30_method_1_code 4 = .ok (.return_, 1) := by decide +kernel
theorem pn_2 : plainName "java/lang/Record" = true := by first | (simp [plainName, overriddenIn]; done) | decide +kernel
theorem ef_2 (m : MethodId) (x0 : Addr) : entryFrame m #[(.ref x0)] 1 = mkF m 0 #[.val (.ref x0)] [] := by first | (simp [entryFrame, mkF, argsToLocals, Value.category]; done) | rfl
set_option maxRecDepth 65536 in
set_option maxHeartbeats 40000000 in
theorem rm2 (l : Launch) (Z : State) (a0 : Array Value) (hw : ∀ d ∈ tables_1, d.before a0 Z = true) (ws : List Jvm.Cond) (a1 : Addr) (h0 : Heap) (n0 : Nat) (Z0 : n0 ≤ h0.size)  :
    own_Met l Z ws (⟨"java/lang/Record", "<init>", "()V"⟩ : MethodName) jdk_30_method_1_code 1 none ({ frames := 1, cells := 0, slots := 0, locals := 12 } : Room) ({ frames := 1, cells := 0, slots := 0, locals := 12 } : Room).cells ({ frames := 1, cells := 0, slots := 0, locals := 12 } : Room).slots #[(.ref a1)] h0 (fun v h L => v = none ∧ Fr n0 L ∧ h = h0) := by
  refine own_body (plainFor_of_name pn_2) ?_
  intro p e s m below meth c s₁ hx hby hml hown hnm hlk hret hZ hh X0 e0
  have N0 := Fr.nil n0
  refine own_cast (ef_2 m a1) ?_
  refine own_st (T' := s₁) (g' := (mkF m 1 #[.val (.ref a1)] [(.ref a1)])) (fun _ k => XS.aloadN X0.here hx rfl (hb hby d2_0) rfl rfl k) ?_
  obtain ⟨T1, X1, e1, st1⟩ := initO X0 hx hZ hown (own_w hw 13 rfl) (own_w hw 14 rfl) (own_w hw 15 rfl) e0 (g := (mkF m 1 #[.val (.ref a1)] [(.ref a1)])) rfl (by rw [hml]; rfl) rfl (hb hby d2_1) (by decide) (W := 0) (by show 2 * 0 + _ ≤ _; exact Nat.le_of_eq rfl) (by decide)
  refine own_st (g' := (mkF m 4 #[.val (.ref a1)] [])) st1 ?_
  exact own_retV X1 hx hlk hret (hb hby d2_4) ⟨rfl, N0, e1⟩ (by decide) (by decide)
theorem d1_0 : decode prog_42_method_1_code 0 = .ok (.aload_n 0, 1) := by decide +kernel
theorem d1_1 : decode prog_42_method_1_code 1 = .ok (.invokespecial 1, 3) := by decide +kernel
theorem d1_4 : decode prog_42_method_1_code 4 = .ok (.aload_n 0, 1) := by decide +kernel
theorem d1_5 : decode prog_42_method_1_code 5 = .ok (.iload_n 1, 1) := by decide +kernel
theorem d1_6 : decode prog_42_method_1_code 6 = .ok (.putfield 7, 3) := by decide +kernel
theorem d1_9 : decode prog_42_method_1_code 9 = .ok (.aload_n 0, 1) := by decide +kernel
theorem d1_10 : decode prog_42_method_1_code 10 = .ok (.iload_n 2, 1) := by decide +kernel
theorem d1_11 : decode prog_42_method_1_code 11 = .ok (.putfield 13, 3) := by decide +kernel
theorem d1_14 : decode prog_42_method_1_code 14 = .ok (.aload_n 0, 1) := by decide +kernel
theorem d1_15 : decode prog_42_method_1_code 15 = .ok (.iload_n 3, 1) := by decide +kernel
theorem d1_16 : decode prog_42_method_1_code 16 = .ok (.putfield 17, 3) := by decide +kernel
theorem d1_19 : decode prog_42_method_1_code 19 = .ok (.return_, 1) := by decide +kernel
theorem pn_1 : plainName "com/example/lokalsatz/lokalsatz/zdb/MovingWall" = true := by first | (simp [plainName, overriddenIn]; done) | decide +kernel
theorem ef_1 (m : MethodId) (x0 : Addr) (x1 : Int32) (x2 : Int32) (x3 : Int32) : entryFrame m #[(.ref x0), (.int x1), (.int x2), (.int x3)] 4 = mkF m 0 #[.val (.ref x0), .val (.int x1), .val (.int x2), .val (.int x3)] [] := by first | (simp [entryFrame, mkF, argsToLocals, Value.category]; done) | rfl
set_option maxRecDepth 65536 in
set_option maxHeartbeats 40000000 in
theorem rm1 (l : Launch) (Z : State) (a0 : Array Value) (hw : ∀ d ∈ tables_1, d.before a0 Z = true) (ws : List Jvm.Cond) (a1 : Addr) (p2 p3 p4 : Int32) (h0 : Heap) (n0 : Nat) (Z0 : n0 ≤ h0.size) (F1 : Fld Z h0 a1 "com/example/lokalsatz/lokalsatz/zdb/MovingWall" "recentOnly" "Z" (.int (0 : Int32))) (F2 : Fld Z h0 a1 "com/example/lokalsatz/lokalsatz/zdb/MovingWall" "count" "I" (.int (0 : Int32))) (F3 : Fld Z h0 a1 "com/example/lokalsatz/lokalsatz/zdb/MovingWall" "unit" "C" (.int (0 : Int32))) (E1 : Exa Z h0 a1 "com/example/lokalsatz/lokalsatz/zdb/MovingWall") (G1 : n0 ≤ a1) :
    own_Met l Z ws (⟨"com/example/lokalsatz/lokalsatz/zdb/MovingWall", "<init>", "(ZIC)V"⟩ : MethodName) prog_42_method_1_code 4 none ({ frames := 2, cells := 0, slots := 0, locals := 24 } : Room) ({ frames := 2, cells := 0, slots := 0, locals := 24 } : Room).cells ({ frames := 2, cells := 0, slots := 0, locals := 24 } : Room).slots #[(.ref a1), (.int p2), (.int p3), (.int p4)] h0 (fun v h L => v = none ∧ Fr n0 L ∧ Keep h0 h [a1] ∧ Exa Z h a1 "com/example/lokalsatz/lokalsatz/zdb/MovingWall" ∧ Fld Z h a1 "com/example/lokalsatz/lokalsatz/zdb/MovingWall" "unit" "C" (.int (nar .char p4))) := by
  refine own_body (plainFor_of_name pn_1) ?_
  intro p e s m below meth c s₁ hx hby hml hown hnm hlk hret hZ hh X0 e0
  have N0 := Fr.nil n0
  refine own_cast (ef_1 m a1 p2 p3 p4) ?_
  refine own_st (T' := s₁) (g' := (mkF m 1 #[.val (.ref a1), .val (.int p2), .val (.int p3), .val (.int p4)] [(.ref a1)])) (fun _ k => XS.aloadN X0.here hx rfl (hb hby d1_0) rfl rfl k) ?_
  refine own_callC X0 hx hZ (y := (⟨"java/lang/Record", "<init>", "()V"⟩ : MethodName)) rfl hown (own_w hw 8 rfl) (own_w hw 9 rfl) (own_w hw 12 rfl) (own_w hw 11 rfl) (by decide) (W := 0) e0 (b := a1) (argsL := []) (rest := []) (rm2 l Z a0 hw [] a1 h0 n0 Z0) (by decide) (by decide) (by decide) (by decide) (g := (mkF m 1 #[.val (.ref a1), .val (.int p2), .val (.int p3), .val (.int p4)] [(.ref a1)])) rfl (by rw [hml]; rfl) (lenOf own_pd0 rfl) rfl (by show 2 * 0 + _ ≤ _; exact Nat.le_of_eq rfl) (hb hby d1_1) ?_
  rintro _ T1 L1 X1 ⟨rfl, N1q, e1⟩
  show own_Go _ _ _ _ _ _ _ T1 (mkF m 4 #[.val (.ref a1), .val (.int p2), .val (.int p3), .val (.int p4)] [])
  have N1 := Fr.app N0 N1q
  refine own_st (T' := T1) (g' := (mkF m 5 #[.val (.ref a1), .val (.int p2), .val (.int p3), .val (.int p4)] [(.ref a1)])) (fun _ k => XS.aloadN X1.here hx rfl (hb hby d1_4) rfl rfl k) ?_
  refine own_st (T' := T1) (g' := (mkF m 6 #[.val (.ref a1), .val (.int p2), .val (.int p3), .val (.int p4)] [(.int p2), (.ref a1)])) (fun _ k => XS.iloadN X1.here hx rfl (hb hby d1_5) rfl k) ?_
  obtain ⟨T2, h2, X2, e2, W2, st2⟩ := putFN X1 hx hZ hown (own_w hw 16 rfl) Via.refl e1 F1 E1 (Or.inr ⟨(own_w hw 17 rfl), rfl, hnm⟩) (own_w hw 3 rfl) (ty := .boolean) (v' := (.int (nar .boolean p2))) (by decide) rfl (fits_nar_bool _) (g := (mkF m 6 #[.val (.ref a1), .val (.int p2), .val (.int p3), .val (.int p4)] [(.int p2), (.ref a1)])) rfl rfl (hb hby d1_6)
  have Fw2 := F1.same W2
  have N2 := Fr.snoc X2 N1 G1
  refine own_st (g' := (mkF m 9 #[.val (.ref a1), .val (.int p2), .val (.int p3), .val (.int p4)] [])) st2 ?_
  refine own_st (T' := T2) (g' := (mkF m 10 #[.val (.ref a1), .val (.int p2), .val (.int p3), .val (.int p4)] [(.ref a1)])) (fun _ k => XS.aloadN X2.here hx rfl (hb hby d1_9) rfl rfl k) ?_
  refine own_st (T' := T2) (g' := (mkF m 11 #[.val (.ref a1), .val (.int p2), .val (.int p3), .val (.int p4)] [(.int p3), (.ref a1)])) (fun _ k => XS.iloadN X2.here hx rfl (hb hby d1_10) rfl k) ?_
  obtain ⟨T3, h3, X3, e3, W3, st3⟩ := putF X2 hx hZ hown (host := "") (Or.inl (own_w hw 18 rfl)) Via.refl e2 (F2.other W2 (Or.inr (slot_ne (Or.inr (own_w hw 19 rfl)) (Or.inr (own_w hw 17 rfl)) (by decide) (t := .int) (t' := .boolean) (by decide) (by decide)))) (E1.wr W2) (Or.inr ⟨(own_w hw 19 rfl), rfl, hnm⟩) (own_w hw 3 rfl) (ty := .int) (by decide) rfl rfl (g := (mkF m 11 #[.val (.ref a1), .val (.int p2), .val (.int p3), .val (.int p4)] [(.int p3), (.ref a1)])) rfl rfl (hb hby d1_11)
  have Fw3 := (F2.other W2 (Or.inr (slot_ne (Or.inr (own_w hw 19 rfl)) (Or.inr (own_w hw 17 rfl)) (by decide) (t := .int) (t' := .boolean) (by decide) (by decide)))).same W3
  have N3 := Fr.snoc X3 N2 G1
  refine own_st (g' := (mkF m 14 #[.val (.ref a1), .val (.int p2), .val (.int p3), .val (.int p4)] [])) st3 ?_
  refine own_st (T' := T3) (g' := (mkF m 15 #[.val (.ref a1), .val (.int p2), .val (.int p3), .val (.int p4)] [(.ref a1)])) (fun _ k => XS.aloadN X3.here hx rfl (hb hby d1_14) rfl rfl k) ?_
  refine own_st (T' := T3) (g' := (mkF m 16 #[.val (.ref a1), .val (.int p2), .val (.int p3), .val (.int p4)] [(.int p4), (.ref a1)])) (fun _ k => XS.iloadN X3.here hx rfl (hb hby d1_15) rfl k) ?_
  obtain ⟨T4, h4, X4, e4, W4, st4⟩ := putFN X3 hx hZ hown (own_w hw 20 rfl) Via.refl e3 ((F3.other W2 (Or.inr (slot_ne (Or.inr (own_w hw 21 rfl)) (Or.inr (own_w hw 17 rfl)) (by decide) (t := .char) (t' := .boolean) (by decide) (by decide)))).other W3 (Or.inr (slot_ne (Or.inr (own_w hw 21 rfl)) (Or.inr (own_w hw 19 rfl)) (by decide) (t := .char) (t' := .int) (by decide) (by decide)))) ((E1.wr W2).wr W3) (Or.inr ⟨(own_w hw 21 rfl), rfl, hnm⟩) (own_w hw 3 rfl) (ty := .char) (v' := (.int (nar .char p4))) (by decide) rfl (fits_nar_char _) (g := (mkF m 16 #[.val (.ref a1), .val (.int p2), .val (.int p3), .val (.int p4)] [(.int p4), (.ref a1)])) rfl rfl (hb hby d1_16)
  have Fw4 := ((F3.other W2 (Or.inr (slot_ne (Or.inr (own_w hw 21 rfl)) (Or.inr (own_w hw 17 rfl)) (by decide) (t := .char) (t' := .boolean) (by decide) (by decide)))).other W3 (Or.inr (slot_ne (Or.inr (own_w hw 21 rfl)) (Or.inr (own_w hw 19 rfl)) (by decide) (t := .char) (t' := .int) (by decide) (by decide)))).same W4
  have N4 := Fr.snoc X4 N3 G1
  refine own_st (g' := (mkF m 19 #[.val (.ref a1), .val (.int p2), .val (.int p3), .val (.int p4)] [])) st4 ?_
  exact own_retV X4 hx hlk hret (hb hby d1_19) (by rw [e4]; exact ⟨rfl, N4, ((((Keep.refl h0 [a1]).wr W2 (Or.inl (List.mem_of_getElem? (i := 0) rfl))).wr W3 (Or.inl (List.mem_of_getElem? (i := 0) rfl))).wr W4 (Or.inl (List.mem_of_getElem? (i := 0) rfl))), (((E1.wr W2).wr W3).wr W4), Fw4⟩) (by decide) (by decide)
theorem d4_0 : decode prog_42_method_3_code 0 = .ok (.aload_n 0, 1) := by decide +kernel
theorem d4_1 : decode prog_42_method_3_code 1 = .ok (.getfield 17, 3) := by decide +kernel
theorem d4_4 : decode prog_42_method_3_code 4 = .ok (.bipush 89, 2) := by decide +kernel
theorem d4_6 : decode prog_42_method_3_code 6 = .ok (.if_icmp .eq 21, 3) := by decide +kernel
theorem d4_9 : decode prog_42_method_3_code 9 = .ok (.aload_n 0, 1) := by decide +kernel
theorem d4_10 : decode prog_42_method_3_code 10 = .ok (.getfield 17, 3) := by decide +kernel
theorem d4_13 : decode prog_42_method_3_code 13 = .ok (.bipush 77, 2) := by decide +kernel
theorem d4_15 : decode prog_42_method_3_code 15 = .ok (.if_icmp .eq 12, 3) := by decide +kernel
theorem d4_18 : decode prog_42_method_3_code 18 = .ok (.aload_n 0, 1) := by decide +kernel
theorem d4_19 : decode prog_42_method_3_code 19 = .ok (.getfield 17, 3) := by decide +kernel
theorem d4_22 : decode prog_42_method_3_code 22 = .ok (.bipush 68, 2) := by decide +kernel
theorem d4_24 : decode prog_42_method_3_code 24 = .ok (.if_icmp .ne 7, 3) := by decide +kernel
theorem d4_27 : decode prog_42_method_3_code 27 = .ok (.iconst 1, 1) := by decide +kernel
theorem d4_28 : decode prog_42_method_3_code 28 = .ok (.goto 4, 3) := by decide +kernel
theorem d4_31 : decode prog_42_method_3_code 31 = .ok (.iconst 0, 1) := by decide +kernel
theorem d4_32 : decode prog_42_method_3_code 32 = .ok (.ireturn, 1) := by decide +kernel
theorem pn_4 : plainName "com/example/lokalsatz/lokalsatz/zdb/MovingWall" = true := by first | (simp [plainName, overriddenIn]; done) | decide +kernel
theorem ef_4 (m : MethodId) (x0 : Addr) : entryFrame m #[(.ref x0)] 1 = mkF m 0 #[.val (.ref x0)] [] := by first | (simp [entryFrame, mkF, argsToLocals, Value.category]; done) | rfl
set_option maxRecDepth 65536 in
set_option maxHeartbeats 40000000 in
theorem rm4 (l : Launch) (Z : State) (a0 : Array Value) (hw : ∀ d ∈ tables_1, d.before a0 Z = true) (ws : List Jvm.Cond) (a1 : Addr) (u1 : Int32) (h0 : Heap) (n0 : Nat) (Z0 : n0 ≤ h0.size) (F1 : Fld Z h0 a1 "com/example/lokalsatz/lokalsatz/zdb/MovingWall" "unit" "C" (.int u1)) :
    own_Met l Z ws (⟨"com/example/lokalsatz/lokalsatz/zdb/MovingWall", "countsCalendarUnits", "()Z"⟩ : MethodName) prog_42_method_3_code 1 (some .boolean) ({ frames := 0, cells := 0, slots := 0, locals := 0 } : Room) ({ frames := 0, cells := 0, slots := 0, locals := 0 } : Room).cells ({ frames := 0, cells := 0, slots := 0, locals := 0 } : Room).slots #[(.ref a1)] h0 (fun v h L => v = some (.int (if u1 = (89 : Int32) then (1 : Int32) else (if u1 = (77 : Int32) then (1 : Int32) else (if u1 = (68 : Int32) then (1 : Int32) else (0 : Int32))))) ∧ Fr n0 L ∧ h = h0) := by
  refine own_body (plainFor_of_name pn_4) ?_
  intro p e s m below meth c s₁ hx hby hml hown hnm hlk hret hZ hh X0 e0
  have N0 := Fr.nil n0
  refine own_cast (ef_4 m a1) ?_
  refine own_st (T' := s₁) (g' := (mkF m 1 #[.val (.ref a1)] [(.ref a1)])) (fun _ k => XS.aloadN X0.here hx rfl (hb hby d4_0) rfl rfl k) ?_
  obtain ⟨T1, X1, e1, st1⟩ := getF X0 hx hZ hown (host := "") (Or.inl (own_w hw 20 rfl)) Via.refl e0 F1 (g := (mkF m 1 #[.val (.ref a1)] [(.ref a1)])) rfl rfl (hb hby d4_1)
  refine own_st (g' := (mkF m 4 #[.val (.ref a1)] [(.int u1)])) st1 ?_
  refine own_st (T' := T1) (g' := (mkF m 6 #[.val (.ref a1)] [(.int (89 : Int32)), (.int u1)])) (fun _ k => XS.bipush X1.here hx rfl (hb hby d4_4) k) ?_
  by_cases hc6_2 : u1 = (89 : Int32)
  · refine own_st (T' := T1) (g' := (mkF m 27 #[.val (.ref a1)] [])) (fun _ k => XS.icmpYes X1.here hx rfl (pc0 := 6) (pc' := 27) rfl (hb hby d4_6) rfl (teq hc6_2).1 (by decide) (by decide) k) ?_
    refine own_st (T' := T1) (g' := (mkF m 28 #[.val (.ref a1)] [(.int (1 : Int32))])) (fun _ k => XS.iconst X1.here hx rfl (hb hby d4_27) k) ?_
    refine own_st (T' := T1) (g' := (mkF m 32 #[.val (.ref a1)] [(.int (1 : Int32))])) (fun _ k => XS.goto X1.here hx rfl (pc0 := 28) (pc' := 32) rfl (hb hby d4_28) (by decide) (by decide) k) ?_
    exact own_retN X1 hx hlk hret (by simp) (hb hby d4_32) ⟨by simp only [if_pos hc6_2]; rfl, N0, e1⟩ (by decide) (by decide)
  · refine own_st (T' := T1) (g' := (mkF m 9 #[.val (.ref a1)] [])) (fun _ k => XS.icmpNo X1.here hx rfl (hb hby d4_6) rfl (feq hc6_2).1 k) ?_
    refine own_st (T' := T1) (g' := (mkF m 10 #[.val (.ref a1)] [(.ref a1)])) (fun _ k => XS.aloadN X1.here hx rfl (hb hby d4_9) rfl rfl k) ?_
    obtain ⟨T3, X3, e3, st3⟩ := getF X1 hx hZ hown (host := "") (Or.inl (own_w hw 20 rfl)) Via.refl e1 F1 (g := (mkF m 10 #[.val (.ref a1)] [(.ref a1)])) rfl rfl (hb hby d4_10)
    refine own_st (g' := (mkF m 13 #[.val (.ref a1)] [(.int u1)])) st3 ?_
    refine own_st (T' := T3) (g' := (mkF m 15 #[.val (.ref a1)] [(.int (77 : Int32)), (.int u1)])) (fun _ k => XS.bipush X3.here hx rfl (hb hby d4_13) k) ?_
    by_cases hc15_4 : u1 = (77 : Int32)
    · refine own_st (T' := T3) (g' := (mkF m 27 #[.val (.ref a1)] [])) (fun _ k => XS.icmpYes X3.here hx rfl (pc0 := 15) (pc' := 27) rfl (hb hby d4_15) rfl (teq hc15_4).1 (by decide) (by decide) k) ?_
      refine own_st (T' := T3) (g' := (mkF m 28 #[.val (.ref a1)] [(.int (1 : Int32))])) (fun _ k => XS.iconst X3.here hx rfl (hb hby d4_27) k) ?_
      refine own_st (T' := T3) (g' := (mkF m 32 #[.val (.ref a1)] [(.int (1 : Int32))])) (fun _ k => XS.goto X3.here hx rfl (pc0 := 28) (pc' := 32) rfl (hb hby d4_28) (by decide) (by decide) k) ?_
      exact own_retN X3 hx hlk hret (by simp) (hb hby d4_32) ⟨by simp only [if_neg hc6_2, if_pos hc15_4]; rfl, N0, e3⟩ (by decide) (by decide)
    · refine own_st (T' := T3) (g' := (mkF m 18 #[.val (.ref a1)] [])) (fun _ k => XS.icmpNo X3.here hx rfl (hb hby d4_15) rfl (feq hc15_4).1 k) ?_
      refine own_st (T' := T3) (g' := (mkF m 19 #[.val (.ref a1)] [(.ref a1)])) (fun _ k => XS.aloadN X3.here hx rfl (hb hby d4_18) rfl rfl k) ?_
      obtain ⟨T5, X5, e5, st5⟩ := getF X3 hx hZ hown (host := "") (Or.inl (own_w hw 20 rfl)) Via.refl e3 F1 (g := (mkF m 19 #[.val (.ref a1)] [(.ref a1)])) rfl rfl (hb hby d4_19)
      refine own_st (g' := (mkF m 22 #[.val (.ref a1)] [(.int u1)])) st5 ?_
      refine own_st (T' := T5) (g' := (mkF m 24 #[.val (.ref a1)] [(.int (68 : Int32)), (.int u1)])) (fun _ k => XS.bipush X5.here hx rfl (hb hby d4_22) k) ?_
      by_cases hc24_6 : u1 = (68 : Int32)
      · refine own_st (T' := T5) (g' := (mkF m 27 #[.val (.ref a1)] [])) (fun _ k => XS.icmpNo X5.here hx rfl (hb hby d4_24) rfl (teq hc24_6).2 k) ?_
        refine own_st (T' := T5) (g' := (mkF m 28 #[.val (.ref a1)] [(.int (1 : Int32))])) (fun _ k => XS.iconst X5.here hx rfl (hb hby d4_27) k) ?_
        refine own_st (T' := T5) (g' := (mkF m 32 #[.val (.ref a1)] [(.int (1 : Int32))])) (fun _ k => XS.goto X5.here hx rfl (pc0 := 28) (pc' := 32) rfl (hb hby d4_28) (by decide) (by decide) k) ?_
        exact own_retN X5 hx hlk hret (by simp) (hb hby d4_32) ⟨by simp only [if_neg hc6_2, if_neg hc15_4, if_pos hc24_6]; rfl, N0, e5⟩ (by decide) (by decide)
      · refine own_st (T' := T5) (g' := (mkF m 31 #[.val (.ref a1)] [])) (fun _ k => XS.icmpYes X5.here hx rfl (pc0 := 24) (pc' := 31) rfl (hb hby d4_24) rfl (feq hc24_6).2 (by decide) (by decide) k) ?_
        refine own_st (T' := T5) (g' := (mkF m 32 #[.val (.ref a1)] [(.int (0 : Int32))])) (fun _ k => XS.iconst X5.here hx rfl (hb hby d4_31) k) ?_
        exact own_retN X5 hx hlk hret (by simp) (hb hby d4_32) ⟨by simp only [if_neg hc6_2, if_neg hc15_4, if_neg hc24_6]; rfl, N0, e5⟩ (by decide) (by decide)
theorem own_five (p k : Int32) (h : ((p &&& (2147483647 : Int32)) % (5 : Int32)) = k) : k = (0 : Int32) ∨ k = (1 : Int32) ∨ k = (2 : Int32) ∨ k = (3 : Int32) ∨ k = (4 : Int32) := by
  have h1 := c_and p (2147483647 : Int32) (by decide)
  have h2 := (c_irem (p &&& (2147483647 : Int32)) (5 : Int32) 5 rfl).1 h1.1
  rw [h] at h2
  simp only [← Int32.toInt_inj]
  simp
  omega
theorem pn_0 : plainName "com/example/lokalsatz/lokalsatz/zdb/MovingWallCountsCalendarUnitsPinLaw" = true := by first | (simp [plainName, overriddenIn]; done) | decide +kernel
theorem ef_0 (m : MethodId) (x0 : Int32) (x1 : Int32) (x2 : Int32) : entryFrame m #[(.int x0), (.int x1), (.int x2)] maxLocals = mkF m 0 #[.val (.int x0), .val (.int x1), .val (.int x2), .unset, .unset, .unset, .unset, .unset] [] := by first | (simp [entryFrame, mkF, argsToLocals, Value.category, maxLocals]; done) | rfl
set_option maxRecDepth 65536 in
set_option maxHeartbeats 40000000 in
theorem rm0 (l : Launch) (Z : State) (a0 : Array Value) (hw : ∀ d ∈ tables_1, d.before a0 Z = true) (ws : List Jvm.Cond) (p1 p2 p3 : Int32) (h0 : Heap) (n0 : Nat) (Z0 : n0 ≤ h0.size)  :
    own_Met l Z ws x code maxLocals ret room_1 16 128 #[(.int p1), (.int p2), (.int p3)] h0 (fun v h L => v = some (.int 1) ∧ Fr n0 L) := by
  refine own_body (plainFor_of_name pn_0) ?_
  intro p e s m below meth c s₁ hx hby hml hown hnm hlk hret hZ hh X0 e0
  have N0 := Fr.nil n0
  refine own_cast (ef_0 m p1 p2 p3) ?_
  refine own_st (T' := s₁) (g' := (mkF m 1 #[.val (.int p1), .val (.int p2), .val (.int p3), .unset, .unset, .unset, .unset, .unset] [(.int (5 : Int32))])) (fun _ k => XS.iconst X0.here hx rfl (hb hby at_0) k) ?_
  obtain ⟨T1, h1, k1, X1, e1, E1, A1, st1⟩ := newP X0 hx hZ (own_w hw 0 rfl) e0 (g := (mkF m 1 #[.val (.int p1), .val (.int p2), .val (.int p3), .unset, .unset, .unset, .unset, .unset] [(.int (5 : Int32))])) rfl (hb hby at_1) rfl (by decide) (cap := 5) (by decide) (by decide) (by decide) (by decide)
  obtain ⟨b1, g1⟩ : ∃ z, z = h0.size := ⟨_, rfl⟩
  rw [← g1] at A1 st1
  have G_b1 : n0 ≤ b1 := Nat.le_trans Z0 (Nat.le_of_eq g1.symm)
  have sz_b1 : h0.size ≤ b1 := Nat.le_trans (Keep.refl h0 []).1 (Nat.le_of_eq g1.symm)
  have V1 : Arv Z h1 b1 k1 .char (5 : Int32) [(.int (0 : Int32)), (.int (0 : Int32)), (.int (0 : Int32)), (.int (0 : Int32)), (.int (0 : Int32))] (.int (0 : Int32)) := (Arv.new A1 (by decide)).pad (pad_rep [] (.int (0 : Int32)) 5)
  refine own_st (g' := (mkF m 3 #[.val (.int p1), .val (.int p2), .val (.int p3), .unset, .unset, .unset, .unset, .unset] [(.ref b1)])) st1 ?_
  refine own_st (T' := T1) (g' := (mkF m 4 #[.val (.int p1), .val (.int p2), .val (.int p3), .unset, .unset, .unset, .unset, .unset] [(.ref b1), (.ref b1)])) (fun _ k => XS.dup X1.here hx rfl (hb hby at_3) rfl rfl k) ?_
  refine own_st (T' := T1) (g' := (mkF m 5 #[.val (.int p1), .val (.int p2), .val (.int p3), .unset, .unset, .unset, .unset, .unset] [(.int (0 : Int32)), (.ref b1), (.ref b1)])) (fun _ k => XS.iconst X1.here hx rfl (hb hby at_4) k) ?_
  refine own_st (T' := T1) (g' := (mkF m 7 #[.val (.int p1), .val (.int p2), .val (.int p3), .unset, .unset, .unset, .unset, .unset] [(.int (89 : Int32)), (.int (0 : Int32)), (.ref b1), (.ref b1)])) (fun _ k => XS.bipush X1.here hx rfl (hb hby at_5) k) ?_
  obtain ⟨cl2, Ar2, q2, S2, M2, H2, Gf2⟩ := V1
  obtain ⟨T2, h2, X2, e2, W2, st2⟩ := stC X1 hx hZ e1 Ar2 (j := (0 : Int32)) (inb_of S2 (by decide)) (g := (mkF m 7 #[.val (.int p1), .val (.int p2), .val (.int p3), .unset, .unset, .unset, .unset, .unset] [(.int (89 : Int32)), (.int (0 : Int32)), (.ref b1), (.ref b1)])) rfl rfl (hb hby at_7)
  have V2 : Arv Z h2 b1 k1 .char (5 : Int32) [(.int (89 : Int32)), (.int (0 : Int32)), (.int (0 : Int32)), (.int (0 : Int32)), (.int (0 : Int32))] (.int (0 : Int32)) := Arv.set Ar2 q2 S2 M2 H2 Gf2 (fits_nar_char _) W2 0 rfl (by decide)
  have N2 := Fr.snoc X2 N0 G_b1
  refine own_st (g' := (mkF m 8 #[.val (.int p1), .val (.int p2), .val (.int p3), .unset, .unset, .unset, .unset, .unset] [(.ref b1)])) st2 ?_
  refine own_st (T' := T2) (g' := (mkF m 9 #[.val (.int p1), .val (.int p2), .val (.int p3), .unset, .unset, .unset, .unset, .unset] [(.ref b1), (.ref b1)])) (fun _ k => XS.dup X2.here hx rfl (hb hby at_8) rfl rfl k) ?_
  refine own_st (T' := T2) (g' := (mkF m 10 #[.val (.int p1), .val (.int p2), .val (.int p3), .unset, .unset, .unset, .unset, .unset] [(.int (1 : Int32)), (.ref b1), (.ref b1)])) (fun _ k => XS.iconst X2.here hx rfl (hb hby at_9) k) ?_
  refine own_st (T' := T2) (g' := (mkF m 12 #[.val (.int p1), .val (.int p2), .val (.int p3), .unset, .unset, .unset, .unset, .unset] [(.int (77 : Int32)), (.int (1 : Int32)), (.ref b1), (.ref b1)])) (fun _ k => XS.bipush X2.here hx rfl (hb hby at_10) k) ?_
  obtain ⟨cl3, Ar3, q3, S3, M3, H3, Gf3⟩ := V2
  obtain ⟨T3, h3, X3, e3, W3, st3⟩ := stC X2 hx hZ e2 Ar3 (j := (1 : Int32)) (inb_of S3 (by decide)) (g := (mkF m 12 #[.val (.int p1), .val (.int p2), .val (.int p3), .unset, .unset, .unset, .unset, .unset] [(.int (77 : Int32)), (.int (1 : Int32)), (.ref b1), (.ref b1)])) rfl rfl (hb hby at_12)
  have V3 : Arv Z h3 b1 k1 .char (5 : Int32) [(.int (89 : Int32)), (.int (77 : Int32)), (.int (0 : Int32)), (.int (0 : Int32)), (.int (0 : Int32))] (.int (0 : Int32)) := Arv.set Ar3 q3 S3 M3 H3 Gf3 (fits_nar_char _) W3 1 rfl (by decide)
  have N3 := Fr.snoc X3 N2 G_b1
  refine own_st (g' := (mkF m 13 #[.val (.int p1), .val (.int p2), .val (.int p3), .unset, .unset, .unset, .unset, .unset] [(.ref b1)])) st3 ?_
  refine own_st (T' := T3) (g' := (mkF m 14 #[.val (.int p1), .val (.int p2), .val (.int p3), .unset, .unset, .unset, .unset, .unset] [(.ref b1), (.ref b1)])) (fun _ k => XS.dup X3.here hx rfl (hb hby at_13) rfl rfl k) ?_
  refine own_st (T' := T3) (g' := (mkF m 15 #[.val (.int p1), .val (.int p2), .val (.int p3), .unset, .unset, .unset, .unset, .unset] [(.int (2 : Int32)), (.ref b1), (.ref b1)])) (fun _ k => XS.iconst X3.here hx rfl (hb hby at_14) k) ?_
  refine own_st (T' := T3) (g' := (mkF m 17 #[.val (.int p1), .val (.int p2), .val (.int p3), .unset, .unset, .unset, .unset, .unset] [(.int (68 : Int32)), (.int (2 : Int32)), (.ref b1), (.ref b1)])) (fun _ k => XS.bipush X3.here hx rfl (hb hby at_15) k) ?_
  obtain ⟨cl4, Ar4, q4, S4, M4, H4, Gf4⟩ := V3
  obtain ⟨T4, h4, X4, e4, W4, st4⟩ := stC X3 hx hZ e3 Ar4 (j := (2 : Int32)) (inb_of S4 (by decide)) (g := (mkF m 17 #[.val (.int p1), .val (.int p2), .val (.int p3), .unset, .unset, .unset, .unset, .unset] [(.int (68 : Int32)), (.int (2 : Int32)), (.ref b1), (.ref b1)])) rfl rfl (hb hby at_17)
  have V4 : Arv Z h4 b1 k1 .char (5 : Int32) [(.int (89 : Int32)), (.int (77 : Int32)), (.int (68 : Int32)), (.int (0 : Int32)), (.int (0 : Int32))] (.int (0 : Int32)) := Arv.set Ar4 q4 S4 M4 H4 Gf4 (fits_nar_char _) W4 2 rfl (by decide)
  have N4 := Fr.snoc X4 N3 G_b1
  refine own_st (g' := (mkF m 18 #[.val (.int p1), .val (.int p2), .val (.int p3), .unset, .unset, .unset, .unset, .unset] [(.ref b1)])) st4 ?_
  refine own_st (T' := T4) (g' := (mkF m 19 #[.val (.int p1), .val (.int p2), .val (.int p3), .unset, .unset, .unset, .unset, .unset] [(.ref b1), (.ref b1)])) (fun _ k => XS.dup X4.here hx rfl (hb hby at_18) rfl rfl k) ?_
  refine own_st (T' := T4) (g' := (mkF m 20 #[.val (.int p1), .val (.int p2), .val (.int p3), .unset, .unset, .unset, .unset, .unset] [(.int (3 : Int32)), (.ref b1), (.ref b1)])) (fun _ k => XS.iconst X4.here hx rfl (hb hby at_19) k) ?_
  refine own_st (T' := T4) (g' := (mkF m 22 #[.val (.int p1), .val (.int p2), .val (.int p3), .unset, .unset, .unset, .unset, .unset] [(.int (86 : Int32)), (.int (3 : Int32)), (.ref b1), (.ref b1)])) (fun _ k => XS.bipush X4.here hx rfl (hb hby at_20) k) ?_
  obtain ⟨cl5, Ar5, q5, S5, M5, H5, Gf5⟩ := V4
  obtain ⟨T5, h5, X5, e5, W5, st5⟩ := stC X4 hx hZ e4 Ar5 (j := (3 : Int32)) (inb_of S5 (by decide)) (g := (mkF m 22 #[.val (.int p1), .val (.int p2), .val (.int p3), .unset, .unset, .unset, .unset, .unset] [(.int (86 : Int32)), (.int (3 : Int32)), (.ref b1), (.ref b1)])) rfl rfl (hb hby at_22)
  have V5 : Arv Z h5 b1 k1 .char (5 : Int32) [(.int (89 : Int32)), (.int (77 : Int32)), (.int (68 : Int32)), (.int (86 : Int32)), (.int (0 : Int32))] (.int (0 : Int32)) := Arv.set Ar5 q5 S5 M5 H5 Gf5 (fits_nar_char _) W5 3 rfl (by decide)
  have N5 := Fr.snoc X5 N4 G_b1
  refine own_st (g' := (mkF m 23 #[.val (.int p1), .val (.int p2), .val (.int p3), .unset, .unset, .unset, .unset, .unset] [(.ref b1)])) st5 ?_
  refine own_st (T' := T5) (g' := (mkF m 24 #[.val (.int p1), .val (.int p2), .val (.int p3), .unset, .unset, .unset, .unset, .unset] [(.ref b1), (.ref b1)])) (fun _ k => XS.dup X5.here hx rfl (hb hby at_23) rfl rfl k) ?_
  refine own_st (T' := T5) (g' := (mkF m 25 #[.val (.int p1), .val (.int p2), .val (.int p3), .unset, .unset, .unset, .unset, .unset] [(.int (4 : Int32)), (.ref b1), (.ref b1)])) (fun _ k => XS.iconst X5.here hx rfl (hb hby at_24) k) ?_
  refine own_st (T' := T5) (g' := (mkF m 27 #[.val (.int p1), .val (.int p2), .val (.int p3), .unset, .unset, .unset, .unset, .unset] [(.int (73 : Int32)), (.int (4 : Int32)), (.ref b1), (.ref b1)])) (fun _ k => XS.bipush X5.here hx rfl (hb hby at_25) k) ?_
  obtain ⟨cl6, Ar6, q6, S6, M6, H6, Gf6⟩ := V5
  obtain ⟨T6, h6, X6, e6, W6, st6⟩ := stC X5 hx hZ e5 Ar6 (j := (4 : Int32)) (inb_of S6 (by decide)) (g := (mkF m 27 #[.val (.int p1), .val (.int p2), .val (.int p3), .unset, .unset, .unset, .unset, .unset] [(.int (73 : Int32)), (.int (4 : Int32)), (.ref b1), (.ref b1)])) rfl rfl (hb hby at_27)
  have V6 : Arv Z h6 b1 k1 .char (5 : Int32) [(.int (89 : Int32)), (.int (77 : Int32)), (.int (68 : Int32)), (.int (86 : Int32)), (.int (73 : Int32))] (.int (0 : Int32)) := Arv.set Ar6 q6 S6 M6 H6 Gf6 (fits_nar_char _) W6 4 rfl (by decide)
  have N6 := Fr.snoc X6 N5 G_b1
  refine own_st (g' := (mkF m 28 #[.val (.int p1), .val (.int p2), .val (.int p3), .unset, .unset, .unset, .unset, .unset] [(.ref b1)])) st6 ?_
  refine own_st (T' := T6) (g' := (mkF m 29 #[.val (.int p1), .val (.int p2), .val (.int p3), .val (.ref b1), .unset, .unset, .unset, .unset] [])) (fun _ k => XS.astoreN X6.here hx rfl (hb hby at_28) rfl rfl (l' := #[.val (.int p1), .val (.int p2), .val (.int p3), .val (.ref b1), .unset, .unset, .unset, .unset]) rfl k) ?_
  refine own_st (T' := T6) (g' := (mkF m 30 #[.val (.int p1), .val (.int p2), .val (.int p3), .val (.ref b1), .unset, .unset, .unset, .unset] [(.int p1)])) (fun _ k => XS.iloadN X6.here hx rfl (hb hby at_29) rfl k) ?_
  refine own_st (T' := T6) (g' := (mkF m 32 #[.val (.int p1), .val (.int p2), .val (.int p3), .val (.ref b1), .unset, .unset, .unset, .unset] [(.int (2147483647 : Int32)), (.int p1)])) (fun _ k => X6.ldcInt hx hown (mvT hZ (own_w hw 1 rfl)) (g := (mkF m 30 #[.val (.int p1), .val (.int p2), .val (.int p3), .val (.ref b1), .unset, .unset, .unset, .unset] [(.int p1)])) rfl (hb hby at_30) _ k) ?_
  refine own_st (T' := T6) (g' := (mkF m 33 #[.val (.int p1), .val (.int p2), .val (.int p3), .val (.ref b1), .unset, .unset, .unset, .unset] [(.int (p1 &&& (2147483647 : Int32)))])) (fun _ k => XS.iand X6.here hx rfl (hb hby at_32) rfl k) ?_
  refine own_st (T' := T6) (g' := (mkF m 34 #[.val (.int p1), .val (.int p2), .val (.int p3), .val (.ref b1), .unset, .unset, .unset, .unset] [(.int (5 : Int32)), (.int (p1 &&& (2147483647 : Int32)))])) (fun _ k => XS.iconst X6.here hx rfl (hb hby at_33) k) ?_
  refine own_st (T' := T6) (g' := (mkF m 35 #[.val (.int p1), .val (.int p2), .val (.int p3), .val (.ref b1), .unset, .unset, .unset, .unset] [(.int ((p1 &&& (2147483647 : Int32)) % (5 : Int32)))])) (fun _ k => iremM X6 hx rfl (hb hby at_34) rfl (by decide) k) ?_
  generalize hkv : ((p1 &&& (2147483647 : Int32)) % (5 : Int32)) = kv
  obtain rfl | rfl | rfl | rfl | rfl := own_five p1 kv hkv
  · refine own_st (T' := T6) (g' := (mkF m 37 #[.val (.int p1), .val (.int p2), .val (.int p3), .val (.ref b1), .val (.int (0 : Int32)), .unset, .unset, .unset] [])) (fun _ k => XS.istore X6.here hx rfl (hb hby at_35) rfl (l' := #[.val (.int p1), .val (.int p2), .val (.int p3), .val (.ref b1), .val (.int (0 : Int32)), .unset, .unset, .unset]) rfl k) ?_
    refine own_st (T' := T6) (g' := (mkF m 38 #[.val (.int p1), .val (.int p2), .val (.int p3), .val (.ref b1), .val (.int (0 : Int32)), .unset, .unset, .unset] [(.int p3)])) (fun _ k => XS.iloadN X6.here hx rfl (hb hby at_37) rfl k) ?_
    refine own_st (T' := T6) (g' := (mkF m 39 #[.val (.int p1), .val (.int p2), .val (.int p3), .val (.ref b1), .val (.int (0 : Int32)), .unset, .unset, .unset] [(.int (1 : Int32)), (.int p3)])) (fun _ k => XS.iconst X6.here hx rfl (hb hby at_38) k) ?_
    refine own_st (T' := T6) (g' := (mkF m 40 #[.val (.int p1), .val (.int p2), .val (.int p3), .val (.ref b1), .val (.int (0 : Int32)), .unset, .unset, .unset] [(.int (p3 &&& (1 : Int32)))])) (fun _ k => XS.iand X6.here hx rfl (hb hby at_39) rfl k) ?_
    refine own_st (T' := T6) (g' := (mkF m 48 #[.val (.int p1), .val (.int p2), .val (.int p3), .val (.ref b1), .val (.int (0 : Int32)), .unset, .unset, .unset] [(.int (if (p3 &&& (1 : Int32)) = (0 : Int32) then (0 : Int32) else (1 : Int32)))])) (fun t k => ?_) ?_
    · by_cases hc40_7 : (p3 &&& (1 : Int32)) = (0 : Int32)
      · refine own_sq (T' := T6) (g' := (mkF m 47 #[.val (.int p1), .val (.int p2), .val (.int p3), .val (.ref b1), .val (.int (0 : Int32)), .unset, .unset, .unset] [])) (fun k => XS.ifYes X6.here hx rfl (pc0 := 40) (pc' := 47) rfl (hb hby at_40) rfl ((if0 _ _).trans (teq hc40_7).1) (by decide) (by decide) k) ?_
        refine own_sq (T' := T6) (g' := (mkF m 48 #[.val (.int p1), .val (.int p2), .val (.int p3), .val (.ref b1), .val (.int (0 : Int32)), .unset, .unset, .unset] [(.int (0 : Int32))])) (fun k => XS.iconst X6.here hx rfl (hb hby at_47) k) ?_
        simp only [if_pos hc40_7] at k; exact k
      · refine own_sq (T' := T6) (g' := (mkF m 43 #[.val (.int p1), .val (.int p2), .val (.int p3), .val (.ref b1), .val (.int (0 : Int32)), .unset, .unset, .unset] [])) (fun k => XS.ifNo X6.here hx rfl (hb hby at_40) rfl ((if0 _ _).trans (feq hc40_7).1) k) ?_
        refine own_sq (T' := T6) (g' := (mkF m 44 #[.val (.int p1), .val (.int p2), .val (.int p3), .val (.ref b1), .val (.int (0 : Int32)), .unset, .unset, .unset] [(.int (1 : Int32))])) (fun k => XS.iconst X6.here hx rfl (hb hby at_43) k) ?_
        refine own_sq (T' := T6) (g' := (mkF m 48 #[.val (.int p1), .val (.int p2), .val (.int p3), .val (.ref b1), .val (.int (0 : Int32)), .unset, .unset, .unset] [(.int (1 : Int32))])) (fun k => XS.goto X6.here hx rfl (pc0 := 44) (pc' := 48) rfl (hb hby at_44) (by decide) (by decide) k) ?_
        simp only [if_neg hc40_7] at k; exact k
    refine own_st (T' := T6) (g' := (mkF m 50 #[.val (.int p1), .val (.int p2), .val (.int p3), .val (.ref b1), .val (.int (0 : Int32)), .val (.int (if (p3 &&& (1 : Int32)) = (0 : Int32) then (0 : Int32) else (1 : Int32))), .unset, .unset] [])) (fun _ k => XS.istore X6.here hx rfl (hb hby at_48) rfl (l' := #[.val (.int p1), .val (.int p2), .val (.int p3), .val (.ref b1), .val (.int (0 : Int32)), .val (.int (if (p3 &&& (1 : Int32)) = (0 : Int32) then (0 : Int32) else (1 : Int32))), .unset, .unset]) rfl k) ?_
    obtain ⟨T8, h8, X8, e8, E8, A8, D8, -, st8⟩ := newO X6 hx hZ hown (own_w hw 2 rfl) (own_w hw 3 rfl) (own_w hw 4 rfl) e6 (g := (mkF m 50 #[.val (.int p1), .val (.int p2), .val (.int p3), .val (.ref b1), .val (.int (0 : Int32)), .val (.int (if (p3 &&& (1 : Int32)) = (0 : Int32) then (0 : Int32) else (1 : Int32))), .unset, .unset] [])) rfl (hb hby at_50) (by decide) (by decide)
    obtain ⟨b8, g8⟩ : ∃ z, z = h6.size := ⟨_, rfl⟩
    rw [← g8] at A8 D8 st8
    have G_b8 : n0 ≤ b8 := Nat.le_trans (Nat.le_trans (Nat.le_trans (Nat.le_trans (Nat.le_trans (Nat.le_trans (Nat.le_trans Z0 E1.1) (Nat.le_of_eq W2.size.symm)) (Nat.le_of_eq W3.size.symm)) (Nat.le_of_eq W4.size.symm)) (Nat.le_of_eq W5.size.symm)) (Nat.le_of_eq W6.size.symm)) (Nat.le_of_eq g8.symm)
    have sz_b8 : h0.size ≤ b8 := Nat.le_trans (((((((Keep.refl h0 []).ext E1).wr W2 (Or.inr sz_b1)).wr W3 (Or.inr sz_b1)).wr W4 (Or.inr sz_b1)).wr W5 (Or.inr sz_b1)).wr W6 (Or.inr sz_b1)).1 (Nat.le_of_eq g8.symm)
    have F8_recentOnly : Fld Z h8 b8 "com/example/lokalsatz/lokalsatz/zdb/MovingWall" "recentOnly" "Z" (.int (0 : Int32)) := D8 (Or.inr (own_w hw 17 rfl)) (ty := .boolean) (by decide)
    have F8_count : Fld Z h8 b8 "com/example/lokalsatz/lokalsatz/zdb/MovingWall" "count" "I" (.int (0 : Int32)) := D8 (Or.inr (own_w hw 19 rfl)) (ty := .int) (by decide)
    have F8_unit : Fld Z h8 b8 "com/example/lokalsatz/lokalsatz/zdb/MovingWall" "unit" "C" (.int (0 : Int32)) := D8 (Or.inr (own_w hw 21 rfl)) (ty := .char) (by decide)
    refine own_st (g' := (mkF m 53 #[.val (.int p1), .val (.int p2), .val (.int p3), .val (.ref b1), .val (.int (0 : Int32)), .val (.int (if (p3 &&& (1 : Int32)) = (0 : Int32) then (0 : Int32) else (1 : Int32))), .unset, .unset] [(.ref b8)])) st8 ?_
    refine own_st (T' := T8) (g' := (mkF m 54 #[.val (.int p1), .val (.int p2), .val (.int p3), .val (.ref b1), .val (.int (0 : Int32)), .val (.int (if (p3 &&& (1 : Int32)) = (0 : Int32) then (0 : Int32) else (1 : Int32))), .unset, .unset] [(.ref b8), (.ref b8)])) (fun _ k => XS.dup X8.here hx rfl (hb hby at_53) rfl rfl k) ?_
    refine own_st (T' := T8) (g' := (mkF m 56 #[.val (.int p1), .val (.int p2), .val (.int p3), .val (.ref b1), .val (.int (0 : Int32)), .val (.int (if (p3 &&& (1 : Int32)) = (0 : Int32) then (0 : Int32) else (1 : Int32))), .unset, .unset] [(.int (if (p3 &&& (1 : Int32)) = (0 : Int32) then (0 : Int32) else (1 : Int32))), (.ref b8), (.ref b8)])) (fun _ k => XS.iload X8.here hx rfl (hb hby at_54) rfl k) ?_
    refine own_st (T' := T8) (g' := (mkF m 57 #[.val (.int p1), .val (.int p2), .val (.int p3), .val (.ref b1), .val (.int (0 : Int32)), .val (.int (if (p3 &&& (1 : Int32)) = (0 : Int32) then (0 : Int32) else (1 : Int32))), .unset, .unset] [(.int p2), (.int (if (p3 &&& (1 : Int32)) = (0 : Int32) then (0 : Int32) else (1 : Int32))), (.ref b8), (.ref b8)])) (fun _ k => XS.iloadN X8.here hx rfl (hb hby at_56) rfl k) ?_
    refine own_st (T' := T8) (g' := (mkF m 58 #[.val (.int p1), .val (.int p2), .val (.int p3), .val (.ref b1), .val (.int (0 : Int32)), .val (.int (if (p3 &&& (1 : Int32)) = (0 : Int32) then (0 : Int32) else (1 : Int32))), .unset, .unset] [(.ref b1), (.int p2), (.int (if (p3 &&& (1 : Int32)) = (0 : Int32) then (0 : Int32) else (1 : Int32))), (.ref b8), (.ref b8)])) (fun _ k => XS.aloadN X8.here hx rfl (hb hby at_57) rfl rfl k) ?_
    refine own_st (T' := T8) (g' := (mkF m 60 #[.val (.int p1), .val (.int p2), .val (.int p3), .val (.ref b1), .val (.int (0 : Int32)), .val (.int (if (p3 &&& (1 : Int32)) = (0 : Int32) then (0 : Int32) else (1 : Int32))), .unset, .unset] [(.int (0 : Int32)), (.ref b1), (.int p2), (.int (if (p3 &&& (1 : Int32)) = (0 : Int32) then (0 : Int32) else (1 : Int32))), (.ref b8), (.ref b8)])) (fun _ k => XS.iload X8.here hx rfl (hb hby at_58) rfl k) ?_
    obtain ⟨cl9, Ar9, q9, S9, M9, H9, Gf9⟩ := (V6.ext E8)
    refine own_st (T' := T8) (g' := (mkF m 61 #[.val (.int p1), .val (.int p2), .val (.int p3), .val (.ref b1), .val (.int (0 : Int32)), .val (.int (if (p3 &&& (1 : Int32)) = (0 : Int32) then (0 : Int32) else (1 : Int32))), .unset, .unset] [(.int (89 : Int32)), (.int p2), (.int (if (p3 &&& (1 : Int32)) = (0 : Int32) then (0 : Int32) else (1 : Int32))), (.ref b8), (.ref b8)])) (fun _ k => X8.caload hx (j := (0 : Int32)) (v := (.int (89 : Int32))) (by rw [e8]; exact Ar9.1) (State.isArrayOf_alike hZ.alike Ar9.2.1) Ar9.2.2 (inb_of S9 (by decide)) (Has.at H9 (inb_of S9 (by decide)) rfl) (g := (mkF m 60 #[.val (.int p1), .val (.int p2), .val (.int p3), .val (.ref b1), .val (.int (0 : Int32)), .val (.int (if (p3 &&& (1 : Int32)) = (0 : Int32) then (0 : Int32) else (1 : Int32))), .unset, .unset] [(.int (0 : Int32)), (.ref b1), (.int p2), (.int (if (p3 &&& (1 : Int32)) = (0 : Int32) then (0 : Int32) else (1 : Int32))), (.ref b8), (.ref b8)])) rfl rfl (hb hby at_60) _ k) ?_
    refine own_callC X8 hx hZ (y := (⟨"com/example/lokalsatz/lokalsatz/zdb/MovingWall", "<init>", "(ZIC)V"⟩ : MethodName)) rfl hown (own_w hw 5 rfl) (own_w hw 6 rfl) (own_w hw 7 rfl) (own_w hw 4 rfl) (by decide) (W := 1) e8 (b := b8) (argsL := [(.int (if (p3 &&& (1 : Int32)) = (0 : Int32) then (0 : Int32) else (1 : Int32))), (.int p2), (.int (89 : Int32))]) (rest := [(.ref b8)]) (rm1 l Z a0 hw [] b8 (if (p3 &&& (1 : Int32)) = (0 : Int32) then (0 : Int32) else (1 : Int32)) p2 (89 : Int32) h8 n0 (Nat.le_trans (Nat.le_trans (Nat.le_trans (Nat.le_trans (Nat.le_trans (Nat.le_trans (Nat.le_trans Z0 E1.1) (Nat.le_of_eq W2.size.symm)) (Nat.le_of_eq W3.size.symm)) (Nat.le_of_eq W4.size.symm)) (Nat.le_of_eq W5.size.symm)) (Nat.le_of_eq W6.size.symm)) E8.1) F8_recentOnly F8_count F8_unit A8 G_b8) (by decide) (by decide) (by decide) (by decide) (g := (mkF m 61 #[.val (.int p1), .val (.int p2), .val (.int p3), .val (.ref b1), .val (.int (0 : Int32)), .val (.int (if (p3 &&& (1 : Int32)) = (0 : Int32) then (0 : Int32) else (1 : Int32))), .unset, .unset] [(.int (89 : Int32)), (.int p2), (.int (if (p3 &&& (1 : Int32)) = (0 : Int32) then (0 : Int32) else (1 : Int32))), (.ref b8), (.ref b8)])) rfl (by rw [hml]; rfl) (lenOf own_pd1 rfl) rfl (by show 2 * 0 + _ ≤ _; exact Nat.le_of_eq rfl) (hb hby at_61) ?_
    rintro _ T10 L10 X10 ⟨rfl, N10q, K10, E10, (P10 : Fld Z T10.heap b8 "com/example/lokalsatz/lokalsatz/zdb/MovingWall" "unit" "C" (.int (89 : Int32)))⟩
    show own_Go _ _ _ _ _ _ _ T10 (mkF m 64 #[.val (.int p1), .val (.int p2), .val (.int p3), .val (.ref b1), .val (.int (0 : Int32)), .val (.int (if (p3 &&& (1 : Int32)) = (0 : Int32) then (0 : Int32) else (1 : Int32))), .unset, .unset] [(.ref b8)])
    have N10 := Fr.app N6 N10q
    refine own_st (T' := T10) (g' := (mkF m 66 #[.val (.int p1), .val (.int p2), .val (.int p3), .val (.ref b1), .val (.int (0 : Int32)), .val (.int (if (p3 &&& (1 : Int32)) = (0 : Int32) then (0 : Int32) else (1 : Int32))), .val (.ref b8), .unset] [])) (fun _ k => XS.astore X10.here hx rfl (hb hby at_64) rfl rfl (l' := #[.val (.int p1), .val (.int p2), .val (.int p3), .val (.ref b1), .val (.int (0 : Int32)), .val (.int (if (p3 &&& (1 : Int32)) = (0 : Int32) then (0 : Int32) else (1 : Int32))), .val (.ref b8), .unset]) rfl k) ?_
    refine own_st (T' := T10) (g' := (mkF m 68 #[.val (.int p1), .val (.int p2), .val (.int p3), .val (.ref b1), .val (.int (0 : Int32)), .val (.int (if (p3 &&& (1 : Int32)) = (0 : Int32) then (0 : Int32) else (1 : Int32))), .val (.ref b8), .unset] [(.int (0 : Int32))])) (fun _ k => XS.iload X10.here hx rfl (hb hby at_66) rfl k) ?_
    refine own_st (T' := T10) (g' := (mkF m 69 #[.val (.int p1), .val (.int p2), .val (.int p3), .val (.ref b1), .val (.int (0 : Int32)), .val (.int (if (p3 &&& (1 : Int32)) = (0 : Int32) then (0 : Int32) else (1 : Int32))), .val (.ref b8), .unset] [(.int (3 : Int32)), (.int (0 : Int32))])) (fun _ k => XS.iconst X10.here hx rfl (hb hby at_68) k) ?_
    refine own_st (T' := T10) (g' := (mkF m 72 #[.val (.int p1), .val (.int p2), .val (.int p3), .val (.ref b1), .val (.int (0 : Int32)), .val (.int (if (p3 &&& (1 : Int32)) = (0 : Int32) then (0 : Int32) else (1 : Int32))), .val (.ref b8), .unset] [])) (fun _ k => XS.icmpNo X10.here hx rfl (hb hby at_69) rfl (tlt (by decide : ((0 : Int32) < (3 : Int32)))).2.1 k) ?_
    refine own_st (T' := T10) (g' := (mkF m 73 #[.val (.int p1), .val (.int p2), .val (.int p3), .val (.ref b1), .val (.int (0 : Int32)), .val (.int (if (p3 &&& (1 : Int32)) = (0 : Int32) then (0 : Int32) else (1 : Int32))), .val (.ref b8), .unset] [(.int (1 : Int32))])) (fun _ k => XS.iconst X10.here hx rfl (hb hby at_72) k) ?_
    refine own_st (T' := T10) (g' := (mkF m 77 #[.val (.int p1), .val (.int p2), .val (.int p3), .val (.ref b1), .val (.int (0 : Int32)), .val (.int (if (p3 &&& (1 : Int32)) = (0 : Int32) then (0 : Int32) else (1 : Int32))), .val (.ref b8), .unset] [(.int (1 : Int32))])) (fun _ k => XS.goto X10.here hx rfl (pc0 := 73) (pc' := 77) rfl (hb hby at_73) (by decide) (by decide) k) ?_
    refine own_st (T' := T10) (g' := (mkF m 79 #[.val (.int p1), .val (.int p2), .val (.int p3), .val (.ref b1), .val (.int (0 : Int32)), .val (.int (if (p3 &&& (1 : Int32)) = (0 : Int32) then (0 : Int32) else (1 : Int32))), .val (.ref b8), .val (.int (1 : Int32))] [])) (fun _ k => XS.istore X10.here hx rfl (hb hby at_77) rfl (l' := #[.val (.int p1), .val (.int p2), .val (.int p3), .val (.ref b1), .val (.int (0 : Int32)), .val (.int (if (p3 &&& (1 : Int32)) = (0 : Int32) then (0 : Int32) else (1 : Int32))), .val (.ref b8), .val (.int (1 : Int32))]) rfl k) ?_
    refine own_st (T' := T10) (g' := (mkF m 81 #[.val (.int p1), .val (.int p2), .val (.int p3), .val (.ref b1), .val (.int (0 : Int32)), .val (.int (if (p3 &&& (1 : Int32)) = (0 : Int32) then (0 : Int32) else (1 : Int32))), .val (.ref b8), .val (.int (1 : Int32))] [(.ref b8)])) (fun _ k => XS.aload X10.here hx rfl (hb hby at_79) rfl rfl k) ?_
    refine own_callV X10 hx hZ (y := (⟨"com/example/lokalsatz/lokalsatz/zdb/MovingWall", "countsCalendarUnits", "()Z"⟩ : MethodName)) hown (own_w hw 22 rfl) (own_w hw 23 rfl) (own_w hw 25 rfl) (own_w hw 24 rfl) (own_w hw 26 rfl) (own_w hw 4 rfl) (by decide) (W := 0) rfl (b := b8) E10 (argsL := []) (rest := []) (rm4 l Z a0 hw [] b8 (89 : Int32) T10.heap n0 (Nat.le_trans (Nat.le_trans (Nat.le_trans (Nat.le_trans (Nat.le_trans (Nat.le_trans (Nat.le_trans (Nat.le_trans Z0 E1.1) (Nat.le_of_eq W2.size.symm)) (Nat.le_of_eq W3.size.symm)) (Nat.le_of_eq W4.size.symm)) (Nat.le_of_eq W5.size.symm)) (Nat.le_of_eq W6.size.symm)) E8.1) K10.1) P10) (by decide) (by decide) (by decide) (by decide) (g := (mkF m 81 #[.val (.int p1), .val (.int p2), .val (.int p3), .val (.ref b1), .val (.int (0 : Int32)), .val (.int (if (p3 &&& (1 : Int32)) = (0 : Int32) then (0 : Int32) else (1 : Int32))), .val (.ref b8), .val (.int (1 : Int32))] [(.ref b8)])) rfl (by rw [hml]; rfl) (lenOf own_pd2 rfl) rfl (by show 2 * 0 + _ ≤ _; exact Nat.le_of_eq rfl) (hb hby at_81) ?_
    rintro _ T11 L11 X11 ⟨rfl, N11q, e11⟩
    show own_Go _ _ _ _ _ _ _ T11 (mkF m 84 #[.val (.int p1), .val (.int p2), .val (.int p3), .val (.ref b1), .val (.int (0 : Int32)), .val (.int (if (p3 &&& (1 : Int32)) = (0 : Int32) then (0 : Int32) else (1 : Int32))), .val (.ref b8), .val (.int (1 : Int32))] [(.int (1 : Int32))])
    have N11 := Fr.app N10 N11q
    refine own_st (T' := T11) (g' := (mkF m 86 #[.val (.int p1), .val (.int p2), .val (.int p3), .val (.ref b1), .val (.int (0 : Int32)), .val (.int (if (p3 &&& (1 : Int32)) = (0 : Int32) then (0 : Int32) else (1 : Int32))), .val (.ref b8), .val (.int (1 : Int32))] [(.int (1 : Int32)), (.int (1 : Int32))])) (fun _ k => XS.iload X11.here hx rfl (hb hby at_84) rfl k) ?_
    refine own_st (T' := T11) (g' := (mkF m 89 #[.val (.int p1), .val (.int p2), .val (.int p3), .val (.ref b1), .val (.int (0 : Int32)), .val (.int (if (p3 &&& (1 : Int32)) = (0 : Int32) then (0 : Int32) else (1 : Int32))), .val (.ref b8), .val (.int (1 : Int32))] [])) (fun _ k => XS.icmpNo X11.here hx rfl (hb hby at_86) rfl (teq (by decide : ((1 : Int32) = (1 : Int32)))).2 k) ?_
    refine own_st (T' := T11) (g' := (mkF m 90 #[.val (.int p1), .val (.int p2), .val (.int p3), .val (.ref b1), .val (.int (0 : Int32)), .val (.int (if (p3 &&& (1 : Int32)) = (0 : Int32) then (0 : Int32) else (1 : Int32))), .val (.ref b8), .val (.int (1 : Int32))] [(.int (1 : Int32))])) (fun _ k => XS.iconst X11.here hx rfl (hb hby at_89) k) ?_
    refine own_st (T' := T11) (g' := (mkF m 94 #[.val (.int p1), .val (.int p2), .val (.int p3), .val (.ref b1), .val (.int (0 : Int32)), .val (.int (if (p3 &&& (1 : Int32)) = (0 : Int32) then (0 : Int32) else (1 : Int32))), .val (.ref b8), .val (.int (1 : Int32))] [(.int (1 : Int32))])) (fun _ k => XS.goto X11.here hx rfl (pc0 := 90) (pc' := 94) rfl (hb hby at_90) (by decide) (by decide) k) ?_
    exact own_retN X11 hx hlk hret (by simp) (hb hby at_94) ⟨rfl, N11⟩ (by decide) (by decide)
  · refine own_st (T' := T6) (g' := (mkF m 37 #[.val (.int p1), .val (.int p2), .val (.int p3), .val (.ref b1), .val (.int (1 : Int32)), .unset, .unset, .unset] [])) (fun _ k => XS.istore X6.here hx rfl (hb hby at_35) rfl (l' := #[.val (.int p1), .val (.int p2), .val (.int p3), .val (.ref b1), .val (.int (1 : Int32)), .unset, .unset, .unset]) rfl k) ?_
    refine own_st (T' := T6) (g' := (mkF m 38 #[.val (.int p1), .val (.int p2), .val (.int p3), .val (.ref b1), .val (.int (1 : Int32)), .unset, .unset, .unset] [(.int p3)])) (fun _ k => XS.iloadN X6.here hx rfl (hb hby at_37) rfl k) ?_
    refine own_st (T' := T6) (g' := (mkF m 39 #[.val (.int p1), .val (.int p2), .val (.int p3), .val (.ref b1), .val (.int (1 : Int32)), .unset, .unset, .unset] [(.int (1 : Int32)), (.int p3)])) (fun _ k => XS.iconst X6.here hx rfl (hb hby at_38) k) ?_
    refine own_st (T' := T6) (g' := (mkF m 40 #[.val (.int p1), .val (.int p2), .val (.int p3), .val (.ref b1), .val (.int (1 : Int32)), .unset, .unset, .unset] [(.int (p3 &&& (1 : Int32)))])) (fun _ k => XS.iand X6.here hx rfl (hb hby at_39) rfl k) ?_
    refine own_st (T' := T6) (g' := (mkF m 48 #[.val (.int p1), .val (.int p2), .val (.int p3), .val (.ref b1), .val (.int (1 : Int32)), .unset, .unset, .unset] [(.int (if (p3 &&& (1 : Int32)) = (0 : Int32) then (0 : Int32) else (1 : Int32)))])) (fun t k => ?_) ?_
    · by_cases hc40_12 : (p3 &&& (1 : Int32)) = (0 : Int32)
      · refine own_sq (T' := T6) (g' := (mkF m 47 #[.val (.int p1), .val (.int p2), .val (.int p3), .val (.ref b1), .val (.int (1 : Int32)), .unset, .unset, .unset] [])) (fun k => XS.ifYes X6.here hx rfl (pc0 := 40) (pc' := 47) rfl (hb hby at_40) rfl ((if0 _ _).trans (teq hc40_12).1) (by decide) (by decide) k) ?_
        refine own_sq (T' := T6) (g' := (mkF m 48 #[.val (.int p1), .val (.int p2), .val (.int p3), .val (.ref b1), .val (.int (1 : Int32)), .unset, .unset, .unset] [(.int (0 : Int32))])) (fun k => XS.iconst X6.here hx rfl (hb hby at_47) k) ?_
        simp only [if_pos hc40_12] at k; exact k
      · refine own_sq (T' := T6) (g' := (mkF m 43 #[.val (.int p1), .val (.int p2), .val (.int p3), .val (.ref b1), .val (.int (1 : Int32)), .unset, .unset, .unset] [])) (fun k => XS.ifNo X6.here hx rfl (hb hby at_40) rfl ((if0 _ _).trans (feq hc40_12).1) k) ?_
        refine own_sq (T' := T6) (g' := (mkF m 44 #[.val (.int p1), .val (.int p2), .val (.int p3), .val (.ref b1), .val (.int (1 : Int32)), .unset, .unset, .unset] [(.int (1 : Int32))])) (fun k => XS.iconst X6.here hx rfl (hb hby at_43) k) ?_
        refine own_sq (T' := T6) (g' := (mkF m 48 #[.val (.int p1), .val (.int p2), .val (.int p3), .val (.ref b1), .val (.int (1 : Int32)), .unset, .unset, .unset] [(.int (1 : Int32))])) (fun k => XS.goto X6.here hx rfl (pc0 := 44) (pc' := 48) rfl (hb hby at_44) (by decide) (by decide) k) ?_
        simp only [if_neg hc40_12] at k; exact k
    refine own_st (T' := T6) (g' := (mkF m 50 #[.val (.int p1), .val (.int p2), .val (.int p3), .val (.ref b1), .val (.int (1 : Int32)), .val (.int (if (p3 &&& (1 : Int32)) = (0 : Int32) then (0 : Int32) else (1 : Int32))), .unset, .unset] [])) (fun _ k => XS.istore X6.here hx rfl (hb hby at_48) rfl (l' := #[.val (.int p1), .val (.int p2), .val (.int p3), .val (.ref b1), .val (.int (1 : Int32)), .val (.int (if (p3 &&& (1 : Int32)) = (0 : Int32) then (0 : Int32) else (1 : Int32))), .unset, .unset]) rfl k) ?_
    obtain ⟨T13, h13, X13, e13, E13, A13, D13, -, st13⟩ := newO X6 hx hZ hown (own_w hw 2 rfl) (own_w hw 3 rfl) (own_w hw 4 rfl) e6 (g := (mkF m 50 #[.val (.int p1), .val (.int p2), .val (.int p3), .val (.ref b1), .val (.int (1 : Int32)), .val (.int (if (p3 &&& (1 : Int32)) = (0 : Int32) then (0 : Int32) else (1 : Int32))), .unset, .unset] [])) rfl (hb hby at_50) (by decide) (by decide)
    obtain ⟨b13, g13⟩ : ∃ z, z = h6.size := ⟨_, rfl⟩
    rw [← g13] at A13 D13 st13
    have G_b13 : n0 ≤ b13 := Nat.le_trans (Nat.le_trans (Nat.le_trans (Nat.le_trans (Nat.le_trans (Nat.le_trans (Nat.le_trans Z0 E1.1) (Nat.le_of_eq W2.size.symm)) (Nat.le_of_eq W3.size.symm)) (Nat.le_of_eq W4.size.symm)) (Nat.le_of_eq W5.size.symm)) (Nat.le_of_eq W6.size.symm)) (Nat.le_of_eq g13.symm)
    have sz_b13 : h0.size ≤ b13 := Nat.le_trans (((((((Keep.refl h0 []).ext E1).wr W2 (Or.inr sz_b1)).wr W3 (Or.inr sz_b1)).wr W4 (Or.inr sz_b1)).wr W5 (Or.inr sz_b1)).wr W6 (Or.inr sz_b1)).1 (Nat.le_of_eq g13.symm)
    have F13_recentOnly : Fld Z h13 b13 "com/example/lokalsatz/lokalsatz/zdb/MovingWall" "recentOnly" "Z" (.int (0 : Int32)) := D13 (Or.inr (own_w hw 17 rfl)) (ty := .boolean) (by decide)
    have F13_count : Fld Z h13 b13 "com/example/lokalsatz/lokalsatz/zdb/MovingWall" "count" "I" (.int (0 : Int32)) := D13 (Or.inr (own_w hw 19 rfl)) (ty := .int) (by decide)
    have F13_unit : Fld Z h13 b13 "com/example/lokalsatz/lokalsatz/zdb/MovingWall" "unit" "C" (.int (0 : Int32)) := D13 (Or.inr (own_w hw 21 rfl)) (ty := .char) (by decide)
    refine own_st (g' := (mkF m 53 #[.val (.int p1), .val (.int p2), .val (.int p3), .val (.ref b1), .val (.int (1 : Int32)), .val (.int (if (p3 &&& (1 : Int32)) = (0 : Int32) then (0 : Int32) else (1 : Int32))), .unset, .unset] [(.ref b13)])) st13 ?_
    refine own_st (T' := T13) (g' := (mkF m 54 #[.val (.int p1), .val (.int p2), .val (.int p3), .val (.ref b1), .val (.int (1 : Int32)), .val (.int (if (p3 &&& (1 : Int32)) = (0 : Int32) then (0 : Int32) else (1 : Int32))), .unset, .unset] [(.ref b13), (.ref b13)])) (fun _ k => XS.dup X13.here hx rfl (hb hby at_53) rfl rfl k) ?_
    refine own_st (T' := T13) (g' := (mkF m 56 #[.val (.int p1), .val (.int p2), .val (.int p3), .val (.ref b1), .val (.int (1 : Int32)), .val (.int (if (p3 &&& (1 : Int32)) = (0 : Int32) then (0 : Int32) else (1 : Int32))), .unset, .unset] [(.int (if (p3 &&& (1 : Int32)) = (0 : Int32) then (0 : Int32) else (1 : Int32))), (.ref b13), (.ref b13)])) (fun _ k => XS.iload X13.here hx rfl (hb hby at_54) rfl k) ?_
    refine own_st (T' := T13) (g' := (mkF m 57 #[.val (.int p1), .val (.int p2), .val (.int p3), .val (.ref b1), .val (.int (1 : Int32)), .val (.int (if (p3 &&& (1 : Int32)) = (0 : Int32) then (0 : Int32) else (1 : Int32))), .unset, .unset] [(.int p2), (.int (if (p3 &&& (1 : Int32)) = (0 : Int32) then (0 : Int32) else (1 : Int32))), (.ref b13), (.ref b13)])) (fun _ k => XS.iloadN X13.here hx rfl (hb hby at_56) rfl k) ?_
    refine own_st (T' := T13) (g' := (mkF m 58 #[.val (.int p1), .val (.int p2), .val (.int p3), .val (.ref b1), .val (.int (1 : Int32)), .val (.int (if (p3 &&& (1 : Int32)) = (0 : Int32) then (0 : Int32) else (1 : Int32))), .unset, .unset] [(.ref b1), (.int p2), (.int (if (p3 &&& (1 : Int32)) = (0 : Int32) then (0 : Int32) else (1 : Int32))), (.ref b13), (.ref b13)])) (fun _ k => XS.aloadN X13.here hx rfl (hb hby at_57) rfl rfl k) ?_
    refine own_st (T' := T13) (g' := (mkF m 60 #[.val (.int p1), .val (.int p2), .val (.int p3), .val (.ref b1), .val (.int (1 : Int32)), .val (.int (if (p3 &&& (1 : Int32)) = (0 : Int32) then (0 : Int32) else (1 : Int32))), .unset, .unset] [(.int (1 : Int32)), (.ref b1), (.int p2), (.int (if (p3 &&& (1 : Int32)) = (0 : Int32) then (0 : Int32) else (1 : Int32))), (.ref b13), (.ref b13)])) (fun _ k => XS.iload X13.here hx rfl (hb hby at_58) rfl k) ?_
    obtain ⟨cl14, Ar14, q14, S14, M14, H14, Gf14⟩ := (V6.ext E13)
    refine own_st (T' := T13) (g' := (mkF m 61 #[.val (.int p1), .val (.int p2), .val (.int p3), .val (.ref b1), .val (.int (1 : Int32)), .val (.int (if (p3 &&& (1 : Int32)) = (0 : Int32) then (0 : Int32) else (1 : Int32))), .unset, .unset] [(.int (77 : Int32)), (.int p2), (.int (if (p3 &&& (1 : Int32)) = (0 : Int32) then (0 : Int32) else (1 : Int32))), (.ref b13), (.ref b13)])) (fun _ k => X13.caload hx (j := (1 : Int32)) (v := (.int (77 : Int32))) (by rw [e13]; exact Ar14.1) (State.isArrayOf_alike hZ.alike Ar14.2.1) Ar14.2.2 (inb_of S14 (by decide)) (Has.at H14 (inb_of S14 (by decide)) rfl) (g := (mkF m 60 #[.val (.int p1), .val (.int p2), .val (.int p3), .val (.ref b1), .val (.int (1 : Int32)), .val (.int (if (p3 &&& (1 : Int32)) = (0 : Int32) then (0 : Int32) else (1 : Int32))), .unset, .unset] [(.int (1 : Int32)), (.ref b1), (.int p2), (.int (if (p3 &&& (1 : Int32)) = (0 : Int32) then (0 : Int32) else (1 : Int32))), (.ref b13), (.ref b13)])) rfl rfl (hb hby at_60) _ k) ?_
    refine own_callC X13 hx hZ (y := (⟨"com/example/lokalsatz/lokalsatz/zdb/MovingWall", "<init>", "(ZIC)V"⟩ : MethodName)) rfl hown (own_w hw 5 rfl) (own_w hw 6 rfl) (own_w hw 7 rfl) (own_w hw 4 rfl) (by decide) (W := 1) e13 (b := b13) (argsL := [(.int (if (p3 &&& (1 : Int32)) = (0 : Int32) then (0 : Int32) else (1 : Int32))), (.int p2), (.int (77 : Int32))]) (rest := [(.ref b13)]) (rm1 l Z a0 hw [] b13 (if (p3 &&& (1 : Int32)) = (0 : Int32) then (0 : Int32) else (1 : Int32)) p2 (77 : Int32) h13 n0 (Nat.le_trans (Nat.le_trans (Nat.le_trans (Nat.le_trans (Nat.le_trans (Nat.le_trans (Nat.le_trans Z0 E1.1) (Nat.le_of_eq W2.size.symm)) (Nat.le_of_eq W3.size.symm)) (Nat.le_of_eq W4.size.symm)) (Nat.le_of_eq W5.size.symm)) (Nat.le_of_eq W6.size.symm)) E13.1) F13_recentOnly F13_count F13_unit A13 G_b13) (by decide) (by decide) (by decide) (by decide) (g := (mkF m 61 #[.val (.int p1), .val (.int p2), .val (.int p3), .val (.ref b1), .val (.int (1 : Int32)), .val (.int (if (p3 &&& (1 : Int32)) = (0 : Int32) then (0 : Int32) else (1 : Int32))), .unset, .unset] [(.int (77 : Int32)), (.int p2), (.int (if (p3 &&& (1 : Int32)) = (0 : Int32) then (0 : Int32) else (1 : Int32))), (.ref b13), (.ref b13)])) rfl (by rw [hml]; rfl) (lenOf own_pd1 rfl) rfl (by show 2 * 0 + _ ≤ _; exact Nat.le_of_eq rfl) (hb hby at_61) ?_
    rintro _ T15 L15 X15 ⟨rfl, N15q, K15, E15, (P15 : Fld Z T15.heap b13 "com/example/lokalsatz/lokalsatz/zdb/MovingWall" "unit" "C" (.int (77 : Int32)))⟩
    show own_Go _ _ _ _ _ _ _ T15 (mkF m 64 #[.val (.int p1), .val (.int p2), .val (.int p3), .val (.ref b1), .val (.int (1 : Int32)), .val (.int (if (p3 &&& (1 : Int32)) = (0 : Int32) then (0 : Int32) else (1 : Int32))), .unset, .unset] [(.ref b13)])
    have N15 := Fr.app N6 N15q
    refine own_st (T' := T15) (g' := (mkF m 66 #[.val (.int p1), .val (.int p2), .val (.int p3), .val (.ref b1), .val (.int (1 : Int32)), .val (.int (if (p3 &&& (1 : Int32)) = (0 : Int32) then (0 : Int32) else (1 : Int32))), .val (.ref b13), .unset] [])) (fun _ k => XS.astore X15.here hx rfl (hb hby at_64) rfl rfl (l' := #[.val (.int p1), .val (.int p2), .val (.int p3), .val (.ref b1), .val (.int (1 : Int32)), .val (.int (if (p3 &&& (1 : Int32)) = (0 : Int32) then (0 : Int32) else (1 : Int32))), .val (.ref b13), .unset]) rfl k) ?_
    refine own_st (T' := T15) (g' := (mkF m 68 #[.val (.int p1), .val (.int p2), .val (.int p3), .val (.ref b1), .val (.int (1 : Int32)), .val (.int (if (p3 &&& (1 : Int32)) = (0 : Int32) then (0 : Int32) else (1 : Int32))), .val (.ref b13), .unset] [(.int (1 : Int32))])) (fun _ k => XS.iload X15.here hx rfl (hb hby at_66) rfl k) ?_
    refine own_st (T' := T15) (g' := (mkF m 69 #[.val (.int p1), .val (.int p2), .val (.int p3), .val (.ref b1), .val (.int (1 : Int32)), .val (.int (if (p3 &&& (1 : Int32)) = (0 : Int32) then (0 : Int32) else (1 : Int32))), .val (.ref b13), .unset] [(.int (3 : Int32)), (.int (1 : Int32))])) (fun _ k => XS.iconst X15.here hx rfl (hb hby at_68) k) ?_
    refine own_st (T' := T15) (g' := (mkF m 72 #[.val (.int p1), .val (.int p2), .val (.int p3), .val (.ref b1), .val (.int (1 : Int32)), .val (.int (if (p3 &&& (1 : Int32)) = (0 : Int32) then (0 : Int32) else (1 : Int32))), .val (.ref b13), .unset] [])) (fun _ k => XS.icmpNo X15.here hx rfl (hb hby at_69) rfl (tlt (by decide : ((1 : Int32) < (3 : Int32)))).2.1 k) ?_
    refine own_st (T' := T15) (g' := (mkF m 73 #[.val (.int p1), .val (.int p2), .val (.int p3), .val (.ref b1), .val (.int (1 : Int32)), .val (.int (if (p3 &&& (1 : Int32)) = (0 : Int32) then (0 : Int32) else (1 : Int32))), .val (.ref b13), .unset] [(.int (1 : Int32))])) (fun _ k => XS.iconst X15.here hx rfl (hb hby at_72) k) ?_
    refine own_st (T' := T15) (g' := (mkF m 77 #[.val (.int p1), .val (.int p2), .val (.int p3), .val (.ref b1), .val (.int (1 : Int32)), .val (.int (if (p3 &&& (1 : Int32)) = (0 : Int32) then (0 : Int32) else (1 : Int32))), .val (.ref b13), .unset] [(.int (1 : Int32))])) (fun _ k => XS.goto X15.here hx rfl (pc0 := 73) (pc' := 77) rfl (hb hby at_73) (by decide) (by decide) k) ?_
    refine own_st (T' := T15) (g' := (mkF m 79 #[.val (.int p1), .val (.int p2), .val (.int p3), .val (.ref b1), .val (.int (1 : Int32)), .val (.int (if (p3 &&& (1 : Int32)) = (0 : Int32) then (0 : Int32) else (1 : Int32))), .val (.ref b13), .val (.int (1 : Int32))] [])) (fun _ k => XS.istore X15.here hx rfl (hb hby at_77) rfl (l' := #[.val (.int p1), .val (.int p2), .val (.int p3), .val (.ref b1), .val (.int (1 : Int32)), .val (.int (if (p3 &&& (1 : Int32)) = (0 : Int32) then (0 : Int32) else (1 : Int32))), .val (.ref b13), .val (.int (1 : Int32))]) rfl k) ?_
    refine own_st (T' := T15) (g' := (mkF m 81 #[.val (.int p1), .val (.int p2), .val (.int p3), .val (.ref b1), .val (.int (1 : Int32)), .val (.int (if (p3 &&& (1 : Int32)) = (0 : Int32) then (0 : Int32) else (1 : Int32))), .val (.ref b13), .val (.int (1 : Int32))] [(.ref b13)])) (fun _ k => XS.aload X15.here hx rfl (hb hby at_79) rfl rfl k) ?_
    refine own_callV X15 hx hZ (y := (⟨"com/example/lokalsatz/lokalsatz/zdb/MovingWall", "countsCalendarUnits", "()Z"⟩ : MethodName)) hown (own_w hw 22 rfl) (own_w hw 23 rfl) (own_w hw 25 rfl) (own_w hw 24 rfl) (own_w hw 26 rfl) (own_w hw 4 rfl) (by decide) (W := 0) rfl (b := b13) E15 (argsL := []) (rest := []) (rm4 l Z a0 hw [] b13 (77 : Int32) T15.heap n0 (Nat.le_trans (Nat.le_trans (Nat.le_trans (Nat.le_trans (Nat.le_trans (Nat.le_trans (Nat.le_trans (Nat.le_trans Z0 E1.1) (Nat.le_of_eq W2.size.symm)) (Nat.le_of_eq W3.size.symm)) (Nat.le_of_eq W4.size.symm)) (Nat.le_of_eq W5.size.symm)) (Nat.le_of_eq W6.size.symm)) E13.1) K15.1) P15) (by decide) (by decide) (by decide) (by decide) (g := (mkF m 81 #[.val (.int p1), .val (.int p2), .val (.int p3), .val (.ref b1), .val (.int (1 : Int32)), .val (.int (if (p3 &&& (1 : Int32)) = (0 : Int32) then (0 : Int32) else (1 : Int32))), .val (.ref b13), .val (.int (1 : Int32))] [(.ref b13)])) rfl (by rw [hml]; rfl) (lenOf own_pd2 rfl) rfl (by show 2 * 0 + _ ≤ _; exact Nat.le_of_eq rfl) (hb hby at_81) ?_
    rintro _ T16 L16 X16 ⟨rfl, N16q, e16⟩
    show own_Go _ _ _ _ _ _ _ T16 (mkF m 84 #[.val (.int p1), .val (.int p2), .val (.int p3), .val (.ref b1), .val (.int (1 : Int32)), .val (.int (if (p3 &&& (1 : Int32)) = (0 : Int32) then (0 : Int32) else (1 : Int32))), .val (.ref b13), .val (.int (1 : Int32))] [(.int (1 : Int32))])
    have N16 := Fr.app N15 N16q
    refine own_st (T' := T16) (g' := (mkF m 86 #[.val (.int p1), .val (.int p2), .val (.int p3), .val (.ref b1), .val (.int (1 : Int32)), .val (.int (if (p3 &&& (1 : Int32)) = (0 : Int32) then (0 : Int32) else (1 : Int32))), .val (.ref b13), .val (.int (1 : Int32))] [(.int (1 : Int32)), (.int (1 : Int32))])) (fun _ k => XS.iload X16.here hx rfl (hb hby at_84) rfl k) ?_
    refine own_st (T' := T16) (g' := (mkF m 89 #[.val (.int p1), .val (.int p2), .val (.int p3), .val (.ref b1), .val (.int (1 : Int32)), .val (.int (if (p3 &&& (1 : Int32)) = (0 : Int32) then (0 : Int32) else (1 : Int32))), .val (.ref b13), .val (.int (1 : Int32))] [])) (fun _ k => XS.icmpNo X16.here hx rfl (hb hby at_86) rfl (teq (by decide : ((1 : Int32) = (1 : Int32)))).2 k) ?_
    refine own_st (T' := T16) (g' := (mkF m 90 #[.val (.int p1), .val (.int p2), .val (.int p3), .val (.ref b1), .val (.int (1 : Int32)), .val (.int (if (p3 &&& (1 : Int32)) = (0 : Int32) then (0 : Int32) else (1 : Int32))), .val (.ref b13), .val (.int (1 : Int32))] [(.int (1 : Int32))])) (fun _ k => XS.iconst X16.here hx rfl (hb hby at_89) k) ?_
    refine own_st (T' := T16) (g' := (mkF m 94 #[.val (.int p1), .val (.int p2), .val (.int p3), .val (.ref b1), .val (.int (1 : Int32)), .val (.int (if (p3 &&& (1 : Int32)) = (0 : Int32) then (0 : Int32) else (1 : Int32))), .val (.ref b13), .val (.int (1 : Int32))] [(.int (1 : Int32))])) (fun _ k => XS.goto X16.here hx rfl (pc0 := 90) (pc' := 94) rfl (hb hby at_90) (by decide) (by decide) k) ?_
    exact own_retN X16 hx hlk hret (by simp) (hb hby at_94) ⟨rfl, N16⟩ (by decide) (by decide)
  · refine own_st (T' := T6) (g' := (mkF m 37 #[.val (.int p1), .val (.int p2), .val (.int p3), .val (.ref b1), .val (.int (2 : Int32)), .unset, .unset, .unset] [])) (fun _ k => XS.istore X6.here hx rfl (hb hby at_35) rfl (l' := #[.val (.int p1), .val (.int p2), .val (.int p3), .val (.ref b1), .val (.int (2 : Int32)), .unset, .unset, .unset]) rfl k) ?_
    refine own_st (T' := T6) (g' := (mkF m 38 #[.val (.int p1), .val (.int p2), .val (.int p3), .val (.ref b1), .val (.int (2 : Int32)), .unset, .unset, .unset] [(.int p3)])) (fun _ k => XS.iloadN X6.here hx rfl (hb hby at_37) rfl k) ?_
    refine own_st (T' := T6) (g' := (mkF m 39 #[.val (.int p1), .val (.int p2), .val (.int p3), .val (.ref b1), .val (.int (2 : Int32)), .unset, .unset, .unset] [(.int (1 : Int32)), (.int p3)])) (fun _ k => XS.iconst X6.here hx rfl (hb hby at_38) k) ?_
    refine own_st (T' := T6) (g' := (mkF m 40 #[.val (.int p1), .val (.int p2), .val (.int p3), .val (.ref b1), .val (.int (2 : Int32)), .unset, .unset, .unset] [(.int (p3 &&& (1 : Int32)))])) (fun _ k => XS.iand X6.here hx rfl (hb hby at_39) rfl k) ?_
    refine own_st (T' := T6) (g' := (mkF m 48 #[.val (.int p1), .val (.int p2), .val (.int p3), .val (.ref b1), .val (.int (2 : Int32)), .unset, .unset, .unset] [(.int (if (p3 &&& (1 : Int32)) = (0 : Int32) then (0 : Int32) else (1 : Int32)))])) (fun t k => ?_) ?_
    · by_cases hc40_17 : (p3 &&& (1 : Int32)) = (0 : Int32)
      · refine own_sq (T' := T6) (g' := (mkF m 47 #[.val (.int p1), .val (.int p2), .val (.int p3), .val (.ref b1), .val (.int (2 : Int32)), .unset, .unset, .unset] [])) (fun k => XS.ifYes X6.here hx rfl (pc0 := 40) (pc' := 47) rfl (hb hby at_40) rfl ((if0 _ _).trans (teq hc40_17).1) (by decide) (by decide) k) ?_
        refine own_sq (T' := T6) (g' := (mkF m 48 #[.val (.int p1), .val (.int p2), .val (.int p3), .val (.ref b1), .val (.int (2 : Int32)), .unset, .unset, .unset] [(.int (0 : Int32))])) (fun k => XS.iconst X6.here hx rfl (hb hby at_47) k) ?_
        simp only [if_pos hc40_17] at k; exact k
      · refine own_sq (T' := T6) (g' := (mkF m 43 #[.val (.int p1), .val (.int p2), .val (.int p3), .val (.ref b1), .val (.int (2 : Int32)), .unset, .unset, .unset] [])) (fun k => XS.ifNo X6.here hx rfl (hb hby at_40) rfl ((if0 _ _).trans (feq hc40_17).1) k) ?_
        refine own_sq (T' := T6) (g' := (mkF m 44 #[.val (.int p1), .val (.int p2), .val (.int p3), .val (.ref b1), .val (.int (2 : Int32)), .unset, .unset, .unset] [(.int (1 : Int32))])) (fun k => XS.iconst X6.here hx rfl (hb hby at_43) k) ?_
        refine own_sq (T' := T6) (g' := (mkF m 48 #[.val (.int p1), .val (.int p2), .val (.int p3), .val (.ref b1), .val (.int (2 : Int32)), .unset, .unset, .unset] [(.int (1 : Int32))])) (fun k => XS.goto X6.here hx rfl (pc0 := 44) (pc' := 48) rfl (hb hby at_44) (by decide) (by decide) k) ?_
        simp only [if_neg hc40_17] at k; exact k
    refine own_st (T' := T6) (g' := (mkF m 50 #[.val (.int p1), .val (.int p2), .val (.int p3), .val (.ref b1), .val (.int (2 : Int32)), .val (.int (if (p3 &&& (1 : Int32)) = (0 : Int32) then (0 : Int32) else (1 : Int32))), .unset, .unset] [])) (fun _ k => XS.istore X6.here hx rfl (hb hby at_48) rfl (l' := #[.val (.int p1), .val (.int p2), .val (.int p3), .val (.ref b1), .val (.int (2 : Int32)), .val (.int (if (p3 &&& (1 : Int32)) = (0 : Int32) then (0 : Int32) else (1 : Int32))), .unset, .unset]) rfl k) ?_
    obtain ⟨T18, h18, X18, e18, E18, A18, D18, -, st18⟩ := newO X6 hx hZ hown (own_w hw 2 rfl) (own_w hw 3 rfl) (own_w hw 4 rfl) e6 (g := (mkF m 50 #[.val (.int p1), .val (.int p2), .val (.int p3), .val (.ref b1), .val (.int (2 : Int32)), .val (.int (if (p3 &&& (1 : Int32)) = (0 : Int32) then (0 : Int32) else (1 : Int32))), .unset, .unset] [])) rfl (hb hby at_50) (by decide) (by decide)
    obtain ⟨b18, g18⟩ : ∃ z, z = h6.size := ⟨_, rfl⟩
    rw [← g18] at A18 D18 st18
    have G_b18 : n0 ≤ b18 := Nat.le_trans (Nat.le_trans (Nat.le_trans (Nat.le_trans (Nat.le_trans (Nat.le_trans (Nat.le_trans Z0 E1.1) (Nat.le_of_eq W2.size.symm)) (Nat.le_of_eq W3.size.symm)) (Nat.le_of_eq W4.size.symm)) (Nat.le_of_eq W5.size.symm)) (Nat.le_of_eq W6.size.symm)) (Nat.le_of_eq g18.symm)
    have sz_b18 : h0.size ≤ b18 := Nat.le_trans (((((((Keep.refl h0 []).ext E1).wr W2 (Or.inr sz_b1)).wr W3 (Or.inr sz_b1)).wr W4 (Or.inr sz_b1)).wr W5 (Or.inr sz_b1)).wr W6 (Or.inr sz_b1)).1 (Nat.le_of_eq g18.symm)
    have F18_recentOnly : Fld Z h18 b18 "com/example/lokalsatz/lokalsatz/zdb/MovingWall" "recentOnly" "Z" (.int (0 : Int32)) := D18 (Or.inr (own_w hw 17 rfl)) (ty := .boolean) (by decide)
    have F18_count : Fld Z h18 b18 "com/example/lokalsatz/lokalsatz/zdb/MovingWall" "count" "I" (.int (0 : Int32)) := D18 (Or.inr (own_w hw 19 rfl)) (ty := .int) (by decide)
    have F18_unit : Fld Z h18 b18 "com/example/lokalsatz/lokalsatz/zdb/MovingWall" "unit" "C" (.int (0 : Int32)) := D18 (Or.inr (own_w hw 21 rfl)) (ty := .char) (by decide)
    refine own_st (g' := (mkF m 53 #[.val (.int p1), .val (.int p2), .val (.int p3), .val (.ref b1), .val (.int (2 : Int32)), .val (.int (if (p3 &&& (1 : Int32)) = (0 : Int32) then (0 : Int32) else (1 : Int32))), .unset, .unset] [(.ref b18)])) st18 ?_
    refine own_st (T' := T18) (g' := (mkF m 54 #[.val (.int p1), .val (.int p2), .val (.int p3), .val (.ref b1), .val (.int (2 : Int32)), .val (.int (if (p3 &&& (1 : Int32)) = (0 : Int32) then (0 : Int32) else (1 : Int32))), .unset, .unset] [(.ref b18), (.ref b18)])) (fun _ k => XS.dup X18.here hx rfl (hb hby at_53) rfl rfl k) ?_
    refine own_st (T' := T18) (g' := (mkF m 56 #[.val (.int p1), .val (.int p2), .val (.int p3), .val (.ref b1), .val (.int (2 : Int32)), .val (.int (if (p3 &&& (1 : Int32)) = (0 : Int32) then (0 : Int32) else (1 : Int32))), .unset, .unset] [(.int (if (p3 &&& (1 : Int32)) = (0 : Int32) then (0 : Int32) else (1 : Int32))), (.ref b18), (.ref b18)])) (fun _ k => XS.iload X18.here hx rfl (hb hby at_54) rfl k) ?_
    refine own_st (T' := T18) (g' := (mkF m 57 #[.val (.int p1), .val (.int p2), .val (.int p3), .val (.ref b1), .val (.int (2 : Int32)), .val (.int (if (p3 &&& (1 : Int32)) = (0 : Int32) then (0 : Int32) else (1 : Int32))), .unset, .unset] [(.int p2), (.int (if (p3 &&& (1 : Int32)) = (0 : Int32) then (0 : Int32) else (1 : Int32))), (.ref b18), (.ref b18)])) (fun _ k => XS.iloadN X18.here hx rfl (hb hby at_56) rfl k) ?_
    refine own_st (T' := T18) (g' := (mkF m 58 #[.val (.int p1), .val (.int p2), .val (.int p3), .val (.ref b1), .val (.int (2 : Int32)), .val (.int (if (p3 &&& (1 : Int32)) = (0 : Int32) then (0 : Int32) else (1 : Int32))), .unset, .unset] [(.ref b1), (.int p2), (.int (if (p3 &&& (1 : Int32)) = (0 : Int32) then (0 : Int32) else (1 : Int32))), (.ref b18), (.ref b18)])) (fun _ k => XS.aloadN X18.here hx rfl (hb hby at_57) rfl rfl k) ?_
    refine own_st (T' := T18) (g' := (mkF m 60 #[.val (.int p1), .val (.int p2), .val (.int p3), .val (.ref b1), .val (.int (2 : Int32)), .val (.int (if (p3 &&& (1 : Int32)) = (0 : Int32) then (0 : Int32) else (1 : Int32))), .unset, .unset] [(.int (2 : Int32)), (.ref b1), (.int p2), (.int (if (p3 &&& (1 : Int32)) = (0 : Int32) then (0 : Int32) else (1 : Int32))), (.ref b18), (.ref b18)])) (fun _ k => XS.iload X18.here hx rfl (hb hby at_58) rfl k) ?_
    obtain ⟨cl19, Ar19, q19, S19, M19, H19, Gf19⟩ := (V6.ext E18)
    refine own_st (T' := T18) (g' := (mkF m 61 #[.val (.int p1), .val (.int p2), .val (.int p3), .val (.ref b1), .val (.int (2 : Int32)), .val (.int (if (p3 &&& (1 : Int32)) = (0 : Int32) then (0 : Int32) else (1 : Int32))), .unset, .unset] [(.int (68 : Int32)), (.int p2), (.int (if (p3 &&& (1 : Int32)) = (0 : Int32) then (0 : Int32) else (1 : Int32))), (.ref b18), (.ref b18)])) (fun _ k => X18.caload hx (j := (2 : Int32)) (v := (.int (68 : Int32))) (by rw [e18]; exact Ar19.1) (State.isArrayOf_alike hZ.alike Ar19.2.1) Ar19.2.2 (inb_of S19 (by decide)) (Has.at H19 (inb_of S19 (by decide)) rfl) (g := (mkF m 60 #[.val (.int p1), .val (.int p2), .val (.int p3), .val (.ref b1), .val (.int (2 : Int32)), .val (.int (if (p3 &&& (1 : Int32)) = (0 : Int32) then (0 : Int32) else (1 : Int32))), .unset, .unset] [(.int (2 : Int32)), (.ref b1), (.int p2), (.int (if (p3 &&& (1 : Int32)) = (0 : Int32) then (0 : Int32) else (1 : Int32))), (.ref b18), (.ref b18)])) rfl rfl (hb hby at_60) _ k) ?_
    refine own_callC X18 hx hZ (y := (⟨"com/example/lokalsatz/lokalsatz/zdb/MovingWall", "<init>", "(ZIC)V"⟩ : MethodName)) rfl hown (own_w hw 5 rfl) (own_w hw 6 rfl) (own_w hw 7 rfl) (own_w hw 4 rfl) (by decide) (W := 1) e18 (b := b18) (argsL := [(.int (if (p3 &&& (1 : Int32)) = (0 : Int32) then (0 : Int32) else (1 : Int32))), (.int p2), (.int (68 : Int32))]) (rest := [(.ref b18)]) (rm1 l Z a0 hw [] b18 (if (p3 &&& (1 : Int32)) = (0 : Int32) then (0 : Int32) else (1 : Int32)) p2 (68 : Int32) h18 n0 (Nat.le_trans (Nat.le_trans (Nat.le_trans (Nat.le_trans (Nat.le_trans (Nat.le_trans (Nat.le_trans Z0 E1.1) (Nat.le_of_eq W2.size.symm)) (Nat.le_of_eq W3.size.symm)) (Nat.le_of_eq W4.size.symm)) (Nat.le_of_eq W5.size.symm)) (Nat.le_of_eq W6.size.symm)) E18.1) F18_recentOnly F18_count F18_unit A18 G_b18) (by decide) (by decide) (by decide) (by decide) (g := (mkF m 61 #[.val (.int p1), .val (.int p2), .val (.int p3), .val (.ref b1), .val (.int (2 : Int32)), .val (.int (if (p3 &&& (1 : Int32)) = (0 : Int32) then (0 : Int32) else (1 : Int32))), .unset, .unset] [(.int (68 : Int32)), (.int p2), (.int (if (p3 &&& (1 : Int32)) = (0 : Int32) then (0 : Int32) else (1 : Int32))), (.ref b18), (.ref b18)])) rfl (by rw [hml]; rfl) (lenOf own_pd1 rfl) rfl (by show 2 * 0 + _ ≤ _; exact Nat.le_of_eq rfl) (hb hby at_61) ?_
    rintro _ T20 L20 X20 ⟨rfl, N20q, K20, E20, (P20 : Fld Z T20.heap b18 "com/example/lokalsatz/lokalsatz/zdb/MovingWall" "unit" "C" (.int (68 : Int32)))⟩
    show own_Go _ _ _ _ _ _ _ T20 (mkF m 64 #[.val (.int p1), .val (.int p2), .val (.int p3), .val (.ref b1), .val (.int (2 : Int32)), .val (.int (if (p3 &&& (1 : Int32)) = (0 : Int32) then (0 : Int32) else (1 : Int32))), .unset, .unset] [(.ref b18)])
    have N20 := Fr.app N6 N20q
    refine own_st (T' := T20) (g' := (mkF m 66 #[.val (.int p1), .val (.int p2), .val (.int p3), .val (.ref b1), .val (.int (2 : Int32)), .val (.int (if (p3 &&& (1 : Int32)) = (0 : Int32) then (0 : Int32) else (1 : Int32))), .val (.ref b18), .unset] [])) (fun _ k => XS.astore X20.here hx rfl (hb hby at_64) rfl rfl (l' := #[.val (.int p1), .val (.int p2), .val (.int p3), .val (.ref b1), .val (.int (2 : Int32)), .val (.int (if (p3 &&& (1 : Int32)) = (0 : Int32) then (0 : Int32) else (1 : Int32))), .val (.ref b18), .unset]) rfl k) ?_
    refine own_st (T' := T20) (g' := (mkF m 68 #[.val (.int p1), .val (.int p2), .val (.int p3), .val (.ref b1), .val (.int (2 : Int32)), .val (.int (if (p3 &&& (1 : Int32)) = (0 : Int32) then (0 : Int32) else (1 : Int32))), .val (.ref b18), .unset] [(.int (2 : Int32))])) (fun _ k => XS.iload X20.here hx rfl (hb hby at_66) rfl k) ?_
    refine own_st (T' := T20) (g' := (mkF m 69 #[.val (.int p1), .val (.int p2), .val (.int p3), .val (.ref b1), .val (.int (2 : Int32)), .val (.int (if (p3 &&& (1 : Int32)) = (0 : Int32) then (0 : Int32) else (1 : Int32))), .val (.ref b18), .unset] [(.int (3 : Int32)), (.int (2 : Int32))])) (fun _ k => XS.iconst X20.here hx rfl (hb hby at_68) k) ?_
    refine own_st (T' := T20) (g' := (mkF m 72 #[.val (.int p1), .val (.int p2), .val (.int p3), .val (.ref b1), .val (.int (2 : Int32)), .val (.int (if (p3 &&& (1 : Int32)) = (0 : Int32) then (0 : Int32) else (1 : Int32))), .val (.ref b18), .unset] [])) (fun _ k => XS.icmpNo X20.here hx rfl (hb hby at_69) rfl (tlt (by decide : ((2 : Int32) < (3 : Int32)))).2.1 k) ?_
    refine own_st (T' := T20) (g' := (mkF m 73 #[.val (.int p1), .val (.int p2), .val (.int p3), .val (.ref b1), .val (.int (2 : Int32)), .val (.int (if (p3 &&& (1 : Int32)) = (0 : Int32) then (0 : Int32) else (1 : Int32))), .val (.ref b18), .unset] [(.int (1 : Int32))])) (fun _ k => XS.iconst X20.here hx rfl (hb hby at_72) k) ?_
    refine own_st (T' := T20) (g' := (mkF m 77 #[.val (.int p1), .val (.int p2), .val (.int p3), .val (.ref b1), .val (.int (2 : Int32)), .val (.int (if (p3 &&& (1 : Int32)) = (0 : Int32) then (0 : Int32) else (1 : Int32))), .val (.ref b18), .unset] [(.int (1 : Int32))])) (fun _ k => XS.goto X20.here hx rfl (pc0 := 73) (pc' := 77) rfl (hb hby at_73) (by decide) (by decide) k) ?_
    refine own_st (T' := T20) (g' := (mkF m 79 #[.val (.int p1), .val (.int p2), .val (.int p3), .val (.ref b1), .val (.int (2 : Int32)), .val (.int (if (p3 &&& (1 : Int32)) = (0 : Int32) then (0 : Int32) else (1 : Int32))), .val (.ref b18), .val (.int (1 : Int32))] [])) (fun _ k => XS.istore X20.here hx rfl (hb hby at_77) rfl (l' := #[.val (.int p1), .val (.int p2), .val (.int p3), .val (.ref b1), .val (.int (2 : Int32)), .val (.int (if (p3 &&& (1 : Int32)) = (0 : Int32) then (0 : Int32) else (1 : Int32))), .val (.ref b18), .val (.int (1 : Int32))]) rfl k) ?_
    refine own_st (T' := T20) (g' := (mkF m 81 #[.val (.int p1), .val (.int p2), .val (.int p3), .val (.ref b1), .val (.int (2 : Int32)), .val (.int (if (p3 &&& (1 : Int32)) = (0 : Int32) then (0 : Int32) else (1 : Int32))), .val (.ref b18), .val (.int (1 : Int32))] [(.ref b18)])) (fun _ k => XS.aload X20.here hx rfl (hb hby at_79) rfl rfl k) ?_
    refine own_callV X20 hx hZ (y := (⟨"com/example/lokalsatz/lokalsatz/zdb/MovingWall", "countsCalendarUnits", "()Z"⟩ : MethodName)) hown (own_w hw 22 rfl) (own_w hw 23 rfl) (own_w hw 25 rfl) (own_w hw 24 rfl) (own_w hw 26 rfl) (own_w hw 4 rfl) (by decide) (W := 0) rfl (b := b18) E20 (argsL := []) (rest := []) (rm4 l Z a0 hw [] b18 (68 : Int32) T20.heap n0 (Nat.le_trans (Nat.le_trans (Nat.le_trans (Nat.le_trans (Nat.le_trans (Nat.le_trans (Nat.le_trans (Nat.le_trans Z0 E1.1) (Nat.le_of_eq W2.size.symm)) (Nat.le_of_eq W3.size.symm)) (Nat.le_of_eq W4.size.symm)) (Nat.le_of_eq W5.size.symm)) (Nat.le_of_eq W6.size.symm)) E18.1) K20.1) P20) (by decide) (by decide) (by decide) (by decide) (g := (mkF m 81 #[.val (.int p1), .val (.int p2), .val (.int p3), .val (.ref b1), .val (.int (2 : Int32)), .val (.int (if (p3 &&& (1 : Int32)) = (0 : Int32) then (0 : Int32) else (1 : Int32))), .val (.ref b18), .val (.int (1 : Int32))] [(.ref b18)])) rfl (by rw [hml]; rfl) (lenOf own_pd2 rfl) rfl (by show 2 * 0 + _ ≤ _; exact Nat.le_of_eq rfl) (hb hby at_81) ?_
    rintro _ T21 L21 X21 ⟨rfl, N21q, e21⟩
    show own_Go _ _ _ _ _ _ _ T21 (mkF m 84 #[.val (.int p1), .val (.int p2), .val (.int p3), .val (.ref b1), .val (.int (2 : Int32)), .val (.int (if (p3 &&& (1 : Int32)) = (0 : Int32) then (0 : Int32) else (1 : Int32))), .val (.ref b18), .val (.int (1 : Int32))] [(.int (1 : Int32))])
    have N21 := Fr.app N20 N21q
    refine own_st (T' := T21) (g' := (mkF m 86 #[.val (.int p1), .val (.int p2), .val (.int p3), .val (.ref b1), .val (.int (2 : Int32)), .val (.int (if (p3 &&& (1 : Int32)) = (0 : Int32) then (0 : Int32) else (1 : Int32))), .val (.ref b18), .val (.int (1 : Int32))] [(.int (1 : Int32)), (.int (1 : Int32))])) (fun _ k => XS.iload X21.here hx rfl (hb hby at_84) rfl k) ?_
    refine own_st (T' := T21) (g' := (mkF m 89 #[.val (.int p1), .val (.int p2), .val (.int p3), .val (.ref b1), .val (.int (2 : Int32)), .val (.int (if (p3 &&& (1 : Int32)) = (0 : Int32) then (0 : Int32) else (1 : Int32))), .val (.ref b18), .val (.int (1 : Int32))] [])) (fun _ k => XS.icmpNo X21.here hx rfl (hb hby at_86) rfl (teq (by decide : ((1 : Int32) = (1 : Int32)))).2 k) ?_
    refine own_st (T' := T21) (g' := (mkF m 90 #[.val (.int p1), .val (.int p2), .val (.int p3), .val (.ref b1), .val (.int (2 : Int32)), .val (.int (if (p3 &&& (1 : Int32)) = (0 : Int32) then (0 : Int32) else (1 : Int32))), .val (.ref b18), .val (.int (1 : Int32))] [(.int (1 : Int32))])) (fun _ k => XS.iconst X21.here hx rfl (hb hby at_89) k) ?_
    refine own_st (T' := T21) (g' := (mkF m 94 #[.val (.int p1), .val (.int p2), .val (.int p3), .val (.ref b1), .val (.int (2 : Int32)), .val (.int (if (p3 &&& (1 : Int32)) = (0 : Int32) then (0 : Int32) else (1 : Int32))), .val (.ref b18), .val (.int (1 : Int32))] [(.int (1 : Int32))])) (fun _ k => XS.goto X21.here hx rfl (pc0 := 90) (pc' := 94) rfl (hb hby at_90) (by decide) (by decide) k) ?_
    exact own_retN X21 hx hlk hret (by simp) (hb hby at_94) ⟨rfl, N21⟩ (by decide) (by decide)
  · refine own_st (T' := T6) (g' := (mkF m 37 #[.val (.int p1), .val (.int p2), .val (.int p3), .val (.ref b1), .val (.int (3 : Int32)), .unset, .unset, .unset] [])) (fun _ k => XS.istore X6.here hx rfl (hb hby at_35) rfl (l' := #[.val (.int p1), .val (.int p2), .val (.int p3), .val (.ref b1), .val (.int (3 : Int32)), .unset, .unset, .unset]) rfl k) ?_
    refine own_st (T' := T6) (g' := (mkF m 38 #[.val (.int p1), .val (.int p2), .val (.int p3), .val (.ref b1), .val (.int (3 : Int32)), .unset, .unset, .unset] [(.int p3)])) (fun _ k => XS.iloadN X6.here hx rfl (hb hby at_37) rfl k) ?_
    refine own_st (T' := T6) (g' := (mkF m 39 #[.val (.int p1), .val (.int p2), .val (.int p3), .val (.ref b1), .val (.int (3 : Int32)), .unset, .unset, .unset] [(.int (1 : Int32)), (.int p3)])) (fun _ k => XS.iconst X6.here hx rfl (hb hby at_38) k) ?_
    refine own_st (T' := T6) (g' := (mkF m 40 #[.val (.int p1), .val (.int p2), .val (.int p3), .val (.ref b1), .val (.int (3 : Int32)), .unset, .unset, .unset] [(.int (p3 &&& (1 : Int32)))])) (fun _ k => XS.iand X6.here hx rfl (hb hby at_39) rfl k) ?_
    refine own_st (T' := T6) (g' := (mkF m 48 #[.val (.int p1), .val (.int p2), .val (.int p3), .val (.ref b1), .val (.int (3 : Int32)), .unset, .unset, .unset] [(.int (if (p3 &&& (1 : Int32)) = (0 : Int32) then (0 : Int32) else (1 : Int32)))])) (fun t k => ?_) ?_
    · by_cases hc40_22 : (p3 &&& (1 : Int32)) = (0 : Int32)
      · refine own_sq (T' := T6) (g' := (mkF m 47 #[.val (.int p1), .val (.int p2), .val (.int p3), .val (.ref b1), .val (.int (3 : Int32)), .unset, .unset, .unset] [])) (fun k => XS.ifYes X6.here hx rfl (pc0 := 40) (pc' := 47) rfl (hb hby at_40) rfl ((if0 _ _).trans (teq hc40_22).1) (by decide) (by decide) k) ?_
        refine own_sq (T' := T6) (g' := (mkF m 48 #[.val (.int p1), .val (.int p2), .val (.int p3), .val (.ref b1), .val (.int (3 : Int32)), .unset, .unset, .unset] [(.int (0 : Int32))])) (fun k => XS.iconst X6.here hx rfl (hb hby at_47) k) ?_
        simp only [if_pos hc40_22] at k; exact k
      · refine own_sq (T' := T6) (g' := (mkF m 43 #[.val (.int p1), .val (.int p2), .val (.int p3), .val (.ref b1), .val (.int (3 : Int32)), .unset, .unset, .unset] [])) (fun k => XS.ifNo X6.here hx rfl (hb hby at_40) rfl ((if0 _ _).trans (feq hc40_22).1) k) ?_
        refine own_sq (T' := T6) (g' := (mkF m 44 #[.val (.int p1), .val (.int p2), .val (.int p3), .val (.ref b1), .val (.int (3 : Int32)), .unset, .unset, .unset] [(.int (1 : Int32))])) (fun k => XS.iconst X6.here hx rfl (hb hby at_43) k) ?_
        refine own_sq (T' := T6) (g' := (mkF m 48 #[.val (.int p1), .val (.int p2), .val (.int p3), .val (.ref b1), .val (.int (3 : Int32)), .unset, .unset, .unset] [(.int (1 : Int32))])) (fun k => XS.goto X6.here hx rfl (pc0 := 44) (pc' := 48) rfl (hb hby at_44) (by decide) (by decide) k) ?_
        simp only [if_neg hc40_22] at k; exact k
    refine own_st (T' := T6) (g' := (mkF m 50 #[.val (.int p1), .val (.int p2), .val (.int p3), .val (.ref b1), .val (.int (3 : Int32)), .val (.int (if (p3 &&& (1 : Int32)) = (0 : Int32) then (0 : Int32) else (1 : Int32))), .unset, .unset] [])) (fun _ k => XS.istore X6.here hx rfl (hb hby at_48) rfl (l' := #[.val (.int p1), .val (.int p2), .val (.int p3), .val (.ref b1), .val (.int (3 : Int32)), .val (.int (if (p3 &&& (1 : Int32)) = (0 : Int32) then (0 : Int32) else (1 : Int32))), .unset, .unset]) rfl k) ?_
    obtain ⟨T23, h23, X23, e23, E23, A23, D23, -, st23⟩ := newO X6 hx hZ hown (own_w hw 2 rfl) (own_w hw 3 rfl) (own_w hw 4 rfl) e6 (g := (mkF m 50 #[.val (.int p1), .val (.int p2), .val (.int p3), .val (.ref b1), .val (.int (3 : Int32)), .val (.int (if (p3 &&& (1 : Int32)) = (0 : Int32) then (0 : Int32) else (1 : Int32))), .unset, .unset] [])) rfl (hb hby at_50) (by decide) (by decide)
    obtain ⟨b23, g23⟩ : ∃ z, z = h6.size := ⟨_, rfl⟩
    rw [← g23] at A23 D23 st23
    have G_b23 : n0 ≤ b23 := Nat.le_trans (Nat.le_trans (Nat.le_trans (Nat.le_trans (Nat.le_trans (Nat.le_trans (Nat.le_trans Z0 E1.1) (Nat.le_of_eq W2.size.symm)) (Nat.le_of_eq W3.size.symm)) (Nat.le_of_eq W4.size.symm)) (Nat.le_of_eq W5.size.symm)) (Nat.le_of_eq W6.size.symm)) (Nat.le_of_eq g23.symm)
    have sz_b23 : h0.size ≤ b23 := Nat.le_trans (((((((Keep.refl h0 []).ext E1).wr W2 (Or.inr sz_b1)).wr W3 (Or.inr sz_b1)).wr W4 (Or.inr sz_b1)).wr W5 (Or.inr sz_b1)).wr W6 (Or.inr sz_b1)).1 (Nat.le_of_eq g23.symm)
    have F23_recentOnly : Fld Z h23 b23 "com/example/lokalsatz/lokalsatz/zdb/MovingWall" "recentOnly" "Z" (.int (0 : Int32)) := D23 (Or.inr (own_w hw 17 rfl)) (ty := .boolean) (by decide)
    have F23_count : Fld Z h23 b23 "com/example/lokalsatz/lokalsatz/zdb/MovingWall" "count" "I" (.int (0 : Int32)) := D23 (Or.inr (own_w hw 19 rfl)) (ty := .int) (by decide)
    have F23_unit : Fld Z h23 b23 "com/example/lokalsatz/lokalsatz/zdb/MovingWall" "unit" "C" (.int (0 : Int32)) := D23 (Or.inr (own_w hw 21 rfl)) (ty := .char) (by decide)
    refine own_st (g' := (mkF m 53 #[.val (.int p1), .val (.int p2), .val (.int p3), .val (.ref b1), .val (.int (3 : Int32)), .val (.int (if (p3 &&& (1 : Int32)) = (0 : Int32) then (0 : Int32) else (1 : Int32))), .unset, .unset] [(.ref b23)])) st23 ?_
    refine own_st (T' := T23) (g' := (mkF m 54 #[.val (.int p1), .val (.int p2), .val (.int p3), .val (.ref b1), .val (.int (3 : Int32)), .val (.int (if (p3 &&& (1 : Int32)) = (0 : Int32) then (0 : Int32) else (1 : Int32))), .unset, .unset] [(.ref b23), (.ref b23)])) (fun _ k => XS.dup X23.here hx rfl (hb hby at_53) rfl rfl k) ?_
    refine own_st (T' := T23) (g' := (mkF m 56 #[.val (.int p1), .val (.int p2), .val (.int p3), .val (.ref b1), .val (.int (3 : Int32)), .val (.int (if (p3 &&& (1 : Int32)) = (0 : Int32) then (0 : Int32) else (1 : Int32))), .unset, .unset] [(.int (if (p3 &&& (1 : Int32)) = (0 : Int32) then (0 : Int32) else (1 : Int32))), (.ref b23), (.ref b23)])) (fun _ k => XS.iload X23.here hx rfl (hb hby at_54) rfl k) ?_
    refine own_st (T' := T23) (g' := (mkF m 57 #[.val (.int p1), .val (.int p2), .val (.int p3), .val (.ref b1), .val (.int (3 : Int32)), .val (.int (if (p3 &&& (1 : Int32)) = (0 : Int32) then (0 : Int32) else (1 : Int32))), .unset, .unset] [(.int p2), (.int (if (p3 &&& (1 : Int32)) = (0 : Int32) then (0 : Int32) else (1 : Int32))), (.ref b23), (.ref b23)])) (fun _ k => XS.iloadN X23.here hx rfl (hb hby at_56) rfl k) ?_
    refine own_st (T' := T23) (g' := (mkF m 58 #[.val (.int p1), .val (.int p2), .val (.int p3), .val (.ref b1), .val (.int (3 : Int32)), .val (.int (if (p3 &&& (1 : Int32)) = (0 : Int32) then (0 : Int32) else (1 : Int32))), .unset, .unset] [(.ref b1), (.int p2), (.int (if (p3 &&& (1 : Int32)) = (0 : Int32) then (0 : Int32) else (1 : Int32))), (.ref b23), (.ref b23)])) (fun _ k => XS.aloadN X23.here hx rfl (hb hby at_57) rfl rfl k) ?_
    refine own_st (T' := T23) (g' := (mkF m 60 #[.val (.int p1), .val (.int p2), .val (.int p3), .val (.ref b1), .val (.int (3 : Int32)), .val (.int (if (p3 &&& (1 : Int32)) = (0 : Int32) then (0 : Int32) else (1 : Int32))), .unset, .unset] [(.int (3 : Int32)), (.ref b1), (.int p2), (.int (if (p3 &&& (1 : Int32)) = (0 : Int32) then (0 : Int32) else (1 : Int32))), (.ref b23), (.ref b23)])) (fun _ k => XS.iload X23.here hx rfl (hb hby at_58) rfl k) ?_
    obtain ⟨cl24, Ar24, q24, S24, M24, H24, Gf24⟩ := (V6.ext E23)
    refine own_st (T' := T23) (g' := (mkF m 61 #[.val (.int p1), .val (.int p2), .val (.int p3), .val (.ref b1), .val (.int (3 : Int32)), .val (.int (if (p3 &&& (1 : Int32)) = (0 : Int32) then (0 : Int32) else (1 : Int32))), .unset, .unset] [(.int (86 : Int32)), (.int p2), (.int (if (p3 &&& (1 : Int32)) = (0 : Int32) then (0 : Int32) else (1 : Int32))), (.ref b23), (.ref b23)])) (fun _ k => X23.caload hx (j := (3 : Int32)) (v := (.int (86 : Int32))) (by rw [e23]; exact Ar24.1) (State.isArrayOf_alike hZ.alike Ar24.2.1) Ar24.2.2 (inb_of S24 (by decide)) (Has.at H24 (inb_of S24 (by decide)) rfl) (g := (mkF m 60 #[.val (.int p1), .val (.int p2), .val (.int p3), .val (.ref b1), .val (.int (3 : Int32)), .val (.int (if (p3 &&& (1 : Int32)) = (0 : Int32) then (0 : Int32) else (1 : Int32))), .unset, .unset] [(.int (3 : Int32)), (.ref b1), (.int p2), (.int (if (p3 &&& (1 : Int32)) = (0 : Int32) then (0 : Int32) else (1 : Int32))), (.ref b23), (.ref b23)])) rfl rfl (hb hby at_60) _ k) ?_
    refine own_callC X23 hx hZ (y := (⟨"com/example/lokalsatz/lokalsatz/zdb/MovingWall", "<init>", "(ZIC)V"⟩ : MethodName)) rfl hown (own_w hw 5 rfl) (own_w hw 6 rfl) (own_w hw 7 rfl) (own_w hw 4 rfl) (by decide) (W := 1) e23 (b := b23) (argsL := [(.int (if (p3 &&& (1 : Int32)) = (0 : Int32) then (0 : Int32) else (1 : Int32))), (.int p2), (.int (86 : Int32))]) (rest := [(.ref b23)]) (rm1 l Z a0 hw [] b23 (if (p3 &&& (1 : Int32)) = (0 : Int32) then (0 : Int32) else (1 : Int32)) p2 (86 : Int32) h23 n0 (Nat.le_trans (Nat.le_trans (Nat.le_trans (Nat.le_trans (Nat.le_trans (Nat.le_trans (Nat.le_trans Z0 E1.1) (Nat.le_of_eq W2.size.symm)) (Nat.le_of_eq W3.size.symm)) (Nat.le_of_eq W4.size.symm)) (Nat.le_of_eq W5.size.symm)) (Nat.le_of_eq W6.size.symm)) E23.1) F23_recentOnly F23_count F23_unit A23 G_b23) (by decide) (by decide) (by decide) (by decide) (g := (mkF m 61 #[.val (.int p1), .val (.int p2), .val (.int p3), .val (.ref b1), .val (.int (3 : Int32)), .val (.int (if (p3 &&& (1 : Int32)) = (0 : Int32) then (0 : Int32) else (1 : Int32))), .unset, .unset] [(.int (86 : Int32)), (.int p2), (.int (if (p3 &&& (1 : Int32)) = (0 : Int32) then (0 : Int32) else (1 : Int32))), (.ref b23), (.ref b23)])) rfl (by rw [hml]; rfl) (lenOf own_pd1 rfl) rfl (by show 2 * 0 + _ ≤ _; exact Nat.le_of_eq rfl) (hb hby at_61) ?_
    rintro _ T25 L25 X25 ⟨rfl, N25q, K25, E25, (P25 : Fld Z T25.heap b23 "com/example/lokalsatz/lokalsatz/zdb/MovingWall" "unit" "C" (.int (86 : Int32)))⟩
    show own_Go _ _ _ _ _ _ _ T25 (mkF m 64 #[.val (.int p1), .val (.int p2), .val (.int p3), .val (.ref b1), .val (.int (3 : Int32)), .val (.int (if (p3 &&& (1 : Int32)) = (0 : Int32) then (0 : Int32) else (1 : Int32))), .unset, .unset] [(.ref b23)])
    have N25 := Fr.app N6 N25q
    refine own_st (T' := T25) (g' := (mkF m 66 #[.val (.int p1), .val (.int p2), .val (.int p3), .val (.ref b1), .val (.int (3 : Int32)), .val (.int (if (p3 &&& (1 : Int32)) = (0 : Int32) then (0 : Int32) else (1 : Int32))), .val (.ref b23), .unset] [])) (fun _ k => XS.astore X25.here hx rfl (hb hby at_64) rfl rfl (l' := #[.val (.int p1), .val (.int p2), .val (.int p3), .val (.ref b1), .val (.int (3 : Int32)), .val (.int (if (p3 &&& (1 : Int32)) = (0 : Int32) then (0 : Int32) else (1 : Int32))), .val (.ref b23), .unset]) rfl k) ?_
    refine own_st (T' := T25) (g' := (mkF m 68 #[.val (.int p1), .val (.int p2), .val (.int p3), .val (.ref b1), .val (.int (3 : Int32)), .val (.int (if (p3 &&& (1 : Int32)) = (0 : Int32) then (0 : Int32) else (1 : Int32))), .val (.ref b23), .unset] [(.int (3 : Int32))])) (fun _ k => XS.iload X25.here hx rfl (hb hby at_66) rfl k) ?_
    refine own_st (T' := T25) (g' := (mkF m 69 #[.val (.int p1), .val (.int p2), .val (.int p3), .val (.ref b1), .val (.int (3 : Int32)), .val (.int (if (p3 &&& (1 : Int32)) = (0 : Int32) then (0 : Int32) else (1 : Int32))), .val (.ref b23), .unset] [(.int (3 : Int32)), (.int (3 : Int32))])) (fun _ k => XS.iconst X25.here hx rfl (hb hby at_68) k) ?_
    refine own_st (T' := T25) (g' := (mkF m 76 #[.val (.int p1), .val (.int p2), .val (.int p3), .val (.ref b1), .val (.int (3 : Int32)), .val (.int (if (p3 &&& (1 : Int32)) = (0 : Int32) then (0 : Int32) else (1 : Int32))), .val (.ref b23), .unset] [])) (fun _ k => XS.icmpYes X25.here hx rfl (pc0 := 69) (pc' := 76) rfl (hb hby at_69) rfl (flt (by decide : ¬ ((3 : Int32) < (3 : Int32)))).2.1 (by decide) (by decide) k) ?_
    refine own_st (T' := T25) (g' := (mkF m 77 #[.val (.int p1), .val (.int p2), .val (.int p3), .val (.ref b1), .val (.int (3 : Int32)), .val (.int (if (p3 &&& (1 : Int32)) = (0 : Int32) then (0 : Int32) else (1 : Int32))), .val (.ref b23), .unset] [(.int (0 : Int32))])) (fun _ k => XS.iconst X25.here hx rfl (hb hby at_76) k) ?_
    refine own_st (T' := T25) (g' := (mkF m 79 #[.val (.int p1), .val (.int p2), .val (.int p3), .val (.ref b1), .val (.int (3 : Int32)), .val (.int (if (p3 &&& (1 : Int32)) = (0 : Int32) then (0 : Int32) else (1 : Int32))), .val (.ref b23), .val (.int (0 : Int32))] [])) (fun _ k => XS.istore X25.here hx rfl (hb hby at_77) rfl (l' := #[.val (.int p1), .val (.int p2), .val (.int p3), .val (.ref b1), .val (.int (3 : Int32)), .val (.int (if (p3 &&& (1 : Int32)) = (0 : Int32) then (0 : Int32) else (1 : Int32))), .val (.ref b23), .val (.int (0 : Int32))]) rfl k) ?_
    refine own_st (T' := T25) (g' := (mkF m 81 #[.val (.int p1), .val (.int p2), .val (.int p3), .val (.ref b1), .val (.int (3 : Int32)), .val (.int (if (p3 &&& (1 : Int32)) = (0 : Int32) then (0 : Int32) else (1 : Int32))), .val (.ref b23), .val (.int (0 : Int32))] [(.ref b23)])) (fun _ k => XS.aload X25.here hx rfl (hb hby at_79) rfl rfl k) ?_
    refine own_callV X25 hx hZ (y := (⟨"com/example/lokalsatz/lokalsatz/zdb/MovingWall", "countsCalendarUnits", "()Z"⟩ : MethodName)) hown (own_w hw 22 rfl) (own_w hw 23 rfl) (own_w hw 25 rfl) (own_w hw 24 rfl) (own_w hw 26 rfl) (own_w hw 4 rfl) (by decide) (W := 0) rfl (b := b23) E25 (argsL := []) (rest := []) (rm4 l Z a0 hw [] b23 (86 : Int32) T25.heap n0 (Nat.le_trans (Nat.le_trans (Nat.le_trans (Nat.le_trans (Nat.le_trans (Nat.le_trans (Nat.le_trans (Nat.le_trans Z0 E1.1) (Nat.le_of_eq W2.size.symm)) (Nat.le_of_eq W3.size.symm)) (Nat.le_of_eq W4.size.symm)) (Nat.le_of_eq W5.size.symm)) (Nat.le_of_eq W6.size.symm)) E23.1) K25.1) P25) (by decide) (by decide) (by decide) (by decide) (g := (mkF m 81 #[.val (.int p1), .val (.int p2), .val (.int p3), .val (.ref b1), .val (.int (3 : Int32)), .val (.int (if (p3 &&& (1 : Int32)) = (0 : Int32) then (0 : Int32) else (1 : Int32))), .val (.ref b23), .val (.int (0 : Int32))] [(.ref b23)])) rfl (by rw [hml]; rfl) (lenOf own_pd2 rfl) rfl (by show 2 * 0 + _ ≤ _; exact Nat.le_of_eq rfl) (hb hby at_81) ?_
    rintro _ T26 L26 X26 ⟨rfl, N26q, e26⟩
    show own_Go _ _ _ _ _ _ _ T26 (mkF m 84 #[.val (.int p1), .val (.int p2), .val (.int p3), .val (.ref b1), .val (.int (3 : Int32)), .val (.int (if (p3 &&& (1 : Int32)) = (0 : Int32) then (0 : Int32) else (1 : Int32))), .val (.ref b23), .val (.int (0 : Int32))] [(.int (0 : Int32))])
    have N26 := Fr.app N25 N26q
    refine own_st (T' := T26) (g' := (mkF m 86 #[.val (.int p1), .val (.int p2), .val (.int p3), .val (.ref b1), .val (.int (3 : Int32)), .val (.int (if (p3 &&& (1 : Int32)) = (0 : Int32) then (0 : Int32) else (1 : Int32))), .val (.ref b23), .val (.int (0 : Int32))] [(.int (0 : Int32)), (.int (0 : Int32))])) (fun _ k => XS.iload X26.here hx rfl (hb hby at_84) rfl k) ?_
    refine own_st (T' := T26) (g' := (mkF m 89 #[.val (.int p1), .val (.int p2), .val (.int p3), .val (.ref b1), .val (.int (3 : Int32)), .val (.int (if (p3 &&& (1 : Int32)) = (0 : Int32) then (0 : Int32) else (1 : Int32))), .val (.ref b23), .val (.int (0 : Int32))] [])) (fun _ k => XS.icmpNo X26.here hx rfl (hb hby at_86) rfl (teq (by decide : ((0 : Int32) = (0 : Int32)))).2 k) ?_
    refine own_st (T' := T26) (g' := (mkF m 90 #[.val (.int p1), .val (.int p2), .val (.int p3), .val (.ref b1), .val (.int (3 : Int32)), .val (.int (if (p3 &&& (1 : Int32)) = (0 : Int32) then (0 : Int32) else (1 : Int32))), .val (.ref b23), .val (.int (0 : Int32))] [(.int (1 : Int32))])) (fun _ k => XS.iconst X26.here hx rfl (hb hby at_89) k) ?_
    refine own_st (T' := T26) (g' := (mkF m 94 #[.val (.int p1), .val (.int p2), .val (.int p3), .val (.ref b1), .val (.int (3 : Int32)), .val (.int (if (p3 &&& (1 : Int32)) = (0 : Int32) then (0 : Int32) else (1 : Int32))), .val (.ref b23), .val (.int (0 : Int32))] [(.int (1 : Int32))])) (fun _ k => XS.goto X26.here hx rfl (pc0 := 90) (pc' := 94) rfl (hb hby at_90) (by decide) (by decide) k) ?_
    exact own_retN X26 hx hlk hret (by simp) (hb hby at_94) ⟨rfl, N26⟩ (by decide) (by decide)
  · refine own_st (T' := T6) (g' := (mkF m 37 #[.val (.int p1), .val (.int p2), .val (.int p3), .val (.ref b1), .val (.int (4 : Int32)), .unset, .unset, .unset] [])) (fun _ k => XS.istore X6.here hx rfl (hb hby at_35) rfl (l' := #[.val (.int p1), .val (.int p2), .val (.int p3), .val (.ref b1), .val (.int (4 : Int32)), .unset, .unset, .unset]) rfl k) ?_
    refine own_st (T' := T6) (g' := (mkF m 38 #[.val (.int p1), .val (.int p2), .val (.int p3), .val (.ref b1), .val (.int (4 : Int32)), .unset, .unset, .unset] [(.int p3)])) (fun _ k => XS.iloadN X6.here hx rfl (hb hby at_37) rfl k) ?_
    refine own_st (T' := T6) (g' := (mkF m 39 #[.val (.int p1), .val (.int p2), .val (.int p3), .val (.ref b1), .val (.int (4 : Int32)), .unset, .unset, .unset] [(.int (1 : Int32)), (.int p3)])) (fun _ k => XS.iconst X6.here hx rfl (hb hby at_38) k) ?_
    refine own_st (T' := T6) (g' := (mkF m 40 #[.val (.int p1), .val (.int p2), .val (.int p3), .val (.ref b1), .val (.int (4 : Int32)), .unset, .unset, .unset] [(.int (p3 &&& (1 : Int32)))])) (fun _ k => XS.iand X6.here hx rfl (hb hby at_39) rfl k) ?_
    refine own_st (T' := T6) (g' := (mkF m 48 #[.val (.int p1), .val (.int p2), .val (.int p3), .val (.ref b1), .val (.int (4 : Int32)), .unset, .unset, .unset] [(.int (if (p3 &&& (1 : Int32)) = (0 : Int32) then (0 : Int32) else (1 : Int32)))])) (fun t k => ?_) ?_
    · by_cases hc40_27 : (p3 &&& (1 : Int32)) = (0 : Int32)
      · refine own_sq (T' := T6) (g' := (mkF m 47 #[.val (.int p1), .val (.int p2), .val (.int p3), .val (.ref b1), .val (.int (4 : Int32)), .unset, .unset, .unset] [])) (fun k => XS.ifYes X6.here hx rfl (pc0 := 40) (pc' := 47) rfl (hb hby at_40) rfl ((if0 _ _).trans (teq hc40_27).1) (by decide) (by decide) k) ?_
        refine own_sq (T' := T6) (g' := (mkF m 48 #[.val (.int p1), .val (.int p2), .val (.int p3), .val (.ref b1), .val (.int (4 : Int32)), .unset, .unset, .unset] [(.int (0 : Int32))])) (fun k => XS.iconst X6.here hx rfl (hb hby at_47) k) ?_
        simp only [if_pos hc40_27] at k; exact k
      · refine own_sq (T' := T6) (g' := (mkF m 43 #[.val (.int p1), .val (.int p2), .val (.int p3), .val (.ref b1), .val (.int (4 : Int32)), .unset, .unset, .unset] [])) (fun k => XS.ifNo X6.here hx rfl (hb hby at_40) rfl ((if0 _ _).trans (feq hc40_27).1) k) ?_
        refine own_sq (T' := T6) (g' := (mkF m 44 #[.val (.int p1), .val (.int p2), .val (.int p3), .val (.ref b1), .val (.int (4 : Int32)), .unset, .unset, .unset] [(.int (1 : Int32))])) (fun k => XS.iconst X6.here hx rfl (hb hby at_43) k) ?_
        refine own_sq (T' := T6) (g' := (mkF m 48 #[.val (.int p1), .val (.int p2), .val (.int p3), .val (.ref b1), .val (.int (4 : Int32)), .unset, .unset, .unset] [(.int (1 : Int32))])) (fun k => XS.goto X6.here hx rfl (pc0 := 44) (pc' := 48) rfl (hb hby at_44) (by decide) (by decide) k) ?_
        simp only [if_neg hc40_27] at k; exact k
    refine own_st (T' := T6) (g' := (mkF m 50 #[.val (.int p1), .val (.int p2), .val (.int p3), .val (.ref b1), .val (.int (4 : Int32)), .val (.int (if (p3 &&& (1 : Int32)) = (0 : Int32) then (0 : Int32) else (1 : Int32))), .unset, .unset] [])) (fun _ k => XS.istore X6.here hx rfl (hb hby at_48) rfl (l' := #[.val (.int p1), .val (.int p2), .val (.int p3), .val (.ref b1), .val (.int (4 : Int32)), .val (.int (if (p3 &&& (1 : Int32)) = (0 : Int32) then (0 : Int32) else (1 : Int32))), .unset, .unset]) rfl k) ?_
    obtain ⟨T28, h28, X28, e28, E28, A28, D28, -, st28⟩ := newO X6 hx hZ hown (own_w hw 2 rfl) (own_w hw 3 rfl) (own_w hw 4 rfl) e6 (g := (mkF m 50 #[.val (.int p1), .val (.int p2), .val (.int p3), .val (.ref b1), .val (.int (4 : Int32)), .val (.int (if (p3 &&& (1 : Int32)) = (0 : Int32) then (0 : Int32) else (1 : Int32))), .unset, .unset] [])) rfl (hb hby at_50) (by decide) (by decide)
    obtain ⟨b28, g28⟩ : ∃ z, z = h6.size := ⟨_, rfl⟩
    rw [← g28] at A28 D28 st28
    have G_b28 : n0 ≤ b28 := Nat.le_trans (Nat.le_trans (Nat.le_trans (Nat.le_trans (Nat.le_trans (Nat.le_trans (Nat.le_trans Z0 E1.1) (Nat.le_of_eq W2.size.symm)) (Nat.le_of_eq W3.size.symm)) (Nat.le_of_eq W4.size.symm)) (Nat.le_of_eq W5.size.symm)) (Nat.le_of_eq W6.size.symm)) (Nat.le_of_eq g28.symm)
    have sz_b28 : h0.size ≤ b28 := Nat.le_trans (((((((Keep.refl h0 []).ext E1).wr W2 (Or.inr sz_b1)).wr W3 (Or.inr sz_b1)).wr W4 (Or.inr sz_b1)).wr W5 (Or.inr sz_b1)).wr W6 (Or.inr sz_b1)).1 (Nat.le_of_eq g28.symm)
    have F28_recentOnly : Fld Z h28 b28 "com/example/lokalsatz/lokalsatz/zdb/MovingWall" "recentOnly" "Z" (.int (0 : Int32)) := D28 (Or.inr (own_w hw 17 rfl)) (ty := .boolean) (by decide)
    have F28_count : Fld Z h28 b28 "com/example/lokalsatz/lokalsatz/zdb/MovingWall" "count" "I" (.int (0 : Int32)) := D28 (Or.inr (own_w hw 19 rfl)) (ty := .int) (by decide)
    have F28_unit : Fld Z h28 b28 "com/example/lokalsatz/lokalsatz/zdb/MovingWall" "unit" "C" (.int (0 : Int32)) := D28 (Or.inr (own_w hw 21 rfl)) (ty := .char) (by decide)
    refine own_st (g' := (mkF m 53 #[.val (.int p1), .val (.int p2), .val (.int p3), .val (.ref b1), .val (.int (4 : Int32)), .val (.int (if (p3 &&& (1 : Int32)) = (0 : Int32) then (0 : Int32) else (1 : Int32))), .unset, .unset] [(.ref b28)])) st28 ?_
    refine own_st (T' := T28) (g' := (mkF m 54 #[.val (.int p1), .val (.int p2), .val (.int p3), .val (.ref b1), .val (.int (4 : Int32)), .val (.int (if (p3 &&& (1 : Int32)) = (0 : Int32) then (0 : Int32) else (1 : Int32))), .unset, .unset] [(.ref b28), (.ref b28)])) (fun _ k => XS.dup X28.here hx rfl (hb hby at_53) rfl rfl k) ?_
    refine own_st (T' := T28) (g' := (mkF m 56 #[.val (.int p1), .val (.int p2), .val (.int p3), .val (.ref b1), .val (.int (4 : Int32)), .val (.int (if (p3 &&& (1 : Int32)) = (0 : Int32) then (0 : Int32) else (1 : Int32))), .unset, .unset] [(.int (if (p3 &&& (1 : Int32)) = (0 : Int32) then (0 : Int32) else (1 : Int32))), (.ref b28), (.ref b28)])) (fun _ k => XS.iload X28.here hx rfl (hb hby at_54) rfl k) ?_
    refine own_st (T' := T28) (g' := (mkF m 57 #[.val (.int p1), .val (.int p2), .val (.int p3), .val (.ref b1), .val (.int (4 : Int32)), .val (.int (if (p3 &&& (1 : Int32)) = (0 : Int32) then (0 : Int32) else (1 : Int32))), .unset, .unset] [(.int p2), (.int (if (p3 &&& (1 : Int32)) = (0 : Int32) then (0 : Int32) else (1 : Int32))), (.ref b28), (.ref b28)])) (fun _ k => XS.iloadN X28.here hx rfl (hb hby at_56) rfl k) ?_
    refine own_st (T' := T28) (g' := (mkF m 58 #[.val (.int p1), .val (.int p2), .val (.int p3), .val (.ref b1), .val (.int (4 : Int32)), .val (.int (if (p3 &&& (1 : Int32)) = (0 : Int32) then (0 : Int32) else (1 : Int32))), .unset, .unset] [(.ref b1), (.int p2), (.int (if (p3 &&& (1 : Int32)) = (0 : Int32) then (0 : Int32) else (1 : Int32))), (.ref b28), (.ref b28)])) (fun _ k => XS.aloadN X28.here hx rfl (hb hby at_57) rfl rfl k) ?_
    refine own_st (T' := T28) (g' := (mkF m 60 #[.val (.int p1), .val (.int p2), .val (.int p3), .val (.ref b1), .val (.int (4 : Int32)), .val (.int (if (p3 &&& (1 : Int32)) = (0 : Int32) then (0 : Int32) else (1 : Int32))), .unset, .unset] [(.int (4 : Int32)), (.ref b1), (.int p2), (.int (if (p3 &&& (1 : Int32)) = (0 : Int32) then (0 : Int32) else (1 : Int32))), (.ref b28), (.ref b28)])) (fun _ k => XS.iload X28.here hx rfl (hb hby at_58) rfl k) ?_
    obtain ⟨cl29, Ar29, q29, S29, M29, H29, Gf29⟩ := (V6.ext E28)
    refine own_st (T' := T28) (g' := (mkF m 61 #[.val (.int p1), .val (.int p2), .val (.int p3), .val (.ref b1), .val (.int (4 : Int32)), .val (.int (if (p3 &&& (1 : Int32)) = (0 : Int32) then (0 : Int32) else (1 : Int32))), .unset, .unset] [(.int (73 : Int32)), (.int p2), (.int (if (p3 &&& (1 : Int32)) = (0 : Int32) then (0 : Int32) else (1 : Int32))), (.ref b28), (.ref b28)])) (fun _ k => X28.caload hx (j := (4 : Int32)) (v := (.int (73 : Int32))) (by rw [e28]; exact Ar29.1) (State.isArrayOf_alike hZ.alike Ar29.2.1) Ar29.2.2 (inb_of S29 (by decide)) (Has.at H29 (inb_of S29 (by decide)) rfl) (g := (mkF m 60 #[.val (.int p1), .val (.int p2), .val (.int p3), .val (.ref b1), .val (.int (4 : Int32)), .val (.int (if (p3 &&& (1 : Int32)) = (0 : Int32) then (0 : Int32) else (1 : Int32))), .unset, .unset] [(.int (4 : Int32)), (.ref b1), (.int p2), (.int (if (p3 &&& (1 : Int32)) = (0 : Int32) then (0 : Int32) else (1 : Int32))), (.ref b28), (.ref b28)])) rfl rfl (hb hby at_60) _ k) ?_
    refine own_callC X28 hx hZ (y := (⟨"com/example/lokalsatz/lokalsatz/zdb/MovingWall", "<init>", "(ZIC)V"⟩ : MethodName)) rfl hown (own_w hw 5 rfl) (own_w hw 6 rfl) (own_w hw 7 rfl) (own_w hw 4 rfl) (by decide) (W := 1) e28 (b := b28) (argsL := [(.int (if (p3 &&& (1 : Int32)) = (0 : Int32) then (0 : Int32) else (1 : Int32))), (.int p2), (.int (73 : Int32))]) (rest := [(.ref b28)]) (rm1 l Z a0 hw [] b28 (if (p3 &&& (1 : Int32)) = (0 : Int32) then (0 : Int32) else (1 : Int32)) p2 (73 : Int32) h28 n0 (Nat.le_trans (Nat.le_trans (Nat.le_trans (Nat.le_trans (Nat.le_trans (Nat.le_trans (Nat.le_trans Z0 E1.1) (Nat.le_of_eq W2.size.symm)) (Nat.le_of_eq W3.size.symm)) (Nat.le_of_eq W4.size.symm)) (Nat.le_of_eq W5.size.symm)) (Nat.le_of_eq W6.size.symm)) E28.1) F28_recentOnly F28_count F28_unit A28 G_b28) (by decide) (by decide) (by decide) (by decide) (g := (mkF m 61 #[.val (.int p1), .val (.int p2), .val (.int p3), .val (.ref b1), .val (.int (4 : Int32)), .val (.int (if (p3 &&& (1 : Int32)) = (0 : Int32) then (0 : Int32) else (1 : Int32))), .unset, .unset] [(.int (73 : Int32)), (.int p2), (.int (if (p3 &&& (1 : Int32)) = (0 : Int32) then (0 : Int32) else (1 : Int32))), (.ref b28), (.ref b28)])) rfl (by rw [hml]; rfl) (lenOf own_pd1 rfl) rfl (by show 2 * 0 + _ ≤ _; exact Nat.le_of_eq rfl) (hb hby at_61) ?_
    rintro _ T30 L30 X30 ⟨rfl, N30q, K30, E30, (P30 : Fld Z T30.heap b28 "com/example/lokalsatz/lokalsatz/zdb/MovingWall" "unit" "C" (.int (73 : Int32)))⟩
    show own_Go _ _ _ _ _ _ _ T30 (mkF m 64 #[.val (.int p1), .val (.int p2), .val (.int p3), .val (.ref b1), .val (.int (4 : Int32)), .val (.int (if (p3 &&& (1 : Int32)) = (0 : Int32) then (0 : Int32) else (1 : Int32))), .unset, .unset] [(.ref b28)])
    have N30 := Fr.app N6 N30q
    refine own_st (T' := T30) (g' := (mkF m 66 #[.val (.int p1), .val (.int p2), .val (.int p3), .val (.ref b1), .val (.int (4 : Int32)), .val (.int (if (p3 &&& (1 : Int32)) = (0 : Int32) then (0 : Int32) else (1 : Int32))), .val (.ref b28), .unset] [])) (fun _ k => XS.astore X30.here hx rfl (hb hby at_64) rfl rfl (l' := #[.val (.int p1), .val (.int p2), .val (.int p3), .val (.ref b1), .val (.int (4 : Int32)), .val (.int (if (p3 &&& (1 : Int32)) = (0 : Int32) then (0 : Int32) else (1 : Int32))), .val (.ref b28), .unset]) rfl k) ?_
    refine own_st (T' := T30) (g' := (mkF m 68 #[.val (.int p1), .val (.int p2), .val (.int p3), .val (.ref b1), .val (.int (4 : Int32)), .val (.int (if (p3 &&& (1 : Int32)) = (0 : Int32) then (0 : Int32) else (1 : Int32))), .val (.ref b28), .unset] [(.int (4 : Int32))])) (fun _ k => XS.iload X30.here hx rfl (hb hby at_66) rfl k) ?_
    refine own_st (T' := T30) (g' := (mkF m 69 #[.val (.int p1), .val (.int p2), .val (.int p3), .val (.ref b1), .val (.int (4 : Int32)), .val (.int (if (p3 &&& (1 : Int32)) = (0 : Int32) then (0 : Int32) else (1 : Int32))), .val (.ref b28), .unset] [(.int (3 : Int32)), (.int (4 : Int32))])) (fun _ k => XS.iconst X30.here hx rfl (hb hby at_68) k) ?_
    refine own_st (T' := T30) (g' := (mkF m 76 #[.val (.int p1), .val (.int p2), .val (.int p3), .val (.ref b1), .val (.int (4 : Int32)), .val (.int (if (p3 &&& (1 : Int32)) = (0 : Int32) then (0 : Int32) else (1 : Int32))), .val (.ref b28), .unset] [])) (fun _ k => XS.icmpYes X30.here hx rfl (pc0 := 69) (pc' := 76) rfl (hb hby at_69) rfl (flt (by decide : ¬ ((4 : Int32) < (3 : Int32)))).2.1 (by decide) (by decide) k) ?_
    refine own_st (T' := T30) (g' := (mkF m 77 #[.val (.int p1), .val (.int p2), .val (.int p3), .val (.ref b1), .val (.int (4 : Int32)), .val (.int (if (p3 &&& (1 : Int32)) = (0 : Int32) then (0 : Int32) else (1 : Int32))), .val (.ref b28), .unset] [(.int (0 : Int32))])) (fun _ k => XS.iconst X30.here hx rfl (hb hby at_76) k) ?_
    refine own_st (T' := T30) (g' := (mkF m 79 #[.val (.int p1), .val (.int p2), .val (.int p3), .val (.ref b1), .val (.int (4 : Int32)), .val (.int (if (p3 &&& (1 : Int32)) = (0 : Int32) then (0 : Int32) else (1 : Int32))), .val (.ref b28), .val (.int (0 : Int32))] [])) (fun _ k => XS.istore X30.here hx rfl (hb hby at_77) rfl (l' := #[.val (.int p1), .val (.int p2), .val (.int p3), .val (.ref b1), .val (.int (4 : Int32)), .val (.int (if (p3 &&& (1 : Int32)) = (0 : Int32) then (0 : Int32) else (1 : Int32))), .val (.ref b28), .val (.int (0 : Int32))]) rfl k) ?_
    refine own_st (T' := T30) (g' := (mkF m 81 #[.val (.int p1), .val (.int p2), .val (.int p3), .val (.ref b1), .val (.int (4 : Int32)), .val (.int (if (p3 &&& (1 : Int32)) = (0 : Int32) then (0 : Int32) else (1 : Int32))), .val (.ref b28), .val (.int (0 : Int32))] [(.ref b28)])) (fun _ k => XS.aload X30.here hx rfl (hb hby at_79) rfl rfl k) ?_
    refine own_callV X30 hx hZ (y := (⟨"com/example/lokalsatz/lokalsatz/zdb/MovingWall", "countsCalendarUnits", "()Z"⟩ : MethodName)) hown (own_w hw 22 rfl) (own_w hw 23 rfl) (own_w hw 25 rfl) (own_w hw 24 rfl) (own_w hw 26 rfl) (own_w hw 4 rfl) (by decide) (W := 0) rfl (b := b28) E30 (argsL := []) (rest := []) (rm4 l Z a0 hw [] b28 (73 : Int32) T30.heap n0 (Nat.le_trans (Nat.le_trans (Nat.le_trans (Nat.le_trans (Nat.le_trans (Nat.le_trans (Nat.le_trans (Nat.le_trans Z0 E1.1) (Nat.le_of_eq W2.size.symm)) (Nat.le_of_eq W3.size.symm)) (Nat.le_of_eq W4.size.symm)) (Nat.le_of_eq W5.size.symm)) (Nat.le_of_eq W6.size.symm)) E28.1) K30.1) P30) (by decide) (by decide) (by decide) (by decide) (g := (mkF m 81 #[.val (.int p1), .val (.int p2), .val (.int p3), .val (.ref b1), .val (.int (4 : Int32)), .val (.int (if (p3 &&& (1 : Int32)) = (0 : Int32) then (0 : Int32) else (1 : Int32))), .val (.ref b28), .val (.int (0 : Int32))] [(.ref b28)])) rfl (by rw [hml]; rfl) (lenOf own_pd2 rfl) rfl (by show 2 * 0 + _ ≤ _; exact Nat.le_of_eq rfl) (hb hby at_81) ?_
    rintro _ T31 L31 X31 ⟨rfl, N31q, e31⟩
    show own_Go _ _ _ _ _ _ _ T31 (mkF m 84 #[.val (.int p1), .val (.int p2), .val (.int p3), .val (.ref b1), .val (.int (4 : Int32)), .val (.int (if (p3 &&& (1 : Int32)) = (0 : Int32) then (0 : Int32) else (1 : Int32))), .val (.ref b28), .val (.int (0 : Int32))] [(.int (0 : Int32))])
    have N31 := Fr.app N30 N31q
    refine own_st (T' := T31) (g' := (mkF m 86 #[.val (.int p1), .val (.int p2), .val (.int p3), .val (.ref b1), .val (.int (4 : Int32)), .val (.int (if (p3 &&& (1 : Int32)) = (0 : Int32) then (0 : Int32) else (1 : Int32))), .val (.ref b28), .val (.int (0 : Int32))] [(.int (0 : Int32)), (.int (0 : Int32))])) (fun _ k => XS.iload X31.here hx rfl (hb hby at_84) rfl k) ?_
    refine own_st (T' := T31) (g' := (mkF m 89 #[.val (.int p1), .val (.int p2), .val (.int p3), .val (.ref b1), .val (.int (4 : Int32)), .val (.int (if (p3 &&& (1 : Int32)) = (0 : Int32) then (0 : Int32) else (1 : Int32))), .val (.ref b28), .val (.int (0 : Int32))] [])) (fun _ k => XS.icmpNo X31.here hx rfl (hb hby at_86) rfl (teq (by decide : ((0 : Int32) = (0 : Int32)))).2 k) ?_
    refine own_st (T' := T31) (g' := (mkF m 90 #[.val (.int p1), .val (.int p2), .val (.int p3), .val (.ref b1), .val (.int (4 : Int32)), .val (.int (if (p3 &&& (1 : Int32)) = (0 : Int32) then (0 : Int32) else (1 : Int32))), .val (.ref b28), .val (.int (0 : Int32))] [(.int (1 : Int32))])) (fun _ k => XS.iconst X31.here hx rfl (hb hby at_89) k) ?_
    refine own_st (T' := T31) (g' := (mkF m 94 #[.val (.int p1), .val (.int p2), .val (.int p3), .val (.ref b1), .val (.int (4 : Int32)), .val (.int (if (p3 &&& (1 : Int32)) = (0 : Int32) then (0 : Int32) else (1 : Int32))), .val (.ref b28), .val (.int (0 : Int32))] [(.int (1 : Int32))])) (fun _ k => XS.goto X31.here hx rfl (pc0 := 90) (pc' := 94) rfl (hb hby at_90) (by decide) (by decide) k) ?_
    exact own_retN X31 hx hlk hret (by simp) (hb hby at_94) ⟨rfl, N31⟩ (by decide) (by decide)
set_option maxRecDepth 65536 in
set_option maxHeartbeats 40000000 in
theorem comes_1 {Post : Tables → Env → Array Value → State → Outcome → State → Prop} (hpost : ∀ tb e args s v u, (limb_1_1.after args s (.returned v) u = true ∧ limb_1_2.after args s (.returned v) u = true ∧ True) → FrameEnd s (.returned v) u (Jvm.fieldLocs frame_1_writes args s ++ Jvm.arrayLocs frame_1_arrays args s ++ Jvm.staticLocs frame_1_statics s) 16 128 → Post tb e args s (.returned v) u) :
    ArmFor flags0 classFile x code maxLocals ret World_1 tables_1 room_1 Calls_1 rest_1 Pre_1 Post := by
  intro l hfl _ _ p e ha hc hk s m args below hf hA hF happ hP
  obtain ⟨hcalls, hrest, hpre⟩ := hP
  obtain ⟨-, -, -, hnamed, -, -, -, hat⟩ := (Spec.applies_iff hf).mp happ
  obtain ⟨hg, hn⟩ := and_e (Cond.before_iff.mp (show (Jvm.Cond.and given_1 narrow_1).before args s = true from hpre))
  obtain ⟨h1, g0⟩ := and_e hg
  obtain ⟨w0, w1, w2, rfl⟩ : ∃ w0 w1 w2 : Value, args = #[w0, w1, w2] := by
    have hs : args.size = 3 := by simpa [Cond.value, given_1] using h1
    obtain ⟨L⟩ := args
    match L, hs with
    | [w0, w1, w2], _ => exact ⟨w0, w1, w2, rfl⟩
  have hw := fun d (hd : d ∈ tables_1) => atoms_spec (ws := Jvm.Cond.code x code maxLocals ret :: tables_1) hat d (List.mem_cons_of_mem _ hd)
  have hfit : Fit s := fun {y c} hc i hi => by
    obtain ⟨ha, rfl⟩ := Array.getElem?_eq_some_iff.mp hc
    have q := List.all_eq_true.mp ((Array.all_eq_true_iff_forall_mem.mp hF) _ (Array.getElem_mem ha)) i (List.mem_range.mpr hi)
    simpa [Array.getElem?_eq_getElem hi] using q
  obtain ⟨q0, g1⟩ := and_e g0
  obtain ⟨i0, e0⟩ := is_v q0
  obtain rfl : w0 = (.int i0) := Option.some.inj e0
  obtain ⟨q1, g2⟩ := and_e g1
  obtain ⟨i1, e1⟩ := is_v q1
  obtain rfl : w1 = (.int i1) := Option.some.inj e1
  obtain ⟨i2, e2⟩ := is_v g2
  obtain rfl : w2 = (.int i2) := Option.some.inj e2
  obtain ⟨n, o, h1, h2, h3, _, L, rfl, ⟨rfl, N⟩, hq⟩ := rm0 l s _ hw tables_1 i0 i1 i2  s.heap s.heap.size (Nat.le_refl _)  p e ha hc hk s m _ below hf ((Spec.applies_iff_loose hf).mp happ).1 ⟨rfl, State.Warmed39.refl s, rfl⟩ trivial
  refine ⟨n, _, h1, h2, h3, hpost _ _ _ _ _ _ ⟨Cond.after_iff.mpr rfl, Cond.after_iff.mpr (eq_i res_at (Term.int_eval (1)) rfl), trivial⟩ ⟨hq.1, hq.2.1, (hq.2.2.sift fun y hy => Or.inr (N y hy)).mono (by decide) (by decide)⟩⟩
theorem main_1_1 : Claimed_1_1 := comes_1 fun _ _ _ _ _ _ h hF => ⟨h.1, hF⟩
theorem main_1_2 : Claimed_1_2 := comes_1 fun _ _ _ _ _ _ h hF => ⟨h.2.1, hF⟩
end Jvm.Pilot.@@N@@
namespace Jvm.Pilot.@@N@@
open Jvm Jvm.ClassFile Sem Op Lib Jvm.Free Jvm.Stand Jvm.Pilot.@@N@@.Jvm.D
/-! MADE BY PROGRAM (witnessworld.py) out of the Statement's table words and the real class files: 12 classes; the members and pool entries that the words name. The judged class is class 1, her method 1. -/
namespace start1
open Jvm.ClassFile
def u (s : String) : CpInfo := .utf8 (stringToUtf16 s)
/-- a pool by its gaps: so many unusable entries, then the entry; so many at the end -/
def gap : Nat → List CpInfo → List CpInfo
  | 0, r => r
  | n + 1, r => .unusable :: gap n r
def poolList (es : List (Nat × CpInfo)) (last : Nat) : List CpInfo := es.foldr (fun e r => gap e.1 (e.2 :: r)) (gap last [])
def pool (es : List (Nat × CpInfo)) (last : Nat) : Array CpInfo := ⟨poolList es last⟩
def fileOf (pool : Array CpInfo) (this : Nat) (attrs : Array Attribute := #[]) (ms : Array MethodInfo := #[]) (fl : Nat := 33) (sup : Nat := 0) (ifs : Array Nat := #[]) (fds : Array FieldInfo := #[]) : ClassFile where
  minorVersion := 0
  majorVersion := 65
  constantPool := pool
  accessFlags := fl
  thisClass := this
  superClass := sup
  interfaces := ifs
  fields := fds
  methods := ms
  attributes := attrs
def plain (name : String) (sup : Option ClassId) : Class where
  name := name
  kind := .ordinary
  loader := none
  accessFlags := 33
  super := sup
  interfaces := #[]
  cf := none
  fields := #[]
  methods := #[]
  instanceTypes := #[]
  staticTypes := #[]
  resolved := #[]
  callSites := []
  init := .initialized
  statics := none
  mirror := none

def pool0 : Array CpInfo := pool [(5, u "<init>"), (0, u "()V"), (1, .class_ 10), (1, u "java/lang/Object")] 113

def k0c0 : Code := { maxStack := 0, maxLocals := 1, code := object_method_1_code, exceptionTable := #[], attributes := #[] }
def k0m0 : Method := { name := "<init>", desc := "()V", sig := { parameters := [], returnType := none }, accessFlags := 1, code := some k0c0 }
/-- java/lang/Object -/
def k0 : Class := { plain "java/lang/Object" none with
  accessFlags := 33
  interfaces := #[]
  cf := some (fileOf pool0 8 #[] #[{ accessFlags := 1, nameIndex := 5, descriptorIndex := 6, attributes := #[] }] 33 0 #[] #[])
  fields := #[]
  methods := #[k0m0]
  instanceTypes := #[]
  staticTypes := #[]
  resolved := Array.replicate 124 none
  statics := none }

def pool1 : Array CpInfo := pool [(2, .class_ 4), (1, u "java/lang/Object"), (0, u "<init>"), (0, u "()V"), (0, .integer 2147483647), (0, .class_ 9), (0, u "com/example/lokalsatz/lokalsatz/zdb/MovingWall"), (0, .methodref 8 11), (0, .nameAndType 5 12), (0, u "(ZIC)V"), (0, .methodref 8 14), (0, .nameAndType 15 16), (0, u "countsCalendarUnits"), (0, u "()Z"), (0, .class_ 18), (0, u "com/example/lokalsatz/lokalsatz/zdb/MovingWallCountsCalendarUnitsPinLaw"), (2, u "law"), (0, u "(III)Z")] 5

def k1m0 : Method := { name := "<init>", desc := "()V", sig := { parameters := [], returnType := none }, accessFlags := 1, code := none }
def k1c1 : Code := { maxStack := 6, maxLocals := 8, code := code, exceptionTable := #[], attributes := #[] }
def k1m1 : Method := { name := "law", desc := "(III)Z", sig := { parameters := [.int, .int, .int], returnType := some .boolean }, accessFlags := 9, code := some k1c1 }
/-- com/example/lokalsatz/lokalsatz/zdb/MovingWallCountsCalendarUnitsPinLaw -/
def k1 : Class := { plain "com/example/lokalsatz/lokalsatz/zdb/MovingWallCountsCalendarUnitsPinLaw" (some 0) with
  accessFlags := 49
  interfaces := #[]
  cf := some (fileOf pool1 17 #[] #[{ accessFlags := 1, nameIndex := 5, descriptorIndex := 6, attributes := #[] }, { accessFlags := 9, nameIndex := 21, descriptorIndex := 22, attributes := #[] }] 49 2 #[] #[])
  fields := #[]
  methods := #[k1m0, k1m1]
  instanceTypes := #[]
  staticTypes := #[]
  resolved := Array.replicate 28 none
  statics := none }

def pool2 : Array CpInfo := pool [(1, .methodref 2 3), (0, .class_ 4), (0, .nameAndType 5 6), (0, u "java/lang/Object"), (0, u "<init>"), (0, u "()V"), (0, .class_ 8), (0, u "java/lang/Record")] 13

def k2c0 : Code := { maxStack := 1, maxLocals := 1, code := jdk_30_method_1_code, exceptionTable := #[], attributes := #[] }
def k2m0 : Method := { name := "<init>", desc := "()V", sig := { parameters := [], returnType := none }, accessFlags := 4, code := some k2c0 }
/-- java/lang/Record -/
def k2 : Class := { plain "java/lang/Record" (some 0) with
  accessFlags := 1057
  interfaces := #[]
  cf := some (fileOf pool2 7 #[] #[{ accessFlags := 4, nameIndex := 5, descriptorIndex := 6, attributes := #[] }] 1057 2 #[] #[])
  fields := #[]
  methods := #[k2m0]
  instanceTypes := #[]
  staticTypes := #[]
  resolved := Array.replicate 22 none
  statics := none }

def pool3 : Array CpInfo := pool [(1, .methodref 2 3), (0, .class_ 4), (0, .nameAndType 5 6), (0, u "java/lang/Record"), (0, u "<init>"), (0, u "()V"), (0, .fieldref 8 9), (0, .class_ 10), (0, .nameAndType 11 12), (0, u "com/example/lokalsatz/lokalsatz/zdb/MovingWall"), (0, u "recentOnly"), (0, u "Z"), (0, .fieldref 8 14), (0, .nameAndType 15 16), (0, u "count"), (0, u "I"), (0, .fieldref 8 18), (0, .nameAndType 19 20), (0, u "unit"), (0, u "C"), (2, u "WRITTEN"), (0, u "Ljava/util/regex/Pattern;"), (11, u "()Z"), (43, u "(ZIC)V"), (56, u "MAX_COUNT"), (10, u "countsCalendarUnits")] 34

def k3c0 : Code := { maxStack := 2, maxLocals := 4, code := prog_42_method_1_code, exceptionTable := #[], attributes := #[] }
def k3m0 : Method := { name := "<init>", desc := "(ZIC)V", sig := { parameters := [.boolean, .int, .char], returnType := none }, accessFlags := 0, code := some k3c0 }
def k3c1 : Code := { maxStack := 2, maxLocals := 1, code := prog_42_method_3_code, exceptionTable := #[], attributes := #[] }
def k3m1 : Method := { name := "countsCalendarUnits", desc := "()Z", sig := { parameters := [], returnType := some .boolean }, accessFlags := 0, code := some k3c1 }
/-- com/example/lokalsatz/lokalsatz/zdb/MovingWall -/
def k3 : Class := { plain "com/example/lokalsatz/lokalsatz/zdb/MovingWall" (some 2) with
  accessFlags := 48
  interfaces := #[]
  cf := some (fileOf pool3 8 #[] #[{ accessFlags := 0, nameIndex := 5, descriptorIndex := 80, attributes := #[] }, { accessFlags := 0, nameIndex := 148, descriptorIndex := 36, attributes := #[] }] 48 2 #[] #[{ accessFlags := 18, nameIndex := 11, descriptorIndex := 12, attributes := #[] }, { accessFlags := 18, nameIndex := 15, descriptorIndex := 16, attributes := #[] }, { accessFlags := 18, nameIndex := 19, descriptorIndex := 20, attributes := #[] }, { accessFlags := 24, nameIndex := 137, descriptorIndex := 16, attributes := #[] }, { accessFlags := 26, nameIndex := 23, descriptorIndex := 24, attributes := #[] }])
  fields := #[{ name := "recentOnly", type := .boolean, accessFlags := 18, slot := 0, constantValue := 0 }, { name := "count", type := .int, accessFlags := 18, slot := 1, constantValue := 0 }, { name := "unit", type := .char, accessFlags := 18, slot := 2, constantValue := 0 }, { name := "MAX_COUNT", type := .int, accessFlags := 24, slot := 0, constantValue := 0 }, { name := "WRITTEN", type := (.object "java/util/regex/Pattern"), accessFlags := 26, slot := 1, constantValue := 0 }]
  methods := #[k3m0, k3m1]
  instanceTypes := #[.boolean, .int, .char]
  staticTypes := #[.int, (.object "java/util/regex/Pattern")]
  resolved := Array.replicate 183 none
  statics := none }

def pool4 : Array CpInfo := pool [(1, u "java/lang/Cloneable"), (0, .class_ 1), (0, u "java/lang/Object"), (0, .class_ 3)] 3

/-- java/lang/Cloneable -/
def k4 : Class := { plain "java/lang/Cloneable" (some 0) with
  accessFlags := 1537
  interfaces := #[]
  cf := some (fileOf pool4 2 #[] #[] 1537 4 #[] #[])
  fields := #[]
  methods := #[]
  instanceTypes := #[]
  staticTypes := #[]
  resolved := Array.replicate 8 none
  statics := none }

def pool5 : Array CpInfo := pool [(1, u "java/io/Serializable"), (0, .class_ 1), (0, u "java/lang/Object"), (0, .class_ 3)] 3

/-- java/io/Serializable -/
def k5 : Class := { plain "java/io/Serializable" (some 0) with
  accessFlags := 1537
  interfaces := #[]
  cf := some (fileOf pool5 2 #[] #[] 1537 4 #[] #[])
  fields := #[]
  methods := #[]
  instanceTypes := #[]
  staticTypes := #[]
  resolved := Array.replicate 8 none
  statics := none }

/-- the primitive byte -/
def k6 : Class := { plain "byte" none with kind := .primitive 'B', accessFlags := 0x411 }
/-- [B -/
def k7 : Class := { plain "[B" (some 0) with kind := .array 6 .byte, interfaces := #[4, 5], accessFlags := 1041 }

/-- the primitive char -/
def k8 : Class := { plain "char" none with kind := .primitive 'C', accessFlags := 0x411 }
/-- [C -/
def k9 : Class := { plain "[C" (some 0) with kind := .array 8 .char, interfaces := #[4, 5], accessFlags := 1041 }

/-- the primitive int -/
def k10 : Class := { plain "int" none with kind := .primitive 'I', accessFlags := 0x411 }
/-- [I -/
def k11 : Class := { plain "[I" (some 0) with kind := .array 10 .int, interfaces := #[4, 5], accessFlags := 1041 }

def heap : Heap := #[]
def classes : Array Class := #[k0, k1, k2, k3, k4, k5, k6, k7, k8, k9, k10, k11]
def interned : List (Array UInt16 × Addr) := []
def slotsUsed : Nat := 0
def theMethod : MethodId := ⟨1, 1⟩
def args0 : Array Value := #[.int 5, .int 6, .int 7]
def aboutOver (below : List Frame) : State where
  vm := { classes := classes, interned := interned.toArray }
  heap := heap
  slotsUsed := slotsUsed
  threads := #[{ frames := .invoking theMethod args0 :: below }]
def below0 : List Frame := [.native { method := ⟨0, 0⟩, args := #[] }]
def about1 : State := aboutOver below0
def p0 : Program := .bare "" "" ""
def e0 : Env := launch0.env 0 0 0
theorem w_frames : about1.frames = Frame.invoking theMethod args0 :: below0 := rfl
set_option maxRecDepth 65536 in
theorem w_args : argsFit about1.vm theMethod args0 = true := by decide +kernel
set_option maxRecDepth 65536 in
theorem w_heap : heapFits about1 = true := by decide +kernel
set_option maxRecDepth 65536 in
theorem w_runnable : about1.curStatus? = some .runnable := by decide +kernel
set_option maxRecDepth 65536 in
theorem w_alone : about1.alone = true := by decide +kernel
set_option maxRecDepth 65536 in
theorem w_named : about1.methodNamed? x = some theMethod := by decide +kernel
set_option maxRecDepth 65536 in
theorem w_hears : about1.hears theMethod below0 = true := by decide +kernel
set_option maxRecDepth 65536 in
theorem w_ripe : about1.ripe theMethod args0 below0 = true := by decide +kernel
theorem w_running : about1.status = .running := rfl
set_option maxRecDepth 65536 in
theorem w_room : about1.hasRoom e0.platform room_1 = true :=
  launch0.hasRoom_least _ room_1 (by decide +kernel) (by decide +kernel) (by decide +kernel) (by decide +kernel) (by decide +kernel) (by decide +kernel)
theorem allAtoms_all (ts : List Jvm.Cond) (a : Array Jvm.Value) (st : Jvm.State) : (allAtoms ts).before a st = ts.all (fun c => c.before a st) := by
  induction ts with
  | nil => rfl
  | cons c t ih =>
    show (Jvm.Cond.and c (allAtoms t)).before a st = _
    rw [Jvm.Cond.before_and, ih, List.all_cons]
def words1 : List Jvm.Cond := Jvm.Cond.code x code maxLocals ret :: tables_1
/-- a 'code' word, met by the world's own term for the bytes: nothing is compared byte by byte -/
theorem code_word {y : MethodName} {bytes : ByteArray} {mx : Nat} {rt : Option FieldType} {a : Array Value} {s : State} {m : MethodId} {meth : Method} {c : Code} (h1 : s.methodNamed? y = some m) (h2 : s.vm.method? m = some meth) (h3 : meth.code = some c) (h4 : c.code = bytes)
    (h5 : (c.maxLocals == mx && c.exceptionTable.isEmpty && decide (c.maxStack ≤ mostOperands) && decide (meth.sig.returnType = rt) && !meth.locks && decide (parseMethodDescriptor y.desc = some meth.sig)) = true) : (Jvm.Cond.code y bytes mx rt).before a s = true := by
  simp only [Bool.and_eq_true, beq_iff_eq, Bool.not_eq_true', decide_eq_true_eq] at h5
  obtain ⟨⟨⟨⟨⟨g1, g2⟩, g3⟩, g4⟩, g5⟩, g6⟩ := h5
  simp [Cond.before, Cond.holds, Cond.value, h1, h2, h3, h4, g1, g2, g3, g4, g5, g6]
def isCode : Jvm.Cond → Bool
  | .code _ _ _ _ => true
  | _ => false
theorem all_split {L : List Jvm.Cond} {P : Jvm.Cond → Bool} (h1 : L.all (fun c => isCode c || P c) = true) (h2 : ∀ c ∈ L.filter isCode, P c = true) : L.all P = true := by
  refine List.all_eq_true.mpr fun c hc => ?_
  have h := List.all_eq_true.mp h1 c hc
  rcases Bool.eq_false_or_eq_true (isCode c) with hi | hi
  · exact h2 c (List.mem_filter.mpr ⟨hc, hi⟩)
  · simpa [hi] using h
set_option maxRecDepth 65536 in
theorem w_c0 : (Jvm.Cond.code x code maxLocals ret).before args0 about1 = true := code_word (m := ⟨1, 1⟩) (meth := k1m1) (c := k1c1) (by decide +kernel) rfl rfl rfl (by decide +kernel)
set_option maxRecDepth 65536 in
theorem w_c1 : (Jvm.Cond.code ({ cls := "com/example/lokalsatz/lokalsatz/zdb/MovingWall", name := "<init>", desc := "(ZIC)V" } : Jvm.MethodName) prog_42_method_1_code (4 : Nat) (Option.none : Option Jvm.ClassFile.FieldType)).before args0 about1 = true := code_word (m := ⟨3, 0⟩) (meth := k3m0) (c := k3c0) (by decide +kernel) rfl rfl rfl (by decide +kernel)
set_option maxRecDepth 65536 in
theorem w_c2 : (Jvm.Cond.code ({ cls := "java/lang/Record", name := "<init>", desc := "()V" } : Jvm.MethodName) jdk_30_method_1_code (1 : Nat) (Option.none : Option Jvm.ClassFile.FieldType)).before args0 about1 = true := code_word (m := ⟨2, 0⟩) (meth := k2m0) (c := k2c0) (by decide +kernel) rfl rfl rfl (by decide +kernel)
set_option maxRecDepth 65536 in
theorem w_c3 : (Jvm.Cond.code ({ cls := "java/lang/Object", name := "<init>", desc := "()V" } : Jvm.MethodName) object_method_1_code (1 : Nat) (Option.none : Option Jvm.ClassFile.FieldType)).before args0 about1 = true := code_word (m := ⟨0, 0⟩) (meth := k0m0) (c := k0c0) (by decide +kernel) rfl rfl rfl (by decide +kernel)
set_option maxRecDepth 65536 in
theorem w_c4 : (Jvm.Cond.code ({ cls := "com/example/lokalsatz/lokalsatz/zdb/MovingWall", name := "countsCalendarUnits", desc := "()Z" } : Jvm.MethodName) prog_42_method_3_code (1 : Nat) (Option.some Jvm.ClassFile.FieldType.boolean)).before args0 about1 = true := code_word (m := ⟨3, 1⟩) (meth := k3m1) (c := k3c1) (by decide +kernel) rfl rfl rfl (by decide +kernel)
def codes1 : List Jvm.Cond := [Jvm.Cond.code x code maxLocals ret, Jvm.Cond.code ({ cls := "com/example/lokalsatz/lokalsatz/zdb/MovingWall", name := "<init>", desc := "(ZIC)V" } : Jvm.MethodName) prog_42_method_1_code (4 : Nat) (Option.none : Option Jvm.ClassFile.FieldType), Jvm.Cond.code ({ cls := "java/lang/Record", name := "<init>", desc := "()V" } : Jvm.MethodName) jdk_30_method_1_code (1 : Nat) (Option.none : Option Jvm.ClassFile.FieldType), Jvm.Cond.code ({ cls := "java/lang/Object", name := "<init>", desc := "()V" } : Jvm.MethodName) object_method_1_code (1 : Nat) (Option.none : Option Jvm.ClassFile.FieldType), Jvm.Cond.code ({ cls := "com/example/lokalsatz/lokalsatz/zdb/MovingWall", name := "countsCalendarUnits", desc := "()Z" } : Jvm.MethodName) prog_42_method_3_code (1 : Nat) (Option.some Jvm.ClassFile.FieldType.boolean)]
set_option maxRecDepth 65536 in
theorem codes_eq : words1.filter isCode = codes1 := rfl
theorem w_codes : ∀ c ∈ words1.filter isCode, c.before args0 about1 = true := by
  rw [codes_eq]
  intro c hc
  simp only [codes1, List.mem_cons, List.not_mem_nil, or_false] at hc
  rcases hc with rfl | rfl | rfl | rfl | rfl
  · exact w_c0
  · exact w_c1
  · exact w_c2
  · exact w_c3
  · exact w_c4
set_option maxRecDepth 65536 in
theorem w_t1 : (words1.take 24).all (fun c => isCode c || c.before args0 about1) = true := by decide +kernel
set_option maxRecDepth 65536 in
theorem w_t2 : (words1.drop 24).all (fun c => isCode c || c.before args0 about1) = true := by decide +kernel
theorem w_tables : (allAtoms (Jvm.Cond.code x code maxLocals ret :: tables_1)).before args0 about1 = true := by
  rw [allAtoms_all]
  show words1.all (fun c => c.before args0 about1) = true
  refine all_split ?_ w_codes
  rw [← List.take_append_drop 24 words1, List.all_append, w_t1, w_t2]
  rfl
set_option maxRecDepth 65536 in
theorem w_case : (Jvm.Cond.and given_1 narrow_1).before args0 about1 = true := by decide +kernel
theorem w_applies : (headSpec (Jvm.Cond.code x code maxLocals ret :: tables_1) room_1).applies x e0.platform about1 = true :=
  (Spec.applies_iff w_frames).mpr ⟨w_running, w_runnable, w_alone, w_named, w_hears, w_ripe, w_room, w_tables⟩
theorem atStart : AtStart classFile x code maxLocals ret World_1 tables_1 room_1 Calls_1 rest_1 Pre_1 launch0 p0 e0 about1 theMethod args0 below0 :=
  ⟨lists_1, trivial, launch0.admits_env _ _ _, launch0.least_env, fairChoices_fair.cas, fairChoices_fair.clock, w_frames, w_args, w_heap, w_applies, trivial, trivial, w_case⟩
end start1
theorem witness_1 : WitnessClaimed_1 := ⟨start1.p0, start1.e0, start1.about1, start1.theMethod, start1.args0, start1.below0, start1.atStart⟩
end Jvm.Pilot.@@N@@
