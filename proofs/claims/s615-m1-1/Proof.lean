import JvmDerived
import JvmDerived.Pilot.@@N@@Statement
import JvmDerived.Pilot.@@N@@Code
set_option linter.unusedVariables false
set_option linter.unusedSimpArgs false
namespace Jvm.RoadKit
open Sem ClassFile Op Lib Jvm.Stand Jvm.Free Jvm.LawKit
section Own
variable {p : Program} {l : Launch} {e : Env} {R : Room} {s : State} {m : MethodId} {args : Array Value} {below : List Frame} {meth : Method} {c : Code} {T T' : State} {locs : List Loc} {cells slots : Nat} {Z : State} {a0 : Array Value} {h : Heap} {Q : Option Value → Heap → List Loc → Prop} {kc ks : Nat}
/-- from here (state T, frame g) the body runs to its return, with Q of what it returns, the heap and the places written -/
def own_Go (p : Program) (e : Env) (s : State) (below : List Frame) (Q : Option Value → Heap → List Loc → Prop) (kc ks : Nat) (T : State) (g : JFrame) : Prop :=
  ∃ s₂ o, Steps p.tables e below (T.setTop g) s₂ ∧ s₂.status = .running ∧ Ended s₂ below o ∧ ∃ v L, o = .returned v ∧ Q v s₂.heap L ∧ FrameEnd s o s₂ L kc ks
theorem own_st {g g' : JFrame} (st : ∀ target, Steps p.tables e below (T'.setTop g') target → Steps p.tables e below (T.setTop g) target) (k : own_Go p e s below Q kc ks T' g') : own_Go p e s below Q kc ks T g := by
  obtain ⟨s₂, o, h1, r⟩ := k; exact ⟨s₂, o, st _ h1, r⟩
theorem own_sq {g g' : JFrame} {t : State} (st : Steps p.tables e below (T'.setTop g') t → Steps p.tables e below (T.setTop g) t) (k : Steps p.tables e below (T'.setTop g') t) : Steps p.tables e below (T.setTop g) t := st k
theorem own_cast {g g' : JFrame} (q : g = g') (k : own_Go p e s below Q kc ks T g') : own_Go p e s below Q kc ks T g := q ▸ k
theorem own_retI (X : Stand p l e R s m args below meth c T locs cells slots) (hx : p.tables.exec = Jvm.exec) (hlk : meth.locks = false) (hret : meth.sig.returnType = some .int) {pc : Nat} {Ls : Array Slot} {z : Int32} {rest : List Value} (hd : decode c.code pc = .ok (.ireturn, 1)) (hq : Q (some (.int z)) T.heap locs) (hc : cells ≤ kc) (hs : slots ≤ ks) : own_Go p e s below Q kc ks T (mkF m pc Ls (.int z :: rest)) := by
  obtain ⟨fs, hr, hrun, hended, hW, hsame⟩ := X.leave (v := some (.int z)) (fun h => by rw [hret] at h; cases h) hlk
  exact ⟨_, _, retOut X hx hret (by rfl) (Or.inl ⟨rfl, Or.inl rfl, z, rfl⟩) hd hr, hrun, hended, _, _, rfl, hq, ⟨_, rfl⟩, hW, hsame.mono hc hs⟩
theorem own_retN (X : Stand p l e R s m args below meth c T locs cells slots) (hx : p.tables.exec = Jvm.exec) (hlk : meth.locks = false) {t : FieldType} (hret : meth.sig.returnType = some t) (ht : t = .boolean ∨ t = .byte ∨ t = .char ∨ t = .short) {pc : Nat} {Ls : Array Slot} {z : Int32} {rest : List Value} (hd : decode c.code pc = .ok (.ireturn, 1)) (hq : Q (some (.int (nar t z))) T.heap locs) (hc : cells ≤ kc) (hs : slots ≤ ks) : own_Go p e s below Q kc ks T (mkF m pc Ls (.int z :: rest)) := by
  obtain ⟨fs, hr, hrun, hended, hW, hsame⟩ := X.leave (v := some (.int (nar t z))) (fun h => by rw [hret] at h; cases h) hlk
  exact ⟨_, _, retN X hx hret ht hd hr, hrun, hended, _, _, rfl, hq, ⟨_, rfl⟩, hW, hsame.mono hc hs⟩
theorem own_retJ (X : Stand p l e R s m args below meth c T locs cells slots) (hx : p.tables.exec = Jvm.exec) (hlk : meth.locks = false) (hret : meth.sig.returnType = some .long) {pc : Nat} {Ls : Array Slot} {z : Int64} {rest : List Value} (hd : decode c.code pc = .ok (.lreturn, 1)) (hq : Q (some (.long z)) T.heap locs) (hc : cells ≤ kc) (hs : slots ≤ ks) : own_Go p e s below Q kc ks T (mkF m pc Ls (.long z :: rest)) := by
  obtain ⟨fs, hr, hrun, hended, hW, hsame⟩ := X.leave (v := some (.long z)) (fun h => by rw [hret] at h; cases h) hlk
  exact ⟨_, _, retOut X hx hret (by rfl) (Or.inr (Or.inl ⟨rfl, rfl, z, rfl⟩)) hd hr, hrun, hended, _, _, rfl, hq, ⟨_, rfl⟩, hW, hsame.mono hc hs⟩
theorem own_retA (X : Stand p l e R s m args below meth c T locs cells slots) (hx : p.tables.exec = Jvm.exec) (hlk : meth.locks = false) {t : FieldType} (hret : meth.sig.returnType = some t) (ht : t.isReference = true) {pc : Nat} {Ls : Array Slot} {v : Value} {rest : List Value} (hv : v.isRef = true) (hd : decode c.code pc = .ok (.areturn, 1)) (hq : Q (some v) T.heap locs) (hc : cells ≤ kc) (hs : slots ≤ ks) : own_Go p e s below Q kc ks T (mkF m pc Ls (v :: rest)) := by
  obtain ⟨fs, hr, hrun, hended, hW, hsame⟩ := X.leave (v := some v) (fun h => by rw [hret] at h; cases h) hlk
  have hn : narrow t v = v := by cases v <;> first | (cases hv; done) | (cases t <;> first | (cases ht; done) | rfl)
  exact ⟨_, _, retOut X hx hret hn (Or.inr (Or.inr (Or.inr (Or.inr ⟨rfl, ht, hv⟩)))) hd hr, hrun, hended, _, _, rfl, hq, ⟨_, rfl⟩, hW, hsame.mono hc hs⟩
theorem own_retV (X : Stand p l e R s m args below meth c T locs cells slots) (hx : p.tables.exec = Jvm.exec) (hlk : meth.locks = false) (hret : meth.sig.returnType = none) {pc : Nat} {Ls : Array Slot} (hd : decode c.code pc = .ok (.return_, 1)) (hq : Q none T.heap locs) (hc : cells ≤ kc) (hs : slots ≤ ks) : own_Go p e s below Q kc ks T (mkF m pc Ls []) := by
  obtain ⟨fs, hr, hrun, hended, hW, hsame⟩ := X.leave (v := none) (fun _ => rfl) hlk
  exact ⟨_, _, X.returnOut hx hret hd hr, hrun, hended, _, _, rfl, hq, ⟨_, rfl⟩, hW, hsame.mono hc hs⟩
/-- a body's contract: entered with these arguments at the heap h0 it returns, with Q -/
def own_Met (l : Launch) (Z : State) (ws : List Cond) (y : MethodName) (bytes : ByteArray) (maxL : Nat) (ret : Option FieldType) (rm : Room) (kc ks : Nat) (as' : Array Value) (h0 : Heap) (Q : Option Value → Heap → List Loc → Prop) : Prop :=
  MetFree l y (head1 (Cond.code y bytes maxL ret :: ws) rm) (fun a U => a = as' ∧ Z.Warmed39 U.vm ∧ U.heap = h0) (fun _ _ _ _ _ => True) (fun _ U o U' => ∃ v L, o = .returned v ∧ Q v U'.heap L ∧ FrameEnd U o U' L kc ks)
theorem own_body {ws : List Cond} {y : MethodName} {bytes : ByteArray} {maxL : Nat} {ret : Option FieldType} {rm : Room} {as' : Array Value} {h0 : Heap} (pn : plainFor y = true)
    (body : ∀ (p : Program) (e : Env) (s : State) (m : MethodId) (below : List Frame) (meth : Method) (c : Code) (s₁ : State), p.tables.exec = Jvm.exec → c.code = bytes → c.maxLocals = maxL → s.vm.findClass y.cls = some m.cls → meth.name = y.name → meth.locks = false → meth.sig.returnType = ret → Z.Warmed39 s.vm → s.heap = h0 →
      Stand p l e rm s m as' below meth c s₁ [] 0 0 → s₁.heap = h0 → own_Go p e s below Q kc ks s₁ (entryFrame m as' maxL)) : own_Met l Z ws y bytes maxL ret rm kc ks as' h0 Q := by
  refine MetFree.of_bodySF pn hisR ?_
  intro p e s m args below meth c s₁ Bd hml0 hP hK
  obtain ⟨rfl, hZ, hh⟩ := hP
  exact body p e s m below meth c s₁ Bd.exec Bd.bytes hml0 (findClass_of_methodNamed Bd.named) (name_of_methodNamed Bd.named Bd.method).1 Bd.notSynchronized Bd.returns hZ hh (Stand.of_body Bd) (by rw [← hh, Bd.state]; rfl)
theorem own_callS (X : Stand p l e R s m args below meth c T locs cells slots) (hx : p.tables.exec = Jvm.exec) (hZ : Z.Warmed39 s.vm) {own : String} {index : Nat} {y : MethodName} {bytes : ByteArray} {maxL : Nat} {ret : Option FieldType}
    (hown : s.vm.findClass own = some m.cls) (w1 : (Cond.methodLink own index y).before a0 Z = true) (w2 : (Cond.static y).before a0 Z = true) (w3 : (Cond.initialized y.cls).before a0 Z = true) (w4 : (Cond.code y bytes maxL ret).before a0 Z = true)
    (hy : y.cls ≠ "java/lang/invoke/MethodHandle" ∧ y.cls ≠ "java/lang/invoke/VarHandle") {rm : Room} {W : Nat} {Qc : Option Value → Heap → List Loc → Prop} (eT : T.heap = h) {argsL rest : List Value}
    (hM : own_Met l Z [] y bytes maxL ret rm rm.cells rm.slots argsL.toArray h Qc) (hf : rm.frames + 1 ≤ R.frames) (hl : W + (maxL + 11) + rm.locals ≤ R.locals) (hcs : cells + rm.cells ≤ R.cells) (hss : slots + rm.slots ≤ R.slots)
    {g : JFrame} (hg : g.method = m) (hsize : g.locals.size = c.maxLocals) (hlen : ∀ sig, parseMethodDescriptor y.desc = some sig → argsL.length = sig.parameters.length) (hstack : g.stack = argsL.reverse ++ rest)
    (hW : 2 * g.monitorRoom + (rest.map fun v => v.category).sum ≤ W) (hdg : decode c.code g.pc = .ok (.invokestatic index, 3))
    (k : ∀ v T' L, Stand p l e R s m args below meth c T' (locs ++ L) (cells + rm.cells) (slots + rm.slots) → Qc v T'.heap L → own_Go p e s below Q kc ks T' { g with pc := g.pc + 3, stack := v.toList ++ rest }) : own_Go p e s below Q kc ks T g := by
  obtain ⟨v, _, ⟨T6, L6, k6, n6⟩, -, X6, ⟨Lc6, hQ6, l6, y6, z6⟩, st6⟩ := Jvm.LawKit.callS X hx (y := y) hown (mvT hZ w1) (mvT hZ w2) (mvT hZ w3) (mvT hZ w4) hy (backOf (W := W) hM hZ w4 w3 hf hl) hg hsize (argsL := argsL) (rest := rest) hlen hstack hW hdg (fun _ _ => ⟨rfl, eT, hcs, hss⟩)
  dsimp only [Pt.U, Pt.locs, Pt.cells, Pt.slots] at X6 l6 y6 z6 st6 hQ6
  subst l6 y6 z6
  exact own_st st6 (k v T6 Lc6 X6 hQ6)
theorem own_callV (X : Stand p l e R s m args below meth c T locs cells slots) (hx : p.tables.exec = Jvm.exec) (hZ : Z.Warmed39 s.vm) {own C : String} {index : Nat} {y : MethodName} {bytes : ByteArray} {maxL : Nat} {ret : Option FieldType}
    (hown : s.vm.findClass own = some m.cls) (w1 : (Cond.methodLink own index y).before a0 Z = true) (w2 : (Cond.declares y).before a0 Z = true) (w3 : (Cond.selects C y y).before a0 Z = true) (w4 : (Cond.instanceMethod y).before a0 Z = true) (w5 : (Cond.code y bytes maxL ret).before a0 Z = true) (w6 : (Cond.initialized y.cls).before a0 Z = true)
    (hy : y.cls ≠ "java/lang/invoke/MethodHandle" ∧ y.cls ≠ "java/lang/invoke/VarHandle") {rm : Room} {W : Nat} {Qc : Option Value → Heap → List Loc → Prop} (eT : T.heap = h) {b : Addr} (E : Exa Z h b C) {argsL rest : List Value}
    (hM : own_Met l Z [] y bytes maxL ret rm rm.cells rm.slots (.ref b :: argsL).toArray h Qc) (hf : rm.frames + 1 ≤ R.frames) (hl : W + (maxL + 11) + rm.locals ≤ R.locals) (hcs : cells + rm.cells ≤ R.cells) (hss : slots + rm.slots ≤ R.slots)
    {g : JFrame} (hg : g.method = m) (hsize : g.locals.size = c.maxLocals) (hlen : ∀ sig, parseMethodDescriptor y.desc = some sig → argsL.length = sig.parameters.length) (hstack : g.stack = argsL.reverse ++ .ref b :: rest)
    (hW : 2 * g.monitorRoom + (rest.map fun v => v.category).sum ≤ W) (hdg : decode c.code g.pc = .ok (.invokevirtual index, 3))
    (k : ∀ v T' L, Stand p l e R s m args below meth c T' (locs ++ L) (cells + rm.cells) (slots + rm.slots) → Qc v T'.heap L → own_Go p e s below Q kc ks T' { g with pc := g.pc + 3, stack := v.toList ++ rest }) : own_Go p e s below Q kc ks T g := by
  obtain ⟨cq, kq, qa, qb, qc⟩ := isOf hZ eT E
  obtain ⟨v, _, ⟨T6, L6, k6, n6⟩, -, X6, ⟨Lc6, hQ6, l6, y6, z6⟩, st6⟩ := X.virtualBack hx (y := y) (z := y) hown (mvT hZ w1) (mvT hZ w2) (notFace_of_selects (args := #[]) (mvT hZ w3)) (mvT hZ w3) (mvT hZ w4) hy (backOf (W := W) hM hZ w5 w6 hf hl) qa qc hg hsize (Steps.refl _) (argsL := argsL) (rest := rest) hlen hstack hW hdg (fun _ _ => ⟨rfl, eT, hcs, hss⟩)
  dsimp only [Pt.U, Pt.locs, Pt.cells, Pt.slots] at X6 l6 y6 z6 st6 hQ6
  subst l6 y6 z6
  exact own_st (fun _ q => st6.trans q) (k v T6 Lc6 X6 hQ6)
theorem own_callC (X : Stand p l e R s m args below meth c T locs cells slots) (hx : p.tables.exec = Jvm.exec) (hZ : Z.Warmed39 s.vm) {own : String} {index : Nat} {y : MethodName} {bytes : ByteArray} {maxL : Nat} (hy1 : y.name = "<init>")
    (hown : s.vm.findClass own = some m.cls) (w1 : (Cond.methodLink own index y).before a0 Z = true) (w2 : (Cond.instanceMethod y).before a0 Z = true) (w3 : (Cond.code y bytes maxL none).before a0 Z = true) (w4 : (Cond.initialized y.cls).before a0 Z = true)
    (hy : y.cls ≠ "java/lang/invoke/MethodHandle" ∧ y.cls ≠ "java/lang/invoke/VarHandle") {rm : Room} {W : Nat} {Qc : Option Value → Heap → List Loc → Prop} (eT : T.heap = h) {b : Addr} {argsL rest : List Value}
    (hM : own_Met l Z [] y bytes maxL none rm rm.cells rm.slots (.ref b :: argsL).toArray h Qc) (hf : rm.frames + 1 ≤ R.frames) (hl : W + (maxL + 11) + rm.locals ≤ R.locals) (hcs : cells + rm.cells ≤ R.cells) (hss : slots + rm.slots ≤ R.slots)
    {g : JFrame} (hg : g.method = m) (hsize : g.locals.size = c.maxLocals) (hlen : ∀ sig, parseMethodDescriptor y.desc = some sig → argsL.length = sig.parameters.length) (hstack : g.stack = argsL.reverse ++ .ref b :: rest)
    (hW : 2 * g.monitorRoom + (rest.map fun v => v.category).sum ≤ W) (hdg : decode c.code g.pc = .ok (.invokespecial index, 3))
    (k : ∀ v T' L, Stand p l e R s m args below meth c T' (locs ++ L) (cells + rm.cells) (slots + rm.slots) → Qc v T'.heap L → own_Go p e s below Q kc ks T' { g with pc := g.pc + 3, stack := v.toList ++ rest }) : own_Go p e s below Q kc ks T g := by
  obtain ⟨v, _, ⟨T6, L6, k6, n6⟩, -, X6, ⟨Lc6, hQ6, l6, y6, z6⟩, st6⟩ := X.specialBack hx (y := y) hy1 hown (mvT hZ w1) (mvT hZ w2) (mvT hZ w3) hy (backOf (W := W) hM hZ w3 w4 hf hl) hg hsize (Steps.refl _) (a := b) (argsL := argsL) (rest := rest) hlen hstack hW hdg (fun _ _ => ⟨rfl, eT, hcs, hss⟩)
  dsimp only [Pt.U, Pt.locs, Pt.cells, Pt.slots] at X6 l6 y6 z6 st6 hQ6
  subst l6 y6 z6
  exact own_st (fun _ q => st6.trans q) (k v T6 Lc6 X6 hQ6)
theorem own_callP (X : Stand p l e R s m args below meth c T locs cells slots) (hx : p.tables.exec = Jvm.exec) (hZ : Z.Warmed39 s.vm) {own : String} {index : Nat} {y : MethodName} {bytes : ByteArray} {maxL : Nat} {ret : Option FieldType}
    (hown : s.vm.findClass own = some m.cls) (w1 : (Cond.methodLink own index y).before a0 Z = true) (w2 : (Cond.instanceMethod y).before a0 Z = true) {kk : Nat} (w3 : (Cond.instantiable y.cls kk).before a0 Z = true) (w4 : (Cond.privateMethod y).before a0 Z = true) (w5 : (Cond.code y bytes maxL ret).before a0 Z = true) (w6 : (Cond.initialized y.cls).before a0 Z = true)
    (hy : y.cls ≠ "java/lang/invoke/MethodHandle" ∧ y.cls ≠ "java/lang/invoke/VarHandle") {rm : Room} {W : Nat} {Qc : Option Value → Heap → List Loc → Prop} (eT : T.heap = h) {b : Addr} {C : String} (E : Exa Z h b C) {argsL rest : List Value}
    (hM : own_Met l Z [] y bytes maxL ret rm rm.cells rm.slots (.ref b :: argsL).toArray h Qc) (hf : rm.frames + 1 ≤ R.frames) (hl : W + (maxL + 11) + rm.locals ≤ R.locals) (hcs : cells + rm.cells ≤ R.cells) (hss : slots + rm.slots ≤ R.slots)
    {g : JFrame} (hg : g.method = m) (hsize : g.locals.size = c.maxLocals) (hlen : ∀ sig, parseMethodDescriptor y.desc = some sig → argsL.length = sig.parameters.length) (hstack : g.stack = argsL.reverse ++ .ref b :: rest)
    (hW : 2 * g.monitorRoom + (rest.map fun v => v.category).sum ≤ W) (hdg : decode c.code g.pc = .ok (.invokevirtual index, 3))
    (k : ∀ v T' L, Stand p l e R s m args below meth c T' (locs ++ L) (cells + rm.cells) (slots + rm.slots) → Qc v T'.heap L → own_Go p e s below Q kc ks T' { g with pc := g.pc + 3, stack := v.toList ++ rest }) : own_Go p e s below Q kc ks T g := by
  obtain ⟨cq, q1, q2⟩ := E.cell
  have w3' : (Cond.instantiable y.cls kk).before args s = true := mvT hZ w3
  obtain ⟨c2, k2, i1, i2, i3, i4, -⟩ := Cond.instantiable_spec w3'
  have hsel : (Cond.selects y.cls y y).before args s = true := selects_self_of_private i1 i2 (Bool.or_eq_false_iff.mp i4).1 (Cond.privateMethod_at (mvP hZ w4 (args := #[]))) (mvT hZ w2) hy
  obtain ⟨v, _, ⟨T6, L6, k6, n6⟩, -, X6, ⟨Lc6, hQ6, l6, y6, z6⟩, st6⟩ := X.privateBack hx (y := y) hown (mvT hZ w1) (mvT hZ w2) hsel (Cond.privateMethod_at (mvP hZ w4 (args := #[]))) (mvT hZ w5) hy (backOf (W := W) hM hZ w5 w6 hf hl) hg hsize (Steps.refl _) (a := b) (by rw [eT]; exact q1) q2 (argsL := argsL) (rest := rest) hlen hstack hW hdg (fun _ _ => ⟨rfl, eT, hcs, hss⟩)
  dsimp only [Pt.U, Pt.locs, Pt.cells, Pt.slots] at X6 l6 y6 z6 st6 hQ6
  subst l6 y6 z6
  exact own_st (fun _ q => st6.trans q) (k v T6 Lc6 X6 hQ6)
end Own
end Jvm.RoadKit
namespace Jvm.Pilot.@@N@@
open Jvm Jvm.ClassFile Sem Op Lib Jvm.Free Jvm.Stand Jvm.LawKit Jvm.RoadKit Bundle Jvm.Pilot.@@N@@.Jvm.D
theorem own_w {Z : State} {a0 : Array Value} (hw : ∀ d ∈ tables_1, d.before a0 Z = true) (i : Nat) {d : Jvm.Cond} (q : tables_1[i]? = some d) : d.before a0 Z = true := hw d (List.mem_of_getElem? q)
theorem own_pd0 : parseMethodDescriptor "(C)Z" = some ⟨[.char], some .boolean⟩ := by decide +kernel
theorem d1_0 : decode prog_155_method_10_code 0 = .ok (.iload_n 0, 1) := by decide +kernel
theorem d1_1 : decode prog_155_method_10_code 1 = .ok (.bipush 97, 2) := by decide +kernel
theorem d1_3 : decode prog_155_method_10_code 3 = .ok (.if_icmp .lt 9, 3) := by decide +kernel
theorem d1_6 : decode prog_155_method_10_code 6 = .ok (.iload_n 0, 1) := by decide +kernel
theorem d1_7 : decode prog_155_method_10_code 7 = .ok (.bipush 122, 2) := by decide +kernel
theorem d1_9 : decode prog_155_method_10_code 9 = .ok (.if_icmp .le 33, 3) := by decide +kernel
theorem d1_12 : decode prog_155_method_10_code 12 = .ok (.iload_n 0, 1) := by decide +kernel
theorem d1_13 : decode prog_155_method_10_code 13 = .ok (.bipush 65, 2) := by decide +kernel
theorem d1_15 : decode prog_155_method_10_code 15 = .ok (.if_icmp .lt 9, 3) := by decide +kernel
theorem d1_18 : decode prog_155_method_10_code 18 = .ok (.iload_n 0, 1) := by decide +kernel
theorem d1_19 : decode prog_155_method_10_code 19 = .ok (.bipush 90, 2) := by decide +kernel
theorem d1_21 : decode prog_155_method_10_code 21 = .ok (.if_icmp .le 21, 3) := by decide +kernel
theorem d1_24 : decode prog_155_method_10_code 24 = .ok (.iload_n 0, 1) := by decide +kernel
theorem d1_25 : decode prog_155_method_10_code 25 = .ok (.bipush 48, 2) := by decide +kernel
theorem d1_27 : decode prog_155_method_10_code 27 = .ok (.if_icmp .lt 9, 3) := by decide +kernel
theorem d1_30 : decode prog_155_method_10_code 30 = .ok (.iload_n 0, 1) := by decide +kernel
theorem d1_31 : decode prog_155_method_10_code 31 = .ok (.bipush 57, 2) := by decide +kernel
theorem d1_33 : decode prog_155_method_10_code 33 = .ok (.if_icmp .le 9, 3) := by decide +kernel
theorem d1_36 : decode prog_155_method_10_code 36 = .ok (.iload_n 0, 1) := by decide +kernel
theorem d1_37 : decode prog_155_method_10_code 37 = .ok (.bipush 95, 2) := by decide +kernel
theorem d1_39 : decode prog_155_method_10_code 39 = .ok (.if_icmp .ne 7, 3) := by decide +kernel
theorem d1_42 : decode prog_155_method_10_code 42 = .ok (.iconst 1, 1) := by decide +kernel
theorem d1_43 : decode prog_155_method_10_code 43 = .ok (.goto 4, 3) := by decide +kernel
theorem d1_46 : decode prog_155_method_10_code 46 = .ok (.iconst 0, 1) := by decide +kernel
theorem d1_47 : decode prog_155_method_10_code 47 = .ok (.ireturn, 1) := by decide +kernel
theorem pn_1 : plainName site_10.cls = true := by first | (simp [plainName, overriddenIn]; done) | decide +kernel
theorem ef_1 (m : MethodId) (x0 : Int32) : entryFrame m #[(.int x0)] 1 = mkF m 0 #[.val (.int x0)] [] := by first | (simp [entryFrame, mkF, argsToLocals, Value.category]; done) | rfl
set_option maxRecDepth 65536 in
set_option maxHeartbeats 40000000 in
theorem rm1 (l : Launch) (Z : State) (a0 : Array Value) (hw : ∀ d ∈ tables_1, d.before a0 Z = true) (ws : List Jvm.Cond) (c0 : Int32) (h0 : Heap) (n0 : Nat) (Z0 : n0 ≤ h0.size)  :
    own_Met l Z ws (⟨site_10.cls, "isNameCharacter", "(C)Z"⟩ : MethodName) prog_155_method_10_code 1 (some .boolean) ({ frames := 0, cells := 0, slots := 0, locals := 0 } : Room) ({ frames := 0, cells := 0, slots := 0, locals := 0 } : Room).cells ({ frames := 0, cells := 0, slots := 0, locals := 0 } : Room).slots #[(.int c0)] h0 (fun v h L => v = some (.int (nar .boolean (if c0 < (97 : Int32) then (if c0 < (65 : Int32) then (if c0 < (48 : Int32) then (if c0 = (95 : Int32) then (1 : Int32) else (0 : Int32)) else (if (57 : Int32) < c0 then (if c0 = (95 : Int32) then (1 : Int32) else (0 : Int32)) else (1 : Int32))) else (if (90 : Int32) < c0 then (if c0 < (48 : Int32) then (if c0 = (95 : Int32) then (1 : Int32) else (0 : Int32)) else (if (57 : Int32) < c0 then (if c0 = (95 : Int32) then (1 : Int32) else (0 : Int32)) else (1 : Int32))) else (1 : Int32))) else (if (122 : Int32) < c0 then (if c0 < (65 : Int32) then (if c0 < (48 : Int32) then (if c0 = (95 : Int32) then (1 : Int32) else (0 : Int32)) else (if (57 : Int32) < c0 then (if c0 = (95 : Int32) then (1 : Int32) else (0 : Int32)) else (1 : Int32))) else (if (90 : Int32) < c0 then (if c0 < (48 : Int32) then (if c0 = (95 : Int32) then (1 : Int32) else (0 : Int32)) else (if (57 : Int32) < c0 then (if c0 = (95 : Int32) then (1 : Int32) else (0 : Int32)) else (1 : Int32))) else (1 : Int32))) else (1 : Int32))))) ∧ Fr n0 L ∧ h = h0) := by
  refine own_body (plainFor_of_name pn_1) ?_
  intro p e s m below meth c s₁ hx hby hml hown hnm hlk hret hZ hh X0 e0
  have N0 := Fr.nil n0
  refine own_cast (ef_1 m c0) ?_
  refine own_st (T' := s₁) (g' := (mkF m 1 #[.val (.int c0)] [(.int c0)])) (fun _ k => XS.iloadN X0.here hx rfl (hb hby d1_0) rfl k) ?_
  refine own_st (T' := s₁) (g' := (mkF m 3 #[.val (.int c0)] [(.int (97 : Int32)), (.int c0)])) (fun _ k => XS.bipush X0.here hx rfl (hb hby d1_1) k) ?_
  refine own_st (T' := s₁) (g' := (mkF m 47 #[.val (.int c0)] [(.int (if c0 < (97 : Int32) then (if c0 < (65 : Int32) then (if c0 < (48 : Int32) then (if c0 = (95 : Int32) then (1 : Int32) else (0 : Int32)) else (if (57 : Int32) < c0 then (if c0 = (95 : Int32) then (1 : Int32) else (0 : Int32)) else (1 : Int32))) else (if (90 : Int32) < c0 then (if c0 < (48 : Int32) then (if c0 = (95 : Int32) then (1 : Int32) else (0 : Int32)) else (if (57 : Int32) < c0 then (if c0 = (95 : Int32) then (1 : Int32) else (0 : Int32)) else (1 : Int32))) else (1 : Int32))) else (if (122 : Int32) < c0 then (if c0 < (65 : Int32) then (if c0 < (48 : Int32) then (if c0 = (95 : Int32) then (1 : Int32) else (0 : Int32)) else (if (57 : Int32) < c0 then (if c0 = (95 : Int32) then (1 : Int32) else (0 : Int32)) else (1 : Int32))) else (if (90 : Int32) < c0 then (if c0 < (48 : Int32) then (if c0 = (95 : Int32) then (1 : Int32) else (0 : Int32)) else (if (57 : Int32) < c0 then (if c0 = (95 : Int32) then (1 : Int32) else (0 : Int32)) else (1 : Int32))) else (1 : Int32))) else (1 : Int32))))])) (fun t k => ?_) ?_
  · by_cases hc3_1 : c0 < (97 : Int32)
    · refine own_sq (T' := s₁) (g' := (mkF m 12 #[.val (.int c0)] [])) (fun k => XS.icmpYes X0.here hx rfl (pc0 := 3) (pc' := 12) rfl (hb hby d1_3) rfl (tlt hc3_1).1 (by decide) (by decide) k) ?_
      refine own_sq (T' := s₁) (g' := (mkF m 13 #[.val (.int c0)] [(.int c0)])) (fun k => XS.iloadN X0.here hx rfl (hb hby d1_12) rfl k) ?_
      refine own_sq (T' := s₁) (g' := (mkF m 15 #[.val (.int c0)] [(.int (65 : Int32)), (.int c0)])) (fun k => XS.bipush X0.here hx rfl (hb hby d1_13) k) ?_
      by_cases hc15_2 : c0 < (65 : Int32)
      · refine own_sq (T' := s₁) (g' := (mkF m 24 #[.val (.int c0)] [])) (fun k => XS.icmpYes X0.here hx rfl (pc0 := 15) (pc' := 24) rfl (hb hby d1_15) rfl (tlt hc15_2).1 (by decide) (by decide) k) ?_
        refine own_sq (T' := s₁) (g' := (mkF m 25 #[.val (.int c0)] [(.int c0)])) (fun k => XS.iloadN X0.here hx rfl (hb hby d1_24) rfl k) ?_
        refine own_sq (T' := s₁) (g' := (mkF m 27 #[.val (.int c0)] [(.int (48 : Int32)), (.int c0)])) (fun k => XS.bipush X0.here hx rfl (hb hby d1_25) k) ?_
        by_cases hc27_3 : c0 < (48 : Int32)
        · refine own_sq (T' := s₁) (g' := (mkF m 36 #[.val (.int c0)] [])) (fun k => XS.icmpYes X0.here hx rfl (pc0 := 27) (pc' := 36) rfl (hb hby d1_27) rfl (tlt hc27_3).1 (by decide) (by decide) k) ?_
          refine own_sq (T' := s₁) (g' := (mkF m 37 #[.val (.int c0)] [(.int c0)])) (fun k => XS.iloadN X0.here hx rfl (hb hby d1_36) rfl k) ?_
          refine own_sq (T' := s₁) (g' := (mkF m 39 #[.val (.int c0)] [(.int (95 : Int32)), (.int c0)])) (fun k => XS.bipush X0.here hx rfl (hb hby d1_37) k) ?_
          by_cases hc39_4 : c0 = (95 : Int32)
          · refine own_sq (T' := s₁) (g' := (mkF m 42 #[.val (.int c0)] [])) (fun k => XS.icmpNo X0.here hx rfl (hb hby d1_39) rfl (teq hc39_4).2 k) ?_
            refine own_sq (T' := s₁) (g' := (mkF m 43 #[.val (.int c0)] [(.int (1 : Int32))])) (fun k => XS.iconst X0.here hx rfl (hb hby d1_42) k) ?_
            refine own_sq (T' := s₁) (g' := (mkF m 47 #[.val (.int c0)] [(.int (1 : Int32))])) (fun k => XS.goto X0.here hx rfl (pc0 := 43) (pc' := 47) rfl (hb hby d1_43) (by decide) (by decide) k) ?_
            simp only [if_pos hc3_1, if_pos hc15_2, if_pos hc27_3, if_pos hc39_4] at k; exact k
          · refine own_sq (T' := s₁) (g' := (mkF m 46 #[.val (.int c0)] [])) (fun k => XS.icmpYes X0.here hx rfl (pc0 := 39) (pc' := 46) rfl (hb hby d1_39) rfl (feq hc39_4).2 (by decide) (by decide) k) ?_
            refine own_sq (T' := s₁) (g' := (mkF m 47 #[.val (.int c0)] [(.int (0 : Int32))])) (fun k => XS.iconst X0.here hx rfl (hb hby d1_46) k) ?_
            simp only [if_pos hc3_1, if_pos hc15_2, if_pos hc27_3, if_neg hc39_4] at k; exact k
        · refine own_sq (T' := s₁) (g' := (mkF m 30 #[.val (.int c0)] [])) (fun k => XS.icmpNo X0.here hx rfl (hb hby d1_27) rfl (flt hc27_3).1 k) ?_
          refine own_sq (T' := s₁) (g' := (mkF m 31 #[.val (.int c0)] [(.int c0)])) (fun k => XS.iloadN X0.here hx rfl (hb hby d1_30) rfl k) ?_
          refine own_sq (T' := s₁) (g' := (mkF m 33 #[.val (.int c0)] [(.int (57 : Int32)), (.int c0)])) (fun k => XS.bipush X0.here hx rfl (hb hby d1_31) k) ?_
          by_cases hc33_5 : (57 : Int32) < c0
          · refine own_sq (T' := s₁) (g' := (mkF m 36 #[.val (.int c0)] [])) (fun k => XS.icmpNo X0.here hx rfl (hb hby d1_33) rfl (tlt hc33_5).2.2.2 k) ?_
            refine own_sq (T' := s₁) (g' := (mkF m 37 #[.val (.int c0)] [(.int c0)])) (fun k => XS.iloadN X0.here hx rfl (hb hby d1_36) rfl k) ?_
            refine own_sq (T' := s₁) (g' := (mkF m 39 #[.val (.int c0)] [(.int (95 : Int32)), (.int c0)])) (fun k => XS.bipush X0.here hx rfl (hb hby d1_37) k) ?_
            by_cases hc39_6 : c0 = (95 : Int32)
            · refine own_sq (T' := s₁) (g' := (mkF m 42 #[.val (.int c0)] [])) (fun k => XS.icmpNo X0.here hx rfl (hb hby d1_39) rfl (teq hc39_6).2 k) ?_
              refine own_sq (T' := s₁) (g' := (mkF m 43 #[.val (.int c0)] [(.int (1 : Int32))])) (fun k => XS.iconst X0.here hx rfl (hb hby d1_42) k) ?_
              refine own_sq (T' := s₁) (g' := (mkF m 47 #[.val (.int c0)] [(.int (1 : Int32))])) (fun k => XS.goto X0.here hx rfl (pc0 := 43) (pc' := 47) rfl (hb hby d1_43) (by decide) (by decide) k) ?_
              simp only [if_pos hc3_1, if_pos hc15_2, if_neg hc27_3, if_pos hc33_5, if_pos hc39_6] at k; exact k
            · refine own_sq (T' := s₁) (g' := (mkF m 46 #[.val (.int c0)] [])) (fun k => XS.icmpYes X0.here hx rfl (pc0 := 39) (pc' := 46) rfl (hb hby d1_39) rfl (feq hc39_6).2 (by decide) (by decide) k) ?_
              refine own_sq (T' := s₁) (g' := (mkF m 47 #[.val (.int c0)] [(.int (0 : Int32))])) (fun k => XS.iconst X0.here hx rfl (hb hby d1_46) k) ?_
              simp only [if_pos hc3_1, if_pos hc15_2, if_neg hc27_3, if_pos hc33_5, if_neg hc39_6] at k; exact k
          · refine own_sq (T' := s₁) (g' := (mkF m 42 #[.val (.int c0)] [])) (fun k => XS.icmpYes X0.here hx rfl (pc0 := 33) (pc' := 42) rfl (hb hby d1_33) rfl (flt hc33_5).2.2.2 (by decide) (by decide) k) ?_
            refine own_sq (T' := s₁) (g' := (mkF m 43 #[.val (.int c0)] [(.int (1 : Int32))])) (fun k => XS.iconst X0.here hx rfl (hb hby d1_42) k) ?_
            refine own_sq (T' := s₁) (g' := (mkF m 47 #[.val (.int c0)] [(.int (1 : Int32))])) (fun k => XS.goto X0.here hx rfl (pc0 := 43) (pc' := 47) rfl (hb hby d1_43) (by decide) (by decide) k) ?_
            simp only [if_pos hc3_1, if_pos hc15_2, if_neg hc27_3, if_neg hc33_5] at k; exact k
      · refine own_sq (T' := s₁) (g' := (mkF m 18 #[.val (.int c0)] [])) (fun k => XS.icmpNo X0.here hx rfl (hb hby d1_15) rfl (flt hc15_2).1 k) ?_
        refine own_sq (T' := s₁) (g' := (mkF m 19 #[.val (.int c0)] [(.int c0)])) (fun k => XS.iloadN X0.here hx rfl (hb hby d1_18) rfl k) ?_
        refine own_sq (T' := s₁) (g' := (mkF m 21 #[.val (.int c0)] [(.int (90 : Int32)), (.int c0)])) (fun k => XS.bipush X0.here hx rfl (hb hby d1_19) k) ?_
        by_cases hc21_7 : (90 : Int32) < c0
        · refine own_sq (T' := s₁) (g' := (mkF m 24 #[.val (.int c0)] [])) (fun k => XS.icmpNo X0.here hx rfl (hb hby d1_21) rfl (tlt hc21_7).2.2.2 k) ?_
          refine own_sq (T' := s₁) (g' := (mkF m 25 #[.val (.int c0)] [(.int c0)])) (fun k => XS.iloadN X0.here hx rfl (hb hby d1_24) rfl k) ?_
          refine own_sq (T' := s₁) (g' := (mkF m 27 #[.val (.int c0)] [(.int (48 : Int32)), (.int c0)])) (fun k => XS.bipush X0.here hx rfl (hb hby d1_25) k) ?_
          by_cases hc27_8 : c0 < (48 : Int32)
          · refine own_sq (T' := s₁) (g' := (mkF m 36 #[.val (.int c0)] [])) (fun k => XS.icmpYes X0.here hx rfl (pc0 := 27) (pc' := 36) rfl (hb hby d1_27) rfl (tlt hc27_8).1 (by decide) (by decide) k) ?_
            refine own_sq (T' := s₁) (g' := (mkF m 37 #[.val (.int c0)] [(.int c0)])) (fun k => XS.iloadN X0.here hx rfl (hb hby d1_36) rfl k) ?_
            refine own_sq (T' := s₁) (g' := (mkF m 39 #[.val (.int c0)] [(.int (95 : Int32)), (.int c0)])) (fun k => XS.bipush X0.here hx rfl (hb hby d1_37) k) ?_
            by_cases hc39_9 : c0 = (95 : Int32)
            · refine own_sq (T' := s₁) (g' := (mkF m 42 #[.val (.int c0)] [])) (fun k => XS.icmpNo X0.here hx rfl (hb hby d1_39) rfl (teq hc39_9).2 k) ?_
              refine own_sq (T' := s₁) (g' := (mkF m 43 #[.val (.int c0)] [(.int (1 : Int32))])) (fun k => XS.iconst X0.here hx rfl (hb hby d1_42) k) ?_
              refine own_sq (T' := s₁) (g' := (mkF m 47 #[.val (.int c0)] [(.int (1 : Int32))])) (fun k => XS.goto X0.here hx rfl (pc0 := 43) (pc' := 47) rfl (hb hby d1_43) (by decide) (by decide) k) ?_
              simp only [if_pos hc3_1, if_neg hc15_2, if_pos hc21_7, if_pos hc27_8, if_pos hc39_9] at k; exact k
            · refine own_sq (T' := s₁) (g' := (mkF m 46 #[.val (.int c0)] [])) (fun k => XS.icmpYes X0.here hx rfl (pc0 := 39) (pc' := 46) rfl (hb hby d1_39) rfl (feq hc39_9).2 (by decide) (by decide) k) ?_
              refine own_sq (T' := s₁) (g' := (mkF m 47 #[.val (.int c0)] [(.int (0 : Int32))])) (fun k => XS.iconst X0.here hx rfl (hb hby d1_46) k) ?_
              simp only [if_pos hc3_1, if_neg hc15_2, if_pos hc21_7, if_pos hc27_8, if_neg hc39_9] at k; exact k
          · refine own_sq (T' := s₁) (g' := (mkF m 30 #[.val (.int c0)] [])) (fun k => XS.icmpNo X0.here hx rfl (hb hby d1_27) rfl (flt hc27_8).1 k) ?_
            refine own_sq (T' := s₁) (g' := (mkF m 31 #[.val (.int c0)] [(.int c0)])) (fun k => XS.iloadN X0.here hx rfl (hb hby d1_30) rfl k) ?_
            refine own_sq (T' := s₁) (g' := (mkF m 33 #[.val (.int c0)] [(.int (57 : Int32)), (.int c0)])) (fun k => XS.bipush X0.here hx rfl (hb hby d1_31) k) ?_
            by_cases hc33_10 : (57 : Int32) < c0
            · refine own_sq (T' := s₁) (g' := (mkF m 36 #[.val (.int c0)] [])) (fun k => XS.icmpNo X0.here hx rfl (hb hby d1_33) rfl (tlt hc33_10).2.2.2 k) ?_
              refine own_sq (T' := s₁) (g' := (mkF m 37 #[.val (.int c0)] [(.int c0)])) (fun k => XS.iloadN X0.here hx rfl (hb hby d1_36) rfl k) ?_
              refine own_sq (T' := s₁) (g' := (mkF m 39 #[.val (.int c0)] [(.int (95 : Int32)), (.int c0)])) (fun k => XS.bipush X0.here hx rfl (hb hby d1_37) k) ?_
              by_cases hc39_11 : c0 = (95 : Int32)
              · refine own_sq (T' := s₁) (g' := (mkF m 42 #[.val (.int c0)] [])) (fun k => XS.icmpNo X0.here hx rfl (hb hby d1_39) rfl (teq hc39_11).2 k) ?_
                refine own_sq (T' := s₁) (g' := (mkF m 43 #[.val (.int c0)] [(.int (1 : Int32))])) (fun k => XS.iconst X0.here hx rfl (hb hby d1_42) k) ?_
                refine own_sq (T' := s₁) (g' := (mkF m 47 #[.val (.int c0)] [(.int (1 : Int32))])) (fun k => XS.goto X0.here hx rfl (pc0 := 43) (pc' := 47) rfl (hb hby d1_43) (by decide) (by decide) k) ?_
                simp only [if_pos hc3_1, if_neg hc15_2, if_pos hc21_7, if_neg hc27_8, if_pos hc33_10, if_pos hc39_11] at k; exact k
              · refine own_sq (T' := s₁) (g' := (mkF m 46 #[.val (.int c0)] [])) (fun k => XS.icmpYes X0.here hx rfl (pc0 := 39) (pc' := 46) rfl (hb hby d1_39) rfl (feq hc39_11).2 (by decide) (by decide) k) ?_
                refine own_sq (T' := s₁) (g' := (mkF m 47 #[.val (.int c0)] [(.int (0 : Int32))])) (fun k => XS.iconst X0.here hx rfl (hb hby d1_46) k) ?_
                simp only [if_pos hc3_1, if_neg hc15_2, if_pos hc21_7, if_neg hc27_8, if_pos hc33_10, if_neg hc39_11] at k; exact k
            · refine own_sq (T' := s₁) (g' := (mkF m 42 #[.val (.int c0)] [])) (fun k => XS.icmpYes X0.here hx rfl (pc0 := 33) (pc' := 42) rfl (hb hby d1_33) rfl (flt hc33_10).2.2.2 (by decide) (by decide) k) ?_
              refine own_sq (T' := s₁) (g' := (mkF m 43 #[.val (.int c0)] [(.int (1 : Int32))])) (fun k => XS.iconst X0.here hx rfl (hb hby d1_42) k) ?_
              refine own_sq (T' := s₁) (g' := (mkF m 47 #[.val (.int c0)] [(.int (1 : Int32))])) (fun k => XS.goto X0.here hx rfl (pc0 := 43) (pc' := 47) rfl (hb hby d1_43) (by decide) (by decide) k) ?_
              simp only [if_pos hc3_1, if_neg hc15_2, if_pos hc21_7, if_neg hc27_8, if_neg hc33_10] at k; exact k
        · refine own_sq (T' := s₁) (g' := (mkF m 42 #[.val (.int c0)] [])) (fun k => XS.icmpYes X0.here hx rfl (pc0 := 21) (pc' := 42) rfl (hb hby d1_21) rfl (flt hc21_7).2.2.2 (by decide) (by decide) k) ?_
          refine own_sq (T' := s₁) (g' := (mkF m 43 #[.val (.int c0)] [(.int (1 : Int32))])) (fun k => XS.iconst X0.here hx rfl (hb hby d1_42) k) ?_
          refine own_sq (T' := s₁) (g' := (mkF m 47 #[.val (.int c0)] [(.int (1 : Int32))])) (fun k => XS.goto X0.here hx rfl (pc0 := 43) (pc' := 47) rfl (hb hby d1_43) (by decide) (by decide) k) ?_
          simp only [if_pos hc3_1, if_neg hc15_2, if_neg hc21_7] at k; exact k
    · refine own_sq (T' := s₁) (g' := (mkF m 6 #[.val (.int c0)] [])) (fun k => XS.icmpNo X0.here hx rfl (hb hby d1_3) rfl (flt hc3_1).1 k) ?_
      refine own_sq (T' := s₁) (g' := (mkF m 7 #[.val (.int c0)] [(.int c0)])) (fun k => XS.iloadN X0.here hx rfl (hb hby d1_6) rfl k) ?_
      refine own_sq (T' := s₁) (g' := (mkF m 9 #[.val (.int c0)] [(.int (122 : Int32)), (.int c0)])) (fun k => XS.bipush X0.here hx rfl (hb hby d1_7) k) ?_
      by_cases hc9_12 : (122 : Int32) < c0
      · refine own_sq (T' := s₁) (g' := (mkF m 12 #[.val (.int c0)] [])) (fun k => XS.icmpNo X0.here hx rfl (hb hby d1_9) rfl (tlt hc9_12).2.2.2 k) ?_
        refine own_sq (T' := s₁) (g' := (mkF m 13 #[.val (.int c0)] [(.int c0)])) (fun k => XS.iloadN X0.here hx rfl (hb hby d1_12) rfl k) ?_
        refine own_sq (T' := s₁) (g' := (mkF m 15 #[.val (.int c0)] [(.int (65 : Int32)), (.int c0)])) (fun k => XS.bipush X0.here hx rfl (hb hby d1_13) k) ?_
        by_cases hc15_13 : c0 < (65 : Int32)
        · refine own_sq (T' := s₁) (g' := (mkF m 24 #[.val (.int c0)] [])) (fun k => XS.icmpYes X0.here hx rfl (pc0 := 15) (pc' := 24) rfl (hb hby d1_15) rfl (tlt hc15_13).1 (by decide) (by decide) k) ?_
          refine own_sq (T' := s₁) (g' := (mkF m 25 #[.val (.int c0)] [(.int c0)])) (fun k => XS.iloadN X0.here hx rfl (hb hby d1_24) rfl k) ?_
          refine own_sq (T' := s₁) (g' := (mkF m 27 #[.val (.int c0)] [(.int (48 : Int32)), (.int c0)])) (fun k => XS.bipush X0.here hx rfl (hb hby d1_25) k) ?_
          by_cases hc27_14 : c0 < (48 : Int32)
          · refine own_sq (T' := s₁) (g' := (mkF m 36 #[.val (.int c0)] [])) (fun k => XS.icmpYes X0.here hx rfl (pc0 := 27) (pc' := 36) rfl (hb hby d1_27) rfl (tlt hc27_14).1 (by decide) (by decide) k) ?_
            refine own_sq (T' := s₁) (g' := (mkF m 37 #[.val (.int c0)] [(.int c0)])) (fun k => XS.iloadN X0.here hx rfl (hb hby d1_36) rfl k) ?_
            refine own_sq (T' := s₁) (g' := (mkF m 39 #[.val (.int c0)] [(.int (95 : Int32)), (.int c0)])) (fun k => XS.bipush X0.here hx rfl (hb hby d1_37) k) ?_
            by_cases hc39_15 : c0 = (95 : Int32)
            · refine own_sq (T' := s₁) (g' := (mkF m 42 #[.val (.int c0)] [])) (fun k => XS.icmpNo X0.here hx rfl (hb hby d1_39) rfl (teq hc39_15).2 k) ?_
              refine own_sq (T' := s₁) (g' := (mkF m 43 #[.val (.int c0)] [(.int (1 : Int32))])) (fun k => XS.iconst X0.here hx rfl (hb hby d1_42) k) ?_
              refine own_sq (T' := s₁) (g' := (mkF m 47 #[.val (.int c0)] [(.int (1 : Int32))])) (fun k => XS.goto X0.here hx rfl (pc0 := 43) (pc' := 47) rfl (hb hby d1_43) (by decide) (by decide) k) ?_
              simp only [if_neg hc3_1, if_pos hc9_12, if_pos hc15_13, if_pos hc27_14, if_pos hc39_15] at k; exact k
            · refine own_sq (T' := s₁) (g' := (mkF m 46 #[.val (.int c0)] [])) (fun k => XS.icmpYes X0.here hx rfl (pc0 := 39) (pc' := 46) rfl (hb hby d1_39) rfl (feq hc39_15).2 (by decide) (by decide) k) ?_
              refine own_sq (T' := s₁) (g' := (mkF m 47 #[.val (.int c0)] [(.int (0 : Int32))])) (fun k => XS.iconst X0.here hx rfl (hb hby d1_46) k) ?_
              simp only [if_neg hc3_1, if_pos hc9_12, if_pos hc15_13, if_pos hc27_14, if_neg hc39_15] at k; exact k
          · refine own_sq (T' := s₁) (g' := (mkF m 30 #[.val (.int c0)] [])) (fun k => XS.icmpNo X0.here hx rfl (hb hby d1_27) rfl (flt hc27_14).1 k) ?_
            refine own_sq (T' := s₁) (g' := (mkF m 31 #[.val (.int c0)] [(.int c0)])) (fun k => XS.iloadN X0.here hx rfl (hb hby d1_30) rfl k) ?_
            refine own_sq (T' := s₁) (g' := (mkF m 33 #[.val (.int c0)] [(.int (57 : Int32)), (.int c0)])) (fun k => XS.bipush X0.here hx rfl (hb hby d1_31) k) ?_
            by_cases hc33_16 : (57 : Int32) < c0
            · refine own_sq (T' := s₁) (g' := (mkF m 36 #[.val (.int c0)] [])) (fun k => XS.icmpNo X0.here hx rfl (hb hby d1_33) rfl (tlt hc33_16).2.2.2 k) ?_
              refine own_sq (T' := s₁) (g' := (mkF m 37 #[.val (.int c0)] [(.int c0)])) (fun k => XS.iloadN X0.here hx rfl (hb hby d1_36) rfl k) ?_
              refine own_sq (T' := s₁) (g' := (mkF m 39 #[.val (.int c0)] [(.int (95 : Int32)), (.int c0)])) (fun k => XS.bipush X0.here hx rfl (hb hby d1_37) k) ?_
              by_cases hc39_17 : c0 = (95 : Int32)
              · refine own_sq (T' := s₁) (g' := (mkF m 42 #[.val (.int c0)] [])) (fun k => XS.icmpNo X0.here hx rfl (hb hby d1_39) rfl (teq hc39_17).2 k) ?_
                refine own_sq (T' := s₁) (g' := (mkF m 43 #[.val (.int c0)] [(.int (1 : Int32))])) (fun k => XS.iconst X0.here hx rfl (hb hby d1_42) k) ?_
                refine own_sq (T' := s₁) (g' := (mkF m 47 #[.val (.int c0)] [(.int (1 : Int32))])) (fun k => XS.goto X0.here hx rfl (pc0 := 43) (pc' := 47) rfl (hb hby d1_43) (by decide) (by decide) k) ?_
                simp only [if_neg hc3_1, if_pos hc9_12, if_pos hc15_13, if_neg hc27_14, if_pos hc33_16, if_pos hc39_17] at k; exact k
              · refine own_sq (T' := s₁) (g' := (mkF m 46 #[.val (.int c0)] [])) (fun k => XS.icmpYes X0.here hx rfl (pc0 := 39) (pc' := 46) rfl (hb hby d1_39) rfl (feq hc39_17).2 (by decide) (by decide) k) ?_
                refine own_sq (T' := s₁) (g' := (mkF m 47 #[.val (.int c0)] [(.int (0 : Int32))])) (fun k => XS.iconst X0.here hx rfl (hb hby d1_46) k) ?_
                simp only [if_neg hc3_1, if_pos hc9_12, if_pos hc15_13, if_neg hc27_14, if_pos hc33_16, if_neg hc39_17] at k; exact k
            · refine own_sq (T' := s₁) (g' := (mkF m 42 #[.val (.int c0)] [])) (fun k => XS.icmpYes X0.here hx rfl (pc0 := 33) (pc' := 42) rfl (hb hby d1_33) rfl (flt hc33_16).2.2.2 (by decide) (by decide) k) ?_
              refine own_sq (T' := s₁) (g' := (mkF m 43 #[.val (.int c0)] [(.int (1 : Int32))])) (fun k => XS.iconst X0.here hx rfl (hb hby d1_42) k) ?_
              refine own_sq (T' := s₁) (g' := (mkF m 47 #[.val (.int c0)] [(.int (1 : Int32))])) (fun k => XS.goto X0.here hx rfl (pc0 := 43) (pc' := 47) rfl (hb hby d1_43) (by decide) (by decide) k) ?_
              simp only [if_neg hc3_1, if_pos hc9_12, if_pos hc15_13, if_neg hc27_14, if_neg hc33_16] at k; exact k
        · refine own_sq (T' := s₁) (g' := (mkF m 18 #[.val (.int c0)] [])) (fun k => XS.icmpNo X0.here hx rfl (hb hby d1_15) rfl (flt hc15_13).1 k) ?_
          refine own_sq (T' := s₁) (g' := (mkF m 19 #[.val (.int c0)] [(.int c0)])) (fun k => XS.iloadN X0.here hx rfl (hb hby d1_18) rfl k) ?_
          refine own_sq (T' := s₁) (g' := (mkF m 21 #[.val (.int c0)] [(.int (90 : Int32)), (.int c0)])) (fun k => XS.bipush X0.here hx rfl (hb hby d1_19) k) ?_
          by_cases hc21_18 : (90 : Int32) < c0
          · refine own_sq (T' := s₁) (g' := (mkF m 24 #[.val (.int c0)] [])) (fun k => XS.icmpNo X0.here hx rfl (hb hby d1_21) rfl (tlt hc21_18).2.2.2 k) ?_
            refine own_sq (T' := s₁) (g' := (mkF m 25 #[.val (.int c0)] [(.int c0)])) (fun k => XS.iloadN X0.here hx rfl (hb hby d1_24) rfl k) ?_
            refine own_sq (T' := s₁) (g' := (mkF m 27 #[.val (.int c0)] [(.int (48 : Int32)), (.int c0)])) (fun k => XS.bipush X0.here hx rfl (hb hby d1_25) k) ?_
            by_cases hc27_19 : c0 < (48 : Int32)
            · refine own_sq (T' := s₁) (g' := (mkF m 36 #[.val (.int c0)] [])) (fun k => XS.icmpYes X0.here hx rfl (pc0 := 27) (pc' := 36) rfl (hb hby d1_27) rfl (tlt hc27_19).1 (by decide) (by decide) k) ?_
              refine own_sq (T' := s₁) (g' := (mkF m 37 #[.val (.int c0)] [(.int c0)])) (fun k => XS.iloadN X0.here hx rfl (hb hby d1_36) rfl k) ?_
              refine own_sq (T' := s₁) (g' := (mkF m 39 #[.val (.int c0)] [(.int (95 : Int32)), (.int c0)])) (fun k => XS.bipush X0.here hx rfl (hb hby d1_37) k) ?_
              by_cases hc39_20 : c0 = (95 : Int32)
              · refine own_sq (T' := s₁) (g' := (mkF m 42 #[.val (.int c0)] [])) (fun k => XS.icmpNo X0.here hx rfl (hb hby d1_39) rfl (teq hc39_20).2 k) ?_
                refine own_sq (T' := s₁) (g' := (mkF m 43 #[.val (.int c0)] [(.int (1 : Int32))])) (fun k => XS.iconst X0.here hx rfl (hb hby d1_42) k) ?_
                refine own_sq (T' := s₁) (g' := (mkF m 47 #[.val (.int c0)] [(.int (1 : Int32))])) (fun k => XS.goto X0.here hx rfl (pc0 := 43) (pc' := 47) rfl (hb hby d1_43) (by decide) (by decide) k) ?_
                simp only [if_neg hc3_1, if_pos hc9_12, if_neg hc15_13, if_pos hc21_18, if_pos hc27_19, if_pos hc39_20] at k; exact k
              · refine own_sq (T' := s₁) (g' := (mkF m 46 #[.val (.int c0)] [])) (fun k => XS.icmpYes X0.here hx rfl (pc0 := 39) (pc' := 46) rfl (hb hby d1_39) rfl (feq hc39_20).2 (by decide) (by decide) k) ?_
                refine own_sq (T' := s₁) (g' := (mkF m 47 #[.val (.int c0)] [(.int (0 : Int32))])) (fun k => XS.iconst X0.here hx rfl (hb hby d1_46) k) ?_
                simp only [if_neg hc3_1, if_pos hc9_12, if_neg hc15_13, if_pos hc21_18, if_pos hc27_19, if_neg hc39_20] at k; exact k
            · refine own_sq (T' := s₁) (g' := (mkF m 30 #[.val (.int c0)] [])) (fun k => XS.icmpNo X0.here hx rfl (hb hby d1_27) rfl (flt hc27_19).1 k) ?_
              refine own_sq (T' := s₁) (g' := (mkF m 31 #[.val (.int c0)] [(.int c0)])) (fun k => XS.iloadN X0.here hx rfl (hb hby d1_30) rfl k) ?_
              refine own_sq (T' := s₁) (g' := (mkF m 33 #[.val (.int c0)] [(.int (57 : Int32)), (.int c0)])) (fun k => XS.bipush X0.here hx rfl (hb hby d1_31) k) ?_
              by_cases hc33_21 : (57 : Int32) < c0
              · refine own_sq (T' := s₁) (g' := (mkF m 36 #[.val (.int c0)] [])) (fun k => XS.icmpNo X0.here hx rfl (hb hby d1_33) rfl (tlt hc33_21).2.2.2 k) ?_
                refine own_sq (T' := s₁) (g' := (mkF m 37 #[.val (.int c0)] [(.int c0)])) (fun k => XS.iloadN X0.here hx rfl (hb hby d1_36) rfl k) ?_
                refine own_sq (T' := s₁) (g' := (mkF m 39 #[.val (.int c0)] [(.int (95 : Int32)), (.int c0)])) (fun k => XS.bipush X0.here hx rfl (hb hby d1_37) k) ?_
                by_cases hc39_22 : c0 = (95 : Int32)
                · refine own_sq (T' := s₁) (g' := (mkF m 42 #[.val (.int c0)] [])) (fun k => XS.icmpNo X0.here hx rfl (hb hby d1_39) rfl (teq hc39_22).2 k) ?_
                  refine own_sq (T' := s₁) (g' := (mkF m 43 #[.val (.int c0)] [(.int (1 : Int32))])) (fun k => XS.iconst X0.here hx rfl (hb hby d1_42) k) ?_
                  refine own_sq (T' := s₁) (g' := (mkF m 47 #[.val (.int c0)] [(.int (1 : Int32))])) (fun k => XS.goto X0.here hx rfl (pc0 := 43) (pc' := 47) rfl (hb hby d1_43) (by decide) (by decide) k) ?_
                  simp only [if_neg hc3_1, if_pos hc9_12, if_neg hc15_13, if_pos hc21_18, if_neg hc27_19, if_pos hc33_21, if_pos hc39_22] at k; exact k
                · refine own_sq (T' := s₁) (g' := (mkF m 46 #[.val (.int c0)] [])) (fun k => XS.icmpYes X0.here hx rfl (pc0 := 39) (pc' := 46) rfl (hb hby d1_39) rfl (feq hc39_22).2 (by decide) (by decide) k) ?_
                  refine own_sq (T' := s₁) (g' := (mkF m 47 #[.val (.int c0)] [(.int (0 : Int32))])) (fun k => XS.iconst X0.here hx rfl (hb hby d1_46) k) ?_
                  simp only [if_neg hc3_1, if_pos hc9_12, if_neg hc15_13, if_pos hc21_18, if_neg hc27_19, if_pos hc33_21, if_neg hc39_22] at k; exact k
              · refine own_sq (T' := s₁) (g' := (mkF m 42 #[.val (.int c0)] [])) (fun k => XS.icmpYes X0.here hx rfl (pc0 := 33) (pc' := 42) rfl (hb hby d1_33) rfl (flt hc33_21).2.2.2 (by decide) (by decide) k) ?_
                refine own_sq (T' := s₁) (g' := (mkF m 43 #[.val (.int c0)] [(.int (1 : Int32))])) (fun k => XS.iconst X0.here hx rfl (hb hby d1_42) k) ?_
                refine own_sq (T' := s₁) (g' := (mkF m 47 #[.val (.int c0)] [(.int (1 : Int32))])) (fun k => XS.goto X0.here hx rfl (pc0 := 43) (pc' := 47) rfl (hb hby d1_43) (by decide) (by decide) k) ?_
                simp only [if_neg hc3_1, if_pos hc9_12, if_neg hc15_13, if_pos hc21_18, if_neg hc27_19, if_neg hc33_21] at k; exact k
          · refine own_sq (T' := s₁) (g' := (mkF m 42 #[.val (.int c0)] [])) (fun k => XS.icmpYes X0.here hx rfl (pc0 := 21) (pc' := 42) rfl (hb hby d1_21) rfl (flt hc21_18).2.2.2 (by decide) (by decide) k) ?_
            refine own_sq (T' := s₁) (g' := (mkF m 43 #[.val (.int c0)] [(.int (1 : Int32))])) (fun k => XS.iconst X0.here hx rfl (hb hby d1_42) k) ?_
            refine own_sq (T' := s₁) (g' := (mkF m 47 #[.val (.int c0)] [(.int (1 : Int32))])) (fun k => XS.goto X0.here hx rfl (pc0 := 43) (pc' := 47) rfl (hb hby d1_43) (by decide) (by decide) k) ?_
            simp only [if_neg hc3_1, if_pos hc9_12, if_neg hc15_13, if_neg hc21_18] at k; exact k
      · refine own_sq (T' := s₁) (g' := (mkF m 42 #[.val (.int c0)] [])) (fun k => XS.icmpYes X0.here hx rfl (pc0 := 9) (pc' := 42) rfl (hb hby d1_9) rfl (flt hc9_12).2.2.2 (by decide) (by decide) k) ?_
        refine own_sq (T' := s₁) (g' := (mkF m 43 #[.val (.int c0)] [(.int (1 : Int32))])) (fun k => XS.iconst X0.here hx rfl (hb hby d1_42) k) ?_
        refine own_sq (T' := s₁) (g' := (mkF m 47 #[.val (.int c0)] [(.int (1 : Int32))])) (fun k => XS.goto X0.here hx rfl (pc0 := 43) (pc' := 47) rfl (hb hby d1_43) (by decide) (by decide) k) ?_
        simp only [if_neg hc3_1, if_neg hc9_12] at k; exact k
  exact own_retN X0 hx hlk hret (by simp) (hb hby d1_47) ⟨rfl, N0, e0⟩ (by decide) (by decide)
theorem d2_0 : decode method_3_code 0 = .ok (.iload_n 0, 1) := by decide +kernel
theorem d2_1 : decode method_3_code 1 = .ok (.bipush 32, 2) := by decide +kernel
theorem d2_3 : decode method_3_code 3 = .ok (.ior, 1) := by decide +kernel
theorem d2_4 : decode method_3_code 4 = .ok (.istore_n 1, 1) := by decide +kernel
theorem d2_5 : decode method_3_code 5 = .ok (.iload_n 1, 1) := by decide +kernel
theorem d2_6 : decode method_3_code 6 = .ok (.bipush 97, 2) := by decide +kernel
theorem d2_8 : decode method_3_code 8 = .ok (.if_icmp .lt 13, 3) := by decide +kernel
theorem d2_11 : decode method_3_code 11 = .ok (.iload_n 1, 1) := by decide +kernel
theorem d2_12 : decode method_3_code 12 = .ok (.bipush 122, 2) := by decide +kernel
theorem d2_14 : decode method_3_code 14 = .ok (.if_icmp .gt 7, 3) := by decide +kernel
theorem d2_17 : decode method_3_code 17 = .ok (.iconst 1, 1) := by decide +kernel
theorem d2_18 : decode method_3_code 18 = .ok (.goto 4, 3) := by decide +kernel
theorem d2_21 : decode method_3_code 21 = .ok (.iconst 0, 1) := by decide +kernel
theorem d2_22 : decode method_3_code 22 = .ok (.istore_n 2, 1) := by decide +kernel
theorem d2_23 : decode method_3_code 23 = .ok (.iload_n 0, 1) := by decide +kernel
theorem d2_24 : decode method_3_code 24 = .ok (.bipush 48, 2) := by decide +kernel
theorem d2_26 : decode method_3_code 26 = .ok (.isub, 1) := by decide +kernel
theorem d2_27 : decode method_3_code 27 = .ok (.istore_n 3, 1) := by decide +kernel
theorem d2_28 : decode method_3_code 28 = .ok (.iload_n 3, 1) := by decide +kernel
theorem d2_29 : decode method_3_code 29 = .ok (.ifCond .lt 13, 3) := by decide +kernel
theorem d2_32 : decode method_3_code 32 = .ok (.iload_n 3, 1) := by decide +kernel
theorem d2_33 : decode method_3_code 33 = .ok (.bipush 10, 2) := by decide +kernel
theorem d2_35 : decode method_3_code 35 = .ok (.if_icmp .ge 7, 3) := by decide +kernel
theorem d2_38 : decode method_3_code 38 = .ok (.iconst 1, 1) := by decide +kernel
theorem d2_39 : decode method_3_code 39 = .ok (.goto 4, 3) := by decide +kernel
theorem d2_42 : decode method_3_code 42 = .ok (.iconst 0, 1) := by decide +kernel
theorem d2_43 : decode method_3_code 43 = .ok (.istore 4, 2) := by decide +kernel
theorem d2_45 : decode method_3_code 45 = .ok (.iload_n 2, 1) := by decide +kernel
theorem d2_46 : decode method_3_code 46 = .ok (.ifCond .ne 14, 3) := by decide +kernel
theorem d2_49 : decode method_3_code 49 = .ok (.iload 4, 2) := by decide +kernel
theorem d2_51 : decode method_3_code 51 = .ok (.ifCond .ne 9, 3) := by decide +kernel
theorem d2_54 : decode method_3_code 54 = .ok (.iload_n 0, 1) := by decide +kernel
theorem d2_55 : decode method_3_code 55 = .ok (.bipush 95, 2) := by decide +kernel
theorem d2_57 : decode method_3_code 57 = .ok (.if_icmp .ne 7, 3) := by decide +kernel
theorem d2_60 : decode method_3_code 60 = .ok (.iconst 1, 1) := by decide +kernel
theorem d2_61 : decode method_3_code 61 = .ok (.goto 4, 3) := by decide +kernel
theorem d2_64 : decode method_3_code 64 = .ok (.iconst 0, 1) := by decide +kernel
theorem d2_65 : decode method_3_code 65 = .ok (.ireturn, 1) := by decide +kernel
theorem pn_2 : plainName x.cls = true := by first | (simp [plainName, overriddenIn]; done) | decide +kernel
theorem ef_2 (m : MethodId) (x0 : Int32) : entryFrame m #[(.int x0)] 5 = mkF m 0 #[.val (.int x0), .unset, .unset, .unset, .unset] [] := by first | (simp [entryFrame, mkF, argsToLocals, Value.category]; done) | rfl
set_option maxRecDepth 65536 in
set_option maxHeartbeats 40000000 in
theorem rm2 (l : Launch) (Z : State) (a0 : Array Value) (hw : ∀ d ∈ tables_1, d.before a0 Z = true) (ws : List Jvm.Cond) (c0 : Int32) (h0 : Heap) (n0 : Nat) (Z0 : n0 ≤ h0.size)  :
    own_Met l Z ws (⟨x.cls, "expected", "(C)Z"⟩ : MethodName) method_3_code 5 (some .boolean) ({ frames := 0, cells := 0, slots := 0, locals := 0 } : Room) ({ frames := 0, cells := 0, slots := 0, locals := 0 } : Room).cells ({ frames := 0, cells := 0, slots := 0, locals := 0 } : Room).slots #[(.int c0)] h0 (fun v h L => v = some (.int (nar .boolean (if (if (c0 ||| (32 : Int32)) < (97 : Int32) then (0 : Int32) else (if (122 : Int32) < (c0 ||| (32 : Int32)) then (0 : Int32) else (1 : Int32))) = (0 : Int32) then (if (if (c0 - (48 : Int32)) < (0 : Int32) then (0 : Int32) else (if (c0 - (48 : Int32)) < (10 : Int32) then (1 : Int32) else (0 : Int32))) = (0 : Int32) then (if c0 = (95 : Int32) then (1 : Int32) else (0 : Int32)) else (1 : Int32)) else (1 : Int32)))) ∧ Fr n0 L ∧ h = h0) := by
  refine own_body (plainFor_of_name pn_2) ?_
  intro p e s m below meth c s₁ hx hby hml hown hnm hlk hret hZ hh X0 e0
  have N0 := Fr.nil n0
  refine own_cast (ef_2 m c0) ?_
  refine own_st (T' := s₁) (g' := (mkF m 1 #[.val (.int c0), .unset, .unset, .unset, .unset] [(.int c0)])) (fun _ k => XS.iloadN X0.here hx rfl (hb hby d2_0) rfl k) ?_
  refine own_st (T' := s₁) (g' := (mkF m 3 #[.val (.int c0), .unset, .unset, .unset, .unset] [(.int (32 : Int32)), (.int c0)])) (fun _ k => XS.bipush X0.here hx rfl (hb hby d2_1) k) ?_
  refine own_st (T' := s₁) (g' := (mkF m 4 #[.val (.int c0), .unset, .unset, .unset, .unset] [(.int (c0 ||| (32 : Int32)))])) (fun _ k => XS.ior X0.here hx rfl (hb hby d2_3) rfl k) ?_
  refine own_st (T' := s₁) (g' := (mkF m 5 #[.val (.int c0), .val (.int (c0 ||| (32 : Int32))), .unset, .unset, .unset] [])) (fun _ k => XS.istoreN X0.here hx rfl (hb hby d2_4) rfl (l' := #[.val (.int c0), .val (.int (c0 ||| (32 : Int32))), .unset, .unset, .unset]) rfl k) ?_
  refine own_st (T' := s₁) (g' := (mkF m 6 #[.val (.int c0), .val (.int (c0 ||| (32 : Int32))), .unset, .unset, .unset] [(.int (c0 ||| (32 : Int32)))])) (fun _ k => XS.iloadN X0.here hx rfl (hb hby d2_5) rfl k) ?_
  refine own_st (T' := s₁) (g' := (mkF m 8 #[.val (.int c0), .val (.int (c0 ||| (32 : Int32))), .unset, .unset, .unset] [(.int (97 : Int32)), (.int (c0 ||| (32 : Int32)))])) (fun _ k => XS.bipush X0.here hx rfl (hb hby d2_6) k) ?_
  refine own_st (T' := s₁) (g' := (mkF m 22 #[.val (.int c0), .val (.int (c0 ||| (32 : Int32))), .unset, .unset, .unset] [(.int (if (c0 ||| (32 : Int32)) < (97 : Int32) then (0 : Int32) else (if (122 : Int32) < (c0 ||| (32 : Int32)) then (0 : Int32) else (1 : Int32))))])) (fun t k => ?_) ?_
  · by_cases hc8_1 : (c0 ||| (32 : Int32)) < (97 : Int32)
    · refine own_sq (T' := s₁) (g' := (mkF m 21 #[.val (.int c0), .val (.int (c0 ||| (32 : Int32))), .unset, .unset, .unset] [])) (fun k => XS.icmpYes X0.here hx rfl (pc0 := 8) (pc' := 21) rfl (hb hby d2_8) rfl (tlt hc8_1).1 (by decide) (by decide) k) ?_
      refine own_sq (T' := s₁) (g' := (mkF m 22 #[.val (.int c0), .val (.int (c0 ||| (32 : Int32))), .unset, .unset, .unset] [(.int (0 : Int32))])) (fun k => XS.iconst X0.here hx rfl (hb hby d2_21) k) ?_
      simp only [if_pos hc8_1] at k; exact k
    · refine own_sq (T' := s₁) (g' := (mkF m 11 #[.val (.int c0), .val (.int (c0 ||| (32 : Int32))), .unset, .unset, .unset] [])) (fun k => XS.icmpNo X0.here hx rfl (hb hby d2_8) rfl (flt hc8_1).1 k) ?_
      refine own_sq (T' := s₁) (g' := (mkF m 12 #[.val (.int c0), .val (.int (c0 ||| (32 : Int32))), .unset, .unset, .unset] [(.int (c0 ||| (32 : Int32)))])) (fun k => XS.iloadN X0.here hx rfl (hb hby d2_11) rfl k) ?_
      refine own_sq (T' := s₁) (g' := (mkF m 14 #[.val (.int c0), .val (.int (c0 ||| (32 : Int32))), .unset, .unset, .unset] [(.int (122 : Int32)), (.int (c0 ||| (32 : Int32)))])) (fun k => XS.bipush X0.here hx rfl (hb hby d2_12) k) ?_
      by_cases hc14_2 : (122 : Int32) < (c0 ||| (32 : Int32))
      · refine own_sq (T' := s₁) (g' := (mkF m 21 #[.val (.int c0), .val (.int (c0 ||| (32 : Int32))), .unset, .unset, .unset] [])) (fun k => XS.icmpYes X0.here hx rfl (pc0 := 14) (pc' := 21) rfl (hb hby d2_14) rfl (tlt hc14_2).2.2.1 (by decide) (by decide) k) ?_
        refine own_sq (T' := s₁) (g' := (mkF m 22 #[.val (.int c0), .val (.int (c0 ||| (32 : Int32))), .unset, .unset, .unset] [(.int (0 : Int32))])) (fun k => XS.iconst X0.here hx rfl (hb hby d2_21) k) ?_
        simp only [if_neg hc8_1, if_pos hc14_2] at k; exact k
      · refine own_sq (T' := s₁) (g' := (mkF m 17 #[.val (.int c0), .val (.int (c0 ||| (32 : Int32))), .unset, .unset, .unset] [])) (fun k => XS.icmpNo X0.here hx rfl (hb hby d2_14) rfl (flt hc14_2).2.2.1 k) ?_
        refine own_sq (T' := s₁) (g' := (mkF m 18 #[.val (.int c0), .val (.int (c0 ||| (32 : Int32))), .unset, .unset, .unset] [(.int (1 : Int32))])) (fun k => XS.iconst X0.here hx rfl (hb hby d2_17) k) ?_
        refine own_sq (T' := s₁) (g' := (mkF m 22 #[.val (.int c0), .val (.int (c0 ||| (32 : Int32))), .unset, .unset, .unset] [(.int (1 : Int32))])) (fun k => XS.goto X0.here hx rfl (pc0 := 18) (pc' := 22) rfl (hb hby d2_18) (by decide) (by decide) k) ?_
        simp only [if_neg hc8_1, if_neg hc14_2] at k; exact k
  refine own_st (T' := s₁) (g' := (mkF m 23 #[.val (.int c0), .val (.int (c0 ||| (32 : Int32))), .val (.int (if (c0 ||| (32 : Int32)) < (97 : Int32) then (0 : Int32) else (if (122 : Int32) < (c0 ||| (32 : Int32)) then (0 : Int32) else (1 : Int32)))), .unset, .unset] [])) (fun _ k => XS.istoreN X0.here hx rfl (hb hby d2_22) rfl (l' := #[.val (.int c0), .val (.int (c0 ||| (32 : Int32))), .val (.int (if (c0 ||| (32 : Int32)) < (97 : Int32) then (0 : Int32) else (if (122 : Int32) < (c0 ||| (32 : Int32)) then (0 : Int32) else (1 : Int32)))), .unset, .unset]) rfl k) ?_
  refine own_st (T' := s₁) (g' := (mkF m 24 #[.val (.int c0), .val (.int (c0 ||| (32 : Int32))), .val (.int (if (c0 ||| (32 : Int32)) < (97 : Int32) then (0 : Int32) else (if (122 : Int32) < (c0 ||| (32 : Int32)) then (0 : Int32) else (1 : Int32)))), .unset, .unset] [(.int c0)])) (fun _ k => XS.iloadN X0.here hx rfl (hb hby d2_23) rfl k) ?_
  refine own_st (T' := s₁) (g' := (mkF m 26 #[.val (.int c0), .val (.int (c0 ||| (32 : Int32))), .val (.int (if (c0 ||| (32 : Int32)) < (97 : Int32) then (0 : Int32) else (if (122 : Int32) < (c0 ||| (32 : Int32)) then (0 : Int32) else (1 : Int32)))), .unset, .unset] [(.int (48 : Int32)), (.int c0)])) (fun _ k => XS.bipush X0.here hx rfl (hb hby d2_24) k) ?_
  refine own_st (T' := s₁) (g' := (mkF m 27 #[.val (.int c0), .val (.int (c0 ||| (32 : Int32))), .val (.int (if (c0 ||| (32 : Int32)) < (97 : Int32) then (0 : Int32) else (if (122 : Int32) < (c0 ||| (32 : Int32)) then (0 : Int32) else (1 : Int32)))), .unset, .unset] [(.int (c0 - (48 : Int32)))])) (fun _ k => XS.isub X0.here hx rfl (hb hby d2_26) rfl k) ?_
  refine own_st (T' := s₁) (g' := (mkF m 28 #[.val (.int c0), .val (.int (c0 ||| (32 : Int32))), .val (.int (if (c0 ||| (32 : Int32)) < (97 : Int32) then (0 : Int32) else (if (122 : Int32) < (c0 ||| (32 : Int32)) then (0 : Int32) else (1 : Int32)))), .val (.int (c0 - (48 : Int32))), .unset] [])) (fun _ k => XS.istoreN X0.here hx rfl (hb hby d2_27) rfl (l' := #[.val (.int c0), .val (.int (c0 ||| (32 : Int32))), .val (.int (if (c0 ||| (32 : Int32)) < (97 : Int32) then (0 : Int32) else (if (122 : Int32) < (c0 ||| (32 : Int32)) then (0 : Int32) else (1 : Int32)))), .val (.int (c0 - (48 : Int32))), .unset]) rfl k) ?_
  refine own_st (T' := s₁) (g' := (mkF m 29 #[.val (.int c0), .val (.int (c0 ||| (32 : Int32))), .val (.int (if (c0 ||| (32 : Int32)) < (97 : Int32) then (0 : Int32) else (if (122 : Int32) < (c0 ||| (32 : Int32)) then (0 : Int32) else (1 : Int32)))), .val (.int (c0 - (48 : Int32))), .unset] [(.int (c0 - (48 : Int32)))])) (fun _ k => XS.iloadN X0.here hx rfl (hb hby d2_28) rfl k) ?_
  refine own_st (T' := s₁) (g' := (mkF m 43 #[.val (.int c0), .val (.int (c0 ||| (32 : Int32))), .val (.int (if (c0 ||| (32 : Int32)) < (97 : Int32) then (0 : Int32) else (if (122 : Int32) < (c0 ||| (32 : Int32)) then (0 : Int32) else (1 : Int32)))), .val (.int (c0 - (48 : Int32))), .unset] [(.int (if (c0 - (48 : Int32)) < (0 : Int32) then (0 : Int32) else (if (c0 - (48 : Int32)) < (10 : Int32) then (1 : Int32) else (0 : Int32))))])) (fun t k => ?_) ?_
  · by_cases hc29_3 : (c0 - (48 : Int32)) < (0 : Int32)
    · refine own_sq (T' := s₁) (g' := (mkF m 42 #[.val (.int c0), .val (.int (c0 ||| (32 : Int32))), .val (.int (if (c0 ||| (32 : Int32)) < (97 : Int32) then (0 : Int32) else (if (122 : Int32) < (c0 ||| (32 : Int32)) then (0 : Int32) else (1 : Int32)))), .val (.int (c0 - (48 : Int32))), .unset] [])) (fun k => XS.ifYes X0.here hx rfl (pc0 := 29) (pc' := 42) rfl (hb hby d2_29) rfl ((if0 _ _).trans (tlt hc29_3).1) (by decide) (by decide) k) ?_
      refine own_sq (T' := s₁) (g' := (mkF m 43 #[.val (.int c0), .val (.int (c0 ||| (32 : Int32))), .val (.int (if (c0 ||| (32 : Int32)) < (97 : Int32) then (0 : Int32) else (if (122 : Int32) < (c0 ||| (32 : Int32)) then (0 : Int32) else (1 : Int32)))), .val (.int (c0 - (48 : Int32))), .unset] [(.int (0 : Int32))])) (fun k => XS.iconst X0.here hx rfl (hb hby d2_42) k) ?_
      simp only [if_pos hc29_3] at k; exact k
    · refine own_sq (T' := s₁) (g' := (mkF m 32 #[.val (.int c0), .val (.int (c0 ||| (32 : Int32))), .val (.int (if (c0 ||| (32 : Int32)) < (97 : Int32) then (0 : Int32) else (if (122 : Int32) < (c0 ||| (32 : Int32)) then (0 : Int32) else (1 : Int32)))), .val (.int (c0 - (48 : Int32))), .unset] [])) (fun k => XS.ifNo X0.here hx rfl (hb hby d2_29) rfl ((if0 _ _).trans (flt hc29_3).1) k) ?_
      refine own_sq (T' := s₁) (g' := (mkF m 33 #[.val (.int c0), .val (.int (c0 ||| (32 : Int32))), .val (.int (if (c0 ||| (32 : Int32)) < (97 : Int32) then (0 : Int32) else (if (122 : Int32) < (c0 ||| (32 : Int32)) then (0 : Int32) else (1 : Int32)))), .val (.int (c0 - (48 : Int32))), .unset] [(.int (c0 - (48 : Int32)))])) (fun k => XS.iloadN X0.here hx rfl (hb hby d2_32) rfl k) ?_
      refine own_sq (T' := s₁) (g' := (mkF m 35 #[.val (.int c0), .val (.int (c0 ||| (32 : Int32))), .val (.int (if (c0 ||| (32 : Int32)) < (97 : Int32) then (0 : Int32) else (if (122 : Int32) < (c0 ||| (32 : Int32)) then (0 : Int32) else (1 : Int32)))), .val (.int (c0 - (48 : Int32))), .unset] [(.int (10 : Int32)), (.int (c0 - (48 : Int32)))])) (fun k => XS.bipush X0.here hx rfl (hb hby d2_33) k) ?_
      by_cases hc35_4 : (c0 - (48 : Int32)) < (10 : Int32)
      · refine own_sq (T' := s₁) (g' := (mkF m 38 #[.val (.int c0), .val (.int (c0 ||| (32 : Int32))), .val (.int (if (c0 ||| (32 : Int32)) < (97 : Int32) then (0 : Int32) else (if (122 : Int32) < (c0 ||| (32 : Int32)) then (0 : Int32) else (1 : Int32)))), .val (.int (c0 - (48 : Int32))), .unset] [])) (fun k => XS.icmpNo X0.here hx rfl (hb hby d2_35) rfl (tlt hc35_4).2.1 k) ?_
        refine own_sq (T' := s₁) (g' := (mkF m 39 #[.val (.int c0), .val (.int (c0 ||| (32 : Int32))), .val (.int (if (c0 ||| (32 : Int32)) < (97 : Int32) then (0 : Int32) else (if (122 : Int32) < (c0 ||| (32 : Int32)) then (0 : Int32) else (1 : Int32)))), .val (.int (c0 - (48 : Int32))), .unset] [(.int (1 : Int32))])) (fun k => XS.iconst X0.here hx rfl (hb hby d2_38) k) ?_
        refine own_sq (T' := s₁) (g' := (mkF m 43 #[.val (.int c0), .val (.int (c0 ||| (32 : Int32))), .val (.int (if (c0 ||| (32 : Int32)) < (97 : Int32) then (0 : Int32) else (if (122 : Int32) < (c0 ||| (32 : Int32)) then (0 : Int32) else (1 : Int32)))), .val (.int (c0 - (48 : Int32))), .unset] [(.int (1 : Int32))])) (fun k => XS.goto X0.here hx rfl (pc0 := 39) (pc' := 43) rfl (hb hby d2_39) (by decide) (by decide) k) ?_
        simp only [if_neg hc29_3, if_pos hc35_4] at k; exact k
      · refine own_sq (T' := s₁) (g' := (mkF m 42 #[.val (.int c0), .val (.int (c0 ||| (32 : Int32))), .val (.int (if (c0 ||| (32 : Int32)) < (97 : Int32) then (0 : Int32) else (if (122 : Int32) < (c0 ||| (32 : Int32)) then (0 : Int32) else (1 : Int32)))), .val (.int (c0 - (48 : Int32))), .unset] [])) (fun k => XS.icmpYes X0.here hx rfl (pc0 := 35) (pc' := 42) rfl (hb hby d2_35) rfl (flt hc35_4).2.1 (by decide) (by decide) k) ?_
        refine own_sq (T' := s₁) (g' := (mkF m 43 #[.val (.int c0), .val (.int (c0 ||| (32 : Int32))), .val (.int (if (c0 ||| (32 : Int32)) < (97 : Int32) then (0 : Int32) else (if (122 : Int32) < (c0 ||| (32 : Int32)) then (0 : Int32) else (1 : Int32)))), .val (.int (c0 - (48 : Int32))), .unset] [(.int (0 : Int32))])) (fun k => XS.iconst X0.here hx rfl (hb hby d2_42) k) ?_
        simp only [if_neg hc29_3, if_neg hc35_4] at k; exact k
  refine own_st (T' := s₁) (g' := (mkF m 45 #[.val (.int c0), .val (.int (c0 ||| (32 : Int32))), .val (.int (if (c0 ||| (32 : Int32)) < (97 : Int32) then (0 : Int32) else (if (122 : Int32) < (c0 ||| (32 : Int32)) then (0 : Int32) else (1 : Int32)))), .val (.int (c0 - (48 : Int32))), .val (.int (if (c0 - (48 : Int32)) < (0 : Int32) then (0 : Int32) else (if (c0 - (48 : Int32)) < (10 : Int32) then (1 : Int32) else (0 : Int32))))] [])) (fun _ k => XS.istore X0.here hx rfl (hb hby d2_43) rfl (l' := #[.val (.int c0), .val (.int (c0 ||| (32 : Int32))), .val (.int (if (c0 ||| (32 : Int32)) < (97 : Int32) then (0 : Int32) else (if (122 : Int32) < (c0 ||| (32 : Int32)) then (0 : Int32) else (1 : Int32)))), .val (.int (c0 - (48 : Int32))), .val (.int (if (c0 - (48 : Int32)) < (0 : Int32) then (0 : Int32) else (if (c0 - (48 : Int32)) < (10 : Int32) then (1 : Int32) else (0 : Int32))))]) rfl k) ?_
  refine own_st (T' := s₁) (g' := (mkF m 46 #[.val (.int c0), .val (.int (c0 ||| (32 : Int32))), .val (.int (if (c0 ||| (32 : Int32)) < (97 : Int32) then (0 : Int32) else (if (122 : Int32) < (c0 ||| (32 : Int32)) then (0 : Int32) else (1 : Int32)))), .val (.int (c0 - (48 : Int32))), .val (.int (if (c0 - (48 : Int32)) < (0 : Int32) then (0 : Int32) else (if (c0 - (48 : Int32)) < (10 : Int32) then (1 : Int32) else (0 : Int32))))] [(.int (if (c0 ||| (32 : Int32)) < (97 : Int32) then (0 : Int32) else (if (122 : Int32) < (c0 ||| (32 : Int32)) then (0 : Int32) else (1 : Int32))))])) (fun _ k => XS.iloadN X0.here hx rfl (hb hby d2_45) rfl k) ?_
  refine own_st (T' := s₁) (g' := (mkF m 65 #[.val (.int c0), .val (.int (c0 ||| (32 : Int32))), .val (.int (if (c0 ||| (32 : Int32)) < (97 : Int32) then (0 : Int32) else (if (122 : Int32) < (c0 ||| (32 : Int32)) then (0 : Int32) else (1 : Int32)))), .val (.int (c0 - (48 : Int32))), .val (.int (if (c0 - (48 : Int32)) < (0 : Int32) then (0 : Int32) else (if (c0 - (48 : Int32)) < (10 : Int32) then (1 : Int32) else (0 : Int32))))] [(.int (if (if (c0 ||| (32 : Int32)) < (97 : Int32) then (0 : Int32) else (if (122 : Int32) < (c0 ||| (32 : Int32)) then (0 : Int32) else (1 : Int32))) = (0 : Int32) then (if (if (c0 - (48 : Int32)) < (0 : Int32) then (0 : Int32) else (if (c0 - (48 : Int32)) < (10 : Int32) then (1 : Int32) else (0 : Int32))) = (0 : Int32) then (if c0 = (95 : Int32) then (1 : Int32) else (0 : Int32)) else (1 : Int32)) else (1 : Int32)))])) (fun t k => ?_) ?_
  · by_cases hc46_5 : (if (c0 ||| (32 : Int32)) < (97 : Int32) then (0 : Int32) else (if (122 : Int32) < (c0 ||| (32 : Int32)) then (0 : Int32) else (1 : Int32))) = (0 : Int32)
    · refine own_sq (T' := s₁) (g' := (mkF m 49 #[.val (.int c0), .val (.int (c0 ||| (32 : Int32))), .val (.int (if (c0 ||| (32 : Int32)) < (97 : Int32) then (0 : Int32) else (if (122 : Int32) < (c0 ||| (32 : Int32)) then (0 : Int32) else (1 : Int32)))), .val (.int (c0 - (48 : Int32))), .val (.int (if (c0 - (48 : Int32)) < (0 : Int32) then (0 : Int32) else (if (c0 - (48 : Int32)) < (10 : Int32) then (1 : Int32) else (0 : Int32))))] [])) (fun k => XS.ifNo X0.here hx rfl (hb hby d2_46) rfl ((if0 _ _).trans (teq hc46_5).2) k) ?_
      refine own_sq (T' := s₁) (g' := (mkF m 51 #[.val (.int c0), .val (.int (c0 ||| (32 : Int32))), .val (.int (if (c0 ||| (32 : Int32)) < (97 : Int32) then (0 : Int32) else (if (122 : Int32) < (c0 ||| (32 : Int32)) then (0 : Int32) else (1 : Int32)))), .val (.int (c0 - (48 : Int32))), .val (.int (if (c0 - (48 : Int32)) < (0 : Int32) then (0 : Int32) else (if (c0 - (48 : Int32)) < (10 : Int32) then (1 : Int32) else (0 : Int32))))] [(.int (if (c0 - (48 : Int32)) < (0 : Int32) then (0 : Int32) else (if (c0 - (48 : Int32)) < (10 : Int32) then (1 : Int32) else (0 : Int32))))])) (fun k => XS.iload X0.here hx rfl (hb hby d2_49) rfl k) ?_
      by_cases hc51_6 : (if (c0 - (48 : Int32)) < (0 : Int32) then (0 : Int32) else (if (c0 - (48 : Int32)) < (10 : Int32) then (1 : Int32) else (0 : Int32))) = (0 : Int32)
      · refine own_sq (T' := s₁) (g' := (mkF m 54 #[.val (.int c0), .val (.int (c0 ||| (32 : Int32))), .val (.int (if (c0 ||| (32 : Int32)) < (97 : Int32) then (0 : Int32) else (if (122 : Int32) < (c0 ||| (32 : Int32)) then (0 : Int32) else (1 : Int32)))), .val (.int (c0 - (48 : Int32))), .val (.int (if (c0 - (48 : Int32)) < (0 : Int32) then (0 : Int32) else (if (c0 - (48 : Int32)) < (10 : Int32) then (1 : Int32) else (0 : Int32))))] [])) (fun k => XS.ifNo X0.here hx rfl (hb hby d2_51) rfl ((if0 _ _).trans (teq hc51_6).2) k) ?_
        refine own_sq (T' := s₁) (g' := (mkF m 55 #[.val (.int c0), .val (.int (c0 ||| (32 : Int32))), .val (.int (if (c0 ||| (32 : Int32)) < (97 : Int32) then (0 : Int32) else (if (122 : Int32) < (c0 ||| (32 : Int32)) then (0 : Int32) else (1 : Int32)))), .val (.int (c0 - (48 : Int32))), .val (.int (if (c0 - (48 : Int32)) < (0 : Int32) then (0 : Int32) else (if (c0 - (48 : Int32)) < (10 : Int32) then (1 : Int32) else (0 : Int32))))] [(.int c0)])) (fun k => XS.iloadN X0.here hx rfl (hb hby d2_54) rfl k) ?_
        refine own_sq (T' := s₁) (g' := (mkF m 57 #[.val (.int c0), .val (.int (c0 ||| (32 : Int32))), .val (.int (if (c0 ||| (32 : Int32)) < (97 : Int32) then (0 : Int32) else (if (122 : Int32) < (c0 ||| (32 : Int32)) then (0 : Int32) else (1 : Int32)))), .val (.int (c0 - (48 : Int32))), .val (.int (if (c0 - (48 : Int32)) < (0 : Int32) then (0 : Int32) else (if (c0 - (48 : Int32)) < (10 : Int32) then (1 : Int32) else (0 : Int32))))] [(.int (95 : Int32)), (.int c0)])) (fun k => XS.bipush X0.here hx rfl (hb hby d2_55) k) ?_
        by_cases hc57_7 : c0 = (95 : Int32)
        · refine own_sq (T' := s₁) (g' := (mkF m 60 #[.val (.int c0), .val (.int (c0 ||| (32 : Int32))), .val (.int (if (c0 ||| (32 : Int32)) < (97 : Int32) then (0 : Int32) else (if (122 : Int32) < (c0 ||| (32 : Int32)) then (0 : Int32) else (1 : Int32)))), .val (.int (c0 - (48 : Int32))), .val (.int (if (c0 - (48 : Int32)) < (0 : Int32) then (0 : Int32) else (if (c0 - (48 : Int32)) < (10 : Int32) then (1 : Int32) else (0 : Int32))))] [])) (fun k => XS.icmpNo X0.here hx rfl (hb hby d2_57) rfl (teq hc57_7).2 k) ?_
          refine own_sq (T' := s₁) (g' := (mkF m 61 #[.val (.int c0), .val (.int (c0 ||| (32 : Int32))), .val (.int (if (c0 ||| (32 : Int32)) < (97 : Int32) then (0 : Int32) else (if (122 : Int32) < (c0 ||| (32 : Int32)) then (0 : Int32) else (1 : Int32)))), .val (.int (c0 - (48 : Int32))), .val (.int (if (c0 - (48 : Int32)) < (0 : Int32) then (0 : Int32) else (if (c0 - (48 : Int32)) < (10 : Int32) then (1 : Int32) else (0 : Int32))))] [(.int (1 : Int32))])) (fun k => XS.iconst X0.here hx rfl (hb hby d2_60) k) ?_
          refine own_sq (T' := s₁) (g' := (mkF m 65 #[.val (.int c0), .val (.int (c0 ||| (32 : Int32))), .val (.int (if (c0 ||| (32 : Int32)) < (97 : Int32) then (0 : Int32) else (if (122 : Int32) < (c0 ||| (32 : Int32)) then (0 : Int32) else (1 : Int32)))), .val (.int (c0 - (48 : Int32))), .val (.int (if (c0 - (48 : Int32)) < (0 : Int32) then (0 : Int32) else (if (c0 - (48 : Int32)) < (10 : Int32) then (1 : Int32) else (0 : Int32))))] [(.int (1 : Int32))])) (fun k => XS.goto X0.here hx rfl (pc0 := 61) (pc' := 65) rfl (hb hby d2_61) (by decide) (by decide) k) ?_
          simp only [if_pos hc46_5, if_pos hc51_6, if_pos hc57_7] at k; exact k
        · refine own_sq (T' := s₁) (g' := (mkF m 64 #[.val (.int c0), .val (.int (c0 ||| (32 : Int32))), .val (.int (if (c0 ||| (32 : Int32)) < (97 : Int32) then (0 : Int32) else (if (122 : Int32) < (c0 ||| (32 : Int32)) then (0 : Int32) else (1 : Int32)))), .val (.int (c0 - (48 : Int32))), .val (.int (if (c0 - (48 : Int32)) < (0 : Int32) then (0 : Int32) else (if (c0 - (48 : Int32)) < (10 : Int32) then (1 : Int32) else (0 : Int32))))] [])) (fun k => XS.icmpYes X0.here hx rfl (pc0 := 57) (pc' := 64) rfl (hb hby d2_57) rfl (feq hc57_7).2 (by decide) (by decide) k) ?_
          refine own_sq (T' := s₁) (g' := (mkF m 65 #[.val (.int c0), .val (.int (c0 ||| (32 : Int32))), .val (.int (if (c0 ||| (32 : Int32)) < (97 : Int32) then (0 : Int32) else (if (122 : Int32) < (c0 ||| (32 : Int32)) then (0 : Int32) else (1 : Int32)))), .val (.int (c0 - (48 : Int32))), .val (.int (if (c0 - (48 : Int32)) < (0 : Int32) then (0 : Int32) else (if (c0 - (48 : Int32)) < (10 : Int32) then (1 : Int32) else (0 : Int32))))] [(.int (0 : Int32))])) (fun k => XS.iconst X0.here hx rfl (hb hby d2_64) k) ?_
          simp only [if_pos hc46_5, if_pos hc51_6, if_neg hc57_7] at k; exact k
      · refine own_sq (T' := s₁) (g' := (mkF m 60 #[.val (.int c0), .val (.int (c0 ||| (32 : Int32))), .val (.int (if (c0 ||| (32 : Int32)) < (97 : Int32) then (0 : Int32) else (if (122 : Int32) < (c0 ||| (32 : Int32)) then (0 : Int32) else (1 : Int32)))), .val (.int (c0 - (48 : Int32))), .val (.int (if (c0 - (48 : Int32)) < (0 : Int32) then (0 : Int32) else (if (c0 - (48 : Int32)) < (10 : Int32) then (1 : Int32) else (0 : Int32))))] [])) (fun k => XS.ifYes X0.here hx rfl (pc0 := 51) (pc' := 60) rfl (hb hby d2_51) rfl ((if0 _ _).trans (feq hc51_6).2) (by decide) (by decide) k) ?_
        refine own_sq (T' := s₁) (g' := (mkF m 61 #[.val (.int c0), .val (.int (c0 ||| (32 : Int32))), .val (.int (if (c0 ||| (32 : Int32)) < (97 : Int32) then (0 : Int32) else (if (122 : Int32) < (c0 ||| (32 : Int32)) then (0 : Int32) else (1 : Int32)))), .val (.int (c0 - (48 : Int32))), .val (.int (if (c0 - (48 : Int32)) < (0 : Int32) then (0 : Int32) else (if (c0 - (48 : Int32)) < (10 : Int32) then (1 : Int32) else (0 : Int32))))] [(.int (1 : Int32))])) (fun k => XS.iconst X0.here hx rfl (hb hby d2_60) k) ?_
        refine own_sq (T' := s₁) (g' := (mkF m 65 #[.val (.int c0), .val (.int (c0 ||| (32 : Int32))), .val (.int (if (c0 ||| (32 : Int32)) < (97 : Int32) then (0 : Int32) else (if (122 : Int32) < (c0 ||| (32 : Int32)) then (0 : Int32) else (1 : Int32)))), .val (.int (c0 - (48 : Int32))), .val (.int (if (c0 - (48 : Int32)) < (0 : Int32) then (0 : Int32) else (if (c0 - (48 : Int32)) < (10 : Int32) then (1 : Int32) else (0 : Int32))))] [(.int (1 : Int32))])) (fun k => XS.goto X0.here hx rfl (pc0 := 61) (pc' := 65) rfl (hb hby d2_61) (by decide) (by decide) k) ?_
        simp only [if_pos hc46_5, if_neg hc51_6] at k; exact k
    · refine own_sq (T' := s₁) (g' := (mkF m 60 #[.val (.int c0), .val (.int (c0 ||| (32 : Int32))), .val (.int (if (c0 ||| (32 : Int32)) < (97 : Int32) then (0 : Int32) else (if (122 : Int32) < (c0 ||| (32 : Int32)) then (0 : Int32) else (1 : Int32)))), .val (.int (c0 - (48 : Int32))), .val (.int (if (c0 - (48 : Int32)) < (0 : Int32) then (0 : Int32) else (if (c0 - (48 : Int32)) < (10 : Int32) then (1 : Int32) else (0 : Int32))))] [])) (fun k => XS.ifYes X0.here hx rfl (pc0 := 46) (pc' := 60) rfl (hb hby d2_46) rfl ((if0 _ _).trans (feq hc46_5).2) (by decide) (by decide) k) ?_
      refine own_sq (T' := s₁) (g' := (mkF m 61 #[.val (.int c0), .val (.int (c0 ||| (32 : Int32))), .val (.int (if (c0 ||| (32 : Int32)) < (97 : Int32) then (0 : Int32) else (if (122 : Int32) < (c0 ||| (32 : Int32)) then (0 : Int32) else (1 : Int32)))), .val (.int (c0 - (48 : Int32))), .val (.int (if (c0 - (48 : Int32)) < (0 : Int32) then (0 : Int32) else (if (c0 - (48 : Int32)) < (10 : Int32) then (1 : Int32) else (0 : Int32))))] [(.int (1 : Int32))])) (fun k => XS.iconst X0.here hx rfl (hb hby d2_60) k) ?_
      refine own_sq (T' := s₁) (g' := (mkF m 65 #[.val (.int c0), .val (.int (c0 ||| (32 : Int32))), .val (.int (if (c0 ||| (32 : Int32)) < (97 : Int32) then (0 : Int32) else (if (122 : Int32) < (c0 ||| (32 : Int32)) then (0 : Int32) else (1 : Int32)))), .val (.int (c0 - (48 : Int32))), .val (.int (if (c0 - (48 : Int32)) < (0 : Int32) then (0 : Int32) else (if (c0 - (48 : Int32)) < (10 : Int32) then (1 : Int32) else (0 : Int32))))] [(.int (1 : Int32))])) (fun k => XS.goto X0.here hx rfl (pc0 := 61) (pc' := 65) rfl (hb hby d2_61) (by decide) (by decide) k) ?_
      simp only [if_neg hc46_5] at k; exact k
  exact own_retN X0 hx hlk hret (by simp) (hb hby d2_65) ⟨rfl, N0, e0⟩ (by decide) (by decide)
theorem own_small {P : Int32 → Prop} (key : ∀ n : Fin 128, P (Int32.ofNat n.val)) (v : Int32) (h0 : 0 ≤ v.toInt) (h1 : v.toInt < 128) : P v := by
  have e : v = Int32.ofNat v.toInt.toNat := by
    apply Int32.toInt_inj.mp
    rw [Int32.toInt_ofNat_of_lt (by omega)]; omega
  rw [e]; exact key ⟨v.toInt.toNat, by omega⟩
set_option maxRecDepth 65536 in
theorem own_law (cv : Int32) (h0 : 0 ≤ cv.toInt) : (nar .boolean (if cv < (97 : Int32) then (if cv < (65 : Int32) then (if cv < (48 : Int32) then (if cv = (95 : Int32) then (1 : Int32) else (0 : Int32)) else (if (57 : Int32) < cv then (if cv = (95 : Int32) then (1 : Int32) else (0 : Int32)) else (1 : Int32))) else (if (90 : Int32) < cv then (if cv < (48 : Int32) then (if cv = (95 : Int32) then (1 : Int32) else (0 : Int32)) else (if (57 : Int32) < cv then (if cv = (95 : Int32) then (1 : Int32) else (0 : Int32)) else (1 : Int32))) else (1 : Int32))) else (if (122 : Int32) < cv then (if cv < (65 : Int32) then (if cv < (48 : Int32) then (if cv = (95 : Int32) then (1 : Int32) else (0 : Int32)) else (if (57 : Int32) < cv then (if cv = (95 : Int32) then (1 : Int32) else (0 : Int32)) else (1 : Int32))) else (if (90 : Int32) < cv then (if cv < (48 : Int32) then (if cv = (95 : Int32) then (1 : Int32) else (0 : Int32)) else (if (57 : Int32) < cv then (if cv = (95 : Int32) then (1 : Int32) else (0 : Int32)) else (1 : Int32))) else (1 : Int32))) else (1 : Int32)))) = (nar .boolean (if (if (cv ||| (32 : Int32)) < (97 : Int32) then (0 : Int32) else (if (122 : Int32) < (cv ||| (32 : Int32)) then (0 : Int32) else (1 : Int32))) = (0 : Int32) then (if (if (cv - (48 : Int32)) < (0 : Int32) then (0 : Int32) else (if (cv - (48 : Int32)) < (10 : Int32) then (1 : Int32) else (0 : Int32))) = (0 : Int32) then (if cv = (95 : Int32) then (1 : Int32) else (0 : Int32)) else (1 : Int32)) else (1 : Int32))) := by
  by_cases hb : cv.toInt < 128
  · exact own_small (P := fun cv => (nar .boolean (if cv < (97 : Int32) then (if cv < (65 : Int32) then (if cv < (48 : Int32) then (if cv = (95 : Int32) then (1 : Int32) else (0 : Int32)) else (if (57 : Int32) < cv then (if cv = (95 : Int32) then (1 : Int32) else (0 : Int32)) else (1 : Int32))) else (if (90 : Int32) < cv then (if cv < (48 : Int32) then (if cv = (95 : Int32) then (1 : Int32) else (0 : Int32)) else (if (57 : Int32) < cv then (if cv = (95 : Int32) then (1 : Int32) else (0 : Int32)) else (1 : Int32))) else (1 : Int32))) else (if (122 : Int32) < cv then (if cv < (65 : Int32) then (if cv < (48 : Int32) then (if cv = (95 : Int32) then (1 : Int32) else (0 : Int32)) else (if (57 : Int32) < cv then (if cv = (95 : Int32) then (1 : Int32) else (0 : Int32)) else (1 : Int32))) else (if (90 : Int32) < cv then (if cv < (48 : Int32) then (if cv = (95 : Int32) then (1 : Int32) else (0 : Int32)) else (if (57 : Int32) < cv then (if cv = (95 : Int32) then (1 : Int32) else (0 : Int32)) else (1 : Int32))) else (1 : Int32))) else (1 : Int32)))) = (nar .boolean (if (if (cv ||| (32 : Int32)) < (97 : Int32) then (0 : Int32) else (if (122 : Int32) < (cv ||| (32 : Int32)) then (0 : Int32) else (1 : Int32))) = (0 : Int32) then (if (if (cv - (48 : Int32)) < (0 : Int32) then (0 : Int32) else (if (cv - (48 : Int32)) < (10 : Int32) then (1 : Int32) else (0 : Int32))) = (0 : Int32) then (if cv = (95 : Int32) then (1 : Int32) else (0 : Int32)) else (1 : Int32)) else (1 : Int32)))) (by decide +kernel) cv h0 hb
  · have o := (c_or0 cv 32 h0 (by decide)).1
    have d := c_isub cv 48
    have r := rng32 cv
    have r' := rng32 (cv - 48)
    have e48 : (48 : Int32).toInt = 48 := rfl
    generalize (cv ||| (32 : Int32)) = u at *
    generalize hw : (cv - (48 : Int32)) = w at *
    have l1 : ¬ cv < 97 := by rw [Int32.lt_iff_toInt_lt]; simp; omega
    have l2 : 122 < cv := by rw [Int32.lt_iff_toInt_lt]; simp; omega
    have l3 : ¬ cv < 65 := by rw [Int32.lt_iff_toInt_lt]; simp; omega
    have l4 : 90 < cv := by rw [Int32.lt_iff_toInt_lt]; simp; omega
    have l7 : ¬ cv < 48 := by rw [Int32.lt_iff_toInt_lt]; simp; omega
    have l8 : 57 < cv := by rw [Int32.lt_iff_toInt_lt]; simp; omega
    have l9 : ¬ cv = 95 := by rw [← Int32.toInt_inj]; simp; omega
    have l5 : ¬ u < 97 := by rw [Int32.lt_iff_toInt_lt]; simp; omega
    have l6 : 122 < u := by rw [Int32.lt_iff_toInt_lt]; simp; omega
    have la : ¬ w < 0 := by rw [Int32.lt_iff_toInt_lt]; simp; omega
    have lb : ¬ w < 10 := by rw [Int32.lt_iff_toInt_lt]; simp; omega
    simp only [if_pos l2, if_pos l4, if_pos l6, if_pos l8, if_neg l1, if_neg l3, if_neg l5, if_neg l7, if_neg l9, if_neg la, if_neg lb]; rfl
theorem pn_0 : plainName x.cls = true := by first | (simp [plainName, overriddenIn]; done) | decide +kernel
theorem ef_0 (m : MethodId) (x0 : Int32) (x1 : Int32) : entryFrame m #[(.int x0), (.int x1)] maxLocals = mkF m 0 #[.val (.int x0), .val (.int x1), .unset, .unset] [] := by first | (simp [entryFrame, mkF, argsToLocals, Value.category, maxLocals]; done) | rfl
set_option maxRecDepth 65536 in
set_option maxHeartbeats 40000000 in
theorem rm0 (l : Launch) (Z : State) (a0 : Array Value) (hw : ∀ d ∈ tables_1, d.before a0 Z = true) (ws : List Jvm.Cond) (p0 p1 : Int32) (h0 : Heap) (n0 : Nat) (Z0 : n0 ≤ h0.size)  :
    own_Met l Z ws x code maxLocals ret room_1 0 0 #[(.int p0), (.int p1)] h0 (fun v h L => v = some (.int 1) ∧ Fr n0 L) := by
  refine own_body (plainFor_of_name pn_0) ?_
  intro p e s m below meth c s₁ hx hby hml hown hnm hlk hret hZ hh X0 e0
  have N0 := Fr.nil n0
  refine own_cast (ef_0 m p0 p1) ?_
  refine own_st (T' := s₁) (g' := (mkF m 1 #[.val (.int p0), .val (.int p1), .unset, .unset] [(.int p0)])) (fun _ k => XS.iloadN X0.here hx rfl (hb hby at_0) rfl k) ?_
  refine own_st (T' := s₁) (g' := (mkF m 2 #[.val (.int p0), .val (.int p1), .unset, .unset] [(.int (p0.toUInt32.toUInt16.toUInt32.toInt32))])) (fun _ k => XS.i2c X0.here hx rfl (hb hby at_1) rfl k) ?_
  generalize hcv : (p0.toUInt32.toUInt16.toUInt32.toInt32) = cv
  refine own_st (T' := s₁) (g' := (mkF m 3 #[.val (.int p0), .val (.int p1), .val (.int cv), .unset] [])) (fun _ k => XS.istoreN X0.here hx rfl (hb hby at_2) rfl (l' := #[.val (.int p0), .val (.int p1), .val (.int cv), .unset]) rfl k) ?_
  refine own_st (T' := s₁) (g' := (mkF m 4 #[.val (.int p0), .val (.int p1), .val (.int cv), .unset] [(.int p1)])) (fun _ k => XS.iloadN X0.here hx rfl (hb hby at_3) rfl k) ?_
  refine own_st (T' := s₁) (g' := (mkF m 6 #[.val (.int p0), .val (.int p1), .val (.int cv), .unset] [(.int (127 : Int32)), (.int p1)])) (fun _ k => XS.bipush X0.here hx rfl (hb hby at_4) k) ?_
  refine own_st (T' := s₁) (g' := (mkF m 7 #[.val (.int p0), .val (.int p1), .val (.int cv), .unset] [(.int (p1 &&& (127 : Int32)))])) (fun _ k => XS.iand X0.here hx rfl (hb hby at_6) rfl k) ?_
  refine own_st (T' := s₁) (g' := (mkF m 8 #[.val (.int p0), .val (.int p1), .val (.int cv), .unset] [(.int ((p1 &&& (127 : Int32)).toUInt32.toUInt16.toUInt32.toInt32))])) (fun _ k => XS.i2c X0.here hx rfl (hb hby at_7) rfl k) ?_
  generalize hdv : ((p1 &&& (127 : Int32)).toUInt32.toUInt16.toUInt32.toInt32) = dv
  refine own_st (T' := s₁) (g' := (mkF m 9 #[.val (.int p0), .val (.int p1), .val (.int cv), .val (.int dv)] [])) (fun _ k => XS.istoreN X0.here hx rfl (hb hby at_8) rfl (l' := #[.val (.int p0), .val (.int p1), .val (.int cv), .val (.int dv)]) rfl k) ?_
  refine own_st (T' := s₁) (g' := (mkF m 10 #[.val (.int p0), .val (.int p1), .val (.int cv), .val (.int dv)] [(.int cv)])) (fun _ k => XS.iloadN X0.here hx rfl (hb hby at_9) rfl k) ?_
  refine own_callS X0 hx hZ (y := (⟨site_10.cls, "isNameCharacter", "(C)Z"⟩ : MethodName)) hown (own_w hw 0 rfl) (own_w hw 1 rfl) (own_w hw 2 rfl) (own_w hw 3 rfl) (by decide) (W := 0) e0 (argsL := [(.int cv)]) (rest := []) (rm1 l Z a0 hw [] cv h0 n0 Z0) (by decide) (by decide) (by decide) (by decide) (g := (mkF m 10 #[.val (.int p0), .val (.int p1), .val (.int cv), .val (.int dv)] [(.int cv)])) rfl (by rw [hml]; rfl) (lenOf own_pd0 rfl) rfl (by show 2 * 0 + _ ≤ _; exact Nat.le_of_eq rfl) (hb hby at_10) ?_
  rintro _ T1 L1 X1 ⟨rfl, N1q, e1⟩
  show own_Go _ _ _ _ _ _ _ T1 (mkF m 13 #[.val (.int p0), .val (.int p1), .val (.int cv), .val (.int dv)] [(.int (nar .boolean (if cv < (97 : Int32) then (if cv < (65 : Int32) then (if cv < (48 : Int32) then (if cv = (95 : Int32) then (1 : Int32) else (0 : Int32)) else (if (57 : Int32) < cv then (if cv = (95 : Int32) then (1 : Int32) else (0 : Int32)) else (1 : Int32))) else (if (90 : Int32) < cv then (if cv < (48 : Int32) then (if cv = (95 : Int32) then (1 : Int32) else (0 : Int32)) else (if (57 : Int32) < cv then (if cv = (95 : Int32) then (1 : Int32) else (0 : Int32)) else (1 : Int32))) else (1 : Int32))) else (if (122 : Int32) < cv then (if cv < (65 : Int32) then (if cv < (48 : Int32) then (if cv = (95 : Int32) then (1 : Int32) else (0 : Int32)) else (if (57 : Int32) < cv then (if cv = (95 : Int32) then (1 : Int32) else (0 : Int32)) else (1 : Int32))) else (if (90 : Int32) < cv then (if cv < (48 : Int32) then (if cv = (95 : Int32) then (1 : Int32) else (0 : Int32)) else (if (57 : Int32) < cv then (if cv = (95 : Int32) then (1 : Int32) else (0 : Int32)) else (1 : Int32))) else (1 : Int32))) else (1 : Int32)))))])
  have N1 := Fr.app N0 N1q
  refine own_st (T' := T1) (g' := (mkF m 14 #[.val (.int p0), .val (.int p1), .val (.int cv), .val (.int dv)] [(.int cv), (.int (nar .boolean (if cv < (97 : Int32) then (if cv < (65 : Int32) then (if cv < (48 : Int32) then (if cv = (95 : Int32) then (1 : Int32) else (0 : Int32)) else (if (57 : Int32) < cv then (if cv = (95 : Int32) then (1 : Int32) else (0 : Int32)) else (1 : Int32))) else (if (90 : Int32) < cv then (if cv < (48 : Int32) then (if cv = (95 : Int32) then (1 : Int32) else (0 : Int32)) else (if (57 : Int32) < cv then (if cv = (95 : Int32) then (1 : Int32) else (0 : Int32)) else (1 : Int32))) else (1 : Int32))) else (if (122 : Int32) < cv then (if cv < (65 : Int32) then (if cv < (48 : Int32) then (if cv = (95 : Int32) then (1 : Int32) else (0 : Int32)) else (if (57 : Int32) < cv then (if cv = (95 : Int32) then (1 : Int32) else (0 : Int32)) else (1 : Int32))) else (if (90 : Int32) < cv then (if cv < (48 : Int32) then (if cv = (95 : Int32) then (1 : Int32) else (0 : Int32)) else (if (57 : Int32) < cv then (if cv = (95 : Int32) then (1 : Int32) else (0 : Int32)) else (1 : Int32))) else (1 : Int32))) else (1 : Int32)))))])) (fun _ k => XS.iloadN X1.here hx rfl (hb hby at_13) rfl k) ?_
  refine own_callS X1 hx hZ (y := (⟨x.cls, "expected", "(C)Z"⟩ : MethodName)) hown (own_w hw 4 rfl) (own_w hw 5 rfl) (own_w hw 6 rfl) (own_w hw 7 rfl) (by decide) (W := 1) e1 (argsL := [(.int cv)]) (rest := [(.int (nar .boolean (if cv < (97 : Int32) then (if cv < (65 : Int32) then (if cv < (48 : Int32) then (if cv = (95 : Int32) then (1 : Int32) else (0 : Int32)) else (if (57 : Int32) < cv then (if cv = (95 : Int32) then (1 : Int32) else (0 : Int32)) else (1 : Int32))) else (if (90 : Int32) < cv then (if cv < (48 : Int32) then (if cv = (95 : Int32) then (1 : Int32) else (0 : Int32)) else (if (57 : Int32) < cv then (if cv = (95 : Int32) then (1 : Int32) else (0 : Int32)) else (1 : Int32))) else (1 : Int32))) else (if (122 : Int32) < cv then (if cv < (65 : Int32) then (if cv < (48 : Int32) then (if cv = (95 : Int32) then (1 : Int32) else (0 : Int32)) else (if (57 : Int32) < cv then (if cv = (95 : Int32) then (1 : Int32) else (0 : Int32)) else (1 : Int32))) else (if (90 : Int32) < cv then (if cv < (48 : Int32) then (if cv = (95 : Int32) then (1 : Int32) else (0 : Int32)) else (if (57 : Int32) < cv then (if cv = (95 : Int32) then (1 : Int32) else (0 : Int32)) else (1 : Int32))) else (1 : Int32))) else (1 : Int32)))))]) (rm2 l Z a0 hw [] cv h0 n0 Z0) (by decide) (by decide) (by decide) (by decide) (g := (mkF m 14 #[.val (.int p0), .val (.int p1), .val (.int cv), .val (.int dv)] [(.int cv), (.int (nar .boolean (if cv < (97 : Int32) then (if cv < (65 : Int32) then (if cv < (48 : Int32) then (if cv = (95 : Int32) then (1 : Int32) else (0 : Int32)) else (if (57 : Int32) < cv then (if cv = (95 : Int32) then (1 : Int32) else (0 : Int32)) else (1 : Int32))) else (if (90 : Int32) < cv then (if cv < (48 : Int32) then (if cv = (95 : Int32) then (1 : Int32) else (0 : Int32)) else (if (57 : Int32) < cv then (if cv = (95 : Int32) then (1 : Int32) else (0 : Int32)) else (1 : Int32))) else (1 : Int32))) else (if (122 : Int32) < cv then (if cv < (65 : Int32) then (if cv < (48 : Int32) then (if cv = (95 : Int32) then (1 : Int32) else (0 : Int32)) else (if (57 : Int32) < cv then (if cv = (95 : Int32) then (1 : Int32) else (0 : Int32)) else (1 : Int32))) else (if (90 : Int32) < cv then (if cv < (48 : Int32) then (if cv = (95 : Int32) then (1 : Int32) else (0 : Int32)) else (if (57 : Int32) < cv then (if cv = (95 : Int32) then (1 : Int32) else (0 : Int32)) else (1 : Int32))) else (1 : Int32))) else (1 : Int32)))))])) rfl (by rw [hml]; rfl) (lenOf own_pd0 rfl) rfl (by show 2 * 0 + _ ≤ _; exact Nat.le_of_eq rfl) (hb hby at_14) ?_
  rintro _ T2 L2 X2 ⟨rfl, N2q, e2⟩
  show own_Go _ _ _ _ _ _ _ T2 (mkF m 17 #[.val (.int p0), .val (.int p1), .val (.int cv), .val (.int dv)] [(.int (nar .boolean (if (if (cv ||| (32 : Int32)) < (97 : Int32) then (0 : Int32) else (if (122 : Int32) < (cv ||| (32 : Int32)) then (0 : Int32) else (1 : Int32))) = (0 : Int32) then (if (if (cv - (48 : Int32)) < (0 : Int32) then (0 : Int32) else (if (cv - (48 : Int32)) < (10 : Int32) then (1 : Int32) else (0 : Int32))) = (0 : Int32) then (if cv = (95 : Int32) then (1 : Int32) else (0 : Int32)) else (1 : Int32)) else (1 : Int32)))), (.int (nar .boolean (if cv < (97 : Int32) then (if cv < (65 : Int32) then (if cv < (48 : Int32) then (if cv = (95 : Int32) then (1 : Int32) else (0 : Int32)) else (if (57 : Int32) < cv then (if cv = (95 : Int32) then (1 : Int32) else (0 : Int32)) else (1 : Int32))) else (if (90 : Int32) < cv then (if cv < (48 : Int32) then (if cv = (95 : Int32) then (1 : Int32) else (0 : Int32)) else (if (57 : Int32) < cv then (if cv = (95 : Int32) then (1 : Int32) else (0 : Int32)) else (1 : Int32))) else (1 : Int32))) else (if (122 : Int32) < cv then (if cv < (65 : Int32) then (if cv < (48 : Int32) then (if cv = (95 : Int32) then (1 : Int32) else (0 : Int32)) else (if (57 : Int32) < cv then (if cv = (95 : Int32) then (1 : Int32) else (0 : Int32)) else (1 : Int32))) else (if (90 : Int32) < cv then (if cv < (48 : Int32) then (if cv = (95 : Int32) then (1 : Int32) else (0 : Int32)) else (if (57 : Int32) < cv then (if cv = (95 : Int32) then (1 : Int32) else (0 : Int32)) else (1 : Int32))) else (1 : Int32))) else (1 : Int32)))))])
  have N2 := Fr.app N1 N2q
  refine own_st (T' := T2) (g' := (mkF m 20 #[.val (.int p0), .val (.int p1), .val (.int cv), .val (.int dv)] [])) (fun _ k => XS.icmpNo X2.here hx rfl (hb hby at_17) rfl (teq (own_law cv (by rw [← hcv]; exact (c_i2c _).2.1) : ((nar .boolean (if cv < (97 : Int32) then (if cv < (65 : Int32) then (if cv < (48 : Int32) then (if cv = (95 : Int32) then (1 : Int32) else (0 : Int32)) else (if (57 : Int32) < cv then (if cv = (95 : Int32) then (1 : Int32) else (0 : Int32)) else (1 : Int32))) else (if (90 : Int32) < cv then (if cv < (48 : Int32) then (if cv = (95 : Int32) then (1 : Int32) else (0 : Int32)) else (if (57 : Int32) < cv then (if cv = (95 : Int32) then (1 : Int32) else (0 : Int32)) else (1 : Int32))) else (1 : Int32))) else (if (122 : Int32) < cv then (if cv < (65 : Int32) then (if cv < (48 : Int32) then (if cv = (95 : Int32) then (1 : Int32) else (0 : Int32)) else (if (57 : Int32) < cv then (if cv = (95 : Int32) then (1 : Int32) else (0 : Int32)) else (1 : Int32))) else (if (90 : Int32) < cv then (if cv < (48 : Int32) then (if cv = (95 : Int32) then (1 : Int32) else (0 : Int32)) else (if (57 : Int32) < cv then (if cv = (95 : Int32) then (1 : Int32) else (0 : Int32)) else (1 : Int32))) else (1 : Int32))) else (1 : Int32)))) = (nar .boolean (if (if (cv ||| (32 : Int32)) < (97 : Int32) then (0 : Int32) else (if (122 : Int32) < (cv ||| (32 : Int32)) then (0 : Int32) else (1 : Int32))) = (0 : Int32) then (if (if (cv - (48 : Int32)) < (0 : Int32) then (0 : Int32) else (if (cv - (48 : Int32)) < (10 : Int32) then (1 : Int32) else (0 : Int32))) = (0 : Int32) then (if cv = (95 : Int32) then (1 : Int32) else (0 : Int32)) else (1 : Int32)) else (1 : Int32)))))).2 k) ?_
  refine own_st (T' := T2) (g' := (mkF m 21 #[.val (.int p0), .val (.int p1), .val (.int cv), .val (.int dv)] [(.int dv)])) (fun _ k => XS.iloadN X2.here hx rfl (hb hby at_20) rfl k) ?_
  refine own_callS X2 hx hZ (y := (⟨site_10.cls, "isNameCharacter", "(C)Z"⟩ : MethodName)) hown (own_w hw 0 rfl) (own_w hw 1 rfl) (own_w hw 2 rfl) (own_w hw 3 rfl) (by decide) (W := 0) e2 (argsL := [(.int dv)]) (rest := []) (rm1 l Z a0 hw [] dv h0 n0 Z0) (by decide) (by decide) (by decide) (by decide) (g := (mkF m 21 #[.val (.int p0), .val (.int p1), .val (.int cv), .val (.int dv)] [(.int dv)])) rfl (by rw [hml]; rfl) (lenOf own_pd0 rfl) rfl (by show 2 * 0 + _ ≤ _; exact Nat.le_of_eq rfl) (hb hby at_21) ?_
  rintro _ T3 L3 X3 ⟨rfl, N3q, e3⟩
  show own_Go _ _ _ _ _ _ _ T3 (mkF m 24 #[.val (.int p0), .val (.int p1), .val (.int cv), .val (.int dv)] [(.int (nar .boolean (if dv < (97 : Int32) then (if dv < (65 : Int32) then (if dv < (48 : Int32) then (if dv = (95 : Int32) then (1 : Int32) else (0 : Int32)) else (if (57 : Int32) < dv then (if dv = (95 : Int32) then (1 : Int32) else (0 : Int32)) else (1 : Int32))) else (if (90 : Int32) < dv then (if dv < (48 : Int32) then (if dv = (95 : Int32) then (1 : Int32) else (0 : Int32)) else (if (57 : Int32) < dv then (if dv = (95 : Int32) then (1 : Int32) else (0 : Int32)) else (1 : Int32))) else (1 : Int32))) else (if (122 : Int32) < dv then (if dv < (65 : Int32) then (if dv < (48 : Int32) then (if dv = (95 : Int32) then (1 : Int32) else (0 : Int32)) else (if (57 : Int32) < dv then (if dv = (95 : Int32) then (1 : Int32) else (0 : Int32)) else (1 : Int32))) else (if (90 : Int32) < dv then (if dv < (48 : Int32) then (if dv = (95 : Int32) then (1 : Int32) else (0 : Int32)) else (if (57 : Int32) < dv then (if dv = (95 : Int32) then (1 : Int32) else (0 : Int32)) else (1 : Int32))) else (1 : Int32))) else (1 : Int32)))))])
  have N3 := Fr.app N2 N3q
  refine own_st (T' := T3) (g' := (mkF m 25 #[.val (.int p0), .val (.int p1), .val (.int cv), .val (.int dv)] [(.int dv), (.int (nar .boolean (if dv < (97 : Int32) then (if dv < (65 : Int32) then (if dv < (48 : Int32) then (if dv = (95 : Int32) then (1 : Int32) else (0 : Int32)) else (if (57 : Int32) < dv then (if dv = (95 : Int32) then (1 : Int32) else (0 : Int32)) else (1 : Int32))) else (if (90 : Int32) < dv then (if dv < (48 : Int32) then (if dv = (95 : Int32) then (1 : Int32) else (0 : Int32)) else (if (57 : Int32) < dv then (if dv = (95 : Int32) then (1 : Int32) else (0 : Int32)) else (1 : Int32))) else (1 : Int32))) else (if (122 : Int32) < dv then (if dv < (65 : Int32) then (if dv < (48 : Int32) then (if dv = (95 : Int32) then (1 : Int32) else (0 : Int32)) else (if (57 : Int32) < dv then (if dv = (95 : Int32) then (1 : Int32) else (0 : Int32)) else (1 : Int32))) else (if (90 : Int32) < dv then (if dv < (48 : Int32) then (if dv = (95 : Int32) then (1 : Int32) else (0 : Int32)) else (if (57 : Int32) < dv then (if dv = (95 : Int32) then (1 : Int32) else (0 : Int32)) else (1 : Int32))) else (1 : Int32))) else (1 : Int32)))))])) (fun _ k => XS.iloadN X3.here hx rfl (hb hby at_24) rfl k) ?_
  refine own_callS X3 hx hZ (y := (⟨x.cls, "expected", "(C)Z"⟩ : MethodName)) hown (own_w hw 4 rfl) (own_w hw 5 rfl) (own_w hw 6 rfl) (own_w hw 7 rfl) (by decide) (W := 1) e3 (argsL := [(.int dv)]) (rest := [(.int (nar .boolean (if dv < (97 : Int32) then (if dv < (65 : Int32) then (if dv < (48 : Int32) then (if dv = (95 : Int32) then (1 : Int32) else (0 : Int32)) else (if (57 : Int32) < dv then (if dv = (95 : Int32) then (1 : Int32) else (0 : Int32)) else (1 : Int32))) else (if (90 : Int32) < dv then (if dv < (48 : Int32) then (if dv = (95 : Int32) then (1 : Int32) else (0 : Int32)) else (if (57 : Int32) < dv then (if dv = (95 : Int32) then (1 : Int32) else (0 : Int32)) else (1 : Int32))) else (1 : Int32))) else (if (122 : Int32) < dv then (if dv < (65 : Int32) then (if dv < (48 : Int32) then (if dv = (95 : Int32) then (1 : Int32) else (0 : Int32)) else (if (57 : Int32) < dv then (if dv = (95 : Int32) then (1 : Int32) else (0 : Int32)) else (1 : Int32))) else (if (90 : Int32) < dv then (if dv < (48 : Int32) then (if dv = (95 : Int32) then (1 : Int32) else (0 : Int32)) else (if (57 : Int32) < dv then (if dv = (95 : Int32) then (1 : Int32) else (0 : Int32)) else (1 : Int32))) else (1 : Int32))) else (1 : Int32)))))]) (rm2 l Z a0 hw [] dv h0 n0 Z0) (by decide) (by decide) (by decide) (by decide) (g := (mkF m 25 #[.val (.int p0), .val (.int p1), .val (.int cv), .val (.int dv)] [(.int dv), (.int (nar .boolean (if dv < (97 : Int32) then (if dv < (65 : Int32) then (if dv < (48 : Int32) then (if dv = (95 : Int32) then (1 : Int32) else (0 : Int32)) else (if (57 : Int32) < dv then (if dv = (95 : Int32) then (1 : Int32) else (0 : Int32)) else (1 : Int32))) else (if (90 : Int32) < dv then (if dv < (48 : Int32) then (if dv = (95 : Int32) then (1 : Int32) else (0 : Int32)) else (if (57 : Int32) < dv then (if dv = (95 : Int32) then (1 : Int32) else (0 : Int32)) else (1 : Int32))) else (1 : Int32))) else (if (122 : Int32) < dv then (if dv < (65 : Int32) then (if dv < (48 : Int32) then (if dv = (95 : Int32) then (1 : Int32) else (0 : Int32)) else (if (57 : Int32) < dv then (if dv = (95 : Int32) then (1 : Int32) else (0 : Int32)) else (1 : Int32))) else (if (90 : Int32) < dv then (if dv < (48 : Int32) then (if dv = (95 : Int32) then (1 : Int32) else (0 : Int32)) else (if (57 : Int32) < dv then (if dv = (95 : Int32) then (1 : Int32) else (0 : Int32)) else (1 : Int32))) else (1 : Int32))) else (1 : Int32)))))])) rfl (by rw [hml]; rfl) (lenOf own_pd0 rfl) rfl (by show 2 * 0 + _ ≤ _; exact Nat.le_of_eq rfl) (hb hby at_25) ?_
  rintro _ T4 L4 X4 ⟨rfl, N4q, e4⟩
  show own_Go _ _ _ _ _ _ _ T4 (mkF m 28 #[.val (.int p0), .val (.int p1), .val (.int cv), .val (.int dv)] [(.int (nar .boolean (if (if (dv ||| (32 : Int32)) < (97 : Int32) then (0 : Int32) else (if (122 : Int32) < (dv ||| (32 : Int32)) then (0 : Int32) else (1 : Int32))) = (0 : Int32) then (if (if (dv - (48 : Int32)) < (0 : Int32) then (0 : Int32) else (if (dv - (48 : Int32)) < (10 : Int32) then (1 : Int32) else (0 : Int32))) = (0 : Int32) then (if dv = (95 : Int32) then (1 : Int32) else (0 : Int32)) else (1 : Int32)) else (1 : Int32)))), (.int (nar .boolean (if dv < (97 : Int32) then (if dv < (65 : Int32) then (if dv < (48 : Int32) then (if dv = (95 : Int32) then (1 : Int32) else (0 : Int32)) else (if (57 : Int32) < dv then (if dv = (95 : Int32) then (1 : Int32) else (0 : Int32)) else (1 : Int32))) else (if (90 : Int32) < dv then (if dv < (48 : Int32) then (if dv = (95 : Int32) then (1 : Int32) else (0 : Int32)) else (if (57 : Int32) < dv then (if dv = (95 : Int32) then (1 : Int32) else (0 : Int32)) else (1 : Int32))) else (1 : Int32))) else (if (122 : Int32) < dv then (if dv < (65 : Int32) then (if dv < (48 : Int32) then (if dv = (95 : Int32) then (1 : Int32) else (0 : Int32)) else (if (57 : Int32) < dv then (if dv = (95 : Int32) then (1 : Int32) else (0 : Int32)) else (1 : Int32))) else (if (90 : Int32) < dv then (if dv < (48 : Int32) then (if dv = (95 : Int32) then (1 : Int32) else (0 : Int32)) else (if (57 : Int32) < dv then (if dv = (95 : Int32) then (1 : Int32) else (0 : Int32)) else (1 : Int32))) else (1 : Int32))) else (1 : Int32)))))])
  have N4 := Fr.app N3 N4q
  refine own_st (T' := T4) (g' := (mkF m 31 #[.val (.int p0), .val (.int p1), .val (.int cv), .val (.int dv)] [])) (fun _ k => XS.icmpNo X4.here hx rfl (hb hby at_28) rfl (teq (own_law dv (by rw [← hdv]; exact (c_i2c _).2.1) : ((nar .boolean (if dv < (97 : Int32) then (if dv < (65 : Int32) then (if dv < (48 : Int32) then (if dv = (95 : Int32) then (1 : Int32) else (0 : Int32)) else (if (57 : Int32) < dv then (if dv = (95 : Int32) then (1 : Int32) else (0 : Int32)) else (1 : Int32))) else (if (90 : Int32) < dv then (if dv < (48 : Int32) then (if dv = (95 : Int32) then (1 : Int32) else (0 : Int32)) else (if (57 : Int32) < dv then (if dv = (95 : Int32) then (1 : Int32) else (0 : Int32)) else (1 : Int32))) else (1 : Int32))) else (if (122 : Int32) < dv then (if dv < (65 : Int32) then (if dv < (48 : Int32) then (if dv = (95 : Int32) then (1 : Int32) else (0 : Int32)) else (if (57 : Int32) < dv then (if dv = (95 : Int32) then (1 : Int32) else (0 : Int32)) else (1 : Int32))) else (if (90 : Int32) < dv then (if dv < (48 : Int32) then (if dv = (95 : Int32) then (1 : Int32) else (0 : Int32)) else (if (57 : Int32) < dv then (if dv = (95 : Int32) then (1 : Int32) else (0 : Int32)) else (1 : Int32))) else (1 : Int32))) else (1 : Int32)))) = (nar .boolean (if (if (dv ||| (32 : Int32)) < (97 : Int32) then (0 : Int32) else (if (122 : Int32) < (dv ||| (32 : Int32)) then (0 : Int32) else (1 : Int32))) = (0 : Int32) then (if (if (dv - (48 : Int32)) < (0 : Int32) then (0 : Int32) else (if (dv - (48 : Int32)) < (10 : Int32) then (1 : Int32) else (0 : Int32))) = (0 : Int32) then (if dv = (95 : Int32) then (1 : Int32) else (0 : Int32)) else (1 : Int32)) else (1 : Int32)))))).2 k) ?_
  refine own_st (T' := T4) (g' := (mkF m 32 #[.val (.int p0), .val (.int p1), .val (.int cv), .val (.int dv)] [(.int (1 : Int32))])) (fun _ k => XS.iconst X4.here hx rfl (hb hby at_31) k) ?_
  refine own_st (T' := T4) (g' := (mkF m 36 #[.val (.int p0), .val (.int p1), .val (.int cv), .val (.int dv)] [(.int (1 : Int32))])) (fun _ k => XS.goto X4.here hx rfl (pc0 := 32) (pc' := 36) rfl (hb hby at_32) (by decide) (by decide) k) ?_
  exact own_retN X4 hx hlk hret (by simp) (hb hby at_36) ⟨rfl, N4⟩ (by decide) (by decide)
set_option maxRecDepth 65536 in
set_option maxHeartbeats 40000000 in
theorem comes_1 {Post : Tables → Env → Array Value → State → Outcome → State → Prop} (hpost : ∀ tb e args s v u, (limb_1_1.after args s (.returned v) u = true ∧ limb_1_2.after args s (.returned v) u = true ∧ True) → FrameEnd s (.returned v) u (Jvm.fieldLocs frame_1_writes args s ++ Jvm.arrayLocs frame_1_arrays args s ++ Jvm.staticLocs frame_1_statics s) 0 0 → Post tb e args s (.returned v) u) :
    ArmFor flags0 classFile x code maxLocals ret World_1 tables_1 room_1 Calls_1 rest_1 Pre_1 Post := by
  intro l hfl _ _ p e ha hc hk s m args below hf hA hF happ hP
  obtain ⟨hcalls, hrest, hpre⟩ := hP
  obtain ⟨-, -, -, hnamed, -, -, -, hat⟩ := (Spec.applies_iff hf).mp happ
  obtain ⟨hg, hn⟩ := and_e (Cond.before_iff.mp (show (Jvm.Cond.and given_1 narrow_1).before args s = true from hpre))
  obtain ⟨h1, g0⟩ := and_e hg
  obtain ⟨w0, w1, rfl⟩ : ∃ w0 w1 : Value, args = #[w0, w1] := by
    have hs : args.size = 2 := by simpa [Cond.value, given_1] using h1
    obtain ⟨L⟩ := args
    match L, hs with
    | [w0, w1], _ => exact ⟨w0, w1, rfl⟩
  have hw := fun d (hd : d ∈ tables_1) => atoms_spec (ws := Jvm.Cond.code x code maxLocals ret :: tables_1) hat d (List.mem_cons_of_mem _ hd)
  have hfit : Fit s := fun {y c} hc i hi => by
    obtain ⟨ha, rfl⟩ := Array.getElem?_eq_some_iff.mp hc
    have q := List.all_eq_true.mp ((Array.all_eq_true_iff_forall_mem.mp hF) _ (Array.getElem_mem ha)) i (List.mem_range.mpr hi)
    simpa [Array.getElem?_eq_getElem hi] using q
  obtain ⟨q0, g1⟩ := and_e g0
  obtain ⟨i0, e0⟩ := is_v q0
  obtain rfl : w0 = (.int i0) := Option.some.inj e0
  obtain ⟨i1, e1⟩ := is_v g1
  obtain rfl : w1 = (.int i1) := Option.some.inj e1
  obtain ⟨n, o, h1, h2, h3, _, L, rfl, ⟨rfl, N⟩, hq⟩ := rm0 l s _ hw tables_1 i0 i1  s.heap s.heap.size (Nat.le_refl _)  p e ha hc hk s m _ below hf ((Spec.applies_iff_loose hf).mp happ).1 ⟨rfl, State.Warmed39.refl s, rfl⟩ trivial
  refine ⟨n, _, h1, h2, h3, hpost _ _ _ _ _ _ ⟨Cond.after_iff.mpr rfl, Cond.after_iff.mpr (eq_i res_at (Term.int_eval (1)) rfl), trivial⟩ ⟨hq.1, hq.2.1, (hq.2.2.sift fun y hy => Or.inr (N y hy)).mono (by decide) (by decide)⟩⟩
theorem main_1_1 : Claimed_1_1 := comes_1 fun _ _ _ _ _ _ h hF => ⟨h.1, hF⟩
theorem main_1_2 : Claimed_1_2 := comes_1 fun _ _ _ _ _ _ h hF => ⟨h.2.1, hF⟩
end Jvm.Pilot.@@N@@
namespace Jvm.Pilot.@@N@@
open Jvm Jvm.ClassFile Sem Op Lib Jvm.Free Jvm.Stand Jvm.Pilot.@@N@@.Jvm.D
/-! MADE BY PROGRAM (witnessworld.py) out of the Statement's table words and the real class files: 9 classes; the members and pool entries that the words name. The judged class is class 1, her method 1. -/
namespace start1
open Jvm.ClassFile
def u (s : String) : CpInfo := .utf8 (stringToUtf16 s)
/-- a pool by its gaps: so many unusable entries, then the entry; so many at the end -/
def gap : Nat → List CpInfo → List CpInfo
  | 0, r => r
  | n + 1, r => .unusable :: gap n r
def poolList (es : List (Nat × CpInfo)) (last : Nat) : List CpInfo := es.foldr (fun e r => gap e.1 (e.2 :: r)) (gap last [])
def pool (es : List (Nat × CpInfo)) (last : Nat) : Array CpInfo := ⟨poolList es last⟩
def fileOf (pool : Array CpInfo) (this : Nat) (attrs : Array Attribute := #[]) (ms : Array MethodInfo := #[]) (fl : Nat := 33) (sup : Nat := 0) (ifs : Array Nat := #[]) (fds : Array FieldInfo := #[]) : ClassFile where
  minorVersion := 0
  majorVersion := 65
  constantPool := pool
  accessFlags := fl
  thisClass := this
  superClass := sup
  interfaces := ifs
  fields := fds
  methods := ms
  attributes := attrs
def plain (name : String) (sup : Option ClassId) : Class where
  name := name
  kind := .ordinary
  loader := none
  accessFlags := 33
  super := sup
  interfaces := #[]
  cf := none
  fields := #[]
  methods := #[]
  instanceTypes := #[]
  staticTypes := #[]
  resolved := #[]
  callSites := []
  init := .initialized
  statics := none
  mirror := none

def pool0 : Array CpInfo := pool [(5, u "<init>"), (0, u "()V"), (1, .class_ 10), (1, u "java/lang/Object")] 113

def k0m0 : Method := { name := "<init>", desc := "()V", sig := { parameters := [], returnType := none }, accessFlags := 1, code := none }
/-- java/lang/Object -/
def k0 : Class := { plain "java/lang/Object" none with
  accessFlags := 33
  interfaces := #[]
  cf := some (fileOf pool0 8 #[] #[{ accessFlags := 1, nameIndex := 5, descriptorIndex := 6, attributes := #[] }] 33 0 #[] #[])
  fields := #[]
  methods := #[k0m0]
  instanceTypes := #[]
  staticTypes := #[]
  resolved := Array.replicate 124 none
  statics := none }

def pool1 : Array CpInfo := pool [(2, .class_ 4), (1, u "java/lang/Object"), (0, u "<init>"), (0, u "()V"), (0, .methodref 8 9), (0, .class_ 10), (0, .nameAndType 11 12), (0, u site_10.cls), (0, u "isNameCharacter"), (0, u "(C)Z"), (0, .methodref 14 15), (0, .class_ 16), (0, .nameAndType 17 12), (0, u x.cls), (0, u "expected"), (2, u "law"), (0, u "(II)Z")] 3

def k1m0 : Method := { name := "<init>", desc := "()V", sig := { parameters := [], returnType := none }, accessFlags := 1, code := none }
def k1c1 : Code := { maxStack := 2, maxLocals := 4, code := code, exceptionTable := #[], attributes := #[] }
def k1m1 : Method := { name := "law", desc := "(II)Z", sig := { parameters := [.int, .int], returnType := some .boolean }, accessFlags := 9, code := some k1c1 }
def k1c2 : Code := { maxStack := 2, maxLocals := 5, code := method_3_code, exceptionTable := #[], attributes := #[] }
def k1m2 : Method := { name := "expected", desc := "(C)Z", sig := { parameters := [.char], returnType := some .boolean }, accessFlags := 10, code := some k1c2 }
def k1 : Class := { plain x.cls (some 0) with
  accessFlags := 49
  interfaces := #[]
  cf := some (fileOf pool1 14 #[] #[{ accessFlags := 1, nameIndex := 5, descriptorIndex := 6, attributes := #[] }, { accessFlags := 9, nameIndex := 20, descriptorIndex := 21, attributes := #[] }, { accessFlags := 10, nameIndex := 17, descriptorIndex := 12, attributes := #[] }] 49 2 #[] #[])
  fields := #[]
  methods := #[k1m0, k1m1, k1m2]
  instanceTypes := #[]
  staticTypes := #[]
  resolved := Array.replicate 25 none
  statics := none }

def pool2 : Array CpInfo := pool [(2, .class_ 4), (1, u "java/lang/Object"), (3, .class_ 10), (1, u site_10.cls), (0, u "line"), (0, u "I"), (2, u "text"), (0, u "Ljava/lang/String;"), (2, u "source"), (2, u "position"), (8, u "lineStart"), (11, u "isNameCharacter"), (0, u "(C)Z")] 170

def k2c0 : Code := { maxStack := 2, maxLocals := 1, code := prog_155_method_10_code, exceptionTable := #[], attributes := #[] }
def k2m0 : Method := { name := "isNameCharacter", desc := "(C)Z", sig := { parameters := [.char], returnType := some .boolean }, accessFlags := 8, code := some k2c0 }
def k2 : Class := { plain site_10.cls (some 0) with
  accessFlags := 1056
  interfaces := #[]
  cf := some (fileOf pool2 8 #[] #[{ accessFlags := 8, nameIndex := 43, descriptorIndex := 44, attributes := #[] }] 1056 2 #[] #[{ accessFlags := 16, nameIndex := 15, descriptorIndex := 16, attributes := #[] }, { accessFlags := 18, nameIndex := 19, descriptorIndex := 16, attributes := #[] }, { accessFlags := 0, nameIndex := 22, descriptorIndex := 12, attributes := #[] }, { accessFlags := 2, nameIndex := 11, descriptorIndex := 12, attributes := #[] }, { accessFlags := 0, nameIndex := 31, descriptorIndex := 12, attributes := #[] }])
  fields := #[{ name := "text", type := (.object "java/lang/String"), accessFlags := 16, slot := 0, constantValue := 0 }, { name := "source", type := (.object "java/lang/String"), accessFlags := 18, slot := 1, constantValue := 0 }, { name := "position", type := .int, accessFlags := 0, slot := 2, constantValue := 0 }, { name := "line", type := .int, accessFlags := 2, slot := 3, constantValue := 0 }, { name := "lineStart", type := .int, accessFlags := 0, slot := 4, constantValue := 0 }]
  methods := #[k2m0]
  instanceTypes := #[(.object "java/lang/String"), (.object "java/lang/String"), .int, .int, .int]
  staticTypes := #[]
  resolved := Array.replicate 215 none
  statics := none }

def pool3 : Array CpInfo := pool [(1, u "java/lang/Cloneable"), (0, .class_ 1), (0, u "java/lang/Object"), (0, .class_ 3)] 3

/-- java/lang/Cloneable -/
def k3 : Class := { plain "java/lang/Cloneable" (some 0) with
  accessFlags := 1537
  interfaces := #[]
  cf := some (fileOf pool3 2 #[] #[] 1537 4 #[] #[])
  fields := #[]
  methods := #[]
  instanceTypes := #[]
  staticTypes := #[]
  resolved := Array.replicate 8 none
  statics := none }

def pool4 : Array CpInfo := pool [(1, u "java/io/Serializable"), (0, .class_ 1), (0, u "java/lang/Object"), (0, .class_ 3)] 3

/-- java/io/Serializable -/
def k4 : Class := { plain "java/io/Serializable" (some 0) with
  accessFlags := 1537
  interfaces := #[]
  cf := some (fileOf pool4 2 #[] #[] 1537 4 #[] #[])
  fields := #[]
  methods := #[]
  instanceTypes := #[]
  staticTypes := #[]
  resolved := Array.replicate 8 none
  statics := none }

/-- the primitive byte -/
def k5 : Class := { plain "byte" none with kind := .primitive 'B', accessFlags := 0x411 }
/-- [B -/
def k6 : Class := { plain "[B" (some 0) with kind := .array 5 .byte, interfaces := #[3, 4], accessFlags := 1041 }

/-- the primitive int -/
def k7 : Class := { plain "int" none with kind := .primitive 'I', accessFlags := 0x411 }
/-- [I -/
def k8 : Class := { plain "[I" (some 0) with kind := .array 7 .int, interfaces := #[3, 4], accessFlags := 1041 }

def heap : Heap := #[]
def classes : Array Class := #[k0, k1, k2, k3, k4, k5, k6, k7, k8]
def interned : List (Array UInt16 × Addr) := []
def slotsUsed : Nat := 0
def theMethod : MethodId := ⟨1, 1⟩
def args0 : Array Value := #[.int 65, .int 66]
def aboutOver (below : List Frame) : State where
  vm := { classes := classes, interned := interned.toArray }
  heap := heap
  slotsUsed := slotsUsed
  threads := #[{ frames := .invoking theMethod args0 :: below }]
def below0 : List Frame := [.native { method := ⟨0, 0⟩, args := #[] }]
def about1 : State := aboutOver below0
def p0 : Program := .bare "" "" ""
def e0 : Env := launch0.env 0 0 0
theorem w_frames : about1.frames = Frame.invoking theMethod args0 :: below0 := rfl
set_option maxRecDepth 65536 in
theorem w_args : argsFit about1.vm theMethod args0 = true := by decide +kernel
set_option maxRecDepth 65536 in
theorem w_heap : heapFits about1 = true := by decide +kernel
set_option maxRecDepth 65536 in
theorem w_runnable : about1.curStatus? = some .runnable := by decide +kernel
set_option maxRecDepth 65536 in
theorem w_alone : about1.alone = true := by decide +kernel
set_option maxRecDepth 65536 in
theorem w_named : about1.methodNamed? x = some theMethod := by decide +kernel
set_option maxRecDepth 65536 in
theorem w_hears : about1.hears theMethod below0 = true := by decide +kernel
set_option maxRecDepth 65536 in
theorem w_ripe : about1.ripe theMethod args0 below0 = true := by decide +kernel
theorem w_running : about1.status = .running := rfl
set_option maxRecDepth 65536 in
theorem w_room : about1.hasRoom e0.platform room_1 = true :=
  launch0.hasRoom_least _ room_1 (by decide +kernel) (by decide +kernel) (by decide +kernel) (by decide +kernel) (by decide +kernel) (by decide +kernel)
theorem allAtoms_all (ts : List Jvm.Cond) (a : Array Jvm.Value) (st : Jvm.State) : (allAtoms ts).before a st = ts.all (fun c => c.before a st) := by
  induction ts with
  | nil => rfl
  | cons c t ih =>
    show (Jvm.Cond.and c (allAtoms t)).before a st = _
    rw [Jvm.Cond.before_and, ih, List.all_cons]
def words1 : List Jvm.Cond := Jvm.Cond.code x code maxLocals ret :: tables_1
/-- a 'code' word, met by the world's own term for the bytes: nothing is compared byte by byte -/
theorem code_word {y : MethodName} {bytes : ByteArray} {mx : Nat} {rt : Option FieldType} {a : Array Value} {s : State} {m : MethodId} {meth : Method} {c : Code} (h1 : s.methodNamed? y = some m) (h2 : s.vm.method? m = some meth) (h3 : meth.code = some c) (h4 : c.code = bytes)
    (h5 : (c.maxLocals == mx && c.exceptionTable.isEmpty && decide (c.maxStack ≤ mostOperands) && decide (meth.sig.returnType = rt) && !meth.locks && decide (parseMethodDescriptor y.desc = some meth.sig)) = true) : (Jvm.Cond.code y bytes mx rt).before a s = true := by
  simp only [Bool.and_eq_true, beq_iff_eq, Bool.not_eq_true', decide_eq_true_eq] at h5
  obtain ⟨⟨⟨⟨⟨g1, g2⟩, g3⟩, g4⟩, g5⟩, g6⟩ := h5
  simp [Cond.before, Cond.holds, Cond.value, h1, h2, h3, h4, g1, g2, g3, g4, g5, g6]
def isCode : Jvm.Cond → Bool
  | .code _ _ _ _ => true
  | _ => false
theorem all_split {L : List Jvm.Cond} {P : Jvm.Cond → Bool} (h1 : L.all (fun c => isCode c || P c) = true) (h2 : ∀ c ∈ L.filter isCode, P c = true) : L.all P = true := by
  refine List.all_eq_true.mpr fun c hc => ?_
  have h := List.all_eq_true.mp h1 c hc
  rcases Bool.eq_false_or_eq_true (isCode c) with hi | hi
  · exact h2 c (List.mem_filter.mpr ⟨hc, hi⟩)
  · simpa [hi] using h
set_option maxRecDepth 65536 in
theorem w_c0 : (Jvm.Cond.code x code maxLocals ret).before args0 about1 = true := code_word (m := ⟨1, 1⟩) (meth := k1m1) (c := k1c1) (by decide +kernel) rfl rfl rfl (by decide +kernel)
set_option maxRecDepth 65536 in
theorem w_c1 : (Jvm.Cond.code ({ cls := site_10.cls, name := "isNameCharacter", desc := "(C)Z" } : Jvm.MethodName) prog_155_method_10_code (1 : Nat) (Option.some Jvm.ClassFile.FieldType.boolean)).before args0 about1 = true := code_word (m := ⟨2, 0⟩) (meth := k2m0) (c := k2c0) (by decide +kernel) rfl rfl rfl (by decide +kernel)
set_option maxRecDepth 65536 in
theorem w_c2 : (Jvm.Cond.code ({ cls := x.cls, name := "expected", desc := "(C)Z" } : Jvm.MethodName) method_3_code (5 : Nat) (Option.some Jvm.ClassFile.FieldType.boolean)).before args0 about1 = true := code_word (m := ⟨1, 2⟩) (meth := k1m2) (c := k1c2) (by decide +kernel) rfl rfl rfl (by decide +kernel)
def codes1 : List Jvm.Cond := [Jvm.Cond.code x code maxLocals ret, Jvm.Cond.code ({ cls := site_10.cls, name := "isNameCharacter", desc := "(C)Z" } : Jvm.MethodName) prog_155_method_10_code (1 : Nat) (Option.some Jvm.ClassFile.FieldType.boolean), Jvm.Cond.code ({ cls := x.cls, name := "expected", desc := "(C)Z" } : Jvm.MethodName) method_3_code (5 : Nat) (Option.some Jvm.ClassFile.FieldType.boolean)]
set_option maxRecDepth 65536 in
theorem codes_eq : words1.filter isCode = codes1 := rfl
theorem w_codes : ∀ c ∈ words1.filter isCode, c.before args0 about1 = true := by
  rw [codes_eq]
  intro c hc
  simp only [codes1, List.mem_cons, List.not_mem_nil, or_false] at hc
  rcases hc with rfl | rfl | rfl
  · exact w_c0
  · exact w_c1
  · exact w_c2
set_option maxRecDepth 65536 in
theorem w_t1 : words1.all (fun c => isCode c || c.before args0 about1) = true := by decide +kernel
theorem w_tables : (allAtoms (Jvm.Cond.code x code maxLocals ret :: tables_1)).before args0 about1 = true := by
  rw [allAtoms_all]
  show words1.all (fun c => c.before args0 about1) = true
  refine all_split ?_ w_codes
  rw [w_t1]
set_option maxRecDepth 65536 in
theorem w_case : (Jvm.Cond.and given_1 narrow_1).before args0 about1 = true := by decide +kernel
theorem w_applies : (headSpec (Jvm.Cond.code x code maxLocals ret :: tables_1) room_1).applies x e0.platform about1 = true :=
  (Spec.applies_iff w_frames).mpr ⟨w_running, w_runnable, w_alone, w_named, w_hears, w_ripe, w_room, w_tables⟩
theorem atStart : AtStart classFile x code maxLocals ret World_1 tables_1 room_1 Calls_1 rest_1 Pre_1 launch0 p0 e0 about1 theMethod args0 below0 :=
  ⟨lists_1, trivial, launch0.admits_env _ _ _, launch0.least_env, fairChoices_fair.cas, fairChoices_fair.clock, w_frames, w_args, w_heap, w_applies, trivial, trivial, w_case⟩
end start1
theorem witness_1 : WitnessClaimed_1 := ⟨start1.p0, start1.e0, start1.about1, start1.theMethod, start1.args0, start1.below0, start1.atStart⟩
end Jvm.Pilot.@@N@@
