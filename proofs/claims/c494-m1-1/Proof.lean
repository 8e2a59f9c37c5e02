import JvmDerived
import JvmDerived.Pilot.@@N@@Statement
import JvmDerived.Pilot.@@N@@Code
set_option linter.unusedVariables false
set_option linter.unusedSimpArgs false
namespace Jvm.Pilot.@@N@@
open Jvm Jvm.ClassFile Sem Op Lib Jvm.Free Jvm.Stand Jvm.LawKit Jvm.RoadKit Bundle Jvm.Pilot.@@N@@.Jvm.D
/-! ## Own: a walk forward: from here the run comes to an end that K takes -/
section Own
variable {p : Program} {l : Launch} {e : Env} {R : Room} {s : State} {m : MethodId} {args : Array Value} {below : List Frame} {meth : Method} {c : Code} {T : State} {locs : List Loc} {cells slots : Nat} {K : State → Prop}
def Go (p : Program) (e : Env) (below : List Frame) (K : State → Prop) (S : State) : Prop := ∃ t, Steps p.tables e below S t ∧ K t
theorem go {S S' : State} (h : ∀ t, Steps p.tables e below S' t → Steps p.tables e below S t) (g : Go p e below K S') : Go p e below K S := by
  obtain ⟨t, h1, h2⟩ := g
  exact ⟨t, h t h1, h2⟩
/-- the end of a body: what is returned, the heap and the written places fulfil Q, within so many cells and slots -/
def Dn (below : List Frame) (s : State) (Q : Option Value → Heap → List Loc → Prop) (C N : Nat) (t : State) : Prop := ∃ v L, t.status = .running ∧ Ended t below (.returned v) ∧ Q v t.heap L ∧ FrameEnd s (.returned v) t L C N
variable {Q : Option Value → Heap → List Loc → Prop} {C N : Nat}
theorem own_retI (X : Stand p l e R s m args below meth c T locs cells slots) (hx : p.tables.exec = Jvm.exec) (hlk : meth.locks = false) {pc : Nat} {Ls : Array Slot} {z : Int32} {rest : List Value} (hret : meth.sig.returnType = some .int) (hd : decode c.code pc = .ok (.ireturn, 1))
    (hC : cells ≤ C) (hN : slots ≤ N) (hQ : Q (some (.int z)) T.heap locs) : Go p e below (Dn below s Q C N) (T.setTop (mkF m pc Ls (.int z :: rest))) := by
  obtain ⟨fs, hr, hrun, hended, hW, hsame⟩ := X.leave (v := some (.int z)) (fun h => by rw [hret] at h; cases h) hlk
  refine ⟨_, ?_, _, _, hrun, hended, hQ, ⟨_, rfl⟩, hW, hsame.mono hC hN⟩
  have hm' : T.vm.method? m = some meth := X.method'
  have hn : narrow .int (.int z) = .int z := rfl
  show Steps p.tables e below (T.setTop { method := m, pc := pc, locals := Ls, stack := _ :: rest, locked := none }) _
  jvm_step X.here [X.here.top, hx, hd, hm', hret, hn]
  first | (intro acts; rw [hr _ acts rfl rfl rfl]) | rw [hr _ _ rfl rfl rfl]
  exact Steps.refl _
theorem own_retZ (X : Stand p l e R s m args below meth c T locs cells slots) (hx : p.tables.exec = Jvm.exec) (hlk : meth.locks = false) {pc : Nat} {Ls : Array Slot} {z z' : Int32} {rest : List Value} (hret : meth.sig.returnType = some .boolean) (hd : decode c.code pc = .ok (.ireturn, 1))
    (hC : cells ≤ C) (hN : slots ≤ N) (hz : nar .boolean z = z') (hQ : Q (some (.int z')) T.heap locs) : Go p e below (Dn below s Q C N) (T.setTop (mkF m pc Ls (.int z :: rest))) := by
  subst hz
  obtain ⟨fs, hr, hrun, hended, hW, hsame⟩ := X.leave (v := some (.int (nar .boolean z))) (fun h => by rw [hret] at h; cases h) hlk
  exact ⟨_, retN X hx (t := .boolean) hret (by simp) hd hr, _, _, hrun, hended, hQ, ⟨_, rfl⟩, hW, hsame.mono hC hN⟩
theorem own_retJ (X : Stand p l e R s m args below meth c T locs cells slots) (hx : p.tables.exec = Jvm.exec) (hlk : meth.locks = false) {pc : Nat} {Ls : Array Slot} {z : Int64} (hret : meth.sig.returnType = some .long) (hd : decode c.code pc = .ok (.lreturn, 1))
    (hC : cells ≤ C) (hN : slots ≤ N) (hQ : Q (some (.long z)) T.heap locs) : Go p e below (Dn below s Q C N) (T.setTop (mkF m pc Ls [.long z])) := by
  obtain ⟨fs, hr, hrun, hended, hW, hsame⟩ := X.leave (v := some (.long z)) (fun h => by rw [hret] at h; cases h) hlk
  exact ⟨_, X.lreturnOut hx hret hd hr, _, _, hrun, hended, hQ, ⟨_, rfl⟩, hW, hsame.mono hC hN⟩
theorem own_retA (X : Stand p l e R s m args below meth c T locs cells slots) (hx : p.tables.exec = Jvm.exec) (hlk : meth.locks = false) {pc : Nat} {Ls : Array Slot} {w : Value} {t : FieldType} (hw : w.isRef = true) (hret : meth.sig.returnType = some t) (ht : t.isReference = true) (hd : decode c.code pc = .ok (.areturn, 1))
    (hC : cells ≤ C) (hN : slots ≤ N) (hQ : Q (some w) T.heap locs) : Go p e below (Dn below s Q C N) (T.setTop (mkF m pc Ls [w])) := by
  obtain ⟨fs, hr, hrun, hended, hW, hsame⟩ := X.leave (v := some w) (fun h => by rw [hret] at h; cases h) hlk
  exact ⟨_, X.areturnOut hx hw hret ht hd hr, _, _, hrun, hended, hQ, ⟨_, rfl⟩, hW, hsame.mono hC hN⟩
theorem own_retV (X : Stand p l e R s m args below meth c T locs cells slots) (hx : p.tables.exec = Jvm.exec) (hlk : meth.locks = false) {pc : Nat} {Ls : Array Slot} (hret : meth.sig.returnType = none) (hd : decode c.code pc = .ok (.return_, 1))
    (hC : cells ≤ C) (hN : slots ≤ N) (hQ : Q none T.heap locs) : Go p e below (Dn below s Q C N) (T.setTop (mkF m pc Ls [])) := by
  obtain ⟨fs, hr, hrun, hended, hW, hsame⟩ := X.leave (v := none) (fun _ => rfl) hlk
  exact ⟨_, X.returnOut hx hret hd hr, _, _, hrun, hended, hQ, ⟨_, rfl⟩, hW, hsame.mono hC hN⟩
theorem own_lrem {g : JFrame} {target : State} (X : Stand p l e R s m args below meth c T locs cells slots) (hx : p.tables.exec = Jvm.exec) (hg : g.method = m) {x y : Int64} {rest : List Value} (hd : decode c.code g.pc = .ok (.lrem, 1)) (hs : g.stack = .long y :: .long x :: rest) (hy : y ≠ 0)
    (hr : Steps p.tables e below (T.setTop { g with pc := g.pc + 1, stack := .long (x % y) :: rest }) target) : Steps p.tables e below (T.setTop g) target := by
  have q : x - x / y * y = x % y := lrem_mod x y
  exact XS.lrem X.here hx hg hd hs hy (by rw [q]; exact hr)
/-- what a body's walk is handed -/
theorem own_met {x : MethodName} {code : ByteArray} {maxL : Nat} {ret : Option FieldType} {ws : List Jvm.Cond} {as' : Array Value} {L0 : Array Slot} {Z : State} {h0 : Heap} (hpl : plainFor x = true) (hef : ∀ m, entryFrame m as' maxL = mkF m 0 L0 [])
    (body : ∀ (p : Program) (e : Env) (s : State) (m : MethodId) (below : List Frame) (meth : Method) (c : Code) (T : State), p.tables.exec = Jvm.exec → c.code = code → c.maxLocals = maxL → s.vm.findClass x.cls = some m.cls → meth.name = x.name → meth.sig.returnType = ret → meth.locks = false → Z.Warmed39 s.vm →
      Stand p l e R s m as' below meth c T [] 0 0 → T.heap = h0 → Go p e below (Dn below s Q R.cells R.slots) (T.setTop (mkF m 0 L0 []))) :
    MetFree l x (head1 (Jvm.Cond.code x code maxL ret :: ws) R) (fun a U => a = as' ∧ Z.Warmed39 U.vm ∧ U.heap = h0) (fun _ _ _ _ _ => True) (fun _ U o U' => ∃ v L, o = .returned v ∧ Q v U'.heap L ∧ FrameEnd U o U' L R.cells R.slots) := by
  refine MetFree.of_bodySF hpl hisR ?_
  intro p e s m args below meth c s₁ Bd hml0 hP hK
  obtain ⟨rfl, hZ, hh⟩ := hP
  obtain ⟨t, h1, v, L, h2, h3, h4, h5⟩ := body p e s m below meth c s₁ Bd.exec Bd.bytes hml0 (findClass_of_methodNamed Bd.named) (name_of_methodNamed Bd.named Bd.method).1 Bd.returns (BodyLoose.notSynchronized Bd) hZ (Stand.of_body Bd) (by rw [← hh, Bd.state]; rfl)
  exact ⟨t, .returned v, castTop (hef m) h1, h2, h3, v, L, rfl, h4, h5⟩
section Calls
variable {Z : State} {a0 : Array Value} {own : String} {idx : Nat} {y : MethodName} {bytes : ByteArray} {maxL W : Nat} {ret : Option FieldType} {rm : Room} {as' : Array Value} {h : Heap}
/-- a static call by the callee's contract -/
theorem own_callS (X : Stand p l e R s m args below meth c T locs cells slots) (hx : p.tables.exec = Jvm.exec) (hZ : Z.Warmed39 s.vm) (hown : s.vm.findClass own = some m.cls) (eT : T.heap = h)
    (w1 : (Jvm.Cond.methodLink own idx y).before a0 Z = true) (w2 : (Jvm.Cond.static y).before a0 Z = true) (w3 : (Jvm.Cond.initialized y.cls).before a0 Z = true) (w4 : (Jvm.Cond.code y bytes maxL ret).before a0 Z = true)
    (hM : MetFree l y (head1 [Jvm.Cond.code y bytes maxL ret] rm) (fun a U => a = as' ∧ Z.Warmed39 U.vm ∧ U.heap = h) (fun _ _ _ _ _ => True) (fun _ U o U' => ∃ v L, o = .returned v ∧ Q v U'.heap L ∧ FrameEnd U o U' L rm.cells rm.slots))
    (hy : y.cls ≠ "java/lang/invoke/MethodHandle" ∧ y.cls ≠ "java/lang/invoke/VarHandle") (hf : rm.frames + 1 ≤ R.frames) (hl : W + (maxL + 11) + rm.locals ≤ R.locals) (hc : cells + rm.cells ≤ R.cells) (hs : slots + rm.slots ≤ R.slots)
    {g : JFrame} (hg : g.method = m) (hsize : g.locals.size = c.maxLocals) {argsL rest : List Value} (hst : g.stack = argsL.reverse ++ rest) (has : argsL.toArray = as') (hlen : ∀ sig, parseMethodDescriptor y.desc = some sig → argsL.length = sig.parameters.length)
    (hW : 2 * g.monitorRoom + (rest.map fun v => v.category).sum ≤ W) (hd : decode c.code g.pc = .ok (.invokestatic idx, 3))
    (k : ∀ v T' L, Stand p l e R s m args below meth c T' (locs ++ L) (cells + rm.cells) (slots + rm.slots) → Q v T'.heap L → Go p e below K (T'.setTop { g with pc := g.pc + 3, stack := v.toList ++ rest })) : Go p e below K (T.setTop g) := by
  obtain ⟨v, _, ⟨T', L', k', n'⟩, -, X', ⟨Lc, hQ, l1, y1, z1⟩, st⟩ := Jvm.LawKit.callS X hx (y := y) hown (mvT hZ w1) (mvT hZ w2) (mvT hZ w3) (mvT hZ w4) hy (backOf (W := W) hM hZ w4 w3 hf hl) hg hsize hlen hst hW hd (fun _ _ => ⟨has, eT, hc, hs⟩)
  dsimp only [Pt.U, Pt.locs, Pt.cells, Pt.slots] at X' l1 y1 z1 st hQ
  subst l1 y1 z1
  exact go st (k _ _ _ X' hQ)
/-- a constructor by its contract -/
theorem own_callC (X : Stand p l e R s m args below meth c T locs cells slots) (hx : p.tables.exec = Jvm.exec) (hZ : Z.Warmed39 s.vm) (hown : s.vm.findClass own = some m.cls) (eT : T.heap = h)
    (w1 : (Jvm.Cond.methodLink own idx y).before a0 Z = true) (w2 : (Jvm.Cond.instanceMethod y).before a0 Z = true) (w3 : (Jvm.Cond.initialized y.cls).before a0 Z = true) (w4 : (Jvm.Cond.code y bytes maxL none).before a0 Z = true)
    (hM : MetFree l y (head1 [Jvm.Cond.code y bytes maxL none] rm) (fun a U => a = as' ∧ Z.Warmed39 U.vm ∧ U.heap = h) (fun _ _ _ _ _ => True) (fun _ U o U' => ∃ v L, o = .returned v ∧ Q v U'.heap L ∧ FrameEnd U o U' L rm.cells rm.slots))
    (hyn : y.name = "<init>") (hy : y.cls ≠ "java/lang/invoke/MethodHandle" ∧ y.cls ≠ "java/lang/invoke/VarHandle") (hf : rm.frames + 1 ≤ R.frames) (hl : W + (maxL + 11) + rm.locals ≤ R.locals) (hc : cells + rm.cells ≤ R.cells) (hs : slots + rm.slots ≤ R.slots)
    {g : JFrame} (hg : g.method = m) (hsize : g.locals.size = c.maxLocals) {a : Addr} {argsL rest : List Value} (hst : g.stack = argsL.reverse ++ .ref a :: rest) (has : (.ref a :: argsL).toArray = as') (hlen : ∀ sig, parseMethodDescriptor y.desc = some sig → argsL.length = sig.parameters.length)
    (hW : 2 * g.monitorRoom + (rest.map fun v => v.category).sum ≤ W) (hd : decode c.code g.pc = .ok (.invokespecial idx, 3))
    (k : ∀ v T' L, Stand p l e R s m args below meth c T' (locs ++ L) (cells + rm.cells) (slots + rm.slots) → Q v T'.heap L → Go p e below K (T'.setTop { g with pc := g.pc + 3, stack := v.toList ++ rest })) : Go p e below K (T.setTop g) := by
  obtain ⟨v, _, ⟨T', L', k', n'⟩, -, X', ⟨Lc, hQ, l1, y1, z1⟩, st⟩ := X.specialBack hx (y := y) hyn hown (mvT hZ w1) (mvT hZ w2) (mvT hZ w4) hy (backOf (W := W) hM hZ w4 w3 hf hl) hg hsize (Steps.refl _) (a := a) hlen hst hW hd (fun _ _ => ⟨has, eT, hc, hs⟩)
  dsimp only [Pt.U, Pt.locs, Pt.cells, Pt.slots] at X' l1 y1 z1 st hQ
  subst l1 y1 z1
  exact go (fun t q => st.trans q) (k _ _ _ X' hQ)
/-- a virtual call of a method that the receiver's class declares itself -/
theorem own_callV (X : Stand p l e R s m args below meth c T locs cells slots) (hx : p.tables.exec = Jvm.exec) (hZ : Z.Warmed39 s.vm) (hown : s.vm.findClass own = some m.cls) (eT : T.heap = h)
    (w1 : (Jvm.Cond.methodLink own idx y).before a0 Z = true) (w2 : (Jvm.Cond.declares y).before a0 Z = true) (w5 : (Jvm.Cond.instanceMethod y).before a0 Z = true) (w6 : (Jvm.Cond.selects y.cls y y).before a0 Z = true) (w3 : (Jvm.Cond.initialized y.cls).before a0 Z = true) (w4 : (Jvm.Cond.code y bytes maxL ret).before a0 Z = true)
    (hM : MetFree l y (head1 [Jvm.Cond.code y bytes maxL ret] rm) (fun a U => a = as' ∧ Z.Warmed39 U.vm ∧ U.heap = h) (fun _ _ _ _ _ => True) (fun _ U o U' => ∃ v L, o = .returned v ∧ Q v U'.heap L ∧ FrameEnd U o U' L rm.cells rm.slots))
    (hy : y.cls ≠ "java/lang/invoke/MethodHandle" ∧ y.cls ≠ "java/lang/invoke/VarHandle") (hf : rm.frames + 1 ≤ R.frames) (hl : W + (maxL + 11) + rm.locals ≤ R.locals) (hc : cells + rm.cells ≤ R.cells) (hs : slots + rm.slots ≤ R.slots)
    {a : Addr} (E : Exa Z h a y.cls) {g : JFrame} (hg : g.method = m) (hsize : g.locals.size = c.maxLocals) {argsL rest : List Value} (hst : g.stack = argsL.reverse ++ .ref a :: rest) (has : (.ref a :: argsL).toArray = as') (hlen : ∀ sig, parseMethodDescriptor y.desc = some sig → argsL.length = sig.parameters.length)
    (hW : 2 * g.monitorRoom + (rest.map fun v => v.category).sum ≤ W) (hd : decode c.code g.pc = .ok (.invokevirtual idx, 3))
    (k : ∀ v T' L, Stand p l e R s m args below meth c T' (locs ++ L) (cells + rm.cells) (slots + rm.slots) → Q v T'.heap L → Go p e below K (T'.setTop { g with pc := g.pc + 3, stack := v.toList ++ rest })) : Go p e below K (T.setTop g) := by
  obtain ⟨cq, kq, qa, qb, qc⟩ := isOf hZ eT E
  obtain ⟨v, _, ⟨T', L', k', n'⟩, -, X', ⟨Lc, hQ, l1, y1, z1⟩, st⟩ := X.virtualBack hx (y := y) (z := y) hown (mvT hZ w1) (mvT hZ w2) (notFace_of_selects (args := #[]) (mvT hZ w6)) (mvT hZ w6) (mvT hZ w5) hy (backOf (W := W) hM hZ w4 w3 hf hl) qa qc hg hsize (Steps.refl _) hlen hst hW hd (fun _ _ => ⟨has, eT, hc, hs⟩)
  dsimp only [Pt.U, Pt.locs, Pt.cells, Pt.slots] at X' l1 y1 z1 st hQ
  subst l1 y1 z1
  exact go (fun t q => st.trans q) (k _ _ _ X' hQ)
end Calls
end Own
/-- a body that writes nothing: it returns r, the heap is what it was -/
def QP (r : Option Value) (h0 : Heap) (n0 : Nat) (v : Option Value) (h : Heap) (L : List Loc) : Prop := v = r ∧ Fr n0 L ∧ h = h0

def f1 (p1 : Int32) (p2 : Int32) (p3 : Int32) : Int32 := (if ((((p2).toUInt32 >>> (p3 &&& 31).toUInt32).toInt32) &&& (1 : Int32)) = (0 : Int32) then p1 else (-1 : Int32))
theorem d1_0 : decode method_3_code 0 = .ok (.iload_n 1, 1) := by decide +kernel
theorem d1_1 : decode method_3_code 1 = .ok (.iload_n 2, 1) := by decide +kernel
theorem d1_2 : decode method_3_code 2 = .ok (.iushr, 1) := by decide +kernel
theorem d1_3 : decode method_3_code 3 = .ok (.iconst 1, 1) := by decide +kernel
theorem d1_4 : decode method_3_code 4 = .ok (.iand, 1) := by decide +kernel
theorem d1_5 : decode method_3_code 5 = .ok (.ifCond .eq 5, 3) := by decide +kernel
theorem d1_8 : decode method_3_code 8 = .ok (.iconst (-1), 1) := by decide +kernel
theorem d1_9 : decode method_3_code 9 = .ok (.ireturn, 1) := by decide +kernel
theorem d1_10 : decode method_3_code 10 = .ok (.iload_n 0, 1) := by decide +kernel
theorem d1_11 : decode method_3_code 11 = .ok (.ireturn, 1) := by decide +kernel
theorem pn_1 : plainName "com/example/triview/triview/AtomFixedPositionsPinLaw" = true := by first | (simp [plainName, overriddenIn]; done) | decide +kernel
theorem ef_1 (m : MethodId) (x0 : Int32) (x1 : Int32) (x2 : Int32) : entryFrame m #[(.int x0), (.int x1), (.int x2)] 3 = mkF m 0 #[.val (.int x0), .val (.int x1), .val (.int x2)] [] := by first | (simp [entryFrame, mkF, argsToLocals, Value.category]; done) | rfl
set_option maxRecDepth 65536 in
set_option maxHeartbeats 40000000 in
theorem rm1 (l : Launch) (Z : State) (a0 : Array Value) (hw : ∀ d ∈ tables_1, d.before a0 Z = true) (ws : List Jvm.Cond) (p1 : Int32) (p2 : Int32) (p3 : Int32) (h0 : Heap) (n0 : Nat) :
    MetFree l (⟨"com/example/triview/triview/AtomFixedPositionsPinLaw", "idOf", "(III)I"⟩ : MethodName) (head1 (Jvm.Cond.code (⟨"com/example/triview/triview/AtomFixedPositionsPinLaw", "idOf", "(III)I"⟩ : MethodName) method_3_code 3 (some .int) :: ws) ({ frames := 0, cells := 0, slots := 0, locals := 0 } : Room)) (fun a U => a = #[(.int p1), (.int p2), (.int p3)] ∧ Z.Warmed39 U.vm ∧ U.heap = h0) (fun _ _ _ _ _ => True) (fun _ U o U' => ∃ v L, o = .returned v ∧ (QP (some (.int (f1 p1 p2 p3))) h0 n0) v U'.heap L ∧ FrameEnd U o U' L ({ frames := 0, cells := 0, slots := 0, locals := 0 } : Room).cells ({ frames := 0, cells := 0, slots := 0, locals := 0 } : Room).slots) := by
  refine own_met (plainFor_of_name pn_1) (fun m => ef_1 m p1 p2 p3) ?_
  intro p e s m below meth c T0 hx hby hml hown hnm hret hlk hZ X0 e0
  have hown : s.vm.findClass "com/example/triview/triview/AtomFixedPositionsPinLaw" = some m.cls := hown
  have hnm : meth.name = "idOf" := hnm
  have hret : meth.sig.returnType = some .int := hret
  have N0 := Fr.nil n0
  show Go p e below _ (T0.setTop (mkF m 0 #[.val (.int p1), .val (.int p2), .val (.int p3)] []))
  refine go (fun _ q => XS.iloadN X0.here hx rfl (hb hby d1_0) rfl q) ?_
  show Go p e below _ (T0.setTop (mkF m 1 #[.val (.int p1), .val (.int p2), .val (.int p3)] [(.int p2)]))
  refine go (fun _ q => XS.iloadN X0.here hx rfl (hb hby d1_1) rfl q) ?_
  show Go p e below _ (T0.setTop (mkF m 2 #[.val (.int p1), .val (.int p2), .val (.int p3)] [(.int p3), (.int p2)]))
  refine go (fun _ q => XS.iushr X0.here hx rfl (hb hby d1_2) rfl q) ?_
  show Go p e below _ (T0.setTop (mkF m 3 #[.val (.int p1), .val (.int p2), .val (.int p3)] [(.int (((p2).toUInt32 >>> (p3 &&& 31).toUInt32).toInt32))]))
  refine go (fun _ q => XS.iconst X0.here hx rfl (hb hby d1_3) q) ?_
  show Go p e below _ (T0.setTop (mkF m 4 #[.val (.int p1), .val (.int p2), .val (.int p3)] [(.int (1 : Int32)), (.int (((p2).toUInt32 >>> (p3 &&& 31).toUInt32).toInt32))]))
  refine go (fun _ q => XS.iand X0.here hx rfl (hb hby d1_4) rfl q) ?_
  show Go p e below _ (T0.setTop (mkF m 5 #[.val (.int p1), .val (.int p2), .val (.int p3)] [(.int ((((p2).toUInt32 >>> (p3 &&& 31).toUInt32).toInt32) &&& (1 : Int32)))]))
  by_cases hc1 : ((((p2).toUInt32 >>> (p3 &&& 31).toUInt32).toInt32) &&& (1 : Int32)) = (0 : Int32)
  · refine go (fun _ q => XS.ifYes X0.here hx rfl (pc0 := 5) (pc' := 10) rfl (hb hby d1_5) rfl ((if0 _ _).trans (teq hc1).1) (by decide) (by decide) q) ?_
    show Go p e below _ (T0.setTop (mkF m 10 #[.val (.int p1), .val (.int p2), .val (.int p3)] []))
    refine go (fun _ q => XS.iloadN X0.here hx rfl (hb hby d1_10) rfl q) ?_
    show Go p e below _ (T0.setTop (mkF m 11 #[.val (.int p1), .val (.int p2), .val (.int p3)] [(.int p1)]))
    exact own_retI X0 hx hlk hret (hb hby d1_11) (by decide) (by decide) ⟨congrArg (fun z => some (Value.int z)) (by rw [f1, if_pos hc1]), N0, e0⟩
  · refine go (fun _ q => XS.ifNo X0.here hx rfl (hb hby d1_5) rfl ((if0 _ _).trans (feq hc1).1) q) ?_
    show Go p e below _ (T0.setTop (mkF m 8 #[.val (.int p1), .val (.int p2), .val (.int p3)] []))
    refine go (fun _ q => XS.iconst X0.here hx rfl (hb hby d1_8) q) ?_
    show Go p e below _ (T0.setTop (mkF m 9 #[.val (.int p1), .val (.int p2), .val (.int p3)] [(.int (-1 : Int32))]))
    exact own_retI X0 hx hlk hret (hb hby d1_9) (by decide) (by decide) ⟨congrArg (fun z => some (Value.int z)) (by rw [f1, if_neg hc1]), N0, e0⟩
def f2 (p1 : Int32) (p2 : Int32) : Int32 := (if ((((p1).toUInt32 >>> (((2 : Int32) * p2) &&& 31).toUInt32).toInt32) &&& (3 : Int32)) = (3 : Int32) then (-1 : Int32) else ((((p1).toUInt32 >>> (((2 : Int32) * p2) &&& 31).toUInt32).toInt32) &&& (3 : Int32)))
theorem d2_0 : decode method_2_code 0 = .ok (.iload_n 0, 1) := by decide +kernel
theorem d2_1 : decode method_2_code 1 = .ok (.iconst 2, 1) := by decide +kernel
theorem d2_2 : decode method_2_code 2 = .ok (.iload_n 1, 1) := by decide +kernel
theorem d2_3 : decode method_2_code 3 = .ok (.imul, 1) := by decide +kernel
theorem d2_4 : decode method_2_code 4 = .ok (.iushr, 1) := by decide +kernel
theorem d2_5 : decode method_2_code 5 = .ok (.iconst 3, 1) := by decide +kernel
theorem d2_6 : decode method_2_code 6 = .ok (.iand, 1) := by decide +kernel
theorem d2_7 : decode method_2_code 7 = .ok (.istore_n 2, 1) := by decide +kernel
theorem d2_8 : decode method_2_code 8 = .ok (.iload_n 2, 1) := by decide +kernel
theorem d2_9 : decode method_2_code 9 = .ok (.iconst 3, 1) := by decide +kernel
theorem d2_10 : decode method_2_code 10 = .ok (.if_icmp .ne 5, 3) := by decide +kernel
theorem d2_13 : decode method_2_code 13 = .ok (.iconst (-1), 1) := by decide +kernel
theorem d2_14 : decode method_2_code 14 = .ok (.ireturn, 1) := by decide +kernel
theorem d2_15 : decode method_2_code 15 = .ok (.iload_n 2, 1) := by decide +kernel
theorem d2_16 : decode method_2_code 16 = .ok (.ireturn, 1) := by decide +kernel
theorem pn_2 : plainName "com/example/triview/triview/AtomFixedPositionsPinLaw" = true := by first | (simp [plainName, overriddenIn]; done) | decide +kernel
theorem ef_2 (m : MethodId) (x0 : Int32) (x1 : Int32) : entryFrame m #[(.int x0), (.int x1)] 3 = mkF m 0 #[.val (.int x0), .val (.int x1), .unset] [] := by first | (simp [entryFrame, mkF, argsToLocals, Value.category]; done) | rfl
set_option maxRecDepth 65536 in
set_option maxHeartbeats 40000000 in
theorem rm2 (l : Launch) (Z : State) (a0 : Array Value) (hw : ∀ d ∈ tables_1, d.before a0 Z = true) (ws : List Jvm.Cond) (p1 : Int32) (p2 : Int32) (h0 : Heap) (n0 : Nat) :
    MetFree l (⟨"com/example/triview/triview/AtomFixedPositionsPinLaw", "slotOf", "(II)I"⟩ : MethodName) (head1 (Jvm.Cond.code (⟨"com/example/triview/triview/AtomFixedPositionsPinLaw", "slotOf", "(II)I"⟩ : MethodName) method_2_code 3 (some .int) :: ws) ({ frames := 0, cells := 0, slots := 0, locals := 0 } : Room)) (fun a U => a = #[(.int p1), (.int p2)] ∧ Z.Warmed39 U.vm ∧ U.heap = h0) (fun _ _ _ _ _ => True) (fun _ U o U' => ∃ v L, o = .returned v ∧ (QP (some (.int (f2 p1 p2))) h0 n0) v U'.heap L ∧ FrameEnd U o U' L ({ frames := 0, cells := 0, slots := 0, locals := 0 } : Room).cells ({ frames := 0, cells := 0, slots := 0, locals := 0 } : Room).slots) := by
  refine own_met (plainFor_of_name pn_2) (fun m => ef_2 m p1 p2) ?_
  intro p e s m below meth c T0 hx hby hml hown hnm hret hlk hZ X0 e0
  have hown : s.vm.findClass "com/example/triview/triview/AtomFixedPositionsPinLaw" = some m.cls := hown
  have hnm : meth.name = "slotOf" := hnm
  have hret : meth.sig.returnType = some .int := hret
  have N0 := Fr.nil n0
  show Go p e below _ (T0.setTop (mkF m 0 #[.val (.int p1), .val (.int p2), .unset] []))
  refine go (fun _ q => XS.iloadN X0.here hx rfl (hb hby d2_0) rfl q) ?_
  show Go p e below _ (T0.setTop (mkF m 1 #[.val (.int p1), .val (.int p2), .unset] [(.int p1)]))
  refine go (fun _ q => XS.iconst X0.here hx rfl (hb hby d2_1) q) ?_
  show Go p e below _ (T0.setTop (mkF m 2 #[.val (.int p1), .val (.int p2), .unset] [(.int (2 : Int32)), (.int p1)]))
  refine go (fun _ q => XS.iloadN X0.here hx rfl (hb hby d2_2) rfl q) ?_
  show Go p e below _ (T0.setTop (mkF m 3 #[.val (.int p1), .val (.int p2), .unset] [(.int p2), (.int (2 : Int32)), (.int p1)]))
  refine go (fun _ q => XS.imul X0.here hx rfl (hb hby d2_3) rfl q) ?_
  show Go p e below _ (T0.setTop (mkF m 4 #[.val (.int p1), .val (.int p2), .unset] [(.int ((2 : Int32) * p2)), (.int p1)]))
  refine go (fun _ q => XS.iushr X0.here hx rfl (hb hby d2_4) rfl q) ?_
  show Go p e below _ (T0.setTop (mkF m 5 #[.val (.int p1), .val (.int p2), .unset] [(.int (((p1).toUInt32 >>> (((2 : Int32) * p2) &&& 31).toUInt32).toInt32))]))
  refine go (fun _ q => XS.iconst X0.here hx rfl (hb hby d2_5) q) ?_
  show Go p e below _ (T0.setTop (mkF m 6 #[.val (.int p1), .val (.int p2), .unset] [(.int (3 : Int32)), (.int (((p1).toUInt32 >>> (((2 : Int32) * p2) &&& 31).toUInt32).toInt32))]))
  refine go (fun _ q => XS.iand X0.here hx rfl (hb hby d2_6) rfl q) ?_
  show Go p e below _ (T0.setTop (mkF m 7 #[.val (.int p1), .val (.int p2), .unset] [(.int ((((p1).toUInt32 >>> (((2 : Int32) * p2) &&& 31).toUInt32).toInt32) &&& (3 : Int32)))]))
  refine go (fun _ q => XS.istoreN X0.here hx rfl (hb hby d2_7) rfl (l' := #[.val (.int p1), .val (.int p2), .val (.int ((((p1).toUInt32 >>> (((2 : Int32) * p2) &&& 31).toUInt32).toInt32) &&& (3 : Int32)))]) rfl q) ?_
  show Go p e below _ (T0.setTop (mkF m 8 #[.val (.int p1), .val (.int p2), .val (.int ((((p1).toUInt32 >>> (((2 : Int32) * p2) &&& 31).toUInt32).toInt32) &&& (3 : Int32)))] []))
  refine go (fun _ q => XS.iloadN X0.here hx rfl (hb hby d2_8) rfl q) ?_
  show Go p e below _ (T0.setTop (mkF m 9 #[.val (.int p1), .val (.int p2), .val (.int ((((p1).toUInt32 >>> (((2 : Int32) * p2) &&& 31).toUInt32).toInt32) &&& (3 : Int32)))] [(.int ((((p1).toUInt32 >>> (((2 : Int32) * p2) &&& 31).toUInt32).toInt32) &&& (3 : Int32)))]))
  refine go (fun _ q => XS.iconst X0.here hx rfl (hb hby d2_9) q) ?_
  show Go p e below _ (T0.setTop (mkF m 10 #[.val (.int p1), .val (.int p2), .val (.int ((((p1).toUInt32 >>> (((2 : Int32) * p2) &&& 31).toUInt32).toInt32) &&& (3 : Int32)))] [(.int (3 : Int32)), (.int ((((p1).toUInt32 >>> (((2 : Int32) * p2) &&& 31).toUInt32).toInt32) &&& (3 : Int32)))]))
  by_cases hc1 : ((((p1).toUInt32 >>> (((2 : Int32) * p2) &&& 31).toUInt32).toInt32) &&& (3 : Int32)) = (3 : Int32)
  · refine go (fun _ q => XS.icmpNo X0.here hx rfl (hb hby d2_10) rfl (teq hc1).2 q) ?_
    show Go p e below _ (T0.setTop (mkF m 13 #[.val (.int p1), .val (.int p2), .val (.int ((((p1).toUInt32 >>> (((2 : Int32) * p2) &&& 31).toUInt32).toInt32) &&& (3 : Int32)))] []))
    refine go (fun _ q => XS.iconst X0.here hx rfl (hb hby d2_13) q) ?_
    show Go p e below _ (T0.setTop (mkF m 14 #[.val (.int p1), .val (.int p2), .val (.int ((((p1).toUInt32 >>> (((2 : Int32) * p2) &&& 31).toUInt32).toInt32) &&& (3 : Int32)))] [(.int (-1 : Int32))]))
    exact own_retI X0 hx hlk hret (hb hby d2_14) (by decide) (by decide) ⟨congrArg (fun z => some (Value.int z)) (by rw [f2, if_pos hc1]), N0, e0⟩
  · refine go (fun _ q => XS.icmpYes X0.here hx rfl (pc0 := 10) (pc' := 15) rfl (hb hby d2_10) rfl (feq hc1).2 (by decide) (by decide) q) ?_
    show Go p e below _ (T0.setTop (mkF m 15 #[.val (.int p1), .val (.int p2), .val (.int ((((p1).toUInt32 >>> (((2 : Int32) * p2) &&& 31).toUInt32).toInt32) &&& (3 : Int32)))] []))
    refine go (fun _ q => XS.iloadN X0.here hx rfl (hb hby d2_15) rfl q) ?_
    show Go p e below _ (T0.setTop (mkF m 16 #[.val (.int p1), .val (.int p2), .val (.int ((((p1).toUInt32 >>> (((2 : Int32) * p2) &&& 31).toUInt32).toInt32) &&& (3 : Int32)))] [(.int ((((p1).toUInt32 >>> (((2 : Int32) * p2) &&& 31).toUInt32).toInt32) &&& (3 : Int32)))]))
    exact own_retI X0 hx hlk hret (hb hby d2_16) (by decide) (by decide) ⟨congrArg (fun z => some (Value.int z)) (by rw [f2, if_neg hc1]), N0, e0⟩
theorem d5_0 : decode jdk_30_method_1_code 0 = .ok (.aload_n 0, 1) := by decide +kernel
theorem d5_1 : decode jdk_30_method_1_code 1 = .ok (.invokespecial 1, 3) := by decide +kernel
theorem d5_4 : decode jdk_30_method_1_code 4 = .ok (.return_, 1) := by decide +kernel
theorem pn_5 : plainName "java/lang/Record" = true := by first | (simp [plainName, overriddenIn]; done) | decide +kernel
theorem ef_5 (m : MethodId) (x0 : Addr) : entryFrame m #[(.ref x0)] 1 = mkF m 0 #[.val (.ref x0)] [] := by first | (simp [entryFrame, mkF, argsToLocals, Value.category]; done) | rfl
set_option maxRecDepth 65536 in
set_option maxHeartbeats 40000000 in
theorem rm5 (l : Launch) (Z : State) (a0 : Array Value) (hw : ∀ d ∈ tables_1, d.before a0 Z = true) (ws : List Jvm.Cond) (a1 : Addr) (h0 : Heap) (n0 : Nat) :
    MetFree l (⟨"java/lang/Record", "<init>", "()V"⟩ : MethodName) (head1 (Jvm.Cond.code (⟨"java/lang/Record", "<init>", "()V"⟩ : MethodName) jdk_30_method_1_code 1 none :: ws) ({ frames := 1, cells := 0, slots := 0, locals := 12 } : Room)) (fun a U => a = #[(.ref a1)] ∧ Z.Warmed39 U.vm ∧ U.heap = h0) (fun _ _ _ _ _ => True) (fun _ U o U' => ∃ v L, o = .returned v ∧ (QP none h0 n0) v U'.heap L ∧ FrameEnd U o U' L ({ frames := 1, cells := 0, slots := 0, locals := 12 } : Room).cells ({ frames := 1, cells := 0, slots := 0, locals := 12 } : Room).slots) := by
  refine own_met (plainFor_of_name pn_5) (fun m => ef_5 m a1) ?_
  intro p e s m below meth c T0 hx hby hml hown hnm hret hlk hZ X0 e0
  have hown : s.vm.findClass "java/lang/Record" = some m.cls := hown
  have hnm : meth.name = "<init>" := hnm
  have hret : meth.sig.returnType = none := hret
  have N0 := Fr.nil n0
  show Go p e below _ (T0.setTop (mkF m 0 #[.val (.ref a1)] []))
  refine go (fun _ q => XS.aloadN X0.here hx rfl (hb hby d5_0) rfl rfl q) ?_
  show Go p e below _ (T0.setTop (mkF m 1 #[.val (.ref a1)] [(.ref a1)]))
  obtain ⟨T1, X1, e1, st1⟩ := initO X0 hx hZ hown (hw _ (List.mem_of_getElem? (i := 23) rfl)) (hw _ (List.mem_of_getElem? (i := 24) rfl)) (hw _ (List.mem_of_getElem? (i := 25) rfl)) e0 (g := (mkF m 1 #[.val (.ref a1)] [(.ref a1)])) rfl (by rw [hml]; rfl) rfl (hb hby d5_1) (by decide) (W := 0) (by show 2 * 0 + _ ≤ _; exact Nat.le_of_eq rfl) (by decide)
  refine go st1 ?_
  show Go p e below _ (T1.setTop (mkF m 4 #[.val (.ref a1)] []))
  exact own_retV X1 hx hlk hret (hb hby d5_4) (by decide) (by decide) ⟨rfl, N0, e1⟩
def Q4 (Z : State) (a1 : Addr) (a2 : Addr) (a3 : Addr) (h0 : Heap) (n0 : Nat) (v : Option Value) (h : Heap) (L : List Loc) : Prop := v = none ∧ Fr n0 L ∧ Keep h0 h [a1] ∧ Exa Z h a1 "com/example/triview/triview/Atom" ∧ Fld Z h a1 "com/example/triview/triview/Atom" "ids" "[I" (.ref a2) ∧ Fld Z h a1 "com/example/triview/triview/Atom" "slots" "[I" (.ref a3)
theorem d4_0 : decode prog_1_method_1_code 0 = .ok (.aload_n 0, 1) := by decide +kernel
theorem d4_1 : decode prog_1_method_1_code 1 = .ok (.invokespecial 1, 3) := by decide +kernel
theorem d4_4 : decode prog_1_method_1_code 4 = .ok (.aload_n 0, 1) := by decide +kernel
theorem d4_5 : decode prog_1_method_1_code 5 = .ok (.aload_n 1, 1) := by decide +kernel
theorem d4_6 : decode prog_1_method_1_code 6 = .ok (.putfield 7, 3) := by decide +kernel
theorem d4_9 : decode prog_1_method_1_code 9 = .ok (.aload_n 0, 1) := by decide +kernel
theorem d4_10 : decode prog_1_method_1_code 10 = .ok (.aload_n 2, 1) := by decide +kernel
theorem d4_11 : decode prog_1_method_1_code 11 = .ok (.putfield 13, 3) := by decide +kernel
theorem d4_14 : decode prog_1_method_1_code 14 = .ok (.return_, 1) := by decide +kernel
theorem pd_4_0 : parseMethodDescriptor "()V" = some ⟨[], none⟩ := by decide +kernel
theorem pn_4 : plainName "com/example/triview/triview/Atom" = true := by first | (simp [plainName, overriddenIn]; done) | decide +kernel
theorem ef_4 (m : MethodId) (x0 : Addr) (x1 : Addr) (x2 : Addr) : entryFrame m #[(.ref x0), (.ref x1), (.ref x2)] 3 = mkF m 0 #[.val (.ref x0), .val (.ref x1), .val (.ref x2)] [] := by first | (simp [entryFrame, mkF, argsToLocals, Value.category]; done) | rfl
set_option maxRecDepth 65536 in
set_option maxHeartbeats 40000000 in
theorem rm4 (l : Launch) (Z : State) (a0 : Array Value) (hw : ∀ d ∈ tables_1, d.before a0 Z = true) (ws : List Jvm.Cond) (a1 : Addr) (a2 : Addr) (a3 : Addr) (h0 : Heap) (n0 : Nat) {u_ids u_slots : Value} (Z0 : n0 ≤ h0.size) (g_a1 : n0 ≤ a1) (E_a1 : Exa Z h0 a1 "com/example/triview/triview/Atom") (F_ids_a1 : Fld Z h0 a1 "com/example/triview/triview/Atom" "ids" "[I" u_ids) (F_slots_a1 : Fld Z h0 a1 "com/example/triview/triview/Atom" "slots" "[I" u_slots) :
    MetFree l (⟨"com/example/triview/triview/Atom", "<init>", "([I[I)V"⟩ : MethodName) (head1 (Jvm.Cond.code (⟨"com/example/triview/triview/Atom", "<init>", "([I[I)V"⟩ : MethodName) prog_1_method_1_code 3 none :: ws) ({ frames := 2, cells := 0, slots := 0, locals := 24 } : Room)) (fun a U => a = #[(.ref a1), (.ref a2), (.ref a3)] ∧ Z.Warmed39 U.vm ∧ U.heap = h0) (fun _ _ _ _ _ => True) (fun _ U o U' => ∃ v L, o = .returned v ∧ (Q4 Z a1 a2 a3 h0 n0) v U'.heap L ∧ FrameEnd U o U' L ({ frames := 2, cells := 0, slots := 0, locals := 24 } : Room).cells ({ frames := 2, cells := 0, slots := 0, locals := 24 } : Room).slots) := by
  refine own_met (plainFor_of_name pn_4) (fun m => ef_4 m a1 a2 a3) ?_
  intro p e s m below meth c T0 hx hby hml hown hnm hret hlk hZ X0 e0
  have hown : s.vm.findClass "com/example/triview/triview/Atom" = some m.cls := hown
  have hnm : meth.name = "<init>" := hnm
  have hret : meth.sig.returnType = none := hret
  have N0 := Fr.nil n0
  show Go p e below _ (T0.setTop (mkF m 0 #[.val (.ref a1), .val (.ref a2), .val (.ref a3)] []))
  refine go (fun _ q => XS.aloadN X0.here hx rfl (hb hby d4_0) rfl rfl q) ?_
  show Go p e below _ (T0.setTop (mkF m 1 #[.val (.ref a1), .val (.ref a2), .val (.ref a3)] [(.ref a1)]))
  refine own_callC X0 hx hZ hown e0 (hw _ (List.mem_of_getElem? (i := 18) rfl)) (hw _ (List.mem_of_getElem? (i := 19) rfl)) (hw _ (List.mem_of_getElem? (i := 21) rfl)) (hw _ (List.mem_of_getElem? (i := 22) rfl)) (rm5 l Z a0 hw [] a1 h0 n0) rfl (by decide) (by decide) (W := 0) (by decide) (by decide) (by decide) (a := a1) (g := (mkF m 1 #[.val (.ref a1), .val (.ref a2), .val (.ref a3)] [(.ref a1)])) rfl (by rw [hml]; rfl) (argsL := []) (rest := []) rfl rfl (lenOf pd_4_0 rfl) (by show 2 * 0 + _ ≤ _; exact Nat.le_of_eq rfl) (hb hby d4_1) ?_
  rintro _ T1 L1 X1 ⟨rfl, N1q, e1⟩
  have N1 := Fr.app N0 N1q
  show Go p e below _ (T1.setTop (mkF m 4 #[.val (.ref a1), .val (.ref a2), .val (.ref a3)] []))
  refine go (fun _ q => XS.aloadN X1.here hx rfl (hb hby d4_4) rfl rfl q) ?_
  show Go p e below _ (T1.setTop (mkF m 5 #[.val (.ref a1), .val (.ref a2), .val (.ref a3)] [(.ref a1)]))
  refine go (fun _ q => XS.aloadN X1.here hx rfl (hb hby d4_5) rfl rfl q) ?_
  show Go p e below _ (T1.setTop (mkF m 6 #[.val (.ref a1), .val (.ref a2), .val (.ref a3)] [(.ref a2), (.ref a1)]))
  obtain ⟨T2, h2, X2, e2, W2, st2⟩ := putF X1 hx hZ hown (host := "") (Or.inl (hw _ (List.mem_of_getElem? (i := 26) rfl))) Via.refl e1 F_ids_a1 E_a1 (Or.inr ⟨(hw _ (List.mem_of_getElem? (i := 27) rfl)), rfl, hnm⟩) (hw _ (List.mem_of_getElem? (i := 13) rfl)) (ty := (.array .int)) (by decide) rfl rfl (g := (mkF m 6 #[.val (.ref a1), .val (.ref a2), .val (.ref a3)] [(.ref a2), (.ref a1)])) rfl rfl (hb hby d4_6)
  refine go st2 ?_
  have F_ids_a1_2 : Fld Z h2 a1 "com/example/triview/triview/Atom" "ids" "[I" (.ref a2) := F_ids_a1.same W2
  have E_a1_3 : Exa Z h2 a1 "com/example/triview/triview/Atom" := E_a1.wr W2
  have F_slots_a1_4 : Fld Z h2 a1 "com/example/triview/triview/Atom" "slots" "[I" u_slots := F_slots_a1.other W2 (Or.inr (slot_ne (Or.inr (hw _ (List.mem_of_getElem? (i := 29) rfl))) (Or.inr (hw _ (List.mem_of_getElem? (i := 27) rfl))) (by decide) (t := (.array .int)) (t' := (.array .int)) (by decide) (by decide)))
  have N2 := Fr.snoc X2 N1 g_a1
  have K2 : Keep h0 h2 [a1] := (Keep.refl h0 [a1]).wr W2 (Or.inl (List.mem_of_getElem? (i := 0) rfl))
  have Z2 : n0 ≤ h2.size := Nat.le_trans Z0 (Nat.le_of_eq W2.size.symm)
  show Go p e below _ (T2.setTop (mkF m 9 #[.val (.ref a1), .val (.ref a2), .val (.ref a3)] []))
  refine go (fun _ q => XS.aloadN X2.here hx rfl (hb hby d4_9) rfl rfl q) ?_
  show Go p e below _ (T2.setTop (mkF m 10 #[.val (.ref a1), .val (.ref a2), .val (.ref a3)] [(.ref a1)]))
  refine go (fun _ q => XS.aloadN X2.here hx rfl (hb hby d4_10) rfl rfl q) ?_
  show Go p e below _ (T2.setTop (mkF m 11 #[.val (.ref a1), .val (.ref a2), .val (.ref a3)] [(.ref a3), (.ref a1)]))
  obtain ⟨T5, h5, X5, e5, W5, st5⟩ := putF X2 hx hZ hown (host := "") (Or.inl (hw _ (List.mem_of_getElem? (i := 28) rfl))) Via.refl e2 F_slots_a1_4 E_a1_3 (Or.inr ⟨(hw _ (List.mem_of_getElem? (i := 29) rfl)), rfl, hnm⟩) (hw _ (List.mem_of_getElem? (i := 13) rfl)) (ty := (.array .int)) (by decide) rfl rfl (g := (mkF m 11 #[.val (.ref a1), .val (.ref a2), .val (.ref a3)] [(.ref a3), (.ref a1)])) rfl rfl (hb hby d4_11)
  refine go st5 ?_
  have F_slots_a1_5 : Fld Z h5 a1 "com/example/triview/triview/Atom" "slots" "[I" (.ref a3) := F_slots_a1_4.same W5
  have E_a1_6 : Exa Z h5 a1 "com/example/triview/triview/Atom" := E_a1_3.wr W5
  have F_ids_a1_7 : Fld Z h5 a1 "com/example/triview/triview/Atom" "ids" "[I" (.ref a2) := F_ids_a1_2.other W5 (Or.inr (slot_ne (Or.inr (hw _ (List.mem_of_getElem? (i := 27) rfl))) (Or.inr (hw _ (List.mem_of_getElem? (i := 29) rfl))) (by decide) (t := (.array .int)) (t' := (.array .int)) (by decide) (by decide)))
  have N5 := Fr.snoc X5 N2 g_a1
  have K5 : Keep h0 h5 [a1] := K2.wr W5 (Or.inl (List.mem_of_getElem? (i := 0) rfl))
  have Z5 : n0 ≤ h5.size := Nat.le_trans Z2 (Nat.le_of_eq W5.size.symm)
  show Go p e below _ (T5.setTop (mkF m 14 #[.val (.ref a1), .val (.ref a2), .val (.ref a3)] []))
  exact own_retV X5 hx hlk hret (hb hby d4_14) (by decide) (by decide) (by rw [e5]; exact ⟨rfl, N5, K5, E_a1_6, F_ids_a1_7, F_slots_a1_5⟩)
def own_at (j b0 b1 b2 : Int32) : Int32 := if j = 0 then b0 else if j = 1 then b1 else b2
def own_ok (j : Int32) : Prop := j = -1 ∨ j = 0 ∨ j = 1 ∨ j = 2
theorem own_get {cl : Cell} {b0 b1 b2 j : Int32} (S : cl.slots.size = (3 : Int32).toNatClampNeg) (H : Has cl [(.int b0), (.int b1), (.int b2)] (.int (0 : Int32))) (hj : own_ok j) (hn : ¬ (j = (-1 : Int32))) :
    ¬ (j < 0 ∨ cl.slots.size ≤ j.toNatClampNeg) ∧ cl.slots[j.toNatClampNeg]? = some (.int (own_at j b0 b1 b2)) := by
  rcases hj with h | rfl | rfl | rfl
  · exact absurd h hn
  · exact ⟨inb_of S ⟨by decide, by decide⟩, H 0 (by rw [S]; decide)⟩
  · exact ⟨inb_of S ⟨by decide, by decide⟩, H 1 (by rw [S]; decide)⟩
  · exact ⟨inb_of S ⟨by decide, by decide⟩, H 2 (by rw [S]; decide)⟩
def f3 (p1 p2 b0 b1 b2 : Int32) : Int32 := (if p1 = (-1 : Int32) then (if p2 = (-1 : Int32) then (0 : Int32) else (if (own_at p2 b0 b1 b2) = (0 : Int32) then (0 : Int32) else (1 : Int32))) else (1 : Int32))
theorem d3_0 : decode method_4_code 0 = .ok (.iload_n 0, 1) := by decide +kernel
theorem d3_1 : decode method_4_code 1 = .ok (.iconst (-1), 1) := by decide +kernel
theorem d3_2 : decode method_4_code 2 = .ok (.if_icmp .eq 5, 3) := by decide +kernel
theorem d3_5 : decode method_4_code 5 = .ok (.iconst 1, 1) := by decide +kernel
theorem d3_6 : decode method_4_code 6 = .ok (.ireturn, 1) := by decide +kernel
theorem d3_7 : decode method_4_code 7 = .ok (.iload_n 1, 1) := by decide +kernel
theorem d3_8 : decode method_4_code 8 = .ok (.iconst (-1), 1) := by decide +kernel
theorem d3_9 : decode method_4_code 9 = .ok (.if_icmp .ne 5, 3) := by decide +kernel
theorem d3_12 : decode method_4_code 12 = .ok (.iconst 0, 1) := by decide +kernel
theorem d3_13 : decode method_4_code 13 = .ok (.ireturn, 1) := by decide +kernel
theorem d3_14 : decode method_4_code 14 = .ok (.aload_n 2, 1) := by decide +kernel
theorem d3_15 : decode method_4_code 15 = .ok (.iload_n 1, 1) := by decide +kernel
theorem d3_16 : decode method_4_code 16 = .ok (.baload, 1) := by decide +kernel
theorem d3_17 : decode method_4_code 17 = .ok (.ifCond .eq 5, 3) := by decide +kernel
theorem d3_20 : decode method_4_code 20 = .ok (.iconst 1, 1) := by decide +kernel
theorem d3_21 : decode method_4_code 21 = .ok (.ireturn, 1) := by decide +kernel
theorem d3_22 : decode method_4_code 22 = .ok (.iconst 0, 1) := by decide +kernel
theorem d3_23 : decode method_4_code 23 = .ok (.ireturn, 1) := by decide +kernel
theorem pn_3 : plainName "com/example/triview/triview/AtomFixedPositionsPinLaw" = true := by first | (simp [plainName, overriddenIn]; done) | decide +kernel
theorem ef_3 (m : MethodId) (x0 : Int32) (x1 : Int32) (x2 : Addr) : entryFrame m #[(.int x0), (.int x1), (.ref x2)] 3 = mkF m 0 #[.val (.int x0), .val (.int x1), .val (.ref x2)] [] := by first | (simp [entryFrame, mkF, argsToLocals, Value.category]; done) | rfl
set_option maxRecDepth 65536 in
set_option maxHeartbeats 40000000 in
theorem rm3 (l : Launch) (Z : State) (a0 : Array Value) (hw : ∀ d ∈ tables_1, d.before a0 Z = true) (ws : List Jvm.Cond) (p1 : Int32) (p2 : Int32) (a3 : Addr) (h0 : Heap) (n0 : Nat) {k3 : ClassId} {b0 b1 b2 : Int32} (ho : own_ok p2) (V_a3 : Arv Z h0 a3 k3 .boolean (3 : Int32) [(.int b0), (.int b1), (.int b2)] (.int (0 : Int32))) :
    MetFree l (⟨"com/example/triview/triview/AtomFixedPositionsPinLaw", "one", "(II[Z)I"⟩ : MethodName) (head1 (Jvm.Cond.code (⟨"com/example/triview/triview/AtomFixedPositionsPinLaw", "one", "(II[Z)I"⟩ : MethodName) method_4_code 3 (some .int) :: ws) ({ frames := 0, cells := 0, slots := 0, locals := 0 } : Room)) (fun a U => a = #[(.int p1), (.int p2), (.ref a3)] ∧ Z.Warmed39 U.vm ∧ U.heap = h0) (fun _ _ _ _ _ => True) (fun _ U o U' => ∃ v L, o = .returned v ∧ (QP (some (.int (f3 p1 p2 b0 b1 b2))) h0 n0) v U'.heap L ∧ FrameEnd U o U' L ({ frames := 0, cells := 0, slots := 0, locals := 0 } : Room).cells ({ frames := 0, cells := 0, slots := 0, locals := 0 } : Room).slots) := by
  refine own_met (plainFor_of_name pn_3) (fun m => ef_3 m p1 p2 a3) ?_
  intro p e s m below meth c T0 hx hby hml hown hnm hret hlk hZ X0 e0
  have hown : s.vm.findClass "com/example/triview/triview/AtomFixedPositionsPinLaw" = some m.cls := hown
  have hnm : meth.name = "one" := hnm
  have hret : meth.sig.returnType = some .int := hret
  have N0 := Fr.nil n0
  show Go p e below _ (T0.setTop (mkF m 0 #[.val (.int p1), .val (.int p2), .val (.ref a3)] []))
  refine go (fun _ q => XS.iloadN X0.here hx rfl (hb hby d3_0) rfl q) ?_
  show Go p e below _ (T0.setTop (mkF m 1 #[.val (.int p1), .val (.int p2), .val (.ref a3)] [(.int p1)]))
  refine go (fun _ q => XS.iconst X0.here hx rfl (hb hby d3_1) q) ?_
  show Go p e below _ (T0.setTop (mkF m 2 #[.val (.int p1), .val (.int p2), .val (.ref a3)] [(.int (-1 : Int32)), (.int p1)]))
  by_cases hc1 : p1 = (-1 : Int32)
  · refine go (fun _ q => XS.icmpYes X0.here hx rfl (pc0 := 2) (pc' := 7) rfl (hb hby d3_2) rfl (teq hc1).1 (by decide) (by decide) q) ?_
    show Go p e below _ (T0.setTop (mkF m 7 #[.val (.int p1), .val (.int p2), .val (.ref a3)] []))
    refine go (fun _ q => XS.iloadN X0.here hx rfl (hb hby d3_7) rfl q) ?_
    show Go p e below _ (T0.setTop (mkF m 8 #[.val (.int p1), .val (.int p2), .val (.ref a3)] [(.int p2)]))
    refine go (fun _ q => XS.iconst X0.here hx rfl (hb hby d3_8) q) ?_
    show Go p e below _ (T0.setTop (mkF m 9 #[.val (.int p1), .val (.int p2), .val (.ref a3)] [(.int (-1 : Int32)), (.int p2)]))
    by_cases hc2 : p2 = (-1 : Int32)
    · refine go (fun _ q => XS.icmpNo X0.here hx rfl (hb hby d3_9) rfl (teq hc2).2 q) ?_
      show Go p e below _ (T0.setTop (mkF m 12 #[.val (.int p1), .val (.int p2), .val (.ref a3)] []))
      refine go (fun _ q => XS.iconst X0.here hx rfl (hb hby d3_12) q) ?_
      show Go p e below _ (T0.setTop (mkF m 13 #[.val (.int p1), .val (.int p2), .val (.ref a3)] [(.int (0 : Int32))]))
      exact own_retI X0 hx hlk hret (hb hby d3_13) (by decide) (by decide) ⟨congrArg (fun z => some (Value.int z)) (by rw [f3, if_pos hc1, if_pos hc2]), N0, e0⟩
    · refine go (fun _ q => XS.icmpYes X0.here hx rfl (pc0 := 9) (pc' := 14) rfl (hb hby d3_9) rfl (feq hc2).2 (by decide) (by decide) q) ?_
      show Go p e below _ (T0.setTop (mkF m 14 #[.val (.int p1), .val (.int p2), .val (.ref a3)] []))
      refine go (fun _ q => XS.aloadN X0.here hx rfl (hb hby d3_14) rfl rfl q) ?_
      show Go p e below _ (T0.setTop (mkF m 15 #[.val (.int p1), .val (.int p2), .val (.ref a3)] [(.ref a3)]))
      refine go (fun _ q => XS.iloadN X0.here hx rfl (hb hby d3_15) rfl q) ?_
      show Go p e below _ (T0.setTop (mkF m 16 #[.val (.int p1), .val (.int p2), .val (.ref a3)] [(.int p2), (.ref a3)]))
      obtain ⟨cl3, Ar3, q3, S3, Ng3, H3, G3⟩ := id V_a3
      refine go (X0.baloadBooleans hx (j := p2) (v := (.int (own_at p2 b0 b1 b2))) (by rw [e0]; exact Ar3.1) (State.isArrayOf_alike hZ.alike Ar3.2.1) Ar3.2.2 (own_get S3 H3 ho hc2).1 (own_get S3 H3 ho hc2).2 (g := (mkF m 16 #[.val (.int p1), .val (.int p2), .val (.ref a3)] [(.int p2), (.ref a3)])) rfl rfl (hb hby d3_16)) ?_
      show Go p e below _ (T0.setTop (mkF m 17 #[.val (.int p1), .val (.int p2), .val (.ref a3)] [(.int (own_at p2 b0 b1 b2))]))
      by_cases hc4 : (own_at p2 b0 b1 b2) = (0 : Int32)
      · refine go (fun _ q => XS.ifYes X0.here hx rfl (pc0 := 17) (pc' := 22) rfl (hb hby d3_17) rfl ((if0 _ _).trans (teq hc4).1) (by decide) (by decide) q) ?_
        show Go p e below _ (T0.setTop (mkF m 22 #[.val (.int p1), .val (.int p2), .val (.ref a3)] []))
        refine go (fun _ q => XS.iconst X0.here hx rfl (hb hby d3_22) q) ?_
        show Go p e below _ (T0.setTop (mkF m 23 #[.val (.int p1), .val (.int p2), .val (.ref a3)] [(.int (0 : Int32))]))
        exact own_retI X0 hx hlk hret (hb hby d3_23) (by decide) (by decide) ⟨congrArg (fun z => some (Value.int z)) (by rw [f3, if_pos hc1, if_neg hc2, if_pos hc4]), N0, e0⟩
      · refine go (fun _ q => XS.ifNo X0.here hx rfl (hb hby d3_17) rfl ((if0 _ _).trans (feq hc4).1) q) ?_
        show Go p e below _ (T0.setTop (mkF m 20 #[.val (.int p1), .val (.int p2), .val (.ref a3)] []))
        refine go (fun _ q => XS.iconst X0.here hx rfl (hb hby d3_20) q) ?_
        show Go p e below _ (T0.setTop (mkF m 21 #[.val (.int p1), .val (.int p2), .val (.ref a3)] [(.int (1 : Int32))]))
        exact own_retI X0 hx hlk hret (hb hby d3_21) (by decide) (by decide) ⟨congrArg (fun z => some (Value.int z)) (by rw [f3, if_pos hc1, if_neg hc2, if_neg hc4]), N0, e0⟩
  · refine go (fun _ q => XS.icmpNo X0.here hx rfl (hb hby d3_2) rfl (feq hc1).1 q) ?_
    show Go p e below _ (T0.setTop (mkF m 5 #[.val (.int p1), .val (.int p2), .val (.ref a3)] []))
    refine go (fun _ q => XS.iconst X0.here hx rfl (hb hby d3_5) q) ?_
    show Go p e below _ (T0.setTop (mkF m 6 #[.val (.int p1), .val (.int p2), .val (.ref a3)] [(.int (1 : Int32))]))
    exact own_retI X0 hx hlk hret (hb hby d3_6) (by decide) (by decide) ⟨congrArg (fun z => some (Value.int z)) (by rw [f3, if_neg hc1]), N0, e0⟩
def f7 (i0 i1 i2 s0 s1 s2 b0 b1 b2 : Int32) : Int32 := ((((0 : Int32) + (if i0 = (-1 : Int32) then (if s0 = (-1 : Int32) then (0 : Int32) else (if (own_at s0 b0 b1 b2) = (0 : Int32) then (0 : Int32) else (1 : Int32))) else (1 : Int32))) + (if i1 = (-1 : Int32) then (if s1 = (-1 : Int32) then (0 : Int32) else (if (own_at s1 b0 b1 b2) = (0 : Int32) then (0 : Int32) else (1 : Int32))) else (1 : Int32))) + (if i2 = (-1 : Int32) then (if s2 = (-1 : Int32) then (0 : Int32) else (if (own_at s2 b0 b1 b2) = (0 : Int32) then (0 : Int32) else (1 : Int32))) else (1 : Int32)))
theorem d7_0 : decode prog_1_method_3_code 0 = .ok (.iconst 0, 1) := by decide +kernel
theorem d7_1 : decode prog_1_method_3_code 1 = .ok (.istore_n 2, 1) := by decide +kernel
theorem d7_2 : decode prog_1_method_3_code 2 = .ok (.iconst 0, 1) := by decide +kernel
theorem d7_3 : decode prog_1_method_3_code 3 = .ok (.istore_n 3, 1) := by decide +kernel
theorem d7_4 : decode prog_1_method_3_code 4 = .ok (.iload_n 3, 1) := by decide +kernel
theorem d7_5 : decode prog_1_method_3_code 5 = .ok (.iconst 3, 1) := by decide +kernel
theorem d7_6 : decode prog_1_method_3_code 6 = .ok (.if_icmp .ge 48, 3) := by decide +kernel
theorem d7_9 : decode prog_1_method_3_code 9 = .ok (.iload_n 2, 1) := by decide +kernel
theorem d7_10 : decode prog_1_method_3_code 10 = .ok (.aload_n 0, 1) := by decide +kernel
theorem d7_11 : decode prog_1_method_3_code 11 = .ok (.getfield 7, 3) := by decide +kernel
theorem d7_14 : decode prog_1_method_3_code 14 = .ok (.iload_n 3, 1) := by decide +kernel
theorem d7_15 : decode prog_1_method_3_code 15 = .ok (.iaload, 1) := by decide +kernel
theorem d7_16 : decode prog_1_method_3_code 16 = .ok (.iconst (-1), 1) := by decide +kernel
theorem d7_17 : decode prog_1_method_3_code 17 = .ok (.if_icmp .ne 24, 3) := by decide +kernel
theorem d7_20 : decode prog_1_method_3_code 20 = .ok (.aload_n 0, 1) := by decide +kernel
theorem d7_21 : decode prog_1_method_3_code 21 = .ok (.getfield 13, 3) := by decide +kernel
theorem d7_24 : decode prog_1_method_3_code 24 = .ok (.iload_n 3, 1) := by decide +kernel
theorem d7_25 : decode prog_1_method_3_code 25 = .ok (.iaload, 1) := by decide +kernel
theorem d7_26 : decode prog_1_method_3_code 26 = .ok (.iconst (-1), 1) := by decide +kernel
theorem d7_27 : decode prog_1_method_3_code 27 = .ok (.if_icmp .eq 18, 3) := by decide +kernel
theorem d7_30 : decode prog_1_method_3_code 30 = .ok (.aload_n 1, 1) := by decide +kernel
theorem d7_31 : decode prog_1_method_3_code 31 = .ok (.aload_n 0, 1) := by decide +kernel
theorem d7_32 : decode prog_1_method_3_code 32 = .ok (.getfield 13, 3) := by decide +kernel
theorem d7_35 : decode prog_1_method_3_code 35 = .ok (.iload_n 3, 1) := by decide +kernel
theorem d7_36 : decode prog_1_method_3_code 36 = .ok (.iaload, 1) := by decide +kernel
theorem d7_37 : decode prog_1_method_3_code 37 = .ok (.baload, 1) := by decide +kernel
theorem d7_38 : decode prog_1_method_3_code 38 = .ok (.ifCond .eq 7, 3) := by decide +kernel
theorem d7_41 : decode prog_1_method_3_code 41 = .ok (.iconst 1, 1) := by decide +kernel
theorem d7_42 : decode prog_1_method_3_code 42 = .ok (.goto 4, 3) := by decide +kernel
theorem d7_45 : decode prog_1_method_3_code 45 = .ok (.iconst 0, 1) := by decide +kernel
theorem d7_46 : decode prog_1_method_3_code 46 = .ok (.iadd, 1) := by decide +kernel
theorem d7_47 : decode prog_1_method_3_code 47 = .ok (.istore_n 2, 1) := by decide +kernel
theorem d7_48 : decode prog_1_method_3_code 48 = .ok (.iinc 3 1, 3) := by decide +kernel
theorem d7_51 : decode prog_1_method_3_code 51 = .ok (.goto (-47), 3) := by decide +kernel
theorem d7_54 : decode prog_1_method_3_code 54 = .ok (.iload_n 2, 1) := by decide +kernel
theorem d7_55 : decode prog_1_method_3_code 55 = .ok (.ireturn, 1) := by decide +kernel
theorem pn_7 : plainName "com/example/triview/triview/Atom" = true := by first | (simp [plainName, overriddenIn]; done) | decide +kernel
theorem ef_7 (m : MethodId) (x0 : Addr) (x1 : Addr) : entryFrame m #[(.ref x0), (.ref x1)] 4 = mkF m 0 #[.val (.ref x0), .val (.ref x1), .unset, .unset] [] := by first | (simp [entryFrame, mkF, argsToLocals, Value.category]; done) | rfl
set_option maxRecDepth 65536 in
set_option maxHeartbeats 40000000 in
theorem rm7 (l : Launch) (Z : State) (a0 : Array Value) (hw : ∀ d ∈ tables_1, d.before a0 Z = true) (ws : List Jvm.Cond) (a1 : Addr) (a2 : Addr) (h0 : Heap) (n0 : Nat) {a3 a4 : Addr} {k2 k3 k4 : ClassId} {i0 i1 i2 s0 s1 s2 b0 b1 b2 : Int32} (ho0 : own_ok s0) (ho1 : own_ok s1) (ho2 : own_ok s2) (V_a2 : Arv Z h0 a2 k2 .boolean (3 : Int32) [(.int b0), (.int b1), (.int b2)] (.int (0 : Int32))) (V_a3 : Arv Z h0 a3 k3 .int (3 : Int32) [(.int i0), (.int i1), (.int i2)] (.int (0 : Int32))) (V_a4 : Arv Z h0 a4 k4 .int (3 : Int32) [(.int s0), (.int s1), (.int s2)] (.int (0 : Int32))) (F_ids : Fld Z h0 a1 "com/example/triview/triview/Atom" "ids" "[I" (.ref a3)) (F_slots : Fld Z h0 a1 "com/example/triview/triview/Atom" "slots" "[I" (.ref a4)) :
    MetFree l (⟨"com/example/triview/triview/Atom", "fixedPositions", "([Z)I"⟩ : MethodName) (head1 (Jvm.Cond.code (⟨"com/example/triview/triview/Atom", "fixedPositions", "([Z)I"⟩ : MethodName) prog_1_method_3_code 4 (some .int) :: ws) ({ frames := 0, cells := 0, slots := 0, locals := 0 } : Room)) (fun a U => a = #[(.ref a1), (.ref a2)] ∧ Z.Warmed39 U.vm ∧ U.heap = h0) (fun _ _ _ _ _ => True) (fun _ U o U' => ∃ v L, o = .returned v ∧ (QP (some (.int (f7 i0 i1 i2 s0 s1 s2 b0 b1 b2))) h0 n0) v U'.heap L ∧ FrameEnd U o U' L ({ frames := 0, cells := 0, slots := 0, locals := 0 } : Room).cells ({ frames := 0, cells := 0, slots := 0, locals := 0 } : Room).slots) := by
  refine own_met (plainFor_of_name pn_7) (fun m => ef_7 m a1 a2) ?_
  intro p e s m below meth c T0 hx hby hml hown hnm hret hlk hZ X0 e0
  have hown : s.vm.findClass "com/example/triview/triview/Atom" = some m.cls := hown
  have hnm : meth.name = "fixedPositions" := hnm
  have hret : meth.sig.returnType = some .int := hret
  have N0 := Fr.nil n0
  show Go p e below _ (T0.setTop (mkF m 0 #[.val (.ref a1), .val (.ref a2), .unset, .unset] []))
  refine go (fun _ q => XS.iconst X0.here hx rfl (hb hby d7_0) q) ?_
  show Go p e below _ (T0.setTop (mkF m 1 #[.val (.ref a1), .val (.ref a2), .unset, .unset] [(.int (0 : Int32))]))
  refine go (fun _ q => XS.istoreN X0.here hx rfl (hb hby d7_1) rfl (l' := #[.val (.ref a1), .val (.ref a2), .val (.int (0 : Int32)), .unset]) rfl q) ?_
  show Go p e below _ (T0.setTop (mkF m 2 #[.val (.ref a1), .val (.ref a2), .val (.int (0 : Int32)), .unset] []))
  refine go (fun _ q => XS.iconst X0.here hx rfl (hb hby d7_2) q) ?_
  show Go p e below _ (T0.setTop (mkF m 3 #[.val (.ref a1), .val (.ref a2), .val (.int (0 : Int32)), .unset] [(.int (0 : Int32))]))
  refine go (fun _ q => XS.istoreN X0.here hx rfl (hb hby d7_3) rfl (l' := #[.val (.ref a1), .val (.ref a2), .val (.int (0 : Int32)), .val (.int (0 : Int32))]) rfl q) ?_
  show Go p e below _ (T0.setTop (mkF m 4 #[.val (.ref a1), .val (.ref a2), .val (.int (0 : Int32)), .val (.int (0 : Int32))] []))
  refine go (fun _ q => XS.iloadN X0.here hx rfl (hb hby d7_4) rfl q) ?_
  show Go p e below _ (T0.setTop (mkF m 5 #[.val (.ref a1), .val (.ref a2), .val (.int (0 : Int32)), .val (.int (0 : Int32))] [(.int (0 : Int32))]))
  refine go (fun _ q => XS.iconst X0.here hx rfl (hb hby d7_5) q) ?_
  show Go p e below _ (T0.setTop (mkF m 6 #[.val (.ref a1), .val (.ref a2), .val (.int (0 : Int32)), .val (.int (0 : Int32))] [(.int (3 : Int32)), (.int (0 : Int32))]))
  refine go (fun _ q => XS.icmpNo X0.here hx rfl (hb hby d7_6) rfl (tlt (by decide : (0 : Int32) < (3 : Int32))).2.1 q) ?_
  show Go p e below _ (T0.setTop (mkF m 9 #[.val (.ref a1), .val (.ref a2), .val (.int (0 : Int32)), .val (.int (0 : Int32))] []))
  refine go (fun _ q => XS.iloadN X0.here hx rfl (hb hby d7_9) rfl q) ?_
  show Go p e below _ (T0.setTop (mkF m 10 #[.val (.ref a1), .val (.ref a2), .val (.int (0 : Int32)), .val (.int (0 : Int32))] [(.int (0 : Int32))]))
  refine go (fun _ q => XS.aloadN X0.here hx rfl (hb hby d7_10) rfl rfl q) ?_
  show Go p e below _ (T0.setTop (mkF m 11 #[.val (.ref a1), .val (.ref a2), .val (.int (0 : Int32)), .val (.int (0 : Int32))] [(.ref a1), (.int (0 : Int32))]))
  obtain ⟨T1, X1, e1, st1⟩ := getF X0 hx hZ hown (host := "") (Or.inl (hw _ (List.mem_of_getElem? (i := 26) rfl))) Via.refl e0 F_ids (g := (mkF m 11 #[.val (.ref a1), .val (.ref a2), .val (.int (0 : Int32)), .val (.int (0 : Int32))] [(.ref a1), (.int (0 : Int32))])) rfl rfl (hb hby d7_11)
  refine go st1 ?_
  show Go p e below _ (T1.setTop (mkF m 14 #[.val (.ref a1), .val (.ref a2), .val (.int (0 : Int32)), .val (.int (0 : Int32))] [(.ref a3), (.int (0 : Int32))]))
  refine go (fun _ q => XS.iloadN X1.here hx rfl (hb hby d7_14) rfl q) ?_
  show Go p e below _ (T1.setTop (mkF m 15 #[.val (.ref a1), .val (.ref a2), .val (.int (0 : Int32)), .val (.int (0 : Int32))] [(.int (0 : Int32)), (.ref a3), (.int (0 : Int32))]))
  obtain ⟨cl2, Ar2, q2, S2, Ng2, H2, G2⟩ := id V_a3
  refine go (X1.iaload hx (j := (0 : Int32)) (v := (.int i0)) (by rw [e1]; exact Ar2.1) (State.isArrayOf_alike hZ.alike Ar2.2.1) Ar2.2.2 (inb_of S2 ⟨by decide, by decide⟩) (H2 _ (by rw [S2]; decide)) (g := (mkF m 15 #[.val (.ref a1), .val (.ref a2), .val (.int (0 : Int32)), .val (.int (0 : Int32))] [(.int (0 : Int32)), (.ref a3), (.int (0 : Int32))])) rfl rfl (hb hby d7_15)) ?_
  show Go p e below _ (T1.setTop (mkF m 16 #[.val (.ref a1), .val (.ref a2), .val (.int (0 : Int32)), .val (.int (0 : Int32))] [(.int i0), (.int (0 : Int32))]))
  refine go (fun _ q => XS.iconst X1.here hx rfl (hb hby d7_16) q) ?_
  show Go p e below _ (T1.setTop (mkF m 17 #[.val (.ref a1), .val (.ref a2), .val (.int (0 : Int32)), .val (.int (0 : Int32))] [(.int (-1 : Int32)), (.int i0), (.int (0 : Int32))]))
  suffices hj3 : ∀ (T13 : State) (L13 : List Loc), Stand p l e ({ frames := 0, cells := 0, slots := 0, locals := 0 } : Room) s m #[(.ref a1), (.ref a2)] below meth c T13 L13 0 0 → Fr n0 L13 → T13.heap = h0 → ∀ (z12 : Int32), z12 = (if i0 = (-1 : Int32) then (if s0 = (-1 : Int32) then (0 : Int32) else (if (own_at s0 b0 b1 b2) = (0 : Int32) then (0 : Int32) else (1 : Int32))) else (1 : Int32)) → Go p e below (Dn below s ((QP (some (.int (f7 i0 i1 i2 s0 s1 s2 b0 b1 b2))) h0 n0)) ({ frames := 0, cells := 0, slots := 0, locals := 0 } : Room).cells ({ frames := 0, cells := 0, slots := 0, locals := 0 } : Room).slots) (T13.setTop (mkF m 46 #[.val (.ref a1), .val (.ref a2), .val (.int (0 : Int32)), .val (.int (0 : Int32))] [(.int z12), (.int (0 : Int32))])) by
    by_cases hc4 : i0 = (-1 : Int32)
    · refine go (fun _ q => XS.icmpNo X1.here hx rfl (hb hby d7_17) rfl (teq hc4).2 q) ?_
      show Go p e below _ (T1.setTop (mkF m 20 #[.val (.ref a1), .val (.ref a2), .val (.int (0 : Int32)), .val (.int (0 : Int32))] [(.int (0 : Int32))]))
      refine go (fun _ q => XS.aloadN X1.here hx rfl (hb hby d7_20) rfl rfl q) ?_
      show Go p e below _ (T1.setTop (mkF m 21 #[.val (.ref a1), .val (.ref a2), .val (.int (0 : Int32)), .val (.int (0 : Int32))] [(.ref a1), (.int (0 : Int32))]))
      obtain ⟨T5, X5, e5, st5⟩ := getF X1 hx hZ hown (host := "") (Or.inl (hw _ (List.mem_of_getElem? (i := 28) rfl))) Via.refl e1 F_slots (g := (mkF m 21 #[.val (.ref a1), .val (.ref a2), .val (.int (0 : Int32)), .val (.int (0 : Int32))] [(.ref a1), (.int (0 : Int32))])) rfl rfl (hb hby d7_21)
      refine go st5 ?_
      show Go p e below _ (T5.setTop (mkF m 24 #[.val (.ref a1), .val (.ref a2), .val (.int (0 : Int32)), .val (.int (0 : Int32))] [(.ref a4), (.int (0 : Int32))]))
      refine go (fun _ q => XS.iloadN X5.here hx rfl (hb hby d7_24) rfl q) ?_
      show Go p e below _ (T5.setTop (mkF m 25 #[.val (.ref a1), .val (.ref a2), .val (.int (0 : Int32)), .val (.int (0 : Int32))] [(.int (0 : Int32)), (.ref a4), (.int (0 : Int32))]))
      obtain ⟨cl6, Ar6, q6, S6, Ng6, H6, G6⟩ := id V_a4
      refine go (X5.iaload hx (j := (0 : Int32)) (v := (.int s0)) (by rw [e5]; exact Ar6.1) (State.isArrayOf_alike hZ.alike Ar6.2.1) Ar6.2.2 (inb_of S6 ⟨by decide, by decide⟩) (H6 _ (by rw [S6]; decide)) (g := (mkF m 25 #[.val (.ref a1), .val (.ref a2), .val (.int (0 : Int32)), .val (.int (0 : Int32))] [(.int (0 : Int32)), (.ref a4), (.int (0 : Int32))])) rfl rfl (hb hby d7_25)) ?_
      show Go p e below _ (T5.setTop (mkF m 26 #[.val (.ref a1), .val (.ref a2), .val (.int (0 : Int32)), .val (.int (0 : Int32))] [(.int s0), (.int (0 : Int32))]))
      refine go (fun _ q => XS.iconst X5.here hx rfl (hb hby d7_26) q) ?_
      show Go p e below _ (T5.setTop (mkF m 27 #[.val (.ref a1), .val (.ref a2), .val (.int (0 : Int32)), .val (.int (0 : Int32))] [(.int (-1 : Int32)), (.int s0), (.int (0 : Int32))]))
      by_cases hc7 : s0 = (-1 : Int32)
      · refine go (fun _ q => XS.icmpYes X5.here hx rfl (pc0 := 27) (pc' := 45) rfl (hb hby d7_27) rfl (teq hc7).1 (by decide) (by decide) q) ?_
        show Go p e below _ (T5.setTop (mkF m 45 #[.val (.ref a1), .val (.ref a2), .val (.int (0 : Int32)), .val (.int (0 : Int32))] [(.int (0 : Int32))]))
        refine go (fun _ q => XS.iconst X5.here hx rfl (hb hby d7_45) q) ?_
        show Go p e below _ (T5.setTop (mkF m 46 #[.val (.ref a1), .val (.ref a2), .val (.int (0 : Int32)), .val (.int (0 : Int32))] [(.int (0 : Int32)), (.int (0 : Int32))]))
        exact hj3 T5 _ X5 N0 e5 _ (by rw [if_pos hc4, if_pos hc7])
      · refine go (fun _ q => XS.icmpNo X5.here hx rfl (hb hby d7_27) rfl (feq hc7).1 q) ?_
        show Go p e below _ (T5.setTop (mkF m 30 #[.val (.ref a1), .val (.ref a2), .val (.int (0 : Int32)), .val (.int (0 : Int32))] [(.int (0 : Int32))]))
        refine go (fun _ q => XS.aloadN X5.here hx rfl (hb hby d7_30) rfl rfl q) ?_
        show Go p e below _ (T5.setTop (mkF m 31 #[.val (.ref a1), .val (.ref a2), .val (.int (0 : Int32)), .val (.int (0 : Int32))] [(.ref a2), (.int (0 : Int32))]))
        refine go (fun _ q => XS.aloadN X5.here hx rfl (hb hby d7_31) rfl rfl q) ?_
        show Go p e below _ (T5.setTop (mkF m 32 #[.val (.ref a1), .val (.ref a2), .val (.int (0 : Int32)), .val (.int (0 : Int32))] [(.ref a1), (.ref a2), (.int (0 : Int32))]))
        obtain ⟨T8, X8, e8, st8⟩ := getF X5 hx hZ hown (host := "") (Or.inl (hw _ (List.mem_of_getElem? (i := 28) rfl))) Via.refl e5 F_slots (g := (mkF m 32 #[.val (.ref a1), .val (.ref a2), .val (.int (0 : Int32)), .val (.int (0 : Int32))] [(.ref a1), (.ref a2), (.int (0 : Int32))])) rfl rfl (hb hby d7_32)
        refine go st8 ?_
        show Go p e below _ (T8.setTop (mkF m 35 #[.val (.ref a1), .val (.ref a2), .val (.int (0 : Int32)), .val (.int (0 : Int32))] [(.ref a4), (.ref a2), (.int (0 : Int32))]))
        refine go (fun _ q => XS.iloadN X8.here hx rfl (hb hby d7_35) rfl q) ?_
        show Go p e below _ (T8.setTop (mkF m 36 #[.val (.ref a1), .val (.ref a2), .val (.int (0 : Int32)), .val (.int (0 : Int32))] [(.int (0 : Int32)), (.ref a4), (.ref a2), (.int (0 : Int32))]))
        obtain ⟨cl9, Ar9, q9, S9, Ng9, H9, G9⟩ := id V_a4
        refine go (X8.iaload hx (j := (0 : Int32)) (v := (.int s0)) (by rw [e8]; exact Ar9.1) (State.isArrayOf_alike hZ.alike Ar9.2.1) Ar9.2.2 (inb_of S9 ⟨by decide, by decide⟩) (H9 _ (by rw [S9]; decide)) (g := (mkF m 36 #[.val (.ref a1), .val (.ref a2), .val (.int (0 : Int32)), .val (.int (0 : Int32))] [(.int (0 : Int32)), (.ref a4), (.ref a2), (.int (0 : Int32))])) rfl rfl (hb hby d7_36)) ?_
        show Go p e below _ (T8.setTop (mkF m 37 #[.val (.ref a1), .val (.ref a2), .val (.int (0 : Int32)), .val (.int (0 : Int32))] [(.int s0), (.ref a2), (.int (0 : Int32))]))
        obtain ⟨cl10, Ar10, q10, S10, Ng10, H10, G10⟩ := id V_a2
        refine go (X8.baloadBooleans hx (j := s0) (v := (.int (own_at s0 b0 b1 b2))) (by rw [e8]; exact Ar10.1) (State.isArrayOf_alike hZ.alike Ar10.2.1) Ar10.2.2 (own_get S10 H10 ho0 hc7).1 (own_get S10 H10 ho0 hc7).2 (g := (mkF m 37 #[.val (.ref a1), .val (.ref a2), .val (.int (0 : Int32)), .val (.int (0 : Int32))] [(.int s0), (.ref a2), (.int (0 : Int32))])) rfl rfl (hb hby d7_37)) ?_
        show Go p e below _ (T8.setTop (mkF m 38 #[.val (.ref a1), .val (.ref a2), .val (.int (0 : Int32)), .val (.int (0 : Int32))] [(.int (own_at s0 b0 b1 b2)), (.int (0 : Int32))]))
        by_cases hc11 : (own_at s0 b0 b1 b2) = (0 : Int32)
        · refine go (fun _ q => XS.ifYes X8.here hx rfl (pc0 := 38) (pc' := 45) rfl (hb hby d7_38) rfl ((if0 _ _).trans (teq hc11).1) (by decide) (by decide) q) ?_
          show Go p e below _ (T8.setTop (mkF m 45 #[.val (.ref a1), .val (.ref a2), .val (.int (0 : Int32)), .val (.int (0 : Int32))] [(.int (0 : Int32))]))
          refine go (fun _ q => XS.iconst X8.here hx rfl (hb hby d7_45) q) ?_
          show Go p e below _ (T8.setTop (mkF m 46 #[.val (.ref a1), .val (.ref a2), .val (.int (0 : Int32)), .val (.int (0 : Int32))] [(.int (0 : Int32)), (.int (0 : Int32))]))
          exact hj3 T8 _ X8 N0 e8 _ (by rw [if_pos hc4, if_neg hc7, if_pos hc11])
        · refine go (fun _ q => XS.ifNo X8.here hx rfl (hb hby d7_38) rfl ((if0 _ _).trans (feq hc11).1) q) ?_
          show Go p e below _ (T8.setTop (mkF m 41 #[.val (.ref a1), .val (.ref a2), .val (.int (0 : Int32)), .val (.int (0 : Int32))] [(.int (0 : Int32))]))
          refine go (fun _ q => XS.iconst X8.here hx rfl (hb hby d7_41) q) ?_
          show Go p e below _ (T8.setTop (mkF m 42 #[.val (.ref a1), .val (.ref a2), .val (.int (0 : Int32)), .val (.int (0 : Int32))] [(.int (1 : Int32)), (.int (0 : Int32))]))
          refine go (fun _ q => XS.goto X8.here hx rfl (pc0 := 42) (pc' := 46) rfl (hb hby d7_42) (by decide) (by decide) q) ?_
          show Go p e below _ (T8.setTop (mkF m 46 #[.val (.ref a1), .val (.ref a2), .val (.int (0 : Int32)), .val (.int (0 : Int32))] [(.int (1 : Int32)), (.int (0 : Int32))]))
          exact hj3 T8 _ X8 N0 e8 _ (by rw [if_pos hc4, if_neg hc7, if_neg hc11])
    · refine go (fun _ q => XS.icmpYes X1.here hx rfl (pc0 := 17) (pc' := 41) rfl (hb hby d7_17) rfl (feq hc4).2 (by decide) (by decide) q) ?_
      show Go p e below _ (T1.setTop (mkF m 41 #[.val (.ref a1), .val (.ref a2), .val (.int (0 : Int32)), .val (.int (0 : Int32))] [(.int (0 : Int32))]))
      refine go (fun _ q => XS.iconst X1.here hx rfl (hb hby d7_41) q) ?_
      show Go p e below _ (T1.setTop (mkF m 42 #[.val (.ref a1), .val (.ref a2), .val (.int (0 : Int32)), .val (.int (0 : Int32))] [(.int (1 : Int32)), (.int (0 : Int32))]))
      refine go (fun _ q => XS.goto X1.here hx rfl (pc0 := 42) (pc' := 46) rfl (hb hby d7_42) (by decide) (by decide) q) ?_
      show Go p e below _ (T1.setTop (mkF m 46 #[.val (.ref a1), .val (.ref a2), .val (.int (0 : Int32)), .val (.int (0 : Int32))] [(.int (1 : Int32)), (.int (0 : Int32))]))
      exact hj3 T1 _ X1 N0 e1 _ (by rw [if_neg hc4])
  intro T13 L13 X13 N13 e13 z12 hz12
  show Go p e below _ (T13.setTop (mkF m 46 #[.val (.ref a1), .val (.ref a2), .val (.int (0 : Int32)), .val (.int (0 : Int32))] [(.int z12), (.int (0 : Int32))]))
  refine go (fun _ q => XS.iadd X13.here hx rfl (hb hby d7_46) rfl q) ?_
  show Go p e below _ (T13.setTop (mkF m 47 #[.val (.ref a1), .val (.ref a2), .val (.int (0 : Int32)), .val (.int (0 : Int32))] [(.int ((0 : Int32) + z12))]))
  refine go (fun _ q => XS.istoreN X13.here hx rfl (hb hby d7_47) rfl (l' := #[.val (.ref a1), .val (.ref a2), .val (.int ((0 : Int32) + z12)), .val (.int (0 : Int32))]) rfl q) ?_
  show Go p e below _ (T13.setTop (mkF m 48 #[.val (.ref a1), .val (.ref a2), .val (.int ((0 : Int32) + z12)), .val (.int (0 : Int32))] []))
  refine go (fun _ q => XS.iinc X13.here hx rfl (hb hby d7_48) rfl (l' := #[.val (.ref a1), .val (.ref a2), .val (.int ((0 : Int32) + z12)), .val (.int (1 : Int32))]) rfl q) ?_
  show Go p e below _ (T13.setTop (mkF m 51 #[.val (.ref a1), .val (.ref a2), .val (.int ((0 : Int32) + z12)), .val (.int (1 : Int32))] []))
  refine go (fun _ q => XS.goto X13.here hx rfl (pc0 := 51) (pc' := 4) rfl (hb hby d7_51) (by decide) (by decide) q) ?_
  show Go p e below _ (T13.setTop (mkF m 4 #[.val (.ref a1), .val (.ref a2), .val (.int ((0 : Int32) + z12)), .val (.int (1 : Int32))] []))
  refine go (fun _ q => XS.iloadN X13.here hx rfl (hb hby d7_4) rfl q) ?_
  show Go p e below _ (T13.setTop (mkF m 5 #[.val (.ref a1), .val (.ref a2), .val (.int ((0 : Int32) + z12)), .val (.int (1 : Int32))] [(.int (1 : Int32))]))
  refine go (fun _ q => XS.iconst X13.here hx rfl (hb hby d7_5) q) ?_
  show Go p e below _ (T13.setTop (mkF m 6 #[.val (.ref a1), .val (.ref a2), .val (.int ((0 : Int32) + z12)), .val (.int (1 : Int32))] [(.int (3 : Int32)), (.int (1 : Int32))]))
  refine go (fun _ q => XS.icmpNo X13.here hx rfl (hb hby d7_6) rfl (tlt (by decide : (1 : Int32) < (3 : Int32))).2.1 q) ?_
  show Go p e below _ (T13.setTop (mkF m 9 #[.val (.ref a1), .val (.ref a2), .val (.int ((0 : Int32) + z12)), .val (.int (1 : Int32))] []))
  refine go (fun _ q => XS.iloadN X13.here hx rfl (hb hby d7_9) rfl q) ?_
  show Go p e below _ (T13.setTop (mkF m 10 #[.val (.ref a1), .val (.ref a2), .val (.int ((0 : Int32) + z12)), .val (.int (1 : Int32))] [(.int ((0 : Int32) + z12))]))
  refine go (fun _ q => XS.aloadN X13.here hx rfl (hb hby d7_10) rfl rfl q) ?_
  show Go p e below _ (T13.setTop (mkF m 11 #[.val (.ref a1), .val (.ref a2), .val (.int ((0 : Int32) + z12)), .val (.int (1 : Int32))] [(.ref a1), (.int ((0 : Int32) + z12))]))
  obtain ⟨T14, X14, e14, st14⟩ := getF X13 hx hZ hown (host := "") (Or.inl (hw _ (List.mem_of_getElem? (i := 26) rfl))) Via.refl e13 F_ids (g := (mkF m 11 #[.val (.ref a1), .val (.ref a2), .val (.int ((0 : Int32) + z12)), .val (.int (1 : Int32))] [(.ref a1), (.int ((0 : Int32) + z12))])) rfl rfl (hb hby d7_11)
  refine go st14 ?_
  show Go p e below _ (T14.setTop (mkF m 14 #[.val (.ref a1), .val (.ref a2), .val (.int ((0 : Int32) + z12)), .val (.int (1 : Int32))] [(.ref a3), (.int ((0 : Int32) + z12))]))
  refine go (fun _ q => XS.iloadN X14.here hx rfl (hb hby d7_14) rfl q) ?_
  show Go p e below _ (T14.setTop (mkF m 15 #[.val (.ref a1), .val (.ref a2), .val (.int ((0 : Int32) + z12)), .val (.int (1 : Int32))] [(.int (1 : Int32)), (.ref a3), (.int ((0 : Int32) + z12))]))
  obtain ⟨cl15, Ar15, q15, S15, Ng15, H15, G15⟩ := id V_a3
  refine go (X14.iaload hx (j := (1 : Int32)) (v := (.int i1)) (by rw [e14]; exact Ar15.1) (State.isArrayOf_alike hZ.alike Ar15.2.1) Ar15.2.2 (inb_of S15 ⟨by decide, by decide⟩) (H15 _ (by rw [S15]; decide)) (g := (mkF m 15 #[.val (.ref a1), .val (.ref a2), .val (.int ((0 : Int32) + z12)), .val (.int (1 : Int32))] [(.int (1 : Int32)), (.ref a3), (.int ((0 : Int32) + z12))])) rfl rfl (hb hby d7_15)) ?_
  show Go p e below _ (T14.setTop (mkF m 16 #[.val (.ref a1), .val (.ref a2), .val (.int ((0 : Int32) + z12)), .val (.int (1 : Int32))] [(.int i1), (.int ((0 : Int32) + z12))]))
  refine go (fun _ q => XS.iconst X14.here hx rfl (hb hby d7_16) q) ?_
  show Go p e below _ (T14.setTop (mkF m 17 #[.val (.ref a1), .val (.ref a2), .val (.int ((0 : Int32) + z12)), .val (.int (1 : Int32))] [(.int (-1 : Int32)), (.int i1), (.int ((0 : Int32) + z12))]))
  suffices hj16 : ∀ (T26 : State) (L26 : List Loc), Stand p l e ({ frames := 0, cells := 0, slots := 0, locals := 0 } : Room) s m #[(.ref a1), (.ref a2)] below meth c T26 L26 0 0 → Fr n0 L26 → T26.heap = h0 → ∀ (z25 : Int32), z25 = (if i1 = (-1 : Int32) then (if s1 = (-1 : Int32) then (0 : Int32) else (if (own_at s1 b0 b1 b2) = (0 : Int32) then (0 : Int32) else (1 : Int32))) else (1 : Int32)) → Go p e below (Dn below s ((QP (some (.int (f7 i0 i1 i2 s0 s1 s2 b0 b1 b2))) h0 n0)) ({ frames := 0, cells := 0, slots := 0, locals := 0 } : Room).cells ({ frames := 0, cells := 0, slots := 0, locals := 0 } : Room).slots) (T26.setTop (mkF m 46 #[.val (.ref a1), .val (.ref a2), .val (.int ((0 : Int32) + z12)), .val (.int (1 : Int32))] [(.int z25), (.int ((0 : Int32) + z12))])) by
    by_cases hc17 : i1 = (-1 : Int32)
    · refine go (fun _ q => XS.icmpNo X14.here hx rfl (hb hby d7_17) rfl (teq hc17).2 q) ?_
      show Go p e below _ (T14.setTop (mkF m 20 #[.val (.ref a1), .val (.ref a2), .val (.int ((0 : Int32) + z12)), .val (.int (1 : Int32))] [(.int ((0 : Int32) + z12))]))
      refine go (fun _ q => XS.aloadN X14.here hx rfl (hb hby d7_20) rfl rfl q) ?_
      show Go p e below _ (T14.setTop (mkF m 21 #[.val (.ref a1), .val (.ref a2), .val (.int ((0 : Int32) + z12)), .val (.int (1 : Int32))] [(.ref a1), (.int ((0 : Int32) + z12))]))
      obtain ⟨T18, X18, e18, st18⟩ := getF X14 hx hZ hown (host := "") (Or.inl (hw _ (List.mem_of_getElem? (i := 28) rfl))) Via.refl e14 F_slots (g := (mkF m 21 #[.val (.ref a1), .val (.ref a2), .val (.int ((0 : Int32) + z12)), .val (.int (1 : Int32))] [(.ref a1), (.int ((0 : Int32) + z12))])) rfl rfl (hb hby d7_21)
      refine go st18 ?_
      show Go p e below _ (T18.setTop (mkF m 24 #[.val (.ref a1), .val (.ref a2), .val (.int ((0 : Int32) + z12)), .val (.int (1 : Int32))] [(.ref a4), (.int ((0 : Int32) + z12))]))
      refine go (fun _ q => XS.iloadN X18.here hx rfl (hb hby d7_24) rfl q) ?_
      show Go p e below _ (T18.setTop (mkF m 25 #[.val (.ref a1), .val (.ref a2), .val (.int ((0 : Int32) + z12)), .val (.int (1 : Int32))] [(.int (1 : Int32)), (.ref a4), (.int ((0 : Int32) + z12))]))
      obtain ⟨cl19, Ar19, q19, S19, Ng19, H19, G19⟩ := id V_a4
      refine go (X18.iaload hx (j := (1 : Int32)) (v := (.int s1)) (by rw [e18]; exact Ar19.1) (State.isArrayOf_alike hZ.alike Ar19.2.1) Ar19.2.2 (inb_of S19 ⟨by decide, by decide⟩) (H19 _ (by rw [S19]; decide)) (g := (mkF m 25 #[.val (.ref a1), .val (.ref a2), .val (.int ((0 : Int32) + z12)), .val (.int (1 : Int32))] [(.int (1 : Int32)), (.ref a4), (.int ((0 : Int32) + z12))])) rfl rfl (hb hby d7_25)) ?_
      show Go p e below _ (T18.setTop (mkF m 26 #[.val (.ref a1), .val (.ref a2), .val (.int ((0 : Int32) + z12)), .val (.int (1 : Int32))] [(.int s1), (.int ((0 : Int32) + z12))]))
      refine go (fun _ q => XS.iconst X18.here hx rfl (hb hby d7_26) q) ?_
      show Go p e below _ (T18.setTop (mkF m 27 #[.val (.ref a1), .val (.ref a2), .val (.int ((0 : Int32) + z12)), .val (.int (1 : Int32))] [(.int (-1 : Int32)), (.int s1), (.int ((0 : Int32) + z12))]))
      by_cases hc20 : s1 = (-1 : Int32)
      · refine go (fun _ q => XS.icmpYes X18.here hx rfl (pc0 := 27) (pc' := 45) rfl (hb hby d7_27) rfl (teq hc20).1 (by decide) (by decide) q) ?_
        show Go p e below _ (T18.setTop (mkF m 45 #[.val (.ref a1), .val (.ref a2), .val (.int ((0 : Int32) + z12)), .val (.int (1 : Int32))] [(.int ((0 : Int32) + z12))]))
        refine go (fun _ q => XS.iconst X18.here hx rfl (hb hby d7_45) q) ?_
        show Go p e below _ (T18.setTop (mkF m 46 #[.val (.ref a1), .val (.ref a2), .val (.int ((0 : Int32) + z12)), .val (.int (1 : Int32))] [(.int (0 : Int32)), (.int ((0 : Int32) + z12))]))
        exact hj16 T18 _ X18 N13 e18 _ (by rw [if_pos hc17, if_pos hc20])
      · refine go (fun _ q => XS.icmpNo X18.here hx rfl (hb hby d7_27) rfl (feq hc20).1 q) ?_
        show Go p e below _ (T18.setTop (mkF m 30 #[.val (.ref a1), .val (.ref a2), .val (.int ((0 : Int32) + z12)), .val (.int (1 : Int32))] [(.int ((0 : Int32) + z12))]))
        refine go (fun _ q => XS.aloadN X18.here hx rfl (hb hby d7_30) rfl rfl q) ?_
        show Go p e below _ (T18.setTop (mkF m 31 #[.val (.ref a1), .val (.ref a2), .val (.int ((0 : Int32) + z12)), .val (.int (1 : Int32))] [(.ref a2), (.int ((0 : Int32) + z12))]))
        refine go (fun _ q => XS.aloadN X18.here hx rfl (hb hby d7_31) rfl rfl q) ?_
        show Go p e below _ (T18.setTop (mkF m 32 #[.val (.ref a1), .val (.ref a2), .val (.int ((0 : Int32) + z12)), .val (.int (1 : Int32))] [(.ref a1), (.ref a2), (.int ((0 : Int32) + z12))]))
        obtain ⟨T21, X21, e21, st21⟩ := getF X18 hx hZ hown (host := "") (Or.inl (hw _ (List.mem_of_getElem? (i := 28) rfl))) Via.refl e18 F_slots (g := (mkF m 32 #[.val (.ref a1), .val (.ref a2), .val (.int ((0 : Int32) + z12)), .val (.int (1 : Int32))] [(.ref a1), (.ref a2), (.int ((0 : Int32) + z12))])) rfl rfl (hb hby d7_32)
        refine go st21 ?_
        show Go p e below _ (T21.setTop (mkF m 35 #[.val (.ref a1), .val (.ref a2), .val (.int ((0 : Int32) + z12)), .val (.int (1 : Int32))] [(.ref a4), (.ref a2), (.int ((0 : Int32) + z12))]))
        refine go (fun _ q => XS.iloadN X21.here hx rfl (hb hby d7_35) rfl q) ?_
        show Go p e below _ (T21.setTop (mkF m 36 #[.val (.ref a1), .val (.ref a2), .val (.int ((0 : Int32) + z12)), .val (.int (1 : Int32))] [(.int (1 : Int32)), (.ref a4), (.ref a2), (.int ((0 : Int32) + z12))]))
        obtain ⟨cl22, Ar22, q22, S22, Ng22, H22, G22⟩ := id V_a4
        refine go (X21.iaload hx (j := (1 : Int32)) (v := (.int s1)) (by rw [e21]; exact Ar22.1) (State.isArrayOf_alike hZ.alike Ar22.2.1) Ar22.2.2 (inb_of S22 ⟨by decide, by decide⟩) (H22 _ (by rw [S22]; decide)) (g := (mkF m 36 #[.val (.ref a1), .val (.ref a2), .val (.int ((0 : Int32) + z12)), .val (.int (1 : Int32))] [(.int (1 : Int32)), (.ref a4), (.ref a2), (.int ((0 : Int32) + z12))])) rfl rfl (hb hby d7_36)) ?_
        show Go p e below _ (T21.setTop (mkF m 37 #[.val (.ref a1), .val (.ref a2), .val (.int ((0 : Int32) + z12)), .val (.int (1 : Int32))] [(.int s1), (.ref a2), (.int ((0 : Int32) + z12))]))
        obtain ⟨cl23, Ar23, q23, S23, Ng23, H23, G23⟩ := id V_a2
        refine go (X21.baloadBooleans hx (j := s1) (v := (.int (own_at s1 b0 b1 b2))) (by rw [e21]; exact Ar23.1) (State.isArrayOf_alike hZ.alike Ar23.2.1) Ar23.2.2 (own_get S23 H23 ho1 hc20).1 (own_get S23 H23 ho1 hc20).2 (g := (mkF m 37 #[.val (.ref a1), .val (.ref a2), .val (.int ((0 : Int32) + z12)), .val (.int (1 : Int32))] [(.int s1), (.ref a2), (.int ((0 : Int32) + z12))])) rfl rfl (hb hby d7_37)) ?_
        show Go p e below _ (T21.setTop (mkF m 38 #[.val (.ref a1), .val (.ref a2), .val (.int ((0 : Int32) + z12)), .val (.int (1 : Int32))] [(.int (own_at s1 b0 b1 b2)), (.int ((0 : Int32) + z12))]))
        by_cases hc24 : (own_at s1 b0 b1 b2) = (0 : Int32)
        · refine go (fun _ q => XS.ifYes X21.here hx rfl (pc0 := 38) (pc' := 45) rfl (hb hby d7_38) rfl ((if0 _ _).trans (teq hc24).1) (by decide) (by decide) q) ?_
          show Go p e below _ (T21.setTop (mkF m 45 #[.val (.ref a1), .val (.ref a2), .val (.int ((0 : Int32) + z12)), .val (.int (1 : Int32))] [(.int ((0 : Int32) + z12))]))
          refine go (fun _ q => XS.iconst X21.here hx rfl (hb hby d7_45) q) ?_
          show Go p e below _ (T21.setTop (mkF m 46 #[.val (.ref a1), .val (.ref a2), .val (.int ((0 : Int32) + z12)), .val (.int (1 : Int32))] [(.int (0 : Int32)), (.int ((0 : Int32) + z12))]))
          exact hj16 T21 _ X21 N13 e21 _ (by rw [if_pos hc17, if_neg hc20, if_pos hc24])
        · refine go (fun _ q => XS.ifNo X21.here hx rfl (hb hby d7_38) rfl ((if0 _ _).trans (feq hc24).1) q) ?_
          show Go p e below _ (T21.setTop (mkF m 41 #[.val (.ref a1), .val (.ref a2), .val (.int ((0 : Int32) + z12)), .val (.int (1 : Int32))] [(.int ((0 : Int32) + z12))]))
          refine go (fun _ q => XS.iconst X21.here hx rfl (hb hby d7_41) q) ?_
          show Go p e below _ (T21.setTop (mkF m 42 #[.val (.ref a1), .val (.ref a2), .val (.int ((0 : Int32) + z12)), .val (.int (1 : Int32))] [(.int (1 : Int32)), (.int ((0 : Int32) + z12))]))
          refine go (fun _ q => XS.goto X21.here hx rfl (pc0 := 42) (pc' := 46) rfl (hb hby d7_42) (by decide) (by decide) q) ?_
          show Go p e below _ (T21.setTop (mkF m 46 #[.val (.ref a1), .val (.ref a2), .val (.int ((0 : Int32) + z12)), .val (.int (1 : Int32))] [(.int (1 : Int32)), (.int ((0 : Int32) + z12))]))
          exact hj16 T21 _ X21 N13 e21 _ (by rw [if_pos hc17, if_neg hc20, if_neg hc24])
    · refine go (fun _ q => XS.icmpYes X14.here hx rfl (pc0 := 17) (pc' := 41) rfl (hb hby d7_17) rfl (feq hc17).2 (by decide) (by decide) q) ?_
      show Go p e below _ (T14.setTop (mkF m 41 #[.val (.ref a1), .val (.ref a2), .val (.int ((0 : Int32) + z12)), .val (.int (1 : Int32))] [(.int ((0 : Int32) + z12))]))
      refine go (fun _ q => XS.iconst X14.here hx rfl (hb hby d7_41) q) ?_
      show Go p e below _ (T14.setTop (mkF m 42 #[.val (.ref a1), .val (.ref a2), .val (.int ((0 : Int32) + z12)), .val (.int (1 : Int32))] [(.int (1 : Int32)), (.int ((0 : Int32) + z12))]))
      refine go (fun _ q => XS.goto X14.here hx rfl (pc0 := 42) (pc' := 46) rfl (hb hby d7_42) (by decide) (by decide) q) ?_
      show Go p e below _ (T14.setTop (mkF m 46 #[.val (.ref a1), .val (.ref a2), .val (.int ((0 : Int32) + z12)), .val (.int (1 : Int32))] [(.int (1 : Int32)), (.int ((0 : Int32) + z12))]))
      exact hj16 T14 _ X14 N13 e14 _ (by rw [if_neg hc17])
  intro T26 L26 X26 N26 e26 z25 hz25
  show Go p e below _ (T26.setTop (mkF m 46 #[.val (.ref a1), .val (.ref a2), .val (.int ((0 : Int32) + z12)), .val (.int (1 : Int32))] [(.int z25), (.int ((0 : Int32) + z12))]))
  refine go (fun _ q => XS.iadd X26.here hx rfl (hb hby d7_46) rfl q) ?_
  show Go p e below _ (T26.setTop (mkF m 47 #[.val (.ref a1), .val (.ref a2), .val (.int ((0 : Int32) + z12)), .val (.int (1 : Int32))] [(.int (((0 : Int32) + z12) + z25))]))
  refine go (fun _ q => XS.istoreN X26.here hx rfl (hb hby d7_47) rfl (l' := #[.val (.ref a1), .val (.ref a2), .val (.int (((0 : Int32) + z12) + z25)), .val (.int (1 : Int32))]) rfl q) ?_
  show Go p e below _ (T26.setTop (mkF m 48 #[.val (.ref a1), .val (.ref a2), .val (.int (((0 : Int32) + z12) + z25)), .val (.int (1 : Int32))] []))
  refine go (fun _ q => XS.iinc X26.here hx rfl (hb hby d7_48) rfl (l' := #[.val (.ref a1), .val (.ref a2), .val (.int (((0 : Int32) + z12) + z25)), .val (.int (2 : Int32))]) rfl q) ?_
  show Go p e below _ (T26.setTop (mkF m 51 #[.val (.ref a1), .val (.ref a2), .val (.int (((0 : Int32) + z12) + z25)), .val (.int (2 : Int32))] []))
  refine go (fun _ q => XS.goto X26.here hx rfl (pc0 := 51) (pc' := 4) rfl (hb hby d7_51) (by decide) (by decide) q) ?_
  show Go p e below _ (T26.setTop (mkF m 4 #[.val (.ref a1), .val (.ref a2), .val (.int (((0 : Int32) + z12) + z25)), .val (.int (2 : Int32))] []))
  refine go (fun _ q => XS.iloadN X26.here hx rfl (hb hby d7_4) rfl q) ?_
  show Go p e below _ (T26.setTop (mkF m 5 #[.val (.ref a1), .val (.ref a2), .val (.int (((0 : Int32) + z12) + z25)), .val (.int (2 : Int32))] [(.int (2 : Int32))]))
  refine go (fun _ q => XS.iconst X26.here hx rfl (hb hby d7_5) q) ?_
  show Go p e below _ (T26.setTop (mkF m 6 #[.val (.ref a1), .val (.ref a2), .val (.int (((0 : Int32) + z12) + z25)), .val (.int (2 : Int32))] [(.int (3 : Int32)), (.int (2 : Int32))]))
  refine go (fun _ q => XS.icmpNo X26.here hx rfl (hb hby d7_6) rfl (tlt (by decide : (2 : Int32) < (3 : Int32))).2.1 q) ?_
  show Go p e below _ (T26.setTop (mkF m 9 #[.val (.ref a1), .val (.ref a2), .val (.int (((0 : Int32) + z12) + z25)), .val (.int (2 : Int32))] []))
  refine go (fun _ q => XS.iloadN X26.here hx rfl (hb hby d7_9) rfl q) ?_
  show Go p e below _ (T26.setTop (mkF m 10 #[.val (.ref a1), .val (.ref a2), .val (.int (((0 : Int32) + z12) + z25)), .val (.int (2 : Int32))] [(.int (((0 : Int32) + z12) + z25))]))
  refine go (fun _ q => XS.aloadN X26.here hx rfl (hb hby d7_10) rfl rfl q) ?_
  show Go p e below _ (T26.setTop (mkF m 11 #[.val (.ref a1), .val (.ref a2), .val (.int (((0 : Int32) + z12) + z25)), .val (.int (2 : Int32))] [(.ref a1), (.int (((0 : Int32) + z12) + z25))]))
  obtain ⟨T27, X27, e27, st27⟩ := getF X26 hx hZ hown (host := "") (Or.inl (hw _ (List.mem_of_getElem? (i := 26) rfl))) Via.refl e26 F_ids (g := (mkF m 11 #[.val (.ref a1), .val (.ref a2), .val (.int (((0 : Int32) + z12) + z25)), .val (.int (2 : Int32))] [(.ref a1), (.int (((0 : Int32) + z12) + z25))])) rfl rfl (hb hby d7_11)
  refine go st27 ?_
  show Go p e below _ (T27.setTop (mkF m 14 #[.val (.ref a1), .val (.ref a2), .val (.int (((0 : Int32) + z12) + z25)), .val (.int (2 : Int32))] [(.ref a3), (.int (((0 : Int32) + z12) + z25))]))
  refine go (fun _ q => XS.iloadN X27.here hx rfl (hb hby d7_14) rfl q) ?_
  show Go p e below _ (T27.setTop (mkF m 15 #[.val (.ref a1), .val (.ref a2), .val (.int (((0 : Int32) + z12) + z25)), .val (.int (2 : Int32))] [(.int (2 : Int32)), (.ref a3), (.int (((0 : Int32) + z12) + z25))]))
  obtain ⟨cl28, Ar28, q28, S28, Ng28, H28, G28⟩ := id V_a3
  refine go (X27.iaload hx (j := (2 : Int32)) (v := (.int i2)) (by rw [e27]; exact Ar28.1) (State.isArrayOf_alike hZ.alike Ar28.2.1) Ar28.2.2 (inb_of S28 ⟨by decide, by decide⟩) (H28 _ (by rw [S28]; decide)) (g := (mkF m 15 #[.val (.ref a1), .val (.ref a2), .val (.int (((0 : Int32) + z12) + z25)), .val (.int (2 : Int32))] [(.int (2 : Int32)), (.ref a3), (.int (((0 : Int32) + z12) + z25))])) rfl rfl (hb hby d7_15)) ?_
  show Go p e below _ (T27.setTop (mkF m 16 #[.val (.ref a1), .val (.ref a2), .val (.int (((0 : Int32) + z12) + z25)), .val (.int (2 : Int32))] [(.int i2), (.int (((0 : Int32) + z12) + z25))]))
  refine go (fun _ q => XS.iconst X27.here hx rfl (hb hby d7_16) q) ?_
  show Go p e below _ (T27.setTop (mkF m 17 #[.val (.ref a1), .val (.ref a2), .val (.int (((0 : Int32) + z12) + z25)), .val (.int (2 : Int32))] [(.int (-1 : Int32)), (.int i2), (.int (((0 : Int32) + z12) + z25))]))
  suffices hj29 : ∀ (T39 : State) (L39 : List Loc), Stand p l e ({ frames := 0, cells := 0, slots := 0, locals := 0 } : Room) s m #[(.ref a1), (.ref a2)] below meth c T39 L39 0 0 → Fr n0 L39 → T39.heap = h0 → ∀ (z38 : Int32), z38 = (if i2 = (-1 : Int32) then (if s2 = (-1 : Int32) then (0 : Int32) else (if (own_at s2 b0 b1 b2) = (0 : Int32) then (0 : Int32) else (1 : Int32))) else (1 : Int32)) → Go p e below (Dn below s ((QP (some (.int (f7 i0 i1 i2 s0 s1 s2 b0 b1 b2))) h0 n0)) ({ frames := 0, cells := 0, slots := 0, locals := 0 } : Room).cells ({ frames := 0, cells := 0, slots := 0, locals := 0 } : Room).slots) (T39.setTop (mkF m 46 #[.val (.ref a1), .val (.ref a2), .val (.int (((0 : Int32) + z12) + z25)), .val (.int (2 : Int32))] [(.int z38), (.int (((0 : Int32) + z12) + z25))])) by
    by_cases hc30 : i2 = (-1 : Int32)
    · refine go (fun _ q => XS.icmpNo X27.here hx rfl (hb hby d7_17) rfl (teq hc30).2 q) ?_
      show Go p e below _ (T27.setTop (mkF m 20 #[.val (.ref a1), .val (.ref a2), .val (.int (((0 : Int32) + z12) + z25)), .val (.int (2 : Int32))] [(.int (((0 : Int32) + z12) + z25))]))
      refine go (fun _ q => XS.aloadN X27.here hx rfl (hb hby d7_20) rfl rfl q) ?_
      show Go p e below _ (T27.setTop (mkF m 21 #[.val (.ref a1), .val (.ref a2), .val (.int (((0 : Int32) + z12) + z25)), .val (.int (2 : Int32))] [(.ref a1), (.int (((0 : Int32) + z12) + z25))]))
      obtain ⟨T31, X31, e31, st31⟩ := getF X27 hx hZ hown (host := "") (Or.inl (hw _ (List.mem_of_getElem? (i := 28) rfl))) Via.refl e27 F_slots (g := (mkF m 21 #[.val (.ref a1), .val (.ref a2), .val (.int (((0 : Int32) + z12) + z25)), .val (.int (2 : Int32))] [(.ref a1), (.int (((0 : Int32) + z12) + z25))])) rfl rfl (hb hby d7_21)
      refine go st31 ?_
      show Go p e below _ (T31.setTop (mkF m 24 #[.val (.ref a1), .val (.ref a2), .val (.int (((0 : Int32) + z12) + z25)), .val (.int (2 : Int32))] [(.ref a4), (.int (((0 : Int32) + z12) + z25))]))
      refine go (fun _ q => XS.iloadN X31.here hx rfl (hb hby d7_24) rfl q) ?_
      show Go p e below _ (T31.setTop (mkF m 25 #[.val (.ref a1), .val (.ref a2), .val (.int (((0 : Int32) + z12) + z25)), .val (.int (2 : Int32))] [(.int (2 : Int32)), (.ref a4), (.int (((0 : Int32) + z12) + z25))]))
      obtain ⟨cl32, Ar32, q32, S32, Ng32, H32, G32⟩ := id V_a4
      refine go (X31.iaload hx (j := (2 : Int32)) (v := (.int s2)) (by rw [e31]; exact Ar32.1) (State.isArrayOf_alike hZ.alike Ar32.2.1) Ar32.2.2 (inb_of S32 ⟨by decide, by decide⟩) (H32 _ (by rw [S32]; decide)) (g := (mkF m 25 #[.val (.ref a1), .val (.ref a2), .val (.int (((0 : Int32) + z12) + z25)), .val (.int (2 : Int32))] [(.int (2 : Int32)), (.ref a4), (.int (((0 : Int32) + z12) + z25))])) rfl rfl (hb hby d7_25)) ?_
      show Go p e below _ (T31.setTop (mkF m 26 #[.val (.ref a1), .val (.ref a2), .val (.int (((0 : Int32) + z12) + z25)), .val (.int (2 : Int32))] [(.int s2), (.int (((0 : Int32) + z12) + z25))]))
      refine go (fun _ q => XS.iconst X31.here hx rfl (hb hby d7_26) q) ?_
      show Go p e below _ (T31.setTop (mkF m 27 #[.val (.ref a1), .val (.ref a2), .val (.int (((0 : Int32) + z12) + z25)), .val (.int (2 : Int32))] [(.int (-1 : Int32)), (.int s2), (.int (((0 : Int32) + z12) + z25))]))
      by_cases hc33 : s2 = (-1 : Int32)
      · refine go (fun _ q => XS.icmpYes X31.here hx rfl (pc0 := 27) (pc' := 45) rfl (hb hby d7_27) rfl (teq hc33).1 (by decide) (by decide) q) ?_
        show Go p e below _ (T31.setTop (mkF m 45 #[.val (.ref a1), .val (.ref a2), .val (.int (((0 : Int32) + z12) + z25)), .val (.int (2 : Int32))] [(.int (((0 : Int32) + z12) + z25))]))
        refine go (fun _ q => XS.iconst X31.here hx rfl (hb hby d7_45) q) ?_
        show Go p e below _ (T31.setTop (mkF m 46 #[.val (.ref a1), .val (.ref a2), .val (.int (((0 : Int32) + z12) + z25)), .val (.int (2 : Int32))] [(.int (0 : Int32)), (.int (((0 : Int32) + z12) + z25))]))
        exact hj29 T31 _ X31 N26 e31 _ (by rw [if_pos hc30, if_pos hc33])
      · refine go (fun _ q => XS.icmpNo X31.here hx rfl (hb hby d7_27) rfl (feq hc33).1 q) ?_
        show Go p e below _ (T31.setTop (mkF m 30 #[.val (.ref a1), .val (.ref a2), .val (.int (((0 : Int32) + z12) + z25)), .val (.int (2 : Int32))] [(.int (((0 : Int32) + z12) + z25))]))
        refine go (fun _ q => XS.aloadN X31.here hx rfl (hb hby d7_30) rfl rfl q) ?_
        show Go p e below _ (T31.setTop (mkF m 31 #[.val (.ref a1), .val (.ref a2), .val (.int (((0 : Int32) + z12) + z25)), .val (.int (2 : Int32))] [(.ref a2), (.int (((0 : Int32) + z12) + z25))]))
        refine go (fun _ q => XS.aloadN X31.here hx rfl (hb hby d7_31) rfl rfl q) ?_
        show Go p e below _ (T31.setTop (mkF m 32 #[.val (.ref a1), .val (.ref a2), .val (.int (((0 : Int32) + z12) + z25)), .val (.int (2 : Int32))] [(.ref a1), (.ref a2), (.int (((0 : Int32) + z12) + z25))]))
        obtain ⟨T34, X34, e34, st34⟩ := getF X31 hx hZ hown (host := "") (Or.inl (hw _ (List.mem_of_getElem? (i := 28) rfl))) Via.refl e31 F_slots (g := (mkF m 32 #[.val (.ref a1), .val (.ref a2), .val (.int (((0 : Int32) + z12) + z25)), .val (.int (2 : Int32))] [(.ref a1), (.ref a2), (.int (((0 : Int32) + z12) + z25))])) rfl rfl (hb hby d7_32)
        refine go st34 ?_
        show Go p e below _ (T34.setTop (mkF m 35 #[.val (.ref a1), .val (.ref a2), .val (.int (((0 : Int32) + z12) + z25)), .val (.int (2 : Int32))] [(.ref a4), (.ref a2), (.int (((0 : Int32) + z12) + z25))]))
        refine go (fun _ q => XS.iloadN X34.here hx rfl (hb hby d7_35) rfl q) ?_
        show Go p e below _ (T34.setTop (mkF m 36 #[.val (.ref a1), .val (.ref a2), .val (.int (((0 : Int32) + z12) + z25)), .val (.int (2 : Int32))] [(.int (2 : Int32)), (.ref a4), (.ref a2), (.int (((0 : Int32) + z12) + z25))]))
        obtain ⟨cl35, Ar35, q35, S35, Ng35, H35, G35⟩ := id V_a4
        refine go (X34.iaload hx (j := (2 : Int32)) (v := (.int s2)) (by rw [e34]; exact Ar35.1) (State.isArrayOf_alike hZ.alike Ar35.2.1) Ar35.2.2 (inb_of S35 ⟨by decide, by decide⟩) (H35 _ (by rw [S35]; decide)) (g := (mkF m 36 #[.val (.ref a1), .val (.ref a2), .val (.int (((0 : Int32) + z12) + z25)), .val (.int (2 : Int32))] [(.int (2 : Int32)), (.ref a4), (.ref a2), (.int (((0 : Int32) + z12) + z25))])) rfl rfl (hb hby d7_36)) ?_
        show Go p e below _ (T34.setTop (mkF m 37 #[.val (.ref a1), .val (.ref a2), .val (.int (((0 : Int32) + z12) + z25)), .val (.int (2 : Int32))] [(.int s2), (.ref a2), (.int (((0 : Int32) + z12) + z25))]))
        obtain ⟨cl36, Ar36, q36, S36, Ng36, H36, G36⟩ := id V_a2
        refine go (X34.baloadBooleans hx (j := s2) (v := (.int (own_at s2 b0 b1 b2))) (by rw [e34]; exact Ar36.1) (State.isArrayOf_alike hZ.alike Ar36.2.1) Ar36.2.2 (own_get S36 H36 ho2 hc33).1 (own_get S36 H36 ho2 hc33).2 (g := (mkF m 37 #[.val (.ref a1), .val (.ref a2), .val (.int (((0 : Int32) + z12) + z25)), .val (.int (2 : Int32))] [(.int s2), (.ref a2), (.int (((0 : Int32) + z12) + z25))])) rfl rfl (hb hby d7_37)) ?_
        show Go p e below _ (T34.setTop (mkF m 38 #[.val (.ref a1), .val (.ref a2), .val (.int (((0 : Int32) + z12) + z25)), .val (.int (2 : Int32))] [(.int (own_at s2 b0 b1 b2)), (.int (((0 : Int32) + z12) + z25))]))
        by_cases hc37 : (own_at s2 b0 b1 b2) = (0 : Int32)
        · refine go (fun _ q => XS.ifYes X34.here hx rfl (pc0 := 38) (pc' := 45) rfl (hb hby d7_38) rfl ((if0 _ _).trans (teq hc37).1) (by decide) (by decide) q) ?_
          show Go p e below _ (T34.setTop (mkF m 45 #[.val (.ref a1), .val (.ref a2), .val (.int (((0 : Int32) + z12) + z25)), .val (.int (2 : Int32))] [(.int (((0 : Int32) + z12) + z25))]))
          refine go (fun _ q => XS.iconst X34.here hx rfl (hb hby d7_45) q) ?_
          show Go p e below _ (T34.setTop (mkF m 46 #[.val (.ref a1), .val (.ref a2), .val (.int (((0 : Int32) + z12) + z25)), .val (.int (2 : Int32))] [(.int (0 : Int32)), (.int (((0 : Int32) + z12) + z25))]))
          exact hj29 T34 _ X34 N26 e34 _ (by rw [if_pos hc30, if_neg hc33, if_pos hc37])
        · refine go (fun _ q => XS.ifNo X34.here hx rfl (hb hby d7_38) rfl ((if0 _ _).trans (feq hc37).1) q) ?_
          show Go p e below _ (T34.setTop (mkF m 41 #[.val (.ref a1), .val (.ref a2), .val (.int (((0 : Int32) + z12) + z25)), .val (.int (2 : Int32))] [(.int (((0 : Int32) + z12) + z25))]))
          refine go (fun _ q => XS.iconst X34.here hx rfl (hb hby d7_41) q) ?_
          show Go p e below _ (T34.setTop (mkF m 42 #[.val (.ref a1), .val (.ref a2), .val (.int (((0 : Int32) + z12) + z25)), .val (.int (2 : Int32))] [(.int (1 : Int32)), (.int (((0 : Int32) + z12) + z25))]))
          refine go (fun _ q => XS.goto X34.here hx rfl (pc0 := 42) (pc' := 46) rfl (hb hby d7_42) (by decide) (by decide) q) ?_
          show Go p e below _ (T34.setTop (mkF m 46 #[.val (.ref a1), .val (.ref a2), .val (.int (((0 : Int32) + z12) + z25)), .val (.int (2 : Int32))] [(.int (1 : Int32)), (.int (((0 : Int32) + z12) + z25))]))
          exact hj29 T34 _ X34 N26 e34 _ (by rw [if_pos hc30, if_neg hc33, if_neg hc37])
    · refine go (fun _ q => XS.icmpYes X27.here hx rfl (pc0 := 17) (pc' := 41) rfl (hb hby d7_17) rfl (feq hc30).2 (by decide) (by decide) q) ?_
      show Go p e below _ (T27.setTop (mkF m 41 #[.val (.ref a1), .val (.ref a2), .val (.int (((0 : Int32) + z12) + z25)), .val (.int (2 : Int32))] [(.int (((0 : Int32) + z12) + z25))]))
      refine go (fun _ q => XS.iconst X27.here hx rfl (hb hby d7_41) q) ?_
      show Go p e below _ (T27.setTop (mkF m 42 #[.val (.ref a1), .val (.ref a2), .val (.int (((0 : Int32) + z12) + z25)), .val (.int (2 : Int32))] [(.int (1 : Int32)), (.int (((0 : Int32) + z12) + z25))]))
      refine go (fun _ q => XS.goto X27.here hx rfl (pc0 := 42) (pc' := 46) rfl (hb hby d7_42) (by decide) (by decide) q) ?_
      show Go p e below _ (T27.setTop (mkF m 46 #[.val (.ref a1), .val (.ref a2), .val (.int (((0 : Int32) + z12) + z25)), .val (.int (2 : Int32))] [(.int (1 : Int32)), (.int (((0 : Int32) + z12) + z25))]))
      exact hj29 T27 _ X27 N26 e27 _ (by rw [if_neg hc30])
  intro T39 L39 X39 N39 e39 z38 hz38
  show Go p e below _ (T39.setTop (mkF m 46 #[.val (.ref a1), .val (.ref a2), .val (.int (((0 : Int32) + z12) + z25)), .val (.int (2 : Int32))] [(.int z38), (.int (((0 : Int32) + z12) + z25))]))
  refine go (fun _ q => XS.iadd X39.here hx rfl (hb hby d7_46) rfl q) ?_
  show Go p e below _ (T39.setTop (mkF m 47 #[.val (.ref a1), .val (.ref a2), .val (.int (((0 : Int32) + z12) + z25)), .val (.int (2 : Int32))] [(.int ((((0 : Int32) + z12) + z25) + z38))]))
  refine go (fun _ q => XS.istoreN X39.here hx rfl (hb hby d7_47) rfl (l' := #[.val (.ref a1), .val (.ref a2), .val (.int ((((0 : Int32) + z12) + z25) + z38)), .val (.int (2 : Int32))]) rfl q) ?_
  show Go p e below _ (T39.setTop (mkF m 48 #[.val (.ref a1), .val (.ref a2), .val (.int ((((0 : Int32) + z12) + z25) + z38)), .val (.int (2 : Int32))] []))
  refine go (fun _ q => XS.iinc X39.here hx rfl (hb hby d7_48) rfl (l' := #[.val (.ref a1), .val (.ref a2), .val (.int ((((0 : Int32) + z12) + z25) + z38)), .val (.int (3 : Int32))]) rfl q) ?_
  show Go p e below _ (T39.setTop (mkF m 51 #[.val (.ref a1), .val (.ref a2), .val (.int ((((0 : Int32) + z12) + z25) + z38)), .val (.int (3 : Int32))] []))
  refine go (fun _ q => XS.goto X39.here hx rfl (pc0 := 51) (pc' := 4) rfl (hb hby d7_51) (by decide) (by decide) q) ?_
  show Go p e below _ (T39.setTop (mkF m 4 #[.val (.ref a1), .val (.ref a2), .val (.int ((((0 : Int32) + z12) + z25) + z38)), .val (.int (3 : Int32))] []))
  refine go (fun _ q => XS.iloadN X39.here hx rfl (hb hby d7_4) rfl q) ?_
  show Go p e below _ (T39.setTop (mkF m 5 #[.val (.ref a1), .val (.ref a2), .val (.int ((((0 : Int32) + z12) + z25) + z38)), .val (.int (3 : Int32))] [(.int (3 : Int32))]))
  refine go (fun _ q => XS.iconst X39.here hx rfl (hb hby d7_5) q) ?_
  show Go p e below _ (T39.setTop (mkF m 6 #[.val (.ref a1), .val (.ref a2), .val (.int ((((0 : Int32) + z12) + z25) + z38)), .val (.int (3 : Int32))] [(.int (3 : Int32)), (.int (3 : Int32))]))
  refine go (fun _ q => XS.icmpYes X39.here hx rfl (pc0 := 6) (pc' := 54) rfl (hb hby d7_6) rfl (flt (by decide : ¬ ((3 : Int32) < (3 : Int32)))).2.1 (by decide) (by decide) q) ?_
  show Go p e below _ (T39.setTop (mkF m 54 #[.val (.ref a1), .val (.ref a2), .val (.int ((((0 : Int32) + z12) + z25) + z38)), .val (.int (3 : Int32))] []))
  refine go (fun _ q => XS.iloadN X39.here hx rfl (hb hby d7_54) rfl q) ?_
  show Go p e below _ (T39.setTop (mkF m 55 #[.val (.ref a1), .val (.ref a2), .val (.int ((((0 : Int32) + z12) + z25) + z38)), .val (.int (3 : Int32))] [(.int ((((0 : Int32) + z12) + z25) + z38))]))
  exact own_retI X39 hx hlk hret (hb hby d7_55) (by decide) (by decide) ⟨congrArg (fun z => some (Value.int z)) (by rw [f7, hz12, hz25, hz38]), N39, e39⟩
theorem own_slot {s k v : Int32} (h : f2 s k = v) : own_ok v := by
  rw [f2] at h
  generalize ((((s).toUInt32 >>> (((2 : Int32) * k) &&& 31).toUInt32).toInt32)) = y at h
  have a := c_and y 3 (by decide)
  have e3 : (3 : Int32).toInt = 3 := rfl
  generalize (y &&& (3 : Int32)) = u at h a
  unfold own_ok
  split at h
  · exact Or.inl h.symm
  · subst h
    rename_i q
    have q' : ¬ u.toInt = 3 := fun k => q (Int32.toInt_inj.mp k)
    simp only [← Int32.toInt_inj]
    have e0 : (0 : Int32).toInt = 0 := rfl
    have e1 : (1 : Int32).toInt = 1 := rfl
    have e2 : (2 : Int32).toInt = 2 := rfl
    omega
theorem own_main (i0 i1 i2 s0 s1 s2 b0 b1 b2 : Int32) : f7 i0 i1 i2 s0 s1 s2 b0 b1 b2 = ((f3 i0 s0 b0 b1 b2) + (f3 i1 s1 b0 b1 b2)) + (f3 i2 s2 b0 b1 b2) := by
  rw [f7, f3, f3, f3, Int32.zero_add]
def Q0 (n0 : Nat) (v : Option Value) (h : Heap) (L : List Loc) : Prop := v = some (.int (1 : Int32)) ∧ Fr n0 L
theorem pd_0_0 : parseMethodDescriptor "(III)I" = some ⟨[.int, .int, .int], some .int⟩ := by decide +kernel
theorem pd_0_1 : parseMethodDescriptor "(II)I" = some ⟨[.int, .int], some .int⟩ := by decide +kernel
theorem pd_0_2 : parseMethodDescriptor "(II[Z)I" = some ⟨[.int, .int, (.array .boolean)], some .int⟩ := by decide +kernel
theorem pd_0_3 : parseMethodDescriptor "([I[I)V" = some ⟨[(.array .int), (.array .int)], none⟩ := by decide +kernel
theorem pd_0_4 : parseMethodDescriptor "([Z)I" = some ⟨[(.array .boolean)], some .int⟩ := by decide +kernel
theorem pn_0 : plainName "com/example/triview/triview/AtomFixedPositionsPinLaw" = true := by first | (simp [plainName, overriddenIn]; done) | decide +kernel
theorem ef_0 (m : MethodId) (x0 : Int32) (x1 : Int32) (x2 : Int32) (x3 : Int32) (x4 : Int32) (x5 : Int32) : entryFrame m #[(.int x0), (.int x1), (.int x2), (.int x3), (.int x4), (.int x5)] maxLocals = mkF m 0 #[.val (.int x0), .val (.int x1), .val (.int x2), .val (.int x3), .val (.int x4), .val (.int x5), .unset, .unset, .unset, .unset, .unset, .unset] [] := by first | (simp [entryFrame, mkF, argsToLocals, Value.category, maxLocals]; done) | rfl
set_option maxRecDepth 65536 in
set_option maxHeartbeats 40000000 in
theorem rm0 (l : Launch) (Z : State) (a0 : Array Value) (hw : ∀ d ∈ tables_1, d.before a0 Z = true) (ws : List Jvm.Cond) (p1 : Int32) (p2 : Int32) (p3 : Int32) (p4 : Int32) (p5 : Int32) (p6 : Int32) (h0 : Heap) (n0 : Nat) (Z0 : n0 ≤ h0.size) :
    MetFree l x (head1 (Jvm.Cond.code x code maxLocals ret :: ws) room_1) (fun a U => a = #[(.int p1), (.int p2), (.int p3), (.int p4), (.int p5), (.int p6)] ∧ Z.Warmed39 U.vm ∧ U.heap = h0) (fun _ _ _ _ _ => True) (fun _ U o U' => ∃ v L, o = .returned v ∧ (Q0 n0) v U'.heap L ∧ FrameEnd U o U' L room_1.cells room_1.slots) := by
  refine own_met (plainFor_of_name pn_0) (fun m => ef_0 m p1 p2 p3 p4 p5 p6) ?_
  intro p e s m below meth c T0 hx hby hml hown hnm hret hlk hZ X0 e0
  have hown : s.vm.findClass "com/example/triview/triview/AtomFixedPositionsPinLaw" = some m.cls := hown
  have hnm : meth.name = "law" := hnm
  have hret : meth.sig.returnType = some .boolean := hret
  have N0 := Fr.nil n0
  show Go p e below _ (T0.setTop (mkF m 0 #[.val (.int p1), .val (.int p2), .val (.int p3), .val (.int p4), .val (.int p5), .val (.int p6), .unset, .unset, .unset, .unset, .unset, .unset] []))
  refine go (fun _ q => XS.iconst X0.here hx rfl (hb hby at_0) q) ?_
  show Go p e below _ (T0.setTop (mkF m 1 #[.val (.int p1), .val (.int p2), .val (.int p3), .val (.int p4), .val (.int p5), .val (.int p6), .unset, .unset, .unset, .unset, .unset, .unset] [(.int (3 : Int32))]))
  obtain ⟨T1, h1, k1, X1, e1, E1, A1, st1⟩ := newP X0 hx hZ (hw _ (List.mem_of_getElem? (i := 0) rfl)) e0 (g := (mkF m 1 #[.val (.int p1), .val (.int p2), .val (.int p3), .val (.int p4), .val (.int p5), .val (.int p6), .unset, .unset, .unset, .unset, .unset, .unset] [(.int (3 : Int32))])) rfl (hb hby at_1) rfl (by decide) (cap := 3) (by decide) (by decide) (by decide) (by decide)
  obtain ⟨b1, g1⟩ : ∃ z, z = h0.size := ⟨_, rfl⟩
  rw [← g1] at A1 st1
  refine go st1 ?_
  have g_b1 : n0 ≤ b1 := Nat.le_trans Z0 (Nat.le_of_eq g1.symm)
  have Z1 : n0 ≤ h1.size := Nat.le_trans Z0 E1.1
  have V_b1 : Arv Z h1 b1 k1 .int (3 : Int32) [(.int (0 : Int32)), (.int (0 : Int32)), (.int (0 : Int32))] (.int (0 : Int32)) := (Arv.new A1 (by decide)).pad (pad_rep [] (.int (0 : Int32)) 3)
  show Go p e below _ (T1.setTop (mkF m 3 #[.val (.int p1), .val (.int p2), .val (.int p3), .val (.int p4), .val (.int p5), .val (.int p6), .unset, .unset, .unset, .unset, .unset, .unset] [(.ref b1)]))
  refine go (fun _ q => XS.astore X1.here hx rfl (hb hby at_3) rfl rfl (l' := #[.val (.int p1), .val (.int p2), .val (.int p3), .val (.int p4), .val (.int p5), .val (.int p6), .val (.ref b1), .unset, .unset, .unset, .unset, .unset]) rfl q) ?_
  show Go p e below _ (T1.setTop (mkF m 5 #[.val (.int p1), .val (.int p2), .val (.int p3), .val (.int p4), .val (.int p5), .val (.int p6), .val (.ref b1), .unset, .unset, .unset, .unset, .unset] []))
  refine go (fun _ q => XS.aload X1.here hx rfl (hb hby at_5) rfl rfl q) ?_
  show Go p e below _ (T1.setTop (mkF m 7 #[.val (.int p1), .val (.int p2), .val (.int p3), .val (.int p4), .val (.int p5), .val (.int p6), .val (.ref b1), .unset, .unset, .unset, .unset, .unset] [(.ref b1)]))
  refine go (fun _ q => XS.iconst X1.here hx rfl (hb hby at_7) q) ?_
  show Go p e below _ (T1.setTop (mkF m 8 #[.val (.int p1), .val (.int p2), .val (.int p3), .val (.int p4), .val (.int p5), .val (.int p6), .val (.ref b1), .unset, .unset, .unset, .unset, .unset] [(.int (0 : Int32)), (.ref b1)]))
  refine go (fun _ q => XS.iloadN X1.here hx rfl (hb hby at_8) rfl q) ?_
  show Go p e below _ (T1.setTop (mkF m 9 #[.val (.int p1), .val (.int p2), .val (.int p3), .val (.int p4), .val (.int p5), .val (.int p6), .val (.ref b1), .unset, .unset, .unset, .unset, .unset] [(.int p1), (.int (0 : Int32)), (.ref b1)]))
  refine go (fun _ q => XS.iload X1.here hx rfl (hb hby at_9) rfl q) ?_
  show Go p e below _ (T1.setTop (mkF m 11 #[.val (.int p1), .val (.int p2), .val (.int p3), .val (.int p4), .val (.int p5), .val (.int p6), .val (.ref b1), .unset, .unset, .unset, .unset, .unset] [(.int p6), (.int p1), (.int (0 : Int32)), (.ref b1)]))
  refine go (fun _ q => XS.iconst X1.here hx rfl (hb hby at_11) q) ?_
  show Go p e below _ (T1.setTop (mkF m 12 #[.val (.int p1), .val (.int p2), .val (.int p3), .val (.int p4), .val (.int p5), .val (.int p6), .val (.ref b1), .unset, .unset, .unset, .unset, .unset] [(.int (0 : Int32)), (.int p6), (.int p1), (.int (0 : Int32)), (.ref b1)]))
  refine own_callS X1 hx hZ hown e1 (hw _ (List.mem_of_getElem? (i := 1) rfl)) (hw _ (List.mem_of_getElem? (i := 2) rfl)) (hw _ (List.mem_of_getElem? (i := 3) rfl)) (hw _ (List.mem_of_getElem? (i := 4) rfl)) (rm1 l Z a0 hw [] p1 p6 (0 : Int32) h1 n0) (by decide) (by decide) (W := 2) (by decide) (by decide) (by decide) (g := (mkF m 12 #[.val (.int p1), .val (.int p2), .val (.int p3), .val (.int p4), .val (.int p5), .val (.int p6), .val (.ref b1), .unset, .unset, .unset, .unset, .unset] [(.int (0 : Int32)), (.int p6), (.int p1), (.int (0 : Int32)), (.ref b1)])) rfl (by rw [hml]; rfl) (argsL := [(.int p1), (.int p6), (.int (0 : Int32))]) (rest := [(.int (0 : Int32)), (.ref b1)]) rfl rfl (lenOf pd_0_0 rfl) (by show 2 * 0 + _ ≤ _; exact Nat.le_of_eq rfl) (hb hby at_12) ?_
  rintro _ T2 L2 X2 ⟨rfl, N2q, e2⟩
  have N2 := Fr.app N0 N2q
  show Go p e below _ (T2.setTop (mkF m 15 #[.val (.int p1), .val (.int p2), .val (.int p3), .val (.int p4), .val (.int p5), .val (.int p6), .val (.ref b1), .unset, .unset, .unset, .unset, .unset] [(.int (f1 p1 p6 (0 : Int32))), (.int (0 : Int32)), (.ref b1)]))
  generalize hv3 : (f1 p1 p6 (0 : Int32)) = v3
  show Go p e below _ (T2.setTop (mkF m 15 #[.val (.int p1), .val (.int p2), .val (.int p3), .val (.int p4), .val (.int p5), .val (.int p6), .val (.ref b1), .unset, .unset, .unset, .unset, .unset] [(.int v3), (.int (0 : Int32)), (.ref b1)]))
  obtain ⟨cl4, Ar4, q4, S4, Ng4, H4, G4⟩ := id V_b1
  obtain ⟨T5, h5, X5, e5, W5, st5⟩ := stI X2 hx hZ e2 Ar4 (j := (0 : Int32)) (inb_of S4 ⟨by decide, by decide⟩) (g := (mkF m 15 #[.val (.int p1), .val (.int p2), .val (.int p3), .val (.int p4), .val (.int p5), .val (.int p6), .val (.ref b1), .unset, .unset, .unset, .unset, .unset] [(.int v3), (.int (0 : Int32)), (.ref b1)])) rfl rfl (hb hby at_15)
  refine go st5 ?_
  have V_b1_5 : Arv Z h5 b1 k1 .int (3 : Int32) [(.int v3), (.int (0 : Int32)), (.int (0 : Int32))] (.int (0 : Int32)) := Arv.set Ar4 q4 S4 Ng4 H4 G4 rfl W5 0 rfl (Nat.le_of_ble_eq_true rfl)
  have N5 := Fr.snoc X5 N2 g_b1
  have Z5 : n0 ≤ h5.size := Nat.le_trans Z1 (Nat.le_of_eq W5.size.symm)
  show Go p e below _ (T5.setTop (mkF m 16 #[.val (.int p1), .val (.int p2), .val (.int p3), .val (.int p4), .val (.int p5), .val (.int p6), .val (.ref b1), .unset, .unset, .unset, .unset, .unset] []))
  refine go (fun _ q => XS.aload X5.here hx rfl (hb hby at_16) rfl rfl q) ?_
  show Go p e below _ (T5.setTop (mkF m 18 #[.val (.int p1), .val (.int p2), .val (.int p3), .val (.int p4), .val (.int p5), .val (.int p6), .val (.ref b1), .unset, .unset, .unset, .unset, .unset] [(.ref b1)]))
  refine go (fun _ q => XS.iconst X5.here hx rfl (hb hby at_18) q) ?_
  show Go p e below _ (T5.setTop (mkF m 19 #[.val (.int p1), .val (.int p2), .val (.int p3), .val (.int p4), .val (.int p5), .val (.int p6), .val (.ref b1), .unset, .unset, .unset, .unset, .unset] [(.int (1 : Int32)), (.ref b1)]))
  refine go (fun _ q => XS.iloadN X5.here hx rfl (hb hby at_19) rfl q) ?_
  show Go p e below _ (T5.setTop (mkF m 20 #[.val (.int p1), .val (.int p2), .val (.int p3), .val (.int p4), .val (.int p5), .val (.int p6), .val (.ref b1), .unset, .unset, .unset, .unset, .unset] [(.int p2), (.int (1 : Int32)), (.ref b1)]))
  refine go (fun _ q => XS.iload X5.here hx rfl (hb hby at_20) rfl q) ?_
  show Go p e below _ (T5.setTop (mkF m 22 #[.val (.int p1), .val (.int p2), .val (.int p3), .val (.int p4), .val (.int p5), .val (.int p6), .val (.ref b1), .unset, .unset, .unset, .unset, .unset] [(.int p6), (.int p2), (.int (1 : Int32)), (.ref b1)]))
  refine go (fun _ q => XS.iconst X5.here hx rfl (hb hby at_22) q) ?_
  show Go p e below _ (T5.setTop (mkF m 23 #[.val (.int p1), .val (.int p2), .val (.int p3), .val (.int p4), .val (.int p5), .val (.int p6), .val (.ref b1), .unset, .unset, .unset, .unset, .unset] [(.int (1 : Int32)), (.int p6), (.int p2), (.int (1 : Int32)), (.ref b1)]))
  refine own_callS X5 hx hZ hown e5 (hw _ (List.mem_of_getElem? (i := 1) rfl)) (hw _ (List.mem_of_getElem? (i := 2) rfl)) (hw _ (List.mem_of_getElem? (i := 3) rfl)) (hw _ (List.mem_of_getElem? (i := 4) rfl)) (rm1 l Z a0 hw [] p2 p6 (1 : Int32) h5 n0) (by decide) (by decide) (W := 2) (by decide) (by decide) (by decide) (g := (mkF m 23 #[.val (.int p1), .val (.int p2), .val (.int p3), .val (.int p4), .val (.int p5), .val (.int p6), .val (.ref b1), .unset, .unset, .unset, .unset, .unset] [(.int (1 : Int32)), (.int p6), (.int p2), (.int (1 : Int32)), (.ref b1)])) rfl (by rw [hml]; rfl) (argsL := [(.int p2), (.int p6), (.int (1 : Int32))]) (rest := [(.int (1 : Int32)), (.ref b1)]) rfl rfl (lenOf pd_0_0 rfl) (by show 2 * 0 + _ ≤ _; exact Nat.le_of_eq rfl) (hb hby at_23) ?_
  rintro _ T6 L6 X6 ⟨rfl, N6q, e6⟩
  have N6 := Fr.app N5 N6q
  show Go p e below _ (T6.setTop (mkF m 26 #[.val (.int p1), .val (.int p2), .val (.int p3), .val (.int p4), .val (.int p5), .val (.int p6), .val (.ref b1), .unset, .unset, .unset, .unset, .unset] [(.int (f1 p2 p6 (1 : Int32))), (.int (1 : Int32)), (.ref b1)]))
  generalize hv7 : (f1 p2 p6 (1 : Int32)) = v7
  show Go p e below _ (T6.setTop (mkF m 26 #[.val (.int p1), .val (.int p2), .val (.int p3), .val (.int p4), .val (.int p5), .val (.int p6), .val (.ref b1), .unset, .unset, .unset, .unset, .unset] [(.int v7), (.int (1 : Int32)), (.ref b1)]))
  obtain ⟨cl8, Ar8, q8, S8, Ng8, H8, G8⟩ := id V_b1_5
  obtain ⟨T9, h9, X9, e9, W9, st9⟩ := stI X6 hx hZ e6 Ar8 (j := (1 : Int32)) (inb_of S8 ⟨by decide, by decide⟩) (g := (mkF m 26 #[.val (.int p1), .val (.int p2), .val (.int p3), .val (.int p4), .val (.int p5), .val (.int p6), .val (.ref b1), .unset, .unset, .unset, .unset, .unset] [(.int v7), (.int (1 : Int32)), (.ref b1)])) rfl rfl (hb hby at_26)
  refine go st9 ?_
  have V_b1_9 : Arv Z h9 b1 k1 .int (3 : Int32) [(.int v3), (.int v7), (.int (0 : Int32))] (.int (0 : Int32)) := Arv.set Ar8 q8 S8 Ng8 H8 G8 rfl W9 1 rfl (Nat.le_of_ble_eq_true rfl)
  have N9 := Fr.snoc X9 N6 g_b1
  have Z9 : n0 ≤ h9.size := Nat.le_trans Z5 (Nat.le_of_eq W9.size.symm)
  show Go p e below _ (T9.setTop (mkF m 27 #[.val (.int p1), .val (.int p2), .val (.int p3), .val (.int p4), .val (.int p5), .val (.int p6), .val (.ref b1), .unset, .unset, .unset, .unset, .unset] []))
  refine go (fun _ q => XS.aload X9.here hx rfl (hb hby at_27) rfl rfl q) ?_
  show Go p e below _ (T9.setTop (mkF m 29 #[.val (.int p1), .val (.int p2), .val (.int p3), .val (.int p4), .val (.int p5), .val (.int p6), .val (.ref b1), .unset, .unset, .unset, .unset, .unset] [(.ref b1)]))
  refine go (fun _ q => XS.iconst X9.here hx rfl (hb hby at_29) q) ?_
  show Go p e below _ (T9.setTop (mkF m 30 #[.val (.int p1), .val (.int p2), .val (.int p3), .val (.int p4), .val (.int p5), .val (.int p6), .val (.ref b1), .unset, .unset, .unset, .unset, .unset] [(.int (2 : Int32)), (.ref b1)]))
  refine go (fun _ q => XS.iloadN X9.here hx rfl (hb hby at_30) rfl q) ?_
  show Go p e below _ (T9.setTop (mkF m 31 #[.val (.int p1), .val (.int p2), .val (.int p3), .val (.int p4), .val (.int p5), .val (.int p6), .val (.ref b1), .unset, .unset, .unset, .unset, .unset] [(.int p3), (.int (2 : Int32)), (.ref b1)]))
  refine go (fun _ q => XS.iload X9.here hx rfl (hb hby at_31) rfl q) ?_
  show Go p e below _ (T9.setTop (mkF m 33 #[.val (.int p1), .val (.int p2), .val (.int p3), .val (.int p4), .val (.int p5), .val (.int p6), .val (.ref b1), .unset, .unset, .unset, .unset, .unset] [(.int p6), (.int p3), (.int (2 : Int32)), (.ref b1)]))
  refine go (fun _ q => XS.iconst X9.here hx rfl (hb hby at_33) q) ?_
  show Go p e below _ (T9.setTop (mkF m 34 #[.val (.int p1), .val (.int p2), .val (.int p3), .val (.int p4), .val (.int p5), .val (.int p6), .val (.ref b1), .unset, .unset, .unset, .unset, .unset] [(.int (2 : Int32)), (.int p6), (.int p3), (.int (2 : Int32)), (.ref b1)]))
  refine own_callS X9 hx hZ hown e9 (hw _ (List.mem_of_getElem? (i := 1) rfl)) (hw _ (List.mem_of_getElem? (i := 2) rfl)) (hw _ (List.mem_of_getElem? (i := 3) rfl)) (hw _ (List.mem_of_getElem? (i := 4) rfl)) (rm1 l Z a0 hw [] p3 p6 (2 : Int32) h9 n0) (by decide) (by decide) (W := 2) (by decide) (by decide) (by decide) (g := (mkF m 34 #[.val (.int p1), .val (.int p2), .val (.int p3), .val (.int p4), .val (.int p5), .val (.int p6), .val (.ref b1), .unset, .unset, .unset, .unset, .unset] [(.int (2 : Int32)), (.int p6), (.int p3), (.int (2 : Int32)), (.ref b1)])) rfl (by rw [hml]; rfl) (argsL := [(.int p3), (.int p6), (.int (2 : Int32))]) (rest := [(.int (2 : Int32)), (.ref b1)]) rfl rfl (lenOf pd_0_0 rfl) (by show 2 * 0 + _ ≤ _; exact Nat.le_of_eq rfl) (hb hby at_34) ?_
  rintro _ T10 L10 X10 ⟨rfl, N10q, e10⟩
  have N10 := Fr.app N9 N10q
  show Go p e below _ (T10.setTop (mkF m 37 #[.val (.int p1), .val (.int p2), .val (.int p3), .val (.int p4), .val (.int p5), .val (.int p6), .val (.ref b1), .unset, .unset, .unset, .unset, .unset] [(.int (f1 p3 p6 (2 : Int32))), (.int (2 : Int32)), (.ref b1)]))
  generalize hv11 : (f1 p3 p6 (2 : Int32)) = v11
  show Go p e below _ (T10.setTop (mkF m 37 #[.val (.int p1), .val (.int p2), .val (.int p3), .val (.int p4), .val (.int p5), .val (.int p6), .val (.ref b1), .unset, .unset, .unset, .unset, .unset] [(.int v11), (.int (2 : Int32)), (.ref b1)]))
  obtain ⟨cl12, Ar12, q12, S12, Ng12, H12, G12⟩ := id V_b1_9
  obtain ⟨T13, h13, X13, e13, W13, st13⟩ := stI X10 hx hZ e10 Ar12 (j := (2 : Int32)) (inb_of S12 ⟨by decide, by decide⟩) (g := (mkF m 37 #[.val (.int p1), .val (.int p2), .val (.int p3), .val (.int p4), .val (.int p5), .val (.int p6), .val (.ref b1), .unset, .unset, .unset, .unset, .unset] [(.int v11), (.int (2 : Int32)), (.ref b1)])) rfl rfl (hb hby at_37)
  refine go st13 ?_
  have V_b1_13 : Arv Z h13 b1 k1 .int (3 : Int32) [(.int v3), (.int v7), (.int v11)] (.int (0 : Int32)) := Arv.set Ar12 q12 S12 Ng12 H12 G12 rfl W13 2 rfl (Nat.le_of_ble_eq_true rfl)
  have N13 := Fr.snoc X13 N10 g_b1
  have Z13 : n0 ≤ h13.size := Nat.le_trans Z9 (Nat.le_of_eq W13.size.symm)
  show Go p e below _ (T13.setTop (mkF m 38 #[.val (.int p1), .val (.int p2), .val (.int p3), .val (.int p4), .val (.int p5), .val (.int p6), .val (.ref b1), .unset, .unset, .unset, .unset, .unset] []))
  refine go (fun _ q => XS.iconst X13.here hx rfl (hb hby at_38) q) ?_
  show Go p e below _ (T13.setTop (mkF m 39 #[.val (.int p1), .val (.int p2), .val (.int p3), .val (.int p4), .val (.int p5), .val (.int p6), .val (.ref b1), .unset, .unset, .unset, .unset, .unset] [(.int (3 : Int32))]))
  obtain ⟨T14, h14, k14, X14, e14, E14, A14, st14⟩ := newP X13 hx hZ (hw _ (List.mem_of_getElem? (i := 0) rfl)) e13 (g := (mkF m 39 #[.val (.int p1), .val (.int p2), .val (.int p3), .val (.int p4), .val (.int p5), .val (.int p6), .val (.ref b1), .unset, .unset, .unset, .unset, .unset] [(.int (3 : Int32))])) rfl (hb hby at_39) rfl (by decide) (cap := 3) (by decide) (by decide) (by decide) (by decide)
  obtain ⟨b14, g14⟩ : ∃ z, z = h13.size := ⟨_, rfl⟩
  rw [← g14] at A14 st14
  refine go st14 ?_
  have ne_b1_b14 : b1 ≠ b14 := Nat.ne_of_lt (Nat.lt_of_lt_of_le V_b1_13.lt (Nat.le_of_eq g14.symm))
  have g_b14 : n0 ≤ b14 := Nat.le_trans Z13 (Nat.le_of_eq g14.symm)
  have Z14 : n0 ≤ h14.size := Nat.le_trans Z13 E14.1
  have V_b1_15 : Arv Z h14 b1 k1 .int (3 : Int32) [(.int v3), (.int v7), (.int v11)] (.int (0 : Int32)) := V_b1_13.ext E14
  have V_b14 : Arv Z h14 b14 k14 .int (3 : Int32) [(.int (0 : Int32)), (.int (0 : Int32)), (.int (0 : Int32))] (.int (0 : Int32)) := (Arv.new A14 (by decide)).pad (pad_rep [] (.int (0 : Int32)) 3)
  show Go p e below _ (T14.setTop (mkF m 41 #[.val (.int p1), .val (.int p2), .val (.int p3), .val (.int p4), .val (.int p5), .val (.int p6), .val (.ref b1), .unset, .unset, .unset, .unset, .unset] [(.ref b14)]))
  refine go (fun _ q => XS.astore X14.here hx rfl (hb hby at_41) rfl rfl (l' := #[.val (.int p1), .val (.int p2), .val (.int p3), .val (.int p4), .val (.int p5), .val (.int p6), .val (.ref b1), .val (.ref b14), .unset, .unset, .unset, .unset]) rfl q) ?_
  show Go p e below _ (T14.setTop (mkF m 43 #[.val (.int p1), .val (.int p2), .val (.int p3), .val (.int p4), .val (.int p5), .val (.int p6), .val (.ref b1), .val (.ref b14), .unset, .unset, .unset, .unset] []))
  refine go (fun _ q => XS.aload X14.here hx rfl (hb hby at_43) rfl rfl q) ?_
  show Go p e below _ (T14.setTop (mkF m 45 #[.val (.int p1), .val (.int p2), .val (.int p3), .val (.int p4), .val (.int p5), .val (.int p6), .val (.ref b1), .val (.ref b14), .unset, .unset, .unset, .unset] [(.ref b14)]))
  refine go (fun _ q => XS.iconst X14.here hx rfl (hb hby at_45) q) ?_
  show Go p e below _ (T14.setTop (mkF m 46 #[.val (.int p1), .val (.int p2), .val (.int p3), .val (.int p4), .val (.int p5), .val (.int p6), .val (.ref b1), .val (.ref b14), .unset, .unset, .unset, .unset] [(.int (0 : Int32)), (.ref b14)]))
  refine go (fun _ q => XS.iloadN X14.here hx rfl (hb hby at_46) rfl q) ?_
  show Go p e below _ (T14.setTop (mkF m 47 #[.val (.int p1), .val (.int p2), .val (.int p3), .val (.int p4), .val (.int p5), .val (.int p6), .val (.ref b1), .val (.ref b14), .unset, .unset, .unset, .unset] [(.int p4), (.int (0 : Int32)), (.ref b14)]))
  refine go (fun _ q => XS.iconst X14.here hx rfl (hb hby at_47) q) ?_
  show Go p e below _ (T14.setTop (mkF m 48 #[.val (.int p1), .val (.int p2), .val (.int p3), .val (.int p4), .val (.int p5), .val (.int p6), .val (.ref b1), .val (.ref b14), .unset, .unset, .unset, .unset] [(.int (0 : Int32)), (.int p4), (.int (0 : Int32)), (.ref b14)]))
  refine own_callS X14 hx hZ hown e14 (hw _ (List.mem_of_getElem? (i := 5) rfl)) (hw _ (List.mem_of_getElem? (i := 6) rfl)) (hw _ (List.mem_of_getElem? (i := 3) rfl)) (hw _ (List.mem_of_getElem? (i := 7) rfl)) (rm2 l Z a0 hw [] p4 (0 : Int32) h14 n0) (by decide) (by decide) (W := 2) (by decide) (by decide) (by decide) (g := (mkF m 48 #[.val (.int p1), .val (.int p2), .val (.int p3), .val (.int p4), .val (.int p5), .val (.int p6), .val (.ref b1), .val (.ref b14), .unset, .unset, .unset, .unset] [(.int (0 : Int32)), (.int p4), (.int (0 : Int32)), (.ref b14)])) rfl (by rw [hml]; rfl) (argsL := [(.int p4), (.int (0 : Int32))]) (rest := [(.int (0 : Int32)), (.ref b14)]) rfl rfl (lenOf pd_0_1 rfl) (by show 2 * 0 + _ ≤ _; exact Nat.le_of_eq rfl) (hb hby at_48) ?_
  rintro _ T16 L16 X16 ⟨rfl, N16q, e16⟩
  have N16 := Fr.app N13 N16q
  show Go p e below _ (T16.setTop (mkF m 51 #[.val (.int p1), .val (.int p2), .val (.int p3), .val (.int p4), .val (.int p5), .val (.int p6), .val (.ref b1), .val (.ref b14), .unset, .unset, .unset, .unset] [(.int (f2 p4 (0 : Int32))), (.int (0 : Int32)), (.ref b14)]))
  generalize hv17 : (f2 p4 (0 : Int32)) = v17
  show Go p e below _ (T16.setTop (mkF m 51 #[.val (.int p1), .val (.int p2), .val (.int p3), .val (.int p4), .val (.int p5), .val (.int p6), .val (.ref b1), .val (.ref b14), .unset, .unset, .unset, .unset] [(.int v17), (.int (0 : Int32)), (.ref b14)]))
  obtain ⟨cl18, Ar18, q18, S18, Ng18, H18, G18⟩ := id V_b14
  obtain ⟨T19, h19, X19, e19, W19, st19⟩ := stI X16 hx hZ e16 Ar18 (j := (0 : Int32)) (inb_of S18 ⟨by decide, by decide⟩) (g := (mkF m 51 #[.val (.int p1), .val (.int p2), .val (.int p3), .val (.int p4), .val (.int p5), .val (.int p6), .val (.ref b1), .val (.ref b14), .unset, .unset, .unset, .unset] [(.int v17), (.int (0 : Int32)), (.ref b14)])) rfl rfl (hb hby at_51)
  refine go st19 ?_
  have V_b14_19 : Arv Z h19 b14 k14 .int (3 : Int32) [(.int v17), (.int (0 : Int32)), (.int (0 : Int32))] (.int (0 : Int32)) := Arv.set Ar18 q18 S18 Ng18 H18 G18 rfl W19 0 rfl (Nat.le_of_ble_eq_true rfl)
  have V_b1_20 : Arv Z h19 b1 k1 .int (3 : Int32) [(.int v3), (.int v7), (.int v11)] (.int (0 : Int32)) := V_b1_15.other W19 ne_b1_b14
  have N19 := Fr.snoc X19 N16 g_b14
  have Z19 : n0 ≤ h19.size := Nat.le_trans Z14 (Nat.le_of_eq W19.size.symm)
  show Go p e below _ (T19.setTop (mkF m 52 #[.val (.int p1), .val (.int p2), .val (.int p3), .val (.int p4), .val (.int p5), .val (.int p6), .val (.ref b1), .val (.ref b14), .unset, .unset, .unset, .unset] []))
  refine go (fun _ q => XS.aload X19.here hx rfl (hb hby at_52) rfl rfl q) ?_
  show Go p e below _ (T19.setTop (mkF m 54 #[.val (.int p1), .val (.int p2), .val (.int p3), .val (.int p4), .val (.int p5), .val (.int p6), .val (.ref b1), .val (.ref b14), .unset, .unset, .unset, .unset] [(.ref b14)]))
  refine go (fun _ q => XS.iconst X19.here hx rfl (hb hby at_54) q) ?_
  show Go p e below _ (T19.setTop (mkF m 55 #[.val (.int p1), .val (.int p2), .val (.int p3), .val (.int p4), .val (.int p5), .val (.int p6), .val (.ref b1), .val (.ref b14), .unset, .unset, .unset, .unset] [(.int (1 : Int32)), (.ref b14)]))
  refine go (fun _ q => XS.iloadN X19.here hx rfl (hb hby at_55) rfl q) ?_
  show Go p e below _ (T19.setTop (mkF m 56 #[.val (.int p1), .val (.int p2), .val (.int p3), .val (.int p4), .val (.int p5), .val (.int p6), .val (.ref b1), .val (.ref b14), .unset, .unset, .unset, .unset] [(.int p4), (.int (1 : Int32)), (.ref b14)]))
  refine go (fun _ q => XS.iconst X19.here hx rfl (hb hby at_56) q) ?_
  show Go p e below _ (T19.setTop (mkF m 57 #[.val (.int p1), .val (.int p2), .val (.int p3), .val (.int p4), .val (.int p5), .val (.int p6), .val (.ref b1), .val (.ref b14), .unset, .unset, .unset, .unset] [(.int (1 : Int32)), (.int p4), (.int (1 : Int32)), (.ref b14)]))
  refine own_callS X19 hx hZ hown e19 (hw _ (List.mem_of_getElem? (i := 5) rfl)) (hw _ (List.mem_of_getElem? (i := 6) rfl)) (hw _ (List.mem_of_getElem? (i := 3) rfl)) (hw _ (List.mem_of_getElem? (i := 7) rfl)) (rm2 l Z a0 hw [] p4 (1 : Int32) h19 n0) (by decide) (by decide) (W := 2) (by decide) (by decide) (by decide) (g := (mkF m 57 #[.val (.int p1), .val (.int p2), .val (.int p3), .val (.int p4), .val (.int p5), .val (.int p6), .val (.ref b1), .val (.ref b14), .unset, .unset, .unset, .unset] [(.int (1 : Int32)), (.int p4), (.int (1 : Int32)), (.ref b14)])) rfl (by rw [hml]; rfl) (argsL := [(.int p4), (.int (1 : Int32))]) (rest := [(.int (1 : Int32)), (.ref b14)]) rfl rfl (lenOf pd_0_1 rfl) (by show 2 * 0 + _ ≤ _; exact Nat.le_of_eq rfl) (hb hby at_57) ?_
  rintro _ T21 L21 X21 ⟨rfl, N21q, e21⟩
  have N21 := Fr.app N19 N21q
  show Go p e below _ (T21.setTop (mkF m 60 #[.val (.int p1), .val (.int p2), .val (.int p3), .val (.int p4), .val (.int p5), .val (.int p6), .val (.ref b1), .val (.ref b14), .unset, .unset, .unset, .unset] [(.int (f2 p4 (1 : Int32))), (.int (1 : Int32)), (.ref b14)]))
  generalize hv22 : (f2 p4 (1 : Int32)) = v22
  show Go p e below _ (T21.setTop (mkF m 60 #[.val (.int p1), .val (.int p2), .val (.int p3), .val (.int p4), .val (.int p5), .val (.int p6), .val (.ref b1), .val (.ref b14), .unset, .unset, .unset, .unset] [(.int v22), (.int (1 : Int32)), (.ref b14)]))
  obtain ⟨cl23, Ar23, q23, S23, Ng23, H23, G23⟩ := id V_b14_19
  obtain ⟨T24, h24, X24, e24, W24, st24⟩ := stI X21 hx hZ e21 Ar23 (j := (1 : Int32)) (inb_of S23 ⟨by decide, by decide⟩) (g := (mkF m 60 #[.val (.int p1), .val (.int p2), .val (.int p3), .val (.int p4), .val (.int p5), .val (.int p6), .val (.ref b1), .val (.ref b14), .unset, .unset, .unset, .unset] [(.int v22), (.int (1 : Int32)), (.ref b14)])) rfl rfl (hb hby at_60)
  refine go st24 ?_
  have V_b14_24 : Arv Z h24 b14 k14 .int (3 : Int32) [(.int v17), (.int v22), (.int (0 : Int32))] (.int (0 : Int32)) := Arv.set Ar23 q23 S23 Ng23 H23 G23 rfl W24 1 rfl (Nat.le_of_ble_eq_true rfl)
  have V_b1_25 : Arv Z h24 b1 k1 .int (3 : Int32) [(.int v3), (.int v7), (.int v11)] (.int (0 : Int32)) := V_b1_20.other W24 ne_b1_b14
  have N24 := Fr.snoc X24 N21 g_b14
  have Z24 : n0 ≤ h24.size := Nat.le_trans Z19 (Nat.le_of_eq W24.size.symm)
  show Go p e below _ (T24.setTop (mkF m 61 #[.val (.int p1), .val (.int p2), .val (.int p3), .val (.int p4), .val (.int p5), .val (.int p6), .val (.ref b1), .val (.ref b14), .unset, .unset, .unset, .unset] []))
  refine go (fun _ q => XS.aload X24.here hx rfl (hb hby at_61) rfl rfl q) ?_
  show Go p e below _ (T24.setTop (mkF m 63 #[.val (.int p1), .val (.int p2), .val (.int p3), .val (.int p4), .val (.int p5), .val (.int p6), .val (.ref b1), .val (.ref b14), .unset, .unset, .unset, .unset] [(.ref b14)]))
  refine go (fun _ q => XS.iconst X24.here hx rfl (hb hby at_63) q) ?_
  show Go p e below _ (T24.setTop (mkF m 64 #[.val (.int p1), .val (.int p2), .val (.int p3), .val (.int p4), .val (.int p5), .val (.int p6), .val (.ref b1), .val (.ref b14), .unset, .unset, .unset, .unset] [(.int (2 : Int32)), (.ref b14)]))
  refine go (fun _ q => XS.iloadN X24.here hx rfl (hb hby at_64) rfl q) ?_
  show Go p e below _ (T24.setTop (mkF m 65 #[.val (.int p1), .val (.int p2), .val (.int p3), .val (.int p4), .val (.int p5), .val (.int p6), .val (.ref b1), .val (.ref b14), .unset, .unset, .unset, .unset] [(.int p4), (.int (2 : Int32)), (.ref b14)]))
  refine go (fun _ q => XS.iconst X24.here hx rfl (hb hby at_65) q) ?_
  show Go p e below _ (T24.setTop (mkF m 66 #[.val (.int p1), .val (.int p2), .val (.int p3), .val (.int p4), .val (.int p5), .val (.int p6), .val (.ref b1), .val (.ref b14), .unset, .unset, .unset, .unset] [(.int (2 : Int32)), (.int p4), (.int (2 : Int32)), (.ref b14)]))
  refine own_callS X24 hx hZ hown e24 (hw _ (List.mem_of_getElem? (i := 5) rfl)) (hw _ (List.mem_of_getElem? (i := 6) rfl)) (hw _ (List.mem_of_getElem? (i := 3) rfl)) (hw _ (List.mem_of_getElem? (i := 7) rfl)) (rm2 l Z a0 hw [] p4 (2 : Int32) h24 n0) (by decide) (by decide) (W := 2) (by decide) (by decide) (by decide) (g := (mkF m 66 #[.val (.int p1), .val (.int p2), .val (.int p3), .val (.int p4), .val (.int p5), .val (.int p6), .val (.ref b1), .val (.ref b14), .unset, .unset, .unset, .unset] [(.int (2 : Int32)), (.int p4), (.int (2 : Int32)), (.ref b14)])) rfl (by rw [hml]; rfl) (argsL := [(.int p4), (.int (2 : Int32))]) (rest := [(.int (2 : Int32)), (.ref b14)]) rfl rfl (lenOf pd_0_1 rfl) (by show 2 * 0 + _ ≤ _; exact Nat.le_of_eq rfl) (hb hby at_66) ?_
  rintro _ T26 L26 X26 ⟨rfl, N26q, e26⟩
  have N26 := Fr.app N24 N26q
  show Go p e below _ (T26.setTop (mkF m 69 #[.val (.int p1), .val (.int p2), .val (.int p3), .val (.int p4), .val (.int p5), .val (.int p6), .val (.ref b1), .val (.ref b14), .unset, .unset, .unset, .unset] [(.int (f2 p4 (2 : Int32))), (.int (2 : Int32)), (.ref b14)]))
  generalize hv27 : (f2 p4 (2 : Int32)) = v27
  show Go p e below _ (T26.setTop (mkF m 69 #[.val (.int p1), .val (.int p2), .val (.int p3), .val (.int p4), .val (.int p5), .val (.int p6), .val (.ref b1), .val (.ref b14), .unset, .unset, .unset, .unset] [(.int v27), (.int (2 : Int32)), (.ref b14)]))
  obtain ⟨cl28, Ar28, q28, S28, Ng28, H28, G28⟩ := id V_b14_24
  obtain ⟨T29, h29, X29, e29, W29, st29⟩ := stI X26 hx hZ e26 Ar28 (j := (2 : Int32)) (inb_of S28 ⟨by decide, by decide⟩) (g := (mkF m 69 #[.val (.int p1), .val (.int p2), .val (.int p3), .val (.int p4), .val (.int p5), .val (.int p6), .val (.ref b1), .val (.ref b14), .unset, .unset, .unset, .unset] [(.int v27), (.int (2 : Int32)), (.ref b14)])) rfl rfl (hb hby at_69)
  refine go st29 ?_
  have V_b14_29 : Arv Z h29 b14 k14 .int (3 : Int32) [(.int v17), (.int v22), (.int v27)] (.int (0 : Int32)) := Arv.set Ar28 q28 S28 Ng28 H28 G28 rfl W29 2 rfl (Nat.le_of_ble_eq_true rfl)
  have V_b1_30 : Arv Z h29 b1 k1 .int (3 : Int32) [(.int v3), (.int v7), (.int v11)] (.int (0 : Int32)) := V_b1_25.other W29 ne_b1_b14
  have N29 := Fr.snoc X29 N26 g_b14
  have Z29 : n0 ≤ h29.size := Nat.le_trans Z24 (Nat.le_of_eq W29.size.symm)
  show Go p e below _ (T29.setTop (mkF m 70 #[.val (.int p1), .val (.int p2), .val (.int p3), .val (.int p4), .val (.int p5), .val (.int p6), .val (.ref b1), .val (.ref b14), .unset, .unset, .unset, .unset] []))
  refine go (fun _ q => XS.iconst X29.here hx rfl (hb hby at_70) q) ?_
  show Go p e below _ (T29.setTop (mkF m 71 #[.val (.int p1), .val (.int p2), .val (.int p3), .val (.int p4), .val (.int p5), .val (.int p6), .val (.ref b1), .val (.ref b14), .unset, .unset, .unset, .unset] [(.int (3 : Int32))]))
  obtain ⟨T31, h31, k31, X31, e31, E31, A31, st31⟩ := newP X29 hx hZ (hw _ (List.mem_of_getElem? (i := 8) rfl)) e29 (g := (mkF m 71 #[.val (.int p1), .val (.int p2), .val (.int p3), .val (.int p4), .val (.int p5), .val (.int p6), .val (.ref b1), .val (.ref b14), .unset, .unset, .unset, .unset] [(.int (3 : Int32))])) rfl (hb hby at_71) rfl (by decide) (cap := 3) (by decide) (by decide) (by decide) (by decide)
  obtain ⟨b31, g31⟩ : ∃ z, z = h29.size := ⟨_, rfl⟩
  rw [← g31] at A31 st31
  refine go st31 ?_
  have ne_b1_b31 : b1 ≠ b31 := Nat.ne_of_lt (Nat.lt_of_lt_of_le V_b1_30.lt (Nat.le_of_eq g31.symm))
  have ne_b14_b31 : b14 ≠ b31 := Nat.ne_of_lt (Nat.lt_of_lt_of_le V_b14_29.lt (Nat.le_of_eq g31.symm))
  have g_b31 : n0 ≤ b31 := Nat.le_trans Z29 (Nat.le_of_eq g31.symm)
  have Z31 : n0 ≤ h31.size := Nat.le_trans Z29 E31.1
  have V_b1_32 : Arv Z h31 b1 k1 .int (3 : Int32) [(.int v3), (.int v7), (.int v11)] (.int (0 : Int32)) := V_b1_30.ext E31
  have V_b14_33 : Arv Z h31 b14 k14 .int (3 : Int32) [(.int v17), (.int v22), (.int v27)] (.int (0 : Int32)) := V_b14_29.ext E31
  have V_b31 : Arv Z h31 b31 k31 .boolean (3 : Int32) [(.int (0 : Int32)), (.int (0 : Int32)), (.int (0 : Int32))] (.int (0 : Int32)) := (Arv.new A31 (by decide)).pad (pad_rep [] (.int (0 : Int32)) 3)
  show Go p e below _ (T31.setTop (mkF m 73 #[.val (.int p1), .val (.int p2), .val (.int p3), .val (.int p4), .val (.int p5), .val (.int p6), .val (.ref b1), .val (.ref b14), .unset, .unset, .unset, .unset] [(.ref b31)]))
  refine go (fun _ q => XS.astore X31.here hx rfl (hb hby at_73) rfl rfl (l' := #[.val (.int p1), .val (.int p2), .val (.int p3), .val (.int p4), .val (.int p5), .val (.int p6), .val (.ref b1), .val (.ref b14), .val (.ref b31), .unset, .unset, .unset]) rfl q) ?_
  show Go p e below _ (T31.setTop (mkF m 75 #[.val (.int p1), .val (.int p2), .val (.int p3), .val (.int p4), .val (.int p5), .val (.int p6), .val (.ref b1), .val (.ref b14), .val (.ref b31), .unset, .unset, .unset] []))
  refine go (fun _ q => XS.aload X31.here hx rfl (hb hby at_75) rfl rfl q) ?_
  show Go p e below _ (T31.setTop (mkF m 77 #[.val (.int p1), .val (.int p2), .val (.int p3), .val (.int p4), .val (.int p5), .val (.int p6), .val (.ref b1), .val (.ref b14), .val (.ref b31), .unset, .unset, .unset] [(.ref b31)]))
  refine go (fun _ q => XS.iconst X31.here hx rfl (hb hby at_77) q) ?_
  show Go p e below _ (T31.setTop (mkF m 78 #[.val (.int p1), .val (.int p2), .val (.int p3), .val (.int p4), .val (.int p5), .val (.int p6), .val (.ref b1), .val (.ref b14), .val (.ref b31), .unset, .unset, .unset] [(.int (0 : Int32)), (.ref b31)]))
  refine go (fun _ q => XS.iload X31.here hx rfl (hb hby at_78) rfl q) ?_
  show Go p e below _ (T31.setTop (mkF m 80 #[.val (.int p1), .val (.int p2), .val (.int p3), .val (.int p4), .val (.int p5), .val (.int p6), .val (.ref b1), .val (.ref b14), .val (.ref b31), .unset, .unset, .unset] [(.int p5), (.int (0 : Int32)), (.ref b31)]))
  refine go (fun _ q => XS.iconst X31.here hx rfl (hb hby at_80) q) ?_
  show Go p e below _ (T31.setTop (mkF m 81 #[.val (.int p1), .val (.int p2), .val (.int p3), .val (.int p4), .val (.int p5), .val (.int p6), .val (.ref b1), .val (.ref b14), .val (.ref b31), .unset, .unset, .unset] [(.int (1 : Int32)), (.int p5), (.int (0 : Int32)), (.ref b31)]))
  refine go (fun _ q => XS.iand X31.here hx rfl (hb hby at_81) rfl q) ?_
  show Go p e below _ (T31.setTop (mkF m 82 #[.val (.int p1), .val (.int p2), .val (.int p3), .val (.int p4), .val (.int p5), .val (.int p6), .val (.ref b1), .val (.ref b14), .val (.ref b31), .unset, .unset, .unset] [(.int (p5 &&& (1 : Int32))), (.int (0 : Int32)), (.ref b31)]))
  suffices hj34 : ∀ (z36 : Int32), z36 = (if (p5 &&& (1 : Int32)) = (0 : Int32) then (0 : Int32) else (1 : Int32)) → Go p e below (Dn below s ((Q0 n0)) room_1.cells room_1.slots) (T31.setTop (mkF m 90 #[.val (.int p1), .val (.int p2), .val (.int p3), .val (.int p4), .val (.int p5), .val (.int p6), .val (.ref b1), .val (.ref b14), .val (.ref b31), .unset, .unset, .unset] [(.int z36), (.int (0 : Int32)), (.ref b31)])) by
    by_cases hc35 : (p5 &&& (1 : Int32)) = (0 : Int32)
    · refine go (fun _ q => XS.ifYes X31.here hx rfl (pc0 := 82) (pc' := 89) rfl (hb hby at_82) rfl ((if0 _ _).trans (teq hc35).1) (by decide) (by decide) q) ?_
      show Go p e below _ (T31.setTop (mkF m 89 #[.val (.int p1), .val (.int p2), .val (.int p3), .val (.int p4), .val (.int p5), .val (.int p6), .val (.ref b1), .val (.ref b14), .val (.ref b31), .unset, .unset, .unset] [(.int (0 : Int32)), (.ref b31)]))
      refine go (fun _ q => XS.iconst X31.here hx rfl (hb hby at_89) q) ?_
      show Go p e below _ (T31.setTop (mkF m 90 #[.val (.int p1), .val (.int p2), .val (.int p3), .val (.int p4), .val (.int p5), .val (.int p6), .val (.ref b1), .val (.ref b14), .val (.ref b31), .unset, .unset, .unset] [(.int (0 : Int32)), (.int (0 : Int32)), (.ref b31)]))
      exact hj34 _ (by rw [if_pos hc35])
    · refine go (fun _ q => XS.ifNo X31.here hx rfl (hb hby at_82) rfl ((if0 _ _).trans (feq hc35).1) q) ?_
      show Go p e below _ (T31.setTop (mkF m 85 #[.val (.int p1), .val (.int p2), .val (.int p3), .val (.int p4), .val (.int p5), .val (.int p6), .val (.ref b1), .val (.ref b14), .val (.ref b31), .unset, .unset, .unset] [(.int (0 : Int32)), (.ref b31)]))
      refine go (fun _ q => XS.iconst X31.here hx rfl (hb hby at_85) q) ?_
      show Go p e below _ (T31.setTop (mkF m 86 #[.val (.int p1), .val (.int p2), .val (.int p3), .val (.int p4), .val (.int p5), .val (.int p6), .val (.ref b1), .val (.ref b14), .val (.ref b31), .unset, .unset, .unset] [(.int (1 : Int32)), (.int (0 : Int32)), (.ref b31)]))
      refine go (fun _ q => XS.goto X31.here hx rfl (pc0 := 86) (pc' := 90) rfl (hb hby at_86) (by decide) (by decide) q) ?_
      show Go p e below _ (T31.setTop (mkF m 90 #[.val (.int p1), .val (.int p2), .val (.int p3), .val (.int p4), .val (.int p5), .val (.int p6), .val (.ref b1), .val (.ref b14), .val (.ref b31), .unset, .unset, .unset] [(.int (1 : Int32)), (.int (0 : Int32)), (.ref b31)]))
      exact hj34 _ (by rw [if_neg hc35])
  intro z36 hz36
  show Go p e below _ (T31.setTop (mkF m 90 #[.val (.int p1), .val (.int p2), .val (.int p3), .val (.int p4), .val (.int p5), .val (.int p6), .val (.ref b1), .val (.ref b14), .val (.ref b31), .unset, .unset, .unset] [(.int z36), (.int (0 : Int32)), (.ref b31)]))
  obtain ⟨cl37, Ar37, q37, S37, Ng37, H37, G37⟩ := id V_b31
  obtain ⟨T38, h38, X38, e38, W38, st38⟩ := stZ X31 hx hZ e31 Ar37 (j := (0 : Int32)) (inb_of S37 ⟨by decide, by decide⟩) (g := (mkF m 90 #[.val (.int p1), .val (.int p2), .val (.int p3), .val (.int p4), .val (.int p5), .val (.int p6), .val (.ref b1), .val (.ref b14), .val (.ref b31), .unset, .unset, .unset] [(.int z36), (.int (0 : Int32)), (.ref b31)])) rfl rfl (hb hby at_90)
  refine go st38 ?_
  have V_b31_38 : Arv Z h38 b31 k31 .boolean (3 : Int32) [(.int (nar .boolean z36)), (.int (0 : Int32)), (.int (0 : Int32))] (.int (0 : Int32)) := Arv.set Ar37 q37 S37 Ng37 H37 G37 (fits_nar_bool _) W38 0 rfl (Nat.le_of_ble_eq_true rfl)
  have V_b1_39 : Arv Z h38 b1 k1 .int (3 : Int32) [(.int v3), (.int v7), (.int v11)] (.int (0 : Int32)) := V_b1_32.other W38 ne_b1_b31
  have V_b14_40 : Arv Z h38 b14 k14 .int (3 : Int32) [(.int v17), (.int v22), (.int v27)] (.int (0 : Int32)) := V_b14_33.other W38 ne_b14_b31
  have N38 := Fr.snoc X38 N29 g_b31
  have Z38 : n0 ≤ h38.size := Nat.le_trans Z31 (Nat.le_of_eq W38.size.symm)
  show Go p e below _ (T38.setTop (mkF m 91 #[.val (.int p1), .val (.int p2), .val (.int p3), .val (.int p4), .val (.int p5), .val (.int p6), .val (.ref b1), .val (.ref b14), .val (.ref b31), .unset, .unset, .unset] []))
  refine go (fun _ q => XS.aload X38.here hx rfl (hb hby at_91) rfl rfl q) ?_
  show Go p e below _ (T38.setTop (mkF m 93 #[.val (.int p1), .val (.int p2), .val (.int p3), .val (.int p4), .val (.int p5), .val (.int p6), .val (.ref b1), .val (.ref b14), .val (.ref b31), .unset, .unset, .unset] [(.ref b31)]))
  refine go (fun _ q => XS.iconst X38.here hx rfl (hb hby at_93) q) ?_
  show Go p e below _ (T38.setTop (mkF m 94 #[.val (.int p1), .val (.int p2), .val (.int p3), .val (.int p4), .val (.int p5), .val (.int p6), .val (.ref b1), .val (.ref b14), .val (.ref b31), .unset, .unset, .unset] [(.int (1 : Int32)), (.ref b31)]))
  refine go (fun _ q => XS.iload X38.here hx rfl (hb hby at_94) rfl q) ?_
  show Go p e below _ (T38.setTop (mkF m 96 #[.val (.int p1), .val (.int p2), .val (.int p3), .val (.int p4), .val (.int p5), .val (.int p6), .val (.ref b1), .val (.ref b14), .val (.ref b31), .unset, .unset, .unset] [(.int p5), (.int (1 : Int32)), (.ref b31)]))
  refine go (fun _ q => XS.iconst X38.here hx rfl (hb hby at_96) q) ?_
  show Go p e below _ (T38.setTop (mkF m 97 #[.val (.int p1), .val (.int p2), .val (.int p3), .val (.int p4), .val (.int p5), .val (.int p6), .val (.ref b1), .val (.ref b14), .val (.ref b31), .unset, .unset, .unset] [(.int (1 : Int32)), (.int p5), (.int (1 : Int32)), (.ref b31)]))
  refine go (fun _ q => XS.iushr X38.here hx rfl (hb hby at_97) rfl q) ?_
  show Go p e below _ (T38.setTop (mkF m 98 #[.val (.int p1), .val (.int p2), .val (.int p3), .val (.int p4), .val (.int p5), .val (.int p6), .val (.ref b1), .val (.ref b14), .val (.ref b31), .unset, .unset, .unset] [(.int (((p5).toUInt32 >>> ((1 : Int32) &&& 31).toUInt32).toInt32)), (.int (1 : Int32)), (.ref b31)]))
  refine go (fun _ q => XS.iconst X38.here hx rfl (hb hby at_98) q) ?_
  show Go p e below _ (T38.setTop (mkF m 99 #[.val (.int p1), .val (.int p2), .val (.int p3), .val (.int p4), .val (.int p5), .val (.int p6), .val (.ref b1), .val (.ref b14), .val (.ref b31), .unset, .unset, .unset] [(.int (1 : Int32)), (.int (((p5).toUInt32 >>> ((1 : Int32) &&& 31).toUInt32).toInt32)), (.int (1 : Int32)), (.ref b31)]))
  refine go (fun _ q => XS.iand X38.here hx rfl (hb hby at_99) rfl q) ?_
  show Go p e below _ (T38.setTop (mkF m 100 #[.val (.int p1), .val (.int p2), .val (.int p3), .val (.int p4), .val (.int p5), .val (.int p6), .val (.ref b1), .val (.ref b14), .val (.ref b31), .unset, .unset, .unset] [(.int ((((p5).toUInt32 >>> ((1 : Int32) &&& 31).toUInt32).toInt32) &&& (1 : Int32))), (.int (1 : Int32)), (.ref b31)]))
  suffices hj41 : ∀ (z43 : Int32), z43 = (if ((((p5).toUInt32 >>> ((1 : Int32) &&& 31).toUInt32).toInt32) &&& (1 : Int32)) = (0 : Int32) then (0 : Int32) else (1 : Int32)) → Go p e below (Dn below s ((Q0 n0)) room_1.cells room_1.slots) (T38.setTop (mkF m 108 #[.val (.int p1), .val (.int p2), .val (.int p3), .val (.int p4), .val (.int p5), .val (.int p6), .val (.ref b1), .val (.ref b14), .val (.ref b31), .unset, .unset, .unset] [(.int z43), (.int (1 : Int32)), (.ref b31)])) by
    by_cases hc42 : ((((p5).toUInt32 >>> ((1 : Int32) &&& 31).toUInt32).toInt32) &&& (1 : Int32)) = (0 : Int32)
    · refine go (fun _ q => XS.ifYes X38.here hx rfl (pc0 := 100) (pc' := 107) rfl (hb hby at_100) rfl ((if0 _ _).trans (teq hc42).1) (by decide) (by decide) q) ?_
      show Go p e below _ (T38.setTop (mkF m 107 #[.val (.int p1), .val (.int p2), .val (.int p3), .val (.int p4), .val (.int p5), .val (.int p6), .val (.ref b1), .val (.ref b14), .val (.ref b31), .unset, .unset, .unset] [(.int (1 : Int32)), (.ref b31)]))
      refine go (fun _ q => XS.iconst X38.here hx rfl (hb hby at_107) q) ?_
      show Go p e below _ (T38.setTop (mkF m 108 #[.val (.int p1), .val (.int p2), .val (.int p3), .val (.int p4), .val (.int p5), .val (.int p6), .val (.ref b1), .val (.ref b14), .val (.ref b31), .unset, .unset, .unset] [(.int (0 : Int32)), (.int (1 : Int32)), (.ref b31)]))
      exact hj41 _ (by rw [if_pos hc42])
    · refine go (fun _ q => XS.ifNo X38.here hx rfl (hb hby at_100) rfl ((if0 _ _).trans (feq hc42).1) q) ?_
      show Go p e below _ (T38.setTop (mkF m 103 #[.val (.int p1), .val (.int p2), .val (.int p3), .val (.int p4), .val (.int p5), .val (.int p6), .val (.ref b1), .val (.ref b14), .val (.ref b31), .unset, .unset, .unset] [(.int (1 : Int32)), (.ref b31)]))
      refine go (fun _ q => XS.iconst X38.here hx rfl (hb hby at_103) q) ?_
      show Go p e below _ (T38.setTop (mkF m 104 #[.val (.int p1), .val (.int p2), .val (.int p3), .val (.int p4), .val (.int p5), .val (.int p6), .val (.ref b1), .val (.ref b14), .val (.ref b31), .unset, .unset, .unset] [(.int (1 : Int32)), (.int (1 : Int32)), (.ref b31)]))
      refine go (fun _ q => XS.goto X38.here hx rfl (pc0 := 104) (pc' := 108) rfl (hb hby at_104) (by decide) (by decide) q) ?_
      show Go p e below _ (T38.setTop (mkF m 108 #[.val (.int p1), .val (.int p2), .val (.int p3), .val (.int p4), .val (.int p5), .val (.int p6), .val (.ref b1), .val (.ref b14), .val (.ref b31), .unset, .unset, .unset] [(.int (1 : Int32)), (.int (1 : Int32)), (.ref b31)]))
      exact hj41 _ (by rw [if_neg hc42])
  intro z43 hz43
  show Go p e below _ (T38.setTop (mkF m 108 #[.val (.int p1), .val (.int p2), .val (.int p3), .val (.int p4), .val (.int p5), .val (.int p6), .val (.ref b1), .val (.ref b14), .val (.ref b31), .unset, .unset, .unset] [(.int z43), (.int (1 : Int32)), (.ref b31)]))
  obtain ⟨cl44, Ar44, q44, S44, Ng44, H44, G44⟩ := id V_b31_38
  obtain ⟨T45, h45, X45, e45, W45, st45⟩ := stZ X38 hx hZ e38 Ar44 (j := (1 : Int32)) (inb_of S44 ⟨by decide, by decide⟩) (g := (mkF m 108 #[.val (.int p1), .val (.int p2), .val (.int p3), .val (.int p4), .val (.int p5), .val (.int p6), .val (.ref b1), .val (.ref b14), .val (.ref b31), .unset, .unset, .unset] [(.int z43), (.int (1 : Int32)), (.ref b31)])) rfl rfl (hb hby at_108)
  refine go st45 ?_
  have V_b31_45 : Arv Z h45 b31 k31 .boolean (3 : Int32) [(.int (nar .boolean z36)), (.int (nar .boolean z43)), (.int (0 : Int32))] (.int (0 : Int32)) := Arv.set Ar44 q44 S44 Ng44 H44 G44 (fits_nar_bool _) W45 1 rfl (Nat.le_of_ble_eq_true rfl)
  have V_b1_46 : Arv Z h45 b1 k1 .int (3 : Int32) [(.int v3), (.int v7), (.int v11)] (.int (0 : Int32)) := V_b1_39.other W45 ne_b1_b31
  have V_b14_47 : Arv Z h45 b14 k14 .int (3 : Int32) [(.int v17), (.int v22), (.int v27)] (.int (0 : Int32)) := V_b14_40.other W45 ne_b14_b31
  have N45 := Fr.snoc X45 N38 g_b31
  have Z45 : n0 ≤ h45.size := Nat.le_trans Z38 (Nat.le_of_eq W45.size.symm)
  show Go p e below _ (T45.setTop (mkF m 109 #[.val (.int p1), .val (.int p2), .val (.int p3), .val (.int p4), .val (.int p5), .val (.int p6), .val (.ref b1), .val (.ref b14), .val (.ref b31), .unset, .unset, .unset] []))
  refine go (fun _ q => XS.aload X45.here hx rfl (hb hby at_109) rfl rfl q) ?_
  show Go p e below _ (T45.setTop (mkF m 111 #[.val (.int p1), .val (.int p2), .val (.int p3), .val (.int p4), .val (.int p5), .val (.int p6), .val (.ref b1), .val (.ref b14), .val (.ref b31), .unset, .unset, .unset] [(.ref b31)]))
  refine go (fun _ q => XS.iconst X45.here hx rfl (hb hby at_111) q) ?_
  show Go p e below _ (T45.setTop (mkF m 112 #[.val (.int p1), .val (.int p2), .val (.int p3), .val (.int p4), .val (.int p5), .val (.int p6), .val (.ref b1), .val (.ref b14), .val (.ref b31), .unset, .unset, .unset] [(.int (2 : Int32)), (.ref b31)]))
  refine go (fun _ q => XS.iload X45.here hx rfl (hb hby at_112) rfl q) ?_
  show Go p e below _ (T45.setTop (mkF m 114 #[.val (.int p1), .val (.int p2), .val (.int p3), .val (.int p4), .val (.int p5), .val (.int p6), .val (.ref b1), .val (.ref b14), .val (.ref b31), .unset, .unset, .unset] [(.int p5), (.int (2 : Int32)), (.ref b31)]))
  refine go (fun _ q => XS.iconst X45.here hx rfl (hb hby at_114) q) ?_
  show Go p e below _ (T45.setTop (mkF m 115 #[.val (.int p1), .val (.int p2), .val (.int p3), .val (.int p4), .val (.int p5), .val (.int p6), .val (.ref b1), .val (.ref b14), .val (.ref b31), .unset, .unset, .unset] [(.int (2 : Int32)), (.int p5), (.int (2 : Int32)), (.ref b31)]))
  refine go (fun _ q => XS.iushr X45.here hx rfl (hb hby at_115) rfl q) ?_
  show Go p e below _ (T45.setTop (mkF m 116 #[.val (.int p1), .val (.int p2), .val (.int p3), .val (.int p4), .val (.int p5), .val (.int p6), .val (.ref b1), .val (.ref b14), .val (.ref b31), .unset, .unset, .unset] [(.int (((p5).toUInt32 >>> ((2 : Int32) &&& 31).toUInt32).toInt32)), (.int (2 : Int32)), (.ref b31)]))
  refine go (fun _ q => XS.iconst X45.here hx rfl (hb hby at_116) q) ?_
  show Go p e below _ (T45.setTop (mkF m 117 #[.val (.int p1), .val (.int p2), .val (.int p3), .val (.int p4), .val (.int p5), .val (.int p6), .val (.ref b1), .val (.ref b14), .val (.ref b31), .unset, .unset, .unset] [(.int (1 : Int32)), (.int (((p5).toUInt32 >>> ((2 : Int32) &&& 31).toUInt32).toInt32)), (.int (2 : Int32)), (.ref b31)]))
  refine go (fun _ q => XS.iand X45.here hx rfl (hb hby at_117) rfl q) ?_
  show Go p e below _ (T45.setTop (mkF m 118 #[.val (.int p1), .val (.int p2), .val (.int p3), .val (.int p4), .val (.int p5), .val (.int p6), .val (.ref b1), .val (.ref b14), .val (.ref b31), .unset, .unset, .unset] [(.int ((((p5).toUInt32 >>> ((2 : Int32) &&& 31).toUInt32).toInt32) &&& (1 : Int32))), (.int (2 : Int32)), (.ref b31)]))
  suffices hj48 : ∀ (z50 : Int32), z50 = (if ((((p5).toUInt32 >>> ((2 : Int32) &&& 31).toUInt32).toInt32) &&& (1 : Int32)) = (0 : Int32) then (0 : Int32) else (1 : Int32)) → Go p e below (Dn below s ((Q0 n0)) room_1.cells room_1.slots) (T45.setTop (mkF m 126 #[.val (.int p1), .val (.int p2), .val (.int p3), .val (.int p4), .val (.int p5), .val (.int p6), .val (.ref b1), .val (.ref b14), .val (.ref b31), .unset, .unset, .unset] [(.int z50), (.int (2 : Int32)), (.ref b31)])) by
    by_cases hc49 : ((((p5).toUInt32 >>> ((2 : Int32) &&& 31).toUInt32).toInt32) &&& (1 : Int32)) = (0 : Int32)
    · refine go (fun _ q => XS.ifYes X45.here hx rfl (pc0 := 118) (pc' := 125) rfl (hb hby at_118) rfl ((if0 _ _).trans (teq hc49).1) (by decide) (by decide) q) ?_
      show Go p e below _ (T45.setTop (mkF m 125 #[.val (.int p1), .val (.int p2), .val (.int p3), .val (.int p4), .val (.int p5), .val (.int p6), .val (.ref b1), .val (.ref b14), .val (.ref b31), .unset, .unset, .unset] [(.int (2 : Int32)), (.ref b31)]))
      refine go (fun _ q => XS.iconst X45.here hx rfl (hb hby at_125) q) ?_
      show Go p e below _ (T45.setTop (mkF m 126 #[.val (.int p1), .val (.int p2), .val (.int p3), .val (.int p4), .val (.int p5), .val (.int p6), .val (.ref b1), .val (.ref b14), .val (.ref b31), .unset, .unset, .unset] [(.int (0 : Int32)), (.int (2 : Int32)), (.ref b31)]))
      exact hj48 _ (by rw [if_pos hc49])
    · refine go (fun _ q => XS.ifNo X45.here hx rfl (hb hby at_118) rfl ((if0 _ _).trans (feq hc49).1) q) ?_
      show Go p e below _ (T45.setTop (mkF m 121 #[.val (.int p1), .val (.int p2), .val (.int p3), .val (.int p4), .val (.int p5), .val (.int p6), .val (.ref b1), .val (.ref b14), .val (.ref b31), .unset, .unset, .unset] [(.int (2 : Int32)), (.ref b31)]))
      refine go (fun _ q => XS.iconst X45.here hx rfl (hb hby at_121) q) ?_
      show Go p e below _ (T45.setTop (mkF m 122 #[.val (.int p1), .val (.int p2), .val (.int p3), .val (.int p4), .val (.int p5), .val (.int p6), .val (.ref b1), .val (.ref b14), .val (.ref b31), .unset, .unset, .unset] [(.int (1 : Int32)), (.int (2 : Int32)), (.ref b31)]))
      refine go (fun _ q => XS.goto X45.here hx rfl (pc0 := 122) (pc' := 126) rfl (hb hby at_122) (by decide) (by decide) q) ?_
      show Go p e below _ (T45.setTop (mkF m 126 #[.val (.int p1), .val (.int p2), .val (.int p3), .val (.int p4), .val (.int p5), .val (.int p6), .val (.ref b1), .val (.ref b14), .val (.ref b31), .unset, .unset, .unset] [(.int (1 : Int32)), (.int (2 : Int32)), (.ref b31)]))
      exact hj48 _ (by rw [if_neg hc49])
  intro z50 hz50
  show Go p e below _ (T45.setTop (mkF m 126 #[.val (.int p1), .val (.int p2), .val (.int p3), .val (.int p4), .val (.int p5), .val (.int p6), .val (.ref b1), .val (.ref b14), .val (.ref b31), .unset, .unset, .unset] [(.int z50), (.int (2 : Int32)), (.ref b31)]))
  obtain ⟨cl51, Ar51, q51, S51, Ng51, H51, G51⟩ := id V_b31_45
  obtain ⟨T52, h52, X52, e52, W52, st52⟩ := stZ X45 hx hZ e45 Ar51 (j := (2 : Int32)) (inb_of S51 ⟨by decide, by decide⟩) (g := (mkF m 126 #[.val (.int p1), .val (.int p2), .val (.int p3), .val (.int p4), .val (.int p5), .val (.int p6), .val (.ref b1), .val (.ref b14), .val (.ref b31), .unset, .unset, .unset] [(.int z50), (.int (2 : Int32)), (.ref b31)])) rfl rfl (hb hby at_126)
  refine go st52 ?_
  have V_b31_52 : Arv Z h52 b31 k31 .boolean (3 : Int32) [(.int (nar .boolean z36)), (.int (nar .boolean z43)), (.int (nar .boolean z50))] (.int (0 : Int32)) := Arv.set Ar51 q51 S51 Ng51 H51 G51 (fits_nar_bool _) W52 2 rfl (Nat.le_of_ble_eq_true rfl)
  have V_b1_53 : Arv Z h52 b1 k1 .int (3 : Int32) [(.int v3), (.int v7), (.int v11)] (.int (0 : Int32)) := V_b1_46.other W52 ne_b1_b31
  have V_b14_54 : Arv Z h52 b14 k14 .int (3 : Int32) [(.int v17), (.int v22), (.int v27)] (.int (0 : Int32)) := V_b14_47.other W52 ne_b14_b31
  have N52 := Fr.snoc X52 N45 g_b31
  have Z52 : n0 ≤ h52.size := Nat.le_trans Z45 (Nat.le_of_eq W52.size.symm)
  show Go p e below _ (T52.setTop (mkF m 127 #[.val (.int p1), .val (.int p2), .val (.int p3), .val (.int p4), .val (.int p5), .val (.int p6), .val (.ref b1), .val (.ref b14), .val (.ref b31), .unset, .unset, .unset] []))
  refine go (fun _ q => XS.aload X52.here hx rfl (hb hby at_127) rfl rfl q) ?_
  show Go p e below _ (T52.setTop (mkF m 129 #[.val (.int p1), .val (.int p2), .val (.int p3), .val (.int p4), .val (.int p5), .val (.int p6), .val (.ref b1), .val (.ref b14), .val (.ref b31), .unset, .unset, .unset] [(.ref b1)]))
  refine go (fun _ q => XS.iconst X52.here hx rfl (hb hby at_129) q) ?_
  show Go p e below _ (T52.setTop (mkF m 130 #[.val (.int p1), .val (.int p2), .val (.int p3), .val (.int p4), .val (.int p5), .val (.int p6), .val (.ref b1), .val (.ref b14), .val (.ref b31), .unset, .unset, .unset] [(.int (0 : Int32)), (.ref b1)]))
  obtain ⟨cl55, Ar55, q55, S55, Ng55, H55, G55⟩ := id V_b1_53
  refine go (X52.iaload hx (j := (0 : Int32)) (v := (.int v3)) (by rw [e52]; exact Ar55.1) (State.isArrayOf_alike hZ.alike Ar55.2.1) Ar55.2.2 (inb_of S55 ⟨by decide, by decide⟩) (H55 _ (by rw [S55]; decide)) (g := (mkF m 130 #[.val (.int p1), .val (.int p2), .val (.int p3), .val (.int p4), .val (.int p5), .val (.int p6), .val (.ref b1), .val (.ref b14), .val (.ref b31), .unset, .unset, .unset] [(.int (0 : Int32)), (.ref b1)])) rfl rfl (hb hby at_130)) ?_
  show Go p e below _ (T52.setTop (mkF m 131 #[.val (.int p1), .val (.int p2), .val (.int p3), .val (.int p4), .val (.int p5), .val (.int p6), .val (.ref b1), .val (.ref b14), .val (.ref b31), .unset, .unset, .unset] [(.int v3)]))
  refine go (fun _ q => XS.aload X52.here hx rfl (hb hby at_131) rfl rfl q) ?_
  show Go p e below _ (T52.setTop (mkF m 133 #[.val (.int p1), .val (.int p2), .val (.int p3), .val (.int p4), .val (.int p5), .val (.int p6), .val (.ref b1), .val (.ref b14), .val (.ref b31), .unset, .unset, .unset] [(.ref b14), (.int v3)]))
  refine go (fun _ q => XS.iconst X52.here hx rfl (hb hby at_133) q) ?_
  show Go p e below _ (T52.setTop (mkF m 134 #[.val (.int p1), .val (.int p2), .val (.int p3), .val (.int p4), .val (.int p5), .val (.int p6), .val (.ref b1), .val (.ref b14), .val (.ref b31), .unset, .unset, .unset] [(.int (0 : Int32)), (.ref b14), (.int v3)]))
  obtain ⟨cl56, Ar56, q56, S56, Ng56, H56, G56⟩ := id V_b14_54
  refine go (X52.iaload hx (j := (0 : Int32)) (v := (.int v17)) (by rw [e52]; exact Ar56.1) (State.isArrayOf_alike hZ.alike Ar56.2.1) Ar56.2.2 (inb_of S56 ⟨by decide, by decide⟩) (H56 _ (by rw [S56]; decide)) (g := (mkF m 134 #[.val (.int p1), .val (.int p2), .val (.int p3), .val (.int p4), .val (.int p5), .val (.int p6), .val (.ref b1), .val (.ref b14), .val (.ref b31), .unset, .unset, .unset] [(.int (0 : Int32)), (.ref b14), (.int v3)])) rfl rfl (hb hby at_134)) ?_
  show Go p e below _ (T52.setTop (mkF m 135 #[.val (.int p1), .val (.int p2), .val (.int p3), .val (.int p4), .val (.int p5), .val (.int p6), .val (.ref b1), .val (.ref b14), .val (.ref b31), .unset, .unset, .unset] [(.int v17), (.int v3)]))
  refine go (fun _ q => XS.aload X52.here hx rfl (hb hby at_135) rfl rfl q) ?_
  show Go p e below _ (T52.setTop (mkF m 137 #[.val (.int p1), .val (.int p2), .val (.int p3), .val (.int p4), .val (.int p5), .val (.int p6), .val (.ref b1), .val (.ref b14), .val (.ref b31), .unset, .unset, .unset] [(.ref b31), (.int v17), (.int v3)]))
  refine own_callS X52 hx hZ hown e52 (hw _ (List.mem_of_getElem? (i := 9) rfl)) (hw _ (List.mem_of_getElem? (i := 10) rfl)) (hw _ (List.mem_of_getElem? (i := 3) rfl)) (hw _ (List.mem_of_getElem? (i := 11) rfl)) (rm3 l Z a0 hw [] v3 v17 b31 h52 n0 (own_slot hv17) V_b31_52) (by decide) (by decide) (W := 0) (by decide) (by decide) (by decide) (g := (mkF m 137 #[.val (.int p1), .val (.int p2), .val (.int p3), .val (.int p4), .val (.int p5), .val (.int p6), .val (.ref b1), .val (.ref b14), .val (.ref b31), .unset, .unset, .unset] [(.ref b31), (.int v17), (.int v3)])) rfl (by rw [hml]; rfl) (argsL := [(.int v3), (.int v17), (.ref b31)]) (rest := []) rfl rfl (lenOf pd_0_2 rfl) (by show 2 * 0 + _ ≤ _; exact Nat.le_of_eq rfl) (hb hby at_137) ?_
  rintro _ T57 L57 X57 ⟨rfl, N57q, e57⟩
  have N57 := Fr.app N52 N57q
  show Go p e below _ (T57.setTop (mkF m 140 #[.val (.int p1), .val (.int p2), .val (.int p3), .val (.int p4), .val (.int p5), .val (.int p6), .val (.ref b1), .val (.ref b14), .val (.ref b31), .unset, .unset, .unset] [(.int (f3 v3 v17 (nar .boolean z36) (nar .boolean z43) (nar .boolean z50)))]))
  refine go (fun _ q => XS.aload X57.here hx rfl (hb hby at_140) rfl rfl q) ?_
  show Go p e below _ (T57.setTop (mkF m 142 #[.val (.int p1), .val (.int p2), .val (.int p3), .val (.int p4), .val (.int p5), .val (.int p6), .val (.ref b1), .val (.ref b14), .val (.ref b31), .unset, .unset, .unset] [(.ref b1), (.int (f3 v3 v17 (nar .boolean z36) (nar .boolean z43) (nar .boolean z50)))]))
  refine go (fun _ q => XS.iconst X57.here hx rfl (hb hby at_142) q) ?_
  show Go p e below _ (T57.setTop (mkF m 143 #[.val (.int p1), .val (.int p2), .val (.int p3), .val (.int p4), .val (.int p5), .val (.int p6), .val (.ref b1), .val (.ref b14), .val (.ref b31), .unset, .unset, .unset] [(.int (1 : Int32)), (.ref b1), (.int (f3 v3 v17 (nar .boolean z36) (nar .boolean z43) (nar .boolean z50)))]))
  obtain ⟨cl58, Ar58, q58, S58, Ng58, H58, G58⟩ := id V_b1_53
  refine go (X57.iaload hx (j := (1 : Int32)) (v := (.int v7)) (by rw [e57]; exact Ar58.1) (State.isArrayOf_alike hZ.alike Ar58.2.1) Ar58.2.2 (inb_of S58 ⟨by decide, by decide⟩) (H58 _ (by rw [S58]; decide)) (g := (mkF m 143 #[.val (.int p1), .val (.int p2), .val (.int p3), .val (.int p4), .val (.int p5), .val (.int p6), .val (.ref b1), .val (.ref b14), .val (.ref b31), .unset, .unset, .unset] [(.int (1 : Int32)), (.ref b1), (.int (f3 v3 v17 (nar .boolean z36) (nar .boolean z43) (nar .boolean z50)))])) rfl rfl (hb hby at_143)) ?_
  show Go p e below _ (T57.setTop (mkF m 144 #[.val (.int p1), .val (.int p2), .val (.int p3), .val (.int p4), .val (.int p5), .val (.int p6), .val (.ref b1), .val (.ref b14), .val (.ref b31), .unset, .unset, .unset] [(.int v7), (.int (f3 v3 v17 (nar .boolean z36) (nar .boolean z43) (nar .boolean z50)))]))
  refine go (fun _ q => XS.aload X57.here hx rfl (hb hby at_144) rfl rfl q) ?_
  show Go p e below _ (T57.setTop (mkF m 146 #[.val (.int p1), .val (.int p2), .val (.int p3), .val (.int p4), .val (.int p5), .val (.int p6), .val (.ref b1), .val (.ref b14), .val (.ref b31), .unset, .unset, .unset] [(.ref b14), (.int v7), (.int (f3 v3 v17 (nar .boolean z36) (nar .boolean z43) (nar .boolean z50)))]))
  refine go (fun _ q => XS.iconst X57.here hx rfl (hb hby at_146) q) ?_
  show Go p e below _ (T57.setTop (mkF m 147 #[.val (.int p1), .val (.int p2), .val (.int p3), .val (.int p4), .val (.int p5), .val (.int p6), .val (.ref b1), .val (.ref b14), .val (.ref b31), .unset, .unset, .unset] [(.int (1 : Int32)), (.ref b14), (.int v7), (.int (f3 v3 v17 (nar .boolean z36) (nar .boolean z43) (nar .boolean z50)))]))
  obtain ⟨cl59, Ar59, q59, S59, Ng59, H59, G59⟩ := id V_b14_54
  refine go (X57.iaload hx (j := (1 : Int32)) (v := (.int v22)) (by rw [e57]; exact Ar59.1) (State.isArrayOf_alike hZ.alike Ar59.2.1) Ar59.2.2 (inb_of S59 ⟨by decide, by decide⟩) (H59 _ (by rw [S59]; decide)) (g := (mkF m 147 #[.val (.int p1), .val (.int p2), .val (.int p3), .val (.int p4), .val (.int p5), .val (.int p6), .val (.ref b1), .val (.ref b14), .val (.ref b31), .unset, .unset, .unset] [(.int (1 : Int32)), (.ref b14), (.int v7), (.int (f3 v3 v17 (nar .boolean z36) (nar .boolean z43) (nar .boolean z50)))])) rfl rfl (hb hby at_147)) ?_
  show Go p e below _ (T57.setTop (mkF m 148 #[.val (.int p1), .val (.int p2), .val (.int p3), .val (.int p4), .val (.int p5), .val (.int p6), .val (.ref b1), .val (.ref b14), .val (.ref b31), .unset, .unset, .unset] [(.int v22), (.int v7), (.int (f3 v3 v17 (nar .boolean z36) (nar .boolean z43) (nar .boolean z50)))]))
  refine go (fun _ q => XS.aload X57.here hx rfl (hb hby at_148) rfl rfl q) ?_
  show Go p e below _ (T57.setTop (mkF m 150 #[.val (.int p1), .val (.int p2), .val (.int p3), .val (.int p4), .val (.int p5), .val (.int p6), .val (.ref b1), .val (.ref b14), .val (.ref b31), .unset, .unset, .unset] [(.ref b31), (.int v22), (.int v7), (.int (f3 v3 v17 (nar .boolean z36) (nar .boolean z43) (nar .boolean z50)))]))
  refine own_callS X57 hx hZ hown e57 (hw _ (List.mem_of_getElem? (i := 9) rfl)) (hw _ (List.mem_of_getElem? (i := 10) rfl)) (hw _ (List.mem_of_getElem? (i := 3) rfl)) (hw _ (List.mem_of_getElem? (i := 11) rfl)) (rm3 l Z a0 hw [] v7 v22 b31 h52 n0 (own_slot hv22) V_b31_52) (by decide) (by decide) (W := 1) (by decide) (by decide) (by decide) (g := (mkF m 150 #[.val (.int p1), .val (.int p2), .val (.int p3), .val (.int p4), .val (.int p5), .val (.int p6), .val (.ref b1), .val (.ref b14), .val (.ref b31), .unset, .unset, .unset] [(.ref b31), (.int v22), (.int v7), (.int (f3 v3 v17 (nar .boolean z36) (nar .boolean z43) (nar .boolean z50)))])) rfl (by rw [hml]; rfl) (argsL := [(.int v7), (.int v22), (.ref b31)]) (rest := [(.int (f3 v3 v17 (nar .boolean z36) (nar .boolean z43) (nar .boolean z50)))]) rfl rfl (lenOf pd_0_2 rfl) (by show 2 * 0 + _ ≤ _; exact Nat.le_of_eq rfl) (hb hby at_150) ?_
  rintro _ T60 L60 X60 ⟨rfl, N60q, e60⟩
  have N60 := Fr.app N57 N60q
  show Go p e below _ (T60.setTop (mkF m 153 #[.val (.int p1), .val (.int p2), .val (.int p3), .val (.int p4), .val (.int p5), .val (.int p6), .val (.ref b1), .val (.ref b14), .val (.ref b31), .unset, .unset, .unset] [(.int (f3 v7 v22 (nar .boolean z36) (nar .boolean z43) (nar .boolean z50))), (.int (f3 v3 v17 (nar .boolean z36) (nar .boolean z43) (nar .boolean z50)))]))
  refine go (fun _ q => XS.iadd X60.here hx rfl (hb hby at_153) rfl q) ?_
  show Go p e below _ (T60.setTop (mkF m 154 #[.val (.int p1), .val (.int p2), .val (.int p3), .val (.int p4), .val (.int p5), .val (.int p6), .val (.ref b1), .val (.ref b14), .val (.ref b31), .unset, .unset, .unset] [(.int ((f3 v3 v17 (nar .boolean z36) (nar .boolean z43) (nar .boolean z50)) + (f3 v7 v22 (nar .boolean z36) (nar .boolean z43) (nar .boolean z50))))]))
  refine go (fun _ q => XS.aload X60.here hx rfl (hb hby at_154) rfl rfl q) ?_
  show Go p e below _ (T60.setTop (mkF m 156 #[.val (.int p1), .val (.int p2), .val (.int p3), .val (.int p4), .val (.int p5), .val (.int p6), .val (.ref b1), .val (.ref b14), .val (.ref b31), .unset, .unset, .unset] [(.ref b1), (.int ((f3 v3 v17 (nar .boolean z36) (nar .boolean z43) (nar .boolean z50)) + (f3 v7 v22 (nar .boolean z36) (nar .boolean z43) (nar .boolean z50))))]))
  refine go (fun _ q => XS.iconst X60.here hx rfl (hb hby at_156) q) ?_
  show Go p e below _ (T60.setTop (mkF m 157 #[.val (.int p1), .val (.int p2), .val (.int p3), .val (.int p4), .val (.int p5), .val (.int p6), .val (.ref b1), .val (.ref b14), .val (.ref b31), .unset, .unset, .unset] [(.int (2 : Int32)), (.ref b1), (.int ((f3 v3 v17 (nar .boolean z36) (nar .boolean z43) (nar .boolean z50)) + (f3 v7 v22 (nar .boolean z36) (nar .boolean z43) (nar .boolean z50))))]))
  obtain ⟨cl61, Ar61, q61, S61, Ng61, H61, G61⟩ := id V_b1_53
  refine go (X60.iaload hx (j := (2 : Int32)) (v := (.int v11)) (by rw [e60]; exact Ar61.1) (State.isArrayOf_alike hZ.alike Ar61.2.1) Ar61.2.2 (inb_of S61 ⟨by decide, by decide⟩) (H61 _ (by rw [S61]; decide)) (g := (mkF m 157 #[.val (.int p1), .val (.int p2), .val (.int p3), .val (.int p4), .val (.int p5), .val (.int p6), .val (.ref b1), .val (.ref b14), .val (.ref b31), .unset, .unset, .unset] [(.int (2 : Int32)), (.ref b1), (.int ((f3 v3 v17 (nar .boolean z36) (nar .boolean z43) (nar .boolean z50)) + (f3 v7 v22 (nar .boolean z36) (nar .boolean z43) (nar .boolean z50))))])) rfl rfl (hb hby at_157)) ?_
  show Go p e below _ (T60.setTop (mkF m 158 #[.val (.int p1), .val (.int p2), .val (.int p3), .val (.int p4), .val (.int p5), .val (.int p6), .val (.ref b1), .val (.ref b14), .val (.ref b31), .unset, .unset, .unset] [(.int v11), (.int ((f3 v3 v17 (nar .boolean z36) (nar .boolean z43) (nar .boolean z50)) + (f3 v7 v22 (nar .boolean z36) (nar .boolean z43) (nar .boolean z50))))]))
  refine go (fun _ q => XS.aload X60.here hx rfl (hb hby at_158) rfl rfl q) ?_
  show Go p e below _ (T60.setTop (mkF m 160 #[.val (.int p1), .val (.int p2), .val (.int p3), .val (.int p4), .val (.int p5), .val (.int p6), .val (.ref b1), .val (.ref b14), .val (.ref b31), .unset, .unset, .unset] [(.ref b14), (.int v11), (.int ((f3 v3 v17 (nar .boolean z36) (nar .boolean z43) (nar .boolean z50)) + (f3 v7 v22 (nar .boolean z36) (nar .boolean z43) (nar .boolean z50))))]))
  refine go (fun _ q => XS.iconst X60.here hx rfl (hb hby at_160) q) ?_
  show Go p e below _ (T60.setTop (mkF m 161 #[.val (.int p1), .val (.int p2), .val (.int p3), .val (.int p4), .val (.int p5), .val (.int p6), .val (.ref b1), .val (.ref b14), .val (.ref b31), .unset, .unset, .unset] [(.int (2 : Int32)), (.ref b14), (.int v11), (.int ((f3 v3 v17 (nar .boolean z36) (nar .boolean z43) (nar .boolean z50)) + (f3 v7 v22 (nar .boolean z36) (nar .boolean z43) (nar .boolean z50))))]))
  obtain ⟨cl62, Ar62, q62, S62, Ng62, H62, G62⟩ := id V_b14_54
  refine go (X60.iaload hx (j := (2 : Int32)) (v := (.int v27)) (by rw [e60]; exact Ar62.1) (State.isArrayOf_alike hZ.alike Ar62.2.1) Ar62.2.2 (inb_of S62 ⟨by decide, by decide⟩) (H62 _ (by rw [S62]; decide)) (g := (mkF m 161 #[.val (.int p1), .val (.int p2), .val (.int p3), .val (.int p4), .val (.int p5), .val (.int p6), .val (.ref b1), .val (.ref b14), .val (.ref b31), .unset, .unset, .unset] [(.int (2 : Int32)), (.ref b14), (.int v11), (.int ((f3 v3 v17 (nar .boolean z36) (nar .boolean z43) (nar .boolean z50)) + (f3 v7 v22 (nar .boolean z36) (nar .boolean z43) (nar .boolean z50))))])) rfl rfl (hb hby at_161)) ?_
  show Go p e below _ (T60.setTop (mkF m 162 #[.val (.int p1), .val (.int p2), .val (.int p3), .val (.int p4), .val (.int p5), .val (.int p6), .val (.ref b1), .val (.ref b14), .val (.ref b31), .unset, .unset, .unset] [(.int v27), (.int v11), (.int ((f3 v3 v17 (nar .boolean z36) (nar .boolean z43) (nar .boolean z50)) + (f3 v7 v22 (nar .boolean z36) (nar .boolean z43) (nar .boolean z50))))]))
  refine go (fun _ q => XS.aload X60.here hx rfl (hb hby at_162) rfl rfl q) ?_
  show Go p e below _ (T60.setTop (mkF m 164 #[.val (.int p1), .val (.int p2), .val (.int p3), .val (.int p4), .val (.int p5), .val (.int p6), .val (.ref b1), .val (.ref b14), .val (.ref b31), .unset, .unset, .unset] [(.ref b31), (.int v27), (.int v11), (.int ((f3 v3 v17 (nar .boolean z36) (nar .boolean z43) (nar .boolean z50)) + (f3 v7 v22 (nar .boolean z36) (nar .boolean z43) (nar .boolean z50))))]))
  refine own_callS X60 hx hZ hown e60 (hw _ (List.mem_of_getElem? (i := 9) rfl)) (hw _ (List.mem_of_getElem? (i := 10) rfl)) (hw _ (List.mem_of_getElem? (i := 3) rfl)) (hw _ (List.mem_of_getElem? (i := 11) rfl)) (rm3 l Z a0 hw [] v11 v27 b31 h52 n0 (own_slot hv27) V_b31_52) (by decide) (by decide) (W := 1) (by decide) (by decide) (by decide) (g := (mkF m 164 #[.val (.int p1), .val (.int p2), .val (.int p3), .val (.int p4), .val (.int p5), .val (.int p6), .val (.ref b1), .val (.ref b14), .val (.ref b31), .unset, .unset, .unset] [(.ref b31), (.int v27), (.int v11), (.int ((f3 v3 v17 (nar .boolean z36) (nar .boolean z43) (nar .boolean z50)) + (f3 v7 v22 (nar .boolean z36) (nar .boolean z43) (nar .boolean z50))))])) rfl (by rw [hml]; rfl) (argsL := [(.int v11), (.int v27), (.ref b31)]) (rest := [(.int ((f3 v3 v17 (nar .boolean z36) (nar .boolean z43) (nar .boolean z50)) + (f3 v7 v22 (nar .boolean z36) (nar .boolean z43) (nar .boolean z50))))]) rfl rfl (lenOf pd_0_2 rfl) (by show 2 * 0 + _ ≤ _; exact Nat.le_of_eq rfl) (hb hby at_164) ?_
  rintro _ T63 L63 X63 ⟨rfl, N63q, e63⟩
  have N63 := Fr.app N60 N63q
  show Go p e below _ (T63.setTop (mkF m 167 #[.val (.int p1), .val (.int p2), .val (.int p3), .val (.int p4), .val (.int p5), .val (.int p6), .val (.ref b1), .val (.ref b14), .val (.ref b31), .unset, .unset, .unset] [(.int (f3 v11 v27 (nar .boolean z36) (nar .boolean z43) (nar .boolean z50))), (.int ((f3 v3 v17 (nar .boolean z36) (nar .boolean z43) (nar .boolean z50)) + (f3 v7 v22 (nar .boolean z36) (nar .boolean z43) (nar .boolean z50))))]))
  refine go (fun _ q => XS.iadd X63.here hx rfl (hb hby at_167) rfl q) ?_
  show Go p e below _ (T63.setTop (mkF m 168 #[.val (.int p1), .val (.int p2), .val (.int p3), .val (.int p4), .val (.int p5), .val (.int p6), .val (.ref b1), .val (.ref b14), .val (.ref b31), .unset, .unset, .unset] [(.int (((f3 v3 v17 (nar .boolean z36) (nar .boolean z43) (nar .boolean z50)) + (f3 v7 v22 (nar .boolean z36) (nar .boolean z43) (nar .boolean z50))) + (f3 v11 v27 (nar .boolean z36) (nar .boolean z43) (nar .boolean z50))))]))
  generalize hv64 : (((f3 v3 v17 (nar .boolean z36) (nar .boolean z43) (nar .boolean z50)) + (f3 v7 v22 (nar .boolean z36) (nar .boolean z43) (nar .boolean z50))) + (f3 v11 v27 (nar .boolean z36) (nar .boolean z43) (nar .boolean z50))) = v64
  show Go p e below _ (T63.setTop (mkF m 168 #[.val (.int p1), .val (.int p2), .val (.int p3), .val (.int p4), .val (.int p5), .val (.int p6), .val (.ref b1), .val (.ref b14), .val (.ref b31), .unset, .unset, .unset] [(.int v64)]))
  refine go (fun _ q => XS.istore X63.here hx rfl (hb hby at_168) rfl (l' := #[.val (.int p1), .val (.int p2), .val (.int p3), .val (.int p4), .val (.int p5), .val (.int p6), .val (.ref b1), .val (.ref b14), .val (.ref b31), .val (.int v64), .unset, .unset]) rfl q) ?_
  show Go p e below _ (T63.setTop (mkF m 170 #[.val (.int p1), .val (.int p2), .val (.int p3), .val (.int p4), .val (.int p5), .val (.int p6), .val (.ref b1), .val (.ref b14), .val (.ref b31), .val (.int v64), .unset, .unset] []))
  obtain ⟨T65, h65, X65, e65, E65, A65, D65, -, st65⟩ := newO X63 hx hZ hown (hw _ (List.mem_of_getElem? (i := 12) rfl)) (hw _ (List.mem_of_getElem? (i := 13) rfl)) (hw _ (List.mem_of_getElem? (i := 14) rfl)) e63 (g := (mkF m 170 #[.val (.int p1), .val (.int p2), .val (.int p3), .val (.int p4), .val (.int p5), .val (.int p6), .val (.ref b1), .val (.ref b14), .val (.ref b31), .val (.int v64), .unset, .unset] [])) rfl (hb hby at_170) (by decide) (by decide)
  obtain ⟨b65, g65⟩ : ∃ z, z = h52.size := ⟨_, rfl⟩
  rw [← g65] at A65 D65 st65
  refine go st65 ?_
  have ne_b1_b65 : b1 ≠ b65 := Nat.ne_of_lt (Nat.lt_of_lt_of_le V_b1_53.lt (Nat.le_of_eq g65.symm))
  have ne_b14_b65 : b14 ≠ b65 := Nat.ne_of_lt (Nat.lt_of_lt_of_le V_b14_54.lt (Nat.le_of_eq g65.symm))
  have ne_b31_b65 : b31 ≠ b65 := Nat.ne_of_lt (Nat.lt_of_lt_of_le V_b31_52.lt (Nat.le_of_eq g65.symm))
  have g_b65 : n0 ≤ b65 := Nat.le_trans Z52 (Nat.le_of_eq g65.symm)
  have Z65 : n0 ≤ h65.size := Nat.le_trans Z52 E65.1
  have V_b1_66 : Arv Z h65 b1 k1 .int (3 : Int32) [(.int v3), (.int v7), (.int v11)] (.int (0 : Int32)) := V_b1_53.ext E65
  have V_b14_67 : Arv Z h65 b14 k14 .int (3 : Int32) [(.int v17), (.int v22), (.int v27)] (.int (0 : Int32)) := V_b14_54.ext E65
  have V_b31_68 : Arv Z h65 b31 k31 .boolean (3 : Int32) [(.int (nar .boolean z36)), (.int (nar .boolean z43)), (.int (nar .boolean z50))] (.int (0 : Int32)) := V_b31_52.ext E65
  have F_ids_b65 : Fld Z h65 b65 "com/example/triview/triview/Atom" "ids" "[I" .null := D65 (Or.inr (hw _ (List.mem_of_getElem? (i := 27) rfl))) (ty := (.array .int)) (by decide)
  have F_slots_b65 : Fld Z h65 b65 "com/example/triview/triview/Atom" "slots" "[I" .null := D65 (Or.inr (hw _ (List.mem_of_getElem? (i := 29) rfl))) (ty := (.array .int)) (by decide)
  show Go p e below _ (T65.setTop (mkF m 173 #[.val (.int p1), .val (.int p2), .val (.int p3), .val (.int p4), .val (.int p5), .val (.int p6), .val (.ref b1), .val (.ref b14), .val (.ref b31), .val (.int v64), .unset, .unset] [(.ref b65)]))
  refine go (fun _ q => XS.dup X65.here hx rfl (hb hby at_173) rfl rfl q) ?_
  show Go p e below _ (T65.setTop (mkF m 174 #[.val (.int p1), .val (.int p2), .val (.int p3), .val (.int p4), .val (.int p5), .val (.int p6), .val (.ref b1), .val (.ref b14), .val (.ref b31), .val (.int v64), .unset, .unset] [(.ref b65), (.ref b65)]))
  refine go (fun _ q => XS.aload X65.here hx rfl (hb hby at_174) rfl rfl q) ?_
  show Go p e below _ (T65.setTop (mkF m 176 #[.val (.int p1), .val (.int p2), .val (.int p3), .val (.int p4), .val (.int p5), .val (.int p6), .val (.ref b1), .val (.ref b14), .val (.ref b31), .val (.int v64), .unset, .unset] [(.ref b1), (.ref b65), (.ref b65)]))
  refine go (fun _ q => XS.aload X65.here hx rfl (hb hby at_176) rfl rfl q) ?_
  show Go p e below _ (T65.setTop (mkF m 178 #[.val (.int p1), .val (.int p2), .val (.int p3), .val (.int p4), .val (.int p5), .val (.int p6), .val (.ref b1), .val (.ref b14), .val (.ref b31), .val (.int v64), .unset, .unset] [(.ref b14), (.ref b1), (.ref b65), (.ref b65)]))
  refine own_callC X65 hx hZ hown e65 (hw _ (List.mem_of_getElem? (i := 15) rfl)) (hw _ (List.mem_of_getElem? (i := 16) rfl)) (hw _ (List.mem_of_getElem? (i := 14) rfl)) (hw _ (List.mem_of_getElem? (i := 17) rfl)) (rm4 l Z a0 hw [] b65 b1 b14 h65 n0 Z65 g_b65 A65 F_ids_b65 F_slots_b65) rfl (by decide) (by decide) (W := 1) (by decide) (by decide) (by decide) (a := b65) (g := (mkF m 178 #[.val (.int p1), .val (.int p2), .val (.int p3), .val (.int p4), .val (.int p5), .val (.int p6), .val (.ref b1), .val (.ref b14), .val (.ref b31), .val (.int v64), .unset, .unset] [(.ref b14), (.ref b1), (.ref b65), (.ref b65)])) rfl (by rw [hml]; rfl) (argsL := [(.ref b1), (.ref b14)]) (rest := [(.ref b65)]) rfl rfl (lenOf pd_0_3 rfl) (by show 2 * 0 + _ ≤ _; exact Nat.le_of_eq rfl) (hb hby at_178) ?_
  rintro _ T69 L69 X69 ⟨rfl, N69q, K69, E69, F69_0, F69_1⟩
  have N69 := Fr.app N63 N69q
  have Z69 : n0 ≤ T69.heap.size := Nat.le_trans Z65 K69.1
  have V_b1_70 : Arv Z T69.heap b1 k1 .int (3 : Int32) [(.int v3), (.int v7), (.int v11)] (.int (0 : Int32)) := V_b1_66.keep K69 (ninS ne_b1_b65 nin0)
  have V_b14_71 : Arv Z T69.heap b14 k14 .int (3 : Int32) [(.int v17), (.int v22), (.int v27)] (.int (0 : Int32)) := V_b14_67.keep K69 (ninS ne_b14_b65 nin0)
  have V_b31_72 : Arv Z T69.heap b31 k31 .boolean (3 : Int32) [(.int (nar .boolean z36)), (.int (nar .boolean z43)), (.int (nar .boolean z50))] (.int (0 : Int32)) := V_b31_68.keep K69 (ninS ne_b31_b65 nin0)
  show Go p e below _ (T69.setTop (mkF m 181 #[.val (.int p1), .val (.int p2), .val (.int p3), .val (.int p4), .val (.int p5), .val (.int p6), .val (.ref b1), .val (.ref b14), .val (.ref b31), .val (.int v64), .unset, .unset] [(.ref b65)]))
  refine go (fun _ q => XS.astore X69.here hx rfl (hb hby at_181) rfl rfl (l' := #[.val (.int p1), .val (.int p2), .val (.int p3), .val (.int p4), .val (.int p5), .val (.int p6), .val (.ref b1), .val (.ref b14), .val (.ref b31), .val (.int v64), .val (.ref b65), .unset]) rfl q) ?_
  show Go p e below _ (T69.setTop (mkF m 183 #[.val (.int p1), .val (.int p2), .val (.int p3), .val (.int p4), .val (.int p5), .val (.int p6), .val (.ref b1), .val (.ref b14), .val (.ref b31), .val (.int v64), .val (.ref b65), .unset] []))
  refine go (fun _ q => XS.aload X69.here hx rfl (hb hby at_183) rfl rfl q) ?_
  show Go p e below _ (T69.setTop (mkF m 185 #[.val (.int p1), .val (.int p2), .val (.int p3), .val (.int p4), .val (.int p5), .val (.int p6), .val (.ref b1), .val (.ref b14), .val (.ref b31), .val (.int v64), .val (.ref b65), .unset] [(.ref b65)]))
  refine go (fun _ q => XS.aload X69.here hx rfl (hb hby at_185) rfl rfl q) ?_
  show Go p e below _ (T69.setTop (mkF m 187 #[.val (.int p1), .val (.int p2), .val (.int p3), .val (.int p4), .val (.int p5), .val (.int p6), .val (.ref b1), .val (.ref b14), .val (.ref b31), .val (.int v64), .val (.ref b65), .unset] [(.ref b31), (.ref b65)]))
  refine own_callV X69 hx hZ hown rfl (hw _ (List.mem_of_getElem? (i := 30) rfl)) (hw _ (List.mem_of_getElem? (i := 31) rfl)) (hw _ (List.mem_of_getElem? (i := 32) rfl)) (hw _ (List.mem_of_getElem? (i := 33) rfl)) (hw _ (List.mem_of_getElem? (i := 14) rfl)) (hw _ (List.mem_of_getElem? (i := 34) rfl)) (rm7 l Z a0 hw [] b65 b31 T69.heap n0 (own_slot hv17) (own_slot hv22) (own_slot hv27) V_b31_72 V_b1_70 V_b14_71 F69_0 F69_1) (by decide) (by decide) (W := 0) (by decide) (by decide) (by decide) (a := b65) E69 (g := (mkF m 187 #[.val (.int p1), .val (.int p2), .val (.int p3), .val (.int p4), .val (.int p5), .val (.int p6), .val (.ref b1), .val (.ref b14), .val (.ref b31), .val (.int v64), .val (.ref b65), .unset] [(.ref b31), (.ref b65)])) rfl (by rw [hml]; rfl) (argsL := [(.ref b31)]) (rest := []) rfl rfl (lenOf pd_0_4 rfl) (by show 2 * 0 + _ ≤ _; exact Nat.le_of_eq rfl) (hb hby at_187) ?_
  rintro _ T73 L73 X73 ⟨rfl, N73q, e73⟩
  have N73 := Fr.app N69 N73q
  show Go p e below _ (T73.setTop (mkF m 190 #[.val (.int p1), .val (.int p2), .val (.int p3), .val (.int p4), .val (.int p5), .val (.int p6), .val (.ref b1), .val (.ref b14), .val (.ref b31), .val (.int v64), .val (.ref b65), .unset] [(.int (f7 v3 v7 v11 v17 v22 v27 (nar .boolean z36) (nar .boolean z43) (nar .boolean z50)))]))
  generalize hv74 : (f7 v3 v7 v11 v17 v22 v27 (nar .boolean z36) (nar .boolean z43) (nar .boolean z50)) = v74
  show Go p e below _ (T73.setTop (mkF m 190 #[.val (.int p1), .val (.int p2), .val (.int p3), .val (.int p4), .val (.int p5), .val (.int p6), .val (.ref b1), .val (.ref b14), .val (.ref b31), .val (.int v64), .val (.ref b65), .unset] [(.int v74)]))
  refine go (fun _ q => XS.istore X73.here hx rfl (hb hby at_190) rfl (l' := #[.val (.int p1), .val (.int p2), .val (.int p3), .val (.int p4), .val (.int p5), .val (.int p6), .val (.ref b1), .val (.ref b14), .val (.ref b31), .val (.int v64), .val (.ref b65), .val (.int v74)]) rfl q) ?_
  show Go p e below _ (T73.setTop (mkF m 192 #[.val (.int p1), .val (.int p2), .val (.int p3), .val (.int p4), .val (.int p5), .val (.int p6), .val (.ref b1), .val (.ref b14), .val (.ref b31), .val (.int v64), .val (.ref b65), .val (.int v74)] []))
  refine go (fun _ q => XS.iload X73.here hx rfl (hb hby at_192) rfl q) ?_
  show Go p e below _ (T73.setTop (mkF m 194 #[.val (.int p1), .val (.int p2), .val (.int p3), .val (.int p4), .val (.int p5), .val (.int p6), .val (.ref b1), .val (.ref b14), .val (.ref b31), .val (.int v64), .val (.ref b65), .val (.int v74)] [(.int v74)]))
  refine go (fun _ q => XS.iload X73.here hx rfl (hb hby at_194) rfl q) ?_
  show Go p e below _ (T73.setTop (mkF m 196 #[.val (.int p1), .val (.int p2), .val (.int p3), .val (.int p4), .val (.int p5), .val (.int p6), .val (.ref b1), .val (.ref b14), .val (.ref b31), .val (.int v64), .val (.ref b65), .val (.int v74)] [(.int v64), (.int v74)]))
  have hk75 : v74 = v64 := by rw [← hv74, ← hv64]; exact own_main _ _ _ _ _ _ _ _ _
  refine go (fun _ q => XS.icmpNo X73.here hx rfl (hb hby at_196) rfl (teq hk75).2 q) ?_
  show Go p e below _ (T73.setTop (mkF m 199 #[.val (.int p1), .val (.int p2), .val (.int p3), .val (.int p4), .val (.int p5), .val (.int p6), .val (.ref b1), .val (.ref b14), .val (.ref b31), .val (.int v64), .val (.ref b65), .val (.int v74)] []))
  refine go (fun _ q => XS.iconst X73.here hx rfl (hb hby at_199) q) ?_
  show Go p e below _ (T73.setTop (mkF m 200 #[.val (.int p1), .val (.int p2), .val (.int p3), .val (.int p4), .val (.int p5), .val (.int p6), .val (.ref b1), .val (.ref b14), .val (.ref b31), .val (.int v64), .val (.ref b65), .val (.int v74)] [(.int (1 : Int32))]))
  refine go (fun _ q => XS.goto X73.here hx rfl (pc0 := 200) (pc' := 204) rfl (hb hby at_200) (by decide) (by decide) q) ?_
  show Go p e below _ (T73.setTop (mkF m 204 #[.val (.int p1), .val (.int p2), .val (.int p3), .val (.int p4), .val (.int p5), .val (.int p6), .val (.ref b1), .val (.ref b14), .val (.ref b31), .val (.int v64), .val (.ref b65), .val (.int v74)] [(.int (1 : Int32))]))
  exact own_retZ (z' := (1 : Int32)) X73 hx hlk hret (hb hby at_204) (by decide) (by decide) rfl ⟨rfl, N73⟩
set_option maxRecDepth 65536 in
set_option maxHeartbeats 40000000 in
theorem comes_1 {Post : Tables → Env → Array Value → State → Outcome → State → Prop} (hpost : ∀ tb e args s v u, (limb_1_1.after args s (.returned v) u = true ∧ limb_1_2.after args s (.returned v) u = true ∧ True) → FrameEnd s (.returned v) u (Jvm.fieldLocs frame_1_writes args s ++ Jvm.arrayLocs frame_1_arrays args s ++ Jvm.staticLocs frame_1_statics s) 16 128 → Post tb e args s (.returned v) u) :
    ArmFor flags0 classFile x code maxLocals ret World_1 tables_1 room_1 Calls_1 rest_1 Pre_1 Post := by
  intro l hfl _ _ p e ha hc hk s m args below hf hA hF happ hP
  obtain ⟨hcalls, hrest, hpre⟩ := hP
  obtain ⟨-, -, -, hnamed, -, -, -, hat⟩ := (Spec.applies_iff hf).mp happ
  obtain ⟨hg, hn⟩ := and_e (Cond.before_iff.mp (show (Jvm.Cond.and given_1 narrow_1).before args s = true from hpre))
  obtain ⟨gc, g0⟩ := and_e hg
  obtain ⟨ga0, g1⟩ := and_e g0
  obtain ⟨ga1, g2⟩ := and_e g1
  obtain ⟨ga2, g3⟩ := and_e g2
  obtain ⟨ga3, g4⟩ := and_e g3
  obtain ⟨ga4, g5⟩ := and_e g4
  have ga5 := g5
  obtain ⟨w0, w1, w2, w3, w4, w5, rfl⟩ : ∃ w0 w1 w2 w3 w4 w5 : Value, args = #[w0, w1, w2, w3, w4, w5] := by
    have hs : args.size = 6 := by simpa [Cond.value, given_1] using gc
    obtain ⟨L⟩ := args
    match L, hs with
    | [w0, w1, w2, w3, w4, w5], _ => exact ⟨w0, w1, w2, w3, w4, w5, rfl⟩
  have hw := fun d (hd : d ∈ tables_1) => atoms_spec (ws := Jvm.Cond.code x code maxLocals ret :: tables_1) hat d (List.mem_cons_of_mem _ hd)
  obtain ⟨i0, ei0⟩ := is_v ga0
  obtain rfl : w0 = (.int i0) := Option.some.inj ei0
  obtain ⟨i1, ei1⟩ := is_v ga1
  obtain rfl : w1 = (.int i1) := Option.some.inj ei1
  obtain ⟨i2, ei2⟩ := is_v ga2
  obtain rfl : w2 = (.int i2) := Option.some.inj ei2
  obtain ⟨i3, ei3⟩ := is_v ga3
  obtain rfl : w3 = (.int i3) := Option.some.inj ei3
  obtain ⟨i4, ei4⟩ := is_v ga4
  obtain rfl : w4 = (.int i4) := Option.some.inj ei4
  obtain ⟨i5, ei5⟩ := is_v ga5
  obtain rfl : w5 = (.int i5) := Option.some.inj ei5
  obtain ⟨n, o, h1, h2, h3, _, L, rfl, ⟨rfl, N⟩, hq⟩ := rm0 l s _ hw tables_1 i0 i1 i2 i3 i4 i5 s.heap s.heap.size (Nat.le_refl _) p e ha hc hk s m _ below hf ((Spec.applies_iff_loose hf).mp happ).1 ⟨rfl, State.Warmed39.refl s, rfl⟩ trivial
  refine ⟨n, _, h1, h2, h3, hpost _ _ _ _ _ _ ⟨Cond.after_iff.mpr rfl, Cond.after_iff.mpr (eq_i res_at (Term.int_eval (1)) rfl), trivial⟩ ⟨hq.1, hq.2.1, (hq.2.2.sift fun y hy => Or.inr (N y hy)).mono (by decide) (by decide)⟩⟩
theorem main_1_1 : Claimed_1_1 := comes_1 fun _ _ _ _ _ _ h hF => ⟨h.1, hF⟩
theorem main_1_2 : Claimed_1_2 := comes_1 fun _ _ _ _ _ _ h hF => ⟨h.2.1, hF⟩
end Jvm.Pilot.@@N@@
namespace Jvm.Pilot.@@N@@
open Jvm Jvm.ClassFile Sem Op Lib Jvm.Free Jvm.Stand Jvm.Pilot.@@N@@.Jvm.D
/-! MADE BY PROGRAM (witnessworld.py) out of the Statement's table words and the real class files: 12 classes; the members and pool entries that the words name. The judged class is class 1, her method 4. -/
namespace start1
open Jvm.ClassFile
def u (s : String) : CpInfo := .utf8 (stringToUtf16 s)
/-- a pool by its gaps: so many unusable entries, then the entry; so many at the end -/
def gap : Nat → List CpInfo → List CpInfo
  | 0, r => r
  | n + 1, r => .unusable :: gap n r
def poolList (es : List (Nat × CpInfo)) (last : Nat) : List CpInfo := es.foldr (fun e r => gap e.1 (e.2 :: r)) (gap last [])
def pool (es : List (Nat × CpInfo)) (last : Nat) : Array CpInfo := ⟨poolList es last⟩
def fileOf (pool : Array CpInfo) (this : Nat) (attrs : Array Attribute := #[]) (ms : Array MethodInfo := #[]) (fl : Nat := 33) (sup : Nat := 0) (ifs : Array Nat := #[]) (fds : Array FieldInfo := #[]) : ClassFile where
  minorVersion := 0
  majorVersion := 65
  constantPool := pool
  accessFlags := fl
  thisClass := this
  superClass := sup
  interfaces := ifs
  fields := fds
  methods := ms
  attributes := attrs
def plain (name : String) (sup : Option ClassId) : Class where
  name := name
  kind := .ordinary
  loader := none
  accessFlags := 33
  super := sup
  interfaces := #[]
  cf := none
  fields := #[]
  methods := #[]
  instanceTypes := #[]
  staticTypes := #[]
  resolved := #[]
  callSites := []
  init := .initialized
  statics := none
  mirror := none

def pool0 : Array CpInfo := pool [(5, u "<init>"), (0, u "()V"), (1, .class_ 10), (1, u "java/lang/Object")] 113

def k0c0 : Code := { maxStack := 0, maxLocals := 1, code := object_method_1_code, exceptionTable := #[], attributes := #[] }
def k0m0 : Method := { name := "<init>", desc := "()V", sig := { parameters := [], returnType := none }, accessFlags := 1, code := some k0c0 }
/-- java/lang/Object -/
def k0 : Class := { plain "java/lang/Object" none with
  accessFlags := 33
  interfaces := #[]
  cf := some (fileOf pool0 8 #[] #[{ accessFlags := 1, nameIndex := 5, descriptorIndex := 6, attributes := #[] }] 33 0 #[] #[])
  fields := #[]
  methods := #[k0m0]
  instanceTypes := #[]
  staticTypes := #[]
  resolved := Array.replicate 124 none
  statics := none }

def pool1 : Array CpInfo := pool [(2, .class_ 4), (1, u "java/lang/Object"), (0, u "<init>"), (0, u "()V"), (0, .class_ 8), (0, u "com/example/triview/triview/Atom"), (2, .methodref 12 13), (0, .class_ 14), (0, .nameAndType 15 16), (0, u "com/example/triview/triview/AtomFixedPositionsPinLaw"), (0, u "idOf"), (0, u "(III)I"), (0, .methodref 12 18), (0, .nameAndType 19 20), (0, u "slotOf"), (0, u "(II)I"), (0, .methodref 12 22), (0, .nameAndType 23 24), (0, u "one"), (0, u "(II[Z)I"), (0, .methodref 7 26), (0, .nameAndType 5 27), (0, u "([I[I)V"), (0, .methodref 7 29), (0, .nameAndType 30 31), (0, u "fixedPositions"), (0, u "([Z)I"), (3, u "law"), (0, u "(IIIIII)Z")] 6

def k1m0 : Method := { name := "<init>", desc := "()V", sig := { parameters := [], returnType := none }, accessFlags := 1, code := none }
def k1c1 : Code := { maxStack := 3, maxLocals := 3, code := method_2_code, exceptionTable := #[], attributes := #[] }
def k1m1 : Method := { name := "slotOf", desc := "(II)I", sig := { parameters := [.int, .int], returnType := some .int }, accessFlags := 10, code := some k1c1 }
def k1c2 : Code := { maxStack := 2, maxLocals := 3, code := method_3_code, exceptionTable := #[], attributes := #[] }
def k1m2 : Method := { name := "idOf", desc := "(III)I", sig := { parameters := [.int, .int, .int], returnType := some .int }, accessFlags := 10, code := some k1c2 }
def k1c3 : Code := { maxStack := 2, maxLocals := 3, code := method_4_code, exceptionTable := #[], attributes := #[] }
def k1m3 : Method := { name := "one", desc := "(II[Z)I", sig := { parameters := [.int, .int, (.array .boolean)], returnType := some .int }, accessFlags := 10, code := some k1c3 }
def k1c4 : Code := { maxStack := 5, maxLocals := 12, code := code, exceptionTable := #[], attributes := #[] }
def k1m4 : Method := { name := "law", desc := "(IIIIII)Z", sig := { parameters := [.int, .int, .int, .int, .int, .int], returnType := some .boolean }, accessFlags := 9, code := some k1c4 }
/-- com/example/triview/triview/AtomFixedPositionsPinLaw -/
def k1 : Class := { plain "com/example/triview/triview/AtomFixedPositionsPinLaw" (some 0) with
  accessFlags := 49
  interfaces := #[]
  cf := some (fileOf pool1 12 #[] #[{ accessFlags := 1, nameIndex := 5, descriptorIndex := 6, attributes := #[] }, { accessFlags := 10, nameIndex := 19, descriptorIndex := 20, attributes := #[] }, { accessFlags := 10, nameIndex := 15, descriptorIndex := 16, attributes := #[] }, { accessFlags := 10, nameIndex := 23, descriptorIndex := 24, attributes := #[] }, { accessFlags := 9, nameIndex := 35, descriptorIndex := 36, attributes := #[] }] 49 2 #[] #[])
  fields := #[]
  methods := #[k1m0, k1m1, k1m2, k1m3, k1m4]
  instanceTypes := #[]
  staticTypes := #[]
  resolved := Array.replicate 43 none
  statics := none }

def pool2 : Array CpInfo := pool [(1, .methodref 2 3), (0, .class_ 4), (0, .nameAndType 5 6), (0, u "java/lang/Object"), (0, u "<init>"), (0, u "()V"), (0, .class_ 8), (0, u "java/lang/Record")] 13

def k2c0 : Code := { maxStack := 1, maxLocals := 1, code := jdk_30_method_1_code, exceptionTable := #[], attributes := #[] }
def k2m0 : Method := { name := "<init>", desc := "()V", sig := { parameters := [], returnType := none }, accessFlags := 4, code := some k2c0 }
/-- java/lang/Record -/
def k2 : Class := { plain "java/lang/Record" (some 0) with
  accessFlags := 1057
  interfaces := #[]
  cf := some (fileOf pool2 7 #[] #[{ accessFlags := 4, nameIndex := 5, descriptorIndex := 6, attributes := #[] }] 1057 2 #[] #[])
  fields := #[]
  methods := #[k2m0]
  instanceTypes := #[]
  staticTypes := #[]
  resolved := Array.replicate 22 none
  statics := none }

def pool3 : Array CpInfo := pool [(1, .methodref 2 3), (0, .class_ 4), (0, .nameAndType 5 6), (0, u "java/lang/Record"), (0, u "<init>"), (0, u "()V"), (0, .fieldref 8 9), (0, .class_ 10), (0, .nameAndType 11 12), (0, u "com/example/triview/triview/Atom"), (0, u "ids"), (0, u "[I"), (0, .fieldref 8 14), (0, .nameAndType 15 12), (0, u "slots"), (30, u "NO_SLOT"), (0, u "I"), (2, u "([I[I)V"), (5, u "fixedPositions"), (0, u "([Z)I")] 42

def k3c0 : Code := { maxStack := 2, maxLocals := 3, code := prog_1_method_1_code, exceptionTable := #[], attributes := #[] }
def k3m0 : Method := { name := "<init>", desc := "([I[I)V", sig := { parameters := [(.array .int), (.array .int)], returnType := none }, accessFlags := 0, code := some k3c0 }
def k3c1 : Code := { maxStack := 4, maxLocals := 4, code := prog_1_method_3_code, exceptionTable := #[], attributes := #[] }
def k3m1 : Method := { name := "fixedPositions", desc := "([Z)I", sig := { parameters := [(.array .boolean)], returnType := some .int }, accessFlags := 0, code := some k3c1 }
/-- com/example/triview/triview/Atom -/
def k3 : Class := { plain "com/example/triview/triview/Atom" (some 2) with
  accessFlags := 48
  interfaces := #[]
  cf := some (fileOf pool3 8 #[] #[{ accessFlags := 0, nameIndex := 5, descriptorIndex := 50, attributes := #[] }, { accessFlags := 0, nameIndex := 56, descriptorIndex := 57, attributes := #[] }] 48 2 #[] #[{ accessFlags := 18, nameIndex := 11, descriptorIndex := 12, attributes := #[] }, { accessFlags := 18, nameIndex := 15, descriptorIndex := 12, attributes := #[] }, { accessFlags := 24, nameIndex := 46, descriptorIndex := 47, attributes := #[] }])
  fields := #[{ name := "ids", type := (.array .int), accessFlags := 18, slot := 0, constantValue := 0 }, { name := "slots", type := (.array .int), accessFlags := 18, slot := 1, constantValue := 0 }, { name := "NO_SLOT", type := .int, accessFlags := 24, slot := 0, constantValue := 0 }]
  methods := #[k3m0, k3m1]
  instanceTypes := #[(.array .int), (.array .int)]
  staticTypes := #[.int]
  resolved := Array.replicate 100 none
  statics := none }

def pool4 : Array CpInfo := pool [(1, u "java/lang/Cloneable"), (0, .class_ 1), (0, u "java/lang/Object"), (0, .class_ 3)] 3

/-- java/lang/Cloneable -/
def k4 : Class := { plain "java/lang/Cloneable" (some 0) with
  accessFlags := 1537
  interfaces := #[]
  cf := some (fileOf pool4 2 #[] #[] 1537 4 #[] #[])
  fields := #[]
  methods := #[]
  instanceTypes := #[]
  staticTypes := #[]
  resolved := Array.replicate 8 none
  statics := none }

def pool5 : Array CpInfo := pool [(1, u "java/io/Serializable"), (0, .class_ 1), (0, u "java/lang/Object"), (0, .class_ 3)] 3

/-- java/io/Serializable -/
def k5 : Class := { plain "java/io/Serializable" (some 0) with
  accessFlags := 1537
  interfaces := #[]
  cf := some (fileOf pool5 2 #[] #[] 1537 4 #[] #[])
  fields := #[]
  methods := #[]
  instanceTypes := #[]
  staticTypes := #[]
  resolved := Array.replicate 8 none
  statics := none }

/-- the primitive boolean -/
def k6 : Class := { plain "boolean" none with kind := .primitive 'Z', accessFlags := 0x411 }
/-- [Z -/
def k7 : Class := { plain "[Z" (some 0) with kind := .array 6 .boolean, interfaces := #[4, 5], accessFlags := 1041 }

/-- the primitive byte -/
def k8 : Class := { plain "byte" none with kind := .primitive 'B', accessFlags := 0x411 }
/-- [B -/
def k9 : Class := { plain "[B" (some 0) with kind := .array 8 .byte, interfaces := #[4, 5], accessFlags := 1041 }

/-- the primitive int -/
def k10 : Class := { plain "int" none with kind := .primitive 'I', accessFlags := 0x411 }
/-- [I -/
def k11 : Class := { plain "[I" (some 0) with kind := .array 10 .int, interfaces := #[4, 5], accessFlags := 1041 }

def heap : Heap := #[]
def classes : Array Class := #[k0, k1, k2, k3, k4, k5, k6, k7, k8, k9, k10, k11]
def interned : List (Array UInt16 × Addr) := []
def slotsUsed : Nat := 0
def theMethod : MethodId := ⟨1, 4⟩
def args0 : Array Value := #[.int 5, .int 300, .int 7, .int 8, .int 9, .int 2]
def aboutOver (below : List Frame) : State where
  vm := { classes := classes, interned := interned.toArray }
  heap := heap
  slotsUsed := slotsUsed
  threads := #[{ frames := .invoking theMethod args0 :: below }]
def below0 : List Frame := [.native { method := ⟨0, 0⟩, args := #[] }]
def about1 : State := aboutOver below0
def p0 : Program := .bare "" "" ""
def e0 : Env := launch0.env 0 0 0
theorem w_frames : about1.frames = Frame.invoking theMethod args0 :: below0 := rfl
set_option maxRecDepth 65536 in
theorem w_args : argsFit about1.vm theMethod args0 = true := by decide +kernel
set_option maxRecDepth 65536 in
theorem w_heap : heapFits about1 = true := by decide +kernel
set_option maxRecDepth 65536 in
theorem w_runnable : about1.curStatus? = some .runnable := by decide +kernel
set_option maxRecDepth 65536 in
theorem w_alone : about1.alone = true := by decide +kernel
set_option maxRecDepth 65536 in
theorem w_named : about1.methodNamed? x = some theMethod := by decide +kernel
set_option maxRecDepth 65536 in
theorem w_hears : about1.hears theMethod below0 = true := by decide +kernel
set_option maxRecDepth 65536 in
theorem w_ripe : about1.ripe theMethod args0 below0 = true := by decide +kernel
theorem w_running : about1.status = .running := rfl
set_option maxRecDepth 65536 in
theorem w_room : about1.hasRoom e0.platform room_1 = true :=
  launch0.hasRoom_least _ room_1 (by decide +kernel) (by decide +kernel) (by decide +kernel) (by decide +kernel) (by decide +kernel) (by decide +kernel)
theorem allAtoms_all (ts : List Jvm.Cond) (a : Array Jvm.Value) (st : Jvm.State) : (allAtoms ts).before a st = ts.all (fun c => c.before a st) := by
  induction ts with
  | nil => rfl
  | cons c t ih =>
    show (Jvm.Cond.and c (allAtoms t)).before a st = _
    rw [Jvm.Cond.before_and, ih, List.all_cons]
def words1 : List Jvm.Cond := Jvm.Cond.code x code maxLocals ret :: tables_1
/-- a 'code' word, met by the world's own term for the bytes: nothing is compared byte by byte -/
theorem code_word {y : MethodName} {bytes : ByteArray} {mx : Nat} {rt : Option FieldType} {a : Array Value} {s : State} {m : MethodId} {meth : Method} {c : Code} (h1 : s.methodNamed? y = some m) (h2 : s.vm.method? m = some meth) (h3 : meth.code = some c) (h4 : c.code = bytes)
    (h5 : (c.maxLocals == mx && c.exceptionTable.isEmpty && decide (c.maxStack ≤ mostOperands) && decide (meth.sig.returnType = rt) && !meth.locks && decide (parseMethodDescriptor y.desc = some meth.sig)) = true) : (Jvm.Cond.code y bytes mx rt).before a s = true := by
  simp only [Bool.and_eq_true, beq_iff_eq, Bool.not_eq_true', decide_eq_true_eq] at h5
  obtain ⟨⟨⟨⟨⟨g1, g2⟩, g3⟩, g4⟩, g5⟩, g6⟩ := h5
  simp [Cond.before, Cond.holds, Cond.value, h1, h2, h3, h4, g1, g2, g3, g4, g5, g6]
def isCode : Jvm.Cond → Bool
  | .code _ _ _ _ => true
  | _ => false
theorem all_split {L : List Jvm.Cond} {P : Jvm.Cond → Bool} (h1 : L.all (fun c => isCode c || P c) = true) (h2 : ∀ c ∈ L.filter isCode, P c = true) : L.all P = true := by
  refine List.all_eq_true.mpr fun c hc => ?_
  have h := List.all_eq_true.mp h1 c hc
  rcases Bool.eq_false_or_eq_true (isCode c) with hi | hi
  · exact h2 c (List.mem_filter.mpr ⟨hc, hi⟩)
  · simpa [hi] using h
set_option maxRecDepth 65536 in
theorem w_c0 : (Jvm.Cond.code x code maxLocals ret).before args0 about1 = true := code_word (m := ⟨1, 4⟩) (meth := k1m4) (c := k1c4) (by decide +kernel) rfl rfl rfl (by decide +kernel)
set_option maxRecDepth 65536 in
theorem w_c1 : (Jvm.Cond.code ({ cls := "com/example/triview/triview/AtomFixedPositionsPinLaw", name := "idOf", desc := "(III)I" } : Jvm.MethodName) method_3_code (3 : Nat) (Option.some Jvm.ClassFile.FieldType.int)).before args0 about1 = true := code_word (m := ⟨1, 2⟩) (meth := k1m2) (c := k1c2) (by decide +kernel) rfl rfl rfl (by decide +kernel)
set_option maxRecDepth 65536 in
theorem w_c2 : (Jvm.Cond.code ({ cls := "com/example/triview/triview/AtomFixedPositionsPinLaw", name := "slotOf", desc := "(II)I" } : Jvm.MethodName) method_2_code (3 : Nat) (Option.some Jvm.ClassFile.FieldType.int)).before args0 about1 = true := code_word (m := ⟨1, 1⟩) (meth := k1m1) (c := k1c1) (by decide +kernel) rfl rfl rfl (by decide +kernel)
set_option maxRecDepth 65536 in
theorem w_c3 : (Jvm.Cond.code ({ cls := "com/example/triview/triview/AtomFixedPositionsPinLaw", name := "one", desc := "(II[Z)I" } : Jvm.MethodName) method_4_code (3 : Nat) (Option.some Jvm.ClassFile.FieldType.int)).before args0 about1 = true := code_word (m := ⟨1, 3⟩) (meth := k1m3) (c := k1c3) (by decide +kernel) rfl rfl rfl (by decide +kernel)
set_option maxRecDepth 65536 in
theorem w_c4 : (Jvm.Cond.code ({ cls := "com/example/triview/triview/Atom", name := "<init>", desc := "([I[I)V" } : Jvm.MethodName) prog_1_method_1_code (3 : Nat) (Option.none : Option Jvm.ClassFile.FieldType)).before args0 about1 = true := code_word (m := ⟨3, 0⟩) (meth := k3m0) (c := k3c0) (by decide +kernel) rfl rfl rfl (by decide +kernel)
set_option maxRecDepth 65536 in
theorem w_c5 : (Jvm.Cond.code ({ cls := "java/lang/Record", name := "<init>", desc := "()V" } : Jvm.MethodName) jdk_30_method_1_code (1 : Nat) (Option.none : Option Jvm.ClassFile.FieldType)).before args0 about1 = true := code_word (m := ⟨2, 0⟩) (meth := k2m0) (c := k2c0) (by decide +kernel) rfl rfl rfl (by decide +kernel)
set_option maxRecDepth 65536 in
theorem w_c6 : (Jvm.Cond.code ({ cls := "java/lang/Object", name := "<init>", desc := "()V" } : Jvm.MethodName) object_method_1_code (1 : Nat) (Option.none : Option Jvm.ClassFile.FieldType)).before args0 about1 = true := code_word (m := ⟨0, 0⟩) (meth := k0m0) (c := k0c0) (by decide +kernel) rfl rfl rfl (by decide +kernel)
set_option maxRecDepth 65536 in
theorem w_c7 : (Jvm.Cond.code ({ cls := "com/example/triview/triview/Atom", name := "fixedPositions", desc := "([Z)I" } : Jvm.MethodName) prog_1_method_3_code (4 : Nat) (Option.some Jvm.ClassFile.FieldType.int)).before args0 about1 = true := code_word (m := ⟨3, 1⟩) (meth := k3m1) (c := k3c1) (by decide +kernel) rfl rfl rfl (by decide +kernel)
def codes1 : List Jvm.Cond := [Jvm.Cond.code x code maxLocals ret, Jvm.Cond.code ({ cls := "com/example/triview/triview/AtomFixedPositionsPinLaw", name := "idOf", desc := "(III)I" } : Jvm.MethodName) method_3_code (3 : Nat) (Option.some Jvm.ClassFile.FieldType.int), Jvm.Cond.code ({ cls := "com/example/triview/triview/AtomFixedPositionsPinLaw", name := "slotOf", desc := "(II)I" } : Jvm.MethodName) method_2_code (3 : Nat) (Option.some Jvm.ClassFile.FieldType.int), Jvm.Cond.code ({ cls := "com/example/triview/triview/AtomFixedPositionsPinLaw", name := "one", desc := "(II[Z)I" } : Jvm.MethodName) method_4_code (3 : Nat) (Option.some Jvm.ClassFile.FieldType.int), Jvm.Cond.code ({ cls := "com/example/triview/triview/Atom", name := "<init>", desc := "([I[I)V" } : Jvm.MethodName) prog_1_method_1_code (3 : Nat) (Option.none : Option Jvm.ClassFile.FieldType), Jvm.Cond.code ({ cls := "java/lang/Record", name := "<init>", desc := "()V" } : Jvm.MethodName) jdk_30_method_1_code (1 : Nat) (Option.none : Option Jvm.ClassFile.FieldType), Jvm.Cond.code ({ cls := "java/lang/Object", name := "<init>", desc := "()V" } : Jvm.MethodName) object_method_1_code (1 : Nat) (Option.none : Option Jvm.ClassFile.FieldType), Jvm.Cond.code ({ cls := "com/example/triview/triview/Atom", name := "fixedPositions", desc := "([Z)I" } : Jvm.MethodName) prog_1_method_3_code (4 : Nat) (Option.some Jvm.ClassFile.FieldType.int)]
set_option maxRecDepth 65536 in
theorem codes_eq : words1.filter isCode = codes1 := rfl
theorem w_codes : ∀ c ∈ words1.filter isCode, c.before args0 about1 = true := by
  rw [codes_eq]
  intro c hc
  simp only [codes1, List.mem_cons, List.not_mem_nil, or_false] at hc
  rcases hc with rfl | rfl | rfl | rfl | rfl | rfl | rfl | rfl
  · exact w_c0
  · exact w_c1
  · exact w_c2
  · exact w_c3
  · exact w_c4
  · exact w_c5
  · exact w_c6
  · exact w_c7
set_option maxRecDepth 65536 in
theorem w_t1 : (words1.take 24).all (fun c => isCode c || c.before args0 about1) = true := by decide +kernel
set_option maxRecDepth 65536 in
theorem w_t2 : (words1.drop 24).all (fun c => isCode c || c.before args0 about1) = true := by decide +kernel
theorem w_tables : (allAtoms (Jvm.Cond.code x code maxLocals ret :: tables_1)).before args0 about1 = true := by
  rw [allAtoms_all]
  show words1.all (fun c => c.before args0 about1) = true
  refine all_split ?_ w_codes
  rw [← List.take_append_drop 24 words1, List.all_append, w_t1, w_t2]
  rfl
set_option maxRecDepth 65536 in
theorem w_case : (Jvm.Cond.and given_1 narrow_1).before args0 about1 = true := by decide +kernel
theorem w_applies : (headSpec (Jvm.Cond.code x code maxLocals ret :: tables_1) room_1).applies x e0.platform about1 = true :=
  (Spec.applies_iff w_frames).mpr ⟨w_running, w_runnable, w_alone, w_named, w_hears, w_ripe, w_room, w_tables⟩
theorem atStart : AtStart classFile x code maxLocals ret World_1 tables_1 room_1 Calls_1 rest_1 Pre_1 launch0 p0 e0 about1 theMethod args0 below0 :=
  ⟨lists_1, trivial, launch0.admits_env _ _ _, launch0.least_env, fairChoices_fair.cas, fairChoices_fair.clock, w_frames, w_args, w_heap, w_applies, trivial, trivial, w_case⟩
end start1
theorem witness_1 : WitnessClaimed_1 := ⟨start1.p0, start1.e0, start1.about1, start1.theMethod, start1.args0, start1.below0, start1.atStart⟩
end Jvm.Pilot.@@N@@
