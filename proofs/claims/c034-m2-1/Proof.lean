import JvmDerived
import JvmDerived.Pilot.@@N@@Statement
import JvmDerived.Pilot.@@N@@Code
set_option linter.unusedVariables false
set_option linter.unusedSimpArgs false
namespace Jvm.Pilot.@@N@@
open Jvm Jvm.ClassFile Sem Op Lib Jvm.Free Jvm.Stand Jvm.LawKit Jvm.RoadKit Bundle Jvm.Pilot.@@N@@.Jvm.D
/-! ## Own: a walk forward: from here the run comes to an end that K takes -/
section Own
variable {p : Program} {l : Launch} {e : Env} {R : Room} {s : State} {m : MethodId} {args : Array Value} {below : List Frame} {meth : Method} {c : Code} {T : State} {locs : List Loc} {cells slots : Nat} {K : State → Prop}
def Go (p : Program) (e : Env) (below : List Frame) (K : State → Prop) (S : State) : Prop := ∃ t, Steps p.tables e below S t ∧ K t
theorem go {S S' : State} (h : ∀ t, Steps p.tables e below S' t → Steps p.tables e below S t) (g : Go p e below K S') : Go p e below K S := by
  obtain ⟨t, h1, h2⟩ := g
  exact ⟨t, h t h1, h2⟩
/-- the end of a body: what is returned, the heap and the written places fulfil Q, within so many cells and slots -/
def Dn (below : List Frame) (s : State) (Q : Option Value → Heap → List Loc → Prop) (C N : Nat) (t : State) : Prop := ∃ v L, t.status = .running ∧ Ended t below (.returned v) ∧ Q v t.heap L ∧ FrameEnd s (.returned v) t L C N
variable {Q : Option Value → Heap → List Loc → Prop} {C N : Nat}
theorem own_retI (X : Stand p l e R s m args below meth c T locs cells slots) (hx : p.tables.exec = Jvm.exec) (hlk : meth.locks = false) {pc : Nat} {Ls : Array Slot} {z : Int32} {rest : List Value} (hret : meth.sig.returnType = some .int) (hd : decode c.code pc = .ok (.ireturn, 1))
    (hC : cells ≤ C) (hN : slots ≤ N) (hQ : Q (some (.int z)) T.heap locs) : Go p e below (Dn below s Q C N) (T.setTop (mkF m pc Ls (.int z :: rest))) := by
  obtain ⟨fs, hr, hrun, hended, hW, hsame⟩ := X.leave (v := some (.int z)) (fun h => by rw [hret] at h; cases h) hlk
  refine ⟨_, ?_, _, _, hrun, hended, hQ, ⟨_, rfl⟩, hW, hsame.mono hC hN⟩
  have hm' : T.vm.method? m = some meth := X.method'
  have hn : narrow .int (.int z) = .int z := rfl
  show Steps p.tables e below (T.setTop { method := m, pc := pc, locals := Ls, stack := _ :: rest, locked := none }) _
  jvm_step X.here [X.here.top, hx, hd, hm', hret, hn]
  first | (intro acts; rw [hr _ acts rfl rfl rfl]) | rw [hr _ _ rfl rfl rfl]
  exact Steps.refl _
theorem own_retZ (X : Stand p l e R s m args below meth c T locs cells slots) (hx : p.tables.exec = Jvm.exec) (hlk : meth.locks = false) {pc : Nat} {Ls : Array Slot} {z z' : Int32} {rest : List Value} (hret : meth.sig.returnType = some .boolean) (hd : decode c.code pc = .ok (.ireturn, 1))
    (hC : cells ≤ C) (hN : slots ≤ N) (hz : nar .boolean z = z') (hQ : Q (some (.int z')) T.heap locs) : Go p e below (Dn below s Q C N) (T.setTop (mkF m pc Ls (.int z :: rest))) := by
  subst hz
  obtain ⟨fs, hr, hrun, hended, hW, hsame⟩ := X.leave (v := some (.int (nar .boolean z))) (fun h => by rw [hret] at h; cases h) hlk
  exact ⟨_, retN X hx (t := .boolean) hret (by simp) hd hr, _, _, hrun, hended, hQ, ⟨_, rfl⟩, hW, hsame.mono hC hN⟩
theorem own_retJ (X : Stand p l e R s m args below meth c T locs cells slots) (hx : p.tables.exec = Jvm.exec) (hlk : meth.locks = false) {pc : Nat} {Ls : Array Slot} {z : Int64} (hret : meth.sig.returnType = some .long) (hd : decode c.code pc = .ok (.lreturn, 1))
    (hC : cells ≤ C) (hN : slots ≤ N) (hQ : Q (some (.long z)) T.heap locs) : Go p e below (Dn below s Q C N) (T.setTop (mkF m pc Ls [.long z])) := by
  obtain ⟨fs, hr, hrun, hended, hW, hsame⟩ := X.leave (v := some (.long z)) (fun h => by rw [hret] at h; cases h) hlk
  exact ⟨_, X.lreturnOut hx hret hd hr, _, _, hrun, hended, hQ, ⟨_, rfl⟩, hW, hsame.mono hC hN⟩
theorem own_retA (X : Stand p l e R s m args below meth c T locs cells slots) (hx : p.tables.exec = Jvm.exec) (hlk : meth.locks = false) {pc : Nat} {Ls : Array Slot} {w : Value} {t : FieldType} (hw : w.isRef = true) (hret : meth.sig.returnType = some t) (ht : t.isReference = true) (hd : decode c.code pc = .ok (.areturn, 1))
    (hC : cells ≤ C) (hN : slots ≤ N) (hQ : Q (some w) T.heap locs) : Go p e below (Dn below s Q C N) (T.setTop (mkF m pc Ls [w])) := by
  obtain ⟨fs, hr, hrun, hended, hW, hsame⟩ := X.leave (v := some w) (fun h => by rw [hret] at h; cases h) hlk
  exact ⟨_, X.areturnOut hx hw hret ht hd hr, _, _, hrun, hended, hQ, ⟨_, rfl⟩, hW, hsame.mono hC hN⟩
theorem own_retV (X : Stand p l e R s m args below meth c T locs cells slots) (hx : p.tables.exec = Jvm.exec) (hlk : meth.locks = false) {pc : Nat} {Ls : Array Slot} (hret : meth.sig.returnType = none) (hd : decode c.code pc = .ok (.return_, 1))
    (hC : cells ≤ C) (hN : slots ≤ N) (hQ : Q none T.heap locs) : Go p e below (Dn below s Q C N) (T.setTop (mkF m pc Ls [])) := by
  obtain ⟨fs, hr, hrun, hended, hW, hsame⟩ := X.leave (v := none) (fun _ => rfl) hlk
  exact ⟨_, X.returnOut hx hret hd hr, _, _, hrun, hended, hQ, ⟨_, rfl⟩, hW, hsame.mono hC hN⟩
theorem own_lrem {g : JFrame} {target : State} (X : Stand p l e R s m args below meth c T locs cells slots) (hx : p.tables.exec = Jvm.exec) (hg : g.method = m) {x y : Int64} {rest : List Value} (hd : decode c.code g.pc = .ok (.lrem, 1)) (hs : g.stack = .long y :: .long x :: rest) (hy : y ≠ 0)
    (hr : Steps p.tables e below (T.setTop { g with pc := g.pc + 1, stack := .long (x % y) :: rest }) target) : Steps p.tables e below (T.setTop g) target := by
  have q : x - x / y * y = x % y := lrem_mod x y
  exact XS.lrem X.here hx hg hd hs hy (by rw [q]; exact hr)
/-- what a body's walk is handed -/
theorem own_met {x : MethodName} {code : ByteArray} {maxL : Nat} {ret : Option FieldType} {ws : List Jvm.Cond} {as' : Array Value} {L0 : Array Slot} {Z : State} {h0 : Heap} (hpl : plainFor x = true) (hef : ∀ m, entryFrame m as' maxL = mkF m 0 L0 [])
    (body : ∀ (p : Program) (e : Env) (s : State) (m : MethodId) (below : List Frame) (meth : Method) (c : Code) (T : State), p.tables.exec = Jvm.exec → c.code = code → c.maxLocals = maxL → s.vm.findClass x.cls = some m.cls → meth.name = x.name → meth.sig.returnType = ret → meth.locks = false → Z.Warmed39 s.vm →
      Stand p l e R s m as' below meth c T [] 0 0 → T.heap = h0 → Go p e below (Dn below s Q R.cells R.slots) (T.setTop (mkF m 0 L0 []))) :
    MetFree l x (head1 (Jvm.Cond.code x code maxL ret :: ws) R) (fun a U => a = as' ∧ Z.Warmed39 U.vm ∧ U.heap = h0) (fun _ _ _ _ _ => True) (fun _ U o U' => ∃ v L, o = .returned v ∧ Q v U'.heap L ∧ FrameEnd U o U' L R.cells R.slots) := by
  refine MetFree.of_bodySF hpl hisR ?_
  intro p e s m args below meth c s₁ Bd hml0 hP hK
  obtain ⟨rfl, hZ, hh⟩ := hP
  obtain ⟨t, h1, v, L, h2, h3, h4, h5⟩ := body p e s m below meth c s₁ Bd.exec Bd.bytes hml0 (findClass_of_methodNamed Bd.named) (name_of_methodNamed Bd.named Bd.method).1 Bd.returns (BodyLoose.notSynchronized Bd) hZ (Stand.of_body Bd) (by rw [← hh, Bd.state]; rfl)
  exact ⟨t, .returned v, castTop (hef m) h1, h2, h3, v, L, rfl, h4, h5⟩
section Calls
variable {Z : State} {a0 : Array Value} {own : String} {idx : Nat} {y : MethodName} {bytes : ByteArray} {maxL W : Nat} {ret : Option FieldType} {rm : Room} {as' : Array Value} {h : Heap}
/-- a static call by the callee's contract -/
theorem own_callS (X : Stand p l e R s m args below meth c T locs cells slots) (hx : p.tables.exec = Jvm.exec) (hZ : Z.Warmed39 s.vm) (hown : s.vm.findClass own = some m.cls) (eT : T.heap = h)
    (w1 : (Jvm.Cond.methodLink own idx y).before a0 Z = true) (w2 : (Jvm.Cond.static y).before a0 Z = true) (w3 : (Jvm.Cond.initialized y.cls).before a0 Z = true) (w4 : (Jvm.Cond.code y bytes maxL ret).before a0 Z = true)
    (hM : MetFree l y (head1 [Jvm.Cond.code y bytes maxL ret] rm) (fun a U => a = as' ∧ Z.Warmed39 U.vm ∧ U.heap = h) (fun _ _ _ _ _ => True) (fun _ U o U' => ∃ v L, o = .returned v ∧ Q v U'.heap L ∧ FrameEnd U o U' L rm.cells rm.slots))
    (hy : y.cls ≠ "java/lang/invoke/MethodHandle" ∧ y.cls ≠ "java/lang/invoke/VarHandle") (hf : rm.frames + 1 ≤ R.frames) (hl : W + (maxL + 11) + rm.locals ≤ R.locals) (hc : cells + rm.cells ≤ R.cells) (hs : slots + rm.slots ≤ R.slots)
    {g : JFrame} (hg : g.method = m) (hsize : g.locals.size = c.maxLocals) {argsL rest : List Value} (hst : g.stack = argsL.reverse ++ rest) (has : argsL.toArray = as') (hlen : ∀ sig, parseMethodDescriptor y.desc = some sig → argsL.length = sig.parameters.length)
    (hW : 2 * g.monitorRoom + (rest.map fun v => v.category).sum ≤ W) (hd : decode c.code g.pc = .ok (.invokestatic idx, 3))
    (k : ∀ v T' L, Stand p l e R s m args below meth c T' (locs ++ L) (cells + rm.cells) (slots + rm.slots) → Q v T'.heap L → Go p e below K (T'.setTop { g with pc := g.pc + 3, stack := v.toList ++ rest })) : Go p e below K (T.setTop g) := by
  obtain ⟨v, _, ⟨T', L', k', n'⟩, -, X', ⟨Lc, hQ, l1, y1, z1⟩, st⟩ := Jvm.LawKit.callS X hx (y := y) hown (mvT hZ w1) (mvT hZ w2) (mvT hZ w3) (mvT hZ w4) hy (backOf (W := W) hM hZ w4 w3 hf hl) hg hsize hlen hst hW hd (fun _ _ => ⟨has, eT, hc, hs⟩)
  dsimp only [Pt.U, Pt.locs, Pt.cells, Pt.slots] at X' l1 y1 z1 st hQ
  subst l1 y1 z1
  exact go st (k _ _ _ X' hQ)
/-- a constructor by its contract -/
theorem own_callC (X : Stand p l e R s m args below meth c T locs cells slots) (hx : p.tables.exec = Jvm.exec) (hZ : Z.Warmed39 s.vm) (hown : s.vm.findClass own = some m.cls) (eT : T.heap = h)
    (w1 : (Jvm.Cond.methodLink own idx y).before a0 Z = true) (w2 : (Jvm.Cond.instanceMethod y).before a0 Z = true) (w3 : (Jvm.Cond.initialized y.cls).before a0 Z = true) (w4 : (Jvm.Cond.code y bytes maxL none).before a0 Z = true)
    (hM : MetFree l y (head1 [Jvm.Cond.code y bytes maxL none] rm) (fun a U => a = as' ∧ Z.Warmed39 U.vm ∧ U.heap = h) (fun _ _ _ _ _ => True) (fun _ U o U' => ∃ v L, o = .returned v ∧ Q v U'.heap L ∧ FrameEnd U o U' L rm.cells rm.slots))
    (hyn : y.name = "<init>") (hy : y.cls ≠ "java/lang/invoke/MethodHandle" ∧ y.cls ≠ "java/lang/invoke/VarHandle") (hf : rm.frames + 1 ≤ R.frames) (hl : W + (maxL + 11) + rm.locals ≤ R.locals) (hc : cells + rm.cells ≤ R.cells) (hs : slots + rm.slots ≤ R.slots)
    {g : JFrame} (hg : g.method = m) (hsize : g.locals.size = c.maxLocals) {a : Addr} {argsL rest : List Value} (hst : g.stack = argsL.reverse ++ .ref a :: rest) (has : (.ref a :: argsL).toArray = as') (hlen : ∀ sig, parseMethodDescriptor y.desc = some sig → argsL.length = sig.parameters.length)
    (hW : 2 * g.monitorRoom + (rest.map fun v => v.category).sum ≤ W) (hd : decode c.code g.pc = .ok (.invokespecial idx, 3))
    (k : ∀ v T' L, Stand p l e R s m args below meth c T' (locs ++ L) (cells + rm.cells) (slots + rm.slots) → Q v T'.heap L → Go p e below K (T'.setTop { g with pc := g.pc + 3, stack := v.toList ++ rest })) : Go p e below K (T.setTop g) := by
  obtain ⟨v, _, ⟨T', L', k', n'⟩, -, X', ⟨Lc, hQ, l1, y1, z1⟩, st⟩ := X.specialBack hx (y := y) hyn hown (mvT hZ w1) (mvT hZ w2) (mvT hZ w4) hy (backOf (W := W) hM hZ w4 w3 hf hl) hg hsize (Steps.refl _) (a := a) hlen hst hW hd (fun _ _ => ⟨has, eT, hc, hs⟩)
  dsimp only [Pt.U, Pt.locs, Pt.cells, Pt.slots] at X' l1 y1 z1 st hQ
  subst l1 y1 z1
  exact go (fun t q => st.trans q) (k _ _ _ X' hQ)
/-- a virtual call of a method that the receiver's class declares itself -/
theorem own_callV (X : Stand p l e R s m args below meth c T locs cells slots) (hx : p.tables.exec = Jvm.exec) (hZ : Z.Warmed39 s.vm) (hown : s.vm.findClass own = some m.cls) (eT : T.heap = h)
    (w1 : (Jvm.Cond.methodLink own idx y).before a0 Z = true) (w2 : (Jvm.Cond.declares y).before a0 Z = true) (w5 : (Jvm.Cond.instanceMethod y).before a0 Z = true) (w6 : (Jvm.Cond.selects y.cls y y).before a0 Z = true) (w3 : (Jvm.Cond.initialized y.cls).before a0 Z = true) (w4 : (Jvm.Cond.code y bytes maxL ret).before a0 Z = true)
    (hM : MetFree l y (head1 [Jvm.Cond.code y bytes maxL ret] rm) (fun a U => a = as' ∧ Z.Warmed39 U.vm ∧ U.heap = h) (fun _ _ _ _ _ => True) (fun _ U o U' => ∃ v L, o = .returned v ∧ Q v U'.heap L ∧ FrameEnd U o U' L rm.cells rm.slots))
    (hy : y.cls ≠ "java/lang/invoke/MethodHandle" ∧ y.cls ≠ "java/lang/invoke/VarHandle") (hf : rm.frames + 1 ≤ R.frames) (hl : W + (maxL + 11) + rm.locals ≤ R.locals) (hc : cells + rm.cells ≤ R.cells) (hs : slots + rm.slots ≤ R.slots)
    {a : Addr} (E : Exa Z h a y.cls) {g : JFrame} (hg : g.method = m) (hsize : g.locals.size = c.maxLocals) {argsL rest : List Value} (hst : g.stack = argsL.reverse ++ .ref a :: rest) (has : (.ref a :: argsL).toArray = as') (hlen : ∀ sig, parseMethodDescriptor y.desc = some sig → argsL.length = sig.parameters.length)
    (hW : 2 * g.monitorRoom + (rest.map fun v => v.category).sum ≤ W) (hd : decode c.code g.pc = .ok (.invokevirtual idx, 3))
    (k : ∀ v T' L, Stand p l e R s m args below meth c T' (locs ++ L) (cells + rm.cells) (slots + rm.slots) → Q v T'.heap L → Go p e below K (T'.setTop { g with pc := g.pc + 3, stack := v.toList ++ rest })) : Go p e below K (T.setTop g) := by
  obtain ⟨cq, kq, qa, qb, qc⟩ := isOf hZ eT E
  obtain ⟨v, _, ⟨T', L', k', n'⟩, -, X', ⟨Lc, hQ, l1, y1, z1⟩, st⟩ := X.virtualBack hx (y := y) (z := y) hown (mvT hZ w1) (mvT hZ w2) (notFace_of_selects (args := #[]) (mvT hZ w6)) (mvT hZ w6) (mvT hZ w5) hy (backOf (W := W) hM hZ w4 w3 hf hl) qa qc hg hsize (Steps.refl _) hlen hst hW hd (fun _ _ => ⟨has, eT, hc, hs⟩)
  dsimp only [Pt.U, Pt.locs, Pt.cells, Pt.slots] at X' l1 y1 z1 st hQ
  subst l1 y1 z1
  exact go (fun t q => st.trans q) (k _ _ _ X' hQ)
end Calls
end Own
/-- a body that writes nothing: it returns r, the heap is what it was -/
def QP (r : Option Value) (h0 : Heap) (n0 : Nat) (v : Option Value) (h : Heap) (L : List Loc) : Prop := v = r ∧ Fr n0 L ∧ h = h0

def f1 (p1 : Int32) (p2 : Int32) : Int32 := (if p2 < p1 then p2 else p1)
theorem d1_0 : decode jdk_29_method_69_code 0 = .ok (.iload_n 0, 1) := by decide +kernel
theorem d1_1 : decode jdk_29_method_69_code 1 = .ok (.iload_n 1, 1) := by decide +kernel
theorem d1_2 : decode jdk_29_method_69_code 2 = .ok (.if_icmp .gt 7, 3) := by decide +kernel
theorem d1_5 : decode jdk_29_method_69_code 5 = .ok (.iload_n 0, 1) := by decide +kernel
theorem d1_6 : decode jdk_29_method_69_code 6 = .ok (.goto 4, 3) := by decide +kernel
theorem d1_9 : decode jdk_29_method_69_code 9 = .ok (.iload_n 1, 1) := by decide +kernel
theorem d1_10 : decode jdk_29_method_69_code 10 = .ok (.ireturn, 1) := by decide +kernel
theorem ef_1 (m : MethodId) (x0 : Int32) (x1 : Int32) : entryFrame m #[(.int x0), (.int x1)] 2 = mkF m 0 #[.val (.int x0), .val (.int x1)] [] := by first | (simp [entryFrame, mkF, argsToLocals, Value.category]; done) | rfl
set_option maxRecDepth 65536 in
set_option maxHeartbeats 40000000 in
theorem rm1 (l : Launch) (Z : State) (a0 : Array Value) (hw : ∀ d ∈ tables_1, d.before a0 Z = true) (ws : List Jvm.Cond) (p1 : Int32) (p2 : Int32) (h0 : Heap) (n0 : Nat) :
    MetFree l (⟨"java/lang/Math", "min", "(II)I"⟩ : MethodName) (head1 (Jvm.Cond.code (⟨"java/lang/Math", "min", "(II)I"⟩ : MethodName) jdk_29_method_69_code 2 (some .int) :: ws) ({ frames := 0, cells := 0, slots := 0, locals := 0 } : Room)) (fun a U => a = #[(.int p1), (.int p2)] ∧ Z.Warmed39 U.vm ∧ U.heap = h0) (fun _ _ _ _ _ => True) (fun _ U o U' => ∃ v L, o = .returned v ∧ (QP (some (.int (f1 p1 p2))) h0 n0) v U'.heap L ∧ FrameEnd U o U' L ({ frames := 0, cells := 0, slots := 0, locals := 0 } : Room).cells ({ frames := 0, cells := 0, slots := 0, locals := 0 } : Room).slots) := by
  refine own_met (Jvm.Free.JP.mathPlain rfl (by decide +kernel)) (fun m => ef_1 m p1 p2) ?_
  intro p e s m below meth c T0 hx hby hml hown hnm hret hlk hZ X0 e0
  have hown : s.vm.findClass "java/lang/Math" = some m.cls := hown
  have hnm : meth.name = "min" := hnm
  have hret : meth.sig.returnType = some .int := hret
  have N0 := Fr.nil n0
  show Go p e below _ (T0.setTop (mkF m 0 #[.val (.int p1), .val (.int p2)] []))
  refine go (fun _ q => XS.iloadN X0.here hx rfl (hb hby d1_0) rfl q) ?_
  show Go p e below _ (T0.setTop (mkF m 1 #[.val (.int p1), .val (.int p2)] [(.int p1)]))
  refine go (fun _ q => XS.iloadN X0.here hx rfl (hb hby d1_1) rfl q) ?_
  show Go p e below _ (T0.setTop (mkF m 2 #[.val (.int p1), .val (.int p2)] [(.int p2), (.int p1)]))
  suffices hj1 : ∀ (z3 : Int32), z3 = (if p2 < p1 then p2 else p1) → Go p e below (Dn below s ((QP (some (.int (f1 p1 p2))) h0 n0)) ({ frames := 0, cells := 0, slots := 0, locals := 0 } : Room).cells ({ frames := 0, cells := 0, slots := 0, locals := 0 } : Room).slots) (T0.setTop (mkF m 10 #[.val (.int p1), .val (.int p2)] [(.int z3)])) by
    by_cases hc2 : p2 < p1
    · refine go (fun _ q => XS.icmpYes X0.here hx rfl (pc0 := 2) (pc' := 9) rfl (hb hby d1_2) rfl (tlt hc2).2.2.1 (by decide) (by decide) q) ?_
      show Go p e below _ (T0.setTop (mkF m 9 #[.val (.int p1), .val (.int p2)] []))
      refine go (fun _ q => XS.iloadN X0.here hx rfl (hb hby d1_9) rfl q) ?_
      show Go p e below _ (T0.setTop (mkF m 10 #[.val (.int p1), .val (.int p2)] [(.int p2)]))
      exact hj1 _ (by rw [if_pos hc2])
    · refine go (fun _ q => XS.icmpNo X0.here hx rfl (hb hby d1_2) rfl (flt hc2).2.2.1 q) ?_
      show Go p e below _ (T0.setTop (mkF m 5 #[.val (.int p1), .val (.int p2)] []))
      refine go (fun _ q => XS.iloadN X0.here hx rfl (hb hby d1_5) rfl q) ?_
      show Go p e below _ (T0.setTop (mkF m 6 #[.val (.int p1), .val (.int p2)] [(.int p1)]))
      refine go (fun _ q => XS.goto X0.here hx rfl (pc0 := 6) (pc' := 10) rfl (hb hby d1_6) (by decide) (by decide) q) ?_
      show Go p e below _ (T0.setTop (mkF m 10 #[.val (.int p1), .val (.int p2)] [(.int p1)]))
      exact hj1 _ (by rw [if_neg hc2])
  intro z3 hz3
  show Go p e below _ (T0.setTop (mkF m 10 #[.val (.int p1), .val (.int p2)] [(.int z3)]))
  exact own_retI X0 hx hlk hret (hb hby d1_10) (by decide) (by decide) ⟨congrArg (fun z => some (Value.int z)) (by rw [f1, hz3]), N0, e0⟩
def f2 (p1 : Int32) (p2 : Int32) : Int32 := (if p1 < p2 then p2 else p1)
theorem d2_0 : decode jdk_29_method_65_code 0 = .ok (.iload_n 0, 1) := by decide +kernel
theorem d2_1 : decode jdk_29_method_65_code 1 = .ok (.iload_n 1, 1) := by decide +kernel
theorem d2_2 : decode jdk_29_method_65_code 2 = .ok (.if_icmp .lt 7, 3) := by decide +kernel
theorem d2_5 : decode jdk_29_method_65_code 5 = .ok (.iload_n 0, 1) := by decide +kernel
theorem d2_6 : decode jdk_29_method_65_code 6 = .ok (.goto 4, 3) := by decide +kernel
theorem d2_9 : decode jdk_29_method_65_code 9 = .ok (.iload_n 1, 1) := by decide +kernel
theorem d2_10 : decode jdk_29_method_65_code 10 = .ok (.ireturn, 1) := by decide +kernel
theorem ef_2 (m : MethodId) (x0 : Int32) (x1 : Int32) : entryFrame m #[(.int x0), (.int x1)] 2 = mkF m 0 #[.val (.int x0), .val (.int x1)] [] := by first | (simp [entryFrame, mkF, argsToLocals, Value.category]; done) | rfl
set_option maxRecDepth 65536 in
set_option maxHeartbeats 40000000 in
theorem rm2 (l : Launch) (Z : State) (a0 : Array Value) (hw : ∀ d ∈ tables_1, d.before a0 Z = true) (ws : List Jvm.Cond) (p1 : Int32) (p2 : Int32) (h0 : Heap) (n0 : Nat) :
    MetFree l (⟨"java/lang/Math", "max", "(II)I"⟩ : MethodName) (head1 (Jvm.Cond.code (⟨"java/lang/Math", "max", "(II)I"⟩ : MethodName) jdk_29_method_65_code 2 (some .int) :: ws) ({ frames := 0, cells := 0, slots := 0, locals := 0 } : Room)) (fun a U => a = #[(.int p1), (.int p2)] ∧ Z.Warmed39 U.vm ∧ U.heap = h0) (fun _ _ _ _ _ => True) (fun _ U o U' => ∃ v L, o = .returned v ∧ (QP (some (.int (f2 p1 p2))) h0 n0) v U'.heap L ∧ FrameEnd U o U' L ({ frames := 0, cells := 0, slots := 0, locals := 0 } : Room).cells ({ frames := 0, cells := 0, slots := 0, locals := 0 } : Room).slots) := by
  refine own_met (Jvm.Free.JP.mathPlain rfl (by decide +kernel)) (fun m => ef_2 m p1 p2) ?_
  intro p e s m below meth c T0 hx hby hml hown hnm hret hlk hZ X0 e0
  have hown : s.vm.findClass "java/lang/Math" = some m.cls := hown
  have hnm : meth.name = "max" := hnm
  have hret : meth.sig.returnType = some .int := hret
  have N0 := Fr.nil n0
  show Go p e below _ (T0.setTop (mkF m 0 #[.val (.int p1), .val (.int p2)] []))
  refine go (fun _ q => XS.iloadN X0.here hx rfl (hb hby d2_0) rfl q) ?_
  show Go p e below _ (T0.setTop (mkF m 1 #[.val (.int p1), .val (.int p2)] [(.int p1)]))
  refine go (fun _ q => XS.iloadN X0.here hx rfl (hb hby d2_1) rfl q) ?_
  show Go p e below _ (T0.setTop (mkF m 2 #[.val (.int p1), .val (.int p2)] [(.int p2), (.int p1)]))
  suffices hj1 : ∀ (z3 : Int32), z3 = (if p1 < p2 then p2 else p1) → Go p e below (Dn below s ((QP (some (.int (f2 p1 p2))) h0 n0)) ({ frames := 0, cells := 0, slots := 0, locals := 0 } : Room).cells ({ frames := 0, cells := 0, slots := 0, locals := 0 } : Room).slots) (T0.setTop (mkF m 10 #[.val (.int p1), .val (.int p2)] [(.int z3)])) by
    by_cases hc2 : p1 < p2
    · refine go (fun _ q => XS.icmpYes X0.here hx rfl (pc0 := 2) (pc' := 9) rfl (hb hby d2_2) rfl (tlt hc2).1 (by decide) (by decide) q) ?_
      show Go p e below _ (T0.setTop (mkF m 9 #[.val (.int p1), .val (.int p2)] []))
      refine go (fun _ q => XS.iloadN X0.here hx rfl (hb hby d2_9) rfl q) ?_
      show Go p e below _ (T0.setTop (mkF m 10 #[.val (.int p1), .val (.int p2)] [(.int p2)]))
      exact hj1 _ (by rw [if_pos hc2])
    · refine go (fun _ q => XS.icmpNo X0.here hx rfl (hb hby d2_2) rfl (flt hc2).1 q) ?_
      show Go p e below _ (T0.setTop (mkF m 5 #[.val (.int p1), .val (.int p2)] []))
      refine go (fun _ q => XS.iloadN X0.here hx rfl (hb hby d2_5) rfl q) ?_
      show Go p e below _ (T0.setTop (mkF m 6 #[.val (.int p1), .val (.int p2)] [(.int p1)]))
      refine go (fun _ q => XS.goto X0.here hx rfl (pc0 := 6) (pc' := 10) rfl (hb hby d2_6) (by decide) (by decide) q) ?_
      show Go p e below _ (T0.setTop (mkF m 10 #[.val (.int p1), .val (.int p2)] [(.int p1)]))
      exact hj1 _ (by rw [if_neg hc2])
  intro z3 hz3
  show Go p e below _ (T0.setTop (mkF m 10 #[.val (.int p1), .val (.int p2)] [(.int z3)]))
  exact own_retI X0 hx hlk hret (hb hby d2_10) (by decide) (by decide) ⟨congrArg (fun z => some (Value.int z)) (by rw [f2, hz3]), N0, e0⟩
def f3 (p1 : Int32) : Int32 := (if p1 < (32 : Int32) then (if p1 = (9 : Int32) then (1 : Int32) else (if p1 = (10 : Int32) then (1 : Int32) else (if p1 = (13 : Int32) then (1 : Int32) else (0 : Int32)))) else (if (if p1 < (55296 : Int32) then (0 : Int32) else (if (57343 : Int32) < p1 then (0 : Int32) else (1 : Int32))) = (0 : Int32) then (if p1 = (65534 : Int32) then (0 : Int32) else (if p1 = (65535 : Int32) then (0 : Int32) else (1 : Int32))) else (0 : Int32)))
theorem d3_0 : decode prog_163_method_2_code 0 = .ok (.iload_n 0, 1) := by decide +kernel
theorem d3_1 : decode prog_163_method_2_code 1 = .ok (.bipush 32, 2) := by decide +kernel
theorem d3_3 : decode prog_163_method_2_code 3 = .ok (.if_icmp .ge 27, 3) := by decide +kernel
theorem d3_6 : decode prog_163_method_2_code 6 = .ok (.iload_n 0, 1) := by decide +kernel
theorem d3_7 : decode prog_163_method_2_code 7 = .ok (.bipush 9, 2) := by decide +kernel
theorem d3_9 : decode prog_163_method_2_code 9 = .ok (.if_icmp .eq 15, 3) := by decide +kernel
theorem d3_12 : decode prog_163_method_2_code 12 = .ok (.iload_n 0, 1) := by decide +kernel
theorem d3_13 : decode prog_163_method_2_code 13 = .ok (.bipush 10, 2) := by decide +kernel
theorem d3_15 : decode prog_163_method_2_code 15 = .ok (.if_icmp .eq 9, 3) := by decide +kernel
theorem d3_18 : decode prog_163_method_2_code 18 = .ok (.iload_n 0, 1) := by decide +kernel
theorem d3_19 : decode prog_163_method_2_code 19 = .ok (.bipush 13, 2) := by decide +kernel
theorem d3_21 : decode prog_163_method_2_code 21 = .ok (.if_icmp .ne 7, 3) := by decide +kernel
theorem d3_24 : decode prog_163_method_2_code 24 = .ok (.iconst 1, 1) := by decide +kernel
theorem d3_25 : decode prog_163_method_2_code 25 = .ok (.goto 4, 3) := by decide +kernel
theorem d3_28 : decode prog_163_method_2_code 28 = .ok (.iconst 0, 1) := by decide +kernel
theorem d3_29 : decode prog_163_method_2_code 29 = .ok (.ireturn, 1) := by decide +kernel
theorem d3_30 : decode prog_163_method_2_code 30 = .ok (.iload_n 0, 1) := by decide +kernel
theorem d3_31 : decode prog_163_method_2_code 31 = .ok (.ldc 9, 2) := by decide +kernel
theorem d3_33 : decode prog_163_method_2_code 33 = .ok (.if_icmp .lt 13, 3) := by decide +kernel
theorem d3_36 : decode prog_163_method_2_code 36 = .ok (.iload_n 0, 1) := by decide +kernel
theorem d3_37 : decode prog_163_method_2_code 37 = .ok (.ldc 10, 2) := by decide +kernel
theorem d3_39 : decode prog_163_method_2_code 39 = .ok (.if_icmp .gt 7, 3) := by decide +kernel
theorem d3_42 : decode prog_163_method_2_code 42 = .ok (.iconst 1, 1) := by decide +kernel
theorem d3_43 : decode prog_163_method_2_code 43 = .ok (.goto 4, 3) := by decide +kernel
theorem d3_46 : decode prog_163_method_2_code 46 = .ok (.iconst 0, 1) := by decide +kernel
theorem d3_47 : decode prog_163_method_2_code 47 = .ok (.istore_n 1, 1) := by decide +kernel
theorem d3_48 : decode prog_163_method_2_code 48 = .ok (.iload_n 1, 1) := by decide +kernel
theorem d3_49 : decode prog_163_method_2_code 49 = .ok (.ifCond .ne 19, 3) := by decide +kernel
theorem d3_52 : decode prog_163_method_2_code 52 = .ok (.iload_n 0, 1) := by decide +kernel
theorem d3_53 : decode prog_163_method_2_code 53 = .ok (.ldc 11, 2) := by decide +kernel
theorem d3_55 : decode prog_163_method_2_code 55 = .ok (.if_icmp .eq 13, 3) := by decide +kernel
theorem d3_58 : decode prog_163_method_2_code 58 = .ok (.iload_n 0, 1) := by decide +kernel
theorem d3_59 : decode prog_163_method_2_code 59 = .ok (.ldc 12, 2) := by decide +kernel
theorem d3_61 : decode prog_163_method_2_code 61 = .ok (.if_icmp .eq 7, 3) := by decide +kernel
theorem d3_64 : decode prog_163_method_2_code 64 = .ok (.iconst 1, 1) := by decide +kernel
theorem d3_65 : decode prog_163_method_2_code 65 = .ok (.goto 4, 3) := by decide +kernel
theorem d3_68 : decode prog_163_method_2_code 68 = .ok (.iconst 0, 1) := by decide +kernel
theorem d3_69 : decode prog_163_method_2_code 69 = .ok (.ireturn, 1) := by decide +kernel
theorem pn_3 : plainName "com/example/junctura/junctura/io/XmlChars" = true := by first | (simp [plainName, overriddenIn]; done) | decide +kernel
theorem ef_3 (m : MethodId) (x0 : Int32) : entryFrame m #[(.int x0)] 2 = mkF m 0 #[.val (.int x0), .unset] [] := by first | (simp [entryFrame, mkF, argsToLocals, Value.category]; done) | rfl
set_option maxRecDepth 65536 in
set_option maxHeartbeats 40000000 in
theorem rm3 (l : Launch) (Z : State) (a0 : Array Value) (hw : ∀ d ∈ tables_1, d.before a0 Z = true) (ws : List Jvm.Cond) (p1 : Int32) (h0 : Heap) (n0 : Nat) :
    MetFree l (⟨"com/example/junctura/junctura/io/XmlChars", "canCarry", "(I)Z"⟩ : MethodName) (head1 (Jvm.Cond.code (⟨"com/example/junctura/junctura/io/XmlChars", "canCarry", "(I)Z"⟩ : MethodName) prog_163_method_2_code 2 (some .boolean) :: ws) ({ frames := 0, cells := 0, slots := 0, locals := 0 } : Room)) (fun a U => a = #[(.int p1)] ∧ Z.Warmed39 U.vm ∧ U.heap = h0) (fun _ _ _ _ _ => True) (fun _ U o U' => ∃ v L, o = .returned v ∧ (QP (some (.int (f3 p1))) h0 n0) v U'.heap L ∧ FrameEnd U o U' L ({ frames := 0, cells := 0, slots := 0, locals := 0 } : Room).cells ({ frames := 0, cells := 0, slots := 0, locals := 0 } : Room).slots) := by
  refine own_met (plainFor_of_name pn_3) (fun m => ef_3 m p1) ?_
  intro p e s m below meth c T0 hx hby hml hown hnm hret hlk hZ X0 e0
  have hown : s.vm.findClass "com/example/junctura/junctura/io/XmlChars" = some m.cls := hown
  have hnm : meth.name = "canCarry" := hnm
  have hret : meth.sig.returnType = some .boolean := hret
  have N0 := Fr.nil n0
  show Go p e below _ (T0.setTop (mkF m 0 #[.val (.int p1), .unset] []))
  refine go (fun _ q => XS.iloadN X0.here hx rfl (hb hby d3_0) rfl q) ?_
  show Go p e below _ (T0.setTop (mkF m 1 #[.val (.int p1), .unset] [(.int p1)]))
  refine go (fun _ q => XS.bipush X0.here hx rfl (hb hby d3_1) q) ?_
  show Go p e below _ (T0.setTop (mkF m 3 #[.val (.int p1), .unset] [(.int (32 : Int32)), (.int p1)]))
  by_cases hc1 : p1 < (32 : Int32)
  · refine go (fun _ q => XS.icmpNo X0.here hx rfl (hb hby d3_3) rfl (tlt hc1).2.1 q) ?_
    show Go p e below _ (T0.setTop (mkF m 6 #[.val (.int p1), .unset] []))
    refine go (fun _ q => XS.iloadN X0.here hx rfl (hb hby d3_6) rfl q) ?_
    show Go p e below _ (T0.setTop (mkF m 7 #[.val (.int p1), .unset] [(.int p1)]))
    refine go (fun _ q => XS.bipush X0.here hx rfl (hb hby d3_7) q) ?_
    show Go p e below _ (T0.setTop (mkF m 9 #[.val (.int p1), .unset] [(.int (9 : Int32)), (.int p1)]))
    suffices hj2 : ∀ (z6 : Int32), z6 = (if p1 = (9 : Int32) then (1 : Int32) else (if p1 = (10 : Int32) then (1 : Int32) else (if p1 = (13 : Int32) then (1 : Int32) else (0 : Int32)))) → Go p e below (Dn below s ((QP (some (.int (f3 p1))) h0 n0)) ({ frames := 0, cells := 0, slots := 0, locals := 0 } : Room).cells ({ frames := 0, cells := 0, slots := 0, locals := 0 } : Room).slots) (T0.setTop (mkF m 29 #[.val (.int p1), .unset] [(.int z6)])) by
      by_cases hc3 : p1 = (9 : Int32)
      · refine go (fun _ q => XS.icmpYes X0.here hx rfl (pc0 := 9) (pc' := 24) rfl (hb hby d3_9) rfl (teq hc3).1 (by decide) (by decide) q) ?_
        show Go p e below _ (T0.setTop (mkF m 24 #[.val (.int p1), .unset] []))
        refine go (fun _ q => XS.iconst X0.here hx rfl (hb hby d3_24) q) ?_
        show Go p e below _ (T0.setTop (mkF m 25 #[.val (.int p1), .unset] [(.int (1 : Int32))]))
        refine go (fun _ q => XS.goto X0.here hx rfl (pc0 := 25) (pc' := 29) rfl (hb hby d3_25) (by decide) (by decide) q) ?_
        show Go p e below _ (T0.setTop (mkF m 29 #[.val (.int p1), .unset] [(.int (1 : Int32))]))
        exact hj2 _ (by rw [if_pos hc3])
      · refine go (fun _ q => XS.icmpNo X0.here hx rfl (hb hby d3_9) rfl (feq hc3).1 q) ?_
        show Go p e below _ (T0.setTop (mkF m 12 #[.val (.int p1), .unset] []))
        refine go (fun _ q => XS.iloadN X0.here hx rfl (hb hby d3_12) rfl q) ?_
        show Go p e below _ (T0.setTop (mkF m 13 #[.val (.int p1), .unset] [(.int p1)]))
        refine go (fun _ q => XS.bipush X0.here hx rfl (hb hby d3_13) q) ?_
        show Go p e below _ (T0.setTop (mkF m 15 #[.val (.int p1), .unset] [(.int (10 : Int32)), (.int p1)]))
        by_cases hc4 : p1 = (10 : Int32)
        · refine go (fun _ q => XS.icmpYes X0.here hx rfl (pc0 := 15) (pc' := 24) rfl (hb hby d3_15) rfl (teq hc4).1 (by decide) (by decide) q) ?_
          show Go p e below _ (T0.setTop (mkF m 24 #[.val (.int p1), .unset] []))
          refine go (fun _ q => XS.iconst X0.here hx rfl (hb hby d3_24) q) ?_
          show Go p e below _ (T0.setTop (mkF m 25 #[.val (.int p1), .unset] [(.int (1 : Int32))]))
          refine go (fun _ q => XS.goto X0.here hx rfl (pc0 := 25) (pc' := 29) rfl (hb hby d3_25) (by decide) (by decide) q) ?_
          show Go p e below _ (T0.setTop (mkF m 29 #[.val (.int p1), .unset] [(.int (1 : Int32))]))
          exact hj2 _ (by rw [if_neg hc3, if_pos hc4])
        · refine go (fun _ q => XS.icmpNo X0.here hx rfl (hb hby d3_15) rfl (feq hc4).1 q) ?_
          show Go p e below _ (T0.setTop (mkF m 18 #[.val (.int p1), .unset] []))
          refine go (fun _ q => XS.iloadN X0.here hx rfl (hb hby d3_18) rfl q) ?_
          show Go p e below _ (T0.setTop (mkF m 19 #[.val (.int p1), .unset] [(.int p1)]))
          refine go (fun _ q => XS.bipush X0.here hx rfl (hb hby d3_19) q) ?_
          show Go p e below _ (T0.setTop (mkF m 21 #[.val (.int p1), .unset] [(.int (13 : Int32)), (.int p1)]))
          by_cases hc5 : p1 = (13 : Int32)
          · refine go (fun _ q => XS.icmpNo X0.here hx rfl (hb hby d3_21) rfl (teq hc5).2 q) ?_
            show Go p e below _ (T0.setTop (mkF m 24 #[.val (.int p1), .unset] []))
            refine go (fun _ q => XS.iconst X0.here hx rfl (hb hby d3_24) q) ?_
            show Go p e below _ (T0.setTop (mkF m 25 #[.val (.int p1), .unset] [(.int (1 : Int32))]))
            refine go (fun _ q => XS.goto X0.here hx rfl (pc0 := 25) (pc' := 29) rfl (hb hby d3_25) (by decide) (by decide) q) ?_
            show Go p e below _ (T0.setTop (mkF m 29 #[.val (.int p1), .unset] [(.int (1 : Int32))]))
            exact hj2 _ (by rw [if_neg hc3, if_neg hc4, if_pos hc5])
          · refine go (fun _ q => XS.icmpYes X0.here hx rfl (pc0 := 21) (pc' := 28) rfl (hb hby d3_21) rfl (feq hc5).2 (by decide) (by decide) q) ?_
            show Go p e below _ (T0.setTop (mkF m 28 #[.val (.int p1), .unset] []))
            refine go (fun _ q => XS.iconst X0.here hx rfl (hb hby d3_28) q) ?_
            show Go p e below _ (T0.setTop (mkF m 29 #[.val (.int p1), .unset] [(.int (0 : Int32))]))
            exact hj2 _ (by rw [if_neg hc3, if_neg hc4, if_neg hc5])
    intro z6 hz6
    show Go p e below _ (T0.setTop (mkF m 29 #[.val (.int p1), .unset] [(.int z6)]))
    exact own_retZ (z' := z6) X0 hx hlk hret (hb hby d3_29) (by decide) (by decide) (by rw [hz6]; (repeat' split) <;> rfl) ⟨congrArg (fun z => some (Value.int z)) (by rw [f3, if_pos hc1, hz6]), N0, e0⟩
  · refine go (fun _ q => XS.icmpYes X0.here hx rfl (pc0 := 3) (pc' := 30) rfl (hb hby d3_3) rfl (flt hc1).2.1 (by decide) (by decide) q) ?_
    show Go p e below _ (T0.setTop (mkF m 30 #[.val (.int p1), .unset] []))
    refine go (fun _ q => XS.iloadN X0.here hx rfl (hb hby d3_30) rfl q) ?_
    show Go p e below _ (T0.setTop (mkF m 31 #[.val (.int p1), .unset] [(.int p1)]))
    refine go (X0.ldcInt hx hown (mvT hZ (hw _ (List.mem_of_getElem? (i := 26) rfl))) (g := (mkF m 31 #[.val (.int p1), .unset] [(.int p1)])) rfl (hb hby d3_31)) ?_
    show Go p e below _ (T0.setTop (mkF m 33 #[.val (.int p1), .unset] [(.int (55296 : Int32)), (.int p1)]))
    suffices hj7 : ∀ (z10 : Int32), z10 = (if p1 < (55296 : Int32) then (0 : Int32) else (if (57343 : Int32) < p1 then (0 : Int32) else (1 : Int32))) → Go p e below (Dn below s ((QP (some (.int (f3 p1))) h0 n0)) ({ frames := 0, cells := 0, slots := 0, locals := 0 } : Room).cells ({ frames := 0, cells := 0, slots := 0, locals := 0 } : Room).slots) (T0.setTop (mkF m 47 #[.val (.int p1), .unset] [(.int z10)])) by
      by_cases hc8 : p1 < (55296 : Int32)
      · refine go (fun _ q => XS.icmpYes X0.here hx rfl (pc0 := 33) (pc' := 46) rfl (hb hby d3_33) rfl (tlt hc8).1 (by decide) (by decide) q) ?_
        show Go p e below _ (T0.setTop (mkF m 46 #[.val (.int p1), .unset] []))
        refine go (fun _ q => XS.iconst X0.here hx rfl (hb hby d3_46) q) ?_
        show Go p e below _ (T0.setTop (mkF m 47 #[.val (.int p1), .unset] [(.int (0 : Int32))]))
        exact hj7 _ (by rw [if_pos hc8])
      · refine go (fun _ q => XS.icmpNo X0.here hx rfl (hb hby d3_33) rfl (flt hc8).1 q) ?_
        show Go p e below _ (T0.setTop (mkF m 36 #[.val (.int p1), .unset] []))
        refine go (fun _ q => XS.iloadN X0.here hx rfl (hb hby d3_36) rfl q) ?_
        show Go p e below _ (T0.setTop (mkF m 37 #[.val (.int p1), .unset] [(.int p1)]))
        refine go (X0.ldcInt hx hown (mvT hZ (hw _ (List.mem_of_getElem? (i := 27) rfl))) (g := (mkF m 37 #[.val (.int p1), .unset] [(.int p1)])) rfl (hb hby d3_37)) ?_
        show Go p e below _ (T0.setTop (mkF m 39 #[.val (.int p1), .unset] [(.int (57343 : Int32)), (.int p1)]))
        by_cases hc9 : (57343 : Int32) < p1
        · refine go (fun _ q => XS.icmpYes X0.here hx rfl (pc0 := 39) (pc' := 46) rfl (hb hby d3_39) rfl (tlt hc9).2.2.1 (by decide) (by decide) q) ?_
          show Go p e below _ (T0.setTop (mkF m 46 #[.val (.int p1), .unset] []))
          refine go (fun _ q => XS.iconst X0.here hx rfl (hb hby d3_46) q) ?_
          show Go p e below _ (T0.setTop (mkF m 47 #[.val (.int p1), .unset] [(.int (0 : Int32))]))
          exact hj7 _ (by rw [if_neg hc8, if_pos hc9])
        · refine go (fun _ q => XS.icmpNo X0.here hx rfl (hb hby d3_39) rfl (flt hc9).2.2.1 q) ?_
          show Go p e below _ (T0.setTop (mkF m 42 #[.val (.int p1), .unset] []))
          refine go (fun _ q => XS.iconst X0.here hx rfl (hb hby d3_42) q) ?_
          show Go p e below _ (T0.setTop (mkF m 43 #[.val (.int p1), .unset] [(.int (1 : Int32))]))
          refine go (fun _ q => XS.goto X0.here hx rfl (pc0 := 43) (pc' := 47) rfl (hb hby d3_43) (by decide) (by decide) q) ?_
          show Go p e below _ (T0.setTop (mkF m 47 #[.val (.int p1), .unset] [(.int (1 : Int32))]))
          exact hj7 _ (by rw [if_neg hc8, if_neg hc9])
    intro z10 hz10
    show Go p e below _ (T0.setTop (mkF m 47 #[.val (.int p1), .unset] [(.int z10)]))
    refine go (fun _ q => XS.istoreN X0.here hx rfl (hb hby d3_47) rfl (l' := #[.val (.int p1), .val (.int z10)]) rfl q) ?_
    show Go p e below _ (T0.setTop (mkF m 48 #[.val (.int p1), .val (.int z10)] []))
    refine go (fun _ q => XS.iloadN X0.here hx rfl (hb hby d3_48) rfl q) ?_
    show Go p e below _ (T0.setTop (mkF m 49 #[.val (.int p1), .val (.int z10)] [(.int z10)]))
    suffices hj11 : ∀ (z15 : Int32), z15 = (if z10 = (0 : Int32) then (if p1 = (65534 : Int32) then (0 : Int32) else (if p1 = (65535 : Int32) then (0 : Int32) else (1 : Int32))) else (0 : Int32)) → Go p e below (Dn below s ((QP (some (.int (f3 p1))) h0 n0)) ({ frames := 0, cells := 0, slots := 0, locals := 0 } : Room).cells ({ frames := 0, cells := 0, slots := 0, locals := 0 } : Room).slots) (T0.setTop (mkF m 69 #[.val (.int p1), .val (.int z10)] [(.int z15)])) by
      by_cases hc12 : z10 = (0 : Int32)
      · refine go (fun _ q => XS.ifNo X0.here hx rfl (hb hby d3_49) rfl ((if0 _ _).trans (teq hc12).2) q) ?_
        show Go p e below _ (T0.setTop (mkF m 52 #[.val (.int p1), .val (.int z10)] []))
        refine go (fun _ q => XS.iloadN X0.here hx rfl (hb hby d3_52) rfl q) ?_
        show Go p e below _ (T0.setTop (mkF m 53 #[.val (.int p1), .val (.int z10)] [(.int p1)]))
        refine go (X0.ldcInt hx hown (mvT hZ (hw _ (List.mem_of_getElem? (i := 28) rfl))) (g := (mkF m 53 #[.val (.int p1), .val (.int z10)] [(.int p1)])) rfl (hb hby d3_53)) ?_
        show Go p e below _ (T0.setTop (mkF m 55 #[.val (.int p1), .val (.int z10)] [(.int (65534 : Int32)), (.int p1)]))
        by_cases hc13 : p1 = (65534 : Int32)
        · refine go (fun _ q => XS.icmpYes X0.here hx rfl (pc0 := 55) (pc' := 68) rfl (hb hby d3_55) rfl (teq hc13).1 (by decide) (by decide) q) ?_
          show Go p e below _ (T0.setTop (mkF m 68 #[.val (.int p1), .val (.int z10)] []))
          refine go (fun _ q => XS.iconst X0.here hx rfl (hb hby d3_68) q) ?_
          show Go p e below _ (T0.setTop (mkF m 69 #[.val (.int p1), .val (.int z10)] [(.int (0 : Int32))]))
          exact hj11 _ (by rw [if_pos hc12, if_pos hc13])
        · refine go (fun _ q => XS.icmpNo X0.here hx rfl (hb hby d3_55) rfl (feq hc13).1 q) ?_
          show Go p e below _ (T0.setTop (mkF m 58 #[.val (.int p1), .val (.int z10)] []))
          refine go (fun _ q => XS.iloadN X0.here hx rfl (hb hby d3_58) rfl q) ?_
          show Go p e below _ (T0.setTop (mkF m 59 #[.val (.int p1), .val (.int z10)] [(.int p1)]))
          refine go (X0.ldcInt hx hown (mvT hZ (hw _ (List.mem_of_getElem? (i := 30) rfl))) (g := (mkF m 59 #[.val (.int p1), .val (.int z10)] [(.int p1)])) rfl (hb hby d3_59)) ?_
          show Go p e below _ (T0.setTop (mkF m 61 #[.val (.int p1), .val (.int z10)] [(.int (65535 : Int32)), (.int p1)]))
          by_cases hc14 : p1 = (65535 : Int32)
          · refine go (fun _ q => XS.icmpYes X0.here hx rfl (pc0 := 61) (pc' := 68) rfl (hb hby d3_61) rfl (teq hc14).1 (by decide) (by decide) q) ?_
            show Go p e below _ (T0.setTop (mkF m 68 #[.val (.int p1), .val (.int z10)] []))
            refine go (fun _ q => XS.iconst X0.here hx rfl (hb hby d3_68) q) ?_
            show Go p e below _ (T0.setTop (mkF m 69 #[.val (.int p1), .val (.int z10)] [(.int (0 : Int32))]))
            exact hj11 _ (by rw [if_pos hc12, if_neg hc13, if_pos hc14])
          · refine go (fun _ q => XS.icmpNo X0.here hx rfl (hb hby d3_61) rfl (feq hc14).1 q) ?_
            show Go p e below _ (T0.setTop (mkF m 64 #[.val (.int p1), .val (.int z10)] []))
            refine go (fun _ q => XS.iconst X0.here hx rfl (hb hby d3_64) q) ?_
            show Go p e below _ (T0.setTop (mkF m 65 #[.val (.int p1), .val (.int z10)] [(.int (1 : Int32))]))
            refine go (fun _ q => XS.goto X0.here hx rfl (pc0 := 65) (pc' := 69) rfl (hb hby d3_65) (by decide) (by decide) q) ?_
            show Go p e below _ (T0.setTop (mkF m 69 #[.val (.int p1), .val (.int z10)] [(.int (1 : Int32))]))
            exact hj11 _ (by rw [if_pos hc12, if_neg hc13, if_neg hc14])
      · refine go (fun _ q => XS.ifYes X0.here hx rfl (pc0 := 49) (pc' := 68) rfl (hb hby d3_49) rfl ((if0 _ _).trans (feq hc12).2) (by decide) (by decide) q) ?_
        show Go p e below _ (T0.setTop (mkF m 68 #[.val (.int p1), .val (.int z10)] []))
        refine go (fun _ q => XS.iconst X0.here hx rfl (hb hby d3_68) q) ?_
        show Go p e below _ (T0.setTop (mkF m 69 #[.val (.int p1), .val (.int z10)] [(.int (0 : Int32))]))
        exact hj11 _ (by rw [if_neg hc12])
    intro z15 hz15
    show Go p e below _ (T0.setTop (mkF m 69 #[.val (.int p1), .val (.int z10)] [(.int z15)]))
    exact own_retZ (z' := z15) X0 hx hlk hret (hb hby d3_69) (by decide) (by decide) (by rw [hz15, hz10]; (repeat' split) <;> rfl) ⟨congrArg (fun z => some (Value.int z)) (by rw [f3, if_neg hc1, hz15, hz10]), N0, e0⟩
def f4 (p1 : Int32) : Int32 := (if p1 = (9 : Int32) then (1 : Int32) else (if p1 = (10 : Int32) then (1 : Int32) else (if p1 = (13 : Int32) then (1 : Int32) else (if p1 < (32 : Int32) then (if p1 < (57344 : Int32) then (if p1 < (65536 : Int32) then (0 : Int32) else (if (1114111 : Int32) < p1 then (0 : Int32) else (1 : Int32))) else (if (65533 : Int32) < p1 then (if p1 < (65536 : Int32) then (0 : Int32) else (if (1114111 : Int32) < p1 then (0 : Int32) else (1 : Int32))) else (1 : Int32))) else (if (55295 : Int32) < p1 then (if p1 < (57344 : Int32) then (if p1 < (65536 : Int32) then (0 : Int32) else (if (1114111 : Int32) < p1 then (0 : Int32) else (1 : Int32))) else (if (65533 : Int32) < p1 then (if p1 < (65536 : Int32) then (0 : Int32) else (if (1114111 : Int32) < p1 then (0 : Int32) else (1 : Int32))) else (1 : Int32))) else (1 : Int32))))))
theorem d4_0 : decode method_2_code 0 = .ok (.iload_n 0, 1) := by decide +kernel
theorem d4_1 : decode method_2_code 1 = .ok (.bipush 9, 2) := by decide +kernel
theorem d4_3 : decode method_2_code 3 = .ok (.if_icmp .eq 15, 3) := by decide +kernel
theorem d4_6 : decode method_2_code 6 = .ok (.iload_n 0, 1) := by decide +kernel
theorem d4_7 : decode method_2_code 7 = .ok (.bipush 10, 2) := by decide +kernel
theorem d4_9 : decode method_2_code 9 = .ok (.if_icmp .eq 9, 3) := by decide +kernel
theorem d4_12 : decode method_2_code 12 = .ok (.iload_n 0, 1) := by decide +kernel
theorem d4_13 : decode method_2_code 13 = .ok (.bipush 13, 2) := by decide +kernel
theorem d4_15 : decode method_2_code 15 = .ok (.if_icmp .ne 5, 3) := by decide +kernel
theorem d4_18 : decode method_2_code 18 = .ok (.iconst 1, 1) := by decide +kernel
theorem d4_19 : decode method_2_code 19 = .ok (.ireturn, 1) := by decide +kernel
theorem d4_20 : decode method_2_code 20 = .ok (.iload_n 0, 1) := by decide +kernel
theorem d4_21 : decode method_2_code 21 = .ok (.bipush 32, 2) := by decide +kernel
theorem d4_23 : decode method_2_code 23 = .ok (.if_icmp .lt 11, 3) := by decide +kernel
theorem d4_26 : decode method_2_code 26 = .ok (.iload_n 0, 1) := by decide +kernel
theorem d4_27 : decode method_2_code 27 = .ok (.ldc 7, 2) := by decide +kernel
theorem d4_29 : decode method_2_code 29 = .ok (.if_icmp .gt 5, 3) := by decide +kernel
theorem d4_32 : decode method_2_code 32 = .ok (.iconst 1, 1) := by decide +kernel
theorem d4_33 : decode method_2_code 33 = .ok (.ireturn, 1) := by decide +kernel
theorem d4_34 : decode method_2_code 34 = .ok (.iload_n 0, 1) := by decide +kernel
theorem d4_35 : decode method_2_code 35 = .ok (.ldc 8, 2) := by decide +kernel
theorem d4_37 : decode method_2_code 37 = .ok (.if_icmp .lt 11, 3) := by decide +kernel
theorem d4_40 : decode method_2_code 40 = .ok (.iload_n 0, 1) := by decide +kernel
theorem d4_41 : decode method_2_code 41 = .ok (.ldc 9, 2) := by decide +kernel
theorem d4_43 : decode method_2_code 43 = .ok (.if_icmp .gt 5, 3) := by decide +kernel
theorem d4_46 : decode method_2_code 46 = .ok (.iconst 1, 1) := by decide +kernel
theorem d4_47 : decode method_2_code 47 = .ok (.ireturn, 1) := by decide +kernel
theorem d4_48 : decode method_2_code 48 = .ok (.iload_n 0, 1) := by decide +kernel
theorem d4_49 : decode method_2_code 49 = .ok (.ldc 10, 2) := by decide +kernel
theorem d4_51 : decode method_2_code 51 = .ok (.if_icmp .lt 11, 3) := by decide +kernel
theorem d4_54 : decode method_2_code 54 = .ok (.iload_n 0, 1) := by decide +kernel
theorem d4_55 : decode method_2_code 55 = .ok (.ldc 11, 2) := by decide +kernel
theorem d4_57 : decode method_2_code 57 = .ok (.if_icmp .gt 5, 3) := by decide +kernel
theorem d4_60 : decode method_2_code 60 = .ok (.iconst 1, 1) := by decide +kernel
theorem d4_61 : decode method_2_code 61 = .ok (.ireturn, 1) := by decide +kernel
theorem d4_62 : decode method_2_code 62 = .ok (.iconst 0, 1) := by decide +kernel
theorem d4_63 : decode method_2_code 63 = .ok (.ireturn, 1) := by decide +kernel
theorem pn_4 : plainName "com/example/junctura/junctura/io/XmlCharsCanCarryPinLaw" = true := by first | (simp [plainName, overriddenIn]; done) | decide +kernel
theorem ef_4 (m : MethodId) (x0 : Int32) : entryFrame m #[(.int x0)] 1 = mkF m 0 #[.val (.int x0)] [] := by first | (simp [entryFrame, mkF, argsToLocals, Value.category]; done) | rfl
set_option maxRecDepth 65536 in
set_option maxHeartbeats 40000000 in
theorem rm4 (l : Launch) (Z : State) (a0 : Array Value) (hw : ∀ d ∈ tables_1, d.before a0 Z = true) (ws : List Jvm.Cond) (p1 : Int32) (h0 : Heap) (n0 : Nat) :
    MetFree l (⟨"com/example/junctura/junctura/io/XmlCharsCanCarryPinLaw", "xmlChar", "(I)Z"⟩ : MethodName) (head1 (Jvm.Cond.code (⟨"com/example/junctura/junctura/io/XmlCharsCanCarryPinLaw", "xmlChar", "(I)Z"⟩ : MethodName) method_2_code 1 (some .boolean) :: ws) ({ frames := 0, cells := 0, slots := 0, locals := 0 } : Room)) (fun a U => a = #[(.int p1)] ∧ Z.Warmed39 U.vm ∧ U.heap = h0) (fun _ _ _ _ _ => True) (fun _ U o U' => ∃ v L, o = .returned v ∧ (QP (some (.int (f4 p1))) h0 n0) v U'.heap L ∧ FrameEnd U o U' L ({ frames := 0, cells := 0, slots := 0, locals := 0 } : Room).cells ({ frames := 0, cells := 0, slots := 0, locals := 0 } : Room).slots) := by
  refine own_met (plainFor_of_name pn_4) (fun m => ef_4 m p1) ?_
  intro p e s m below meth c T0 hx hby hml hown hnm hret hlk hZ X0 e0
  have hown : s.vm.findClass "com/example/junctura/junctura/io/XmlCharsCanCarryPinLaw" = some m.cls := hown
  have hnm : meth.name = "xmlChar" := hnm
  have hret : meth.sig.returnType = some .boolean := hret
  have N0 := Fr.nil n0
  show Go p e below _ (T0.setTop (mkF m 0 #[.val (.int p1)] []))
  refine go (fun _ q => XS.iloadN X0.here hx rfl (hb hby d4_0) rfl q) ?_
  show Go p e below _ (T0.setTop (mkF m 1 #[.val (.int p1)] [(.int p1)]))
  refine go (fun _ q => XS.bipush X0.here hx rfl (hb hby d4_1) q) ?_
  show Go p e below _ (T0.setTop (mkF m 3 #[.val (.int p1)] [(.int (9 : Int32)), (.int p1)]))
  by_cases hc1 : p1 = (9 : Int32)
  · refine go (fun _ q => XS.icmpYes X0.here hx rfl (pc0 := 3) (pc' := 18) rfl (hb hby d4_3) rfl (teq hc1).1 (by decide) (by decide) q) ?_
    show Go p e below _ (T0.setTop (mkF m 18 #[.val (.int p1)] []))
    refine go (fun _ q => XS.iconst X0.here hx rfl (hb hby d4_18) q) ?_
    show Go p e below _ (T0.setTop (mkF m 19 #[.val (.int p1)] [(.int (1 : Int32))]))
    exact own_retZ (z' := (1 : Int32)) X0 hx hlk hret (hb hby d4_19) (by decide) (by decide) rfl ⟨congrArg (fun z => some (Value.int z)) (by rw [f4, if_pos hc1]), N0, e0⟩
  · refine go (fun _ q => XS.icmpNo X0.here hx rfl (hb hby d4_3) rfl (feq hc1).1 q) ?_
    show Go p e below _ (T0.setTop (mkF m 6 #[.val (.int p1)] []))
    refine go (fun _ q => XS.iloadN X0.here hx rfl (hb hby d4_6) rfl q) ?_
    show Go p e below _ (T0.setTop (mkF m 7 #[.val (.int p1)] [(.int p1)]))
    refine go (fun _ q => XS.bipush X0.here hx rfl (hb hby d4_7) q) ?_
    show Go p e below _ (T0.setTop (mkF m 9 #[.val (.int p1)] [(.int (10 : Int32)), (.int p1)]))
    by_cases hc2 : p1 = (10 : Int32)
    · refine go (fun _ q => XS.icmpYes X0.here hx rfl (pc0 := 9) (pc' := 18) rfl (hb hby d4_9) rfl (teq hc2).1 (by decide) (by decide) q) ?_
      show Go p e below _ (T0.setTop (mkF m 18 #[.val (.int p1)] []))
      refine go (fun _ q => XS.iconst X0.here hx rfl (hb hby d4_18) q) ?_
      show Go p e below _ (T0.setTop (mkF m 19 #[.val (.int p1)] [(.int (1 : Int32))]))
      exact own_retZ (z' := (1 : Int32)) X0 hx hlk hret (hb hby d4_19) (by decide) (by decide) rfl ⟨congrArg (fun z => some (Value.int z)) (by rw [f4, if_neg hc1, if_pos hc2]), N0, e0⟩
    · refine go (fun _ q => XS.icmpNo X0.here hx rfl (hb hby d4_9) rfl (feq hc2).1 q) ?_
      show Go p e below _ (T0.setTop (mkF m 12 #[.val (.int p1)] []))
      refine go (fun _ q => XS.iloadN X0.here hx rfl (hb hby d4_12) rfl q) ?_
      show Go p e below _ (T0.setTop (mkF m 13 #[.val (.int p1)] [(.int p1)]))
      refine go (fun _ q => XS.bipush X0.here hx rfl (hb hby d4_13) q) ?_
      show Go p e below _ (T0.setTop (mkF m 15 #[.val (.int p1)] [(.int (13 : Int32)), (.int p1)]))
      by_cases hc3 : p1 = (13 : Int32)
      · refine go (fun _ q => XS.icmpNo X0.here hx rfl (hb hby d4_15) rfl (teq hc3).2 q) ?_
        show Go p e below _ (T0.setTop (mkF m 18 #[.val (.int p1)] []))
        refine go (fun _ q => XS.iconst X0.here hx rfl (hb hby d4_18) q) ?_
        show Go p e below _ (T0.setTop (mkF m 19 #[.val (.int p1)] [(.int (1 : Int32))]))
        exact own_retZ (z' := (1 : Int32)) X0 hx hlk hret (hb hby d4_19) (by decide) (by decide) rfl ⟨congrArg (fun z => some (Value.int z)) (by rw [f4, if_neg hc1, if_neg hc2, if_pos hc3]), N0, e0⟩
      · refine go (fun _ q => XS.icmpYes X0.here hx rfl (pc0 := 15) (pc' := 20) rfl (hb hby d4_15) rfl (feq hc3).2 (by decide) (by decide) q) ?_
        show Go p e below _ (T0.setTop (mkF m 20 #[.val (.int p1)] []))
        refine go (fun _ q => XS.iloadN X0.here hx rfl (hb hby d4_20) rfl q) ?_
        show Go p e below _ (T0.setTop (mkF m 21 #[.val (.int p1)] [(.int p1)]))
        refine go (fun _ q => XS.bipush X0.here hx rfl (hb hby d4_21) q) ?_
        show Go p e below _ (T0.setTop (mkF m 23 #[.val (.int p1)] [(.int (32 : Int32)), (.int p1)]))
        by_cases hc4 : p1 < (32 : Int32)
        · refine go (fun _ q => XS.icmpYes X0.here hx rfl (pc0 := 23) (pc' := 34) rfl (hb hby d4_23) rfl (tlt hc4).1 (by decide) (by decide) q) ?_
          show Go p e below _ (T0.setTop (mkF m 34 #[.val (.int p1)] []))
          refine go (fun _ q => XS.iloadN X0.here hx rfl (hb hby d4_34) rfl q) ?_
          show Go p e below _ (T0.setTop (mkF m 35 #[.val (.int p1)] [(.int p1)]))
          refine go (X0.ldcInt hx hown (mvT hZ (hw _ (List.mem_of_getElem? (i := 4) rfl))) (g := (mkF m 35 #[.val (.int p1)] [(.int p1)])) rfl (hb hby d4_35)) ?_
          show Go p e below _ (T0.setTop (mkF m 37 #[.val (.int p1)] [(.int (57344 : Int32)), (.int p1)]))
          by_cases hc5 : p1 < (57344 : Int32)
          · refine go (fun _ q => XS.icmpYes X0.here hx rfl (pc0 := 37) (pc' := 48) rfl (hb hby d4_37) rfl (tlt hc5).1 (by decide) (by decide) q) ?_
            show Go p e below _ (T0.setTop (mkF m 48 #[.val (.int p1)] []))
            refine go (fun _ q => XS.iloadN X0.here hx rfl (hb hby d4_48) rfl q) ?_
            show Go p e below _ (T0.setTop (mkF m 49 #[.val (.int p1)] [(.int p1)]))
            refine go (X0.ldcInt hx hown (mvT hZ (hw _ (List.mem_of_getElem? (i := 8) rfl))) (g := (mkF m 49 #[.val (.int p1)] [(.int p1)])) rfl (hb hby d4_49)) ?_
            show Go p e below _ (T0.setTop (mkF m 51 #[.val (.int p1)] [(.int (65536 : Int32)), (.int p1)]))
            by_cases hc6 : p1 < (65536 : Int32)
            · refine go (fun _ q => XS.icmpYes X0.here hx rfl (pc0 := 51) (pc' := 62) rfl (hb hby d4_51) rfl (tlt hc6).1 (by decide) (by decide) q) ?_
              show Go p e below _ (T0.setTop (mkF m 62 #[.val (.int p1)] []))
              refine go (fun _ q => XS.iconst X0.here hx rfl (hb hby d4_62) q) ?_
              show Go p e below _ (T0.setTop (mkF m 63 #[.val (.int p1)] [(.int (0 : Int32))]))
              exact own_retZ (z' := (0 : Int32)) X0 hx hlk hret (hb hby d4_63) (by decide) (by decide) rfl ⟨congrArg (fun z => some (Value.int z)) (by rw [f4, if_neg hc1, if_neg hc2, if_neg hc3, if_pos hc4, if_pos hc5, if_pos hc6]), N0, e0⟩
            · refine go (fun _ q => XS.icmpNo X0.here hx rfl (hb hby d4_51) rfl (flt hc6).1 q) ?_
              show Go p e below _ (T0.setTop (mkF m 54 #[.val (.int p1)] []))
              refine go (fun _ q => XS.iloadN X0.here hx rfl (hb hby d4_54) rfl q) ?_
              show Go p e below _ (T0.setTop (mkF m 55 #[.val (.int p1)] [(.int p1)]))
              refine go (X0.ldcInt hx hown (mvT hZ (hw _ (List.mem_of_getElem? (i := 9) rfl))) (g := (mkF m 55 #[.val (.int p1)] [(.int p1)])) rfl (hb hby d4_55)) ?_
              show Go p e below _ (T0.setTop (mkF m 57 #[.val (.int p1)] [(.int (1114111 : Int32)), (.int p1)]))
              by_cases hc7 : (1114111 : Int32) < p1
              · refine go (fun _ q => XS.icmpYes X0.here hx rfl (pc0 := 57) (pc' := 62) rfl (hb hby d4_57) rfl (tlt hc7).2.2.1 (by decide) (by decide) q) ?_
                show Go p e below _ (T0.setTop (mkF m 62 #[.val (.int p1)] []))
                refine go (fun _ q => XS.iconst X0.here hx rfl (hb hby d4_62) q) ?_
                show Go p e below _ (T0.setTop (mkF m 63 #[.val (.int p1)] [(.int (0 : Int32))]))
                exact own_retZ (z' := (0 : Int32)) X0 hx hlk hret (hb hby d4_63) (by decide) (by decide) rfl ⟨congrArg (fun z => some (Value.int z)) (by rw [f4, if_neg hc1, if_neg hc2, if_neg hc3, if_pos hc4, if_pos hc5, if_neg hc6, if_pos hc7]), N0, e0⟩
              · refine go (fun _ q => XS.icmpNo X0.here hx rfl (hb hby d4_57) rfl (flt hc7).2.2.1 q) ?_
                show Go p e below _ (T0.setTop (mkF m 60 #[.val (.int p1)] []))
                refine go (fun _ q => XS.iconst X0.here hx rfl (hb hby d4_60) q) ?_
                show Go p e below _ (T0.setTop (mkF m 61 #[.val (.int p1)] [(.int (1 : Int32))]))
                exact own_retZ (z' := (1 : Int32)) X0 hx hlk hret (hb hby d4_61) (by decide) (by decide) rfl ⟨congrArg (fun z => some (Value.int z)) (by rw [f4, if_neg hc1, if_neg hc2, if_neg hc3, if_pos hc4, if_pos hc5, if_neg hc6, if_neg hc7]), N0, e0⟩
          · refine go (fun _ q => XS.icmpNo X0.here hx rfl (hb hby d4_37) rfl (flt hc5).1 q) ?_
            show Go p e below _ (T0.setTop (mkF m 40 #[.val (.int p1)] []))
            refine go (fun _ q => XS.iloadN X0.here hx rfl (hb hby d4_40) rfl q) ?_
            show Go p e below _ (T0.setTop (mkF m 41 #[.val (.int p1)] [(.int p1)]))
            refine go (X0.ldcInt hx hown (mvT hZ (hw _ (List.mem_of_getElem? (i := 5) rfl))) (g := (mkF m 41 #[.val (.int p1)] [(.int p1)])) rfl (hb hby d4_41)) ?_
            show Go p e below _ (T0.setTop (mkF m 43 #[.val (.int p1)] [(.int (65533 : Int32)), (.int p1)]))
            by_cases hc8 : (65533 : Int32) < p1
            · refine go (fun _ q => XS.icmpYes X0.here hx rfl (pc0 := 43) (pc' := 48) rfl (hb hby d4_43) rfl (tlt hc8).2.2.1 (by decide) (by decide) q) ?_
              show Go p e below _ (T0.setTop (mkF m 48 #[.val (.int p1)] []))
              refine go (fun _ q => XS.iloadN X0.here hx rfl (hb hby d4_48) rfl q) ?_
              show Go p e below _ (T0.setTop (mkF m 49 #[.val (.int p1)] [(.int p1)]))
              refine go (X0.ldcInt hx hown (mvT hZ (hw _ (List.mem_of_getElem? (i := 8) rfl))) (g := (mkF m 49 #[.val (.int p1)] [(.int p1)])) rfl (hb hby d4_49)) ?_
              show Go p e below _ (T0.setTop (mkF m 51 #[.val (.int p1)] [(.int (65536 : Int32)), (.int p1)]))
              by_cases hc9 : p1 < (65536 : Int32)
              · refine go (fun _ q => XS.icmpYes X0.here hx rfl (pc0 := 51) (pc' := 62) rfl (hb hby d4_51) rfl (tlt hc9).1 (by decide) (by decide) q) ?_
                show Go p e below _ (T0.setTop (mkF m 62 #[.val (.int p1)] []))
                refine go (fun _ q => XS.iconst X0.here hx rfl (hb hby d4_62) q) ?_
                show Go p e below _ (T0.setTop (mkF m 63 #[.val (.int p1)] [(.int (0 : Int32))]))
                exact own_retZ (z' := (0 : Int32)) X0 hx hlk hret (hb hby d4_63) (by decide) (by decide) rfl ⟨congrArg (fun z => some (Value.int z)) (by rw [f4, if_neg hc1, if_neg hc2, if_neg hc3, if_pos hc4, if_neg hc5, if_pos hc8, if_pos hc9]), N0, e0⟩
              · refine go (fun _ q => XS.icmpNo X0.here hx rfl (hb hby d4_51) rfl (flt hc9).1 q) ?_
                show Go p e below _ (T0.setTop (mkF m 54 #[.val (.int p1)] []))
                refine go (fun _ q => XS.iloadN X0.here hx rfl (hb hby d4_54) rfl q) ?_
                show Go p e below _ (T0.setTop (mkF m 55 #[.val (.int p1)] [(.int p1)]))
                refine go (X0.ldcInt hx hown (mvT hZ (hw _ (List.mem_of_getElem? (i := 9) rfl))) (g := (mkF m 55 #[.val (.int p1)] [(.int p1)])) rfl (hb hby d4_55)) ?_
                show Go p e below _ (T0.setTop (mkF m 57 #[.val (.int p1)] [(.int (1114111 : Int32)), (.int p1)]))
                by_cases hc10 : (1114111 : Int32) < p1
                · refine go (fun _ q => XS.icmpYes X0.here hx rfl (pc0 := 57) (pc' := 62) rfl (hb hby d4_57) rfl (tlt hc10).2.2.1 (by decide) (by decide) q) ?_
                  show Go p e below _ (T0.setTop (mkF m 62 #[.val (.int p1)] []))
                  refine go (fun _ q => XS.iconst X0.here hx rfl (hb hby d4_62) q) ?_
                  show Go p e below _ (T0.setTop (mkF m 63 #[.val (.int p1)] [(.int (0 : Int32))]))
                  exact own_retZ (z' := (0 : Int32)) X0 hx hlk hret (hb hby d4_63) (by decide) (by decide) rfl ⟨congrArg (fun z => some (Value.int z)) (by rw [f4, if_neg hc1, if_neg hc2, if_neg hc3, if_pos hc4, if_neg hc5, if_pos hc8, if_neg hc9, if_pos hc10]), N0, e0⟩
                · refine go (fun _ q => XS.icmpNo X0.here hx rfl (hb hby d4_57) rfl (flt hc10).2.2.1 q) ?_
                  show Go p e below _ (T0.setTop (mkF m 60 #[.val (.int p1)] []))
                  refine go (fun _ q => XS.iconst X0.here hx rfl (hb hby d4_60) q) ?_
                  show Go p e below _ (T0.setTop (mkF m 61 #[.val (.int p1)] [(.int (1 : Int32))]))
                  exact own_retZ (z' := (1 : Int32)) X0 hx hlk hret (hb hby d4_61) (by decide) (by decide) rfl ⟨congrArg (fun z => some (Value.int z)) (by rw [f4, if_neg hc1, if_neg hc2, if_neg hc3, if_pos hc4, if_neg hc5, if_pos hc8, if_neg hc9, if_neg hc10]), N0, e0⟩
            · refine go (fun _ q => XS.icmpNo X0.here hx rfl (hb hby d4_43) rfl (flt hc8).2.2.1 q) ?_
              show Go p e below _ (T0.setTop (mkF m 46 #[.val (.int p1)] []))
              refine go (fun _ q => XS.iconst X0.here hx rfl (hb hby d4_46) q) ?_
              show Go p e below _ (T0.setTop (mkF m 47 #[.val (.int p1)] [(.int (1 : Int32))]))
              exact own_retZ (z' := (1 : Int32)) X0 hx hlk hret (hb hby d4_47) (by decide) (by decide) rfl ⟨congrArg (fun z => some (Value.int z)) (by rw [f4, if_neg hc1, if_neg hc2, if_neg hc3, if_pos hc4, if_neg hc5, if_neg hc8]), N0, e0⟩
        · refine go (fun _ q => XS.icmpNo X0.here hx rfl (hb hby d4_23) rfl (flt hc4).1 q) ?_
          show Go p e below _ (T0.setTop (mkF m 26 #[.val (.int p1)] []))
          refine go (fun _ q => XS.iloadN X0.here hx rfl (hb hby d4_26) rfl q) ?_
          show Go p e below _ (T0.setTop (mkF m 27 #[.val (.int p1)] [(.int p1)]))
          refine go (X0.ldcInt hx hown (mvT hZ (hw _ (List.mem_of_getElem? (i := 1) rfl))) (g := (mkF m 27 #[.val (.int p1)] [(.int p1)])) rfl (hb hby d4_27)) ?_
          show Go p e below _ (T0.setTop (mkF m 29 #[.val (.int p1)] [(.int (55295 : Int32)), (.int p1)]))
          by_cases hc11 : (55295 : Int32) < p1
          · refine go (fun _ q => XS.icmpYes X0.here hx rfl (pc0 := 29) (pc' := 34) rfl (hb hby d4_29) rfl (tlt hc11).2.2.1 (by decide) (by decide) q) ?_
            show Go p e below _ (T0.setTop (mkF m 34 #[.val (.int p1)] []))
            refine go (fun _ q => XS.iloadN X0.here hx rfl (hb hby d4_34) rfl q) ?_
            show Go p e below _ (T0.setTop (mkF m 35 #[.val (.int p1)] [(.int p1)]))
            refine go (X0.ldcInt hx hown (mvT hZ (hw _ (List.mem_of_getElem? (i := 4) rfl))) (g := (mkF m 35 #[.val (.int p1)] [(.int p1)])) rfl (hb hby d4_35)) ?_
            show Go p e below _ (T0.setTop (mkF m 37 #[.val (.int p1)] [(.int (57344 : Int32)), (.int p1)]))
            by_cases hc12 : p1 < (57344 : Int32)
            · refine go (fun _ q => XS.icmpYes X0.here hx rfl (pc0 := 37) (pc' := 48) rfl (hb hby d4_37) rfl (tlt hc12).1 (by decide) (by decide) q) ?_
              show Go p e below _ (T0.setTop (mkF m 48 #[.val (.int p1)] []))
              refine go (fun _ q => XS.iloadN X0.here hx rfl (hb hby d4_48) rfl q) ?_
              show Go p e below _ (T0.setTop (mkF m 49 #[.val (.int p1)] [(.int p1)]))
              refine go (X0.ldcInt hx hown (mvT hZ (hw _ (List.mem_of_getElem? (i := 8) rfl))) (g := (mkF m 49 #[.val (.int p1)] [(.int p1)])) rfl (hb hby d4_49)) ?_
              show Go p e below _ (T0.setTop (mkF m 51 #[.val (.int p1)] [(.int (65536 : Int32)), (.int p1)]))
              by_cases hc13 : p1 < (65536 : Int32)
              · refine go (fun _ q => XS.icmpYes X0.here hx rfl (pc0 := 51) (pc' := 62) rfl (hb hby d4_51) rfl (tlt hc13).1 (by decide) (by decide) q) ?_
                show Go p e below _ (T0.setTop (mkF m 62 #[.val (.int p1)] []))
                refine go (fun _ q => XS.iconst X0.here hx rfl (hb hby d4_62) q) ?_
                show Go p e below _ (T0.setTop (mkF m 63 #[.val (.int p1)] [(.int (0 : Int32))]))
                exact own_retZ (z' := (0 : Int32)) X0 hx hlk hret (hb hby d4_63) (by decide) (by decide) rfl ⟨congrArg (fun z => some (Value.int z)) (by rw [f4, if_neg hc1, if_neg hc2, if_neg hc3, if_neg hc4, if_pos hc11, if_pos hc12, if_pos hc13]), N0, e0⟩
              · refine go (fun _ q => XS.icmpNo X0.here hx rfl (hb hby d4_51) rfl (flt hc13).1 q) ?_
                show Go p e below _ (T0.setTop (mkF m 54 #[.val (.int p1)] []))
                refine go (fun _ q => XS.iloadN X0.here hx rfl (hb hby d4_54) rfl q) ?_
                show Go p e below _ (T0.setTop (mkF m 55 #[.val (.int p1)] [(.int p1)]))
                refine go (X0.ldcInt hx hown (mvT hZ (hw _ (List.mem_of_getElem? (i := 9) rfl))) (g := (mkF m 55 #[.val (.int p1)] [(.int p1)])) rfl (hb hby d4_55)) ?_
                show Go p e below _ (T0.setTop (mkF m 57 #[.val (.int p1)] [(.int (1114111 : Int32)), (.int p1)]))
                by_cases hc14 : (1114111 : Int32) < p1
                · refine go (fun _ q => XS.icmpYes X0.here hx rfl (pc0 := 57) (pc' := 62) rfl (hb hby d4_57) rfl (tlt hc14).2.2.1 (by decide) (by decide) q) ?_
                  show Go p e below _ (T0.setTop (mkF m 62 #[.val (.int p1)] []))
                  refine go (fun _ q => XS.iconst X0.here hx rfl (hb hby d4_62) q) ?_
                  show Go p e below _ (T0.setTop (mkF m 63 #[.val (.int p1)] [(.int (0 : Int32))]))
                  exact own_retZ (z' := (0 : Int32)) X0 hx hlk hret (hb hby d4_63) (by decide) (by decide) rfl ⟨congrArg (fun z => some (Value.int z)) (by rw [f4, if_neg hc1, if_neg hc2, if_neg hc3, if_neg hc4, if_pos hc11, if_pos hc12, if_neg hc13, if_pos hc14]), N0, e0⟩
                · refine go (fun _ q => XS.icmpNo X0.here hx rfl (hb hby d4_57) rfl (flt hc14).2.2.1 q) ?_
                  show Go p e below _ (T0.setTop (mkF m 60 #[.val (.int p1)] []))
                  refine go (fun _ q => XS.iconst X0.here hx rfl (hb hby d4_60) q) ?_
                  show Go p e below _ (T0.setTop (mkF m 61 #[.val (.int p1)] [(.int (1 : Int32))]))
                  exact own_retZ (z' := (1 : Int32)) X0 hx hlk hret (hb hby d4_61) (by decide) (by decide) rfl ⟨congrArg (fun z => some (Value.int z)) (by rw [f4, if_neg hc1, if_neg hc2, if_neg hc3, if_neg hc4, if_pos hc11, if_pos hc12, if_neg hc13, if_neg hc14]), N0, e0⟩
            · refine go (fun _ q => XS.icmpNo X0.here hx rfl (hb hby d4_37) rfl (flt hc12).1 q) ?_
              show Go p e below _ (T0.setTop (mkF m 40 #[.val (.int p1)] []))
              refine go (fun _ q => XS.iloadN X0.here hx rfl (hb hby d4_40) rfl q) ?_
              show Go p e below _ (T0.setTop (mkF m 41 #[.val (.int p1)] [(.int p1)]))
              refine go (X0.ldcInt hx hown (mvT hZ (hw _ (List.mem_of_getElem? (i := 5) rfl))) (g := (mkF m 41 #[.val (.int p1)] [(.int p1)])) rfl (hb hby d4_41)) ?_
              show Go p e below _ (T0.setTop (mkF m 43 #[.val (.int p1)] [(.int (65533 : Int32)), (.int p1)]))
              by_cases hc15 : (65533 : Int32) < p1
              · refine go (fun _ q => XS.icmpYes X0.here hx rfl (pc0 := 43) (pc' := 48) rfl (hb hby d4_43) rfl (tlt hc15).2.2.1 (by decide) (by decide) q) ?_
                show Go p e below _ (T0.setTop (mkF m 48 #[.val (.int p1)] []))
                refine go (fun _ q => XS.iloadN X0.here hx rfl (hb hby d4_48) rfl q) ?_
                show Go p e below _ (T0.setTop (mkF m 49 #[.val (.int p1)] [(.int p1)]))
                refine go (X0.ldcInt hx hown (mvT hZ (hw _ (List.mem_of_getElem? (i := 8) rfl))) (g := (mkF m 49 #[.val (.int p1)] [(.int p1)])) rfl (hb hby d4_49)) ?_
                show Go p e below _ (T0.setTop (mkF m 51 #[.val (.int p1)] [(.int (65536 : Int32)), (.int p1)]))
                by_cases hc16 : p1 < (65536 : Int32)
                · refine go (fun _ q => XS.icmpYes X0.here hx rfl (pc0 := 51) (pc' := 62) rfl (hb hby d4_51) rfl (tlt hc16).1 (by decide) (by decide) q) ?_
                  show Go p e below _ (T0.setTop (mkF m 62 #[.val (.int p1)] []))
                  refine go (fun _ q => XS.iconst X0.here hx rfl (hb hby d4_62) q) ?_
                  show Go p e below _ (T0.setTop (mkF m 63 #[.val (.int p1)] [(.int (0 : Int32))]))
                  exact own_retZ (z' := (0 : Int32)) X0 hx hlk hret (hb hby d4_63) (by decide) (by decide) rfl ⟨congrArg (fun z => some (Value.int z)) (by rw [f4, if_neg hc1, if_neg hc2, if_neg hc3, if_neg hc4, if_pos hc11, if_neg hc12, if_pos hc15, if_pos hc16]), N0, e0⟩
                · refine go (fun _ q => XS.icmpNo X0.here hx rfl (hb hby d4_51) rfl (flt hc16).1 q) ?_
                  show Go p e below _ (T0.setTop (mkF m 54 #[.val (.int p1)] []))
                  refine go (fun _ q => XS.iloadN X0.here hx rfl (hb hby d4_54) rfl q) ?_
                  show Go p e below _ (T0.setTop (mkF m 55 #[.val (.int p1)] [(.int p1)]))
                  refine go (X0.ldcInt hx hown (mvT hZ (hw _ (List.mem_of_getElem? (i := 9) rfl))) (g := (mkF m 55 #[.val (.int p1)] [(.int p1)])) rfl (hb hby d4_55)) ?_
                  show Go p e below _ (T0.setTop (mkF m 57 #[.val (.int p1)] [(.int (1114111 : Int32)), (.int p1)]))
                  by_cases hc17 : (1114111 : Int32) < p1
                  · refine go (fun _ q => XS.icmpYes X0.here hx rfl (pc0 := 57) (pc' := 62) rfl (hb hby d4_57) rfl (tlt hc17).2.2.1 (by decide) (by decide) q) ?_
                    show Go p e below _ (T0.setTop (mkF m 62 #[.val (.int p1)] []))
                    refine go (fun _ q => XS.iconst X0.here hx rfl (hb hby d4_62) q) ?_
                    show Go p e below _ (T0.setTop (mkF m 63 #[.val (.int p1)] [(.int (0 : Int32))]))
                    exact own_retZ (z' := (0 : Int32)) X0 hx hlk hret (hb hby d4_63) (by decide) (by decide) rfl ⟨congrArg (fun z => some (Value.int z)) (by rw [f4, if_neg hc1, if_neg hc2, if_neg hc3, if_neg hc4, if_pos hc11, if_neg hc12, if_pos hc15, if_neg hc16, if_pos hc17]), N0, e0⟩
                  · refine go (fun _ q => XS.icmpNo X0.here hx rfl (hb hby d4_57) rfl (flt hc17).2.2.1 q) ?_
                    show Go p e below _ (T0.setTop (mkF m 60 #[.val (.int p1)] []))
                    refine go (fun _ q => XS.iconst X0.here hx rfl (hb hby d4_60) q) ?_
                    show Go p e below _ (T0.setTop (mkF m 61 #[.val (.int p1)] [(.int (1 : Int32))]))
                    exact own_retZ (z' := (1 : Int32)) X0 hx hlk hret (hb hby d4_61) (by decide) (by decide) rfl ⟨congrArg (fun z => some (Value.int z)) (by rw [f4, if_neg hc1, if_neg hc2, if_neg hc3, if_neg hc4, if_pos hc11, if_neg hc12, if_pos hc15, if_neg hc16, if_neg hc17]), N0, e0⟩
              · refine go (fun _ q => XS.icmpNo X0.here hx rfl (hb hby d4_43) rfl (flt hc15).2.2.1 q) ?_
                show Go p e below _ (T0.setTop (mkF m 46 #[.val (.int p1)] []))
                refine go (fun _ q => XS.iconst X0.here hx rfl (hb hby d4_46) q) ?_
                show Go p e below _ (T0.setTop (mkF m 47 #[.val (.int p1)] [(.int (1 : Int32))]))
                exact own_retZ (z' := (1 : Int32)) X0 hx hlk hret (hb hby d4_47) (by decide) (by decide) rfl ⟨congrArg (fun z => some (Value.int z)) (by rw [f4, if_neg hc1, if_neg hc2, if_neg hc3, if_neg hc4, if_pos hc11, if_neg hc12, if_neg hc15]), N0, e0⟩
          · refine go (fun _ q => XS.icmpNo X0.here hx rfl (hb hby d4_29) rfl (flt hc11).2.2.1 q) ?_
            show Go p e below _ (T0.setTop (mkF m 32 #[.val (.int p1)] []))
            refine go (fun _ q => XS.iconst X0.here hx rfl (hb hby d4_32) q) ?_
            show Go p e below _ (T0.setTop (mkF m 33 #[.val (.int p1)] [(.int (1 : Int32))]))
            exact own_retZ (z' := (1 : Int32)) X0 hx hlk hret (hb hby d4_33) (by decide) (by decide) rfl ⟨congrArg (fun z => some (Value.int z)) (by rw [f4, if_neg hc1, if_neg hc2, if_neg hc3, if_neg hc4, if_neg hc11]), N0, e0⟩
def Q0 (n0 : Nat) (v : Option Value) (h : Heap) (L : List Loc) : Prop := v = some (.int (1 : Int32)) ∧ Fr n0 L
set_option maxHeartbeats 8000000 in
theorem own_cmp {c : Int32} (h : 0 ≤ c.toInt ∧ c.toInt ≤ 1114111) : f3 c = f4 c := by
  rw [f3, f4]
  have k0 : (0 : Int32).toInt = 0 := rfl
  have k1 : (1 : Int32).toInt = 1 := rfl
  have k9 : (9 : Int32).toInt = 9 := rfl
  have k10 : (10 : Int32).toInt = 10 := rfl
  have k13 : (13 : Int32).toInt = 13 := rfl
  have k32 : (32 : Int32).toInt = 32 := rfl
  have c1 : (55295 : Int32).toInt = 55295 := rfl
  have c2 : (55296 : Int32).toInt = 55296 := rfl
  have c3 : (57343 : Int32).toInt = 57343 := rfl
  have c4 : (57344 : Int32).toInt = 57344 := rfl
  have c5 : (65533 : Int32).toInt = 65533 := rfl
  have c6 : (65534 : Int32).toInt = 65534 := rfl
  have c7 : (65535 : Int32).toInt = 65535 := rfl
  have c8 : (65536 : Int32).toInt = 65536 := rfl
  have c9 : (1114111 : Int32).toInt = 1114111 := rfl
  simp only [Int32.lt_iff_toInt_lt, ← Int32.toInt_inj, k9, k10, k13, k32, c1, c2, c3, c4, c5, c6, c7, c8, c9]
  repeat' split
  all_goals first | rfl | omega
theorem own_lo {x v : Int32} (h : ((x &&& (2147483647 : Int32)) % (1114112 : Int32)) = v) : 0 ≤ v.toInt ∧ v.toInt ≤ 1114111 := by
  have a1 : (x &&& (2147483647 : Int32)).toInt = x.toInt % 2147483648 := c_mask x _ 31 (by decide) (by decide)
  have a2 := (c_irem (x &&& (2147483647 : Int32)) 1114112 1114112 rfl).1 (by omega)
  rw [h] at a2
  omega
theorem own_hi {y v : Int32} (h : f2 (0 : Int32) (f1 (1114111 : Int32) y) = v) : 0 ≤ v.toInt ∧ v.toInt ≤ 1114111 := by
  rw [f2, f1] at h
  have k0 : (0 : Int32).toInt = 0 := rfl
  have c9 : (1114111 : Int32).toInt = 1114111 := rfl
  simp only [Int32.lt_iff_toInt_lt] at h
  split at h <;> split at h <;> subst h <;> omega
theorem own_ix (p : Int32) : ¬ (((((p).toUInt32 >>> ((1 : Int32) &&& 31).toUInt32).toInt32) % (14 : Int32)) < 0) ∧ ((((p).toUInt32 >>> ((1 : Int32) &&& 31).toUInt32).toInt32) % (14 : Int32)) < 14 := by
  have a1 : (((p).toUInt32 >>> ((1 : Int32) &&& 31).toUInt32).toInt32).toInt = (p.toInt % 4294967296) / 2 := c_iushr p 1 1 (by decide) (by decide)
  have a2 := (c_irem (((p).toUInt32 >>> ((1 : Int32) &&& 31).toUInt32).toInt32) 14 14 rfl).1 (by omega)
  have e0 : (0 : Int32).toInt = 0 := rfl
  have e1 : (14 : Int32).toInt = 14 := rfl
  rw [Int32.lt_iff_toInt_lt, Int32.lt_iff_toInt_lt]
  omega
theorem pd_0_0 : parseMethodDescriptor "(I)Z" = some ⟨[.int], some .boolean⟩ := by decide +kernel
theorem pd_0_1 : parseMethodDescriptor "(II)I" = some ⟨[.int, .int], some .int⟩ := by decide +kernel
theorem pn_0 : plainName "com/example/junctura/junctura/io/XmlCharsCanCarryPinLaw" = true := by first | (simp [plainName, overriddenIn]; done) | decide +kernel
theorem ef_0 (m : MethodId) (x0 : Int32) (x1 : Int32) : entryFrame m #[(.int x0), (.int x1)] maxLocals = mkF m 0 #[.val (.int x0), .val (.int x1), .unset, .unset, .unset, .unset] [] := by first | (simp [entryFrame, mkF, argsToLocals, Value.category, maxLocals]; done) | rfl
set_option maxRecDepth 65536 in
set_option maxHeartbeats 40000000 in
theorem rm0 (l : Launch) (Z : State) (a0 : Array Value) (hw : ∀ d ∈ tables_1, d.before a0 Z = true) (ws : List Jvm.Cond) (p1 : Int32) (p2 : Int32) (h0 : Heap) (n0 : Nat) (Z0 : n0 ≤ h0.size) :
    MetFree l x (head1 (Jvm.Cond.code x code maxLocals ret :: ws) room_1) (fun a U => a = #[(.int p1), (.int p2)] ∧ Z.Warmed39 U.vm ∧ U.heap = h0) (fun _ _ _ _ _ => True) (fun _ U o U' => ∃ v L, o = .returned v ∧ (Q0 n0) v U'.heap L ∧ FrameEnd U o U' L room_1.cells room_1.slots) := by
  refine own_met (plainFor_of_name pn_0) (fun m => ef_0 m p1 p2) ?_
  intro p e s m below meth c T0 hx hby hml hown hnm hret hlk hZ X0 e0
  have hown : s.vm.findClass "com/example/junctura/junctura/io/XmlCharsCanCarryPinLaw" = some m.cls := hown
  have hnm : meth.name = "law" := hnm
  have hret : meth.sig.returnType = some .boolean := hret
  have N0 := Fr.nil n0
  show Go p e below _ (T0.setTop (mkF m 0 #[.val (.int p1), .val (.int p2), .unset, .unset, .unset, .unset] []))
  refine go (fun _ q => XS.iloadN X0.here hx rfl (hb hby at_0) rfl q) ?_
  show Go p e below _ (T0.setTop (mkF m 1 #[.val (.int p1), .val (.int p2), .unset, .unset, .unset, .unset] [(.int p2)]))
  refine go (fun _ q => XS.iconst X0.here hx rfl (hb hby at_1) q) ?_
  show Go p e below _ (T0.setTop (mkF m 2 #[.val (.int p1), .val (.int p2), .unset, .unset, .unset, .unset] [(.int (1 : Int32)), (.int p2)]))
  refine go (fun _ q => XS.iand X0.here hx rfl (hb hby at_2) rfl q) ?_
  show Go p e below _ (T0.setTop (mkF m 3 #[.val (.int p1), .val (.int p2), .unset, .unset, .unset, .unset] [(.int (p2 &&& (1 : Int32)))]))
  by_cases hc1 : (p2 &&& (1 : Int32)) = (0 : Int32)
  · refine go (fun _ q => XS.ifNo X0.here hx rfl (hb hby at_3) rfl ((if0 _ _).trans (teq hc1).2) q) ?_
    show Go p e below _ (T0.setTop (mkF m 6 #[.val (.int p1), .val (.int p2), .unset, .unset, .unset, .unset] []))
    refine go (fun _ q => XS.iloadN X0.here hx rfl (hb hby at_6) rfl q) ?_
    show Go p e below _ (T0.setTop (mkF m 7 #[.val (.int p1), .val (.int p2), .unset, .unset, .unset, .unset] [(.int p1)]))
    refine go (X0.ldcInt hx hown (mvT hZ (hw _ (List.mem_of_getElem? (i := 10) rfl))) (g := (mkF m 7 #[.val (.int p1), .val (.int p2), .unset, .unset, .unset, .unset] [(.int p1)])) rfl (hb hby at_7)) ?_
    show Go p e below _ (T0.setTop (mkF m 9 #[.val (.int p1), .val (.int p2), .unset, .unset, .unset, .unset] [(.int (2147483647 : Int32)), (.int p1)]))
    refine go (fun _ q => XS.iand X0.here hx rfl (hb hby at_9) rfl q) ?_
    show Go p e below _ (T0.setTop (mkF m 10 #[.val (.int p1), .val (.int p2), .unset, .unset, .unset, .unset] [(.int (p1 &&& (2147483647 : Int32)))]))
    refine go (X0.ldcInt hx hown (mvT hZ (hw _ (List.mem_of_getElem? (i := 29) rfl))) (g := (mkF m 10 #[.val (.int p1), .val (.int p2), .unset, .unset, .unset, .unset] [(.int (p1 &&& (2147483647 : Int32)))])) rfl (hb hby at_10)) ?_
    show Go p e below _ (T0.setTop (mkF m 12 #[.val (.int p1), .val (.int p2), .unset, .unset, .unset, .unset] [(.int (1114112 : Int32)), (.int (p1 &&& (2147483647 : Int32)))]))
    refine go (fun _ q => iremM X0 hx rfl (hb hby at_12) rfl (by decide) q) ?_
    show Go p e below _ (T0.setTop (mkF m 13 #[.val (.int p1), .val (.int p2), .unset, .unset, .unset, .unset] [(.int ((p1 &&& (2147483647 : Int32)) % (1114112 : Int32)))]))
    generalize hv2 : ((p1 &&& (2147483647 : Int32)) % (1114112 : Int32)) = v2
    show Go p e below _ (T0.setTop (mkF m 13 #[.val (.int p1), .val (.int p2), .unset, .unset, .unset, .unset] [(.int v2)]))
    refine go (fun _ q => XS.istoreN X0.here hx rfl (hb hby at_13) rfl (l' := #[.val (.int p1), .val (.int p2), .val (.int v2), .unset, .unset, .unset]) rfl q) ?_
    show Go p e below _ (T0.setTop (mkF m 14 #[.val (.int p1), .val (.int p2), .val (.int v2), .unset, .unset, .unset] []))
    refine go (fun _ q => XS.goto X0.here hx rfl (pc0 := 14) (pc' := 134) rfl (hb hby at_14) (by decide) (by decide) q) ?_
    show Go p e below _ (T0.setTop (mkF m 134 #[.val (.int p1), .val (.int p2), .val (.int v2), .unset, .unset, .unset] []))
    refine go (fun _ q => XS.iloadN X0.here hx rfl (hb hby at_134) rfl q) ?_
    show Go p e below _ (T0.setTop (mkF m 135 #[.val (.int p1), .val (.int p2), .val (.int v2), .unset, .unset, .unset] [(.int v2)]))
    refine own_callS X0 hx hZ hown e0 (hw _ (List.mem_of_getElem? (i := 18) rfl)) (hw _ (List.mem_of_getElem? (i := 19) rfl)) (hw _ (List.mem_of_getElem? (i := 20) rfl)) (hw _ (List.mem_of_getElem? (i := 21) rfl)) (rm3 l Z a0 hw [] v2 h0 n0) (by decide) (by decide) (W := 0) (by decide) (by decide) (by decide) (g := (mkF m 135 #[.val (.int p1), .val (.int p2), .val (.int v2), .unset, .unset, .unset] [(.int v2)])) rfl (by rw [hml]; rfl) (argsL := [(.int v2)]) (rest := []) rfl rfl (lenOf pd_0_0 rfl) (by show 2 * 0 + _ ≤ _; exact Nat.le_of_eq rfl) (hb hby at_135) ?_
    rintro _ T3 L3 X3 ⟨rfl, N3q, e3⟩
    have N3 := Fr.app N0 N3q
    show Go p e below _ (T3.setTop (mkF m 138 #[.val (.int p1), .val (.int p2), .val (.int v2), .unset, .unset, .unset] [(.int (f3 v2))]))
    refine go (fun _ q => XS.iloadN X3.here hx rfl (hb hby at_138) rfl q) ?_
    show Go p e below _ (T3.setTop (mkF m 139 #[.val (.int p1), .val (.int p2), .val (.int v2), .unset, .unset, .unset] [(.int v2), (.int (f3 v2))]))
    refine own_callS X3 hx hZ hown e3 (hw _ (List.mem_of_getElem? (i := 22) rfl)) (hw _ (List.mem_of_getElem? (i := 23) rfl)) (hw _ (List.mem_of_getElem? (i := 24) rfl)) (hw _ (List.mem_of_getElem? (i := 25) rfl)) (rm4 l Z a0 hw [] v2 h0 n0) (by decide) (by decide) (W := 1) (by decide) (by decide) (by decide) (g := (mkF m 139 #[.val (.int p1), .val (.int p2), .val (.int v2), .unset, .unset, .unset] [(.int v2), (.int (f3 v2))])) rfl (by rw [hml]; rfl) (argsL := [(.int v2)]) (rest := [(.int (f3 v2))]) rfl rfl (lenOf pd_0_0 rfl) (by show 2 * 0 + _ ≤ _; exact Nat.le_of_eq rfl) (hb hby at_139) ?_
    rintro _ T4 L4 X4 ⟨rfl, N4q, e4⟩
    have N4 := Fr.app N3 N4q
    show Go p e below _ (T4.setTop (mkF m 142 #[.val (.int p1), .val (.int p2), .val (.int v2), .unset, .unset, .unset] [(.int (f4 v2)), (.int (f3 v2))]))
    have hk5 : (f3 v2) = (f4 v2) := own_cmp (own_lo hv2)
    refine go (fun _ q => XS.icmpNo X4.here hx rfl (hb hby at_142) rfl (teq hk5).2 q) ?_
    show Go p e below _ (T4.setTop (mkF m 145 #[.val (.int p1), .val (.int p2), .val (.int v2), .unset, .unset, .unset] []))
    refine go (fun _ q => XS.iconst X4.here hx rfl (hb hby at_145) q) ?_
    show Go p e below _ (T4.setTop (mkF m 146 #[.val (.int p1), .val (.int p2), .val (.int v2), .unset, .unset, .unset] [(.int (1 : Int32))]))
    refine go (fun _ q => XS.goto X4.here hx rfl (pc0 := 146) (pc' := 150) rfl (hb hby at_146) (by decide) (by decide) q) ?_
    show Go p e below _ (T4.setTop (mkF m 150 #[.val (.int p1), .val (.int p2), .val (.int v2), .unset, .unset, .unset] [(.int (1 : Int32))]))
    exact own_retZ (z' := (1 : Int32)) X4 hx hlk hret (hb hby at_150) (by decide) (by decide) rfl ⟨rfl, N4⟩
  · refine go (fun _ q => XS.ifYes X0.here hx rfl (pc0 := 3) (pc' := 17) rfl (hb hby at_3) rfl ((if0 _ _).trans (feq hc1).2) (by decide) (by decide) q) ?_
    show Go p e below _ (T0.setTop (mkF m 17 #[.val (.int p1), .val (.int p2), .unset, .unset, .unset, .unset] []))
    refine go (fun _ q => XS.bipush X0.here hx rfl (hb hby at_17) q) ?_
    show Go p e below _ (T0.setTop (mkF m 19 #[.val (.int p1), .val (.int p2), .unset, .unset, .unset, .unset] [(.int (14 : Int32))]))
    obtain ⟨T6, h6, k6, X6, e6, E6, A6, st6⟩ := newP X0 hx hZ (hw _ (List.mem_of_getElem? (i := 0) rfl)) e0 (g := (mkF m 19 #[.val (.int p1), .val (.int p2), .unset, .unset, .unset, .unset] [(.int (14 : Int32))])) rfl (hb hby at_19) rfl (by decide) (cap := 14) (by decide) (by decide) (by decide) (by decide)
    obtain ⟨b6, g6⟩ : ∃ z, z = h0.size := ⟨_, rfl⟩
    rw [← g6] at A6 st6
    refine go st6 ?_
    have g_b6 : n0 ≤ b6 := Nat.le_trans Z0 (Nat.le_of_eq g6.symm)
    have Z6 : n0 ≤ h6.size := Nat.le_trans Z0 E6.1
    have V_b6 : Arv Z h6 b6 k6 .int (14 : Int32) [(.int (0 : Int32)), (.int (0 : Int32)), (.int (0 : Int32)), (.int (0 : Int32)), (.int (0 : Int32)), (.int (0 : Int32)), (.int (0 : Int32)), (.int (0 : Int32)), (.int (0 : Int32)), (.int (0 : Int32)), (.int (0 : Int32)), (.int (0 : Int32)), (.int (0 : Int32)), (.int (0 : Int32))] (.int (0 : Int32)) := (Arv.new A6 (by decide)).pad (pad_rep [] (.int (0 : Int32)) 14)
    show Go p e below _ (T6.setTop (mkF m 21 #[.val (.int p1), .val (.int p2), .unset, .unset, .unset, .unset] [(.ref b6)]))
    refine go (fun _ q => XS.dup X6.here hx rfl (hb hby at_21) rfl rfl q) ?_
    show Go p e below _ (T6.setTop (mkF m 22 #[.val (.int p1), .val (.int p2), .unset, .unset, .unset, .unset] [(.ref b6), (.ref b6)]))
    refine go (fun _ q => XS.iconst X6.here hx rfl (hb hby at_22) q) ?_
    show Go p e below _ (T6.setTop (mkF m 23 #[.val (.int p1), .val (.int p2), .unset, .unset, .unset, .unset] [(.int (0 : Int32)), (.ref b6), (.ref b6)]))
    refine go (fun _ q => XS.iconst X6.here hx rfl (hb hby at_23) q) ?_
    show Go p e below _ (T6.setTop (mkF m 24 #[.val (.int p1), .val (.int p2), .unset, .unset, .unset, .unset] [(.int (0 : Int32)), (.int (0 : Int32)), (.ref b6), (.ref b6)]))
    obtain ⟨cl7, Ar7, q7, S7, Ng7, H7, G7⟩ := id V_b6
    obtain ⟨T8, h8, X8, e8, W8, st8⟩ := stI X6 hx hZ e6 Ar7 (j := (0 : Int32)) (inb_of S7 ⟨by decide, by decide⟩) (g := (mkF m 24 #[.val (.int p1), .val (.int p2), .unset, .unset, .unset, .unset] [(.int (0 : Int32)), (.int (0 : Int32)), (.ref b6), (.ref b6)])) rfl rfl (hb hby at_24)
    refine go st8 ?_
    have V_b6_8 : Arv Z h8 b6 k6 .int (14 : Int32) [(.int (0 : Int32)), (.int (0 : Int32)), (.int (0 : Int32)), (.int (0 : Int32)), (.int (0 : Int32)), (.int (0 : Int32)), (.int (0 : Int32)), (.int (0 : Int32)), (.int (0 : Int32)), (.int (0 : Int32)), (.int (0 : Int32)), (.int (0 : Int32)), (.int (0 : Int32)), (.int (0 : Int32))] (.int (0 : Int32)) := Arv.set Ar7 q7 S7 Ng7 H7 G7 rfl W8 0 rfl (Nat.le_of_ble_eq_true rfl)
    have N8 := Fr.snoc X8 N0 g_b6
    have Z8 : n0 ≤ h8.size := Nat.le_trans Z6 (Nat.le_of_eq W8.size.symm)
    show Go p e below _ (T8.setTop (mkF m 25 #[.val (.int p1), .val (.int p2), .unset, .unset, .unset, .unset] [(.ref b6)]))
    refine go (fun _ q => XS.dup X8.here hx rfl (hb hby at_25) rfl rfl q) ?_
    show Go p e below _ (T8.setTop (mkF m 26 #[.val (.int p1), .val (.int p2), .unset, .unset, .unset, .unset] [(.ref b6), (.ref b6)]))
    refine go (fun _ q => XS.iconst X8.here hx rfl (hb hby at_26) q) ?_
    show Go p e below _ (T8.setTop (mkF m 27 #[.val (.int p1), .val (.int p2), .unset, .unset, .unset, .unset] [(.int (1 : Int32)), (.ref b6), (.ref b6)]))
    refine go (fun _ q => XS.bipush X8.here hx rfl (hb hby at_27) q) ?_
    show Go p e below _ (T8.setTop (mkF m 29 #[.val (.int p1), .val (.int p2), .unset, .unset, .unset, .unset] [(.int (9 : Int32)), (.int (1 : Int32)), (.ref b6), (.ref b6)]))
    obtain ⟨cl9, Ar9, q9, S9, Ng9, H9, G9⟩ := id V_b6_8
    obtain ⟨T10, h10, X10, e10, W10, st10⟩ := stI X8 hx hZ e8 Ar9 (j := (1 : Int32)) (inb_of S9 ⟨by decide, by decide⟩) (g := (mkF m 29 #[.val (.int p1), .val (.int p2), .unset, .unset, .unset, .unset] [(.int (9 : Int32)), (.int (1 : Int32)), (.ref b6), (.ref b6)])) rfl rfl (hb hby at_29)
    refine go st10 ?_
    have V_b6_10 : Arv Z h10 b6 k6 .int (14 : Int32) [(.int (0 : Int32)), (.int (9 : Int32)), (.int (0 : Int32)), (.int (0 : Int32)), (.int (0 : Int32)), (.int (0 : Int32)), (.int (0 : Int32)), (.int (0 : Int32)), (.int (0 : Int32)), (.int (0 : Int32)), (.int (0 : Int32)), (.int (0 : Int32)), (.int (0 : Int32)), (.int (0 : Int32))] (.int (0 : Int32)) := Arv.set Ar9 q9 S9 Ng9 H9 G9 rfl W10 1 rfl (Nat.le_of_ble_eq_true rfl)
    have N10 := Fr.snoc X10 N8 g_b6
    have Z10 : n0 ≤ h10.size := Nat.le_trans Z8 (Nat.le_of_eq W10.size.symm)
    show Go p e below _ (T10.setTop (mkF m 30 #[.val (.int p1), .val (.int p2), .unset, .unset, .unset, .unset] [(.ref b6)]))
    refine go (fun _ q => XS.dup X10.here hx rfl (hb hby at_30) rfl rfl q) ?_
    show Go p e below _ (T10.setTop (mkF m 31 #[.val (.int p1), .val (.int p2), .unset, .unset, .unset, .unset] [(.ref b6), (.ref b6)]))
    refine go (fun _ q => XS.iconst X10.here hx rfl (hb hby at_31) q) ?_
    show Go p e below _ (T10.setTop (mkF m 32 #[.val (.int p1), .val (.int p2), .unset, .unset, .unset, .unset] [(.int (2 : Int32)), (.ref b6), (.ref b6)]))
    refine go (fun _ q => XS.bipush X10.here hx rfl (hb hby at_32) q) ?_
    show Go p e below _ (T10.setTop (mkF m 34 #[.val (.int p1), .val (.int p2), .unset, .unset, .unset, .unset] [(.int (10 : Int32)), (.int (2 : Int32)), (.ref b6), (.ref b6)]))
    obtain ⟨cl11, Ar11, q11, S11, Ng11, H11, G11⟩ := id V_b6_10
    obtain ⟨T12, h12, X12, e12, W12, st12⟩ := stI X10 hx hZ e10 Ar11 (j := (2 : Int32)) (inb_of S11 ⟨by decide, by decide⟩) (g := (mkF m 34 #[.val (.int p1), .val (.int p2), .unset, .unset, .unset, .unset] [(.int (10 : Int32)), (.int (2 : Int32)), (.ref b6), (.ref b6)])) rfl rfl (hb hby at_34)
    refine go st12 ?_
    have V_b6_12 : Arv Z h12 b6 k6 .int (14 : Int32) [(.int (0 : Int32)), (.int (9 : Int32)), (.int (10 : Int32)), (.int (0 : Int32)), (.int (0 : Int32)), (.int (0 : Int32)), (.int (0 : Int32)), (.int (0 : Int32)), (.int (0 : Int32)), (.int (0 : Int32)), (.int (0 : Int32)), (.int (0 : Int32)), (.int (0 : Int32)), (.int (0 : Int32))] (.int (0 : Int32)) := Arv.set Ar11 q11 S11 Ng11 H11 G11 rfl W12 2 rfl (Nat.le_of_ble_eq_true rfl)
    have N12 := Fr.snoc X12 N10 g_b6
    have Z12 : n0 ≤ h12.size := Nat.le_trans Z10 (Nat.le_of_eq W12.size.symm)
    show Go p e below _ (T12.setTop (mkF m 35 #[.val (.int p1), .val (.int p2), .unset, .unset, .unset, .unset] [(.ref b6)]))
    refine go (fun _ q => XS.dup X12.here hx rfl (hb hby at_35) rfl rfl q) ?_
    show Go p e below _ (T12.setTop (mkF m 36 #[.val (.int p1), .val (.int p2), .unset, .unset, .unset, .unset] [(.ref b6), (.ref b6)]))
    refine go (fun _ q => XS.iconst X12.here hx rfl (hb hby at_36) q) ?_
    show Go p e below _ (T12.setTop (mkF m 37 #[.val (.int p1), .val (.int p2), .unset, .unset, .unset, .unset] [(.int (3 : Int32)), (.ref b6), (.ref b6)]))
    refine go (fun _ q => XS.bipush X12.here hx rfl (hb hby at_37) q) ?_
    show Go p e below _ (T12.setTop (mkF m 39 #[.val (.int p1), .val (.int p2), .unset, .unset, .unset, .unset] [(.int (13 : Int32)), (.int (3 : Int32)), (.ref b6), (.ref b6)]))
    obtain ⟨cl13, Ar13, q13, S13, Ng13, H13, G13⟩ := id V_b6_12
    obtain ⟨T14, h14, X14, e14, W14, st14⟩ := stI X12 hx hZ e12 Ar13 (j := (3 : Int32)) (inb_of S13 ⟨by decide, by decide⟩) (g := (mkF m 39 #[.val (.int p1), .val (.int p2), .unset, .unset, .unset, .unset] [(.int (13 : Int32)), (.int (3 : Int32)), (.ref b6), (.ref b6)])) rfl rfl (hb hby at_39)
    refine go st14 ?_
    have V_b6_14 : Arv Z h14 b6 k6 .int (14 : Int32) [(.int (0 : Int32)), (.int (9 : Int32)), (.int (10 : Int32)), (.int (13 : Int32)), (.int (0 : Int32)), (.int (0 : Int32)), (.int (0 : Int32)), (.int (0 : Int32)), (.int (0 : Int32)), (.int (0 : Int32)), (.int (0 : Int32)), (.int (0 : Int32)), (.int (0 : Int32)), (.int (0 : Int32))] (.int (0 : Int32)) := Arv.set Ar13 q13 S13 Ng13 H13 G13 rfl W14 3 rfl (Nat.le_of_ble_eq_true rfl)
    have N14 := Fr.snoc X14 N12 g_b6
    have Z14 : n0 ≤ h14.size := Nat.le_trans Z12 (Nat.le_of_eq W14.size.symm)
    show Go p e below _ (T14.setTop (mkF m 40 #[.val (.int p1), .val (.int p2), .unset, .unset, .unset, .unset] [(.ref b6)]))
    refine go (fun _ q => XS.dup X14.here hx rfl (hb hby at_40) rfl rfl q) ?_
    show Go p e below _ (T14.setTop (mkF m 41 #[.val (.int p1), .val (.int p2), .unset, .unset, .unset, .unset] [(.ref b6), (.ref b6)]))
    refine go (fun _ q => XS.iconst X14.here hx rfl (hb hby at_41) q) ?_
    show Go p e below _ (T14.setTop (mkF m 42 #[.val (.int p1), .val (.int p2), .unset, .unset, .unset, .unset] [(.int (4 : Int32)), (.ref b6), (.ref b6)]))
    refine go (fun _ q => XS.bipush X14.here hx rfl (hb hby at_42) q) ?_
    show Go p e below _ (T14.setTop (mkF m 44 #[.val (.int p1), .val (.int p2), .unset, .unset, .unset, .unset] [(.int (32 : Int32)), (.int (4 : Int32)), (.ref b6), (.ref b6)]))
    obtain ⟨cl15, Ar15, q15, S15, Ng15, H15, G15⟩ := id V_b6_14
    obtain ⟨T16, h16, X16, e16, W16, st16⟩ := stI X14 hx hZ e14 Ar15 (j := (4 : Int32)) (inb_of S15 ⟨by decide, by decide⟩) (g := (mkF m 44 #[.val (.int p1), .val (.int p2), .unset, .unset, .unset, .unset] [(.int (32 : Int32)), (.int (4 : Int32)), (.ref b6), (.ref b6)])) rfl rfl (hb hby at_44)
    refine go st16 ?_
    have V_b6_16 : Arv Z h16 b6 k6 .int (14 : Int32) [(.int (0 : Int32)), (.int (9 : Int32)), (.int (10 : Int32)), (.int (13 : Int32)), (.int (32 : Int32)), (.int (0 : Int32)), (.int (0 : Int32)), (.int (0 : Int32)), (.int (0 : Int32)), (.int (0 : Int32)), (.int (0 : Int32)), (.int (0 : Int32)), (.int (0 : Int32)), (.int (0 : Int32))] (.int (0 : Int32)) := Arv.set Ar15 q15 S15 Ng15 H15 G15 rfl W16 4 rfl (Nat.le_of_ble_eq_true rfl)
    have N16 := Fr.snoc X16 N14 g_b6
    have Z16 : n0 ≤ h16.size := Nat.le_trans Z14 (Nat.le_of_eq W16.size.symm)
    show Go p e below _ (T16.setTop (mkF m 45 #[.val (.int p1), .val (.int p2), .unset, .unset, .unset, .unset] [(.ref b6)]))
    refine go (fun _ q => XS.dup X16.here hx rfl (hb hby at_45) rfl rfl q) ?_
    show Go p e below _ (T16.setTop (mkF m 46 #[.val (.int p1), .val (.int p2), .unset, .unset, .unset, .unset] [(.ref b6), (.ref b6)]))
    refine go (fun _ q => XS.iconst X16.here hx rfl (hb hby at_46) q) ?_
    show Go p e below _ (T16.setTop (mkF m 47 #[.val (.int p1), .val (.int p2), .unset, .unset, .unset, .unset] [(.int (5 : Int32)), (.ref b6), (.ref b6)]))
    refine go (X16.ldcInt hx hown (mvT hZ (hw _ (List.mem_of_getElem? (i := 1) rfl))) (g := (mkF m 47 #[.val (.int p1), .val (.int p2), .unset, .unset, .unset, .unset] [(.int (5 : Int32)), (.ref b6), (.ref b6)])) rfl (hb hby at_47)) ?_
    show Go p e below _ (T16.setTop (mkF m 49 #[.val (.int p1), .val (.int p2), .unset, .unset, .unset, .unset] [(.int (55295 : Int32)), (.int (5 : Int32)), (.ref b6), (.ref b6)]))
    obtain ⟨cl17, Ar17, q17, S17, Ng17, H17, G17⟩ := id V_b6_16
    obtain ⟨T18, h18, X18, e18, W18, st18⟩ := stI X16 hx hZ e16 Ar17 (j := (5 : Int32)) (inb_of S17 ⟨by decide, by decide⟩) (g := (mkF m 49 #[.val (.int p1), .val (.int p2), .unset, .unset, .unset, .unset] [(.int (55295 : Int32)), (.int (5 : Int32)), (.ref b6), (.ref b6)])) rfl rfl (hb hby at_49)
    refine go st18 ?_
    have V_b6_18 : Arv Z h18 b6 k6 .int (14 : Int32) [(.int (0 : Int32)), (.int (9 : Int32)), (.int (10 : Int32)), (.int (13 : Int32)), (.int (32 : Int32)), (.int (55295 : Int32)), (.int (0 : Int32)), (.int (0 : Int32)), (.int (0 : Int32)), (.int (0 : Int32)), (.int (0 : Int32)), (.int (0 : Int32)), (.int (0 : Int32)), (.int (0 : Int32))] (.int (0 : Int32)) := Arv.set Ar17 q17 S17 Ng17 H17 G17 rfl W18 5 rfl (Nat.le_of_ble_eq_true rfl)
    have N18 := Fr.snoc X18 N16 g_b6
    have Z18 : n0 ≤ h18.size := Nat.le_trans Z16 (Nat.le_of_eq W18.size.symm)
    show Go p e below _ (T18.setTop (mkF m 50 #[.val (.int p1), .val (.int p2), .unset, .unset, .unset, .unset] [(.ref b6)]))
    refine go (fun _ q => XS.dup X18.here hx rfl (hb hby at_50) rfl rfl q) ?_
    show Go p e below _ (T18.setTop (mkF m 51 #[.val (.int p1), .val (.int p2), .unset, .unset, .unset, .unset] [(.ref b6), (.ref b6)]))
    refine go (fun _ q => XS.bipush X18.here hx rfl (hb hby at_51) q) ?_
    show Go p e below _ (T18.setTop (mkF m 53 #[.val (.int p1), .val (.int p2), .unset, .unset, .unset, .unset] [(.int (6 : Int32)), (.ref b6), (.ref b6)]))
    refine go (X18.ldcInt hx hown (mvT hZ (hw _ (List.mem_of_getElem? (i := 2) rfl))) (g := (mkF m 53 #[.val (.int p1), .val (.int p2), .unset, .unset, .unset, .unset] [(.int (6 : Int32)), (.ref b6), (.ref b6)])) rfl (hb hby at_53)) ?_
    show Go p e below _ (T18.setTop (mkF m 55 #[.val (.int p1), .val (.int p2), .unset, .unset, .unset, .unset] [(.int (55296 : Int32)), (.int (6 : Int32)), (.ref b6), (.ref b6)]))
    obtain ⟨cl19, Ar19, q19, S19, Ng19, H19, G19⟩ := id V_b6_18
    obtain ⟨T20, h20, X20, e20, W20, st20⟩ := stI X18 hx hZ e18 Ar19 (j := (6 : Int32)) (inb_of S19 ⟨by decide, by decide⟩) (g := (mkF m 55 #[.val (.int p1), .val (.int p2), .unset, .unset, .unset, .unset] [(.int (55296 : Int32)), (.int (6 : Int32)), (.ref b6), (.ref b6)])) rfl rfl (hb hby at_55)
    refine go st20 ?_
    have V_b6_20 : Arv Z h20 b6 k6 .int (14 : Int32) [(.int (0 : Int32)), (.int (9 : Int32)), (.int (10 : Int32)), (.int (13 : Int32)), (.int (32 : Int32)), (.int (55295 : Int32)), (.int (55296 : Int32)), (.int (0 : Int32)), (.int (0 : Int32)), (.int (0 : Int32)), (.int (0 : Int32)), (.int (0 : Int32)), (.int (0 : Int32)), (.int (0 : Int32))] (.int (0 : Int32)) := Arv.set Ar19 q19 S19 Ng19 H19 G19 rfl W20 6 rfl (Nat.le_of_ble_eq_true rfl)
    have N20 := Fr.snoc X20 N18 g_b6
    have Z20 : n0 ≤ h20.size := Nat.le_trans Z18 (Nat.le_of_eq W20.size.symm)
    show Go p e below _ (T20.setTop (mkF m 56 #[.val (.int p1), .val (.int p2), .unset, .unset, .unset, .unset] [(.ref b6)]))
    refine go (fun _ q => XS.dup X20.here hx rfl (hb hby at_56) rfl rfl q) ?_
    show Go p e below _ (T20.setTop (mkF m 57 #[.val (.int p1), .val (.int p2), .unset, .unset, .unset, .unset] [(.ref b6), (.ref b6)]))
    refine go (fun _ q => XS.bipush X20.here hx rfl (hb hby at_57) q) ?_
    show Go p e below _ (T20.setTop (mkF m 59 #[.val (.int p1), .val (.int p2), .unset, .unset, .unset, .unset] [(.int (7 : Int32)), (.ref b6), (.ref b6)]))
    refine go (X20.ldcInt hx hown (mvT hZ (hw _ (List.mem_of_getElem? (i := 3) rfl))) (g := (mkF m 59 #[.val (.int p1), .val (.int p2), .unset, .unset, .unset, .unset] [(.int (7 : Int32)), (.ref b6), (.ref b6)])) rfl (hb hby at_59)) ?_
    show Go p e below _ (T20.setTop (mkF m 61 #[.val (.int p1), .val (.int p2), .unset, .unset, .unset, .unset] [(.int (57343 : Int32)), (.int (7 : Int32)), (.ref b6), (.ref b6)]))
    obtain ⟨cl21, Ar21, q21, S21, Ng21, H21, G21⟩ := id V_b6_20
    obtain ⟨T22, h22, X22, e22, W22, st22⟩ := stI X20 hx hZ e20 Ar21 (j := (7 : Int32)) (inb_of S21 ⟨by decide, by decide⟩) (g := (mkF m 61 #[.val (.int p1), .val (.int p2), .unset, .unset, .unset, .unset] [(.int (57343 : Int32)), (.int (7 : Int32)), (.ref b6), (.ref b6)])) rfl rfl (hb hby at_61)
    refine go st22 ?_
    have V_b6_22 : Arv Z h22 b6 k6 .int (14 : Int32) [(.int (0 : Int32)), (.int (9 : Int32)), (.int (10 : Int32)), (.int (13 : Int32)), (.int (32 : Int32)), (.int (55295 : Int32)), (.int (55296 : Int32)), (.int (57343 : Int32)), (.int (0 : Int32)), (.int (0 : Int32)), (.int (0 : Int32)), (.int (0 : Int32)), (.int (0 : Int32)), (.int (0 : Int32))] (.int (0 : Int32)) := Arv.set Ar21 q21 S21 Ng21 H21 G21 rfl W22 7 rfl (Nat.le_of_ble_eq_true rfl)
    have N22 := Fr.snoc X22 N20 g_b6
    have Z22 : n0 ≤ h22.size := Nat.le_trans Z20 (Nat.le_of_eq W22.size.symm)
    show Go p e below _ (T22.setTop (mkF m 62 #[.val (.int p1), .val (.int p2), .unset, .unset, .unset, .unset] [(.ref b6)]))
    refine go (fun _ q => XS.dup X22.here hx rfl (hb hby at_62) rfl rfl q) ?_
    show Go p e below _ (T22.setTop (mkF m 63 #[.val (.int p1), .val (.int p2), .unset, .unset, .unset, .unset] [(.ref b6), (.ref b6)]))
    refine go (fun _ q => XS.bipush X22.here hx rfl (hb hby at_63) q) ?_
    show Go p e below _ (T22.setTop (mkF m 65 #[.val (.int p1), .val (.int p2), .unset, .unset, .unset, .unset] [(.int (8 : Int32)), (.ref b6), (.ref b6)]))
    refine go (X22.ldcInt hx hown (mvT hZ (hw _ (List.mem_of_getElem? (i := 4) rfl))) (g := (mkF m 65 #[.val (.int p1), .val (.int p2), .unset, .unset, .unset, .unset] [(.int (8 : Int32)), (.ref b6), (.ref b6)])) rfl (hb hby at_65)) ?_
    show Go p e below _ (T22.setTop (mkF m 67 #[.val (.int p1), .val (.int p2), .unset, .unset, .unset, .unset] [(.int (57344 : Int32)), (.int (8 : Int32)), (.ref b6), (.ref b6)]))
    obtain ⟨cl23, Ar23, q23, S23, Ng23, H23, G23⟩ := id V_b6_22
    obtain ⟨T24, h24, X24, e24, W24, st24⟩ := stI X22 hx hZ e22 Ar23 (j := (8 : Int32)) (inb_of S23 ⟨by decide, by decide⟩) (g := (mkF m 67 #[.val (.int p1), .val (.int p2), .unset, .unset, .unset, .unset] [(.int (57344 : Int32)), (.int (8 : Int32)), (.ref b6), (.ref b6)])) rfl rfl (hb hby at_67)
    refine go st24 ?_
    have V_b6_24 : Arv Z h24 b6 k6 .int (14 : Int32) [(.int (0 : Int32)), (.int (9 : Int32)), (.int (10 : Int32)), (.int (13 : Int32)), (.int (32 : Int32)), (.int (55295 : Int32)), (.int (55296 : Int32)), (.int (57343 : Int32)), (.int (57344 : Int32)), (.int (0 : Int32)), (.int (0 : Int32)), (.int (0 : Int32)), (.int (0 : Int32)), (.int (0 : Int32))] (.int (0 : Int32)) := Arv.set Ar23 q23 S23 Ng23 H23 G23 rfl W24 8 rfl (Nat.le_of_ble_eq_true rfl)
    have N24 := Fr.snoc X24 N22 g_b6
    have Z24 : n0 ≤ h24.size := Nat.le_trans Z22 (Nat.le_of_eq W24.size.symm)
    show Go p e below _ (T24.setTop (mkF m 68 #[.val (.int p1), .val (.int p2), .unset, .unset, .unset, .unset] [(.ref b6)]))
    refine go (fun _ q => XS.dup X24.here hx rfl (hb hby at_68) rfl rfl q) ?_
    show Go p e below _ (T24.setTop (mkF m 69 #[.val (.int p1), .val (.int p2), .unset, .unset, .unset, .unset] [(.ref b6), (.ref b6)]))
    refine go (fun _ q => XS.bipush X24.here hx rfl (hb hby at_69) q) ?_
    show Go p e below _ (T24.setTop (mkF m 71 #[.val (.int p1), .val (.int p2), .unset, .unset, .unset, .unset] [(.int (9 : Int32)), (.ref b6), (.ref b6)]))
    refine go (X24.ldcInt hx hown (mvT hZ (hw _ (List.mem_of_getElem? (i := 5) rfl))) (g := (mkF m 71 #[.val (.int p1), .val (.int p2), .unset, .unset, .unset, .unset] [(.int (9 : Int32)), (.ref b6), (.ref b6)])) rfl (hb hby at_71)) ?_
    show Go p e below _ (T24.setTop (mkF m 73 #[.val (.int p1), .val (.int p2), .unset, .unset, .unset, .unset] [(.int (65533 : Int32)), (.int (9 : Int32)), (.ref b6), (.ref b6)]))
    obtain ⟨cl25, Ar25, q25, S25, Ng25, H25, G25⟩ := id V_b6_24
    obtain ⟨T26, h26, X26, e26, W26, st26⟩ := stI X24 hx hZ e24 Ar25 (j := (9 : Int32)) (inb_of S25 ⟨by decide, by decide⟩) (g := (mkF m 73 #[.val (.int p1), .val (.int p2), .unset, .unset, .unset, .unset] [(.int (65533 : Int32)), (.int (9 : Int32)), (.ref b6), (.ref b6)])) rfl rfl (hb hby at_73)
    refine go st26 ?_
    have V_b6_26 : Arv Z h26 b6 k6 .int (14 : Int32) [(.int (0 : Int32)), (.int (9 : Int32)), (.int (10 : Int32)), (.int (13 : Int32)), (.int (32 : Int32)), (.int (55295 : Int32)), (.int (55296 : Int32)), (.int (57343 : Int32)), (.int (57344 : Int32)), (.int (65533 : Int32)), (.int (0 : Int32)), (.int (0 : Int32)), (.int (0 : Int32)), (.int (0 : Int32))] (.int (0 : Int32)) := Arv.set Ar25 q25 S25 Ng25 H25 G25 rfl W26 9 rfl (Nat.le_of_ble_eq_true rfl)
    have N26 := Fr.snoc X26 N24 g_b6
    have Z26 : n0 ≤ h26.size := Nat.le_trans Z24 (Nat.le_of_eq W26.size.symm)
    show Go p e below _ (T26.setTop (mkF m 74 #[.val (.int p1), .val (.int p2), .unset, .unset, .unset, .unset] [(.ref b6)]))
    refine go (fun _ q => XS.dup X26.here hx rfl (hb hby at_74) rfl rfl q) ?_
    show Go p e below _ (T26.setTop (mkF m 75 #[.val (.int p1), .val (.int p2), .unset, .unset, .unset, .unset] [(.ref b6), (.ref b6)]))
    refine go (fun _ q => XS.bipush X26.here hx rfl (hb hby at_75) q) ?_
    show Go p e below _ (T26.setTop (mkF m 77 #[.val (.int p1), .val (.int p2), .unset, .unset, .unset, .unset] [(.int (10 : Int32)), (.ref b6), (.ref b6)]))
    refine go (X26.ldcInt hx hown (mvT hZ (hw _ (List.mem_of_getElem? (i := 6) rfl))) (g := (mkF m 77 #[.val (.int p1), .val (.int p2), .unset, .unset, .unset, .unset] [(.int (10 : Int32)), (.ref b6), (.ref b6)])) rfl (hb hby at_77)) ?_
    show Go p e below _ (T26.setTop (mkF m 79 #[.val (.int p1), .val (.int p2), .unset, .unset, .unset, .unset] [(.int (65534 : Int32)), (.int (10 : Int32)), (.ref b6), (.ref b6)]))
    obtain ⟨cl27, Ar27, q27, S27, Ng27, H27, G27⟩ := id V_b6_26
    obtain ⟨T28, h28, X28, e28, W28, st28⟩ := stI X26 hx hZ e26 Ar27 (j := (10 : Int32)) (inb_of S27 ⟨by decide, by decide⟩) (g := (mkF m 79 #[.val (.int p1), .val (.int p2), .unset, .unset, .unset, .unset] [(.int (65534 : Int32)), (.int (10 : Int32)), (.ref b6), (.ref b6)])) rfl rfl (hb hby at_79)
    refine go st28 ?_
    have V_b6_28 : Arv Z h28 b6 k6 .int (14 : Int32) [(.int (0 : Int32)), (.int (9 : Int32)), (.int (10 : Int32)), (.int (13 : Int32)), (.int (32 : Int32)), (.int (55295 : Int32)), (.int (55296 : Int32)), (.int (57343 : Int32)), (.int (57344 : Int32)), (.int (65533 : Int32)), (.int (65534 : Int32)), (.int (0 : Int32)), (.int (0 : Int32)), (.int (0 : Int32))] (.int (0 : Int32)) := Arv.set Ar27 q27 S27 Ng27 H27 G27 rfl W28 10 rfl (Nat.le_of_ble_eq_true rfl)
    have N28 := Fr.snoc X28 N26 g_b6
    have Z28 : n0 ≤ h28.size := Nat.le_trans Z26 (Nat.le_of_eq W28.size.symm)
    show Go p e below _ (T28.setTop (mkF m 80 #[.val (.int p1), .val (.int p2), .unset, .unset, .unset, .unset] [(.ref b6)]))
    refine go (fun _ q => XS.dup X28.here hx rfl (hb hby at_80) rfl rfl q) ?_
    show Go p e below _ (T28.setTop (mkF m 81 #[.val (.int p1), .val (.int p2), .unset, .unset, .unset, .unset] [(.ref b6), (.ref b6)]))
    refine go (fun _ q => XS.bipush X28.here hx rfl (hb hby at_81) q) ?_
    show Go p e below _ (T28.setTop (mkF m 83 #[.val (.int p1), .val (.int p2), .unset, .unset, .unset, .unset] [(.int (11 : Int32)), (.ref b6), (.ref b6)]))
    refine go (X28.ldcInt hx hown (mvT hZ (hw _ (List.mem_of_getElem? (i := 7) rfl))) (g := (mkF m 83 #[.val (.int p1), .val (.int p2), .unset, .unset, .unset, .unset] [(.int (11 : Int32)), (.ref b6), (.ref b6)])) rfl (hb hby at_83)) ?_
    show Go p e below _ (T28.setTop (mkF m 85 #[.val (.int p1), .val (.int p2), .unset, .unset, .unset, .unset] [(.int (65535 : Int32)), (.int (11 : Int32)), (.ref b6), (.ref b6)]))
    obtain ⟨cl29, Ar29, q29, S29, Ng29, H29, G29⟩ := id V_b6_28
    obtain ⟨T30, h30, X30, e30, W30, st30⟩ := stI X28 hx hZ e28 Ar29 (j := (11 : Int32)) (inb_of S29 ⟨by decide, by decide⟩) (g := (mkF m 85 #[.val (.int p1), .val (.int p2), .unset, .unset, .unset, .unset] [(.int (65535 : Int32)), (.int (11 : Int32)), (.ref b6), (.ref b6)])) rfl rfl (hb hby at_85)
    refine go st30 ?_
    have V_b6_30 : Arv Z h30 b6 k6 .int (14 : Int32) [(.int (0 : Int32)), (.int (9 : Int32)), (.int (10 : Int32)), (.int (13 : Int32)), (.int (32 : Int32)), (.int (55295 : Int32)), (.int (55296 : Int32)), (.int (57343 : Int32)), (.int (57344 : Int32)), (.int (65533 : Int32)), (.int (65534 : Int32)), (.int (65535 : Int32)), (.int (0 : Int32)), (.int (0 : Int32))] (.int (0 : Int32)) := Arv.set Ar29 q29 S29 Ng29 H29 G29 rfl W30 11 rfl (Nat.le_of_ble_eq_true rfl)
    have N30 := Fr.snoc X30 N28 g_b6
    have Z30 : n0 ≤ h30.size := Nat.le_trans Z28 (Nat.le_of_eq W30.size.symm)
    show Go p e below _ (T30.setTop (mkF m 86 #[.val (.int p1), .val (.int p2), .unset, .unset, .unset, .unset] [(.ref b6)]))
    refine go (fun _ q => XS.dup X30.here hx rfl (hb hby at_86) rfl rfl q) ?_
    show Go p e below _ (T30.setTop (mkF m 87 #[.val (.int p1), .val (.int p2), .unset, .unset, .unset, .unset] [(.ref b6), (.ref b6)]))
    refine go (fun _ q => XS.bipush X30.here hx rfl (hb hby at_87) q) ?_
    show Go p e below _ (T30.setTop (mkF m 89 #[.val (.int p1), .val (.int p2), .unset, .unset, .unset, .unset] [(.int (12 : Int32)), (.ref b6), (.ref b6)]))
    refine go (X30.ldcInt hx hown (mvT hZ (hw _ (List.mem_of_getElem? (i := 8) rfl))) (g := (mkF m 89 #[.val (.int p1), .val (.int p2), .unset, .unset, .unset, .unset] [(.int (12 : Int32)), (.ref b6), (.ref b6)])) rfl (hb hby at_89)) ?_
    show Go p e below _ (T30.setTop (mkF m 91 #[.val (.int p1), .val (.int p2), .unset, .unset, .unset, .unset] [(.int (65536 : Int32)), (.int (12 : Int32)), (.ref b6), (.ref b6)]))
    obtain ⟨cl31, Ar31, q31, S31, Ng31, H31, G31⟩ := id V_b6_30
    obtain ⟨T32, h32, X32, e32, W32, st32⟩ := stI X30 hx hZ e30 Ar31 (j := (12 : Int32)) (inb_of S31 ⟨by decide, by decide⟩) (g := (mkF m 91 #[.val (.int p1), .val (.int p2), .unset, .unset, .unset, .unset] [(.int (65536 : Int32)), (.int (12 : Int32)), (.ref b6), (.ref b6)])) rfl rfl (hb hby at_91)
    refine go st32 ?_
    have V_b6_32 : Arv Z h32 b6 k6 .int (14 : Int32) [(.int (0 : Int32)), (.int (9 : Int32)), (.int (10 : Int32)), (.int (13 : Int32)), (.int (32 : Int32)), (.int (55295 : Int32)), (.int (55296 : Int32)), (.int (57343 : Int32)), (.int (57344 : Int32)), (.int (65533 : Int32)), (.int (65534 : Int32)), (.int (65535 : Int32)), (.int (65536 : Int32)), (.int (0 : Int32))] (.int (0 : Int32)) := Arv.set Ar31 q31 S31 Ng31 H31 G31 rfl W32 12 rfl (Nat.le_of_ble_eq_true rfl)
    have N32 := Fr.snoc X32 N30 g_b6
    have Z32 : n0 ≤ h32.size := Nat.le_trans Z30 (Nat.le_of_eq W32.size.symm)
    show Go p e below _ (T32.setTop (mkF m 92 #[.val (.int p1), .val (.int p2), .unset, .unset, .unset, .unset] [(.ref b6)]))
    refine go (fun _ q => XS.dup X32.here hx rfl (hb hby at_92) rfl rfl q) ?_
    show Go p e below _ (T32.setTop (mkF m 93 #[.val (.int p1), .val (.int p2), .unset, .unset, .unset, .unset] [(.ref b6), (.ref b6)]))
    refine go (fun _ q => XS.bipush X32.here hx rfl (hb hby at_93) q) ?_
    show Go p e below _ (T32.setTop (mkF m 95 #[.val (.int p1), .val (.int p2), .unset, .unset, .unset, .unset] [(.int (13 : Int32)), (.ref b6), (.ref b6)]))
    refine go (X32.ldcInt hx hown (mvT hZ (hw _ (List.mem_of_getElem? (i := 9) rfl))) (g := (mkF m 95 #[.val (.int p1), .val (.int p2), .unset, .unset, .unset, .unset] [(.int (13 : Int32)), (.ref b6), (.ref b6)])) rfl (hb hby at_95)) ?_
    show Go p e below _ (T32.setTop (mkF m 97 #[.val (.int p1), .val (.int p2), .unset, .unset, .unset, .unset] [(.int (1114111 : Int32)), (.int (13 : Int32)), (.ref b6), (.ref b6)]))
    obtain ⟨cl33, Ar33, q33, S33, Ng33, H33, G33⟩ := id V_b6_32
    obtain ⟨T34, h34, X34, e34, W34, st34⟩ := stI X32 hx hZ e32 Ar33 (j := (13 : Int32)) (inb_of S33 ⟨by decide, by decide⟩) (g := (mkF m 97 #[.val (.int p1), .val (.int p2), .unset, .unset, .unset, .unset] [(.int (1114111 : Int32)), (.int (13 : Int32)), (.ref b6), (.ref b6)])) rfl rfl (hb hby at_97)
    refine go st34 ?_
    have V_b6_34 : Arv Z h34 b6 k6 .int (14 : Int32) [(.int (0 : Int32)), (.int (9 : Int32)), (.int (10 : Int32)), (.int (13 : Int32)), (.int (32 : Int32)), (.int (55295 : Int32)), (.int (55296 : Int32)), (.int (57343 : Int32)), (.int (57344 : Int32)), (.int (65533 : Int32)), (.int (65534 : Int32)), (.int (65535 : Int32)), (.int (65536 : Int32)), (.int (1114111 : Int32))] (.int (0 : Int32)) := Arv.set Ar33 q33 S33 Ng33 H33 G33 rfl W34 13 rfl (Nat.le_of_ble_eq_true rfl)
    have N34 := Fr.snoc X34 N32 g_b6
    have Z34 : n0 ≤ h34.size := Nat.le_trans Z32 (Nat.le_of_eq W34.size.symm)
    show Go p e below _ (T34.setTop (mkF m 98 #[.val (.int p1), .val (.int p2), .unset, .unset, .unset, .unset] [(.ref b6)]))
    refine go (fun _ q => XS.astoreN X34.here hx rfl (hb hby at_98) rfl rfl (l' := #[.val (.int p1), .val (.int p2), .unset, .val (.ref b6), .unset, .unset]) rfl q) ?_
    show Go p e below _ (T34.setTop (mkF m 99 #[.val (.int p1), .val (.int p2), .unset, .val (.ref b6), .unset, .unset] []))
    refine go (fun _ q => XS.aloadN X34.here hx rfl (hb hby at_99) rfl rfl q) ?_
    show Go p e below _ (T34.setTop (mkF m 100 #[.val (.int p1), .val (.int p2), .unset, .val (.ref b6), .unset, .unset] [(.ref b6)]))
    refine go (fun _ q => XS.iloadN X34.here hx rfl (hb hby at_100) rfl q) ?_
    show Go p e below _ (T34.setTop (mkF m 101 #[.val (.int p1), .val (.int p2), .unset, .val (.ref b6), .unset, .unset] [(.int p2), (.ref b6)]))
    refine go (fun _ q => XS.iconst X34.here hx rfl (hb hby at_101) q) ?_
    show Go p e below _ (T34.setTop (mkF m 102 #[.val (.int p1), .val (.int p2), .unset, .val (.ref b6), .unset, .unset] [(.int (1 : Int32)), (.int p2), (.ref b6)]))
    refine go (fun _ q => XS.iushr X34.here hx rfl (hb hby at_102) rfl q) ?_
    show Go p e below _ (T34.setTop (mkF m 103 #[.val (.int p1), .val (.int p2), .unset, .val (.ref b6), .unset, .unset] [(.int (((p2).toUInt32 >>> ((1 : Int32) &&& 31).toUInt32).toInt32)), (.ref b6)]))
    refine go (fun _ q => XS.bipush X34.here hx rfl (hb hby at_103) q) ?_
    show Go p e below _ (T34.setTop (mkF m 105 #[.val (.int p1), .val (.int p2), .unset, .val (.ref b6), .unset, .unset] [(.int (14 : Int32)), (.int (((p2).toUInt32 >>> ((1 : Int32) &&& 31).toUInt32).toInt32)), (.ref b6)]))
    refine go (fun _ q => iremM X34 hx rfl (hb hby at_105) rfl (by decide) q) ?_
    show Go p e below _ (T34.setTop (mkF m 106 #[.val (.int p1), .val (.int p2), .unset, .val (.ref b6), .unset, .unset] [(.int ((((p2).toUInt32 >>> ((1 : Int32) &&& 31).toUInt32).toInt32) % (14 : Int32))), (.ref b6)]))
    obtain ⟨cl35, Ar35, q35, S35, Ng35, H35, G35⟩ := id V_b6_34
    obtain ⟨w106, hw106⟩ := fit_I (G35 _ (Nat.lt_of_not_le fun y => (inb_of S35 (own_ix p2)) (Or.inr y))) (Or.inl rfl)
    refine go (X34.iaload hx (j := ((((p2).toUInt32 >>> ((1 : Int32) &&& 31).toUInt32).toInt32) % (14 : Int32))) (v := (.int w106)) (by rw [e34]; exact Ar35.1) (State.isArrayOf_alike hZ.alike Ar35.2.1) Ar35.2.2 (inb_of S35 (own_ix p2)) (by rw [← hw106]; exact H35 _ (Nat.lt_of_not_le fun y => (inb_of S35 (own_ix p2)) (Or.inr y))) (g := (mkF m 106 #[.val (.int p1), .val (.int p2), .unset, .val (.ref b6), .unset, .unset] [(.int ((((p2).toUInt32 >>> ((1 : Int32) &&& 31).toUInt32).toInt32) % (14 : Int32))), (.ref b6)])) rfl rfl (hb hby at_106)) ?_
    show Go p e below _ (T34.setTop (mkF m 107 #[.val (.int p1), .val (.int p2), .unset, .val (.ref b6), .unset, .unset] [(.int w106)]))
    refine go (fun _ q => XS.istore X34.here hx rfl (hb hby at_107) rfl (l' := #[.val (.int p1), .val (.int p2), .unset, .val (.ref b6), .val (.int w106), .unset]) rfl q) ?_
    show Go p e below _ (T34.setTop (mkF m 109 #[.val (.int p1), .val (.int p2), .unset, .val (.ref b6), .val (.int w106), .unset] []))
    refine go (fun _ q => XS.iloadN X34.here hx rfl (hb hby at_109) rfl q) ?_
    show Go p e below _ (T34.setTop (mkF m 110 #[.val (.int p1), .val (.int p2), .unset, .val (.ref b6), .val (.int w106), .unset] [(.int p1)]))
    refine go (X34.ldcInt hx hown (mvT hZ (hw _ (List.mem_of_getElem? (i := 10) rfl))) (g := (mkF m 110 #[.val (.int p1), .val (.int p2), .unset, .val (.ref b6), .val (.int w106), .unset] [(.int p1)])) rfl (hb hby at_110)) ?_
    show Go p e below _ (T34.setTop (mkF m 112 #[.val (.int p1), .val (.int p2), .unset, .val (.ref b6), .val (.int w106), .unset] [(.int (2147483647 : Int32)), (.int p1)]))
    refine go (fun _ q => XS.iand X34.here hx rfl (hb hby at_112) rfl q) ?_
    show Go p e below _ (T34.setTop (mkF m 113 #[.val (.int p1), .val (.int p2), .unset, .val (.ref b6), .val (.int w106), .unset] [(.int (p1 &&& (2147483647 : Int32)))]))
    refine go (fun _ q => XS.iconst X34.here hx rfl (hb hby at_113) q) ?_
    show Go p e below _ (T34.setTop (mkF m 114 #[.val (.int p1), .val (.int p2), .unset, .val (.ref b6), .val (.int w106), .unset] [(.int (5 : Int32)), (.int (p1 &&& (2147483647 : Int32)))]))
    refine go (fun _ q => iremM X34 hx rfl (hb hby at_114) rfl (by decide) q) ?_
    show Go p e below _ (T34.setTop (mkF m 115 #[.val (.int p1), .val (.int p2), .unset, .val (.ref b6), .val (.int w106), .unset] [(.int ((p1 &&& (2147483647 : Int32)) % (5 : Int32)))]))
    refine go (fun _ q => XS.iconst X34.here hx rfl (hb hby at_115) q) ?_
    show Go p e below _ (T34.setTop (mkF m 116 #[.val (.int p1), .val (.int p2), .unset, .val (.ref b6), .val (.int w106), .unset] [(.int (2 : Int32)), (.int ((p1 &&& (2147483647 : Int32)) % (5 : Int32)))]))
    refine go (fun _ q => XS.isub X34.here hx rfl (hb hby at_116) rfl q) ?_
    show Go p e below _ (T34.setTop (mkF m 117 #[.val (.int p1), .val (.int p2), .unset, .val (.ref b6), .val (.int w106), .unset] [(.int (((p1 &&& (2147483647 : Int32)) % (5 : Int32)) - (2 : Int32)))]))
    generalize hv36 : (((p1 &&& (2147483647 : Int32)) % (5 : Int32)) - (2 : Int32)) = v36
    show Go p e below _ (T34.setTop (mkF m 117 #[.val (.int p1), .val (.int p2), .unset, .val (.ref b6), .val (.int w106), .unset] [(.int v36)]))
    refine go (fun _ q => XS.istore X34.here hx rfl (hb hby at_117) rfl (l' := #[.val (.int p1), .val (.int p2), .unset, .val (.ref b6), .val (.int w106), .val (.int v36)]) rfl q) ?_
    show Go p e below _ (T34.setTop (mkF m 119 #[.val (.int p1), .val (.int p2), .unset, .val (.ref b6), .val (.int w106), .val (.int v36)] []))
    refine go (fun _ q => XS.iconst X34.here hx rfl (hb hby at_119) q) ?_
    show Go p e below _ (T34.setTop (mkF m 120 #[.val (.int p1), .val (.int p2), .unset, .val (.ref b6), .val (.int w106), .val (.int v36)] [(.int (0 : Int32))]))
    refine go (X34.ldcInt hx hown (mvT hZ (hw _ (List.mem_of_getElem? (i := 9) rfl))) (g := (mkF m 120 #[.val (.int p1), .val (.int p2), .unset, .val (.ref b6), .val (.int w106), .val (.int v36)] [(.int (0 : Int32))])) rfl (hb hby at_120)) ?_
    show Go p e below _ (T34.setTop (mkF m 122 #[.val (.int p1), .val (.int p2), .unset, .val (.ref b6), .val (.int w106), .val (.int v36)] [(.int (1114111 : Int32)), (.int (0 : Int32))]))
    refine go (fun _ q => XS.iload X34.here hx rfl (hb hby at_122) rfl q) ?_
    show Go p e below _ (T34.setTop (mkF m 124 #[.val (.int p1), .val (.int p2), .unset, .val (.ref b6), .val (.int w106), .val (.int v36)] [(.int w106), (.int (1114111 : Int32)), (.int (0 : Int32))]))
    refine go (fun _ q => XS.iload X34.here hx rfl (hb hby at_124) rfl q) ?_
    show Go p e below _ (T34.setTop (mkF m 126 #[.val (.int p1), .val (.int p2), .unset, .val (.ref b6), .val (.int w106), .val (.int v36)] [(.int v36), (.int w106), (.int (1114111 : Int32)), (.int (0 : Int32))]))
    refine go (fun _ q => XS.iadd X34.here hx rfl (hb hby at_126) rfl q) ?_
    show Go p e below _ (T34.setTop (mkF m 127 #[.val (.int p1), .val (.int p2), .unset, .val (.ref b6), .val (.int w106), .val (.int v36)] [(.int (w106 + v36)), (.int (1114111 : Int32)), (.int (0 : Int32))]))
    refine own_callS X34 hx hZ hown e34 (hw _ (List.mem_of_getElem? (i := 11) rfl)) (hw _ (List.mem_of_getElem? (i := 12) rfl)) (hw _ (List.mem_of_getElem? (i := 13) rfl)) (hw _ (List.mem_of_getElem? (i := 14) rfl)) (rm1 l Z a0 hw [] (1114111 : Int32) (w106 + v36) h34 n0) (by decide) (by decide) (W := 1) (by decide) (by decide) (by decide) (g := (mkF m 127 #[.val (.int p1), .val (.int p2), .unset, .val (.ref b6), .val (.int w106), .val (.int v36)] [(.int (w106 + v36)), (.int (1114111 : Int32)), (.int (0 : Int32))])) rfl (by rw [hml]; rfl) (argsL := [(.int (1114111 : Int32)), (.int (w106 + v36))]) (rest := [(.int (0 : Int32))]) rfl rfl (lenOf pd_0_1 rfl) (by show 2 * 0 + _ ≤ _; exact Nat.le_of_eq rfl) (hb hby at_127) ?_
    rintro _ T37 L37 X37 ⟨rfl, N37q, e37⟩
    have N37 := Fr.app N34 N37q
    show Go p e below _ (T37.setTop (mkF m 130 #[.val (.int p1), .val (.int p2), .unset, .val (.ref b6), .val (.int w106), .val (.int v36)] [(.int (f1 (1114111 : Int32) (w106 + v36))), (.int (0 : Int32))]))
    refine own_callS X37 hx hZ hown e37 (hw _ (List.mem_of_getElem? (i := 15) rfl)) (hw _ (List.mem_of_getElem? (i := 16) rfl)) (hw _ (List.mem_of_getElem? (i := 13) rfl)) (hw _ (List.mem_of_getElem? (i := 17) rfl)) (rm2 l Z a0 hw [] (0 : Int32) (f1 (1114111 : Int32) (w106 + v36)) h34 n0) (by decide) (by decide) (W := 0) (by decide) (by decide) (by decide) (g := (mkF m 130 #[.val (.int p1), .val (.int p2), .unset, .val (.ref b6), .val (.int w106), .val (.int v36)] [(.int (f1 (1114111 : Int32) (w106 + v36))), (.int (0 : Int32))])) rfl (by rw [hml]; rfl) (argsL := [(.int (0 : Int32)), (.int (f1 (1114111 : Int32) (w106 + v36)))]) (rest := []) rfl rfl (lenOf pd_0_1 rfl) (by show 2 * 0 + _ ≤ _; exact Nat.le_of_eq rfl) (hb hby at_130) ?_
    rintro _ T38 L38 X38 ⟨rfl, N38q, e38⟩
    have N38 := Fr.app N37 N38q
    show Go p e below _ (T38.setTop (mkF m 133 #[.val (.int p1), .val (.int p2), .unset, .val (.ref b6), .val (.int w106), .val (.int v36)] [(.int (f2 (0 : Int32) (f1 (1114111 : Int32) (w106 + v36))))]))
    generalize hv39 : (f2 (0 : Int32) (f1 (1114111 : Int32) (w106 + v36))) = v39
    show Go p e below _ (T38.setTop (mkF m 133 #[.val (.int p1), .val (.int p2), .unset, .val (.ref b6), .val (.int w106), .val (.int v36)] [(.int v39)]))
    refine go (fun _ q => XS.istoreN X38.here hx rfl (hb hby at_133) rfl (l' := #[.val (.int p1), .val (.int p2), .val (.int v39), .val (.ref b6), .val (.int w106), .val (.int v36)]) rfl q) ?_
    show Go p e below _ (T38.setTop (mkF m 134 #[.val (.int p1), .val (.int p2), .val (.int v39), .val (.ref b6), .val (.int w106), .val (.int v36)] []))
    refine go (fun _ q => XS.iloadN X38.here hx rfl (hb hby at_134) rfl q) ?_
    show Go p e below _ (T38.setTop (mkF m 135 #[.val (.int p1), .val (.int p2), .val (.int v39), .val (.ref b6), .val (.int w106), .val (.int v36)] [(.int v39)]))
    refine own_callS X38 hx hZ hown e38 (hw _ (List.mem_of_getElem? (i := 18) rfl)) (hw _ (List.mem_of_getElem? (i := 19) rfl)) (hw _ (List.mem_of_getElem? (i := 20) rfl)) (hw _ (List.mem_of_getElem? (i := 21) rfl)) (rm3 l Z a0 hw [] v39 h34 n0) (by decide) (by decide) (W := 0) (by decide) (by decide) (by decide) (g := (mkF m 135 #[.val (.int p1), .val (.int p2), .val (.int v39), .val (.ref b6), .val (.int w106), .val (.int v36)] [(.int v39)])) rfl (by rw [hml]; rfl) (argsL := [(.int v39)]) (rest := []) rfl rfl (lenOf pd_0_0 rfl) (by show 2 * 0 + _ ≤ _; exact Nat.le_of_eq rfl) (hb hby at_135) ?_
    rintro _ T40 L40 X40 ⟨rfl, N40q, e40⟩
    have N40 := Fr.app N38 N40q
    show Go p e below _ (T40.setTop (mkF m 138 #[.val (.int p1), .val (.int p2), .val (.int v39), .val (.ref b6), .val (.int w106), .val (.int v36)] [(.int (f3 v39))]))
    refine go (fun _ q => XS.iloadN X40.here hx rfl (hb hby at_138) rfl q) ?_
    show Go p e below _ (T40.setTop (mkF m 139 #[.val (.int p1), .val (.int p2), .val (.int v39), .val (.ref b6), .val (.int w106), .val (.int v36)] [(.int v39), (.int (f3 v39))]))
    refine own_callS X40 hx hZ hown e40 (hw _ (List.mem_of_getElem? (i := 22) rfl)) (hw _ (List.mem_of_getElem? (i := 23) rfl)) (hw _ (List.mem_of_getElem? (i := 24) rfl)) (hw _ (List.mem_of_getElem? (i := 25) rfl)) (rm4 l Z a0 hw [] v39 h34 n0) (by decide) (by decide) (W := 1) (by decide) (by decide) (by decide) (g := (mkF m 139 #[.val (.int p1), .val (.int p2), .val (.int v39), .val (.ref b6), .val (.int w106), .val (.int v36)] [(.int v39), (.int (f3 v39))])) rfl (by rw [hml]; rfl) (argsL := [(.int v39)]) (rest := [(.int (f3 v39))]) rfl rfl (lenOf pd_0_0 rfl) (by show 2 * 0 + _ ≤ _; exact Nat.le_of_eq rfl) (hb hby at_139) ?_
    rintro _ T41 L41 X41 ⟨rfl, N41q, e41⟩
    have N41 := Fr.app N40 N41q
    show Go p e below _ (T41.setTop (mkF m 142 #[.val (.int p1), .val (.int p2), .val (.int v39), .val (.ref b6), .val (.int w106), .val (.int v36)] [(.int (f4 v39)), (.int (f3 v39))]))
    have hk42 : (f3 v39) = (f4 v39) := own_cmp (own_hi hv39)
    refine go (fun _ q => XS.icmpNo X41.here hx rfl (hb hby at_142) rfl (teq hk42).2 q) ?_
    show Go p e below _ (T41.setTop (mkF m 145 #[.val (.int p1), .val (.int p2), .val (.int v39), .val (.ref b6), .val (.int w106), .val (.int v36)] []))
    refine go (fun _ q => XS.iconst X41.here hx rfl (hb hby at_145) q) ?_
    show Go p e below _ (T41.setTop (mkF m 146 #[.val (.int p1), .val (.int p2), .val (.int v39), .val (.ref b6), .val (.int w106), .val (.int v36)] [(.int (1 : Int32))]))
    refine go (fun _ q => XS.goto X41.here hx rfl (pc0 := 146) (pc' := 150) rfl (hb hby at_146) (by decide) (by decide) q) ?_
    show Go p e below _ (T41.setTop (mkF m 150 #[.val (.int p1), .val (.int p2), .val (.int v39), .val (.ref b6), .val (.int w106), .val (.int v36)] [(.int (1 : Int32))]))
    exact own_retZ (z' := (1 : Int32)) X41 hx hlk hret (hb hby at_150) (by decide) (by decide) rfl ⟨rfl, N41⟩
set_option maxRecDepth 65536 in
set_option maxHeartbeats 40000000 in
theorem comes_1 {Post : Tables → Env → Array Value → State → Outcome → State → Prop} (hpost : ∀ tb e args s v u, (limb_1_1.after args s (.returned v) u = true ∧ limb_1_2.after args s (.returned v) u = true ∧ True) → FrameEnd s (.returned v) u (Jvm.fieldLocs frame_1_writes args s ++ Jvm.arrayLocs frame_1_arrays args s ++ Jvm.staticLocs frame_1_statics s) 16 128 → Post tb e args s (.returned v) u) :
    ArmFor flags0 classFile x code maxLocals ret World_1 tables_1 room_1 Calls_1 rest_1 Pre_1 Post := by
  intro l hfl _ _ p e ha hc hk s m args below hf hA hF happ hP
  obtain ⟨hcalls, hrest, hpre⟩ := hP
  obtain ⟨-, -, -, hnamed, -, -, -, hat⟩ := (Spec.applies_iff hf).mp happ
  obtain ⟨hg, hn⟩ := and_e (Cond.before_iff.mp (show (Jvm.Cond.and given_1 narrow_1).before args s = true from hpre))
  obtain ⟨gc, g0⟩ := and_e hg
  obtain ⟨ga0, g1⟩ := and_e g0
  have ga1 := g1
  obtain ⟨w0, w1, rfl⟩ : ∃ w0 w1 : Value, args = #[w0, w1] := by
    have hs : args.size = 2 := by simpa [Cond.value, given_1] using gc
    obtain ⟨L⟩ := args
    match L, hs with
    | [w0, w1], _ => exact ⟨w0, w1, rfl⟩
  have hw := fun d (hd : d ∈ tables_1) => atoms_spec (ws := Jvm.Cond.code x code maxLocals ret :: tables_1) hat d (List.mem_cons_of_mem _ hd)
  obtain ⟨i0, ei0⟩ := is_v ga0
  obtain rfl : w0 = (.int i0) := Option.some.inj ei0
  obtain ⟨i1, ei1⟩ := is_v ga1
  obtain rfl : w1 = (.int i1) := Option.some.inj ei1
  obtain ⟨n, o, h1, h2, h3, _, L, rfl, ⟨rfl, N⟩, hq⟩ := rm0 l s _ hw tables_1 i0 i1 s.heap s.heap.size (Nat.le_refl _) p e ha hc hk s m _ below hf ((Spec.applies_iff_loose hf).mp happ).1 ⟨rfl, State.Warmed39.refl s, rfl⟩ trivial
  refine ⟨n, _, h1, h2, h3, hpost _ _ _ _ _ _ ⟨Cond.after_iff.mpr rfl, Cond.after_iff.mpr (eq_i res_at (Term.int_eval (1)) rfl), trivial⟩ ⟨hq.1, hq.2.1, (hq.2.2.sift fun y hy => Or.inr (N y hy)).mono (by decide) (by decide)⟩⟩
theorem main_1_1 : Claimed_1_1 := comes_1 fun _ _ _ _ _ _ h hF => ⟨h.1, hF⟩
theorem main_1_2 : Claimed_1_2 := comes_1 fun _ _ _ _ _ _ h hF => ⟨h.2.1, hF⟩
end Jvm.Pilot.@@N@@
namespace Jvm.Pilot.@@N@@
open Jvm Jvm.ClassFile Sem Op Lib Jvm.Free Jvm.Stand Jvm.Pilot.@@N@@.Jvm.D
/-! MADE BY PROGRAM (witnessworld.py) out of the Statement's table words and the real class files: 10 classes; the members and pool entries that the words name. The judged class is class 1, her method 2. -/
namespace start1
open Jvm.ClassFile
def u (s : String) : CpInfo := .utf8 (stringToUtf16 s)
/-- a pool by its gaps: so many unusable entries, then the entry; so many at the end -/
def gap : Nat → List CpInfo → List CpInfo
  | 0, r => r
  | n + 1, r => .unusable :: gap n r
def poolList (es : List (Nat × CpInfo)) (last : Nat) : List CpInfo := es.foldr (fun e r => gap e.1 (e.2 :: r)) (gap last [])
def pool (es : List (Nat × CpInfo)) (last : Nat) : Array CpInfo := ⟨poolList es last⟩
def fileOf (pool : Array CpInfo) (this : Nat) (attrs : Array Attribute := #[]) (ms : Array MethodInfo := #[]) (fl : Nat := 33) (sup : Nat := 0) (ifs : Array Nat := #[]) (fds : Array FieldInfo := #[]) : ClassFile where
  minorVersion := 0
  majorVersion := 65
  constantPool := pool
  accessFlags := fl
  thisClass := this
  superClass := sup
  interfaces := ifs
  fields := fds
  methods := ms
  attributes := attrs
def plain (name : String) (sup : Option ClassId) : Class where
  name := name
  kind := .ordinary
  loader := none
  accessFlags := 33
  super := sup
  interfaces := #[]
  cf := none
  fields := #[]
  methods := #[]
  instanceTypes := #[]
  staticTypes := #[]
  resolved := #[]
  callSites := []
  init := .initialized
  statics := none
  mirror := none

def pool0 : Array CpInfo := pool [(5, u "<init>"), (0, u "()V"), (1, .class_ 10), (1, u "java/lang/Object")] 113

def k0m0 : Method := { name := "<init>", desc := "()V", sig := { parameters := [], returnType := none }, accessFlags := 1, code := none }
/-- java/lang/Object -/
def k0 : Class := { plain "java/lang/Object" none with
  accessFlags := 33
  interfaces := #[]
  cf := some (fileOf pool0 8 #[] #[{ accessFlags := 1, nameIndex := 5, descriptorIndex := 6, attributes := #[] }] 33 0 #[] #[])
  fields := #[]
  methods := #[k0m0]
  instanceTypes := #[]
  staticTypes := #[]
  resolved := Array.replicate 124 none
  statics := none }

def pool1 : Array CpInfo := pool [(2, .class_ 4), (1, u "java/lang/Object"), (0, u "<init>"), (0, u "()V"), (0, .integer 55295), (0, .integer 57344), (0, .integer 65533), (0, .integer 65536), (0, .integer 1114111), (0, .integer 2147483647), (0, .integer 1114112), (0, .integer 55296), (0, .integer 57343), (0, .integer 65534), (0, .integer 65535), (0, .methodref 19 20), (0, .class_ 21), (0, .nameAndType 22 23), (0, u "java/lang/Math"), (0, u "min"), (0, u "(II)I"), (0, .methodref 19 25), (0, .nameAndType 26 23), (0, u "max"), (0, .methodref 28 29), (0, .class_ 30), (0, .nameAndType 31 32), (0, u "com/example/junctura/junctura/io/XmlChars"), (0, u "canCarry"), (0, u "(I)Z"), (0, .methodref 34 35), (0, .class_ 36), (0, .nameAndType 37 32), (0, u "com/example/junctura/junctura/io/XmlCharsCanCarryPinLaw"), (0, u "xmlChar"), (3, u "law"), (0, u "(II)Z")] 2

def k1m0 : Method := { name := "<init>", desc := "()V", sig := { parameters := [], returnType := none }, accessFlags := 2, code := none }
def k1c1 : Code := { maxStack := 2, maxLocals := 1, code := method_2_code, exceptionTable := #[], attributes := #[] }
def k1m1 : Method := { name := "xmlChar", desc := "(I)Z", sig := { parameters := [.int], returnType := some .boolean }, accessFlags := 10, code := some k1c1 }
def k1c2 : Code := { maxStack := 4, maxLocals := 6, code := code, exceptionTable := #[], attributes := #[] }
def k1m2 : Method := { name := "law", desc := "(II)Z", sig := { parameters := [.int, .int], returnType := some .boolean }, accessFlags := 9, code := some k1c2 }
/-- com/example/junctura/junctura/io/XmlCharsCanCarryPinLaw -/
def k1 : Class := { plain "com/example/junctura/junctura/io/XmlCharsCanCarryPinLaw" (some 0) with
  accessFlags := 49
  interfaces := #[]
  cf := some (fileOf pool1 34 #[] #[{ accessFlags := 2, nameIndex := 5, descriptorIndex := 6, attributes := #[] }, { accessFlags := 10, nameIndex := 37, descriptorIndex := 32, attributes := #[] }, { accessFlags := 9, nameIndex := 41, descriptorIndex := 42, attributes := #[] }] 49 2 #[] #[])
  fields := #[]
  methods := #[k1m0, k1m1, k1m2]
  instanceTypes := #[]
  staticTypes := #[]
  resolved := Array.replicate 45 none
  statics := none }

def pool2 : Array CpInfo := pool [(1, .class_ 2), (0, u "java/lang/Math"), (1, .class_ 6), (1, u "java/lang/Object"), (0, u "<init>"), (0, u "()V"), (89, .class_ 100), (1, u "java/lang/Math$RandomNumberGeneratorHolder"), (71, u "negativeZeroFloatBits"), (0, u "J"), (2, u "negativeZeroDoubleBits"), (21, u "max"), (2, u "min"), (43, u "$assertionsDisabled"), (0, u "Z"), (88, u "(II)I"), (2, u "twoToTheDoubleScaleDown"), (0, u "D"), (4, u "twoToTheDoubleScaleUp"), (9, u "E"), (3, u "PI"), (2, u "TAU"), (2, u "DEGREES_TO_RADIANS"), (0, u "RADIANS_TO_DEGREES")] 94

def k2m0 : Method := { name := "<init>", desc := "()V", sig := { parameters := [], returnType := none }, accessFlags := 2, code := none }
def k2c1 : Code := { maxStack := 2, maxLocals := 2, code := jdk_29_method_65_code, exceptionTable := #[], attributes := #[] }
def k2m1 : Method := { name := "max", desc := "(II)I", sig := { parameters := [.int, .int], returnType := some .int }, accessFlags := 9, code := some k2c1 }
def k2c2 : Code := { maxStack := 2, maxLocals := 2, code := jdk_29_method_69_code, exceptionTable := #[], attributes := #[] }
def k2m2 : Method := { name := "min", desc := "(II)I", sig := { parameters := [.int, .int], returnType := some .int }, accessFlags := 9, code := some k2c2 }
/-- java/lang/Math -/
def k2 : Class := { plain "java/lang/Math" (some 0) with
  accessFlags := 49
  interfaces := #[]
  cf := some (fileOf pool2 1 #[.nestMembers #[98]] #[{ accessFlags := 2, nameIndex := 7, descriptorIndex := 8, attributes := #[] }, { accessFlags := 9, nameIndex := 198, descriptorIndex := 335, attributes := #[] }, { accessFlags := 9, nameIndex := 201, descriptorIndex := 335, attributes := #[] }] 49 4 #[] #[{ accessFlags := 25, nameIndex := 354, descriptorIndex := 339, attributes := #[] }, { accessFlags := 25, nameIndex := 358, descriptorIndex := 339, attributes := #[] }, { accessFlags := 25, nameIndex := 361, descriptorIndex := 339, attributes := #[] }, { accessFlags := 26, nameIndex := 364, descriptorIndex := 339, attributes := #[] }, { accessFlags := 26, nameIndex := 365, descriptorIndex := 339, attributes := #[] }, { accessFlags := 26, nameIndex := 172, descriptorIndex := 173, attributes := #[] }, { accessFlags := 26, nameIndex := 176, descriptorIndex := 173, attributes := #[] }, { accessFlags := 8, nameIndex := 344, descriptorIndex := 339, attributes := #[] }, { accessFlags := 8, nameIndex := 338, descriptorIndex := 339, attributes := #[] }, { accessFlags := 4120, nameIndex := 245, descriptorIndex := 246, attributes := #[] }])
  fields := #[{ name := "E", type := .double, accessFlags := 25, slot := 0, constantValue := 0 }, { name := "PI", type := .double, accessFlags := 25, slot := 1, constantValue := 0 }, { name := "TAU", type := .double, accessFlags := 25, slot := 2, constantValue := 0 }, { name := "DEGREES_TO_RADIANS", type := .double, accessFlags := 26, slot := 3, constantValue := 0 }, { name := "RADIANS_TO_DEGREES", type := .double, accessFlags := 26, slot := 4, constantValue := 0 }, { name := "negativeZeroFloatBits", type := .long, accessFlags := 26, slot := 5, constantValue := 0 }, { name := "negativeZeroDoubleBits", type := .long, accessFlags := 26, slot := 6, constantValue := 0 }, { name := "twoToTheDoubleScaleUp", type := .double, accessFlags := 8, slot := 7, constantValue := 0 }, { name := "twoToTheDoubleScaleDown", type := .double, accessFlags := 8, slot := 8, constantValue := 0 }, { name := "$assertionsDisabled", type := .boolean, accessFlags := 4120, slot := 9, constantValue := 0 }]
  methods := #[k2m0, k2m1, k2m2]
  instanceTypes := #[]
  staticTypes := #[.double, .double, .double, .double, .double, .long, .long, .double, .double, .boolean]
  resolved := Array.replicate 460 none
  statics := none }

def pool3 : Array CpInfo := pool [(2, .class_ 4), (1, u "java/lang/Object"), (0, u "<init>"), (0, u "()V"), (2, .integer 55296), (0, .integer 57343), (0, .integer 65534), (0, .integer 65535), (11, .class_ 26), (1, u "com/example/junctura/junctura/io/XmlChars"), (0, u "canCarry"), (0, u "(I)Z"), (31, u "UNCARRIED"), (0, u "Ljava/lang/String;")] 10

def k3m0 : Method := { name := "<init>", desc := "()V", sig := { parameters := [], returnType := none }, accessFlags := 2, code := none }
def k3c1 : Code := { maxStack := 2, maxLocals := 2, code := prog_163_method_2_code, exceptionTable := #[], attributes := #[] }
def k3m1 : Method := { name := "canCarry", desc := "(I)Z", sig := { parameters := [.int], returnType := some .boolean }, accessFlags := 8, code := some k3c1 }
/-- com/example/junctura/junctura/io/XmlChars -/
def k3 : Class := { plain "com/example/junctura/junctura/io/XmlChars" (some 0) with
  accessFlags := 48
  interfaces := #[]
  cf := some (fileOf pool3 24 #[] #[{ accessFlags := 2, nameIndex := 5, descriptorIndex := 6, attributes := #[] }, { accessFlags := 8, nameIndex := 27, descriptorIndex := 28, attributes := #[] }] 48 2 #[] #[{ accessFlags := 24, nameIndex := 60, descriptorIndex := 61, attributes := #[] }])
  fields := #[{ name := "UNCARRIED", type := (.object "java/lang/String"), accessFlags := 24, slot := 0, constantValue := 0 }]
  methods := #[k3m0, k3m1]
  instanceTypes := #[]
  staticTypes := #[(.object "java/lang/String")]
  resolved := Array.replicate 72 none
  statics := none }

def pool4 : Array CpInfo := pool [(1, u "java/lang/Cloneable"), (0, .class_ 1), (0, u "java/lang/Object"), (0, .class_ 3)] 3

/-- java/lang/Cloneable -/
def k4 : Class := { plain "java/lang/Cloneable" (some 0) with
  accessFlags := 1537
  interfaces := #[]
  cf := some (fileOf pool4 2 #[] #[] 1537 4 #[] #[])
  fields := #[]
  methods := #[]
  instanceTypes := #[]
  staticTypes := #[]
  resolved := Array.replicate 8 none
  statics := none }

def pool5 : Array CpInfo := pool [(1, u "java/io/Serializable"), (0, .class_ 1), (0, u "java/lang/Object"), (0, .class_ 3)] 3

/-- java/io/Serializable -/
def k5 : Class := { plain "java/io/Serializable" (some 0) with
  accessFlags := 1537
  interfaces := #[]
  cf := some (fileOf pool5 2 #[] #[] 1537 4 #[] #[])
  fields := #[]
  methods := #[]
  instanceTypes := #[]
  staticTypes := #[]
  resolved := Array.replicate 8 none
  statics := none }

/-- the primitive byte -/
def k6 : Class := { plain "byte" none with kind := .primitive 'B', accessFlags := 0x411 }
/-- [B -/
def k7 : Class := { plain "[B" (some 0) with kind := .array 6 .byte, interfaces := #[4, 5], accessFlags := 1041 }

/-- the primitive int -/
def k8 : Class := { plain "int" none with kind := .primitive 'I', accessFlags := 0x411 }
/-- [I -/
def k9 : Class := { plain "[I" (some 0) with kind := .array 8 .int, interfaces := #[4, 5], accessFlags := 1041 }

def heap : Heap := #[]
def classes : Array Class := #[k0, k1, k2, k3, k4, k5, k6, k7, k8, k9]
def interned : List (Array UInt16 × Addr) := []
def slotsUsed : Nat := 0
def theMethod : MethodId := ⟨1, 2⟩
def args0 : Array Value := #[.int 5, .int 300]
def aboutOver (below : List Frame) : State where
  vm := { classes := classes, interned := interned.toArray }
  heap := heap
  slotsUsed := slotsUsed
  threads := #[{ frames := .invoking theMethod args0 :: below }]
def below0 : List Frame := [.native { method := ⟨0, 0⟩, args := #[] }]
def about1 : State := aboutOver below0
def p0 : Program := .bare "" "" ""
def e0 : Env := launch0.env 0 0 0
theorem w_frames : about1.frames = Frame.invoking theMethod args0 :: below0 := rfl
set_option maxRecDepth 65536 in
theorem w_args : argsFit about1.vm theMethod args0 = true := by decide +kernel
set_option maxRecDepth 65536 in
theorem w_heap : heapFits about1 = true := by decide +kernel
set_option maxRecDepth 65536 in
theorem w_runnable : about1.curStatus? = some .runnable := by decide +kernel
set_option maxRecDepth 65536 in
theorem w_alone : about1.alone = true := by decide +kernel
set_option maxRecDepth 65536 in
theorem w_named : about1.methodNamed? x = some theMethod := by decide +kernel
set_option maxRecDepth 65536 in
theorem w_hears : about1.hears theMethod below0 = true := by decide +kernel
set_option maxRecDepth 65536 in
theorem w_ripe : about1.ripe theMethod args0 below0 = true := by decide +kernel
theorem w_running : about1.status = .running := rfl
set_option maxRecDepth 65536 in
theorem w_room : about1.hasRoom e0.platform room_1 = true :=
  launch0.hasRoom_least _ room_1 (by decide +kernel) (by decide +kernel) (by decide +kernel) (by decide +kernel) (by decide +kernel) (by decide +kernel)
theorem allAtoms_all (ts : List Jvm.Cond) (a : Array Jvm.Value) (st : Jvm.State) : (allAtoms ts).before a st = ts.all (fun c => c.before a st) := by
  induction ts with
  | nil => rfl
  | cons c t ih =>
    show (Jvm.Cond.and c (allAtoms t)).before a st = _
    rw [Jvm.Cond.before_and, ih, List.all_cons]
def words1 : List Jvm.Cond := Jvm.Cond.code x code maxLocals ret :: tables_1
/-- a 'code' word, met by the world's own term for the bytes: nothing is compared byte by byte -/
theorem code_word {y : MethodName} {bytes : ByteArray} {mx : Nat} {rt : Option FieldType} {a : Array Value} {s : State} {m : MethodId} {meth : Method} {c : Code} (h1 : s.methodNamed? y = some m) (h2 : s.vm.method? m = some meth) (h3 : meth.code = some c) (h4 : c.code = bytes)
    (h5 : (c.maxLocals == mx && c.exceptionTable.isEmpty && decide (c.maxStack ≤ mostOperands) && decide (meth.sig.returnType = rt) && !meth.locks && decide (parseMethodDescriptor y.desc = some meth.sig)) = true) : (Jvm.Cond.code y bytes mx rt).before a s = true := by
  simp only [Bool.and_eq_true, beq_iff_eq, Bool.not_eq_true', decide_eq_true_eq] at h5
  obtain ⟨⟨⟨⟨⟨g1, g2⟩, g3⟩, g4⟩, g5⟩, g6⟩ := h5
  simp [Cond.before, Cond.holds, Cond.value, h1, h2, h3, h4, g1, g2, g3, g4, g5, g6]
def isCode : Jvm.Cond → Bool
  | .code _ _ _ _ => true
  | _ => false
theorem all_split {L : List Jvm.Cond} {P : Jvm.Cond → Bool} (h1 : L.all (fun c => isCode c || P c) = true) (h2 : ∀ c ∈ L.filter isCode, P c = true) : L.all P = true := by
  refine List.all_eq_true.mpr fun c hc => ?_
  have h := List.all_eq_true.mp h1 c hc
  rcases Bool.eq_false_or_eq_true (isCode c) with hi | hi
  · exact h2 c (List.mem_filter.mpr ⟨hc, hi⟩)
  · simpa [hi] using h
set_option maxRecDepth 65536 in
theorem w_c0 : (Jvm.Cond.code x code maxLocals ret).before args0 about1 = true := code_word (m := ⟨1, 2⟩) (meth := k1m2) (c := k1c2) (by decide +kernel) rfl rfl rfl (by decide +kernel)
set_option maxRecDepth 65536 in
theorem w_c1 : (Jvm.Cond.code ({ cls := "java/lang/Math", name := "min", desc := "(II)I" } : Jvm.MethodName) jdk_29_method_69_code (2 : Nat) (Option.some Jvm.ClassFile.FieldType.int)).before args0 about1 = true := code_word (m := ⟨2, 2⟩) (meth := k2m2) (c := k2c2) (by decide +kernel) rfl rfl rfl (by decide +kernel)
set_option maxRecDepth 65536 in
theorem w_c2 : (Jvm.Cond.code ({ cls := "java/lang/Math", name := "max", desc := "(II)I" } : Jvm.MethodName) jdk_29_method_65_code (2 : Nat) (Option.some Jvm.ClassFile.FieldType.int)).before args0 about1 = true := code_word (m := ⟨2, 1⟩) (meth := k2m1) (c := k2c1) (by decide +kernel) rfl rfl rfl (by decide +kernel)
set_option maxRecDepth 65536 in
theorem w_c3 : (Jvm.Cond.code ({ cls := "com/example/junctura/junctura/io/XmlChars", name := "canCarry", desc := "(I)Z" } : Jvm.MethodName) prog_163_method_2_code (2 : Nat) (Option.some Jvm.ClassFile.FieldType.boolean)).before args0 about1 = true := code_word (m := ⟨3, 1⟩) (meth := k3m1) (c := k3c1) (by decide +kernel) rfl rfl rfl (by decide +kernel)
set_option maxRecDepth 65536 in
theorem w_c4 : (Jvm.Cond.code ({ cls := "com/example/junctura/junctura/io/XmlCharsCanCarryPinLaw", name := "xmlChar", desc := "(I)Z" } : Jvm.MethodName) method_2_code (1 : Nat) (Option.some Jvm.ClassFile.FieldType.boolean)).before args0 about1 = true := code_word (m := ⟨1, 1⟩) (meth := k1m1) (c := k1c1) (by decide +kernel) rfl rfl rfl (by decide +kernel)
def codes1 : List Jvm.Cond := [Jvm.Cond.code x code maxLocals ret, Jvm.Cond.code ({ cls := "java/lang/Math", name := "min", desc := "(II)I" } : Jvm.MethodName) jdk_29_method_69_code (2 : Nat) (Option.some Jvm.ClassFile.FieldType.int), Jvm.Cond.code ({ cls := "java/lang/Math", name := "max", desc := "(II)I" } : Jvm.MethodName) jdk_29_method_65_code (2 : Nat) (Option.some Jvm.ClassFile.FieldType.int), Jvm.Cond.code ({ cls := "com/example/junctura/junctura/io/XmlChars", name := "canCarry", desc := "(I)Z" } : Jvm.MethodName) prog_163_method_2_code (2 : Nat) (Option.some Jvm.ClassFile.FieldType.boolean), Jvm.Cond.code ({ cls := "com/example/junctura/junctura/io/XmlCharsCanCarryPinLaw", name := "xmlChar", desc := "(I)Z" } : Jvm.MethodName) method_2_code (1 : Nat) (Option.some Jvm.ClassFile.FieldType.boolean)]
set_option maxRecDepth 65536 in
theorem codes_eq : words1.filter isCode = codes1 := rfl
theorem w_codes : ∀ c ∈ words1.filter isCode, c.before args0 about1 = true := by
  rw [codes_eq]
  intro c hc
  simp only [codes1, List.mem_cons, List.not_mem_nil, or_false] at hc
  rcases hc with rfl | rfl | rfl | rfl | rfl
  · exact w_c0
  · exact w_c1
  · exact w_c2
  · exact w_c3
  · exact w_c4
set_option maxRecDepth 65536 in
theorem w_t1 : (words1.take 24).all (fun c => isCode c || c.before args0 about1) = true := by decide +kernel
set_option maxRecDepth 65536 in
theorem w_t2 : (words1.drop 24).all (fun c => isCode c || c.before args0 about1) = true := by decide +kernel
theorem w_tables : (allAtoms (Jvm.Cond.code x code maxLocals ret :: tables_1)).before args0 about1 = true := by
  rw [allAtoms_all]
  show words1.all (fun c => c.before args0 about1) = true
  refine all_split ?_ w_codes
  rw [← List.take_append_drop 24 words1, List.all_append, w_t1, w_t2]
  rfl
set_option maxRecDepth 65536 in
theorem w_case : (Jvm.Cond.and given_1 narrow_1).before args0 about1 = true := by decide +kernel
theorem w_applies : (headSpec (Jvm.Cond.code x code maxLocals ret :: tables_1) room_1).applies x e0.platform about1 = true :=
  (Spec.applies_iff w_frames).mpr ⟨w_running, w_runnable, w_alone, w_named, w_hears, w_ripe, w_room, w_tables⟩
theorem atStart : AtStart classFile x code maxLocals ret World_1 tables_1 room_1 Calls_1 rest_1 Pre_1 launch0 p0 e0 about1 theMethod args0 below0 :=
  ⟨lists_1, trivial, launch0.admits_env _ _ _, launch0.least_env, fairChoices_fair.cas, fairChoices_fair.clock, w_frames, w_args, w_heap, w_applies, trivial, trivial, w_case⟩
end start1
theorem witness_1 : WitnessClaimed_1 := ⟨start1.p0, start1.e0, start1.about1, start1.theMethod, start1.args0, start1.below0, start1.atStart⟩
end Jvm.Pilot.@@N@@
