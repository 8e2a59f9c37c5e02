import JvmDerived
import JvmDerived.Pilot.@@N@@Statement
import JvmDerived.Pilot.@@N@@Code
set_option linter.unusedVariables false
set_option linter.unusedSimpArgs false
namespace Jvm.Pilot.@@N@@
open Jvm Jvm.ClassFile Sem Op Lib Jvm.Free Jvm.Stand Jvm.LawKit Jvm.RoadKit Bundle Jvm.Pilot.@@N@@.Jvm.D
/-! ## Own: a walk forward: from here the run comes to an end that K takes -/
section Own
variable {p : Program} {l : Launch} {e : Env} {R : Room} {s : State} {m : MethodId} {args : Array Value} {below : List Frame} {meth : Method} {c : Code} {T : State} {locs : List Loc} {cells slots : Nat} {K : State → Prop}
def Go (p : Program) (e : Env) (below : List Frame) (K : State → Prop) (S : State) : Prop := ∃ t, Steps p.tables e below S t ∧ K t
theorem go {S S' : State} (h : ∀ t, Steps p.tables e below S' t → Steps p.tables e below S t) (g : Go p e below K S') : Go p e below K S := by
  obtain ⟨t, h1, h2⟩ := g
  exact ⟨t, h t h1, h2⟩
/-- the end of a body: what is returned, the heap and the written places fulfil Q, within so many cells and slots -/
def Dn (below : List Frame) (s : State) (Q : Option Value → Heap → List Loc → Prop) (C N : Nat) (t : State) : Prop := ∃ v L, t.status = .running ∧ Ended t below (.returned v) ∧ Q v t.heap L ∧ FrameEnd s (.returned v) t L C N
variable {Q : Option Value → Heap → List Loc → Prop} {C N : Nat}
theorem own_retI (X : Stand p l e R s m args below meth c T locs cells slots) (hx : p.tables.exec = Jvm.exec) (hlk : meth.locks = false) {pc : Nat} {Ls : Array Slot} {z : Int32} {rest : List Value} (hret : meth.sig.returnType = some .int) (hd : decode c.code pc = .ok (.ireturn, 1))
    (hC : cells ≤ C) (hN : slots ≤ N) (hQ : Q (some (.int z)) T.heap locs) : Go p e below (Dn below s Q C N) (T.setTop (mkF m pc Ls (.int z :: rest))) := by
  obtain ⟨fs, hr, hrun, hended, hW, hsame⟩ := X.leave (v := some (.int z)) (fun h => by rw [hret] at h; cases h) hlk
  refine ⟨_, ?_, _, _, hrun, hended, hQ, ⟨_, rfl⟩, hW, hsame.mono hC hN⟩
  have hm' : T.vm.method? m = some meth := X.method'
  have hn : narrow .int (.int z) = .int z := rfl
  show Steps p.tables e below (T.setTop { method := m, pc := pc, locals := Ls, stack := _ :: rest, locked := none }) _
  jvm_step X.here [X.here.top, hx, hd, hm', hret, hn]
  first | (intro acts; rw [hr _ acts rfl rfl rfl]) | rw [hr _ _ rfl rfl rfl]
  exact Steps.refl _
theorem own_retZ (X : Stand p l e R s m args below meth c T locs cells slots) (hx : p.tables.exec = Jvm.exec) (hlk : meth.locks = false) {pc : Nat} {Ls : Array Slot} {z z' : Int32} {rest : List Value} (hret : meth.sig.returnType = some .boolean) (hd : decode c.code pc = .ok (.ireturn, 1))
    (hC : cells ≤ C) (hN : slots ≤ N) (hz : nar .boolean z = z') (hQ : Q (some (.int z')) T.heap locs) : Go p e below (Dn below s Q C N) (T.setTop (mkF m pc Ls (.int z :: rest))) := by
  subst hz
  obtain ⟨fs, hr, hrun, hended, hW, hsame⟩ := X.leave (v := some (.int (nar .boolean z))) (fun h => by rw [hret] at h; cases h) hlk
  exact ⟨_, retN X hx (t := .boolean) hret (by simp) hd hr, _, _, hrun, hended, hQ, ⟨_, rfl⟩, hW, hsame.mono hC hN⟩
theorem own_retJ (X : Stand p l e R s m args below meth c T locs cells slots) (hx : p.tables.exec = Jvm.exec) (hlk : meth.locks = false) {pc : Nat} {Ls : Array Slot} {z : Int64} (hret : meth.sig.returnType = some .long) (hd : decode c.code pc = .ok (.lreturn, 1))
    (hC : cells ≤ C) (hN : slots ≤ N) (hQ : Q (some (.long z)) T.heap locs) : Go p e below (Dn below s Q C N) (T.setTop (mkF m pc Ls [.long z])) := by
  obtain ⟨fs, hr, hrun, hended, hW, hsame⟩ := X.leave (v := some (.long z)) (fun h => by rw [hret] at h; cases h) hlk
  exact ⟨_, X.lreturnOut hx hret hd hr, _, _, hrun, hended, hQ, ⟨_, rfl⟩, hW, hsame.mono hC hN⟩
theorem own_retA (X : Stand p l e R s m args below meth c T locs cells slots) (hx : p.tables.exec = Jvm.exec) (hlk : meth.locks = false) {pc : Nat} {Ls : Array Slot} {w : Value} {t : FieldType} (hw : w.isRef = true) (hret : meth.sig.returnType = some t) (ht : t.isReference = true) (hd : decode c.code pc = .ok (.areturn, 1))
    (hC : cells ≤ C) (hN : slots ≤ N) (hQ : Q (some w) T.heap locs) : Go p e below (Dn below s Q C N) (T.setTop (mkF m pc Ls [w])) := by
  obtain ⟨fs, hr, hrun, hended, hW, hsame⟩ := X.leave (v := some w) (fun h => by rw [hret] at h; cases h) hlk
  exact ⟨_, X.areturnOut hx hw hret ht hd hr, _, _, hrun, hended, hQ, ⟨_, rfl⟩, hW, hsame.mono hC hN⟩
theorem own_retV (X : Stand p l e R s m args below meth c T locs cells slots) (hx : p.tables.exec = Jvm.exec) (hlk : meth.locks = false) {pc : Nat} {Ls : Array Slot} (hret : meth.sig.returnType = none) (hd : decode c.code pc = .ok (.return_, 1))
    (hC : cells ≤ C) (hN : slots ≤ N) (hQ : Q none T.heap locs) : Go p e below (Dn below s Q C N) (T.setTop (mkF m pc Ls [])) := by
  obtain ⟨fs, hr, hrun, hended, hW, hsame⟩ := X.leave (v := none) (fun _ => rfl) hlk
  exact ⟨_, X.returnOut hx hret hd hr, _, _, hrun, hended, hQ, ⟨_, rfl⟩, hW, hsame.mono hC hN⟩
theorem own_lrem {g : JFrame} {target : State} (X : Stand p l e R s m args below meth c T locs cells slots) (hx : p.tables.exec = Jvm.exec) (hg : g.method = m) {x y : Int64} {rest : List Value} (hd : decode c.code g.pc = .ok (.lrem, 1)) (hs : g.stack = .long y :: .long x :: rest) (hy : y ≠ 0)
    (hr : Steps p.tables e below (T.setTop { g with pc := g.pc + 1, stack := .long (x % y) :: rest }) target) : Steps p.tables e below (T.setTop g) target := by
  have q : x - x / y * y = x % y := lrem_mod x y
  exact XS.lrem X.here hx hg hd hs hy (by rw [q]; exact hr)
/-- what a body's walk is handed -/
theorem own_met {x : MethodName} {code : ByteArray} {maxL : Nat} {ret : Option FieldType} {ws : List Jvm.Cond} {as' : Array Value} {L0 : Array Slot} {Z : State} {h0 : Heap} (hpl : plainFor x = true) (hef : ∀ m, entryFrame m as' maxL = mkF m 0 L0 [])
    (body : ∀ (p : Program) (e : Env) (s : State) (m : MethodId) (below : List Frame) (meth : Method) (c : Code) (T : State), p.tables.exec = Jvm.exec → c.code = code → c.maxLocals = maxL → s.vm.findClass x.cls = some m.cls → meth.name = x.name → meth.sig.returnType = ret → meth.locks = false → Z.Warmed39 s.vm →
      Stand p l e R s m as' below meth c T [] 0 0 → T.heap = h0 → Go p e below (Dn below s Q R.cells R.slots) (T.setTop (mkF m 0 L0 []))) :
    MetFree l x (head1 (Jvm.Cond.code x code maxL ret :: ws) R) (fun a U => a = as' ∧ Z.Warmed39 U.vm ∧ U.heap = h0) (fun _ _ _ _ _ => True) (fun _ U o U' => ∃ v L, o = .returned v ∧ Q v U'.heap L ∧ FrameEnd U o U' L R.cells R.slots) := by
  refine MetFree.of_bodySF hpl hisR ?_
  intro p e s m args below meth c s₁ Bd hml0 hP hK
  obtain ⟨rfl, hZ, hh⟩ := hP
  obtain ⟨t, h1, v, L, h2, h3, h4, h5⟩ := body p e s m below meth c s₁ Bd.exec Bd.bytes hml0 (findClass_of_methodNamed Bd.named) (name_of_methodNamed Bd.named Bd.method).1 Bd.returns (BodyLoose.notSynchronized Bd) hZ (Stand.of_body Bd) (by rw [← hh, Bd.state]; rfl)
  exact ⟨t, .returned v, castTop (hef m) h1, h2, h3, v, L, rfl, h4, h5⟩
section Calls
variable {Z : State} {a0 : Array Value} {own : String} {idx : Nat} {y : MethodName} {bytes : ByteArray} {maxL W : Nat} {ret : Option FieldType} {rm : Room} {as' : Array Value} {h : Heap}
/-- a static call by the callee's contract -/
theorem own_callS (X : Stand p l e R s m args below meth c T locs cells slots) (hx : p.tables.exec = Jvm.exec) (hZ : Z.Warmed39 s.vm) (hown : s.vm.findClass own = some m.cls) (eT : T.heap = h)
    (w1 : (Jvm.Cond.methodLink own idx y).before a0 Z = true) (w2 : (Jvm.Cond.static y).before a0 Z = true) (w3 : (Jvm.Cond.initialized y.cls).before a0 Z = true) (w4 : (Jvm.Cond.code y bytes maxL ret).before a0 Z = true)
    (hM : MetFree l y (head1 [Jvm.Cond.code y bytes maxL ret] rm) (fun a U => a = as' ∧ Z.Warmed39 U.vm ∧ U.heap = h) (fun _ _ _ _ _ => True) (fun _ U o U' => ∃ v L, o = .returned v ∧ Q v U'.heap L ∧ FrameEnd U o U' L rm.cells rm.slots))
    (hy : y.cls ≠ "java/lang/invoke/MethodHandle" ∧ y.cls ≠ "java/lang/invoke/VarHandle") (hf : rm.frames + 1 ≤ R.frames) (hl : W + (maxL + 11) + rm.locals ≤ R.locals) (hc : cells + rm.cells ≤ R.cells) (hs : slots + rm.slots ≤ R.slots)
    {g : JFrame} (hg : g.method = m) (hsize : g.locals.size = c.maxLocals) {argsL rest : List Value} (hst : g.stack = argsL.reverse ++ rest) (has : argsL.toArray = as') (hlen : ∀ sig, parseMethodDescriptor y.desc = some sig → argsL.length = sig.parameters.length)
    (hW : 2 * g.monitorRoom + (rest.map fun v => v.category).sum ≤ W) (hd : decode c.code g.pc = .ok (.invokestatic idx, 3))
    (k : ∀ v T' L, Stand p l e R s m args below meth c T' (locs ++ L) (cells + rm.cells) (slots + rm.slots) → Q v T'.heap L → Go p e below K (T'.setTop { g with pc := g.pc + 3, stack := v.toList ++ rest })) : Go p e below K (T.setTop g) := by
  obtain ⟨v, _, ⟨T', L', k', n'⟩, -, X', ⟨Lc, hQ, l1, y1, z1⟩, st⟩ := Jvm.LawKit.callS X hx (y := y) hown (mvT hZ w1) (mvT hZ w2) (mvT hZ w3) (mvT hZ w4) hy (backOf (W := W) hM hZ w4 w3 hf hl) hg hsize hlen hst hW hd (fun _ _ => ⟨has, eT, hc, hs⟩)
  dsimp only [Pt.U, Pt.locs, Pt.cells, Pt.slots] at X' l1 y1 z1 st hQ
  subst l1 y1 z1
  exact go st (k _ _ _ X' hQ)
/-- a constructor by its contract -/
theorem own_callC (X : Stand p l e R s m args below meth c T locs cells slots) (hx : p.tables.exec = Jvm.exec) (hZ : Z.Warmed39 s.vm) (hown : s.vm.findClass own = some m.cls) (eT : T.heap = h)
    (w1 : (Jvm.Cond.methodLink own idx y).before a0 Z = true) (w2 : (Jvm.Cond.instanceMethod y).before a0 Z = true) (w3 : (Jvm.Cond.initialized y.cls).before a0 Z = true) (w4 : (Jvm.Cond.code y bytes maxL none).before a0 Z = true)
    (hM : MetFree l y (head1 [Jvm.Cond.code y bytes maxL none] rm) (fun a U => a = as' ∧ Z.Warmed39 U.vm ∧ U.heap = h) (fun _ _ _ _ _ => True) (fun _ U o U' => ∃ v L, o = .returned v ∧ Q v U'.heap L ∧ FrameEnd U o U' L rm.cells rm.slots))
    (hyn : y.name = "<init>") (hy : y.cls ≠ "java/lang/invoke/MethodHandle" ∧ y.cls ≠ "java/lang/invoke/VarHandle") (hf : rm.frames + 1 ≤ R.frames) (hl : W + (maxL + 11) + rm.locals ≤ R.locals) (hc : cells + rm.cells ≤ R.cells) (hs : slots + rm.slots ≤ R.slots)
    {g : JFrame} (hg : g.method = m) (hsize : g.locals.size = c.maxLocals) {a : Addr} {argsL rest : List Value} (hst : g.stack = argsL.reverse ++ .ref a :: rest) (has : (.ref a :: argsL).toArray = as') (hlen : ∀ sig, parseMethodDescriptor y.desc = some sig → argsL.length = sig.parameters.length)
    (hW : 2 * g.monitorRoom + (rest.map fun v => v.category).sum ≤ W) (hd : decode c.code g.pc = .ok (.invokespecial idx, 3))
    (k : ∀ v T' L, Stand p l e R s m args below meth c T' (locs ++ L) (cells + rm.cells) (slots + rm.slots) → Q v T'.heap L → Go p e below K (T'.setTop { g with pc := g.pc + 3, stack := v.toList ++ rest })) : Go p e below K (T.setTop g) := by
  obtain ⟨v, _, ⟨T', L', k', n'⟩, -, X', ⟨Lc, hQ, l1, y1, z1⟩, st⟩ := X.specialBack hx (y := y) hyn hown (mvT hZ w1) (mvT hZ w2) (mvT hZ w4) hy (backOf (W := W) hM hZ w4 w3 hf hl) hg hsize (Steps.refl _) (a := a) hlen hst hW hd (fun _ _ => ⟨has, eT, hc, hs⟩)
  dsimp only [Pt.U, Pt.locs, Pt.cells, Pt.slots] at X' l1 y1 z1 st hQ
  subst l1 y1 z1
  exact go (fun t q => st.trans q) (k _ _ _ X' hQ)
/-- a virtual call of a method that the receiver's class declares itself -/
theorem own_callV (X : Stand p l e R s m args below meth c T locs cells slots) (hx : p.tables.exec = Jvm.exec) (hZ : Z.Warmed39 s.vm) (hown : s.vm.findClass own = some m.cls) (eT : T.heap = h)
    (w1 : (Jvm.Cond.methodLink own idx y).before a0 Z = true) (w2 : (Jvm.Cond.declares y).before a0 Z = true) (w5 : (Jvm.Cond.instanceMethod y).before a0 Z = true) (w6 : (Jvm.Cond.selects y.cls y y).before a0 Z = true) (w3 : (Jvm.Cond.initialized y.cls).before a0 Z = true) (w4 : (Jvm.Cond.code y bytes maxL ret).before a0 Z = true)
    (hM : MetFree l y (head1 [Jvm.Cond.code y bytes maxL ret] rm) (fun a U => a = as' ∧ Z.Warmed39 U.vm ∧ U.heap = h) (fun _ _ _ _ _ => True) (fun _ U o U' => ∃ v L, o = .returned v ∧ Q v U'.heap L ∧ FrameEnd U o U' L rm.cells rm.slots))
    (hy : y.cls ≠ "java/lang/invoke/MethodHandle" ∧ y.cls ≠ "java/lang/invoke/VarHandle") (hf : rm.frames + 1 ≤ R.frames) (hl : W + (maxL + 11) + rm.locals ≤ R.locals) (hc : cells + rm.cells ≤ R.cells) (hs : slots + rm.slots ≤ R.slots)
    {a : Addr} (E : Exa Z h a y.cls) {g : JFrame} (hg : g.method = m) (hsize : g.locals.size = c.maxLocals) {argsL rest : List Value} (hst : g.stack = argsL.reverse ++ .ref a :: rest) (has : (.ref a :: argsL).toArray = as') (hlen : ∀ sig, parseMethodDescriptor y.desc = some sig → argsL.length = sig.parameters.length)
    (hW : 2 * g.monitorRoom + (rest.map fun v => v.category).sum ≤ W) (hd : decode c.code g.pc = .ok (.invokevirtual idx, 3))
    (k : ∀ v T' L, Stand p l e R s m args below meth c T' (locs ++ L) (cells + rm.cells) (slots + rm.slots) → Q v T'.heap L → Go p e below K (T'.setTop { g with pc := g.pc + 3, stack := v.toList ++ rest })) : Go p e below K (T.setTop g) := by
  obtain ⟨cq, kq, qa, qb, qc⟩ := isOf hZ eT E
  obtain ⟨v, _, ⟨T', L', k', n'⟩, -, X', ⟨Lc, hQ, l1, y1, z1⟩, st⟩ := X.virtualBack hx (y := y) (z := y) hown (mvT hZ w1) (mvT hZ w2) (notFace_of_selects (args := #[]) (mvT hZ w6)) (mvT hZ w6) (mvT hZ w5) hy (backOf (W := W) hM hZ w4 w3 hf hl) qa qc hg hsize (Steps.refl _) hlen hst hW hd (fun _ _ => ⟨has, eT, hc, hs⟩)
  dsimp only [Pt.U, Pt.locs, Pt.cells, Pt.slots] at X' l1 y1 z1 st hQ
  subst l1 y1 z1
  exact go (fun t q => st.trans q) (k _ _ _ X' hQ)
end Calls
end Own
/-- a body that writes nothing: it returns r, the heap is what it was -/
def QP (r : Option Value) (h0 : Heap) (n0 : Nat) (v : Option Value) (h : Heap) (L : List Loc) : Prop := v = r ∧ Fr n0 L ∧ h = h0

def f1 (q1 : Int64) (q2 : Int64) : Int64 := (if q2 < q1 then q2 else q1)
theorem d1_0 : decode jdk_29_method_70_code 0 = .ok (.lload_n 0, 1) := by decide +kernel
theorem d1_1 : decode jdk_29_method_70_code 1 = .ok (.lload_n 2, 1) := by decide +kernel
theorem d1_2 : decode jdk_29_method_70_code 2 = .ok (.lcmp, 1) := by decide +kernel
theorem d1_3 : decode jdk_29_method_70_code 3 = .ok (.ifCond .gt 7, 3) := by decide +kernel
theorem d1_6 : decode jdk_29_method_70_code 6 = .ok (.lload_n 0, 1) := by decide +kernel
theorem d1_7 : decode jdk_29_method_70_code 7 = .ok (.goto 4, 3) := by decide +kernel
theorem d1_10 : decode jdk_29_method_70_code 10 = .ok (.lload_n 2, 1) := by decide +kernel
theorem d1_11 : decode jdk_29_method_70_code 11 = .ok (.lreturn, 1) := by decide +kernel
theorem ef_1 (m : MethodId) (x0 : Int64) (x1 : Int64) : entryFrame m #[(.long x0), (.long x1)] 4 = mkF m 0 #[.val (.long x0), .second, .val (.long x1), .second] [] := by first | (simp [entryFrame, mkF, argsToLocals, Value.category]; done) | rfl
set_option maxRecDepth 65536 in
set_option maxHeartbeats 40000000 in
theorem rm1 (l : Launch) (Z : State) (a0 : Array Value) (hw : ∀ d ∈ tables_1, d.before a0 Z = true) (ws : List Jvm.Cond) (q1 : Int64) (q2 : Int64) (h0 : Heap) (n0 : Nat) :
    MetFree l (⟨"java/lang/Math", "min", "(JJ)J"⟩ : MethodName) (head1 (Jvm.Cond.code (⟨"java/lang/Math", "min", "(JJ)J"⟩ : MethodName) jdk_29_method_70_code 4 (some .long) :: ws) ({ frames := 0, cells := 0, slots := 0, locals := 0 } : Room)) (fun a U => a = #[(.long q1), (.long q2)] ∧ Z.Warmed39 U.vm ∧ U.heap = h0) (fun _ _ _ _ _ => True) (fun _ U o U' => ∃ v L, o = .returned v ∧ (QP (some (.long (f1 q1 q2))) h0 n0) v U'.heap L ∧ FrameEnd U o U' L ({ frames := 0, cells := 0, slots := 0, locals := 0 } : Room).cells ({ frames := 0, cells := 0, slots := 0, locals := 0 } : Room).slots) := by
  refine own_met (Jvm.Free.JP.mathPlain rfl (by decide +kernel)) (fun m => ef_1 m q1 q2) ?_
  intro p e s m below meth c T0 hx hby hml hown hnm hret hlk hZ X0 e0
  have hown : s.vm.findClass "java/lang/Math" = some m.cls := hown
  have hnm : meth.name = "min" := hnm
  have hret : meth.sig.returnType = some .long := hret
  have N0 := Fr.nil n0
  show Go p e below _ (T0.setTop (mkF m 0 #[.val (.long q1), .second, .val (.long q2), .second] []))
  refine go (fun _ q => XS.lloadN X0.here hx rfl (hb hby d1_0) rfl q) ?_
  show Go p e below _ (T0.setTop (mkF m 1 #[.val (.long q1), .second, .val (.long q2), .second] [(.long q1)]))
  refine go (fun _ q => XS.lloadN X0.here hx rfl (hb hby d1_1) rfl q) ?_
  show Go p e below _ (T0.setTop (mkF m 2 #[.val (.long q1), .second, .val (.long q2), .second] [(.long q2), (.long q1)]))
  refine go (fun _ q => XS.lcmp X0.here hx rfl (hb hby d1_2) rfl q) ?_
  show Go p e below _ (T0.setTop (mkF m 3 #[.val (.long q1), .second, .val (.long q2), .second] [(.int (lcmpW q1 q2))]))
  suffices hj1 : ∀ (z3 : Int64), z3 = (if q2 < q1 then q2 else q1) → Go p e below (Dn below s ((QP (some (.long (f1 q1 q2))) h0 n0)) ({ frames := 0, cells := 0, slots := 0, locals := 0 } : Room).cells ({ frames := 0, cells := 0, slots := 0, locals := 0 } : Room).slots) (T0.setTop (mkF m 11 #[.val (.long q1), .second, .val (.long q2), .second] [(.long z3)])) by
    by_cases hc2 : q2 < q1
    · refine go (fun _ q => XS.ifYes X0.here hx rfl (pc0 := 3) (pc' := 10) rfl (hb hby d1_3) rfl ((if0 _ _).trans (tlt ((lw_gt _ _).mpr hc2)).2.2.1) (by decide) (by decide) q) ?_
      show Go p e below _ (T0.setTop (mkF m 10 #[.val (.long q1), .second, .val (.long q2), .second] []))
      refine go (fun _ q => XS.lloadN X0.here hx rfl (hb hby d1_10) rfl q) ?_
      show Go p e below _ (T0.setTop (mkF m 11 #[.val (.long q1), .second, .val (.long q2), .second] [(.long q2)]))
      exact hj1 _ (by rw [if_pos hc2])
    · refine go (fun _ q => XS.ifNo X0.here hx rfl (hb hby d1_3) rfl ((if0 _ _).trans (flt (fun q => hc2 ((lw_gt _ _).mp q))).2.2.1) q) ?_
      show Go p e below _ (T0.setTop (mkF m 6 #[.val (.long q1), .second, .val (.long q2), .second] []))
      refine go (fun _ q => XS.lloadN X0.here hx rfl (hb hby d1_6) rfl q) ?_
      show Go p e below _ (T0.setTop (mkF m 7 #[.val (.long q1), .second, .val (.long q2), .second] [(.long q1)]))
      refine go (fun _ q => XS.goto X0.here hx rfl (pc0 := 7) (pc' := 11) rfl (hb hby d1_7) (by decide) (by decide) q) ?_
      show Go p e below _ (T0.setTop (mkF m 11 #[.val (.long q1), .second, .val (.long q2), .second] [(.long q1)]))
      exact hj1 _ (by rw [if_neg hc2])
  intro z3 hz3
  show Go p e below _ (T0.setTop (mkF m 11 #[.val (.long q1), .second, .val (.long q2), .second] [(.long z3)]))
  exact own_retJ X0 hx hlk hret (hb hby d1_11) (by decide) (by decide) ⟨congrArg (fun z => some (Value.long z)) (by rw [f1, hz3]), N0, e0⟩
def f2 (q1 : Int64) (q2 : Int64) : Int64 := (if q1 < q2 then q2 else q1)
theorem d2_0 : decode jdk_29_method_66_code 0 = .ok (.lload_n 0, 1) := by decide +kernel
theorem d2_1 : decode jdk_29_method_66_code 1 = .ok (.lload_n 2, 1) := by decide +kernel
theorem d2_2 : decode jdk_29_method_66_code 2 = .ok (.lcmp, 1) := by decide +kernel
theorem d2_3 : decode jdk_29_method_66_code 3 = .ok (.ifCond .lt 7, 3) := by decide +kernel
theorem d2_6 : decode jdk_29_method_66_code 6 = .ok (.lload_n 0, 1) := by decide +kernel
theorem d2_7 : decode jdk_29_method_66_code 7 = .ok (.goto 4, 3) := by decide +kernel
theorem d2_10 : decode jdk_29_method_66_code 10 = .ok (.lload_n 2, 1) := by decide +kernel
theorem d2_11 : decode jdk_29_method_66_code 11 = .ok (.lreturn, 1) := by decide +kernel
theorem ef_2 (m : MethodId) (x0 : Int64) (x1 : Int64) : entryFrame m #[(.long x0), (.long x1)] 4 = mkF m 0 #[.val (.long x0), .second, .val (.long x1), .second] [] := by first | (simp [entryFrame, mkF, argsToLocals, Value.category]; done) | rfl
set_option maxRecDepth 65536 in
set_option maxHeartbeats 40000000 in
theorem rm2 (l : Launch) (Z : State) (a0 : Array Value) (hw : ∀ d ∈ tables_1, d.before a0 Z = true) (ws : List Jvm.Cond) (q1 : Int64) (q2 : Int64) (h0 : Heap) (n0 : Nat) :
    MetFree l (⟨"java/lang/Math", "max", "(JJ)J"⟩ : MethodName) (head1 (Jvm.Cond.code (⟨"java/lang/Math", "max", "(JJ)J"⟩ : MethodName) jdk_29_method_66_code 4 (some .long) :: ws) ({ frames := 0, cells := 0, slots := 0, locals := 0 } : Room)) (fun a U => a = #[(.long q1), (.long q2)] ∧ Z.Warmed39 U.vm ∧ U.heap = h0) (fun _ _ _ _ _ => True) (fun _ U o U' => ∃ v L, o = .returned v ∧ (QP (some (.long (f2 q1 q2))) h0 n0) v U'.heap L ∧ FrameEnd U o U' L ({ frames := 0, cells := 0, slots := 0, locals := 0 } : Room).cells ({ frames := 0, cells := 0, slots := 0, locals := 0 } : Room).slots) := by
  refine own_met (Jvm.Free.JP.mathPlain rfl (by decide +kernel)) (fun m => ef_2 m q1 q2) ?_
  intro p e s m below meth c T0 hx hby hml hown hnm hret hlk hZ X0 e0
  have hown : s.vm.findClass "java/lang/Math" = some m.cls := hown
  have hnm : meth.name = "max" := hnm
  have hret : meth.sig.returnType = some .long := hret
  have N0 := Fr.nil n0
  show Go p e below _ (T0.setTop (mkF m 0 #[.val (.long q1), .second, .val (.long q2), .second] []))
  refine go (fun _ q => XS.lloadN X0.here hx rfl (hb hby d2_0) rfl q) ?_
  show Go p e below _ (T0.setTop (mkF m 1 #[.val (.long q1), .second, .val (.long q2), .second] [(.long q1)]))
  refine go (fun _ q => XS.lloadN X0.here hx rfl (hb hby d2_1) rfl q) ?_
  show Go p e below _ (T0.setTop (mkF m 2 #[.val (.long q1), .second, .val (.long q2), .second] [(.long q2), (.long q1)]))
  refine go (fun _ q => XS.lcmp X0.here hx rfl (hb hby d2_2) rfl q) ?_
  show Go p e below _ (T0.setTop (mkF m 3 #[.val (.long q1), .second, .val (.long q2), .second] [(.int (lcmpW q1 q2))]))
  suffices hj1 : ∀ (z3 : Int64), z3 = (if q1 < q2 then q2 else q1) → Go p e below (Dn below s ((QP (some (.long (f2 q1 q2))) h0 n0)) ({ frames := 0, cells := 0, slots := 0, locals := 0 } : Room).cells ({ frames := 0, cells := 0, slots := 0, locals := 0 } : Room).slots) (T0.setTop (mkF m 11 #[.val (.long q1), .second, .val (.long q2), .second] [(.long z3)])) by
    by_cases hc2 : q1 < q2
    · refine go (fun _ q => XS.ifYes X0.here hx rfl (pc0 := 3) (pc' := 10) rfl (hb hby d2_3) rfl ((if0 _ _).trans (tlt ((lw_lt _ _).mpr hc2)).1) (by decide) (by decide) q) ?_
      show Go p e below _ (T0.setTop (mkF m 10 #[.val (.long q1), .second, .val (.long q2), .second] []))
      refine go (fun _ q => XS.lloadN X0.here hx rfl (hb hby d2_10) rfl q) ?_
      show Go p e below _ (T0.setTop (mkF m 11 #[.val (.long q1), .second, .val (.long q2), .second] [(.long q2)]))
      exact hj1 _ (by rw [if_pos hc2])
    · refine go (fun _ q => XS.ifNo X0.here hx rfl (hb hby d2_3) rfl ((if0 _ _).trans (flt (fun q => hc2 ((lw_lt _ _).mp q))).1) q) ?_
      show Go p e below _ (T0.setTop (mkF m 6 #[.val (.long q1), .second, .val (.long q2), .second] []))
      refine go (fun _ q => XS.lloadN X0.here hx rfl (hb hby d2_6) rfl q) ?_
      show Go p e below _ (T0.setTop (mkF m 7 #[.val (.long q1), .second, .val (.long q2), .second] [(.long q1)]))
      refine go (fun _ q => XS.goto X0.here hx rfl (pc0 := 7) (pc' := 11) rfl (hb hby d2_7) (by decide) (by decide) q) ?_
      show Go p e below _ (T0.setTop (mkF m 11 #[.val (.long q1), .second, .val (.long q2), .second] [(.long q1)]))
      exact hj1 _ (by rw [if_neg hc2])
  intro z3 hz3
  show Go p e below _ (T0.setTop (mkF m 11 #[.val (.long q1), .second, .val (.long q2), .second] [(.long z3)]))
  exact own_retJ X0 hx hlk hret (hb hby d2_11) (by decide) (by decide) ⟨congrArg (fun z => some (Value.long z)) (by rw [f2, hz3]), N0, e0⟩
theorem d4_0 : decode jdk_30_method_1_code 0 = .ok (.aload_n 0, 1) := by decide +kernel
theorem d4_1 : decode jdk_30_method_1_code 1 = .ok (.invokespecial 1, 3) := by decide +kernel
theorem d4_4 : decode jdk_30_method_1_code 4 = .ok (.return_, 1) := by decide +kernel
theorem pn_4 : plainName "java/lang/Record" = true := by first | (simp [plainName, overriddenIn]; done) | decide +kernel
theorem ef_4 (m : MethodId) (x0 : Addr) : entryFrame m #[(.ref x0)] 1 = mkF m 0 #[.val (.ref x0)] [] := by first | (simp [entryFrame, mkF, argsToLocals, Value.category]; done) | rfl
set_option maxRecDepth 65536 in
set_option maxHeartbeats 40000000 in
theorem rm4 (l : Launch) (Z : State) (a0 : Array Value) (hw : ∀ d ∈ tables_1, d.before a0 Z = true) (ws : List Jvm.Cond) (a1 : Addr) (h0 : Heap) (n0 : Nat) :
    MetFree l (⟨"java/lang/Record", "<init>", "()V"⟩ : MethodName) (head1 (Jvm.Cond.code (⟨"java/lang/Record", "<init>", "()V"⟩ : MethodName) jdk_30_method_1_code 1 none :: ws) ({ frames := 1, cells := 0, slots := 0, locals := 12 } : Room)) (fun a U => a = #[(.ref a1)] ∧ Z.Warmed39 U.vm ∧ U.heap = h0) (fun _ _ _ _ _ => True) (fun _ U o U' => ∃ v L, o = .returned v ∧ (QP none h0 n0) v U'.heap L ∧ FrameEnd U o U' L ({ frames := 1, cells := 0, slots := 0, locals := 12 } : Room).cells ({ frames := 1, cells := 0, slots := 0, locals := 12 } : Room).slots) := by
  refine own_met (plainFor_of_name pn_4) (fun m => ef_4 m a1) ?_
  intro p e s m below meth c T0 hx hby hml hown hnm hret hlk hZ X0 e0
  have hown : s.vm.findClass "java/lang/Record" = some m.cls := hown
  have hnm : meth.name = "<init>" := hnm
  have hret : meth.sig.returnType = none := hret
  have N0 := Fr.nil n0
  show Go p e below _ (T0.setTop (mkF m 0 #[.val (.ref a1)] []))
  refine go (fun _ q => XS.aloadN X0.here hx rfl (hb hby d4_0) rfl rfl q) ?_
  show Go p e below _ (T0.setTop (mkF m 1 #[.val (.ref a1)] [(.ref a1)]))
  obtain ⟨T1, X1, e1, st1⟩ := initO X0 hx hZ hown (hw _ (List.mem_of_getElem? (i := 19) rfl)) (hw _ (List.mem_of_getElem? (i := 20) rfl)) (hw _ (List.mem_of_getElem? (i := 21) rfl)) e0 (g := (mkF m 1 #[.val (.ref a1)] [(.ref a1)])) rfl (by rw [hml]; rfl) rfl (hb hby d4_1) (by decide) (W := 0) (by show 2 * 0 + _ ≤ _; exact Nat.le_of_eq rfl) (by decide)
  refine go st1 ?_
  show Go p e below _ (T1.setTop (mkF m 4 #[.val (.ref a1)] []))
  exact own_retV X1 hx hlk hret (hb hby d4_4) (by decide) (by decide) ⟨rfl, N0, e1⟩
def Q3 (Z : State) (a1 : Addr) (q2 : Int64) (q3 : Int64) (h0 : Heap) (n0 : Nat) (v : Option Value) (h : Heap) (L : List Loc) : Prop := v = none ∧ Fr n0 L ∧ Keep h0 h [a1] ∧ Exa Z h a1 "com/example/upsert/upsert/restapi/ByteRange" ∧ Fld Z h a1 "com/example/upsert/upsert/restapi/ByteRange" "first" "J" (.long q2) ∧ Fld Z h a1 "com/example/upsert/upsert/restapi/ByteRange" "last" "J" (.long q3)
theorem d3_0 : decode prog_53_method_1_code 0 = .ok (.aload_n 0, 1) := by decide +kernel
theorem d3_1 : decode prog_53_method_1_code 1 = .ok (.invokespecial 1, 3) := by decide +kernel
theorem d3_4 : decode prog_53_method_1_code 4 = .ok (.aload_n 0, 1) := by decide +kernel
theorem d3_5 : decode prog_53_method_1_code 5 = .ok (.lload_n 1, 1) := by decide +kernel
theorem d3_6 : decode prog_53_method_1_code 6 = .ok (.putfield 7, 3) := by decide +kernel
theorem d3_9 : decode prog_53_method_1_code 9 = .ok (.aload_n 0, 1) := by decide +kernel
theorem d3_10 : decode prog_53_method_1_code 10 = .ok (.lload_n 3, 1) := by decide +kernel
theorem d3_11 : decode prog_53_method_1_code 11 = .ok (.putfield 13, 3) := by decide +kernel
theorem d3_14 : decode prog_53_method_1_code 14 = .ok (.return_, 1) := by decide +kernel
theorem pd_3_0 : parseMethodDescriptor "()V" = some ⟨[], none⟩ := by decide +kernel
theorem pn_3 : plainName "com/example/upsert/upsert/restapi/ByteRange" = true := by first | (simp [plainName, overriddenIn]; done) | decide +kernel
theorem ef_3 (m : MethodId) (x0 : Addr) (x1 : Int64) (x2 : Int64) : entryFrame m #[(.ref x0), (.long x1), (.long x2)] 5 = mkF m 0 #[.val (.ref x0), .val (.long x1), .second, .val (.long x2), .second] [] := by first | (simp [entryFrame, mkF, argsToLocals, Value.category]; done) | rfl
set_option maxRecDepth 65536 in
set_option maxHeartbeats 40000000 in
theorem rm3 (l : Launch) (Z : State) (a0 : Array Value) (hw : ∀ d ∈ tables_1, d.before a0 Z = true) (ws : List Jvm.Cond) (a1 : Addr) (q2 : Int64) (q3 : Int64) (h0 : Heap) (n0 : Nat) {u_first u_last : Value} (Z0 : n0 ≤ h0.size) (g_a1 : n0 ≤ a1) (E_a1 : Exa Z h0 a1 "com/example/upsert/upsert/restapi/ByteRange") (F_first_a1 : Fld Z h0 a1 "com/example/upsert/upsert/restapi/ByteRange" "first" "J" u_first) (F_last_a1 : Fld Z h0 a1 "com/example/upsert/upsert/restapi/ByteRange" "last" "J" u_last) :
    MetFree l (⟨"com/example/upsert/upsert/restapi/ByteRange", "<init>", "(JJ)V"⟩ : MethodName) (head1 (Jvm.Cond.code (⟨"com/example/upsert/upsert/restapi/ByteRange", "<init>", "(JJ)V"⟩ : MethodName) prog_53_method_1_code 5 none :: ws) ({ frames := 2, cells := 0, slots := 0, locals := 24 } : Room)) (fun a U => a = #[(.ref a1), (.long q2), (.long q3)] ∧ Z.Warmed39 U.vm ∧ U.heap = h0) (fun _ _ _ _ _ => True) (fun _ U o U' => ∃ v L, o = .returned v ∧ (Q3 Z a1 q2 q3 h0 n0) v U'.heap L ∧ FrameEnd U o U' L ({ frames := 2, cells := 0, slots := 0, locals := 24 } : Room).cells ({ frames := 2, cells := 0, slots := 0, locals := 24 } : Room).slots) := by
  refine own_met (plainFor_of_name pn_3) (fun m => ef_3 m a1 q2 q3) ?_
  intro p e s m below meth c T0 hx hby hml hown hnm hret hlk hZ X0 e0
  have hown : s.vm.findClass "com/example/upsert/upsert/restapi/ByteRange" = some m.cls := hown
  have hnm : meth.name = "<init>" := hnm
  have hret : meth.sig.returnType = none := hret
  have N0 := Fr.nil n0
  show Go p e below _ (T0.setTop (mkF m 0 #[.val (.ref a1), .val (.long q2), .second, .val (.long q3), .second] []))
  refine go (fun _ q => XS.aloadN X0.here hx rfl (hb hby d3_0) rfl rfl q) ?_
  show Go p e below _ (T0.setTop (mkF m 1 #[.val (.ref a1), .val (.long q2), .second, .val (.long q3), .second] [(.ref a1)]))
  refine own_callC X0 hx hZ hown e0 (hw _ (List.mem_of_getElem? (i := 14) rfl)) (hw _ (List.mem_of_getElem? (i := 15) rfl)) (hw _ (List.mem_of_getElem? (i := 17) rfl)) (hw _ (List.mem_of_getElem? (i := 18) rfl)) (rm4 l Z a0 hw [] a1 h0 n0) rfl (by decide) (by decide) (W := 0) (by decide) (by decide) (by decide) (a := a1) (g := (mkF m 1 #[.val (.ref a1), .val (.long q2), .second, .val (.long q3), .second] [(.ref a1)])) rfl (by rw [hml]; rfl) (argsL := []) (rest := []) rfl rfl (lenOf pd_3_0 rfl) (by show 2 * 0 + _ ≤ _; exact Nat.le_of_eq rfl) (hb hby d3_1) ?_
  rintro _ T1 L1 X1 ⟨rfl, N1q, e1⟩
  have N1 := Fr.app N0 N1q
  show Go p e below _ (T1.setTop (mkF m 4 #[.val (.ref a1), .val (.long q2), .second, .val (.long q3), .second] []))
  refine go (fun _ q => XS.aloadN X1.here hx rfl (hb hby d3_4) rfl rfl q) ?_
  show Go p e below _ (T1.setTop (mkF m 5 #[.val (.ref a1), .val (.long q2), .second, .val (.long q3), .second] [(.ref a1)]))
  refine go (fun _ q => XS.lloadN X1.here hx rfl (hb hby d3_5) rfl q) ?_
  show Go p e below _ (T1.setTop (mkF m 6 #[.val (.ref a1), .val (.long q2), .second, .val (.long q3), .second] [(.long q2), (.ref a1)]))
  obtain ⟨T2, h2, X2, e2, W2, st2⟩ := putF X1 hx hZ hown (host := "") (Or.inl (hw _ (List.mem_of_getElem? (i := 22) rfl))) Via.refl e1 F_first_a1 E_a1 (Or.inr ⟨(hw _ (List.mem_of_getElem? (i := 23) rfl)), rfl, hnm⟩) (hw _ (List.mem_of_getElem? (i := 9) rfl)) (ty := .long) (by decide) rfl rfl (g := (mkF m 6 #[.val (.ref a1), .val (.long q2), .second, .val (.long q3), .second] [(.long q2), (.ref a1)])) rfl rfl (hb hby d3_6)
  refine go st2 ?_
  have F_first_a1_2 : Fld Z h2 a1 "com/example/upsert/upsert/restapi/ByteRange" "first" "J" (.long q2) := F_first_a1.same W2
  have E_a1_3 : Exa Z h2 a1 "com/example/upsert/upsert/restapi/ByteRange" := E_a1.wr W2
  have F_last_a1_4 : Fld Z h2 a1 "com/example/upsert/upsert/restapi/ByteRange" "last" "J" u_last := F_last_a1.other W2 (Or.inr (slot_ne (Or.inr (hw _ (List.mem_of_getElem? (i := 25) rfl))) (Or.inr (hw _ (List.mem_of_getElem? (i := 23) rfl))) (by decide) (t := .long) (t' := .long) (by decide) (by decide)))
  have N2 := Fr.snoc X2 N1 g_a1
  have K2 : Keep h0 h2 [a1] := (Keep.refl h0 [a1]).wr W2 (Or.inl (List.mem_of_getElem? (i := 0) rfl))
  have Z2 : n0 ≤ h2.size := Nat.le_trans Z0 (Nat.le_of_eq W2.size.symm)
  show Go p e below _ (T2.setTop (mkF m 9 #[.val (.ref a1), .val (.long q2), .second, .val (.long q3), .second] []))
  refine go (fun _ q => XS.aloadN X2.here hx rfl (hb hby d3_9) rfl rfl q) ?_
  show Go p e below _ (T2.setTop (mkF m 10 #[.val (.ref a1), .val (.long q2), .second, .val (.long q3), .second] [(.ref a1)]))
  refine go (fun _ q => XS.lloadN X2.here hx rfl (hb hby d3_10) rfl q) ?_
  show Go p e below _ (T2.setTop (mkF m 11 #[.val (.ref a1), .val (.long q2), .second, .val (.long q3), .second] [(.long q3), (.ref a1)]))
  obtain ⟨T5, h5, X5, e5, W5, st5⟩ := putF X2 hx hZ hown (host := "") (Or.inl (hw _ (List.mem_of_getElem? (i := 24) rfl))) Via.refl e2 F_last_a1_4 E_a1_3 (Or.inr ⟨(hw _ (List.mem_of_getElem? (i := 25) rfl)), rfl, hnm⟩) (hw _ (List.mem_of_getElem? (i := 9) rfl)) (ty := .long) (by decide) rfl rfl (g := (mkF m 11 #[.val (.ref a1), .val (.long q2), .second, .val (.long q3), .second] [(.long q3), (.ref a1)])) rfl rfl (hb hby d3_11)
  refine go st5 ?_
  have F_last_a1_5 : Fld Z h5 a1 "com/example/upsert/upsert/restapi/ByteRange" "last" "J" (.long q3) := F_last_a1_4.same W5
  have E_a1_6 : Exa Z h5 a1 "com/example/upsert/upsert/restapi/ByteRange" := E_a1_3.wr W5
  have F_first_a1_7 : Fld Z h5 a1 "com/example/upsert/upsert/restapi/ByteRange" "first" "J" (.long q2) := F_first_a1_2.other W5 (Or.inr (slot_ne (Or.inr (hw _ (List.mem_of_getElem? (i := 23) rfl))) (Or.inr (hw _ (List.mem_of_getElem? (i := 25) rfl))) (by decide) (t := .long) (t' := .long) (by decide) (by decide)))
  have N5 := Fr.snoc X5 N2 g_a1
  have K5 : Keep h0 h5 [a1] := K2.wr W5 (Or.inl (List.mem_of_getElem? (i := 0) rfl))
  have Z5 : n0 ≤ h5.size := Nat.le_trans Z2 (Nat.le_of_eq W5.size.symm)
  show Go p e below _ (T5.setTop (mkF m 14 #[.val (.ref a1), .val (.long q2), .second, .val (.long q3), .second] []))
  exact own_retV X5 hx hlk hret (hb hby d3_14) (by decide) (by decide) (by rw [e5]; exact ⟨rfl, N5, K5, E_a1_6, F_first_a1_7, F_last_a1_5⟩)
def f6 (r1 : Int64) (r2 : Int64) : Int64 := ((r2 - r1) + (1 : Int64))
theorem d6_0 : decode prog_53_method_3_code 0 = .ok (.aload_n 0, 1) := by decide +kernel
theorem d6_1 : decode prog_53_method_3_code 1 = .ok (.getfield 13, 3) := by decide +kernel
theorem d6_4 : decode prog_53_method_3_code 4 = .ok (.aload_n 0, 1) := by decide +kernel
theorem d6_5 : decode prog_53_method_3_code 5 = .ok (.getfield 7, 3) := by decide +kernel
theorem d6_8 : decode prog_53_method_3_code 8 = .ok (.lsub, 1) := by decide +kernel
theorem d6_9 : decode prog_53_method_3_code 9 = .ok (.lconst 1, 1) := by decide +kernel
theorem d6_10 : decode prog_53_method_3_code 10 = .ok (.ladd, 1) := by decide +kernel
theorem d6_11 : decode prog_53_method_3_code 11 = .ok (.lreturn, 1) := by decide +kernel
theorem pn_6 : plainName "com/example/upsert/upsert/restapi/ByteRange" = true := by first | (simp [plainName, overriddenIn]; done) | decide +kernel
theorem ef_6 (m : MethodId) (x0 : Addr) : entryFrame m #[(.ref x0)] 1 = mkF m 0 #[.val (.ref x0)] [] := by first | (simp [entryFrame, mkF, argsToLocals, Value.category]; done) | rfl
set_option maxRecDepth 65536 in
set_option maxHeartbeats 40000000 in
theorem rm6 (l : Launch) (Z : State) (a0 : Array Value) (hw : ∀ d ∈ tables_1, d.before a0 Z = true) (ws : List Jvm.Cond) (a1 : Addr) (h0 : Heap) (n0 : Nat) {r1 : Int64} {r2 : Int64} (F_first_a1 : Fld Z h0 a1 "com/example/upsert/upsert/restapi/ByteRange" "first" "J" (.long r1)) (F_last_a1 : Fld Z h0 a1 "com/example/upsert/upsert/restapi/ByteRange" "last" "J" (.long r2)) :
    MetFree l (⟨"com/example/upsert/upsert/restapi/ByteRange", "length", "()J"⟩ : MethodName) (head1 (Jvm.Cond.code (⟨"com/example/upsert/upsert/restapi/ByteRange", "length", "()J"⟩ : MethodName) prog_53_method_3_code 1 (some .long) :: ws) ({ frames := 0, cells := 0, slots := 0, locals := 0 } : Room)) (fun a U => a = #[(.ref a1)] ∧ Z.Warmed39 U.vm ∧ U.heap = h0) (fun _ _ _ _ _ => True) (fun _ U o U' => ∃ v L, o = .returned v ∧ (QP (some (.long (f6 r1 r2))) h0 n0) v U'.heap L ∧ FrameEnd U o U' L ({ frames := 0, cells := 0, slots := 0, locals := 0 } : Room).cells ({ frames := 0, cells := 0, slots := 0, locals := 0 } : Room).slots) := by
  refine own_met (plainFor_of_name pn_6) (fun m => ef_6 m a1) ?_
  intro p e s m below meth c T0 hx hby hml hown hnm hret hlk hZ X0 e0
  have hown : s.vm.findClass "com/example/upsert/upsert/restapi/ByteRange" = some m.cls := hown
  have hnm : meth.name = "length" := hnm
  have hret : meth.sig.returnType = some .long := hret
  have N0 := Fr.nil n0
  show Go p e below _ (T0.setTop (mkF m 0 #[.val (.ref a1)] []))
  refine go (fun _ q => XS.aloadN X0.here hx rfl (hb hby d6_0) rfl rfl q) ?_
  show Go p e below _ (T0.setTop (mkF m 1 #[.val (.ref a1)] [(.ref a1)]))
  obtain ⟨T1, X1, e1, st1⟩ := getF X0 hx hZ hown (host := "") (Or.inl (hw _ (List.mem_of_getElem? (i := 24) rfl))) Via.refl e0 F_last_a1 (g := (mkF m 1 #[.val (.ref a1)] [(.ref a1)])) rfl rfl (hb hby d6_1)
  refine go st1 ?_
  show Go p e below _ (T1.setTop (mkF m 4 #[.val (.ref a1)] [(.long r2)]))
  refine go (fun _ q => XS.aloadN X1.here hx rfl (hb hby d6_4) rfl rfl q) ?_
  show Go p e below _ (T1.setTop (mkF m 5 #[.val (.ref a1)] [(.ref a1), (.long r2)]))
  obtain ⟨T2, X2, e2, st2⟩ := getF X1 hx hZ hown (host := "") (Or.inl (hw _ (List.mem_of_getElem? (i := 22) rfl))) Via.refl e1 F_first_a1 (g := (mkF m 5 #[.val (.ref a1)] [(.ref a1), (.long r2)])) rfl rfl (hb hby d6_5)
  refine go st2 ?_
  show Go p e below _ (T2.setTop (mkF m 8 #[.val (.ref a1)] [(.long r1), (.long r2)]))
  refine go (fun _ q => XS.lsub X2.here hx rfl (hb hby d6_8) rfl q) ?_
  show Go p e below _ (T2.setTop (mkF m 9 #[.val (.ref a1)] [(.long (r2 - r1))]))
  refine go (fun _ q => XS.lconst X2.here hx rfl (hb hby d6_9) q) ?_
  show Go p e below _ (T2.setTop (mkF m 10 #[.val (.ref a1)] [(.long (1 : Int64)), (.long (r2 - r1))]))
  refine go (fun _ q => XS.ladd X2.here hx rfl (hb hby d6_10) rfl q) ?_
  show Go p e below _ (T2.setTop (mkF m 11 #[.val (.ref a1)] [(.long ((r2 - r1) + (1 : Int64)))]))
  exact own_retJ X2 hx hlk hret (hb hby d6_11) (by decide) (by decide) ⟨congrArg (fun z => some (Value.long z)) (by rw [f6]), N0, e2⟩
theorem own_ctx {q1 q2 v1 v2 v4 v6 z9 z12 : Int64} (hv1 : (q1 &&& (9223372036854775807 : Int64)) = v1) (hv2 : (q2 &&& (9223372036854775807 : Int64)) = v2) (hv4 : f1 v1 v2 = v4) (hv6 : f2 v1 v2 = v6)
    (hz9 : z9 = (if v6 = (9223372036854775807 : Int64) then (9223372036854775806 : Int64) else v6)) (hz12 : z12 = (if z9 < v4 then z9 else v4)) : 0 ≤ z12.toInt ∧ z12.toInt ≤ z9.toInt ∧ z9.toInt ≤ 9223372036854775806 := by
  have a1 : v1.toInt = q1.toInt % 9223372036854775808 := by rw [← hv1]; exact c_maskL q1 _ 63 (by decide) (by decide)
  have a2 : v2.toInt = q2.toInt % 9223372036854775808 := by rw [← hv2]; exact c_maskL q2 _ 63 (by decide) (by decide)
  have e1 : (9223372036854775807 : Int64).toInt = 9223372036854775807 := rfl
  have e2 : (9223372036854775806 : Int64).toInt = 9223372036854775806 := rfl
  rw [f1] at hv4
  rw [f2] at hv6
  clear hv1 hv2
  split at hv4 <;> split at hv6 <;> split at hz9 <;> split at hz12 <;> simp only [Int64.lt_iff_toInt_lt, ← Int64.toInt_inj] at * <;> omega
theorem own_span {z9 z12 v13 : Int64} (h : 0 ≤ z12.toInt ∧ z12.toInt ≤ z9.toInt ∧ z9.toInt ≤ 9223372036854775806) (hv : ((z9 - z12) + (1 : Int64)) = v13) : v13.toInt = z9.toInt - z12.toInt + 1 := by
  have a1 := c_lsub z9 z12
  have a2 := c_ladd (z9 - z12) 1
  rw [hv] at a2
  have b1 := Int64.le_toInt (z9 - z12)
  have b2 := Int64.toInt_lt (z9 - z12)
  have b3 := Int64.le_toInt v13
  have b4 := Int64.toInt_lt v13
  have e2 : (1 : Int64).toInt = 1 := rfl
  omega
theorem own_nz {z9 z12 v13 : Int64} (h : 0 ≤ z12.toInt ∧ z12.toInt ≤ z9.toInt ∧ z9.toInt ≤ 9223372036854775806) (hv : ((z9 - z12) + (1 : Int64)) = v13) : v13 ≠ 0 := fun q => by
  have a := own_span h hv
  rw [q] at a
  have e2 : (0 : Int64).toInt = 0 := rfl
  omega
theorem own_mid {q3 z9 z12 v13 v14 : Int64} (h : 0 ≤ z12.toInt ∧ z12.toInt ≤ z9.toInt ∧ z9.toInt ≤ 9223372036854775806) (hv : ((z9 - z12) + (1 : Int64)) = v13) (hm : (z12 + ((q3 &&& (9223372036854775807 : Int64)) % v13)) = v14) : z12.toInt ≤ v14.toInt ∧ v14.toInt ≤ z9.toInt := by
  have a := own_span h hv
  have a1 : (q3 &&& (9223372036854775807 : Int64)).toInt = q3.toInt % 9223372036854775808 := c_maskL q3 _ 63 (by decide) (by decide)
  have a2 : ((q3 &&& (9223372036854775807 : Int64)) % v13).toInt = (q3 &&& (9223372036854775807 : Int64)).toInt % v13.toInt := by
    rw [Int64.toInt_mod, Int.tmod_eq_emod_of_nonneg (by omega)]
  have b1 := Int.emod_nonneg (q3 &&& (9223372036854775807 : Int64)).toInt (b := v13.toInt) (by omega)
  have b2 := Int.emod_lt_of_pos (q3 &&& (9223372036854775807 : Int64)).toInt (b := v13.toInt) (by omega)
  have a3 := c_ladd z12 ((q3 &&& (9223372036854775807 : Int64)) % v13)
  rw [hm] at a3
  have b3 := Int64.le_toInt v14
  have b4 := Int64.toInt_lt v14
  omega
theorem own_len {a b r : Int64} (h : 0 ≤ a.toInt ∧ a.toInt ≤ b.toInt ∧ b.toInt ≤ 9223372036854775806) (hr : f6 a b = r) : r.toInt = b.toInt - a.toInt + 1 := own_span h hr

def Q0 (n0 : Nat) (v : Option Value) (h : Heap) (L : List Loc) : Prop := v = some (.int (1 : Int32)) ∧ Fr n0 L
theorem pd_0_0 : parseMethodDescriptor "(JJ)J" = some ⟨[.long, .long], some .long⟩ := by decide +kernel
theorem pd_0_1 : parseMethodDescriptor "(JJ)V" = some ⟨[.long, .long], none⟩ := by decide +kernel
theorem pd_0_2 : parseMethodDescriptor "()J" = some ⟨[], some .long⟩ := by decide +kernel
theorem pn_0 : plainName "com/example/upsert/upsert/restapi/ByteRangeLengthPinLaw" = true := by first | (simp [plainName, overriddenIn]; done) | decide +kernel
theorem ef_0 (m : MethodId) (x0 : Int64) (x1 : Int64) (x2 : Int64) : entryFrame m #[(.long x0), (.long x1), (.long x2)] maxLocals = mkF m 0 #[.val (.long x0), .second, .val (.long x1), .second, .val (.long x2), .second, .unset, .unset, .unset, .unset, .unset, .unset, .unset, .unset, .unset, .unset, .unset, .unset, .unset, .unset, .unset, .unset, .unset, .unset, .unset, .unset, .unset, .unset] [] := by first | (simp [entryFrame, mkF, argsToLocals, Value.category, maxLocals]; done) | rfl
set_option maxRecDepth 65536 in
set_option maxHeartbeats 40000000 in
theorem rm0 (l : Launch) (Z : State) (a0 : Array Value) (hw : ∀ d ∈ tables_1, d.before a0 Z = true) (ws : List Jvm.Cond) (q1 : Int64) (q2 : Int64) (q3 : Int64) (h0 : Heap) (n0 : Nat) (Z0 : n0 ≤ h0.size) :
    MetFree l x (head1 (Jvm.Cond.code x code maxLocals ret :: ws) room_1) (fun a U => a = #[(.long q1), (.long q2), (.long q3)] ∧ Z.Warmed39 U.vm ∧ U.heap = h0) (fun _ _ _ _ _ => True) (fun _ U o U' => ∃ v L, o = .returned v ∧ (Q0 n0) v U'.heap L ∧ FrameEnd U o U' L room_1.cells room_1.slots) := by
  refine own_met (plainFor_of_name pn_0) (fun m => ef_0 m q1 q2 q3) ?_
  intro p e s m below meth c T0 hx hby hml hown hnm hret hlk hZ X0 e0
  have hown : s.vm.findClass "com/example/upsert/upsert/restapi/ByteRangeLengthPinLaw" = some m.cls := hown
  have hnm : meth.name = "law" := hnm
  have hret : meth.sig.returnType = some .boolean := hret
  have N0 := Fr.nil n0
  show Go p e below _ (T0.setTop (mkF m 0 #[.val (.long q1), .second, .val (.long q2), .second, .val (.long q3), .second, .unset, .unset, .unset, .unset, .unset, .unset, .unset, .unset, .unset, .unset, .unset, .unset, .unset, .unset, .unset, .unset, .unset, .unset, .unset, .unset, .unset, .unset] []))
  refine go (fun _ q => XS.lloadN X0.here hx rfl (hb hby at_0) rfl q) ?_
  show Go p e below _ (T0.setTop (mkF m 1 #[.val (.long q1), .second, .val (.long q2), .second, .val (.long q3), .second, .unset, .unset, .unset, .unset, .unset, .unset, .unset, .unset, .unset, .unset, .unset, .unset, .unset, .unset, .unset, .unset, .unset, .unset, .unset, .unset, .unset, .unset] [(.long q1)]))
  refine go (X0.ldc2Long hx hown (mvT hZ (hw _ (List.mem_of_getElem? (i := 0) rfl))) (g := (mkF m 1 #[.val (.long q1), .second, .val (.long q2), .second, .val (.long q3), .second, .unset, .unset, .unset, .unset, .unset, .unset, .unset, .unset, .unset, .unset, .unset, .unset, .unset, .unset, .unset, .unset, .unset, .unset, .unset, .unset, .unset, .unset] [(.long q1)])) rfl (hb hby at_1)) ?_
  show Go p e below _ (T0.setTop (mkF m 4 #[.val (.long q1), .second, .val (.long q2), .second, .val (.long q3), .second, .unset, .unset, .unset, .unset, .unset, .unset, .unset, .unset, .unset, .unset, .unset, .unset, .unset, .unset, .unset, .unset, .unset, .unset, .unset, .unset, .unset, .unset] [(.long (9223372036854775807 : Int64)), (.long q1)]))
  refine go (fun _ q => XS.land X0.here hx rfl (hb hby at_4) rfl q) ?_
  show Go p e below _ (T0.setTop (mkF m 5 #[.val (.long q1), .second, .val (.long q2), .second, .val (.long q3), .second, .unset, .unset, .unset, .unset, .unset, .unset, .unset, .unset, .unset, .unset, .unset, .unset, .unset, .unset, .unset, .unset, .unset, .unset, .unset, .unset, .unset, .unset] [(.long (q1 &&& (9223372036854775807 : Int64)))]))
  generalize hv1 : (q1 &&& (9223372036854775807 : Int64)) = v1
  show Go p e below _ (T0.setTop (mkF m 5 #[.val (.long q1), .second, .val (.long q2), .second, .val (.long q3), .second, .unset, .unset, .unset, .unset, .unset, .unset, .unset, .unset, .unset, .unset, .unset, .unset, .unset, .unset, .unset, .unset, .unset, .unset, .unset, .unset, .unset, .unset] [(.long v1)]))
  refine go (fun _ q => XS.lstore X0.here hx rfl (hb hby at_5) rfl (l' := #[.val (.long q1), .second, .val (.long q2), .second, .val (.long q3), .second, .val (.long v1), .second, .unset, .unset, .unset, .unset, .unset, .unset, .unset, .unset, .unset, .unset, .unset, .unset, .unset, .unset, .unset, .unset, .unset, .unset, .unset, .unset]) rfl q) ?_
  show Go p e below _ (T0.setTop (mkF m 7 #[.val (.long q1), .second, .val (.long q2), .second, .val (.long q3), .second, .val (.long v1), .second, .unset, .unset, .unset, .unset, .unset, .unset, .unset, .unset, .unset, .unset, .unset, .unset, .unset, .unset, .unset, .unset, .unset, .unset, .unset, .unset] []))
  refine go (fun _ q => XS.lloadN X0.here hx rfl (hb hby at_7) rfl q) ?_
  show Go p e below _ (T0.setTop (mkF m 8 #[.val (.long q1), .second, .val (.long q2), .second, .val (.long q3), .second, .val (.long v1), .second, .unset, .unset, .unset, .unset, .unset, .unset, .unset, .unset, .unset, .unset, .unset, .unset, .unset, .unset, .unset, .unset, .unset, .unset, .unset, .unset] [(.long q2)]))
  refine go (X0.ldc2Long hx hown (mvT hZ (hw _ (List.mem_of_getElem? (i := 0) rfl))) (g := (mkF m 8 #[.val (.long q1), .second, .val (.long q2), .second, .val (.long q3), .second, .val (.long v1), .second, .unset, .unset, .unset, .unset, .unset, .unset, .unset, .unset, .unset, .unset, .unset, .unset, .unset, .unset, .unset, .unset, .unset, .unset, .unset, .unset] [(.long q2)])) rfl (hb hby at_8)) ?_
  show Go p e below _ (T0.setTop (mkF m 11 #[.val (.long q1), .second, .val (.long q2), .second, .val (.long q3), .second, .val (.long v1), .second, .unset, .unset, .unset, .unset, .unset, .unset, .unset, .unset, .unset, .unset, .unset, .unset, .unset, .unset, .unset, .unset, .unset, .unset, .unset, .unset] [(.long (9223372036854775807 : Int64)), (.long q2)]))
  refine go (fun _ q => XS.land X0.here hx rfl (hb hby at_11) rfl q) ?_
  show Go p e below _ (T0.setTop (mkF m 12 #[.val (.long q1), .second, .val (.long q2), .second, .val (.long q3), .second, .val (.long v1), .second, .unset, .unset, .unset, .unset, .unset, .unset, .unset, .unset, .unset, .unset, .unset, .unset, .unset, .unset, .unset, .unset, .unset, .unset, .unset, .unset] [(.long (q2 &&& (9223372036854775807 : Int64)))]))
  generalize hv2 : (q2 &&& (9223372036854775807 : Int64)) = v2
  show Go p e below _ (T0.setTop (mkF m 12 #[.val (.long q1), .second, .val (.long q2), .second, .val (.long q3), .second, .val (.long v1), .second, .unset, .unset, .unset, .unset, .unset, .unset, .unset, .unset, .unset, .unset, .unset, .unset, .unset, .unset, .unset, .unset, .unset, .unset, .unset, .unset] [(.long v2)]))
  refine go (fun _ q => XS.lstore X0.here hx rfl (hb hby at_12) rfl (l' := #[.val (.long q1), .second, .val (.long q2), .second, .val (.long q3), .second, .val (.long v1), .second, .val (.long v2), .second, .unset, .unset, .unset, .unset, .unset, .unset, .unset, .unset, .unset, .unset, .unset, .unset, .unset, .unset, .unset, .unset, .unset, .unset]) rfl q) ?_
  show Go p e below _ (T0.setTop (mkF m 14 #[.val (.long q1), .second, .val (.long q2), .second, .val (.long q3), .second, .val (.long v1), .second, .val (.long v2), .second, .unset, .unset, .unset, .unset, .unset, .unset, .unset, .unset, .unset, .unset, .unset, .unset, .unset, .unset, .unset, .unset, .unset, .unset] []))
  refine go (fun _ q => XS.lload X0.here hx rfl (hb hby at_14) rfl q) ?_
  show Go p e below _ (T0.setTop (mkF m 16 #[.val (.long q1), .second, .val (.long q2), .second, .val (.long q3), .second, .val (.long v1), .second, .val (.long v2), .second, .unset, .unset, .unset, .unset, .unset, .unset, .unset, .unset, .unset, .unset, .unset, .unset, .unset, .unset, .unset, .unset, .unset, .unset] [(.long v1)]))
  refine go (fun _ q => XS.lload X0.here hx rfl (hb hby at_16) rfl q) ?_
  show Go p e below _ (T0.setTop (mkF m 18 #[.val (.long q1), .second, .val (.long q2), .second, .val (.long q3), .second, .val (.long v1), .second, .val (.long v2), .second, .unset, .unset, .unset, .unset, .unset, .unset, .unset, .unset, .unset, .unset, .unset, .unset, .unset, .unset, .unset, .unset, .unset, .unset] [(.long v2), (.long v1)]))
  refine own_callS X0 hx hZ hown e0 (hw _ (List.mem_of_getElem? (i := 1) rfl)) (hw _ (List.mem_of_getElem? (i := 2) rfl)) (hw _ (List.mem_of_getElem? (i := 3) rfl)) (hw _ (List.mem_of_getElem? (i := 4) rfl)) (rm1 l Z a0 hw [] v1 v2 h0 n0) (by decide) (by decide) (W := 0) (by decide) (by decide) (by decide) (g := (mkF m 18 #[.val (.long q1), .second, .val (.long q2), .second, .val (.long q3), .second, .val (.long v1), .second, .val (.long v2), .second, .unset, .unset, .unset, .unset, .unset, .unset, .unset, .unset, .unset, .unset, .unset, .unset, .unset, .unset, .unset, .unset, .unset, .unset] [(.long v2), (.long v1)])) rfl (by rw [hml]; rfl) (argsL := [(.long v1), (.long v2)]) (rest := []) rfl rfl (lenOf pd_0_0 rfl) (by show 2 * 0 + _ ≤ _; exact Nat.le_of_eq rfl) (hb hby at_18) ?_
  rintro _ T3 L3 X3 ⟨rfl, N3q, e3⟩
  have N3 := Fr.app N0 N3q
  show Go p e below _ (T3.setTop (mkF m 21 #[.val (.long q1), .second, .val (.long q2), .second, .val (.long q3), .second, .val (.long v1), .second, .val (.long v2), .second, .unset, .unset, .unset, .unset, .unset, .unset, .unset, .unset, .unset, .unset, .unset, .unset, .unset, .unset, .unset, .unset, .unset, .unset] [(.long (f1 v1 v2))]))
  generalize hv4 : (f1 v1 v2) = v4
  show Go p e below _ (T3.setTop (mkF m 21 #[.val (.long q1), .second, .val (.long q2), .second, .val (.long q3), .second, .val (.long v1), .second, .val (.long v2), .second, .unset, .unset, .unset, .unset, .unset, .unset, .unset, .unset, .unset, .unset, .unset, .unset, .unset, .unset, .unset, .unset, .unset, .unset] [(.long v4)]))
  refine go (fun _ q => XS.lstore X3.here hx rfl (hb hby at_21) rfl (l' := #[.val (.long q1), .second, .val (.long q2), .second, .val (.long q3), .second, .val (.long v1), .second, .val (.long v2), .second, .val (.long v4), .second, .unset, .unset, .unset, .unset, .unset, .unset, .unset, .unset, .unset, .unset, .unset, .unset, .unset, .unset, .unset, .unset]) rfl q) ?_
  show Go p e below _ (T3.setTop (mkF m 23 #[.val (.long q1), .second, .val (.long q2), .second, .val (.long q3), .second, .val (.long v1), .second, .val (.long v2), .second, .val (.long v4), .second, .unset, .unset, .unset, .unset, .unset, .unset, .unset, .unset, .unset, .unset, .unset, .unset, .unset, .unset, .unset, .unset] []))
  refine go (fun _ q => XS.lload X3.here hx rfl (hb hby at_23) rfl q) ?_
  show Go p e below _ (T3.setTop (mkF m 25 #[.val (.long q1), .second, .val (.long q2), .second, .val (.long q3), .second, .val (.long v1), .second, .val (.long v2), .second, .val (.long v4), .second, .unset, .unset, .unset, .unset, .unset, .unset, .unset, .unset, .unset, .unset, .unset, .unset, .unset, .unset, .unset, .unset] [(.long v1)]))
  refine go (fun _ q => XS.lload X3.here hx rfl (hb hby at_25) rfl q) ?_
  show Go p e below _ (T3.setTop (mkF m 27 #[.val (.long q1), .second, .val (.long q2), .second, .val (.long q3), .second, .val (.long v1), .second, .val (.long v2), .second, .val (.long v4), .second, .unset, .unset, .unset, .unset, .unset, .unset, .unset, .unset, .unset, .unset, .unset, .unset, .unset, .unset, .unset, .unset] [(.long v2), (.long v1)]))
  refine own_callS X3 hx hZ hown e3 (hw _ (List.mem_of_getElem? (i := 5) rfl)) (hw _ (List.mem_of_getElem? (i := 6) rfl)) (hw _ (List.mem_of_getElem? (i := 3) rfl)) (hw _ (List.mem_of_getElem? (i := 7) rfl)) (rm2 l Z a0 hw [] v1 v2 h0 n0) (by decide) (by decide) (W := 0) (by decide) (by decide) (by decide) (g := (mkF m 27 #[.val (.long q1), .second, .val (.long q2), .second, .val (.long q3), .second, .val (.long v1), .second, .val (.long v2), .second, .val (.long v4), .second, .unset, .unset, .unset, .unset, .unset, .unset, .unset, .unset, .unset, .unset, .unset, .unset, .unset, .unset, .unset, .unset] [(.long v2), (.long v1)])) rfl (by rw [hml]; rfl) (argsL := [(.long v1), (.long v2)]) (rest := []) rfl rfl (lenOf pd_0_0 rfl) (by show 2 * 0 + _ ≤ _; exact Nat.le_of_eq rfl) (hb hby at_27) ?_
  rintro _ T5 L5 X5 ⟨rfl, N5q, e5⟩
  have N5 := Fr.app N3 N5q
  show Go p e below _ (T5.setTop (mkF m 30 #[.val (.long q1), .second, .val (.long q2), .second, .val (.long q3), .second, .val (.long v1), .second, .val (.long v2), .second, .val (.long v4), .second, .unset, .unset, .unset, .unset, .unset, .unset, .unset, .unset, .unset, .unset, .unset, .unset, .unset, .unset, .unset, .unset] [(.long (f2 v1 v2))]))
  generalize hv6 : (f2 v1 v2) = v6
  show Go p e below _ (T5.setTop (mkF m 30 #[.val (.long q1), .second, .val (.long q2), .second, .val (.long q3), .second, .val (.long v1), .second, .val (.long v2), .second, .val (.long v4), .second, .unset, .unset, .unset, .unset, .unset, .unset, .unset, .unset, .unset, .unset, .unset, .unset, .unset, .unset, .unset, .unset] [(.long v6)]))
  refine go (fun _ q => XS.lstore X5.here hx rfl (hb hby at_30) rfl (l' := #[.val (.long q1), .second, .val (.long q2), .second, .val (.long q3), .second, .val (.long v1), .second, .val (.long v2), .second, .val (.long v4), .second, .val (.long v6), .second, .unset, .unset, .unset, .unset, .unset, .unset, .unset, .unset, .unset, .unset, .unset, .unset, .unset, .unset]) rfl q) ?_
  show Go p e below _ (T5.setTop (mkF m 32 #[.val (.long q1), .second, .val (.long q2), .second, .val (.long q3), .second, .val (.long v1), .second, .val (.long v2), .second, .val (.long v4), .second, .val (.long v6), .second, .unset, .unset, .unset, .unset, .unset, .unset, .unset, .unset, .unset, .unset, .unset, .unset, .unset, .unset] []))
  refine go (fun _ q => XS.lload X5.here hx rfl (hb hby at_32) rfl q) ?_
  show Go p e below _ (T5.setTop (mkF m 34 #[.val (.long q1), .second, .val (.long q2), .second, .val (.long q3), .second, .val (.long v1), .second, .val (.long v2), .second, .val (.long v4), .second, .val (.long v6), .second, .unset, .unset, .unset, .unset, .unset, .unset, .unset, .unset, .unset, .unset, .unset, .unset, .unset, .unset] [(.long v6)]))
  refine go (X5.ldc2Long hx hown (mvT hZ (hw _ (List.mem_of_getElem? (i := 0) rfl))) (g := (mkF m 34 #[.val (.long q1), .second, .val (.long q2), .second, .val (.long q3), .second, .val (.long v1), .second, .val (.long v2), .second, .val (.long v4), .second, .val (.long v6), .second, .unset, .unset, .unset, .unset, .unset, .unset, .unset, .unset, .unset, .unset, .unset, .unset, .unset, .unset] [(.long v6)])) rfl (hb hby at_34)) ?_
  show Go p e below _ (T5.setTop (mkF m 37 #[.val (.long q1), .second, .val (.long q2), .second, .val (.long q3), .second, .val (.long v1), .second, .val (.long v2), .second, .val (.long v4), .second, .val (.long v6), .second, .unset, .unset, .unset, .unset, .unset, .unset, .unset, .unset, .unset, .unset, .unset, .unset, .unset, .unset] [(.long (9223372036854775807 : Int64)), (.long v6)]))
  refine go (fun _ q => XS.lcmp X5.here hx rfl (hb hby at_37) rfl q) ?_
  show Go p e below _ (T5.setTop (mkF m 38 #[.val (.long q1), .second, .val (.long q2), .second, .val (.long q3), .second, .val (.long v1), .second, .val (.long v2), .second, .val (.long v4), .second, .val (.long v6), .second, .unset, .unset, .unset, .unset, .unset, .unset, .unset, .unset, .unset, .unset, .unset, .unset, .unset, .unset] [(.int (lcmpW v6 (9223372036854775807 : Int64)))]))
  suffices hj7 : ∀ (z9 : Int64), z9 = (if v6 = (9223372036854775807 : Int64) then (9223372036854775806 : Int64) else v6) → Go p e below (Dn below s ((Q0 n0)) room_1.cells room_1.slots) (T5.setTop (mkF m 46 #[.val (.long q1), .second, .val (.long q2), .second, .val (.long q3), .second, .val (.long v1), .second, .val (.long v2), .second, .val (.long v4), .second, .val (.long z9), .second, .unset, .unset, .unset, .unset, .unset, .unset, .unset, .unset, .unset, .unset, .unset, .unset, .unset, .unset] [])) by
    by_cases hc8 : v6 = (9223372036854775807 : Int64)
    · refine go (fun _ q => XS.ifNo X5.here hx rfl (hb hby at_38) rfl ((if0 _ _).trans (teq ((lw_eq _ _).mpr hc8)).2) q) ?_
      show Go p e below _ (T5.setTop (mkF m 41 #[.val (.long q1), .second, .val (.long q2), .second, .val (.long q3), .second, .val (.long v1), .second, .val (.long v2), .second, .val (.long v4), .second, .val (.long v6), .second, .unset, .unset, .unset, .unset, .unset, .unset, .unset, .unset, .unset, .unset, .unset, .unset, .unset, .unset] []))
      refine go (X5.ldc2Long hx hown (mvT hZ (hw _ (List.mem_of_getElem? (i := 31) rfl))) (g := (mkF m 41 #[.val (.long q1), .second, .val (.long q2), .second, .val (.long q3), .second, .val (.long v1), .second, .val (.long v2), .second, .val (.long v4), .second, .val (.long v6), .second, .unset, .unset, .unset, .unset, .unset, .unset, .unset, .unset, .unset, .unset, .unset, .unset, .unset, .unset] [])) rfl (hb hby at_41)) ?_
      show Go p e below _ (T5.setTop (mkF m 44 #[.val (.long q1), .second, .val (.long q2), .second, .val (.long q3), .second, .val (.long v1), .second, .val (.long v2), .second, .val (.long v4), .second, .val (.long v6), .second, .unset, .unset, .unset, .unset, .unset, .unset, .unset, .unset, .unset, .unset, .unset, .unset, .unset, .unset] [(.long (9223372036854775806 : Int64))]))
      refine go (fun _ q => XS.lstore X5.here hx rfl (hb hby at_44) rfl (l' := #[.val (.long q1), .second, .val (.long q2), .second, .val (.long q3), .second, .val (.long v1), .second, .val (.long v2), .second, .val (.long v4), .second, .val (.long (9223372036854775806 : Int64)), .second, .unset, .unset, .unset, .unset, .unset, .unset, .unset, .unset, .unset, .unset, .unset, .unset, .unset, .unset]) rfl q) ?_
      show Go p e below _ (T5.setTop (mkF m 46 #[.val (.long q1), .second, .val (.long q2), .second, .val (.long q3), .second, .val (.long v1), .second, .val (.long v2), .second, .val (.long v4), .second, .val (.long (9223372036854775806 : Int64)), .second, .unset, .unset, .unset, .unset, .unset, .unset, .unset, .unset, .unset, .unset, .unset, .unset, .unset, .unset] []))
      exact hj7 _ (by rw [if_pos hc8])
    · refine go (fun _ q => XS.ifYes X5.here hx rfl (pc0 := 38) (pc' := 46) rfl (hb hby at_38) rfl ((if0 _ _).trans (feq (fun q => hc8 ((lw_eq _ _).mp q))).2) (by decide) (by decide) q) ?_
      show Go p e below _ (T5.setTop (mkF m 46 #[.val (.long q1), .second, .val (.long q2), .second, .val (.long q3), .second, .val (.long v1), .second, .val (.long v2), .second, .val (.long v4), .second, .val (.long v6), .second, .unset, .unset, .unset, .unset, .unset, .unset, .unset, .unset, .unset, .unset, .unset, .unset, .unset, .unset] []))
      exact hj7 _ (by rw [if_neg hc8])
  intro z9 hz9
  show Go p e below _ (T5.setTop (mkF m 46 #[.val (.long q1), .second, .val (.long q2), .second, .val (.long q3), .second, .val (.long v1), .second, .val (.long v2), .second, .val (.long v4), .second, .val (.long z9), .second, .unset, .unset, .unset, .unset, .unset, .unset, .unset, .unset, .unset, .unset, .unset, .unset, .unset, .unset] []))
  refine go (fun _ q => XS.lload X5.here hx rfl (hb hby at_46) rfl q) ?_
  show Go p e below _ (T5.setTop (mkF m 48 #[.val (.long q1), .second, .val (.long q2), .second, .val (.long q3), .second, .val (.long v1), .second, .val (.long v2), .second, .val (.long v4), .second, .val (.long z9), .second, .unset, .unset, .unset, .unset, .unset, .unset, .unset, .unset, .unset, .unset, .unset, .unset, .unset, .unset] [(.long v4)]))
  refine go (fun _ q => XS.lload X5.here hx rfl (hb hby at_48) rfl q) ?_
  show Go p e below _ (T5.setTop (mkF m 50 #[.val (.long q1), .second, .val (.long q2), .second, .val (.long q3), .second, .val (.long v1), .second, .val (.long v2), .second, .val (.long v4), .second, .val (.long z9), .second, .unset, .unset, .unset, .unset, .unset, .unset, .unset, .unset, .unset, .unset, .unset, .unset, .unset, .unset] [(.long z9), (.long v4)]))
  refine go (fun _ q => XS.lcmp X5.here hx rfl (hb hby at_50) rfl q) ?_
  show Go p e below _ (T5.setTop (mkF m 51 #[.val (.long q1), .second, .val (.long q2), .second, .val (.long q3), .second, .val (.long v1), .second, .val (.long v2), .second, .val (.long v4), .second, .val (.long z9), .second, .unset, .unset, .unset, .unset, .unset, .unset, .unset, .unset, .unset, .unset, .unset, .unset, .unset, .unset] [(.int (lcmpW v4 z9))]))
  suffices hj10 : ∀ (z12 : Int64), z12 = (if z9 < v4 then z9 else v4) → Go p e below (Dn below s ((Q0 n0)) room_1.cells room_1.slots) (T5.setTop (mkF m 58 #[.val (.long q1), .second, .val (.long q2), .second, .val (.long q3), .second, .val (.long v1), .second, .val (.long v2), .second, .val (.long z12), .second, .val (.long z9), .second, .unset, .unset, .unset, .unset, .unset, .unset, .unset, .unset, .unset, .unset, .unset, .unset, .unset, .unset] [])) by
    by_cases hc11 : z9 < v4
    · refine go (fun _ q => XS.ifNo X5.here hx rfl (hb hby at_51) rfl ((if0 _ _).trans (tlt ((lw_gt _ _).mpr hc11)).2.2.2) q) ?_
      show Go p e below _ (T5.setTop (mkF m 54 #[.val (.long q1), .second, .val (.long q2), .second, .val (.long q3), .second, .val (.long v1), .second, .val (.long v2), .second, .val (.long v4), .second, .val (.long z9), .second, .unset, .unset, .unset, .unset, .unset, .unset, .unset, .unset, .unset, .unset, .unset, .unset, .unset, .unset] []))
      refine go (fun _ q => XS.lload X5.here hx rfl (hb hby at_54) rfl q) ?_
      show Go p e below _ (T5.setTop (mkF m 56 #[.val (.long q1), .second, .val (.long q2), .second, .val (.long q3), .second, .val (.long v1), .second, .val (.long v2), .second, .val (.long v4), .second, .val (.long z9), .second, .unset, .unset, .unset, .unset, .unset, .unset, .unset, .unset, .unset, .unset, .unset, .unset, .unset, .unset] [(.long z9)]))
      refine go (fun _ q => XS.lstore X5.here hx rfl (hb hby at_56) rfl (l' := #[.val (.long q1), .second, .val (.long q2), .second, .val (.long q3), .second, .val (.long v1), .second, .val (.long v2), .second, .val (.long z9), .second, .val (.long z9), .second, .unset, .unset, .unset, .unset, .unset, .unset, .unset, .unset, .unset, .unset, .unset, .unset, .unset, .unset]) rfl q) ?_
      show Go p e below _ (T5.setTop (mkF m 58 #[.val (.long q1), .second, .val (.long q2), .second, .val (.long q3), .second, .val (.long v1), .second, .val (.long v2), .second, .val (.long z9), .second, .val (.long z9), .second, .unset, .unset, .unset, .unset, .unset, .unset, .unset, .unset, .unset, .unset, .unset, .unset, .unset, .unset] []))
      exact hj10 _ (by rw [if_pos hc11])
    · refine go (fun _ q => XS.ifYes X5.here hx rfl (pc0 := 51) (pc' := 58) rfl (hb hby at_51) rfl ((if0 _ _).trans (flt (fun q => hc11 ((lw_gt _ _).mp q))).2.2.2) (by decide) (by decide) q) ?_
      show Go p e below _ (T5.setTop (mkF m 58 #[.val (.long q1), .second, .val (.long q2), .second, .val (.long q3), .second, .val (.long v1), .second, .val (.long v2), .second, .val (.long v4), .second, .val (.long z9), .second, .unset, .unset, .unset, .unset, .unset, .unset, .unset, .unset, .unset, .unset, .unset, .unset, .unset, .unset] []))
      exact hj10 _ (by rw [if_neg hc11])
  intro z12 hz12
  show Go p e below _ (T5.setTop (mkF m 58 #[.val (.long q1), .second, .val (.long q2), .second, .val (.long q3), .second, .val (.long v1), .second, .val (.long v2), .second, .val (.long z12), .second, .val (.long z9), .second, .unset, .unset, .unset, .unset, .unset, .unset, .unset, .unset, .unset, .unset, .unset, .unset, .unset, .unset] []))
  refine go (fun _ q => XS.lload X5.here hx rfl (hb hby at_58) rfl q) ?_
  show Go p e below _ (T5.setTop (mkF m 60 #[.val (.long q1), .second, .val (.long q2), .second, .val (.long q3), .second, .val (.long v1), .second, .val (.long v2), .second, .val (.long z12), .second, .val (.long z9), .second, .unset, .unset, .unset, .unset, .unset, .unset, .unset, .unset, .unset, .unset, .unset, .unset, .unset, .unset] [(.long z9)]))
  have own_c := own_ctx hv1 hv2 hv4 hv6 hz9 hz12
  have e_1 : (1 : Int64).toInt = 1 := rfl
  refine go (fun _ q => XS.lload X5.here hx rfl (hb hby at_60) rfl q) ?_
  show Go p e below _ (T5.setTop (mkF m 62 #[.val (.long q1), .second, .val (.long q2), .second, .val (.long q3), .second, .val (.long v1), .second, .val (.long v2), .second, .val (.long z12), .second, .val (.long z9), .second, .unset, .unset, .unset, .unset, .unset, .unset, .unset, .unset, .unset, .unset, .unset, .unset, .unset, .unset] [(.long z12), (.long z9)]))
  refine go (fun _ q => XS.lsub X5.here hx rfl (hb hby at_62) rfl q) ?_
  show Go p e below _ (T5.setTop (mkF m 63 #[.val (.long q1), .second, .val (.long q2), .second, .val (.long q3), .second, .val (.long v1), .second, .val (.long v2), .second, .val (.long z12), .second, .val (.long z9), .second, .unset, .unset, .unset, .unset, .unset, .unset, .unset, .unset, .unset, .unset, .unset, .unset, .unset, .unset] [(.long (z9 - z12))]))
  refine go (fun _ q => XS.lconst X5.here hx rfl (hb hby at_63) q) ?_
  show Go p e below _ (T5.setTop (mkF m 64 #[.val (.long q1), .second, .val (.long q2), .second, .val (.long q3), .second, .val (.long v1), .second, .val (.long v2), .second, .val (.long z12), .second, .val (.long z9), .second, .unset, .unset, .unset, .unset, .unset, .unset, .unset, .unset, .unset, .unset, .unset, .unset, .unset, .unset] [(.long (1 : Int64)), (.long (z9 - z12))]))
  refine go (fun _ q => XS.ladd X5.here hx rfl (hb hby at_64) rfl q) ?_
  show Go p e below _ (T5.setTop (mkF m 65 #[.val (.long q1), .second, .val (.long q2), .second, .val (.long q3), .second, .val (.long v1), .second, .val (.long v2), .second, .val (.long z12), .second, .val (.long z9), .second, .unset, .unset, .unset, .unset, .unset, .unset, .unset, .unset, .unset, .unset, .unset, .unset, .unset, .unset] [(.long ((z9 - z12) + (1 : Int64)))]))
  generalize hv13 : ((z9 - z12) + (1 : Int64)) = v13
  show Go p e below _ (T5.setTop (mkF m 65 #[.val (.long q1), .second, .val (.long q2), .second, .val (.long q3), .second, .val (.long v1), .second, .val (.long v2), .second, .val (.long z12), .second, .val (.long z9), .second, .unset, .unset, .unset, .unset, .unset, .unset, .unset, .unset, .unset, .unset, .unset, .unset, .unset, .unset] [(.long v13)]))
  refine go (fun _ q => XS.lstore X5.here hx rfl (hb hby at_65) rfl (l' := #[.val (.long q1), .second, .val (.long q2), .second, .val (.long q3), .second, .val (.long v1), .second, .val (.long v2), .second, .val (.long z12), .second, .val (.long z9), .second, .val (.long v13), .second, .unset, .unset, .unset, .unset, .unset, .unset, .unset, .unset, .unset, .unset, .unset, .unset]) rfl q) ?_
  show Go p e below _ (T5.setTop (mkF m 67 #[.val (.long q1), .second, .val (.long q2), .second, .val (.long q3), .second, .val (.long v1), .second, .val (.long v2), .second, .val (.long z12), .second, .val (.long z9), .second, .val (.long v13), .second, .unset, .unset, .unset, .unset, .unset, .unset, .unset, .unset, .unset, .unset, .unset, .unset] []))
  refine go (fun _ q => XS.lload X5.here hx rfl (hb hby at_67) rfl q) ?_
  show Go p e below _ (T5.setTop (mkF m 69 #[.val (.long q1), .second, .val (.long q2), .second, .val (.long q3), .second, .val (.long v1), .second, .val (.long v2), .second, .val (.long z12), .second, .val (.long z9), .second, .val (.long v13), .second, .unset, .unset, .unset, .unset, .unset, .unset, .unset, .unset, .unset, .unset, .unset, .unset] [(.long z12)]))
  refine go (fun _ q => XS.lload X5.here hx rfl (hb hby at_69) rfl q) ?_
  show Go p e below _ (T5.setTop (mkF m 71 #[.val (.long q1), .second, .val (.long q2), .second, .val (.long q3), .second, .val (.long v1), .second, .val (.long v2), .second, .val (.long z12), .second, .val (.long z9), .second, .val (.long v13), .second, .unset, .unset, .unset, .unset, .unset, .unset, .unset, .unset, .unset, .unset, .unset, .unset] [(.long q3), (.long z12)]))
  refine go (X5.ldc2Long hx hown (mvT hZ (hw _ (List.mem_of_getElem? (i := 0) rfl))) (g := (mkF m 71 #[.val (.long q1), .second, .val (.long q2), .second, .val (.long q3), .second, .val (.long v1), .second, .val (.long v2), .second, .val (.long z12), .second, .val (.long z9), .second, .val (.long v13), .second, .unset, .unset, .unset, .unset, .unset, .unset, .unset, .unset, .unset, .unset, .unset, .unset] [(.long q3), (.long z12)])) rfl (hb hby at_71)) ?_
  show Go p e below _ (T5.setTop (mkF m 74 #[.val (.long q1), .second, .val (.long q2), .second, .val (.long q3), .second, .val (.long v1), .second, .val (.long v2), .second, .val (.long z12), .second, .val (.long z9), .second, .val (.long v13), .second, .unset, .unset, .unset, .unset, .unset, .unset, .unset, .unset, .unset, .unset, .unset, .unset] [(.long (9223372036854775807 : Int64)), (.long q3), (.long z12)]))
  refine go (fun _ q => XS.land X5.here hx rfl (hb hby at_74) rfl q) ?_
  show Go p e below _ (T5.setTop (mkF m 75 #[.val (.long q1), .second, .val (.long q2), .second, .val (.long q3), .second, .val (.long v1), .second, .val (.long v2), .second, .val (.long z12), .second, .val (.long z9), .second, .val (.long v13), .second, .unset, .unset, .unset, .unset, .unset, .unset, .unset, .unset, .unset, .unset, .unset, .unset] [(.long (q3 &&& (9223372036854775807 : Int64))), (.long z12)]))
  refine go (fun _ q => XS.lload X5.here hx rfl (hb hby at_75) rfl q) ?_
  show Go p e below _ (T5.setTop (mkF m 77 #[.val (.long q1), .second, .val (.long q2), .second, .val (.long q3), .second, .val (.long v1), .second, .val (.long v2), .second, .val (.long z12), .second, .val (.long z9), .second, .val (.long v13), .second, .unset, .unset, .unset, .unset, .unset, .unset, .unset, .unset, .unset, .unset, .unset, .unset] [(.long v13), (.long (q3 &&& (9223372036854775807 : Int64))), (.long z12)]))
  refine go (fun _ q => own_lrem X5 hx rfl (hb hby at_77) rfl (own_nz own_c hv13) q) ?_
  show Go p e below _ (T5.setTop (mkF m 78 #[.val (.long q1), .second, .val (.long q2), .second, .val (.long q3), .second, .val (.long v1), .second, .val (.long v2), .second, .val (.long z12), .second, .val (.long z9), .second, .val (.long v13), .second, .unset, .unset, .unset, .unset, .unset, .unset, .unset, .unset, .unset, .unset, .unset, .unset] [(.long ((q3 &&& (9223372036854775807 : Int64)) % v13)), (.long z12)]))
  refine go (fun _ q => XS.ladd X5.here hx rfl (hb hby at_78) rfl q) ?_
  show Go p e below _ (T5.setTop (mkF m 79 #[.val (.long q1), .second, .val (.long q2), .second, .val (.long q3), .second, .val (.long v1), .second, .val (.long v2), .second, .val (.long z12), .second, .val (.long z9), .second, .val (.long v13), .second, .unset, .unset, .unset, .unset, .unset, .unset, .unset, .unset, .unset, .unset, .unset, .unset] [(.long (z12 + ((q3 &&& (9223372036854775807 : Int64)) % v13)))]))
  generalize hv14 : (z12 + ((q3 &&& (9223372036854775807 : Int64)) % v13)) = v14
  show Go p e below _ (T5.setTop (mkF m 79 #[.val (.long q1), .second, .val (.long q2), .second, .val (.long q3), .second, .val (.long v1), .second, .val (.long v2), .second, .val (.long z12), .second, .val (.long z9), .second, .val (.long v13), .second, .unset, .unset, .unset, .unset, .unset, .unset, .unset, .unset, .unset, .unset, .unset, .unset] [(.long v14)]))
  refine go (fun _ q => XS.lstore X5.here hx rfl (hb hby at_79) rfl (l' := #[.val (.long q1), .second, .val (.long q2), .second, .val (.long q3), .second, .val (.long v1), .second, .val (.long v2), .second, .val (.long z12), .second, .val (.long z9), .second, .val (.long v13), .second, .val (.long v14), .second, .unset, .unset, .unset, .unset, .unset, .unset, .unset, .unset, .unset, .unset]) rfl q) ?_
  show Go p e below _ (T5.setTop (mkF m 81 #[.val (.long q1), .second, .val (.long q2), .second, .val (.long q3), .second, .val (.long v1), .second, .val (.long v2), .second, .val (.long z12), .second, .val (.long z9), .second, .val (.long v13), .second, .val (.long v14), .second, .unset, .unset, .unset, .unset, .unset, .unset, .unset, .unset, .unset, .unset] []))
  have own_m := own_mid own_c hv13 hv14
  obtain ⟨T15, h15, X15, e15, E15, A15, D15, -, st15⟩ := newO X5 hx hZ hown (hw _ (List.mem_of_getElem? (i := 8) rfl)) (hw _ (List.mem_of_getElem? (i := 9) rfl)) (hw _ (List.mem_of_getElem? (i := 10) rfl)) e5 (g := (mkF m 81 #[.val (.long q1), .second, .val (.long q2), .second, .val (.long q3), .second, .val (.long v1), .second, .val (.long v2), .second, .val (.long z12), .second, .val (.long z9), .second, .val (.long v13), .second, .val (.long v14), .second, .unset, .unset, .unset, .unset, .unset, .unset, .unset, .unset, .unset, .unset] [])) rfl (hb hby at_81) (by decide) (by decide)
  obtain ⟨b15, g15⟩ : ∃ z, z = h0.size := ⟨_, rfl⟩
  rw [← g15] at A15 D15 st15
  refine go st15 ?_
  have g_b15 : n0 ≤ b15 := Nat.le_trans Z0 (Nat.le_of_eq g15.symm)
  have Z15 : n0 ≤ h15.size := Nat.le_trans Z0 E15.1
  have F_first_b15 : Fld Z h15 b15 "com/example/upsert/upsert/restapi/ByteRange" "first" "J" (.long (0 : Int64)) := D15 (Or.inr (hw _ (List.mem_of_getElem? (i := 23) rfl))) (ty := .long) (by decide)
  have F_last_b15 : Fld Z h15 b15 "com/example/upsert/upsert/restapi/ByteRange" "last" "J" (.long (0 : Int64)) := D15 (Or.inr (hw _ (List.mem_of_getElem? (i := 25) rfl))) (ty := .long) (by decide)
  show Go p e below _ (T15.setTop (mkF m 84 #[.val (.long q1), .second, .val (.long q2), .second, .val (.long q3), .second, .val (.long v1), .second, .val (.long v2), .second, .val (.long z12), .second, .val (.long z9), .second, .val (.long v13), .second, .val (.long v14), .second, .unset, .unset, .unset, .unset, .unset, .unset, .unset, .unset, .unset, .unset] [(.ref b15)]))
  refine go (fun _ q => XS.dup X15.here hx rfl (hb hby at_84) rfl rfl q) ?_
  show Go p e below _ (T15.setTop (mkF m 85 #[.val (.long q1), .second, .val (.long q2), .second, .val (.long q3), .second, .val (.long v1), .second, .val (.long v2), .second, .val (.long z12), .second, .val (.long z9), .second, .val (.long v13), .second, .val (.long v14), .second, .unset, .unset, .unset, .unset, .unset, .unset, .unset, .unset, .unset, .unset] [(.ref b15), (.ref b15)]))
  refine go (fun _ q => XS.lload X15.here hx rfl (hb hby at_85) rfl q) ?_
  show Go p e below _ (T15.setTop (mkF m 87 #[.val (.long q1), .second, .val (.long q2), .second, .val (.long q3), .second, .val (.long v1), .second, .val (.long v2), .second, .val (.long z12), .second, .val (.long z9), .second, .val (.long v13), .second, .val (.long v14), .second, .unset, .unset, .unset, .unset, .unset, .unset, .unset, .unset, .unset, .unset] [(.long z12), (.ref b15), (.ref b15)]))
  refine go (fun _ q => XS.lload X15.here hx rfl (hb hby at_87) rfl q) ?_
  show Go p e below _ (T15.setTop (mkF m 89 #[.val (.long q1), .second, .val (.long q2), .second, .val (.long q3), .second, .val (.long v1), .second, .val (.long v2), .second, .val (.long z12), .second, .val (.long z9), .second, .val (.long v13), .second, .val (.long v14), .second, .unset, .unset, .unset, .unset, .unset, .unset, .unset, .unset, .unset, .unset] [(.long z9), (.long z12), (.ref b15), (.ref b15)]))
  refine own_callC X15 hx hZ hown e15 (hw _ (List.mem_of_getElem? (i := 11) rfl)) (hw _ (List.mem_of_getElem? (i := 12) rfl)) (hw _ (List.mem_of_getElem? (i := 10) rfl)) (hw _ (List.mem_of_getElem? (i := 13) rfl)) (rm3 l Z a0 hw [] b15 z12 z9 h15 n0 Z15 g_b15 A15 F_first_b15 F_last_b15) rfl (by decide) (by decide) (W := 1) (by decide) (by decide) (by decide) (a := b15) (g := (mkF m 89 #[.val (.long q1), .second, .val (.long q2), .second, .val (.long q3), .second, .val (.long v1), .second, .val (.long v2), .second, .val (.long z12), .second, .val (.long z9), .second, .val (.long v13), .second, .val (.long v14), .second, .unset, .unset, .unset, .unset, .unset, .unset, .unset, .unset, .unset, .unset] [(.long z9), (.long z12), (.ref b15), (.ref b15)])) rfl (by rw [hml]; rfl) (argsL := [(.long z12), (.long z9)]) (rest := [(.ref b15)]) rfl rfl (lenOf pd_0_1 rfl) (by show 2 * 0 + _ ≤ _; exact Nat.le_of_eq rfl) (hb hby at_89) ?_
  rintro _ T16 L16 X16 ⟨rfl, N16q, K16, E16, F16_0, F16_1⟩
  have N16 := Fr.app N5 N16q
  have Z16 : n0 ≤ T16.heap.size := Nat.le_trans Z15 K16.1
  show Go p e below _ (T16.setTop (mkF m 92 #[.val (.long q1), .second, .val (.long q2), .second, .val (.long q3), .second, .val (.long v1), .second, .val (.long v2), .second, .val (.long z12), .second, .val (.long z9), .second, .val (.long v13), .second, .val (.long v14), .second, .unset, .unset, .unset, .unset, .unset, .unset, .unset, .unset, .unset, .unset] [(.ref b15)]))
  refine go (fun _ q => XS.astore X16.here hx rfl (hb hby at_92) rfl rfl (l' := #[.val (.long q1), .second, .val (.long q2), .second, .val (.long q3), .second, .val (.long v1), .second, .val (.long v2), .second, .val (.long z12), .second, .val (.long z9), .second, .val (.long v13), .second, .val (.long v14), .second, .val (.ref b15), .unset, .unset, .unset, .unset, .unset, .unset, .unset, .unset, .unset]) rfl q) ?_
  show Go p e below _ (T16.setTop (mkF m 94 #[.val (.long q1), .second, .val (.long q2), .second, .val (.long q3), .second, .val (.long v1), .second, .val (.long v2), .second, .val (.long z12), .second, .val (.long z9), .second, .val (.long v13), .second, .val (.long v14), .second, .val (.ref b15), .unset, .unset, .unset, .unset, .unset, .unset, .unset, .unset, .unset] []))
  obtain ⟨T17, h17, X17, e17, E17, A17, D17, -, st17⟩ := newO X16 hx hZ hown (hw _ (List.mem_of_getElem? (i := 8) rfl)) (hw _ (List.mem_of_getElem? (i := 9) rfl)) (hw _ (List.mem_of_getElem? (i := 10) rfl)) rfl (g := (mkF m 94 #[.val (.long q1), .second, .val (.long q2), .second, .val (.long q3), .second, .val (.long v1), .second, .val (.long v2), .second, .val (.long z12), .second, .val (.long z9), .second, .val (.long v13), .second, .val (.long v14), .second, .val (.ref b15), .unset, .unset, .unset, .unset, .unset, .unset, .unset, .unset, .unset] [])) rfl (hb hby at_94) (by decide) (by decide)
  obtain ⟨b17, g17⟩ : ∃ z, z = T16.heap.size := ⟨_, rfl⟩
  rw [← g17] at A17 D17 st17
  refine go st17 ?_
  have ne_b15_b17 : b15 ≠ b17 := Nat.ne_of_lt (Nat.lt_of_lt_of_le E16.lt (Nat.le_of_eq g17.symm))
  have g_b17 : n0 ≤ b17 := Nat.le_trans Z16 (Nat.le_of_eq g17.symm)
  have Z17 : n0 ≤ h17.size := Nat.le_trans Z16 E17.1
  have E_b15_18 : Exa Z h17 b15 "com/example/upsert/upsert/restapi/ByteRange" := E16.ext E17
  have F_first_b15_19 : Fld Z h17 b15 "com/example/upsert/upsert/restapi/ByteRange" "first" "J" (.long z12) := F16_0.ext E17
  have F_last_b15_20 : Fld Z h17 b15 "com/example/upsert/upsert/restapi/ByteRange" "last" "J" (.long z9) := F16_1.ext E17
  have F_first_b17 : Fld Z h17 b17 "com/example/upsert/upsert/restapi/ByteRange" "first" "J" (.long (0 : Int64)) := D17 (Or.inr (hw _ (List.mem_of_getElem? (i := 23) rfl))) (ty := .long) (by decide)
  have F_last_b17 : Fld Z h17 b17 "com/example/upsert/upsert/restapi/ByteRange" "last" "J" (.long (0 : Int64)) := D17 (Or.inr (hw _ (List.mem_of_getElem? (i := 25) rfl))) (ty := .long) (by decide)
  show Go p e below _ (T17.setTop (mkF m 97 #[.val (.long q1), .second, .val (.long q2), .second, .val (.long q3), .second, .val (.long v1), .second, .val (.long v2), .second, .val (.long z12), .second, .val (.long z9), .second, .val (.long v13), .second, .val (.long v14), .second, .val (.ref b15), .unset, .unset, .unset, .unset, .unset, .unset, .unset, .unset, .unset] [(.ref b17)]))
  refine go (fun _ q => XS.dup X17.here hx rfl (hb hby at_97) rfl rfl q) ?_
  show Go p e below _ (T17.setTop (mkF m 98 #[.val (.long q1), .second, .val (.long q2), .second, .val (.long q3), .second, .val (.long v1), .second, .val (.long v2), .second, .val (.long z12), .second, .val (.long z9), .second, .val (.long v13), .second, .val (.long v14), .second, .val (.ref b15), .unset, .unset, .unset, .unset, .unset, .unset, .unset, .unset, .unset] [(.ref b17), (.ref b17)]))
  refine go (fun _ q => XS.lload X17.here hx rfl (hb hby at_98) rfl q) ?_
  show Go p e below _ (T17.setTop (mkF m 100 #[.val (.long q1), .second, .val (.long q2), .second, .val (.long q3), .second, .val (.long v1), .second, .val (.long v2), .second, .val (.long z12), .second, .val (.long z9), .second, .val (.long v13), .second, .val (.long v14), .second, .val (.ref b15), .unset, .unset, .unset, .unset, .unset, .unset, .unset, .unset, .unset] [(.long v14), (.ref b17), (.ref b17)]))
  refine go (fun _ q => XS.lload X17.here hx rfl (hb hby at_100) rfl q) ?_
  show Go p e below _ (T17.setTop (mkF m 102 #[.val (.long q1), .second, .val (.long q2), .second, .val (.long q3), .second, .val (.long v1), .second, .val (.long v2), .second, .val (.long z12), .second, .val (.long z9), .second, .val (.long v13), .second, .val (.long v14), .second, .val (.ref b15), .unset, .unset, .unset, .unset, .unset, .unset, .unset, .unset, .unset] [(.long v14), (.long v14), (.ref b17), (.ref b17)]))
  refine own_callC X17 hx hZ hown e17 (hw _ (List.mem_of_getElem? (i := 11) rfl)) (hw _ (List.mem_of_getElem? (i := 12) rfl)) (hw _ (List.mem_of_getElem? (i := 10) rfl)) (hw _ (List.mem_of_getElem? (i := 13) rfl)) (rm3 l Z a0 hw [] b17 v14 v14 h17 n0 Z17 g_b17 A17 F_first_b17 F_last_b17) rfl (by decide) (by decide) (W := 1) (by decide) (by decide) (by decide) (a := b17) (g := (mkF m 102 #[.val (.long q1), .second, .val (.long q2), .second, .val (.long q3), .second, .val (.long v1), .second, .val (.long v2), .second, .val (.long z12), .second, .val (.long z9), .second, .val (.long v13), .second, .val (.long v14), .second, .val (.ref b15), .unset, .unset, .unset, .unset, .unset, .unset, .unset, .unset, .unset] [(.long v14), (.long v14), (.ref b17), (.ref b17)])) rfl (by rw [hml]; rfl) (argsL := [(.long v14), (.long v14)]) (rest := [(.ref b17)]) rfl rfl (lenOf pd_0_1 rfl) (by show 2 * 0 + _ ≤ _; exact Nat.le_of_eq rfl) (hb hby at_102) ?_
  rintro _ T21 L21 X21 ⟨rfl, N21q, K21, E21, F21_0, F21_1⟩
  have N21 := Fr.app N16 N21q
  have Z21 : n0 ≤ T21.heap.size := Nat.le_trans Z17 K21.1
  have E_b15_22 : Exa Z T21.heap b15 "com/example/upsert/upsert/restapi/ByteRange" := E_b15_18.keep K21
  have F_first_b15_23 : Fld Z T21.heap b15 "com/example/upsert/upsert/restapi/ByteRange" "first" "J" (.long z12) := F_first_b15_19.keep K21 (ninS ne_b15_b17 nin0)
  have F_last_b15_24 : Fld Z T21.heap b15 "com/example/upsert/upsert/restapi/ByteRange" "last" "J" (.long z9) := F_last_b15_20.keep K21 (ninS ne_b15_b17 nin0)
  show Go p e below _ (T21.setTop (mkF m 105 #[.val (.long q1), .second, .val (.long q2), .second, .val (.long q3), .second, .val (.long v1), .second, .val (.long v2), .second, .val (.long z12), .second, .val (.long z9), .second, .val (.long v13), .second, .val (.long v14), .second, .val (.ref b15), .unset, .unset, .unset, .unset, .unset, .unset, .unset, .unset, .unset] [(.ref b17)]))
  refine go (fun _ q => XS.astore X21.here hx rfl (hb hby at_105) rfl rfl (l' := #[.val (.long q1), .second, .val (.long q2), .second, .val (.long q3), .second, .val (.long v1), .second, .val (.long v2), .second, .val (.long z12), .second, .val (.long z9), .second, .val (.long v13), .second, .val (.long v14), .second, .val (.ref b15), .val (.ref b17), .unset, .unset, .unset, .unset, .unset, .unset, .unset, .unset]) rfl q) ?_
  show Go p e below _ (T21.setTop (mkF m 107 #[.val (.long q1), .second, .val (.long q2), .second, .val (.long q3), .second, .val (.long v1), .second, .val (.long v2), .second, .val (.long z12), .second, .val (.long z9), .second, .val (.long v13), .second, .val (.long v14), .second, .val (.ref b15), .val (.ref b17), .unset, .unset, .unset, .unset, .unset, .unset, .unset, .unset] []))
  obtain ⟨T25, h25, X25, e25, E25, A25, D25, -, st25⟩ := newO X21 hx hZ hown (hw _ (List.mem_of_getElem? (i := 8) rfl)) (hw _ (List.mem_of_getElem? (i := 9) rfl)) (hw _ (List.mem_of_getElem? (i := 10) rfl)) rfl (g := (mkF m 107 #[.val (.long q1), .second, .val (.long q2), .second, .val (.long q3), .second, .val (.long v1), .second, .val (.long v2), .second, .val (.long z12), .second, .val (.long z9), .second, .val (.long v13), .second, .val (.long v14), .second, .val (.ref b15), .val (.ref b17), .unset, .unset, .unset, .unset, .unset, .unset, .unset, .unset] [])) rfl (hb hby at_107) (by decide) (by decide)
  obtain ⟨b25, g25⟩ : ∃ z, z = T21.heap.size := ⟨_, rfl⟩
  rw [← g25] at A25 D25 st25
  refine go st25 ?_
  have ne_b15_b25 : b15 ≠ b25 := Nat.ne_of_lt (Nat.lt_of_lt_of_le E_b15_22.lt (Nat.le_of_eq g25.symm))
  have ne_b17_b25 : b17 ≠ b25 := Nat.ne_of_lt (Nat.lt_of_lt_of_le E21.lt (Nat.le_of_eq g25.symm))
  have g_b25 : n0 ≤ b25 := Nat.le_trans Z21 (Nat.le_of_eq g25.symm)
  have Z25 : n0 ≤ h25.size := Nat.le_trans Z21 E25.1
  have E_b15_26 : Exa Z h25 b15 "com/example/upsert/upsert/restapi/ByteRange" := E_b15_22.ext E25
  have F_first_b15_27 : Fld Z h25 b15 "com/example/upsert/upsert/restapi/ByteRange" "first" "J" (.long z12) := F_first_b15_23.ext E25
  have F_last_b15_28 : Fld Z h25 b15 "com/example/upsert/upsert/restapi/ByteRange" "last" "J" (.long z9) := F_last_b15_24.ext E25
  have E_b17_29 : Exa Z h25 b17 "com/example/upsert/upsert/restapi/ByteRange" := E21.ext E25
  have F_first_b17_30 : Fld Z h25 b17 "com/example/upsert/upsert/restapi/ByteRange" "first" "J" (.long v14) := F21_0.ext E25
  have F_last_b17_31 : Fld Z h25 b17 "com/example/upsert/upsert/restapi/ByteRange" "last" "J" (.long v14) := F21_1.ext E25
  have F_first_b25 : Fld Z h25 b25 "com/example/upsert/upsert/restapi/ByteRange" "first" "J" (.long (0 : Int64)) := D25 (Or.inr (hw _ (List.mem_of_getElem? (i := 23) rfl))) (ty := .long) (by decide)
  have F_last_b25 : Fld Z h25 b25 "com/example/upsert/upsert/restapi/ByteRange" "last" "J" (.long (0 : Int64)) := D25 (Or.inr (hw _ (List.mem_of_getElem? (i := 25) rfl))) (ty := .long) (by decide)
  show Go p e below _ (T25.setTop (mkF m 110 #[.val (.long q1), .second, .val (.long q2), .second, .val (.long q3), .second, .val (.long v1), .second, .val (.long v2), .second, .val (.long z12), .second, .val (.long z9), .second, .val (.long v13), .second, .val (.long v14), .second, .val (.ref b15), .val (.ref b17), .unset, .unset, .unset, .unset, .unset, .unset, .unset, .unset] [(.ref b25)]))
  refine go (fun _ q => XS.dup X25.here hx rfl (hb hby at_110) rfl rfl q) ?_
  show Go p e below _ (T25.setTop (mkF m 111 #[.val (.long q1), .second, .val (.long q2), .second, .val (.long q3), .second, .val (.long v1), .second, .val (.long v2), .second, .val (.long z12), .second, .val (.long z9), .second, .val (.long v13), .second, .val (.long v14), .second, .val (.ref b15), .val (.ref b17), .unset, .unset, .unset, .unset, .unset, .unset, .unset, .unset] [(.ref b25), (.ref b25)]))
  refine go (fun _ q => XS.lload X25.here hx rfl (hb hby at_111) rfl q) ?_
  show Go p e below _ (T25.setTop (mkF m 113 #[.val (.long q1), .second, .val (.long q2), .second, .val (.long q3), .second, .val (.long v1), .second, .val (.long v2), .second, .val (.long z12), .second, .val (.long z9), .second, .val (.long v13), .second, .val (.long v14), .second, .val (.ref b15), .val (.ref b17), .unset, .unset, .unset, .unset, .unset, .unset, .unset, .unset] [(.long z12), (.ref b25), (.ref b25)]))
  refine go (fun _ q => XS.lload X25.here hx rfl (hb hby at_113) rfl q) ?_
  show Go p e below _ (T25.setTop (mkF m 115 #[.val (.long q1), .second, .val (.long q2), .second, .val (.long q3), .second, .val (.long v1), .second, .val (.long v2), .second, .val (.long z12), .second, .val (.long z9), .second, .val (.long v13), .second, .val (.long v14), .second, .val (.ref b15), .val (.ref b17), .unset, .unset, .unset, .unset, .unset, .unset, .unset, .unset] [(.long v14), (.long z12), (.ref b25), (.ref b25)]))
  refine own_callC X25 hx hZ hown e25 (hw _ (List.mem_of_getElem? (i := 11) rfl)) (hw _ (List.mem_of_getElem? (i := 12) rfl)) (hw _ (List.mem_of_getElem? (i := 10) rfl)) (hw _ (List.mem_of_getElem? (i := 13) rfl)) (rm3 l Z a0 hw [] b25 z12 v14 h25 n0 Z25 g_b25 A25 F_first_b25 F_last_b25) rfl (by decide) (by decide) (W := 1) (by decide) (by decide) (by decide) (a := b25) (g := (mkF m 115 #[.val (.long q1), .second, .val (.long q2), .second, .val (.long q3), .second, .val (.long v1), .second, .val (.long v2), .second, .val (.long z12), .second, .val (.long z9), .second, .val (.long v13), .second, .val (.long v14), .second, .val (.ref b15), .val (.ref b17), .unset, .unset, .unset, .unset, .unset, .unset, .unset, .unset] [(.long v14), (.long z12), (.ref b25), (.ref b25)])) rfl (by rw [hml]; rfl) (argsL := [(.long z12), (.long v14)]) (rest := [(.ref b25)]) rfl rfl (lenOf pd_0_1 rfl) (by show 2 * 0 + _ ≤ _; exact Nat.le_of_eq rfl) (hb hby at_115) ?_
  rintro _ T32 L32 X32 ⟨rfl, N32q, K32, E32, F32_0, F32_1⟩
  have N32 := Fr.app N21 N32q
  have Z32 : n0 ≤ T32.heap.size := Nat.le_trans Z25 K32.1
  have E_b15_33 : Exa Z T32.heap b15 "com/example/upsert/upsert/restapi/ByteRange" := E_b15_26.keep K32
  have F_first_b15_34 : Fld Z T32.heap b15 "com/example/upsert/upsert/restapi/ByteRange" "first" "J" (.long z12) := F_first_b15_27.keep K32 (ninS ne_b15_b25 nin0)
  have F_last_b15_35 : Fld Z T32.heap b15 "com/example/upsert/upsert/restapi/ByteRange" "last" "J" (.long z9) := F_last_b15_28.keep K32 (ninS ne_b15_b25 nin0)
  have E_b17_36 : Exa Z T32.heap b17 "com/example/upsert/upsert/restapi/ByteRange" := E_b17_29.keep K32
  have F_first_b17_37 : Fld Z T32.heap b17 "com/example/upsert/upsert/restapi/ByteRange" "first" "J" (.long v14) := F_first_b17_30.keep K32 (ninS ne_b17_b25 nin0)
  have F_last_b17_38 : Fld Z T32.heap b17 "com/example/upsert/upsert/restapi/ByteRange" "last" "J" (.long v14) := F_last_b17_31.keep K32 (ninS ne_b17_b25 nin0)
  show Go p e below _ (T32.setTop (mkF m 118 #[.val (.long q1), .second, .val (.long q2), .second, .val (.long q3), .second, .val (.long v1), .second, .val (.long v2), .second, .val (.long z12), .second, .val (.long z9), .second, .val (.long v13), .second, .val (.long v14), .second, .val (.ref b15), .val (.ref b17), .unset, .unset, .unset, .unset, .unset, .unset, .unset, .unset] [(.ref b25)]))
  refine go (fun _ q => XS.astore X32.here hx rfl (hb hby at_118) rfl rfl (l' := #[.val (.long q1), .second, .val (.long q2), .second, .val (.long q3), .second, .val (.long v1), .second, .val (.long v2), .second, .val (.long z12), .second, .val (.long z9), .second, .val (.long v13), .second, .val (.long v14), .second, .val (.ref b15), .val (.ref b17), .val (.ref b25), .unset, .unset, .unset, .unset, .unset, .unset, .unset]) rfl q) ?_
  show Go p e below _ (T32.setTop (mkF m 120 #[.val (.long q1), .second, .val (.long q2), .second, .val (.long q3), .second, .val (.long v1), .second, .val (.long v2), .second, .val (.long z12), .second, .val (.long z9), .second, .val (.long v13), .second, .val (.long v14), .second, .val (.ref b15), .val (.ref b17), .val (.ref b25), .unset, .unset, .unset, .unset, .unset, .unset, .unset] []))
  refine go (fun _ q => XS.aload X32.here hx rfl (hb hby at_120) rfl rfl q) ?_
  show Go p e below _ (T32.setTop (mkF m 122 #[.val (.long q1), .second, .val (.long q2), .second, .val (.long q3), .second, .val (.long v1), .second, .val (.long v2), .second, .val (.long z12), .second, .val (.long z9), .second, .val (.long v13), .second, .val (.long v14), .second, .val (.ref b15), .val (.ref b17), .val (.ref b25), .unset, .unset, .unset, .unset, .unset, .unset, .unset] [(.ref b15)]))
  refine own_callV X32 hx hZ hown rfl (hw _ (List.mem_of_getElem? (i := 26) rfl)) (hw _ (List.mem_of_getElem? (i := 27) rfl)) (hw _ (List.mem_of_getElem? (i := 28) rfl)) (hw _ (List.mem_of_getElem? (i := 29) rfl)) (hw _ (List.mem_of_getElem? (i := 10) rfl)) (hw _ (List.mem_of_getElem? (i := 30) rfl)) (rm6 l Z a0 hw [] b15 T32.heap n0 F_first_b15_34 F_last_b15_35) (by decide) (by decide) (W := 0) (by decide) (by decide) (by decide) (a := b15) E_b15_33 (g := (mkF m 122 #[.val (.long q1), .second, .val (.long q2), .second, .val (.long q3), .second, .val (.long v1), .second, .val (.long v2), .second, .val (.long z12), .second, .val (.long z9), .second, .val (.long v13), .second, .val (.long v14), .second, .val (.ref b15), .val (.ref b17), .val (.ref b25), .unset, .unset, .unset, .unset, .unset, .unset, .unset] [(.ref b15)])) rfl (by rw [hml]; rfl) (argsL := []) (rest := []) rfl rfl (lenOf pd_0_2 rfl) (by show 2 * 0 + _ ≤ _; exact Nat.le_of_eq rfl) (hb hby at_122) ?_
  rintro _ T39 L39 X39 ⟨rfl, N39q, e39⟩
  have N39 := Fr.app N32 N39q
  show Go p e below _ (T39.setTop (mkF m 125 #[.val (.long q1), .second, .val (.long q2), .second, .val (.long q3), .second, .val (.long v1), .second, .val (.long v2), .second, .val (.long z12), .second, .val (.long z9), .second, .val (.long v13), .second, .val (.long v14), .second, .val (.ref b15), .val (.ref b17), .val (.ref b25), .unset, .unset, .unset, .unset, .unset, .unset, .unset] [(.long (f6 z12 z9))]))
  generalize hv40 : (f6 z12 z9) = v40
  show Go p e below _ (T39.setTop (mkF m 125 #[.val (.long q1), .second, .val (.long q2), .second, .val (.long q3), .second, .val (.long v1), .second, .val (.long v2), .second, .val (.long z12), .second, .val (.long z9), .second, .val (.long v13), .second, .val (.long v14), .second, .val (.ref b15), .val (.ref b17), .val (.ref b25), .unset, .unset, .unset, .unset, .unset, .unset, .unset] [(.long v40)]))
  refine go (fun _ q => XS.lstore X39.here hx rfl (hb hby at_125) rfl (l' := #[.val (.long q1), .second, .val (.long q2), .second, .val (.long q3), .second, .val (.long v1), .second, .val (.long v2), .second, .val (.long z12), .second, .val (.long z9), .second, .val (.long v13), .second, .val (.long v14), .second, .val (.ref b15), .val (.ref b17), .val (.ref b25), .val (.long v40), .second, .unset, .unset, .unset, .unset, .unset]) rfl q) ?_
  show Go p e below _ (T39.setTop (mkF m 127 #[.val (.long q1), .second, .val (.long q2), .second, .val (.long q3), .second, .val (.long v1), .second, .val (.long v2), .second, .val (.long z12), .second, .val (.long z9), .second, .val (.long v13), .second, .val (.long v14), .second, .val (.ref b15), .val (.ref b17), .val (.ref b25), .val (.long v40), .second, .unset, .unset, .unset, .unset, .unset] []))
  refine go (fun _ q => XS.aload X39.here hx rfl (hb hby at_127) rfl rfl q) ?_
  show Go p e below _ (T39.setTop (mkF m 129 #[.val (.long q1), .second, .val (.long q2), .second, .val (.long q3), .second, .val (.long v1), .second, .val (.long v2), .second, .val (.long z12), .second, .val (.long z9), .second, .val (.long v13), .second, .val (.long v14), .second, .val (.ref b15), .val (.ref b17), .val (.ref b25), .val (.long v40), .second, .unset, .unset, .unset, .unset, .unset] [(.ref b25)]))
  refine own_callV X39 hx hZ hown e39 (hw _ (List.mem_of_getElem? (i := 26) rfl)) (hw _ (List.mem_of_getElem? (i := 27) rfl)) (hw _ (List.mem_of_getElem? (i := 28) rfl)) (hw _ (List.mem_of_getElem? (i := 29) rfl)) (hw _ (List.mem_of_getElem? (i := 10) rfl)) (hw _ (List.mem_of_getElem? (i := 30) rfl)) (rm6 l Z a0 hw [] b25 T32.heap n0 F32_0 F32_1) (by decide) (by decide) (W := 0) (by decide) (by decide) (by decide) (a := b25) E32 (g := (mkF m 129 #[.val (.long q1), .second, .val (.long q2), .second, .val (.long q3), .second, .val (.long v1), .second, .val (.long v2), .second, .val (.long z12), .second, .val (.long z9), .second, .val (.long v13), .second, .val (.long v14), .second, .val (.ref b15), .val (.ref b17), .val (.ref b25), .val (.long v40), .second, .unset, .unset, .unset, .unset, .unset] [(.ref b25)])) rfl (by rw [hml]; rfl) (argsL := []) (rest := []) rfl rfl (lenOf pd_0_2 rfl) (by show 2 * 0 + _ ≤ _; exact Nat.le_of_eq rfl) (hb hby at_129) ?_
  rintro _ T41 L41 X41 ⟨rfl, N41q, e41⟩
  have N41 := Fr.app N39 N41q
  show Go p e below _ (T41.setTop (mkF m 132 #[.val (.long q1), .second, .val (.long q2), .second, .val (.long q3), .second, .val (.long v1), .second, .val (.long v2), .second, .val (.long z12), .second, .val (.long z9), .second, .val (.long v13), .second, .val (.long v14), .second, .val (.ref b15), .val (.ref b17), .val (.ref b25), .val (.long v40), .second, .unset, .unset, .unset, .unset, .unset] [(.long (f6 z12 v14))]))
  generalize hv42 : (f6 z12 v14) = v42
  show Go p e below _ (T41.setTop (mkF m 132 #[.val (.long q1), .second, .val (.long q2), .second, .val (.long q3), .second, .val (.long v1), .second, .val (.long v2), .second, .val (.long z12), .second, .val (.long z9), .second, .val (.long v13), .second, .val (.long v14), .second, .val (.ref b15), .val (.ref b17), .val (.ref b25), .val (.long v40), .second, .unset, .unset, .unset, .unset, .unset] [(.long v42)]))
  refine go (fun _ q => XS.lstore X41.here hx rfl (hb hby at_132) rfl (l' := #[.val (.long q1), .second, .val (.long q2), .second, .val (.long q3), .second, .val (.long v1), .second, .val (.long v2), .second, .val (.long z12), .second, .val (.long z9), .second, .val (.long v13), .second, .val (.long v14), .second, .val (.ref b15), .val (.ref b17), .val (.ref b25), .val (.long v40), .second, .val (.long v42), .second, .unset, .unset, .unset]) rfl q) ?_
  show Go p e below _ (T41.setTop (mkF m 134 #[.val (.long q1), .second, .val (.long q2), .second, .val (.long q3), .second, .val (.long v1), .second, .val (.long v2), .second, .val (.long z12), .second, .val (.long z9), .second, .val (.long v13), .second, .val (.long v14), .second, .val (.ref b15), .val (.ref b17), .val (.ref b25), .val (.long v40), .second, .val (.long v42), .second, .unset, .unset, .unset] []))
  have own_w := own_len own_c hv40
  have own_l := own_len ⟨own_c.1, own_m.1, by omega⟩ hv42
  refine go (fun _ q => XS.aload X41.here hx rfl (hb hby at_134) rfl rfl q) ?_
  show Go p e below _ (T41.setTop (mkF m 136 #[.val (.long q1), .second, .val (.long q2), .second, .val (.long q3), .second, .val (.long v1), .second, .val (.long v2), .second, .val (.long z12), .second, .val (.long z9), .second, .val (.long v13), .second, .val (.long v14), .second, .val (.ref b15), .val (.ref b17), .val (.ref b25), .val (.long v40), .second, .val (.long v42), .second, .unset, .unset, .unset] [(.ref b17)]))
  refine own_callV X41 hx hZ hown e41 (hw _ (List.mem_of_getElem? (i := 26) rfl)) (hw _ (List.mem_of_getElem? (i := 27) rfl)) (hw _ (List.mem_of_getElem? (i := 28) rfl)) (hw _ (List.mem_of_getElem? (i := 29) rfl)) (hw _ (List.mem_of_getElem? (i := 10) rfl)) (hw _ (List.mem_of_getElem? (i := 30) rfl)) (rm6 l Z a0 hw [] b17 T32.heap n0 F_first_b17_37 F_last_b17_38) (by decide) (by decide) (W := 0) (by decide) (by decide) (by decide) (a := b17) E_b17_36 (g := (mkF m 136 #[.val (.long q1), .second, .val (.long q2), .second, .val (.long q3), .second, .val (.long v1), .second, .val (.long v2), .second, .val (.long z12), .second, .val (.long z9), .second, .val (.long v13), .second, .val (.long v14), .second, .val (.ref b15), .val (.ref b17), .val (.ref b25), .val (.long v40), .second, .val (.long v42), .second, .unset, .unset, .unset] [(.ref b17)])) rfl (by rw [hml]; rfl) (argsL := []) (rest := []) rfl rfl (lenOf pd_0_2 rfl) (by show 2 * 0 + _ ≤ _; exact Nat.le_of_eq rfl) (hb hby at_136) ?_
  rintro _ T43 L43 X43 ⟨rfl, N43q, e43⟩
  have N43 := Fr.app N41 N43q
  show Go p e below _ (T43.setTop (mkF m 139 #[.val (.long q1), .second, .val (.long q2), .second, .val (.long q3), .second, .val (.long v1), .second, .val (.long v2), .second, .val (.long z12), .second, .val (.long z9), .second, .val (.long v13), .second, .val (.long v14), .second, .val (.ref b15), .val (.ref b17), .val (.ref b25), .val (.long v40), .second, .val (.long v42), .second, .unset, .unset, .unset] [(.long (f6 v14 v14))]))
  refine go (fun _ q => XS.lconst X43.here hx rfl (hb hby at_139) q) ?_
  show Go p e below _ (T43.setTop (mkF m 140 #[.val (.long q1), .second, .val (.long q2), .second, .val (.long q3), .second, .val (.long v1), .second, .val (.long v2), .second, .val (.long z12), .second, .val (.long z9), .second, .val (.long v13), .second, .val (.long v14), .second, .val (.ref b15), .val (.ref b17), .val (.ref b25), .val (.long v40), .second, .val (.long v42), .second, .unset, .unset, .unset] [(.long (1 : Int64)), (.long (f6 v14 v14))]))
  refine go (fun _ q => XS.lcmp X43.here hx rfl (hb hby at_140) rfl q) ?_
  show Go p e below _ (T43.setTop (mkF m 141 #[.val (.long q1), .second, .val (.long q2), .second, .val (.long q3), .second, .val (.long v1), .second, .val (.long v2), .second, .val (.long z12), .second, .val (.long z9), .second, .val (.long v13), .second, .val (.long v14), .second, .val (.ref b15), .val (.ref b17), .val (.ref b25), .val (.long v40), .second, .val (.long v42), .second, .unset, .unset, .unset] [(.int (lcmpW (f6 v14 v14) (1 : Int64)))]))
  have hk44 : (f6 v14 v14) = (1 : Int64) := Int64.toInt_inj.mp (by rw [own_len (a := v14) (b := v14) ⟨by omega, by omega, by omega⟩ rfl]; omega)
  refine go (fun _ q => XS.ifYes X43.here hx rfl (pc0 := 141) (pc' := 146) rfl (hb hby at_141) rfl ((if0 _ _).trans (teq ((lw_eq _ _).mpr hk44)).1) (by decide) (by decide) q) ?_
  show Go p e below _ (T43.setTop (mkF m 146 #[.val (.long q1), .second, .val (.long q2), .second, .val (.long q3), .second, .val (.long v1), .second, .val (.long v2), .second, .val (.long z12), .second, .val (.long z9), .second, .val (.long v13), .second, .val (.long v14), .second, .val (.ref b15), .val (.ref b17), .val (.ref b25), .val (.long v40), .second, .val (.long v42), .second, .unset, .unset, .unset] []))
  refine go (fun _ q => XS.lload X43.here hx rfl (hb hby at_146) rfl q) ?_
  show Go p e below _ (T43.setTop (mkF m 148 #[.val (.long q1), .second, .val (.long q2), .second, .val (.long q3), .second, .val (.long v1), .second, .val (.long v2), .second, .val (.long z12), .second, .val (.long z9), .second, .val (.long v13), .second, .val (.long v14), .second, .val (.ref b15), .val (.ref b17), .val (.ref b25), .val (.long v40), .second, .val (.long v42), .second, .unset, .unset, .unset] [(.long v40)]))
  refine go (fun _ q => XS.lconst X43.here hx rfl (hb hby at_148) q) ?_
  show Go p e below _ (T43.setTop (mkF m 149 #[.val (.long q1), .second, .val (.long q2), .second, .val (.long q3), .second, .val (.long v1), .second, .val (.long v2), .second, .val (.long z12), .second, .val (.long z9), .second, .val (.long v13), .second, .val (.long v14), .second, .val (.ref b15), .val (.ref b17), .val (.ref b25), .val (.long v40), .second, .val (.long v42), .second, .unset, .unset, .unset] [(.long (1 : Int64)), (.long v40)]))
  refine go (fun _ q => XS.lcmp X43.here hx rfl (hb hby at_149) rfl q) ?_
  show Go p e below _ (T43.setTop (mkF m 150 #[.val (.long q1), .second, .val (.long q2), .second, .val (.long q3), .second, .val (.long v1), .second, .val (.long v2), .second, .val (.long z12), .second, .val (.long z9), .second, .val (.long v13), .second, .val (.long v14), .second, .val (.ref b15), .val (.ref b17), .val (.ref b25), .val (.long v40), .second, .val (.long v42), .second, .unset, .unset, .unset] [(.int (lcmpW v40 (1 : Int64)))]))
  have hk45 : ¬ (v40 < (1 : Int64)) := by rw [Int64.lt_iff_toInt_lt]; omega
  refine go (fun _ q => XS.ifNo X43.here hx rfl (hb hby at_150) rfl ((if0 _ _).trans (flt (fun q => hk45 ((lw_lt _ _).mp q))).1) q) ?_
  show Go p e below _ (T43.setTop (mkF m 153 #[.val (.long q1), .second, .val (.long q2), .second, .val (.long q3), .second, .val (.long v1), .second, .val (.long v2), .second, .val (.long z12), .second, .val (.long z9), .second, .val (.long v13), .second, .val (.long v14), .second, .val (.ref b15), .val (.ref b17), .val (.ref b25), .val (.long v40), .second, .val (.long v42), .second, .unset, .unset, .unset] []))
  refine go (fun _ q => XS.lload X43.here hx rfl (hb hby at_153) rfl q) ?_
  show Go p e below _ (T43.setTop (mkF m 155 #[.val (.long q1), .second, .val (.long q2), .second, .val (.long q3), .second, .val (.long v1), .second, .val (.long v2), .second, .val (.long z12), .second, .val (.long z9), .second, .val (.long v13), .second, .val (.long v14), .second, .val (.ref b15), .val (.ref b17), .val (.ref b25), .val (.long v40), .second, .val (.long v42), .second, .unset, .unset, .unset] [(.long v42)]))
  refine go (fun _ q => XS.lconst X43.here hx rfl (hb hby at_155) q) ?_
  show Go p e below _ (T43.setTop (mkF m 156 #[.val (.long q1), .second, .val (.long q2), .second, .val (.long q3), .second, .val (.long v1), .second, .val (.long v2), .second, .val (.long z12), .second, .val (.long z9), .second, .val (.long v13), .second, .val (.long v14), .second, .val (.ref b15), .val (.ref b17), .val (.ref b25), .val (.long v40), .second, .val (.long v42), .second, .unset, .unset, .unset] [(.long (1 : Int64)), (.long v42)]))
  refine go (fun _ q => XS.lcmp X43.here hx rfl (hb hby at_156) rfl q) ?_
  show Go p e below _ (T43.setTop (mkF m 157 #[.val (.long q1), .second, .val (.long q2), .second, .val (.long q3), .second, .val (.long v1), .second, .val (.long v2), .second, .val (.long z12), .second, .val (.long z9), .second, .val (.long v13), .second, .val (.long v14), .second, .val (.ref b15), .val (.ref b17), .val (.ref b25), .val (.long v40), .second, .val (.long v42), .second, .unset, .unset, .unset] [(.int (lcmpW v42 (1 : Int64)))]))
  have hk46 : ¬ (v42 < (1 : Int64)) := by rw [Int64.lt_iff_toInt_lt]; omega
  refine go (fun _ q => XS.ifNo X43.here hx rfl (hb hby at_157) rfl ((if0 _ _).trans (flt (fun q => hk46 ((lw_lt _ _).mp q))).1) q) ?_
  show Go p e below _ (T43.setTop (mkF m 160 #[.val (.long q1), .second, .val (.long q2), .second, .val (.long q3), .second, .val (.long v1), .second, .val (.long v2), .second, .val (.long z12), .second, .val (.long z9), .second, .val (.long v13), .second, .val (.long v14), .second, .val (.ref b15), .val (.ref b17), .val (.ref b25), .val (.long v40), .second, .val (.long v42), .second, .unset, .unset, .unset] []))
  refine go (fun _ q => XS.lload X43.here hx rfl (hb hby at_160) rfl q) ?_
  show Go p e below _ (T43.setTop (mkF m 162 #[.val (.long q1), .second, .val (.long q2), .second, .val (.long q3), .second, .val (.long v1), .second, .val (.long v2), .second, .val (.long z12), .second, .val (.long z9), .second, .val (.long v13), .second, .val (.long v14), .second, .val (.ref b15), .val (.ref b17), .val (.ref b25), .val (.long v40), .second, .val (.long v42), .second, .unset, .unset, .unset] [(.long v42)]))
  refine go (fun _ q => XS.lload X43.here hx rfl (hb hby at_162) rfl q) ?_
  show Go p e below _ (T43.setTop (mkF m 164 #[.val (.long q1), .second, .val (.long q2), .second, .val (.long q3), .second, .val (.long v1), .second, .val (.long v2), .second, .val (.long z12), .second, .val (.long z9), .second, .val (.long v13), .second, .val (.long v14), .second, .val (.ref b15), .val (.ref b17), .val (.ref b25), .val (.long v40), .second, .val (.long v42), .second, .unset, .unset, .unset] [(.long v40), (.long v42)]))
  refine go (fun _ q => XS.lcmp X43.here hx rfl (hb hby at_164) rfl q) ?_
  show Go p e below _ (T43.setTop (mkF m 165 #[.val (.long q1), .second, .val (.long q2), .second, .val (.long q3), .second, .val (.long v1), .second, .val (.long v2), .second, .val (.long z12), .second, .val (.long z9), .second, .val (.long v13), .second, .val (.long v14), .second, .val (.ref b15), .val (.ref b17), .val (.ref b25), .val (.long v40), .second, .val (.long v42), .second, .unset, .unset, .unset] [(.int (lcmpW v42 v40))]))
  have hk47 : ¬ (v40 < v42) := by rw [Int64.lt_iff_toInt_lt]; omega
  refine go (fun _ q => XS.ifYes X43.here hx rfl (pc0 := 165) (pc' := 170) rfl (hb hby at_165) rfl ((if0 _ _).trans (flt (fun q => hk47 ((lw_gt _ _).mp q))).2.2.2) (by decide) (by decide) q) ?_
  show Go p e below _ (T43.setTop (mkF m 170 #[.val (.long q1), .second, .val (.long q2), .second, .val (.long q3), .second, .val (.long v1), .second, .val (.long v2), .second, .val (.long z12), .second, .val (.long z9), .second, .val (.long v13), .second, .val (.long v14), .second, .val (.ref b15), .val (.ref b17), .val (.ref b25), .val (.long v40), .second, .val (.long v42), .second, .unset, .unset, .unset] []))
  refine go (fun _ q => XS.lload X43.here hx rfl (hb hby at_170) rfl q) ?_
  show Go p e below _ (T43.setTop (mkF m 172 #[.val (.long q1), .second, .val (.long q2), .second, .val (.long q3), .second, .val (.long v1), .second, .val (.long v2), .second, .val (.long z12), .second, .val (.long z9), .second, .val (.long v13), .second, .val (.long v14), .second, .val (.ref b15), .val (.ref b17), .val (.ref b25), .val (.long v40), .second, .val (.long v42), .second, .unset, .unset, .unset] [(.long v14)]))
  refine go (fun _ q => XS.lload X43.here hx rfl (hb hby at_172) rfl q) ?_
  show Go p e below _ (T43.setTop (mkF m 174 #[.val (.long q1), .second, .val (.long q2), .second, .val (.long q3), .second, .val (.long v1), .second, .val (.long v2), .second, .val (.long z12), .second, .val (.long z9), .second, .val (.long v13), .second, .val (.long v14), .second, .val (.ref b15), .val (.ref b17), .val (.ref b25), .val (.long v40), .second, .val (.long v42), .second, .unset, .unset, .unset] [(.long z9), (.long v14)]))
  refine go (fun _ q => XS.lcmp X43.here hx rfl (hb hby at_174) rfl q) ?_
  show Go p e below _ (T43.setTop (mkF m 175 #[.val (.long q1), .second, .val (.long q2), .second, .val (.long q3), .second, .val (.long v1), .second, .val (.long v2), .second, .val (.long z12), .second, .val (.long z9), .second, .val (.long v13), .second, .val (.long v14), .second, .val (.ref b15), .val (.ref b17), .val (.ref b25), .val (.long v40), .second, .val (.long v42), .second, .unset, .unset, .unset] [(.int (lcmpW v14 z9))]))
  by_cases hc48 : v14 = z9
  · refine go (fun _ q => XS.ifNo X43.here hx rfl (hb hby at_175) rfl ((if0 _ _).trans (teq ((lw_eq _ _).mpr hc48)).2) q) ?_
    show Go p e below _ (T43.setTop (mkF m 178 #[.val (.long q1), .second, .val (.long q2), .second, .val (.long q3), .second, .val (.long v1), .second, .val (.long v2), .second, .val (.long z12), .second, .val (.long z9), .second, .val (.long v13), .second, .val (.long v14), .second, .val (.ref b15), .val (.ref b17), .val (.ref b25), .val (.long v40), .second, .val (.long v42), .second, .unset, .unset, .unset] []))
    refine go (fun _ q => XS.lload X43.here hx rfl (hb hby at_178) rfl q) ?_
    show Go p e below _ (T43.setTop (mkF m 180 #[.val (.long q1), .second, .val (.long q2), .second, .val (.long q3), .second, .val (.long v1), .second, .val (.long v2), .second, .val (.long z12), .second, .val (.long z9), .second, .val (.long v13), .second, .val (.long v14), .second, .val (.ref b15), .val (.ref b17), .val (.ref b25), .val (.long v40), .second, .val (.long v42), .second, .unset, .unset, .unset] [(.long v42)]))
    refine go (fun _ q => XS.lload X43.here hx rfl (hb hby at_180) rfl q) ?_
    show Go p e below _ (T43.setTop (mkF m 182 #[.val (.long q1), .second, .val (.long q2), .second, .val (.long q3), .second, .val (.long v1), .second, .val (.long v2), .second, .val (.long z12), .second, .val (.long z9), .second, .val (.long v13), .second, .val (.long v14), .second, .val (.ref b15), .val (.ref b17), .val (.ref b25), .val (.long v40), .second, .val (.long v42), .second, .unset, .unset, .unset] [(.long v40), (.long v42)]))
    refine go (fun _ q => XS.lcmp X43.here hx rfl (hb hby at_182) rfl q) ?_
    show Go p e below _ (T43.setTop (mkF m 183 #[.val (.long q1), .second, .val (.long q2), .second, .val (.long q3), .second, .val (.long v1), .second, .val (.long v2), .second, .val (.long z12), .second, .val (.long z9), .second, .val (.long v13), .second, .val (.long v14), .second, .val (.ref b15), .val (.ref b17), .val (.ref b25), .val (.long v40), .second, .val (.long v42), .second, .unset, .unset, .unset] [(.int (lcmpW v42 v40))]))
    have hk49 : v42 = v40 := Int64.toInt_inj.mp (by have := congrArg Int64.toInt hc48; omega)
    refine go (fun _ q => XS.ifNo X43.here hx rfl (hb hby at_183) rfl ((if0 _ _).trans (teq ((lw_eq _ _).mpr hk49)).2) q) ?_
    show Go p e below _ (T43.setTop (mkF m 186 #[.val (.long q1), .second, .val (.long q2), .second, .val (.long q3), .second, .val (.long v1), .second, .val (.long v2), .second, .val (.long z12), .second, .val (.long z9), .second, .val (.long v13), .second, .val (.long v14), .second, .val (.ref b15), .val (.ref b17), .val (.ref b25), .val (.long v40), .second, .val (.long v42), .second, .unset, .unset, .unset] []))
    refine go (fun _ q => XS.iconst X43.here hx rfl (hb hby at_186) q) ?_
    show Go p e below _ (T43.setTop (mkF m 187 #[.val (.long q1), .second, .val (.long q2), .second, .val (.long q3), .second, .val (.long v1), .second, .val (.long v2), .second, .val (.long z12), .second, .val (.long z9), .second, .val (.long v13), .second, .val (.long v14), .second, .val (.ref b15), .val (.ref b17), .val (.ref b25), .val (.long v40), .second, .val (.long v42), .second, .unset, .unset, .unset] [(.int (1 : Int32))]))
    refine go (fun _ q => XS.goto X43.here hx rfl (pc0 := 187) (pc' := 191) rfl (hb hby at_187) (by decide) (by decide) q) ?_
    show Go p e below _ (T43.setTop (mkF m 191 #[.val (.long q1), .second, .val (.long q2), .second, .val (.long q3), .second, .val (.long v1), .second, .val (.long v2), .second, .val (.long z12), .second, .val (.long z9), .second, .val (.long v13), .second, .val (.long v14), .second, .val (.ref b15), .val (.ref b17), .val (.ref b25), .val (.long v40), .second, .val (.long v42), .second, .unset, .unset, .unset] [(.int (1 : Int32))]))
    exact own_retZ (z' := (1 : Int32)) X43 hx hlk hret (hb hby at_191) (by decide) (by decide) rfl ⟨rfl, N43⟩
  · refine go (fun _ q => XS.ifYes X43.here hx rfl (pc0 := 175) (pc' := 192) rfl (hb hby at_175) rfl ((if0 _ _).trans (feq (fun q => hc48 ((lw_eq _ _).mp q))).2) (by decide) (by decide) q) ?_
    show Go p e below _ (T43.setTop (mkF m 192 #[.val (.long q1), .second, .val (.long q2), .second, .val (.long q3), .second, .val (.long v1), .second, .val (.long v2), .second, .val (.long z12), .second, .val (.long z9), .second, .val (.long v13), .second, .val (.long v14), .second, .val (.ref b15), .val (.ref b17), .val (.ref b25), .val (.long v40), .second, .val (.long v42), .second, .unset, .unset, .unset] []))
    obtain ⟨T50, h50, X50, e50, E50, A50, D50, -, st50⟩ := newO X43 hx hZ hown (hw _ (List.mem_of_getElem? (i := 8) rfl)) (hw _ (List.mem_of_getElem? (i := 9) rfl)) (hw _ (List.mem_of_getElem? (i := 10) rfl)) e43 (g := (mkF m 192 #[.val (.long q1), .second, .val (.long q2), .second, .val (.long q3), .second, .val (.long v1), .second, .val (.long v2), .second, .val (.long z12), .second, .val (.long z9), .second, .val (.long v13), .second, .val (.long v14), .second, .val (.ref b15), .val (.ref b17), .val (.ref b25), .val (.long v40), .second, .val (.long v42), .second, .unset, .unset, .unset] [])) rfl (hb hby at_192) (by decide) (by decide)
    obtain ⟨b50, g50⟩ : ∃ z, z = T32.heap.size := ⟨_, rfl⟩
    rw [← g50] at A50 D50 st50
    refine go st50 ?_
    have ne_b15_b50 : b15 ≠ b50 := Nat.ne_of_lt (Nat.lt_of_lt_of_le E_b15_33.lt (Nat.le_of_eq g50.symm))
    have ne_b17_b50 : b17 ≠ b50 := Nat.ne_of_lt (Nat.lt_of_lt_of_le E_b17_36.lt (Nat.le_of_eq g50.symm))
    have ne_b25_b50 : b25 ≠ b50 := Nat.ne_of_lt (Nat.lt_of_lt_of_le E32.lt (Nat.le_of_eq g50.symm))
    have g_b50 : n0 ≤ b50 := Nat.le_trans Z32 (Nat.le_of_eq g50.symm)
    have Z50 : n0 ≤ h50.size := Nat.le_trans Z32 E50.1
    have E_b15_51 : Exa Z h50 b15 "com/example/upsert/upsert/restapi/ByteRange" := E_b15_33.ext E50
    have F_first_b15_52 : Fld Z h50 b15 "com/example/upsert/upsert/restapi/ByteRange" "first" "J" (.long z12) := F_first_b15_34.ext E50
    have F_last_b15_53 : Fld Z h50 b15 "com/example/upsert/upsert/restapi/ByteRange" "last" "J" (.long z9) := F_last_b15_35.ext E50
    have E_b17_54 : Exa Z h50 b17 "com/example/upsert/upsert/restapi/ByteRange" := E_b17_36.ext E50
    have F_first_b17_55 : Fld Z h50 b17 "com/example/upsert/upsert/restapi/ByteRange" "first" "J" (.long v14) := F_first_b17_37.ext E50
    have F_last_b17_56 : Fld Z h50 b17 "com/example/upsert/upsert/restapi/ByteRange" "last" "J" (.long v14) := F_last_b17_38.ext E50
    have E_b25_57 : Exa Z h50 b25 "com/example/upsert/upsert/restapi/ByteRange" := E32.ext E50
    have F_first_b25_58 : Fld Z h50 b25 "com/example/upsert/upsert/restapi/ByteRange" "first" "J" (.long z12) := F32_0.ext E50
    have F_last_b25_59 : Fld Z h50 b25 "com/example/upsert/upsert/restapi/ByteRange" "last" "J" (.long v14) := F32_1.ext E50
    have F_first_b50 : Fld Z h50 b50 "com/example/upsert/upsert/restapi/ByteRange" "first" "J" (.long (0 : Int64)) := D50 (Or.inr (hw _ (List.mem_of_getElem? (i := 23) rfl))) (ty := .long) (by decide)
    have F_last_b50 : Fld Z h50 b50 "com/example/upsert/upsert/restapi/ByteRange" "last" "J" (.long (0 : Int64)) := D50 (Or.inr (hw _ (List.mem_of_getElem? (i := 25) rfl))) (ty := .long) (by decide)
    show Go p e below _ (T50.setTop (mkF m 195 #[.val (.long q1), .second, .val (.long q2), .second, .val (.long q3), .second, .val (.long v1), .second, .val (.long v2), .second, .val (.long z12), .second, .val (.long z9), .second, .val (.long v13), .second, .val (.long v14), .second, .val (.ref b15), .val (.ref b17), .val (.ref b25), .val (.long v40), .second, .val (.long v42), .second, .unset, .unset, .unset] [(.ref b50)]))
    refine go (fun _ q => XS.dup X50.here hx rfl (hb hby at_195) rfl rfl q) ?_
    show Go p e below _ (T50.setTop (mkF m 196 #[.val (.long q1), .second, .val (.long q2), .second, .val (.long q3), .second, .val (.long v1), .second, .val (.long v2), .second, .val (.long z12), .second, .val (.long z9), .second, .val (.long v13), .second, .val (.long v14), .second, .val (.ref b15), .val (.ref b17), .val (.ref b25), .val (.long v40), .second, .val (.long v42), .second, .unset, .unset, .unset] [(.ref b50), (.ref b50)]))
    refine go (fun _ q => XS.lload X50.here hx rfl (hb hby at_196) rfl q) ?_
    show Go p e below _ (T50.setTop (mkF m 198 #[.val (.long q1), .second, .val (.long q2), .second, .val (.long q3), .second, .val (.long v1), .second, .val (.long v2), .second, .val (.long z12), .second, .val (.long z9), .second, .val (.long v13), .second, .val (.long v14), .second, .val (.ref b15), .val (.ref b17), .val (.ref b25), .val (.long v40), .second, .val (.long v42), .second, .unset, .unset, .unset] [(.long v14), (.ref b50), (.ref b50)]))
    refine go (fun _ q => XS.lconst X50.here hx rfl (hb hby at_198) q) ?_
    show Go p e below _ (T50.setTop (mkF m 199 #[.val (.long q1), .second, .val (.long q2), .second, .val (.long q3), .second, .val (.long v1), .second, .val (.long v2), .second, .val (.long z12), .second, .val (.long z9), .second, .val (.long v13), .second, .val (.long v14), .second, .val (.ref b15), .val (.ref b17), .val (.ref b25), .val (.long v40), .second, .val (.long v42), .second, .unset, .unset, .unset] [(.long (1 : Int64)), (.long v14), (.ref b50), (.ref b50)]))
    refine go (fun _ q => XS.ladd X50.here hx rfl (hb hby at_199) rfl q) ?_
    show Go p e below _ (T50.setTop (mkF m 200 #[.val (.long q1), .second, .val (.long q2), .second, .val (.long q3), .second, .val (.long v1), .second, .val (.long v2), .second, .val (.long z12), .second, .val (.long z9), .second, .val (.long v13), .second, .val (.long v14), .second, .val (.ref b15), .val (.ref b17), .val (.ref b25), .val (.long v40), .second, .val (.long v42), .second, .unset, .unset, .unset] [(.long (v14 + (1 : Int64))), (.ref b50), (.ref b50)]))
    refine go (fun _ q => XS.lload X50.here hx rfl (hb hby at_200) rfl q) ?_
    show Go p e below _ (T50.setTop (mkF m 202 #[.val (.long q1), .second, .val (.long q2), .second, .val (.long q3), .second, .val (.long v1), .second, .val (.long v2), .second, .val (.long z12), .second, .val (.long z9), .second, .val (.long v13), .second, .val (.long v14), .second, .val (.ref b15), .val (.ref b17), .val (.ref b25), .val (.long v40), .second, .val (.long v42), .second, .unset, .unset, .unset] [(.long z9), (.long (v14 + (1 : Int64))), (.ref b50), (.ref b50)]))
    refine own_callC X50 hx hZ hown e50 (hw _ (List.mem_of_getElem? (i := 11) rfl)) (hw _ (List.mem_of_getElem? (i := 12) rfl)) (hw _ (List.mem_of_getElem? (i := 10) rfl)) (hw _ (List.mem_of_getElem? (i := 13) rfl)) (rm3 l Z a0 hw [] b50 (v14 + (1 : Int64)) z9 h50 n0 Z50 g_b50 A50 F_first_b50 F_last_b50) rfl (by decide) (by decide) (W := 1) (by decide) (by decide) (by decide) (a := b50) (g := (mkF m 202 #[.val (.long q1), .second, .val (.long q2), .second, .val (.long q3), .second, .val (.long v1), .second, .val (.long v2), .second, .val (.long z12), .second, .val (.long z9), .second, .val (.long v13), .second, .val (.long v14), .second, .val (.ref b15), .val (.ref b17), .val (.ref b25), .val (.long v40), .second, .val (.long v42), .second, .unset, .unset, .unset] [(.long z9), (.long (v14 + (1 : Int64))), (.ref b50), (.ref b50)])) rfl (by rw [hml]; rfl) (argsL := [(.long (v14 + (1 : Int64))), (.long z9)]) (rest := [(.ref b50)]) rfl rfl (lenOf pd_0_1 rfl) (by show 2 * 0 + _ ≤ _; exact Nat.le_of_eq rfl) (hb hby at_202) ?_
    rintro _ T60 L60 X60 ⟨rfl, N60q, K60, E60, F60_0, F60_1⟩
    have N60 := Fr.app N43 N60q
    have Z60 : n0 ≤ T60.heap.size := Nat.le_trans Z50 K60.1
    have E_b15_61 : Exa Z T60.heap b15 "com/example/upsert/upsert/restapi/ByteRange" := E_b15_51.keep K60
    have F_first_b15_62 : Fld Z T60.heap b15 "com/example/upsert/upsert/restapi/ByteRange" "first" "J" (.long z12) := F_first_b15_52.keep K60 (ninS ne_b15_b50 nin0)
    have F_last_b15_63 : Fld Z T60.heap b15 "com/example/upsert/upsert/restapi/ByteRange" "last" "J" (.long z9) := F_last_b15_53.keep K60 (ninS ne_b15_b50 nin0)
    have E_b17_64 : Exa Z T60.heap b17 "com/example/upsert/upsert/restapi/ByteRange" := E_b17_54.keep K60
    have F_first_b17_65 : Fld Z T60.heap b17 "com/example/upsert/upsert/restapi/ByteRange" "first" "J" (.long v14) := F_first_b17_55.keep K60 (ninS ne_b17_b50 nin0)
    have F_last_b17_66 : Fld Z T60.heap b17 "com/example/upsert/upsert/restapi/ByteRange" "last" "J" (.long v14) := F_last_b17_56.keep K60 (ninS ne_b17_b50 nin0)
    have E_b25_67 : Exa Z T60.heap b25 "com/example/upsert/upsert/restapi/ByteRange" := E_b25_57.keep K60
    have F_first_b25_68 : Fld Z T60.heap b25 "com/example/upsert/upsert/restapi/ByteRange" "first" "J" (.long z12) := F_first_b25_58.keep K60 (ninS ne_b25_b50 nin0)
    have F_last_b25_69 : Fld Z T60.heap b25 "com/example/upsert/upsert/restapi/ByteRange" "last" "J" (.long v14) := F_last_b25_59.keep K60 (ninS ne_b25_b50 nin0)
    show Go p e below _ (T60.setTop (mkF m 205 #[.val (.long q1), .second, .val (.long q2), .second, .val (.long q3), .second, .val (.long v1), .second, .val (.long v2), .second, .val (.long z12), .second, .val (.long z9), .second, .val (.long v13), .second, .val (.long v14), .second, .val (.ref b15), .val (.ref b17), .val (.ref b25), .val (.long v40), .second, .val (.long v42), .second, .unset, .unset, .unset] [(.ref b50)]))
    refine go (fun _ q => XS.astore X60.here hx rfl (hb hby at_205) rfl rfl (l' := #[.val (.long q1), .second, .val (.long q2), .second, .val (.long q3), .second, .val (.long v1), .second, .val (.long v2), .second, .val (.long z12), .second, .val (.long z9), .second, .val (.long v13), .second, .val (.long v14), .second, .val (.ref b15), .val (.ref b17), .val (.ref b25), .val (.long v40), .second, .val (.long v42), .second, .val (.ref b50), .unset, .unset]) rfl q) ?_
    show Go p e below _ (T60.setTop (mkF m 207 #[.val (.long q1), .second, .val (.long q2), .second, .val (.long q3), .second, .val (.long v1), .second, .val (.long v2), .second, .val (.long z12), .second, .val (.long z9), .second, .val (.long v13), .second, .val (.long v14), .second, .val (.ref b15), .val (.ref b17), .val (.ref b25), .val (.long v40), .second, .val (.long v42), .second, .val (.ref b50), .unset, .unset] []))
    refine go (fun _ q => XS.aload X60.here hx rfl (hb hby at_207) rfl rfl q) ?_
    show Go p e below _ (T60.setTop (mkF m 209 #[.val (.long q1), .second, .val (.long q2), .second, .val (.long q3), .second, .val (.long v1), .second, .val (.long v2), .second, .val (.long z12), .second, .val (.long z9), .second, .val (.long v13), .second, .val (.long v14), .second, .val (.ref b15), .val (.ref b17), .val (.ref b25), .val (.long v40), .second, .val (.long v42), .second, .val (.ref b50), .unset, .unset] [(.ref b50)]))
    refine own_callV X60 hx hZ hown rfl (hw _ (List.mem_of_getElem? (i := 26) rfl)) (hw _ (List.mem_of_getElem? (i := 27) rfl)) (hw _ (List.mem_of_getElem? (i := 28) rfl)) (hw _ (List.mem_of_getElem? (i := 29) rfl)) (hw _ (List.mem_of_getElem? (i := 10) rfl)) (hw _ (List.mem_of_getElem? (i := 30) rfl)) (rm6 l Z a0 hw [] b50 T60.heap n0 F60_0 F60_1) (by decide) (by decide) (W := 0) (by decide) (by decide) (by decide) (a := b50) E60 (g := (mkF m 209 #[.val (.long q1), .second, .val (.long q2), .second, .val (.long q3), .second, .val (.long v1), .second, .val (.long v2), .second, .val (.long z12), .second, .val (.long z9), .second, .val (.long v13), .second, .val (.long v14), .second, .val (.ref b15), .val (.ref b17), .val (.ref b25), .val (.long v40), .second, .val (.long v42), .second, .val (.ref b50), .unset, .unset] [(.ref b50)])) rfl (by rw [hml]; rfl) (argsL := []) (rest := []) rfl rfl (lenOf pd_0_2 rfl) (by show 2 * 0 + _ ≤ _; exact Nat.le_of_eq rfl) (hb hby at_209) ?_
    rintro _ T70 L70 X70 ⟨rfl, N70q, e70⟩
    have N70 := Fr.app N60 N70q
    show Go p e below _ (T70.setTop (mkF m 212 #[.val (.long q1), .second, .val (.long q2), .second, .val (.long q3), .second, .val (.long v1), .second, .val (.long v2), .second, .val (.long z12), .second, .val (.long z9), .second, .val (.long v13), .second, .val (.long v14), .second, .val (.ref b15), .val (.ref b17), .val (.ref b25), .val (.long v40), .second, .val (.long v42), .second, .val (.ref b50), .unset, .unset] [(.long (f6 (v14 + (1 : Int64)) z9))]))
    generalize hv71 : (f6 (v14 + (1 : Int64)) z9) = v71
    show Go p e below _ (T70.setTop (mkF m 212 #[.val (.long q1), .second, .val (.long q2), .second, .val (.long q3), .second, .val (.long v1), .second, .val (.long v2), .second, .val (.long z12), .second, .val (.long z9), .second, .val (.long v13), .second, .val (.long v14), .second, .val (.ref b15), .val (.ref b17), .val (.ref b25), .val (.long v40), .second, .val (.long v42), .second, .val (.ref b50), .unset, .unset] [(.long v71)]))
    refine go (fun _ q => XS.lstore X70.here hx rfl (hb hby at_212) rfl (l' := #[.val (.long q1), .second, .val (.long q2), .second, .val (.long q3), .second, .val (.long v1), .second, .val (.long v2), .second, .val (.long z12), .second, .val (.long z9), .second, .val (.long v13), .second, .val (.long v14), .second, .val (.ref b15), .val (.ref b17), .val (.ref b25), .val (.long v40), .second, .val (.long v42), .second, .val (.ref b50), .val (.long v71), .second]) rfl q) ?_
    show Go p e below _ (T70.setTop (mkF m 214 #[.val (.long q1), .second, .val (.long q2), .second, .val (.long q3), .second, .val (.long v1), .second, .val (.long v2), .second, .val (.long z12), .second, .val (.long z9), .second, .val (.long v13), .second, .val (.long v14), .second, .val (.ref b15), .val (.ref b17), .val (.ref b25), .val (.long v40), .second, .val (.long v42), .second, .val (.ref b50), .val (.long v71), .second] []))
    have own_q : ¬ v14.toInt = z9.toInt := fun k => hc48 (Int64.toInt_inj.mp k)
    have own_p : (v14 + (1 : Int64)).toInt = v14.toInt + 1 := by have a := c_ladd v14 1; have b1 := Int64.le_toInt (v14 + 1); have b2 := Int64.toInt_lt (v14 + 1); omega
    have own_r := own_len (a := v14 + 1) (b := z9) ⟨by omega, by omega, by omega⟩ hv71
    refine go (fun _ q => XS.lload X70.here hx rfl (hb hby at_214) rfl q) ?_
    show Go p e below _ (T70.setTop (mkF m 216 #[.val (.long q1), .second, .val (.long q2), .second, .val (.long q3), .second, .val (.long v1), .second, .val (.long v2), .second, .val (.long z12), .second, .val (.long z9), .second, .val (.long v13), .second, .val (.long v14), .second, .val (.ref b15), .val (.ref b17), .val (.ref b25), .val (.long v40), .second, .val (.long v42), .second, .val (.ref b50), .val (.long v71), .second] [(.long v71)]))
    refine go (fun _ q => XS.lconst X70.here hx rfl (hb hby at_216) q) ?_
    show Go p e below _ (T70.setTop (mkF m 217 #[.val (.long q1), .second, .val (.long q2), .second, .val (.long q3), .second, .val (.long v1), .second, .val (.long v2), .second, .val (.long z12), .second, .val (.long z9), .second, .val (.long v13), .second, .val (.long v14), .second, .val (.ref b15), .val (.ref b17), .val (.ref b25), .val (.long v40), .second, .val (.long v42), .second, .val (.ref b50), .val (.long v71), .second] [(.long (1 : Int64)), (.long v71)]))
    refine go (fun _ q => XS.lcmp X70.here hx rfl (hb hby at_217) rfl q) ?_
    show Go p e below _ (T70.setTop (mkF m 218 #[.val (.long q1), .second, .val (.long q2), .second, .val (.long q3), .second, .val (.long v1), .second, .val (.long v2), .second, .val (.long z12), .second, .val (.long z9), .second, .val (.long v13), .second, .val (.long v14), .second, .val (.ref b15), .val (.ref b17), .val (.ref b25), .val (.long v40), .second, .val (.long v42), .second, .val (.ref b50), .val (.long v71), .second] [(.int (lcmpW v71 (1 : Int64)))]))
    have hk72 : ¬ (v71 < (1 : Int64)) := by rw [Int64.lt_iff_toInt_lt]; omega
    refine go (fun _ q => XS.ifNo X70.here hx rfl (hb hby at_218) rfl ((if0 _ _).trans (flt (fun q => hk72 ((lw_lt _ _).mp q))).1) q) ?_
    show Go p e below _ (T70.setTop (mkF m 221 #[.val (.long q1), .second, .val (.long q2), .second, .val (.long q3), .second, .val (.long v1), .second, .val (.long v2), .second, .val (.long z12), .second, .val (.long z9), .second, .val (.long v13), .second, .val (.long v14), .second, .val (.ref b15), .val (.ref b17), .val (.ref b25), .val (.long v40), .second, .val (.long v42), .second, .val (.ref b50), .val (.long v71), .second] []))
    refine go (fun _ q => XS.lload X70.here hx rfl (hb hby at_221) rfl q) ?_
    show Go p e below _ (T70.setTop (mkF m 223 #[.val (.long q1), .second, .val (.long q2), .second, .val (.long q3), .second, .val (.long v1), .second, .val (.long v2), .second, .val (.long z12), .second, .val (.long z9), .second, .val (.long v13), .second, .val (.long v14), .second, .val (.ref b15), .val (.ref b17), .val (.ref b25), .val (.long v40), .second, .val (.long v42), .second, .val (.ref b50), .val (.long v71), .second] [(.long v42)]))
    refine go (fun _ q => XS.lload X70.here hx rfl (hb hby at_223) rfl q) ?_
    show Go p e below _ (T70.setTop (mkF m 225 #[.val (.long q1), .second, .val (.long q2), .second, .val (.long q3), .second, .val (.long v1), .second, .val (.long v2), .second, .val (.long z12), .second, .val (.long z9), .second, .val (.long v13), .second, .val (.long v14), .second, .val (.ref b15), .val (.ref b17), .val (.ref b25), .val (.long v40), .second, .val (.long v42), .second, .val (.ref b50), .val (.long v71), .second] [(.long v71), (.long v42)]))
    refine go (fun _ q => XS.ladd X70.here hx rfl (hb hby at_225) rfl q) ?_
    show Go p e below _ (T70.setTop (mkF m 226 #[.val (.long q1), .second, .val (.long q2), .second, .val (.long q3), .second, .val (.long v1), .second, .val (.long v2), .second, .val (.long z12), .second, .val (.long z9), .second, .val (.long v13), .second, .val (.long v14), .second, .val (.ref b15), .val (.ref b17), .val (.ref b25), .val (.long v40), .second, .val (.long v42), .second, .val (.ref b50), .val (.long v71), .second] [(.long (v42 + v71))]))
    refine go (fun _ q => XS.lload X70.here hx rfl (hb hby at_226) rfl q) ?_
    show Go p e below _ (T70.setTop (mkF m 228 #[.val (.long q1), .second, .val (.long q2), .second, .val (.long q3), .second, .val (.long v1), .second, .val (.long v2), .second, .val (.long z12), .second, .val (.long z9), .second, .val (.long v13), .second, .val (.long v14), .second, .val (.ref b15), .val (.ref b17), .val (.ref b25), .val (.long v40), .second, .val (.long v42), .second, .val (.ref b50), .val (.long v71), .second] [(.long v40), (.long (v42 + v71))]))
    refine go (fun _ q => XS.lcmp X70.here hx rfl (hb hby at_228) rfl q) ?_
    show Go p e below _ (T70.setTop (mkF m 229 #[.val (.long q1), .second, .val (.long q2), .second, .val (.long q3), .second, .val (.long v1), .second, .val (.long v2), .second, .val (.long z12), .second, .val (.long z9), .second, .val (.long v13), .second, .val (.long v14), .second, .val (.ref b15), .val (.ref b17), .val (.ref b25), .val (.long v40), .second, .val (.long v42), .second, .val (.ref b50), .val (.long v71), .second] [(.int (lcmpW (v42 + v71) v40))]))
    have hk73 : (v42 + v71) = v40 := Int64.toInt_inj.mp (by have a := c_ladd v42 v71; have b1 := Int64.le_toInt (v42 + v71); have b2 := Int64.toInt_lt (v42 + v71); omega)
    refine go (fun _ q => XS.ifNo X70.here hx rfl (hb hby at_229) rfl ((if0 _ _).trans (teq ((lw_eq _ _).mpr hk73)).2) q) ?_
    show Go p e below _ (T70.setTop (mkF m 232 #[.val (.long q1), .second, .val (.long q2), .second, .val (.long q3), .second, .val (.long v1), .second, .val (.long v2), .second, .val (.long z12), .second, .val (.long z9), .second, .val (.long v13), .second, .val (.long v14), .second, .val (.ref b15), .val (.ref b17), .val (.ref b25), .val (.long v40), .second, .val (.long v42), .second, .val (.ref b50), .val (.long v71), .second] []))
    refine go (fun _ q => XS.iconst X70.here hx rfl (hb hby at_232) q) ?_
    show Go p e below _ (T70.setTop (mkF m 233 #[.val (.long q1), .second, .val (.long q2), .second, .val (.long q3), .second, .val (.long v1), .second, .val (.long v2), .second, .val (.long z12), .second, .val (.long z9), .second, .val (.long v13), .second, .val (.long v14), .second, .val (.ref b15), .val (.ref b17), .val (.ref b25), .val (.long v40), .second, .val (.long v42), .second, .val (.ref b50), .val (.long v71), .second] [(.int (1 : Int32))]))
    refine go (fun _ q => XS.goto X70.here hx rfl (pc0 := 233) (pc' := 237) rfl (hb hby at_233) (by decide) (by decide) q) ?_
    show Go p e below _ (T70.setTop (mkF m 237 #[.val (.long q1), .second, .val (.long q2), .second, .val (.long q3), .second, .val (.long v1), .second, .val (.long v2), .second, .val (.long z12), .second, .val (.long z9), .second, .val (.long v13), .second, .val (.long v14), .second, .val (.ref b15), .val (.ref b17), .val (.ref b25), .val (.long v40), .second, .val (.long v42), .second, .val (.ref b50), .val (.long v71), .second] [(.int (1 : Int32))]))
    exact own_retZ (z' := (1 : Int32)) X70 hx hlk hret (hb hby at_237) (by decide) (by decide) rfl ⟨rfl, N70⟩
set_option maxRecDepth 65536 in
set_option maxHeartbeats 40000000 in
theorem comes_1 {Post : Tables → Env → Array Value → State → Outcome → State → Prop} (hpost : ∀ tb e args s v u, (limb_1_1.after args s (.returned v) u = true ∧ limb_1_2.after args s (.returned v) u = true ∧ True) → FrameEnd s (.returned v) u (Jvm.fieldLocs frame_1_writes args s ++ Jvm.arrayLocs frame_1_arrays args s ++ Jvm.staticLocs frame_1_statics s) 16 128 → Post tb e args s (.returned v) u) :
    ArmFor flags0 classFile x code maxLocals ret World_1 tables_1 room_1 Calls_1 rest_1 Pre_1 Post := by
  intro l hfl _ _ p e ha hc hk s m args below hf hA hF happ hP
  obtain ⟨hcalls, hrest, hpre⟩ := hP
  obtain ⟨-, -, -, hnamed, -, -, -, hat⟩ := (Spec.applies_iff hf).mp happ
  obtain ⟨hg, hn⟩ := and_e (Cond.before_iff.mp (show (Jvm.Cond.and given_1 narrow_1).before args s = true from hpre))
  obtain ⟨gc, g0⟩ := and_e hg
  obtain ⟨ga0, g1⟩ := and_e g0
  obtain ⟨ga1, g2⟩ := and_e g1
  have ga2 := g2
  obtain ⟨w0, w1, w2, rfl⟩ : ∃ w0 w1 w2 : Value, args = #[w0, w1, w2] := by
    have hs : args.size = 3 := by simpa [Cond.value, given_1] using gc
    obtain ⟨L⟩ := args
    match L, hs with
    | [w0, w1, w2], _ => exact ⟨w0, w1, w2, rfl⟩
  have hw := fun d (hd : d ∈ tables_1) => atoms_spec (ws := Jvm.Cond.code x code maxLocals ret :: tables_1) hat d (List.mem_cons_of_mem _ hd)
  obtain ⟨i0, ei0⟩ := isL_v ga0
  obtain rfl : w0 = (.long i0) := Option.some.inj ei0
  obtain ⟨i1, ei1⟩ := isL_v ga1
  obtain rfl : w1 = (.long i1) := Option.some.inj ei1
  obtain ⟨i2, ei2⟩ := isL_v ga2
  obtain rfl : w2 = (.long i2) := Option.some.inj ei2
  obtain ⟨n, o, h1, h2, h3, _, L, rfl, ⟨rfl, N⟩, hq⟩ := rm0 l s _ hw tables_1 i0 i1 i2 s.heap s.heap.size (Nat.le_refl _) p e ha hc hk s m _ below hf ((Spec.applies_iff_loose hf).mp happ).1 ⟨rfl, State.Warmed39.refl s, rfl⟩ trivial
  refine ⟨n, _, h1, h2, h3, hpost _ _ _ _ _ _ ⟨Cond.after_iff.mpr rfl, Cond.after_iff.mpr (eq_i res_at (Term.int_eval (1)) rfl), trivial⟩ ⟨hq.1, hq.2.1, (hq.2.2.sift fun y hy => Or.inr (N y hy)).mono (by decide) (by decide)⟩⟩
theorem main_1_1 : Claimed_1_1 := comes_1 fun _ _ _ _ _ _ h hF => ⟨h.1, hF⟩
theorem main_1_2 : Claimed_1_2 := comes_1 fun _ _ _ _ _ _ h hF => ⟨h.2.1, hF⟩
end Jvm.Pilot.@@N@@
namespace Jvm.Pilot.@@N@@
open Jvm Jvm.ClassFile Sem Op Lib Jvm.Free Jvm.Stand Jvm.Pilot.@@N@@.Jvm.D
/-! MADE BY PROGRAM (witnessworld.py) out of the Statement's table words and the real class files: 11 classes; the members and pool entries that the words name. The judged class is class 1, her method 1. -/
namespace start1
open Jvm.ClassFile
def u (s : String) : CpInfo := .utf8 (stringToUtf16 s)
/-- a pool by its gaps: so many unusable entries, then the entry; so many at the end -/
def gap : Nat → List CpInfo → List CpInfo
  | 0, r => r
  | n + 1, r => .unusable :: gap n r
def poolList (es : List (Nat × CpInfo)) (last : Nat) : List CpInfo := es.foldr (fun e r => gap e.1 (e.2 :: r)) (gap last [])
def pool (es : List (Nat × CpInfo)) (last : Nat) : Array CpInfo := ⟨poolList es last⟩
def fileOf (pool : Array CpInfo) (this : Nat) (attrs : Array Attribute := #[]) (ms : Array MethodInfo := #[]) (fl : Nat := 33) (sup : Nat := 0) (ifs : Array Nat := #[]) (fds : Array FieldInfo := #[]) : ClassFile where
  minorVersion := 0
  majorVersion := 65
  constantPool := pool
  accessFlags := fl
  thisClass := this
  superClass := sup
  interfaces := ifs
  fields := fds
  methods := ms
  attributes := attrs
def plain (name : String) (sup : Option ClassId) : Class where
  name := name
  kind := .ordinary
  loader := none
  accessFlags := 33
  super := sup
  interfaces := #[]
  cf := none
  fields := #[]
  methods := #[]
  instanceTypes := #[]
  staticTypes := #[]
  resolved := #[]
  callSites := []
  init := .initialized
  statics := none
  mirror := none

def pool0 : Array CpInfo := pool [(5, u "<init>"), (0, u "()V"), (1, .class_ 10), (1, u "java/lang/Object")] 113

def k0c0 : Code := { maxStack := 0, maxLocals := 1, code := object_method_1_code, exceptionTable := #[], attributes := #[] }
def k0m0 : Method := { name := "<init>", desc := "()V", sig := { parameters := [], returnType := none }, accessFlags := 1, code := some k0c0 }
/-- java/lang/Object -/
def k0 : Class := { plain "java/lang/Object" none with
  accessFlags := 33
  interfaces := #[]
  cf := some (fileOf pool0 8 #[] #[{ accessFlags := 1, nameIndex := 5, descriptorIndex := 6, attributes := #[] }] 33 0 #[] #[])
  fields := #[]
  methods := #[k0m0]
  instanceTypes := #[]
  staticTypes := #[]
  resolved := Array.replicate 124 none
  statics := none }

def pool1 : Array CpInfo := pool [(2, .class_ 4), (1, u "java/lang/Object"), (0, u "<init>"), (0, u "()V"), (2, .long 9223372036854775807), (1, .methodref 12 13), (0, .class_ 14), (0, .nameAndType 15 16), (0, u "java/lang/Math"), (0, u "min"), (0, u "(JJ)J"), (0, .methodref 12 18), (0, .nameAndType 19 16), (0, u "max"), (0, .long 9223372036854775806), (1, .class_ 23), (0, u "com/example/upsert/upsert/restapi/ByteRange"), (0, .methodref 22 25), (0, .nameAndType 5 26), (0, u "(JJ)V"), (0, .methodref 22 28), (0, .nameAndType 29 30), (0, u "length"), (0, u "()J"), (0, .class_ 32), (0, u "com/example/upsert/upsert/restapi/ByteRangeLengthPinLaw"), (2, u "law"), (0, u "(JJJ)Z")] 3

def k1m0 : Method := { name := "<init>", desc := "()V", sig := { parameters := [], returnType := none }, accessFlags := 1, code := none }
def k1c1 : Code := { maxStack := 6, maxLocals := 28, code := code, exceptionTable := #[], attributes := #[] }
def k1m1 : Method := { name := "law", desc := "(JJJ)Z", sig := { parameters := [.long, .long, .long], returnType := some .boolean }, accessFlags := 9, code := some k1c1 }
/-- com/example/upsert/upsert/restapi/ByteRangeLengthPinLaw -/
def k1 : Class := { plain "com/example/upsert/upsert/restapi/ByteRangeLengthPinLaw" (some 0) with
  accessFlags := 49
  interfaces := #[]
  cf := some (fileOf pool1 31 #[] #[{ accessFlags := 1, nameIndex := 5, descriptorIndex := 6, attributes := #[] }, { accessFlags := 9, nameIndex := 35, descriptorIndex := 36, attributes := #[] }] 49 2 #[] #[])
  fields := #[]
  methods := #[k1m0, k1m1]
  instanceTypes := #[]
  staticTypes := #[]
  resolved := Array.replicate 40 none
  statics := none }

def pool2 : Array CpInfo := pool [(1, .class_ 2), (0, u "java/lang/Math"), (1, .class_ 6), (1, u "java/lang/Object"), (0, u "<init>"), (0, u "()V"), (89, .class_ 100), (1, u "java/lang/Math$RandomNumberGeneratorHolder"), (20, u "(JJ)J"), (50, u "negativeZeroFloatBits"), (0, u "J"), (2, u "negativeZeroDoubleBits"), (21, u "max"), (2, u "min"), (43, u "$assertionsDisabled"), (0, u "Z"), (91, u "twoToTheDoubleScaleDown"), (0, u "D"), (4, u "twoToTheDoubleScaleUp"), (9, u "E"), (3, u "PI"), (2, u "TAU"), (2, u "DEGREES_TO_RADIANS"), (0, u "RADIANS_TO_DEGREES")] 94

def k2m0 : Method := { name := "<init>", desc := "()V", sig := { parameters := [], returnType := none }, accessFlags := 2, code := none }
def k2c1 : Code := { maxStack := 4, maxLocals := 4, code := jdk_29_method_66_code, exceptionTable := #[], attributes := #[] }
def k2m1 : Method := { name := "max", desc := "(JJ)J", sig := { parameters := [.long, .long], returnType := some .long }, accessFlags := 9, code := some k2c1 }
def k2c2 : Code := { maxStack := 4, maxLocals := 4, code := jdk_29_method_70_code, exceptionTable := #[], attributes := #[] }
def k2m2 : Method := { name := "min", desc := "(JJ)J", sig := { parameters := [.long, .long], returnType := some .long }, accessFlags := 9, code := some k2c2 }
/-- java/lang/Math -/
def k2 : Class := { plain "java/lang/Math" (some 0) with
  accessFlags := 49
  interfaces := #[]
  cf := some (fileOf pool2 1 #[.nestMembers #[98]] #[{ accessFlags := 2, nameIndex := 7, descriptorIndex := 8, attributes := #[] }, { accessFlags := 9, nameIndex := 198, descriptorIndex := 121, attributes := #[] }, { accessFlags := 9, nameIndex := 201, descriptorIndex := 121, attributes := #[] }] 49 4 #[] #[{ accessFlags := 25, nameIndex := 354, descriptorIndex := 339, attributes := #[] }, { accessFlags := 25, nameIndex := 358, descriptorIndex := 339, attributes := #[] }, { accessFlags := 25, nameIndex := 361, descriptorIndex := 339, attributes := #[] }, { accessFlags := 26, nameIndex := 364, descriptorIndex := 339, attributes := #[] }, { accessFlags := 26, nameIndex := 365, descriptorIndex := 339, attributes := #[] }, { accessFlags := 26, nameIndex := 172, descriptorIndex := 173, attributes := #[] }, { accessFlags := 26, nameIndex := 176, descriptorIndex := 173, attributes := #[] }, { accessFlags := 8, nameIndex := 344, descriptorIndex := 339, attributes := #[] }, { accessFlags := 8, nameIndex := 338, descriptorIndex := 339, attributes := #[] }, { accessFlags := 4120, nameIndex := 245, descriptorIndex := 246, attributes := #[] }])
  fields := #[{ name := "E", type := .double, accessFlags := 25, slot := 0, constantValue := 0 }, { name := "PI", type := .double, accessFlags := 25, slot := 1, constantValue := 0 }, { name := "TAU", type := .double, accessFlags := 25, slot := 2, constantValue := 0 }, { name := "DEGREES_TO_RADIANS", type := .double, accessFlags := 26, slot := 3, constantValue := 0 }, { name := "RADIANS_TO_DEGREES", type := .double, accessFlags := 26, slot := 4, constantValue := 0 }, { name := "negativeZeroFloatBits", type := .long, accessFlags := 26, slot := 5, constantValue := 0 }, { name := "negativeZeroDoubleBits", type := .long, accessFlags := 26, slot := 6, constantValue := 0 }, { name := "twoToTheDoubleScaleUp", type := .double, accessFlags := 8, slot := 7, constantValue := 0 }, { name := "twoToTheDoubleScaleDown", type := .double, accessFlags := 8, slot := 8, constantValue := 0 }, { name := "$assertionsDisabled", type := .boolean, accessFlags := 4120, slot := 9, constantValue := 0 }]
  methods := #[k2m0, k2m1, k2m2]
  instanceTypes := #[]
  staticTypes := #[.double, .double, .double, .double, .double, .long, .long, .double, .double, .boolean]
  resolved := Array.replicate 460 none
  statics := none }

def pool3 : Array CpInfo := pool [(1, .methodref 2 3), (0, .class_ 4), (0, .nameAndType 5 6), (0, u "java/lang/Object"), (0, u "<init>"), (0, u "()V"), (0, .class_ 8), (0, u "java/lang/Record")] 13

def k3c0 : Code := { maxStack := 1, maxLocals := 1, code := jdk_30_method_1_code, exceptionTable := #[], attributes := #[] }
def k3m0 : Method := { name := "<init>", desc := "()V", sig := { parameters := [], returnType := none }, accessFlags := 4, code := some k3c0 }
/-- java/lang/Record -/
def k3 : Class := { plain "java/lang/Record" (some 0) with
  accessFlags := 1057
  interfaces := #[]
  cf := some (fileOf pool3 7 #[] #[{ accessFlags := 4, nameIndex := 5, descriptorIndex := 6, attributes := #[] }] 1057 2 #[] #[])
  fields := #[]
  methods := #[k3m0]
  instanceTypes := #[]
  staticTypes := #[]
  resolved := Array.replicate 22 none
  statics := none }

def pool4 : Array CpInfo := pool [(1, .methodref 2 3), (0, .class_ 4), (0, .nameAndType 5 6), (0, u "java/lang/Record"), (0, u "<init>"), (0, u "()V"), (0, .fieldref 8 9), (0, .class_ 10), (0, .nameAndType 11 12), (0, u "com/example/upsert/upsert/restapi/ByteRange"), (0, u "first"), (0, u "J"), (0, .fieldref 8 14), (0, .nameAndType 15 12), (0, u "last"), (2, u "ONE_RANGE"), (0, u "Ljava/util/regex/Pattern;"), (56, u "(JJ)V"), (6, u "length"), (26, u "MOST_DIGITS"), (0, u "I"), (9, u "()J")] 23

def k4c0 : Code := { maxStack := 3, maxLocals := 5, code := prog_53_method_1_code, exceptionTable := #[], attributes := #[] }
def k4m0 : Method := { name := "<init>", desc := "(JJ)V", sig := { parameters := [.long, .long], returnType := none }, accessFlags := 0, code := some k4c0 }
def k4c1 : Code := { maxStack := 4, maxLocals := 1, code := prog_53_method_3_code, exceptionTable := #[], attributes := #[] }
def k4m1 : Method := { name := "length", desc := "()J", sig := { parameters := [], returnType := some .long }, accessFlags := 0, code := some k4c1 }
/-- com/example/upsert/upsert/restapi/ByteRange -/
def k4 : Class := { plain "com/example/upsert/upsert/restapi/ByteRange" (some 3) with
  accessFlags := 48
  interfaces := #[]
  cf := some (fileOf pool4 8 #[] #[{ accessFlags := 0, nameIndex := 5, descriptorIndex := 76, attributes := #[] }, { accessFlags := 0, nameIndex := 83, descriptorIndex := 121, attributes := #[] }] 48 2 #[] #[{ accessFlags := 18, nameIndex := 11, descriptorIndex := 12, attributes := #[] }, { accessFlags := 18, nameIndex := 15, descriptorIndex := 12, attributes := #[] }, { accessFlags := 26, nameIndex := 18, descriptorIndex := 19, attributes := #[] }, { accessFlags := 26, nameIndex := 110, descriptorIndex := 111, attributes := #[] }])
  fields := #[{ name := "first", type := .long, accessFlags := 18, slot := 0, constantValue := 0 }, { name := "last", type := .long, accessFlags := 18, slot := 1, constantValue := 0 }, { name := "ONE_RANGE", type := (.object "java/util/regex/Pattern"), accessFlags := 26, slot := 0, constantValue := 0 }, { name := "MOST_DIGITS", type := .int, accessFlags := 26, slot := 1, constantValue := 0 }]
  methods := #[k4m0, k4m1]
  instanceTypes := #[.long, .long]
  staticTypes := #[(.object "java/util/regex/Pattern"), .int]
  resolved := Array.replicate 145 none
  statics := none }

def pool5 : Array CpInfo := pool [(1, u "java/lang/Cloneable"), (0, .class_ 1), (0, u "java/lang/Object"), (0, .class_ 3)] 3

/-- java/lang/Cloneable -/
def k5 : Class := { plain "java/lang/Cloneable" (some 0) with
  accessFlags := 1537
  interfaces := #[]
  cf := some (fileOf pool5 2 #[] #[] 1537 4 #[] #[])
  fields := #[]
  methods := #[]
  instanceTypes := #[]
  staticTypes := #[]
  resolved := Array.replicate 8 none
  statics := none }

def pool6 : Array CpInfo := pool [(1, u "java/io/Serializable"), (0, .class_ 1), (0, u "java/lang/Object"), (0, .class_ 3)] 3

/-- java/io/Serializable -/
def k6 : Class := { plain "java/io/Serializable" (some 0) with
  accessFlags := 1537
  interfaces := #[]
  cf := some (fileOf pool6 2 #[] #[] 1537 4 #[] #[])
  fields := #[]
  methods := #[]
  instanceTypes := #[]
  staticTypes := #[]
  resolved := Array.replicate 8 none
  statics := none }

/-- the primitive byte -/
def k7 : Class := { plain "byte" none with kind := .primitive 'B', accessFlags := 0x411 }
/-- [B -/
def k8 : Class := { plain "[B" (some 0) with kind := .array 7 .byte, interfaces := #[5, 6], accessFlags := 1041 }

/-- the primitive int -/
def k9 : Class := { plain "int" none with kind := .primitive 'I', accessFlags := 0x411 }
/-- [I -/
def k10 : Class := { plain "[I" (some 0) with kind := .array 9 .int, interfaces := #[5, 6], accessFlags := 1041 }

def heap : Heap := #[]
def classes : Array Class := #[k0, k1, k2, k3, k4, k5, k6, k7, k8, k9, k10]
def interned : List (Array UInt16 × Addr) := []
def slotsUsed : Nat := 0
def theMethod : MethodId := ⟨1, 1⟩
def args0 : Array Value := #[.long 5, .long 300, .long 7]
def aboutOver (below : List Frame) : State where
  vm := { classes := classes, interned := interned.toArray }
  heap := heap
  slotsUsed := slotsUsed
  threads := #[{ frames := .invoking theMethod args0 :: below }]
def below0 : List Frame := [.native { method := ⟨0, 0⟩, args := #[] }]
def about1 : State := aboutOver below0
def p0 : Program := .bare "" "" ""
def e0 : Env := launch0.env 0 0 0
theorem w_frames : about1.frames = Frame.invoking theMethod args0 :: below0 := rfl
set_option maxRecDepth 65536 in
theorem w_args : argsFit about1.vm theMethod args0 = true := by decide +kernel
set_option maxRecDepth 65536 in
theorem w_heap : heapFits about1 = true := by decide +kernel
set_option maxRecDepth 65536 in
theorem w_runnable : about1.curStatus? = some .runnable := by decide +kernel
set_option maxRecDepth 65536 in
theorem w_alone : about1.alone = true := by decide +kernel
set_option maxRecDepth 65536 in
theorem w_named : about1.methodNamed? x = some theMethod := by decide +kernel
set_option maxRecDepth 65536 in
theorem w_hears : about1.hears theMethod below0 = true := by decide +kernel
set_option maxRecDepth 65536 in
theorem w_ripe : about1.ripe theMethod args0 below0 = true := by decide +kernel
theorem w_running : about1.status = .running := rfl
set_option maxRecDepth 65536 in
theorem w_room : about1.hasRoom e0.platform room_1 = true :=
  launch0.hasRoom_least _ room_1 (by decide +kernel) (by decide +kernel) (by decide +kernel) (by decide +kernel) (by decide +kernel) (by decide +kernel)
theorem allAtoms_all (ts : List Jvm.Cond) (a : Array Jvm.Value) (st : Jvm.State) : (allAtoms ts).before a st = ts.all (fun c => c.before a st) := by
  induction ts with
  | nil => rfl
  | cons c t ih =>
    show (Jvm.Cond.and c (allAtoms t)).before a st = _
    rw [Jvm.Cond.before_and, ih, List.all_cons]
def words1 : List Jvm.Cond := Jvm.Cond.code x code maxLocals ret :: tables_1
/-- a 'code' word, met by the world's own term for the bytes: nothing is compared byte by byte -/
theorem code_word {y : MethodName} {bytes : ByteArray} {mx : Nat} {rt : Option FieldType} {a : Array Value} {s : State} {m : MethodId} {meth : Method} {c : Code} (h1 : s.methodNamed? y = some m) (h2 : s.vm.method? m = some meth) (h3 : meth.code = some c) (h4 : c.code = bytes)
    (h5 : (c.maxLocals == mx && c.exceptionTable.isEmpty && decide (c.maxStack ≤ mostOperands) && decide (meth.sig.returnType = rt) && !meth.locks && decide (parseMethodDescriptor y.desc = some meth.sig)) = true) : (Jvm.Cond.code y bytes mx rt).before a s = true := by
  simp only [Bool.and_eq_true, beq_iff_eq, Bool.not_eq_true', decide_eq_true_eq] at h5
  obtain ⟨⟨⟨⟨⟨g1, g2⟩, g3⟩, g4⟩, g5⟩, g6⟩ := h5
  simp [Cond.before, Cond.holds, Cond.value, h1, h2, h3, h4, g1, g2, g3, g4, g5, g6]
def isCode : Jvm.Cond → Bool
  | .code _ _ _ _ => true
  | _ => false
theorem all_split {L : List Jvm.Cond} {P : Jvm.Cond → Bool} (h1 : L.all (fun c => isCode c || P c) = true) (h2 : ∀ c ∈ L.filter isCode, P c = true) : L.all P = true := by
  refine List.all_eq_true.mpr fun c hc => ?_
  have h := List.all_eq_true.mp h1 c hc
  rcases Bool.eq_false_or_eq_true (isCode c) with hi | hi
  · exact h2 c (List.mem_filter.mpr ⟨hc, hi⟩)
  · simpa [hi] using h
set_option maxRecDepth 65536 in
theorem w_c0 : (Jvm.Cond.code x code maxLocals ret).before args0 about1 = true := code_word (m := ⟨1, 1⟩) (meth := k1m1) (c := k1c1) (by decide +kernel) rfl rfl rfl (by decide +kernel)
set_option maxRecDepth 65536 in
theorem w_c1 : (Jvm.Cond.code ({ cls := "java/lang/Math", name := "min", desc := "(JJ)J" } : Jvm.MethodName) jdk_29_method_70_code (4 : Nat) (Option.some Jvm.ClassFile.FieldType.long)).before args0 about1 = true := code_word (m := ⟨2, 2⟩) (meth := k2m2) (c := k2c2) (by decide +kernel) rfl rfl rfl (by decide +kernel)
set_option maxRecDepth 65536 in
theorem w_c2 : (Jvm.Cond.code ({ cls := "java/lang/Math", name := "max", desc := "(JJ)J" } : Jvm.MethodName) jdk_29_method_66_code (4 : Nat) (Option.some Jvm.ClassFile.FieldType.long)).before args0 about1 = true := code_word (m := ⟨2, 1⟩) (meth := k2m1) (c := k2c1) (by decide +kernel) rfl rfl rfl (by decide +kernel)
set_option maxRecDepth 65536 in
theorem w_c3 : (Jvm.Cond.code ({ cls := "com/example/upsert/upsert/restapi/ByteRange", name := "<init>", desc := "(JJ)V" } : Jvm.MethodName) prog_53_method_1_code (5 : Nat) (Option.none : Option Jvm.ClassFile.FieldType)).before args0 about1 = true := code_word (m := ⟨4, 0⟩) (meth := k4m0) (c := k4c0) (by decide +kernel) rfl rfl rfl (by decide +kernel)
set_option maxRecDepth 65536 in
theorem w_c4 : (Jvm.Cond.code ({ cls := "java/lang/Record", name := "<init>", desc := "()V" } : Jvm.MethodName) jdk_30_method_1_code (1 : Nat) (Option.none : Option Jvm.ClassFile.FieldType)).before args0 about1 = true := code_word (m := ⟨3, 0⟩) (meth := k3m0) (c := k3c0) (by decide +kernel) rfl rfl rfl (by decide +kernel)
set_option maxRecDepth 65536 in
theorem w_c5 : (Jvm.Cond.code ({ cls := "java/lang/Object", name := "<init>", desc := "()V" } : Jvm.MethodName) object_method_1_code (1 : Nat) (Option.none : Option Jvm.ClassFile.FieldType)).before args0 about1 = true := code_word (m := ⟨0, 0⟩) (meth := k0m0) (c := k0c0) (by decide +kernel) rfl rfl rfl (by decide +kernel)
set_option maxRecDepth 65536 in
theorem w_c6 : (Jvm.Cond.code ({ cls := "com/example/upsert/upsert/restapi/ByteRange", name := "length", desc := "()J" } : Jvm.MethodName) prog_53_method_3_code (1 : Nat) (Option.some Jvm.ClassFile.FieldType.long)).before args0 about1 = true := code_word (m := ⟨4, 1⟩) (meth := k4m1) (c := k4c1) (by decide +kernel) rfl rfl rfl (by decide +kernel)
def codes1 : List Jvm.Cond := [Jvm.Cond.code x code maxLocals ret, Jvm.Cond.code ({ cls := "java/lang/Math", name := "min", desc := "(JJ)J" } : Jvm.MethodName) jdk_29_method_70_code (4 : Nat) (Option.some Jvm.ClassFile.FieldType.long), Jvm.Cond.code ({ cls := "java/lang/Math", name := "max", desc := "(JJ)J" } : Jvm.MethodName) jdk_29_method_66_code (4 : Nat) (Option.some Jvm.ClassFile.FieldType.long), Jvm.Cond.code ({ cls := "com/example/upsert/upsert/restapi/ByteRange", name := "<init>", desc := "(JJ)V" } : Jvm.MethodName) prog_53_method_1_code (5 : Nat) (Option.none : Option Jvm.ClassFile.FieldType), Jvm.Cond.code ({ cls := "java/lang/Record", name := "<init>", desc := "()V" } : Jvm.MethodName) jdk_30_method_1_code (1 : Nat) (Option.none : Option Jvm.ClassFile.FieldType), Jvm.Cond.code ({ cls := "java/lang/Object", name := "<init>", desc := "()V" } : Jvm.MethodName) object_method_1_code (1 : Nat) (Option.none : Option Jvm.ClassFile.FieldType), Jvm.Cond.code ({ cls := "com/example/upsert/upsert/restapi/ByteRange", name := "length", desc := "()J" } : Jvm.MethodName) prog_53_method_3_code (1 : Nat) (Option.some Jvm.ClassFile.FieldType.long)]
set_option maxRecDepth 65536 in
theorem codes_eq : words1.filter isCode = codes1 := rfl
theorem w_codes : ∀ c ∈ words1.filter isCode, c.before args0 about1 = true := by
  rw [codes_eq]
  intro c hc
  simp only [codes1, List.mem_cons, List.not_mem_nil, or_false] at hc
  rcases hc with rfl | rfl | rfl | rfl | rfl | rfl | rfl
  · exact w_c0
  · exact w_c1
  · exact w_c2
  · exact w_c3
  · exact w_c4
  · exact w_c5
  · exact w_c6
set_option maxRecDepth 65536 in
theorem w_t1 : (words1.take 24).all (fun c => isCode c || c.before args0 about1) = true := by decide +kernel
set_option maxRecDepth 65536 in
theorem w_t2 : (words1.drop 24).all (fun c => isCode c || c.before args0 about1) = true := by decide +kernel
theorem w_tables : (allAtoms (Jvm.Cond.code x code maxLocals ret :: tables_1)).before args0 about1 = true := by
  rw [allAtoms_all]
  show words1.all (fun c => c.before args0 about1) = true
  refine all_split ?_ w_codes
  rw [← List.take_append_drop 24 words1, List.all_append, w_t1, w_t2]
  rfl
set_option maxRecDepth 65536 in
theorem w_case : (Jvm.Cond.and given_1 narrow_1).before args0 about1 = true := by decide +kernel
theorem w_applies : (headSpec (Jvm.Cond.code x code maxLocals ret :: tables_1) room_1).applies x e0.platform about1 = true :=
  (Spec.applies_iff w_frames).mpr ⟨w_running, w_runnable, w_alone, w_named, w_hears, w_ripe, w_room, w_tables⟩
theorem atStart : AtStart classFile x code maxLocals ret World_1 tables_1 room_1 Calls_1 rest_1 Pre_1 launch0 p0 e0 about1 theMethod args0 below0 :=
  ⟨lists_1, trivial, launch0.admits_env _ _ _, launch0.least_env, fairChoices_fair.cas, fairChoices_fair.clock, w_frames, w_args, w_heap, w_applies, trivial, trivial, w_case⟩
end start1
theorem witness_1 : WitnessClaimed_1 := ⟨start1.p0, start1.e0, start1.about1, start1.theMethod, start1.args0, start1.below0, start1.atStart⟩
end Jvm.Pilot.@@N@@
