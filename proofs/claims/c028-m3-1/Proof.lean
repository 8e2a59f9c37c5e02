import JvmDerived
import JvmDerived.Pilot.@@N@@Statement
import JvmDerived.Pilot.@@N@@Code
set_option linter.unusedVariables false
set_option linter.unusedSimpArgs false
namespace Jvm.Pilot.@@N@@
open Jvm Jvm.ClassFile Sem Op Lib Jvm.Free Jvm.Stand Jvm.LawKit Jvm.RoadKit Bundle Jvm.Pilot.@@N@@.Jvm.D
/-! ## Own: a walk forward: from here the run comes to an end that K takes -/
section Own
variable {p : Program} {l : Launch} {e : Env} {R : Room} {s : State} {m : MethodId} {args : Array Value} {below : List Frame} {meth : Method} {c : Code} {T : State} {locs : List Loc} {cells slots : Nat} {K : State → Prop}
def Go (p : Program) (e : Env) (below : List Frame) (K : State → Prop) (S : State) : Prop := ∃ t, Steps p.tables e below S t ∧ K t
theorem go {S S' : State} (h : ∀ t, Steps p.tables e below S' t → Steps p.tables e below S t) (g : Go p e below K S') : Go p e below K S := by
  obtain ⟨t, h1, h2⟩ := g
  exact ⟨t, h t h1, h2⟩
/-- the end of a body: what is returned, the heap and the written places fulfil Q, within so many cells and slots -/
def Dn (below : List Frame) (s : State) (Q : Option Value → Heap → List Loc → Prop) (C N : Nat) (t : State) : Prop := ∃ v L, t.status = .running ∧ Ended t below (.returned v) ∧ Q v t.heap L ∧ FrameEnd s (.returned v) t L C N
variable {Q : Option Value → Heap → List Loc → Prop} {C N : Nat}
theorem own_retI (X : Stand p l e R s m args below meth c T locs cells slots) (hx : p.tables.exec = Jvm.exec) (hlk : meth.locks = false) {pc : Nat} {Ls : Array Slot} {z : Int32} {rest : List Value} (hret : meth.sig.returnType = some .int) (hd : decode c.code pc = .ok (.ireturn, 1))
    (hC : cells ≤ C) (hN : slots ≤ N) (hQ : Q (some (.int z)) T.heap locs) : Go p e below (Dn below s Q C N) (T.setTop (mkF m pc Ls (.int z :: rest))) := by
  obtain ⟨fs, hr, hrun, hended, hW, hsame⟩ := X.leave (v := some (.int z)) (fun h => by rw [hret] at h; cases h) hlk
  refine ⟨_, ?_, _, _, hrun, hended, hQ, ⟨_, rfl⟩, hW, hsame.mono hC hN⟩
  have hm' : T.vm.method? m = some meth := X.method'
  have hn : narrow .int (.int z) = .int z := rfl
  show Steps p.tables e below (T.setTop { method := m, pc := pc, locals := Ls, stack := _ :: rest, locked := none }) _
  jvm_step X.here [X.here.top, hx, hd, hm', hret, hn]
  first | (intro acts; rw [hr _ acts rfl rfl rfl]) | rw [hr _ _ rfl rfl rfl]
  exact Steps.refl _
theorem own_retZ (X : Stand p l e R s m args below meth c T locs cells slots) (hx : p.tables.exec = Jvm.exec) (hlk : meth.locks = false) {pc : Nat} {Ls : Array Slot} {z z' : Int32} {rest : List Value} (hret : meth.sig.returnType = some .boolean) (hd : decode c.code pc = .ok (.ireturn, 1))
    (hC : cells ≤ C) (hN : slots ≤ N) (hz : nar .boolean z = z') (hQ : Q (some (.int z')) T.heap locs) : Go p e below (Dn below s Q C N) (T.setTop (mkF m pc Ls (.int z :: rest))) := by
  subst hz
  obtain ⟨fs, hr, hrun, hended, hW, hsame⟩ := X.leave (v := some (.int (nar .boolean z))) (fun h => by rw [hret] at h; cases h) hlk
  exact ⟨_, retN X hx (t := .boolean) hret (by simp) hd hr, _, _, hrun, hended, hQ, ⟨_, rfl⟩, hW, hsame.mono hC hN⟩
theorem own_retJ (X : Stand p l e R s m args below meth c T locs cells slots) (hx : p.tables.exec = Jvm.exec) (hlk : meth.locks = false) {pc : Nat} {Ls : Array Slot} {z : Int64} (hret : meth.sig.returnType = some .long) (hd : decode c.code pc = .ok (.lreturn, 1))
    (hC : cells ≤ C) (hN : slots ≤ N) (hQ : Q (some (.long z)) T.heap locs) : Go p e below (Dn below s Q C N) (T.setTop (mkF m pc Ls [.long z])) := by
  obtain ⟨fs, hr, hrun, hended, hW, hsame⟩ := X.leave (v := some (.long z)) (fun h => by rw [hret] at h; cases h) hlk
  exact ⟨_, X.lreturnOut hx hret hd hr, _, _, hrun, hended, hQ, ⟨_, rfl⟩, hW, hsame.mono hC hN⟩
theorem own_retA (X : Stand p l e R s m args below meth c T locs cells slots) (hx : p.tables.exec = Jvm.exec) (hlk : meth.locks = false) {pc : Nat} {Ls : Array Slot} {w : Value} {t : FieldType} (hw : w.isRef = true) (hret : meth.sig.returnType = some t) (ht : t.isReference = true) (hd : decode c.code pc = .ok (.areturn, 1))
    (hC : cells ≤ C) (hN : slots ≤ N) (hQ : Q (some w) T.heap locs) : Go p e below (Dn below s Q C N) (T.setTop (mkF m pc Ls [w])) := by
  obtain ⟨fs, hr, hrun, hended, hW, hsame⟩ := X.leave (v := some w) (fun h => by rw [hret] at h; cases h) hlk
  exact ⟨_, X.areturnOut hx hw hret ht hd hr, _, _, hrun, hended, hQ, ⟨_, rfl⟩, hW, hsame.mono hC hN⟩
theorem own_retV (X : Stand p l e R s m args below meth c T locs cells slots) (hx : p.tables.exec = Jvm.exec) (hlk : meth.locks = false) {pc : Nat} {Ls : Array Slot} (hret : meth.sig.returnType = none) (hd : decode c.code pc = .ok (.return_, 1))
    (hC : cells ≤ C) (hN : slots ≤ N) (hQ : Q none T.heap locs) : Go p e below (Dn below s Q C N) (T.setTop (mkF m pc Ls [])) := by
  obtain ⟨fs, hr, hrun, hended, hW, hsame⟩ := X.leave (v := none) (fun _ => rfl) hlk
  exact ⟨_, X.returnOut hx hret hd hr, _, _, hrun, hended, hQ, ⟨_, rfl⟩, hW, hsame.mono hC hN⟩
theorem own_lrem {g : JFrame} {target : State} (X : Stand p l e R s m args below meth c T locs cells slots) (hx : p.tables.exec = Jvm.exec) (hg : g.method = m) {x y : Int64} {rest : List Value} (hd : decode c.code g.pc = .ok (.lrem, 1)) (hs : g.stack = .long y :: .long x :: rest) (hy : y ≠ 0)
    (hr : Steps p.tables e below (T.setTop { g with pc := g.pc + 1, stack := .long (x % y) :: rest }) target) : Steps p.tables e below (T.setTop g) target := by
  have q : x - x / y * y = x % y := lrem_mod x y
  exact XS.lrem X.here hx hg hd hs hy (by rw [q]; exact hr)
/-- what a body's walk is handed -/
theorem own_met {x : MethodName} {code : ByteArray} {maxL : Nat} {ret : Option FieldType} {ws : List Jvm.Cond} {as' : Array Value} {L0 : Array Slot} {Z : State} {h0 : Heap} (hpl : plainFor x = true) (hef : ∀ m, entryFrame m as' maxL = mkF m 0 L0 [])
    (body : ∀ (p : Program) (e : Env) (s : State) (m : MethodId) (below : List Frame) (meth : Method) (c : Code) (T : State), p.tables.exec = Jvm.exec → c.code = code → c.maxLocals = maxL → s.vm.findClass x.cls = some m.cls → meth.name = x.name → meth.sig.returnType = ret → meth.locks = false → Z.Warmed39 s.vm →
      Stand p l e R s m as' below meth c T [] 0 0 → T.heap = h0 → Go p e below (Dn below s Q R.cells R.slots) (T.setTop (mkF m 0 L0 []))) :
    MetFree l x (head1 (Jvm.Cond.code x code maxL ret :: ws) R) (fun a U => a = as' ∧ Z.Warmed39 U.vm ∧ U.heap = h0) (fun _ _ _ _ _ => True) (fun _ U o U' => ∃ v L, o = .returned v ∧ Q v U'.heap L ∧ FrameEnd U o U' L R.cells R.slots) := by
  refine MetFree.of_bodySF hpl hisR ?_
  intro p e s m args below meth c s₁ Bd hml0 hP hK
  obtain ⟨rfl, hZ, hh⟩ := hP
  obtain ⟨t, h1, v, L, h2, h3, h4, h5⟩ := body p e s m below meth c s₁ Bd.exec Bd.bytes hml0 (findClass_of_methodNamed Bd.named) (name_of_methodNamed Bd.named Bd.method).1 Bd.returns (BodyLoose.notSynchronized Bd) hZ (Stand.of_body Bd) (by rw [← hh, Bd.state]; rfl)
  exact ⟨t, .returned v, castTop (hef m) h1, h2, h3, v, L, rfl, h4, h5⟩
section Calls
variable {Z : State} {a0 : Array Value} {own : String} {idx : Nat} {y : MethodName} {bytes : ByteArray} {maxL W : Nat} {ret : Option FieldType} {rm : Room} {as' : Array Value} {h : Heap}
/-- a static call by the callee's contract -/
theorem own_callS (X : Stand p l e R s m args below meth c T locs cells slots) (hx : p.tables.exec = Jvm.exec) (hZ : Z.Warmed39 s.vm) (hown : s.vm.findClass own = some m.cls) (eT : T.heap = h)
    (w1 : (Jvm.Cond.methodLink own idx y).before a0 Z = true) (w2 : (Jvm.Cond.static y).before a0 Z = true) (w3 : (Jvm.Cond.initialized y.cls).before a0 Z = true) (w4 : (Jvm.Cond.code y bytes maxL ret).before a0 Z = true)
    (hM : MetFree l y (head1 [Jvm.Cond.code y bytes maxL ret] rm) (fun a U => a = as' ∧ Z.Warmed39 U.vm ∧ U.heap = h) (fun _ _ _ _ _ => True) (fun _ U o U' => ∃ v L, o = .returned v ∧ Q v U'.heap L ∧ FrameEnd U o U' L rm.cells rm.slots))
    (hy : y.cls ≠ "java/lang/invoke/MethodHandle" ∧ y.cls ≠ "java/lang/invoke/VarHandle") (hf : rm.frames + 1 ≤ R.frames) (hl : W + (maxL + 11) + rm.locals ≤ R.locals) (hc : cells + rm.cells ≤ R.cells) (hs : slots + rm.slots ≤ R.slots)
    {g : JFrame} (hg : g.method = m) (hsize : g.locals.size = c.maxLocals) {argsL rest : List Value} (hst : g.stack = argsL.reverse ++ rest) (has : argsL.toArray = as') (hlen : ∀ sig, parseMethodDescriptor y.desc = some sig → argsL.length = sig.parameters.length)
    (hW : 2 * g.monitorRoom + (rest.map fun v => v.category).sum ≤ W) (hd : decode c.code g.pc = .ok (.invokestatic idx, 3))
    (k : ∀ v T' L, Stand p l e R s m args below meth c T' (locs ++ L) (cells + rm.cells) (slots + rm.slots) → Q v T'.heap L → Go p e below K (T'.setTop { g with pc := g.pc + 3, stack := v.toList ++ rest })) : Go p e below K (T.setTop g) := by
  obtain ⟨v, _, ⟨T', L', k', n'⟩, -, X', ⟨Lc, hQ, l1, y1, z1⟩, st⟩ := Jvm.LawKit.callS X hx (y := y) hown (mvT hZ w1) (mvT hZ w2) (mvT hZ w3) (mvT hZ w4) hy (backOf (W := W) hM hZ w4 w3 hf hl) hg hsize hlen hst hW hd (fun _ _ => ⟨has, eT, hc, hs⟩)
  dsimp only [Pt.U, Pt.locs, Pt.cells, Pt.slots] at X' l1 y1 z1 st hQ
  subst l1 y1 z1
  exact go st (k _ _ _ X' hQ)
/-- a constructor by its contract -/
theorem own_callC (X : Stand p l e R s m args below meth c T locs cells slots) (hx : p.tables.exec = Jvm.exec) (hZ : Z.Warmed39 s.vm) (hown : s.vm.findClass own = some m.cls) (eT : T.heap = h)
    (w1 : (Jvm.Cond.methodLink own idx y).before a0 Z = true) (w2 : (Jvm.Cond.instanceMethod y).before a0 Z = true) (w3 : (Jvm.Cond.initialized y.cls).before a0 Z = true) (w4 : (Jvm.Cond.code y bytes maxL none).before a0 Z = true)
    (hM : MetFree l y (head1 [Jvm.Cond.code y bytes maxL none] rm) (fun a U => a = as' ∧ Z.Warmed39 U.vm ∧ U.heap = h) (fun _ _ _ _ _ => True) (fun _ U o U' => ∃ v L, o = .returned v ∧ Q v U'.heap L ∧ FrameEnd U o U' L rm.cells rm.slots))
    (hyn : y.name = "<init>") (hy : y.cls ≠ "java/lang/invoke/MethodHandle" ∧ y.cls ≠ "java/lang/invoke/VarHandle") (hf : rm.frames + 1 ≤ R.frames) (hl : W + (maxL + 11) + rm.locals ≤ R.locals) (hc : cells + rm.cells ≤ R.cells) (hs : slots + rm.slots ≤ R.slots)
    {g : JFrame} (hg : g.method = m) (hsize : g.locals.size = c.maxLocals) {a : Addr} {argsL rest : List Value} (hst : g.stack = argsL.reverse ++ .ref a :: rest) (has : (.ref a :: argsL).toArray = as') (hlen : ∀ sig, parseMethodDescriptor y.desc = some sig → argsL.length = sig.parameters.length)
    (hW : 2 * g.monitorRoom + (rest.map fun v => v.category).sum ≤ W) (hd : decode c.code g.pc = .ok (.invokespecial idx, 3))
    (k : ∀ v T' L, Stand p l e R s m args below meth c T' (locs ++ L) (cells + rm.cells) (slots + rm.slots) → Q v T'.heap L → Go p e below K (T'.setTop { g with pc := g.pc + 3, stack := v.toList ++ rest })) : Go p e below K (T.setTop g) := by
  obtain ⟨v, _, ⟨T', L', k', n'⟩, -, X', ⟨Lc, hQ, l1, y1, z1⟩, st⟩ := X.specialBack hx (y := y) hyn hown (mvT hZ w1) (mvT hZ w2) (mvT hZ w4) hy (backOf (W := W) hM hZ w4 w3 hf hl) hg hsize (Steps.refl _) (a := a) hlen hst hW hd (fun _ _ => ⟨has, eT, hc, hs⟩)
  dsimp only [Pt.U, Pt.locs, Pt.cells, Pt.slots] at X' l1 y1 z1 st hQ
  subst l1 y1 z1
  exact go (fun t q => st.trans q) (k _ _ _ X' hQ)
/-- a virtual call of a method that the receiver's class declares itself -/
theorem own_callV (X : Stand p l e R s m args below meth c T locs cells slots) (hx : p.tables.exec = Jvm.exec) (hZ : Z.Warmed39 s.vm) (hown : s.vm.findClass own = some m.cls) (eT : T.heap = h)
    (w1 : (Jvm.Cond.methodLink own idx y).before a0 Z = true) (w2 : (Jvm.Cond.declares y).before a0 Z = true) (w5 : (Jvm.Cond.instanceMethod y).before a0 Z = true) (w6 : (Jvm.Cond.selects y.cls y y).before a0 Z = true) (w3 : (Jvm.Cond.initialized y.cls).before a0 Z = true) (w4 : (Jvm.Cond.code y bytes maxL ret).before a0 Z = true)
    (hM : MetFree l y (head1 [Jvm.Cond.code y bytes maxL ret] rm) (fun a U => a = as' ∧ Z.Warmed39 U.vm ∧ U.heap = h) (fun _ _ _ _ _ => True) (fun _ U o U' => ∃ v L, o = .returned v ∧ Q v U'.heap L ∧ FrameEnd U o U' L rm.cells rm.slots))
    (hy : y.cls ≠ "java/lang/invoke/MethodHandle" ∧ y.cls ≠ "java/lang/invoke/VarHandle") (hf : rm.frames + 1 ≤ R.frames) (hl : W + (maxL + 11) + rm.locals ≤ R.locals) (hc : cells + rm.cells ≤ R.cells) (hs : slots + rm.slots ≤ R.slots)
    {a : Addr} (E : Exa Z h a y.cls) {g : JFrame} (hg : g.method = m) (hsize : g.locals.size = c.maxLocals) {argsL rest : List Value} (hst : g.stack = argsL.reverse ++ .ref a :: rest) (has : (.ref a :: argsL).toArray = as') (hlen : ∀ sig, parseMethodDescriptor y.desc = some sig → argsL.length = sig.parameters.length)
    (hW : 2 * g.monitorRoom + (rest.map fun v => v.category).sum ≤ W) (hd : decode c.code g.pc = .ok (.invokevirtual idx, 3))
    (k : ∀ v T' L, Stand p l e R s m args below meth c T' (locs ++ L) (cells + rm.cells) (slots + rm.slots) → Q v T'.heap L → Go p e below K (T'.setTop { g with pc := g.pc + 3, stack := v.toList ++ rest })) : Go p e below K (T.setTop g) := by
  obtain ⟨cq, kq, qa, qb, qc⟩ := isOf hZ eT E
  obtain ⟨v, _, ⟨T', L', k', n'⟩, -, X', ⟨Lc, hQ, l1, y1, z1⟩, st⟩ := X.virtualBack hx (y := y) (z := y) hown (mvT hZ w1) (mvT hZ w2) (notFace_of_selects (args := #[]) (mvT hZ w6)) (mvT hZ w6) (mvT hZ w5) hy (backOf (W := W) hM hZ w4 w3 hf hl) qa qc hg hsize (Steps.refl _) hlen hst hW hd (fun _ _ => ⟨has, eT, hc, hs⟩)
  dsimp only [Pt.U, Pt.locs, Pt.cells, Pt.slots] at X' l1 y1 z1 st hQ
  subst l1 y1 z1
  exact go (fun t q => st.trans q) (k _ _ _ X' hQ)
end Calls
end Own
/-- a body that writes nothing: it returns r, the heap is what it was -/
def QP (r : Option Value) (h0 : Heap) (n0 : Nat) (v : Option Value) (h : Heap) (L : List Loc) : Prop := v = r ∧ Fr n0 L ∧ h = h0

def f2 (q1 : Int64) : Int32 := ((q1).toInt32)
theorem d2_0 : decode jdk_29_method_43_code 0 = .ok (.lload_n 0, 1) := by decide +kernel
theorem d2_1 : decode jdk_29_method_43_code 1 = .ok (.l2i, 1) := by decide +kernel
theorem d2_2 : decode jdk_29_method_43_code 2 = .ok (.i2l, 1) := by decide +kernel
theorem d2_3 : decode jdk_29_method_43_code 3 = .ok (.lload_n 0, 1) := by decide +kernel
theorem d2_4 : decode jdk_29_method_43_code 4 = .ok (.lcmp, 1) := by decide +kernel
theorem d2_5 : decode jdk_29_method_43_code 5 = .ok (.ifCond .eq 13, 3) := by decide +kernel
theorem d2_18 : decode jdk_29_method_43_code 18 = .ok (.lload_n 0, 1) := by decide +kernel
theorem d2_19 : decode jdk_29_method_43_code 19 = .ok (.l2i, 1) := by decide +kernel
theorem d2_20 : decode jdk_29_method_43_code 20 = .ok (.ireturn, 1) := by decide +kernel
theorem ef_2 (m : MethodId) (x0 : Int64) : entryFrame m #[(.long x0)] 2 = mkF m 0 #[.val (.long x0), .second] [] := by first | (simp [entryFrame, mkF, argsToLocals, Value.category]; done) | rfl
set_option maxRecDepth 65536 in
set_option maxHeartbeats 40000000 in
theorem rm2 (l : Launch) (Z : State) (a0 : Array Value) (hw : ∀ d ∈ tables_1, d.before a0 Z = true) (ws : List Jvm.Cond) (q1 : Int64) (h0 : Heap) (n0 : Nat) (hr : ((((q1).toInt32)).toInt64) = q1) :
    MetFree l (⟨"java/lang/Math", "toIntExact", "(J)I"⟩ : MethodName) (head1 (Jvm.Cond.code (⟨"java/lang/Math", "toIntExact", "(J)I"⟩ : MethodName) jdk_29_method_43_code 2 (some .int) :: ws) ({ frames := 0, cells := 0, slots := 0, locals := 0 } : Room)) (fun a U => a = #[(.long q1)] ∧ Z.Warmed39 U.vm ∧ U.heap = h0) (fun _ _ _ _ _ => True) (fun _ U o U' => ∃ v L, o = .returned v ∧ (QP (some (.int (f2 q1))) h0 n0) v U'.heap L ∧ FrameEnd U o U' L ({ frames := 0, cells := 0, slots := 0, locals := 0 } : Room).cells ({ frames := 0, cells := 0, slots := 0, locals := 0 } : Room).slots) := by
  refine own_met (Jvm.Free.JP.mathPlain rfl (by decide +kernel)) (fun m => ef_2 m q1) ?_
  intro p e s m below meth c T0 hx hby hml hown hnm hret hlk hZ X0 e0
  have hown : s.vm.findClass "java/lang/Math" = some m.cls := hown
  have hnm : meth.name = "toIntExact" := hnm
  have hret : meth.sig.returnType = some .int := hret
  have N0 := Fr.nil n0
  show Go p e below _ (T0.setTop (mkF m 0 #[.val (.long q1), .second] []))
  refine go (fun _ q => XS.lloadN X0.here hx rfl (hb hby d2_0) rfl q) ?_
  show Go p e below _ (T0.setTop (mkF m 1 #[.val (.long q1), .second] [(.long q1)]))
  refine go (fun _ q => XS.l2i X0.here hx rfl (hb hby d2_1) rfl q) ?_
  show Go p e below _ (T0.setTop (mkF m 2 #[.val (.long q1), .second] [(.int ((q1).toInt32))]))
  refine go (fun _ q => XS.i2l X0.here hx rfl (hb hby d2_2) rfl q) ?_
  show Go p e below _ (T0.setTop (mkF m 3 #[.val (.long q1), .second] [(.long ((((q1).toInt32)).toInt64))]))
  refine go (fun _ q => XS.lloadN X0.here hx rfl (hb hby d2_3) rfl q) ?_
  show Go p e below _ (T0.setTop (mkF m 4 #[.val (.long q1), .second] [(.long q1), (.long ((((q1).toInt32)).toInt64))]))
  refine go (fun _ q => XS.lcmp X0.here hx rfl (hb hby d2_4) rfl q) ?_
  show Go p e below _ (T0.setTop (mkF m 5 #[.val (.long q1), .second] [(.int (lcmpW ((((q1).toInt32)).toInt64) q1))]))
  refine go (fun _ q => XS.ifYes X0.here hx rfl (pc0 := 5) (pc' := 18) rfl (hb hby d2_5) rfl ((if0 _ _).trans (teq ((lw_eq _ _).mpr hr)).1) (by decide) (by decide) q) ?_
  show Go p e below _ (T0.setTop (mkF m 18 #[.val (.long q1), .second] []))
  refine go (fun _ q => XS.lloadN X0.here hx rfl (hb hby d2_18) rfl q) ?_
  show Go p e below _ (T0.setTop (mkF m 19 #[.val (.long q1), .second] [(.long q1)]))
  refine go (fun _ q => XS.l2i X0.here hx rfl (hb hby d2_19) rfl q) ?_
  show Go p e below _ (T0.setTop (mkF m 20 #[.val (.long q1), .second] [(.int ((q1).toInt32))]))
  exact own_retI X0 hx hlk hret (hb hby d2_20) (by decide) (by decide) ⟨congrArg (fun z => some (Value.int z)) (by rw [f2]), N0, e0⟩
def f1 (q1 : Int64) : Int32 := (f2 (((q1 + (1048576 : Int64)) - (1 : Int64)) / (1048576 : Int64)))
theorem d1_0 : decode prog_68_method_5_code 0 = .ok (.lload_n 0, 1) := by decide +kernel
theorem d1_1 : decode prog_68_method_5_code 1 = .ok (.ldc2_w 41, 3) := by decide +kernel
theorem d1_4 : decode prog_68_method_5_code 4 = .ok (.ladd, 1) := by decide +kernel
theorem d1_5 : decode prog_68_method_5_code 5 = .ok (.lconst 1, 1) := by decide +kernel
theorem d1_6 : decode prog_68_method_5_code 6 = .ok (.lsub, 1) := by decide +kernel
theorem d1_7 : decode prog_68_method_5_code 7 = .ok (.ldc2_w 41, 3) := by decide +kernel
theorem d1_10 : decode prog_68_method_5_code 10 = .ok (.ldiv, 1) := by decide +kernel
theorem d1_11 : decode prog_68_method_5_code 11 = .ok (.invokestatic 43, 3) := by decide +kernel
theorem d1_14 : decode prog_68_method_5_code 14 = .ok (.ireturn, 1) := by decide +kernel
theorem pd_1_0 : parseMethodDescriptor "(J)I" = some ⟨[.long], some .int⟩ := by decide +kernel
theorem pn_1 : plainName "com/example/upsert/upsert/store/BodyChunks" = true := by first | (simp [plainName, overriddenIn]; done) | decide +kernel
theorem ef_1 (m : MethodId) (x0 : Int64) : entryFrame m #[(.long x0)] 2 = mkF m 0 #[.val (.long x0), .second] [] := by first | (simp [entryFrame, mkF, argsToLocals, Value.category]; done) | rfl
set_option maxRecDepth 65536 in
set_option maxHeartbeats 40000000 in
theorem rm1 (l : Launch) (Z : State) (a0 : Array Value) (hw : ∀ d ∈ tables_1, d.before a0 Z = true) (ws : List Jvm.Cond) (q1 : Int64) (h0 : Heap) (n0 : Nat) (hr : (((((q1 + (1048576 : Int64)) - (1 : Int64)) / (1048576 : Int64)).toInt32).toInt64) = (((q1 + (1048576 : Int64)) - (1 : Int64)) / (1048576 : Int64))) :
    MetFree l (⟨"com/example/upsert/upsert/store/BodyChunks", "count", "(J)I"⟩ : MethodName) (head1 (Jvm.Cond.code (⟨"com/example/upsert/upsert/store/BodyChunks", "count", "(J)I"⟩ : MethodName) prog_68_method_5_code 2 (some .int) :: ws) ({ frames := 1, cells := 0, slots := 0, locals := 13 } : Room)) (fun a U => a = #[(.long q1)] ∧ Z.Warmed39 U.vm ∧ U.heap = h0) (fun _ _ _ _ _ => True) (fun _ U o U' => ∃ v L, o = .returned v ∧ (QP (some (.int (f1 q1))) h0 n0) v U'.heap L ∧ FrameEnd U o U' L ({ frames := 1, cells := 0, slots := 0, locals := 13 } : Room).cells ({ frames := 1, cells := 0, slots := 0, locals := 13 } : Room).slots) := by
  refine own_met (plainFor_of_name pn_1) (fun m => ef_1 m q1) ?_
  intro p e s m below meth c T0 hx hby hml hown hnm hret hlk hZ X0 e0
  have hown : s.vm.findClass "com/example/upsert/upsert/store/BodyChunks" = some m.cls := hown
  have hnm : meth.name = "count" := hnm
  have hret : meth.sig.returnType = some .int := hret
  have N0 := Fr.nil n0
  show Go p e below _ (T0.setTop (mkF m 0 #[.val (.long q1), .second] []))
  refine go (fun _ q => XS.lloadN X0.here hx rfl (hb hby d1_0) rfl q) ?_
  show Go p e below _ (T0.setTop (mkF m 1 #[.val (.long q1), .second] [(.long q1)]))
  refine go (X0.ldc2Long hx hown (mvT hZ (hw _ (List.mem_of_getElem? (i := 8) rfl))) (g := (mkF m 1 #[.val (.long q1), .second] [(.long q1)])) rfl (hb hby d1_1)) ?_
  show Go p e below _ (T0.setTop (mkF m 4 #[.val (.long q1), .second] [(.long (1048576 : Int64)), (.long q1)]))
  refine go (fun _ q => XS.ladd X0.here hx rfl (hb hby d1_4) rfl q) ?_
  show Go p e below _ (T0.setTop (mkF m 5 #[.val (.long q1), .second] [(.long (q1 + (1048576 : Int64)))]))
  refine go (fun _ q => XS.lconst X0.here hx rfl (hb hby d1_5) q) ?_
  show Go p e below _ (T0.setTop (mkF m 6 #[.val (.long q1), .second] [(.long (1 : Int64)), (.long (q1 + (1048576 : Int64)))]))
  refine go (fun _ q => XS.lsub X0.here hx rfl (hb hby d1_6) rfl q) ?_
  show Go p e below _ (T0.setTop (mkF m 7 #[.val (.long q1), .second] [(.long ((q1 + (1048576 : Int64)) - (1 : Int64)))]))
  refine go (X0.ldc2Long hx hown (mvT hZ (hw _ (List.mem_of_getElem? (i := 8) rfl))) (g := (mkF m 7 #[.val (.long q1), .second] [(.long ((q1 + (1048576 : Int64)) - (1 : Int64)))])) rfl (hb hby d1_7)) ?_
  show Go p e below _ (T0.setTop (mkF m 10 #[.val (.long q1), .second] [(.long (1048576 : Int64)), (.long ((q1 + (1048576 : Int64)) - (1 : Int64)))]))
  refine go (fun _ q => XS.ldiv X0.here hx rfl (hb hby d1_10) rfl (by decide) q) ?_
  show Go p e below _ (T0.setTop (mkF m 11 #[.val (.long q1), .second] [(.long (((q1 + (1048576 : Int64)) - (1 : Int64)) / (1048576 : Int64)))]))
  refine own_callS X0 hx hZ hown e0 (hw _ (List.mem_of_getElem? (i := 9) rfl)) (hw _ (List.mem_of_getElem? (i := 10) rfl)) (hw _ (List.mem_of_getElem? (i := 11) rfl)) (hw _ (List.mem_of_getElem? (i := 12) rfl)) (rm2 l Z a0 hw [] (((q1 + (1048576 : Int64)) - (1 : Int64)) / (1048576 : Int64)) h0 n0 hr) (by decide) (by decide) (W := 0) (by decide) (by decide) (by decide) (g := (mkF m 11 #[.val (.long q1), .second] [(.long (((q1 + (1048576 : Int64)) - (1 : Int64)) / (1048576 : Int64)))])) rfl (by rw [hml]; rfl) (argsL := [(.long (((q1 + (1048576 : Int64)) - (1 : Int64)) / (1048576 : Int64)))]) (rest := []) rfl rfl (lenOf pd_1_0 rfl) (by show 2 * 0 + _ ≤ _; exact Nat.le_of_eq rfl) (hb hby d1_11) ?_
  rintro _ T1 L1 X1 ⟨rfl, N1q, e1⟩
  have N1 := Fr.app N0 N1q
  show Go p e below _ (T1.setTop (mkF m 14 #[.val (.long q1), .second] [(.int (f2 (((q1 + (1048576 : Int64)) - (1 : Int64)) / (1048576 : Int64))))]))
  exact own_retI X1 hx hlk hret (hb hby d1_14) (by decide) (by decide) ⟨congrArg (fun z => some (Value.int z)) (by rw [f1]), N1, e1⟩
theorem own_size {q1 v1 z cand : Int64} {v2 : Int32} (hv1 : ((q1 &&& (9223372036854775807 : Int64)) % (2251799812636673 : Int64)) = v1)
    (hz : z = (if v2 = (0 : Int32) then v1 else (if cand < (0 : Int64) then (((((v1).toUInt64 >>> ((20 : Int32) &&& 0x3f).toInt64.toUInt64).toInt64) <<< ((20 : Int32) &&& 0x3f).toInt64)) else (if (2251799812636672 : Int64) < cand then (((((v1).toUInt64 >>> ((20 : Int32) &&& 0x3f).toInt64.toUInt64).toInt64) <<< ((20 : Int32) &&& 0x3f).toInt64)) else cand)))) : 0 ≤ z.toInt ∧ z.toInt ≤ 2251799812636672 := by
  have a1 : (q1 &&& (9223372036854775807 : Int64)).toInt = q1.toInt % 9223372036854775808 := c_maskL q1 _ 63 (by decide) (by decide)
  have a2 : v1.toInt = (q1 &&& (9223372036854775807 : Int64)).toInt % 2251799812636673 := by
    rw [← hv1, Int64.toInt_mod, Int.tmod_eq_emod_of_nonneg (by omega)]; rfl
  have a3 : (((v1).toUInt64 >>> ((20 : Int32) &&& 0x3f).toInt64.toUInt64).toInt64).toInt = (v1.toInt % 18446744073709551616) / 1048576 := c_lushr v1 20 20 (by decide) (by decide)
  have a5 : 0 ≤ (((v1).toUInt64 >>> ((20 : Int32) &&& 0x3f).toInt64.toUInt64).toInt64).toInt ∧ (((v1).toUInt64 >>> ((20 : Int32) &&& 0x3f).toInt64.toUInt64).toInt64).toInt ≤ 2147483647 ∧ (((v1).toUInt64 >>> ((20 : Int32) &&& 0x3f).toInt64.toUInt64).toInt64).toInt * 1048576 ≤ v1.toInt := by rw [a3]; omega
  have a4 : (((((((v1).toUInt64 >>> ((20 : Int32) &&& 0x3f).toInt64.toUInt64).toInt64) <<< ((20 : Int32) &&& 0x3f).toInt64))).toInt - (((v1).toUInt64 >>> ((20 : Int32) &&& 0x3f).toInt64.toUInt64).toInt64).toInt * 1048576) % 18446744073709551616 = 0 := c_lshl (((v1).toUInt64 >>> ((20 : Int32) &&& 0x3f).toInt64.toUInt64).toInt64) 20 20 (by decide)
  have b1 := Int64.le_toInt (((((v1).toUInt64 >>> ((20 : Int32) &&& 0x3f).toInt64.toUInt64).toInt64) <<< ((20 : Int32) &&& 0x3f).toInt64))
  have b2 := Int64.toInt_lt (((((v1).toUInt64 >>> ((20 : Int32) &&& 0x3f).toInt64.toUInt64).toInt64) <<< ((20 : Int32) &&& 0x3f).toInt64))
  clear a3
  split at hz
  · subst hz; omega
  · split at hz
    · subst hz; omega
    · split at hz
      · subst hz; omega
      · subst hz
        rename_i h1 h2 h3
        rw [Int64.lt_iff_toInt_lt] at h2 h3
        have e1 : (0 : Int64).toInt = 0 := rfl
        have e2 : (2251799812636672 : Int64).toInt = 2251799812636672 := rfl
        omega
theorem own_count {z : Int64} (h : 0 ≤ z.toInt ∧ z.toInt ≤ 2251799812636672) : (((z + (1048576 : Int64)) - (1 : Int64)) / (1048576 : Int64)).toInt = (z.toInt + 1048575) / 1048576 := by
  have e1 : (1048576 : Int64).toInt = 1048576 := rfl
  have e2 : (1 : Int64).toInt = 1 := rfl
  have a1 := c_ladd z 1048576
  have a2 := c_lsub (z + 1048576) 1
  have b1 := Int64.le_toInt (z + 1048576)
  have b2 := Int64.toInt_lt (z + 1048576)
  have b3 := Int64.le_toInt (z + 1048576 - 1)
  have b4 := Int64.toInt_lt (z + 1048576 - 1)
  have a3 := (c_ldiv (z + 1048576 - 1) 1048576 1048576 rfl (by decide)).1 (by omega)
  rw [a3]
  omega
theorem own_back {z : Int64} (h : 0 ≤ z.toInt ∧ z.toInt ≤ 2251799812636672) : (((((z + (1048576 : Int64)) - (1 : Int64)) / (1048576 : Int64)).toInt32).toInt64) = (((z + (1048576 : Int64)) - (1 : Int64)) / (1048576 : Int64)) := by
  have a := own_count h
  generalize (((z + (1048576 : Int64)) - (1 : Int64)) / (1048576 : Int64)) = d at a ⊢
  apply Int64.toInt_inj.mp
  rw [c_i2l]
  have a1 := c_l2i d
  have b1 := Int32.le_toInt d.toInt32
  have b2 := Int32.toInt_lt d.toInt32
  omega
theorem own_main {z v w y : Int64} (h : 0 ≤ z.toInt ∧ z.toInt ≤ 2251799812636672) (hv : (((z).toUInt64 >>> ((20 : Int32) &&& 0x3f).toInt64.toUInt64).toInt64) = v) (hy : y = (if (z &&& (1048575 : Int64)) = (0 : Int64) then (0 : Int64) else (1 : Int64))) (hw : v + y = w) {g : Int32} (hg : f1 z = g) : (g).toInt64 = w := by
  have a := own_count h
  have b := own_back h
  rw [← hg, f1, f2, b]
  apply Int64.toInt_inj.mp
  rw [a]
  have a3 : v.toInt = (z.toInt % 18446744073709551616) / 1048576 := by rw [← hv]; exact c_lushr z 20 20 (by decide) (by decide)
  have a4 : (z &&& (1048575 : Int64)).toInt = z.toInt % 1048576 := c_maskL z _ 20 (by decide) (by decide)
  have a5 := c_ladd v y
  have b1 := Int64.le_toInt (v + y)
  have b2 := Int64.toInt_lt (v + y)
  have e1 : (0 : Int64).toInt = 0 := rfl
  have e2 : (1 : Int64).toInt = 1 := rfl
  rw [hw] at a5 b1 b2
  split at hy
  · rename_i q
    rw [q] at a4
    subst hy; omega
  · rename_i q
    have q' : ¬ (z &&& (1048575 : Int64)).toInt = 0 := fun k => q (Int64.toInt_inj.mp k)
    subst hy; omega
def Q0 (n0 : Nat) (v : Option Value) (h : Heap) (L : List Loc) : Prop := v = some (.int (1 : Int32)) ∧ Fr n0 L
theorem pd_0_0 : parseMethodDescriptor "(J)I" = some ⟨[.long], some .int⟩ := by decide +kernel
theorem pn_0 : plainName "com/example/upsert/upsert/store/BodyChunksCountPinLaw" = true := by first | (simp [plainName, overriddenIn]; done) | decide +kernel
theorem ef_0 (m : MethodId) (x0 : Int64) (x1 : Int32) : entryFrame m #[(.long x0), (.int x1)] maxLocals = mkF m 0 #[.val (.long x0), .second, .val (.int x1), .unset, .unset, .unset, .unset, .unset, .unset, .unset, .unset] [] := by first | (simp [entryFrame, mkF, argsToLocals, Value.category, maxLocals]; done) | rfl
set_option maxRecDepth 65536 in
set_option maxHeartbeats 40000000 in
theorem rm0 (l : Launch) (Z : State) (a0 : Array Value) (hw : ∀ d ∈ tables_1, d.before a0 Z = true) (ws : List Jvm.Cond) (q1 : Int64) (p2 : Int32) (h0 : Heap) (n0 : Nat) :
    MetFree l x (head1 (Jvm.Cond.code x code maxLocals ret :: ws) room_1) (fun a U => a = #[(.long q1), (.int p2)] ∧ Z.Warmed39 U.vm ∧ U.heap = h0) (fun _ _ _ _ _ => True) (fun _ U o U' => ∃ v L, o = .returned v ∧ (Q0 n0) v U'.heap L ∧ FrameEnd U o U' L room_1.cells room_1.slots) := by
  refine own_met (plainFor_of_name pn_0) (fun m => ef_0 m q1 p2) ?_
  intro p e s m below meth c T0 hx hby hml hown hnm hret hlk hZ X0 e0
  have hown : s.vm.findClass "com/example/upsert/upsert/store/BodyChunksCountPinLaw" = some m.cls := hown
  have hnm : meth.name = "law" := hnm
  have hret : meth.sig.returnType = some .boolean := hret
  have N0 := Fr.nil n0
  show Go p e below _ (T0.setTop (mkF m 0 #[.val (.long q1), .second, .val (.int p2), .unset, .unset, .unset, .unset, .unset, .unset, .unset, .unset] []))
  refine go (fun _ q => XS.lloadN X0.here hx rfl (hb hby at_0) rfl q) ?_
  show Go p e below _ (T0.setTop (mkF m 1 #[.val (.long q1), .second, .val (.int p2), .unset, .unset, .unset, .unset, .unset, .unset, .unset, .unset] [(.long q1)]))
  refine go (X0.ldc2Long hx hown (mvT hZ (hw _ (List.mem_of_getElem? (i := 0) rfl))) (g := (mkF m 1 #[.val (.long q1), .second, .val (.int p2), .unset, .unset, .unset, .unset, .unset, .unset, .unset, .unset] [(.long q1)])) rfl (hb hby at_1)) ?_
  show Go p e below _ (T0.setTop (mkF m 4 #[.val (.long q1), .second, .val (.int p2), .unset, .unset, .unset, .unset, .unset, .unset, .unset, .unset] [(.long (9223372036854775807 : Int64)), (.long q1)]))
  refine go (fun _ q => XS.land X0.here hx rfl (hb hby at_4) rfl q) ?_
  show Go p e below _ (T0.setTop (mkF m 5 #[.val (.long q1), .second, .val (.int p2), .unset, .unset, .unset, .unset, .unset, .unset, .unset, .unset] [(.long (q1 &&& (9223372036854775807 : Int64)))]))
  refine go (X0.ldc2Long hx hown (mvT hZ (hw _ (List.mem_of_getElem? (i := 1) rfl))) (g := (mkF m 5 #[.val (.long q1), .second, .val (.int p2), .unset, .unset, .unset, .unset, .unset, .unset, .unset, .unset] [(.long (q1 &&& (9223372036854775807 : Int64)))])) rfl (hb hby at_5)) ?_
  show Go p e below _ (T0.setTop (mkF m 8 #[.val (.long q1), .second, .val (.int p2), .unset, .unset, .unset, .unset, .unset, .unset, .unset, .unset] [(.long (2251799812636673 : Int64)), (.long (q1 &&& (9223372036854775807 : Int64)))]))
  refine go (fun _ q => own_lrem X0 hx rfl (hb hby at_8) rfl (by decide) q) ?_
  show Go p e below _ (T0.setTop (mkF m 9 #[.val (.long q1), .second, .val (.int p2), .unset, .unset, .unset, .unset, .unset, .unset, .unset, .unset] [(.long ((q1 &&& (9223372036854775807 : Int64)) % (2251799812636673 : Int64)))]))
  generalize hv1 : ((q1 &&& (9223372036854775807 : Int64)) % (2251799812636673 : Int64)) = v1
  show Go p e below _ (T0.setTop (mkF m 9 #[.val (.long q1), .second, .val (.int p2), .unset, .unset, .unset, .unset, .unset, .unset, .unset, .unset] [(.long v1)]))
  refine go (fun _ q => XS.lstoreN X0.here hx rfl (hb hby at_9) rfl (l' := #[.val (.long q1), .second, .val (.int p2), .val (.long v1), .second, .unset, .unset, .unset, .unset, .unset, .unset]) rfl q) ?_
  show Go p e below _ (T0.setTop (mkF m 10 #[.val (.long q1), .second, .val (.int p2), .val (.long v1), .second, .unset, .unset, .unset, .unset, .unset, .unset] []))
  refine go (fun _ q => XS.iloadN X0.here hx rfl (hb hby at_10) rfl q) ?_
  show Go p e below _ (T0.setTop (mkF m 11 #[.val (.long q1), .second, .val (.int p2), .val (.long v1), .second, .unset, .unset, .unset, .unset, .unset, .unset] [(.int p2)]))
  refine go (fun _ q => XS.iconst X0.here hx rfl (hb hby at_11) q) ?_
  show Go p e below _ (T0.setTop (mkF m 12 #[.val (.long q1), .second, .val (.int p2), .val (.long v1), .second, .unset, .unset, .unset, .unset, .unset, .unset] [(.int (3 : Int32)), (.int p2)]))
  refine go (fun _ q => XS.iand X0.here hx rfl (hb hby at_12) rfl q) ?_
  show Go p e below _ (T0.setTop (mkF m 13 #[.val (.long q1), .second, .val (.int p2), .val (.long v1), .second, .unset, .unset, .unset, .unset, .unset, .unset] [(.int (p2 &&& (3 : Int32)))]))
  generalize hv2 : (p2 &&& (3 : Int32)) = v2
  show Go p e below _ (T0.setTop (mkF m 13 #[.val (.long q1), .second, .val (.int p2), .val (.long v1), .second, .unset, .unset, .unset, .unset, .unset, .unset] [(.int v2)]))
  refine go (fun _ q => XS.istore X0.here hx rfl (hb hby at_13) rfl (l' := #[.val (.long q1), .second, .val (.int p2), .val (.long v1), .second, .val (.int v2), .unset, .unset, .unset, .unset, .unset]) rfl q) ?_
  show Go p e below _ (T0.setTop (mkF m 15 #[.val (.long q1), .second, .val (.int p2), .val (.long v1), .second, .val (.int v2), .unset, .unset, .unset, .unset, .unset] []))
  refine go (fun _ q => XS.iload X0.here hx rfl (hb hby at_15) rfl q) ?_
  show Go p e below _ (T0.setTop (mkF m 17 #[.val (.long q1), .second, .val (.int p2), .val (.long v1), .second, .val (.int v2), .unset, .unset, .unset, .unset, .unset] [(.int v2)]))
  suffices hj3 : ∀ s8 : Slot, ∀ s9 : Slot, ∀ s10 : Slot, ∀ s11 : Slot, ((s8 = .unset ∧ s9 = .unset ∧ s10 = .unset ∧ s11 = .unset) ∨ ((∃ w : Int64, s8 = .val (.long w)) ∧ s9 = .second ∧ (∃ w : Int64, s10 = .val (.long w)) ∧ s11 = .second)) → ∀ (z7 : Int64), z7 = (if v2 = (0 : Int32) then v1 else (if ((((((v1).toUInt64 >>> ((20 : Int32) &&& 0x3f).toInt64.toUInt64).toInt64) <<< ((20 : Int32) &&& 0x3f).toInt64)) + (((v2 - (2 : Int32))).toInt64)) < (0 : Int64) then (((((v1).toUInt64 >>> ((20 : Int32) &&& 0x3f).toInt64.toUInt64).toInt64) <<< ((20 : Int32) &&& 0x3f).toInt64)) else (if (2251799812636672 : Int64) < ((((((v1).toUInt64 >>> ((20 : Int32) &&& 0x3f).toInt64.toUInt64).toInt64) <<< ((20 : Int32) &&& 0x3f).toInt64)) + (((v2 - (2 : Int32))).toInt64)) then (((((v1).toUInt64 >>> ((20 : Int32) &&& 0x3f).toInt64.toUInt64).toInt64) <<< ((20 : Int32) &&& 0x3f).toInt64)) else ((((((v1).toUInt64 >>> ((20 : Int32) &&& 0x3f).toInt64.toUInt64).toInt64) <<< ((20 : Int32) &&& 0x3f).toInt64)) + (((v2 - (2 : Int32))).toInt64))))) → Go p e below (Dn below s ((Q0 n0)) room_1.cells room_1.slots) (T0.setTop (mkF m 64 #[.val (.long q1), .second, .val (.int p2), .val (.long z7), .second, .val (.int v2), s8, s9, s10, s11, .unset] [])) by
    by_cases hc4 : v2 = (0 : Int32)
    · refine go (fun _ q => XS.ifYes X0.here hx rfl (pc0 := 17) (pc' := 64) rfl (hb hby at_17) rfl ((if0 _ _).trans (teq hc4).1) (by decide) (by decide) q) ?_
      show Go p e below _ (T0.setTop (mkF m 64 #[.val (.long q1), .second, .val (.int p2), .val (.long v1), .second, .val (.int v2), .unset, .unset, .unset, .unset, .unset] []))
      exact hj3 _ _ _ _ (Or.inl ⟨rfl, rfl, rfl, rfl⟩) _ (by rw [if_pos hc4])
    · refine go (fun _ q => XS.ifNo X0.here hx rfl (hb hby at_17) rfl ((if0 _ _).trans (feq hc4).1) q) ?_
      show Go p e below _ (T0.setTop (mkF m 20 #[.val (.long q1), .second, .val (.int p2), .val (.long v1), .second, .val (.int v2), .unset, .unset, .unset, .unset, .unset] []))
      refine go (fun _ q => XS.lloadN X0.here hx rfl (hb hby at_20) rfl q) ?_
      show Go p e below _ (T0.setTop (mkF m 21 #[.val (.long q1), .second, .val (.int p2), .val (.long v1), .second, .val (.int v2), .unset, .unset, .unset, .unset, .unset] [(.long v1)]))
      refine go (fun _ q => XS.bipush X0.here hx rfl (hb hby at_21) q) ?_
      show Go p e below _ (T0.setTop (mkF m 23 #[.val (.long q1), .second, .val (.int p2), .val (.long v1), .second, .val (.int v2), .unset, .unset, .unset, .unset, .unset] [(.int (20 : Int32)), (.long v1)]))
      refine go (fun _ q => XS.lushr X0.here hx rfl (hb hby at_23) rfl q) ?_
      show Go p e below _ (T0.setTop (mkF m 24 #[.val (.long q1), .second, .val (.int p2), .val (.long v1), .second, .val (.int v2), .unset, .unset, .unset, .unset, .unset] [(.long (((v1).toUInt64 >>> ((20 : Int32) &&& 0x3f).toInt64.toUInt64).toInt64))]))
      refine go (fun _ q => XS.bipush X0.here hx rfl (hb hby at_24) q) ?_
      show Go p e below _ (T0.setTop (mkF m 26 #[.val (.long q1), .second, .val (.int p2), .val (.long v1), .second, .val (.int v2), .unset, .unset, .unset, .unset, .unset] [(.int (20 : Int32)), (.long (((v1).toUInt64 >>> ((20 : Int32) &&& 0x3f).toInt64.toUInt64).toInt64))]))
      refine go (fun _ q => XS.lshl X0.here hx rfl (hb hby at_26) rfl q) ?_
      show Go p e below _ (T0.setTop (mkF m 27 #[.val (.long q1), .second, .val (.int p2), .val (.long v1), .second, .val (.int v2), .unset, .unset, .unset, .unset, .unset] [(.long (((((v1).toUInt64 >>> ((20 : Int32) &&& 0x3f).toInt64.toUInt64).toInt64) <<< ((20 : Int32) &&& 0x3f).toInt64)))]))
      refine go (fun _ q => XS.lstore X0.here hx rfl (hb hby at_27) rfl (l' := #[.val (.long q1), .second, .val (.int p2), .val (.long v1), .second, .val (.int v2), .val (.long (((((v1).toUInt64 >>> ((20 : Int32) &&& 0x3f).toInt64.toUInt64).toInt64) <<< ((20 : Int32) &&& 0x3f).toInt64))), .second, .unset, .unset, .unset]) rfl q) ?_
      show Go p e below _ (T0.setTop (mkF m 29 #[.val (.long q1), .second, .val (.int p2), .val (.long v1), .second, .val (.int v2), .val (.long (((((v1).toUInt64 >>> ((20 : Int32) &&& 0x3f).toInt64.toUInt64).toInt64) <<< ((20 : Int32) &&& 0x3f).toInt64))), .second, .unset, .unset, .unset] []))
      refine go (fun _ q => XS.lload X0.here hx rfl (hb hby at_29) rfl q) ?_
      show Go p e below _ (T0.setTop (mkF m 31 #[.val (.long q1), .second, .val (.int p2), .val (.long v1), .second, .val (.int v2), .val (.long (((((v1).toUInt64 >>> ((20 : Int32) &&& 0x3f).toInt64.toUInt64).toInt64) <<< ((20 : Int32) &&& 0x3f).toInt64))), .second, .unset, .unset, .unset] [(.long (((((v1).toUInt64 >>> ((20 : Int32) &&& 0x3f).toInt64.toUInt64).toInt64) <<< ((20 : Int32) &&& 0x3f).toInt64)))]))
      refine go (fun _ q => XS.iload X0.here hx rfl (hb hby at_31) rfl q) ?_
      show Go p e below _ (T0.setTop (mkF m 33 #[.val (.long q1), .second, .val (.int p2), .val (.long v1), .second, .val (.int v2), .val (.long (((((v1).toUInt64 >>> ((20 : Int32) &&& 0x3f).toInt64.toUInt64).toInt64) <<< ((20 : Int32) &&& 0x3f).toInt64))), .second, .unset, .unset, .unset] [(.int v2), (.long (((((v1).toUInt64 >>> ((20 : Int32) &&& 0x3f).toInt64.toUInt64).toInt64) <<< ((20 : Int32) &&& 0x3f).toInt64)))]))
      refine go (fun _ q => XS.iconst X0.here hx rfl (hb hby at_33) q) ?_
      show Go p e below _ (T0.setTop (mkF m 34 #[.val (.long q1), .second, .val (.int p2), .val (.long v1), .second, .val (.int v2), .val (.long (((((v1).toUInt64 >>> ((20 : Int32) &&& 0x3f).toInt64.toUInt64).toInt64) <<< ((20 : Int32) &&& 0x3f).toInt64))), .second, .unset, .unset, .unset] [(.int (2 : Int32)), (.int v2), (.long (((((v1).toUInt64 >>> ((20 : Int32) &&& 0x3f).toInt64.toUInt64).toInt64) <<< ((20 : Int32) &&& 0x3f).toInt64)))]))
      refine go (fun _ q => XS.isub X0.here hx rfl (hb hby at_34) rfl q) ?_
      show Go p e below _ (T0.setTop (mkF m 35 #[.val (.long q1), .second, .val (.int p2), .val (.long v1), .second, .val (.int v2), .val (.long (((((v1).toUInt64 >>> ((20 : Int32) &&& 0x3f).toInt64.toUInt64).toInt64) <<< ((20 : Int32) &&& 0x3f).toInt64))), .second, .unset, .unset, .unset] [(.int (v2 - (2 : Int32))), (.long (((((v1).toUInt64 >>> ((20 : Int32) &&& 0x3f).toInt64.toUInt64).toInt64) <<< ((20 : Int32) &&& 0x3f).toInt64)))]))
      refine go (fun _ q => XS.i2l X0.here hx rfl (hb hby at_35) rfl q) ?_
      show Go p e below _ (T0.setTop (mkF m 36 #[.val (.long q1), .second, .val (.int p2), .val (.long v1), .second, .val (.int v2), .val (.long (((((v1).toUInt64 >>> ((20 : Int32) &&& 0x3f).toInt64.toUInt64).toInt64) <<< ((20 : Int32) &&& 0x3f).toInt64))), .second, .unset, .unset, .unset] [(.long (((v2 - (2 : Int32))).toInt64)), (.long (((((v1).toUInt64 >>> ((20 : Int32) &&& 0x3f).toInt64.toUInt64).toInt64) <<< ((20 : Int32) &&& 0x3f).toInt64)))]))
      refine go (fun _ q => XS.ladd X0.here hx rfl (hb hby at_36) rfl q) ?_
      show Go p e below _ (T0.setTop (mkF m 37 #[.val (.long q1), .second, .val (.int p2), .val (.long v1), .second, .val (.int v2), .val (.long (((((v1).toUInt64 >>> ((20 : Int32) &&& 0x3f).toInt64.toUInt64).toInt64) <<< ((20 : Int32) &&& 0x3f).toInt64))), .second, .unset, .unset, .unset] [(.long ((((((v1).toUInt64 >>> ((20 : Int32) &&& 0x3f).toInt64.toUInt64).toInt64) <<< ((20 : Int32) &&& 0x3f).toInt64)) + (((v2 - (2 : Int32))).toInt64)))]))
      refine go (fun _ q => XS.lstore X0.here hx rfl (hb hby at_37) rfl (l' := #[.val (.long q1), .second, .val (.int p2), .val (.long v1), .second, .val (.int v2), .val (.long (((((v1).toUInt64 >>> ((20 : Int32) &&& 0x3f).toInt64.toUInt64).toInt64) <<< ((20 : Int32) &&& 0x3f).toInt64))), .second, .val (.long ((((((v1).toUInt64 >>> ((20 : Int32) &&& 0x3f).toInt64.toUInt64).toInt64) <<< ((20 : Int32) &&& 0x3f).toInt64)) + (((v2 - (2 : Int32))).toInt64))), .second, .unset]) rfl q) ?_
      show Go p e below _ (T0.setTop (mkF m 39 #[.val (.long q1), .second, .val (.int p2), .val (.long v1), .second, .val (.int v2), .val (.long (((((v1).toUInt64 >>> ((20 : Int32) &&& 0x3f).toInt64.toUInt64).toInt64) <<< ((20 : Int32) &&& 0x3f).toInt64))), .second, .val (.long ((((((v1).toUInt64 >>> ((20 : Int32) &&& 0x3f).toInt64.toUInt64).toInt64) <<< ((20 : Int32) &&& 0x3f).toInt64)) + (((v2 - (2 : Int32))).toInt64))), .second, .unset] []))
      refine go (fun _ q => XS.lload X0.here hx rfl (hb hby at_39) rfl q) ?_
      show Go p e below _ (T0.setTop (mkF m 41 #[.val (.long q1), .second, .val (.int p2), .val (.long v1), .second, .val (.int v2), .val (.long (((((v1).toUInt64 >>> ((20 : Int32) &&& 0x3f).toInt64.toUInt64).toInt64) <<< ((20 : Int32) &&& 0x3f).toInt64))), .second, .val (.long ((((((v1).toUInt64 >>> ((20 : Int32) &&& 0x3f).toInt64.toUInt64).toInt64) <<< ((20 : Int32) &&& 0x3f).toInt64)) + (((v2 - (2 : Int32))).toInt64))), .second, .unset] [(.long ((((((v1).toUInt64 >>> ((20 : Int32) &&& 0x3f).toInt64.toUInt64).toInt64) <<< ((20 : Int32) &&& 0x3f).toInt64)) + (((v2 - (2 : Int32))).toInt64)))]))
      refine go (fun _ q => XS.lconst X0.here hx rfl (hb hby at_41) q) ?_
      show Go p e below _ (T0.setTop (mkF m 42 #[.val (.long q1), .second, .val (.int p2), .val (.long v1), .second, .val (.int v2), .val (.long (((((v1).toUInt64 >>> ((20 : Int32) &&& 0x3f).toInt64.toUInt64).toInt64) <<< ((20 : Int32) &&& 0x3f).toInt64))), .second, .val (.long ((((((v1).toUInt64 >>> ((20 : Int32) &&& 0x3f).toInt64.toUInt64).toInt64) <<< ((20 : Int32) &&& 0x3f).toInt64)) + (((v2 - (2 : Int32))).toInt64))), .second, .unset] [(.long (0 : Int64)), (.long ((((((v1).toUInt64 >>> ((20 : Int32) &&& 0x3f).toInt64.toUInt64).toInt64) <<< ((20 : Int32) &&& 0x3f).toInt64)) + (((v2 - (2 : Int32))).toInt64)))]))
      refine go (fun _ q => XS.lcmp X0.here hx rfl (hb hby at_42) rfl q) ?_
      show Go p e below _ (T0.setTop (mkF m 43 #[.val (.long q1), .second, .val (.int p2), .val (.long v1), .second, .val (.int v2), .val (.long (((((v1).toUInt64 >>> ((20 : Int32) &&& 0x3f).toInt64.toUInt64).toInt64) <<< ((20 : Int32) &&& 0x3f).toInt64))), .second, .val (.long ((((((v1).toUInt64 >>> ((20 : Int32) &&& 0x3f).toInt64.toUInt64).toInt64) <<< ((20 : Int32) &&& 0x3f).toInt64)) + (((v2 - (2 : Int32))).toInt64))), .second, .unset] [(.int (lcmpW ((((((v1).toUInt64 >>> ((20 : Int32) &&& 0x3f).toInt64.toUInt64).toInt64) <<< ((20 : Int32) &&& 0x3f).toInt64)) + (((v2 - (2 : Int32))).toInt64)) (0 : Int64)))]))
      by_cases hc5 : ((((((v1).toUInt64 >>> ((20 : Int32) &&& 0x3f).toInt64.toUInt64).toInt64) <<< ((20 : Int32) &&& 0x3f).toInt64)) + (((v2 - (2 : Int32))).toInt64)) < (0 : Int64)
      · refine go (fun _ q => XS.ifYes X0.here hx rfl (pc0 := 43) (pc' := 55) rfl (hb hby at_43) rfl ((if0 _ _).trans (tlt ((lw_lt _ _).mpr hc5)).1) (by decide) (by decide) q) ?_
        show Go p e below _ (T0.setTop (mkF m 55 #[.val (.long q1), .second, .val (.int p2), .val (.long v1), .second, .val (.int v2), .val (.long (((((v1).toUInt64 >>> ((20 : Int32) &&& 0x3f).toInt64.toUInt64).toInt64) <<< ((20 : Int32) &&& 0x3f).toInt64))), .second, .val (.long ((((((v1).toUInt64 >>> ((20 : Int32) &&& 0x3f).toInt64.toUInt64).toInt64) <<< ((20 : Int32) &&& 0x3f).toInt64)) + (((v2 - (2 : Int32))).toInt64))), .second, .unset] []))
        refine go (fun _ q => XS.lload X0.here hx rfl (hb hby at_55) rfl q) ?_
        show Go p e below _ (T0.setTop (mkF m 57 #[.val (.long q1), .second, .val (.int p2), .val (.long v1), .second, .val (.int v2), .val (.long (((((v1).toUInt64 >>> ((20 : Int32) &&& 0x3f).toInt64.toUInt64).toInt64) <<< ((20 : Int32) &&& 0x3f).toInt64))), .second, .val (.long ((((((v1).toUInt64 >>> ((20 : Int32) &&& 0x3f).toInt64.toUInt64).toInt64) <<< ((20 : Int32) &&& 0x3f).toInt64)) + (((v2 - (2 : Int32))).toInt64))), .second, .unset] [(.long (((((v1).toUInt64 >>> ((20 : Int32) &&& 0x3f).toInt64.toUInt64).toInt64) <<< ((20 : Int32) &&& 0x3f).toInt64)))]))
        refine go (fun _ q => XS.lstoreN X0.here hx rfl (hb hby at_57) rfl (l' := #[.val (.long q1), .second, .val (.int p2), .val (.long (((((v1).toUInt64 >>> ((20 : Int32) &&& 0x3f).toInt64.toUInt64).toInt64) <<< ((20 : Int32) &&& 0x3f).toInt64))), .second, .val (.int v2), .val (.long (((((v1).toUInt64 >>> ((20 : Int32) &&& 0x3f).toInt64.toUInt64).toInt64) <<< ((20 : Int32) &&& 0x3f).toInt64))), .second, .val (.long ((((((v1).toUInt64 >>> ((20 : Int32) &&& 0x3f).toInt64.toUInt64).toInt64) <<< ((20 : Int32) &&& 0x3f).toInt64)) + (((v2 - (2 : Int32))).toInt64))), .second, .unset]) rfl q) ?_
        show Go p e below _ (T0.setTop (mkF m 58 #[.val (.long q1), .second, .val (.int p2), .val (.long (((((v1).toUInt64 >>> ((20 : Int32) &&& 0x3f).toInt64.toUInt64).toInt64) <<< ((20 : Int32) &&& 0x3f).toInt64))), .second, .val (.int v2), .val (.long (((((v1).toUInt64 >>> ((20 : Int32) &&& 0x3f).toInt64.toUInt64).toInt64) <<< ((20 : Int32) &&& 0x3f).toInt64))), .second, .val (.long ((((((v1).toUInt64 >>> ((20 : Int32) &&& 0x3f).toInt64.toUInt64).toInt64) <<< ((20 : Int32) &&& 0x3f).toInt64)) + (((v2 - (2 : Int32))).toInt64))), .second, .unset] []))
        refine go (fun _ q => XS.goto X0.here hx rfl (pc0 := 58) (pc' := 64) rfl (hb hby at_58) (by decide) (by decide) q) ?_
        show Go p e below _ (T0.setTop (mkF m 64 #[.val (.long q1), .second, .val (.int p2), .val (.long (((((v1).toUInt64 >>> ((20 : Int32) &&& 0x3f).toInt64.toUInt64).toInt64) <<< ((20 : Int32) &&& 0x3f).toInt64))), .second, .val (.int v2), .val (.long (((((v1).toUInt64 >>> ((20 : Int32) &&& 0x3f).toInt64.toUInt64).toInt64) <<< ((20 : Int32) &&& 0x3f).toInt64))), .second, .val (.long ((((((v1).toUInt64 >>> ((20 : Int32) &&& 0x3f).toInt64.toUInt64).toInt64) <<< ((20 : Int32) &&& 0x3f).toInt64)) + (((v2 - (2 : Int32))).toInt64))), .second, .unset] []))
        exact hj3 _ _ _ _ (Or.inr ⟨⟨_, rfl⟩, rfl, ⟨_, rfl⟩, rfl⟩) _ (by rw [if_neg hc4, if_pos hc5])
      · refine go (fun _ q => XS.ifNo X0.here hx rfl (hb hby at_43) rfl ((if0 _ _).trans (flt (fun q => hc5 ((lw_lt _ _).mp q))).1) q) ?_
        show Go p e below _ (T0.setTop (mkF m 46 #[.val (.long q1), .second, .val (.int p2), .val (.long v1), .second, .val (.int v2), .val (.long (((((v1).toUInt64 >>> ((20 : Int32) &&& 0x3f).toInt64.toUInt64).toInt64) <<< ((20 : Int32) &&& 0x3f).toInt64))), .second, .val (.long ((((((v1).toUInt64 >>> ((20 : Int32) &&& 0x3f).toInt64.toUInt64).toInt64) <<< ((20 : Int32) &&& 0x3f).toInt64)) + (((v2 - (2 : Int32))).toInt64))), .second, .unset] []))
        refine go (fun _ q => XS.lload X0.here hx rfl (hb hby at_46) rfl q) ?_
        show Go p e below _ (T0.setTop (mkF m 48 #[.val (.long q1), .second, .val (.int p2), .val (.long v1), .second, .val (.int v2), .val (.long (((((v1).toUInt64 >>> ((20 : Int32) &&& 0x3f).toInt64.toUInt64).toInt64) <<< ((20 : Int32) &&& 0x3f).toInt64))), .second, .val (.long ((((((v1).toUInt64 >>> ((20 : Int32) &&& 0x3f).toInt64.toUInt64).toInt64) <<< ((20 : Int32) &&& 0x3f).toInt64)) + (((v2 - (2 : Int32))).toInt64))), .second, .unset] [(.long ((((((v1).toUInt64 >>> ((20 : Int32) &&& 0x3f).toInt64.toUInt64).toInt64) <<< ((20 : Int32) &&& 0x3f).toInt64)) + (((v2 - (2 : Int32))).toInt64)))]))
        refine go (X0.ldc2Long hx hown (mvT hZ (hw _ (List.mem_of_getElem? (i := 2) rfl))) (g := (mkF m 48 #[.val (.long q1), .second, .val (.int p2), .val (.long v1), .second, .val (.int v2), .val (.long (((((v1).toUInt64 >>> ((20 : Int32) &&& 0x3f).toInt64.toUInt64).toInt64) <<< ((20 : Int32) &&& 0x3f).toInt64))), .second, .val (.long ((((((v1).toUInt64 >>> ((20 : Int32) &&& 0x3f).toInt64.toUInt64).toInt64) <<< ((20 : Int32) &&& 0x3f).toInt64)) + (((v2 - (2 : Int32))).toInt64))), .second, .unset] [(.long ((((((v1).toUInt64 >>> ((20 : Int32) &&& 0x3f).toInt64.toUInt64).toInt64) <<< ((20 : Int32) &&& 0x3f).toInt64)) + (((v2 - (2 : Int32))).toInt64)))])) rfl (hb hby at_48)) ?_
        show Go p e below _ (T0.setTop (mkF m 51 #[.val (.long q1), .second, .val (.int p2), .val (.long v1), .second, .val (.int v2), .val (.long (((((v1).toUInt64 >>> ((20 : Int32) &&& 0x3f).toInt64.toUInt64).toInt64) <<< ((20 : Int32) &&& 0x3f).toInt64))), .second, .val (.long ((((((v1).toUInt64 >>> ((20 : Int32) &&& 0x3f).toInt64.toUInt64).toInt64) <<< ((20 : Int32) &&& 0x3f).toInt64)) + (((v2 - (2 : Int32))).toInt64))), .second, .unset] [(.long (2251799812636672 : Int64)), (.long ((((((v1).toUInt64 >>> ((20 : Int32) &&& 0x3f).toInt64.toUInt64).toInt64) <<< ((20 : Int32) &&& 0x3f).toInt64)) + (((v2 - (2 : Int32))).toInt64)))]))
        refine go (fun _ q => XS.lcmp X0.here hx rfl (hb hby at_51) rfl q) ?_
        show Go p e below _ (T0.setTop (mkF m 52 #[.val (.long q1), .second, .val (.int p2), .val (.long v1), .second, .val (.int v2), .val (.long (((((v1).toUInt64 >>> ((20 : Int32) &&& 0x3f).toInt64.toUInt64).toInt64) <<< ((20 : Int32) &&& 0x3f).toInt64))), .second, .val (.long ((((((v1).toUInt64 >>> ((20 : Int32) &&& 0x3f).toInt64.toUInt64).toInt64) <<< ((20 : Int32) &&& 0x3f).toInt64)) + (((v2 - (2 : Int32))).toInt64))), .second, .unset] [(.int (lcmpW ((((((v1).toUInt64 >>> ((20 : Int32) &&& 0x3f).toInt64.toUInt64).toInt64) <<< ((20 : Int32) &&& 0x3f).toInt64)) + (((v2 - (2 : Int32))).toInt64)) (2251799812636672 : Int64)))]))
        by_cases hc6 : (2251799812636672 : Int64) < ((((((v1).toUInt64 >>> ((20 : Int32) &&& 0x3f).toInt64.toUInt64).toInt64) <<< ((20 : Int32) &&& 0x3f).toInt64)) + (((v2 - (2 : Int32))).toInt64))
        · refine go (fun _ q => XS.ifNo X0.here hx rfl (hb hby at_52) rfl ((if0 _ _).trans (tlt ((lw_gt _ _).mpr hc6)).2.2.2) q) ?_
          show Go p e below _ (T0.setTop (mkF m 55 #[.val (.long q1), .second, .val (.int p2), .val (.long v1), .second, .val (.int v2), .val (.long (((((v1).toUInt64 >>> ((20 : Int32) &&& 0x3f).toInt64.toUInt64).toInt64) <<< ((20 : Int32) &&& 0x3f).toInt64))), .second, .val (.long ((((((v1).toUInt64 >>> ((20 : Int32) &&& 0x3f).toInt64.toUInt64).toInt64) <<< ((20 : Int32) &&& 0x3f).toInt64)) + (((v2 - (2 : Int32))).toInt64))), .second, .unset] []))
          refine go (fun _ q => XS.lload X0.here hx rfl (hb hby at_55) rfl q) ?_
          show Go p e below _ (T0.setTop (mkF m 57 #[.val (.long q1), .second, .val (.int p2), .val (.long v1), .second, .val (.int v2), .val (.long (((((v1).toUInt64 >>> ((20 : Int32) &&& 0x3f).toInt64.toUInt64).toInt64) <<< ((20 : Int32) &&& 0x3f).toInt64))), .second, .val (.long ((((((v1).toUInt64 >>> ((20 : Int32) &&& 0x3f).toInt64.toUInt64).toInt64) <<< ((20 : Int32) &&& 0x3f).toInt64)) + (((v2 - (2 : Int32))).toInt64))), .second, .unset] [(.long (((((v1).toUInt64 >>> ((20 : Int32) &&& 0x3f).toInt64.toUInt64).toInt64) <<< ((20 : Int32) &&& 0x3f).toInt64)))]))
          refine go (fun _ q => XS.lstoreN X0.here hx rfl (hb hby at_57) rfl (l' := #[.val (.long q1), .second, .val (.int p2), .val (.long (((((v1).toUInt64 >>> ((20 : Int32) &&& 0x3f).toInt64.toUInt64).toInt64) <<< ((20 : Int32) &&& 0x3f).toInt64))), .second, .val (.int v2), .val (.long (((((v1).toUInt64 >>> ((20 : Int32) &&& 0x3f).toInt64.toUInt64).toInt64) <<< ((20 : Int32) &&& 0x3f).toInt64))), .second, .val (.long ((((((v1).toUInt64 >>> ((20 : Int32) &&& 0x3f).toInt64.toUInt64).toInt64) <<< ((20 : Int32) &&& 0x3f).toInt64)) + (((v2 - (2 : Int32))).toInt64))), .second, .unset]) rfl q) ?_
          show Go p e below _ (T0.setTop (mkF m 58 #[.val (.long q1), .second, .val (.int p2), .val (.long (((((v1).toUInt64 >>> ((20 : Int32) &&& 0x3f).toInt64.toUInt64).toInt64) <<< ((20 : Int32) &&& 0x3f).toInt64))), .second, .val (.int v2), .val (.long (((((v1).toUInt64 >>> ((20 : Int32) &&& 0x3f).toInt64.toUInt64).toInt64) <<< ((20 : Int32) &&& 0x3f).toInt64))), .second, .val (.long ((((((v1).toUInt64 >>> ((20 : Int32) &&& 0x3f).toInt64.toUInt64).toInt64) <<< ((20 : Int32) &&& 0x3f).toInt64)) + (((v2 - (2 : Int32))).toInt64))), .second, .unset] []))
          refine go (fun _ q => XS.goto X0.here hx rfl (pc0 := 58) (pc' := 64) rfl (hb hby at_58) (by decide) (by decide) q) ?_
          show Go p e below _ (T0.setTop (mkF m 64 #[.val (.long q1), .second, .val (.int p2), .val (.long (((((v1).toUInt64 >>> ((20 : Int32) &&& 0x3f).toInt64.toUInt64).toInt64) <<< ((20 : Int32) &&& 0x3f).toInt64))), .second, .val (.int v2), .val (.long (((((v1).toUInt64 >>> ((20 : Int32) &&& 0x3f).toInt64.toUInt64).toInt64) <<< ((20 : Int32) &&& 0x3f).toInt64))), .second, .val (.long ((((((v1).toUInt64 >>> ((20 : Int32) &&& 0x3f).toInt64.toUInt64).toInt64) <<< ((20 : Int32) &&& 0x3f).toInt64)) + (((v2 - (2 : Int32))).toInt64))), .second, .unset] []))
          exact hj3 _ _ _ _ (Or.inr ⟨⟨_, rfl⟩, rfl, ⟨_, rfl⟩, rfl⟩) _ (by rw [if_neg hc4, if_neg hc5, if_pos hc6])
        · refine go (fun _ q => XS.ifYes X0.here hx rfl (pc0 := 52) (pc' := 61) rfl (hb hby at_52) rfl ((if0 _ _).trans (flt (fun q => hc6 ((lw_gt _ _).mp q))).2.2.2) (by decide) (by decide) q) ?_
          show Go p e below _ (T0.setTop (mkF m 61 #[.val (.long q1), .second, .val (.int p2), .val (.long v1), .second, .val (.int v2), .val (.long (((((v1).toUInt64 >>> ((20 : Int32) &&& 0x3f).toInt64.toUInt64).toInt64) <<< ((20 : Int32) &&& 0x3f).toInt64))), .second, .val (.long ((((((v1).toUInt64 >>> ((20 : Int32) &&& 0x3f).toInt64.toUInt64).toInt64) <<< ((20 : Int32) &&& 0x3f).toInt64)) + (((v2 - (2 : Int32))).toInt64))), .second, .unset] []))
          refine go (fun _ q => XS.lload X0.here hx rfl (hb hby at_61) rfl q) ?_
          show Go p e below _ (T0.setTop (mkF m 63 #[.val (.long q1), .second, .val (.int p2), .val (.long v1), .second, .val (.int v2), .val (.long (((((v1).toUInt64 >>> ((20 : Int32) &&& 0x3f).toInt64.toUInt64).toInt64) <<< ((20 : Int32) &&& 0x3f).toInt64))), .second, .val (.long ((((((v1).toUInt64 >>> ((20 : Int32) &&& 0x3f).toInt64.toUInt64).toInt64) <<< ((20 : Int32) &&& 0x3f).toInt64)) + (((v2 - (2 : Int32))).toInt64))), .second, .unset] [(.long ((((((v1).toUInt64 >>> ((20 : Int32) &&& 0x3f).toInt64.toUInt64).toInt64) <<< ((20 : Int32) &&& 0x3f).toInt64)) + (((v2 - (2 : Int32))).toInt64)))]))
          refine go (fun _ q => XS.lstoreN X0.here hx rfl (hb hby at_63) rfl (l' := #[.val (.long q1), .second, .val (.int p2), .val (.long ((((((v1).toUInt64 >>> ((20 : Int32) &&& 0x3f).toInt64.toUInt64).toInt64) <<< ((20 : Int32) &&& 0x3f).toInt64)) + (((v2 - (2 : Int32))).toInt64))), .second, .val (.int v2), .val (.long (((((v1).toUInt64 >>> ((20 : Int32) &&& 0x3f).toInt64.toUInt64).toInt64) <<< ((20 : Int32) &&& 0x3f).toInt64))), .second, .val (.long ((((((v1).toUInt64 >>> ((20 : Int32) &&& 0x3f).toInt64.toUInt64).toInt64) <<< ((20 : Int32) &&& 0x3f).toInt64)) + (((v2 - (2 : Int32))).toInt64))), .second, .unset]) rfl q) ?_
          show Go p e below _ (T0.setTop (mkF m 64 #[.val (.long q1), .second, .val (.int p2), .val (.long ((((((v1).toUInt64 >>> ((20 : Int32) &&& 0x3f).toInt64.toUInt64).toInt64) <<< ((20 : Int32) &&& 0x3f).toInt64)) + (((v2 - (2 : Int32))).toInt64))), .second, .val (.int v2), .val (.long (((((v1).toUInt64 >>> ((20 : Int32) &&& 0x3f).toInt64.toUInt64).toInt64) <<< ((20 : Int32) &&& 0x3f).toInt64))), .second, .val (.long ((((((v1).toUInt64 >>> ((20 : Int32) &&& 0x3f).toInt64.toUInt64).toInt64) <<< ((20 : Int32) &&& 0x3f).toInt64)) + (((v2 - (2 : Int32))).toInt64))), .second, .unset] []))
          exact hj3 _ _ _ _ (Or.inr ⟨⟨_, rfl⟩, rfl, ⟨_, rfl⟩, rfl⟩) _ (by rw [if_neg hc4, if_neg hc5, if_neg hc6])
  intro s8 s9 s10 s11 hs12 z7 hz7
  show Go p e below _ (T0.setTop (mkF m 64 #[.val (.long q1), .second, .val (.int p2), .val (.long z7), .second, .val (.int v2), s8, s9, s10, s11, .unset] []))
  refine go (fun _ q => XS.lloadN X0.here hx rfl (hb hby at_64) rfl q) ?_
  show Go p e below _ (T0.setTop (mkF m 65 #[.val (.long q1), .second, .val (.int p2), .val (.long z7), .second, .val (.int v2), s8, s9, s10, s11, .unset] [(.long z7)]))
  have own_rng := own_size hv1 hz7
  refine go (fun _ q => XS.bipush X0.here hx rfl (hb hby at_65) q) ?_
  show Go p e below _ (T0.setTop (mkF m 67 #[.val (.long q1), .second, .val (.int p2), .val (.long z7), .second, .val (.int v2), s8, s9, s10, s11, .unset] [(.int (20 : Int32)), (.long z7)]))
  refine go (fun _ q => XS.lushr X0.here hx rfl (hb hby at_67) rfl q) ?_
  show Go p e below _ (T0.setTop (mkF m 68 #[.val (.long q1), .second, .val (.int p2), .val (.long z7), .second, .val (.int v2), s8, s9, s10, s11, .unset] [(.long (((z7).toUInt64 >>> ((20 : Int32) &&& 0x3f).toInt64.toUInt64).toInt64))]))
  generalize hv13 : (((z7).toUInt64 >>> ((20 : Int32) &&& 0x3f).toInt64.toUInt64).toInt64) = v13
  show Go p e below _ (T0.setTop (mkF m 68 #[.val (.long q1), .second, .val (.int p2), .val (.long z7), .second, .val (.int v2), s8, s9, s10, s11, .unset] [(.long v13)]))
  refine go (fun _ q => XS.lstore X0.here hx rfl (hb hby at_68) rfl (l' := #[.val (.long q1), .second, .val (.int p2), .val (.long z7), .second, .val (.int v2), .val (.long v13), .second, s10, s11, .unset]) (by rcases hs12 with ⟨rfl, rfl, rfl, rfl⟩ | ⟨⟨w6, rfl⟩, rfl, ⟨w8, rfl⟩, rfl⟩ <;> rfl) q) ?_
  show Go p e below _ (T0.setTop (mkF m 70 #[.val (.long q1), .second, .val (.int p2), .val (.long z7), .second, .val (.int v2), .val (.long v13), .second, s10, s11, .unset] []))
  refine go (fun _ q => XS.lload X0.here hx rfl (hb hby at_70) rfl q) ?_
  show Go p e below _ (T0.setTop (mkF m 72 #[.val (.long q1), .second, .val (.int p2), .val (.long z7), .second, .val (.int v2), .val (.long v13), .second, s10, s11, .unset] [(.long v13)]))
  refine go (fun _ q => XS.lloadN X0.here hx rfl (hb hby at_72) rfl q) ?_
  show Go p e below _ (T0.setTop (mkF m 73 #[.val (.long q1), .second, .val (.int p2), .val (.long z7), .second, .val (.int v2), .val (.long v13), .second, s10, s11, .unset] [(.long z7), (.long v13)]))
  refine go (X0.ldc2Long hx hown (mvT hZ (hw _ (List.mem_of_getElem? (i := 3) rfl))) (g := (mkF m 73 #[.val (.long q1), .second, .val (.int p2), .val (.long z7), .second, .val (.int v2), .val (.long v13), .second, s10, s11, .unset] [(.long z7), (.long v13)])) rfl (hb hby at_73)) ?_
  show Go p e below _ (T0.setTop (mkF m 76 #[.val (.long q1), .second, .val (.int p2), .val (.long z7), .second, .val (.int v2), .val (.long v13), .second, s10, s11, .unset] [(.long (1048575 : Int64)), (.long z7), (.long v13)]))
  refine go (fun _ q => XS.land X0.here hx rfl (hb hby at_76) rfl q) ?_
  show Go p e below _ (T0.setTop (mkF m 77 #[.val (.long q1), .second, .val (.int p2), .val (.long z7), .second, .val (.int v2), .val (.long v13), .second, s10, s11, .unset] [(.long (z7 &&& (1048575 : Int64))), (.long v13)]))
  refine go (fun _ q => XS.lconst X0.here hx rfl (hb hby at_77) q) ?_
  show Go p e below _ (T0.setTop (mkF m 78 #[.val (.long q1), .second, .val (.int p2), .val (.long z7), .second, .val (.int v2), .val (.long v13), .second, s10, s11, .unset] [(.long (0 : Int64)), (.long (z7 &&& (1048575 : Int64))), (.long v13)]))
  refine go (fun _ q => XS.lcmp X0.here hx rfl (hb hby at_78) rfl q) ?_
  show Go p e below _ (T0.setTop (mkF m 79 #[.val (.long q1), .second, .val (.int p2), .val (.long z7), .second, .val (.int v2), .val (.long v13), .second, s10, s11, .unset] [(.int (lcmpW (z7 &&& (1048575 : Int64)) (0 : Int64))), (.long v13)]))
  suffices hj14 : ∀ (z16 : Int64), z16 = (if (z7 &&& (1048575 : Int64)) = (0 : Int64) then (0 : Int64) else (1 : Int64)) → Go p e below (Dn below s ((Q0 n0)) room_1.cells room_1.slots) (T0.setTop (mkF m 87 #[.val (.long q1), .second, .val (.int p2), .val (.long z7), .second, .val (.int v2), .val (.long v13), .second, s10, s11, .unset] [(.long z16), (.long v13)])) by
    by_cases hc15 : (z7 &&& (1048575 : Int64)) = (0 : Int64)
    · refine go (fun _ q => XS.ifYes X0.here hx rfl (pc0 := 79) (pc' := 86) rfl (hb hby at_79) rfl ((if0 _ _).trans (teq ((lw_eq _ _).mpr hc15)).1) (by decide) (by decide) q) ?_
      show Go p e below _ (T0.setTop (mkF m 86 #[.val (.long q1), .second, .val (.int p2), .val (.long z7), .second, .val (.int v2), .val (.long v13), .second, s10, s11, .unset] [(.long v13)]))
      refine go (fun _ q => XS.lconst X0.here hx rfl (hb hby at_86) q) ?_
      show Go p e below _ (T0.setTop (mkF m 87 #[.val (.long q1), .second, .val (.int p2), .val (.long z7), .second, .val (.int v2), .val (.long v13), .second, s10, s11, .unset] [(.long (0 : Int64)), (.long v13)]))
      exact hj14 _ (by rw [if_pos hc15])
    · refine go (fun _ q => XS.ifNo X0.here hx rfl (hb hby at_79) rfl ((if0 _ _).trans (feq (fun q => hc15 ((lw_eq _ _).mp q))).1) q) ?_
      show Go p e below _ (T0.setTop (mkF m 82 #[.val (.long q1), .second, .val (.int p2), .val (.long z7), .second, .val (.int v2), .val (.long v13), .second, s10, s11, .unset] [(.long v13)]))
      refine go (fun _ q => XS.lconst X0.here hx rfl (hb hby at_82) q) ?_
      show Go p e below _ (T0.setTop (mkF m 83 #[.val (.long q1), .second, .val (.int p2), .val (.long z7), .second, .val (.int v2), .val (.long v13), .second, s10, s11, .unset] [(.long (1 : Int64)), (.long v13)]))
      refine go (fun _ q => XS.goto X0.here hx rfl (pc0 := 83) (pc' := 87) rfl (hb hby at_83) (by decide) (by decide) q) ?_
      show Go p e below _ (T0.setTop (mkF m 87 #[.val (.long q1), .second, .val (.int p2), .val (.long z7), .second, .val (.int v2), .val (.long v13), .second, s10, s11, .unset] [(.long (1 : Int64)), (.long v13)]))
      exact hj14 _ (by rw [if_neg hc15])
  intro z16 hz16
  show Go p e below _ (T0.setTop (mkF m 87 #[.val (.long q1), .second, .val (.int p2), .val (.long z7), .second, .val (.int v2), .val (.long v13), .second, s10, s11, .unset] [(.long z16), (.long v13)]))
  refine go (fun _ q => XS.ladd X0.here hx rfl (hb hby at_87) rfl q) ?_
  show Go p e below _ (T0.setTop (mkF m 88 #[.val (.long q1), .second, .val (.int p2), .val (.long z7), .second, .val (.int v2), .val (.long v13), .second, s10, s11, .unset] [(.long (v13 + z16))]))
  generalize hv17 : (v13 + z16) = v17
  show Go p e below _ (T0.setTop (mkF m 88 #[.val (.long q1), .second, .val (.int p2), .val (.long z7), .second, .val (.int v2), .val (.long v13), .second, s10, s11, .unset] [(.long v17)]))
  refine go (fun _ q => XS.lstore X0.here hx rfl (hb hby at_88) rfl (l' := #[.val (.long q1), .second, .val (.int p2), .val (.long z7), .second, .val (.int v2), .val (.long v13), .second, .val (.long v17), .second, .unset]) (by rcases hs12 with ⟨rfl, rfl, rfl, rfl⟩ | ⟨⟨w6, rfl⟩, rfl, ⟨w8, rfl⟩, rfl⟩ <;> rfl) q) ?_
  show Go p e below _ (T0.setTop (mkF m 90 #[.val (.long q1), .second, .val (.int p2), .val (.long z7), .second, .val (.int v2), .val (.long v13), .second, .val (.long v17), .second, .unset] []))
  refine go (fun _ q => XS.lloadN X0.here hx rfl (hb hby at_90) rfl q) ?_
  show Go p e below _ (T0.setTop (mkF m 91 #[.val (.long q1), .second, .val (.int p2), .val (.long z7), .second, .val (.int v2), .val (.long v13), .second, .val (.long v17), .second, .unset] [(.long z7)]))
  refine own_callS X0 hx hZ hown e0 (hw _ (List.mem_of_getElem? (i := 4) rfl)) (hw _ (List.mem_of_getElem? (i := 5) rfl)) (hw _ (List.mem_of_getElem? (i := 6) rfl)) (hw _ (List.mem_of_getElem? (i := 7) rfl)) (rm1 l Z a0 hw [] z7 h0 n0 (own_back own_rng)) (by decide) (by decide) (W := 0) (by decide) (by decide) (by decide) (g := (mkF m 91 #[.val (.long q1), .second, .val (.int p2), .val (.long z7), .second, .val (.int v2), .val (.long v13), .second, .val (.long v17), .second, .unset] [(.long z7)])) rfl (by rw [hml]; rfl) (argsL := [(.long z7)]) (rest := []) rfl rfl (lenOf pd_0_0 rfl) (by show 2 * 0 + _ ≤ _; exact Nat.le_of_eq rfl) (hb hby at_91) ?_
  rintro _ T18 L18 X18 ⟨rfl, N18q, e18⟩
  have N18 := Fr.app N0 N18q
  show Go p e below _ (T18.setTop (mkF m 94 #[.val (.long q1), .second, .val (.int p2), .val (.long z7), .second, .val (.int v2), .val (.long v13), .second, .val (.long v17), .second, .unset] [(.int (f1 z7))]))
  generalize hv19 : (f1 z7) = v19
  show Go p e below _ (T18.setTop (mkF m 94 #[.val (.long q1), .second, .val (.int p2), .val (.long z7), .second, .val (.int v2), .val (.long v13), .second, .val (.long v17), .second, .unset] [(.int v19)]))
  refine go (fun _ q => XS.istore X18.here hx rfl (hb hby at_94) rfl (l' := #[.val (.long q1), .second, .val (.int p2), .val (.long z7), .second, .val (.int v2), .val (.long v13), .second, .val (.long v17), .second, .val (.int v19)]) rfl q) ?_
  show Go p e below _ (T18.setTop (mkF m 96 #[.val (.long q1), .second, .val (.int p2), .val (.long z7), .second, .val (.int v2), .val (.long v13), .second, .val (.long v17), .second, .val (.int v19)] []))
  refine go (fun _ q => XS.iload X18.here hx rfl (hb hby at_96) rfl q) ?_
  show Go p e below _ (T18.setTop (mkF m 98 #[.val (.long q1), .second, .val (.int p2), .val (.long z7), .second, .val (.int v2), .val (.long v13), .second, .val (.long v17), .second, .val (.int v19)] [(.int v19)]))
  refine go (fun _ q => XS.i2l X18.here hx rfl (hb hby at_98) rfl q) ?_
  show Go p e below _ (T18.setTop (mkF m 99 #[.val (.long q1), .second, .val (.int p2), .val (.long z7), .second, .val (.int v2), .val (.long v13), .second, .val (.long v17), .second, .val (.int v19)] [(.long ((v19).toInt64))]))
  refine go (fun _ q => XS.lload X18.here hx rfl (hb hby at_99) rfl q) ?_
  show Go p e below _ (T18.setTop (mkF m 101 #[.val (.long q1), .second, .val (.int p2), .val (.long z7), .second, .val (.int v2), .val (.long v13), .second, .val (.long v17), .second, .val (.int v19)] [(.long v17), (.long ((v19).toInt64))]))
  refine go (fun _ q => XS.lcmp X18.here hx rfl (hb hby at_101) rfl q) ?_
  show Go p e below _ (T18.setTop (mkF m 102 #[.val (.long q1), .second, .val (.int p2), .val (.long z7), .second, .val (.int v2), .val (.long v13), .second, .val (.long v17), .second, .val (.int v19)] [(.int (lcmpW ((v19).toInt64) v17))]))
  suffices hj20 : ∀ (z22 : Int32), z22 = (if ((v19).toInt64) = v17 then (1 : Int32) else (0 : Int32)) → Go p e below (Dn below s ((Q0 n0)) room_1.cells room_1.slots) (T18.setTop (mkF m 110 #[.val (.long q1), .second, .val (.int p2), .val (.long z7), .second, .val (.int v2), .val (.long v13), .second, .val (.long v17), .second, .val (.int v19)] [(.int z22)])) by
    by_cases hc21 : ((v19).toInt64) = v17
    · refine go (fun _ q => XS.ifNo X18.here hx rfl (hb hby at_102) rfl ((if0 _ _).trans (teq ((lw_eq _ _).mpr hc21)).2) q) ?_
      show Go p e below _ (T18.setTop (mkF m 105 #[.val (.long q1), .second, .val (.int p2), .val (.long z7), .second, .val (.int v2), .val (.long v13), .second, .val (.long v17), .second, .val (.int v19)] []))
      refine go (fun _ q => XS.iconst X18.here hx rfl (hb hby at_105) q) ?_
      show Go p e below _ (T18.setTop (mkF m 106 #[.val (.long q1), .second, .val (.int p2), .val (.long z7), .second, .val (.int v2), .val (.long v13), .second, .val (.long v17), .second, .val (.int v19)] [(.int (1 : Int32))]))
      refine go (fun _ q => XS.goto X18.here hx rfl (pc0 := 106) (pc' := 110) rfl (hb hby at_106) (by decide) (by decide) q) ?_
      show Go p e below _ (T18.setTop (mkF m 110 #[.val (.long q1), .second, .val (.int p2), .val (.long z7), .second, .val (.int v2), .val (.long v13), .second, .val (.long v17), .second, .val (.int v19)] [(.int (1 : Int32))]))
      exact hj20 _ (by rw [if_pos hc21])
    · refine go (fun _ q => XS.ifYes X18.here hx rfl (pc0 := 102) (pc' := 109) rfl (hb hby at_102) rfl ((if0 _ _).trans (feq (fun q => hc21 ((lw_eq _ _).mp q))).2) (by decide) (by decide) q) ?_
      show Go p e below _ (T18.setTop (mkF m 109 #[.val (.long q1), .second, .val (.int p2), .val (.long z7), .second, .val (.int v2), .val (.long v13), .second, .val (.long v17), .second, .val (.int v19)] []))
      refine go (fun _ q => XS.iconst X18.here hx rfl (hb hby at_109) q) ?_
      show Go p e below _ (T18.setTop (mkF m 110 #[.val (.long q1), .second, .val (.int p2), .val (.long z7), .second, .val (.int v2), .val (.long v13), .second, .val (.long v17), .second, .val (.int v19)] [(.int (0 : Int32))]))
      exact hj20 _ (by rw [if_neg hc21])
  intro z22 hz22
  show Go p e below _ (T18.setTop (mkF m 110 #[.val (.long q1), .second, .val (.int p2), .val (.long z7), .second, .val (.int v2), .val (.long v13), .second, .val (.long v17), .second, .val (.int v19)] [(.int z22)]))
  exact own_retZ (z' := (1 : Int32)) X18 hx hlk hret (hb hby at_110) (by decide) (by decide) (by rw [hz22, if_pos (own_main own_rng hv13 hz16 hv17 hv19)]; rfl) ⟨rfl, N18⟩
set_option maxRecDepth 65536 in
set_option maxHeartbeats 40000000 in
theorem comes_1 {Post : Tables → Env → Array Value → State → Outcome → State → Prop} (hpost : ∀ tb e args s v u, (limb_1_1.after args s (.returned v) u = true ∧ limb_1_2.after args s (.returned v) u = true ∧ True) → FrameEnd s (.returned v) u (Jvm.fieldLocs frame_1_writes args s ++ Jvm.arrayLocs frame_1_arrays args s ++ Jvm.staticLocs frame_1_statics s) 0 0 → Post tb e args s (.returned v) u) :
    ArmFor flags0 classFile x code maxLocals ret World_1 tables_1 room_1 Calls_1 rest_1 Pre_1 Post := by
  intro l hfl _ _ p e ha hc hk s m args below hf hA hF happ hP
  obtain ⟨hcalls, hrest, hpre⟩ := hP
  obtain ⟨-, -, -, hnamed, -, -, -, hat⟩ := (Spec.applies_iff hf).mp happ
  obtain ⟨hg, hn⟩ := and_e (Cond.before_iff.mp (show (Jvm.Cond.and given_1 narrow_1).before args s = true from hpre))
  obtain ⟨gc, g0⟩ := and_e hg
  obtain ⟨ga0, g1⟩ := and_e g0
  have ga1 := g1
  obtain ⟨w0, w1, rfl⟩ : ∃ w0 w1 : Value, args = #[w0, w1] := by
    have hs : args.size = 2 := by simpa [Cond.value, given_1] using gc
    obtain ⟨L⟩ := args
    match L, hs with
    | [w0, w1], _ => exact ⟨w0, w1, rfl⟩
  have hw := fun d (hd : d ∈ tables_1) => atoms_spec (ws := Jvm.Cond.code x code maxLocals ret :: tables_1) hat d (List.mem_cons_of_mem _ hd)
  obtain ⟨i0, ei0⟩ := isL_v ga0
  obtain rfl : w0 = (.long i0) := Option.some.inj ei0
  obtain ⟨i1, ei1⟩ := is_v ga1
  obtain rfl : w1 = (.int i1) := Option.some.inj ei1
  obtain ⟨n, o, h1, h2, h3, _, L, rfl, ⟨rfl, N⟩, hq⟩ := rm0 l s _ hw tables_1 i0 i1 s.heap s.heap.size  p e ha hc hk s m _ below hf ((Spec.applies_iff_loose hf).mp happ).1 ⟨rfl, State.Warmed39.refl s, rfl⟩ trivial
  refine ⟨n, _, h1, h2, h3, hpost _ _ _ _ _ _ ⟨Cond.after_iff.mpr rfl, Cond.after_iff.mpr (eq_i res_at (Term.int_eval (1)) rfl), trivial⟩ ⟨hq.1, hq.2.1, (hq.2.2.sift fun y hy => Or.inr (N y hy)).mono (by decide) (by decide)⟩⟩
theorem main_1_1 : Claimed_1_1 := comes_1 fun _ _ _ _ _ _ h hF => ⟨h.1, hF⟩
theorem main_1_2 : Claimed_1_2 := comes_1 fun _ _ _ _ _ _ h hF => ⟨h.2.1, hF⟩
end Jvm.Pilot.@@N@@
namespace Jvm.Pilot.@@N@@
open Jvm Jvm.ClassFile Sem Op Lib Jvm.Free Jvm.Stand Jvm.Pilot.@@N@@.Jvm.D
/-! MADE BY PROGRAM (witnessworld.py) out of the Statement's table words and the real class files: 10 classes; the members and pool entries that the words name. The judged class is class 1, her method 1. -/
namespace start1
open Jvm.ClassFile
def u (s : String) : CpInfo := .utf8 (stringToUtf16 s)
/-- a pool by its gaps: so many unusable entries, then the entry; so many at the end -/
def gap : Nat → List CpInfo → List CpInfo
  | 0, r => r
  | n + 1, r => .unusable :: gap n r
def poolList (es : List (Nat × CpInfo)) (last : Nat) : List CpInfo := es.foldr (fun e r => gap e.1 (e.2 :: r)) (gap last [])
def pool (es : List (Nat × CpInfo)) (last : Nat) : Array CpInfo := ⟨poolList es last⟩
def fileOf (pool : Array CpInfo) (this : Nat) (attrs : Array Attribute := #[]) (ms : Array MethodInfo := #[]) (fl : Nat := 33) (sup : Nat := 0) (ifs : Array Nat := #[]) (fds : Array FieldInfo := #[]) : ClassFile where
  minorVersion := 0
  majorVersion := 65
  constantPool := pool
  accessFlags := fl
  thisClass := this
  superClass := sup
  interfaces := ifs
  fields := fds
  methods := ms
  attributes := attrs
def plain (name : String) (sup : Option ClassId) : Class where
  name := name
  kind := .ordinary
  loader := none
  accessFlags := 33
  super := sup
  interfaces := #[]
  cf := none
  fields := #[]
  methods := #[]
  instanceTypes := #[]
  staticTypes := #[]
  resolved := #[]
  callSites := []
  init := .initialized
  statics := none
  mirror := none

def pool0 : Array CpInfo := pool [(5, u "<init>"), (0, u "()V"), (1, .class_ 10), (1, u "java/lang/Object")] 113

def k0m0 : Method := { name := "<init>", desc := "()V", sig := { parameters := [], returnType := none }, accessFlags := 1, code := none }
/-- java/lang/Object -/
def k0 : Class := { plain "java/lang/Object" none with
  accessFlags := 33
  interfaces := #[]
  cf := some (fileOf pool0 8 #[] #[{ accessFlags := 1, nameIndex := 5, descriptorIndex := 6, attributes := #[] }] 33 0 #[] #[])
  fields := #[]
  methods := #[k0m0]
  instanceTypes := #[]
  staticTypes := #[]
  resolved := Array.replicate 124 none
  statics := none }

def pool1 : Array CpInfo := pool [(2, .class_ 4), (1, u "java/lang/Object"), (0, u "<init>"), (0, u "()V"), (2, .long 9223372036854775807), (1, .class_ 12), (0, u "com/example/upsert/upsert/store/BodyChunksCountPinLaw"), (0, .long 2251799812636673), (1, .long 2251799812636672), (1, .long 1048575), (1, .methodref 20 21), (0, .class_ 22), (0, .nameAndType 23 24), (0, u "com/example/upsert/upsert/store/BodyChunks"), (0, u "count"), (0, u "(J)I"), (0, u "MAX"), (0, u "J"), (3, u "law"), (0, u "(JI)Z")] 3

def k1m0 : Method := { name := "<init>", desc := "()V", sig := { parameters := [], returnType := none }, accessFlags := 1, code := none }
def k1c1 : Code := { maxStack := 6, maxLocals := 11, code := code, exceptionTable := #[], attributes := #[] }
def k1m1 : Method := { name := "law", desc := "(JI)Z", sig := { parameters := [.long, .int], returnType := some .boolean }, accessFlags := 9, code := some k1c1 }
/-- com/example/upsert/upsert/store/BodyChunksCountPinLaw -/
def k1 : Class := { plain "com/example/upsert/upsert/store/BodyChunksCountPinLaw" (some 0) with
  accessFlags := 49
  interfaces := #[]
  cf := some (fileOf pool1 11 #[] #[{ accessFlags := 1, nameIndex := 5, descriptorIndex := 6, attributes := #[] }, { accessFlags := 9, nameIndex := 30, descriptorIndex := 31, attributes := #[] }] 49 2 #[] #[{ accessFlags := 26, nameIndex := 25, descriptorIndex := 26, attributes := #[] }])
  fields := #[{ name := "MAX", type := .long, accessFlags := 26, slot := 0, constantValue := 0 }]
  methods := #[k1m0, k1m1]
  instanceTypes := #[]
  staticTypes := #[.long]
  resolved := Array.replicate 35 none
  statics := none }

def pool2 : Array CpInfo := pool [(2, .class_ 4), (1, u "java/lang/Object"), (0, u "<init>"), (0, u "()V"), (0, .class_ 8), (0, u "com/example/upsert/upsert/store/BodyChunks"), (32, .long 1048576), (1, .methodref 44 45), (0, .class_ 46), (0, .nameAndType 47 48), (0, u "java/lang/Math"), (0, u "toIntExact"), (0, u "(J)I"), (0, u "BYTES"), (0, u "I"), (2, u "ID_BYTES"), (7, u "count")] 2

def k2m0 : Method := { name := "<init>", desc := "()V", sig := { parameters := [], returnType := none }, accessFlags := 2, code := none }
def k2c1 : Code := { maxStack := 4, maxLocals := 2, code := prog_68_method_5_code, exceptionTable := #[], attributes := #[] }
def k2m1 : Method := { name := "count", desc := "(J)I", sig := { parameters := [.long], returnType := some .int }, accessFlags := 8, code := some k2c1 }
/-- com/example/upsert/upsert/store/BodyChunks -/
def k2 : Class := { plain "com/example/upsert/upsert/store/BodyChunks" (some 0) with
  accessFlags := 32
  interfaces := #[]
  cf := some (fileOf pool2 7 #[] #[{ accessFlags := 2, nameIndex := 5, descriptorIndex := 6, attributes := #[] }, { accessFlags := 8, nameIndex := 61, descriptorIndex := 48, attributes := #[] }] 32 2 #[] #[{ accessFlags := 24, nameIndex := 49, descriptorIndex := 50, attributes := #[] }, { accessFlags := 24, nameIndex := 53, descriptorIndex := 50, attributes := #[] }])
  fields := #[{ name := "BYTES", type := .int, accessFlags := 24, slot := 0, constantValue := 0 }, { name := "ID_BYTES", type := .int, accessFlags := 24, slot := 1, constantValue := 0 }]
  methods := #[k2m0, k2m1]
  instanceTypes := #[]
  staticTypes := #[.int, .int]
  resolved := Array.replicate 64 none
  statics := none }

def pool3 : Array CpInfo := pool [(1, .class_ 2), (0, u "java/lang/Math"), (1, .class_ 6), (1, u "java/lang/Object"), (0, u "<init>"), (0, u "()V"), (89, .class_ 100), (1, u "java/lang/Math$RandomNumberGeneratorHolder"), (71, u "negativeZeroFloatBits"), (0, u "J"), (2, u "negativeZeroDoubleBits"), (68, u "$assertionsDisabled"), (0, u "Z"), (91, u "twoToTheDoubleScaleDown"), (0, u "D"), (4, u "twoToTheDoubleScaleUp"), (9, u "E"), (3, u "PI"), (2, u "TAU"), (2, u "DEGREES_TO_RADIANS"), (0, u "RADIANS_TO_DEGREES"), (39, u "toIntExact"), (0, u "(J)I")] 53

def k3m0 : Method := { name := "<init>", desc := "()V", sig := { parameters := [], returnType := none }, accessFlags := 2, code := none }
def k3c1 : Code := { maxStack := 4, maxLocals := 2, code := jdk_29_method_43_code, exceptionTable := #[], attributes := #[] }
def k3m1 : Method := { name := "toIntExact", desc := "(J)I", sig := { parameters := [.long], returnType := some .int }, accessFlags := 9, code := some k3c1 }
/-- java/lang/Math -/
def k3 : Class := { plain "java/lang/Math" (some 0) with
  accessFlags := 49
  interfaces := #[]
  cf := some (fileOf pool3 1 #[.nestMembers #[98]] #[{ accessFlags := 2, nameIndex := 7, descriptorIndex := 8, attributes := #[] }, { accessFlags := 9, nameIndex := 405, descriptorIndex := 406, attributes := #[] }] 49 4 #[] #[{ accessFlags := 25, nameIndex := 354, descriptorIndex := 339, attributes := #[] }, { accessFlags := 25, nameIndex := 358, descriptorIndex := 339, attributes := #[] }, { accessFlags := 25, nameIndex := 361, descriptorIndex := 339, attributes := #[] }, { accessFlags := 26, nameIndex := 364, descriptorIndex := 339, attributes := #[] }, { accessFlags := 26, nameIndex := 365, descriptorIndex := 339, attributes := #[] }, { accessFlags := 26, nameIndex := 172, descriptorIndex := 173, attributes := #[] }, { accessFlags := 26, nameIndex := 176, descriptorIndex := 173, attributes := #[] }, { accessFlags := 8, nameIndex := 344, descriptorIndex := 339, attributes := #[] }, { accessFlags := 8, nameIndex := 338, descriptorIndex := 339, attributes := #[] }, { accessFlags := 4120, nameIndex := 245, descriptorIndex := 246, attributes := #[] }])
  fields := #[{ name := "E", type := .double, accessFlags := 25, slot := 0, constantValue := 0 }, { name := "PI", type := .double, accessFlags := 25, slot := 1, constantValue := 0 }, { name := "TAU", type := .double, accessFlags := 25, slot := 2, constantValue := 0 }, { name := "DEGREES_TO_RADIANS", type := .double, accessFlags := 26, slot := 3, constantValue := 0 }, { name := "RADIANS_TO_DEGREES", type := .double, accessFlags := 26, slot := 4, constantValue := 0 }, { name := "negativeZeroFloatBits", type := .long, accessFlags := 26, slot := 5, constantValue := 0 }, { name := "negativeZeroDoubleBits", type := .long, accessFlags := 26, slot := 6, constantValue := 0 }, { name := "twoToTheDoubleScaleUp", type := .double, accessFlags := 8, slot := 7, constantValue := 0 }, { name := "twoToTheDoubleScaleDown", type := .double, accessFlags := 8, slot := 8, constantValue := 0 }, { name := "$assertionsDisabled", type := .boolean, accessFlags := 4120, slot := 9, constantValue := 0 }]
  methods := #[k3m0, k3m1]
  instanceTypes := #[]
  staticTypes := #[.double, .double, .double, .double, .double, .long, .long, .double, .double, .boolean]
  resolved := Array.replicate 460 none
  statics := none }

def pool4 : Array CpInfo := pool [(1, u "java/lang/Cloneable"), (0, .class_ 1), (0, u "java/lang/Object"), (0, .class_ 3)] 3

/-- java/lang/Cloneable -/
def k4 : Class := { plain "java/lang/Cloneable" (some 0) with
  accessFlags := 1537
  interfaces := #[]
  cf := some (fileOf pool4 2 #[] #[] 1537 4 #[] #[])
  fields := #[]
  methods := #[]
  instanceTypes := #[]
  staticTypes := #[]
  resolved := Array.replicate 8 none
  statics := none }

def pool5 : Array CpInfo := pool [(1, u "java/io/Serializable"), (0, .class_ 1), (0, u "java/lang/Object"), (0, .class_ 3)] 3

/-- java/io/Serializable -/
def k5 : Class := { plain "java/io/Serializable" (some 0) with
  accessFlags := 1537
  interfaces := #[]
  cf := some (fileOf pool5 2 #[] #[] 1537 4 #[] #[])
  fields := #[]
  methods := #[]
  instanceTypes := #[]
  staticTypes := #[]
  resolved := Array.replicate 8 none
  statics := none }

/-- the primitive byte -/
def k6 : Class := { plain "byte" none with kind := .primitive 'B', accessFlags := 0x411 }
/-- [B -/
def k7 : Class := { plain "[B" (some 0) with kind := .array 6 .byte, interfaces := #[4, 5], accessFlags := 1041 }

/-- the primitive int -/
def k8 : Class := { plain "int" none with kind := .primitive 'I', accessFlags := 0x411 }
/-- [I -/
def k9 : Class := { plain "[I" (some 0) with kind := .array 8 .int, interfaces := #[4, 5], accessFlags := 1041 }

def heap : Heap := #[]
def classes : Array Class := #[k0, k1, k2, k3, k4, k5, k6, k7, k8, k9]
def interned : List (Array UInt16 × Addr) := []
def slotsUsed : Nat := 0
def theMethod : MethodId := ⟨1, 1⟩
def args0 : Array Value := #[.long 12345678901, .int 3]
def aboutOver (below : List Frame) : State where
  vm := { classes := classes, interned := interned.toArray }
  heap := heap
  slotsUsed := slotsUsed
  threads := #[{ frames := .invoking theMethod args0 :: below }]
def below0 : List Frame := [.native { method := ⟨0, 0⟩, args := #[] }]
def about1 : State := aboutOver below0
def p0 : Program := .bare "" "" ""
def e0 : Env := launch0.env 0 0 0
theorem w_frames : about1.frames = Frame.invoking theMethod args0 :: below0 := rfl
set_option maxRecDepth 65536 in
theorem w_args : argsFit about1.vm theMethod args0 = true := by decide +kernel
set_option maxRecDepth 65536 in
theorem w_heap : heapFits about1 = true := by decide +kernel
set_option maxRecDepth 65536 in
theorem w_runnable : about1.curStatus? = some .runnable := by decide +kernel
set_option maxRecDepth 65536 in
theorem w_alone : about1.alone = true := by decide +kernel
set_option maxRecDepth 65536 in
theorem w_named : about1.methodNamed? x = some theMethod := by decide +kernel
set_option maxRecDepth 65536 in
theorem w_hears : about1.hears theMethod below0 = true := by decide +kernel
set_option maxRecDepth 65536 in
theorem w_ripe : about1.ripe theMethod args0 below0 = true := by decide +kernel
theorem w_running : about1.status = .running := rfl
set_option maxRecDepth 65536 in
theorem w_room : about1.hasRoom e0.platform room_1 = true :=
  launch0.hasRoom_least _ room_1 (by decide +kernel) (by decide +kernel) (by decide +kernel) (by decide +kernel) (by decide +kernel) (by decide +kernel)
theorem allAtoms_all (ts : List Jvm.Cond) (a : Array Jvm.Value) (st : Jvm.State) : (allAtoms ts).before a st = ts.all (fun c => c.before a st) := by
  induction ts with
  | nil => rfl
  | cons c t ih =>
    show (Jvm.Cond.and c (allAtoms t)).before a st = _
    rw [Jvm.Cond.before_and, ih, List.all_cons]
def words1 : List Jvm.Cond := Jvm.Cond.code x code maxLocals ret :: tables_1
/-- a 'code' word, met by the world's own term for the bytes: nothing is compared byte by byte -/
theorem code_word {y : MethodName} {bytes : ByteArray} {mx : Nat} {rt : Option FieldType} {a : Array Value} {s : State} {m : MethodId} {meth : Method} {c : Code} (h1 : s.methodNamed? y = some m) (h2 : s.vm.method? m = some meth) (h3 : meth.code = some c) (h4 : c.code = bytes)
    (h5 : (c.maxLocals == mx && c.exceptionTable.isEmpty && decide (c.maxStack ≤ mostOperands) && decide (meth.sig.returnType = rt) && !meth.locks && decide (parseMethodDescriptor y.desc = some meth.sig)) = true) : (Jvm.Cond.code y bytes mx rt).before a s = true := by
  simp only [Bool.and_eq_true, beq_iff_eq, Bool.not_eq_true', decide_eq_true_eq] at h5
  obtain ⟨⟨⟨⟨⟨g1, g2⟩, g3⟩, g4⟩, g5⟩, g6⟩ := h5
  simp [Cond.before, Cond.holds, Cond.value, h1, h2, h3, h4, g1, g2, g3, g4, g5, g6]
def isCode : Jvm.Cond → Bool
  | .code _ _ _ _ => true
  | _ => false
theorem all_split {L : List Jvm.Cond} {P : Jvm.Cond → Bool} (h1 : L.all (fun c => isCode c || P c) = true) (h2 : ∀ c ∈ L.filter isCode, P c = true) : L.all P = true := by
  refine List.all_eq_true.mpr fun c hc => ?_
  have h := List.all_eq_true.mp h1 c hc
  rcases Bool.eq_false_or_eq_true (isCode c) with hi | hi
  · exact h2 c (List.mem_filter.mpr ⟨hc, hi⟩)
  · simpa [hi] using h
set_option maxRecDepth 65536 in
theorem w_c0 : (Jvm.Cond.code x code maxLocals ret).before args0 about1 = true := code_word (m := ⟨1, 1⟩) (meth := k1m1) (c := k1c1) (by decide +kernel) rfl rfl rfl (by decide +kernel)
set_option maxRecDepth 65536 in
theorem w_c1 : (Jvm.Cond.code ({ cls := "com/example/upsert/upsert/store/BodyChunks", name := "count", desc := "(J)I" } : Jvm.MethodName) prog_68_method_5_code (2 : Nat) (Option.some Jvm.ClassFile.FieldType.int)).before args0 about1 = true := code_word (m := ⟨2, 1⟩) (meth := k2m1) (c := k2c1) (by decide +kernel) rfl rfl rfl (by decide +kernel)
set_option maxRecDepth 65536 in
theorem w_c2 : (Jvm.Cond.code ({ cls := "java/lang/Math", name := "toIntExact", desc := "(J)I" } : Jvm.MethodName) jdk_29_method_43_code (2 : Nat) (Option.some Jvm.ClassFile.FieldType.int)).before args0 about1 = true := code_word (m := ⟨3, 1⟩) (meth := k3m1) (c := k3c1) (by decide +kernel) rfl rfl rfl (by decide +kernel)
def codes1 : List Jvm.Cond := [Jvm.Cond.code x code maxLocals ret, Jvm.Cond.code ({ cls := "com/example/upsert/upsert/store/BodyChunks", name := "count", desc := "(J)I" } : Jvm.MethodName) prog_68_method_5_code (2 : Nat) (Option.some Jvm.ClassFile.FieldType.int), Jvm.Cond.code ({ cls := "java/lang/Math", name := "toIntExact", desc := "(J)I" } : Jvm.MethodName) jdk_29_method_43_code (2 : Nat) (Option.some Jvm.ClassFile.FieldType.int)]
set_option maxRecDepth 65536 in
theorem codes_eq : words1.filter isCode = codes1 := rfl
theorem w_codes : ∀ c ∈ words1.filter isCode, c.before args0 about1 = true := by
  rw [codes_eq]
  intro c hc
  simp only [codes1, List.mem_cons, List.not_mem_nil, or_false] at hc
  rcases hc with rfl | rfl | rfl
  · exact w_c0
  · exact w_c1
  · exact w_c2
set_option maxRecDepth 65536 in
theorem w_t1 : words1.all (fun c => isCode c || c.before args0 about1) = true := by decide +kernel
theorem w_tables : (allAtoms (Jvm.Cond.code x code maxLocals ret :: tables_1)).before args0 about1 = true := by
  rw [allAtoms_all]
  show words1.all (fun c => c.before args0 about1) = true
  refine all_split ?_ w_codes
  rw [w_t1]
set_option maxRecDepth 65536 in
theorem w_case : (Jvm.Cond.and given_1 narrow_1).before args0 about1 = true := by decide +kernel
theorem w_applies : (headSpec (Jvm.Cond.code x code maxLocals ret :: tables_1) room_1).applies x e0.platform about1 = true :=
  (Spec.applies_iff w_frames).mpr ⟨w_running, w_runnable, w_alone, w_named, w_hears, w_ripe, w_room, w_tables⟩
theorem atStart : AtStart classFile x code maxLocals ret World_1 tables_1 room_1 Calls_1 rest_1 Pre_1 launch0 p0 e0 about1 theMethod args0 below0 :=
  ⟨lists_1, trivial, launch0.admits_env _ _ _, launch0.least_env, fairChoices_fair.cas, fairChoices_fair.clock, w_frames, w_args, w_heap, w_applies, trivial, trivial, w_case⟩
end start1
theorem witness_1 : WitnessClaimed_1 := ⟨start1.p0, start1.e0, start1.about1, start1.theMethod, start1.args0, start1.below0, start1.atStart⟩
end Jvm.Pilot.@@N@@
