import JvmDerived
import JvmDerived.Pilot.@@N@@Statement
import JvmDerived.Pilot.@@N@@Code
set_option linter.unusedVariables false
set_option linter.unusedSimpArgs false
namespace Jvm.Pilot.@@N@@
open Jvm Jvm.ClassFile Sem Op Lib Jvm.Free Jvm.Stand Jvm.LawKit Jvm.RoadKit Bundle Jvm.Pilot.@@N@@.Jvm.D
/-! ## Own: a walk forward: from here the run comes to an end that K takes -/
section Own
variable {p : Program} {l : Launch} {e : Env} {R : Room} {s : State} {m : MethodId} {args : Array Value} {below : List Frame} {meth : Method} {c : Code} {T : State} {locs : List Loc} {cells slots : Nat} {K : State → Prop}
def Go (p : Program) (e : Env) (below : List Frame) (K : State → Prop) (S : State) : Prop := ∃ t, Steps p.tables e below S t ∧ K t
theorem go {S S' : State} (h : ∀ t, Steps p.tables e below S' t → Steps p.tables e below S t) (g : Go p e below K S') : Go p e below K S := by
  obtain ⟨t, h1, h2⟩ := g
  exact ⟨t, h t h1, h2⟩
/-- the end of a body: what is returned, the heap and the written places fulfil Q, within so many cells and slots -/
def Dn (below : List Frame) (s : State) (Q : Option Value → Heap → List Loc → Prop) (C N : Nat) (t : State) : Prop := ∃ v L, t.status = .running ∧ Ended t below (.returned v) ∧ Q v t.heap L ∧ FrameEnd s (.returned v) t L C N
variable {Q : Option Value → Heap → List Loc → Prop} {C N : Nat}
theorem own_retI (X : Stand p l e R s m args below meth c T locs cells slots) (hx : p.tables.exec = Jvm.exec) (hlk : meth.locks = false) {pc : Nat} {Ls : Array Slot} {z : Int32} {rest : List Value} (hret : meth.sig.returnType = some .int) (hd : decode c.code pc = .ok (.ireturn, 1))
    (hC : cells ≤ C) (hN : slots ≤ N) (hQ : Q (some (.int z)) T.heap locs) : Go p e below (Dn below s Q C N) (T.setTop (mkF m pc Ls (.int z :: rest))) := by
  obtain ⟨fs, hr, hrun, hended, hW, hsame⟩ := X.leave (v := some (.int z)) (fun h => by rw [hret] at h; cases h) hlk
  refine ⟨_, ?_, _, _, hrun, hended, hQ, ⟨_, rfl⟩, hW, hsame.mono hC hN⟩
  have hm' : T.vm.method? m = some meth := X.method'
  have hn : narrow .int (.int z) = .int z := rfl
  show Steps p.tables e below (T.setTop { method := m, pc := pc, locals := Ls, stack := _ :: rest, locked := none }) _
  jvm_step X.here [X.here.top, hx, hd, hm', hret, hn]
  first | (intro acts; rw [hr _ acts rfl rfl rfl]) | rw [hr _ _ rfl rfl rfl]
  exact Steps.refl _
theorem own_retZ (X : Stand p l e R s m args below meth c T locs cells slots) (hx : p.tables.exec = Jvm.exec) (hlk : meth.locks = false) {pc : Nat} {Ls : Array Slot} {z z' : Int32} {rest : List Value} (hret : meth.sig.returnType = some .boolean) (hd : decode c.code pc = .ok (.ireturn, 1))
    (hC : cells ≤ C) (hN : slots ≤ N) (hz : nar .boolean z = z') (hQ : Q (some (.int z')) T.heap locs) : Go p e below (Dn below s Q C N) (T.setTop (mkF m pc Ls (.int z :: rest))) := by
  subst hz
  obtain ⟨fs, hr, hrun, hended, hW, hsame⟩ := X.leave (v := some (.int (nar .boolean z))) (fun h => by rw [hret] at h; cases h) hlk
  exact ⟨_, retN X hx (t := .boolean) hret (by simp) hd hr, _, _, hrun, hended, hQ, ⟨_, rfl⟩, hW, hsame.mono hC hN⟩
theorem own_retJ (X : Stand p l e R s m args below meth c T locs cells slots) (hx : p.tables.exec = Jvm.exec) (hlk : meth.locks = false) {pc : Nat} {Ls : Array Slot} {z : Int64} (hret : meth.sig.returnType = some .long) (hd : decode c.code pc = .ok (.lreturn, 1))
    (hC : cells ≤ C) (hN : slots ≤ N) (hQ : Q (some (.long z)) T.heap locs) : Go p e below (Dn below s Q C N) (T.setTop (mkF m pc Ls [.long z])) := by
  obtain ⟨fs, hr, hrun, hended, hW, hsame⟩ := X.leave (v := some (.long z)) (fun h => by rw [hret] at h; cases h) hlk
  exact ⟨_, X.lreturnOut hx hret hd hr, _, _, hrun, hended, hQ, ⟨_, rfl⟩, hW, hsame.mono hC hN⟩
theorem own_retA (X : Stand p l e R s m args below meth c T locs cells slots) (hx : p.tables.exec = Jvm.exec) (hlk : meth.locks = false) {pc : Nat} {Ls : Array Slot} {w : Value} {t : FieldType} (hw : w.isRef = true) (hret : meth.sig.returnType = some t) (ht : t.isReference = true) (hd : decode c.code pc = .ok (.areturn, 1))
    (hC : cells ≤ C) (hN : slots ≤ N) (hQ : Q (some w) T.heap locs) : Go p e below (Dn below s Q C N) (T.setTop (mkF m pc Ls [w])) := by
  obtain ⟨fs, hr, hrun, hended, hW, hsame⟩ := X.leave (v := some w) (fun h => by rw [hret] at h; cases h) hlk
  exact ⟨_, X.areturnOut hx hw hret ht hd hr, _, _, hrun, hended, hQ, ⟨_, rfl⟩, hW, hsame.mono hC hN⟩
theorem own_retV (X : Stand p l e R s m args below meth c T locs cells slots) (hx : p.tables.exec = Jvm.exec) (hlk : meth.locks = false) {pc : Nat} {Ls : Array Slot} (hret : meth.sig.returnType = none) (hd : decode c.code pc = .ok (.return_, 1))
    (hC : cells ≤ C) (hN : slots ≤ N) (hQ : Q none T.heap locs) : Go p e below (Dn below s Q C N) (T.setTop (mkF m pc Ls [])) := by
  obtain ⟨fs, hr, hrun, hended, hW, hsame⟩ := X.leave (v := none) (fun _ => rfl) hlk
  exact ⟨_, X.returnOut hx hret hd hr, _, _, hrun, hended, hQ, ⟨_, rfl⟩, hW, hsame.mono hC hN⟩
theorem own_lrem {g : JFrame} {target : State} (X : Stand p l e R s m args below meth c T locs cells slots) (hx : p.tables.exec = Jvm.exec) (hg : g.method = m) {x y : Int64} {rest : List Value} (hd : decode c.code g.pc = .ok (.lrem, 1)) (hs : g.stack = .long y :: .long x :: rest) (hy : y ≠ 0)
    (hr : Steps p.tables e below (T.setTop { g with pc := g.pc + 1, stack := .long (x % y) :: rest }) target) : Steps p.tables e below (T.setTop g) target := by
  have q : x - x / y * y = x % y := lrem_mod x y
  exact XS.lrem X.here hx hg hd hs hy (by rw [q]; exact hr)
/-- what a body's walk is handed -/
theorem own_met {x : MethodName} {code : ByteArray} {maxL : Nat} {ret : Option FieldType} {ws : List Jvm.Cond} {as' : Array Value} {L0 : Array Slot} {Z : State} {h0 : Heap} (hpl : plainFor x = true) (hef : ∀ m, entryFrame m as' maxL = mkF m 0 L0 [])
    (body : ∀ (p : Program) (e : Env) (s : State) (m : MethodId) (below : List Frame) (meth : Method) (c : Code) (T : State), p.tables.exec = Jvm.exec → c.code = code → c.maxLocals = maxL → s.vm.findClass x.cls = some m.cls → meth.name = x.name → meth.sig.returnType = ret → meth.locks = false → Z.Warmed39 s.vm →
      Stand p l e R s m as' below meth c T [] 0 0 → T.heap = h0 → Go p e below (Dn below s Q R.cells R.slots) (T.setTop (mkF m 0 L0 []))) :
    MetFree l x (head1 (Jvm.Cond.code x code maxL ret :: ws) R) (fun a U => a = as' ∧ Z.Warmed39 U.vm ∧ U.heap = h0) (fun _ _ _ _ _ => True) (fun _ U o U' => ∃ v L, o = .returned v ∧ Q v U'.heap L ∧ FrameEnd U o U' L R.cells R.slots) := by
  refine MetFree.of_bodySF hpl hisR ?_
  intro p e s m args below meth c s₁ Bd hml0 hP hK
  obtain ⟨rfl, hZ, hh⟩ := hP
  obtain ⟨t, h1, v, L, h2, h3, h4, h5⟩ := body p e s m below meth c s₁ Bd.exec Bd.bytes hml0 (findClass_of_methodNamed Bd.named) (name_of_methodNamed Bd.named Bd.method).1 Bd.returns (BodyLoose.notSynchronized Bd) hZ (Stand.of_body Bd) (by rw [← hh, Bd.state]; rfl)
  exact ⟨t, .returned v, castTop (hef m) h1, h2, h3, v, L, rfl, h4, h5⟩
section Calls
variable {Z : State} {a0 : Array Value} {own : String} {idx : Nat} {y : MethodName} {bytes : ByteArray} {maxL W : Nat} {ret : Option FieldType} {rm : Room} {as' : Array Value} {h : Heap}
/-- a static call by the callee's contract -/
theorem own_callS (X : Stand p l e R s m args below meth c T locs cells slots) (hx : p.tables.exec = Jvm.exec) (hZ : Z.Warmed39 s.vm) (hown : s.vm.findClass own = some m.cls) (eT : T.heap = h)
    (w1 : (Jvm.Cond.methodLink own idx y).before a0 Z = true) (w2 : (Jvm.Cond.static y).before a0 Z = true) (w3 : (Jvm.Cond.initialized y.cls).before a0 Z = true) (w4 : (Jvm.Cond.code y bytes maxL ret).before a0 Z = true)
    (hM : MetFree l y (head1 [Jvm.Cond.code y bytes maxL ret] rm) (fun a U => a = as' ∧ Z.Warmed39 U.vm ∧ U.heap = h) (fun _ _ _ _ _ => True) (fun _ U o U' => ∃ v L, o = .returned v ∧ Q v U'.heap L ∧ FrameEnd U o U' L rm.cells rm.slots))
    (hy : y.cls ≠ "java/lang/invoke/MethodHandle" ∧ y.cls ≠ "java/lang/invoke/VarHandle") (hf : rm.frames + 1 ≤ R.frames) (hl : W + (maxL + 11) + rm.locals ≤ R.locals) (hc : cells + rm.cells ≤ R.cells) (hs : slots + rm.slots ≤ R.slots)
    {g : JFrame} (hg : g.method = m) (hsize : g.locals.size = c.maxLocals) {argsL rest : List Value} (hst : g.stack = argsL.reverse ++ rest) (has : argsL.toArray = as') (hlen : ∀ sig, parseMethodDescriptor y.desc = some sig → argsL.length = sig.parameters.length)
    (hW : 2 * g.monitorRoom + (rest.map fun v => v.category).sum ≤ W) (hd : decode c.code g.pc = .ok (.invokestatic idx, 3))
    (k : ∀ v T' L, Stand p l e R s m args below meth c T' (locs ++ L) (cells + rm.cells) (slots + rm.slots) → Q v T'.heap L → Go p e below K (T'.setTop { g with pc := g.pc + 3, stack := v.toList ++ rest })) : Go p e below K (T.setTop g) := by
  obtain ⟨v, _, ⟨T', L', k', n'⟩, -, X', ⟨Lc, hQ, l1, y1, z1⟩, st⟩ := Jvm.LawKit.callS X hx (y := y) hown (mvT hZ w1) (mvT hZ w2) (mvT hZ w3) (mvT hZ w4) hy (backOf (W := W) hM hZ w4 w3 hf hl) hg hsize hlen hst hW hd (fun _ _ => ⟨has, eT, hc, hs⟩)
  dsimp only [Pt.U, Pt.locs, Pt.cells, Pt.slots] at X' l1 y1 z1 st hQ
  subst l1 y1 z1
  exact go st (k _ _ _ X' hQ)
/-- a constructor by its contract -/
theorem own_callC (X : Stand p l e R s m args below meth c T locs cells slots) (hx : p.tables.exec = Jvm.exec) (hZ : Z.Warmed39 s.vm) (hown : s.vm.findClass own = some m.cls) (eT : T.heap = h)
    (w1 : (Jvm.Cond.methodLink own idx y).before a0 Z = true) (w2 : (Jvm.Cond.instanceMethod y).before a0 Z = true) (w3 : (Jvm.Cond.initialized y.cls).before a0 Z = true) (w4 : (Jvm.Cond.code y bytes maxL none).before a0 Z = true)
    (hM : MetFree l y (head1 [Jvm.Cond.code y bytes maxL none] rm) (fun a U => a = as' ∧ Z.Warmed39 U.vm ∧ U.heap = h) (fun _ _ _ _ _ => True) (fun _ U o U' => ∃ v L, o = .returned v ∧ Q v U'.heap L ∧ FrameEnd U o U' L rm.cells rm.slots))
    (hyn : y.name = "<init>") (hy : y.cls ≠ "java/lang/invoke/MethodHandle" ∧ y.cls ≠ "java/lang/invoke/VarHandle") (hf : rm.frames + 1 ≤ R.frames) (hl : W + (maxL + 11) + rm.locals ≤ R.locals) (hc : cells + rm.cells ≤ R.cells) (hs : slots + rm.slots ≤ R.slots)
    {g : JFrame} (hg : g.method = m) (hsize : g.locals.size = c.maxLocals) {a : Addr} {argsL rest : List Value} (hst : g.stack = argsL.reverse ++ .ref a :: rest) (has : (.ref a :: argsL).toArray = as') (hlen : ∀ sig, parseMethodDescriptor y.desc = some sig → argsL.length = sig.parameters.length)
    (hW : 2 * g.monitorRoom + (rest.map fun v => v.category).sum ≤ W) (hd : decode c.code g.pc = .ok (.invokespecial idx, 3))
    (k : ∀ v T' L, Stand p l e R s m args below meth c T' (locs ++ L) (cells + rm.cells) (slots + rm.slots) → Q v T'.heap L → Go p e below K (T'.setTop { g with pc := g.pc + 3, stack := v.toList ++ rest })) : Go p e below K (T.setTop g) := by
  obtain ⟨v, _, ⟨T', L', k', n'⟩, -, X', ⟨Lc, hQ, l1, y1, z1⟩, st⟩ := X.specialBack hx (y := y) hyn hown (mvT hZ w1) (mvT hZ w2) (mvT hZ w4) hy (backOf (W := W) hM hZ w4 w3 hf hl) hg hsize (Steps.refl _) (a := a) hlen hst hW hd (fun _ _ => ⟨has, eT, hc, hs⟩)
  dsimp only [Pt.U, Pt.locs, Pt.cells, Pt.slots] at X' l1 y1 z1 st hQ
  subst l1 y1 z1
  exact go (fun t q => st.trans q) (k _ _ _ X' hQ)
/-- a virtual call of a method that the receiver's class declares itself -/
theorem own_callV (X : Stand p l e R s m args below meth c T locs cells slots) (hx : p.tables.exec = Jvm.exec) (hZ : Z.Warmed39 s.vm) (hown : s.vm.findClass own = some m.cls) (eT : T.heap = h)
    (w1 : (Jvm.Cond.methodLink own idx y).before a0 Z = true) (w2 : (Jvm.Cond.declares y).before a0 Z = true) (w5 : (Jvm.Cond.instanceMethod y).before a0 Z = true) (w6 : (Jvm.Cond.selects y.cls y y).before a0 Z = true) (w3 : (Jvm.Cond.initialized y.cls).before a0 Z = true) (w4 : (Jvm.Cond.code y bytes maxL ret).before a0 Z = true)
    (hM : MetFree l y (head1 [Jvm.Cond.code y bytes maxL ret] rm) (fun a U => a = as' ∧ Z.Warmed39 U.vm ∧ U.heap = h) (fun _ _ _ _ _ => True) (fun _ U o U' => ∃ v L, o = .returned v ∧ Q v U'.heap L ∧ FrameEnd U o U' L rm.cells rm.slots))
    (hy : y.cls ≠ "java/lang/invoke/MethodHandle" ∧ y.cls ≠ "java/lang/invoke/VarHandle") (hf : rm.frames + 1 ≤ R.frames) (hl : W + (maxL + 11) + rm.locals ≤ R.locals) (hc : cells + rm.cells ≤ R.cells) (hs : slots + rm.slots ≤ R.slots)
    {a : Addr} (E : Exa Z h a y.cls) {g : JFrame} (hg : g.method = m) (hsize : g.locals.size = c.maxLocals) {argsL rest : List Value} (hst : g.stack = argsL.reverse ++ .ref a :: rest) (has : (.ref a :: argsL).toArray = as') (hlen : ∀ sig, parseMethodDescriptor y.desc = some sig → argsL.length = sig.parameters.length)
    (hW : 2 * g.monitorRoom + (rest.map fun v => v.category).sum ≤ W) (hd : decode c.code g.pc = .ok (.invokevirtual idx, 3))
    (k : ∀ v T' L, Stand p l e R s m args below meth c T' (locs ++ L) (cells + rm.cells) (slots + rm.slots) → Q v T'.heap L → Go p e below K (T'.setTop { g with pc := g.pc + 3, stack := v.toList ++ rest })) : Go p e below K (T.setTop g) := by
  obtain ⟨cq, kq, qa, qb, qc⟩ := isOf hZ eT E
  obtain ⟨v, _, ⟨T', L', k', n'⟩, -, X', ⟨Lc, hQ, l1, y1, z1⟩, st⟩ := X.virtualBack hx (y := y) (z := y) hown (mvT hZ w1) (mvT hZ w2) (notFace_of_selects (args := #[]) (mvT hZ w6)) (mvT hZ w6) (mvT hZ w5) hy (backOf (W := W) hM hZ w4 w3 hf hl) qa qc hg hsize (Steps.refl _) hlen hst hW hd (fun _ _ => ⟨has, eT, hc, hs⟩)
  dsimp only [Pt.U, Pt.locs, Pt.cells, Pt.slots] at X' l1 y1 z1 st hQ
  subst l1 y1 z1
  exact go (fun t q => st.trans q) (k _ _ _ X' hQ)
end Calls
end Own
/-- a body that writes nothing: it returns r, the heap is what it was -/
def QP (r : Option Value) (h0 : Heap) (n0 : Nat) (v : Option Value) (h : Heap) (L : List Loc) : Prop := v = r ∧ Fr n0 L ∧ h = h0

def f4 (p1 : Int32) (p2 : Int32) : Int64 := (((2 : Int64) * ((p1).toInt64)) + (if p2 = (0 : Int32) then (0 : Int64) else (1 : Int64)))
theorem d4_0 : decode method_2_code 0 = .ok (.ldc2_w 7, 3) := by decide +kernel
theorem d4_3 : decode method_2_code 3 = .ok (.iload_n 0, 1) := by decide +kernel
theorem d4_4 : decode method_2_code 4 = .ok (.i2l, 1) := by decide +kernel
theorem d4_5 : decode method_2_code 5 = .ok (.lmul, 1) := by decide +kernel
theorem d4_6 : decode method_2_code 6 = .ok (.iload_n 1, 1) := by decide +kernel
theorem d4_7 : decode method_2_code 7 = .ok (.ifCond .eq 7, 3) := by decide +kernel
theorem d4_10 : decode method_2_code 10 = .ok (.lconst 1, 1) := by decide +kernel
theorem d4_11 : decode method_2_code 11 = .ok (.goto 4, 3) := by decide +kernel
theorem d4_14 : decode method_2_code 14 = .ok (.lconst 0, 1) := by decide +kernel
theorem d4_15 : decode method_2_code 15 = .ok (.ladd, 1) := by decide +kernel
theorem d4_16 : decode method_2_code 16 = .ok (.lreturn, 1) := by decide +kernel
theorem pn_4 : plainName "quorate/tcp/StandingAfterPinLaw" = true := by first | (simp [plainName, overriddenIn]; done) | decide +kernel
theorem ef_4 (m : MethodId) (x0 : Int32) (x1 : Int32) : entryFrame m #[(.int x0), (.int x1)] 2 = mkF m 0 #[.val (.int x0), .val (.int x1)] [] := by first | (simp [entryFrame, mkF, argsToLocals, Value.category]; done) | rfl
set_option maxRecDepth 65536 in
set_option maxHeartbeats 40000000 in
theorem rm4 (l : Launch) (Z : State) (a0 : Array Value) (hw : ∀ d ∈ tables_1, d.before a0 Z = true) (ws : List Jvm.Cond) (p1 : Int32) (p2 : Int32) (h0 : Heap) (n0 : Nat) :
    MetFree l (⟨"quorate/tcp/StandingAfterPinLaw", "key", "(IZ)J"⟩ : MethodName) (head1 (Jvm.Cond.code (⟨"quorate/tcp/StandingAfterPinLaw", "key", "(IZ)J"⟩ : MethodName) method_2_code 2 (some .long) :: ws) ({ frames := 0, cells := 0, slots := 0, locals := 0 } : Room)) (fun a U => a = #[(.int p1), (.int p2)] ∧ Z.Warmed39 U.vm ∧ U.heap = h0) (fun _ _ _ _ _ => True) (fun _ U o U' => ∃ v L, o = .returned v ∧ (QP (some (.long (f4 p1 p2))) h0 n0) v U'.heap L ∧ FrameEnd U o U' L ({ frames := 0, cells := 0, slots := 0, locals := 0 } : Room).cells ({ frames := 0, cells := 0, slots := 0, locals := 0 } : Room).slots) := by
  refine own_met (plainFor_of_name pn_4) (fun m => ef_4 m p1 p2) ?_
  intro p e s m below meth c T0 hx hby hml hown hnm hret hlk hZ X0 e0
  have hown : s.vm.findClass "quorate/tcp/StandingAfterPinLaw" = some m.cls := hown
  have hnm : meth.name = "key" := hnm
  have hret : meth.sig.returnType = some .long := hret
  have N0 := Fr.nil n0
  show Go p e below _ (T0.setTop (mkF m 0 #[.val (.int p1), .val (.int p2)] []))
  refine go (X0.ldc2Long hx hown (mvT hZ (hw _ (List.mem_of_getElem? (i := 26) rfl))) (g := (mkF m 0 #[.val (.int p1), .val (.int p2)] [])) rfl (hb hby d4_0)) ?_
  show Go p e below _ (T0.setTop (mkF m 3 #[.val (.int p1), .val (.int p2)] [(.long (2 : Int64))]))
  refine go (fun _ q => XS.iloadN X0.here hx rfl (hb hby d4_3) rfl q) ?_
  show Go p e below _ (T0.setTop (mkF m 4 #[.val (.int p1), .val (.int p2)] [(.int p1), (.long (2 : Int64))]))
  refine go (fun _ q => XS.i2l X0.here hx rfl (hb hby d4_4) rfl q) ?_
  show Go p e below _ (T0.setTop (mkF m 5 #[.val (.int p1), .val (.int p2)] [(.long ((p1).toInt64)), (.long (2 : Int64))]))
  refine go (fun _ q => XS.lmul X0.here hx rfl (hb hby d4_5) rfl q) ?_
  show Go p e below _ (T0.setTop (mkF m 6 #[.val (.int p1), .val (.int p2)] [(.long ((2 : Int64) * ((p1).toInt64)))]))
  refine go (fun _ q => XS.iloadN X0.here hx rfl (hb hby d4_6) rfl q) ?_
  show Go p e below _ (T0.setTop (mkF m 7 #[.val (.int p1), .val (.int p2)] [(.int p2), (.long ((2 : Int64) * ((p1).toInt64)))]))
  suffices hj1 : ∀ (z3 : Int64), z3 = (if p2 = (0 : Int32) then (0 : Int64) else (1 : Int64)) → Go p e below (Dn below s ((QP (some (.long (f4 p1 p2))) h0 n0)) ({ frames := 0, cells := 0, slots := 0, locals := 0 } : Room).cells ({ frames := 0, cells := 0, slots := 0, locals := 0 } : Room).slots) (T0.setTop (mkF m 15 #[.val (.int p1), .val (.int p2)] [(.long z3), (.long ((2 : Int64) * ((p1).toInt64)))])) by
    by_cases hc2 : p2 = (0 : Int32)
    · refine go (fun _ q => XS.ifYes X0.here hx rfl (pc0 := 7) (pc' := 14) rfl (hb hby d4_7) rfl ((if0 _ _).trans (teq hc2).1) (by decide) (by decide) q) ?_
      show Go p e below _ (T0.setTop (mkF m 14 #[.val (.int p1), .val (.int p2)] [(.long ((2 : Int64) * ((p1).toInt64)))]))
      refine go (fun _ q => XS.lconst X0.here hx rfl (hb hby d4_14) q) ?_
      show Go p e below _ (T0.setTop (mkF m 15 #[.val (.int p1), .val (.int p2)] [(.long (0 : Int64)), (.long ((2 : Int64) * ((p1).toInt64)))]))
      exact hj1 _ (by rw [if_pos hc2])
    · refine go (fun _ q => XS.ifNo X0.here hx rfl (hb hby d4_7) rfl ((if0 _ _).trans (feq hc2).1) q) ?_
      show Go p e below _ (T0.setTop (mkF m 10 #[.val (.int p1), .val (.int p2)] [(.long ((2 : Int64) * ((p1).toInt64)))]))
      refine go (fun _ q => XS.lconst X0.here hx rfl (hb hby d4_10) q) ?_
      show Go p e below _ (T0.setTop (mkF m 11 #[.val (.int p1), .val (.int p2)] [(.long (1 : Int64)), (.long ((2 : Int64) * ((p1).toInt64)))]))
      refine go (fun _ q => XS.goto X0.here hx rfl (pc0 := 11) (pc' := 15) rfl (hb hby d4_11) (by decide) (by decide) q) ?_
      show Go p e below _ (T0.setTop (mkF m 15 #[.val (.int p1), .val (.int p2)] [(.long (1 : Int64)), (.long ((2 : Int64) * ((p1).toInt64)))]))
      exact hj1 _ (by rw [if_neg hc2])
  intro z3 hz3
  show Go p e below _ (T0.setTop (mkF m 15 #[.val (.int p1), .val (.int p2)] [(.long z3), (.long ((2 : Int64) * ((p1).toInt64)))]))
  refine go (fun _ q => XS.ladd X0.here hx rfl (hb hby d4_15) rfl q) ?_
  show Go p e below _ (T0.setTop (mkF m 16 #[.val (.int p1), .val (.int p2)] [(.long (((2 : Int64) * ((p1).toInt64)) + z3))]))
  exact own_retJ X0 hx hlk hret (hb hby d4_16) (by decide) (by decide) ⟨congrArg (fun z => some (Value.long z)) (by rw [f4, hz3]), N0, e0⟩
theorem d2_0 : decode jdk_30_method_1_code 0 = .ok (.aload_n 0, 1) := by decide +kernel
theorem d2_1 : decode jdk_30_method_1_code 1 = .ok (.invokespecial 1, 3) := by decide +kernel
theorem d2_4 : decode jdk_30_method_1_code 4 = .ok (.return_, 1) := by decide +kernel
theorem pn_2 : plainName "java/lang/Record" = true := by first | (simp [plainName, overriddenIn]; done) | decide +kernel
theorem ef_2 (m : MethodId) (x0 : Addr) : entryFrame m #[(.ref x0)] 1 = mkF m 0 #[.val (.ref x0)] [] := by first | (simp [entryFrame, mkF, argsToLocals, Value.category]; done) | rfl
set_option maxRecDepth 65536 in
set_option maxHeartbeats 40000000 in
theorem rm2 (l : Launch) (Z : State) (a0 : Array Value) (hw : ∀ d ∈ tables_1, d.before a0 Z = true) (ws : List Jvm.Cond) (a1 : Addr) (h0 : Heap) (n0 : Nat) :
    MetFree l (⟨"java/lang/Record", "<init>", "()V"⟩ : MethodName) (head1 (Jvm.Cond.code (⟨"java/lang/Record", "<init>", "()V"⟩ : MethodName) jdk_30_method_1_code 1 none :: ws) ({ frames := 1, cells := 0, slots := 0, locals := 12 } : Room)) (fun a U => a = #[(.ref a1)] ∧ Z.Warmed39 U.vm ∧ U.heap = h0) (fun _ _ _ _ _ => True) (fun _ U o U' => ∃ v L, o = .returned v ∧ (QP none h0 n0) v U'.heap L ∧ FrameEnd U o U' L ({ frames := 1, cells := 0, slots := 0, locals := 12 } : Room).cells ({ frames := 1, cells := 0, slots := 0, locals := 12 } : Room).slots) := by
  refine own_met (plainFor_of_name pn_2) (fun m => ef_2 m a1) ?_
  intro p e s m below meth c T0 hx hby hml hown hnm hret hlk hZ X0 e0
  have hown : s.vm.findClass "java/lang/Record" = some m.cls := hown
  have hnm : meth.name = "<init>" := hnm
  have hret : meth.sig.returnType = none := hret
  have N0 := Fr.nil n0
  show Go p e below _ (T0.setTop (mkF m 0 #[.val (.ref a1)] []))
  refine go (fun _ q => XS.aloadN X0.here hx rfl (hb hby d2_0) rfl rfl q) ?_
  show Go p e below _ (T0.setTop (mkF m 1 #[.val (.ref a1)] [(.ref a1)]))
  obtain ⟨T1, X1, e1, st1⟩ := initO X0 hx hZ hown (hw _ (List.mem_of_getElem? (i := 11) rfl)) (hw _ (List.mem_of_getElem? (i := 12) rfl)) (hw _ (List.mem_of_getElem? (i := 13) rfl)) e0 (g := (mkF m 1 #[.val (.ref a1)] [(.ref a1)])) rfl (by rw [hml]; rfl) rfl (hb hby d2_1) (by decide) (W := 0) (by show 2 * 0 + _ ≤ _; exact Nat.le_of_eq rfl) (by decide)
  refine go st1 ?_
  show Go p e below _ (T1.setTop (mkF m 4 #[.val (.ref a1)] []))
  exact own_retV X1 hx hlk hret (hb hby d2_4) (by decide) (by decide) ⟨rfl, N0, e1⟩
def Q1 (Z : State) (a1 : Addr) (p2 : Int32) (p3 : Int32) (p4 : Int32) (q5 : Int64) (h0 : Heap) (n0 : Nat) (v : Option Value) (h : Heap) (L : List Loc) : Prop := v = none ∧ Fr n0 L ∧ Keep h0 h [a1] ∧ Exa Z h a1 "quorate/tcp/Wire$Standing" ∧ Fld Z h a1 "quorate/tcp/Wire$Standing" "node" "I" (.int p2) ∧ Fld Z h a1 "quorate/tcp/Wire$Standing" "replacements" "I" (.int p3) ∧ Fld Z h a1 "quorate/tcp/Wire$Standing" "lost" "Z" (.int (nar .boolean p4)) ∧ Fld Z h a1 "quorate/tcp/Wire$Standing" "incarnation" "J" (.long q5)
theorem d1_0 : decode prog_271_method_1_code 0 = .ok (.aload_n 0, 1) := by decide +kernel
theorem d1_1 : decode prog_271_method_1_code 1 = .ok (.invokespecial 1, 3) := by decide +kernel
theorem d1_4 : decode prog_271_method_1_code 4 = .ok (.aload_n 0, 1) := by decide +kernel
theorem d1_5 : decode prog_271_method_1_code 5 = .ok (.iload_n 1, 1) := by decide +kernel
theorem d1_6 : decode prog_271_method_1_code 6 = .ok (.putfield 7, 3) := by decide +kernel
theorem d1_9 : decode prog_271_method_1_code 9 = .ok (.aload_n 0, 1) := by decide +kernel
theorem d1_10 : decode prog_271_method_1_code 10 = .ok (.iload_n 2, 1) := by decide +kernel
theorem d1_11 : decode prog_271_method_1_code 11 = .ok (.putfield 13, 3) := by decide +kernel
theorem d1_14 : decode prog_271_method_1_code 14 = .ok (.aload_n 0, 1) := by decide +kernel
theorem d1_15 : decode prog_271_method_1_code 15 = .ok (.iload_n 3, 1) := by decide +kernel
theorem d1_16 : decode prog_271_method_1_code 16 = .ok (.putfield 16, 3) := by decide +kernel
theorem d1_19 : decode prog_271_method_1_code 19 = .ok (.aload_n 0, 1) := by decide +kernel
theorem d1_20 : decode prog_271_method_1_code 20 = .ok (.lload 4, 2) := by decide +kernel
theorem d1_22 : decode prog_271_method_1_code 22 = .ok (.putfield 20, 3) := by decide +kernel
theorem d1_25 : decode prog_271_method_1_code 25 = .ok (.return_, 1) := by decide +kernel
theorem pd_1_0 : parseMethodDescriptor "()V" = some ⟨[], none⟩ := by decide +kernel
theorem pn_1 : plainName "quorate/tcp/Wire$Standing" = true := by first | (simp [plainName, overriddenIn]; done) | decide +kernel
theorem ef_1 (m : MethodId) (x0 : Addr) (x1 : Int32) (x2 : Int32) (x3 : Int32) (x4 : Int64) : entryFrame m #[(.ref x0), (.int x1), (.int x2), (.int x3), (.long x4)] 6 = mkF m 0 #[.val (.ref x0), .val (.int x1), .val (.int x2), .val (.int x3), .val (.long x4), .second] [] := by first | (simp [entryFrame, mkF, argsToLocals, Value.category]; done) | rfl
set_option maxRecDepth 65536 in
set_option maxHeartbeats 40000000 in
theorem rm1 (l : Launch) (Z : State) (a0 : Array Value) (hw : ∀ d ∈ tables_1, d.before a0 Z = true) (ws : List Jvm.Cond) (a1 : Addr) (p2 : Int32) (p3 : Int32) (p4 : Int32) (q5 : Int64) (h0 : Heap) (n0 : Nat) {u_node u_replacements u_lost u_incarnation : Value} (Z0 : n0 ≤ h0.size) (g_a1 : n0 ≤ a1) (E_a1 : Exa Z h0 a1 "quorate/tcp/Wire$Standing") (F_node_a1 : Fld Z h0 a1 "quorate/tcp/Wire$Standing" "node" "I" u_node) (F_replacements_a1 : Fld Z h0 a1 "quorate/tcp/Wire$Standing" "replacements" "I" u_replacements) (F_lost_a1 : Fld Z h0 a1 "quorate/tcp/Wire$Standing" "lost" "Z" u_lost) (F_incarnation_a1 : Fld Z h0 a1 "quorate/tcp/Wire$Standing" "incarnation" "J" u_incarnation) :
    MetFree l (⟨"quorate/tcp/Wire$Standing", "<init>", "(IIZJ)V"⟩ : MethodName) (head1 (Jvm.Cond.code (⟨"quorate/tcp/Wire$Standing", "<init>", "(IIZJ)V"⟩ : MethodName) prog_271_method_1_code 6 none :: ws) ({ frames := 2, cells := 0, slots := 0, locals := 24 } : Room)) (fun a U => a = #[(.ref a1), (.int p2), (.int p3), (.int p4), (.long q5)] ∧ Z.Warmed39 U.vm ∧ U.heap = h0) (fun _ _ _ _ _ => True) (fun _ U o U' => ∃ v L, o = .returned v ∧ (Q1 Z a1 p2 p3 p4 q5 h0 n0) v U'.heap L ∧ FrameEnd U o U' L ({ frames := 2, cells := 0, slots := 0, locals := 24 } : Room).cells ({ frames := 2, cells := 0, slots := 0, locals := 24 } : Room).slots) := by
  refine own_met (plainFor_of_name pn_1) (fun m => ef_1 m a1 p2 p3 p4 q5) ?_
  intro p e s m below meth c T0 hx hby hml hown hnm hret hlk hZ X0 e0
  have hown : s.vm.findClass "quorate/tcp/Wire$Standing" = some m.cls := hown
  have hnm : meth.name = "<init>" := hnm
  have hret : meth.sig.returnType = none := hret
  have N0 := Fr.nil n0
  show Go p e below _ (T0.setTop (mkF m 0 #[.val (.ref a1), .val (.int p2), .val (.int p3), .val (.int p4), .val (.long q5), .second] []))
  refine go (fun _ q => XS.aloadN X0.here hx rfl (hb hby d1_0) rfl rfl q) ?_
  show Go p e below _ (T0.setTop (mkF m 1 #[.val (.ref a1), .val (.int p2), .val (.int p3), .val (.int p4), .val (.long q5), .second] [(.ref a1)]))
  refine own_callC X0 hx hZ hown e0 (hw _ (List.mem_of_getElem? (i := 6) rfl)) (hw _ (List.mem_of_getElem? (i := 7) rfl)) (hw _ (List.mem_of_getElem? (i := 9) rfl)) (hw _ (List.mem_of_getElem? (i := 10) rfl)) (rm2 l Z a0 hw [] a1 h0 n0) rfl (by decide) (by decide) (W := 0) (by decide) (by decide) (by decide) (a := a1) (g := (mkF m 1 #[.val (.ref a1), .val (.int p2), .val (.int p3), .val (.int p4), .val (.long q5), .second] [(.ref a1)])) rfl (by rw [hml]; rfl) (argsL := []) (rest := []) rfl rfl (lenOf pd_1_0 rfl) (by show 2 * 0 + _ ≤ _; exact Nat.le_of_eq rfl) (hb hby d1_1) ?_
  rintro _ T1 L1 X1 ⟨rfl, N1q, e1⟩
  have N1 := Fr.app N0 N1q
  show Go p e below _ (T1.setTop (mkF m 4 #[.val (.ref a1), .val (.int p2), .val (.int p3), .val (.int p4), .val (.long q5), .second] []))
  refine go (fun _ q => XS.aloadN X1.here hx rfl (hb hby d1_4) rfl rfl q) ?_
  show Go p e below _ (T1.setTop (mkF m 5 #[.val (.ref a1), .val (.int p2), .val (.int p3), .val (.int p4), .val (.long q5), .second] [(.ref a1)]))
  refine go (fun _ q => XS.iloadN X1.here hx rfl (hb hby d1_5) rfl q) ?_
  show Go p e below _ (T1.setTop (mkF m 6 #[.val (.ref a1), .val (.int p2), .val (.int p3), .val (.int p4), .val (.long q5), .second] [(.int p2), (.ref a1)]))
  obtain ⟨T2, h2, X2, e2, W2, st2⟩ := putF X1 hx hZ hown (host := "") (Or.inl (hw _ (List.mem_of_getElem? (i := 14) rfl))) Via.refl e1 F_node_a1 E_a1 (Or.inr ⟨(hw _ (List.mem_of_getElem? (i := 15) rfl)), rfl, hnm⟩) (hw _ (List.mem_of_getElem? (i := 1) rfl)) (ty := .int) (by decide) rfl rfl (g := (mkF m 6 #[.val (.ref a1), .val (.int p2), .val (.int p3), .val (.int p4), .val (.long q5), .second] [(.int p2), (.ref a1)])) rfl rfl (hb hby d1_6)
  refine go st2 ?_
  have F_node_a1_2 : Fld Z h2 a1 "quorate/tcp/Wire$Standing" "node" "I" (.int p2) := F_node_a1.same W2
  have E_a1_3 : Exa Z h2 a1 "quorate/tcp/Wire$Standing" := E_a1.wr W2
  have F_replacements_a1_4 : Fld Z h2 a1 "quorate/tcp/Wire$Standing" "replacements" "I" u_replacements := F_replacements_a1.other W2 (Or.inr (slot_ne (Or.inr (hw _ (List.mem_of_getElem? (i := 17) rfl))) (Or.inr (hw _ (List.mem_of_getElem? (i := 15) rfl))) (by decide) (t := .int) (t' := .int) (by decide) (by decide)))
  have F_lost_a1_5 : Fld Z h2 a1 "quorate/tcp/Wire$Standing" "lost" "Z" u_lost := F_lost_a1.other W2 (Or.inr (slot_ne (Or.inr (hw _ (List.mem_of_getElem? (i := 19) rfl))) (Or.inr (hw _ (List.mem_of_getElem? (i := 15) rfl))) (by decide) (t := .boolean) (t' := .int) (by decide) (by decide)))
  have F_incarnation_a1_6 : Fld Z h2 a1 "quorate/tcp/Wire$Standing" "incarnation" "J" u_incarnation := F_incarnation_a1.other W2 (Or.inr (slot_ne (Or.inr (hw _ (List.mem_of_getElem? (i := 21) rfl))) (Or.inr (hw _ (List.mem_of_getElem? (i := 15) rfl))) (by decide) (t := .long) (t' := .int) (by decide) (by decide)))
  have N2 := Fr.snoc X2 N1 g_a1
  have K2 : Keep h0 h2 [a1] := (Keep.refl h0 [a1]).wr W2 (Or.inl (List.mem_of_getElem? (i := 0) rfl))
  have Z2 : n0 ≤ h2.size := Nat.le_trans Z0 (Nat.le_of_eq W2.size.symm)
  show Go p e below _ (T2.setTop (mkF m 9 #[.val (.ref a1), .val (.int p2), .val (.int p3), .val (.int p4), .val (.long q5), .second] []))
  refine go (fun _ q => XS.aloadN X2.here hx rfl (hb hby d1_9) rfl rfl q) ?_
  show Go p e below _ (T2.setTop (mkF m 10 #[.val (.ref a1), .val (.int p2), .val (.int p3), .val (.int p4), .val (.long q5), .second] [(.ref a1)]))
  refine go (fun _ q => XS.iloadN X2.here hx rfl (hb hby d1_10) rfl q) ?_
  show Go p e below _ (T2.setTop (mkF m 11 #[.val (.ref a1), .val (.int p2), .val (.int p3), .val (.int p4), .val (.long q5), .second] [(.int p3), (.ref a1)]))
  obtain ⟨T7, h7, X7, e7, W7, st7⟩ := putF X2 hx hZ hown (host := "") (Or.inl (hw _ (List.mem_of_getElem? (i := 16) rfl))) Via.refl e2 F_replacements_a1_4 E_a1_3 (Or.inr ⟨(hw _ (List.mem_of_getElem? (i := 17) rfl)), rfl, hnm⟩) (hw _ (List.mem_of_getElem? (i := 1) rfl)) (ty := .int) (by decide) rfl rfl (g := (mkF m 11 #[.val (.ref a1), .val (.int p2), .val (.int p3), .val (.int p4), .val (.long q5), .second] [(.int p3), (.ref a1)])) rfl rfl (hb hby d1_11)
  refine go st7 ?_
  have F_replacements_a1_7 : Fld Z h7 a1 "quorate/tcp/Wire$Standing" "replacements" "I" (.int p3) := F_replacements_a1_4.same W7
  have E_a1_8 : Exa Z h7 a1 "quorate/tcp/Wire$Standing" := E_a1_3.wr W7
  have F_node_a1_9 : Fld Z h7 a1 "quorate/tcp/Wire$Standing" "node" "I" (.int p2) := F_node_a1_2.other W7 (Or.inr (slot_ne (Or.inr (hw _ (List.mem_of_getElem? (i := 15) rfl))) (Or.inr (hw _ (List.mem_of_getElem? (i := 17) rfl))) (by decide) (t := .int) (t' := .int) (by decide) (by decide)))
  have F_lost_a1_10 : Fld Z h7 a1 "quorate/tcp/Wire$Standing" "lost" "Z" u_lost := F_lost_a1_5.other W7 (Or.inr (slot_ne (Or.inr (hw _ (List.mem_of_getElem? (i := 19) rfl))) (Or.inr (hw _ (List.mem_of_getElem? (i := 17) rfl))) (by decide) (t := .boolean) (t' := .int) (by decide) (by decide)))
  have F_incarnation_a1_11 : Fld Z h7 a1 "quorate/tcp/Wire$Standing" "incarnation" "J" u_incarnation := F_incarnation_a1_6.other W7 (Or.inr (slot_ne (Or.inr (hw _ (List.mem_of_getElem? (i := 21) rfl))) (Or.inr (hw _ (List.mem_of_getElem? (i := 17) rfl))) (by decide) (t := .long) (t' := .int) (by decide) (by decide)))
  have N7 := Fr.snoc X7 N2 g_a1
  have K7 : Keep h0 h7 [a1] := K2.wr W7 (Or.inl (List.mem_of_getElem? (i := 0) rfl))
  have Z7 : n0 ≤ h7.size := Nat.le_trans Z2 (Nat.le_of_eq W7.size.symm)
  show Go p e below _ (T7.setTop (mkF m 14 #[.val (.ref a1), .val (.int p2), .val (.int p3), .val (.int p4), .val (.long q5), .second] []))
  refine go (fun _ q => XS.aloadN X7.here hx rfl (hb hby d1_14) rfl rfl q) ?_
  show Go p e below _ (T7.setTop (mkF m 15 #[.val (.ref a1), .val (.int p2), .val (.int p3), .val (.int p4), .val (.long q5), .second] [(.ref a1)]))
  refine go (fun _ q => XS.iloadN X7.here hx rfl (hb hby d1_15) rfl q) ?_
  show Go p e below _ (T7.setTop (mkF m 16 #[.val (.ref a1), .val (.int p2), .val (.int p3), .val (.int p4), .val (.long q5), .second] [(.int p4), (.ref a1)]))
  obtain ⟨T12, h12, X12, e12, W12, st12⟩ := putFN X7 hx hZ hown (hw _ (List.mem_of_getElem? (i := 18) rfl)) Via.refl e7 F_lost_a1_10 E_a1_8 (Or.inr ⟨(hw _ (List.mem_of_getElem? (i := 19) rfl)), rfl, hnm⟩) (hw _ (List.mem_of_getElem? (i := 1) rfl)) (ty := .boolean) (v' := (.int (nar .boolean p4))) (by decide) rfl (fits_nar_bool _) (g := (mkF m 16 #[.val (.ref a1), .val (.int p2), .val (.int p3), .val (.int p4), .val (.long q5), .second] [(.int p4), (.ref a1)])) rfl rfl (hb hby d1_16)
  refine go st12 ?_
  have F_lost_a1_12 : Fld Z h12 a1 "quorate/tcp/Wire$Standing" "lost" "Z" (.int (nar .boolean p4)) := F_lost_a1_10.same W12
  have E_a1_13 : Exa Z h12 a1 "quorate/tcp/Wire$Standing" := E_a1_8.wr W12
  have F_node_a1_14 : Fld Z h12 a1 "quorate/tcp/Wire$Standing" "node" "I" (.int p2) := F_node_a1_9.other W12 (Or.inr (slot_ne (Or.inr (hw _ (List.mem_of_getElem? (i := 15) rfl))) (Or.inr (hw _ (List.mem_of_getElem? (i := 19) rfl))) (by decide) (t := .int) (t' := .boolean) (by decide) (by decide)))
  have F_replacements_a1_15 : Fld Z h12 a1 "quorate/tcp/Wire$Standing" "replacements" "I" (.int p3) := F_replacements_a1_7.other W12 (Or.inr (slot_ne (Or.inr (hw _ (List.mem_of_getElem? (i := 17) rfl))) (Or.inr (hw _ (List.mem_of_getElem? (i := 19) rfl))) (by decide) (t := .int) (t' := .boolean) (by decide) (by decide)))
  have F_incarnation_a1_16 : Fld Z h12 a1 "quorate/tcp/Wire$Standing" "incarnation" "J" u_incarnation := F_incarnation_a1_11.other W12 (Or.inr (slot_ne (Or.inr (hw _ (List.mem_of_getElem? (i := 21) rfl))) (Or.inr (hw _ (List.mem_of_getElem? (i := 19) rfl))) (by decide) (t := .long) (t' := .boolean) (by decide) (by decide)))
  have N12 := Fr.snoc X12 N7 g_a1
  have K12 : Keep h0 h12 [a1] := K7.wr W12 (Or.inl (List.mem_of_getElem? (i := 0) rfl))
  have Z12 : n0 ≤ h12.size := Nat.le_trans Z7 (Nat.le_of_eq W12.size.symm)
  show Go p e below _ (T12.setTop (mkF m 19 #[.val (.ref a1), .val (.int p2), .val (.int p3), .val (.int p4), .val (.long q5), .second] []))
  refine go (fun _ q => XS.aloadN X12.here hx rfl (hb hby d1_19) rfl rfl q) ?_
  show Go p e below _ (T12.setTop (mkF m 20 #[.val (.ref a1), .val (.int p2), .val (.int p3), .val (.int p4), .val (.long q5), .second] [(.ref a1)]))
  refine go (fun _ q => XS.lload X12.here hx rfl (hb hby d1_20) rfl q) ?_
  show Go p e below _ (T12.setTop (mkF m 22 #[.val (.ref a1), .val (.int p2), .val (.int p3), .val (.int p4), .val (.long q5), .second] [(.long q5), (.ref a1)]))
  obtain ⟨T17, h17, X17, e17, W17, st17⟩ := putF X12 hx hZ hown (host := "") (Or.inl (hw _ (List.mem_of_getElem? (i := 20) rfl))) Via.refl e12 F_incarnation_a1_16 E_a1_13 (Or.inr ⟨(hw _ (List.mem_of_getElem? (i := 21) rfl)), rfl, hnm⟩) (hw _ (List.mem_of_getElem? (i := 1) rfl)) (ty := .long) (by decide) rfl rfl (g := (mkF m 22 #[.val (.ref a1), .val (.int p2), .val (.int p3), .val (.int p4), .val (.long q5), .second] [(.long q5), (.ref a1)])) rfl rfl (hb hby d1_22)
  refine go st17 ?_
  have F_incarnation_a1_17 : Fld Z h17 a1 "quorate/tcp/Wire$Standing" "incarnation" "J" (.long q5) := F_incarnation_a1_16.same W17
  have E_a1_18 : Exa Z h17 a1 "quorate/tcp/Wire$Standing" := E_a1_13.wr W17
  have F_node_a1_19 : Fld Z h17 a1 "quorate/tcp/Wire$Standing" "node" "I" (.int p2) := F_node_a1_14.other W17 (Or.inr (slot_ne (Or.inr (hw _ (List.mem_of_getElem? (i := 15) rfl))) (Or.inr (hw _ (List.mem_of_getElem? (i := 21) rfl))) (by decide) (t := .int) (t' := .long) (by decide) (by decide)))
  have F_replacements_a1_20 : Fld Z h17 a1 "quorate/tcp/Wire$Standing" "replacements" "I" (.int p3) := F_replacements_a1_15.other W17 (Or.inr (slot_ne (Or.inr (hw _ (List.mem_of_getElem? (i := 17) rfl))) (Or.inr (hw _ (List.mem_of_getElem? (i := 21) rfl))) (by decide) (t := .int) (t' := .long) (by decide) (by decide)))
  have F_lost_a1_21 : Fld Z h17 a1 "quorate/tcp/Wire$Standing" "lost" "Z" (.int (nar .boolean p4)) := F_lost_a1_12.other W17 (Or.inr (slot_ne (Or.inr (hw _ (List.mem_of_getElem? (i := 19) rfl))) (Or.inr (hw _ (List.mem_of_getElem? (i := 21) rfl))) (by decide) (t := .boolean) (t' := .long) (by decide) (by decide)))
  have N17 := Fr.snoc X17 N12 g_a1
  have K17 : Keep h0 h17 [a1] := K12.wr W17 (Or.inl (List.mem_of_getElem? (i := 0) rfl))
  have Z17 : n0 ≤ h17.size := Nat.le_trans Z12 (Nat.le_of_eq W17.size.symm)
  show Go p e below _ (T17.setTop (mkF m 25 #[.val (.ref a1), .val (.int p2), .val (.int p3), .val (.int p4), .val (.long q5), .second] []))
  exact own_retV X17 hx hlk hret (hb hby d1_25) (by decide) (by decide) (by rw [e17]; exact ⟨rfl, N17, K17, E_a1_18, F_node_a1_19, F_replacements_a1_20, F_lost_a1_21, F_incarnation_a1_17⟩)
def f5 (r1 : Int32) (b1 : Int32) (r2 : Int32) (b2 : Int32) : Int32 := (if r1 = r2 then (if b1 = (0 : Int32) then (0 : Int32) else (if b2 = (0 : Int32) then (1 : Int32) else (0 : Int32))) else (if r2 < r1 then (1 : Int32) else (0 : Int32)))
theorem d5_0 : decode prog_271_method_2_code 0 = .ok (.aload_n 0, 1) := by decide +kernel
theorem d5_1 : decode prog_271_method_2_code 1 = .ok (.getfield 13, 3) := by decide +kernel
theorem d5_4 : decode prog_271_method_2_code 4 = .ok (.aload_n 1, 1) := by decide +kernel
theorem d5_5 : decode prog_271_method_2_code 5 = .ok (.getfield 13, 3) := by decide +kernel
theorem d5_8 : decode prog_271_method_2_code 8 = .ok (.if_icmp .eq 20, 3) := by decide +kernel
theorem d5_11 : decode prog_271_method_2_code 11 = .ok (.aload_n 0, 1) := by decide +kernel
theorem d5_12 : decode prog_271_method_2_code 12 = .ok (.getfield 13, 3) := by decide +kernel
theorem d5_15 : decode prog_271_method_2_code 15 = .ok (.aload_n 1, 1) := by decide +kernel
theorem d5_16 : decode prog_271_method_2_code 16 = .ok (.getfield 13, 3) := by decide +kernel
theorem d5_19 : decode prog_271_method_2_code 19 = .ok (.if_icmp .le 7, 3) := by decide +kernel
theorem d5_22 : decode prog_271_method_2_code 22 = .ok (.iconst 1, 1) := by decide +kernel
theorem d5_23 : decode prog_271_method_2_code 23 = .ok (.goto 4, 3) := by decide +kernel
theorem d5_26 : decode prog_271_method_2_code 26 = .ok (.iconst 0, 1) := by decide +kernel
theorem d5_27 : decode prog_271_method_2_code 27 = .ok (.ireturn, 1) := by decide +kernel
theorem d5_28 : decode prog_271_method_2_code 28 = .ok (.aload_n 0, 1) := by decide +kernel
theorem d5_29 : decode prog_271_method_2_code 29 = .ok (.getfield 16, 3) := by decide +kernel
theorem d5_32 : decode prog_271_method_2_code 32 = .ok (.ifCond .eq 14, 3) := by decide +kernel
theorem d5_35 : decode prog_271_method_2_code 35 = .ok (.aload_n 1, 1) := by decide +kernel
theorem d5_36 : decode prog_271_method_2_code 36 = .ok (.getfield 16, 3) := by decide +kernel
theorem d5_39 : decode prog_271_method_2_code 39 = .ok (.ifCond .ne 7, 3) := by decide +kernel
theorem d5_42 : decode prog_271_method_2_code 42 = .ok (.iconst 1, 1) := by decide +kernel
theorem d5_43 : decode prog_271_method_2_code 43 = .ok (.goto 4, 3) := by decide +kernel
theorem d5_46 : decode prog_271_method_2_code 46 = .ok (.iconst 0, 1) := by decide +kernel
theorem d5_47 : decode prog_271_method_2_code 47 = .ok (.ireturn, 1) := by decide +kernel
theorem pn_5 : plainName "quorate/tcp/Wire$Standing" = true := by first | (simp [plainName, overriddenIn]; done) | decide +kernel
theorem ef_5 (m : MethodId) (x0 : Addr) (x1 : Addr) : entryFrame m #[(.ref x0), (.ref x1)] 2 = mkF m 0 #[.val (.ref x0), .val (.ref x1)] [] := by first | (simp [entryFrame, mkF, argsToLocals, Value.category]; done) | rfl
set_option maxRecDepth 65536 in
set_option maxHeartbeats 40000000 in
theorem rm5 (l : Launch) (Z : State) (a0 : Array Value) (hw : ∀ d ∈ tables_1, d.before a0 Z = true) (ws : List Jvm.Cond) (a1 : Addr) (a2 : Addr) (h0 : Heap) (n0 : Nat) {r1 : Int32} {b1 : Int32} {r2 : Int32} {b2 : Int32} (F_replacements_a1 : Fld Z h0 a1 "quorate/tcp/Wire$Standing" "replacements" "I" (.int r1)) (F_lost_a1 : Fld Z h0 a1 "quorate/tcp/Wire$Standing" "lost" "Z" (.int b1)) (F_replacements_a2 : Fld Z h0 a2 "quorate/tcp/Wire$Standing" "replacements" "I" (.int r2)) (F_lost_a2 : Fld Z h0 a2 "quorate/tcp/Wire$Standing" "lost" "Z" (.int b2)) :
    MetFree l (⟨"quorate/tcp/Wire$Standing", "after", "(Lquorate/tcp/Wire$Standing;)Z"⟩ : MethodName) (head1 (Jvm.Cond.code (⟨"quorate/tcp/Wire$Standing", "after", "(Lquorate/tcp/Wire$Standing;)Z"⟩ : MethodName) prog_271_method_2_code 2 (some .boolean) :: ws) ({ frames := 0, cells := 0, slots := 0, locals := 0 } : Room)) (fun a U => a = #[(.ref a1), (.ref a2)] ∧ Z.Warmed39 U.vm ∧ U.heap = h0) (fun _ _ _ _ _ => True) (fun _ U o U' => ∃ v L, o = .returned v ∧ (QP (some (.int (f5 r1 b1 r2 b2))) h0 n0) v U'.heap L ∧ FrameEnd U o U' L ({ frames := 0, cells := 0, slots := 0, locals := 0 } : Room).cells ({ frames := 0, cells := 0, slots := 0, locals := 0 } : Room).slots) := by
  refine own_met (plainFor_of_name pn_5) (fun m => ef_5 m a1 a2) ?_
  intro p e s m below meth c T0 hx hby hml hown hnm hret hlk hZ X0 e0
  have hown : s.vm.findClass "quorate/tcp/Wire$Standing" = some m.cls := hown
  have hnm : meth.name = "after" := hnm
  have hret : meth.sig.returnType = some .boolean := hret
  have N0 := Fr.nil n0
  show Go p e below _ (T0.setTop (mkF m 0 #[.val (.ref a1), .val (.ref a2)] []))
  refine go (fun _ q => XS.aloadN X0.here hx rfl (hb hby d5_0) rfl rfl q) ?_
  show Go p e below _ (T0.setTop (mkF m 1 #[.val (.ref a1), .val (.ref a2)] [(.ref a1)]))
  obtain ⟨T1, X1, e1, st1⟩ := getF X0 hx hZ hown (host := "") (Or.inl (hw _ (List.mem_of_getElem? (i := 16) rfl))) Via.refl e0 F_replacements_a1 (g := (mkF m 1 #[.val (.ref a1), .val (.ref a2)] [(.ref a1)])) rfl rfl (hb hby d5_1)
  refine go st1 ?_
  show Go p e below _ (T1.setTop (mkF m 4 #[.val (.ref a1), .val (.ref a2)] [(.int r1)]))
  refine go (fun _ q => XS.aloadN X1.here hx rfl (hb hby d5_4) rfl rfl q) ?_
  show Go p e below _ (T1.setTop (mkF m 5 #[.val (.ref a1), .val (.ref a2)] [(.ref a2), (.int r1)]))
  obtain ⟨T2, X2, e2, st2⟩ := getF X1 hx hZ hown (host := "") (Or.inl (hw _ (List.mem_of_getElem? (i := 16) rfl))) Via.refl e1 F_replacements_a2 (g := (mkF m 5 #[.val (.ref a1), .val (.ref a2)] [(.ref a2), (.int r1)])) rfl rfl (hb hby d5_5)
  refine go st2 ?_
  show Go p e below _ (T2.setTop (mkF m 8 #[.val (.ref a1), .val (.ref a2)] [(.int r2), (.int r1)]))
  by_cases hc3 : r1 = r2
  · refine go (fun _ q => XS.icmpYes X2.here hx rfl (pc0 := 8) (pc' := 28) rfl (hb hby d5_8) rfl (teq hc3).1 (by decide) (by decide) q) ?_
    show Go p e below _ (T2.setTop (mkF m 28 #[.val (.ref a1), .val (.ref a2)] []))
    refine go (fun _ q => XS.aloadN X2.here hx rfl (hb hby d5_28) rfl rfl q) ?_
    show Go p e below _ (T2.setTop (mkF m 29 #[.val (.ref a1), .val (.ref a2)] [(.ref a1)]))
    obtain ⟨T4, X4, e4, st4⟩ := getF X2 hx hZ hown (host := "") (Or.inl (hw _ (List.mem_of_getElem? (i := 18) rfl))) Via.refl e2 F_lost_a1 (g := (mkF m 29 #[.val (.ref a1), .val (.ref a2)] [(.ref a1)])) rfl rfl (hb hby d5_29)
    refine go st4 ?_
    show Go p e below _ (T4.setTop (mkF m 32 #[.val (.ref a1), .val (.ref a2)] [(.int b1)]))
    by_cases hc5 : b1 = (0 : Int32)
    · refine go (fun _ q => XS.ifYes X4.here hx rfl (pc0 := 32) (pc' := 46) rfl (hb hby d5_32) rfl ((if0 _ _).trans (teq hc5).1) (by decide) (by decide) q) ?_
      show Go p e below _ (T4.setTop (mkF m 46 #[.val (.ref a1), .val (.ref a2)] []))
      refine go (fun _ q => XS.iconst X4.here hx rfl (hb hby d5_46) q) ?_
      show Go p e below _ (T4.setTop (mkF m 47 #[.val (.ref a1), .val (.ref a2)] [(.int (0 : Int32))]))
      exact own_retZ (z' := (0 : Int32)) X4 hx hlk hret (hb hby d5_47) (by decide) (by decide) rfl ⟨congrArg (fun z => some (Value.int z)) (by rw [f5, if_pos hc3, if_pos hc5]), N0, e4⟩
    · refine go (fun _ q => XS.ifNo X4.here hx rfl (hb hby d5_32) rfl ((if0 _ _).trans (feq hc5).1) q) ?_
      show Go p e below _ (T4.setTop (mkF m 35 #[.val (.ref a1), .val (.ref a2)] []))
      refine go (fun _ q => XS.aloadN X4.here hx rfl (hb hby d5_35) rfl rfl q) ?_
      show Go p e below _ (T4.setTop (mkF m 36 #[.val (.ref a1), .val (.ref a2)] [(.ref a2)]))
      obtain ⟨T6, X6, e6, st6⟩ := getF X4 hx hZ hown (host := "") (Or.inl (hw _ (List.mem_of_getElem? (i := 18) rfl))) Via.refl e4 F_lost_a2 (g := (mkF m 36 #[.val (.ref a1), .val (.ref a2)] [(.ref a2)])) rfl rfl (hb hby d5_36)
      refine go st6 ?_
      show Go p e below _ (T6.setTop (mkF m 39 #[.val (.ref a1), .val (.ref a2)] [(.int b2)]))
      by_cases hc7 : b2 = (0 : Int32)
      · refine go (fun _ q => XS.ifNo X6.here hx rfl (hb hby d5_39) rfl ((if0 _ _).trans (teq hc7).2) q) ?_
        show Go p e below _ (T6.setTop (mkF m 42 #[.val (.ref a1), .val (.ref a2)] []))
        refine go (fun _ q => XS.iconst X6.here hx rfl (hb hby d5_42) q) ?_
        show Go p e below _ (T6.setTop (mkF m 43 #[.val (.ref a1), .val (.ref a2)] [(.int (1 : Int32))]))
        refine go (fun _ q => XS.goto X6.here hx rfl (pc0 := 43) (pc' := 47) rfl (hb hby d5_43) (by decide) (by decide) q) ?_
        show Go p e below _ (T6.setTop (mkF m 47 #[.val (.ref a1), .val (.ref a2)] [(.int (1 : Int32))]))
        exact own_retZ (z' := (1 : Int32)) X6 hx hlk hret (hb hby d5_47) (by decide) (by decide) rfl ⟨congrArg (fun z => some (Value.int z)) (by rw [f5, if_pos hc3, if_neg hc5, if_pos hc7]), N0, e6⟩
      · refine go (fun _ q => XS.ifYes X6.here hx rfl (pc0 := 39) (pc' := 46) rfl (hb hby d5_39) rfl ((if0 _ _).trans (feq hc7).2) (by decide) (by decide) q) ?_
        show Go p e below _ (T6.setTop (mkF m 46 #[.val (.ref a1), .val (.ref a2)] []))
        refine go (fun _ q => XS.iconst X6.here hx rfl (hb hby d5_46) q) ?_
        show Go p e below _ (T6.setTop (mkF m 47 #[.val (.ref a1), .val (.ref a2)] [(.int (0 : Int32))]))
        exact own_retZ (z' := (0 : Int32)) X6 hx hlk hret (hb hby d5_47) (by decide) (by decide) rfl ⟨congrArg (fun z => some (Value.int z)) (by rw [f5, if_pos hc3, if_neg hc5, if_neg hc7]), N0, e6⟩
  · refine go (fun _ q => XS.icmpNo X2.here hx rfl (hb hby d5_8) rfl (feq hc3).1 q) ?_
    show Go p e below _ (T2.setTop (mkF m 11 #[.val (.ref a1), .val (.ref a2)] []))
    refine go (fun _ q => XS.aloadN X2.here hx rfl (hb hby d5_11) rfl rfl q) ?_
    show Go p e below _ (T2.setTop (mkF m 12 #[.val (.ref a1), .val (.ref a2)] [(.ref a1)]))
    obtain ⟨T8, X8, e8, st8⟩ := getF X2 hx hZ hown (host := "") (Or.inl (hw _ (List.mem_of_getElem? (i := 16) rfl))) Via.refl e2 F_replacements_a1 (g := (mkF m 12 #[.val (.ref a1), .val (.ref a2)] [(.ref a1)])) rfl rfl (hb hby d5_12)
    refine go st8 ?_
    show Go p e below _ (T8.setTop (mkF m 15 #[.val (.ref a1), .val (.ref a2)] [(.int r1)]))
    refine go (fun _ q => XS.aloadN X8.here hx rfl (hb hby d5_15) rfl rfl q) ?_
    show Go p e below _ (T8.setTop (mkF m 16 #[.val (.ref a1), .val (.ref a2)] [(.ref a2), (.int r1)]))
    obtain ⟨T9, X9, e9, st9⟩ := getF X8 hx hZ hown (host := "") (Or.inl (hw _ (List.mem_of_getElem? (i := 16) rfl))) Via.refl e8 F_replacements_a2 (g := (mkF m 16 #[.val (.ref a1), .val (.ref a2)] [(.ref a2), (.int r1)])) rfl rfl (hb hby d5_16)
    refine go st9 ?_
    show Go p e below _ (T9.setTop (mkF m 19 #[.val (.ref a1), .val (.ref a2)] [(.int r2), (.int r1)]))
    by_cases hc10 : r2 < r1
    · refine go (fun _ q => XS.icmpNo X9.here hx rfl (hb hby d5_19) rfl (tlt hc10).2.2.2 q) ?_
      show Go p e below _ (T9.setTop (mkF m 22 #[.val (.ref a1), .val (.ref a2)] []))
      refine go (fun _ q => XS.iconst X9.here hx rfl (hb hby d5_22) q) ?_
      show Go p e below _ (T9.setTop (mkF m 23 #[.val (.ref a1), .val (.ref a2)] [(.int (1 : Int32))]))
      refine go (fun _ q => XS.goto X9.here hx rfl (pc0 := 23) (pc' := 27) rfl (hb hby d5_23) (by decide) (by decide) q) ?_
      show Go p e below _ (T9.setTop (mkF m 27 #[.val (.ref a1), .val (.ref a2)] [(.int (1 : Int32))]))
      exact own_retZ (z' := (1 : Int32)) X9 hx hlk hret (hb hby d5_27) (by decide) (by decide) rfl ⟨congrArg (fun z => some (Value.int z)) (by rw [f5, if_neg hc3, if_pos hc10]), N0, e9⟩
    · refine go (fun _ q => XS.icmpYes X9.here hx rfl (pc0 := 19) (pc' := 26) rfl (hb hby d5_19) rfl (flt hc10).2.2.2 (by decide) (by decide) q) ?_
      show Go p e below _ (T9.setTop (mkF m 26 #[.val (.ref a1), .val (.ref a2)] []))
      refine go (fun _ q => XS.iconst X9.here hx rfl (hb hby d5_26) q) ?_
      show Go p e below _ (T9.setTop (mkF m 27 #[.val (.ref a1), .val (.ref a2)] [(.int (0 : Int32))]))
      exact own_retZ (z' := (0 : Int32)) X9 hx hlk hret (hb hby d5_27) (by decide) (by decide) rfl ⟨congrArg (fun z => some (Value.int z)) (by rw [f5, if_neg hc3, if_neg hc10]), N0, e9⟩
def Q0 (n0 : Nat) (v : Option Value) (h : Heap) (L : List Loc) : Prop := v = some (.int (1 : Int32)) ∧ Fr n0 L
theorem own_bit {f k z : Int32} (h : z = (if (f &&& k) = (0 : Int32) then (0 : Int32) else (1 : Int32))) : z = 0 ∨ z = 1 := by split at h <;> simp [h]
theorem own_key {r b : Int32} (h : b = 0 ∨ b = 1) : (f4 r b).toInt = 2 * r.toInt + b.toInt := by
  rw [f4]
  have a1 := c_lmul 2 r.toInt64
  have a2 := c_i2l r
  have e2 : (2 : Int64).toInt = 2 := rfl
  have e1 : (1 : Int64).toInt = 1 := rfl
  have e0 : (0 : Int64).toInt = 0 := rfl
  have b1 := Int32.le_toInt r
  have b2 := Int32.toInt_lt r
  have b3 := Int64.le_toInt (2 * r.toInt64)
  have b4 := Int64.toInt_lt (2 * r.toInt64)
  rcases h with rfl | rfl
  · rw [if_pos rfl]
    have a3 := c_ladd (2 * r.toInt64) 0
    have b5 := Int64.le_toInt (2 * r.toInt64 + 0)
    have b6 := Int64.toInt_lt (2 * r.toInt64 + 0)
    have e : (0 : Int32).toInt = 0 := rfl
    rw [a2, e2] at a1
    omega
  · rw [if_neg (by decide)]
    have a3 := c_ladd (2 * r.toInt64) 1
    have b5 := Int64.le_toInt (2 * r.toInt64 + 1)
    have b6 := Int64.toInt_lt (2 * r.toInt64 + 1)
    have e : (1 : Int32).toInt = 1 := rfl
    rw [a2, e2] at a1
    omega
theorem own_after {r1 b1 r2 b2 : Int32} {k1 k2 : Int64} {z : Int32} (h1 : b1 = 0 ∨ b1 = 1) (h2 : b2 = 0 ∨ b2 = 1) (q1 : f4 r1 b1 = k1) (q2 : f4 r2 b2 = k2) (hz : z = (if k2 < k1 then (1 : Int32) else (0 : Int32))) : f5 r1 (nar .boolean b1) r2 (nar .boolean b2) = z := by
  have a1 := own_key (r := r1) h1
  have a2 := own_key (r := r2) h2
  rw [q1] at a1
  rw [q2] at a2
  have hk : k2 < k1 ↔ 2 * r2.toInt + b2.toInt < 2 * r1.toInt + b1.toInt := by rw [Int64.lt_iff_toInt_lt, a1, a2]
  simp only [hk] at hz
  subst hz
  rw [f5]
  have e0 : (0 : Int32).toInt = 0 := rfl
  have e1 : (1 : Int32).toInt = 1 := rfl
  have n0 : nar .boolean (0 : Int32) = 0 := rfl
  have n1 : nar .boolean (1 : Int32) = 1 := rfl
  by_cases h : r1 = r2
  · subst h
    rw [if_pos rfl]
    rcases h1 with rfl | rfl <;> rcases h2 with rfl | rfl
    · rw [if_pos n0, if_neg (by omega)]
    · rw [if_pos n0, if_neg (by rw [e0, e1]; omega)]
    · rw [if_neg (by decide), if_pos n0, if_pos (by rw [e0, e1]; omega)]
    · rw [if_neg (by decide), if_neg (by decide), if_neg (by omega)]
  · have hne : ¬ r1.toInt = r2.toInt := fun k => h (Int32.toInt_inj.mp k)
    rw [if_neg h]
    have z1 : 0 ≤ b1.toInt ∧ b1.toInt ≤ 1 := by rcases h1 with rfl | rfl <;> decide
    have z2 : 0 ≤ b2.toInt ∧ b2.toInt ≤ 1 := by rcases h2 with rfl | rfl <;> decide
    by_cases g : r2 < r1
    · rw [if_pos g]
      rw [Int32.lt_iff_toInt_lt] at g
      rw [if_pos (by omega)]
    · rw [if_neg g]
      rw [Int32.lt_iff_toInt_lt] at g
      rw [if_neg (by omega)]
theorem pd_0_0 : parseMethodDescriptor "(IIZJ)V" = some ⟨[.int, .int, .boolean, .long], none⟩ := by decide +kernel
theorem pd_0_1 : parseMethodDescriptor "(IZ)J" = some ⟨[.int, .boolean], some .long⟩ := by decide +kernel
theorem pd_0_2 : parseMethodDescriptor "(Lquorate/tcp/Wire$Standing;)Z" = some ⟨[(.object "quorate/tcp/Wire$Standing")], some .boolean⟩ := by decide +kernel
theorem pn_0 : plainName "quorate/tcp/StandingAfterPinLaw" = true := by first | (simp [plainName, overriddenIn]; done) | decide +kernel
theorem ef_0 (m : MethodId) (x0 : Int32) (x1 : Int32) (x2 : Int32) (x3 : Int32) (x4 : Int64) (x5 : Int64) : entryFrame m #[(.int x0), (.int x1), (.int x2), (.int x3), (.long x4), (.long x5)] maxLocals = mkF m 0 #[.val (.int x0), .val (.int x1), .val (.int x2), .val (.int x3), .val (.long x4), .second, .val (.long x5), .second, .unset, .unset, .unset, .unset, .unset, .unset, .unset, .unset, .unset, .unset, .unset] [] := by first | (simp [entryFrame, mkF, argsToLocals, Value.category, maxLocals]; done) | rfl
set_option maxRecDepth 65536 in
set_option maxHeartbeats 40000000 in
theorem rm0 (l : Launch) (Z : State) (a0 : Array Value) (hw : ∀ d ∈ tables_1, d.before a0 Z = true) (ws : List Jvm.Cond) (p1 : Int32) (p2 : Int32) (p3 : Int32) (p4 : Int32) (q5 : Int64) (q6 : Int64) (h0 : Heap) (n0 : Nat) (Z0 : n0 ≤ h0.size) :
    MetFree l x (head1 (Jvm.Cond.code x code maxLocals ret :: ws) room_1) (fun a U => a = #[(.int p1), (.int p2), (.int p3), (.int p4), (.long q5), (.long q6)] ∧ Z.Warmed39 U.vm ∧ U.heap = h0) (fun _ _ _ _ _ => True) (fun _ U o U' => ∃ v L, o = .returned v ∧ (Q0 n0) v U'.heap L ∧ FrameEnd U o U' L room_1.cells room_1.slots) := by
  refine own_met (plainFor_of_name pn_0) (fun m => ef_0 m p1 p2 p3 p4 q5 q6) ?_
  intro p e s m below meth c T0 hx hby hml hown hnm hret hlk hZ X0 e0
  have hown : s.vm.findClass "quorate/tcp/StandingAfterPinLaw" = some m.cls := hown
  have hnm : meth.name = "law" := hnm
  have hret : meth.sig.returnType = some .boolean := hret
  have N0 := Fr.nil n0
  show Go p e below _ (T0.setTop (mkF m 0 #[.val (.int p1), .val (.int p2), .val (.int p3), .val (.int p4), .val (.long q5), .second, .val (.long q6), .second, .unset, .unset, .unset, .unset, .unset, .unset, .unset, .unset, .unset, .unset, .unset] []))
  refine go (fun _ q => XS.iloadN X0.here hx rfl (hb hby at_0) rfl q) ?_
  show Go p e below _ (T0.setTop (mkF m 1 #[.val (.int p1), .val (.int p2), .val (.int p3), .val (.int p4), .val (.long q5), .second, .val (.long q6), .second, .unset, .unset, .unset, .unset, .unset, .unset, .unset, .unset, .unset, .unset, .unset] [(.int p3)]))
  refine go (fun _ q => XS.iconst X0.here hx rfl (hb hby at_1) q) ?_
  show Go p e below _ (T0.setTop (mkF m 2 #[.val (.int p1), .val (.int p2), .val (.int p3), .val (.int p4), .val (.long q5), .second, .val (.long q6), .second, .unset, .unset, .unset, .unset, .unset, .unset, .unset, .unset, .unset, .unset, .unset] [(.int (1 : Int32)), (.int p3)]))
  refine go (fun _ q => XS.iand X0.here hx rfl (hb hby at_2) rfl q) ?_
  show Go p e below _ (T0.setTop (mkF m 3 #[.val (.int p1), .val (.int p2), .val (.int p3), .val (.int p4), .val (.long q5), .second, .val (.long q6), .second, .unset, .unset, .unset, .unset, .unset, .unset, .unset, .unset, .unset, .unset, .unset] [(.int (p3 &&& (1 : Int32)))]))
  suffices hj1 : ∀ (z3 : Int32), z3 = (if (p3 &&& (1 : Int32)) = (0 : Int32) then (0 : Int32) else (1 : Int32)) → Go p e below (Dn below s ((Q0 n0)) room_1.cells room_1.slots) (T0.setTop (mkF m 11 #[.val (.int p1), .val (.int p2), .val (.int p3), .val (.int p4), .val (.long q5), .second, .val (.long q6), .second, .unset, .unset, .unset, .unset, .unset, .unset, .unset, .unset, .unset, .unset, .unset] [(.int z3)])) by
    by_cases hc2 : (p3 &&& (1 : Int32)) = (0 : Int32)
    · refine go (fun _ q => XS.ifYes X0.here hx rfl (pc0 := 3) (pc' := 10) rfl (hb hby at_3) rfl ((if0 _ _).trans (teq hc2).1) (by decide) (by decide) q) ?_
      show Go p e below _ (T0.setTop (mkF m 10 #[.val (.int p1), .val (.int p2), .val (.int p3), .val (.int p4), .val (.long q5), .second, .val (.long q6), .second, .unset, .unset, .unset, .unset, .unset, .unset, .unset, .unset, .unset, .unset, .unset] []))
      refine go (fun _ q => XS.iconst X0.here hx rfl (hb hby at_10) q) ?_
      show Go p e below _ (T0.setTop (mkF m 11 #[.val (.int p1), .val (.int p2), .val (.int p3), .val (.int p4), .val (.long q5), .second, .val (.long q6), .second, .unset, .unset, .unset, .unset, .unset, .unset, .unset, .unset, .unset, .unset, .unset] [(.int (0 : Int32))]))
      exact hj1 _ (by rw [if_pos hc2])
    · refine go (fun _ q => XS.ifNo X0.here hx rfl (hb hby at_3) rfl ((if0 _ _).trans (feq hc2).1) q) ?_
      show Go p e below _ (T0.setTop (mkF m 6 #[.val (.int p1), .val (.int p2), .val (.int p3), .val (.int p4), .val (.long q5), .second, .val (.long q6), .second, .unset, .unset, .unset, .unset, .unset, .unset, .unset, .unset, .unset, .unset, .unset] []))
      refine go (fun _ q => XS.iconst X0.here hx rfl (hb hby at_6) q) ?_
      show Go p e below _ (T0.setTop (mkF m 7 #[.val (.int p1), .val (.int p2), .val (.int p3), .val (.int p4), .val (.long q5), .second, .val (.long q6), .second, .unset, .unset, .unset, .unset, .unset, .unset, .unset, .unset, .unset, .unset, .unset] [(.int (1 : Int32))]))
      refine go (fun _ q => XS.goto X0.here hx rfl (pc0 := 7) (pc' := 11) rfl (hb hby at_7) (by decide) (by decide) q) ?_
      show Go p e below _ (T0.setTop (mkF m 11 #[.val (.int p1), .val (.int p2), .val (.int p3), .val (.int p4), .val (.long q5), .second, .val (.long q6), .second, .unset, .unset, .unset, .unset, .unset, .unset, .unset, .unset, .unset, .unset, .unset] [(.int (1 : Int32))]))
      exact hj1 _ (by rw [if_neg hc2])
  intro z3 hz3
  show Go p e below _ (T0.setTop (mkF m 11 #[.val (.int p1), .val (.int p2), .val (.int p3), .val (.int p4), .val (.long q5), .second, .val (.long q6), .second, .unset, .unset, .unset, .unset, .unset, .unset, .unset, .unset, .unset, .unset, .unset] [(.int z3)]))
  refine go (fun _ q => XS.istore X0.here hx rfl (hb hby at_11) rfl (l' := #[.val (.int p1), .val (.int p2), .val (.int p3), .val (.int p4), .val (.long q5), .second, .val (.long q6), .second, .val (.int z3), .unset, .unset, .unset, .unset, .unset, .unset, .unset, .unset, .unset, .unset]) rfl q) ?_
  show Go p e below _ (T0.setTop (mkF m 13 #[.val (.int p1), .val (.int p2), .val (.int p3), .val (.int p4), .val (.long q5), .second, .val (.long q6), .second, .val (.int z3), .unset, .unset, .unset, .unset, .unset, .unset, .unset, .unset, .unset, .unset] []))
  refine go (fun _ q => XS.iloadN X0.here hx rfl (hb hby at_13) rfl q) ?_
  show Go p e below _ (T0.setTop (mkF m 14 #[.val (.int p1), .val (.int p2), .val (.int p3), .val (.int p4), .val (.long q5), .second, .val (.long q6), .second, .val (.int z3), .unset, .unset, .unset, .unset, .unset, .unset, .unset, .unset, .unset, .unset] [(.int p3)]))
  refine go (fun _ q => XS.iconst X0.here hx rfl (hb hby at_14) q) ?_
  show Go p e below _ (T0.setTop (mkF m 15 #[.val (.int p1), .val (.int p2), .val (.int p3), .val (.int p4), .val (.long q5), .second, .val (.long q6), .second, .val (.int z3), .unset, .unset, .unset, .unset, .unset, .unset, .unset, .unset, .unset, .unset] [(.int (2 : Int32)), (.int p3)]))
  refine go (fun _ q => XS.iand X0.here hx rfl (hb hby at_15) rfl q) ?_
  show Go p e below _ (T0.setTop (mkF m 16 #[.val (.int p1), .val (.int p2), .val (.int p3), .val (.int p4), .val (.long q5), .second, .val (.long q6), .second, .val (.int z3), .unset, .unset, .unset, .unset, .unset, .unset, .unset, .unset, .unset, .unset] [(.int (p3 &&& (2 : Int32)))]))
  suffices hj4 : ∀ (z6 : Int32), z6 = (if (p3 &&& (2 : Int32)) = (0 : Int32) then (0 : Int32) else (1 : Int32)) → Go p e below (Dn below s ((Q0 n0)) room_1.cells room_1.slots) (T0.setTop (mkF m 24 #[.val (.int p1), .val (.int p2), .val (.int p3), .val (.int p4), .val (.long q5), .second, .val (.long q6), .second, .val (.int z3), .unset, .unset, .unset, .unset, .unset, .unset, .unset, .unset, .unset, .unset] [(.int z6)])) by
    by_cases hc5 : (p3 &&& (2 : Int32)) = (0 : Int32)
    · refine go (fun _ q => XS.ifYes X0.here hx rfl (pc0 := 16) (pc' := 23) rfl (hb hby at_16) rfl ((if0 _ _).trans (teq hc5).1) (by decide) (by decide) q) ?_
      show Go p e below _ (T0.setTop (mkF m 23 #[.val (.int p1), .val (.int p2), .val (.int p3), .val (.int p4), .val (.long q5), .second, .val (.long q6), .second, .val (.int z3), .unset, .unset, .unset, .unset, .unset, .unset, .unset, .unset, .unset, .unset] []))
      refine go (fun _ q => XS.iconst X0.here hx rfl (hb hby at_23) q) ?_
      show Go p e below _ (T0.setTop (mkF m 24 #[.val (.int p1), .val (.int p2), .val (.int p3), .val (.int p4), .val (.long q5), .second, .val (.long q6), .second, .val (.int z3), .unset, .unset, .unset, .unset, .unset, .unset, .unset, .unset, .unset, .unset] [(.int (0 : Int32))]))
      exact hj4 _ (by rw [if_pos hc5])
    · refine go (fun _ q => XS.ifNo X0.here hx rfl (hb hby at_16) rfl ((if0 _ _).trans (feq hc5).1) q) ?_
      show Go p e below _ (T0.setTop (mkF m 19 #[.val (.int p1), .val (.int p2), .val (.int p3), .val (.int p4), .val (.long q5), .second, .val (.long q6), .second, .val (.int z3), .unset, .unset, .unset, .unset, .unset, .unset, .unset, .unset, .unset, .unset] []))
      refine go (fun _ q => XS.iconst X0.here hx rfl (hb hby at_19) q) ?_
      show Go p e below _ (T0.setTop (mkF m 20 #[.val (.int p1), .val (.int p2), .val (.int p3), .val (.int p4), .val (.long q5), .second, .val (.long q6), .second, .val (.int z3), .unset, .unset, .unset, .unset, .unset, .unset, .unset, .unset, .unset, .unset] [(.int (1 : Int32))]))
      refine go (fun _ q => XS.goto X0.here hx rfl (pc0 := 20) (pc' := 24) rfl (hb hby at_20) (by decide) (by decide) q) ?_
      show Go p e below _ (T0.setTop (mkF m 24 #[.val (.int p1), .val (.int p2), .val (.int p3), .val (.int p4), .val (.long q5), .second, .val (.long q6), .second, .val (.int z3), .unset, .unset, .unset, .unset, .unset, .unset, .unset, .unset, .unset, .unset] [(.int (1 : Int32))]))
      exact hj4 _ (by rw [if_neg hc5])
  intro z6 hz6
  show Go p e below _ (T0.setTop (mkF m 24 #[.val (.int p1), .val (.int p2), .val (.int p3), .val (.int p4), .val (.long q5), .second, .val (.long q6), .second, .val (.int z3), .unset, .unset, .unset, .unset, .unset, .unset, .unset, .unset, .unset, .unset] [(.int z6)]))
  refine go (fun _ q => XS.istore X0.here hx rfl (hb hby at_24) rfl (l' := #[.val (.int p1), .val (.int p2), .val (.int p3), .val (.int p4), .val (.long q5), .second, .val (.long q6), .second, .val (.int z3), .val (.int z6), .unset, .unset, .unset, .unset, .unset, .unset, .unset, .unset, .unset]) rfl q) ?_
  show Go p e below _ (T0.setTop (mkF m 26 #[.val (.int p1), .val (.int p2), .val (.int p3), .val (.int p4), .val (.long q5), .second, .val (.long q6), .second, .val (.int z3), .val (.int z6), .unset, .unset, .unset, .unset, .unset, .unset, .unset, .unset, .unset] []))
  refine go (fun _ q => XS.iloadN X0.here hx rfl (hb hby at_26) rfl q) ?_
  show Go p e below _ (T0.setTop (mkF m 27 #[.val (.int p1), .val (.int p2), .val (.int p3), .val (.int p4), .val (.long q5), .second, .val (.long q6), .second, .val (.int z3), .val (.int z6), .unset, .unset, .unset, .unset, .unset, .unset, .unset, .unset, .unset] [(.int p3)]))
  refine go (fun _ q => XS.iconst X0.here hx rfl (hb hby at_27) q) ?_
  show Go p e below _ (T0.setTop (mkF m 28 #[.val (.int p1), .val (.int p2), .val (.int p3), .val (.int p4), .val (.long q5), .second, .val (.long q6), .second, .val (.int z3), .val (.int z6), .unset, .unset, .unset, .unset, .unset, .unset, .unset, .unset, .unset] [(.int (4 : Int32)), (.int p3)]))
  refine go (fun _ q => XS.iand X0.here hx rfl (hb hby at_28) rfl q) ?_
  show Go p e below _ (T0.setTop (mkF m 29 #[.val (.int p1), .val (.int p2), .val (.int p3), .val (.int p4), .val (.long q5), .second, .val (.long q6), .second, .val (.int z3), .val (.int z6), .unset, .unset, .unset, .unset, .unset, .unset, .unset, .unset, .unset] [(.int (p3 &&& (4 : Int32)))]))
  suffices hj7 : ∀ (z9 : Int32), z9 = (if (p3 &&& (4 : Int32)) = (0 : Int32) then p2 else p1) → Go p e below (Dn below s ((Q0 n0)) room_1.cells room_1.slots) (T0.setTop (mkF m 37 #[.val (.int p1), .val (.int p2), .val (.int p3), .val (.int p4), .val (.long q5), .second, .val (.long q6), .second, .val (.int z3), .val (.int z6), .unset, .unset, .unset, .unset, .unset, .unset, .unset, .unset, .unset] [(.int z9)])) by
    by_cases hc8 : (p3 &&& (4 : Int32)) = (0 : Int32)
    · refine go (fun _ q => XS.ifYes X0.here hx rfl (pc0 := 29) (pc' := 36) rfl (hb hby at_29) rfl ((if0 _ _).trans (teq hc8).1) (by decide) (by decide) q) ?_
      show Go p e below _ (T0.setTop (mkF m 36 #[.val (.int p1), .val (.int p2), .val (.int p3), .val (.int p4), .val (.long q5), .second, .val (.long q6), .second, .val (.int z3), .val (.int z6), .unset, .unset, .unset, .unset, .unset, .unset, .unset, .unset, .unset] []))
      refine go (fun _ q => XS.iloadN X0.here hx rfl (hb hby at_36) rfl q) ?_
      show Go p e below _ (T0.setTop (mkF m 37 #[.val (.int p1), .val (.int p2), .val (.int p3), .val (.int p4), .val (.long q5), .second, .val (.long q6), .second, .val (.int z3), .val (.int z6), .unset, .unset, .unset, .unset, .unset, .unset, .unset, .unset, .unset] [(.int p2)]))
      exact hj7 _ (by rw [if_pos hc8])
    · refine go (fun _ q => XS.ifNo X0.here hx rfl (hb hby at_29) rfl ((if0 _ _).trans (feq hc8).1) q) ?_
      show Go p e below _ (T0.setTop (mkF m 32 #[.val (.int p1), .val (.int p2), .val (.int p3), .val (.int p4), .val (.long q5), .second, .val (.long q6), .second, .val (.int z3), .val (.int z6), .unset, .unset, .unset, .unset, .unset, .unset, .unset, .unset, .unset] []))
      refine go (fun _ q => XS.iloadN X0.here hx rfl (hb hby at_32) rfl q) ?_
      show Go p e below _ (T0.setTop (mkF m 33 #[.val (.int p1), .val (.int p2), .val (.int p3), .val (.int p4), .val (.long q5), .second, .val (.long q6), .second, .val (.int z3), .val (.int z6), .unset, .unset, .unset, .unset, .unset, .unset, .unset, .unset, .unset] [(.int p1)]))
      refine go (fun _ q => XS.goto X0.here hx rfl (pc0 := 33) (pc' := 37) rfl (hb hby at_33) (by decide) (by decide) q) ?_
      show Go p e below _ (T0.setTop (mkF m 37 #[.val (.int p1), .val (.int p2), .val (.int p3), .val (.int p4), .val (.long q5), .second, .val (.long q6), .second, .val (.int z3), .val (.int z6), .unset, .unset, .unset, .unset, .unset, .unset, .unset, .unset, .unset] [(.int p1)]))
      exact hj7 _ (by rw [if_neg hc8])
  intro z9 hz9
  show Go p e below _ (T0.setTop (mkF m 37 #[.val (.int p1), .val (.int p2), .val (.int p3), .val (.int p4), .val (.long q5), .second, .val (.long q6), .second, .val (.int z3), .val (.int z6), .unset, .unset, .unset, .unset, .unset, .unset, .unset, .unset, .unset] [(.int z9)]))
  refine go (fun _ q => XS.istore X0.here hx rfl (hb hby at_37) rfl (l' := #[.val (.int p1), .val (.int p2), .val (.int p3), .val (.int p4), .val (.long q5), .second, .val (.long q6), .second, .val (.int z3), .val (.int z6), .val (.int z9), .unset, .unset, .unset, .unset, .unset, .unset, .unset, .unset]) rfl q) ?_
  show Go p e below _ (T0.setTop (mkF m 39 #[.val (.int p1), .val (.int p2), .val (.int p3), .val (.int p4), .val (.long q5), .second, .val (.long q6), .second, .val (.int z3), .val (.int z6), .val (.int z9), .unset, .unset, .unset, .unset, .unset, .unset, .unset, .unset] []))
  obtain ⟨T10, h10, X10, e10, E10, A10, D10, -, st10⟩ := newO X0 hx hZ hown (hw _ (List.mem_of_getElem? (i := 0) rfl)) (hw _ (List.mem_of_getElem? (i := 1) rfl)) (hw _ (List.mem_of_getElem? (i := 2) rfl)) e0 (g := (mkF m 39 #[.val (.int p1), .val (.int p2), .val (.int p3), .val (.int p4), .val (.long q5), .second, .val (.long q6), .second, .val (.int z3), .val (.int z6), .val (.int z9), .unset, .unset, .unset, .unset, .unset, .unset, .unset, .unset] [])) rfl (hb hby at_39) (by decide) (by decide)
  obtain ⟨b10, g10⟩ : ∃ z, z = h0.size := ⟨_, rfl⟩
  rw [← g10] at A10 D10 st10
  refine go st10 ?_
  have g_b10 : n0 ≤ b10 := Nat.le_trans Z0 (Nat.le_of_eq g10.symm)
  have Z10 : n0 ≤ h10.size := Nat.le_trans Z0 E10.1
  have F_node_b10 : Fld Z h10 b10 "quorate/tcp/Wire$Standing" "node" "I" (.int (0 : Int32)) := D10 (Or.inr (hw _ (List.mem_of_getElem? (i := 15) rfl))) (ty := .int) (by decide)
  have F_replacements_b10 : Fld Z h10 b10 "quorate/tcp/Wire$Standing" "replacements" "I" (.int (0 : Int32)) := D10 (Or.inr (hw _ (List.mem_of_getElem? (i := 17) rfl))) (ty := .int) (by decide)
  have F_lost_b10 : Fld Z h10 b10 "quorate/tcp/Wire$Standing" "lost" "Z" (.int (0 : Int32)) := D10 (Or.inr (hw _ (List.mem_of_getElem? (i := 19) rfl))) (ty := .boolean) (by decide)
  have F_incarnation_b10 : Fld Z h10 b10 "quorate/tcp/Wire$Standing" "incarnation" "J" (.long (0 : Int64)) := D10 (Or.inr (hw _ (List.mem_of_getElem? (i := 21) rfl))) (ty := .long) (by decide)
  show Go p e below _ (T10.setTop (mkF m 42 #[.val (.int p1), .val (.int p2), .val (.int p3), .val (.int p4), .val (.long q5), .second, .val (.long q6), .second, .val (.int z3), .val (.int z6), .val (.int z9), .unset, .unset, .unset, .unset, .unset, .unset, .unset, .unset] [(.ref b10)]))
  refine go (fun _ q => XS.dup X10.here hx rfl (hb hby at_42) rfl rfl q) ?_
  show Go p e below _ (T10.setTop (mkF m 43 #[.val (.int p1), .val (.int p2), .val (.int p3), .val (.int p4), .val (.long q5), .second, .val (.long q6), .second, .val (.int z3), .val (.int z6), .val (.int z9), .unset, .unset, .unset, .unset, .unset, .unset, .unset, .unset] [(.ref b10), (.ref b10)]))
  refine go (fun _ q => XS.iloadN X10.here hx rfl (hb hby at_43) rfl q) ?_
  show Go p e below _ (T10.setTop (mkF m 44 #[.val (.int p1), .val (.int p2), .val (.int p3), .val (.int p4), .val (.long q5), .second, .val (.long q6), .second, .val (.int z3), .val (.int z6), .val (.int z9), .unset, .unset, .unset, .unset, .unset, .unset, .unset, .unset] [(.int p4), (.ref b10), (.ref b10)]))
  refine go (fun _ q => XS.iloadN X10.here hx rfl (hb hby at_44) rfl q) ?_
  show Go p e below _ (T10.setTop (mkF m 45 #[.val (.int p1), .val (.int p2), .val (.int p3), .val (.int p4), .val (.long q5), .second, .val (.long q6), .second, .val (.int z3), .val (.int z6), .val (.int z9), .unset, .unset, .unset, .unset, .unset, .unset, .unset, .unset] [(.int p1), (.int p4), (.ref b10), (.ref b10)]))
  refine go (fun _ q => XS.iload X10.here hx rfl (hb hby at_45) rfl q) ?_
  show Go p e below _ (T10.setTop (mkF m 47 #[.val (.int p1), .val (.int p2), .val (.int p3), .val (.int p4), .val (.long q5), .second, .val (.long q6), .second, .val (.int z3), .val (.int z6), .val (.int z9), .unset, .unset, .unset, .unset, .unset, .unset, .unset, .unset] [(.int z3), (.int p1), (.int p4), (.ref b10), (.ref b10)]))
  refine go (fun _ q => XS.lload X10.here hx rfl (hb hby at_47) rfl q) ?_
  show Go p e below _ (T10.setTop (mkF m 49 #[.val (.int p1), .val (.int p2), .val (.int p3), .val (.int p4), .val (.long q5), .second, .val (.long q6), .second, .val (.int z3), .val (.int z6), .val (.int z9), .unset, .unset, .unset, .unset, .unset, .unset, .unset, .unset] [(.long q5), (.int z3), (.int p1), (.int p4), (.ref b10), (.ref b10)]))
  refine own_callC X10 hx hZ hown e10 (hw _ (List.mem_of_getElem? (i := 3) rfl)) (hw _ (List.mem_of_getElem? (i := 4) rfl)) (hw _ (List.mem_of_getElem? (i := 2) rfl)) (hw _ (List.mem_of_getElem? (i := 5) rfl)) (rm1 l Z a0 hw [] b10 p4 p1 z3 q5 h10 n0 Z10 g_b10 A10 F_node_b10 F_replacements_b10 F_lost_b10 F_incarnation_b10) rfl (by decide) (by decide) (W := 1) (by decide) (by decide) (by decide) (a := b10) (g := (mkF m 49 #[.val (.int p1), .val (.int p2), .val (.int p3), .val (.int p4), .val (.long q5), .second, .val (.long q6), .second, .val (.int z3), .val (.int z6), .val (.int z9), .unset, .unset, .unset, .unset, .unset, .unset, .unset, .unset] [(.long q5), (.int z3), (.int p1), (.int p4), (.ref b10), (.ref b10)])) rfl (by rw [hml]; rfl) (argsL := [(.int p4), (.int p1), (.int z3), (.long q5)]) (rest := [(.ref b10)]) rfl rfl (lenOf pd_0_0 rfl) (by show 2 * 0 + _ ≤ _; exact Nat.le_of_eq rfl) (hb hby at_49) ?_
  rintro _ T11 L11 X11 ⟨rfl, N11q, K11, E11, F11_0, F11_1, F11_2, F11_3⟩
  have N11 := Fr.app N0 N11q
  have Z11 : n0 ≤ T11.heap.size := Nat.le_trans Z10 K11.1
  show Go p e below _ (T11.setTop (mkF m 52 #[.val (.int p1), .val (.int p2), .val (.int p3), .val (.int p4), .val (.long q5), .second, .val (.long q6), .second, .val (.int z3), .val (.int z6), .val (.int z9), .unset, .unset, .unset, .unset, .unset, .unset, .unset, .unset] [(.ref b10)]))
  refine go (fun _ q => XS.astore X11.here hx rfl (hb hby at_52) rfl rfl (l' := #[.val (.int p1), .val (.int p2), .val (.int p3), .val (.int p4), .val (.long q5), .second, .val (.long q6), .second, .val (.int z3), .val (.int z6), .val (.int z9), .val (.ref b10), .unset, .unset, .unset, .unset, .unset, .unset, .unset]) rfl q) ?_
  show Go p e below _ (T11.setTop (mkF m 54 #[.val (.int p1), .val (.int p2), .val (.int p3), .val (.int p4), .val (.long q5), .second, .val (.long q6), .second, .val (.int z3), .val (.int z6), .val (.int z9), .val (.ref b10), .unset, .unset, .unset, .unset, .unset, .unset, .unset] []))
  obtain ⟨T12, h12, X12, e12, E12, A12, D12, -, st12⟩ := newO X11 hx hZ hown (hw _ (List.mem_of_getElem? (i := 0) rfl)) (hw _ (List.mem_of_getElem? (i := 1) rfl)) (hw _ (List.mem_of_getElem? (i := 2) rfl)) rfl (g := (mkF m 54 #[.val (.int p1), .val (.int p2), .val (.int p3), .val (.int p4), .val (.long q5), .second, .val (.long q6), .second, .val (.int z3), .val (.int z6), .val (.int z9), .val (.ref b10), .unset, .unset, .unset, .unset, .unset, .unset, .unset] [])) rfl (hb hby at_54) (by decide) (by decide)
  obtain ⟨b12, g12⟩ : ∃ z, z = T11.heap.size := ⟨_, rfl⟩
  rw [← g12] at A12 D12 st12
  refine go st12 ?_
  have ne_b10_b12 : b10 ≠ b12 := Nat.ne_of_lt (Nat.lt_of_lt_of_le E11.lt (Nat.le_of_eq g12.symm))
  have g_b12 : n0 ≤ b12 := Nat.le_trans Z11 (Nat.le_of_eq g12.symm)
  have Z12 : n0 ≤ h12.size := Nat.le_trans Z11 E12.1
  have E_b10_13 : Exa Z h12 b10 "quorate/tcp/Wire$Standing" := E11.ext E12
  have F_node_b10_14 : Fld Z h12 b10 "quorate/tcp/Wire$Standing" "node" "I" (.int p4) := F11_0.ext E12
  have F_replacements_b10_15 : Fld Z h12 b10 "quorate/tcp/Wire$Standing" "replacements" "I" (.int p1) := F11_1.ext E12
  have F_lost_b10_16 : Fld Z h12 b10 "quorate/tcp/Wire$Standing" "lost" "Z" (.int (nar .boolean z3)) := F11_2.ext E12
  have F_incarnation_b10_17 : Fld Z h12 b10 "quorate/tcp/Wire$Standing" "incarnation" "J" (.long q5) := F11_3.ext E12
  have F_node_b12 : Fld Z h12 b12 "quorate/tcp/Wire$Standing" "node" "I" (.int (0 : Int32)) := D12 (Or.inr (hw _ (List.mem_of_getElem? (i := 15) rfl))) (ty := .int) (by decide)
  have F_replacements_b12 : Fld Z h12 b12 "quorate/tcp/Wire$Standing" "replacements" "I" (.int (0 : Int32)) := D12 (Or.inr (hw _ (List.mem_of_getElem? (i := 17) rfl))) (ty := .int) (by decide)
  have F_lost_b12 : Fld Z h12 b12 "quorate/tcp/Wire$Standing" "lost" "Z" (.int (0 : Int32)) := D12 (Or.inr (hw _ (List.mem_of_getElem? (i := 19) rfl))) (ty := .boolean) (by decide)
  have F_incarnation_b12 : Fld Z h12 b12 "quorate/tcp/Wire$Standing" "incarnation" "J" (.long (0 : Int64)) := D12 (Or.inr (hw _ (List.mem_of_getElem? (i := 21) rfl))) (ty := .long) (by decide)
  show Go p e below _ (T12.setTop (mkF m 57 #[.val (.int p1), .val (.int p2), .val (.int p3), .val (.int p4), .val (.long q5), .second, .val (.long q6), .second, .val (.int z3), .val (.int z6), .val (.int z9), .val (.ref b10), .unset, .unset, .unset, .unset, .unset, .unset, .unset] [(.ref b12)]))
  refine go (fun _ q => XS.dup X12.here hx rfl (hb hby at_57) rfl rfl q) ?_
  show Go p e below _ (T12.setTop (mkF m 58 #[.val (.int p1), .val (.int p2), .val (.int p3), .val (.int p4), .val (.long q5), .second, .val (.long q6), .second, .val (.int z3), .val (.int z6), .val (.int z9), .val (.ref b10), .unset, .unset, .unset, .unset, .unset, .unset, .unset] [(.ref b12), (.ref b12)]))
  refine go (fun _ q => XS.iloadN X12.here hx rfl (hb hby at_58) rfl q) ?_
  show Go p e below _ (T12.setTop (mkF m 59 #[.val (.int p1), .val (.int p2), .val (.int p3), .val (.int p4), .val (.long q5), .second, .val (.long q6), .second, .val (.int z3), .val (.int z6), .val (.int z9), .val (.ref b10), .unset, .unset, .unset, .unset, .unset, .unset, .unset] [(.int p4), (.ref b12), (.ref b12)]))
  refine go (fun _ q => XS.iload X12.here hx rfl (hb hby at_59) rfl q) ?_
  show Go p e below _ (T12.setTop (mkF m 61 #[.val (.int p1), .val (.int p2), .val (.int p3), .val (.int p4), .val (.long q5), .second, .val (.long q6), .second, .val (.int z3), .val (.int z6), .val (.int z9), .val (.ref b10), .unset, .unset, .unset, .unset, .unset, .unset, .unset] [(.int z9), (.int p4), (.ref b12), (.ref b12)]))
  refine go (fun _ q => XS.iload X12.here hx rfl (hb hby at_61) rfl q) ?_
  show Go p e below _ (T12.setTop (mkF m 63 #[.val (.int p1), .val (.int p2), .val (.int p3), .val (.int p4), .val (.long q5), .second, .val (.long q6), .second, .val (.int z3), .val (.int z6), .val (.int z9), .val (.ref b10), .unset, .unset, .unset, .unset, .unset, .unset, .unset] [(.int z6), (.int z9), (.int p4), (.ref b12), (.ref b12)]))
  refine go (fun _ q => XS.lload X12.here hx rfl (hb hby at_63) rfl q) ?_
  show Go p e below _ (T12.setTop (mkF m 65 #[.val (.int p1), .val (.int p2), .val (.int p3), .val (.int p4), .val (.long q5), .second, .val (.long q6), .second, .val (.int z3), .val (.int z6), .val (.int z9), .val (.ref b10), .unset, .unset, .unset, .unset, .unset, .unset, .unset] [(.long q6), (.int z6), (.int z9), (.int p4), (.ref b12), (.ref b12)]))
  refine own_callC X12 hx hZ hown e12 (hw _ (List.mem_of_getElem? (i := 3) rfl)) (hw _ (List.mem_of_getElem? (i := 4) rfl)) (hw _ (List.mem_of_getElem? (i := 2) rfl)) (hw _ (List.mem_of_getElem? (i := 5) rfl)) (rm1 l Z a0 hw [] b12 p4 z9 z6 q6 h12 n0 Z12 g_b12 A12 F_node_b12 F_replacements_b12 F_lost_b12 F_incarnation_b12) rfl (by decide) (by decide) (W := 1) (by decide) (by decide) (by decide) (a := b12) (g := (mkF m 65 #[.val (.int p1), .val (.int p2), .val (.int p3), .val (.int p4), .val (.long q5), .second, .val (.long q6), .second, .val (.int z3), .val (.int z6), .val (.int z9), .val (.ref b10), .unset, .unset, .unset, .unset, .unset, .unset, .unset] [(.long q6), (.int z6), (.int z9), (.int p4), (.ref b12), (.ref b12)])) rfl (by rw [hml]; rfl) (argsL := [(.int p4), (.int z9), (.int z6), (.long q6)]) (rest := [(.ref b12)]) rfl rfl (lenOf pd_0_0 rfl) (by show 2 * 0 + _ ≤ _; exact Nat.le_of_eq rfl) (hb hby at_65) ?_
  rintro _ T18 L18 X18 ⟨rfl, N18q, K18, E18, F18_0, F18_1, F18_2, F18_3⟩
  have N18 := Fr.app N11 N18q
  have Z18 : n0 ≤ T18.heap.size := Nat.le_trans Z12 K18.1
  have E_b10_19 : Exa Z T18.heap b10 "quorate/tcp/Wire$Standing" := E_b10_13.keep K18
  have F_node_b10_20 : Fld Z T18.heap b10 "quorate/tcp/Wire$Standing" "node" "I" (.int p4) := F_node_b10_14.keep K18 (ninS ne_b10_b12 nin0)
  have F_replacements_b10_21 : Fld Z T18.heap b10 "quorate/tcp/Wire$Standing" "replacements" "I" (.int p1) := F_replacements_b10_15.keep K18 (ninS ne_b10_b12 nin0)
  have F_lost_b10_22 : Fld Z T18.heap b10 "quorate/tcp/Wire$Standing" "lost" "Z" (.int (nar .boolean z3)) := F_lost_b10_16.keep K18 (ninS ne_b10_b12 nin0)
  have F_incarnation_b10_23 : Fld Z T18.heap b10 "quorate/tcp/Wire$Standing" "incarnation" "J" (.long q5) := F_incarnation_b10_17.keep K18 (ninS ne_b10_b12 nin0)
  show Go p e below _ (T18.setTop (mkF m 68 #[.val (.int p1), .val (.int p2), .val (.int p3), .val (.int p4), .val (.long q5), .second, .val (.long q6), .second, .val (.int z3), .val (.int z6), .val (.int z9), .val (.ref b10), .unset, .unset, .unset, .unset, .unset, .unset, .unset] [(.ref b12)]))
  refine go (fun _ q => XS.astore X18.here hx rfl (hb hby at_68) rfl rfl (l' := #[.val (.int p1), .val (.int p2), .val (.int p3), .val (.int p4), .val (.long q5), .second, .val (.long q6), .second, .val (.int z3), .val (.int z6), .val (.int z9), .val (.ref b10), .val (.ref b12), .unset, .unset, .unset, .unset, .unset, .unset]) rfl q) ?_
  show Go p e below _ (T18.setTop (mkF m 70 #[.val (.int p1), .val (.int p2), .val (.int p3), .val (.int p4), .val (.long q5), .second, .val (.long q6), .second, .val (.int z3), .val (.int z6), .val (.int z9), .val (.ref b10), .val (.ref b12), .unset, .unset, .unset, .unset, .unset, .unset] []))
  refine go (fun _ q => XS.iloadN X18.here hx rfl (hb hby at_70) rfl q) ?_
  show Go p e below _ (T18.setTop (mkF m 71 #[.val (.int p1), .val (.int p2), .val (.int p3), .val (.int p4), .val (.long q5), .second, .val (.long q6), .second, .val (.int z3), .val (.int z6), .val (.int z9), .val (.ref b10), .val (.ref b12), .unset, .unset, .unset, .unset, .unset, .unset] [(.int p1)]))
  refine go (fun _ q => XS.iload X18.here hx rfl (hb hby at_71) rfl q) ?_
  show Go p e below _ (T18.setTop (mkF m 73 #[.val (.int p1), .val (.int p2), .val (.int p3), .val (.int p4), .val (.long q5), .second, .val (.long q6), .second, .val (.int z3), .val (.int z6), .val (.int z9), .val (.ref b10), .val (.ref b12), .unset, .unset, .unset, .unset, .unset, .unset] [(.int z3), (.int p1)]))
  refine own_callS X18 hx hZ hown rfl (hw _ (List.mem_of_getElem? (i := 22) rfl)) (hw _ (List.mem_of_getElem? (i := 23) rfl)) (hw _ (List.mem_of_getElem? (i := 24) rfl)) (hw _ (List.mem_of_getElem? (i := 25) rfl)) (rm4 l Z a0 hw [] p1 z3 T18.heap n0) (by decide) (by decide) (W := 0) (by decide) (by decide) (by decide) (g := (mkF m 73 #[.val (.int p1), .val (.int p2), .val (.int p3), .val (.int p4), .val (.long q5), .second, .val (.long q6), .second, .val (.int z3), .val (.int z6), .val (.int z9), .val (.ref b10), .val (.ref b12), .unset, .unset, .unset, .unset, .unset, .unset] [(.int z3), (.int p1)])) rfl (by rw [hml]; rfl) (argsL := [(.int p1), (.int z3)]) (rest := []) rfl rfl (lenOf pd_0_1 rfl) (by show 2 * 0 + _ ≤ _; exact Nat.le_of_eq rfl) (hb hby at_73) ?_
  rintro _ T24 L24 X24 ⟨rfl, N24q, e24⟩
  have N24 := Fr.app N18 N24q
  show Go p e below _ (T24.setTop (mkF m 76 #[.val (.int p1), .val (.int p2), .val (.int p3), .val (.int p4), .val (.long q5), .second, .val (.long q6), .second, .val (.int z3), .val (.int z6), .val (.int z9), .val (.ref b10), .val (.ref b12), .unset, .unset, .unset, .unset, .unset, .unset] [(.long (f4 p1 z3))]))
  generalize hv25 : (f4 p1 z3) = v25
  show Go p e below _ (T24.setTop (mkF m 76 #[.val (.int p1), .val (.int p2), .val (.int p3), .val (.int p4), .val (.long q5), .second, .val (.long q6), .second, .val (.int z3), .val (.int z6), .val (.int z9), .val (.ref b10), .val (.ref b12), .unset, .unset, .unset, .unset, .unset, .unset] [(.long v25)]))
  refine go (fun _ q => XS.lstore X24.here hx rfl (hb hby at_76) rfl (l' := #[.val (.int p1), .val (.int p2), .val (.int p3), .val (.int p4), .val (.long q5), .second, .val (.long q6), .second, .val (.int z3), .val (.int z6), .val (.int z9), .val (.ref b10), .val (.ref b12), .val (.long v25), .second, .unset, .unset, .unset, .unset]) rfl q) ?_
  show Go p e below _ (T24.setTop (mkF m 78 #[.val (.int p1), .val (.int p2), .val (.int p3), .val (.int p4), .val (.long q5), .second, .val (.long q6), .second, .val (.int z3), .val (.int z6), .val (.int z9), .val (.ref b10), .val (.ref b12), .val (.long v25), .second, .unset, .unset, .unset, .unset] []))
  refine go (fun _ q => XS.iload X24.here hx rfl (hb hby at_78) rfl q) ?_
  show Go p e below _ (T24.setTop (mkF m 80 #[.val (.int p1), .val (.int p2), .val (.int p3), .val (.int p4), .val (.long q5), .second, .val (.long q6), .second, .val (.int z3), .val (.int z6), .val (.int z9), .val (.ref b10), .val (.ref b12), .val (.long v25), .second, .unset, .unset, .unset, .unset] [(.int z9)]))
  refine go (fun _ q => XS.iload X24.here hx rfl (hb hby at_80) rfl q) ?_
  show Go p e below _ (T24.setTop (mkF m 82 #[.val (.int p1), .val (.int p2), .val (.int p3), .val (.int p4), .val (.long q5), .second, .val (.long q6), .second, .val (.int z3), .val (.int z6), .val (.int z9), .val (.ref b10), .val (.ref b12), .val (.long v25), .second, .unset, .unset, .unset, .unset] [(.int z6), (.int z9)]))
  refine own_callS X24 hx hZ hown e24 (hw _ (List.mem_of_getElem? (i := 22) rfl)) (hw _ (List.mem_of_getElem? (i := 23) rfl)) (hw _ (List.mem_of_getElem? (i := 24) rfl)) (hw _ (List.mem_of_getElem? (i := 25) rfl)) (rm4 l Z a0 hw [] z9 z6 T18.heap n0) (by decide) (by decide) (W := 0) (by decide) (by decide) (by decide) (g := (mkF m 82 #[.val (.int p1), .val (.int p2), .val (.int p3), .val (.int p4), .val (.long q5), .second, .val (.long q6), .second, .val (.int z3), .val (.int z6), .val (.int z9), .val (.ref b10), .val (.ref b12), .val (.long v25), .second, .unset, .unset, .unset, .unset] [(.int z6), (.int z9)])) rfl (by rw [hml]; rfl) (argsL := [(.int z9), (.int z6)]) (rest := []) rfl rfl (lenOf pd_0_1 rfl) (by show 2 * 0 + _ ≤ _; exact Nat.le_of_eq rfl) (hb hby at_82) ?_
  rintro _ T26 L26 X26 ⟨rfl, N26q, e26⟩
  have N26 := Fr.app N24 N26q
  show Go p e below _ (T26.setTop (mkF m 85 #[.val (.int p1), .val (.int p2), .val (.int p3), .val (.int p4), .val (.long q5), .second, .val (.long q6), .second, .val (.int z3), .val (.int z6), .val (.int z9), .val (.ref b10), .val (.ref b12), .val (.long v25), .second, .unset, .unset, .unset, .unset] [(.long (f4 z9 z6))]))
  generalize hv27 : (f4 z9 z6) = v27
  show Go p e below _ (T26.setTop (mkF m 85 #[.val (.int p1), .val (.int p2), .val (.int p3), .val (.int p4), .val (.long q5), .second, .val (.long q6), .second, .val (.int z3), .val (.int z6), .val (.int z9), .val (.ref b10), .val (.ref b12), .val (.long v25), .second, .unset, .unset, .unset, .unset] [(.long v27)]))
  refine go (fun _ q => XS.lstore X26.here hx rfl (hb hby at_85) rfl (l' := #[.val (.int p1), .val (.int p2), .val (.int p3), .val (.int p4), .val (.long q5), .second, .val (.long q6), .second, .val (.int z3), .val (.int z6), .val (.int z9), .val (.ref b10), .val (.ref b12), .val (.long v25), .second, .val (.long v27), .second, .unset, .unset]) rfl q) ?_
  show Go p e below _ (T26.setTop (mkF m 87 #[.val (.int p1), .val (.int p2), .val (.int p3), .val (.int p4), .val (.long q5), .second, .val (.long q6), .second, .val (.int z3), .val (.int z6), .val (.int z9), .val (.ref b10), .val (.ref b12), .val (.long v25), .second, .val (.long v27), .second, .unset, .unset] []))
  refine go (fun _ q => XS.aload X26.here hx rfl (hb hby at_87) rfl rfl q) ?_
  show Go p e below _ (T26.setTop (mkF m 89 #[.val (.int p1), .val (.int p2), .val (.int p3), .val (.int p4), .val (.long q5), .second, .val (.long q6), .second, .val (.int z3), .val (.int z6), .val (.int z9), .val (.ref b10), .val (.ref b12), .val (.long v25), .second, .val (.long v27), .second, .unset, .unset] [(.ref b10)]))
  refine go (fun _ q => XS.aload X26.here hx rfl (hb hby at_89) rfl rfl q) ?_
  show Go p e below _ (T26.setTop (mkF m 91 #[.val (.int p1), .val (.int p2), .val (.int p3), .val (.int p4), .val (.long q5), .second, .val (.long q6), .second, .val (.int z3), .val (.int z6), .val (.int z9), .val (.ref b10), .val (.ref b12), .val (.long v25), .second, .val (.long v27), .second, .unset, .unset] [(.ref b12), (.ref b10)]))
  refine own_callV X26 hx hZ hown e26 (hw _ (List.mem_of_getElem? (i := 27) rfl)) (hw _ (List.mem_of_getElem? (i := 28) rfl)) (hw _ (List.mem_of_getElem? (i := 29) rfl)) (hw _ (List.mem_of_getElem? (i := 30) rfl)) (hw _ (List.mem_of_getElem? (i := 2) rfl)) (hw _ (List.mem_of_getElem? (i := 31) rfl)) (rm5 l Z a0 hw [] b10 b12 T18.heap n0 F_replacements_b10_21 F_lost_b10_22 F18_1 F18_2) (by decide) (by decide) (W := 0) (by decide) (by decide) (by decide) (a := b10) E_b10_19 (g := (mkF m 91 #[.val (.int p1), .val (.int p2), .val (.int p3), .val (.int p4), .val (.long q5), .second, .val (.long q6), .second, .val (.int z3), .val (.int z6), .val (.int z9), .val (.ref b10), .val (.ref b12), .val (.long v25), .second, .val (.long v27), .second, .unset, .unset] [(.ref b12), (.ref b10)])) rfl (by rw [hml]; rfl) (argsL := [(.ref b12)]) (rest := []) rfl rfl (lenOf pd_0_2 rfl) (by show 2 * 0 + _ ≤ _; exact Nat.le_of_eq rfl) (hb hby at_91) ?_
  rintro _ T28 L28 X28 ⟨rfl, N28q, e28⟩
  have N28 := Fr.app N26 N28q
  show Go p e below _ (T28.setTop (mkF m 94 #[.val (.int p1), .val (.int p2), .val (.int p3), .val (.int p4), .val (.long q5), .second, .val (.long q6), .second, .val (.int z3), .val (.int z6), .val (.int z9), .val (.ref b10), .val (.ref b12), .val (.long v25), .second, .val (.long v27), .second, .unset, .unset] [(.int (f5 p1 (nar .boolean z3) z9 (nar .boolean z6)))]))
  generalize hv29 : (f5 p1 (nar .boolean z3) z9 (nar .boolean z6)) = v29
  show Go p e below _ (T28.setTop (mkF m 94 #[.val (.int p1), .val (.int p2), .val (.int p3), .val (.int p4), .val (.long q5), .second, .val (.long q6), .second, .val (.int z3), .val (.int z6), .val (.int z9), .val (.ref b10), .val (.ref b12), .val (.long v25), .second, .val (.long v27), .second, .unset, .unset] [(.int v29)]))
  refine go (fun _ q => XS.istore X28.here hx rfl (hb hby at_94) rfl (l' := #[.val (.int p1), .val (.int p2), .val (.int p3), .val (.int p4), .val (.long q5), .second, .val (.long q6), .second, .val (.int z3), .val (.int z6), .val (.int z9), .val (.ref b10), .val (.ref b12), .val (.long v25), .second, .val (.long v27), .second, .val (.int v29), .unset]) rfl q) ?_
  show Go p e below _ (T28.setTop (mkF m 96 #[.val (.int p1), .val (.int p2), .val (.int p3), .val (.int p4), .val (.long q5), .second, .val (.long q6), .second, .val (.int z3), .val (.int z6), .val (.int z9), .val (.ref b10), .val (.ref b12), .val (.long v25), .second, .val (.long v27), .second, .val (.int v29), .unset] []))
  refine go (fun _ q => XS.aload X28.here hx rfl (hb hby at_96) rfl rfl q) ?_
  show Go p e below _ (T28.setTop (mkF m 98 #[.val (.int p1), .val (.int p2), .val (.int p3), .val (.int p4), .val (.long q5), .second, .val (.long q6), .second, .val (.int z3), .val (.int z6), .val (.int z9), .val (.ref b10), .val (.ref b12), .val (.long v25), .second, .val (.long v27), .second, .val (.int v29), .unset] [(.ref b12)]))
  refine go (fun _ q => XS.aload X28.here hx rfl (hb hby at_98) rfl rfl q) ?_
  show Go p e below _ (T28.setTop (mkF m 100 #[.val (.int p1), .val (.int p2), .val (.int p3), .val (.int p4), .val (.long q5), .second, .val (.long q6), .second, .val (.int z3), .val (.int z6), .val (.int z9), .val (.ref b10), .val (.ref b12), .val (.long v25), .second, .val (.long v27), .second, .val (.int v29), .unset] [(.ref b10), (.ref b12)]))
  refine own_callV X28 hx hZ hown e28 (hw _ (List.mem_of_getElem? (i := 27) rfl)) (hw _ (List.mem_of_getElem? (i := 28) rfl)) (hw _ (List.mem_of_getElem? (i := 29) rfl)) (hw _ (List.mem_of_getElem? (i := 30) rfl)) (hw _ (List.mem_of_getElem? (i := 2) rfl)) (hw _ (List.mem_of_getElem? (i := 31) rfl)) (rm5 l Z a0 hw [] b12 b10 T18.heap n0 F18_1 F18_2 F_replacements_b10_21 F_lost_b10_22) (by decide) (by decide) (W := 0) (by decide) (by decide) (by decide) (a := b12) E18 (g := (mkF m 100 #[.val (.int p1), .val (.int p2), .val (.int p3), .val (.int p4), .val (.long q5), .second, .val (.long q6), .second, .val (.int z3), .val (.int z6), .val (.int z9), .val (.ref b10), .val (.ref b12), .val (.long v25), .second, .val (.long v27), .second, .val (.int v29), .unset] [(.ref b10), (.ref b12)])) rfl (by rw [hml]; rfl) (argsL := [(.ref b10)]) (rest := []) rfl rfl (lenOf pd_0_2 rfl) (by show 2 * 0 + _ ≤ _; exact Nat.le_of_eq rfl) (hb hby at_100) ?_
  rintro _ T30 L30 X30 ⟨rfl, N30q, e30⟩
  have N30 := Fr.app N28 N30q
  show Go p e below _ (T30.setTop (mkF m 103 #[.val (.int p1), .val (.int p2), .val (.int p3), .val (.int p4), .val (.long q5), .second, .val (.long q6), .second, .val (.int z3), .val (.int z6), .val (.int z9), .val (.ref b10), .val (.ref b12), .val (.long v25), .second, .val (.long v27), .second, .val (.int v29), .unset] [(.int (f5 z9 (nar .boolean z6) p1 (nar .boolean z3)))]))
  generalize hv31 : (f5 z9 (nar .boolean z6) p1 (nar .boolean z3)) = v31
  show Go p e below _ (T30.setTop (mkF m 103 #[.val (.int p1), .val (.int p2), .val (.int p3), .val (.int p4), .val (.long q5), .second, .val (.long q6), .second, .val (.int z3), .val (.int z6), .val (.int z9), .val (.ref b10), .val (.ref b12), .val (.long v25), .second, .val (.long v27), .second, .val (.int v29), .unset] [(.int v31)]))
  refine go (fun _ q => XS.istore X30.here hx rfl (hb hby at_103) rfl (l' := #[.val (.int p1), .val (.int p2), .val (.int p3), .val (.int p4), .val (.long q5), .second, .val (.long q6), .second, .val (.int z3), .val (.int z6), .val (.int z9), .val (.ref b10), .val (.ref b12), .val (.long v25), .second, .val (.long v27), .second, .val (.int v29), .val (.int v31)]) rfl q) ?_
  show Go p e below _ (T30.setTop (mkF m 105 #[.val (.int p1), .val (.int p2), .val (.int p3), .val (.int p4), .val (.long q5), .second, .val (.long q6), .second, .val (.int z3), .val (.int z6), .val (.int z9), .val (.ref b10), .val (.ref b12), .val (.long v25), .second, .val (.long v27), .second, .val (.int v29), .val (.int v31)] []))
  refine go (fun _ q => XS.iload X30.here hx rfl (hb hby at_105) rfl q) ?_
  show Go p e below _ (T30.setTop (mkF m 107 #[.val (.int p1), .val (.int p2), .val (.int p3), .val (.int p4), .val (.long q5), .second, .val (.long q6), .second, .val (.int z3), .val (.int z6), .val (.int z9), .val (.ref b10), .val (.ref b12), .val (.long v25), .second, .val (.long v27), .second, .val (.int v29), .val (.int v31)] [(.int v29)]))
  refine go (fun _ q => XS.lload X30.here hx rfl (hb hby at_107) rfl q) ?_
  show Go p e below _ (T30.setTop (mkF m 109 #[.val (.int p1), .val (.int p2), .val (.int p3), .val (.int p4), .val (.long q5), .second, .val (.long q6), .second, .val (.int z3), .val (.int z6), .val (.int z9), .val (.ref b10), .val (.ref b12), .val (.long v25), .second, .val (.long v27), .second, .val (.int v29), .val (.int v31)] [(.long v25), (.int v29)]))
  refine go (fun _ q => XS.lload X30.here hx rfl (hb hby at_109) rfl q) ?_
  show Go p e below _ (T30.setTop (mkF m 111 #[.val (.int p1), .val (.int p2), .val (.int p3), .val (.int p4), .val (.long q5), .second, .val (.long q6), .second, .val (.int z3), .val (.int z6), .val (.int z9), .val (.ref b10), .val (.ref b12), .val (.long v25), .second, .val (.long v27), .second, .val (.int v29), .val (.int v31)] [(.long v27), (.long v25), (.int v29)]))
  refine go (fun _ q => XS.lcmp X30.here hx rfl (hb hby at_111) rfl q) ?_
  show Go p e below _ (T30.setTop (mkF m 112 #[.val (.int p1), .val (.int p2), .val (.int p3), .val (.int p4), .val (.long q5), .second, .val (.long q6), .second, .val (.int z3), .val (.int z6), .val (.int z9), .val (.ref b10), .val (.ref b12), .val (.long v25), .second, .val (.long v27), .second, .val (.int v29), .val (.int v31)] [(.int (lcmpW v25 v27)), (.int v29)]))
  suffices hj32 : ∀ (z34 : Int32), z34 = (if v27 < v25 then (1 : Int32) else (0 : Int32)) → Go p e below (Dn below s ((Q0 n0)) room_1.cells room_1.slots) (T30.setTop (mkF m 120 #[.val (.int p1), .val (.int p2), .val (.int p3), .val (.int p4), .val (.long q5), .second, .val (.long q6), .second, .val (.int z3), .val (.int z6), .val (.int z9), .val (.ref b10), .val (.ref b12), .val (.long v25), .second, .val (.long v27), .second, .val (.int v29), .val (.int v31)] [(.int z34), (.int v29)])) by
    by_cases hc33 : v27 < v25
    · refine go (fun _ q => XS.ifNo X30.here hx rfl (hb hby at_112) rfl ((if0 _ _).trans (tlt ((lw_gt _ _).mpr hc33)).2.2.2) q) ?_
      show Go p e below _ (T30.setTop (mkF m 115 #[.val (.int p1), .val (.int p2), .val (.int p3), .val (.int p4), .val (.long q5), .second, .val (.long q6), .second, .val (.int z3), .val (.int z6), .val (.int z9), .val (.ref b10), .val (.ref b12), .val (.long v25), .second, .val (.long v27), .second, .val (.int v29), .val (.int v31)] [(.int v29)]))
      refine go (fun _ q => XS.iconst X30.here hx rfl (hb hby at_115) q) ?_
      show Go p e below _ (T30.setTop (mkF m 116 #[.val (.int p1), .val (.int p2), .val (.int p3), .val (.int p4), .val (.long q5), .second, .val (.long q6), .second, .val (.int z3), .val (.int z6), .val (.int z9), .val (.ref b10), .val (.ref b12), .val (.long v25), .second, .val (.long v27), .second, .val (.int v29), .val (.int v31)] [(.int (1 : Int32)), (.int v29)]))
      refine go (fun _ q => XS.goto X30.here hx rfl (pc0 := 116) (pc' := 120) rfl (hb hby at_116) (by decide) (by decide) q) ?_
      show Go p e below _ (T30.setTop (mkF m 120 #[.val (.int p1), .val (.int p2), .val (.int p3), .val (.int p4), .val (.long q5), .second, .val (.long q6), .second, .val (.int z3), .val (.int z6), .val (.int z9), .val (.ref b10), .val (.ref b12), .val (.long v25), .second, .val (.long v27), .second, .val (.int v29), .val (.int v31)] [(.int (1 : Int32)), (.int v29)]))
      exact hj32 _ (by rw [if_pos hc33])
    · refine go (fun _ q => XS.ifYes X30.here hx rfl (pc0 := 112) (pc' := 119) rfl (hb hby at_112) rfl ((if0 _ _).trans (flt (fun q => hc33 ((lw_gt _ _).mp q))).2.2.2) (by decide) (by decide) q) ?_
      show Go p e below _ (T30.setTop (mkF m 119 #[.val (.int p1), .val (.int p2), .val (.int p3), .val (.int p4), .val (.long q5), .second, .val (.long q6), .second, .val (.int z3), .val (.int z6), .val (.int z9), .val (.ref b10), .val (.ref b12), .val (.long v25), .second, .val (.long v27), .second, .val (.int v29), .val (.int v31)] [(.int v29)]))
      refine go (fun _ q => XS.iconst X30.here hx rfl (hb hby at_119) q) ?_
      show Go p e below _ (T30.setTop (mkF m 120 #[.val (.int p1), .val (.int p2), .val (.int p3), .val (.int p4), .val (.long q5), .second, .val (.long q6), .second, .val (.int z3), .val (.int z6), .val (.int z9), .val (.ref b10), .val (.ref b12), .val (.long v25), .second, .val (.long v27), .second, .val (.int v29), .val (.int v31)] [(.int (0 : Int32)), (.int v29)]))
      exact hj32 _ (by rw [if_neg hc33])
  intro z34 hz34
  show Go p e below _ (T30.setTop (mkF m 120 #[.val (.int p1), .val (.int p2), .val (.int p3), .val (.int p4), .val (.long q5), .second, .val (.long q6), .second, .val (.int z3), .val (.int z6), .val (.int z9), .val (.ref b10), .val (.ref b12), .val (.long v25), .second, .val (.long v27), .second, .val (.int v29), .val (.int v31)] [(.int z34), (.int v29)]))
  have hk35 : v29 = z34 := by rw [← hv29]; exact own_after (own_bit hz3) (own_bit hz6) hv25 hv27 hz34
  refine go (fun _ q => XS.icmpNo X30.here hx rfl (hb hby at_120) rfl (teq hk35).2 q) ?_
  show Go p e below _ (T30.setTop (mkF m 123 #[.val (.int p1), .val (.int p2), .val (.int p3), .val (.int p4), .val (.long q5), .second, .val (.long q6), .second, .val (.int z3), .val (.int z6), .val (.int z9), .val (.ref b10), .val (.ref b12), .val (.long v25), .second, .val (.long v27), .second, .val (.int v29), .val (.int v31)] []))
  refine go (fun _ q => XS.iload X30.here hx rfl (hb hby at_123) rfl q) ?_
  show Go p e below _ (T30.setTop (mkF m 125 #[.val (.int p1), .val (.int p2), .val (.int p3), .val (.int p4), .val (.long q5), .second, .val (.long q6), .second, .val (.int z3), .val (.int z6), .val (.int z9), .val (.ref b10), .val (.ref b12), .val (.long v25), .second, .val (.long v27), .second, .val (.int v29), .val (.int v31)] [(.int v31)]))
  refine go (fun _ q => XS.lload X30.here hx rfl (hb hby at_125) rfl q) ?_
  show Go p e below _ (T30.setTop (mkF m 127 #[.val (.int p1), .val (.int p2), .val (.int p3), .val (.int p4), .val (.long q5), .second, .val (.long q6), .second, .val (.int z3), .val (.int z6), .val (.int z9), .val (.ref b10), .val (.ref b12), .val (.long v25), .second, .val (.long v27), .second, .val (.int v29), .val (.int v31)] [(.long v27), (.int v31)]))
  refine go (fun _ q => XS.lload X30.here hx rfl (hb hby at_127) rfl q) ?_
  show Go p e below _ (T30.setTop (mkF m 129 #[.val (.int p1), .val (.int p2), .val (.int p3), .val (.int p4), .val (.long q5), .second, .val (.long q6), .second, .val (.int z3), .val (.int z6), .val (.int z9), .val (.ref b10), .val (.ref b12), .val (.long v25), .second, .val (.long v27), .second, .val (.int v29), .val (.int v31)] [(.long v25), (.long v27), (.int v31)]))
  refine go (fun _ q => XS.lcmp X30.here hx rfl (hb hby at_129) rfl q) ?_
  show Go p e below _ (T30.setTop (mkF m 130 #[.val (.int p1), .val (.int p2), .val (.int p3), .val (.int p4), .val (.long q5), .second, .val (.long q6), .second, .val (.int z3), .val (.int z6), .val (.int z9), .val (.ref b10), .val (.ref b12), .val (.long v25), .second, .val (.long v27), .second, .val (.int v29), .val (.int v31)] [(.int (lcmpW v27 v25)), (.int v31)]))
  suffices hj36 : ∀ (z38 : Int32), z38 = (if v25 < v27 then (1 : Int32) else (0 : Int32)) → Go p e below (Dn below s ((Q0 n0)) room_1.cells room_1.slots) (T30.setTop (mkF m 138 #[.val (.int p1), .val (.int p2), .val (.int p3), .val (.int p4), .val (.long q5), .second, .val (.long q6), .second, .val (.int z3), .val (.int z6), .val (.int z9), .val (.ref b10), .val (.ref b12), .val (.long v25), .second, .val (.long v27), .second, .val (.int v29), .val (.int v31)] [(.int z38), (.int v31)])) by
    by_cases hc37 : v25 < v27
    · refine go (fun _ q => XS.ifNo X30.here hx rfl (hb hby at_130) rfl ((if0 _ _).trans (tlt ((lw_gt _ _).mpr hc37)).2.2.2) q) ?_
      show Go p e below _ (T30.setTop (mkF m 133 #[.val (.int p1), .val (.int p2), .val (.int p3), .val (.int p4), .val (.long q5), .second, .val (.long q6), .second, .val (.int z3), .val (.int z6), .val (.int z9), .val (.ref b10), .val (.ref b12), .val (.long v25), .second, .val (.long v27), .second, .val (.int v29), .val (.int v31)] [(.int v31)]))
      refine go (fun _ q => XS.iconst X30.here hx rfl (hb hby at_133) q) ?_
      show Go p e below _ (T30.setTop (mkF m 134 #[.val (.int p1), .val (.int p2), .val (.int p3), .val (.int p4), .val (.long q5), .second, .val (.long q6), .second, .val (.int z3), .val (.int z6), .val (.int z9), .val (.ref b10), .val (.ref b12), .val (.long v25), .second, .val (.long v27), .second, .val (.int v29), .val (.int v31)] [(.int (1 : Int32)), (.int v31)]))
      refine go (fun _ q => XS.goto X30.here hx rfl (pc0 := 134) (pc' := 138) rfl (hb hby at_134) (by decide) (by decide) q) ?_
      show Go p e below _ (T30.setTop (mkF m 138 #[.val (.int p1), .val (.int p2), .val (.int p3), .val (.int p4), .val (.long q5), .second, .val (.long q6), .second, .val (.int z3), .val (.int z6), .val (.int z9), .val (.ref b10), .val (.ref b12), .val (.long v25), .second, .val (.long v27), .second, .val (.int v29), .val (.int v31)] [(.int (1 : Int32)), (.int v31)]))
      exact hj36 _ (by rw [if_pos hc37])
    · refine go (fun _ q => XS.ifYes X30.here hx rfl (pc0 := 130) (pc' := 137) rfl (hb hby at_130) rfl ((if0 _ _).trans (flt (fun q => hc37 ((lw_gt _ _).mp q))).2.2.2) (by decide) (by decide) q) ?_
      show Go p e below _ (T30.setTop (mkF m 137 #[.val (.int p1), .val (.int p2), .val (.int p3), .val (.int p4), .val (.long q5), .second, .val (.long q6), .second, .val (.int z3), .val (.int z6), .val (.int z9), .val (.ref b10), .val (.ref b12), .val (.long v25), .second, .val (.long v27), .second, .val (.int v29), .val (.int v31)] [(.int v31)]))
      refine go (fun _ q => XS.iconst X30.here hx rfl (hb hby at_137) q) ?_
      show Go p e below _ (T30.setTop (mkF m 138 #[.val (.int p1), .val (.int p2), .val (.int p3), .val (.int p4), .val (.long q5), .second, .val (.long q6), .second, .val (.int z3), .val (.int z6), .val (.int z9), .val (.ref b10), .val (.ref b12), .val (.long v25), .second, .val (.long v27), .second, .val (.int v29), .val (.int v31)] [(.int (0 : Int32)), (.int v31)]))
      exact hj36 _ (by rw [if_neg hc37])
  intro z38 hz38
  show Go p e below _ (T30.setTop (mkF m 138 #[.val (.int p1), .val (.int p2), .val (.int p3), .val (.int p4), .val (.long q5), .second, .val (.long q6), .second, .val (.int z3), .val (.int z6), .val (.int z9), .val (.ref b10), .val (.ref b12), .val (.long v25), .second, .val (.long v27), .second, .val (.int v29), .val (.int v31)] [(.int z38), (.int v31)]))
  have hk39 : v31 = z38 := by rw [← hv31]; exact own_after (own_bit hz6) (own_bit hz3) hv27 hv25 hz38
  refine go (fun _ q => XS.icmpNo X30.here hx rfl (hb hby at_138) rfl (teq hk39).2 q) ?_
  show Go p e below _ (T30.setTop (mkF m 141 #[.val (.int p1), .val (.int p2), .val (.int p3), .val (.int p4), .val (.long q5), .second, .val (.long q6), .second, .val (.int z3), .val (.int z6), .val (.int z9), .val (.ref b10), .val (.ref b12), .val (.long v25), .second, .val (.long v27), .second, .val (.int v29), .val (.int v31)] []))
  refine go (fun _ q => XS.iconst X30.here hx rfl (hb hby at_141) q) ?_
  show Go p e below _ (T30.setTop (mkF m 142 #[.val (.int p1), .val (.int p2), .val (.int p3), .val (.int p4), .val (.long q5), .second, .val (.long q6), .second, .val (.int z3), .val (.int z6), .val (.int z9), .val (.ref b10), .val (.ref b12), .val (.long v25), .second, .val (.long v27), .second, .val (.int v29), .val (.int v31)] [(.int (1 : Int32))]))
  refine go (fun _ q => XS.goto X30.here hx rfl (pc0 := 142) (pc' := 146) rfl (hb hby at_142) (by decide) (by decide) q) ?_
  show Go p e below _ (T30.setTop (mkF m 146 #[.val (.int p1), .val (.int p2), .val (.int p3), .val (.int p4), .val (.long q5), .second, .val (.long q6), .second, .val (.int z3), .val (.int z6), .val (.int z9), .val (.ref b10), .val (.ref b12), .val (.long v25), .second, .val (.long v27), .second, .val (.int v29), .val (.int v31)] [(.int (1 : Int32))]))
  exact own_retZ (z' := (1 : Int32)) X30 hx hlk hret (hb hby at_146) (by decide) (by decide) rfl ⟨rfl, N30⟩
set_option maxRecDepth 65536 in
set_option maxHeartbeats 40000000 in
theorem comes_1 {Post : Tables → Env → Array Value → State → Outcome → State → Prop} (hpost : ∀ tb e args s v u, (limb_1_1.after args s (.returned v) u = true ∧ limb_1_2.after args s (.returned v) u = true ∧ True) → FrameEnd s (.returned v) u (Jvm.fieldLocs frame_1_writes args s ++ Jvm.arrayLocs frame_1_arrays args s ++ Jvm.staticLocs frame_1_statics s) 16 128 → Post tb e args s (.returned v) u) :
    ArmFor flags0 classFile x code maxLocals ret World_1 tables_1 room_1 Calls_1 rest_1 Pre_1 Post := by
  intro l hfl _ _ p e ha hc hk s m args below hf hA hF happ hP
  obtain ⟨hcalls, hrest, hpre⟩ := hP
  obtain ⟨-, -, -, hnamed, -, -, -, hat⟩ := (Spec.applies_iff hf).mp happ
  obtain ⟨hg, hn⟩ := and_e (Cond.before_iff.mp (show (Jvm.Cond.and given_1 narrow_1).before args s = true from hpre))
  obtain ⟨gc, g0⟩ := and_e hg
  obtain ⟨ga0, g1⟩ := and_e g0
  obtain ⟨ga1, g2⟩ := and_e g1
  obtain ⟨ga2, g3⟩ := and_e g2
  obtain ⟨ga3, g4⟩ := and_e g3
  obtain ⟨ga4, g5⟩ := and_e g4
  have ga5 := g5
  obtain ⟨w0, w1, w2, w3, w4, w5, rfl⟩ : ∃ w0 w1 w2 w3 w4 w5 : Value, args = #[w0, w1, w2, w3, w4, w5] := by
    have hs : args.size = 6 := by simpa [Cond.value, given_1] using gc
    obtain ⟨L⟩ := args
    match L, hs with
    | [w0, w1, w2, w3, w4, w5], _ => exact ⟨w0, w1, w2, w3, w4, w5, rfl⟩
  have hw := fun d (hd : d ∈ tables_1) => atoms_spec (ws := Jvm.Cond.code x code maxLocals ret :: tables_1) hat d (List.mem_cons_of_mem _ hd)
  obtain ⟨i0, ei0⟩ := is_v ga0
  obtain rfl : w0 = (.int i0) := Option.some.inj ei0
  obtain ⟨i1, ei1⟩ := is_v ga1
  obtain rfl : w1 = (.int i1) := Option.some.inj ei1
  obtain ⟨i2, ei2⟩ := is_v ga2
  obtain rfl : w2 = (.int i2) := Option.some.inj ei2
  obtain ⟨i3, ei3⟩ := is_v ga3
  obtain rfl : w3 = (.int i3) := Option.some.inj ei3
  obtain ⟨i4, ei4⟩ := isL_v ga4
  obtain rfl : w4 = (.long i4) := Option.some.inj ei4
  obtain ⟨i5, ei5⟩ := isL_v ga5
  obtain rfl : w5 = (.long i5) := Option.some.inj ei5
  obtain ⟨n, o, h1, h2, h3, _, L, rfl, ⟨rfl, N⟩, hq⟩ := rm0 l s _ hw tables_1 i0 i1 i2 i3 i4 i5 s.heap s.heap.size (Nat.le_refl _) p e ha hc hk s m _ below hf ((Spec.applies_iff_loose hf).mp happ).1 ⟨rfl, State.Warmed39.refl s, rfl⟩ trivial
  refine ⟨n, _, h1, h2, h3, hpost _ _ _ _ _ _ ⟨Cond.after_iff.mpr rfl, Cond.after_iff.mpr (eq_i res_at (Term.int_eval (1)) rfl), trivial⟩ ⟨hq.1, hq.2.1, (hq.2.2.sift fun y hy => Or.inr (N y hy)).mono (by decide) (by decide)⟩⟩
theorem main_1_1 : Claimed_1_1 := comes_1 fun _ _ _ _ _ _ h hF => ⟨h.1, hF⟩
theorem main_1_2 : Claimed_1_2 := comes_1 fun _ _ _ _ _ _ h hF => ⟨h.2.1, hF⟩
end Jvm.Pilot.@@N@@
namespace Jvm.Pilot.@@N@@
open Jvm Jvm.ClassFile Sem Op Lib Jvm.Free Jvm.Stand Jvm.Pilot.@@N@@.Jvm.D
/-! MADE BY PROGRAM (witnessworld.py) out of the Statement's table words and the real class files: 10 classes; the members and pool entries that the words name. The judged class is class 1, her method 2. -/
namespace start1
open Jvm.ClassFile
def u (s : String) : CpInfo := .utf8 (stringToUtf16 s)
/-- a pool by its gaps: so many unusable entries, then the entry; so many at the end -/
def gap : Nat → List CpInfo → List CpInfo
  | 0, r => r
  | n + 1, r => .unusable :: gap n r
def poolList (es : List (Nat × CpInfo)) (last : Nat) : List CpInfo := es.foldr (fun e r => gap e.1 (e.2 :: r)) (gap last [])
def pool (es : List (Nat × CpInfo)) (last : Nat) : Array CpInfo := ⟨poolList es last⟩
def fileOf (pool : Array CpInfo) (this : Nat) (attrs : Array Attribute := #[]) (ms : Array MethodInfo := #[]) (fl : Nat := 33) (sup : Nat := 0) (ifs : Array Nat := #[]) (fds : Array FieldInfo := #[]) : ClassFile where
  minorVersion := 0
  majorVersion := 65
  constantPool := pool
  accessFlags := fl
  thisClass := this
  superClass := sup
  interfaces := ifs
  fields := fds
  methods := ms
  attributes := attrs
def plain (name : String) (sup : Option ClassId) : Class where
  name := name
  kind := .ordinary
  loader := none
  accessFlags := 33
  super := sup
  interfaces := #[]
  cf := none
  fields := #[]
  methods := #[]
  instanceTypes := #[]
  staticTypes := #[]
  resolved := #[]
  callSites := []
  init := .initialized
  statics := none
  mirror := none

def pool0 : Array CpInfo := pool [(5, u "<init>"), (0, u "()V"), (1, .class_ 10), (1, u "java/lang/Object")] 113

def k0c0 : Code := { maxStack := 0, maxLocals := 1, code := object_method_1_code, exceptionTable := #[], attributes := #[] }
def k0m0 : Method := { name := "<init>", desc := "()V", sig := { parameters := [], returnType := none }, accessFlags := 1, code := some k0c0 }
/-- java/lang/Object -/
def k0 : Class := { plain "java/lang/Object" none with
  accessFlags := 33
  interfaces := #[]
  cf := some (fileOf pool0 8 #[] #[{ accessFlags := 1, nameIndex := 5, descriptorIndex := 6, attributes := #[] }] 33 0 #[] #[])
  fields := #[]
  methods := #[k0m0]
  instanceTypes := #[]
  staticTypes := #[]
  resolved := Array.replicate 124 none
  statics := none }

def pool1 : Array CpInfo := pool [(2, .class_ 4), (1, u "java/lang/Object"), (0, u "<init>"), (0, u "()V"), (0, .long 2), (1, .class_ 10), (0, u "quorate/tcp/Wire$Standing"), (0, .methodref 9 12), (0, .nameAndType 5 13), (0, u "(IIZJ)V"), (0, .methodref 15 16), (0, .class_ 17), (0, .nameAndType 18 19), (0, u "quorate/tcp/StandingAfterPinLaw"), (0, u "key"), (0, u "(IZ)J"), (0, .methodref 9 21), (0, .nameAndType 22 23), (0, u "after"), (0, u "(Lquorate/tcp/Wire$Standing;)Z"), (3, u "law"), (0, u "(IIIIJJ)Z")] 6

def k1m0 : Method := { name := "<init>", desc := "()V", sig := { parameters := [], returnType := none }, accessFlags := 2, code := none }
def k1c1 : Code := { maxStack := 4, maxLocals := 2, code := method_2_code, exceptionTable := #[], attributes := #[] }
def k1m1 : Method := { name := "key", desc := "(IZ)J", sig := { parameters := [.int, .boolean], returnType := some .long }, accessFlags := 10, code := some k1c1 }
def k1c2 : Code := { maxStack := 7, maxLocals := 19, code := code, exceptionTable := #[], attributes := #[] }
def k1m2 : Method := { name := "law", desc := "(IIIIJJ)Z", sig := { parameters := [.int, .int, .int, .int, .long, .long], returnType := some .boolean }, accessFlags := 9, code := some k1c2 }
/-- quorate/tcp/StandingAfterPinLaw -/
def k1 : Class := { plain "quorate/tcp/StandingAfterPinLaw" (some 0) with
  accessFlags := 49
  interfaces := #[]
  cf := some (fileOf pool1 15 #[] #[{ accessFlags := 2, nameIndex := 5, descriptorIndex := 6, attributes := #[] }, { accessFlags := 10, nameIndex := 18, descriptorIndex := 19, attributes := #[] }, { accessFlags := 9, nameIndex := 27, descriptorIndex := 28, attributes := #[] }] 49 2 #[] #[])
  fields := #[]
  methods := #[k1m0, k1m1, k1m2]
  instanceTypes := #[]
  staticTypes := #[]
  resolved := Array.replicate 35 none
  statics := none }

def pool2 : Array CpInfo := pool [(1, .methodref 2 3), (0, .class_ 4), (0, .nameAndType 5 6), (0, u "java/lang/Object"), (0, u "<init>"), (0, u "()V"), (0, .class_ 8), (0, u "java/lang/Record")] 13

def k2c0 : Code := { maxStack := 1, maxLocals := 1, code := jdk_30_method_1_code, exceptionTable := #[], attributes := #[] }
def k2m0 : Method := { name := "<init>", desc := "()V", sig := { parameters := [], returnType := none }, accessFlags := 4, code := some k2c0 }
/-- java/lang/Record -/
def k2 : Class := { plain "java/lang/Record" (some 0) with
  accessFlags := 1057
  interfaces := #[]
  cf := some (fileOf pool2 7 #[] #[{ accessFlags := 4, nameIndex := 5, descriptorIndex := 6, attributes := #[] }] 1057 2 #[] #[])
  fields := #[]
  methods := #[k2m0]
  instanceTypes := #[]
  staticTypes := #[]
  resolved := Array.replicate 22 none
  statics := none }

def pool3 : Array CpInfo := pool [(1, .methodref 2 3), (0, .class_ 4), (0, .nameAndType 5 6), (0, u "java/lang/Record"), (0, u "<init>"), (0, u "()V"), (0, .fieldref 8 9), (0, .class_ 10), (0, .nameAndType 11 12), (0, u "quorate/tcp/Wire$Standing"), (0, u "node"), (0, u "I"), (0, .fieldref 8 14), (0, .nameAndType 15 12), (0, u "replacements"), (0, .fieldref 8 17), (0, .nameAndType 18 19), (0, u "lost"), (0, u "Z"), (0, .fieldref 8 21), (0, .nameAndType 22 23), (0, u "incarnation"), (0, u "J"), (12, u "(IIZJ)V"), (3, u "after"), (0, u "(Lquorate/tcp/Wire$Standing;)Z"), (9, .class_ 52), (0, u "quorate/tcp/Wire")] 22

def k3c0 : Code := { maxStack := 3, maxLocals := 6, code := prog_271_method_1_code, exceptionTable := #[], attributes := #[] }
def k3m0 : Method := { name := "<init>", desc := "(IIZJ)V", sig := { parameters := [.int, .int, .boolean, .long], returnType := none }, accessFlags := 0, code := some k3c0 }
def k3c1 : Code := { maxStack := 2, maxLocals := 2, code := prog_271_method_2_code, exceptionTable := #[], attributes := #[] }
def k3m1 : Method := { name := "after", desc := "(Lquorate/tcp/Wire$Standing;)Z", sig := { parameters := [(.object "quorate/tcp/Wire$Standing")], returnType := some .boolean }, accessFlags := 0, code := some k3c1 }
/-- quorate/tcp/Wire$Standing -/
def k3 : Class := { plain "quorate/tcp/Wire$Standing" (some 2) with
  accessFlags := 48
  interfaces := #[]
  cf := some (fileOf pool3 8 #[.nestHost 51] #[{ accessFlags := 0, nameIndex := 5, descriptorIndex := 36, attributes := #[] }, { accessFlags := 0, nameIndex := 40, descriptorIndex := 41, attributes := #[] }] 48 2 #[] #[{ accessFlags := 18, nameIndex := 11, descriptorIndex := 12, attributes := #[] }, { accessFlags := 18, nameIndex := 15, descriptorIndex := 12, attributes := #[] }, { accessFlags := 18, nameIndex := 18, descriptorIndex := 19, attributes := #[] }, { accessFlags := 18, nameIndex := 22, descriptorIndex := 23, attributes := #[] }])
  fields := #[{ name := "node", type := .int, accessFlags := 18, slot := 0, constantValue := 0 }, { name := "replacements", type := .int, accessFlags := 18, slot := 1, constantValue := 0 }, { name := "lost", type := .boolean, accessFlags := 18, slot := 2, constantValue := 0 }, { name := "incarnation", type := .long, accessFlags := 18, slot := 3, constantValue := 0 }]
  methods := #[k3m0, k3m1]
  instanceTypes := #[.int, .int, .boolean, .long]
  staticTypes := #[]
  resolved := Array.replicate 75 none
  statics := none }

def pool4 : Array CpInfo := pool [(1, u "java/lang/Cloneable"), (0, .class_ 1), (0, u "java/lang/Object"), (0, .class_ 3)] 3

/-- java/lang/Cloneable -/
def k4 : Class := { plain "java/lang/Cloneable" (some 0) with
  accessFlags := 1537
  interfaces := #[]
  cf := some (fileOf pool4 2 #[] #[] 1537 4 #[] #[])
  fields := #[]
  methods := #[]
  instanceTypes := #[]
  staticTypes := #[]
  resolved := Array.replicate 8 none
  statics := none }

def pool5 : Array CpInfo := pool [(1, u "java/io/Serializable"), (0, .class_ 1), (0, u "java/lang/Object"), (0, .class_ 3)] 3

/-- java/io/Serializable -/
def k5 : Class := { plain "java/io/Serializable" (some 0) with
  accessFlags := 1537
  interfaces := #[]
  cf := some (fileOf pool5 2 #[] #[] 1537 4 #[] #[])
  fields := #[]
  methods := #[]
  instanceTypes := #[]
  staticTypes := #[]
  resolved := Array.replicate 8 none
  statics := none }

/-- the primitive byte -/
def k6 : Class := { plain "byte" none with kind := .primitive 'B', accessFlags := 0x411 }
/-- [B -/
def k7 : Class := { plain "[B" (some 0) with kind := .array 6 .byte, interfaces := #[4, 5], accessFlags := 1041 }

/-- the primitive int -/
def k8 : Class := { plain "int" none with kind := .primitive 'I', accessFlags := 0x411 }
/-- [I -/
def k9 : Class := { plain "[I" (some 0) with kind := .array 8 .int, interfaces := #[4, 5], accessFlags := 1041 }

def heap : Heap := #[]
def classes : Array Class := #[k0, k1, k2, k3, k4, k5, k6, k7, k8, k9]
def interned : List (Array UInt16 × Addr) := []
def slotsUsed : Nat := 0
def theMethod : MethodId := ⟨1, 2⟩
def args0 : Array Value := #[.int 5, .int 300, .int 7, .int 8, .long 9, .long 2]
def aboutOver (below : List Frame) : State where
  vm := { classes := classes, interned := interned.toArray }
  heap := heap
  slotsUsed := slotsUsed
  threads := #[{ frames := .invoking theMethod args0 :: below }]
def below0 : List Frame := [.native { method := ⟨0, 0⟩, args := #[] }]
def about1 : State := aboutOver below0
def p0 : Program := .bare "" "" ""
def e0 : Env := launch0.env 0 0 0
theorem w_frames : about1.frames = Frame.invoking theMethod args0 :: below0 := rfl
set_option maxRecDepth 65536 in
theorem w_args : argsFit about1.vm theMethod args0 = true := by decide +kernel
set_option maxRecDepth 65536 in
theorem w_heap : heapFits about1 = true := by decide +kernel
set_option maxRecDepth 65536 in
theorem w_runnable : about1.curStatus? = some .runnable := by decide +kernel
set_option maxRecDepth 65536 in
theorem w_alone : about1.alone = true := by decide +kernel
set_option maxRecDepth 65536 in
theorem w_named : about1.methodNamed? x = some theMethod := by decide +kernel
set_option maxRecDepth 65536 in
theorem w_hears : about1.hears theMethod below0 = true := by decide +kernel
set_option maxRecDepth 65536 in
theorem w_ripe : about1.ripe theMethod args0 below0 = true := by decide +kernel
theorem w_running : about1.status = .running := rfl
set_option maxRecDepth 65536 in
theorem w_room : about1.hasRoom e0.platform room_1 = true :=
  launch0.hasRoom_least _ room_1 (by decide +kernel) (by decide +kernel) (by decide +kernel) (by decide +kernel) (by decide +kernel) (by decide +kernel)
theorem allAtoms_all (ts : List Jvm.Cond) (a : Array Jvm.Value) (st : Jvm.State) : (allAtoms ts).before a st = ts.all (fun c => c.before a st) := by
  induction ts with
  | nil => rfl
  | cons c t ih =>
    show (Jvm.Cond.and c (allAtoms t)).before a st = _
    rw [Jvm.Cond.before_and, ih, List.all_cons]
def words1 : List Jvm.Cond := Jvm.Cond.code x code maxLocals ret :: tables_1
/-- a 'code' word, met by the world's own term for the bytes: nothing is compared byte by byte -/
theorem code_word {y : MethodName} {bytes : ByteArray} {mx : Nat} {rt : Option FieldType} {a : Array Value} {s : State} {m : MethodId} {meth : Method} {c : Code} (h1 : s.methodNamed? y = some m) (h2 : s.vm.method? m = some meth) (h3 : meth.code = some c) (h4 : c.code = bytes)
    (h5 : (c.maxLocals == mx && c.exceptionTable.isEmpty && decide (c.maxStack ≤ mostOperands) && decide (meth.sig.returnType = rt) && !meth.locks && decide (parseMethodDescriptor y.desc = some meth.sig)) = true) : (Jvm.Cond.code y bytes mx rt).before a s = true := by
  simp only [Bool.and_eq_true, beq_iff_eq, Bool.not_eq_true', decide_eq_true_eq] at h5
  obtain ⟨⟨⟨⟨⟨g1, g2⟩, g3⟩, g4⟩, g5⟩, g6⟩ := h5
  simp [Cond.before, Cond.holds, Cond.value, h1, h2, h3, h4, g1, g2, g3, g4, g5, g6]
def isCode : Jvm.Cond → Bool
  | .code _ _ _ _ => true
  | _ => false
theorem all_split {L : List Jvm.Cond} {P : Jvm.Cond → Bool} (h1 : L.all (fun c => isCode c || P c) = true) (h2 : ∀ c ∈ L.filter isCode, P c = true) : L.all P = true := by
  refine List.all_eq_true.mpr fun c hc => ?_
  have h := List.all_eq_true.mp h1 c hc
  rcases Bool.eq_false_or_eq_true (isCode c) with hi | hi
  · exact h2 c (List.mem_filter.mpr ⟨hc, hi⟩)
  · simpa [hi] using h
set_option maxRecDepth 65536 in
theorem w_c0 : (Jvm.Cond.code x code maxLocals ret).before args0 about1 = true := code_word (m := ⟨1, 2⟩) (meth := k1m2) (c := k1c2) (by decide +kernel) rfl rfl rfl (by decide +kernel)
set_option maxRecDepth 65536 in
theorem w_c1 : (Jvm.Cond.code ({ cls := "quorate/tcp/Wire$Standing", name := "<init>", desc := "(IIZJ)V" } : Jvm.MethodName) prog_271_method_1_code (6 : Nat) (Option.none : Option Jvm.ClassFile.FieldType)).before args0 about1 = true := code_word (m := ⟨3, 0⟩) (meth := k3m0) (c := k3c0) (by decide +kernel) rfl rfl rfl (by decide +kernel)
set_option maxRecDepth 65536 in
theorem w_c2 : (Jvm.Cond.code ({ cls := "java/lang/Record", name := "<init>", desc := "()V" } : Jvm.MethodName) jdk_30_method_1_code (1 : Nat) (Option.none : Option Jvm.ClassFile.FieldType)).before args0 about1 = true := code_word (m := ⟨2, 0⟩) (meth := k2m0) (c := k2c0) (by decide +kernel) rfl rfl rfl (by decide +kernel)
set_option maxRecDepth 65536 in
theorem w_c3 : (Jvm.Cond.code ({ cls := "java/lang/Object", name := "<init>", desc := "()V" } : Jvm.MethodName) object_method_1_code (1 : Nat) (Option.none : Option Jvm.ClassFile.FieldType)).before args0 about1 = true := code_word (m := ⟨0, 0⟩) (meth := k0m0) (c := k0c0) (by decide +kernel) rfl rfl rfl (by decide +kernel)
set_option maxRecDepth 65536 in
theorem w_c4 : (Jvm.Cond.code ({ cls := "quorate/tcp/StandingAfterPinLaw", name := "key", desc := "(IZ)J" } : Jvm.MethodName) method_2_code (2 : Nat) (Option.some Jvm.ClassFile.FieldType.long)).before args0 about1 = true := code_word (m := ⟨1, 1⟩) (meth := k1m1) (c := k1c1) (by decide +kernel) rfl rfl rfl (by decide +kernel)
set_option maxRecDepth 65536 in
theorem w_c5 : (Jvm.Cond.code ({ cls := "quorate/tcp/Wire$Standing", name := "after", desc := "(Lquorate/tcp/Wire$Standing;)Z" } : Jvm.MethodName) prog_271_method_2_code (2 : Nat) (Option.some Jvm.ClassFile.FieldType.boolean)).before args0 about1 = true := code_word (m := ⟨3, 1⟩) (meth := k3m1) (c := k3c1) (by decide +kernel) rfl rfl rfl (by decide +kernel)
def codes1 : List Jvm.Cond := [Jvm.Cond.code x code maxLocals ret, Jvm.Cond.code ({ cls := "quorate/tcp/Wire$Standing", name := "<init>", desc := "(IIZJ)V" } : Jvm.MethodName) prog_271_method_1_code (6 : Nat) (Option.none : Option Jvm.ClassFile.FieldType), Jvm.Cond.code ({ cls := "java/lang/Record", name := "<init>", desc := "()V" } : Jvm.MethodName) jdk_30_method_1_code (1 : Nat) (Option.none : Option Jvm.ClassFile.FieldType), Jvm.Cond.code ({ cls := "java/lang/Object", name := "<init>", desc := "()V" } : Jvm.MethodName) object_method_1_code (1 : Nat) (Option.none : Option Jvm.ClassFile.FieldType), Jvm.Cond.code ({ cls := "quorate/tcp/StandingAfterPinLaw", name := "key", desc := "(IZ)J" } : Jvm.MethodName) method_2_code (2 : Nat) (Option.some Jvm.ClassFile.FieldType.long), Jvm.Cond.code ({ cls := "quorate/tcp/Wire$Standing", name := "after", desc := "(Lquorate/tcp/Wire$Standing;)Z" } : Jvm.MethodName) prog_271_method_2_code (2 : Nat) (Option.some Jvm.ClassFile.FieldType.boolean)]
set_option maxRecDepth 65536 in
theorem codes_eq : words1.filter isCode = codes1 := rfl
theorem w_codes : ∀ c ∈ words1.filter isCode, c.before args0 about1 = true := by
  rw [codes_eq]
  intro c hc
  simp only [codes1, List.mem_cons, List.not_mem_nil, or_false] at hc
  rcases hc with rfl | rfl | rfl | rfl | rfl | rfl
  · exact w_c0
  · exact w_c1
  · exact w_c2
  · exact w_c3
  · exact w_c4
  · exact w_c5
set_option maxRecDepth 65536 in
theorem w_t1 : (words1.take 24).all (fun c => isCode c || c.before args0 about1) = true := by decide +kernel
set_option maxRecDepth 65536 in
theorem w_t2 : (words1.drop 24).all (fun c => isCode c || c.before args0 about1) = true := by decide +kernel
theorem w_tables : (allAtoms (Jvm.Cond.code x code maxLocals ret :: tables_1)).before args0 about1 = true := by
  rw [allAtoms_all]
  show words1.all (fun c => c.before args0 about1) = true
  refine all_split ?_ w_codes
  rw [← List.take_append_drop 24 words1, List.all_append, w_t1, w_t2]
  rfl
set_option maxRecDepth 65536 in
theorem w_case : (Jvm.Cond.and given_1 narrow_1).before args0 about1 = true := by decide +kernel
theorem w_applies : (headSpec (Jvm.Cond.code x code maxLocals ret :: tables_1) room_1).applies x e0.platform about1 = true :=
  (Spec.applies_iff w_frames).mpr ⟨w_running, w_runnable, w_alone, w_named, w_hears, w_ripe, w_room, w_tables⟩
theorem atStart : AtStart classFile x code maxLocals ret World_1 tables_1 room_1 Calls_1 rest_1 Pre_1 launch0 p0 e0 about1 theMethod args0 below0 :=
  ⟨lists_1, trivial, launch0.admits_env _ _ _, launch0.least_env, fairChoices_fair.cas, fairChoices_fair.clock, w_frames, w_args, w_heap, w_applies, trivial, trivial, w_case⟩
end start1
theorem witness_1 : WitnessClaimed_1 := ⟨start1.p0, start1.e0, start1.about1, start1.theMethod, start1.args0, start1.below0, start1.atStart⟩
end Jvm.Pilot.@@N@@
