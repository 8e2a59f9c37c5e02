import JvmDerived
import JvmDerived.Pilot.@@N@@Statement
import JvmDerived.Pilot.@@N@@Code
set_option linter.unusedVariables false
set_option linter.unusedSimpArgs false
namespace Jvm.Pilot.@@N@@
open Jvm Jvm.ClassFile Sem Op Lib Jvm.Free Jvm.Stand Jvm.LawKit Jvm.RoadKit Bundle Jvm.Pilot.@@N@@.Jvm.D
/-! ## Own: a walk forward: from here the run comes to an end that K takes -/
section Own
variable {p : Program} {l : Launch} {e : Env} {R : Room} {s : State} {m : MethodId} {args : Array Value} {below : List Frame} {meth : Method} {c : Code} {T : State} {locs : List Loc} {cells slots : Nat} {K : State → Prop}
def Go (p : Program) (e : Env) (below : List Frame) (K : State → Prop) (S : State) : Prop := ∃ t, Steps p.tables e below S t ∧ K t
theorem go {S S' : State} (h : ∀ t, Steps p.tables e below S' t → Steps p.tables e below S t) (g : Go p e below K S') : Go p e below K S := by
  obtain ⟨t, h1, h2⟩ := g
  exact ⟨t, h t h1, h2⟩
/-- the end of a body: what is returned, the heap and the written places fulfil Q, within so many cells and slots -/
def Dn (below : List Frame) (s : State) (Q : Option Value → Heap → List Loc → Prop) (C N : Nat) (t : State) : Prop := ∃ v L, t.status = .running ∧ Ended t below (.returned v) ∧ Q v t.heap L ∧ FrameEnd s (.returned v) t L C N
variable {Q : Option Value → Heap → List Loc → Prop} {C N : Nat}
theorem own_retI (X : Stand p l e R s m args below meth c T locs cells slots) (hx : p.tables.exec = Jvm.exec) (hlk : meth.locks = false) {pc : Nat} {Ls : Array Slot} {z : Int32} {rest : List Value} (hret : meth.sig.returnType = some .int) (hd : decode c.code pc = .ok (.ireturn, 1))
    (hC : cells ≤ C) (hN : slots ≤ N) (hQ : Q (some (.int z)) T.heap locs) : Go p e below (Dn below s Q C N) (T.setTop (mkF m pc Ls (.int z :: rest))) := by
  obtain ⟨fs, hr, hrun, hended, hW, hsame⟩ := X.leave (v := some (.int z)) (fun h => by rw [hret] at h; cases h) hlk
  refine ⟨_, ?_, _, _, hrun, hended, hQ, ⟨_, rfl⟩, hW, hsame.mono hC hN⟩
  have hm' : T.vm.method? m = some meth := X.method'
  have hn : narrow .int (.int z) = .int z := rfl
  show Steps p.tables e below (T.setTop { method := m, pc := pc, locals := Ls, stack := _ :: rest, locked := none }) _
  jvm_step X.here [X.here.top, hx, hd, hm', hret, hn]
  first | (intro acts; rw [hr _ acts rfl rfl rfl]) | rw [hr _ _ rfl rfl rfl]
  exact Steps.refl _
theorem own_retZ (X : Stand p l e R s m args below meth c T locs cells slots) (hx : p.tables.exec = Jvm.exec) (hlk : meth.locks = false) {pc : Nat} {Ls : Array Slot} {z z' : Int32} {rest : List Value} (hret : meth.sig.returnType = some .boolean) (hd : decode c.code pc = .ok (.ireturn, 1))
    (hC : cells ≤ C) (hN : slots ≤ N) (hz : nar .boolean z = z') (hQ : Q (some (.int z')) T.heap locs) : Go p e below (Dn below s Q C N) (T.setTop (mkF m pc Ls (.int z :: rest))) := by
  subst hz
  obtain ⟨fs, hr, hrun, hended, hW, hsame⟩ := X.leave (v := some (.int (nar .boolean z))) (fun h => by rw [hret] at h; cases h) hlk
  exact ⟨_, retN X hx (t := .boolean) hret (by simp) hd hr, _, _, hrun, hended, hQ, ⟨_, rfl⟩, hW, hsame.mono hC hN⟩
theorem own_retJ (X : Stand p l e R s m args below meth c T locs cells slots) (hx : p.tables.exec = Jvm.exec) (hlk : meth.locks = false) {pc : Nat} {Ls : Array Slot} {z : Int64} (hret : meth.sig.returnType = some .long) (hd : decode c.code pc = .ok (.lreturn, 1))
    (hC : cells ≤ C) (hN : slots ≤ N) (hQ : Q (some (.long z)) T.heap locs) : Go p e below (Dn below s Q C N) (T.setTop (mkF m pc Ls [.long z])) := by
  obtain ⟨fs, hr, hrun, hended, hW, hsame⟩ := X.leave (v := some (.long z)) (fun h => by rw [hret] at h; cases h) hlk
  exact ⟨_, X.lreturnOut hx hret hd hr, _, _, hrun, hended, hQ, ⟨_, rfl⟩, hW, hsame.mono hC hN⟩
theorem own_retA (X : Stand p l e R s m args below meth c T locs cells slots) (hx : p.tables.exec = Jvm.exec) (hlk : meth.locks = false) {pc : Nat} {Ls : Array Slot} {w : Value} {t : FieldType} (hw : w.isRef = true) (hret : meth.sig.returnType = some t) (ht : t.isReference = true) (hd : decode c.code pc = .ok (.areturn, 1))
    (hC : cells ≤ C) (hN : slots ≤ N) (hQ : Q (some w) T.heap locs) : Go p e below (Dn below s Q C N) (T.setTop (mkF m pc Ls [w])) := by
  obtain ⟨fs, hr, hrun, hended, hW, hsame⟩ := X.leave (v := some w) (fun h => by rw [hret] at h; cases h) hlk
  exact ⟨_, X.areturnOut hx hw hret ht hd hr, _, _, hrun, hended, hQ, ⟨_, rfl⟩, hW, hsame.mono hC hN⟩
theorem own_retV (X : Stand p l e R s m args below meth c T locs cells slots) (hx : p.tables.exec = Jvm.exec) (hlk : meth.locks = false) {pc : Nat} {Ls : Array Slot} (hret : meth.sig.returnType = none) (hd : decode c.code pc = .ok (.return_, 1))
    (hC : cells ≤ C) (hN : slots ≤ N) (hQ : Q none T.heap locs) : Go p e below (Dn below s Q C N) (T.setTop (mkF m pc Ls [])) := by
  obtain ⟨fs, hr, hrun, hended, hW, hsame⟩ := X.leave (v := none) (fun _ => rfl) hlk
  exact ⟨_, X.returnOut hx hret hd hr, _, _, hrun, hended, hQ, ⟨_, rfl⟩, hW, hsame.mono hC hN⟩
theorem own_lrem {g : JFrame} {target : State} (X : Stand p l e R s m args below meth c T locs cells slots) (hx : p.tables.exec = Jvm.exec) (hg : g.method = m) {x y : Int64} {rest : List Value} (hd : decode c.code g.pc = .ok (.lrem, 1)) (hs : g.stack = .long y :: .long x :: rest) (hy : y ≠ 0)
    (hr : Steps p.tables e below (T.setTop { g with pc := g.pc + 1, stack := .long (x % y) :: rest }) target) : Steps p.tables e below (T.setTop g) target := by
  have q : x - x / y * y = x % y := lrem_mod x y
  exact XS.lrem X.here hx hg hd hs hy (by rw [q]; exact hr)
/-- what a body's walk is handed -/
theorem own_met {x : MethodName} {code : ByteArray} {maxL : Nat} {ret : Option FieldType} {ws : List Jvm.Cond} {as' : Array Value} {L0 : Array Slot} {Z : State} {h0 : Heap} (hpl : plainFor x = true) (hef : ∀ m, entryFrame m as' maxL = mkF m 0 L0 [])
    (body : ∀ (p : Program) (e : Env) (s : State) (m : MethodId) (below : List Frame) (meth : Method) (c : Code) (T : State), p.tables.exec = Jvm.exec → c.code = code → c.maxLocals = maxL → s.vm.findClass x.cls = some m.cls → meth.name = x.name → meth.sig.returnType = ret → meth.locks = false → Z.Warmed39 s.vm →
      Stand p l e R s m as' below meth c T [] 0 0 → T.heap = h0 → Go p e below (Dn below s Q R.cells R.slots) (T.setTop (mkF m 0 L0 []))) :
    MetFree l x (head1 (Jvm.Cond.code x code maxL ret :: ws) R) (fun a U => a = as' ∧ Z.Warmed39 U.vm ∧ U.heap = h0) (fun _ _ _ _ _ => True) (fun _ U o U' => ∃ v L, o = .returned v ∧ Q v U'.heap L ∧ FrameEnd U o U' L R.cells R.slots) := by
  refine MetFree.of_bodySF hpl hisR ?_
  intro p e s m args below meth c s₁ Bd hml0 hP hK
  obtain ⟨rfl, hZ, hh⟩ := hP
  obtain ⟨t, h1, v, L, h2, h3, h4, h5⟩ := body p e s m below meth c s₁ Bd.exec Bd.bytes hml0 (findClass_of_methodNamed Bd.named) (name_of_methodNamed Bd.named Bd.method).1 Bd.returns (BodyLoose.notSynchronized Bd) hZ (Stand.of_body Bd) (by rw [← hh, Bd.state]; rfl)
  exact ⟨t, .returned v, castTop (hef m) h1, h2, h3, v, L, rfl, h4, h5⟩
section Calls
variable {Z : State} {a0 : Array Value} {own : String} {idx : Nat} {y : MethodName} {bytes : ByteArray} {maxL W : Nat} {ret : Option FieldType} {rm : Room} {as' : Array Value} {h : Heap}
/-- a static call by the callee's contract -/
theorem own_callS (X : Stand p l e R s m args below meth c T locs cells slots) (hx : p.tables.exec = Jvm.exec) (hZ : Z.Warmed39 s.vm) (hown : s.vm.findClass own = some m.cls) (eT : T.heap = h)
    (w1 : (Jvm.Cond.methodLink own idx y).before a0 Z = true) (w2 : (Jvm.Cond.static y).before a0 Z = true) (w3 : (Jvm.Cond.initialized y.cls).before a0 Z = true) (w4 : (Jvm.Cond.code y bytes maxL ret).before a0 Z = true)
    (hM : MetFree l y (head1 [Jvm.Cond.code y bytes maxL ret] rm) (fun a U => a = as' ∧ Z.Warmed39 U.vm ∧ U.heap = h) (fun _ _ _ _ _ => True) (fun _ U o U' => ∃ v L, o = .returned v ∧ Q v U'.heap L ∧ FrameEnd U o U' L rm.cells rm.slots))
    (hy : y.cls ≠ "java/lang/invoke/MethodHandle" ∧ y.cls ≠ "java/lang/invoke/VarHandle") (hf : rm.frames + 1 ≤ R.frames) (hl : W + (maxL + 11) + rm.locals ≤ R.locals) (hc : cells + rm.cells ≤ R.cells) (hs : slots + rm.slots ≤ R.slots)
    {g : JFrame} (hg : g.method = m) (hsize : g.locals.size = c.maxLocals) {argsL rest : List Value} (hst : g.stack = argsL.reverse ++ rest) (has : argsL.toArray = as') (hlen : ∀ sig, parseMethodDescriptor y.desc = some sig → argsL.length = sig.parameters.length)
    (hW : 2 * g.monitorRoom + (rest.map fun v => v.category).sum ≤ W) (hd : decode c.code g.pc = .ok (.invokestatic idx, 3))
    (k : ∀ v T' L, Stand p l e R s m args below meth c T' (locs ++ L) (cells + rm.cells) (slots + rm.slots) → Q v T'.heap L → Go p e below K (T'.setTop { g with pc := g.pc + 3, stack := v.toList ++ rest })) : Go p e below K (T.setTop g) := by
  obtain ⟨v, _, ⟨T', L', k', n'⟩, -, X', ⟨Lc, hQ, l1, y1, z1⟩, st⟩ := Jvm.LawKit.callS X hx (y := y) hown (mvT hZ w1) (mvT hZ w2) (mvT hZ w3) (mvT hZ w4) hy (backOf (W := W) hM hZ w4 w3 hf hl) hg hsize hlen hst hW hd (fun _ _ => ⟨has, eT, hc, hs⟩)
  dsimp only [Pt.U, Pt.locs, Pt.cells, Pt.slots] at X' l1 y1 z1 st hQ
  subst l1 y1 z1
  exact go st (k _ _ _ X' hQ)
/-- a constructor by its contract -/
theorem own_callC (X : Stand p l e R s m args below meth c T locs cells slots) (hx : p.tables.exec = Jvm.exec) (hZ : Z.Warmed39 s.vm) (hown : s.vm.findClass own = some m.cls) (eT : T.heap = h)
    (w1 : (Jvm.Cond.methodLink own idx y).before a0 Z = true) (w2 : (Jvm.Cond.instanceMethod y).before a0 Z = true) (w3 : (Jvm.Cond.initialized y.cls).before a0 Z = true) (w4 : (Jvm.Cond.code y bytes maxL none).before a0 Z = true)
    (hM : MetFree l y (head1 [Jvm.Cond.code y bytes maxL none] rm) (fun a U => a = as' ∧ Z.Warmed39 U.vm ∧ U.heap = h) (fun _ _ _ _ _ => True) (fun _ U o U' => ∃ v L, o = .returned v ∧ Q v U'.heap L ∧ FrameEnd U o U' L rm.cells rm.slots))
    (hyn : y.name = "<init>") (hy : y.cls ≠ "java/lang/invoke/MethodHandle" ∧ y.cls ≠ "java/lang/invoke/VarHandle") (hf : rm.frames + 1 ≤ R.frames) (hl : W + (maxL + 11) + rm.locals ≤ R.locals) (hc : cells + rm.cells ≤ R.cells) (hs : slots + rm.slots ≤ R.slots)
    {g : JFrame} (hg : g.method = m) (hsize : g.locals.size = c.maxLocals) {a : Addr} {argsL rest : List Value} (hst : g.stack = argsL.reverse ++ .ref a :: rest) (has : (.ref a :: argsL).toArray = as') (hlen : ∀ sig, parseMethodDescriptor y.desc = some sig → argsL.length = sig.parameters.length)
    (hW : 2 * g.monitorRoom + (rest.map fun v => v.category).sum ≤ W) (hd : decode c.code g.pc = .ok (.invokespecial idx, 3))
    (k : ∀ v T' L, Stand p l e R s m args below meth c T' (locs ++ L) (cells + rm.cells) (slots + rm.slots) → Q v T'.heap L → Go p e below K (T'.setTop { g with pc := g.pc + 3, stack := v.toList ++ rest })) : Go p e below K (T.setTop g) := by
  obtain ⟨v, _, ⟨T', L', k', n'⟩, -, X', ⟨Lc, hQ, l1, y1, z1⟩, st⟩ := X.specialBack hx (y := y) hyn hown (mvT hZ w1) (mvT hZ w2) (mvT hZ w4) hy (backOf (W := W) hM hZ w4 w3 hf hl) hg hsize (Steps.refl _) (a := a) hlen hst hW hd (fun _ _ => ⟨has, eT, hc, hs⟩)
  dsimp only [Pt.U, Pt.locs, Pt.cells, Pt.slots] at X' l1 y1 z1 st hQ
  subst l1 y1 z1
  exact go (fun t q => st.trans q) (k _ _ _ X' hQ)
/-- a virtual call of a method that the receiver's class declares itself -/
theorem own_callV (X : Stand p l e R s m args below meth c T locs cells slots) (hx : p.tables.exec = Jvm.exec) (hZ : Z.Warmed39 s.vm) (hown : s.vm.findClass own = some m.cls) (eT : T.heap = h)
    (w1 : (Jvm.Cond.methodLink own idx y).before a0 Z = true) (w2 : (Jvm.Cond.declares y).before a0 Z = true) (w5 : (Jvm.Cond.instanceMethod y).before a0 Z = true) (w6 : (Jvm.Cond.selects y.cls y y).before a0 Z = true) (w3 : (Jvm.Cond.initialized y.cls).before a0 Z = true) (w4 : (Jvm.Cond.code y bytes maxL ret).before a0 Z = true)
    (hM : MetFree l y (head1 [Jvm.Cond.code y bytes maxL ret] rm) (fun a U => a = as' ∧ Z.Warmed39 U.vm ∧ U.heap = h) (fun _ _ _ _ _ => True) (fun _ U o U' => ∃ v L, o = .returned v ∧ Q v U'.heap L ∧ FrameEnd U o U' L rm.cells rm.slots))
    (hy : y.cls ≠ "java/lang/invoke/MethodHandle" ∧ y.cls ≠ "java/lang/invoke/VarHandle") (hf : rm.frames + 1 ≤ R.frames) (hl : W + (maxL + 11) + rm.locals ≤ R.locals) (hc : cells + rm.cells ≤ R.cells) (hs : slots + rm.slots ≤ R.slots)
    {a : Addr} (E : Exa Z h a y.cls) {g : JFrame} (hg : g.method = m) (hsize : g.locals.size = c.maxLocals) {argsL rest : List Value} (hst : g.stack = argsL.reverse ++ .ref a :: rest) (has : (.ref a :: argsL).toArray = as') (hlen : ∀ sig, parseMethodDescriptor y.desc = some sig → argsL.length = sig.parameters.length)
    (hW : 2 * g.monitorRoom + (rest.map fun v => v.category).sum ≤ W) (hd : decode c.code g.pc = .ok (.invokevirtual idx, 3))
    (k : ∀ v T' L, Stand p l e R s m args below meth c T' (locs ++ L) (cells + rm.cells) (slots + rm.slots) → Q v T'.heap L → Go p e below K (T'.setTop { g with pc := g.pc + 3, stack := v.toList ++ rest })) : Go p e below K (T.setTop g) := by
  obtain ⟨cq, kq, qa, qb, qc⟩ := isOf hZ eT E
  obtain ⟨v, _, ⟨T', L', k', n'⟩, -, X', ⟨Lc, hQ, l1, y1, z1⟩, st⟩ := X.virtualBack hx (y := y) (z := y) hown (mvT hZ w1) (mvT hZ w2) (notFace_of_selects (args := #[]) (mvT hZ w6)) (mvT hZ w6) (mvT hZ w5) hy (backOf (W := W) hM hZ w4 w3 hf hl) qa qc hg hsize (Steps.refl _) hlen hst hW hd (fun _ _ => ⟨has, eT, hc, hs⟩)
  dsimp only [Pt.U, Pt.locs, Pt.cells, Pt.slots] at X' l1 y1 z1 st hQ
  subst l1 y1 z1
  exact go (fun t q => st.trans q) (k _ _ _ X' hQ)
end Calls
end Own
/-- a body that writes nothing: it returns r, the heap is what it was -/
def QP (r : Option Value) (h0 : Heap) (n0 : Nat) (v : Option Value) (h : Heap) (L : List Loc) : Prop := v = r ∧ Fr n0 L ∧ h = h0

def f2 (q1 : Int64) : Int64 := ((((q1 <<< ((24 : Int32) &&& 0x3f).toInt64)) >>> ((24 : Int32) &&& 0x3f).toInt64))
theorem d2_0 : decode method_2_code 0 = .ok (.lload_n 0, 1) := by decide +kernel
theorem d2_1 : decode method_2_code 1 = .ok (.bipush 24, 2) := by decide +kernel
theorem d2_3 : decode method_2_code 3 = .ok (.lshl, 1) := by decide +kernel
theorem d2_4 : decode method_2_code 4 = .ok (.bipush 24, 2) := by decide +kernel
theorem d2_6 : decode method_2_code 6 = .ok (.lshr, 1) := by decide +kernel
theorem d2_7 : decode method_2_code 7 = .ok (.lreturn, 1) := by decide +kernel
theorem pn_2 : plainName "quorate/tcp/SettlingSettledPinLaw" = true := by first | (simp [plainName, overriddenIn]; done) | decide +kernel
theorem ef_2 (m : MethodId) (x0 : Int64) : entryFrame m #[(.long x0)] 2 = mkF m 0 #[.val (.long x0), .second] [] := by first | (simp [entryFrame, mkF, argsToLocals, Value.category]; done) | rfl
set_option maxRecDepth 65536 in
set_option maxHeartbeats 40000000 in
theorem rm2 (l : Launch) (Z : State) (a0 : Array Value) (hw : ∀ d ∈ tables_1, d.before a0 Z = true) (ws : List Jvm.Cond) (q1 : Int64) (h0 : Heap) (n0 : Nat) :
    MetFree l (⟨"quorate/tcp/SettlingSettledPinLaw", "base", "(J)J"⟩ : MethodName) (head1 (Jvm.Cond.code (⟨"quorate/tcp/SettlingSettledPinLaw", "base", "(J)J"⟩ : MethodName) method_2_code 2 (some .long) :: ws) ({ frames := 0, cells := 0, slots := 0, locals := 0 } : Room)) (fun a U => a = #[(.long q1)] ∧ Z.Warmed39 U.vm ∧ U.heap = h0) (fun _ _ _ _ _ => True) (fun _ U o U' => ∃ v L, o = .returned v ∧ (QP (some (.long (f2 q1))) h0 n0) v U'.heap L ∧ FrameEnd U o U' L ({ frames := 0, cells := 0, slots := 0, locals := 0 } : Room).cells ({ frames := 0, cells := 0, slots := 0, locals := 0 } : Room).slots) := by
  refine own_met (plainFor_of_name pn_2) (fun m => ef_2 m q1) ?_
  intro p e s m below meth c T0 hx hby hml hown hnm hret hlk hZ X0 e0
  have hown : s.vm.findClass "quorate/tcp/SettlingSettledPinLaw" = some m.cls := hown
  have hnm : meth.name = "base" := hnm
  have hret : meth.sig.returnType = some .long := hret
  have N0 := Fr.nil n0
  show Go p e below _ (T0.setTop (mkF m 0 #[.val (.long q1), .second] []))
  refine go (fun _ q => XS.lloadN X0.here hx rfl (hb hby d2_0) rfl q) ?_
  show Go p e below _ (T0.setTop (mkF m 1 #[.val (.long q1), .second] [(.long q1)]))
  refine go (fun _ q => XS.bipush X0.here hx rfl (hb hby d2_1) q) ?_
  show Go p e below _ (T0.setTop (mkF m 3 #[.val (.long q1), .second] [(.int (24 : Int32)), (.long q1)]))
  refine go (fun _ q => XS.lshl X0.here hx rfl (hb hby d2_3) rfl q) ?_
  show Go p e below _ (T0.setTop (mkF m 4 #[.val (.long q1), .second] [(.long ((q1 <<< ((24 : Int32) &&& 0x3f).toInt64)))]))
  refine go (fun _ q => XS.bipush X0.here hx rfl (hb hby d2_4) q) ?_
  show Go p e below _ (T0.setTop (mkF m 6 #[.val (.long q1), .second] [(.int (24 : Int32)), (.long ((q1 <<< ((24 : Int32) &&& 0x3f).toInt64)))]))
  refine go (fun _ q => XS.lshr X0.here hx rfl (hb hby d2_6) rfl q) ?_
  show Go p e below _ (T0.setTop (mkF m 7 #[.val (.long q1), .second] [(.long ((((q1 <<< ((24 : Int32) &&& 0x3f).toInt64)) >>> ((24 : Int32) &&& 0x3f).toInt64)))]))
  exact own_retJ X0 hx hlk hret (hb hby d2_7) (by decide) (by decide) ⟨congrArg (fun z => some (Value.long z)) (by rw [f2]), N0, e0⟩
def f1 (q1 : Int64) (p2 : Int32) : Int64 := (((10 : Int64) * (f2 q1)) + ((1 : Int64) + ((((p2 &&& (2147483647 : Int32)) % (9 : Int32))).toInt64)))
theorem d1_0 : decode method_3_code 0 = .ok (.lconst 1, 1) := by decide +kernel
theorem d1_1 : decode method_3_code 1 = .ok (.iload_n 2, 1) := by decide +kernel
theorem d1_2 : decode method_3_code 2 = .ok (.ldc 7, 2) := by decide +kernel
theorem d1_4 : decode method_3_code 4 = .ok (.iand, 1) := by decide +kernel
theorem d1_5 : decode method_3_code 5 = .ok (.bipush 9, 2) := by decide +kernel
theorem d1_7 : decode method_3_code 7 = .ok (.irem, 1) := by decide +kernel
theorem d1_8 : decode method_3_code 8 = .ok (.i2l, 1) := by decide +kernel
theorem d1_9 : decode method_3_code 9 = .ok (.ladd, 1) := by decide +kernel
theorem d1_10 : decode method_3_code 10 = .ok (.lstore_n 3, 1) := by decide +kernel
theorem d1_11 : decode method_3_code 11 = .ok (.ldc2_w 8, 3) := by decide +kernel
theorem d1_14 : decode method_3_code 14 = .ok (.lload_n 0, 1) := by decide +kernel
theorem d1_15 : decode method_3_code 15 = .ok (.invokestatic 10, 3) := by decide +kernel
theorem d1_18 : decode method_3_code 18 = .ok (.lmul, 1) := by decide +kernel
theorem d1_19 : decode method_3_code 19 = .ok (.lload_n 3, 1) := by decide +kernel
theorem d1_20 : decode method_3_code 20 = .ok (.ladd, 1) := by decide +kernel
theorem d1_21 : decode method_3_code 21 = .ok (.lreturn, 1) := by decide +kernel
theorem pd_1_0 : parseMethodDescriptor "(J)J" = some ⟨[.long], some .long⟩ := by decide +kernel
theorem pn_1 : plainName "quorate/tcp/SettlingSettledPinLaw" = true := by first | (simp [plainName, overriddenIn]; done) | decide +kernel
theorem ef_1 (m : MethodId) (x0 : Int64) (x1 : Int32) : entryFrame m #[(.long x0), (.int x1)] 5 = mkF m 0 #[.val (.long x0), .second, .val (.int x1), .unset, .unset] [] := by first | (simp [entryFrame, mkF, argsToLocals, Value.category]; done) | rfl
set_option maxRecDepth 65536 in
set_option maxHeartbeats 40000000 in
theorem rm1 (l : Launch) (Z : State) (a0 : Array Value) (hw : ∀ d ∈ tables_1, d.before a0 Z = true) (ws : List Jvm.Cond) (q1 : Int64) (p2 : Int32) (h0 : Heap) (n0 : Nat) :
    MetFree l (⟨"quorate/tcp/SettlingSettledPinLaw", "took", "(JI)J"⟩ : MethodName) (head1 (Jvm.Cond.code (⟨"quorate/tcp/SettlingSettledPinLaw", "took", "(JI)J"⟩ : MethodName) method_3_code 5 (some .long) :: ws) ({ frames := 1, cells := 0, slots := 0, locals := 16 } : Room)) (fun a U => a = #[(.long q1), (.int p2)] ∧ Z.Warmed39 U.vm ∧ U.heap = h0) (fun _ _ _ _ _ => True) (fun _ U o U' => ∃ v L, o = .returned v ∧ (QP (some (.long (f1 q1 p2))) h0 n0) v U'.heap L ∧ FrameEnd U o U' L ({ frames := 1, cells := 0, slots := 0, locals := 16 } : Room).cells ({ frames := 1, cells := 0, slots := 0, locals := 16 } : Room).slots) := by
  refine own_met (plainFor_of_name pn_1) (fun m => ef_1 m q1 p2) ?_
  intro p e s m below meth c T0 hx hby hml hown hnm hret hlk hZ X0 e0
  have hown : s.vm.findClass "quorate/tcp/SettlingSettledPinLaw" = some m.cls := hown
  have hnm : meth.name = "took" := hnm
  have hret : meth.sig.returnType = some .long := hret
  have N0 := Fr.nil n0
  show Go p e below _ (T0.setTop (mkF m 0 #[.val (.long q1), .second, .val (.int p2), .unset, .unset] []))
  refine go (fun _ q => XS.lconst X0.here hx rfl (hb hby d1_0) q) ?_
  show Go p e below _ (T0.setTop (mkF m 1 #[.val (.long q1), .second, .val (.int p2), .unset, .unset] [(.long (1 : Int64))]))
  refine go (fun _ q => XS.iloadN X0.here hx rfl (hb hby d1_1) rfl q) ?_
  show Go p e below _ (T0.setTop (mkF m 2 #[.val (.long q1), .second, .val (.int p2), .unset, .unset] [(.int p2), (.long (1 : Int64))]))
  refine go (X0.ldcInt hx hown (mvT hZ (hw _ (List.mem_of_getElem? (i := 4) rfl))) (g := (mkF m 2 #[.val (.long q1), .second, .val (.int p2), .unset, .unset] [(.int p2), (.long (1 : Int64))])) rfl (hb hby d1_2)) ?_
  show Go p e below _ (T0.setTop (mkF m 4 #[.val (.long q1), .second, .val (.int p2), .unset, .unset] [(.int (2147483647 : Int32)), (.int p2), (.long (1 : Int64))]))
  refine go (fun _ q => XS.iand X0.here hx rfl (hb hby d1_4) rfl q) ?_
  show Go p e below _ (T0.setTop (mkF m 5 #[.val (.long q1), .second, .val (.int p2), .unset, .unset] [(.int (p2 &&& (2147483647 : Int32))), (.long (1 : Int64))]))
  refine go (fun _ q => XS.bipush X0.here hx rfl (hb hby d1_5) q) ?_
  show Go p e below _ (T0.setTop (mkF m 7 #[.val (.long q1), .second, .val (.int p2), .unset, .unset] [(.int (9 : Int32)), (.int (p2 &&& (2147483647 : Int32))), (.long (1 : Int64))]))
  refine go (fun _ q => iremM X0 hx rfl (hb hby d1_7) rfl (by decide) q) ?_
  show Go p e below _ (T0.setTop (mkF m 8 #[.val (.long q1), .second, .val (.int p2), .unset, .unset] [(.int ((p2 &&& (2147483647 : Int32)) % (9 : Int32))), (.long (1 : Int64))]))
  refine go (fun _ q => XS.i2l X0.here hx rfl (hb hby d1_8) rfl q) ?_
  show Go p e below _ (T0.setTop (mkF m 9 #[.val (.long q1), .second, .val (.int p2), .unset, .unset] [(.long ((((p2 &&& (2147483647 : Int32)) % (9 : Int32))).toInt64)), (.long (1 : Int64))]))
  refine go (fun _ q => XS.ladd X0.here hx rfl (hb hby d1_9) rfl q) ?_
  show Go p e below _ (T0.setTop (mkF m 10 #[.val (.long q1), .second, .val (.int p2), .unset, .unset] [(.long ((1 : Int64) + ((((p2 &&& (2147483647 : Int32)) % (9 : Int32))).toInt64)))]))
  refine go (fun _ q => XS.lstoreN X0.here hx rfl (hb hby d1_10) rfl (l' := #[.val (.long q1), .second, .val (.int p2), .val (.long ((1 : Int64) + ((((p2 &&& (2147483647 : Int32)) % (9 : Int32))).toInt64))), .second]) rfl q) ?_
  show Go p e below _ (T0.setTop (mkF m 11 #[.val (.long q1), .second, .val (.int p2), .val (.long ((1 : Int64) + ((((p2 &&& (2147483647 : Int32)) % (9 : Int32))).toInt64))), .second] []))
  refine go (X0.ldc2Long hx hown (mvT hZ (hw _ (List.mem_of_getElem? (i := 5) rfl))) (g := (mkF m 11 #[.val (.long q1), .second, .val (.int p2), .val (.long ((1 : Int64) + ((((p2 &&& (2147483647 : Int32)) % (9 : Int32))).toInt64))), .second] [])) rfl (hb hby d1_11)) ?_
  show Go p e below _ (T0.setTop (mkF m 14 #[.val (.long q1), .second, .val (.int p2), .val (.long ((1 : Int64) + ((((p2 &&& (2147483647 : Int32)) % (9 : Int32))).toInt64))), .second] [(.long (10 : Int64))]))
  refine go (fun _ q => XS.lloadN X0.here hx rfl (hb hby d1_14) rfl q) ?_
  show Go p e below _ (T0.setTop (mkF m 15 #[.val (.long q1), .second, .val (.int p2), .val (.long ((1 : Int64) + ((((p2 &&& (2147483647 : Int32)) % (9 : Int32))).toInt64))), .second] [(.long q1), (.long (10 : Int64))]))
  refine own_callS X0 hx hZ hown e0 (hw _ (List.mem_of_getElem? (i := 6) rfl)) (hw _ (List.mem_of_getElem? (i := 7) rfl)) (hw _ (List.mem_of_getElem? (i := 2) rfl)) (hw _ (List.mem_of_getElem? (i := 8) rfl)) (rm2 l Z a0 hw [] q1 h0 n0) (by decide) (by decide) (W := 2) (by decide) (by decide) (by decide) (g := (mkF m 15 #[.val (.long q1), .second, .val (.int p2), .val (.long ((1 : Int64) + ((((p2 &&& (2147483647 : Int32)) % (9 : Int32))).toInt64))), .second] [(.long q1), (.long (10 : Int64))])) rfl (by rw [hml]; rfl) (argsL := [(.long q1)]) (rest := [(.long (10 : Int64))]) rfl rfl (lenOf pd_1_0 rfl) (by show 2 * 0 + _ ≤ _; exact Nat.le_of_eq rfl) (hb hby d1_15) ?_
  rintro _ T1 L1 X1 ⟨rfl, N1q, e1⟩
  have N1 := Fr.app N0 N1q
  show Go p e below _ (T1.setTop (mkF m 18 #[.val (.long q1), .second, .val (.int p2), .val (.long ((1 : Int64) + ((((p2 &&& (2147483647 : Int32)) % (9 : Int32))).toInt64))), .second] [(.long (f2 q1)), (.long (10 : Int64))]))
  refine go (fun _ q => XS.lmul X1.here hx rfl (hb hby d1_18) rfl q) ?_
  show Go p e below _ (T1.setTop (mkF m 19 #[.val (.long q1), .second, .val (.int p2), .val (.long ((1 : Int64) + ((((p2 &&& (2147483647 : Int32)) % (9 : Int32))).toInt64))), .second] [(.long ((10 : Int64) * (f2 q1)))]))
  refine go (fun _ q => XS.lloadN X1.here hx rfl (hb hby d1_19) rfl q) ?_
  show Go p e below _ (T1.setTop (mkF m 20 #[.val (.long q1), .second, .val (.int p2), .val (.long ((1 : Int64) + ((((p2 &&& (2147483647 : Int32)) % (9 : Int32))).toInt64))), .second] [(.long ((1 : Int64) + ((((p2 &&& (2147483647 : Int32)) % (9 : Int32))).toInt64))), (.long ((10 : Int64) * (f2 q1)))]))
  refine go (fun _ q => XS.ladd X1.here hx rfl (hb hby d1_20) rfl q) ?_
  show Go p e below _ (T1.setTop (mkF m 21 #[.val (.long q1), .second, .val (.int p2), .val (.long ((1 : Int64) + ((((p2 &&& (2147483647 : Int32)) % (9 : Int32))).toInt64))), .second] [(.long (((10 : Int64) * (f2 q1)) + ((1 : Int64) + ((((p2 &&& (2147483647 : Int32)) % (9 : Int32))).toInt64))))]))
  exact own_retJ X1 hx hlk hret (hb hby d1_21) (by decide) (by decide) ⟨congrArg (fun z => some (Value.long z)) (by rw [f1]), N1, e1⟩
def f3 (q1 : Int64) (p2 : Int32) : Int64 := (if ((((q1).toUInt64 >>> ((40 : Int32) &&& 0x3f).toInt64.toUInt64).toInt64) &&& (1 : Int64)) = (0 : Int64) then ((f2 q1) + (((((q1).toUInt64 >>> ((41 : Int32) &&& 0x3f).toInt64.toUInt64).toInt64) &&& (3 : Int64)) - (2 : Int64))) else ((p2).toInt64))
theorem d3_0 : decode method_4_code 0 = .ok (.lload_n 0, 1) := by decide +kernel
theorem d3_1 : decode method_4_code 1 = .ok (.bipush 40, 2) := by decide +kernel
theorem d3_3 : decode method_4_code 3 = .ok (.lushr, 1) := by decide +kernel
theorem d3_4 : decode method_4_code 4 = .ok (.lconst 1, 1) := by decide +kernel
theorem d3_5 : decode method_4_code 5 = .ok (.land, 1) := by decide +kernel
theorem d3_6 : decode method_4_code 6 = .ok (.lconst 0, 1) := by decide +kernel
theorem d3_7 : decode method_4_code 7 = .ok (.lcmp, 1) := by decide +kernel
theorem d3_8 : decode method_4_code 8 = .ok (.ifCond .eq 6, 3) := by decide +kernel
theorem d3_11 : decode method_4_code 11 = .ok (.iload_n 2, 1) := by decide +kernel
theorem d3_12 : decode method_4_code 12 = .ok (.i2l, 1) := by decide +kernel
theorem d3_13 : decode method_4_code 13 = .ok (.lreturn, 1) := by decide +kernel
theorem d3_14 : decode method_4_code 14 = .ok (.lload_n 0, 1) := by decide +kernel
theorem d3_15 : decode method_4_code 15 = .ok (.invokestatic 10, 3) := by decide +kernel
theorem d3_18 : decode method_4_code 18 = .ok (.lload_n 0, 1) := by decide +kernel
theorem d3_19 : decode method_4_code 19 = .ok (.bipush 41, 2) := by decide +kernel
theorem d3_21 : decode method_4_code 21 = .ok (.lushr, 1) := by decide +kernel
theorem d3_22 : decode method_4_code 22 = .ok (.ldc2_w 16, 3) := by decide +kernel
theorem d3_25 : decode method_4_code 25 = .ok (.land, 1) := by decide +kernel
theorem d3_26 : decode method_4_code 26 = .ok (.ldc2_w 18, 3) := by decide +kernel
theorem d3_29 : decode method_4_code 29 = .ok (.lsub, 1) := by decide +kernel
theorem d3_30 : decode method_4_code 30 = .ok (.ladd, 1) := by decide +kernel
theorem d3_31 : decode method_4_code 31 = .ok (.lreturn, 1) := by decide +kernel
theorem pd_3_0 : parseMethodDescriptor "(J)J" = some ⟨[.long], some .long⟩ := by decide +kernel
theorem pn_3 : plainName "quorate/tcp/SettlingSettledPinLaw" = true := by first | (simp [plainName, overriddenIn]; done) | decide +kernel
theorem ef_3 (m : MethodId) (x0 : Int64) (x1 : Int32) : entryFrame m #[(.long x0), (.int x1)] 3 = mkF m 0 #[.val (.long x0), .second, .val (.int x1)] [] := by first | (simp [entryFrame, mkF, argsToLocals, Value.category]; done) | rfl
set_option maxRecDepth 65536 in
set_option maxHeartbeats 40000000 in
theorem rm3 (l : Launch) (Z : State) (a0 : Array Value) (hw : ∀ d ∈ tables_1, d.before a0 Z = true) (ws : List Jvm.Cond) (q1 : Int64) (p2 : Int32) (h0 : Heap) (n0 : Nat) :
    MetFree l (⟨"quorate/tcp/SettlingSettledPinLaw", "compiled", "(JI)J"⟩ : MethodName) (head1 (Jvm.Cond.code (⟨"quorate/tcp/SettlingSettledPinLaw", "compiled", "(JI)J"⟩ : MethodName) method_4_code 3 (some .long) :: ws) ({ frames := 1, cells := 0, slots := 0, locals := 16 } : Room)) (fun a U => a = #[(.long q1), (.int p2)] ∧ Z.Warmed39 U.vm ∧ U.heap = h0) (fun _ _ _ _ _ => True) (fun _ U o U' => ∃ v L, o = .returned v ∧ (QP (some (.long (f3 q1 p2))) h0 n0) v U'.heap L ∧ FrameEnd U o U' L ({ frames := 1, cells := 0, slots := 0, locals := 16 } : Room).cells ({ frames := 1, cells := 0, slots := 0, locals := 16 } : Room).slots) := by
  refine own_met (plainFor_of_name pn_3) (fun m => ef_3 m q1 p2) ?_
  intro p e s m below meth c T0 hx hby hml hown hnm hret hlk hZ X0 e0
  have hown : s.vm.findClass "quorate/tcp/SettlingSettledPinLaw" = some m.cls := hown
  have hnm : meth.name = "compiled" := hnm
  have hret : meth.sig.returnType = some .long := hret
  have N0 := Fr.nil n0
  show Go p e below _ (T0.setTop (mkF m 0 #[.val (.long q1), .second, .val (.int p2)] []))
  refine go (fun _ q => XS.lloadN X0.here hx rfl (hb hby d3_0) rfl q) ?_
  show Go p e below _ (T0.setTop (mkF m 1 #[.val (.long q1), .second, .val (.int p2)] [(.long q1)]))
  refine go (fun _ q => XS.bipush X0.here hx rfl (hb hby d3_1) q) ?_
  show Go p e below _ (T0.setTop (mkF m 3 #[.val (.long q1), .second, .val (.int p2)] [(.int (40 : Int32)), (.long q1)]))
  refine go (fun _ q => XS.lushr X0.here hx rfl (hb hby d3_3) rfl q) ?_
  show Go p e below _ (T0.setTop (mkF m 4 #[.val (.long q1), .second, .val (.int p2)] [(.long (((q1).toUInt64 >>> ((40 : Int32) &&& 0x3f).toInt64.toUInt64).toInt64))]))
  refine go (fun _ q => XS.lconst X0.here hx rfl (hb hby d3_4) q) ?_
  show Go p e below _ (T0.setTop (mkF m 5 #[.val (.long q1), .second, .val (.int p2)] [(.long (1 : Int64)), (.long (((q1).toUInt64 >>> ((40 : Int32) &&& 0x3f).toInt64.toUInt64).toInt64))]))
  refine go (fun _ q => XS.land X0.here hx rfl (hb hby d3_5) rfl q) ?_
  show Go p e below _ (T0.setTop (mkF m 6 #[.val (.long q1), .second, .val (.int p2)] [(.long ((((q1).toUInt64 >>> ((40 : Int32) &&& 0x3f).toInt64.toUInt64).toInt64) &&& (1 : Int64)))]))
  refine go (fun _ q => XS.lconst X0.here hx rfl (hb hby d3_6) q) ?_
  show Go p e below _ (T0.setTop (mkF m 7 #[.val (.long q1), .second, .val (.int p2)] [(.long (0 : Int64)), (.long ((((q1).toUInt64 >>> ((40 : Int32) &&& 0x3f).toInt64.toUInt64).toInt64) &&& (1 : Int64)))]))
  refine go (fun _ q => XS.lcmp X0.here hx rfl (hb hby d3_7) rfl q) ?_
  show Go p e below _ (T0.setTop (mkF m 8 #[.val (.long q1), .second, .val (.int p2)] [(.int (lcmpW ((((q1).toUInt64 >>> ((40 : Int32) &&& 0x3f).toInt64.toUInt64).toInt64) &&& (1 : Int64)) (0 : Int64)))]))
  by_cases hc1 : ((((q1).toUInt64 >>> ((40 : Int32) &&& 0x3f).toInt64.toUInt64).toInt64) &&& (1 : Int64)) = (0 : Int64)
  · refine go (fun _ q => XS.ifYes X0.here hx rfl (pc0 := 8) (pc' := 14) rfl (hb hby d3_8) rfl ((if0 _ _).trans (teq ((lw_eq _ _).mpr hc1)).1) (by decide) (by decide) q) ?_
    show Go p e below _ (T0.setTop (mkF m 14 #[.val (.long q1), .second, .val (.int p2)] []))
    refine go (fun _ q => XS.lloadN X0.here hx rfl (hb hby d3_14) rfl q) ?_
    show Go p e below _ (T0.setTop (mkF m 15 #[.val (.long q1), .second, .val (.int p2)] [(.long q1)]))
    refine own_callS X0 hx hZ hown e0 (hw _ (List.mem_of_getElem? (i := 6) rfl)) (hw _ (List.mem_of_getElem? (i := 7) rfl)) (hw _ (List.mem_of_getElem? (i := 2) rfl)) (hw _ (List.mem_of_getElem? (i := 8) rfl)) (rm2 l Z a0 hw [] q1 h0 n0) (by decide) (by decide) (W := 0) (by decide) (by decide) (by decide) (g := (mkF m 15 #[.val (.long q1), .second, .val (.int p2)] [(.long q1)])) rfl (by rw [hml]; rfl) (argsL := [(.long q1)]) (rest := []) rfl rfl (lenOf pd_3_0 rfl) (by show 2 * 0 + _ ≤ _; exact Nat.le_of_eq rfl) (hb hby d3_15) ?_
    rintro _ T2 L2 X2 ⟨rfl, N2q, e2⟩
    have N2 := Fr.app N0 N2q
    show Go p e below _ (T2.setTop (mkF m 18 #[.val (.long q1), .second, .val (.int p2)] [(.long (f2 q1))]))
    refine go (fun _ q => XS.lloadN X2.here hx rfl (hb hby d3_18) rfl q) ?_
    show Go p e below _ (T2.setTop (mkF m 19 #[.val (.long q1), .second, .val (.int p2)] [(.long q1), (.long (f2 q1))]))
    refine go (fun _ q => XS.bipush X2.here hx rfl (hb hby d3_19) q) ?_
    show Go p e below _ (T2.setTop (mkF m 21 #[.val (.long q1), .second, .val (.int p2)] [(.int (41 : Int32)), (.long q1), (.long (f2 q1))]))
    refine go (fun _ q => XS.lushr X2.here hx rfl (hb hby d3_21) rfl q) ?_
    show Go p e below _ (T2.setTop (mkF m 22 #[.val (.long q1), .second, .val (.int p2)] [(.long (((q1).toUInt64 >>> ((41 : Int32) &&& 0x3f).toInt64.toUInt64).toInt64)), (.long (f2 q1))]))
    refine go (X2.ldc2Long hx hown (mvT hZ (hw _ (List.mem_of_getElem? (i := 12) rfl))) (g := (mkF m 22 #[.val (.long q1), .second, .val (.int p2)] [(.long (((q1).toUInt64 >>> ((41 : Int32) &&& 0x3f).toInt64.toUInt64).toInt64)), (.long (f2 q1))])) rfl (hb hby d3_22)) ?_
    show Go p e below _ (T2.setTop (mkF m 25 #[.val (.long q1), .second, .val (.int p2)] [(.long (3 : Int64)), (.long (((q1).toUInt64 >>> ((41 : Int32) &&& 0x3f).toInt64.toUInt64).toInt64)), (.long (f2 q1))]))
    refine go (fun _ q => XS.land X2.here hx rfl (hb hby d3_25) rfl q) ?_
    show Go p e below _ (T2.setTop (mkF m 26 #[.val (.long q1), .second, .val (.int p2)] [(.long ((((q1).toUInt64 >>> ((41 : Int32) &&& 0x3f).toInt64.toUInt64).toInt64) &&& (3 : Int64))), (.long (f2 q1))]))
    refine go (X2.ldc2Long hx hown (mvT hZ (hw _ (List.mem_of_getElem? (i := 13) rfl))) (g := (mkF m 26 #[.val (.long q1), .second, .val (.int p2)] [(.long ((((q1).toUInt64 >>> ((41 : Int32) &&& 0x3f).toInt64.toUInt64).toInt64) &&& (3 : Int64))), (.long (f2 q1))])) rfl (hb hby d3_26)) ?_
    show Go p e below _ (T2.setTop (mkF m 29 #[.val (.long q1), .second, .val (.int p2)] [(.long (2 : Int64)), (.long ((((q1).toUInt64 >>> ((41 : Int32) &&& 0x3f).toInt64.toUInt64).toInt64) &&& (3 : Int64))), (.long (f2 q1))]))
    refine go (fun _ q => XS.lsub X2.here hx rfl (hb hby d3_29) rfl q) ?_
    show Go p e below _ (T2.setTop (mkF m 30 #[.val (.long q1), .second, .val (.int p2)] [(.long (((((q1).toUInt64 >>> ((41 : Int32) &&& 0x3f).toInt64.toUInt64).toInt64) &&& (3 : Int64)) - (2 : Int64))), (.long (f2 q1))]))
    refine go (fun _ q => XS.ladd X2.here hx rfl (hb hby d3_30) rfl q) ?_
    show Go p e below _ (T2.setTop (mkF m 31 #[.val (.long q1), .second, .val (.int p2)] [(.long ((f2 q1) + (((((q1).toUInt64 >>> ((41 : Int32) &&& 0x3f).toInt64.toUInt64).toInt64) &&& (3 : Int64)) - (2 : Int64))))]))
    exact own_retJ X2 hx hlk hret (hb hby d3_31) (by decide) (by decide) ⟨congrArg (fun z => some (Value.long z)) (by rw [f3, if_pos hc1]), N2, e2⟩
  · refine go (fun _ q => XS.ifNo X0.here hx rfl (hb hby d3_8) rfl ((if0 _ _).trans (feq (fun q => hc1 ((lw_eq _ _).mp q))).1) q) ?_
    show Go p e below _ (T0.setTop (mkF m 11 #[.val (.long q1), .second, .val (.int p2)] []))
    refine go (fun _ q => XS.iloadN X0.here hx rfl (hb hby d3_11) rfl q) ?_
    show Go p e below _ (T0.setTop (mkF m 12 #[.val (.long q1), .second, .val (.int p2)] [(.int p2)]))
    refine go (fun _ q => XS.i2l X0.here hx rfl (hb hby d3_12) rfl q) ?_
    show Go p e below _ (T0.setTop (mkF m 13 #[.val (.long q1), .second, .val (.int p2)] [(.long ((p2).toInt64))]))
    exact own_retJ X0 hx hlk hret (hb hby d3_13) (by decide) (by decide) ⟨congrArg (fun z => some (Value.long z)) (by rw [f3, if_neg hc1]), N0, e0⟩
theorem d4_0 : decode prog_242_method_1_code 0 = .ok (.aload_n 0, 1) := by decide +kernel
theorem d4_1 : decode prog_242_method_1_code 1 = .ok (.invokespecial 3, 3) := by decide +kernel
theorem d4_4 : decode prog_242_method_1_code 4 = .ok (.return_, 1) := by decide +kernel
theorem pn_4 : plainName "quorate/tcp/WarmUp$Settling" = true := by first | (simp [plainName, overriddenIn]; done) | decide +kernel
theorem ef_4 (m : MethodId) (x0 : Addr) : entryFrame m #[(.ref x0)] 1 = mkF m 0 #[.val (.ref x0)] [] := by first | (simp [entryFrame, mkF, argsToLocals, Value.category]; done) | rfl
set_option maxRecDepth 65536 in
set_option maxHeartbeats 40000000 in
theorem rm4 (l : Launch) (Z : State) (a0 : Array Value) (hw : ∀ d ∈ tables_1, d.before a0 Z = true) (ws : List Jvm.Cond) (a1 : Addr) (h0 : Heap) (n0 : Nat) :
    MetFree l (⟨"quorate/tcp/WarmUp$Settling", "<init>", "()V"⟩ : MethodName) (head1 (Jvm.Cond.code (⟨"quorate/tcp/WarmUp$Settling", "<init>", "()V"⟩ : MethodName) prog_242_method_1_code 1 none :: ws) ({ frames := 1, cells := 0, slots := 0, locals := 12 } : Room)) (fun a U => a = #[(.ref a1)] ∧ Z.Warmed39 U.vm ∧ U.heap = h0) (fun _ _ _ _ _ => True) (fun _ U o U' => ∃ v L, o = .returned v ∧ (QP none h0 n0) v U'.heap L ∧ FrameEnd U o U' L ({ frames := 1, cells := 0, slots := 0, locals := 12 } : Room).cells ({ frames := 1, cells := 0, slots := 0, locals := 12 } : Room).slots) := by
  refine own_met (plainFor_of_name pn_4) (fun m => ef_4 m a1) ?_
  intro p e s m below meth c T0 hx hby hml hown hnm hret hlk hZ X0 e0
  have hown : s.vm.findClass "quorate/tcp/WarmUp$Settling" = some m.cls := hown
  have hnm : meth.name = "<init>" := hnm
  have hret : meth.sig.returnType = none := hret
  have N0 := Fr.nil n0
  show Go p e below _ (T0.setTop (mkF m 0 #[.val (.ref a1)] []))
  refine go (fun _ q => XS.aloadN X0.here hx rfl (hb hby d4_0) rfl rfl q) ?_
  show Go p e below _ (T0.setTop (mkF m 1 #[.val (.ref a1)] [(.ref a1)]))
  obtain ⟨T1, X1, e1, st1⟩ := initO X0 hx hZ hown (hw _ (List.mem_of_getElem? (i := 20) rfl)) (hw _ (List.mem_of_getElem? (i := 21) rfl)) (hw _ (List.mem_of_getElem? (i := 22) rfl)) e0 (g := (mkF m 1 #[.val (.ref a1)] [(.ref a1)])) rfl (by rw [hml]; rfl) rfl (hb hby d4_1) (by decide) (W := 0) (by show 2 * 0 + _ ≤ _; exact Nat.le_of_eq rfl) (by decide)
  refine go st1 ?_
  show Go p e below _ (T1.setTop (mkF m 4 #[.val (.ref a1)] []))
  exact own_retV X1 hx hlk hret (hb hby d4_4) (by decide) (by decide) ⟨rfl, N0, e1⟩
section OwnFP
open Jvm.FP.Core
/-- an exact number of at most 53 digits, written in the format: its value in units -/
theorem own_zv (s : Bool) {c : Nat} {q : Int} (hc : c < 2 ^ 53) (h1 : (-1074 : Int) ≤ q) (h2 : q ≤ 900) : zval b64 (round b64 (.fin s c q)) = signed s (c * 2 ^ (q + 1074).toNat) := by
  obtain ⟨c', q', e1, e2⟩ := round_exact good_b64 s (c := c) (q := q) hc h1 (Int.le_trans h2 (by decide))
  have e3 : inUnits c q b64.qmin = c * 2 ^ (q + 1074).toNat := by
    unfold inUnits
    rw [show q - b64.qmin = q + 1074 by have : b64.qmin = -1074 := by decide
                                        omega]
  rw [e1]
  show signed s (inUnits c' q' b64.qmin) = _
  rw [e2, e3]
theorem own_zi (i : Int) (h : i.natAbs < 2 ^ 53) : zval b64 (round b64 (ofInt i)) = i * 2 ^ 1074 := by
  unfold ofInt
  rw [own_zv _ h (by decide) (by decide)]
  unfold signed
  have e : (((0 : Int) + 1074).toNat) = 1074 := rfl
  rw [e]
  by_cases k : i < 0
  · simp only [k, decide_true, if_true]
    rw [Int.natCast_mul, Int.natCast_pow, ← Int.neg_mul]
    congr 1
    omega
  · simp only [k, decide_false, Bool.false_eq_true, if_false]
    rw [Int.natCast_mul, Int.natCast_pow]
    congr 1
    omega
/-- N sixteenths as a datum -/
theorem own_z16 (N : Int) (h : N.natAbs < 2 ^ 53) : zval b64 (round b64 (.fin (decide (N < 0)) N.natAbs (-4))) = N * 2 ^ 1070 := by
  rw [own_zv _ h (by decide) (by decide)]
  unfold signed
  have e : (((-4 : Int) + 1074).toNat) = 1070 := rfl
  rw [e]
  by_cases k : N < 0
  · simp only [k, decide_true, if_true]
    rw [Int.natCast_mul, Int.natCast_pow, ← Int.neg_mul]
    congr 1
    omega
  · simp only [k, decide_false, Bool.false_eq_true, if_false]
    rw [Int.natCast_mul, Int.natCast_pow]
    congr 1
    omega
theorem own_tenth : val64 4591870180066957722 = .fin false 7205759403792794 (-56) := by decide +kernel
/-- the product with the double next to a tenth: between two sixteenths -/
theorem own_prod (t : Int64) (b r : Int) (ht : t.toInt = 10 * b + r) (hr : 1 ≤ r ∧ r ≤ 9) (hb : -549755813888 ≤ b ∧ b < 549755813888) :
    val64 (dmul 4591870180066957722 (l2d t)) ≠ .nan ∧ (16 * b + 1) * 2 ^ 1070 ≤ zval b64 (val64 (dmul 4591870180066957722 (l2d t))) ∧ zval b64 (val64 (dmul 4591870180066957722 (l2d t))) ≤ (16 * b + 15) * 2 ^ 1070 := by
  have hz := own_zi t.toInt (by omega)
  rw [val64_dmul, val64_l2d, own_tenth]
  unfold ofInt at hz ⊢
  generalize hs : decide (t.toInt < 0) = sg at hz ⊢
  obtain ⟨c', q', e1, e2⟩ := round_exact good_b64 sg (c := t.toInt.natAbs) (q := 0) (by show _ < 2 ^ 53; omega) (by decide) (by decide)
  have hf := round_fits good_b64 (.fin sg t.toInt.natAbs 0)
  rw [e1] at hz hf ⊢
  have hq : (-1074 : Int) ≤ q' := hf.2.1
  show round b64 (.fin (false != sg) (7205759403792794 * c') (-56 + q')) ≠ .nan ∧ _
  have hm : signed (false != sg) (inUnits (7205759403792794 * c') (-56 + q') (-1130)) = 7205759403792794 * (t.toInt * 2 ^ 1074) := by
    have hz' : signed sg (inUnits c' q' b64.qmin) = t.toInt * 2 ^ 1074 := hz
    rw [← hz']
    have : inUnits (7205759403792794 * c') (-56 + q') (-1130) = 7205759403792794 * inUnits c' q' b64.qmin := by
      unfold inUnits
      rw [show (-56 + q' - -1130) = q' - b64.qmin by have : b64.qmin = -1074 := by decide
                                                     omega, Nat.mul_assoc]
    rw [this]
    cases sg <;> simp [signed, Int.mul_neg]
  have hn16 : ∀ N : Int, N.natAbs < 2 ^ 53 → Jvm.FP.Core.fits b64 (round b64 (.fin (decide (N < 0)) N.natAbs (-4))) ∧ round b64 (.fin (decide (N < 0)) N.natAbs (-4)) ≠ .nan := fun N hN => ⟨round_fits good_b64 _, roundRatio_ne_nan _ _ _ _ _⟩
  have hP : (2 : Int) ^ 1074 = 16 * 2 ^ 1070 := by rw [show (1074 : Nat) = 4 + 1070 from rfl, Int.pow_add]; rfl
  have hK : (0 : Int) < 2 ^ 1070 := Int.pow_pos (by decide)
  have h56 : ((2 ^ (b64.qmin - (-1130)).toNat : Nat) : Int) = 72057594037927936 := by decide
  refine ⟨roundRatio_ne_nan _ _ _ _ _, ?_, ?_⟩
  · have N := 16 * b + 1
    have a := hn16 (16 * b + 1) (by omega)
    rw [← own_z16 (16 * b + 1) (by omega)]
    refine zval_round_ge good_b64 (e0 := -1130) a.1 a.2 (by decide) (by omega) ?_
    rw [hm, own_z16 (16 * b + 1) (by omega), h56, hP, ht]
    generalize (2 : Int) ^ 1070 = K at hK
    have : (16 * b + 1) * 72057594037927936 ≤ 7205759403792794 * ((10 * b + r) * 16) := by omega
    have := Int.mul_le_mul_of_nonneg_right this (Int.le_of_lt hK)
    calc _ = (16 * b + 1) * 72057594037927936 * K := by rw [Int.mul_assoc, Int.mul_comm K, ← Int.mul_assoc]
      _ ≤ _ := this
      _ = _ := by rw [Int.mul_assoc, Int.mul_assoc]
  · have a := hn16 (16 * b + 15) (by omega)
    rw [← own_z16 (16 * b + 15) (by omega)]
    refine zval_round_le good_b64 (e0 := -1130) a.1 a.2 (by decide) (by omega) ?_
    rw [hm, own_z16 (16 * b + 15) (by omega), h56, hP, ht]
    generalize (2 : Int) ^ 1070 = K at hK
    have : 7205759403792794 * ((10 * b + r) * 16) ≤ (16 * b + 15) * 72057594037927936 := by omega
    have := Int.mul_le_mul_of_nonneg_right this (Int.le_of_lt hK)
    calc _ = 7205759403792794 * ((10 * b + r) * 16) * K := by rw [Int.mul_assoc, Int.mul_assoc]
      _ ≤ _ := this
      _ = _ := by rw [Int.mul_assoc, Int.mul_comm 72057594037927936, ← Int.mul_assoc]
theorem own_less (t c : Int64) (b r : Int) (ht : t.toInt = 10 * b + r) (hr : 1 ≤ r ∧ r ≤ 9) (hb : -549755813888 ≤ b ∧ b < 549755813888) (hc : -4294967296 * 256 ≤ c.toInt ∧ c.toInt ≤ 4294967296 * 256) :
    dcmp (l2d c) (dmul 4591870180066957722 (l2d t)) = some (if 10 * c.toInt < t.toInt then .lt else .gt) := by
  obtain ⟨h1, h2, h3⟩ := own_prod t b r ht hr hb
  have hz := own_zi c.toInt (by omega)
  have hn : val64 (l2d c) ≠ .nan := by rw [val64_l2d]; exact roundRatio_ne_nan _ _ _ _ _
  have ho : dcmp (l2d c) (dmul 4591870180066957722 (l2d t)) = some (compare (zval b64 (val64 (l2d c))) (zval b64 (val64 (dmul 4591870180066957722 (l2d t))))) := order_zval good_b64 (val64_fits _) (val64_fits _) hn h1
  rw [ho, val64_l2d, hz]
  have hP : (2 : Int) ^ 1074 = 16 * 2 ^ 1070 := by rw [show (1074 : Nat) = 4 + 1070 from rfl, Int.pow_add]; rfl
  have hK : (0 : Int) < 2 ^ 1070 := Int.pow_pos (by decide)
  rw [hP]
  generalize zval b64 (val64 (dmul 4591870180066957722 (l2d t))) = y at *
  generalize (2 : Int) ^ 1070 = K at *
  congr 1
  by_cases k : 10 * c.toInt < t.toInt
  · rw [if_pos k]
    have : c.toInt * 16 + 1 ≤ 16 * b + 1 := by omega
    have m := Int.mul_le_mul_of_nonneg_right this (Int.le_of_lt hK)
    have : c.toInt * (16 * K) < y := by
      rw [← Int.mul_assoc]
      rw [Int.add_mul] at m
      omega
    simp [compare, compareOfLessAndEq, this]
  · rw [if_neg k]
    have : 16 * b + 15 + 1 ≤ c.toInt * 16 := by omega
    have m := Int.mul_le_mul_of_nonneg_right this (Int.le_of_lt hK)
    have q : y < c.toInt * (16 * K) := by
      rw [← Int.mul_assoc]
      rw [Int.add_mul] at m
      omega
    have q1 : ¬ c.toInt * (16 * K) < y := by omega
    have q2 : ¬ c.toInt * (16 * K) = y := by omega
    simp [compare, compareOfLessAndEq, q1, q2]
end OwnFP
/-- what the law hands to settled -/
def own_ok (t c : Int64) : Prop := (∃ b r : Int, t.toInt = 10 * b + r ∧ (1 ≤ r ∧ r ≤ 9) ∧ (-549755813888 ≤ b ∧ b < 549755813888)) ∧ (-1099511627776 ≤ c.toInt ∧ c.toInt ≤ 1099511627776)
theorem own_nonan {t c : Int64} (h : own_ok t c) : Jvm.Free.Fl.NoNaN64 (FP.dmul (4591870180066957722 : UInt64) (FP.l2d t)) := by
  obtain ⟨⟨b, r, h1, h2, h3⟩, h4⟩ := h
  exact Jvm.Free.Fl.val64_no.mpr (own_prod t b r h1 h2 h3).1
theorem own_cmpw {t c : Int64} {w : Int32} (h : own_ok t c) (hw : cmpValue (FP.dcmp (FP.l2d c) (FP.dmul (4591870180066957722 : UInt64) (FP.l2d t))) .g = w) : w < (0 : Int32) ↔ 10 * c.toInt < t.toInt := by
  obtain ⟨⟨b, r, h1, h2, h3⟩, h4⟩ := h
  have q := own_less t c b r h1 h2 h3 ⟨by omega, by omega⟩
  have q' : FP.dcmp (FP.l2d c) (FP.dmul (4591870180066957722 : UInt64) (FP.l2d t)) = some (if 10 * c.toInt < t.toInt then .lt else .gt) := q
  rw [q'] at hw
  by_cases k : 10 * c.toInt < t.toInt
  · rw [if_pos k] at hw
    subst hw
    exact ⟨fun _ => k, fun _ => by decide⟩
  · rw [if_neg k] at hw
    subst hw
    exact ⟨fun z => absurd z (by decide), fun z => absurd z k⟩
def own_nx (n : Int32) (t c : Int64) : Int32 := if 10 * c.toInt < t.toInt then (n + (1 : Int32)) else (0 : Int32)
theorem own_ifc {P Q : Prop} [Decidable P] [Decidable Q] {a b : Int32} (h : P ↔ Q) : (if P then a else b) = (if Q then a else b) := by
  by_cases p : P
  · rw [if_pos p, if_pos (h.mp p)]
  · rw [if_neg p, if_neg (fun q => p (h.mpr q))]
theorem own_base (x : Int64) : -549755813888 ≤ (f2 x).toInt ∧ (f2 x).toInt < 549755813888 := by
  rw [f2]
  have a : (((x <<< ((24 : Int32) &&& 0x3f).toInt64)) >>> ((24 : Int32) &&& 0x3f).toInt64).toInt = (x <<< ((24 : Int32) &&& 0x3f).toInt64).toInt / 16777216 := c_lshr _ 24 24 (by decide)
  have b1 := Int64.le_toInt (x <<< ((24 : Int32) &&& 0x3f).toInt64)
  have b2 := Int64.toInt_lt (x <<< ((24 : Int32) &&& 0x3f).toInt64)
  rw [a]
  omega
theorem own_okp {x : Int64} {y : Int32} {t c : Int64} (ht : f1 x y = t) (hc : f3 x y = c) : own_ok t c := by
  have hb := own_base x
  constructor
  · rw [f1] at ht
    have a1 : (y &&& (2147483647 : Int32)).toInt = y.toInt % 2147483648 := c_mask y _ 31 (by decide) (by decide)
    have a2 := (c_irem (y &&& (2147483647 : Int32)) 9 9 rfl).1 (by omega)
    have a3 := c_i2l ((y &&& (2147483647 : Int32)) % (9 : Int32))
    have a4 := c_ladd 1 ((y &&& (2147483647 : Int32)) % (9 : Int32)).toInt64
    have b1 := Int64.le_toInt (1 + ((y &&& (2147483647 : Int32)) % (9 : Int32)).toInt64)
    have b2 := Int64.toInt_lt (1 + ((y &&& (2147483647 : Int32)) % (9 : Int32)).toInt64)
    have e1 : (1 : Int64).toInt = 1 := rfl
    have e10 : (10 : Int64).toInt = 10 := rfl
    have a5 := c_lmul 10 (f2 x)
    rw [e10] at a5
    have b3 := Int64.le_toInt (10 * f2 x)
    have b4 := Int64.toInt_lt (10 * f2 x)
    have a6 := c_ladd (10 * f2 x) (1 + ((y &&& (2147483647 : Int32)) % (9 : Int32)).toInt64)
    rw [ht] at a6
    have b5 := Int64.le_toInt t
    have b6 := Int64.toInt_lt t
    refine ⟨(f2 x).toInt, (1 + ((y &&& (2147483647 : Int32)) % (9 : Int32)).toInt64).toInt, by omega, by omega, hb⟩
  · rw [f3] at hc
    split at hc
    · have a1 := c_andSL (((x).toUInt64 >>> ((41 : Int32) &&& 0x3f).toInt64.toUInt64).toInt64) 3
      have a2 : ((((x).toUInt64 >>> ((41 : Int32) &&& 0x3f).toInt64.toUInt64).toInt64) &&& (3 : Int64)).toInt = (((x).toUInt64 >>> ((41 : Int32) &&& 0x3f).toInt64.toUInt64).toInt64).toInt % 4 := c_maskL _ _ 2 (by decide) (by decide)
      generalize ((((x).toUInt64 >>> ((41 : Int32) &&& 0x3f).toInt64.toUInt64).toInt64) &&& (3 : Int64)) = u at a2 hc
      have a3 := c_lsub u 2
      have b1 := Int64.le_toInt (u - 2)
      have b2 := Int64.toInt_lt (u - 2)
      have e2 : (2 : Int64).toInt = 2 := rfl
      have a4 := c_ladd (f2 x) (u - 2)
      rw [hc] at a4
      have b5 := Int64.le_toInt c
      have b6 := Int64.toInt_lt c
      omega
    · subst hc
      rw [c_i2l]
      have b1 := Int32.le_toInt y
      have b2 := Int32.toInt_lt y
      omega
theorem own_q {t c : Int64} (h : own_ok t c) : ((10 : Int64) * c) < t ↔ 10 * c.toInt < t.toInt := by
  obtain ⟨h1, h4⟩ := h
  rw [Int64.lt_iff_toInt_lt]
  have a5 := c_lmul 10 c
  have e10 : (10 : Int64).toInt = 10 := rfl
  rw [e10] at a5
  have b3 := Int64.le_toInt (10 * c)
  have b4 := Int64.toInt_lt (10 * c)
  omega
theorem own_qz {t c : Int64} {z : Int32} (h : own_ok t c) (hz : z = (if ((10 : Int64) * c) < t then (1 : Int32) else (0 : Int32))) (n : Int32) : own_nx n t c = (if z = (0 : Int32) then (0 : Int32) else (n + (1 : Int32))) := by
  have q := own_q h
  unfold own_nx
  by_cases k : 10 * c.toInt < t.toInt
  · rw [if_pos (q.mpr k)] at hz
    subst hz
    rw [if_pos k, if_neg (by decide)]
  · rw [if_neg (fun z => k (q.mp z))] at hz
    subst hz
    rw [if_neg k, if_pos rfl]
theorem own_r1 (t c : Int64) : (if (own_nx (0 : Int32) t c) < (2 : Int32) then (0 : Int32) else (1 : Int32)) = (0 : Int32) := by
  unfold own_nx
  split <;> rfl
theorem own_r2 {t1 c1 t2 c2 : Int64} {z1 z2 z : Int32} (h1 : own_ok t1 c1) (h2 : own_ok t2 c2) (q1 : z1 = (if ((10 : Int64) * c1) < t1 then (1 : Int32) else (0 : Int32))) (q2 : z2 = (if ((10 : Int64) * c2) < t2 then (1 : Int32) else (0 : Int32)))
    (hz : z = (if z1 = (0 : Int32) then (0 : Int32) else (if z2 = (0 : Int32) then (0 : Int32) else (1 : Int32)))) : (if (own_nx (own_nx (0 : Int32) t1 c1) t2 c2) < (2 : Int32) then (0 : Int32) else (1 : Int32)) = z := by
  rw [own_qz h2 q2, own_qz h1 q1, hz]
  by_cases k1 : z1 = 0 <;> by_cases k2 : z2 = 0
  · rw [if_pos k2, if_pos k1]; rfl
  · rw [if_neg k2, if_pos k1, if_pos k1]; rfl
  · rw [if_pos k2, if_neg k1, if_pos k2]; rfl
  · rw [if_neg k2, if_neg k1, if_neg k1, if_neg k2]; rfl
theorem own_r3 {t0 c0 t1 c1 t2 c2 : Int64} {z1 z2 z : Int32} (h1 : own_ok t1 c1) (h2 : own_ok t2 c2) (q1 : z1 = (if ((10 : Int64) * c1) < t1 then (1 : Int32) else (0 : Int32))) (q2 : z2 = (if ((10 : Int64) * c2) < t2 then (1 : Int32) else (0 : Int32)))
    (hz : z = (if z1 = (0 : Int32) then (0 : Int32) else (if z2 = (0 : Int32) then (0 : Int32) else (1 : Int32)))) : (if (own_nx (own_nx (own_nx (0 : Int32) t0 c0) t1 c1) t2 c2) < (2 : Int32) then (0 : Int32) else (1 : Int32)) = z := by
  have e0 : own_nx (0 : Int32) t0 c0 = 0 ∨ own_nx (0 : Int32) t0 c0 = 1 := by
    unfold own_nx; split
    · exact Or.inr rfl
    · exact Or.inl rfl
  rw [own_qz h2 q2, own_qz h1 q1, hz]
  generalize own_nx (0 : Int32) t0 c0 = n at e0
  by_cases k1 : z1 = 0 <;> by_cases k2 : z2 = 0
  · rw [if_pos k2, if_pos k1]; rfl
  · rw [if_neg k2, if_pos k1, if_pos k1]; rfl
  · rw [if_pos k2, if_neg k1, if_pos k2]; rfl
  · rw [if_neg k2, if_neg k1, if_neg k1, if_neg k2]; rcases e0 with rfl | rfl <;> rfl

def QS (Z : State) (a1 : Addr) (n1 : Int32) (q2 q3 : Int64) (h0 : Heap) (n0 : Nat) (v : Option Value) (h : Heap) (L : List Loc) : Prop := v = some (.int (if own_nx n1 q2 q3 < (2 : Int32) then (0 : Int32) else (1 : Int32))) ∧ Fr n0 L ∧ Keep h0 h [a1] ∧ Exa Z h a1 "quorate/tcp/WarmUp$Settling" ∧ Fld Z h a1 "quorate/tcp/WarmUp$Settling" "quiet" "I" (.int (own_nx n1 q2 q3))
theorem d6_0 : decode prog_242_method_2_code 0 = .ok (.aload_n 0, 1) := by decide +kernel
theorem d6_1 : decode prog_242_method_2_code 1 = .ok (.lload_n 3, 1) := by decide +kernel
theorem d6_2 : decode prog_242_method_2_code 2 = .ok (.l2d, 1) := by decide +kernel
theorem d6_3 : decode prog_242_method_2_code 3 = .ok (.ldc2_w 9, 3) := by decide +kernel
theorem d6_6 : decode prog_242_method_2_code 6 = .ok (.lload_n 1, 1) := by decide +kernel
theorem d6_7 : decode prog_242_method_2_code 7 = .ok (.l2d, 1) := by decide +kernel
theorem d6_8 : decode prog_242_method_2_code 8 = .ok (.dmul, 1) := by decide +kernel
theorem d6_9 : decode prog_242_method_2_code 9 = .ok (.dcmp .g, 1) := by decide +kernel
theorem d6_10 : decode prog_242_method_2_code 10 = .ok (.ifCond .ge 12, 3) := by decide +kernel
theorem d6_13 : decode prog_242_method_2_code 13 = .ok (.aload_n 0, 1) := by decide +kernel
theorem d6_14 : decode prog_242_method_2_code 14 = .ok (.getfield 11, 3) := by decide +kernel
theorem d6_17 : decode prog_242_method_2_code 17 = .ok (.iconst 1, 1) := by decide +kernel
theorem d6_18 : decode prog_242_method_2_code 18 = .ok (.iadd, 1) := by decide +kernel
theorem d6_19 : decode prog_242_method_2_code 19 = .ok (.goto 4, 3) := by decide +kernel
theorem d6_22 : decode prog_242_method_2_code 22 = .ok (.iconst 0, 1) := by decide +kernel
theorem d6_23 : decode prog_242_method_2_code 23 = .ok (.putfield 11, 3) := by decide +kernel
theorem d6_26 : decode prog_242_method_2_code 26 = .ok (.aload_n 0, 1) := by decide +kernel
theorem d6_27 : decode prog_242_method_2_code 27 = .ok (.getfield 11, 3) := by decide +kernel
theorem d6_30 : decode prog_242_method_2_code 30 = .ok (.iconst 2, 1) := by decide +kernel
theorem d6_31 : decode prog_242_method_2_code 31 = .ok (.if_icmp .lt 7, 3) := by decide +kernel
theorem d6_34 : decode prog_242_method_2_code 34 = .ok (.iconst 1, 1) := by decide +kernel
theorem d6_35 : decode prog_242_method_2_code 35 = .ok (.goto 4, 3) := by decide +kernel
theorem d6_38 : decode prog_242_method_2_code 38 = .ok (.iconst 0, 1) := by decide +kernel
theorem d6_39 : decode prog_242_method_2_code 39 = .ok (.ireturn, 1) := by decide +kernel
theorem pn_6 : plainName "quorate/tcp/WarmUp$Settling" = true := by first | (simp [plainName, overriddenIn]; done) | decide +kernel
theorem ef_6 (m : MethodId) (x0 : Addr) (x1 : Int64) (x2 : Int64) : entryFrame m #[(.ref x0), (.long x1), (.long x2)] 5 = mkF m 0 #[.val (.ref x0), .val (.long x1), .second, .val (.long x2), .second] [] := by first | (simp [entryFrame, mkF, argsToLocals, Value.category]; done) | rfl
set_option maxRecDepth 65536 in
set_option maxHeartbeats 40000000 in
theorem rm6 (l : Launch) (Z : State) (a0 : Array Value) (hw : ∀ d ∈ tables_1, d.before a0 Z = true) (ws : List Jvm.Cond) (a1 : Addr) (q2 : Int64) (q3 : Int64) (h0 : Heap) (n0 : Nat) {n1 : Int32} (Z0 : n0 ≤ h0.size) (g_a1 : n0 ≤ a1) (hok : own_ok q2 q3) (E_a1 : Exa Z h0 a1 "quorate/tcp/WarmUp$Settling") (F_q : Fld Z h0 a1 "quorate/tcp/WarmUp$Settling" "quiet" "I" (.int n1)) :
    MetFree l (⟨"quorate/tcp/WarmUp$Settling", "settled", "(JJ)Z"⟩ : MethodName) (head1 (Jvm.Cond.code (⟨"quorate/tcp/WarmUp$Settling", "settled", "(JJ)Z"⟩ : MethodName) prog_242_method_2_code 5 (some .boolean) :: ws) ({ frames := 0, cells := 0, slots := 0, locals := 0 } : Room)) (fun a U => a = #[(.ref a1), (.long q2), (.long q3)] ∧ Z.Warmed39 U.vm ∧ U.heap = h0) (fun _ _ _ _ _ => True) (fun _ U o U' => ∃ v L, o = .returned v ∧ (QS Z a1 n1 q2 q3 h0 n0) v U'.heap L ∧ FrameEnd U o U' L ({ frames := 0, cells := 0, slots := 0, locals := 0 } : Room).cells ({ frames := 0, cells := 0, slots := 0, locals := 0 } : Room).slots) := by
  refine own_met (plainFor_of_name pn_6) (fun m => ef_6 m a1 q2 q3) ?_
  intro p e s m below meth c T0 hx hby hml hown hnm hret hlk hZ X0 e0
  have hown : s.vm.findClass "quorate/tcp/WarmUp$Settling" = some m.cls := hown
  have hnm : meth.name = "settled" := hnm
  have hret : meth.sig.returnType = some .boolean := hret
  have N0 := Fr.nil n0
  show Go p e below _ (T0.setTop (mkF m 0 #[.val (.ref a1), .val (.long q2), .second, .val (.long q3), .second] []))
  refine go (fun _ q => XS.aloadN X0.here hx rfl (hb hby d6_0) rfl rfl q) ?_
  show Go p e below _ (T0.setTop (mkF m 1 #[.val (.ref a1), .val (.long q2), .second, .val (.long q3), .second] [(.ref a1)]))
  refine go (fun _ q => XS.lloadN X0.here hx rfl (hb hby d6_1) rfl q) ?_
  show Go p e below _ (T0.setTop (mkF m 2 #[.val (.ref a1), .val (.long q2), .second, .val (.long q3), .second] [(.long q3), (.ref a1)]))
  refine go (fun _ q => XS.l2dS X0.here hx rfl (hb hby d6_2) rfl rfl q) ?_
  show Go p e below _ (T0.setTop (mkF m 3 #[.val (.ref a1), .val (.long q2), .second, .val (.long q3), .second] [(.double (FP.l2d q3)), (.ref a1)]))
  refine go (X0.ldc2DoubleC hx hown (mvT hZ (hw _ (List.mem_of_getElem? (i := 28) rfl))) (g := (mkF m 3 #[.val (.ref a1), .val (.long q2), .second, .val (.long q3), .second] [(.double (FP.l2d q3)), (.ref a1)])) rfl (hb hby d6_3)) ?_
  show Go p e below _ (T0.setTop (mkF m 6 #[.val (.ref a1), .val (.long q2), .second, .val (.long q3), .second] [(.double (4591870180066957722 : UInt64)), (.double (FP.l2d q3)), (.ref a1)]))
  refine go (fun _ q => XS.lloadN X0.here hx rfl (hb hby d6_6) rfl q) ?_
  show Go p e below _ (T0.setTop (mkF m 7 #[.val (.ref a1), .val (.long q2), .second, .val (.long q3), .second] [(.long q2), (.double (4591870180066957722 : UInt64)), (.double (FP.l2d q3)), (.ref a1)]))
  refine go (fun _ q => XS.l2dS X0.here hx rfl (hb hby d6_7) rfl rfl q) ?_
  show Go p e below _ (T0.setTop (mkF m 8 #[.val (.ref a1), .val (.long q2), .second, .val (.long q3), .second] [(.double (FP.l2d q2)), (.double (4591870180066957722 : UInt64)), (.double (FP.l2d q3)), (.ref a1)]))
  refine go (fun _ q => XS.dmulS X0.here hx rfl (hb hby d6_8) rfl (own_nonan hok) rfl q) ?_
  show Go p e below _ (T0.setTop (mkF m 9 #[.val (.ref a1), .val (.long q2), .second, .val (.long q3), .second] [(.double (FP.dmul (4591870180066957722 : UInt64) (FP.l2d q2))), (.double (FP.l2d q3)), (.ref a1)]))
  obtain ⟨w1, hw1⟩ : ∃ w, cmpValue (FP.dcmp (FP.l2d q3) (FP.dmul (4591870180066957722 : UInt64) (FP.l2d q2))) .g = w := ⟨_, rfl⟩
  refine go (fun _ q => XS.dcmpS X0.here hx rfl (hb hby d6_9) rfl hw1 q) ?_
  show Go p e below _ (T0.setTop (mkF m 10 #[.val (.ref a1), .val (.long q2), .second, .val (.long q3), .second] [(.int w1), (.ref a1)]))
  suffices hj2 : ∀ (T6 : State) (L6 : List Loc), Stand p l e ({ frames := 0, cells := 0, slots := 0, locals := 0 } : Room) s m #[(.ref a1), (.long q2), (.long q3)] below meth c T6 L6 0 0 → Fr n0 L6 → T6.heap = h0 → ∀ (z5 : Int32), z5 = (if w1 < (0 : Int32) then (n1 + (1 : Int32)) else (0 : Int32)) → Go p e below (Dn below s ((QS Z a1 n1 q2 q3 h0 n0)) ({ frames := 0, cells := 0, slots := 0, locals := 0 } : Room).cells ({ frames := 0, cells := 0, slots := 0, locals := 0 } : Room).slots) (T6.setTop (mkF m 23 #[.val (.ref a1), .val (.long q2), .second, .val (.long q3), .second] [(.int z5), (.ref a1)])) by
    by_cases hc3 : w1 < (0 : Int32)
    · refine go (fun _ q => XS.ifNo X0.here hx rfl (hb hby d6_10) rfl ((if0 _ _).trans (tlt hc3).2.1) q) ?_
      show Go p e below _ (T0.setTop (mkF m 13 #[.val (.ref a1), .val (.long q2), .second, .val (.long q3), .second] [(.ref a1)]))
      refine go (fun _ q => XS.aloadN X0.here hx rfl (hb hby d6_13) rfl rfl q) ?_
      show Go p e below _ (T0.setTop (mkF m 14 #[.val (.ref a1), .val (.long q2), .second, .val (.long q3), .second] [(.ref a1), (.ref a1)]))
      obtain ⟨T4, X4, e4, st4⟩ := getF X0 hx hZ hown (host := "") (Or.inl (hw _ (List.mem_of_getElem? (i := 29) rfl))) Via.refl e0 F_q (g := (mkF m 14 #[.val (.ref a1), .val (.long q2), .second, .val (.long q3), .second] [(.ref a1), (.ref a1)])) rfl rfl (hb hby d6_14)
      refine go st4 ?_
      show Go p e below _ (T4.setTop (mkF m 17 #[.val (.ref a1), .val (.long q2), .second, .val (.long q3), .second] [(.int n1), (.ref a1)]))
      refine go (fun _ q => XS.iconst X4.here hx rfl (hb hby d6_17) q) ?_
      show Go p e below _ (T4.setTop (mkF m 18 #[.val (.ref a1), .val (.long q2), .second, .val (.long q3), .second] [(.int (1 : Int32)), (.int n1), (.ref a1)]))
      refine go (fun _ q => XS.iadd X4.here hx rfl (hb hby d6_18) rfl q) ?_
      show Go p e below _ (T4.setTop (mkF m 19 #[.val (.ref a1), .val (.long q2), .second, .val (.long q3), .second] [(.int (n1 + (1 : Int32))), (.ref a1)]))
      refine go (fun _ q => XS.goto X4.here hx rfl (pc0 := 19) (pc' := 23) rfl (hb hby d6_19) (by decide) (by decide) q) ?_
      show Go p e below _ (T4.setTop (mkF m 23 #[.val (.ref a1), .val (.long q2), .second, .val (.long q3), .second] [(.int (n1 + (1 : Int32))), (.ref a1)]))
      exact hj2 T4 _ X4 N0 e4 _ (by rw [if_pos hc3])
    · refine go (fun _ q => XS.ifYes X0.here hx rfl (pc0 := 10) (pc' := 22) rfl (hb hby d6_10) rfl ((if0 _ _).trans (flt hc3).2.1) (by decide) (by decide) q) ?_
      show Go p e below _ (T0.setTop (mkF m 22 #[.val (.ref a1), .val (.long q2), .second, .val (.long q3), .second] [(.ref a1)]))
      refine go (fun _ q => XS.iconst X0.here hx rfl (hb hby d6_22) q) ?_
      show Go p e below _ (T0.setTop (mkF m 23 #[.val (.ref a1), .val (.long q2), .second, .val (.long q3), .second] [(.int (0 : Int32)), (.ref a1)]))
      exact hj2 T0 _ X0 N0 e0 _ (by rw [if_neg hc3])
  intro T6 L6 X6 N6 e6 z5 hz5
  show Go p e below _ (T6.setTop (mkF m 23 #[.val (.ref a1), .val (.long q2), .second, .val (.long q3), .second] [(.int z5), (.ref a1)]))
  obtain ⟨T7, h7, X7, e7, W7, st7⟩ := putF X6 hx hZ hown (host := "") (Or.inl (hw _ (List.mem_of_getElem? (i := 29) rfl))) Via.refl e6 F_q E_a1 (Or.inl (hw _ (List.mem_of_getElem? (i := 30) rfl))) (hw _ (List.mem_of_getElem? (i := 15) rfl)) (ty := .int) (by decide) rfl rfl (g := (mkF m 23 #[.val (.ref a1), .val (.long q2), .second, .val (.long q3), .second] [(.int z5), (.ref a1)])) rfl rfl (hb hby d6_23)
  refine go st7 ?_
  have F_q_7 : Fld Z h7 a1 "quorate/tcp/WarmUp$Settling" "quiet" "I" (.int z5) := F_q.same W7
  have E_a1_8 : Exa Z h7 a1 "quorate/tcp/WarmUp$Settling" := E_a1.wr W7
  have N7 := Fr.snoc X7 N6 g_a1
  have K7 : Keep h0 h7 [a1] := (Keep.refl h0 [a1]).wr W7 (Or.inl (List.mem_of_getElem? (i := 0) rfl))
  have Z7 : n0 ≤ h7.size := Nat.le_trans Z0 (Nat.le_of_eq W7.size.symm)
  show Go p e below _ (T7.setTop (mkF m 26 #[.val (.ref a1), .val (.long q2), .second, .val (.long q3), .second] []))
  refine go (fun _ q => XS.aloadN X7.here hx rfl (hb hby d6_26) rfl rfl q) ?_
  show Go p e below _ (T7.setTop (mkF m 27 #[.val (.ref a1), .val (.long q2), .second, .val (.long q3), .second] [(.ref a1)]))
  obtain ⟨T9, X9, e9, st9⟩ := getF X7 hx hZ hown (host := "") (Or.inl (hw _ (List.mem_of_getElem? (i := 29) rfl))) Via.refl e7 F_q_7 (g := (mkF m 27 #[.val (.ref a1), .val (.long q2), .second, .val (.long q3), .second] [(.ref a1)])) rfl rfl (hb hby d6_27)
  refine go st9 ?_
  show Go p e below _ (T9.setTop (mkF m 30 #[.val (.ref a1), .val (.long q2), .second, .val (.long q3), .second] [(.int z5)]))
  refine go (fun _ q => XS.iconst X9.here hx rfl (hb hby d6_30) q) ?_
  show Go p e below _ (T9.setTop (mkF m 31 #[.val (.ref a1), .val (.long q2), .second, .val (.long q3), .second] [(.int (2 : Int32)), (.int z5)]))
  suffices hj10 : ∀ (z12 : Int32), z12 = (if z5 < (2 : Int32) then (0 : Int32) else (1 : Int32)) → Go p e below (Dn below s ((QS Z a1 n1 q2 q3 h0 n0)) ({ frames := 0, cells := 0, slots := 0, locals := 0 } : Room).cells ({ frames := 0, cells := 0, slots := 0, locals := 0 } : Room).slots) (T9.setTop (mkF m 39 #[.val (.ref a1), .val (.long q2), .second, .val (.long q3), .second] [(.int z12)])) by
    by_cases hc11 : z5 < (2 : Int32)
    · refine go (fun _ q => XS.icmpYes X9.here hx rfl (pc0 := 31) (pc' := 38) rfl (hb hby d6_31) rfl (tlt hc11).1 (by decide) (by decide) q) ?_
      show Go p e below _ (T9.setTop (mkF m 38 #[.val (.ref a1), .val (.long q2), .second, .val (.long q3), .second] []))
      refine go (fun _ q => XS.iconst X9.here hx rfl (hb hby d6_38) q) ?_
      show Go p e below _ (T9.setTop (mkF m 39 #[.val (.ref a1), .val (.long q2), .second, .val (.long q3), .second] [(.int (0 : Int32))]))
      exact hj10 _ (by rw [if_pos hc11])
    · refine go (fun _ q => XS.icmpNo X9.here hx rfl (hb hby d6_31) rfl (flt hc11).1 q) ?_
      show Go p e below _ (T9.setTop (mkF m 34 #[.val (.ref a1), .val (.long q2), .second, .val (.long q3), .second] []))
      refine go (fun _ q => XS.iconst X9.here hx rfl (hb hby d6_34) q) ?_
      show Go p e below _ (T9.setTop (mkF m 35 #[.val (.ref a1), .val (.long q2), .second, .val (.long q3), .second] [(.int (1 : Int32))]))
      refine go (fun _ q => XS.goto X9.here hx rfl (pc0 := 35) (pc' := 39) rfl (hb hby d6_35) (by decide) (by decide) q) ?_
      show Go p e below _ (T9.setTop (mkF m 39 #[.val (.ref a1), .val (.long q2), .second, .val (.long q3), .second] [(.int (1 : Int32))]))
      exact hj10 _ (by rw [if_neg hc11])
  intro z12 hz12
  show Go p e below _ (T9.setTop (mkF m 39 #[.val (.ref a1), .val (.long q2), .second, .val (.long q3), .second] [(.int z12)]))
  have ez : z5 = own_nx n1 q2 q3 := by rw [hz5, own_nx]; exact own_ifc (own_cmpw hok hw1)
  subst ez
  exact own_retZ (z' := z12) X9 hx hlk hret (hb hby d6_39) (by decide) (by decide) (by rw [hz12]; split <;> rfl) (by rw [e9]; exact ⟨congrArg (fun z => some (Value.int z)) hz12, N7, K7, E_a1_8, F_q_7⟩)
def Q0 (n0 : Nat) (v : Option Value) (h : Heap) (L : List Loc) : Prop := v = some (.int (1 : Int32)) ∧ Fr n0 L
theorem pd_0_0 : parseMethodDescriptor "(JI)J" = some ⟨[.long, .int], some .long⟩ := by decide +kernel
theorem pd_0_1 : parseMethodDescriptor "()V" = some ⟨[], none⟩ := by decide +kernel
theorem pd_0_2 : parseMethodDescriptor "(JJ)Z" = some ⟨[.long, .long], some .boolean⟩ := by decide +kernel
theorem pn_0 : plainName "quorate/tcp/SettlingSettledPinLaw" = true := by first | (simp [plainName, overriddenIn]; done) | decide +kernel
theorem ef_0 (m : MethodId) (x0 : Int64) (x1 : Int32) (x2 : Int64) (x3 : Int32) (x4 : Int64) (x5 : Int32) : entryFrame m #[(.long x0), (.int x1), (.long x2), (.int x3), (.long x4), (.int x5)] maxLocals = mkF m 0 #[.val (.long x0), .second, .val (.int x1), .val (.long x2), .second, .val (.int x3), .val (.long x4), .second, .val (.int x5), .unset, .unset, .unset, .unset, .unset, .unset, .unset, .unset, .unset, .unset, .unset, .unset, .unset, .unset, .unset, .unset, .unset, .unset, .unset] [] := by first | (simp [entryFrame, mkF, argsToLocals, Value.category, maxLocals]; done) | rfl
set_option maxRecDepth 65536 in
set_option maxHeartbeats 40000000 in
theorem rm0 (l : Launch) (Z : State) (a0 : Array Value) (hw : ∀ d ∈ tables_1, d.before a0 Z = true) (ws : List Jvm.Cond) (q1 : Int64) (p2 : Int32) (q3 : Int64) (p4 : Int32) (q5 : Int64) (p6 : Int32) (h0 : Heap) (n0 : Nat) (Z0 : n0 ≤ h0.size) :
    MetFree l x (head1 (Jvm.Cond.code x code maxLocals ret :: ws) room_1) (fun a U => a = #[(.long q1), (.int p2), (.long q3), (.int p4), (.long q5), (.int p6)] ∧ Z.Warmed39 U.vm ∧ U.heap = h0) (fun _ _ _ _ _ => True) (fun _ U o U' => ∃ v L, o = .returned v ∧ (Q0 n0) v U'.heap L ∧ FrameEnd U o U' L room_1.cells room_1.slots) := by
  refine own_met (plainFor_of_name pn_0) (fun m => ef_0 m q1 p2 q3 p4 q5 p6) ?_
  intro p e s m below meth c T0 hx hby hml hown hnm hret hlk hZ X0 e0
  have hown : s.vm.findClass "quorate/tcp/SettlingSettledPinLaw" = some m.cls := hown
  have hnm : meth.name = "law" := hnm
  have hret : meth.sig.returnType = some .boolean := hret
  have N0 := Fr.nil n0
  show Go p e below _ (T0.setTop (mkF m 0 #[.val (.long q1), .second, .val (.int p2), .val (.long q3), .second, .val (.int p4), .val (.long q5), .second, .val (.int p6), .unset, .unset, .unset, .unset, .unset, .unset, .unset, .unset, .unset, .unset, .unset, .unset, .unset, .unset, .unset, .unset, .unset, .unset, .unset] []))
  refine go (fun _ q => XS.lloadN X0.here hx rfl (hb hby at_0) rfl q) ?_
  show Go p e below _ (T0.setTop (mkF m 1 #[.val (.long q1), .second, .val (.int p2), .val (.long q3), .second, .val (.int p4), .val (.long q5), .second, .val (.int p6), .unset, .unset, .unset, .unset, .unset, .unset, .unset, .unset, .unset, .unset, .unset, .unset, .unset, .unset, .unset, .unset, .unset, .unset, .unset] [(.long q1)]))
  refine go (fun _ q => XS.iloadN X0.here hx rfl (hb hby at_1) rfl q) ?_
  show Go p e below _ (T0.setTop (mkF m 2 #[.val (.long q1), .second, .val (.int p2), .val (.long q3), .second, .val (.int p4), .val (.long q5), .second, .val (.int p6), .unset, .unset, .unset, .unset, .unset, .unset, .unset, .unset, .unset, .unset, .unset, .unset, .unset, .unset, .unset, .unset, .unset, .unset, .unset] [(.int p2), (.long q1)]))
  refine own_callS X0 hx hZ hown e0 (hw _ (List.mem_of_getElem? (i := 0) rfl)) (hw _ (List.mem_of_getElem? (i := 1) rfl)) (hw _ (List.mem_of_getElem? (i := 2) rfl)) (hw _ (List.mem_of_getElem? (i := 3) rfl)) (rm1 l Z a0 hw [] q1 p2 h0 n0) (by decide) (by decide) (W := 0) (by decide) (by decide) (by decide) (g := (mkF m 2 #[.val (.long q1), .second, .val (.int p2), .val (.long q3), .second, .val (.int p4), .val (.long q5), .second, .val (.int p6), .unset, .unset, .unset, .unset, .unset, .unset, .unset, .unset, .unset, .unset, .unset, .unset, .unset, .unset, .unset, .unset, .unset, .unset, .unset] [(.int p2), (.long q1)])) rfl (by rw [hml]; rfl) (argsL := [(.long q1), (.int p2)]) (rest := []) rfl rfl (lenOf pd_0_0 rfl) (by show 2 * 0 + _ ≤ _; exact Nat.le_of_eq rfl) (hb hby at_2) ?_
  rintro _ T1 L1 X1 ⟨rfl, N1q, e1⟩
  have N1 := Fr.app N0 N1q
  show Go p e below _ (T1.setTop (mkF m 5 #[.val (.long q1), .second, .val (.int p2), .val (.long q3), .second, .val (.int p4), .val (.long q5), .second, .val (.int p6), .unset, .unset, .unset, .unset, .unset, .unset, .unset, .unset, .unset, .unset, .unset, .unset, .unset, .unset, .unset, .unset, .unset, .unset, .unset] [(.long (f1 q1 p2))]))
  generalize hv2 : (f1 q1 p2) = v2
  show Go p e below _ (T1.setTop (mkF m 5 #[.val (.long q1), .second, .val (.int p2), .val (.long q3), .second, .val (.int p4), .val (.long q5), .second, .val (.int p6), .unset, .unset, .unset, .unset, .unset, .unset, .unset, .unset, .unset, .unset, .unset, .unset, .unset, .unset, .unset, .unset, .unset, .unset, .unset] [(.long v2)]))
  refine go (fun _ q => XS.lstore X1.here hx rfl (hb hby at_5) rfl (l' := #[.val (.long q1), .second, .val (.int p2), .val (.long q3), .second, .val (.int p4), .val (.long q5), .second, .val (.int p6), .val (.long v2), .second, .unset, .unset, .unset, .unset, .unset, .unset, .unset, .unset, .unset, .unset, .unset, .unset, .unset, .unset, .unset, .unset, .unset]) rfl q) ?_
  show Go p e below _ (T1.setTop (mkF m 7 #[.val (.long q1), .second, .val (.int p2), .val (.long q3), .second, .val (.int p4), .val (.long q5), .second, .val (.int p6), .val (.long v2), .second, .unset, .unset, .unset, .unset, .unset, .unset, .unset, .unset, .unset, .unset, .unset, .unset, .unset, .unset, .unset, .unset, .unset] []))
  refine go (fun _ q => XS.lloadN X1.here hx rfl (hb hby at_7) rfl q) ?_
  show Go p e below _ (T1.setTop (mkF m 8 #[.val (.long q1), .second, .val (.int p2), .val (.long q3), .second, .val (.int p4), .val (.long q5), .second, .val (.int p6), .val (.long v2), .second, .unset, .unset, .unset, .unset, .unset, .unset, .unset, .unset, .unset, .unset, .unset, .unset, .unset, .unset, .unset, .unset, .unset] [(.long q1)]))
  refine go (fun _ q => XS.iloadN X1.here hx rfl (hb hby at_8) rfl q) ?_
  show Go p e below _ (T1.setTop (mkF m 9 #[.val (.long q1), .second, .val (.int p2), .val (.long q3), .second, .val (.int p4), .val (.long q5), .second, .val (.int p6), .val (.long v2), .second, .unset, .unset, .unset, .unset, .unset, .unset, .unset, .unset, .unset, .unset, .unset, .unset, .unset, .unset, .unset, .unset, .unset] [(.int p2), (.long q1)]))
  refine own_callS X1 hx hZ hown e1 (hw _ (List.mem_of_getElem? (i := 9) rfl)) (hw _ (List.mem_of_getElem? (i := 10) rfl)) (hw _ (List.mem_of_getElem? (i := 2) rfl)) (hw _ (List.mem_of_getElem? (i := 11) rfl)) (rm3 l Z a0 hw [] q1 p2 h0 n0) (by decide) (by decide) (W := 0) (by decide) (by decide) (by decide) (g := (mkF m 9 #[.val (.long q1), .second, .val (.int p2), .val (.long q3), .second, .val (.int p4), .val (.long q5), .second, .val (.int p6), .val (.long v2), .second, .unset, .unset, .unset, .unset, .unset, .unset, .unset, .unset, .unset, .unset, .unset, .unset, .unset, .unset, .unset, .unset, .unset] [(.int p2), (.long q1)])) rfl (by rw [hml]; rfl) (argsL := [(.long q1), (.int p2)]) (rest := []) rfl rfl (lenOf pd_0_0 rfl) (by show 2 * 0 + _ ≤ _; exact Nat.le_of_eq rfl) (hb hby at_9) ?_
  rintro _ T3 L3 X3 ⟨rfl, N3q, e3⟩
  have N3 := Fr.app N1 N3q
  show Go p e below _ (T3.setTop (mkF m 12 #[.val (.long q1), .second, .val (.int p2), .val (.long q3), .second, .val (.int p4), .val (.long q5), .second, .val (.int p6), .val (.long v2), .second, .unset, .unset, .unset, .unset, .unset, .unset, .unset, .unset, .unset, .unset, .unset, .unset, .unset, .unset, .unset, .unset, .unset] [(.long (f3 q1 p2))]))
  generalize hv4 : (f3 q1 p2) = v4
  show Go p e below _ (T3.setTop (mkF m 12 #[.val (.long q1), .second, .val (.int p2), .val (.long q3), .second, .val (.int p4), .val (.long q5), .second, .val (.int p6), .val (.long v2), .second, .unset, .unset, .unset, .unset, .unset, .unset, .unset, .unset, .unset, .unset, .unset, .unset, .unset, .unset, .unset, .unset, .unset] [(.long v4)]))
  refine go (fun _ q => XS.lstore X3.here hx rfl (hb hby at_12) rfl (l' := #[.val (.long q1), .second, .val (.int p2), .val (.long q3), .second, .val (.int p4), .val (.long q5), .second, .val (.int p6), .val (.long v2), .second, .val (.long v4), .second, .unset, .unset, .unset, .unset, .unset, .unset, .unset, .unset, .unset, .unset, .unset, .unset, .unset, .unset, .unset]) rfl q) ?_
  show Go p e below _ (T3.setTop (mkF m 14 #[.val (.long q1), .second, .val (.int p2), .val (.long q3), .second, .val (.int p4), .val (.long q5), .second, .val (.int p6), .val (.long v2), .second, .val (.long v4), .second, .unset, .unset, .unset, .unset, .unset, .unset, .unset, .unset, .unset, .unset, .unset, .unset, .unset, .unset, .unset] []))
  refine go (fun _ q => XS.lloadN X3.here hx rfl (hb hby at_14) rfl q) ?_
  show Go p e below _ (T3.setTop (mkF m 15 #[.val (.long q1), .second, .val (.int p2), .val (.long q3), .second, .val (.int p4), .val (.long q5), .second, .val (.int p6), .val (.long v2), .second, .val (.long v4), .second, .unset, .unset, .unset, .unset, .unset, .unset, .unset, .unset, .unset, .unset, .unset, .unset, .unset, .unset, .unset] [(.long q3)]))
  refine go (fun _ q => XS.iload X3.here hx rfl (hb hby at_15) rfl q) ?_
  show Go p e below _ (T3.setTop (mkF m 17 #[.val (.long q1), .second, .val (.int p2), .val (.long q3), .second, .val (.int p4), .val (.long q5), .second, .val (.int p6), .val (.long v2), .second, .val (.long v4), .second, .unset, .unset, .unset, .unset, .unset, .unset, .unset, .unset, .unset, .unset, .unset, .unset, .unset, .unset, .unset] [(.int p4), (.long q3)]))
  refine own_callS X3 hx hZ hown e3 (hw _ (List.mem_of_getElem? (i := 0) rfl)) (hw _ (List.mem_of_getElem? (i := 1) rfl)) (hw _ (List.mem_of_getElem? (i := 2) rfl)) (hw _ (List.mem_of_getElem? (i := 3) rfl)) (rm1 l Z a0 hw [] q3 p4 h0 n0) (by decide) (by decide) (W := 0) (by decide) (by decide) (by decide) (g := (mkF m 17 #[.val (.long q1), .second, .val (.int p2), .val (.long q3), .second, .val (.int p4), .val (.long q5), .second, .val (.int p6), .val (.long v2), .second, .val (.long v4), .second, .unset, .unset, .unset, .unset, .unset, .unset, .unset, .unset, .unset, .unset, .unset, .unset, .unset, .unset, .unset] [(.int p4), (.long q3)])) rfl (by rw [hml]; rfl) (argsL := [(.long q3), (.int p4)]) (rest := []) rfl rfl (lenOf pd_0_0 rfl) (by show 2 * 0 + _ ≤ _; exact Nat.le_of_eq rfl) (hb hby at_17) ?_
  rintro _ T5 L5 X5 ⟨rfl, N5q, e5⟩
  have N5 := Fr.app N3 N5q
  show Go p e below _ (T5.setTop (mkF m 20 #[.val (.long q1), .second, .val (.int p2), .val (.long q3), .second, .val (.int p4), .val (.long q5), .second, .val (.int p6), .val (.long v2), .second, .val (.long v4), .second, .unset, .unset, .unset, .unset, .unset, .unset, .unset, .unset, .unset, .unset, .unset, .unset, .unset, .unset, .unset] [(.long (f1 q3 p4))]))
  generalize hv6 : (f1 q3 p4) = v6
  show Go p e below _ (T5.setTop (mkF m 20 #[.val (.long q1), .second, .val (.int p2), .val (.long q3), .second, .val (.int p4), .val (.long q5), .second, .val (.int p6), .val (.long v2), .second, .val (.long v4), .second, .unset, .unset, .unset, .unset, .unset, .unset, .unset, .unset, .unset, .unset, .unset, .unset, .unset, .unset, .unset] [(.long v6)]))
  refine go (fun _ q => XS.lstore X5.here hx rfl (hb hby at_20) rfl (l' := #[.val (.long q1), .second, .val (.int p2), .val (.long q3), .second, .val (.int p4), .val (.long q5), .second, .val (.int p6), .val (.long v2), .second, .val (.long v4), .second, .val (.long v6), .second, .unset, .unset, .unset, .unset, .unset, .unset, .unset, .unset, .unset, .unset, .unset, .unset, .unset]) rfl q) ?_
  show Go p e below _ (T5.setTop (mkF m 22 #[.val (.long q1), .second, .val (.int p2), .val (.long q3), .second, .val (.int p4), .val (.long q5), .second, .val (.int p6), .val (.long v2), .second, .val (.long v4), .second, .val (.long v6), .second, .unset, .unset, .unset, .unset, .unset, .unset, .unset, .unset, .unset, .unset, .unset, .unset, .unset] []))
  refine go (fun _ q => XS.lloadN X5.here hx rfl (hb hby at_22) rfl q) ?_
  show Go p e below _ (T5.setTop (mkF m 23 #[.val (.long q1), .second, .val (.int p2), .val (.long q3), .second, .val (.int p4), .val (.long q5), .second, .val (.int p6), .val (.long v2), .second, .val (.long v4), .second, .val (.long v6), .second, .unset, .unset, .unset, .unset, .unset, .unset, .unset, .unset, .unset, .unset, .unset, .unset, .unset] [(.long q3)]))
  refine go (fun _ q => XS.iload X5.here hx rfl (hb hby at_23) rfl q) ?_
  show Go p e below _ (T5.setTop (mkF m 25 #[.val (.long q1), .second, .val (.int p2), .val (.long q3), .second, .val (.int p4), .val (.long q5), .second, .val (.int p6), .val (.long v2), .second, .val (.long v4), .second, .val (.long v6), .second, .unset, .unset, .unset, .unset, .unset, .unset, .unset, .unset, .unset, .unset, .unset, .unset, .unset] [(.int p4), (.long q3)]))
  refine own_callS X5 hx hZ hown e5 (hw _ (List.mem_of_getElem? (i := 9) rfl)) (hw _ (List.mem_of_getElem? (i := 10) rfl)) (hw _ (List.mem_of_getElem? (i := 2) rfl)) (hw _ (List.mem_of_getElem? (i := 11) rfl)) (rm3 l Z a0 hw [] q3 p4 h0 n0) (by decide) (by decide) (W := 0) (by decide) (by decide) (by decide) (g := (mkF m 25 #[.val (.long q1), .second, .val (.int p2), .val (.long q3), .second, .val (.int p4), .val (.long q5), .second, .val (.int p6), .val (.long v2), .second, .val (.long v4), .second, .val (.long v6), .second, .unset, .unset, .unset, .unset, .unset, .unset, .unset, .unset, .unset, .unset, .unset, .unset, .unset] [(.int p4), (.long q3)])) rfl (by rw [hml]; rfl) (argsL := [(.long q3), (.int p4)]) (rest := []) rfl rfl (lenOf pd_0_0 rfl) (by show 2 * 0 + _ ≤ _; exact Nat.le_of_eq rfl) (hb hby at_25) ?_
  rintro _ T7 L7 X7 ⟨rfl, N7q, e7⟩
  have N7 := Fr.app N5 N7q
  show Go p e below _ (T7.setTop (mkF m 28 #[.val (.long q1), .second, .val (.int p2), .val (.long q3), .second, .val (.int p4), .val (.long q5), .second, .val (.int p6), .val (.long v2), .second, .val (.long v4), .second, .val (.long v6), .second, .unset, .unset, .unset, .unset, .unset, .unset, .unset, .unset, .unset, .unset, .unset, .unset, .unset] [(.long (f3 q3 p4))]))
  generalize hv8 : (f3 q3 p4) = v8
  show Go p e below _ (T7.setTop (mkF m 28 #[.val (.long q1), .second, .val (.int p2), .val (.long q3), .second, .val (.int p4), .val (.long q5), .second, .val (.int p6), .val (.long v2), .second, .val (.long v4), .second, .val (.long v6), .second, .unset, .unset, .unset, .unset, .unset, .unset, .unset, .unset, .unset, .unset, .unset, .unset, .unset] [(.long v8)]))
  refine go (fun _ q => XS.lstore X7.here hx rfl (hb hby at_28) rfl (l' := #[.val (.long q1), .second, .val (.int p2), .val (.long q3), .second, .val (.int p4), .val (.long q5), .second, .val (.int p6), .val (.long v2), .second, .val (.long v4), .second, .val (.long v6), .second, .val (.long v8), .second, .unset, .unset, .unset, .unset, .unset, .unset, .unset, .unset, .unset, .unset, .unset]) rfl q) ?_
  show Go p e below _ (T7.setTop (mkF m 30 #[.val (.long q1), .second, .val (.int p2), .val (.long q3), .second, .val (.int p4), .val (.long q5), .second, .val (.int p6), .val (.long v2), .second, .val (.long v4), .second, .val (.long v6), .second, .val (.long v8), .second, .unset, .unset, .unset, .unset, .unset, .unset, .unset, .unset, .unset, .unset, .unset] []))
  refine go (fun _ q => XS.lload X7.here hx rfl (hb hby at_30) rfl q) ?_
  show Go p e below _ (T7.setTop (mkF m 32 #[.val (.long q1), .second, .val (.int p2), .val (.long q3), .second, .val (.int p4), .val (.long q5), .second, .val (.int p6), .val (.long v2), .second, .val (.long v4), .second, .val (.long v6), .second, .val (.long v8), .second, .unset, .unset, .unset, .unset, .unset, .unset, .unset, .unset, .unset, .unset, .unset] [(.long q5)]))
  refine go (fun _ q => XS.iload X7.here hx rfl (hb hby at_32) rfl q) ?_
  show Go p e below _ (T7.setTop (mkF m 34 #[.val (.long q1), .second, .val (.int p2), .val (.long q3), .second, .val (.int p4), .val (.long q5), .second, .val (.int p6), .val (.long v2), .second, .val (.long v4), .second, .val (.long v6), .second, .val (.long v8), .second, .unset, .unset, .unset, .unset, .unset, .unset, .unset, .unset, .unset, .unset, .unset] [(.int p6), (.long q5)]))
  refine own_callS X7 hx hZ hown e7 (hw _ (List.mem_of_getElem? (i := 0) rfl)) (hw _ (List.mem_of_getElem? (i := 1) rfl)) (hw _ (List.mem_of_getElem? (i := 2) rfl)) (hw _ (List.mem_of_getElem? (i := 3) rfl)) (rm1 l Z a0 hw [] q5 p6 h0 n0) (by decide) (by decide) (W := 0) (by decide) (by decide) (by decide) (g := (mkF m 34 #[.val (.long q1), .second, .val (.int p2), .val (.long q3), .second, .val (.int p4), .val (.long q5), .second, .val (.int p6), .val (.long v2), .second, .val (.long v4), .second, .val (.long v6), .second, .val (.long v8), .second, .unset, .unset, .unset, .unset, .unset, .unset, .unset, .unset, .unset, .unset, .unset] [(.int p6), (.long q5)])) rfl (by rw [hml]; rfl) (argsL := [(.long q5), (.int p6)]) (rest := []) rfl rfl (lenOf pd_0_0 rfl) (by show 2 * 0 + _ ≤ _; exact Nat.le_of_eq rfl) (hb hby at_34) ?_
  rintro _ T9 L9 X9 ⟨rfl, N9q, e9⟩
  have N9 := Fr.app N7 N9q
  show Go p e below _ (T9.setTop (mkF m 37 #[.val (.long q1), .second, .val (.int p2), .val (.long q3), .second, .val (.int p4), .val (.long q5), .second, .val (.int p6), .val (.long v2), .second, .val (.long v4), .second, .val (.long v6), .second, .val (.long v8), .second, .unset, .unset, .unset, .unset, .unset, .unset, .unset, .unset, .unset, .unset, .unset] [(.long (f1 q5 p6))]))
  generalize hv10 : (f1 q5 p6) = v10
  show Go p e below _ (T9.setTop (mkF m 37 #[.val (.long q1), .second, .val (.int p2), .val (.long q3), .second, .val (.int p4), .val (.long q5), .second, .val (.int p6), .val (.long v2), .second, .val (.long v4), .second, .val (.long v6), .second, .val (.long v8), .second, .unset, .unset, .unset, .unset, .unset, .unset, .unset, .unset, .unset, .unset, .unset] [(.long v10)]))
  refine go (fun _ q => XS.lstore X9.here hx rfl (hb hby at_37) rfl (l' := #[.val (.long q1), .second, .val (.int p2), .val (.long q3), .second, .val (.int p4), .val (.long q5), .second, .val (.int p6), .val (.long v2), .second, .val (.long v4), .second, .val (.long v6), .second, .val (.long v8), .second, .val (.long v10), .second, .unset, .unset, .unset, .unset, .unset, .unset, .unset, .unset, .unset]) rfl q) ?_
  show Go p e below _ (T9.setTop (mkF m 39 #[.val (.long q1), .second, .val (.int p2), .val (.long q3), .second, .val (.int p4), .val (.long q5), .second, .val (.int p6), .val (.long v2), .second, .val (.long v4), .second, .val (.long v6), .second, .val (.long v8), .second, .val (.long v10), .second, .unset, .unset, .unset, .unset, .unset, .unset, .unset, .unset, .unset] []))
  refine go (fun _ q => XS.lload X9.here hx rfl (hb hby at_39) rfl q) ?_
  show Go p e below _ (T9.setTop (mkF m 41 #[.val (.long q1), .second, .val (.int p2), .val (.long q3), .second, .val (.int p4), .val (.long q5), .second, .val (.int p6), .val (.long v2), .second, .val (.long v4), .second, .val (.long v6), .second, .val (.long v8), .second, .val (.long v10), .second, .unset, .unset, .unset, .unset, .unset, .unset, .unset, .unset, .unset] [(.long q5)]))
  refine go (fun _ q => XS.iload X9.here hx rfl (hb hby at_41) rfl q) ?_
  show Go p e below _ (T9.setTop (mkF m 43 #[.val (.long q1), .second, .val (.int p2), .val (.long q3), .second, .val (.int p4), .val (.long q5), .second, .val (.int p6), .val (.long v2), .second, .val (.long v4), .second, .val (.long v6), .second, .val (.long v8), .second, .val (.long v10), .second, .unset, .unset, .unset, .unset, .unset, .unset, .unset, .unset, .unset] [(.int p6), (.long q5)]))
  refine own_callS X9 hx hZ hown e9 (hw _ (List.mem_of_getElem? (i := 9) rfl)) (hw _ (List.mem_of_getElem? (i := 10) rfl)) (hw _ (List.mem_of_getElem? (i := 2) rfl)) (hw _ (List.mem_of_getElem? (i := 11) rfl)) (rm3 l Z a0 hw [] q5 p6 h0 n0) (by decide) (by decide) (W := 0) (by decide) (by decide) (by decide) (g := (mkF m 43 #[.val (.long q1), .second, .val (.int p2), .val (.long q3), .second, .val (.int p4), .val (.long q5), .second, .val (.int p6), .val (.long v2), .second, .val (.long v4), .second, .val (.long v6), .second, .val (.long v8), .second, .val (.long v10), .second, .unset, .unset, .unset, .unset, .unset, .unset, .unset, .unset, .unset] [(.int p6), (.long q5)])) rfl (by rw [hml]; rfl) (argsL := [(.long q5), (.int p6)]) (rest := []) rfl rfl (lenOf pd_0_0 rfl) (by show 2 * 0 + _ ≤ _; exact Nat.le_of_eq rfl) (hb hby at_43) ?_
  rintro _ T11 L11 X11 ⟨rfl, N11q, e11⟩
  have N11 := Fr.app N9 N11q
  show Go p e below _ (T11.setTop (mkF m 46 #[.val (.long q1), .second, .val (.int p2), .val (.long q3), .second, .val (.int p4), .val (.long q5), .second, .val (.int p6), .val (.long v2), .second, .val (.long v4), .second, .val (.long v6), .second, .val (.long v8), .second, .val (.long v10), .second, .unset, .unset, .unset, .unset, .unset, .unset, .unset, .unset, .unset] [(.long (f3 q5 p6))]))
  generalize hv12 : (f3 q5 p6) = v12
  show Go p e below _ (T11.setTop (mkF m 46 #[.val (.long q1), .second, .val (.int p2), .val (.long q3), .second, .val (.int p4), .val (.long q5), .second, .val (.int p6), .val (.long v2), .second, .val (.long v4), .second, .val (.long v6), .second, .val (.long v8), .second, .val (.long v10), .second, .unset, .unset, .unset, .unset, .unset, .unset, .unset, .unset, .unset] [(.long v12)]))
  refine go (fun _ q => XS.lstore X11.here hx rfl (hb hby at_46) rfl (l' := #[.val (.long q1), .second, .val (.int p2), .val (.long q3), .second, .val (.int p4), .val (.long q5), .second, .val (.int p6), .val (.long v2), .second, .val (.long v4), .second, .val (.long v6), .second, .val (.long v8), .second, .val (.long v10), .second, .val (.long v12), .second, .unset, .unset, .unset, .unset, .unset, .unset, .unset]) rfl q) ?_
  show Go p e below _ (T11.setTop (mkF m 48 #[.val (.long q1), .second, .val (.int p2), .val (.long q3), .second, .val (.int p4), .val (.long q5), .second, .val (.int p6), .val (.long v2), .second, .val (.long v4), .second, .val (.long v6), .second, .val (.long v8), .second, .val (.long v10), .second, .val (.long v12), .second, .unset, .unset, .unset, .unset, .unset, .unset, .unset] []))
  refine go (X11.ldc2Long hx hown (mvT hZ (hw _ (List.mem_of_getElem? (i := 5) rfl))) (g := (mkF m 48 #[.val (.long q1), .second, .val (.int p2), .val (.long q3), .second, .val (.int p4), .val (.long q5), .second, .val (.int p6), .val (.long v2), .second, .val (.long v4), .second, .val (.long v6), .second, .val (.long v8), .second, .val (.long v10), .second, .val (.long v12), .second, .unset, .unset, .unset, .unset, .unset, .unset, .unset] [])) rfl (hb hby at_48)) ?_
  show Go p e below _ (T11.setTop (mkF m 51 #[.val (.long q1), .second, .val (.int p2), .val (.long q3), .second, .val (.int p4), .val (.long q5), .second, .val (.int p6), .val (.long v2), .second, .val (.long v4), .second, .val (.long v6), .second, .val (.long v8), .second, .val (.long v10), .second, .val (.long v12), .second, .unset, .unset, .unset, .unset, .unset, .unset, .unset] [(.long (10 : Int64))]))
  refine go (fun _ q => XS.lload X11.here hx rfl (hb hby at_51) rfl q) ?_
  show Go p e below _ (T11.setTop (mkF m 53 #[.val (.long q1), .second, .val (.int p2), .val (.long q3), .second, .val (.int p4), .val (.long q5), .second, .val (.int p6), .val (.long v2), .second, .val (.long v4), .second, .val (.long v6), .second, .val (.long v8), .second, .val (.long v10), .second, .val (.long v12), .second, .unset, .unset, .unset, .unset, .unset, .unset, .unset] [(.long v4), (.long (10 : Int64))]))
  refine go (fun _ q => XS.lmul X11.here hx rfl (hb hby at_53) rfl q) ?_
  show Go p e below _ (T11.setTop (mkF m 54 #[.val (.long q1), .second, .val (.int p2), .val (.long q3), .second, .val (.int p4), .val (.long q5), .second, .val (.int p6), .val (.long v2), .second, .val (.long v4), .second, .val (.long v6), .second, .val (.long v8), .second, .val (.long v10), .second, .val (.long v12), .second, .unset, .unset, .unset, .unset, .unset, .unset, .unset] [(.long ((10 : Int64) * v4))]))
  refine go (fun _ q => XS.lload X11.here hx rfl (hb hby at_54) rfl q) ?_
  show Go p e below _ (T11.setTop (mkF m 56 #[.val (.long q1), .second, .val (.int p2), .val (.long q3), .second, .val (.int p4), .val (.long q5), .second, .val (.int p6), .val (.long v2), .second, .val (.long v4), .second, .val (.long v6), .second, .val (.long v8), .second, .val (.long v10), .second, .val (.long v12), .second, .unset, .unset, .unset, .unset, .unset, .unset, .unset] [(.long v2), (.long ((10 : Int64) * v4))]))
  refine go (fun _ q => XS.lcmp X11.here hx rfl (hb hby at_56) rfl q) ?_
  show Go p e below _ (T11.setTop (mkF m 57 #[.val (.long q1), .second, .val (.int p2), .val (.long q3), .second, .val (.int p4), .val (.long q5), .second, .val (.int p6), .val (.long v2), .second, .val (.long v4), .second, .val (.long v6), .second, .val (.long v8), .second, .val (.long v10), .second, .val (.long v12), .second, .unset, .unset, .unset, .unset, .unset, .unset, .unset] [(.int (lcmpW ((10 : Int64) * v4) v2))]))
  suffices hj13 : ∀ (z15 : Int32), z15 = (if ((10 : Int64) * v4) < v2 then (1 : Int32) else (0 : Int32)) → Go p e below (Dn below s ((Q0 n0)) room_1.cells room_1.slots) (T11.setTop (mkF m 65 #[.val (.long q1), .second, .val (.int p2), .val (.long q3), .second, .val (.int p4), .val (.long q5), .second, .val (.int p6), .val (.long v2), .second, .val (.long v4), .second, .val (.long v6), .second, .val (.long v8), .second, .val (.long v10), .second, .val (.long v12), .second, .unset, .unset, .unset, .unset, .unset, .unset, .unset] [(.int z15)])) by
    by_cases hc14 : ((10 : Int64) * v4) < v2
    · refine go (fun _ q => XS.ifNo X11.here hx rfl (hb hby at_57) rfl ((if0 _ _).trans (tlt ((lw_lt _ _).mpr hc14)).2.1) q) ?_
      show Go p e below _ (T11.setTop (mkF m 60 #[.val (.long q1), .second, .val (.int p2), .val (.long q3), .second, .val (.int p4), .val (.long q5), .second, .val (.int p6), .val (.long v2), .second, .val (.long v4), .second, .val (.long v6), .second, .val (.long v8), .second, .val (.long v10), .second, .val (.long v12), .second, .unset, .unset, .unset, .unset, .unset, .unset, .unset] []))
      refine go (fun _ q => XS.iconst X11.here hx rfl (hb hby at_60) q) ?_
      show Go p e below _ (T11.setTop (mkF m 61 #[.val (.long q1), .second, .val (.int p2), .val (.long q3), .second, .val (.int p4), .val (.long q5), .second, .val (.int p6), .val (.long v2), .second, .val (.long v4), .second, .val (.long v6), .second, .val (.long v8), .second, .val (.long v10), .second, .val (.long v12), .second, .unset, .unset, .unset, .unset, .unset, .unset, .unset] [(.int (1 : Int32))]))
      refine go (fun _ q => XS.goto X11.here hx rfl (pc0 := 61) (pc' := 65) rfl (hb hby at_61) (by decide) (by decide) q) ?_
      show Go p e below _ (T11.setTop (mkF m 65 #[.val (.long q1), .second, .val (.int p2), .val (.long q3), .second, .val (.int p4), .val (.long q5), .second, .val (.int p6), .val (.long v2), .second, .val (.long v4), .second, .val (.long v6), .second, .val (.long v8), .second, .val (.long v10), .second, .val (.long v12), .second, .unset, .unset, .unset, .unset, .unset, .unset, .unset] [(.int (1 : Int32))]))
      exact hj13 _ (by rw [if_pos hc14])
    · refine go (fun _ q => XS.ifYes X11.here hx rfl (pc0 := 57) (pc' := 64) rfl (hb hby at_57) rfl ((if0 _ _).trans (flt (fun q => hc14 ((lw_lt _ _).mp q))).2.1) (by decide) (by decide) q) ?_
      show Go p e below _ (T11.setTop (mkF m 64 #[.val (.long q1), .second, .val (.int p2), .val (.long q3), .second, .val (.int p4), .val (.long q5), .second, .val (.int p6), .val (.long v2), .second, .val (.long v4), .second, .val (.long v6), .second, .val (.long v8), .second, .val (.long v10), .second, .val (.long v12), .second, .unset, .unset, .unset, .unset, .unset, .unset, .unset] []))
      refine go (fun _ q => XS.iconst X11.here hx rfl (hb hby at_64) q) ?_
      show Go p e below _ (T11.setTop (mkF m 65 #[.val (.long q1), .second, .val (.int p2), .val (.long q3), .second, .val (.int p4), .val (.long q5), .second, .val (.int p6), .val (.long v2), .second, .val (.long v4), .second, .val (.long v6), .second, .val (.long v8), .second, .val (.long v10), .second, .val (.long v12), .second, .unset, .unset, .unset, .unset, .unset, .unset, .unset] [(.int (0 : Int32))]))
      exact hj13 _ (by rw [if_neg hc14])
  intro z15 hz15
  show Go p e below _ (T11.setTop (mkF m 65 #[.val (.long q1), .second, .val (.int p2), .val (.long q3), .second, .val (.int p4), .val (.long q5), .second, .val (.int p6), .val (.long v2), .second, .val (.long v4), .second, .val (.long v6), .second, .val (.long v8), .second, .val (.long v10), .second, .val (.long v12), .second, .unset, .unset, .unset, .unset, .unset, .unset, .unset] [(.int z15)]))
  refine go (fun _ q => XS.istore X11.here hx rfl (hb hby at_65) rfl (l' := #[.val (.long q1), .second, .val (.int p2), .val (.long q3), .second, .val (.int p4), .val (.long q5), .second, .val (.int p6), .val (.long v2), .second, .val (.long v4), .second, .val (.long v6), .second, .val (.long v8), .second, .val (.long v10), .second, .val (.long v12), .second, .val (.int z15), .unset, .unset, .unset, .unset, .unset, .unset]) rfl q) ?_
  show Go p e below _ (T11.setTop (mkF m 67 #[.val (.long q1), .second, .val (.int p2), .val (.long q3), .second, .val (.int p4), .val (.long q5), .second, .val (.int p6), .val (.long v2), .second, .val (.long v4), .second, .val (.long v6), .second, .val (.long v8), .second, .val (.long v10), .second, .val (.long v12), .second, .val (.int z15), .unset, .unset, .unset, .unset, .unset, .unset] []))
  refine go (X11.ldc2Long hx hown (mvT hZ (hw _ (List.mem_of_getElem? (i := 5) rfl))) (g := (mkF m 67 #[.val (.long q1), .second, .val (.int p2), .val (.long q3), .second, .val (.int p4), .val (.long q5), .second, .val (.int p6), .val (.long v2), .second, .val (.long v4), .second, .val (.long v6), .second, .val (.long v8), .second, .val (.long v10), .second, .val (.long v12), .second, .val (.int z15), .unset, .unset, .unset, .unset, .unset, .unset] [])) rfl (hb hby at_67)) ?_
  show Go p e below _ (T11.setTop (mkF m 70 #[.val (.long q1), .second, .val (.int p2), .val (.long q3), .second, .val (.int p4), .val (.long q5), .second, .val (.int p6), .val (.long v2), .second, .val (.long v4), .second, .val (.long v6), .second, .val (.long v8), .second, .val (.long v10), .second, .val (.long v12), .second, .val (.int z15), .unset, .unset, .unset, .unset, .unset, .unset] [(.long (10 : Int64))]))
  refine go (fun _ q => XS.lload X11.here hx rfl (hb hby at_70) rfl q) ?_
  show Go p e below _ (T11.setTop (mkF m 72 #[.val (.long q1), .second, .val (.int p2), .val (.long q3), .second, .val (.int p4), .val (.long q5), .second, .val (.int p6), .val (.long v2), .second, .val (.long v4), .second, .val (.long v6), .second, .val (.long v8), .second, .val (.long v10), .second, .val (.long v12), .second, .val (.int z15), .unset, .unset, .unset, .unset, .unset, .unset] [(.long v8), (.long (10 : Int64))]))
  refine go (fun _ q => XS.lmul X11.here hx rfl (hb hby at_72) rfl q) ?_
  show Go p e below _ (T11.setTop (mkF m 73 #[.val (.long q1), .second, .val (.int p2), .val (.long q3), .second, .val (.int p4), .val (.long q5), .second, .val (.int p6), .val (.long v2), .second, .val (.long v4), .second, .val (.long v6), .second, .val (.long v8), .second, .val (.long v10), .second, .val (.long v12), .second, .val (.int z15), .unset, .unset, .unset, .unset, .unset, .unset] [(.long ((10 : Int64) * v8))]))
  refine go (fun _ q => XS.lload X11.here hx rfl (hb hby at_73) rfl q) ?_
  show Go p e below _ (T11.setTop (mkF m 75 #[.val (.long q1), .second, .val (.int p2), .val (.long q3), .second, .val (.int p4), .val (.long q5), .second, .val (.int p6), .val (.long v2), .second, .val (.long v4), .second, .val (.long v6), .second, .val (.long v8), .second, .val (.long v10), .second, .val (.long v12), .second, .val (.int z15), .unset, .unset, .unset, .unset, .unset, .unset] [(.long v6), (.long ((10 : Int64) * v8))]))
  refine go (fun _ q => XS.lcmp X11.here hx rfl (hb hby at_75) rfl q) ?_
  show Go p e below _ (T11.setTop (mkF m 76 #[.val (.long q1), .second, .val (.int p2), .val (.long q3), .second, .val (.int p4), .val (.long q5), .second, .val (.int p6), .val (.long v2), .second, .val (.long v4), .second, .val (.long v6), .second, .val (.long v8), .second, .val (.long v10), .second, .val (.long v12), .second, .val (.int z15), .unset, .unset, .unset, .unset, .unset, .unset] [(.int (lcmpW ((10 : Int64) * v8) v6))]))
  suffices hj16 : ∀ (z18 : Int32), z18 = (if ((10 : Int64) * v8) < v6 then (1 : Int32) else (0 : Int32)) → Go p e below (Dn below s ((Q0 n0)) room_1.cells room_1.slots) (T11.setTop (mkF m 84 #[.val (.long q1), .second, .val (.int p2), .val (.long q3), .second, .val (.int p4), .val (.long q5), .second, .val (.int p6), .val (.long v2), .second, .val (.long v4), .second, .val (.long v6), .second, .val (.long v8), .second, .val (.long v10), .second, .val (.long v12), .second, .val (.int z15), .unset, .unset, .unset, .unset, .unset, .unset] [(.int z18)])) by
    by_cases hc17 : ((10 : Int64) * v8) < v6
    · refine go (fun _ q => XS.ifNo X11.here hx rfl (hb hby at_76) rfl ((if0 _ _).trans (tlt ((lw_lt _ _).mpr hc17)).2.1) q) ?_
      show Go p e below _ (T11.setTop (mkF m 79 #[.val (.long q1), .second, .val (.int p2), .val (.long q3), .second, .val (.int p4), .val (.long q5), .second, .val (.int p6), .val (.long v2), .second, .val (.long v4), .second, .val (.long v6), .second, .val (.long v8), .second, .val (.long v10), .second, .val (.long v12), .second, .val (.int z15), .unset, .unset, .unset, .unset, .unset, .unset] []))
      refine go (fun _ q => XS.iconst X11.here hx rfl (hb hby at_79) q) ?_
      show Go p e below _ (T11.setTop (mkF m 80 #[.val (.long q1), .second, .val (.int p2), .val (.long q3), .second, .val (.int p4), .val (.long q5), .second, .val (.int p6), .val (.long v2), .second, .val (.long v4), .second, .val (.long v6), .second, .val (.long v8), .second, .val (.long v10), .second, .val (.long v12), .second, .val (.int z15), .unset, .unset, .unset, .unset, .unset, .unset] [(.int (1 : Int32))]))
      refine go (fun _ q => XS.goto X11.here hx rfl (pc0 := 80) (pc' := 84) rfl (hb hby at_80) (by decide) (by decide) q) ?_
      show Go p e below _ (T11.setTop (mkF m 84 #[.val (.long q1), .second, .val (.int p2), .val (.long q3), .second, .val (.int p4), .val (.long q5), .second, .val (.int p6), .val (.long v2), .second, .val (.long v4), .second, .val (.long v6), .second, .val (.long v8), .second, .val (.long v10), .second, .val (.long v12), .second, .val (.int z15), .unset, .unset, .unset, .unset, .unset, .unset] [(.int (1 : Int32))]))
      exact hj16 _ (by rw [if_pos hc17])
    · refine go (fun _ q => XS.ifYes X11.here hx rfl (pc0 := 76) (pc' := 83) rfl (hb hby at_76) rfl ((if0 _ _).trans (flt (fun q => hc17 ((lw_lt _ _).mp q))).2.1) (by decide) (by decide) q) ?_
      show Go p e below _ (T11.setTop (mkF m 83 #[.val (.long q1), .second, .val (.int p2), .val (.long q3), .second, .val (.int p4), .val (.long q5), .second, .val (.int p6), .val (.long v2), .second, .val (.long v4), .second, .val (.long v6), .second, .val (.long v8), .second, .val (.long v10), .second, .val (.long v12), .second, .val (.int z15), .unset, .unset, .unset, .unset, .unset, .unset] []))
      refine go (fun _ q => XS.iconst X11.here hx rfl (hb hby at_83) q) ?_
      show Go p e below _ (T11.setTop (mkF m 84 #[.val (.long q1), .second, .val (.int p2), .val (.long q3), .second, .val (.int p4), .val (.long q5), .second, .val (.int p6), .val (.long v2), .second, .val (.long v4), .second, .val (.long v6), .second, .val (.long v8), .second, .val (.long v10), .second, .val (.long v12), .second, .val (.int z15), .unset, .unset, .unset, .unset, .unset, .unset] [(.int (0 : Int32))]))
      exact hj16 _ (by rw [if_neg hc17])
  intro z18 hz18
  show Go p e below _ (T11.setTop (mkF m 84 #[.val (.long q1), .second, .val (.int p2), .val (.long q3), .second, .val (.int p4), .val (.long q5), .second, .val (.int p6), .val (.long v2), .second, .val (.long v4), .second, .val (.long v6), .second, .val (.long v8), .second, .val (.long v10), .second, .val (.long v12), .second, .val (.int z15), .unset, .unset, .unset, .unset, .unset, .unset] [(.int z18)]))
  refine go (fun _ q => XS.istore X11.here hx rfl (hb hby at_84) rfl (l' := #[.val (.long q1), .second, .val (.int p2), .val (.long q3), .second, .val (.int p4), .val (.long q5), .second, .val (.int p6), .val (.long v2), .second, .val (.long v4), .second, .val (.long v6), .second, .val (.long v8), .second, .val (.long v10), .second, .val (.long v12), .second, .val (.int z15), .val (.int z18), .unset, .unset, .unset, .unset, .unset]) rfl q) ?_
  show Go p e below _ (T11.setTop (mkF m 86 #[.val (.long q1), .second, .val (.int p2), .val (.long q3), .second, .val (.int p4), .val (.long q5), .second, .val (.int p6), .val (.long v2), .second, .val (.long v4), .second, .val (.long v6), .second, .val (.long v8), .second, .val (.long v10), .second, .val (.long v12), .second, .val (.int z15), .val (.int z18), .unset, .unset, .unset, .unset, .unset] []))
  refine go (X11.ldc2Long hx hown (mvT hZ (hw _ (List.mem_of_getElem? (i := 5) rfl))) (g := (mkF m 86 #[.val (.long q1), .second, .val (.int p2), .val (.long q3), .second, .val (.int p4), .val (.long q5), .second, .val (.int p6), .val (.long v2), .second, .val (.long v4), .second, .val (.long v6), .second, .val (.long v8), .second, .val (.long v10), .second, .val (.long v12), .second, .val (.int z15), .val (.int z18), .unset, .unset, .unset, .unset, .unset] [])) rfl (hb hby at_86)) ?_
  show Go p e below _ (T11.setTop (mkF m 89 #[.val (.long q1), .second, .val (.int p2), .val (.long q3), .second, .val (.int p4), .val (.long q5), .second, .val (.int p6), .val (.long v2), .second, .val (.long v4), .second, .val (.long v6), .second, .val (.long v8), .second, .val (.long v10), .second, .val (.long v12), .second, .val (.int z15), .val (.int z18), .unset, .unset, .unset, .unset, .unset] [(.long (10 : Int64))]))
  refine go (fun _ q => XS.lload X11.here hx rfl (hb hby at_89) rfl q) ?_
  show Go p e below _ (T11.setTop (mkF m 91 #[.val (.long q1), .second, .val (.int p2), .val (.long q3), .second, .val (.int p4), .val (.long q5), .second, .val (.int p6), .val (.long v2), .second, .val (.long v4), .second, .val (.long v6), .second, .val (.long v8), .second, .val (.long v10), .second, .val (.long v12), .second, .val (.int z15), .val (.int z18), .unset, .unset, .unset, .unset, .unset] [(.long v12), (.long (10 : Int64))]))
  refine go (fun _ q => XS.lmul X11.here hx rfl (hb hby at_91) rfl q) ?_
  show Go p e below _ (T11.setTop (mkF m 92 #[.val (.long q1), .second, .val (.int p2), .val (.long q3), .second, .val (.int p4), .val (.long q5), .second, .val (.int p6), .val (.long v2), .second, .val (.long v4), .second, .val (.long v6), .second, .val (.long v8), .second, .val (.long v10), .second, .val (.long v12), .second, .val (.int z15), .val (.int z18), .unset, .unset, .unset, .unset, .unset] [(.long ((10 : Int64) * v12))]))
  refine go (fun _ q => XS.lload X11.here hx rfl (hb hby at_92) rfl q) ?_
  show Go p e below _ (T11.setTop (mkF m 94 #[.val (.long q1), .second, .val (.int p2), .val (.long q3), .second, .val (.int p4), .val (.long q5), .second, .val (.int p6), .val (.long v2), .second, .val (.long v4), .second, .val (.long v6), .second, .val (.long v8), .second, .val (.long v10), .second, .val (.long v12), .second, .val (.int z15), .val (.int z18), .unset, .unset, .unset, .unset, .unset] [(.long v10), (.long ((10 : Int64) * v12))]))
  refine go (fun _ q => XS.lcmp X11.here hx rfl (hb hby at_94) rfl q) ?_
  show Go p e below _ (T11.setTop (mkF m 95 #[.val (.long q1), .second, .val (.int p2), .val (.long q3), .second, .val (.int p4), .val (.long q5), .second, .val (.int p6), .val (.long v2), .second, .val (.long v4), .second, .val (.long v6), .second, .val (.long v8), .second, .val (.long v10), .second, .val (.long v12), .second, .val (.int z15), .val (.int z18), .unset, .unset, .unset, .unset, .unset] [(.int (lcmpW ((10 : Int64) * v12) v10))]))
  suffices hj19 : ∀ (z21 : Int32), z21 = (if ((10 : Int64) * v12) < v10 then (1 : Int32) else (0 : Int32)) → Go p e below (Dn below s ((Q0 n0)) room_1.cells room_1.slots) (T11.setTop (mkF m 103 #[.val (.long q1), .second, .val (.int p2), .val (.long q3), .second, .val (.int p4), .val (.long q5), .second, .val (.int p6), .val (.long v2), .second, .val (.long v4), .second, .val (.long v6), .second, .val (.long v8), .second, .val (.long v10), .second, .val (.long v12), .second, .val (.int z15), .val (.int z18), .unset, .unset, .unset, .unset, .unset] [(.int z21)])) by
    by_cases hc20 : ((10 : Int64) * v12) < v10
    · refine go (fun _ q => XS.ifNo X11.here hx rfl (hb hby at_95) rfl ((if0 _ _).trans (tlt ((lw_lt _ _).mpr hc20)).2.1) q) ?_
      show Go p e below _ (T11.setTop (mkF m 98 #[.val (.long q1), .second, .val (.int p2), .val (.long q3), .second, .val (.int p4), .val (.long q5), .second, .val (.int p6), .val (.long v2), .second, .val (.long v4), .second, .val (.long v6), .second, .val (.long v8), .second, .val (.long v10), .second, .val (.long v12), .second, .val (.int z15), .val (.int z18), .unset, .unset, .unset, .unset, .unset] []))
      refine go (fun _ q => XS.iconst X11.here hx rfl (hb hby at_98) q) ?_
      show Go p e below _ (T11.setTop (mkF m 99 #[.val (.long q1), .second, .val (.int p2), .val (.long q3), .second, .val (.int p4), .val (.long q5), .second, .val (.int p6), .val (.long v2), .second, .val (.long v4), .second, .val (.long v6), .second, .val (.long v8), .second, .val (.long v10), .second, .val (.long v12), .second, .val (.int z15), .val (.int z18), .unset, .unset, .unset, .unset, .unset] [(.int (1 : Int32))]))
      refine go (fun _ q => XS.goto X11.here hx rfl (pc0 := 99) (pc' := 103) rfl (hb hby at_99) (by decide) (by decide) q) ?_
      show Go p e below _ (T11.setTop (mkF m 103 #[.val (.long q1), .second, .val (.int p2), .val (.long q3), .second, .val (.int p4), .val (.long q5), .second, .val (.int p6), .val (.long v2), .second, .val (.long v4), .second, .val (.long v6), .second, .val (.long v8), .second, .val (.long v10), .second, .val (.long v12), .second, .val (.int z15), .val (.int z18), .unset, .unset, .unset, .unset, .unset] [(.int (1 : Int32))]))
      exact hj19 _ (by rw [if_pos hc20])
    · refine go (fun _ q => XS.ifYes X11.here hx rfl (pc0 := 95) (pc' := 102) rfl (hb hby at_95) rfl ((if0 _ _).trans (flt (fun q => hc20 ((lw_lt _ _).mp q))).2.1) (by decide) (by decide) q) ?_
      show Go p e below _ (T11.setTop (mkF m 102 #[.val (.long q1), .second, .val (.int p2), .val (.long q3), .second, .val (.int p4), .val (.long q5), .second, .val (.int p6), .val (.long v2), .second, .val (.long v4), .second, .val (.long v6), .second, .val (.long v8), .second, .val (.long v10), .second, .val (.long v12), .second, .val (.int z15), .val (.int z18), .unset, .unset, .unset, .unset, .unset] []))
      refine go (fun _ q => XS.iconst X11.here hx rfl (hb hby at_102) q) ?_
      show Go p e below _ (T11.setTop (mkF m 103 #[.val (.long q1), .second, .val (.int p2), .val (.long q3), .second, .val (.int p4), .val (.long q5), .second, .val (.int p6), .val (.long v2), .second, .val (.long v4), .second, .val (.long v6), .second, .val (.long v8), .second, .val (.long v10), .second, .val (.long v12), .second, .val (.int z15), .val (.int z18), .unset, .unset, .unset, .unset, .unset] [(.int (0 : Int32))]))
      exact hj19 _ (by rw [if_neg hc20])
  intro z21 hz21
  show Go p e below _ (T11.setTop (mkF m 103 #[.val (.long q1), .second, .val (.int p2), .val (.long q3), .second, .val (.int p4), .val (.long q5), .second, .val (.int p6), .val (.long v2), .second, .val (.long v4), .second, .val (.long v6), .second, .val (.long v8), .second, .val (.long v10), .second, .val (.long v12), .second, .val (.int z15), .val (.int z18), .unset, .unset, .unset, .unset, .unset] [(.int z21)]))
  refine go (fun _ q => XS.istore X11.here hx rfl (hb hby at_103) rfl (l' := #[.val (.long q1), .second, .val (.int p2), .val (.long q3), .second, .val (.int p4), .val (.long q5), .second, .val (.int p6), .val (.long v2), .second, .val (.long v4), .second, .val (.long v6), .second, .val (.long v8), .second, .val (.long v10), .second, .val (.long v12), .second, .val (.int z15), .val (.int z18), .val (.int z21), .unset, .unset, .unset, .unset]) rfl q) ?_
  show Go p e below _ (T11.setTop (mkF m 105 #[.val (.long q1), .second, .val (.int p2), .val (.long q3), .second, .val (.int p4), .val (.long q5), .second, .val (.int p6), .val (.long v2), .second, .val (.long v4), .second, .val (.long v6), .second, .val (.long v8), .second, .val (.long v10), .second, .val (.long v12), .second, .val (.int z15), .val (.int z18), .val (.int z21), .unset, .unset, .unset, .unset] []))
  obtain ⟨T22, h22, X22, e22, E22, A22, D22, -, st22⟩ := newO X11 hx hZ hown (hw _ (List.mem_of_getElem? (i := 14) rfl)) (hw _ (List.mem_of_getElem? (i := 15) rfl)) (hw _ (List.mem_of_getElem? (i := 16) rfl)) e11 (g := (mkF m 105 #[.val (.long q1), .second, .val (.int p2), .val (.long q3), .second, .val (.int p4), .val (.long q5), .second, .val (.int p6), .val (.long v2), .second, .val (.long v4), .second, .val (.long v6), .second, .val (.long v8), .second, .val (.long v10), .second, .val (.long v12), .second, .val (.int z15), .val (.int z18), .val (.int z21), .unset, .unset, .unset, .unset] [])) rfl (hb hby at_105) (by decide) (by decide)
  obtain ⟨b22, g22⟩ : ∃ z, z = h0.size := ⟨_, rfl⟩
  rw [← g22] at A22 D22 st22
  refine go st22 ?_
  have g_b22 : n0 ≤ b22 := Nat.le_trans Z0 (Nat.le_of_eq g22.symm)
  have Z22 : n0 ≤ h22.size := Nat.le_trans Z0 E22.1
  have F_quiet_b22 : Fld Z h22 b22 "quorate/tcp/WarmUp$Settling" "quiet" "I" (.int (0 : Int32)) := D22 (Or.inl (hw _ (List.mem_of_getElem? (i := 30) rfl))) (ty := .int) (by decide)
  show Go p e below _ (T22.setTop (mkF m 108 #[.val (.long q1), .second, .val (.int p2), .val (.long q3), .second, .val (.int p4), .val (.long q5), .second, .val (.int p6), .val (.long v2), .second, .val (.long v4), .second, .val (.long v6), .second, .val (.long v8), .second, .val (.long v10), .second, .val (.long v12), .second, .val (.int z15), .val (.int z18), .val (.int z21), .unset, .unset, .unset, .unset] [(.ref b22)]))
  refine go (fun _ q => XS.dup X22.here hx rfl (hb hby at_108) rfl rfl q) ?_
  show Go p e below _ (T22.setTop (mkF m 109 #[.val (.long q1), .second, .val (.int p2), .val (.long q3), .second, .val (.int p4), .val (.long q5), .second, .val (.int p6), .val (.long v2), .second, .val (.long v4), .second, .val (.long v6), .second, .val (.long v8), .second, .val (.long v10), .second, .val (.long v12), .second, .val (.int z15), .val (.int z18), .val (.int z21), .unset, .unset, .unset, .unset] [(.ref b22), (.ref b22)]))
  refine own_callC X22 hx hZ hown e22 (hw _ (List.mem_of_getElem? (i := 17) rfl)) (hw _ (List.mem_of_getElem? (i := 18) rfl)) (hw _ (List.mem_of_getElem? (i := 16) rfl)) (hw _ (List.mem_of_getElem? (i := 19) rfl)) (rm4 l Z a0 hw [] b22 h22 n0) rfl (by decide) (by decide) (W := 1) (by decide) (by decide) (by decide) (a := b22) (g := (mkF m 109 #[.val (.long q1), .second, .val (.int p2), .val (.long q3), .second, .val (.int p4), .val (.long q5), .second, .val (.int p6), .val (.long v2), .second, .val (.long v4), .second, .val (.long v6), .second, .val (.long v8), .second, .val (.long v10), .second, .val (.long v12), .second, .val (.int z15), .val (.int z18), .val (.int z21), .unset, .unset, .unset, .unset] [(.ref b22), (.ref b22)])) rfl (by rw [hml]; rfl) (argsL := []) (rest := [(.ref b22)]) rfl rfl (lenOf pd_0_1 rfl) (by show 2 * 0 + _ ≤ _; exact Nat.le_of_eq rfl) (hb hby at_109) ?_
  rintro _ T23 L23 X23 ⟨rfl, N23q, e23⟩
  have N23 := Fr.app N11 N23q
  show Go p e below _ (T23.setTop (mkF m 112 #[.val (.long q1), .second, .val (.int p2), .val (.long q3), .second, .val (.int p4), .val (.long q5), .second, .val (.int p6), .val (.long v2), .second, .val (.long v4), .second, .val (.long v6), .second, .val (.long v8), .second, .val (.long v10), .second, .val (.long v12), .second, .val (.int z15), .val (.int z18), .val (.int z21), .unset, .unset, .unset, .unset] [(.ref b22)]))
  refine go (fun _ q => XS.astore X23.here hx rfl (hb hby at_112) rfl rfl (l' := #[.val (.long q1), .second, .val (.int p2), .val (.long q3), .second, .val (.int p4), .val (.long q5), .second, .val (.int p6), .val (.long v2), .second, .val (.long v4), .second, .val (.long v6), .second, .val (.long v8), .second, .val (.long v10), .second, .val (.long v12), .second, .val (.int z15), .val (.int z18), .val (.int z21), .val (.ref b22), .unset, .unset, .unset]) rfl q) ?_
  show Go p e below _ (T23.setTop (mkF m 114 #[.val (.long q1), .second, .val (.int p2), .val (.long q3), .second, .val (.int p4), .val (.long q5), .second, .val (.int p6), .val (.long v2), .second, .val (.long v4), .second, .val (.long v6), .second, .val (.long v8), .second, .val (.long v10), .second, .val (.long v12), .second, .val (.int z15), .val (.int z18), .val (.int z21), .val (.ref b22), .unset, .unset, .unset] []))
  refine go (fun _ q => XS.aload X23.here hx rfl (hb hby at_114) rfl rfl q) ?_
  show Go p e below _ (T23.setTop (mkF m 116 #[.val (.long q1), .second, .val (.int p2), .val (.long q3), .second, .val (.int p4), .val (.long q5), .second, .val (.int p6), .val (.long v2), .second, .val (.long v4), .second, .val (.long v6), .second, .val (.long v8), .second, .val (.long v10), .second, .val (.long v12), .second, .val (.int z15), .val (.int z18), .val (.int z21), .val (.ref b22), .unset, .unset, .unset] [(.ref b22)]))
  refine go (fun _ q => XS.lload X23.here hx rfl (hb hby at_116) rfl q) ?_
  show Go p e below _ (T23.setTop (mkF m 118 #[.val (.long q1), .second, .val (.int p2), .val (.long q3), .second, .val (.int p4), .val (.long q5), .second, .val (.int p6), .val (.long v2), .second, .val (.long v4), .second, .val (.long v6), .second, .val (.long v8), .second, .val (.long v10), .second, .val (.long v12), .second, .val (.int z15), .val (.int z18), .val (.int z21), .val (.ref b22), .unset, .unset, .unset] [(.long v2), (.ref b22)]))
  refine go (fun _ q => XS.lload X23.here hx rfl (hb hby at_118) rfl q) ?_
  show Go p e below _ (T23.setTop (mkF m 120 #[.val (.long q1), .second, .val (.int p2), .val (.long q3), .second, .val (.int p4), .val (.long q5), .second, .val (.int p6), .val (.long v2), .second, .val (.long v4), .second, .val (.long v6), .second, .val (.long v8), .second, .val (.long v10), .second, .val (.long v12), .second, .val (.int z15), .val (.int z18), .val (.int z21), .val (.ref b22), .unset, .unset, .unset] [(.long v4), (.long v2), (.ref b22)]))
  refine own_callV X23 hx hZ hown e23 (hw _ (List.mem_of_getElem? (i := 23) rfl)) (hw _ (List.mem_of_getElem? (i := 24) rfl)) (hw _ (List.mem_of_getElem? (i := 25) rfl)) (hw _ (List.mem_of_getElem? (i := 26) rfl)) (hw _ (List.mem_of_getElem? (i := 16) rfl)) (hw _ (List.mem_of_getElem? (i := 27) rfl)) (rm6 l Z a0 hw [] b22 v2 v4 h22 n0 Z22 g_b22 (own_okp hv2 hv4) A22 F_quiet_b22) (by decide) (by decide) (W := 0) (by decide) (by decide) (by decide) (a := b22) A22 (g := (mkF m 120 #[.val (.long q1), .second, .val (.int p2), .val (.long q3), .second, .val (.int p4), .val (.long q5), .second, .val (.int p6), .val (.long v2), .second, .val (.long v4), .second, .val (.long v6), .second, .val (.long v8), .second, .val (.long v10), .second, .val (.long v12), .second, .val (.int z15), .val (.int z18), .val (.int z21), .val (.ref b22), .unset, .unset, .unset] [(.long v4), (.long v2), (.ref b22)])) rfl (by rw [hml]; rfl) (argsL := [(.long v2), (.long v4)]) (rest := []) rfl rfl (lenOf pd_0_2 rfl) (by show 2 * 0 + _ ≤ _; exact Nat.le_of_eq rfl) (hb hby at_120) ?_
  rintro _ T24 L24 X24 ⟨rfl, N24q, K24, E24, F24⟩
  have N24 := Fr.app N23 N24q
  have Z24 : n0 ≤ T24.heap.size := Nat.le_trans Z22 K24.1
  show Go p e below _ (T24.setTop (mkF m 123 #[.val (.long q1), .second, .val (.int p2), .val (.long q3), .second, .val (.int p4), .val (.long q5), .second, .val (.int p6), .val (.long v2), .second, .val (.long v4), .second, .val (.long v6), .second, .val (.long v8), .second, .val (.long v10), .second, .val (.long v12), .second, .val (.int z15), .val (.int z18), .val (.int z21), .val (.ref b22), .unset, .unset, .unset] [(.int (if (own_nx (0 : Int32) v2 v4) < (2 : Int32) then (0 : Int32) else (1 : Int32)))]))
  generalize hv25 : (if (own_nx (0 : Int32) v2 v4) < (2 : Int32) then (0 : Int32) else (1 : Int32)) = v25
  show Go p e below _ (T24.setTop (mkF m 123 #[.val (.long q1), .second, .val (.int p2), .val (.long q3), .second, .val (.int p4), .val (.long q5), .second, .val (.int p6), .val (.long v2), .second, .val (.long v4), .second, .val (.long v6), .second, .val (.long v8), .second, .val (.long v10), .second, .val (.long v12), .second, .val (.int z15), .val (.int z18), .val (.int z21), .val (.ref b22), .unset, .unset, .unset] [(.int v25)]))
  refine go (fun _ q => XS.istore X24.here hx rfl (hb hby at_123) rfl (l' := #[.val (.long q1), .second, .val (.int p2), .val (.long q3), .second, .val (.int p4), .val (.long q5), .second, .val (.int p6), .val (.long v2), .second, .val (.long v4), .second, .val (.long v6), .second, .val (.long v8), .second, .val (.long v10), .second, .val (.long v12), .second, .val (.int z15), .val (.int z18), .val (.int z21), .val (.ref b22), .val (.int v25), .unset, .unset]) rfl q) ?_
  show Go p e below _ (T24.setTop (mkF m 125 #[.val (.long q1), .second, .val (.int p2), .val (.long q3), .second, .val (.int p4), .val (.long q5), .second, .val (.int p6), .val (.long v2), .second, .val (.long v4), .second, .val (.long v6), .second, .val (.long v8), .second, .val (.long v10), .second, .val (.long v12), .second, .val (.int z15), .val (.int z18), .val (.int z21), .val (.ref b22), .val (.int v25), .unset, .unset] []))
  refine go (fun _ q => XS.aload X24.here hx rfl (hb hby at_125) rfl rfl q) ?_
  show Go p e below _ (T24.setTop (mkF m 127 #[.val (.long q1), .second, .val (.int p2), .val (.long q3), .second, .val (.int p4), .val (.long q5), .second, .val (.int p6), .val (.long v2), .second, .val (.long v4), .second, .val (.long v6), .second, .val (.long v8), .second, .val (.long v10), .second, .val (.long v12), .second, .val (.int z15), .val (.int z18), .val (.int z21), .val (.ref b22), .val (.int v25), .unset, .unset] [(.ref b22)]))
  refine go (fun _ q => XS.lload X24.here hx rfl (hb hby at_127) rfl q) ?_
  show Go p e below _ (T24.setTop (mkF m 129 #[.val (.long q1), .second, .val (.int p2), .val (.long q3), .second, .val (.int p4), .val (.long q5), .second, .val (.int p6), .val (.long v2), .second, .val (.long v4), .second, .val (.long v6), .second, .val (.long v8), .second, .val (.long v10), .second, .val (.long v12), .second, .val (.int z15), .val (.int z18), .val (.int z21), .val (.ref b22), .val (.int v25), .unset, .unset] [(.long v6), (.ref b22)]))
  refine go (fun _ q => XS.lload X24.here hx rfl (hb hby at_129) rfl q) ?_
  show Go p e below _ (T24.setTop (mkF m 131 #[.val (.long q1), .second, .val (.int p2), .val (.long q3), .second, .val (.int p4), .val (.long q5), .second, .val (.int p6), .val (.long v2), .second, .val (.long v4), .second, .val (.long v6), .second, .val (.long v8), .second, .val (.long v10), .second, .val (.long v12), .second, .val (.int z15), .val (.int z18), .val (.int z21), .val (.ref b22), .val (.int v25), .unset, .unset] [(.long v8), (.long v6), (.ref b22)]))
  refine own_callV X24 hx hZ hown rfl (hw _ (List.mem_of_getElem? (i := 23) rfl)) (hw _ (List.mem_of_getElem? (i := 24) rfl)) (hw _ (List.mem_of_getElem? (i := 25) rfl)) (hw _ (List.mem_of_getElem? (i := 26) rfl)) (hw _ (List.mem_of_getElem? (i := 16) rfl)) (hw _ (List.mem_of_getElem? (i := 27) rfl)) (rm6 l Z a0 hw [] b22 v6 v8 T24.heap n0 Z24 g_b22 (own_okp hv6 hv8) E24 F24) (by decide) (by decide) (W := 0) (by decide) (by decide) (by decide) (a := b22) E24 (g := (mkF m 131 #[.val (.long q1), .second, .val (.int p2), .val (.long q3), .second, .val (.int p4), .val (.long q5), .second, .val (.int p6), .val (.long v2), .second, .val (.long v4), .second, .val (.long v6), .second, .val (.long v8), .second, .val (.long v10), .second, .val (.long v12), .second, .val (.int z15), .val (.int z18), .val (.int z21), .val (.ref b22), .val (.int v25), .unset, .unset] [(.long v8), (.long v6), (.ref b22)])) rfl (by rw [hml]; rfl) (argsL := [(.long v6), (.long v8)]) (rest := []) rfl rfl (lenOf pd_0_2 rfl) (by show 2 * 0 + _ ≤ _; exact Nat.le_of_eq rfl) (hb hby at_131) ?_
  rintro _ T26 L26 X26 ⟨rfl, N26q, K26, E26, F26⟩
  have N26 := Fr.app N24 N26q
  have Z26 : n0 ≤ T26.heap.size := Nat.le_trans Z24 K26.1
  show Go p e below _ (T26.setTop (mkF m 134 #[.val (.long q1), .second, .val (.int p2), .val (.long q3), .second, .val (.int p4), .val (.long q5), .second, .val (.int p6), .val (.long v2), .second, .val (.long v4), .second, .val (.long v6), .second, .val (.long v8), .second, .val (.long v10), .second, .val (.long v12), .second, .val (.int z15), .val (.int z18), .val (.int z21), .val (.ref b22), .val (.int v25), .unset, .unset] [(.int (if (own_nx (own_nx (0 : Int32) v2 v4) v6 v8) < (2 : Int32) then (0 : Int32) else (1 : Int32)))]))
  generalize hv27 : (if (own_nx (own_nx (0 : Int32) v2 v4) v6 v8) < (2 : Int32) then (0 : Int32) else (1 : Int32)) = v27
  show Go p e below _ (T26.setTop (mkF m 134 #[.val (.long q1), .second, .val (.int p2), .val (.long q3), .second, .val (.int p4), .val (.long q5), .second, .val (.int p6), .val (.long v2), .second, .val (.long v4), .second, .val (.long v6), .second, .val (.long v8), .second, .val (.long v10), .second, .val (.long v12), .second, .val (.int z15), .val (.int z18), .val (.int z21), .val (.ref b22), .val (.int v25), .unset, .unset] [(.int v27)]))
  refine go (fun _ q => XS.istore X26.here hx rfl (hb hby at_134) rfl (l' := #[.val (.long q1), .second, .val (.int p2), .val (.long q3), .second, .val (.int p4), .val (.long q5), .second, .val (.int p6), .val (.long v2), .second, .val (.long v4), .second, .val (.long v6), .second, .val (.long v8), .second, .val (.long v10), .second, .val (.long v12), .second, .val (.int z15), .val (.int z18), .val (.int z21), .val (.ref b22), .val (.int v25), .val (.int v27), .unset]) rfl q) ?_
  show Go p e below _ (T26.setTop (mkF m 136 #[.val (.long q1), .second, .val (.int p2), .val (.long q3), .second, .val (.int p4), .val (.long q5), .second, .val (.int p6), .val (.long v2), .second, .val (.long v4), .second, .val (.long v6), .second, .val (.long v8), .second, .val (.long v10), .second, .val (.long v12), .second, .val (.int z15), .val (.int z18), .val (.int z21), .val (.ref b22), .val (.int v25), .val (.int v27), .unset] []))
  refine go (fun _ q => XS.aload X26.here hx rfl (hb hby at_136) rfl rfl q) ?_
  show Go p e below _ (T26.setTop (mkF m 138 #[.val (.long q1), .second, .val (.int p2), .val (.long q3), .second, .val (.int p4), .val (.long q5), .second, .val (.int p6), .val (.long v2), .second, .val (.long v4), .second, .val (.long v6), .second, .val (.long v8), .second, .val (.long v10), .second, .val (.long v12), .second, .val (.int z15), .val (.int z18), .val (.int z21), .val (.ref b22), .val (.int v25), .val (.int v27), .unset] [(.ref b22)]))
  refine go (fun _ q => XS.lload X26.here hx rfl (hb hby at_138) rfl q) ?_
  show Go p e below _ (T26.setTop (mkF m 140 #[.val (.long q1), .second, .val (.int p2), .val (.long q3), .second, .val (.int p4), .val (.long q5), .second, .val (.int p6), .val (.long v2), .second, .val (.long v4), .second, .val (.long v6), .second, .val (.long v8), .second, .val (.long v10), .second, .val (.long v12), .second, .val (.int z15), .val (.int z18), .val (.int z21), .val (.ref b22), .val (.int v25), .val (.int v27), .unset] [(.long v10), (.ref b22)]))
  refine go (fun _ q => XS.lload X26.here hx rfl (hb hby at_140) rfl q) ?_
  show Go p e below _ (T26.setTop (mkF m 142 #[.val (.long q1), .second, .val (.int p2), .val (.long q3), .second, .val (.int p4), .val (.long q5), .second, .val (.int p6), .val (.long v2), .second, .val (.long v4), .second, .val (.long v6), .second, .val (.long v8), .second, .val (.long v10), .second, .val (.long v12), .second, .val (.int z15), .val (.int z18), .val (.int z21), .val (.ref b22), .val (.int v25), .val (.int v27), .unset] [(.long v12), (.long v10), (.ref b22)]))
  refine own_callV X26 hx hZ hown rfl (hw _ (List.mem_of_getElem? (i := 23) rfl)) (hw _ (List.mem_of_getElem? (i := 24) rfl)) (hw _ (List.mem_of_getElem? (i := 25) rfl)) (hw _ (List.mem_of_getElem? (i := 26) rfl)) (hw _ (List.mem_of_getElem? (i := 16) rfl)) (hw _ (List.mem_of_getElem? (i := 27) rfl)) (rm6 l Z a0 hw [] b22 v10 v12 T26.heap n0 Z26 g_b22 (own_okp hv10 hv12) E26 F26) (by decide) (by decide) (W := 0) (by decide) (by decide) (by decide) (a := b22) E26 (g := (mkF m 142 #[.val (.long q1), .second, .val (.int p2), .val (.long q3), .second, .val (.int p4), .val (.long q5), .second, .val (.int p6), .val (.long v2), .second, .val (.long v4), .second, .val (.long v6), .second, .val (.long v8), .second, .val (.long v10), .second, .val (.long v12), .second, .val (.int z15), .val (.int z18), .val (.int z21), .val (.ref b22), .val (.int v25), .val (.int v27), .unset] [(.long v12), (.long v10), (.ref b22)])) rfl (by rw [hml]; rfl) (argsL := [(.long v10), (.long v12)]) (rest := []) rfl rfl (lenOf pd_0_2 rfl) (by show 2 * 0 + _ ≤ _; exact Nat.le_of_eq rfl) (hb hby at_142) ?_
  rintro _ T28 L28 X28 ⟨rfl, N28q, K28, E28, F28⟩
  have N28 := Fr.app N26 N28q
  have Z28 : n0 ≤ T28.heap.size := Nat.le_trans Z26 K28.1
  show Go p e below _ (T28.setTop (mkF m 145 #[.val (.long q1), .second, .val (.int p2), .val (.long q3), .second, .val (.int p4), .val (.long q5), .second, .val (.int p6), .val (.long v2), .second, .val (.long v4), .second, .val (.long v6), .second, .val (.long v8), .second, .val (.long v10), .second, .val (.long v12), .second, .val (.int z15), .val (.int z18), .val (.int z21), .val (.ref b22), .val (.int v25), .val (.int v27), .unset] [(.int (if (own_nx (own_nx (own_nx (0 : Int32) v2 v4) v6 v8) v10 v12) < (2 : Int32) then (0 : Int32) else (1 : Int32)))]))
  generalize hv29 : (if (own_nx (own_nx (own_nx (0 : Int32) v2 v4) v6 v8) v10 v12) < (2 : Int32) then (0 : Int32) else (1 : Int32)) = v29
  show Go p e below _ (T28.setTop (mkF m 145 #[.val (.long q1), .second, .val (.int p2), .val (.long q3), .second, .val (.int p4), .val (.long q5), .second, .val (.int p6), .val (.long v2), .second, .val (.long v4), .second, .val (.long v6), .second, .val (.long v8), .second, .val (.long v10), .second, .val (.long v12), .second, .val (.int z15), .val (.int z18), .val (.int z21), .val (.ref b22), .val (.int v25), .val (.int v27), .unset] [(.int v29)]))
  refine go (fun _ q => XS.istore X28.here hx rfl (hb hby at_145) rfl (l' := #[.val (.long q1), .second, .val (.int p2), .val (.long q3), .second, .val (.int p4), .val (.long q5), .second, .val (.int p6), .val (.long v2), .second, .val (.long v4), .second, .val (.long v6), .second, .val (.long v8), .second, .val (.long v10), .second, .val (.long v12), .second, .val (.int z15), .val (.int z18), .val (.int z21), .val (.ref b22), .val (.int v25), .val (.int v27), .val (.int v29)]) rfl q) ?_
  show Go p e below _ (T28.setTop (mkF m 147 #[.val (.long q1), .second, .val (.int p2), .val (.long q3), .second, .val (.int p4), .val (.long q5), .second, .val (.int p6), .val (.long v2), .second, .val (.long v4), .second, .val (.long v6), .second, .val (.long v8), .second, .val (.long v10), .second, .val (.long v12), .second, .val (.int z15), .val (.int z18), .val (.int z21), .val (.ref b22), .val (.int v25), .val (.int v27), .val (.int v29)] []))
  refine go (fun _ q => XS.iload X28.here hx rfl (hb hby at_147) rfl q) ?_
  show Go p e below _ (T28.setTop (mkF m 149 #[.val (.long q1), .second, .val (.int p2), .val (.long q3), .second, .val (.int p4), .val (.long q5), .second, .val (.int p6), .val (.long v2), .second, .val (.long v4), .second, .val (.long v6), .second, .val (.long v8), .second, .val (.long v10), .second, .val (.long v12), .second, .val (.int z15), .val (.int z18), .val (.int z21), .val (.ref b22), .val (.int v25), .val (.int v27), .val (.int v29)] [(.int v25)]))
  have hk30 : v25 = (0 : Int32) := by rw [← hv25]; exact own_r1 _ _
  refine go (fun _ q => XS.ifNo X28.here hx rfl (hb hby at_149) rfl ((if0 _ _).trans (teq hk30).2) q) ?_
  show Go p e below _ (T28.setTop (mkF m 152 #[.val (.long q1), .second, .val (.int p2), .val (.long q3), .second, .val (.int p4), .val (.long q5), .second, .val (.int p6), .val (.long v2), .second, .val (.long v4), .second, .val (.long v6), .second, .val (.long v8), .second, .val (.long v10), .second, .val (.long v12), .second, .val (.int z15), .val (.int z18), .val (.int z21), .val (.ref b22), .val (.int v25), .val (.int v27), .val (.int v29)] []))
  refine go (fun _ q => XS.iload X28.here hx rfl (hb hby at_152) rfl q) ?_
  show Go p e below _ (T28.setTop (mkF m 154 #[.val (.long q1), .second, .val (.int p2), .val (.long q3), .second, .val (.int p4), .val (.long q5), .second, .val (.int p6), .val (.long v2), .second, .val (.long v4), .second, .val (.long v6), .second, .val (.long v8), .second, .val (.long v10), .second, .val (.long v12), .second, .val (.int z15), .val (.int z18), .val (.int z21), .val (.ref b22), .val (.int v25), .val (.int v27), .val (.int v29)] [(.int v27)]))
  refine go (fun _ q => XS.iload X28.here hx rfl (hb hby at_154) rfl q) ?_
  show Go p e below _ (T28.setTop (mkF m 156 #[.val (.long q1), .second, .val (.int p2), .val (.long q3), .second, .val (.int p4), .val (.long q5), .second, .val (.int p6), .val (.long v2), .second, .val (.long v4), .second, .val (.long v6), .second, .val (.long v8), .second, .val (.long v10), .second, .val (.long v12), .second, .val (.int z15), .val (.int z18), .val (.int z21), .val (.ref b22), .val (.int v25), .val (.int v27), .val (.int v29)] [(.int z15), (.int v27)]))
  suffices hj31 : ∀ (z34 : Int32), z34 = (if z15 = (0 : Int32) then (0 : Int32) else (if z18 = (0 : Int32) then (0 : Int32) else (1 : Int32))) → Go p e below (Dn below s ((Q0 n0)) room_1.cells room_1.slots) (T28.setTop (mkF m 169 #[.val (.long q1), .second, .val (.int p2), .val (.long q3), .second, .val (.int p4), .val (.long q5), .second, .val (.int p6), .val (.long v2), .second, .val (.long v4), .second, .val (.long v6), .second, .val (.long v8), .second, .val (.long v10), .second, .val (.long v12), .second, .val (.int z15), .val (.int z18), .val (.int z21), .val (.ref b22), .val (.int v25), .val (.int v27), .val (.int v29)] [(.int z34), (.int v27)])) by
    by_cases hc32 : z15 = (0 : Int32)
    · refine go (fun _ q => XS.ifYes X28.here hx rfl (pc0 := 156) (pc' := 168) rfl (hb hby at_156) rfl ((if0 _ _).trans (teq hc32).1) (by decide) (by decide) q) ?_
      show Go p e below _ (T28.setTop (mkF m 168 #[.val (.long q1), .second, .val (.int p2), .val (.long q3), .second, .val (.int p4), .val (.long q5), .second, .val (.int p6), .val (.long v2), .second, .val (.long v4), .second, .val (.long v6), .second, .val (.long v8), .second, .val (.long v10), .second, .val (.long v12), .second, .val (.int z15), .val (.int z18), .val (.int z21), .val (.ref b22), .val (.int v25), .val (.int v27), .val (.int v29)] [(.int v27)]))
      refine go (fun _ q => XS.iconst X28.here hx rfl (hb hby at_168) q) ?_
      show Go p e below _ (T28.setTop (mkF m 169 #[.val (.long q1), .second, .val (.int p2), .val (.long q3), .second, .val (.int p4), .val (.long q5), .second, .val (.int p6), .val (.long v2), .second, .val (.long v4), .second, .val (.long v6), .second, .val (.long v8), .second, .val (.long v10), .second, .val (.long v12), .second, .val (.int z15), .val (.int z18), .val (.int z21), .val (.ref b22), .val (.int v25), .val (.int v27), .val (.int v29)] [(.int (0 : Int32)), (.int v27)]))
      exact hj31 _ (by rw [if_pos hc32])
    · refine go (fun _ q => XS.ifNo X28.here hx rfl (hb hby at_156) rfl ((if0 _ _).trans (feq hc32).1) q) ?_
      show Go p e below _ (T28.setTop (mkF m 159 #[.val (.long q1), .second, .val (.int p2), .val (.long q3), .second, .val (.int p4), .val (.long q5), .second, .val (.int p6), .val (.long v2), .second, .val (.long v4), .second, .val (.long v6), .second, .val (.long v8), .second, .val (.long v10), .second, .val (.long v12), .second, .val (.int z15), .val (.int z18), .val (.int z21), .val (.ref b22), .val (.int v25), .val (.int v27), .val (.int v29)] [(.int v27)]))
      refine go (fun _ q => XS.iload X28.here hx rfl (hb hby at_159) rfl q) ?_
      show Go p e below _ (T28.setTop (mkF m 161 #[.val (.long q1), .second, .val (.int p2), .val (.long q3), .second, .val (.int p4), .val (.long q5), .second, .val (.int p6), .val (.long v2), .second, .val (.long v4), .second, .val (.long v6), .second, .val (.long v8), .second, .val (.long v10), .second, .val (.long v12), .second, .val (.int z15), .val (.int z18), .val (.int z21), .val (.ref b22), .val (.int v25), .val (.int v27), .val (.int v29)] [(.int z18), (.int v27)]))
      by_cases hc33 : z18 = (0 : Int32)
      · refine go (fun _ q => XS.ifYes X28.here hx rfl (pc0 := 161) (pc' := 168) rfl (hb hby at_161) rfl ((if0 _ _).trans (teq hc33).1) (by decide) (by decide) q) ?_
        show Go p e below _ (T28.setTop (mkF m 168 #[.val (.long q1), .second, .val (.int p2), .val (.long q3), .second, .val (.int p4), .val (.long q5), .second, .val (.int p6), .val (.long v2), .second, .val (.long v4), .second, .val (.long v6), .second, .val (.long v8), .second, .val (.long v10), .second, .val (.long v12), .second, .val (.int z15), .val (.int z18), .val (.int z21), .val (.ref b22), .val (.int v25), .val (.int v27), .val (.int v29)] [(.int v27)]))
        refine go (fun _ q => XS.iconst X28.here hx rfl (hb hby at_168) q) ?_
        show Go p e below _ (T28.setTop (mkF m 169 #[.val (.long q1), .second, .val (.int p2), .val (.long q3), .second, .val (.int p4), .val (.long q5), .second, .val (.int p6), .val (.long v2), .second, .val (.long v4), .second, .val (.long v6), .second, .val (.long v8), .second, .val (.long v10), .second, .val (.long v12), .second, .val (.int z15), .val (.int z18), .val (.int z21), .val (.ref b22), .val (.int v25), .val (.int v27), .val (.int v29)] [(.int (0 : Int32)), (.int v27)]))
        exact hj31 _ (by rw [if_neg hc32, if_pos hc33])
      · refine go (fun _ q => XS.ifNo X28.here hx rfl (hb hby at_161) rfl ((if0 _ _).trans (feq hc33).1) q) ?_
        show Go p e below _ (T28.setTop (mkF m 164 #[.val (.long q1), .second, .val (.int p2), .val (.long q3), .second, .val (.int p4), .val (.long q5), .second, .val (.int p6), .val (.long v2), .second, .val (.long v4), .second, .val (.long v6), .second, .val (.long v8), .second, .val (.long v10), .second, .val (.long v12), .second, .val (.int z15), .val (.int z18), .val (.int z21), .val (.ref b22), .val (.int v25), .val (.int v27), .val (.int v29)] [(.int v27)]))
        refine go (fun _ q => XS.iconst X28.here hx rfl (hb hby at_164) q) ?_
        show Go p e below _ (T28.setTop (mkF m 165 #[.val (.long q1), .second, .val (.int p2), .val (.long q3), .second, .val (.int p4), .val (.long q5), .second, .val (.int p6), .val (.long v2), .second, .val (.long v4), .second, .val (.long v6), .second, .val (.long v8), .second, .val (.long v10), .second, .val (.long v12), .second, .val (.int z15), .val (.int z18), .val (.int z21), .val (.ref b22), .val (.int v25), .val (.int v27), .val (.int v29)] [(.int (1 : Int32)), (.int v27)]))
        refine go (fun _ q => XS.goto X28.here hx rfl (pc0 := 165) (pc' := 169) rfl (hb hby at_165) (by decide) (by decide) q) ?_
        show Go p e below _ (T28.setTop (mkF m 169 #[.val (.long q1), .second, .val (.int p2), .val (.long q3), .second, .val (.int p4), .val (.long q5), .second, .val (.int p6), .val (.long v2), .second, .val (.long v4), .second, .val (.long v6), .second, .val (.long v8), .second, .val (.long v10), .second, .val (.long v12), .second, .val (.int z15), .val (.int z18), .val (.int z21), .val (.ref b22), .val (.int v25), .val (.int v27), .val (.int v29)] [(.int (1 : Int32)), (.int v27)]))
        exact hj31 _ (by rw [if_neg hc32, if_neg hc33])
  intro z34 hz34
  show Go p e below _ (T28.setTop (mkF m 169 #[.val (.long q1), .second, .val (.int p2), .val (.long q3), .second, .val (.int p4), .val (.long q5), .second, .val (.int p6), .val (.long v2), .second, .val (.long v4), .second, .val (.long v6), .second, .val (.long v8), .second, .val (.long v10), .second, .val (.long v12), .second, .val (.int z15), .val (.int z18), .val (.int z21), .val (.ref b22), .val (.int v25), .val (.int v27), .val (.int v29)] [(.int z34), (.int v27)]))
  have hk35 : v27 = z34 := by rw [← hv27]; exact own_r2 (own_okp hv2 hv4) (own_okp hv6 hv8) hz15 hz18 hz34
  refine go (fun _ q => XS.icmpNo X28.here hx rfl (hb hby at_169) rfl (teq hk35).2 q) ?_
  show Go p e below _ (T28.setTop (mkF m 172 #[.val (.long q1), .second, .val (.int p2), .val (.long q3), .second, .val (.int p4), .val (.long q5), .second, .val (.int p6), .val (.long v2), .second, .val (.long v4), .second, .val (.long v6), .second, .val (.long v8), .second, .val (.long v10), .second, .val (.long v12), .second, .val (.int z15), .val (.int z18), .val (.int z21), .val (.ref b22), .val (.int v25), .val (.int v27), .val (.int v29)] []))
  refine go (fun _ q => XS.iload X28.here hx rfl (hb hby at_172) rfl q) ?_
  show Go p e below _ (T28.setTop (mkF m 174 #[.val (.long q1), .second, .val (.int p2), .val (.long q3), .second, .val (.int p4), .val (.long q5), .second, .val (.int p6), .val (.long v2), .second, .val (.long v4), .second, .val (.long v6), .second, .val (.long v8), .second, .val (.long v10), .second, .val (.long v12), .second, .val (.int z15), .val (.int z18), .val (.int z21), .val (.ref b22), .val (.int v25), .val (.int v27), .val (.int v29)] [(.int v29)]))
  refine go (fun _ q => XS.iload X28.here hx rfl (hb hby at_174) rfl q) ?_
  show Go p e below _ (T28.setTop (mkF m 176 #[.val (.long q1), .second, .val (.int p2), .val (.long q3), .second, .val (.int p4), .val (.long q5), .second, .val (.int p6), .val (.long v2), .second, .val (.long v4), .second, .val (.long v6), .second, .val (.long v8), .second, .val (.long v10), .second, .val (.long v12), .second, .val (.int z15), .val (.int z18), .val (.int z21), .val (.ref b22), .val (.int v25), .val (.int v27), .val (.int v29)] [(.int z18), (.int v29)]))
  suffices hj36 : ∀ (z39 : Int32), z39 = (if z18 = (0 : Int32) then (0 : Int32) else (if z21 = (0 : Int32) then (0 : Int32) else (1 : Int32))) → Go p e below (Dn below s ((Q0 n0)) room_1.cells room_1.slots) (T28.setTop (mkF m 189 #[.val (.long q1), .second, .val (.int p2), .val (.long q3), .second, .val (.int p4), .val (.long q5), .second, .val (.int p6), .val (.long v2), .second, .val (.long v4), .second, .val (.long v6), .second, .val (.long v8), .second, .val (.long v10), .second, .val (.long v12), .second, .val (.int z15), .val (.int z18), .val (.int z21), .val (.ref b22), .val (.int v25), .val (.int v27), .val (.int v29)] [(.int z39), (.int v29)])) by
    by_cases hc37 : z18 = (0 : Int32)
    · refine go (fun _ q => XS.ifYes X28.here hx rfl (pc0 := 176) (pc' := 188) rfl (hb hby at_176) rfl ((if0 _ _).trans (teq hc37).1) (by decide) (by decide) q) ?_
      show Go p e below _ (T28.setTop (mkF m 188 #[.val (.long q1), .second, .val (.int p2), .val (.long q3), .second, .val (.int p4), .val (.long q5), .second, .val (.int p6), .val (.long v2), .second, .val (.long v4), .second, .val (.long v6), .second, .val (.long v8), .second, .val (.long v10), .second, .val (.long v12), .second, .val (.int z15), .val (.int z18), .val (.int z21), .val (.ref b22), .val (.int v25), .val (.int v27), .val (.int v29)] [(.int v29)]))
      refine go (fun _ q => XS.iconst X28.here hx rfl (hb hby at_188) q) ?_
      show Go p e below _ (T28.setTop (mkF m 189 #[.val (.long q1), .second, .val (.int p2), .val (.long q3), .second, .val (.int p4), .val (.long q5), .second, .val (.int p6), .val (.long v2), .second, .val (.long v4), .second, .val (.long v6), .second, .val (.long v8), .second, .val (.long v10), .second, .val (.long v12), .second, .val (.int z15), .val (.int z18), .val (.int z21), .val (.ref b22), .val (.int v25), .val (.int v27), .val (.int v29)] [(.int (0 : Int32)), (.int v29)]))
      exact hj36 _ (by rw [if_pos hc37])
    · refine go (fun _ q => XS.ifNo X28.here hx rfl (hb hby at_176) rfl ((if0 _ _).trans (feq hc37).1) q) ?_
      show Go p e below _ (T28.setTop (mkF m 179 #[.val (.long q1), .second, .val (.int p2), .val (.long q3), .second, .val (.int p4), .val (.long q5), .second, .val (.int p6), .val (.long v2), .second, .val (.long v4), .second, .val (.long v6), .second, .val (.long v8), .second, .val (.long v10), .second, .val (.long v12), .second, .val (.int z15), .val (.int z18), .val (.int z21), .val (.ref b22), .val (.int v25), .val (.int v27), .val (.int v29)] [(.int v29)]))
      refine go (fun _ q => XS.iload X28.here hx rfl (hb hby at_179) rfl q) ?_
      show Go p e below _ (T28.setTop (mkF m 181 #[.val (.long q1), .second, .val (.int p2), .val (.long q3), .second, .val (.int p4), .val (.long q5), .second, .val (.int p6), .val (.long v2), .second, .val (.long v4), .second, .val (.long v6), .second, .val (.long v8), .second, .val (.long v10), .second, .val (.long v12), .second, .val (.int z15), .val (.int z18), .val (.int z21), .val (.ref b22), .val (.int v25), .val (.int v27), .val (.int v29)] [(.int z21), (.int v29)]))
      by_cases hc38 : z21 = (0 : Int32)
      · refine go (fun _ q => XS.ifYes X28.here hx rfl (pc0 := 181) (pc' := 188) rfl (hb hby at_181) rfl ((if0 _ _).trans (teq hc38).1) (by decide) (by decide) q) ?_
        show Go p e below _ (T28.setTop (mkF m 188 #[.val (.long q1), .second, .val (.int p2), .val (.long q3), .second, .val (.int p4), .val (.long q5), .second, .val (.int p6), .val (.long v2), .second, .val (.long v4), .second, .val (.long v6), .second, .val (.long v8), .second, .val (.long v10), .second, .val (.long v12), .second, .val (.int z15), .val (.int z18), .val (.int z21), .val (.ref b22), .val (.int v25), .val (.int v27), .val (.int v29)] [(.int v29)]))
        refine go (fun _ q => XS.iconst X28.here hx rfl (hb hby at_188) q) ?_
        show Go p e below _ (T28.setTop (mkF m 189 #[.val (.long q1), .second, .val (.int p2), .val (.long q3), .second, .val (.int p4), .val (.long q5), .second, .val (.int p6), .val (.long v2), .second, .val (.long v4), .second, .val (.long v6), .second, .val (.long v8), .second, .val (.long v10), .second, .val (.long v12), .second, .val (.int z15), .val (.int z18), .val (.int z21), .val (.ref b22), .val (.int v25), .val (.int v27), .val (.int v29)] [(.int (0 : Int32)), (.int v29)]))
        exact hj36 _ (by rw [if_neg hc37, if_pos hc38])
      · refine go (fun _ q => XS.ifNo X28.here hx rfl (hb hby at_181) rfl ((if0 _ _).trans (feq hc38).1) q) ?_
        show Go p e below _ (T28.setTop (mkF m 184 #[.val (.long q1), .second, .val (.int p2), .val (.long q3), .second, .val (.int p4), .val (.long q5), .second, .val (.int p6), .val (.long v2), .second, .val (.long v4), .second, .val (.long v6), .second, .val (.long v8), .second, .val (.long v10), .second, .val (.long v12), .second, .val (.int z15), .val (.int z18), .val (.int z21), .val (.ref b22), .val (.int v25), .val (.int v27), .val (.int v29)] [(.int v29)]))
        refine go (fun _ q => XS.iconst X28.here hx rfl (hb hby at_184) q) ?_
        show Go p e below _ (T28.setTop (mkF m 185 #[.val (.long q1), .second, .val (.int p2), .val (.long q3), .second, .val (.int p4), .val (.long q5), .second, .val (.int p6), .val (.long v2), .second, .val (.long v4), .second, .val (.long v6), .second, .val (.long v8), .second, .val (.long v10), .second, .val (.long v12), .second, .val (.int z15), .val (.int z18), .val (.int z21), .val (.ref b22), .val (.int v25), .val (.int v27), .val (.int v29)] [(.int (1 : Int32)), (.int v29)]))
        refine go (fun _ q => XS.goto X28.here hx rfl (pc0 := 185) (pc' := 189) rfl (hb hby at_185) (by decide) (by decide) q) ?_
        show Go p e below _ (T28.setTop (mkF m 189 #[.val (.long q1), .second, .val (.int p2), .val (.long q3), .second, .val (.int p4), .val (.long q5), .second, .val (.int p6), .val (.long v2), .second, .val (.long v4), .second, .val (.long v6), .second, .val (.long v8), .second, .val (.long v10), .second, .val (.long v12), .second, .val (.int z15), .val (.int z18), .val (.int z21), .val (.ref b22), .val (.int v25), .val (.int v27), .val (.int v29)] [(.int (1 : Int32)), (.int v29)]))
        exact hj36 _ (by rw [if_neg hc37, if_neg hc38])
  intro z39 hz39
  show Go p e below _ (T28.setTop (mkF m 189 #[.val (.long q1), .second, .val (.int p2), .val (.long q3), .second, .val (.int p4), .val (.long q5), .second, .val (.int p6), .val (.long v2), .second, .val (.long v4), .second, .val (.long v6), .second, .val (.long v8), .second, .val (.long v10), .second, .val (.long v12), .second, .val (.int z15), .val (.int z18), .val (.int z21), .val (.ref b22), .val (.int v25), .val (.int v27), .val (.int v29)] [(.int z39), (.int v29)]))
  have hk40 : v29 = z39 := by rw [← hv29]; exact own_r3 (own_okp hv6 hv8) (own_okp hv10 hv12) hz18 hz21 hz39
  refine go (fun _ q => XS.icmpNo X28.here hx rfl (hb hby at_189) rfl (teq hk40).2 q) ?_
  show Go p e below _ (T28.setTop (mkF m 192 #[.val (.long q1), .second, .val (.int p2), .val (.long q3), .second, .val (.int p4), .val (.long q5), .second, .val (.int p6), .val (.long v2), .second, .val (.long v4), .second, .val (.long v6), .second, .val (.long v8), .second, .val (.long v10), .second, .val (.long v12), .second, .val (.int z15), .val (.int z18), .val (.int z21), .val (.ref b22), .val (.int v25), .val (.int v27), .val (.int v29)] []))
  refine go (fun _ q => XS.iconst X28.here hx rfl (hb hby at_192) q) ?_
  show Go p e below _ (T28.setTop (mkF m 193 #[.val (.long q1), .second, .val (.int p2), .val (.long q3), .second, .val (.int p4), .val (.long q5), .second, .val (.int p6), .val (.long v2), .second, .val (.long v4), .second, .val (.long v6), .second, .val (.long v8), .second, .val (.long v10), .second, .val (.long v12), .second, .val (.int z15), .val (.int z18), .val (.int z21), .val (.ref b22), .val (.int v25), .val (.int v27), .val (.int v29)] [(.int (1 : Int32))]))
  refine go (fun _ q => XS.goto X28.here hx rfl (pc0 := 193) (pc' := 197) rfl (hb hby at_193) (by decide) (by decide) q) ?_
  show Go p e below _ (T28.setTop (mkF m 197 #[.val (.long q1), .second, .val (.int p2), .val (.long q3), .second, .val (.int p4), .val (.long q5), .second, .val (.int p6), .val (.long v2), .second, .val (.long v4), .second, .val (.long v6), .second, .val (.long v8), .second, .val (.long v10), .second, .val (.long v12), .second, .val (.int z15), .val (.int z18), .val (.int z21), .val (.ref b22), .val (.int v25), .val (.int v27), .val (.int v29)] [(.int (1 : Int32))]))
  exact own_retZ (z' := (1 : Int32)) X28 hx hlk hret (hb hby at_197) (by decide) (by decide) rfl ⟨rfl, N28⟩
set_option maxRecDepth 65536 in
set_option maxHeartbeats 40000000 in
theorem comes_1 {Post : Tables → Env → Array Value → State → Outcome → State → Prop} (hpost : ∀ tb e args s v u, (limb_1_1.after args s (.returned v) u = true ∧ limb_1_2.after args s (.returned v) u = true ∧ True) → FrameEnd s (.returned v) u (Jvm.fieldLocs frame_1_writes args s ++ Jvm.arrayLocs frame_1_arrays args s ++ Jvm.staticLocs frame_1_statics s) 16 128 → Post tb e args s (.returned v) u) :
    ArmFor flags0 classFile x code maxLocals ret World_1 tables_1 room_1 Calls_1 rest_1 Pre_1 Post := by
  intro l hfl _ _ p e ha hc hk s m args below hf hA hF happ hP
  obtain ⟨hcalls, hrest, hpre⟩ := hP
  obtain ⟨-, -, -, hnamed, -, -, -, hat⟩ := (Spec.applies_iff hf).mp happ
  obtain ⟨hg, hn⟩ := and_e (Cond.before_iff.mp (show (Jvm.Cond.and given_1 narrow_1).before args s = true from hpre))
  obtain ⟨gc, g0⟩ := and_e hg
  obtain ⟨ga0, g1⟩ := and_e g0
  obtain ⟨ga1, g2⟩ := and_e g1
  obtain ⟨ga2, g3⟩ := and_e g2
  obtain ⟨ga3, g4⟩ := and_e g3
  obtain ⟨ga4, g5⟩ := and_e g4
  have ga5 := g5
  obtain ⟨w0, w1, w2, w3, w4, w5, rfl⟩ : ∃ w0 w1 w2 w3 w4 w5 : Value, args = #[w0, w1, w2, w3, w4, w5] := by
    have hs : args.size = 6 := by simpa [Cond.value, given_1] using gc
    obtain ⟨L⟩ := args
    match L, hs with
    | [w0, w1, w2, w3, w4, w5], _ => exact ⟨w0, w1, w2, w3, w4, w5, rfl⟩
  have hw := fun d (hd : d ∈ tables_1) => atoms_spec (ws := Jvm.Cond.code x code maxLocals ret :: tables_1) hat d (List.mem_cons_of_mem _ hd)
  obtain ⟨i0, ei0⟩ := isL_v ga0
  obtain rfl : w0 = (.long i0) := Option.some.inj ei0
  obtain ⟨i1, ei1⟩ := is_v ga1
  obtain rfl : w1 = (.int i1) := Option.some.inj ei1
  obtain ⟨i2, ei2⟩ := isL_v ga2
  obtain rfl : w2 = (.long i2) := Option.some.inj ei2
  obtain ⟨i3, ei3⟩ := is_v ga3
  obtain rfl : w3 = (.int i3) := Option.some.inj ei3
  obtain ⟨i4, ei4⟩ := isL_v ga4
  obtain rfl : w4 = (.long i4) := Option.some.inj ei4
  obtain ⟨i5, ei5⟩ := is_v ga5
  obtain rfl : w5 = (.int i5) := Option.some.inj ei5
  obtain ⟨n, o, h1, h2, h3, _, L, rfl, ⟨rfl, N⟩, hq⟩ := rm0 l s _ hw tables_1 i0 i1 i2 i3 i4 i5 s.heap s.heap.size (Nat.le_refl _) p e ha hc hk s m _ below hf ((Spec.applies_iff_loose hf).mp happ).1 ⟨rfl, State.Warmed39.refl s, rfl⟩ trivial
  refine ⟨n, _, h1, h2, h3, hpost _ _ _ _ _ _ ⟨Cond.after_iff.mpr rfl, Cond.after_iff.mpr (eq_i res_at (Term.int_eval (1)) rfl), trivial⟩ ⟨hq.1, hq.2.1, (hq.2.2.sift fun y hy => Or.inr (N y hy)).mono (by decide) (by decide)⟩⟩
theorem main_1_1 : Claimed_1_1 := comes_1 fun _ _ _ _ _ _ h hF => ⟨h.1, hF⟩
theorem main_1_2 : Claimed_1_2 := comes_1 fun _ _ _ _ _ _ h hF => ⟨h.2.1, hF⟩
end Jvm.Pilot.@@N@@
namespace Jvm.Pilot.@@N@@
open Jvm Jvm.ClassFile Sem Op Lib Jvm.Free Jvm.Stand Jvm.Pilot.@@N@@.Jvm.D
/-! MADE BY PROGRAM (witnessworld.py) out of the Statement's table words and the real class files: 9 classes; the members and pool entries that the words name. The judged class is class 1, her method 4. -/
namespace start1
open Jvm.ClassFile
def u (s : String) : CpInfo := .utf8 (stringToUtf16 s)
/-- a pool by its gaps: so many unusable entries, then the entry; so many at the end -/
def gap : Nat → List CpInfo → List CpInfo
  | 0, r => r
  | n + 1, r => .unusable :: gap n r
def poolList (es : List (Nat × CpInfo)) (last : Nat) : List CpInfo := es.foldr (fun e r => gap e.1 (e.2 :: r)) (gap last [])
def pool (es : List (Nat × CpInfo)) (last : Nat) : Array CpInfo := ⟨poolList es last⟩
def fileOf (pool : Array CpInfo) (this : Nat) (attrs : Array Attribute := #[]) (ms : Array MethodInfo := #[]) (fl : Nat := 33) (sup : Nat := 0) (ifs : Array Nat := #[]) (fds : Array FieldInfo := #[]) : ClassFile where
  minorVersion := 0
  majorVersion := 65
  constantPool := pool
  accessFlags := fl
  thisClass := this
  superClass := sup
  interfaces := ifs
  fields := fds
  methods := ms
  attributes := attrs
def plain (name : String) (sup : Option ClassId) : Class where
  name := name
  kind := .ordinary
  loader := none
  accessFlags := 33
  super := sup
  interfaces := #[]
  cf := none
  fields := #[]
  methods := #[]
  instanceTypes := #[]
  staticTypes := #[]
  resolved := #[]
  callSites := []
  init := .initialized
  statics := none
  mirror := none

def pool0 : Array CpInfo := pool [(5, u "<init>"), (0, u "()V"), (1, .class_ 10), (1, u "java/lang/Object")] 113

def k0c0 : Code := { maxStack := 0, maxLocals := 1, code := object_method_1_code, exceptionTable := #[], attributes := #[] }
def k0m0 : Method := { name := "<init>", desc := "()V", sig := { parameters := [], returnType := none }, accessFlags := 1, code := some k0c0 }
/-- java/lang/Object -/
def k0 : Class := { plain "java/lang/Object" none with
  accessFlags := 33
  interfaces := #[]
  cf := some (fileOf pool0 8 #[] #[{ accessFlags := 1, nameIndex := 5, descriptorIndex := 6, attributes := #[] }] 33 0 #[] #[])
  fields := #[]
  methods := #[k0m0]
  instanceTypes := #[]
  staticTypes := #[]
  resolved := Array.replicate 124 none
  statics := none }

def pool1 : Array CpInfo := pool [(2, .class_ 4), (0, .nameAndType 5 6), (0, u "java/lang/Object"), (0, u "<init>"), (0, u "()V"), (0, .integer 2147483647), (0, .long 10), (1, .methodref 11 12), (0, .class_ 13), (0, .nameAndType 14 15), (0, u "quorate/tcp/SettlingSettledPinLaw"), (0, u "base"), (0, u "(J)J"), (0, .long 3), (1, .long 2), (1, .methodref 11 21), (0, .nameAndType 22 23), (0, u "took"), (0, u "(JI)J"), (0, .methodref 11 25), (0, .nameAndType 26 23), (0, u "compiled"), (0, .class_ 28), (0, u "quorate/tcp/WarmUp$Settling"), (0, .methodref 27 3), (0, .methodref 27 31), (0, .nameAndType 32 33), (0, u "settled"), (0, u "(JJ)Z"), (3, u "law"), (0, u "(JIJIJI)Z")] 6

def k1m0 : Method := { name := "<init>", desc := "()V", sig := { parameters := [], returnType := none }, accessFlags := 2, code := none }
def k1c1 : Code := { maxStack := 3, maxLocals := 2, code := method_2_code, exceptionTable := #[], attributes := #[] }
def k1m1 : Method := { name := "base", desc := "(J)J", sig := { parameters := [.long], returnType := some .long }, accessFlags := 10, code := some k1c1 }
def k1c2 : Code := { maxStack := 4, maxLocals := 5, code := method_3_code, exceptionTable := #[], attributes := #[] }
def k1m2 : Method := { name := "took", desc := "(JI)J", sig := { parameters := [.long, .int], returnType := some .long }, accessFlags := 10, code := some k1c2 }
def k1c3 : Code := { maxStack := 6, maxLocals := 3, code := method_4_code, exceptionTable := #[], attributes := #[] }
def k1m3 : Method := { name := "compiled", desc := "(JI)J", sig := { parameters := [.long, .int], returnType := some .long }, accessFlags := 10, code := some k1c3 }
def k1c4 : Code := { maxStack := 5, maxLocals := 28, code := code, exceptionTable := #[], attributes := #[] }
def k1m4 : Method := { name := "law", desc := "(JIJIJI)Z", sig := { parameters := [.long, .int, .long, .int, .long, .int], returnType := some .boolean }, accessFlags := 9, code := some k1c4 }
/-- quorate/tcp/SettlingSettledPinLaw -/
def k1 : Class := { plain "quorate/tcp/SettlingSettledPinLaw" (some 0) with
  accessFlags := 49
  interfaces := #[]
  cf := some (fileOf pool1 11 #[] #[{ accessFlags := 2, nameIndex := 5, descriptorIndex := 6, attributes := #[] }, { accessFlags := 10, nameIndex := 14, descriptorIndex := 15, attributes := #[] }, { accessFlags := 10, nameIndex := 22, descriptorIndex := 23, attributes := #[] }, { accessFlags := 10, nameIndex := 26, descriptorIndex := 23, attributes := #[] }, { accessFlags := 9, nameIndex := 37, descriptorIndex := 38, attributes := #[] }] 49 2 #[] #[])
  fields := #[]
  methods := #[k1m0, k1m1, k1m2, k1m3, k1m4]
  instanceTypes := #[]
  staticTypes := #[]
  resolved := Array.replicate 45 none
  statics := none }

def pool2 : Array CpInfo := pool [(1, .class_ 2), (0, u "quorate/tcp/WarmUp"), (0, .methodref 4 5), (0, .class_ 6), (0, .nameAndType 7 8), (0, u "java/lang/Object"), (0, u "<init>"), (0, u "()V"), (0, .double 4591870180066957722), (1, .fieldref 12 13), (0, .class_ 14), (0, .nameAndType 15 16), (0, u "quorate/tcp/WarmUp$Settling"), (0, u "quiet"), (0, u "I"), (2, u "settled"), (0, u "(JJ)Z")] 6

def k2c0 : Code := { maxStack := 1, maxLocals := 1, code := prog_242_method_1_code, exceptionTable := #[], attributes := #[] }
def k2m0 : Method := { name := "<init>", desc := "()V", sig := { parameters := [], returnType := none }, accessFlags := 0, code := some k2c0 }
def k2c1 : Code := { maxStack := 7, maxLocals := 5, code := prog_242_method_2_code, exceptionTable := #[], attributes := #[] }
def k2m1 : Method := { name := "settled", desc := "(JJ)Z", sig := { parameters := [.long, .long], returnType := some .boolean }, accessFlags := 0, code := some k2c1 }
/-- quorate/tcp/WarmUp$Settling -/
def k2 : Class := { plain "quorate/tcp/WarmUp$Settling" (some 0) with
  accessFlags := 48
  interfaces := #[]
  cf := some (fileOf pool2 12 #[.nestHost 1] #[{ accessFlags := 0, nameIndex := 7, descriptorIndex := 8, attributes := #[] }, { accessFlags := 0, nameIndex := 19, descriptorIndex := 20, attributes := #[] }] 48 4 #[] #[{ accessFlags := 2, nameIndex := 15, descriptorIndex := 16, attributes := #[] }])
  fields := #[{ name := "quiet", type := .int, accessFlags := 2, slot := 0, constantValue := 0 }]
  methods := #[k2m0, k2m1]
  instanceTypes := #[.int]
  staticTypes := #[]
  resolved := Array.replicate 27 none
  statics := none }

def pool3 : Array CpInfo := pool [(1, u "java/lang/Cloneable"), (0, .class_ 1), (0, u "java/lang/Object"), (0, .class_ 3)] 3

/-- java/lang/Cloneable -/
def k3 : Class := { plain "java/lang/Cloneable" (some 0) with
  accessFlags := 1537
  interfaces := #[]
  cf := some (fileOf pool3 2 #[] #[] 1537 4 #[] #[])
  fields := #[]
  methods := #[]
  instanceTypes := #[]
  staticTypes := #[]
  resolved := Array.replicate 8 none
  statics := none }

def pool4 : Array CpInfo := pool [(1, u "java/io/Serializable"), (0, .class_ 1), (0, u "java/lang/Object"), (0, .class_ 3)] 3

/-- java/io/Serializable -/
def k4 : Class := { plain "java/io/Serializable" (some 0) with
  accessFlags := 1537
  interfaces := #[]
  cf := some (fileOf pool4 2 #[] #[] 1537 4 #[] #[])
  fields := #[]
  methods := #[]
  instanceTypes := #[]
  staticTypes := #[]
  resolved := Array.replicate 8 none
  statics := none }

/-- the primitive byte -/
def k5 : Class := { plain "byte" none with kind := .primitive 'B', accessFlags := 0x411 }
/-- [B -/
def k6 : Class := { plain "[B" (some 0) with kind := .array 5 .byte, interfaces := #[3, 4], accessFlags := 1041 }

/-- the primitive int -/
def k7 : Class := { plain "int" none with kind := .primitive 'I', accessFlags := 0x411 }
/-- [I -/
def k8 : Class := { plain "[I" (some 0) with kind := .array 7 .int, interfaces := #[3, 4], accessFlags := 1041 }

def heap : Heap := #[]
def classes : Array Class := #[k0, k1, k2, k3, k4, k5, k6, k7, k8]
def interned : List (Array UInt16 × Addr) := []
def slotsUsed : Nat := 0
def theMethod : MethodId := ⟨1, 4⟩
def args0 : Array Value := #[.long 5, .int 300, .long 7, .int 8, .long 9, .int 2]
def aboutOver (below : List Frame) : State where
  vm := { classes := classes, interned := interned.toArray }
  heap := heap
  slotsUsed := slotsUsed
  threads := #[{ frames := .invoking theMethod args0 :: below }]
def below0 : List Frame := [.native { method := ⟨0, 0⟩, args := #[] }]
def about1 : State := aboutOver below0
def p0 : Program := .bare "" "" ""
def e0 : Env := launch0.env 0 0 0
theorem w_frames : about1.frames = Frame.invoking theMethod args0 :: below0 := rfl
set_option maxRecDepth 65536 in
theorem w_args : argsFit about1.vm theMethod args0 = true := by decide +kernel
set_option maxRecDepth 65536 in
theorem w_heap : heapFits about1 = true := by decide +kernel
set_option maxRecDepth 65536 in
theorem w_runnable : about1.curStatus? = some .runnable := by decide +kernel
set_option maxRecDepth 65536 in
theorem w_alone : about1.alone = true := by decide +kernel
set_option maxRecDepth 65536 in
theorem w_named : about1.methodNamed? x = some theMethod := by decide +kernel
set_option maxRecDepth 65536 in
theorem w_hears : about1.hears theMethod below0 = true := by decide +kernel
set_option maxRecDepth 65536 in
theorem w_ripe : about1.ripe theMethod args0 below0 = true := by decide +kernel
theorem w_running : about1.status = .running := rfl
set_option maxRecDepth 65536 in
theorem w_room : about1.hasRoom e0.platform room_1 = true :=
  launch0.hasRoom_least _ room_1 (by decide +kernel) (by decide +kernel) (by decide +kernel) (by decide +kernel) (by decide +kernel) (by decide +kernel)
theorem allAtoms_all (ts : List Jvm.Cond) (a : Array Jvm.Value) (st : Jvm.State) : (allAtoms ts).before a st = ts.all (fun c => c.before a st) := by
  induction ts with
  | nil => rfl
  | cons c t ih =>
    show (Jvm.Cond.and c (allAtoms t)).before a st = _
    rw [Jvm.Cond.before_and, ih, List.all_cons]
def words1 : List Jvm.Cond := Jvm.Cond.code x code maxLocals ret :: tables_1
/-- a 'code' word, met by the world's own term for the bytes: nothing is compared byte by byte -/
theorem code_word {y : MethodName} {bytes : ByteArray} {mx : Nat} {rt : Option FieldType} {a : Array Value} {s : State} {m : MethodId} {meth : Method} {c : Code} (h1 : s.methodNamed? y = some m) (h2 : s.vm.method? m = some meth) (h3 : meth.code = some c) (h4 : c.code = bytes)
    (h5 : (c.maxLocals == mx && c.exceptionTable.isEmpty && decide (c.maxStack ≤ mostOperands) && decide (meth.sig.returnType = rt) && !meth.locks && decide (parseMethodDescriptor y.desc = some meth.sig)) = true) : (Jvm.Cond.code y bytes mx rt).before a s = true := by
  simp only [Bool.and_eq_true, beq_iff_eq, Bool.not_eq_true', decide_eq_true_eq] at h5
  obtain ⟨⟨⟨⟨⟨g1, g2⟩, g3⟩, g4⟩, g5⟩, g6⟩ := h5
  simp [Cond.before, Cond.holds, Cond.value, h1, h2, h3, h4, g1, g2, g3, g4, g5, g6]
def isCode : Jvm.Cond → Bool
  | .code _ _ _ _ => true
  | _ => false
theorem all_split {L : List Jvm.Cond} {P : Jvm.Cond → Bool} (h1 : L.all (fun c => isCode c || P c) = true) (h2 : ∀ c ∈ L.filter isCode, P c = true) : L.all P = true := by
  refine List.all_eq_true.mpr fun c hc => ?_
  have h := List.all_eq_true.mp h1 c hc
  rcases Bool.eq_false_or_eq_true (isCode c) with hi | hi
  · exact h2 c (List.mem_filter.mpr ⟨hc, hi⟩)
  · simpa [hi] using h
set_option maxRecDepth 65536 in
theorem w_c0 : (Jvm.Cond.code x code maxLocals ret).before args0 about1 = true := code_word (m := ⟨1, 4⟩) (meth := k1m4) (c := k1c4) (by decide +kernel) rfl rfl rfl (by decide +kernel)
set_option maxRecDepth 65536 in
theorem w_c1 : (Jvm.Cond.code ({ cls := "quorate/tcp/SettlingSettledPinLaw", name := "took", desc := "(JI)J" } : Jvm.MethodName) method_3_code (5 : Nat) (Option.some Jvm.ClassFile.FieldType.long)).before args0 about1 = true := code_word (m := ⟨1, 2⟩) (meth := k1m2) (c := k1c2) (by decide +kernel) rfl rfl rfl (by decide +kernel)
set_option maxRecDepth 65536 in
theorem w_c2 : (Jvm.Cond.code ({ cls := "quorate/tcp/SettlingSettledPinLaw", name := "base", desc := "(J)J" } : Jvm.MethodName) method_2_code (2 : Nat) (Option.some Jvm.ClassFile.FieldType.long)).before args0 about1 = true := code_word (m := ⟨1, 1⟩) (meth := k1m1) (c := k1c1) (by decide +kernel) rfl rfl rfl (by decide +kernel)
set_option maxRecDepth 65536 in
theorem w_c3 : (Jvm.Cond.code ({ cls := "quorate/tcp/SettlingSettledPinLaw", name := "compiled", desc := "(JI)J" } : Jvm.MethodName) method_4_code (3 : Nat) (Option.some Jvm.ClassFile.FieldType.long)).before args0 about1 = true := code_word (m := ⟨1, 3⟩) (meth := k1m3) (c := k1c3) (by decide +kernel) rfl rfl rfl (by decide +kernel)
set_option maxRecDepth 65536 in
theorem w_c4 : (Jvm.Cond.code ({ cls := "quorate/tcp/WarmUp$Settling", name := "<init>", desc := "()V" } : Jvm.MethodName) prog_242_method_1_code (1 : Nat) (Option.none : Option Jvm.ClassFile.FieldType)).before args0 about1 = true := code_word (m := ⟨2, 0⟩) (meth := k2m0) (c := k2c0) (by decide +kernel) rfl rfl rfl (by decide +kernel)
set_option maxRecDepth 65536 in
theorem w_c5 : (Jvm.Cond.code ({ cls := "java/lang/Object", name := "<init>", desc := "()V" } : Jvm.MethodName) object_method_1_code (1 : Nat) (Option.none : Option Jvm.ClassFile.FieldType)).before args0 about1 = true := code_word (m := ⟨0, 0⟩) (meth := k0m0) (c := k0c0) (by decide +kernel) rfl rfl rfl (by decide +kernel)
set_option maxRecDepth 65536 in
theorem w_c6 : (Jvm.Cond.code ({ cls := "quorate/tcp/WarmUp$Settling", name := "settled", desc := "(JJ)Z" } : Jvm.MethodName) prog_242_method_2_code (5 : Nat) (Option.some Jvm.ClassFile.FieldType.boolean)).before args0 about1 = true := code_word (m := ⟨2, 1⟩) (meth := k2m1) (c := k2c1) (by decide +kernel) rfl rfl rfl (by decide +kernel)
def codes1 : List Jvm.Cond := [Jvm.Cond.code x code maxLocals ret, Jvm.Cond.code ({ cls := "quorate/tcp/SettlingSettledPinLaw", name := "took", desc := "(JI)J" } : Jvm.MethodName) method_3_code (5 : Nat) (Option.some Jvm.ClassFile.FieldType.long), Jvm.Cond.code ({ cls := "quorate/tcp/SettlingSettledPinLaw", name := "base", desc := "(J)J" } : Jvm.MethodName) method_2_code (2 : Nat) (Option.some Jvm.ClassFile.FieldType.long), Jvm.Cond.code ({ cls := "quorate/tcp/SettlingSettledPinLaw", name := "compiled", desc := "(JI)J" } : Jvm.MethodName) method_4_code (3 : Nat) (Option.some Jvm.ClassFile.FieldType.long), Jvm.Cond.code ({ cls := "quorate/tcp/WarmUp$Settling", name := "<init>", desc := "()V" } : Jvm.MethodName) prog_242_method_1_code (1 : Nat) (Option.none : Option Jvm.ClassFile.FieldType), Jvm.Cond.code ({ cls := "java/lang/Object", name := "<init>", desc := "()V" } : Jvm.MethodName) object_method_1_code (1 : Nat) (Option.none : Option Jvm.ClassFile.FieldType), Jvm.Cond.code ({ cls := "quorate/tcp/WarmUp$Settling", name := "settled", desc := "(JJ)Z" } : Jvm.MethodName) prog_242_method_2_code (5 : Nat) (Option.some Jvm.ClassFile.FieldType.boolean)]
set_option maxRecDepth 65536 in
theorem codes_eq : words1.filter isCode = codes1 := rfl
theorem w_codes : ∀ c ∈ words1.filter isCode, c.before args0 about1 = true := by
  rw [codes_eq]
  intro c hc
  simp only [codes1, List.mem_cons, List.not_mem_nil, or_false] at hc
  rcases hc with rfl | rfl | rfl | rfl | rfl | rfl | rfl
  · exact w_c0
  · exact w_c1
  · exact w_c2
  · exact w_c3
  · exact w_c4
  · exact w_c5
  · exact w_c6
set_option maxRecDepth 65536 in
theorem w_t1 : (words1.take 24).all (fun c => isCode c || c.before args0 about1) = true := by decide +kernel
set_option maxRecDepth 65536 in
theorem w_t2 : (words1.drop 24).all (fun c => isCode c || c.before args0 about1) = true := by decide +kernel
theorem w_tables : (allAtoms (Jvm.Cond.code x code maxLocals ret :: tables_1)).before args0 about1 = true := by
  rw [allAtoms_all]
  show words1.all (fun c => c.before args0 about1) = true
  refine all_split ?_ w_codes
  rw [← List.take_append_drop 24 words1, List.all_append, w_t1, w_t2]
  rfl
set_option maxRecDepth 65536 in
theorem w_case : (Jvm.Cond.and given_1 narrow_1).before args0 about1 = true := by decide +kernel
theorem w_applies : (headSpec (Jvm.Cond.code x code maxLocals ret :: tables_1) room_1).applies x e0.platform about1 = true :=
  (Spec.applies_iff w_frames).mpr ⟨w_running, w_runnable, w_alone, w_named, w_hears, w_ripe, w_room, w_tables⟩
theorem atStart : AtStart classFile x code maxLocals ret World_1 tables_1 room_1 Calls_1 rest_1 Pre_1 launch0 p0 e0 about1 theMethod args0 below0 :=
  ⟨lists_1, trivial, launch0.admits_env _ _ _, launch0.least_env, fairChoices_fair.cas, fairChoices_fair.clock, w_frames, w_args, w_heap, w_applies, trivial, trivial, w_case⟩
end start1
theorem witness_1 : WitnessClaimed_1 := ⟨start1.p0, start1.e0, start1.about1, start1.theMethod, start1.args0, start1.below0, start1.atStart⟩
end Jvm.Pilot.@@N@@
