import JvmDerived
import JvmDerived.Pilot.@@N@@Statement
import JvmDerived.Pilot.@@N@@Code
set_option linter.unusedVariables false
set_option linter.unusedSimpArgs false
namespace Jvm.Pilot.@@N@@
open Jvm Jvm.ClassFile Sem Op Lib Jvm.Free Jvm.Stand Jvm.LawKit Jvm.RoadKit Bundle Jvm.Pilot.@@N@@.Jvm.D
/-! ## Own: a walk forward: from here the run comes to an end that K takes -/
section Own
variable {p : Program} {l : Launch} {e : Env} {R : Room} {s : State} {m : MethodId} {args : Array Value} {below : List Frame} {meth : Method} {c : Code} {T : State} {locs : List Loc} {cells slots : Nat} {K : State → Prop}
def Go (p : Program) (e : Env) (below : List Frame) (K : State → Prop) (S : State) : Prop := ∃ t, Steps p.tables e below S t ∧ K t
theorem go {S S' : State} (h : ∀ t, Steps p.tables e below S' t → Steps p.tables e below S t) (g : Go p e below K S') : Go p e below K S := by
  obtain ⟨t, h1, h2⟩ := g
  exact ⟨t, h t h1, h2⟩
/-- the end of a body: what is returned, the heap and the written places fulfil Q, within so many cells and slots -/
def Dn (below : List Frame) (s : State) (Q : Option Value → Heap → List Loc → Prop) (C N : Nat) (t : State) : Prop := ∃ v L, t.status = .running ∧ Ended t below (.returned v) ∧ Q v t.heap L ∧ FrameEnd s (.returned v) t L C N
variable {Q : Option Value → Heap → List Loc → Prop} {C N : Nat}
theorem own_retI (X : Stand p l e R s m args below meth c T locs cells slots) (hx : p.tables.exec = Jvm.exec) (hlk : meth.locks = false) {pc : Nat} {Ls : Array Slot} {z : Int32} {rest : List Value} (hret : meth.sig.returnType = some .int) (hd : decode c.code pc = .ok (.ireturn, 1))
    (hC : cells ≤ C) (hN : slots ≤ N) (hQ : Q (some (.int z)) T.heap locs) : Go p e below (Dn below s Q C N) (T.setTop (mkF m pc Ls (.int z :: rest))) := by
  obtain ⟨fs, hr, hrun, hended, hW, hsame⟩ := X.leave (v := some (.int z)) (fun h => by rw [hret] at h; cases h) hlk
  refine ⟨_, ?_, _, _, hrun, hended, hQ, ⟨_, rfl⟩, hW, hsame.mono hC hN⟩
  have hm' : T.vm.method? m = some meth := X.method'
  have hn : narrow .int (.int z) = .int z := rfl
  show Steps p.tables e below (T.setTop { method := m, pc := pc, locals := Ls, stack := _ :: rest, locked := none }) _
  jvm_step X.here [X.here.top, hx, hd, hm', hret, hn]
  first | (intro acts; rw [hr _ acts rfl rfl rfl]) | rw [hr _ _ rfl rfl rfl]
  exact Steps.refl _
theorem own_retZ (X : Stand p l e R s m args below meth c T locs cells slots) (hx : p.tables.exec = Jvm.exec) (hlk : meth.locks = false) {pc : Nat} {Ls : Array Slot} {z z' : Int32} {rest : List Value} (hret : meth.sig.returnType = some .boolean) (hd : decode c.code pc = .ok (.ireturn, 1))
    (hC : cells ≤ C) (hN : slots ≤ N) (hz : nar .boolean z = z') (hQ : Q (some (.int z')) T.heap locs) : Go p e below (Dn below s Q C N) (T.setTop (mkF m pc Ls (.int z :: rest))) := by
  subst hz
  obtain ⟨fs, hr, hrun, hended, hW, hsame⟩ := X.leave (v := some (.int (nar .boolean z))) (fun h => by rw [hret] at h; cases h) hlk
  exact ⟨_, retN X hx (t := .boolean) hret (by simp) hd hr, _, _, hrun, hended, hQ, ⟨_, rfl⟩, hW, hsame.mono hC hN⟩
theorem own_retJ (X : Stand p l e R s m args below meth c T locs cells slots) (hx : p.tables.exec = Jvm.exec) (hlk : meth.locks = false) {pc : Nat} {Ls : Array Slot} {z : Int64} (hret : meth.sig.returnType = some .long) (hd : decode c.code pc = .ok (.lreturn, 1))
    (hC : cells ≤ C) (hN : slots ≤ N) (hQ : Q (some (.long z)) T.heap locs) : Go p e below (Dn below s Q C N) (T.setTop (mkF m pc Ls [.long z])) := by
  obtain ⟨fs, hr, hrun, hended, hW, hsame⟩ := X.leave (v := some (.long z)) (fun h => by rw [hret] at h; cases h) hlk
  exact ⟨_, X.lreturnOut hx hret hd hr, _, _, hrun, hended, hQ, ⟨_, rfl⟩, hW, hsame.mono hC hN⟩
theorem own_retA (X : Stand p l e R s m args below meth c T locs cells slots) (hx : p.tables.exec = Jvm.exec) (hlk : meth.locks = false) {pc : Nat} {Ls : Array Slot} {w : Value} {t : FieldType} (hw : w.isRef = true) (hret : meth.sig.returnType = some t) (ht : t.isReference = true) (hd : decode c.code pc = .ok (.areturn, 1))
    (hC : cells ≤ C) (hN : slots ≤ N) (hQ : Q (some w) T.heap locs) : Go p e below (Dn below s Q C N) (T.setTop (mkF m pc Ls [w])) := by
  obtain ⟨fs, hr, hrun, hended, hW, hsame⟩ := X.leave (v := some w) (fun h => by rw [hret] at h; cases h) hlk
  exact ⟨_, X.areturnOut hx hw hret ht hd hr, _, _, hrun, hended, hQ, ⟨_, rfl⟩, hW, hsame.mono hC hN⟩
theorem own_retV (X : Stand p l e R s m args below meth c T locs cells slots) (hx : p.tables.exec = Jvm.exec) (hlk : meth.locks = false) {pc : Nat} {Ls : Array Slot} (hret : meth.sig.returnType = none) (hd : decode c.code pc = .ok (.return_, 1))
    (hC : cells ≤ C) (hN : slots ≤ N) (hQ : Q none T.heap locs) : Go p e below (Dn below s Q C N) (T.setTop (mkF m pc Ls [])) := by
  obtain ⟨fs, hr, hrun, hended, hW, hsame⟩ := X.leave (v := none) (fun _ => rfl) hlk
  exact ⟨_, X.returnOut hx hret hd hr, _, _, hrun, hended, hQ, ⟨_, rfl⟩, hW, hsame.mono hC hN⟩
theorem own_lrem {g : JFrame} {target : State} (X : Stand p l e R s m args below meth c T locs cells slots) (hx : p.tables.exec = Jvm.exec) (hg : g.method = m) {x y : Int64} {rest : List Value} (hd : decode c.code g.pc = .ok (.lrem, 1)) (hs : g.stack = .long y :: .long x :: rest) (hy : y ≠ 0)
    (hr : Steps p.tables e below (T.setTop { g with pc := g.pc + 1, stack := .long (x % y) :: rest }) target) : Steps p.tables e below (T.setTop g) target := by
  have q : x - x / y * y = x % y := lrem_mod x y
  exact XS.lrem X.here hx hg hd hs hy (by rw [q]; exact hr)
/-- what a body's walk is handed -/
theorem own_met {x : MethodName} {code : ByteArray} {maxL : Nat} {ret : Option FieldType} {ws : List Jvm.Cond} {as' : Array Value} {L0 : Array Slot} {Z : State} {h0 : Heap} (hpl : plainFor x = true) (hef : ∀ m, entryFrame m as' maxL = mkF m 0 L0 [])
    (body : ∀ (p : Program) (e : Env) (s : State) (m : MethodId) (below : List Frame) (meth : Method) (c : Code) (T : State), p.tables.exec = Jvm.exec → c.code = code → c.maxLocals = maxL → s.vm.findClass x.cls = some m.cls → meth.name = x.name → meth.sig.returnType = ret → meth.locks = false → Z.Warmed39 s.vm →
      Stand p l e R s m as' below meth c T [] 0 0 → T.heap = h0 → Go p e below (Dn below s Q R.cells R.slots) (T.setTop (mkF m 0 L0 []))) :
    MetFree l x (head1 (Jvm.Cond.code x code maxL ret :: ws) R) (fun a U => a = as' ∧ Z.Warmed39 U.vm ∧ U.heap = h0) (fun _ _ _ _ _ => True) (fun _ U o U' => ∃ v L, o = .returned v ∧ Q v U'.heap L ∧ FrameEnd U o U' L R.cells R.slots) := by
  refine MetFree.of_bodySF hpl hisR ?_
  intro p e s m args below meth c s₁ Bd hml0 hP hK
  obtain ⟨rfl, hZ, hh⟩ := hP
  obtain ⟨t, h1, v, L, h2, h3, h4, h5⟩ := body p e s m below meth c s₁ Bd.exec Bd.bytes hml0 (findClass_of_methodNamed Bd.named) (name_of_methodNamed Bd.named Bd.method).1 Bd.returns (BodyLoose.notSynchronized Bd) hZ (Stand.of_body Bd) (by rw [← hh, Bd.state]; rfl)
  exact ⟨t, .returned v, castTop (hef m) h1, h2, h3, v, L, rfl, h4, h5⟩
section Calls
variable {Z : State} {a0 : Array Value} {own : String} {idx : Nat} {y : MethodName} {bytes : ByteArray} {maxL W : Nat} {ret : Option FieldType} {rm : Room} {as' : Array Value} {h : Heap}
/-- a static call by the callee's contract -/
theorem own_callS (X : Stand p l e R s m args below meth c T locs cells slots) (hx : p.tables.exec = Jvm.exec) (hZ : Z.Warmed39 s.vm) (hown : s.vm.findClass own = some m.cls) (eT : T.heap = h)
    (w1 : (Jvm.Cond.methodLink own idx y).before a0 Z = true) (w2 : (Jvm.Cond.static y).before a0 Z = true) (w3 : (Jvm.Cond.initialized y.cls).before a0 Z = true) (w4 : (Jvm.Cond.code y bytes maxL ret).before a0 Z = true)
    (hM : MetFree l y (head1 [Jvm.Cond.code y bytes maxL ret] rm) (fun a U => a = as' ∧ Z.Warmed39 U.vm ∧ U.heap = h) (fun _ _ _ _ _ => True) (fun _ U o U' => ∃ v L, o = .returned v ∧ Q v U'.heap L ∧ FrameEnd U o U' L rm.cells rm.slots))
    (hy : y.cls ≠ "java/lang/invoke/MethodHandle" ∧ y.cls ≠ "java/lang/invoke/VarHandle") (hf : rm.frames + 1 ≤ R.frames) (hl : W + (maxL + 11) + rm.locals ≤ R.locals) (hc : cells + rm.cells ≤ R.cells) (hs : slots + rm.slots ≤ R.slots)
    {g : JFrame} (hg : g.method = m) (hsize : g.locals.size = c.maxLocals) {argsL rest : List Value} (hst : g.stack = argsL.reverse ++ rest) (has : argsL.toArray = as') (hlen : ∀ sig, parseMethodDescriptor y.desc = some sig → argsL.length = sig.parameters.length)
    (hW : 2 * g.monitorRoom + (rest.map fun v => v.category).sum ≤ W) (hd : decode c.code g.pc = .ok (.invokestatic idx, 3))
    (k : ∀ v T' L, Stand p l e R s m args below meth c T' (locs ++ L) (cells + rm.cells) (slots + rm.slots) → Q v T'.heap L → Go p e below K (T'.setTop { g with pc := g.pc + 3, stack := v.toList ++ rest })) : Go p e below K (T.setTop g) := by
  obtain ⟨v, _, ⟨T', L', k', n'⟩, -, X', ⟨Lc, hQ, l1, y1, z1⟩, st⟩ := Jvm.LawKit.callS X hx (y := y) hown (mvT hZ w1) (mvT hZ w2) (mvT hZ w3) (mvT hZ w4) hy (backOf (W := W) hM hZ w4 w3 hf hl) hg hsize hlen hst hW hd (fun _ _ => ⟨has, eT, hc, hs⟩)
  dsimp only [Pt.U, Pt.locs, Pt.cells, Pt.slots] at X' l1 y1 z1 st hQ
  subst l1 y1 z1
  exact go st (k _ _ _ X' hQ)
/-- a constructor by its contract -/
theorem own_callC (X : Stand p l e R s m args below meth c T locs cells slots) (hx : p.tables.exec = Jvm.exec) (hZ : Z.Warmed39 s.vm) (hown : s.vm.findClass own = some m.cls) (eT : T.heap = h)
    (w1 : (Jvm.Cond.methodLink own idx y).before a0 Z = true) (w2 : (Jvm.Cond.instanceMethod y).before a0 Z = true) (w3 : (Jvm.Cond.initialized y.cls).before a0 Z = true) (w4 : (Jvm.Cond.code y bytes maxL none).before a0 Z = true)
    (hM : MetFree l y (head1 [Jvm.Cond.code y bytes maxL none] rm) (fun a U => a = as' ∧ Z.Warmed39 U.vm ∧ U.heap = h) (fun _ _ _ _ _ => True) (fun _ U o U' => ∃ v L, o = .returned v ∧ Q v U'.heap L ∧ FrameEnd U o U' L rm.cells rm.slots))
    (hyn : y.name = "<init>") (hy : y.cls ≠ "java/lang/invoke/MethodHandle" ∧ y.cls ≠ "java/lang/invoke/VarHandle") (hf : rm.frames + 1 ≤ R.frames) (hl : W + (maxL + 11) + rm.locals ≤ R.locals) (hc : cells + rm.cells ≤ R.cells) (hs : slots + rm.slots ≤ R.slots)
    {g : JFrame} (hg : g.method = m) (hsize : g.locals.size = c.maxLocals) {a : Addr} {argsL rest : List Value} (hst : g.stack = argsL.reverse ++ .ref a :: rest) (has : (.ref a :: argsL).toArray = as') (hlen : ∀ sig, parseMethodDescriptor y.desc = some sig → argsL.length = sig.parameters.length)
    (hW : 2 * g.monitorRoom + (rest.map fun v => v.category).sum ≤ W) (hd : decode c.code g.pc = .ok (.invokespecial idx, 3))
    (k : ∀ v T' L, Stand p l e R s m args below meth c T' (locs ++ L) (cells + rm.cells) (slots + rm.slots) → Q v T'.heap L → Go p e below K (T'.setTop { g with pc := g.pc + 3, stack := v.toList ++ rest })) : Go p e below K (T.setTop g) := by
  obtain ⟨v, _, ⟨T', L', k', n'⟩, -, X', ⟨Lc, hQ, l1, y1, z1⟩, st⟩ := X.specialBack hx (y := y) hyn hown (mvT hZ w1) (mvT hZ w2) (mvT hZ w4) hy (backOf (W := W) hM hZ w4 w3 hf hl) hg hsize (Steps.refl _) (a := a) hlen hst hW hd (fun _ _ => ⟨has, eT, hc, hs⟩)
  dsimp only [Pt.U, Pt.locs, Pt.cells, Pt.slots] at X' l1 y1 z1 st hQ
  subst l1 y1 z1
  exact go (fun t q => st.trans q) (k _ _ _ X' hQ)
/-- a virtual call of a method that the receiver's class declares itself -/
theorem own_callV (X : Stand p l e R s m args below meth c T locs cells slots) (hx : p.tables.exec = Jvm.exec) (hZ : Z.Warmed39 s.vm) (hown : s.vm.findClass own = some m.cls) (eT : T.heap = h)
    (w1 : (Jvm.Cond.methodLink own idx y).before a0 Z = true) (w2 : (Jvm.Cond.declares y).before a0 Z = true) (w5 : (Jvm.Cond.instanceMethod y).before a0 Z = true) (w6 : (Jvm.Cond.selects y.cls y y).before a0 Z = true) (w3 : (Jvm.Cond.initialized y.cls).before a0 Z = true) (w4 : (Jvm.Cond.code y bytes maxL ret).before a0 Z = true)
    (hM : MetFree l y (head1 [Jvm.Cond.code y bytes maxL ret] rm) (fun a U => a = as' ∧ Z.Warmed39 U.vm ∧ U.heap = h) (fun _ _ _ _ _ => True) (fun _ U o U' => ∃ v L, o = .returned v ∧ Q v U'.heap L ∧ FrameEnd U o U' L rm.cells rm.slots))
    (hy : y.cls ≠ "java/lang/invoke/MethodHandle" ∧ y.cls ≠ "java/lang/invoke/VarHandle") (hf : rm.frames + 1 ≤ R.frames) (hl : W + (maxL + 11) + rm.locals ≤ R.locals) (hc : cells + rm.cells ≤ R.cells) (hs : slots + rm.slots ≤ R.slots)
    {a : Addr} (E : Exa Z h a y.cls) {g : JFrame} (hg : g.method = m) (hsize : g.locals.size = c.maxLocals) {argsL rest : List Value} (hst : g.stack = argsL.reverse ++ .ref a :: rest) (has : (.ref a :: argsL).toArray = as') (hlen : ∀ sig, parseMethodDescriptor y.desc = some sig → argsL.length = sig.parameters.length)
    (hW : 2 * g.monitorRoom + (rest.map fun v => v.category).sum ≤ W) (hd : decode c.code g.pc = .ok (.invokevirtual idx, 3))
    (k : ∀ v T' L, Stand p l e R s m args below meth c T' (locs ++ L) (cells + rm.cells) (slots + rm.slots) → Q v T'.heap L → Go p e below K (T'.setTop { g with pc := g.pc + 3, stack := v.toList ++ rest })) : Go p e below K (T.setTop g) := by
  obtain ⟨cq, kq, qa, qb, qc⟩ := isOf hZ eT E
  obtain ⟨v, _, ⟨T', L', k', n'⟩, -, X', ⟨Lc, hQ, l1, y1, z1⟩, st⟩ := X.virtualBack hx (y := y) (z := y) hown (mvT hZ w1) (mvT hZ w2) (notFace_of_selects (args := #[]) (mvT hZ w6)) (mvT hZ w6) (mvT hZ w5) hy (backOf (W := W) hM hZ w4 w3 hf hl) qa qc hg hsize (Steps.refl _) hlen hst hW hd (fun _ _ => ⟨has, eT, hc, hs⟩)
  dsimp only [Pt.U, Pt.locs, Pt.cells, Pt.slots] at X' l1 y1 z1 st hQ
  subst l1 y1 z1
  exact go (fun t q => st.trans q) (k _ _ _ X' hQ)
end Calls
end Own
/-- a body that writes nothing: it returns r, the heap is what it was -/
def QP (r : Option Value) (h0 : Heap) (n0 : Nat) (v : Option Value) (h : Heap) (L : List Loc) : Prop := v = r ∧ Fr n0 L ∧ h = h0

def f1 (p1 : Int32) (p2 : Int32) (p3 : Int32) (p4 : Int32) (p5 : Int32) (p6 : Int32) (p7 : Int32) : Int32 := (if p1 = (0 : Int32) then p2 else (if p1 = (1 : Int32) then p3 else (if p1 = (2 : Int32) then p4 else (if p1 = (3 : Int32) then p5 else (if p1 = (4 : Int32) then p6 else (if p1 = (5 : Int32) then (-1 : Int32) else p7))))))
theorem d1_0 : decode method_2_code 0 = .ok (.iload_n 0, 1) := by decide +kernel
theorem d1_1 : decode method_2_code 1 = .ok (.ifCond .ne 5, 3) := by decide +kernel
theorem d1_4 : decode method_2_code 4 = .ok (.iload_n 1, 1) := by decide +kernel
theorem d1_5 : decode method_2_code 5 = .ok (.ireturn, 1) := by decide +kernel
theorem d1_6 : decode method_2_code 6 = .ok (.iload_n 0, 1) := by decide +kernel
theorem d1_7 : decode method_2_code 7 = .ok (.iconst 1, 1) := by decide +kernel
theorem d1_8 : decode method_2_code 8 = .ok (.if_icmp .ne 5, 3) := by decide +kernel
theorem d1_11 : decode method_2_code 11 = .ok (.iload_n 2, 1) := by decide +kernel
theorem d1_12 : decode method_2_code 12 = .ok (.ireturn, 1) := by decide +kernel
theorem d1_13 : decode method_2_code 13 = .ok (.iload_n 0, 1) := by decide +kernel
theorem d1_14 : decode method_2_code 14 = .ok (.iconst 2, 1) := by decide +kernel
theorem d1_15 : decode method_2_code 15 = .ok (.if_icmp .ne 5, 3) := by decide +kernel
theorem d1_18 : decode method_2_code 18 = .ok (.iload_n 3, 1) := by decide +kernel
theorem d1_19 : decode method_2_code 19 = .ok (.ireturn, 1) := by decide +kernel
theorem d1_20 : decode method_2_code 20 = .ok (.iload_n 0, 1) := by decide +kernel
theorem d1_21 : decode method_2_code 21 = .ok (.iconst 3, 1) := by decide +kernel
theorem d1_22 : decode method_2_code 22 = .ok (.if_icmp .ne 6, 3) := by decide +kernel
theorem d1_25 : decode method_2_code 25 = .ok (.iload 4, 2) := by decide +kernel
theorem d1_27 : decode method_2_code 27 = .ok (.ireturn, 1) := by decide +kernel
theorem d1_28 : decode method_2_code 28 = .ok (.iload_n 0, 1) := by decide +kernel
theorem d1_29 : decode method_2_code 29 = .ok (.iconst 4, 1) := by decide +kernel
theorem d1_30 : decode method_2_code 30 = .ok (.if_icmp .ne 6, 3) := by decide +kernel
theorem d1_33 : decode method_2_code 33 = .ok (.iload 5, 2) := by decide +kernel
theorem d1_35 : decode method_2_code 35 = .ok (.ireturn, 1) := by decide +kernel
theorem d1_36 : decode method_2_code 36 = .ok (.iload_n 0, 1) := by decide +kernel
theorem d1_37 : decode method_2_code 37 = .ok (.iconst 5, 1) := by decide +kernel
theorem d1_38 : decode method_2_code 38 = .ok (.if_icmp .ne 5, 3) := by decide +kernel
theorem d1_41 : decode method_2_code 41 = .ok (.iconst (-1), 1) := by decide +kernel
theorem d1_42 : decode method_2_code 42 = .ok (.ireturn, 1) := by decide +kernel
theorem d1_43 : decode method_2_code 43 = .ok (.iload 6, 2) := by decide +kernel
theorem d1_45 : decode method_2_code 45 = .ok (.ireturn, 1) := by decide +kernel
theorem pn_1 : plainName "com/example/triview/triview/VocabularyIsSchemaPropertyPinLaw" = true := by first | (simp [plainName, overriddenIn]; done) | decide +kernel
theorem ef_1 (m : MethodId) (x0 : Int32) (x1 : Int32) (x2 : Int32) (x3 : Int32) (x4 : Int32) (x5 : Int32) (x6 : Int32) : entryFrame m #[(.int x0), (.int x1), (.int x2), (.int x3), (.int x4), (.int x5), (.int x6)] 7 = mkF m 0 #[.val (.int x0), .val (.int x1), .val (.int x2), .val (.int x3), .val (.int x4), .val (.int x5), .val (.int x6)] [] := by first | (simp [entryFrame, mkF, argsToLocals, Value.category]; done) | rfl
set_option maxRecDepth 65536 in
set_option maxHeartbeats 40000000 in
theorem rm1 (l : Launch) (Z : State) (a0 : Array Value) (hw : ∀ d ∈ tables_1, d.before a0 Z = true) (ws : List Jvm.Cond) (p1 : Int32) (p2 : Int32) (p3 : Int32) (p4 : Int32) (p5 : Int32) (p6 : Int32) (p7 : Int32) (h0 : Heap) (n0 : Nat) :
    MetFree l (⟨"com/example/triview/triview/VocabularyIsSchemaPropertyPinLaw", "pick", "(IIIIIII)I"⟩ : MethodName) (head1 (Jvm.Cond.code (⟨"com/example/triview/triview/VocabularyIsSchemaPropertyPinLaw", "pick", "(IIIIIII)I"⟩ : MethodName) method_2_code 7 (some .int) :: ws) ({ frames := 0, cells := 0, slots := 0, locals := 0 } : Room)) (fun a U => a = #[(.int p1), (.int p2), (.int p3), (.int p4), (.int p5), (.int p6), (.int p7)] ∧ Z.Warmed39 U.vm ∧ U.heap = h0) (fun _ _ _ _ _ => True) (fun _ U o U' => ∃ v L, o = .returned v ∧ (QP (some (.int (f1 p1 p2 p3 p4 p5 p6 p7))) h0 n0) v U'.heap L ∧ FrameEnd U o U' L ({ frames := 0, cells := 0, slots := 0, locals := 0 } : Room).cells ({ frames := 0, cells := 0, slots := 0, locals := 0 } : Room).slots) := by
  refine own_met (plainFor_of_name pn_1) (fun m => ef_1 m p1 p2 p3 p4 p5 p6 p7) ?_
  intro p e s m below meth c T0 hx hby hml hown hnm hret hlk hZ X0 e0
  have hown : s.vm.findClass "com/example/triview/triview/VocabularyIsSchemaPropertyPinLaw" = some m.cls := hown
  have hnm : meth.name = "pick" := hnm
  have hret : meth.sig.returnType = some .int := hret
  have N0 := Fr.nil n0
  show Go p e below _ (T0.setTop (mkF m 0 #[.val (.int p1), .val (.int p2), .val (.int p3), .val (.int p4), .val (.int p5), .val (.int p6), .val (.int p7)] []))
  refine go (fun _ q => XS.iloadN X0.here hx rfl (hb hby d1_0) rfl q) ?_
  show Go p e below _ (T0.setTop (mkF m 1 #[.val (.int p1), .val (.int p2), .val (.int p3), .val (.int p4), .val (.int p5), .val (.int p6), .val (.int p7)] [(.int p1)]))
  by_cases hc1 : p1 = (0 : Int32)
  · refine go (fun _ q => XS.ifNo X0.here hx rfl (hb hby d1_1) rfl ((if0 _ _).trans (teq hc1).2) q) ?_
    show Go p e below _ (T0.setTop (mkF m 4 #[.val (.int p1), .val (.int p2), .val (.int p3), .val (.int p4), .val (.int p5), .val (.int p6), .val (.int p7)] []))
    refine go (fun _ q => XS.iloadN X0.here hx rfl (hb hby d1_4) rfl q) ?_
    show Go p e below _ (T0.setTop (mkF m 5 #[.val (.int p1), .val (.int p2), .val (.int p3), .val (.int p4), .val (.int p5), .val (.int p6), .val (.int p7)] [(.int p2)]))
    exact own_retI X0 hx hlk hret (hb hby d1_5) (by decide) (by decide) ⟨congrArg (fun z => some (Value.int z)) (by rw [f1, if_pos hc1]), N0, e0⟩
  · refine go (fun _ q => XS.ifYes X0.here hx rfl (pc0 := 1) (pc' := 6) rfl (hb hby d1_1) rfl ((if0 _ _).trans (feq hc1).2) (by decide) (by decide) q) ?_
    show Go p e below _ (T0.setTop (mkF m 6 #[.val (.int p1), .val (.int p2), .val (.int p3), .val (.int p4), .val (.int p5), .val (.int p6), .val (.int p7)] []))
    refine go (fun _ q => XS.iloadN X0.here hx rfl (hb hby d1_6) rfl q) ?_
    show Go p e below _ (T0.setTop (mkF m 7 #[.val (.int p1), .val (.int p2), .val (.int p3), .val (.int p4), .val (.int p5), .val (.int p6), .val (.int p7)] [(.int p1)]))
    refine go (fun _ q => XS.iconst X0.here hx rfl (hb hby d1_7) q) ?_
    show Go p e below _ (T0.setTop (mkF m 8 #[.val (.int p1), .val (.int p2), .val (.int p3), .val (.int p4), .val (.int p5), .val (.int p6), .val (.int p7)] [(.int (1 : Int32)), (.int p1)]))
    by_cases hc2 : p1 = (1 : Int32)
    · refine go (fun _ q => XS.icmpNo X0.here hx rfl (hb hby d1_8) rfl (teq hc2).2 q) ?_
      show Go p e below _ (T0.setTop (mkF m 11 #[.val (.int p1), .val (.int p2), .val (.int p3), .val (.int p4), .val (.int p5), .val (.int p6), .val (.int p7)] []))
      refine go (fun _ q => XS.iloadN X0.here hx rfl (hb hby d1_11) rfl q) ?_
      show Go p e below _ (T0.setTop (mkF m 12 #[.val (.int p1), .val (.int p2), .val (.int p3), .val (.int p4), .val (.int p5), .val (.int p6), .val (.int p7)] [(.int p3)]))
      exact own_retI X0 hx hlk hret (hb hby d1_12) (by decide) (by decide) ⟨congrArg (fun z => some (Value.int z)) (by rw [f1, if_neg hc1, if_pos hc2]), N0, e0⟩
    · refine go (fun _ q => XS.icmpYes X0.here hx rfl (pc0 := 8) (pc' := 13) rfl (hb hby d1_8) rfl (feq hc2).2 (by decide) (by decide) q) ?_
      show Go p e below _ (T0.setTop (mkF m 13 #[.val (.int p1), .val (.int p2), .val (.int p3), .val (.int p4), .val (.int p5), .val (.int p6), .val (.int p7)] []))
      refine go (fun _ q => XS.iloadN X0.here hx rfl (hb hby d1_13) rfl q) ?_
      show Go p e below _ (T0.setTop (mkF m 14 #[.val (.int p1), .val (.int p2), .val (.int p3), .val (.int p4), .val (.int p5), .val (.int p6), .val (.int p7)] [(.int p1)]))
      refine go (fun _ q => XS.iconst X0.here hx rfl (hb hby d1_14) q) ?_
      show Go p e below _ (T0.setTop (mkF m 15 #[.val (.int p1), .val (.int p2), .val (.int p3), .val (.int p4), .val (.int p5), .val (.int p6), .val (.int p7)] [(.int (2 : Int32)), (.int p1)]))
      by_cases hc3 : p1 = (2 : Int32)
      · refine go (fun _ q => XS.icmpNo X0.here hx rfl (hb hby d1_15) rfl (teq hc3).2 q) ?_
        show Go p e below _ (T0.setTop (mkF m 18 #[.val (.int p1), .val (.int p2), .val (.int p3), .val (.int p4), .val (.int p5), .val (.int p6), .val (.int p7)] []))
        refine go (fun _ q => XS.iloadN X0.here hx rfl (hb hby d1_18) rfl q) ?_
        show Go p e below _ (T0.setTop (mkF m 19 #[.val (.int p1), .val (.int p2), .val (.int p3), .val (.int p4), .val (.int p5), .val (.int p6), .val (.int p7)] [(.int p4)]))
        exact own_retI X0 hx hlk hret (hb hby d1_19) (by decide) (by decide) ⟨congrArg (fun z => some (Value.int z)) (by rw [f1, if_neg hc1, if_neg hc2, if_pos hc3]), N0, e0⟩
      · refine go (fun _ q => XS.icmpYes X0.here hx rfl (pc0 := 15) (pc' := 20) rfl (hb hby d1_15) rfl (feq hc3).2 (by decide) (by decide) q) ?_
        show Go p e below _ (T0.setTop (mkF m 20 #[.val (.int p1), .val (.int p2), .val (.int p3), .val (.int p4), .val (.int p5), .val (.int p6), .val (.int p7)] []))
        refine go (fun _ q => XS.iloadN X0.here hx rfl (hb hby d1_20) rfl q) ?_
        show Go p e below _ (T0.setTop (mkF m 21 #[.val (.int p1), .val (.int p2), .val (.int p3), .val (.int p4), .val (.int p5), .val (.int p6), .val (.int p7)] [(.int p1)]))
        refine go (fun _ q => XS.iconst X0.here hx rfl (hb hby d1_21) q) ?_
        show Go p e below _ (T0.setTop (mkF m 22 #[.val (.int p1), .val (.int p2), .val (.int p3), .val (.int p4), .val (.int p5), .val (.int p6), .val (.int p7)] [(.int (3 : Int32)), (.int p1)]))
        by_cases hc4 : p1 = (3 : Int32)
        · refine go (fun _ q => XS.icmpNo X0.here hx rfl (hb hby d1_22) rfl (teq hc4).2 q) ?_
          show Go p e below _ (T0.setTop (mkF m 25 #[.val (.int p1), .val (.int p2), .val (.int p3), .val (.int p4), .val (.int p5), .val (.int p6), .val (.int p7)] []))
          refine go (fun _ q => XS.iload X0.here hx rfl (hb hby d1_25) rfl q) ?_
          show Go p e below _ (T0.setTop (mkF m 27 #[.val (.int p1), .val (.int p2), .val (.int p3), .val (.int p4), .val (.int p5), .val (.int p6), .val (.int p7)] [(.int p5)]))
          exact own_retI X0 hx hlk hret (hb hby d1_27) (by decide) (by decide) ⟨congrArg (fun z => some (Value.int z)) (by rw [f1, if_neg hc1, if_neg hc2, if_neg hc3, if_pos hc4]), N0, e0⟩
        · refine go (fun _ q => XS.icmpYes X0.here hx rfl (pc0 := 22) (pc' := 28) rfl (hb hby d1_22) rfl (feq hc4).2 (by decide) (by decide) q) ?_
          show Go p e below _ (T0.setTop (mkF m 28 #[.val (.int p1), .val (.int p2), .val (.int p3), .val (.int p4), .val (.int p5), .val (.int p6), .val (.int p7)] []))
          refine go (fun _ q => XS.iloadN X0.here hx rfl (hb hby d1_28) rfl q) ?_
          show Go p e below _ (T0.setTop (mkF m 29 #[.val (.int p1), .val (.int p2), .val (.int p3), .val (.int p4), .val (.int p5), .val (.int p6), .val (.int p7)] [(.int p1)]))
          refine go (fun _ q => XS.iconst X0.here hx rfl (hb hby d1_29) q) ?_
          show Go p e below _ (T0.setTop (mkF m 30 #[.val (.int p1), .val (.int p2), .val (.int p3), .val (.int p4), .val (.int p5), .val (.int p6), .val (.int p7)] [(.int (4 : Int32)), (.int p1)]))
          by_cases hc5 : p1 = (4 : Int32)
          · refine go (fun _ q => XS.icmpNo X0.here hx rfl (hb hby d1_30) rfl (teq hc5).2 q) ?_
            show Go p e below _ (T0.setTop (mkF m 33 #[.val (.int p1), .val (.int p2), .val (.int p3), .val (.int p4), .val (.int p5), .val (.int p6), .val (.int p7)] []))
            refine go (fun _ q => XS.iload X0.here hx rfl (hb hby d1_33) rfl q) ?_
            show Go p e below _ (T0.setTop (mkF m 35 #[.val (.int p1), .val (.int p2), .val (.int p3), .val (.int p4), .val (.int p5), .val (.int p6), .val (.int p7)] [(.int p6)]))
            exact own_retI X0 hx hlk hret (hb hby d1_35) (by decide) (by decide) ⟨congrArg (fun z => some (Value.int z)) (by rw [f1, if_neg hc1, if_neg hc2, if_neg hc3, if_neg hc4, if_pos hc5]), N0, e0⟩
          · refine go (fun _ q => XS.icmpYes X0.here hx rfl (pc0 := 30) (pc' := 36) rfl (hb hby d1_30) rfl (feq hc5).2 (by decide) (by decide) q) ?_
            show Go p e below _ (T0.setTop (mkF m 36 #[.val (.int p1), .val (.int p2), .val (.int p3), .val (.int p4), .val (.int p5), .val (.int p6), .val (.int p7)] []))
            refine go (fun _ q => XS.iloadN X0.here hx rfl (hb hby d1_36) rfl q) ?_
            show Go p e below _ (T0.setTop (mkF m 37 #[.val (.int p1), .val (.int p2), .val (.int p3), .val (.int p4), .val (.int p5), .val (.int p6), .val (.int p7)] [(.int p1)]))
            refine go (fun _ q => XS.iconst X0.here hx rfl (hb hby d1_37) q) ?_
            show Go p e below _ (T0.setTop (mkF m 38 #[.val (.int p1), .val (.int p2), .val (.int p3), .val (.int p4), .val (.int p5), .val (.int p6), .val (.int p7)] [(.int (5 : Int32)), (.int p1)]))
            by_cases hc6 : p1 = (5 : Int32)
            · refine go (fun _ q => XS.icmpNo X0.here hx rfl (hb hby d1_38) rfl (teq hc6).2 q) ?_
              show Go p e below _ (T0.setTop (mkF m 41 #[.val (.int p1), .val (.int p2), .val (.int p3), .val (.int p4), .val (.int p5), .val (.int p6), .val (.int p7)] []))
              refine go (fun _ q => XS.iconst X0.here hx rfl (hb hby d1_41) q) ?_
              show Go p e below _ (T0.setTop (mkF m 42 #[.val (.int p1), .val (.int p2), .val (.int p3), .val (.int p4), .val (.int p5), .val (.int p6), .val (.int p7)] [(.int (-1 : Int32))]))
              exact own_retI X0 hx hlk hret (hb hby d1_42) (by decide) (by decide) ⟨congrArg (fun z => some (Value.int z)) (by rw [f1, if_neg hc1, if_neg hc2, if_neg hc3, if_neg hc4, if_neg hc5, if_pos hc6]), N0, e0⟩
            · refine go (fun _ q => XS.icmpYes X0.here hx rfl (pc0 := 38) (pc' := 43) rfl (hb hby d1_38) rfl (feq hc6).2 (by decide) (by decide) q) ?_
              show Go p e below _ (T0.setTop (mkF m 43 #[.val (.int p1), .val (.int p2), .val (.int p3), .val (.int p4), .val (.int p5), .val (.int p6), .val (.int p7)] []))
              refine go (fun _ q => XS.iload X0.here hx rfl (hb hby d1_43) rfl q) ?_
              show Go p e below _ (T0.setTop (mkF m 45 #[.val (.int p1), .val (.int p2), .val (.int p3), .val (.int p4), .val (.int p5), .val (.int p6), .val (.int p7)] [(.int p7)]))
              exact own_retI X0 hx hlk hret (hb hby d1_45) (by decide) (by decide) ⟨congrArg (fun z => some (Value.int z)) (by rw [f1, if_neg hc1, if_neg hc2, if_neg hc3, if_neg hc4, if_neg hc5, if_neg hc6]), N0, e0⟩
theorem d3_0 : decode jdk_30_method_1_code 0 = .ok (.aload_n 0, 1) := by decide +kernel
theorem d3_1 : decode jdk_30_method_1_code 1 = .ok (.invokespecial 1, 3) := by decide +kernel
theorem d3_4 : decode jdk_30_method_1_code 4 = .ok (.return_, 1) := by decide +kernel
theorem pn_3 : plainName "java/lang/Record" = true := by first | (simp [plainName, overriddenIn]; done) | decide +kernel
theorem ef_3 (m : MethodId) (x0 : Addr) : entryFrame m #[(.ref x0)] 1 = mkF m 0 #[.val (.ref x0)] [] := by first | (simp [entryFrame, mkF, argsToLocals, Value.category]; done) | rfl
set_option maxRecDepth 65536 in
set_option maxHeartbeats 40000000 in
theorem rm3 (l : Launch) (Z : State) (a0 : Array Value) (hw : ∀ d ∈ tables_1, d.before a0 Z = true) (ws : List Jvm.Cond) (a1 : Addr) (h0 : Heap) (n0 : Nat) :
    MetFree l (⟨"java/lang/Record", "<init>", "()V"⟩ : MethodName) (head1 (Jvm.Cond.code (⟨"java/lang/Record", "<init>", "()V"⟩ : MethodName) jdk_30_method_1_code 1 none :: ws) ({ frames := 1, cells := 0, slots := 0, locals := 12 } : Room)) (fun a U => a = #[(.ref a1)] ∧ Z.Warmed39 U.vm ∧ U.heap = h0) (fun _ _ _ _ _ => True) (fun _ U o U' => ∃ v L, o = .returned v ∧ (QP none h0 n0) v U'.heap L ∧ FrameEnd U o U' L ({ frames := 1, cells := 0, slots := 0, locals := 12 } : Room).cells ({ frames := 1, cells := 0, slots := 0, locals := 12 } : Room).slots) := by
  refine own_met (plainFor_of_name pn_3) (fun m => ef_3 m a1) ?_
  intro p e s m below meth c T0 hx hby hml hown hnm hret hlk hZ X0 e0
  have hown : s.vm.findClass "java/lang/Record" = some m.cls := hown
  have hnm : meth.name = "<init>" := hnm
  have hret : meth.sig.returnType = none := hret
  have N0 := Fr.nil n0
  show Go p e below _ (T0.setTop (mkF m 0 #[.val (.ref a1)] []))
  refine go (fun _ q => XS.aloadN X0.here hx rfl (hb hby d3_0) rfl rfl q) ?_
  show Go p e below _ (T0.setTop (mkF m 1 #[.val (.ref a1)] [(.ref a1)]))
  obtain ⟨T1, X1, e1, st1⟩ := initO X0 hx hZ hown (hw _ (List.mem_of_getElem? (i := 15) rfl)) (hw _ (List.mem_of_getElem? (i := 16) rfl)) (hw _ (List.mem_of_getElem? (i := 17) rfl)) e0 (g := (mkF m 1 #[.val (.ref a1)] [(.ref a1)])) rfl (by rw [hml]; rfl) rfl (hb hby d3_1) (by decide) (W := 0) (by show 2 * 0 + _ ≤ _; exact Nat.le_of_eq rfl) (by decide)
  refine go st1 ?_
  show Go p e below _ (T1.setTop (mkF m 4 #[.val (.ref a1)] []))
  exact own_retV X1 hx hlk hret (hb hby d3_4) (by decide) (by decide) ⟨rfl, N0, e1⟩
def Q2 (Z : State) (a1 : Addr) (p2 : Int32) (p3 : Int32) (p4 : Int32) (p5 : Int32) (p6 : Int32) (h0 : Heap) (n0 : Nat) (v : Option Value) (h : Heap) (L : List Loc) : Prop := v = none ∧ Fr n0 L ∧ Keep h0 h [a1] ∧ Exa Z h a1 "com/example/triview/triview/Vocabulary" ∧ Fld Z h a1 "com/example/triview/triview/Vocabulary" "type" "I" (.int p2) ∧ Fld Z h a1 "com/example/triview/triview/Vocabulary" "subClassOf" "I" (.int p3) ∧ Fld Z h a1 "com/example/triview/triview/Vocabulary" "subPropertyOf" "I" (.int p4) ∧ Fld Z h a1 "com/example/triview/triview/Vocabulary" "domain" "I" (.int p5) ∧ Fld Z h a1 "com/example/triview/triview/Vocabulary" "range" "I" (.int p6)
theorem d2_0 : decode prog_54_method_1_code 0 = .ok (.aload_n 0, 1) := by decide +kernel
theorem d2_1 : decode prog_54_method_1_code 1 = .ok (.invokespecial 1, 3) := by decide +kernel
theorem d2_4 : decode prog_54_method_1_code 4 = .ok (.aload_n 0, 1) := by decide +kernel
theorem d2_5 : decode prog_54_method_1_code 5 = .ok (.iload_n 1, 1) := by decide +kernel
theorem d2_6 : decode prog_54_method_1_code 6 = .ok (.putfield 7, 3) := by decide +kernel
theorem d2_9 : decode prog_54_method_1_code 9 = .ok (.aload_n 0, 1) := by decide +kernel
theorem d2_10 : decode prog_54_method_1_code 10 = .ok (.iload_n 2, 1) := by decide +kernel
theorem d2_11 : decode prog_54_method_1_code 11 = .ok (.putfield 13, 3) := by decide +kernel
theorem d2_14 : decode prog_54_method_1_code 14 = .ok (.aload_n 0, 1) := by decide +kernel
theorem d2_15 : decode prog_54_method_1_code 15 = .ok (.iload_n 3, 1) := by decide +kernel
theorem d2_16 : decode prog_54_method_1_code 16 = .ok (.putfield 16, 3) := by decide +kernel
theorem d2_19 : decode prog_54_method_1_code 19 = .ok (.aload_n 0, 1) := by decide +kernel
theorem d2_20 : decode prog_54_method_1_code 20 = .ok (.iload 4, 2) := by decide +kernel
theorem d2_22 : decode prog_54_method_1_code 22 = .ok (.putfield 19, 3) := by decide +kernel
theorem d2_25 : decode prog_54_method_1_code 25 = .ok (.aload_n 0, 1) := by decide +kernel
theorem d2_26 : decode prog_54_method_1_code 26 = .ok (.iload 5, 2) := by decide +kernel
theorem d2_28 : decode prog_54_method_1_code 28 = .ok (.putfield 22, 3) := by decide +kernel
theorem d2_31 : decode prog_54_method_1_code 31 = .ok (.return_, 1) := by decide +kernel
theorem pd_2_0 : parseMethodDescriptor "()V" = some ⟨[], none⟩ := by decide +kernel
theorem pn_2 : plainName "com/example/triview/triview/Vocabulary" = true := by first | (simp [plainName, overriddenIn]; done) | decide +kernel
theorem ef_2 (m : MethodId) (x0 : Addr) (x1 : Int32) (x2 : Int32) (x3 : Int32) (x4 : Int32) (x5 : Int32) : entryFrame m #[(.ref x0), (.int x1), (.int x2), (.int x3), (.int x4), (.int x5)] 6 = mkF m 0 #[.val (.ref x0), .val (.int x1), .val (.int x2), .val (.int x3), .val (.int x4), .val (.int x5)] [] := by first | (simp [entryFrame, mkF, argsToLocals, Value.category]; done) | rfl
set_option maxRecDepth 65536 in
set_option maxHeartbeats 40000000 in
theorem rm2 (l : Launch) (Z : State) (a0 : Array Value) (hw : ∀ d ∈ tables_1, d.before a0 Z = true) (ws : List Jvm.Cond) (a1 : Addr) (p2 : Int32) (p3 : Int32) (p4 : Int32) (p5 : Int32) (p6 : Int32) (h0 : Heap) (n0 : Nat) {u_type u_subClassOf u_subPropertyOf u_domain u_range : Value} (Z0 : n0 ≤ h0.size) (g_a1 : n0 ≤ a1) (E_a1 : Exa Z h0 a1 "com/example/triview/triview/Vocabulary") (F_type_a1 : Fld Z h0 a1 "com/example/triview/triview/Vocabulary" "type" "I" u_type) (F_subClassOf_a1 : Fld Z h0 a1 "com/example/triview/triview/Vocabulary" "subClassOf" "I" u_subClassOf) (F_subPropertyOf_a1 : Fld Z h0 a1 "com/example/triview/triview/Vocabulary" "subPropertyOf" "I" u_subPropertyOf) (F_domain_a1 : Fld Z h0 a1 "com/example/triview/triview/Vocabulary" "domain" "I" u_domain) (F_range_a1 : Fld Z h0 a1 "com/example/triview/triview/Vocabulary" "range" "I" u_range) :
    MetFree l (⟨"com/example/triview/triview/Vocabulary", "<init>", "(IIIII)V"⟩ : MethodName) (head1 (Jvm.Cond.code (⟨"com/example/triview/triview/Vocabulary", "<init>", "(IIIII)V"⟩ : MethodName) prog_54_method_1_code 6 none :: ws) ({ frames := 2, cells := 0, slots := 0, locals := 24 } : Room)) (fun a U => a = #[(.ref a1), (.int p2), (.int p3), (.int p4), (.int p5), (.int p6)] ∧ Z.Warmed39 U.vm ∧ U.heap = h0) (fun _ _ _ _ _ => True) (fun _ U o U' => ∃ v L, o = .returned v ∧ (Q2 Z a1 p2 p3 p4 p5 p6 h0 n0) v U'.heap L ∧ FrameEnd U o U' L ({ frames := 2, cells := 0, slots := 0, locals := 24 } : Room).cells ({ frames := 2, cells := 0, slots := 0, locals := 24 } : Room).slots) := by
  refine own_met (plainFor_of_name pn_2) (fun m => ef_2 m a1 p2 p3 p4 p5 p6) ?_
  intro p e s m below meth c T0 hx hby hml hown hnm hret hlk hZ X0 e0
  have hown : s.vm.findClass "com/example/triview/triview/Vocabulary" = some m.cls := hown
  have hnm : meth.name = "<init>" := hnm
  have hret : meth.sig.returnType = none := hret
  have N0 := Fr.nil n0
  show Go p e below _ (T0.setTop (mkF m 0 #[.val (.ref a1), .val (.int p2), .val (.int p3), .val (.int p4), .val (.int p5), .val (.int p6)] []))
  refine go (fun _ q => XS.aloadN X0.here hx rfl (hb hby d2_0) rfl rfl q) ?_
  show Go p e below _ (T0.setTop (mkF m 1 #[.val (.ref a1), .val (.int p2), .val (.int p3), .val (.int p4), .val (.int p5), .val (.int p6)] [(.ref a1)]))
  refine own_callC X0 hx hZ hown e0 (hw _ (List.mem_of_getElem? (i := 10) rfl)) (hw _ (List.mem_of_getElem? (i := 11) rfl)) (hw _ (List.mem_of_getElem? (i := 13) rfl)) (hw _ (List.mem_of_getElem? (i := 14) rfl)) (rm3 l Z a0 hw [] a1 h0 n0) rfl (by decide) (by decide) (W := 0) (by decide) (by decide) (by decide) (a := a1) (g := (mkF m 1 #[.val (.ref a1), .val (.int p2), .val (.int p3), .val (.int p4), .val (.int p5), .val (.int p6)] [(.ref a1)])) rfl (by rw [hml]; rfl) (argsL := []) (rest := []) rfl rfl (lenOf pd_2_0 rfl) (by show 2 * 0 + _ ≤ _; exact Nat.le_of_eq rfl) (hb hby d2_1) ?_
  rintro _ T1 L1 X1 ⟨rfl, N1q, e1⟩
  have N1 := Fr.app N0 N1q
  show Go p e below _ (T1.setTop (mkF m 4 #[.val (.ref a1), .val (.int p2), .val (.int p3), .val (.int p4), .val (.int p5), .val (.int p6)] []))
  refine go (fun _ q => XS.aloadN X1.here hx rfl (hb hby d2_4) rfl rfl q) ?_
  show Go p e below _ (T1.setTop (mkF m 5 #[.val (.ref a1), .val (.int p2), .val (.int p3), .val (.int p4), .val (.int p5), .val (.int p6)] [(.ref a1)]))
  refine go (fun _ q => XS.iloadN X1.here hx rfl (hb hby d2_5) rfl q) ?_
  show Go p e below _ (T1.setTop (mkF m 6 #[.val (.ref a1), .val (.int p2), .val (.int p3), .val (.int p4), .val (.int p5), .val (.int p6)] [(.int p2), (.ref a1)]))
  obtain ⟨T2, h2, X2, e2, W2, st2⟩ := putF X1 hx hZ hown (host := "") (Or.inl (hw _ (List.mem_of_getElem? (i := 18) rfl))) Via.refl e1 F_type_a1 E_a1 (Or.inr ⟨(hw _ (List.mem_of_getElem? (i := 19) rfl)), rfl, hnm⟩) (hw _ (List.mem_of_getElem? (i := 5) rfl)) (ty := .int) (by decide) rfl rfl (g := (mkF m 6 #[.val (.ref a1), .val (.int p2), .val (.int p3), .val (.int p4), .val (.int p5), .val (.int p6)] [(.int p2), (.ref a1)])) rfl rfl (hb hby d2_6)
  refine go st2 ?_
  have F_type_a1_2 : Fld Z h2 a1 "com/example/triview/triview/Vocabulary" "type" "I" (.int p2) := F_type_a1.same W2
  have E_a1_3 : Exa Z h2 a1 "com/example/triview/triview/Vocabulary" := E_a1.wr W2
  have F_subClassOf_a1_4 : Fld Z h2 a1 "com/example/triview/triview/Vocabulary" "subClassOf" "I" u_subClassOf := F_subClassOf_a1.other W2 (Or.inr (slot_ne (Or.inr (hw _ (List.mem_of_getElem? (i := 21) rfl))) (Or.inr (hw _ (List.mem_of_getElem? (i := 19) rfl))) (by decide) (t := .int) (t' := .int) (by decide) (by decide)))
  have F_subPropertyOf_a1_5 : Fld Z h2 a1 "com/example/triview/triview/Vocabulary" "subPropertyOf" "I" u_subPropertyOf := F_subPropertyOf_a1.other W2 (Or.inr (slot_ne (Or.inr (hw _ (List.mem_of_getElem? (i := 23) rfl))) (Or.inr (hw _ (List.mem_of_getElem? (i := 19) rfl))) (by decide) (t := .int) (t' := .int) (by decide) (by decide)))
  have F_domain_a1_6 : Fld Z h2 a1 "com/example/triview/triview/Vocabulary" "domain" "I" u_domain := F_domain_a1.other W2 (Or.inr (slot_ne (Or.inr (hw _ (List.mem_of_getElem? (i := 25) rfl))) (Or.inr (hw _ (List.mem_of_getElem? (i := 19) rfl))) (by decide) (t := .int) (t' := .int) (by decide) (by decide)))
  have F_range_a1_7 : Fld Z h2 a1 "com/example/triview/triview/Vocabulary" "range" "I" u_range := F_range_a1.other W2 (Or.inr (slot_ne (Or.inr (hw _ (List.mem_of_getElem? (i := 27) rfl))) (Or.inr (hw _ (List.mem_of_getElem? (i := 19) rfl))) (by decide) (t := .int) (t' := .int) (by decide) (by decide)))
  have N2 := Fr.snoc X2 N1 g_a1
  have K2 : Keep h0 h2 [a1] := (Keep.refl h0 [a1]).wr W2 (Or.inl (List.mem_of_getElem? (i := 0) rfl))
  have Z2 : n0 ≤ h2.size := Nat.le_trans Z0 (Nat.le_of_eq W2.size.symm)
  show Go p e below _ (T2.setTop (mkF m 9 #[.val (.ref a1), .val (.int p2), .val (.int p3), .val (.int p4), .val (.int p5), .val (.int p6)] []))
  refine go (fun _ q => XS.aloadN X2.here hx rfl (hb hby d2_9) rfl rfl q) ?_
  show Go p e below _ (T2.setTop (mkF m 10 #[.val (.ref a1), .val (.int p2), .val (.int p3), .val (.int p4), .val (.int p5), .val (.int p6)] [(.ref a1)]))
  refine go (fun _ q => XS.iloadN X2.here hx rfl (hb hby d2_10) rfl q) ?_
  show Go p e below _ (T2.setTop (mkF m 11 #[.val (.ref a1), .val (.int p2), .val (.int p3), .val (.int p4), .val (.int p5), .val (.int p6)] [(.int p3), (.ref a1)]))
  obtain ⟨T8, h8, X8, e8, W8, st8⟩ := putF X2 hx hZ hown (host := "") (Or.inl (hw _ (List.mem_of_getElem? (i := 20) rfl))) Via.refl e2 F_subClassOf_a1_4 E_a1_3 (Or.inr ⟨(hw _ (List.mem_of_getElem? (i := 21) rfl)), rfl, hnm⟩) (hw _ (List.mem_of_getElem? (i := 5) rfl)) (ty := .int) (by decide) rfl rfl (g := (mkF m 11 #[.val (.ref a1), .val (.int p2), .val (.int p3), .val (.int p4), .val (.int p5), .val (.int p6)] [(.int p3), (.ref a1)])) rfl rfl (hb hby d2_11)
  refine go st8 ?_
  have F_subClassOf_a1_8 : Fld Z h8 a1 "com/example/triview/triview/Vocabulary" "subClassOf" "I" (.int p3) := F_subClassOf_a1_4.same W8
  have E_a1_9 : Exa Z h8 a1 "com/example/triview/triview/Vocabulary" := E_a1_3.wr W8
  have F_type_a1_10 : Fld Z h8 a1 "com/example/triview/triview/Vocabulary" "type" "I" (.int p2) := F_type_a1_2.other W8 (Or.inr (slot_ne (Or.inr (hw _ (List.mem_of_getElem? (i := 19) rfl))) (Or.inr (hw _ (List.mem_of_getElem? (i := 21) rfl))) (by decide) (t := .int) (t' := .int) (by decide) (by decide)))
  have F_subPropertyOf_a1_11 : Fld Z h8 a1 "com/example/triview/triview/Vocabulary" "subPropertyOf" "I" u_subPropertyOf := F_subPropertyOf_a1_5.other W8 (Or.inr (slot_ne (Or.inr (hw _ (List.mem_of_getElem? (i := 23) rfl))) (Or.inr (hw _ (List.mem_of_getElem? (i := 21) rfl))) (by decide) (t := .int) (t' := .int) (by decide) (by decide)))
  have F_domain_a1_12 : Fld Z h8 a1 "com/example/triview/triview/Vocabulary" "domain" "I" u_domain := F_domain_a1_6.other W8 (Or.inr (slot_ne (Or.inr (hw _ (List.mem_of_getElem? (i := 25) rfl))) (Or.inr (hw _ (List.mem_of_getElem? (i := 21) rfl))) (by decide) (t := .int) (t' := .int) (by decide) (by decide)))
  have F_range_a1_13 : Fld Z h8 a1 "com/example/triview/triview/Vocabulary" "range" "I" u_range := F_range_a1_7.other W8 (Or.inr (slot_ne (Or.inr (hw _ (List.mem_of_getElem? (i := 27) rfl))) (Or.inr (hw _ (List.mem_of_getElem? (i := 21) rfl))) (by decide) (t := .int) (t' := .int) (by decide) (by decide)))
  have N8 := Fr.snoc X8 N2 g_a1
  have K8 : Keep h0 h8 [a1] := K2.wr W8 (Or.inl (List.mem_of_getElem? (i := 0) rfl))
  have Z8 : n0 ≤ h8.size := Nat.le_trans Z2 (Nat.le_of_eq W8.size.symm)
  show Go p e below _ (T8.setTop (mkF m 14 #[.val (.ref a1), .val (.int p2), .val (.int p3), .val (.int p4), .val (.int p5), .val (.int p6)] []))
  refine go (fun _ q => XS.aloadN X8.here hx rfl (hb hby d2_14) rfl rfl q) ?_
  show Go p e below _ (T8.setTop (mkF m 15 #[.val (.ref a1), .val (.int p2), .val (.int p3), .val (.int p4), .val (.int p5), .val (.int p6)] [(.ref a1)]))
  refine go (fun _ q => XS.iloadN X8.here hx rfl (hb hby d2_15) rfl q) ?_
  show Go p e below _ (T8.setTop (mkF m 16 #[.val (.ref a1), .val (.int p2), .val (.int p3), .val (.int p4), .val (.int p5), .val (.int p6)] [(.int p4), (.ref a1)]))
  obtain ⟨T14, h14, X14, e14, W14, st14⟩ := putF X8 hx hZ hown (host := "") (Or.inl (hw _ (List.mem_of_getElem? (i := 22) rfl))) Via.refl e8 F_subPropertyOf_a1_11 E_a1_9 (Or.inr ⟨(hw _ (List.mem_of_getElem? (i := 23) rfl)), rfl, hnm⟩) (hw _ (List.mem_of_getElem? (i := 5) rfl)) (ty := .int) (by decide) rfl rfl (g := (mkF m 16 #[.val (.ref a1), .val (.int p2), .val (.int p3), .val (.int p4), .val (.int p5), .val (.int p6)] [(.int p4), (.ref a1)])) rfl rfl (hb hby d2_16)
  refine go st14 ?_
  have F_subPropertyOf_a1_14 : Fld Z h14 a1 "com/example/triview/triview/Vocabulary" "subPropertyOf" "I" (.int p4) := F_subPropertyOf_a1_11.same W14
  have E_a1_15 : Exa Z h14 a1 "com/example/triview/triview/Vocabulary" := E_a1_9.wr W14
  have F_type_a1_16 : Fld Z h14 a1 "com/example/triview/triview/Vocabulary" "type" "I" (.int p2) := F_type_a1_10.other W14 (Or.inr (slot_ne (Or.inr (hw _ (List.mem_of_getElem? (i := 19) rfl))) (Or.inr (hw _ (List.mem_of_getElem? (i := 23) rfl))) (by decide) (t := .int) (t' := .int) (by decide) (by decide)))
  have F_subClassOf_a1_17 : Fld Z h14 a1 "com/example/triview/triview/Vocabulary" "subClassOf" "I" (.int p3) := F_subClassOf_a1_8.other W14 (Or.inr (slot_ne (Or.inr (hw _ (List.mem_of_getElem? (i := 21) rfl))) (Or.inr (hw _ (List.mem_of_getElem? (i := 23) rfl))) (by decide) (t := .int) (t' := .int) (by decide) (by decide)))
  have F_domain_a1_18 : Fld Z h14 a1 "com/example/triview/triview/Vocabulary" "domain" "I" u_domain := F_domain_a1_12.other W14 (Or.inr (slot_ne (Or.inr (hw _ (List.mem_of_getElem? (i := 25) rfl))) (Or.inr (hw _ (List.mem_of_getElem? (i := 23) rfl))) (by decide) (t := .int) (t' := .int) (by decide) (by decide)))
  have F_range_a1_19 : Fld Z h14 a1 "com/example/triview/triview/Vocabulary" "range" "I" u_range := F_range_a1_13.other W14 (Or.inr (slot_ne (Or.inr (hw _ (List.mem_of_getElem? (i := 27) rfl))) (Or.inr (hw _ (List.mem_of_getElem? (i := 23) rfl))) (by decide) (t := .int) (t' := .int) (by decide) (by decide)))
  have N14 := Fr.snoc X14 N8 g_a1
  have K14 : Keep h0 h14 [a1] := K8.wr W14 (Or.inl (List.mem_of_getElem? (i := 0) rfl))
  have Z14 : n0 ≤ h14.size := Nat.le_trans Z8 (Nat.le_of_eq W14.size.symm)
  show Go p e below _ (T14.setTop (mkF m 19 #[.val (.ref a1), .val (.int p2), .val (.int p3), .val (.int p4), .val (.int p5), .val (.int p6)] []))
  refine go (fun _ q => XS.aloadN X14.here hx rfl (hb hby d2_19) rfl rfl q) ?_
  show Go p e below _ (T14.setTop (mkF m 20 #[.val (.ref a1), .val (.int p2), .val (.int p3), .val (.int p4), .val (.int p5), .val (.int p6)] [(.ref a1)]))
  refine go (fun _ q => XS.iload X14.here hx rfl (hb hby d2_20) rfl q) ?_
  show Go p e below _ (T14.setTop (mkF m 22 #[.val (.ref a1), .val (.int p2), .val (.int p3), .val (.int p4), .val (.int p5), .val (.int p6)] [(.int p5), (.ref a1)]))
  obtain ⟨T20, h20, X20, e20, W20, st20⟩ := putF X14 hx hZ hown (host := "") (Or.inl (hw _ (List.mem_of_getElem? (i := 24) rfl))) Via.refl e14 F_domain_a1_18 E_a1_15 (Or.inr ⟨(hw _ (List.mem_of_getElem? (i := 25) rfl)), rfl, hnm⟩) (hw _ (List.mem_of_getElem? (i := 5) rfl)) (ty := .int) (by decide) rfl rfl (g := (mkF m 22 #[.val (.ref a1), .val (.int p2), .val (.int p3), .val (.int p4), .val (.int p5), .val (.int p6)] [(.int p5), (.ref a1)])) rfl rfl (hb hby d2_22)
  refine go st20 ?_
  have F_domain_a1_20 : Fld Z h20 a1 "com/example/triview/triview/Vocabulary" "domain" "I" (.int p5) := F_domain_a1_18.same W20
  have E_a1_21 : Exa Z h20 a1 "com/example/triview/triview/Vocabulary" := E_a1_15.wr W20
  have F_type_a1_22 : Fld Z h20 a1 "com/example/triview/triview/Vocabulary" "type" "I" (.int p2) := F_type_a1_16.other W20 (Or.inr (slot_ne (Or.inr (hw _ (List.mem_of_getElem? (i := 19) rfl))) (Or.inr (hw _ (List.mem_of_getElem? (i := 25) rfl))) (by decide) (t := .int) (t' := .int) (by decide) (by decide)))
  have F_subClassOf_a1_23 : Fld Z h20 a1 "com/example/triview/triview/Vocabulary" "subClassOf" "I" (.int p3) := F_subClassOf_a1_17.other W20 (Or.inr (slot_ne (Or.inr (hw _ (List.mem_of_getElem? (i := 21) rfl))) (Or.inr (hw _ (List.mem_of_getElem? (i := 25) rfl))) (by decide) (t := .int) (t' := .int) (by decide) (by decide)))
  have F_subPropertyOf_a1_24 : Fld Z h20 a1 "com/example/triview/triview/Vocabulary" "subPropertyOf" "I" (.int p4) := F_subPropertyOf_a1_14.other W20 (Or.inr (slot_ne (Or.inr (hw _ (List.mem_of_getElem? (i := 23) rfl))) (Or.inr (hw _ (List.mem_of_getElem? (i := 25) rfl))) (by decide) (t := .int) (t' := .int) (by decide) (by decide)))
  have F_range_a1_25 : Fld Z h20 a1 "com/example/triview/triview/Vocabulary" "range" "I" u_range := F_range_a1_19.other W20 (Or.inr (slot_ne (Or.inr (hw _ (List.mem_of_getElem? (i := 27) rfl))) (Or.inr (hw _ (List.mem_of_getElem? (i := 25) rfl))) (by decide) (t := .int) (t' := .int) (by decide) (by decide)))
  have N20 := Fr.snoc X20 N14 g_a1
  have K20 : Keep h0 h20 [a1] := K14.wr W20 (Or.inl (List.mem_of_getElem? (i := 0) rfl))
  have Z20 : n0 ≤ h20.size := Nat.le_trans Z14 (Nat.le_of_eq W20.size.symm)
  show Go p e below _ (T20.setTop (mkF m 25 #[.val (.ref a1), .val (.int p2), .val (.int p3), .val (.int p4), .val (.int p5), .val (.int p6)] []))
  refine go (fun _ q => XS.aloadN X20.here hx rfl (hb hby d2_25) rfl rfl q) ?_
  show Go p e below _ (T20.setTop (mkF m 26 #[.val (.ref a1), .val (.int p2), .val (.int p3), .val (.int p4), .val (.int p5), .val (.int p6)] [(.ref a1)]))
  refine go (fun _ q => XS.iload X20.here hx rfl (hb hby d2_26) rfl q) ?_
  show Go p e below _ (T20.setTop (mkF m 28 #[.val (.ref a1), .val (.int p2), .val (.int p3), .val (.int p4), .val (.int p5), .val (.int p6)] [(.int p6), (.ref a1)]))
  obtain ⟨T26, h26, X26, e26, W26, st26⟩ := putF X20 hx hZ hown (host := "") (Or.inl (hw _ (List.mem_of_getElem? (i := 26) rfl))) Via.refl e20 F_range_a1_25 E_a1_21 (Or.inr ⟨(hw _ (List.mem_of_getElem? (i := 27) rfl)), rfl, hnm⟩) (hw _ (List.mem_of_getElem? (i := 5) rfl)) (ty := .int) (by decide) rfl rfl (g := (mkF m 28 #[.val (.ref a1), .val (.int p2), .val (.int p3), .val (.int p4), .val (.int p5), .val (.int p6)] [(.int p6), (.ref a1)])) rfl rfl (hb hby d2_28)
  refine go st26 ?_
  have F_range_a1_26 : Fld Z h26 a1 "com/example/triview/triview/Vocabulary" "range" "I" (.int p6) := F_range_a1_25.same W26
  have E_a1_27 : Exa Z h26 a1 "com/example/triview/triview/Vocabulary" := E_a1_21.wr W26
  have F_type_a1_28 : Fld Z h26 a1 "com/example/triview/triview/Vocabulary" "type" "I" (.int p2) := F_type_a1_22.other W26 (Or.inr (slot_ne (Or.inr (hw _ (List.mem_of_getElem? (i := 19) rfl))) (Or.inr (hw _ (List.mem_of_getElem? (i := 27) rfl))) (by decide) (t := .int) (t' := .int) (by decide) (by decide)))
  have F_subClassOf_a1_29 : Fld Z h26 a1 "com/example/triview/triview/Vocabulary" "subClassOf" "I" (.int p3) := F_subClassOf_a1_23.other W26 (Or.inr (slot_ne (Or.inr (hw _ (List.mem_of_getElem? (i := 21) rfl))) (Or.inr (hw _ (List.mem_of_getElem? (i := 27) rfl))) (by decide) (t := .int) (t' := .int) (by decide) (by decide)))
  have F_subPropertyOf_a1_30 : Fld Z h26 a1 "com/example/triview/triview/Vocabulary" "subPropertyOf" "I" (.int p4) := F_subPropertyOf_a1_24.other W26 (Or.inr (slot_ne (Or.inr (hw _ (List.mem_of_getElem? (i := 23) rfl))) (Or.inr (hw _ (List.mem_of_getElem? (i := 27) rfl))) (by decide) (t := .int) (t' := .int) (by decide) (by decide)))
  have F_domain_a1_31 : Fld Z h26 a1 "com/example/triview/triview/Vocabulary" "domain" "I" (.int p5) := F_domain_a1_20.other W26 (Or.inr (slot_ne (Or.inr (hw _ (List.mem_of_getElem? (i := 25) rfl))) (Or.inr (hw _ (List.mem_of_getElem? (i := 27) rfl))) (by decide) (t := .int) (t' := .int) (by decide) (by decide)))
  have N26 := Fr.snoc X26 N20 g_a1
  have K26 : Keep h0 h26 [a1] := K20.wr W26 (Or.inl (List.mem_of_getElem? (i := 0) rfl))
  have Z26 : n0 ≤ h26.size := Nat.le_trans Z20 (Nat.le_of_eq W26.size.symm)
  show Go p e below _ (T26.setTop (mkF m 31 #[.val (.ref a1), .val (.int p2), .val (.int p3), .val (.int p4), .val (.int p5), .val (.int p6)] []))
  exact own_retV X26 hx hlk hret (hb hby d2_31) (by decide) (by decide) (by rw [e26]; exact ⟨rfl, N26, K26, E_a1_27, F_type_a1_28, F_subClassOf_a1_29, F_subPropertyOf_a1_30, F_domain_a1_31, F_range_a1_26⟩)
def f5 (p2 : Int32) (r1 : Int32) (r2 : Int32) (r3 : Int32) (r4 : Int32) : Int32 := (if p2 = (-1 : Int32) then (0 : Int32) else (if p2 = r1 then (1 : Int32) else (if p2 = r2 then (1 : Int32) else (if p2 = r3 then (1 : Int32) else (if p2 = r4 then (1 : Int32) else (0 : Int32))))))
theorem d5_0 : decode prog_54_method_4_code 0 = .ok (.iload_n 1, 1) := by decide +kernel
theorem d5_1 : decode prog_54_method_4_code 1 = .ok (.iconst (-1), 1) := by decide +kernel
theorem d5_2 : decode prog_54_method_4_code 2 = .ok (.if_icmp .eq 39, 3) := by decide +kernel
theorem d5_5 : decode prog_54_method_4_code 5 = .ok (.iload_n 1, 1) := by decide +kernel
theorem d5_6 : decode prog_54_method_4_code 6 = .ok (.aload_n 0, 1) := by decide +kernel
theorem d5_7 : decode prog_54_method_4_code 7 = .ok (.getfield 13, 3) := by decide +kernel
theorem d5_10 : decode prog_54_method_4_code 10 = .ok (.if_icmp .eq 27, 3) := by decide +kernel
theorem d5_13 : decode prog_54_method_4_code 13 = .ok (.iload_n 1, 1) := by decide +kernel
theorem d5_14 : decode prog_54_method_4_code 14 = .ok (.aload_n 0, 1) := by decide +kernel
theorem d5_15 : decode prog_54_method_4_code 15 = .ok (.getfield 16, 3) := by decide +kernel
theorem d5_18 : decode prog_54_method_4_code 18 = .ok (.if_icmp .eq 19, 3) := by decide +kernel
theorem d5_21 : decode prog_54_method_4_code 21 = .ok (.iload_n 1, 1) := by decide +kernel
theorem d5_22 : decode prog_54_method_4_code 22 = .ok (.aload_n 0, 1) := by decide +kernel
theorem d5_23 : decode prog_54_method_4_code 23 = .ok (.getfield 19, 3) := by decide +kernel
theorem d5_26 : decode prog_54_method_4_code 26 = .ok (.if_icmp .eq 11, 3) := by decide +kernel
theorem d5_29 : decode prog_54_method_4_code 29 = .ok (.iload_n 1, 1) := by decide +kernel
theorem d5_30 : decode prog_54_method_4_code 30 = .ok (.aload_n 0, 1) := by decide +kernel
theorem d5_31 : decode prog_54_method_4_code 31 = .ok (.getfield 22, 3) := by decide +kernel
theorem d5_34 : decode prog_54_method_4_code 34 = .ok (.if_icmp .ne 7, 3) := by decide +kernel
theorem d5_37 : decode prog_54_method_4_code 37 = .ok (.iconst 1, 1) := by decide +kernel
theorem d5_38 : decode prog_54_method_4_code 38 = .ok (.goto 4, 3) := by decide +kernel
theorem d5_41 : decode prog_54_method_4_code 41 = .ok (.iconst 0, 1) := by decide +kernel
theorem d5_42 : decode prog_54_method_4_code 42 = .ok (.ireturn, 1) := by decide +kernel
theorem pn_5 : plainName "com/example/triview/triview/Vocabulary" = true := by first | (simp [plainName, overriddenIn]; done) | decide +kernel
theorem ef_5 (m : MethodId) (x0 : Addr) (x1 : Int32) : entryFrame m #[(.ref x0), (.int x1)] 2 = mkF m 0 #[.val (.ref x0), .val (.int x1)] [] := by first | (simp [entryFrame, mkF, argsToLocals, Value.category]; done) | rfl
set_option maxRecDepth 65536 in
set_option maxHeartbeats 40000000 in
theorem rm5 (l : Launch) (Z : State) (a0 : Array Value) (hw : ∀ d ∈ tables_1, d.before a0 Z = true) (ws : List Jvm.Cond) (a1 : Addr) (p2 : Int32) (h0 : Heap) (n0 : Nat) {r1 : Int32} {r2 : Int32} {r3 : Int32} {r4 : Int32} (F_subClassOf_a1 : Fld Z h0 a1 "com/example/triview/triview/Vocabulary" "subClassOf" "I" (.int r1)) (F_subPropertyOf_a1 : Fld Z h0 a1 "com/example/triview/triview/Vocabulary" "subPropertyOf" "I" (.int r2)) (F_domain_a1 : Fld Z h0 a1 "com/example/triview/triview/Vocabulary" "domain" "I" (.int r3)) (F_range_a1 : Fld Z h0 a1 "com/example/triview/triview/Vocabulary" "range" "I" (.int r4)) :
    MetFree l (⟨"com/example/triview/triview/Vocabulary", "isSchemaProperty", "(I)Z"⟩ : MethodName) (head1 (Jvm.Cond.code (⟨"com/example/triview/triview/Vocabulary", "isSchemaProperty", "(I)Z"⟩ : MethodName) prog_54_method_4_code 2 (some .boolean) :: ws) ({ frames := 0, cells := 0, slots := 0, locals := 0 } : Room)) (fun a U => a = #[(.ref a1), (.int p2)] ∧ Z.Warmed39 U.vm ∧ U.heap = h0) (fun _ _ _ _ _ => True) (fun _ U o U' => ∃ v L, o = .returned v ∧ (QP (some (.int (f5 p2 r1 r2 r3 r4))) h0 n0) v U'.heap L ∧ FrameEnd U o U' L ({ frames := 0, cells := 0, slots := 0, locals := 0 } : Room).cells ({ frames := 0, cells := 0, slots := 0, locals := 0 } : Room).slots) := by
  refine own_met (plainFor_of_name pn_5) (fun m => ef_5 m a1 p2) ?_
  intro p e s m below meth c T0 hx hby hml hown hnm hret hlk hZ X0 e0
  have hown : s.vm.findClass "com/example/triview/triview/Vocabulary" = some m.cls := hown
  have hnm : meth.name = "isSchemaProperty" := hnm
  have hret : meth.sig.returnType = some .boolean := hret
  have N0 := Fr.nil n0
  show Go p e below _ (T0.setTop (mkF m 0 #[.val (.ref a1), .val (.int p2)] []))
  refine go (fun _ q => XS.iloadN X0.here hx rfl (hb hby d5_0) rfl q) ?_
  show Go p e below _ (T0.setTop (mkF m 1 #[.val (.ref a1), .val (.int p2)] [(.int p2)]))
  refine go (fun _ q => XS.iconst X0.here hx rfl (hb hby d5_1) q) ?_
  show Go p e below _ (T0.setTop (mkF m 2 #[.val (.ref a1), .val (.int p2)] [(.int (-1 : Int32)), (.int p2)]))
  by_cases hc1 : p2 = (-1 : Int32)
  · refine go (fun _ q => XS.icmpYes X0.here hx rfl (pc0 := 2) (pc' := 41) rfl (hb hby d5_2) rfl (teq hc1).1 (by decide) (by decide) q) ?_
    show Go p e below _ (T0.setTop (mkF m 41 #[.val (.ref a1), .val (.int p2)] []))
    refine go (fun _ q => XS.iconst X0.here hx rfl (hb hby d5_41) q) ?_
    show Go p e below _ (T0.setTop (mkF m 42 #[.val (.ref a1), .val (.int p2)] [(.int (0 : Int32))]))
    exact own_retZ (z' := (0 : Int32)) X0 hx hlk hret (hb hby d5_42) (by decide) (by decide) rfl ⟨congrArg (fun z => some (Value.int z)) (by rw [f5, if_pos hc1]), N0, e0⟩
  · refine go (fun _ q => XS.icmpNo X0.here hx rfl (hb hby d5_2) rfl (feq hc1).1 q) ?_
    show Go p e below _ (T0.setTop (mkF m 5 #[.val (.ref a1), .val (.int p2)] []))
    refine go (fun _ q => XS.iloadN X0.here hx rfl (hb hby d5_5) rfl q) ?_
    show Go p e below _ (T0.setTop (mkF m 6 #[.val (.ref a1), .val (.int p2)] [(.int p2)]))
    refine go (fun _ q => XS.aloadN X0.here hx rfl (hb hby d5_6) rfl rfl q) ?_
    show Go p e below _ (T0.setTop (mkF m 7 #[.val (.ref a1), .val (.int p2)] [(.ref a1), (.int p2)]))
    obtain ⟨T2, X2, e2, st2⟩ := getF X0 hx hZ hown (host := "") (Or.inl (hw _ (List.mem_of_getElem? (i := 20) rfl))) Via.refl e0 F_subClassOf_a1 (g := (mkF m 7 #[.val (.ref a1), .val (.int p2)] [(.ref a1), (.int p2)])) rfl rfl (hb hby d5_7)
    refine go st2 ?_
    show Go p e below _ (T2.setTop (mkF m 10 #[.val (.ref a1), .val (.int p2)] [(.int r1), (.int p2)]))
    by_cases hc3 : p2 = r1
    · refine go (fun _ q => XS.icmpYes X2.here hx rfl (pc0 := 10) (pc' := 37) rfl (hb hby d5_10) rfl (teq hc3).1 (by decide) (by decide) q) ?_
      show Go p e below _ (T2.setTop (mkF m 37 #[.val (.ref a1), .val (.int p2)] []))
      refine go (fun _ q => XS.iconst X2.here hx rfl (hb hby d5_37) q) ?_
      show Go p e below _ (T2.setTop (mkF m 38 #[.val (.ref a1), .val (.int p2)] [(.int (1 : Int32))]))
      refine go (fun _ q => XS.goto X2.here hx rfl (pc0 := 38) (pc' := 42) rfl (hb hby d5_38) (by decide) (by decide) q) ?_
      show Go p e below _ (T2.setTop (mkF m 42 #[.val (.ref a1), .val (.int p2)] [(.int (1 : Int32))]))
      exact own_retZ (z' := (1 : Int32)) X2 hx hlk hret (hb hby d5_42) (by decide) (by decide) rfl ⟨congrArg (fun z => some (Value.int z)) (by rw [f5, if_neg hc1, if_pos hc3]), N0, e2⟩
    · refine go (fun _ q => XS.icmpNo X2.here hx rfl (hb hby d5_10) rfl (feq hc3).1 q) ?_
      show Go p e below _ (T2.setTop (mkF m 13 #[.val (.ref a1), .val (.int p2)] []))
      refine go (fun _ q => XS.iloadN X2.here hx rfl (hb hby d5_13) rfl q) ?_
      show Go p e below _ (T2.setTop (mkF m 14 #[.val (.ref a1), .val (.int p2)] [(.int p2)]))
      refine go (fun _ q => XS.aloadN X2.here hx rfl (hb hby d5_14) rfl rfl q) ?_
      show Go p e below _ (T2.setTop (mkF m 15 #[.val (.ref a1), .val (.int p2)] [(.ref a1), (.int p2)]))
      obtain ⟨T4, X4, e4, st4⟩ := getF X2 hx hZ hown (host := "") (Or.inl (hw _ (List.mem_of_getElem? (i := 22) rfl))) Via.refl e2 F_subPropertyOf_a1 (g := (mkF m 15 #[.val (.ref a1), .val (.int p2)] [(.ref a1), (.int p2)])) rfl rfl (hb hby d5_15)
      refine go st4 ?_
      show Go p e below _ (T4.setTop (mkF m 18 #[.val (.ref a1), .val (.int p2)] [(.int r2), (.int p2)]))
      by_cases hc5 : p2 = r2
      · refine go (fun _ q => XS.icmpYes X4.here hx rfl (pc0 := 18) (pc' := 37) rfl (hb hby d5_18) rfl (teq hc5).1 (by decide) (by decide) q) ?_
        show Go p e below _ (T4.setTop (mkF m 37 #[.val (.ref a1), .val (.int p2)] []))
        refine go (fun _ q => XS.iconst X4.here hx rfl (hb hby d5_37) q) ?_
        show Go p e below _ (T4.setTop (mkF m 38 #[.val (.ref a1), .val (.int p2)] [(.int (1 : Int32))]))
        refine go (fun _ q => XS.goto X4.here hx rfl (pc0 := 38) (pc' := 42) rfl (hb hby d5_38) (by decide) (by decide) q) ?_
        show Go p e below _ (T4.setTop (mkF m 42 #[.val (.ref a1), .val (.int p2)] [(.int (1 : Int32))]))
        exact own_retZ (z' := (1 : Int32)) X4 hx hlk hret (hb hby d5_42) (by decide) (by decide) rfl ⟨congrArg (fun z => some (Value.int z)) (by rw [f5, if_neg hc1, if_neg hc3, if_pos hc5]), N0, e4⟩
      · refine go (fun _ q => XS.icmpNo X4.here hx rfl (hb hby d5_18) rfl (feq hc5).1 q) ?_
        show Go p e below _ (T4.setTop (mkF m 21 #[.val (.ref a1), .val (.int p2)] []))
        refine go (fun _ q => XS.iloadN X4.here hx rfl (hb hby d5_21) rfl q) ?_
        show Go p e below _ (T4.setTop (mkF m 22 #[.val (.ref a1), .val (.int p2)] [(.int p2)]))
        refine go (fun _ q => XS.aloadN X4.here hx rfl (hb hby d5_22) rfl rfl q) ?_
        show Go p e below _ (T4.setTop (mkF m 23 #[.val (.ref a1), .val (.int p2)] [(.ref a1), (.int p2)]))
        obtain ⟨T6, X6, e6, st6⟩ := getF X4 hx hZ hown (host := "") (Or.inl (hw _ (List.mem_of_getElem? (i := 24) rfl))) Via.refl e4 F_domain_a1 (g := (mkF m 23 #[.val (.ref a1), .val (.int p2)] [(.ref a1), (.int p2)])) rfl rfl (hb hby d5_23)
        refine go st6 ?_
        show Go p e below _ (T6.setTop (mkF m 26 #[.val (.ref a1), .val (.int p2)] [(.int r3), (.int p2)]))
        by_cases hc7 : p2 = r3
        · refine go (fun _ q => XS.icmpYes X6.here hx rfl (pc0 := 26) (pc' := 37) rfl (hb hby d5_26) rfl (teq hc7).1 (by decide) (by decide) q) ?_
          show Go p e below _ (T6.setTop (mkF m 37 #[.val (.ref a1), .val (.int p2)] []))
          refine go (fun _ q => XS.iconst X6.here hx rfl (hb hby d5_37) q) ?_
          show Go p e below _ (T6.setTop (mkF m 38 #[.val (.ref a1), .val (.int p2)] [(.int (1 : Int32))]))
          refine go (fun _ q => XS.goto X6.here hx rfl (pc0 := 38) (pc' := 42) rfl (hb hby d5_38) (by decide) (by decide) q) ?_
          show Go p e below _ (T6.setTop (mkF m 42 #[.val (.ref a1), .val (.int p2)] [(.int (1 : Int32))]))
          exact own_retZ (z' := (1 : Int32)) X6 hx hlk hret (hb hby d5_42) (by decide) (by decide) rfl ⟨congrArg (fun z => some (Value.int z)) (by rw [f5, if_neg hc1, if_neg hc3, if_neg hc5, if_pos hc7]), N0, e6⟩
        · refine go (fun _ q => XS.icmpNo X6.here hx rfl (hb hby d5_26) rfl (feq hc7).1 q) ?_
          show Go p e below _ (T6.setTop (mkF m 29 #[.val (.ref a1), .val (.int p2)] []))
          refine go (fun _ q => XS.iloadN X6.here hx rfl (hb hby d5_29) rfl q) ?_
          show Go p e below _ (T6.setTop (mkF m 30 #[.val (.ref a1), .val (.int p2)] [(.int p2)]))
          refine go (fun _ q => XS.aloadN X6.here hx rfl (hb hby d5_30) rfl rfl q) ?_
          show Go p e below _ (T6.setTop (mkF m 31 #[.val (.ref a1), .val (.int p2)] [(.ref a1), (.int p2)]))
          obtain ⟨T8, X8, e8, st8⟩ := getF X6 hx hZ hown (host := "") (Or.inl (hw _ (List.mem_of_getElem? (i := 26) rfl))) Via.refl e6 F_range_a1 (g := (mkF m 31 #[.val (.ref a1), .val (.int p2)] [(.ref a1), (.int p2)])) rfl rfl (hb hby d5_31)
          refine go st8 ?_
          show Go p e below _ (T8.setTop (mkF m 34 #[.val (.ref a1), .val (.int p2)] [(.int r4), (.int p2)]))
          by_cases hc9 : p2 = r4
          · refine go (fun _ q => XS.icmpNo X8.here hx rfl (hb hby d5_34) rfl (teq hc9).2 q) ?_
            show Go p e below _ (T8.setTop (mkF m 37 #[.val (.ref a1), .val (.int p2)] []))
            refine go (fun _ q => XS.iconst X8.here hx rfl (hb hby d5_37) q) ?_
            show Go p e below _ (T8.setTop (mkF m 38 #[.val (.ref a1), .val (.int p2)] [(.int (1 : Int32))]))
            refine go (fun _ q => XS.goto X8.here hx rfl (pc0 := 38) (pc' := 42) rfl (hb hby d5_38) (by decide) (by decide) q) ?_
            show Go p e below _ (T8.setTop (mkF m 42 #[.val (.ref a1), .val (.int p2)] [(.int (1 : Int32))]))
            exact own_retZ (z' := (1 : Int32)) X8 hx hlk hret (hb hby d5_42) (by decide) (by decide) rfl ⟨congrArg (fun z => some (Value.int z)) (by rw [f5, if_neg hc1, if_neg hc3, if_neg hc5, if_neg hc7, if_pos hc9]), N0, e8⟩
          · refine go (fun _ q => XS.icmpYes X8.here hx rfl (pc0 := 34) (pc' := 41) rfl (hb hby d5_34) rfl (feq hc9).2 (by decide) (by decide) q) ?_
            show Go p e below _ (T8.setTop (mkF m 41 #[.val (.ref a1), .val (.int p2)] []))
            refine go (fun _ q => XS.iconst X8.here hx rfl (hb hby d5_41) q) ?_
            show Go p e below _ (T8.setTop (mkF m 42 #[.val (.ref a1), .val (.int p2)] [(.int (0 : Int32))]))
            exact own_retZ (z' := (0 : Int32)) X8 hx hlk hret (hb hby d5_42) (by decide) (by decide) rfl ⟨congrArg (fun z => some (Value.int z)) (by rw [f5, if_neg hc1, if_neg hc3, if_neg hc5, if_neg hc7, if_neg hc9]), N0, e8⟩
def Q0 (n0 : Nat) (v : Option Value) (h : Heap) (L : List Loc) : Prop := v = some (.int (1 : Int32)) ∧ Fr n0 L
theorem own_cmp {id c p d r z1 z2 z3 z4 z5 : Int32} (h1 : z1 = (if id = c then (1 : Int32) else (0 : Int32))) (h2 : z2 = (if id = p then (1 : Int32) else z1)) (h3 : z3 = (if id = d then (1 : Int32) else z2)) (h4 : z4 = (if id = r then (1 : Int32) else z3)) (h5 : z5 = (if id = (-1 : Int32) then (0 : Int32) else z4)) : f5 id c p d r = z5 := by
  rw [f5]
  subst h5 h4 h3 h2 h1
  repeat' split
  all_goals first | rfl | simp_all
theorem pd_0_0 : parseMethodDescriptor "(IIIIIII)I" = some ⟨[.int, .int, .int, .int, .int, .int, .int], some .int⟩ := by decide +kernel
theorem pd_0_1 : parseMethodDescriptor "(IIIII)V" = some ⟨[.int, .int, .int, .int, .int], none⟩ := by decide +kernel
theorem pd_0_2 : parseMethodDescriptor "(I)Z" = some ⟨[.int], some .boolean⟩ := by decide +kernel
theorem pn_0 : plainName "com/example/triview/triview/VocabularyIsSchemaPropertyPinLaw" = true := by first | (simp [plainName, overriddenIn]; done) | decide +kernel
theorem ef_0 (m : MethodId) (x0 : Int32) (x1 : Int32) (x2 : Int32) (x3 : Int32) (x4 : Int32) (x5 : Int32) : entryFrame m #[(.int x0), (.int x1), (.int x2), (.int x3), (.int x4), (.int x5)] maxLocals = mkF m 0 #[.val (.int x0), .val (.int x1), .val (.int x2), .val (.int x3), .val (.int x4), .val (.int x5), .unset, .unset, .unset, .unset, .unset, .unset, .unset, .unset] [] := by first | (simp [entryFrame, mkF, argsToLocals, Value.category, maxLocals]; done) | rfl
set_option maxRecDepth 65536 in
set_option maxHeartbeats 40000000 in
theorem rm0 (l : Launch) (Z : State) (a0 : Array Value) (hw : ∀ d ∈ tables_1, d.before a0 Z = true) (ws : List Jvm.Cond) (p1 : Int32) (p2 : Int32) (p3 : Int32) (p4 : Int32) (p5 : Int32) (p6 : Int32) (h0 : Heap) (n0 : Nat) (Z0 : n0 ≤ h0.size) :
    MetFree l x (head1 (Jvm.Cond.code x code maxLocals ret :: ws) room_1) (fun a U => a = #[(.int p1), (.int p2), (.int p3), (.int p4), (.int p5), (.int p6)] ∧ Z.Warmed39 U.vm ∧ U.heap = h0) (fun _ _ _ _ _ => True) (fun _ U o U' => ∃ v L, o = .returned v ∧ (Q0 n0) v U'.heap L ∧ FrameEnd U o U' L room_1.cells room_1.slots) := by
  refine own_met (plainFor_of_name pn_0) (fun m => ef_0 m p1 p2 p3 p4 p5 p6) ?_
  intro p e s m below meth c T0 hx hby hml hown hnm hret hlk hZ X0 e0
  have hown : s.vm.findClass "com/example/triview/triview/VocabularyIsSchemaPropertyPinLaw" = some m.cls := hown
  have hnm : meth.name = "law" := hnm
  have hret : meth.sig.returnType = some .boolean := hret
  have N0 := Fr.nil n0
  show Go p e below _ (T0.setTop (mkF m 0 #[.val (.int p1), .val (.int p2), .val (.int p3), .val (.int p4), .val (.int p5), .val (.int p6), .unset, .unset, .unset, .unset, .unset, .unset, .unset, .unset] []))
  refine go (fun _ q => XS.iload X0.here hx rfl (hb hby at_0) rfl q) ?_
  show Go p e below _ (T0.setTop (mkF m 2 #[.val (.int p1), .val (.int p2), .val (.int p3), .val (.int p4), .val (.int p5), .val (.int p6), .unset, .unset, .unset, .unset, .unset, .unset, .unset, .unset] [(.int p6)]))
  refine go (fun _ q => XS.bipush X0.here hx rfl (hb hby at_2) q) ?_
  show Go p e below _ (T0.setTop (mkF m 4 #[.val (.int p1), .val (.int p2), .val (.int p3), .val (.int p4), .val (.int p5), .val (.int p6), .unset, .unset, .unset, .unset, .unset, .unset, .unset, .unset] [(.int (7 : Int32)), (.int p6)]))
  refine go (fun _ q => XS.iand X0.here hx rfl (hb hby at_4) rfl q) ?_
  show Go p e below _ (T0.setTop (mkF m 5 #[.val (.int p1), .val (.int p2), .val (.int p3), .val (.int p4), .val (.int p5), .val (.int p6), .unset, .unset, .unset, .unset, .unset, .unset, .unset, .unset] [(.int (p6 &&& (7 : Int32)))]))
  generalize hv1 : (p6 &&& (7 : Int32)) = v1
  show Go p e below _ (T0.setTop (mkF m 5 #[.val (.int p1), .val (.int p2), .val (.int p3), .val (.int p4), .val (.int p5), .val (.int p6), .unset, .unset, .unset, .unset, .unset, .unset, .unset, .unset] [(.int v1)]))
  refine go (fun _ q => XS.istore X0.here hx rfl (hb hby at_5) rfl (l' := #[.val (.int p1), .val (.int p2), .val (.int p3), .val (.int p4), .val (.int p5), .val (.int p6), .val (.int v1), .unset, .unset, .unset, .unset, .unset, .unset, .unset]) rfl q) ?_
  show Go p e below _ (T0.setTop (mkF m 7 #[.val (.int p1), .val (.int p2), .val (.int p3), .val (.int p4), .val (.int p5), .val (.int p6), .val (.int v1), .unset, .unset, .unset, .unset, .unset, .unset, .unset] []))
  refine go (fun _ q => XS.iload X0.here hx rfl (hb hby at_7) rfl q) ?_
  show Go p e below _ (T0.setTop (mkF m 9 #[.val (.int p1), .val (.int p2), .val (.int p3), .val (.int p4), .val (.int p5), .val (.int p6), .val (.int v1), .unset, .unset, .unset, .unset, .unset, .unset, .unset] [(.int v1)]))
  refine go (fun _ q => XS.iloadN X0.here hx rfl (hb hby at_9) rfl q) ?_
  show Go p e below _ (T0.setTop (mkF m 10 #[.val (.int p1), .val (.int p2), .val (.int p3), .val (.int p4), .val (.int p5), .val (.int p6), .val (.int v1), .unset, .unset, .unset, .unset, .unset, .unset, .unset] [(.int p1), (.int v1)]))
  refine go (fun _ q => XS.iloadN X0.here hx rfl (hb hby at_10) rfl q) ?_
  show Go p e below _ (T0.setTop (mkF m 11 #[.val (.int p1), .val (.int p2), .val (.int p3), .val (.int p4), .val (.int p5), .val (.int p6), .val (.int v1), .unset, .unset, .unset, .unset, .unset, .unset, .unset] [(.int p2), (.int p1), (.int v1)]))
  refine go (fun _ q => XS.iloadN X0.here hx rfl (hb hby at_11) rfl q) ?_
  show Go p e below _ (T0.setTop (mkF m 12 #[.val (.int p1), .val (.int p2), .val (.int p3), .val (.int p4), .val (.int p5), .val (.int p6), .val (.int v1), .unset, .unset, .unset, .unset, .unset, .unset, .unset] [(.int p3), (.int p2), (.int p1), (.int v1)]))
  refine go (fun _ q => XS.iloadN X0.here hx rfl (hb hby at_12) rfl q) ?_
  show Go p e below _ (T0.setTop (mkF m 13 #[.val (.int p1), .val (.int p2), .val (.int p3), .val (.int p4), .val (.int p5), .val (.int p6), .val (.int v1), .unset, .unset, .unset, .unset, .unset, .unset, .unset] [(.int p4), (.int p3), (.int p2), (.int p1), (.int v1)]))
  refine go (fun _ q => XS.iload X0.here hx rfl (hb hby at_13) rfl q) ?_
  show Go p e below _ (T0.setTop (mkF m 15 #[.val (.int p1), .val (.int p2), .val (.int p3), .val (.int p4), .val (.int p5), .val (.int p6), .val (.int v1), .unset, .unset, .unset, .unset, .unset, .unset, .unset] [(.int p5), (.int p4), (.int p3), (.int p2), (.int p1), (.int v1)]))
  refine go (fun _ q => XS.iload X0.here hx rfl (hb hby at_15) rfl q) ?_
  show Go p e below _ (T0.setTop (mkF m 17 #[.val (.int p1), .val (.int p2), .val (.int p3), .val (.int p4), .val (.int p5), .val (.int p6), .val (.int v1), .unset, .unset, .unset, .unset, .unset, .unset, .unset] [(.int p6), (.int p5), (.int p4), (.int p3), (.int p2), (.int p1), (.int v1)]))
  refine own_callS X0 hx hZ hown e0 (hw _ (List.mem_of_getElem? (i := 0) rfl)) (hw _ (List.mem_of_getElem? (i := 1) rfl)) (hw _ (List.mem_of_getElem? (i := 2) rfl)) (hw _ (List.mem_of_getElem? (i := 3) rfl)) (rm1 l Z a0 hw [] v1 p1 p2 p3 p4 p5 p6 h0 n0) (by decide) (by decide) (W := 0) (by decide) (by decide) (by decide) (g := (mkF m 17 #[.val (.int p1), .val (.int p2), .val (.int p3), .val (.int p4), .val (.int p5), .val (.int p6), .val (.int v1), .unset, .unset, .unset, .unset, .unset, .unset, .unset] [(.int p6), (.int p5), (.int p4), (.int p3), (.int p2), (.int p1), (.int v1)])) rfl (by rw [hml]; rfl) (argsL := [(.int v1), (.int p1), (.int p2), (.int p3), (.int p4), (.int p5), (.int p6)]) (rest := []) rfl rfl (lenOf pd_0_0 rfl) (by show 2 * 0 + _ ≤ _; exact Nat.le_of_eq rfl) (hb hby at_17) ?_
  rintro _ T2 L2 X2 ⟨rfl, N2q, e2⟩
  have N2 := Fr.app N0 N2q
  show Go p e below _ (T2.setTop (mkF m 20 #[.val (.int p1), .val (.int p2), .val (.int p3), .val (.int p4), .val (.int p5), .val (.int p6), .val (.int v1), .unset, .unset, .unset, .unset, .unset, .unset, .unset] [(.int (f1 v1 p1 p2 p3 p4 p5 p6))]))
  generalize hv3 : (f1 v1 p1 p2 p3 p4 p5 p6) = v3
  show Go p e below _ (T2.setTop (mkF m 20 #[.val (.int p1), .val (.int p2), .val (.int p3), .val (.int p4), .val (.int p5), .val (.int p6), .val (.int v1), .unset, .unset, .unset, .unset, .unset, .unset, .unset] [(.int v3)]))
  refine go (fun _ q => XS.istore X2.here hx rfl (hb hby at_20) rfl (l' := #[.val (.int p1), .val (.int p2), .val (.int p3), .val (.int p4), .val (.int p5), .val (.int p6), .val (.int v1), .val (.int v3), .unset, .unset, .unset, .unset, .unset, .unset]) rfl q) ?_
  show Go p e below _ (T2.setTop (mkF m 22 #[.val (.int p1), .val (.int p2), .val (.int p3), .val (.int p4), .val (.int p5), .val (.int p6), .val (.int v1), .val (.int v3), .unset, .unset, .unset, .unset, .unset, .unset] []))
  obtain ⟨T4, h4, X4, e4, E4, A4, D4, -, st4⟩ := newO X2 hx hZ hown (hw _ (List.mem_of_getElem? (i := 4) rfl)) (hw _ (List.mem_of_getElem? (i := 5) rfl)) (hw _ (List.mem_of_getElem? (i := 6) rfl)) e2 (g := (mkF m 22 #[.val (.int p1), .val (.int p2), .val (.int p3), .val (.int p4), .val (.int p5), .val (.int p6), .val (.int v1), .val (.int v3), .unset, .unset, .unset, .unset, .unset, .unset] [])) rfl (hb hby at_22) (by decide) (by decide)
  obtain ⟨b4, g4⟩ : ∃ z, z = h0.size := ⟨_, rfl⟩
  rw [← g4] at A4 D4 st4
  refine go st4 ?_
  have g_b4 : n0 ≤ b4 := Nat.le_trans Z0 (Nat.le_of_eq g4.symm)
  have Z4 : n0 ≤ h4.size := Nat.le_trans Z0 E4.1
  have F_type_b4 : Fld Z h4 b4 "com/example/triview/triview/Vocabulary" "type" "I" (.int (0 : Int32)) := D4 (Or.inr (hw _ (List.mem_of_getElem? (i := 19) rfl))) (ty := .int) (by decide)
  have F_subClassOf_b4 : Fld Z h4 b4 "com/example/triview/triview/Vocabulary" "subClassOf" "I" (.int (0 : Int32)) := D4 (Or.inr (hw _ (List.mem_of_getElem? (i := 21) rfl))) (ty := .int) (by decide)
  have F_subPropertyOf_b4 : Fld Z h4 b4 "com/example/triview/triview/Vocabulary" "subPropertyOf" "I" (.int (0 : Int32)) := D4 (Or.inr (hw _ (List.mem_of_getElem? (i := 23) rfl))) (ty := .int) (by decide)
  have F_domain_b4 : Fld Z h4 b4 "com/example/triview/triview/Vocabulary" "domain" "I" (.int (0 : Int32)) := D4 (Or.inr (hw _ (List.mem_of_getElem? (i := 25) rfl))) (ty := .int) (by decide)
  have F_range_b4 : Fld Z h4 b4 "com/example/triview/triview/Vocabulary" "range" "I" (.int (0 : Int32)) := D4 (Or.inr (hw _ (List.mem_of_getElem? (i := 27) rfl))) (ty := .int) (by decide)
  show Go p e below _ (T4.setTop (mkF m 25 #[.val (.int p1), .val (.int p2), .val (.int p3), .val (.int p4), .val (.int p5), .val (.int p6), .val (.int v1), .val (.int v3), .unset, .unset, .unset, .unset, .unset, .unset] [(.ref b4)]))
  refine go (fun _ q => XS.dup X4.here hx rfl (hb hby at_25) rfl rfl q) ?_
  show Go p e below _ (T4.setTop (mkF m 26 #[.val (.int p1), .val (.int p2), .val (.int p3), .val (.int p4), .val (.int p5), .val (.int p6), .val (.int v1), .val (.int v3), .unset, .unset, .unset, .unset, .unset, .unset] [(.ref b4), (.ref b4)]))
  refine go (fun _ q => XS.iloadN X4.here hx rfl (hb hby at_26) rfl q) ?_
  show Go p e below _ (T4.setTop (mkF m 27 #[.val (.int p1), .val (.int p2), .val (.int p3), .val (.int p4), .val (.int p5), .val (.int p6), .val (.int v1), .val (.int v3), .unset, .unset, .unset, .unset, .unset, .unset] [(.int p1), (.ref b4), (.ref b4)]))
  refine go (fun _ q => XS.iloadN X4.here hx rfl (hb hby at_27) rfl q) ?_
  show Go p e below _ (T4.setTop (mkF m 28 #[.val (.int p1), .val (.int p2), .val (.int p3), .val (.int p4), .val (.int p5), .val (.int p6), .val (.int v1), .val (.int v3), .unset, .unset, .unset, .unset, .unset, .unset] [(.int p2), (.int p1), (.ref b4), (.ref b4)]))
  refine go (fun _ q => XS.iloadN X4.here hx rfl (hb hby at_28) rfl q) ?_
  show Go p e below _ (T4.setTop (mkF m 29 #[.val (.int p1), .val (.int p2), .val (.int p3), .val (.int p4), .val (.int p5), .val (.int p6), .val (.int v1), .val (.int v3), .unset, .unset, .unset, .unset, .unset, .unset] [(.int p3), (.int p2), (.int p1), (.ref b4), (.ref b4)]))
  refine go (fun _ q => XS.iloadN X4.here hx rfl (hb hby at_29) rfl q) ?_
  show Go p e below _ (T4.setTop (mkF m 30 #[.val (.int p1), .val (.int p2), .val (.int p3), .val (.int p4), .val (.int p5), .val (.int p6), .val (.int v1), .val (.int v3), .unset, .unset, .unset, .unset, .unset, .unset] [(.int p4), (.int p3), (.int p2), (.int p1), (.ref b4), (.ref b4)]))
  refine go (fun _ q => XS.iload X4.here hx rfl (hb hby at_30) rfl q) ?_
  show Go p e below _ (T4.setTop (mkF m 32 #[.val (.int p1), .val (.int p2), .val (.int p3), .val (.int p4), .val (.int p5), .val (.int p6), .val (.int v1), .val (.int v3), .unset, .unset, .unset, .unset, .unset, .unset] [(.int p5), (.int p4), (.int p3), (.int p2), (.int p1), (.ref b4), (.ref b4)]))
  refine own_callC X4 hx hZ hown e4 (hw _ (List.mem_of_getElem? (i := 7) rfl)) (hw _ (List.mem_of_getElem? (i := 8) rfl)) (hw _ (List.mem_of_getElem? (i := 6) rfl)) (hw _ (List.mem_of_getElem? (i := 9) rfl)) (rm2 l Z a0 hw [] b4 p1 p2 p3 p4 p5 h4 n0 Z4 g_b4 A4 F_type_b4 F_subClassOf_b4 F_subPropertyOf_b4 F_domain_b4 F_range_b4) rfl (by decide) (by decide) (W := 1) (by decide) (by decide) (by decide) (a := b4) (g := (mkF m 32 #[.val (.int p1), .val (.int p2), .val (.int p3), .val (.int p4), .val (.int p5), .val (.int p6), .val (.int v1), .val (.int v3), .unset, .unset, .unset, .unset, .unset, .unset] [(.int p5), (.int p4), (.int p3), (.int p2), (.int p1), (.ref b4), (.ref b4)])) rfl (by rw [hml]; rfl) (argsL := [(.int p1), (.int p2), (.int p3), (.int p4), (.int p5)]) (rest := [(.ref b4)]) rfl rfl (lenOf pd_0_1 rfl) (by show 2 * 0 + _ ≤ _; exact Nat.le_of_eq rfl) (hb hby at_32) ?_
  rintro _ T5 L5 X5 ⟨rfl, N5q, K5, E5, F5_0, F5_1, F5_2, F5_3, F5_4⟩
  have N5 := Fr.app N2 N5q
  have Z5 : n0 ≤ T5.heap.size := Nat.le_trans Z4 K5.1
  show Go p e below _ (T5.setTop (mkF m 35 #[.val (.int p1), .val (.int p2), .val (.int p3), .val (.int p4), .val (.int p5), .val (.int p6), .val (.int v1), .val (.int v3), .unset, .unset, .unset, .unset, .unset, .unset] [(.ref b4)]))
  refine go (fun _ q => XS.astore X5.here hx rfl (hb hby at_35) rfl rfl (l' := #[.val (.int p1), .val (.int p2), .val (.int p3), .val (.int p4), .val (.int p5), .val (.int p6), .val (.int v1), .val (.int v3), .val (.ref b4), .unset, .unset, .unset, .unset, .unset]) rfl q) ?_
  show Go p e below _ (T5.setTop (mkF m 37 #[.val (.int p1), .val (.int p2), .val (.int p3), .val (.int p4), .val (.int p5), .val (.int p6), .val (.int v1), .val (.int v3), .val (.ref b4), .unset, .unset, .unset, .unset, .unset] []))
  obtain ⟨T6, h6, X6, e6, E6, A6, D6, -, st6⟩ := newO X5 hx hZ hown (hw _ (List.mem_of_getElem? (i := 4) rfl)) (hw _ (List.mem_of_getElem? (i := 5) rfl)) (hw _ (List.mem_of_getElem? (i := 6) rfl)) rfl (g := (mkF m 37 #[.val (.int p1), .val (.int p2), .val (.int p3), .val (.int p4), .val (.int p5), .val (.int p6), .val (.int v1), .val (.int v3), .val (.ref b4), .unset, .unset, .unset, .unset, .unset] [])) rfl (hb hby at_37) (by decide) (by decide)
  obtain ⟨b6, g6⟩ : ∃ z, z = T5.heap.size := ⟨_, rfl⟩
  rw [← g6] at A6 D6 st6
  refine go st6 ?_
  have ne_b4_b6 : b4 ≠ b6 := Nat.ne_of_lt (Nat.lt_of_lt_of_le E5.lt (Nat.le_of_eq g6.symm))
  have g_b6 : n0 ≤ b6 := Nat.le_trans Z5 (Nat.le_of_eq g6.symm)
  have Z6 : n0 ≤ h6.size := Nat.le_trans Z5 E6.1
  have E_b4_7 : Exa Z h6 b4 "com/example/triview/triview/Vocabulary" := E5.ext E6
  have F_type_b4_8 : Fld Z h6 b4 "com/example/triview/triview/Vocabulary" "type" "I" (.int p1) := F5_0.ext E6
  have F_subClassOf_b4_9 : Fld Z h6 b4 "com/example/triview/triview/Vocabulary" "subClassOf" "I" (.int p2) := F5_1.ext E6
  have F_subPropertyOf_b4_10 : Fld Z h6 b4 "com/example/triview/triview/Vocabulary" "subPropertyOf" "I" (.int p3) := F5_2.ext E6
  have F_domain_b4_11 : Fld Z h6 b4 "com/example/triview/triview/Vocabulary" "domain" "I" (.int p4) := F5_3.ext E6
  have F_range_b4_12 : Fld Z h6 b4 "com/example/triview/triview/Vocabulary" "range" "I" (.int p5) := F5_4.ext E6
  have F_type_b6 : Fld Z h6 b6 "com/example/triview/triview/Vocabulary" "type" "I" (.int (0 : Int32)) := D6 (Or.inr (hw _ (List.mem_of_getElem? (i := 19) rfl))) (ty := .int) (by decide)
  have F_subClassOf_b6 : Fld Z h6 b6 "com/example/triview/triview/Vocabulary" "subClassOf" "I" (.int (0 : Int32)) := D6 (Or.inr (hw _ (List.mem_of_getElem? (i := 21) rfl))) (ty := .int) (by decide)
  have F_subPropertyOf_b6 : Fld Z h6 b6 "com/example/triview/triview/Vocabulary" "subPropertyOf" "I" (.int (0 : Int32)) := D6 (Or.inr (hw _ (List.mem_of_getElem? (i := 23) rfl))) (ty := .int) (by decide)
  have F_domain_b6 : Fld Z h6 b6 "com/example/triview/triview/Vocabulary" "domain" "I" (.int (0 : Int32)) := D6 (Or.inr (hw _ (List.mem_of_getElem? (i := 25) rfl))) (ty := .int) (by decide)
  have F_range_b6 : Fld Z h6 b6 "com/example/triview/triview/Vocabulary" "range" "I" (.int (0 : Int32)) := D6 (Or.inr (hw _ (List.mem_of_getElem? (i := 27) rfl))) (ty := .int) (by decide)
  show Go p e below _ (T6.setTop (mkF m 40 #[.val (.int p1), .val (.int p2), .val (.int p3), .val (.int p4), .val (.int p5), .val (.int p6), .val (.int v1), .val (.int v3), .val (.ref b4), .unset, .unset, .unset, .unset, .unset] [(.ref b6)]))
  refine go (fun _ q => XS.dup X6.here hx rfl (hb hby at_40) rfl rfl q) ?_
  show Go p e below _ (T6.setTop (mkF m 41 #[.val (.int p1), .val (.int p2), .val (.int p3), .val (.int p4), .val (.int p5), .val (.int p6), .val (.int v1), .val (.int v3), .val (.ref b4), .unset, .unset, .unset, .unset, .unset] [(.ref b6), (.ref b6)]))
  refine go (fun _ q => XS.iload X6.here hx rfl (hb hby at_41) rfl q) ?_
  show Go p e below _ (T6.setTop (mkF m 43 #[.val (.int p1), .val (.int p2), .val (.int p3), .val (.int p4), .val (.int p5), .val (.int p6), .val (.int v1), .val (.int v3), .val (.ref b4), .unset, .unset, .unset, .unset, .unset] [(.int p6), (.ref b6), (.ref b6)]))
  refine go (fun _ q => XS.iloadN X6.here hx rfl (hb hby at_43) rfl q) ?_
  show Go p e below _ (T6.setTop (mkF m 44 #[.val (.int p1), .val (.int p2), .val (.int p3), .val (.int p4), .val (.int p5), .val (.int p6), .val (.int v1), .val (.int v3), .val (.ref b4), .unset, .unset, .unset, .unset, .unset] [(.int p2), (.int p6), (.ref b6), (.ref b6)]))
  refine go (fun _ q => XS.iloadN X6.here hx rfl (hb hby at_44) rfl q) ?_
  show Go p e below _ (T6.setTop (mkF m 45 #[.val (.int p1), .val (.int p2), .val (.int p3), .val (.int p4), .val (.int p5), .val (.int p6), .val (.int v1), .val (.int v3), .val (.ref b4), .unset, .unset, .unset, .unset, .unset] [(.int p3), (.int p2), (.int p6), (.ref b6), (.ref b6)]))
  refine go (fun _ q => XS.iloadN X6.here hx rfl (hb hby at_45) rfl q) ?_
  show Go p e below _ (T6.setTop (mkF m 46 #[.val (.int p1), .val (.int p2), .val (.int p3), .val (.int p4), .val (.int p5), .val (.int p6), .val (.int v1), .val (.int v3), .val (.ref b4), .unset, .unset, .unset, .unset, .unset] [(.int p4), (.int p3), (.int p2), (.int p6), (.ref b6), (.ref b6)]))
  refine go (fun _ q => XS.iload X6.here hx rfl (hb hby at_46) rfl q) ?_
  show Go p e below _ (T6.setTop (mkF m 48 #[.val (.int p1), .val (.int p2), .val (.int p3), .val (.int p4), .val (.int p5), .val (.int p6), .val (.int v1), .val (.int v3), .val (.ref b4), .unset, .unset, .unset, .unset, .unset] [(.int p5), (.int p4), (.int p3), (.int p2), (.int p6), (.ref b6), (.ref b6)]))
  refine own_callC X6 hx hZ hown e6 (hw _ (List.mem_of_getElem? (i := 7) rfl)) (hw _ (List.mem_of_getElem? (i := 8) rfl)) (hw _ (List.mem_of_getElem? (i := 6) rfl)) (hw _ (List.mem_of_getElem? (i := 9) rfl)) (rm2 l Z a0 hw [] b6 p6 p2 p3 p4 p5 h6 n0 Z6 g_b6 A6 F_type_b6 F_subClassOf_b6 F_subPropertyOf_b6 F_domain_b6 F_range_b6) rfl (by decide) (by decide) (W := 1) (by decide) (by decide) (by decide) (a := b6) (g := (mkF m 48 #[.val (.int p1), .val (.int p2), .val (.int p3), .val (.int p4), .val (.int p5), .val (.int p6), .val (.int v1), .val (.int v3), .val (.ref b4), .unset, .unset, .unset, .unset, .unset] [(.int p5), (.int p4), (.int p3), (.int p2), (.int p6), (.ref b6), (.ref b6)])) rfl (by rw [hml]; rfl) (argsL := [(.int p6), (.int p2), (.int p3), (.int p4), (.int p5)]) (rest := [(.ref b6)]) rfl rfl (lenOf pd_0_1 rfl) (by show 2 * 0 + _ ≤ _; exact Nat.le_of_eq rfl) (hb hby at_48) ?_
  rintro _ T13 L13 X13 ⟨rfl, N13q, K13, E13, F13_0, F13_1, F13_2, F13_3, F13_4⟩
  have N13 := Fr.app N5 N13q
  have Z13 : n0 ≤ T13.heap.size := Nat.le_trans Z6 K13.1
  have E_b4_14 : Exa Z T13.heap b4 "com/example/triview/triview/Vocabulary" := E_b4_7.keep K13
  have F_type_b4_15 : Fld Z T13.heap b4 "com/example/triview/triview/Vocabulary" "type" "I" (.int p1) := F_type_b4_8.keep K13 (ninS ne_b4_b6 nin0)
  have F_subClassOf_b4_16 : Fld Z T13.heap b4 "com/example/triview/triview/Vocabulary" "subClassOf" "I" (.int p2) := F_subClassOf_b4_9.keep K13 (ninS ne_b4_b6 nin0)
  have F_subPropertyOf_b4_17 : Fld Z T13.heap b4 "com/example/triview/triview/Vocabulary" "subPropertyOf" "I" (.int p3) := F_subPropertyOf_b4_10.keep K13 (ninS ne_b4_b6 nin0)
  have F_domain_b4_18 : Fld Z T13.heap b4 "com/example/triview/triview/Vocabulary" "domain" "I" (.int p4) := F_domain_b4_11.keep K13 (ninS ne_b4_b6 nin0)
  have F_range_b4_19 : Fld Z T13.heap b4 "com/example/triview/triview/Vocabulary" "range" "I" (.int p5) := F_range_b4_12.keep K13 (ninS ne_b4_b6 nin0)
  show Go p e below _ (T13.setTop (mkF m 51 #[.val (.int p1), .val (.int p2), .val (.int p3), .val (.int p4), .val (.int p5), .val (.int p6), .val (.int v1), .val (.int v3), .val (.ref b4), .unset, .unset, .unset, .unset, .unset] [(.ref b6)]))
  refine go (fun _ q => XS.astore X13.here hx rfl (hb hby at_51) rfl rfl (l' := #[.val (.int p1), .val (.int p2), .val (.int p3), .val (.int p4), .val (.int p5), .val (.int p6), .val (.int v1), .val (.int v3), .val (.ref b4), .val (.ref b6), .unset, .unset, .unset, .unset]) rfl q) ?_
  show Go p e below _ (T13.setTop (mkF m 53 #[.val (.int p1), .val (.int p2), .val (.int p3), .val (.int p4), .val (.int p5), .val (.int p6), .val (.int v1), .val (.int v3), .val (.ref b4), .val (.ref b6), .unset, .unset, .unset, .unset] []))
  refine go (fun _ q => XS.aload X13.here hx rfl (hb hby at_53) rfl rfl q) ?_
  show Go p e below _ (T13.setTop (mkF m 55 #[.val (.int p1), .val (.int p2), .val (.int p3), .val (.int p4), .val (.int p5), .val (.int p6), .val (.int v1), .val (.int v3), .val (.ref b4), .val (.ref b6), .unset, .unset, .unset, .unset] [(.ref b4)]))
  refine go (fun _ q => XS.iload X13.here hx rfl (hb hby at_55) rfl q) ?_
  show Go p e below _ (T13.setTop (mkF m 57 #[.val (.int p1), .val (.int p2), .val (.int p3), .val (.int p4), .val (.int p5), .val (.int p6), .val (.int v1), .val (.int v3), .val (.ref b4), .val (.ref b6), .unset, .unset, .unset, .unset] [(.int v3), (.ref b4)]))
  refine own_callV X13 hx hZ hown rfl (hw _ (List.mem_of_getElem? (i := 28) rfl)) (hw _ (List.mem_of_getElem? (i := 29) rfl)) (hw _ (List.mem_of_getElem? (i := 30) rfl)) (hw _ (List.mem_of_getElem? (i := 31) rfl)) (hw _ (List.mem_of_getElem? (i := 6) rfl)) (hw _ (List.mem_of_getElem? (i := 32) rfl)) (rm5 l Z a0 hw [] b4 v3 T13.heap n0 F_subClassOf_b4_16 F_subPropertyOf_b4_17 F_domain_b4_18 F_range_b4_19) (by decide) (by decide) (W := 0) (by decide) (by decide) (by decide) (a := b4) E_b4_14 (g := (mkF m 57 #[.val (.int p1), .val (.int p2), .val (.int p3), .val (.int p4), .val (.int p5), .val (.int p6), .val (.int v1), .val (.int v3), .val (.ref b4), .val (.ref b6), .unset, .unset, .unset, .unset] [(.int v3), (.ref b4)])) rfl (by rw [hml]; rfl) (argsL := [(.int v3)]) (rest := []) rfl rfl (lenOf pd_0_2 rfl) (by show 2 * 0 + _ ≤ _; exact Nat.le_of_eq rfl) (hb hby at_57) ?_
  rintro _ T20 L20 X20 ⟨rfl, N20q, e20⟩
  have N20 := Fr.app N13 N20q
  show Go p e below _ (T20.setTop (mkF m 60 #[.val (.int p1), .val (.int p2), .val (.int p3), .val (.int p4), .val (.int p5), .val (.int p6), .val (.int v1), .val (.int v3), .val (.ref b4), .val (.ref b6), .unset, .unset, .unset, .unset] [(.int (f5 v3 p2 p3 p4 p5))]))
  generalize hv21 : (f5 v3 p2 p3 p4 p5) = v21
  show Go p e below _ (T20.setTop (mkF m 60 #[.val (.int p1), .val (.int p2), .val (.int p3), .val (.int p4), .val (.int p5), .val (.int p6), .val (.int v1), .val (.int v3), .val (.ref b4), .val (.ref b6), .unset, .unset, .unset, .unset] [(.int v21)]))
  refine go (fun _ q => XS.istore X20.here hx rfl (hb hby at_60) rfl (l' := #[.val (.int p1), .val (.int p2), .val (.int p3), .val (.int p4), .val (.int p5), .val (.int p6), .val (.int v1), .val (.int v3), .val (.ref b4), .val (.ref b6), .val (.int v21), .unset, .unset, .unset]) rfl q) ?_
  show Go p e below _ (T20.setTop (mkF m 62 #[.val (.int p1), .val (.int p2), .val (.int p3), .val (.int p4), .val (.int p5), .val (.int p6), .val (.int v1), .val (.int v3), .val (.ref b4), .val (.ref b6), .val (.int v21), .unset, .unset, .unset] []))
  refine go (fun _ q => XS.aload X20.here hx rfl (hb hby at_62) rfl rfl q) ?_
  show Go p e below _ (T20.setTop (mkF m 64 #[.val (.int p1), .val (.int p2), .val (.int p3), .val (.int p4), .val (.int p5), .val (.int p6), .val (.int v1), .val (.int v3), .val (.ref b4), .val (.ref b6), .val (.int v21), .unset, .unset, .unset] [(.ref b6)]))
  refine go (fun _ q => XS.iload X20.here hx rfl (hb hby at_64) rfl q) ?_
  show Go p e below _ (T20.setTop (mkF m 66 #[.val (.int p1), .val (.int p2), .val (.int p3), .val (.int p4), .val (.int p5), .val (.int p6), .val (.int v1), .val (.int v3), .val (.ref b4), .val (.ref b6), .val (.int v21), .unset, .unset, .unset] [(.int v3), (.ref b6)]))
  refine own_callV X20 hx hZ hown e20 (hw _ (List.mem_of_getElem? (i := 28) rfl)) (hw _ (List.mem_of_getElem? (i := 29) rfl)) (hw _ (List.mem_of_getElem? (i := 30) rfl)) (hw _ (List.mem_of_getElem? (i := 31) rfl)) (hw _ (List.mem_of_getElem? (i := 6) rfl)) (hw _ (List.mem_of_getElem? (i := 32) rfl)) (rm5 l Z a0 hw [] b6 v3 T13.heap n0 F13_1 F13_2 F13_3 F13_4) (by decide) (by decide) (W := 0) (by decide) (by decide) (by decide) (a := b6) E13 (g := (mkF m 66 #[.val (.int p1), .val (.int p2), .val (.int p3), .val (.int p4), .val (.int p5), .val (.int p6), .val (.int v1), .val (.int v3), .val (.ref b4), .val (.ref b6), .val (.int v21), .unset, .unset, .unset] [(.int v3), (.ref b6)])) rfl (by rw [hml]; rfl) (argsL := [(.int v3)]) (rest := []) rfl rfl (lenOf pd_0_2 rfl) (by show 2 * 0 + _ ≤ _; exact Nat.le_of_eq rfl) (hb hby at_66) ?_
  rintro _ T22 L22 X22 ⟨rfl, N22q, e22⟩
  have N22 := Fr.app N20 N22q
  show Go p e below _ (T22.setTop (mkF m 69 #[.val (.int p1), .val (.int p2), .val (.int p3), .val (.int p4), .val (.int p5), .val (.int p6), .val (.int v1), .val (.int v3), .val (.ref b4), .val (.ref b6), .val (.int v21), .unset, .unset, .unset] [(.int (f5 v3 p2 p3 p4 p5))]))
  generalize hv23 : (f5 v3 p2 p3 p4 p5) = v23
  show Go p e below _ (T22.setTop (mkF m 69 #[.val (.int p1), .val (.int p2), .val (.int p3), .val (.int p4), .val (.int p5), .val (.int p6), .val (.int v1), .val (.int v3), .val (.ref b4), .val (.ref b6), .val (.int v21), .unset, .unset, .unset] [(.int v23)]))
  refine go (fun _ q => XS.istore X22.here hx rfl (hb hby at_69) rfl (l' := #[.val (.int p1), .val (.int p2), .val (.int p3), .val (.int p4), .val (.int p5), .val (.int p6), .val (.int v1), .val (.int v3), .val (.ref b4), .val (.ref b6), .val (.int v21), .val (.int v23), .unset, .unset]) rfl q) ?_
  show Go p e below _ (T22.setTop (mkF m 71 #[.val (.int p1), .val (.int p2), .val (.int p3), .val (.int p4), .val (.int p5), .val (.int p6), .val (.int v1), .val (.int v3), .val (.ref b4), .val (.ref b6), .val (.int v21), .val (.int v23), .unset, .unset] []))
  refine go (fun _ q => XS.iconst X22.here hx rfl (hb hby at_71) q) ?_
  show Go p e below _ (T22.setTop (mkF m 72 #[.val (.int p1), .val (.int p2), .val (.int p3), .val (.int p4), .val (.int p5), .val (.int p6), .val (.int v1), .val (.int v3), .val (.ref b4), .val (.ref b6), .val (.int v21), .val (.int v23), .unset, .unset] [(.int (0 : Int32))]))
  refine go (fun _ q => XS.istore X22.here hx rfl (hb hby at_72) rfl (l' := #[.val (.int p1), .val (.int p2), .val (.int p3), .val (.int p4), .val (.int p5), .val (.int p6), .val (.int v1), .val (.int v3), .val (.ref b4), .val (.ref b6), .val (.int v21), .val (.int v23), .val (.int (0 : Int32)), .unset]) rfl q) ?_
  show Go p e below _ (T22.setTop (mkF m 74 #[.val (.int p1), .val (.int p2), .val (.int p3), .val (.int p4), .val (.int p5), .val (.int p6), .val (.int v1), .val (.int v3), .val (.ref b4), .val (.ref b6), .val (.int v21), .val (.int v23), .val (.int (0 : Int32)), .unset] []))
  refine go (fun _ q => XS.iload X22.here hx rfl (hb hby at_74) rfl q) ?_
  show Go p e below _ (T22.setTop (mkF m 76 #[.val (.int p1), .val (.int p2), .val (.int p3), .val (.int p4), .val (.int p5), .val (.int p6), .val (.int v1), .val (.int v3), .val (.ref b4), .val (.ref b6), .val (.int v21), .val (.int v23), .val (.int (0 : Int32)), .unset] [(.int v3)]))
  refine go (fun _ q => XS.iloadN X22.here hx rfl (hb hby at_76) rfl q) ?_
  show Go p e below _ (T22.setTop (mkF m 77 #[.val (.int p1), .val (.int p2), .val (.int p3), .val (.int p4), .val (.int p5), .val (.int p6), .val (.int v1), .val (.int v3), .val (.ref b4), .val (.ref b6), .val (.int v21), .val (.int v23), .val (.int (0 : Int32)), .unset] [(.int p2), (.int v3)]))
  suffices hj24 : ∀ (z26 : Int32), z26 = (if v3 = p2 then (1 : Int32) else (0 : Int32)) → Go p e below (Dn below s ((Q0 n0)) room_1.cells room_1.slots) (T22.setTop (mkF m 83 #[.val (.int p1), .val (.int p2), .val (.int p3), .val (.int p4), .val (.int p5), .val (.int p6), .val (.int v1), .val (.int v3), .val (.ref b4), .val (.ref b6), .val (.int v21), .val (.int v23), .val (.int z26), .unset] [])) by
    by_cases hc25 : v3 = p2
    · refine go (fun _ q => XS.icmpNo X22.here hx rfl (hb hby at_77) rfl (teq hc25).2 q) ?_
      show Go p e below _ (T22.setTop (mkF m 80 #[.val (.int p1), .val (.int p2), .val (.int p3), .val (.int p4), .val (.int p5), .val (.int p6), .val (.int v1), .val (.int v3), .val (.ref b4), .val (.ref b6), .val (.int v21), .val (.int v23), .val (.int (0 : Int32)), .unset] []))
      refine go (fun _ q => XS.iconst X22.here hx rfl (hb hby at_80) q) ?_
      show Go p e below _ (T22.setTop (mkF m 81 #[.val (.int p1), .val (.int p2), .val (.int p3), .val (.int p4), .val (.int p5), .val (.int p6), .val (.int v1), .val (.int v3), .val (.ref b4), .val (.ref b6), .val (.int v21), .val (.int v23), .val (.int (0 : Int32)), .unset] [(.int (1 : Int32))]))
      refine go (fun _ q => XS.istore X22.here hx rfl (hb hby at_81) rfl (l' := #[.val (.int p1), .val (.int p2), .val (.int p3), .val (.int p4), .val (.int p5), .val (.int p6), .val (.int v1), .val (.int v3), .val (.ref b4), .val (.ref b6), .val (.int v21), .val (.int v23), .val (.int (1 : Int32)), .unset]) rfl q) ?_
      show Go p e below _ (T22.setTop (mkF m 83 #[.val (.int p1), .val (.int p2), .val (.int p3), .val (.int p4), .val (.int p5), .val (.int p6), .val (.int v1), .val (.int v3), .val (.ref b4), .val (.ref b6), .val (.int v21), .val (.int v23), .val (.int (1 : Int32)), .unset] []))
      exact hj24 _ (by rw [if_pos hc25])
    · refine go (fun _ q => XS.icmpYes X22.here hx rfl (pc0 := 77) (pc' := 83) rfl (hb hby at_77) rfl (feq hc25).2 (by decide) (by decide) q) ?_
      show Go p e below _ (T22.setTop (mkF m 83 #[.val (.int p1), .val (.int p2), .val (.int p3), .val (.int p4), .val (.int p5), .val (.int p6), .val (.int v1), .val (.int v3), .val (.ref b4), .val (.ref b6), .val (.int v21), .val (.int v23), .val (.int (0 : Int32)), .unset] []))
      exact hj24 _ (by rw [if_neg hc25])
  intro z26 hz26
  show Go p e below _ (T22.setTop (mkF m 83 #[.val (.int p1), .val (.int p2), .val (.int p3), .val (.int p4), .val (.int p5), .val (.int p6), .val (.int v1), .val (.int v3), .val (.ref b4), .val (.ref b6), .val (.int v21), .val (.int v23), .val (.int z26), .unset] []))
  refine go (fun _ q => XS.iload X22.here hx rfl (hb hby at_83) rfl q) ?_
  show Go p e below _ (T22.setTop (mkF m 85 #[.val (.int p1), .val (.int p2), .val (.int p3), .val (.int p4), .val (.int p5), .val (.int p6), .val (.int v1), .val (.int v3), .val (.ref b4), .val (.ref b6), .val (.int v21), .val (.int v23), .val (.int z26), .unset] [(.int v3)]))
  refine go (fun _ q => XS.iloadN X22.here hx rfl (hb hby at_85) rfl q) ?_
  show Go p e below _ (T22.setTop (mkF m 86 #[.val (.int p1), .val (.int p2), .val (.int p3), .val (.int p4), .val (.int p5), .val (.int p6), .val (.int v1), .val (.int v3), .val (.ref b4), .val (.ref b6), .val (.int v21), .val (.int v23), .val (.int z26), .unset] [(.int p3), (.int v3)]))
  suffices hj27 : ∀ (z29 : Int32), z29 = (if v3 = p3 then (1 : Int32) else z26) → Go p e below (Dn below s ((Q0 n0)) room_1.cells room_1.slots) (T22.setTop (mkF m 92 #[.val (.int p1), .val (.int p2), .val (.int p3), .val (.int p4), .val (.int p5), .val (.int p6), .val (.int v1), .val (.int v3), .val (.ref b4), .val (.ref b6), .val (.int v21), .val (.int v23), .val (.int z29), .unset] [])) by
    by_cases hc28 : v3 = p3
    · refine go (fun _ q => XS.icmpNo X22.here hx rfl (hb hby at_86) rfl (teq hc28).2 q) ?_
      show Go p e below _ (T22.setTop (mkF m 89 #[.val (.int p1), .val (.int p2), .val (.int p3), .val (.int p4), .val (.int p5), .val (.int p6), .val (.int v1), .val (.int v3), .val (.ref b4), .val (.ref b6), .val (.int v21), .val (.int v23), .val (.int z26), .unset] []))
      refine go (fun _ q => XS.iconst X22.here hx rfl (hb hby at_89) q) ?_
      show Go p e below _ (T22.setTop (mkF m 90 #[.val (.int p1), .val (.int p2), .val (.int p3), .val (.int p4), .val (.int p5), .val (.int p6), .val (.int v1), .val (.int v3), .val (.ref b4), .val (.ref b6), .val (.int v21), .val (.int v23), .val (.int z26), .unset] [(.int (1 : Int32))]))
      refine go (fun _ q => XS.istore X22.here hx rfl (hb hby at_90) rfl (l' := #[.val (.int p1), .val (.int p2), .val (.int p3), .val (.int p4), .val (.int p5), .val (.int p6), .val (.int v1), .val (.int v3), .val (.ref b4), .val (.ref b6), .val (.int v21), .val (.int v23), .val (.int (1 : Int32)), .unset]) rfl q) ?_
      show Go p e below _ (T22.setTop (mkF m 92 #[.val (.int p1), .val (.int p2), .val (.int p3), .val (.int p4), .val (.int p5), .val (.int p6), .val (.int v1), .val (.int v3), .val (.ref b4), .val (.ref b6), .val (.int v21), .val (.int v23), .val (.int (1 : Int32)), .unset] []))
      exact hj27 _ (by rw [if_pos hc28])
    · refine go (fun _ q => XS.icmpYes X22.here hx rfl (pc0 := 86) (pc' := 92) rfl (hb hby at_86) rfl (feq hc28).2 (by decide) (by decide) q) ?_
      show Go p e below _ (T22.setTop (mkF m 92 #[.val (.int p1), .val (.int p2), .val (.int p3), .val (.int p4), .val (.int p5), .val (.int p6), .val (.int v1), .val (.int v3), .val (.ref b4), .val (.ref b6), .val (.int v21), .val (.int v23), .val (.int z26), .unset] []))
      exact hj27 _ (by rw [if_neg hc28])
  intro z29 hz29
  show Go p e below _ (T22.setTop (mkF m 92 #[.val (.int p1), .val (.int p2), .val (.int p3), .val (.int p4), .val (.int p5), .val (.int p6), .val (.int v1), .val (.int v3), .val (.ref b4), .val (.ref b6), .val (.int v21), .val (.int v23), .val (.int z29), .unset] []))
  refine go (fun _ q => XS.iload X22.here hx rfl (hb hby at_92) rfl q) ?_
  show Go p e below _ (T22.setTop (mkF m 94 #[.val (.int p1), .val (.int p2), .val (.int p3), .val (.int p4), .val (.int p5), .val (.int p6), .val (.int v1), .val (.int v3), .val (.ref b4), .val (.ref b6), .val (.int v21), .val (.int v23), .val (.int z29), .unset] [(.int v3)]))
  refine go (fun _ q => XS.iloadN X22.here hx rfl (hb hby at_94) rfl q) ?_
  show Go p e below _ (T22.setTop (mkF m 95 #[.val (.int p1), .val (.int p2), .val (.int p3), .val (.int p4), .val (.int p5), .val (.int p6), .val (.int v1), .val (.int v3), .val (.ref b4), .val (.ref b6), .val (.int v21), .val (.int v23), .val (.int z29), .unset] [(.int p4), (.int v3)]))
  suffices hj30 : ∀ (z32 : Int32), z32 = (if v3 = p4 then (1 : Int32) else z29) → Go p e below (Dn below s ((Q0 n0)) room_1.cells room_1.slots) (T22.setTop (mkF m 101 #[.val (.int p1), .val (.int p2), .val (.int p3), .val (.int p4), .val (.int p5), .val (.int p6), .val (.int v1), .val (.int v3), .val (.ref b4), .val (.ref b6), .val (.int v21), .val (.int v23), .val (.int z32), .unset] [])) by
    by_cases hc31 : v3 = p4
    · refine go (fun _ q => XS.icmpNo X22.here hx rfl (hb hby at_95) rfl (teq hc31).2 q) ?_
      show Go p e below _ (T22.setTop (mkF m 98 #[.val (.int p1), .val (.int p2), .val (.int p3), .val (.int p4), .val (.int p5), .val (.int p6), .val (.int v1), .val (.int v3), .val (.ref b4), .val (.ref b6), .val (.int v21), .val (.int v23), .val (.int z29), .unset] []))
      refine go (fun _ q => XS.iconst X22.here hx rfl (hb hby at_98) q) ?_
      show Go p e below _ (T22.setTop (mkF m 99 #[.val (.int p1), .val (.int p2), .val (.int p3), .val (.int p4), .val (.int p5), .val (.int p6), .val (.int v1), .val (.int v3), .val (.ref b4), .val (.ref b6), .val (.int v21), .val (.int v23), .val (.int z29), .unset] [(.int (1 : Int32))]))
      refine go (fun _ q => XS.istore X22.here hx rfl (hb hby at_99) rfl (l' := #[.val (.int p1), .val (.int p2), .val (.int p3), .val (.int p4), .val (.int p5), .val (.int p6), .val (.int v1), .val (.int v3), .val (.ref b4), .val (.ref b6), .val (.int v21), .val (.int v23), .val (.int (1 : Int32)), .unset]) rfl q) ?_
      show Go p e below _ (T22.setTop (mkF m 101 #[.val (.int p1), .val (.int p2), .val (.int p3), .val (.int p4), .val (.int p5), .val (.int p6), .val (.int v1), .val (.int v3), .val (.ref b4), .val (.ref b6), .val (.int v21), .val (.int v23), .val (.int (1 : Int32)), .unset] []))
      exact hj30 _ (by rw [if_pos hc31])
    · refine go (fun _ q => XS.icmpYes X22.here hx rfl (pc0 := 95) (pc' := 101) rfl (hb hby at_95) rfl (feq hc31).2 (by decide) (by decide) q) ?_
      show Go p e below _ (T22.setTop (mkF m 101 #[.val (.int p1), .val (.int p2), .val (.int p3), .val (.int p4), .val (.int p5), .val (.int p6), .val (.int v1), .val (.int v3), .val (.ref b4), .val (.ref b6), .val (.int v21), .val (.int v23), .val (.int z29), .unset] []))
      exact hj30 _ (by rw [if_neg hc31])
  intro z32 hz32
  show Go p e below _ (T22.setTop (mkF m 101 #[.val (.int p1), .val (.int p2), .val (.int p3), .val (.int p4), .val (.int p5), .val (.int p6), .val (.int v1), .val (.int v3), .val (.ref b4), .val (.ref b6), .val (.int v21), .val (.int v23), .val (.int z32), .unset] []))
  refine go (fun _ q => XS.iload X22.here hx rfl (hb hby at_101) rfl q) ?_
  show Go p e below _ (T22.setTop (mkF m 103 #[.val (.int p1), .val (.int p2), .val (.int p3), .val (.int p4), .val (.int p5), .val (.int p6), .val (.int v1), .val (.int v3), .val (.ref b4), .val (.ref b6), .val (.int v21), .val (.int v23), .val (.int z32), .unset] [(.int v3)]))
  refine go (fun _ q => XS.iload X22.here hx rfl (hb hby at_103) rfl q) ?_
  show Go p e below _ (T22.setTop (mkF m 105 #[.val (.int p1), .val (.int p2), .val (.int p3), .val (.int p4), .val (.int p5), .val (.int p6), .val (.int v1), .val (.int v3), .val (.ref b4), .val (.ref b6), .val (.int v21), .val (.int v23), .val (.int z32), .unset] [(.int p5), (.int v3)]))
  suffices hj33 : ∀ (z35 : Int32), z35 = (if v3 = p5 then (1 : Int32) else z32) → Go p e below (Dn below s ((Q0 n0)) room_1.cells room_1.slots) (T22.setTop (mkF m 111 #[.val (.int p1), .val (.int p2), .val (.int p3), .val (.int p4), .val (.int p5), .val (.int p6), .val (.int v1), .val (.int v3), .val (.ref b4), .val (.ref b6), .val (.int v21), .val (.int v23), .val (.int z35), .unset] [])) by
    by_cases hc34 : v3 = p5
    · refine go (fun _ q => XS.icmpNo X22.here hx rfl (hb hby at_105) rfl (teq hc34).2 q) ?_
      show Go p e below _ (T22.setTop (mkF m 108 #[.val (.int p1), .val (.int p2), .val (.int p3), .val (.int p4), .val (.int p5), .val (.int p6), .val (.int v1), .val (.int v3), .val (.ref b4), .val (.ref b6), .val (.int v21), .val (.int v23), .val (.int z32), .unset] []))
      refine go (fun _ q => XS.iconst X22.here hx rfl (hb hby at_108) q) ?_
      show Go p e below _ (T22.setTop (mkF m 109 #[.val (.int p1), .val (.int p2), .val (.int p3), .val (.int p4), .val (.int p5), .val (.int p6), .val (.int v1), .val (.int v3), .val (.ref b4), .val (.ref b6), .val (.int v21), .val (.int v23), .val (.int z32), .unset] [(.int (1 : Int32))]))
      refine go (fun _ q => XS.istore X22.here hx rfl (hb hby at_109) rfl (l' := #[.val (.int p1), .val (.int p2), .val (.int p3), .val (.int p4), .val (.int p5), .val (.int p6), .val (.int v1), .val (.int v3), .val (.ref b4), .val (.ref b6), .val (.int v21), .val (.int v23), .val (.int (1 : Int32)), .unset]) rfl q) ?_
      show Go p e below _ (T22.setTop (mkF m 111 #[.val (.int p1), .val (.int p2), .val (.int p3), .val (.int p4), .val (.int p5), .val (.int p6), .val (.int v1), .val (.int v3), .val (.ref b4), .val (.ref b6), .val (.int v21), .val (.int v23), .val (.int (1 : Int32)), .unset] []))
      exact hj33 _ (by rw [if_pos hc34])
    · refine go (fun _ q => XS.icmpYes X22.here hx rfl (pc0 := 105) (pc' := 111) rfl (hb hby at_105) rfl (feq hc34).2 (by decide) (by decide) q) ?_
      show Go p e below _ (T22.setTop (mkF m 111 #[.val (.int p1), .val (.int p2), .val (.int p3), .val (.int p4), .val (.int p5), .val (.int p6), .val (.int v1), .val (.int v3), .val (.ref b4), .val (.ref b6), .val (.int v21), .val (.int v23), .val (.int z32), .unset] []))
      exact hj33 _ (by rw [if_neg hc34])
  intro z35 hz35
  show Go p e below _ (T22.setTop (mkF m 111 #[.val (.int p1), .val (.int p2), .val (.int p3), .val (.int p4), .val (.int p5), .val (.int p6), .val (.int v1), .val (.int v3), .val (.ref b4), .val (.ref b6), .val (.int v21), .val (.int v23), .val (.int z35), .unset] []))
  refine go (fun _ q => XS.iload X22.here hx rfl (hb hby at_111) rfl q) ?_
  show Go p e below _ (T22.setTop (mkF m 113 #[.val (.int p1), .val (.int p2), .val (.int p3), .val (.int p4), .val (.int p5), .val (.int p6), .val (.int v1), .val (.int v3), .val (.ref b4), .val (.ref b6), .val (.int v21), .val (.int v23), .val (.int z35), .unset] [(.int z35)]))
  refine go (fun _ q => XS.istore X22.here hx rfl (hb hby at_113) rfl (l' := #[.val (.int p1), .val (.int p2), .val (.int p3), .val (.int p4), .val (.int p5), .val (.int p6), .val (.int v1), .val (.int v3), .val (.ref b4), .val (.ref b6), .val (.int v21), .val (.int v23), .val (.int z35), .val (.int z35)]) rfl q) ?_
  show Go p e below _ (T22.setTop (mkF m 115 #[.val (.int p1), .val (.int p2), .val (.int p3), .val (.int p4), .val (.int p5), .val (.int p6), .val (.int v1), .val (.int v3), .val (.ref b4), .val (.ref b6), .val (.int v21), .val (.int v23), .val (.int z35), .val (.int z35)] []))
  refine go (fun _ q => XS.iload X22.here hx rfl (hb hby at_115) rfl q) ?_
  show Go p e below _ (T22.setTop (mkF m 117 #[.val (.int p1), .val (.int p2), .val (.int p3), .val (.int p4), .val (.int p5), .val (.int p6), .val (.int v1), .val (.int v3), .val (.ref b4), .val (.ref b6), .val (.int v21), .val (.int v23), .val (.int z35), .val (.int z35)] [(.int v3)]))
  refine go (fun _ q => XS.iconst X22.here hx rfl (hb hby at_117) q) ?_
  show Go p e below _ (T22.setTop (mkF m 118 #[.val (.int p1), .val (.int p2), .val (.int p3), .val (.int p4), .val (.int p5), .val (.int p6), .val (.int v1), .val (.int v3), .val (.ref b4), .val (.ref b6), .val (.int v21), .val (.int v23), .val (.int z35), .val (.int z35)] [(.int (-1 : Int32)), (.int v3)]))
  suffices hj36 : ∀ (z38 : Int32), z38 = (if v3 = (-1 : Int32) then (0 : Int32) else z35) → Go p e below (Dn below s ((Q0 n0)) room_1.cells room_1.slots) (T22.setTop (mkF m 124 #[.val (.int p1), .val (.int p2), .val (.int p3), .val (.int p4), .val (.int p5), .val (.int p6), .val (.int v1), .val (.int v3), .val (.ref b4), .val (.ref b6), .val (.int v21), .val (.int v23), .val (.int z35), .val (.int z38)] [])) by
    by_cases hc37 : v3 = (-1 : Int32)
    · refine go (fun _ q => XS.icmpNo X22.here hx rfl (hb hby at_118) rfl (teq hc37).2 q) ?_
      show Go p e below _ (T22.setTop (mkF m 121 #[.val (.int p1), .val (.int p2), .val (.int p3), .val (.int p4), .val (.int p5), .val (.int p6), .val (.int v1), .val (.int v3), .val (.ref b4), .val (.ref b6), .val (.int v21), .val (.int v23), .val (.int z35), .val (.int z35)] []))
      refine go (fun _ q => XS.iconst X22.here hx rfl (hb hby at_121) q) ?_
      show Go p e below _ (T22.setTop (mkF m 122 #[.val (.int p1), .val (.int p2), .val (.int p3), .val (.int p4), .val (.int p5), .val (.int p6), .val (.int v1), .val (.int v3), .val (.ref b4), .val (.ref b6), .val (.int v21), .val (.int v23), .val (.int z35), .val (.int z35)] [(.int (0 : Int32))]))
      refine go (fun _ q => XS.istore X22.here hx rfl (hb hby at_122) rfl (l' := #[.val (.int p1), .val (.int p2), .val (.int p3), .val (.int p4), .val (.int p5), .val (.int p6), .val (.int v1), .val (.int v3), .val (.ref b4), .val (.ref b6), .val (.int v21), .val (.int v23), .val (.int z35), .val (.int (0 : Int32))]) rfl q) ?_
      show Go p e below _ (T22.setTop (mkF m 124 #[.val (.int p1), .val (.int p2), .val (.int p3), .val (.int p4), .val (.int p5), .val (.int p6), .val (.int v1), .val (.int v3), .val (.ref b4), .val (.ref b6), .val (.int v21), .val (.int v23), .val (.int z35), .val (.int (0 : Int32))] []))
      exact hj36 _ (by rw [if_pos hc37])
    · refine go (fun _ q => XS.icmpYes X22.here hx rfl (pc0 := 118) (pc' := 124) rfl (hb hby at_118) rfl (feq hc37).2 (by decide) (by decide) q) ?_
      show Go p e below _ (T22.setTop (mkF m 124 #[.val (.int p1), .val (.int p2), .val (.int p3), .val (.int p4), .val (.int p5), .val (.int p6), .val (.int v1), .val (.int v3), .val (.ref b4), .val (.ref b6), .val (.int v21), .val (.int v23), .val (.int z35), .val (.int z35)] []))
      exact hj36 _ (by rw [if_neg hc37])
  intro z38 hz38
  show Go p e below _ (T22.setTop (mkF m 124 #[.val (.int p1), .val (.int p2), .val (.int p3), .val (.int p4), .val (.int p5), .val (.int p6), .val (.int v1), .val (.int v3), .val (.ref b4), .val (.ref b6), .val (.int v21), .val (.int v23), .val (.int z35), .val (.int z38)] []))
  refine go (fun _ q => XS.iload X22.here hx rfl (hb hby at_124) rfl q) ?_
  show Go p e below _ (T22.setTop (mkF m 126 #[.val (.int p1), .val (.int p2), .val (.int p3), .val (.int p4), .val (.int p5), .val (.int p6), .val (.int v1), .val (.int v3), .val (.ref b4), .val (.ref b6), .val (.int v21), .val (.int v23), .val (.int z35), .val (.int z38)] [(.int v21)]))
  refine go (fun _ q => XS.iload X22.here hx rfl (hb hby at_126) rfl q) ?_
  show Go p e below _ (T22.setTop (mkF m 128 #[.val (.int p1), .val (.int p2), .val (.int p3), .val (.int p4), .val (.int p5), .val (.int p6), .val (.int v1), .val (.int v3), .val (.ref b4), .val (.ref b6), .val (.int v21), .val (.int v23), .val (.int z35), .val (.int z38)] [(.int z38), (.int v21)]))
  have hk39 : v21 = z38 := by rw [← hv21]; exact own_cmp hz26 hz29 hz32 hz35 hz38
  refine go (fun _ q => XS.icmpNo X22.here hx rfl (hb hby at_128) rfl (teq hk39).2 q) ?_
  show Go p e below _ (T22.setTop (mkF m 131 #[.val (.int p1), .val (.int p2), .val (.int p3), .val (.int p4), .val (.int p5), .val (.int p6), .val (.int v1), .val (.int v3), .val (.ref b4), .val (.ref b6), .val (.int v21), .val (.int v23), .val (.int z35), .val (.int z38)] []))
  refine go (fun _ q => XS.iload X22.here hx rfl (hb hby at_131) rfl q) ?_
  show Go p e below _ (T22.setTop (mkF m 133 #[.val (.int p1), .val (.int p2), .val (.int p3), .val (.int p4), .val (.int p5), .val (.int p6), .val (.int v1), .val (.int v3), .val (.ref b4), .val (.ref b6), .val (.int v21), .val (.int v23), .val (.int z35), .val (.int z38)] [(.int v23)]))
  refine go (fun _ q => XS.iload X22.here hx rfl (hb hby at_133) rfl q) ?_
  show Go p e below _ (T22.setTop (mkF m 135 #[.val (.int p1), .val (.int p2), .val (.int p3), .val (.int p4), .val (.int p5), .val (.int p6), .val (.int v1), .val (.int v3), .val (.ref b4), .val (.ref b6), .val (.int v21), .val (.int v23), .val (.int z35), .val (.int z38)] [(.int v21), (.int v23)]))
  have hk40 : v23 = v21 := by rw [← hv23, ← hv21]
  refine go (fun _ q => XS.icmpNo X22.here hx rfl (hb hby at_135) rfl (teq hk40).2 q) ?_
  show Go p e below _ (T22.setTop (mkF m 138 #[.val (.int p1), .val (.int p2), .val (.int p3), .val (.int p4), .val (.int p5), .val (.int p6), .val (.int v1), .val (.int v3), .val (.ref b4), .val (.ref b6), .val (.int v21), .val (.int v23), .val (.int z35), .val (.int z38)] []))
  refine go (fun _ q => XS.iconst X22.here hx rfl (hb hby at_138) q) ?_
  show Go p e below _ (T22.setTop (mkF m 139 #[.val (.int p1), .val (.int p2), .val (.int p3), .val (.int p4), .val (.int p5), .val (.int p6), .val (.int v1), .val (.int v3), .val (.ref b4), .val (.ref b6), .val (.int v21), .val (.int v23), .val (.int z35), .val (.int z38)] [(.int (1 : Int32))]))
  refine go (fun _ q => XS.goto X22.here hx rfl (pc0 := 139) (pc' := 143) rfl (hb hby at_139) (by decide) (by decide) q) ?_
  show Go p e below _ (T22.setTop (mkF m 143 #[.val (.int p1), .val (.int p2), .val (.int p3), .val (.int p4), .val (.int p5), .val (.int p6), .val (.int v1), .val (.int v3), .val (.ref b4), .val (.ref b6), .val (.int v21), .val (.int v23), .val (.int z35), .val (.int z38)] [(.int (1 : Int32))]))
  exact own_retZ (z' := (1 : Int32)) X22 hx hlk hret (hb hby at_143) (by decide) (by decide) rfl ⟨rfl, N22⟩
set_option maxRecDepth 65536 in
set_option maxHeartbeats 40000000 in
theorem comes_1 {Post : Tables → Env → Array Value → State → Outcome → State → Prop} (hpost : ∀ tb e args s v u, (limb_1_1.after args s (.returned v) u = true ∧ limb_1_2.after args s (.returned v) u = true ∧ True) → FrameEnd s (.returned v) u (Jvm.fieldLocs frame_1_writes args s ++ Jvm.arrayLocs frame_1_arrays args s ++ Jvm.staticLocs frame_1_statics s) 16 128 → Post tb e args s (.returned v) u) :
    ArmFor flags0 classFile x code maxLocals ret World_1 tables_1 room_1 Calls_1 rest_1 Pre_1 Post := by
  intro l hfl _ _ p e ha hc hk s m args below hf hA hF happ hP
  obtain ⟨hcalls, hrest, hpre⟩ := hP
  obtain ⟨-, -, -, hnamed, -, -, -, hat⟩ := (Spec.applies_iff hf).mp happ
  obtain ⟨hg, hn⟩ := and_e (Cond.before_iff.mp (show (Jvm.Cond.and given_1 narrow_1).before args s = true from hpre))
  obtain ⟨gc, g0⟩ := and_e hg
  obtain ⟨ga0, g1⟩ := and_e g0
  obtain ⟨ga1, g2⟩ := and_e g1
  obtain ⟨ga2, g3⟩ := and_e g2
  obtain ⟨ga3, g4⟩ := and_e g3
  obtain ⟨ga4, g5⟩ := and_e g4
  have ga5 := g5
  obtain ⟨w0, w1, w2, w3, w4, w5, rfl⟩ : ∃ w0 w1 w2 w3 w4 w5 : Value, args = #[w0, w1, w2, w3, w4, w5] := by
    have hs : args.size = 6 := by simpa [Cond.value, given_1] using gc
    obtain ⟨L⟩ := args
    match L, hs with
    | [w0, w1, w2, w3, w4, w5], _ => exact ⟨w0, w1, w2, w3, w4, w5, rfl⟩
  have hw := fun d (hd : d ∈ tables_1) => atoms_spec (ws := Jvm.Cond.code x code maxLocals ret :: tables_1) hat d (List.mem_cons_of_mem _ hd)
  obtain ⟨i0, ei0⟩ := is_v ga0
  obtain rfl : w0 = (.int i0) := Option.some.inj ei0
  obtain ⟨i1, ei1⟩ := is_v ga1
  obtain rfl : w1 = (.int i1) := Option.some.inj ei1
  obtain ⟨i2, ei2⟩ := is_v ga2
  obtain rfl : w2 = (.int i2) := Option.some.inj ei2
  obtain ⟨i3, ei3⟩ := is_v ga3
  obtain rfl : w3 = (.int i3) := Option.some.inj ei3
  obtain ⟨i4, ei4⟩ := is_v ga4
  obtain rfl : w4 = (.int i4) := Option.some.inj ei4
  obtain ⟨i5, ei5⟩ := is_v ga5
  obtain rfl : w5 = (.int i5) := Option.some.inj ei5
  obtain ⟨n, o, h1, h2, h3, _, L, rfl, ⟨rfl, N⟩, hq⟩ := rm0 l s _ hw tables_1 i0 i1 i2 i3 i4 i5 s.heap s.heap.size (Nat.le_refl _) p e ha hc hk s m _ below hf ((Spec.applies_iff_loose hf).mp happ).1 ⟨rfl, State.Warmed39.refl s, rfl⟩ trivial
  refine ⟨n, _, h1, h2, h3, hpost _ _ _ _ _ _ ⟨Cond.after_iff.mpr rfl, Cond.after_iff.mpr (eq_i res_at (Term.int_eval (1)) rfl), trivial⟩ ⟨hq.1, hq.2.1, (hq.2.2.sift fun y hy => Or.inr (N y hy)).mono (by decide) (by decide)⟩⟩
theorem main_1_1 : Claimed_1_1 := comes_1 fun _ _ _ _ _ _ h hF => ⟨h.1, hF⟩
theorem main_1_2 : Claimed_1_2 := comes_1 fun _ _ _ _ _ _ h hF => ⟨h.2.1, hF⟩
end Jvm.Pilot.@@N@@
namespace Jvm.Pilot.@@N@@
open Jvm Jvm.ClassFile Sem Op Lib Jvm.Free Jvm.Stand Jvm.Pilot.@@N@@.Jvm.D
/-! MADE BY PROGRAM (witnessworld.py) out of the Statement's table words and the real class files: 10 classes; the members and pool entries that the words name. The judged class is class 1, her method 2. -/
namespace start1
open Jvm.ClassFile
def u (s : String) : CpInfo := .utf8 (stringToUtf16 s)
/-- a pool by its gaps: so many unusable entries, then the entry; so many at the end -/
def gap : Nat → List CpInfo → List CpInfo
  | 0, r => r
  | n + 1, r => .unusable :: gap n r
def poolList (es : List (Nat × CpInfo)) (last : Nat) : List CpInfo := es.foldr (fun e r => gap e.1 (e.2 :: r)) (gap last [])
def pool (es : List (Nat × CpInfo)) (last : Nat) : Array CpInfo := ⟨poolList es last⟩
def fileOf (pool : Array CpInfo) (this : Nat) (attrs : Array Attribute := #[]) (ms : Array MethodInfo := #[]) (fl : Nat := 33) (sup : Nat := 0) (ifs : Array Nat := #[]) (fds : Array FieldInfo := #[]) : ClassFile where
  minorVersion := 0
  majorVersion := 65
  constantPool := pool
  accessFlags := fl
  thisClass := this
  superClass := sup
  interfaces := ifs
  fields := fds
  methods := ms
  attributes := attrs
def plain (name : String) (sup : Option ClassId) : Class where
  name := name
  kind := .ordinary
  loader := none
  accessFlags := 33
  super := sup
  interfaces := #[]
  cf := none
  fields := #[]
  methods := #[]
  instanceTypes := #[]
  staticTypes := #[]
  resolved := #[]
  callSites := []
  init := .initialized
  statics := none
  mirror := none

def pool0 : Array CpInfo := pool [(5, u "<init>"), (0, u "()V"), (1, .class_ 10), (1, u "java/lang/Object")] 113

def k0c0 : Code := { maxStack := 0, maxLocals := 1, code := object_method_1_code, exceptionTable := #[], attributes := #[] }
def k0m0 : Method := { name := "<init>", desc := "()V", sig := { parameters := [], returnType := none }, accessFlags := 1, code := some k0c0 }
/-- java/lang/Object -/
def k0 : Class := { plain "java/lang/Object" none with
  accessFlags := 33
  interfaces := #[]
  cf := some (fileOf pool0 8 #[] #[{ accessFlags := 1, nameIndex := 5, descriptorIndex := 6, attributes := #[] }] 33 0 #[] #[])
  fields := #[]
  methods := #[k0m0]
  instanceTypes := #[]
  staticTypes := #[]
  resolved := Array.replicate 124 none
  statics := none }

def pool1 : Array CpInfo := pool [(2, .class_ 4), (1, u "java/lang/Object"), (0, u "<init>"), (0, u "()V"), (0, .methodref 8 9), (0, .class_ 10), (0, .nameAndType 11 12), (0, u "com/example/triview/triview/VocabularyIsSchemaPropertyPinLaw"), (0, u "pick"), (0, u "(IIIIIII)I"), (0, .class_ 14), (0, u "com/example/triview/triview/Vocabulary"), (0, .methodref 13 16), (0, .nameAndType 5 17), (0, u "(IIIII)V"), (0, .methodref 13 19), (0, .nameAndType 20 21), (0, u "isSchemaProperty"), (0, u "(I)Z"), (3, u "law"), (0, u "(IIIIII)Z")] 2

def k1m0 : Method := { name := "<init>", desc := "()V", sig := { parameters := [], returnType := none }, accessFlags := 2, code := none }
def k1c1 : Code := { maxStack := 2, maxLocals := 7, code := method_2_code, exceptionTable := #[], attributes := #[] }
def k1m1 : Method := { name := "pick", desc := "(IIIIIII)I", sig := { parameters := [.int, .int, .int, .int, .int, .int, .int], returnType := some .int }, accessFlags := 10, code := some k1c1 }
def k1c2 : Code := { maxStack := 7, maxLocals := 14, code := code, exceptionTable := #[], attributes := #[] }
def k1m2 : Method := { name := "law", desc := "(IIIIII)Z", sig := { parameters := [.int, .int, .int, .int, .int, .int], returnType := some .boolean }, accessFlags := 9, code := some k1c2 }
/-- com/example/triview/triview/VocabularyIsSchemaPropertyPinLaw -/
def k1 : Class := { plain "com/example/triview/triview/VocabularyIsSchemaPropertyPinLaw" (some 0) with
  accessFlags := 49
  interfaces := #[]
  cf := some (fileOf pool1 8 #[] #[{ accessFlags := 2, nameIndex := 5, descriptorIndex := 6, attributes := #[] }, { accessFlags := 10, nameIndex := 11, descriptorIndex := 12, attributes := #[] }, { accessFlags := 9, nameIndex := 25, descriptorIndex := 26, attributes := #[] }] 49 2 #[] #[])
  fields := #[]
  methods := #[k1m0, k1m1, k1m2]
  instanceTypes := #[]
  staticTypes := #[]
  resolved := Array.replicate 29 none
  statics := none }

def pool2 : Array CpInfo := pool [(1, .methodref 2 3), (0, .class_ 4), (0, .nameAndType 5 6), (0, u "java/lang/Object"), (0, u "<init>"), (0, u "()V"), (0, .class_ 8), (0, u "java/lang/Record")] 13

def k2c0 : Code := { maxStack := 1, maxLocals := 1, code := jdk_30_method_1_code, exceptionTable := #[], attributes := #[] }
def k2m0 : Method := { name := "<init>", desc := "()V", sig := { parameters := [], returnType := none }, accessFlags := 4, code := some k2c0 }
/-- java/lang/Record -/
def k2 : Class := { plain "java/lang/Record" (some 0) with
  accessFlags := 1057
  interfaces := #[]
  cf := some (fileOf pool2 7 #[] #[{ accessFlags := 4, nameIndex := 5, descriptorIndex := 6, attributes := #[] }] 1057 2 #[] #[])
  fields := #[]
  methods := #[k2m0]
  instanceTypes := #[]
  staticTypes := #[]
  resolved := Array.replicate 22 none
  statics := none }

def pool3 : Array CpInfo := pool [(1, .methodref 2 3), (0, .class_ 4), (0, .nameAndType 5 6), (0, u "java/lang/Record"), (0, u "<init>"), (0, u "()V"), (0, .fieldref 8 9), (0, .class_ 10), (0, .nameAndType 11 12), (0, u "com/example/triview/triview/Vocabulary"), (0, u "type"), (0, u "I"), (0, .fieldref 8 14), (0, .nameAndType 15 12), (0, u "subClassOf"), (0, .fieldref 8 17), (0, .nameAndType 18 12), (0, u "subPropertyOf"), (0, .fieldref 8 20), (0, .nameAndType 21 12), (0, u "domain"), (0, .fieldref 8 23), (0, .nameAndType 24 12), (0, u "range"), (2, u "TYPE"), (0, u "Lcom/example/triview/triview/Iri;"), (8, u "SUB_CLASS_OF"), (2, u "SUB_PROPERTY_OF"), (2, u "DOMAIN"), (2, u "RANGE"), (2, u "(IIIII)V"), (50, u "isSchemaProperty"), (0, u "(I)Z")] 41

def k3c0 : Code := { maxStack := 2, maxLocals := 6, code := prog_54_method_1_code, exceptionTable := #[], attributes := #[] }
def k3m0 : Method := { name := "<init>", desc := "(IIIII)V", sig := { parameters := [.int, .int, .int, .int, .int], returnType := none }, accessFlags := 0, code := some k3c0 }
def k3c1 : Code := { maxStack := 2, maxLocals := 2, code := prog_54_method_4_code, exceptionTable := #[], attributes := #[] }
def k3m1 : Method := { name := "isSchemaProperty", desc := "(I)Z", sig := { parameters := [.int], returnType := some .boolean }, accessFlags := 0, code := some k3c1 }
/-- com/example/triview/triview/Vocabulary -/
def k3 : Class := { plain "com/example/triview/triview/Vocabulary" (some 2) with
  accessFlags := 48
  interfaces := #[]
  cf := some (fileOf pool3 8 #[] #[{ accessFlags := 0, nameIndex := 5, descriptorIndex := 49, attributes := #[] }, { accessFlags := 0, nameIndex := 100, descriptorIndex := 101, attributes := #[] }] 48 2 #[] #[{ accessFlags := 18, nameIndex := 11, descriptorIndex := 12, attributes := #[] }, { accessFlags := 18, nameIndex := 15, descriptorIndex := 12, attributes := #[] }, { accessFlags := 18, nameIndex := 18, descriptorIndex := 12, attributes := #[] }, { accessFlags := 18, nameIndex := 21, descriptorIndex := 12, attributes := #[] }, { accessFlags := 18, nameIndex := 24, descriptorIndex := 12, attributes := #[] }, { accessFlags := 24, nameIndex := 27, descriptorIndex := 28, attributes := #[] }, { accessFlags := 24, nameIndex := 37, descriptorIndex := 28, attributes := #[] }, { accessFlags := 24, nameIndex := 40, descriptorIndex := 28, attributes := #[] }, { accessFlags := 24, nameIndex := 43, descriptorIndex := 28, attributes := #[] }, { accessFlags := 24, nameIndex := 46, descriptorIndex := 28, attributes := #[] }])
  fields := #[{ name := "type", type := .int, accessFlags := 18, slot := 0, constantValue := 0 }, { name := "subClassOf", type := .int, accessFlags := 18, slot := 1, constantValue := 0 }, { name := "subPropertyOf", type := .int, accessFlags := 18, slot := 2, constantValue := 0 }, { name := "domain", type := .int, accessFlags := 18, slot := 3, constantValue := 0 }, { name := "range", type := .int, accessFlags := 18, slot := 4, constantValue := 0 }, { name := "TYPE", type := (.object "com/example/triview/triview/Iri"), accessFlags := 24, slot := 0, constantValue := 0 }, { name := "SUB_CLASS_OF", type := (.object "com/example/triview/triview/Iri"), accessFlags := 24, slot := 1, constantValue := 0 }, { name := "SUB_PROPERTY_OF", type := (.object "com/example/triview/triview/Iri"), accessFlags := 24, slot := 2, constantValue := 0 }, { name := "DOMAIN", type := (.object "com/example/triview/triview/Iri"), accessFlags := 24, slot := 3, constantValue := 0 }, { name := "RANGE", type := (.object "com/example/triview/triview/Iri"), accessFlags := 24, slot := 4, constantValue := 0 }]
  methods := #[k3m0, k3m1]
  instanceTypes := #[.int, .int, .int, .int, .int]
  staticTypes := #[(.object "com/example/triview/triview/Iri"), (.object "com/example/triview/triview/Iri"), (.object "com/example/triview/triview/Iri"), (.object "com/example/triview/triview/Iri"), (.object "com/example/triview/triview/Iri")]
  resolved := Array.replicate 143 none
  statics := none }

def pool4 : Array CpInfo := pool [(1, u "java/lang/Cloneable"), (0, .class_ 1), (0, u "java/lang/Object"), (0, .class_ 3)] 3

/-- java/lang/Cloneable -/
def k4 : Class := { plain "java/lang/Cloneable" (some 0) with
  accessFlags := 1537
  interfaces := #[]
  cf := some (fileOf pool4 2 #[] #[] 1537 4 #[] #[])
  fields := #[]
  methods := #[]
  instanceTypes := #[]
  staticTypes := #[]
  resolved := Array.replicate 8 none
  statics := none }

def pool5 : Array CpInfo := pool [(1, u "java/io/Serializable"), (0, .class_ 1), (0, u "java/lang/Object"), (0, .class_ 3)] 3

/-- java/io/Serializable -/
def k5 : Class := { plain "java/io/Serializable" (some 0) with
  accessFlags := 1537
  interfaces := #[]
  cf := some (fileOf pool5 2 #[] #[] 1537 4 #[] #[])
  fields := #[]
  methods := #[]
  instanceTypes := #[]
  staticTypes := #[]
  resolved := Array.replicate 8 none
  statics := none }

/-- the primitive byte -/
def k6 : Class := { plain "byte" none with kind := .primitive 'B', accessFlags := 0x411 }
/-- [B -/
def k7 : Class := { plain "[B" (some 0) with kind := .array 6 .byte, interfaces := #[4, 5], accessFlags := 1041 }

/-- the primitive int -/
def k8 : Class := { plain "int" none with kind := .primitive 'I', accessFlags := 0x411 }
/-- [I -/
def k9 : Class := { plain "[I" (some 0) with kind := .array 8 .int, interfaces := #[4, 5], accessFlags := 1041 }

def heap : Heap := #[]
def classes : Array Class := #[k0, k1, k2, k3, k4, k5, k6, k7, k8, k9]
def interned : List (Array UInt16 × Addr) := []
def slotsUsed : Nat := 0
def theMethod : MethodId := ⟨1, 2⟩
def args0 : Array Value := #[.int 5, .int 300, .int 7, .int 8, .int 9, .int 2]
def aboutOver (below : List Frame) : State where
  vm := { classes := classes, interned := interned.toArray }
  heap := heap
  slotsUsed := slotsUsed
  threads := #[{ frames := .invoking theMethod args0 :: below }]
def below0 : List Frame := [.native { method := ⟨0, 0⟩, args := #[] }]
def about1 : State := aboutOver below0
def p0 : Program := .bare "" "" ""
def e0 : Env := launch0.env 0 0 0
theorem w_frames : about1.frames = Frame.invoking theMethod args0 :: below0 := rfl
set_option maxRecDepth 65536 in
theorem w_args : argsFit about1.vm theMethod args0 = true := by decide +kernel
set_option maxRecDepth 65536 in
theorem w_heap : heapFits about1 = true := by decide +kernel
set_option maxRecDepth 65536 in
theorem w_runnable : about1.curStatus? = some .runnable := by decide +kernel
set_option maxRecDepth 65536 in
theorem w_alone : about1.alone = true := by decide +kernel
set_option maxRecDepth 65536 in
theorem w_named : about1.methodNamed? x = some theMethod := by decide +kernel
set_option maxRecDepth 65536 in
theorem w_hears : about1.hears theMethod below0 = true := by decide +kernel
set_option maxRecDepth 65536 in
theorem w_ripe : about1.ripe theMethod args0 below0 = true := by decide +kernel
theorem w_running : about1.status = .running := rfl
set_option maxRecDepth 65536 in
theorem w_room : about1.hasRoom e0.platform room_1 = true :=
  launch0.hasRoom_least _ room_1 (by decide +kernel) (by decide +kernel) (by decide +kernel) (by decide +kernel) (by decide +kernel) (by decide +kernel)
theorem allAtoms_all (ts : List Jvm.Cond) (a : Array Jvm.Value) (st : Jvm.State) : (allAtoms ts).before a st = ts.all (fun c => c.before a st) := by
  induction ts with
  | nil => rfl
  | cons c t ih =>
    show (Jvm.Cond.and c (allAtoms t)).before a st = _
    rw [Jvm.Cond.before_and, ih, List.all_cons]
def words1 : List Jvm.Cond := Jvm.Cond.code x code maxLocals ret :: tables_1
/-- a 'code' word, met by the world's own term for the bytes: nothing is compared byte by byte -/
theorem code_word {y : MethodName} {bytes : ByteArray} {mx : Nat} {rt : Option FieldType} {a : Array Value} {s : State} {m : MethodId} {meth : Method} {c : Code} (h1 : s.methodNamed? y = some m) (h2 : s.vm.method? m = some meth) (h3 : meth.code = some c) (h4 : c.code = bytes)
    (h5 : (c.maxLocals == mx && c.exceptionTable.isEmpty && decide (c.maxStack ≤ mostOperands) && decide (meth.sig.returnType = rt) && !meth.locks && decide (parseMethodDescriptor y.desc = some meth.sig)) = true) : (Jvm.Cond.code y bytes mx rt).before a s = true := by
  simp only [Bool.and_eq_true, beq_iff_eq, Bool.not_eq_true', decide_eq_true_eq] at h5
  obtain ⟨⟨⟨⟨⟨g1, g2⟩, g3⟩, g4⟩, g5⟩, g6⟩ := h5
  simp [Cond.before, Cond.holds, Cond.value, h1, h2, h3, h4, g1, g2, g3, g4, g5, g6]
def isCode : Jvm.Cond → Bool
  | .code _ _ _ _ => true
  | _ => false
theorem all_split {L : List Jvm.Cond} {P : Jvm.Cond → Bool} (h1 : L.all (fun c => isCode c || P c) = true) (h2 : ∀ c ∈ L.filter isCode, P c = true) : L.all P = true := by
  refine List.all_eq_true.mpr fun c hc => ?_
  have h := List.all_eq_true.mp h1 c hc
  rcases Bool.eq_false_or_eq_true (isCode c) with hi | hi
  · exact h2 c (List.mem_filter.mpr ⟨hc, hi⟩)
  · simpa [hi] using h
set_option maxRecDepth 65536 in
theorem w_c0 : (Jvm.Cond.code x code maxLocals ret).before args0 about1 = true := code_word (m := ⟨1, 2⟩) (meth := k1m2) (c := k1c2) (by decide +kernel) rfl rfl rfl (by decide +kernel)
set_option maxRecDepth 65536 in
theorem w_c1 : (Jvm.Cond.code ({ cls := "com/example/triview/triview/VocabularyIsSchemaPropertyPinLaw", name := "pick", desc := "(IIIIIII)I" } : Jvm.MethodName) method_2_code (7 : Nat) (Option.some Jvm.ClassFile.FieldType.int)).before args0 about1 = true := code_word (m := ⟨1, 1⟩) (meth := k1m1) (c := k1c1) (by decide +kernel) rfl rfl rfl (by decide +kernel)
set_option maxRecDepth 65536 in
theorem w_c2 : (Jvm.Cond.code ({ cls := "com/example/triview/triview/Vocabulary", name := "<init>", desc := "(IIIII)V" } : Jvm.MethodName) prog_54_method_1_code (6 : Nat) (Option.none : Option Jvm.ClassFile.FieldType)).before args0 about1 = true := code_word (m := ⟨3, 0⟩) (meth := k3m0) (c := k3c0) (by decide +kernel) rfl rfl rfl (by decide +kernel)
set_option maxRecDepth 65536 in
theorem w_c3 : (Jvm.Cond.code ({ cls := "java/lang/Record", name := "<init>", desc := "()V" } : Jvm.MethodName) jdk_30_method_1_code (1 : Nat) (Option.none : Option Jvm.ClassFile.FieldType)).before args0 about1 = true := code_word (m := ⟨2, 0⟩) (meth := k2m0) (c := k2c0) (by decide +kernel) rfl rfl rfl (by decide +kernel)
set_option maxRecDepth 65536 in
theorem w_c4 : (Jvm.Cond.code ({ cls := "java/lang/Object", name := "<init>", desc := "()V" } : Jvm.MethodName) object_method_1_code (1 : Nat) (Option.none : Option Jvm.ClassFile.FieldType)).before args0 about1 = true := code_word (m := ⟨0, 0⟩) (meth := k0m0) (c := k0c0) (by decide +kernel) rfl rfl rfl (by decide +kernel)
set_option maxRecDepth 65536 in
theorem w_c5 : (Jvm.Cond.code ({ cls := "com/example/triview/triview/Vocabulary", name := "isSchemaProperty", desc := "(I)Z" } : Jvm.MethodName) prog_54_method_4_code (2 : Nat) (Option.some Jvm.ClassFile.FieldType.boolean)).before args0 about1 = true := code_word (m := ⟨3, 1⟩) (meth := k3m1) (c := k3c1) (by decide +kernel) rfl rfl rfl (by decide +kernel)
def codes1 : List Jvm.Cond := [Jvm.Cond.code x code maxLocals ret, Jvm.Cond.code ({ cls := "com/example/triview/triview/VocabularyIsSchemaPropertyPinLaw", name := "pick", desc := "(IIIIIII)I" } : Jvm.MethodName) method_2_code (7 : Nat) (Option.some Jvm.ClassFile.FieldType.int), Jvm.Cond.code ({ cls := "com/example/triview/triview/Vocabulary", name := "<init>", desc := "(IIIII)V" } : Jvm.MethodName) prog_54_method_1_code (6 : Nat) (Option.none : Option Jvm.ClassFile.FieldType), Jvm.Cond.code ({ cls := "java/lang/Record", name := "<init>", desc := "()V" } : Jvm.MethodName) jdk_30_method_1_code (1 : Nat) (Option.none : Option Jvm.ClassFile.FieldType), Jvm.Cond.code ({ cls := "java/lang/Object", name := "<init>", desc := "()V" } : Jvm.MethodName) object_method_1_code (1 : Nat) (Option.none : Option Jvm.ClassFile.FieldType), Jvm.Cond.code ({ cls := "com/example/triview/triview/Vocabulary", name := "isSchemaProperty", desc := "(I)Z" } : Jvm.MethodName) prog_54_method_4_code (2 : Nat) (Option.some Jvm.ClassFile.FieldType.boolean)]
set_option maxRecDepth 65536 in
theorem codes_eq : words1.filter isCode = codes1 := rfl
theorem w_codes : ∀ c ∈ words1.filter isCode, c.before args0 about1 = true := by
  rw [codes_eq]
  intro c hc
  simp only [codes1, List.mem_cons, List.not_mem_nil, or_false] at hc
  rcases hc with rfl | rfl | rfl | rfl | rfl | rfl
  · exact w_c0
  · exact w_c1
  · exact w_c2
  · exact w_c3
  · exact w_c4
  · exact w_c5
set_option maxRecDepth 65536 in
theorem w_t1 : (words1.take 24).all (fun c => isCode c || c.before args0 about1) = true := by decide +kernel
set_option maxRecDepth 65536 in
theorem w_t2 : (words1.drop 24).all (fun c => isCode c || c.before args0 about1) = true := by decide +kernel
theorem w_tables : (allAtoms (Jvm.Cond.code x code maxLocals ret :: tables_1)).before args0 about1 = true := by
  rw [allAtoms_all]
  show words1.all (fun c => c.before args0 about1) = true
  refine all_split ?_ w_codes
  rw [← List.take_append_drop 24 words1, List.all_append, w_t1, w_t2]
  rfl
set_option maxRecDepth 65536 in
theorem w_case : (Jvm.Cond.and given_1 narrow_1).before args0 about1 = true := by decide +kernel
theorem w_applies : (headSpec (Jvm.Cond.code x code maxLocals ret :: tables_1) room_1).applies x e0.platform about1 = true :=
  (Spec.applies_iff w_frames).mpr ⟨w_running, w_runnable, w_alone, w_named, w_hears, w_ripe, w_room, w_tables⟩
theorem atStart : AtStart classFile x code maxLocals ret World_1 tables_1 room_1 Calls_1 rest_1 Pre_1 launch0 p0 e0 about1 theMethod args0 below0 :=
  ⟨lists_1, trivial, launch0.admits_env _ _ _, launch0.least_env, fairChoices_fair.cas, fairChoices_fair.clock, w_frames, w_args, w_heap, w_applies, trivial, trivial, w_case⟩
end start1
theorem witness_1 : WitnessClaimed_1 := ⟨start1.p0, start1.e0, start1.about1, start1.theMethod, start1.args0, start1.below0, start1.atStart⟩
end Jvm.Pilot.@@N@@
