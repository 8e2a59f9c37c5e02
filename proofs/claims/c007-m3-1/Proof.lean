import JvmDerived
import JvmDerived.Pilot.@@N@@Statement
import JvmDerived.Pilot.@@N@@Code
set_option linter.unusedVariables false
set_option linter.unusedSimpArgs false
namespace Jvm.Pilot.@@N@@
open Jvm Jvm.ClassFile Sem Op Lib Jvm.Free Jvm.Stand Jvm.LawKit Jvm.RoadKit Bundle Jvm.Pilot.@@N@@.Jvm.D
/-! ## Own: a walk forward: from here the run comes to an end that K takes -/
section Own
variable {p : Program} {l : Launch} {e : Env} {R : Room} {s : State} {m : MethodId} {args : Array Value} {below : List Frame} {meth : Method} {c : Code} {T : State} {locs : List Loc} {cells slots : Nat} {K : State → Prop}
def Go (p : Program) (e : Env) (below : List Frame) (K : State → Prop) (S : State) : Prop := ∃ t, Steps p.tables e below S t ∧ K t
theorem go {S S' : State} (h : ∀ t, Steps p.tables e below S' t → Steps p.tables e below S t) (g : Go p e below K S') : Go p e below K S := by
  obtain ⟨t, h1, h2⟩ := g
  exact ⟨t, h t h1, h2⟩
/-- the end of a body: what is returned, the heap and the written places fulfil Q, within so many cells and slots -/
def Dn (below : List Frame) (s : State) (Q : Option Value → Heap → List Loc → Prop) (C N : Nat) (t : State) : Prop := ∃ v L, t.status = .running ∧ Ended t below (.returned v) ∧ Q v t.heap L ∧ FrameEnd s (.returned v) t L C N
variable {Q : Option Value → Heap → List Loc → Prop} {C N : Nat}
theorem own_retI (X : Stand p l e R s m args below meth c T locs cells slots) (hx : p.tables.exec = Jvm.exec) (hlk : meth.locks = false) {pc : Nat} {Ls : Array Slot} {z : Int32} {rest : List Value} (hret : meth.sig.returnType = some .int) (hd : decode c.code pc = .ok (.ireturn, 1))
    (hC : cells ≤ C) (hN : slots ≤ N) (hQ : Q (some (.int z)) T.heap locs) : Go p e below (Dn below s Q C N) (T.setTop (mkF m pc Ls (.int z :: rest))) := by
  obtain ⟨fs, hr, hrun, hended, hW, hsame⟩ := X.leave (v := some (.int z)) (fun h => by rw [hret] at h; cases h) hlk
  refine ⟨_, ?_, _, _, hrun, hended, hQ, ⟨_, rfl⟩, hW, hsame.mono hC hN⟩
  have hm' : T.vm.method? m = some meth := X.method'
  have hn : narrow .int (.int z) = .int z := rfl
  show Steps p.tables e below (T.setTop { method := m, pc := pc, locals := Ls, stack := _ :: rest, locked := none }) _
  jvm_step X.here [X.here.top, hx, hd, hm', hret, hn]
  first | (intro acts; rw [hr _ acts rfl rfl rfl]) | rw [hr _ _ rfl rfl rfl]
  exact Steps.refl _
theorem own_retZ (X : Stand p l e R s m args below meth c T locs cells slots) (hx : p.tables.exec = Jvm.exec) (hlk : meth.locks = false) {pc : Nat} {Ls : Array Slot} {z z' : Int32} {rest : List Value} (hret : meth.sig.returnType = some .boolean) (hd : decode c.code pc = .ok (.ireturn, 1))
    (hC : cells ≤ C) (hN : slots ≤ N) (hz : nar .boolean z = z') (hQ : Q (some (.int z')) T.heap locs) : Go p e below (Dn below s Q C N) (T.setTop (mkF m pc Ls (.int z :: rest))) := by
  subst hz
  obtain ⟨fs, hr, hrun, hended, hW, hsame⟩ := X.leave (v := some (.int (nar .boolean z))) (fun h => by rw [hret] at h; cases h) hlk
  exact ⟨_, retN X hx (t := .boolean) hret (by simp) hd hr, _, _, hrun, hended, hQ, ⟨_, rfl⟩, hW, hsame.mono hC hN⟩
theorem own_retJ (X : Stand p l e R s m args below meth c T locs cells slots) (hx : p.tables.exec = Jvm.exec) (hlk : meth.locks = false) {pc : Nat} {Ls : Array Slot} {z : Int64} (hret : meth.sig.returnType = some .long) (hd : decode c.code pc = .ok (.lreturn, 1))
    (hC : cells ≤ C) (hN : slots ≤ N) (hQ : Q (some (.long z)) T.heap locs) : Go p e below (Dn below s Q C N) (T.setTop (mkF m pc Ls [.long z])) := by
  obtain ⟨fs, hr, hrun, hended, hW, hsame⟩ := X.leave (v := some (.long z)) (fun h => by rw [hret] at h; cases h) hlk
  exact ⟨_, X.lreturnOut hx hret hd hr, _, _, hrun, hended, hQ, ⟨_, rfl⟩, hW, hsame.mono hC hN⟩
theorem own_retA (X : Stand p l e R s m args below meth c T locs cells slots) (hx : p.tables.exec = Jvm.exec) (hlk : meth.locks = false) {pc : Nat} {Ls : Array Slot} {w : Value} {t : FieldType} (hw : w.isRef = true) (hret : meth.sig.returnType = some t) (ht : t.isReference = true) (hd : decode c.code pc = .ok (.areturn, 1))
    (hC : cells ≤ C) (hN : slots ≤ N) (hQ : Q (some w) T.heap locs) : Go p e below (Dn below s Q C N) (T.setTop (mkF m pc Ls [w])) := by
  obtain ⟨fs, hr, hrun, hended, hW, hsame⟩ := X.leave (v := some w) (fun h => by rw [hret] at h; cases h) hlk
  exact ⟨_, X.areturnOut hx hw hret ht hd hr, _, _, hrun, hended, hQ, ⟨_, rfl⟩, hW, hsame.mono hC hN⟩
theorem own_retV (X : Stand p l e R s m args below meth c T locs cells slots) (hx : p.tables.exec = Jvm.exec) (hlk : meth.locks = false) {pc : Nat} {Ls : Array Slot} (hret : meth.sig.returnType = none) (hd : decode c.code pc = .ok (.return_, 1))
    (hC : cells ≤ C) (hN : slots ≤ N) (hQ : Q none T.heap locs) : Go p e below (Dn below s Q C N) (T.setTop (mkF m pc Ls [])) := by
  obtain ⟨fs, hr, hrun, hended, hW, hsame⟩ := X.leave (v := none) (fun _ => rfl) hlk
  exact ⟨_, X.returnOut hx hret hd hr, _, _, hrun, hended, hQ, ⟨_, rfl⟩, hW, hsame.mono hC hN⟩
theorem own_lrem {g : JFrame} {target : State} (X : Stand p l e R s m args below meth c T locs cells slots) (hx : p.tables.exec = Jvm.exec) (hg : g.method = m) {x y : Int64} {rest : List Value} (hd : decode c.code g.pc = .ok (.lrem, 1)) (hs : g.stack = .long y :: .long x :: rest) (hy : y ≠ 0)
    (hr : Steps p.tables e below (T.setTop { g with pc := g.pc + 1, stack := .long (x % y) :: rest }) target) : Steps p.tables e below (T.setTop g) target := by
  have q : x - x / y * y = x % y := lrem_mod x y
  exact XS.lrem X.here hx hg hd hs hy (by rw [q]; exact hr)
/-- what a body's walk is handed -/
theorem own_met {x : MethodName} {code : ByteArray} {maxL : Nat} {ret : Option FieldType} {ws : List Jvm.Cond} {as' : Array Value} {L0 : Array Slot} {Z : State} {h0 : Heap} (hpl : plainFor x = true) (hef : ∀ m, entryFrame m as' maxL = mkF m 0 L0 [])
    (body : ∀ (p : Program) (e : Env) (s : State) (m : MethodId) (below : List Frame) (meth : Method) (c : Code) (T : State), p.tables.exec = Jvm.exec → c.code = code → c.maxLocals = maxL → s.vm.findClass x.cls = some m.cls → meth.name = x.name → meth.sig.returnType = ret → meth.locks = false → Z.Warmed39 s.vm →
      Stand p l e R s m as' below meth c T [] 0 0 → T.heap = h0 → Go p e below (Dn below s Q R.cells R.slots) (T.setTop (mkF m 0 L0 []))) :
    MetFree l x (head1 (Jvm.Cond.code x code maxL ret :: ws) R) (fun a U => a = as' ∧ Z.Warmed39 U.vm ∧ U.heap = h0) (fun _ _ _ _ _ => True) (fun _ U o U' => ∃ v L, o = .returned v ∧ Q v U'.heap L ∧ FrameEnd U o U' L R.cells R.slots) := by
  refine MetFree.of_bodySF hpl hisR ?_
  intro p e s m args below meth c s₁ Bd hml0 hP hK
  obtain ⟨rfl, hZ, hh⟩ := hP
  obtain ⟨t, h1, v, L, h2, h3, h4, h5⟩ := body p e s m below meth c s₁ Bd.exec Bd.bytes hml0 (findClass_of_methodNamed Bd.named) (name_of_methodNamed Bd.named Bd.method).1 Bd.returns (BodyLoose.notSynchronized Bd) hZ (Stand.of_body Bd) (by rw [← hh, Bd.state]; rfl)
  exact ⟨t, .returned v, castTop (hef m) h1, h2, h3, v, L, rfl, h4, h5⟩
section Calls
variable {Z : State} {a0 : Array Value} {own : String} {idx : Nat} {y : MethodName} {bytes : ByteArray} {maxL W : Nat} {ret : Option FieldType} {rm : Room} {as' : Array Value} {h : Heap}
/-- a static call by the callee's contract -/
theorem own_callS (X : Stand p l e R s m args below meth c T locs cells slots) (hx : p.tables.exec = Jvm.exec) (hZ : Z.Warmed39 s.vm) (hown : s.vm.findClass own = some m.cls) (eT : T.heap = h)
    (w1 : (Jvm.Cond.methodLink own idx y).before a0 Z = true) (w2 : (Jvm.Cond.static y).before a0 Z = true) (w3 : (Jvm.Cond.initialized y.cls).before a0 Z = true) (w4 : (Jvm.Cond.code y bytes maxL ret).before a0 Z = true)
    (hM : MetFree l y (head1 [Jvm.Cond.code y bytes maxL ret] rm) (fun a U => a = as' ∧ Z.Warmed39 U.vm ∧ U.heap = h) (fun _ _ _ _ _ => True) (fun _ U o U' => ∃ v L, o = .returned v ∧ Q v U'.heap L ∧ FrameEnd U o U' L rm.cells rm.slots))
    (hy : y.cls ≠ "java/lang/invoke/MethodHandle" ∧ y.cls ≠ "java/lang/invoke/VarHandle") (hf : rm.frames + 1 ≤ R.frames) (hl : W + (maxL + 11) + rm.locals ≤ R.locals) (hc : cells + rm.cells ≤ R.cells) (hs : slots + rm.slots ≤ R.slots)
    {g : JFrame} (hg : g.method = m) (hsize : g.locals.size = c.maxLocals) {argsL rest : List Value} (hst : g.stack = argsL.reverse ++ rest) (has : argsL.toArray = as') (hlen : ∀ sig, parseMethodDescriptor y.desc = some sig → argsL.length = sig.parameters.length)
    (hW : 2 * g.monitorRoom + (rest.map fun v => v.category).sum ≤ W) (hd : decode c.code g.pc = .ok (.invokestatic idx, 3))
    (k : ∀ v T' L, Stand p l e R s m args below meth c T' (locs ++ L) (cells + rm.cells) (slots + rm.slots) → Q v T'.heap L → Go p e below K (T'.setTop { g with pc := g.pc + 3, stack := v.toList ++ rest })) : Go p e below K (T.setTop g) := by
  obtain ⟨v, _, ⟨T', L', k', n'⟩, -, X', ⟨Lc, hQ, l1, y1, z1⟩, st⟩ := Jvm.LawKit.callS X hx (y := y) hown (mvT hZ w1) (mvT hZ w2) (mvT hZ w3) (mvT hZ w4) hy (backOf (W := W) hM hZ w4 w3 hf hl) hg hsize hlen hst hW hd (fun _ _ => ⟨has, eT, hc, hs⟩)
  dsimp only [Pt.U, Pt.locs, Pt.cells, Pt.slots] at X' l1 y1 z1 st hQ
  subst l1 y1 z1
  exact go st (k _ _ _ X' hQ)
/-- a constructor by its contract -/
theorem own_callC (X : Stand p l e R s m args below meth c T locs cells slots) (hx : p.tables.exec = Jvm.exec) (hZ : Z.Warmed39 s.vm) (hown : s.vm.findClass own = some m.cls) (eT : T.heap = h)
    (w1 : (Jvm.Cond.methodLink own idx y).before a0 Z = true) (w2 : (Jvm.Cond.instanceMethod y).before a0 Z = true) (w3 : (Jvm.Cond.initialized y.cls).before a0 Z = true) (w4 : (Jvm.Cond.code y bytes maxL none).before a0 Z = true)
    (hM : MetFree l y (head1 [Jvm.Cond.code y bytes maxL none] rm) (fun a U => a = as' ∧ Z.Warmed39 U.vm ∧ U.heap = h) (fun _ _ _ _ _ => True) (fun _ U o U' => ∃ v L, o = .returned v ∧ Q v U'.heap L ∧ FrameEnd U o U' L rm.cells rm.slots))
    (hyn : y.name = "<init>") (hy : y.cls ≠ "java/lang/invoke/MethodHandle" ∧ y.cls ≠ "java/lang/invoke/VarHandle") (hf : rm.frames + 1 ≤ R.frames) (hl : W + (maxL + 11) + rm.locals ≤ R.locals) (hc : cells + rm.cells ≤ R.cells) (hs : slots + rm.slots ≤ R.slots)
    {g : JFrame} (hg : g.method = m) (hsize : g.locals.size = c.maxLocals) {a : Addr} {argsL rest : List Value} (hst : g.stack = argsL.reverse ++ .ref a :: rest) (has : (.ref a :: argsL).toArray = as') (hlen : ∀ sig, parseMethodDescriptor y.desc = some sig → argsL.length = sig.parameters.length)
    (hW : 2 * g.monitorRoom + (rest.map fun v => v.category).sum ≤ W) (hd : decode c.code g.pc = .ok (.invokespecial idx, 3))
    (k : ∀ v T' L, Stand p l e R s m args below meth c T' (locs ++ L) (cells + rm.cells) (slots + rm.slots) → Q v T'.heap L → Go p e below K (T'.setTop { g with pc := g.pc + 3, stack := v.toList ++ rest })) : Go p e below K (T.setTop g) := by
  obtain ⟨v, _, ⟨T', L', k', n'⟩, -, X', ⟨Lc, hQ, l1, y1, z1⟩, st⟩ := X.specialBack hx (y := y) hyn hown (mvT hZ w1) (mvT hZ w2) (mvT hZ w4) hy (backOf (W := W) hM hZ w4 w3 hf hl) hg hsize (Steps.refl _) (a := a) hlen hst hW hd (fun _ _ => ⟨has, eT, hc, hs⟩)
  dsimp only [Pt.U, Pt.locs, Pt.cells, Pt.slots] at X' l1 y1 z1 st hQ
  subst l1 y1 z1
  exact go (fun t q => st.trans q) (k _ _ _ X' hQ)
/-- a virtual call of a method that the receiver's class declares itself -/
theorem own_callV (X : Stand p l e R s m args below meth c T locs cells slots) (hx : p.tables.exec = Jvm.exec) (hZ : Z.Warmed39 s.vm) (hown : s.vm.findClass own = some m.cls) (eT : T.heap = h)
    (w1 : (Jvm.Cond.methodLink own idx y).before a0 Z = true) (w2 : (Jvm.Cond.declares y).before a0 Z = true) (w5 : (Jvm.Cond.instanceMethod y).before a0 Z = true) (w6 : (Jvm.Cond.selects y.cls y y).before a0 Z = true) (w3 : (Jvm.Cond.initialized y.cls).before a0 Z = true) (w4 : (Jvm.Cond.code y bytes maxL ret).before a0 Z = true)
    (hM : MetFree l y (head1 [Jvm.Cond.code y bytes maxL ret] rm) (fun a U => a = as' ∧ Z.Warmed39 U.vm ∧ U.heap = h) (fun _ _ _ _ _ => True) (fun _ U o U' => ∃ v L, o = .returned v ∧ Q v U'.heap L ∧ FrameEnd U o U' L rm.cells rm.slots))
    (hy : y.cls ≠ "java/lang/invoke/MethodHandle" ∧ y.cls ≠ "java/lang/invoke/VarHandle") (hf : rm.frames + 1 ≤ R.frames) (hl : W + (maxL + 11) + rm.locals ≤ R.locals) (hc : cells + rm.cells ≤ R.cells) (hs : slots + rm.slots ≤ R.slots)
    {a : Addr} (E : Exa Z h a y.cls) {g : JFrame} (hg : g.method = m) (hsize : g.locals.size = c.maxLocals) {argsL rest : List Value} (hst : g.stack = argsL.reverse ++ .ref a :: rest) (has : (.ref a :: argsL).toArray = as') (hlen : ∀ sig, parseMethodDescriptor y.desc = some sig → argsL.length = sig.parameters.length)
    (hW : 2 * g.monitorRoom + (rest.map fun v => v.category).sum ≤ W) (hd : decode c.code g.pc = .ok (.invokevirtual idx, 3))
    (k : ∀ v T' L, Stand p l e R s m args below meth c T' (locs ++ L) (cells + rm.cells) (slots + rm.slots) → Q v T'.heap L → Go p e below K (T'.setTop { g with pc := g.pc + 3, stack := v.toList ++ rest })) : Go p e below K (T.setTop g) := by
  obtain ⟨cq, kq, qa, qb, qc⟩ := isOf hZ eT E
  obtain ⟨v, _, ⟨T', L', k', n'⟩, -, X', ⟨Lc, hQ, l1, y1, z1⟩, st⟩ := X.virtualBack hx (y := y) (z := y) hown (mvT hZ w1) (mvT hZ w2) (notFace_of_selects (args := #[]) (mvT hZ w6)) (mvT hZ w6) (mvT hZ w5) hy (backOf (W := W) hM hZ w4 w3 hf hl) qa qc hg hsize (Steps.refl _) hlen hst hW hd (fun _ _ => ⟨has, eT, hc, hs⟩)
  dsimp only [Pt.U, Pt.locs, Pt.cells, Pt.slots] at X' l1 y1 z1 st hQ
  subst l1 y1 z1
  exact go (fun t q => st.trans q) (k _ _ _ X' hQ)
end Calls
end Own
/-- a body that writes nothing: it returns r, the heap is what it was -/
def QP (r : Option Value) (h0 : Heap) (n0 : Nat) (v : Option Value) (h : Heap) (L : List Loc) : Prop := v = r ∧ Fr n0 L ∧ h = h0

def own_four (a : Int32) : Prop := a = 0 ∨ a = 1 ∨ a = 2 ∨ a = 3
theorem own_j0 {a : Int32} (h : own_four a) : (¬ a < 0 ∧ a < 8) ∧ a.toNatClampNeg < 8 := by rcases h with rfl | rfl | rfl | rfl <;> decide
theorem own_j1 {a : Int32} (h : own_four a) : (¬ (a + (1 : Int32)) < 0 ∧ (a + (1 : Int32)) < 8) ∧ (a + (1 : Int32)).toNatClampNeg < 8 := by rcases h with rfl | rfl | rfl | rfl <;> decide
theorem own_j2 {a : Int32} (h : own_four a) : (¬ (a + (2 : Int32)) < 0 ∧ (a + (2 : Int32)) < 8) ∧ (a + (2 : Int32)).toNatClampNeg < 8 := by rcases h with rfl | rfl | rfl | rfl <;> decide
theorem own_j3 {a : Int32} (h : own_four a) : (¬ (a + (3 : Int32)) < 0 ∧ (a + (3 : Int32)) < 8) ∧ (a + (3 : Int32)).toNatClampNeg < 8 := by rcases h with rfl | rfl | rfl | rfl <;> decide
theorem own_i2 {a : Int32} (h : own_four a) : (¬ ((a + (1 : Int32)) + (1 : Int32)) < 0 ∧ ((a + (1 : Int32)) + (1 : Int32)) < 8) := by rcases h with rfl | rfl | rfl | rfl <;> decide
theorem own_i3 {a : Int32} (h : own_four a) : (¬ (((a + (1 : Int32)) + (1 : Int32)) + (1 : Int32)) < 0 ∧ (((a + (1 : Int32)) + (1 : Int32)) + (1 : Int32)) < 8) := by rcases h with rfl | rfl | rfl | rfl <;> decide
theorem d1_0 : decode prog_143_method_3_code 0 = .ok (.aload_n 0, 1) := by decide +kernel
theorem d1_1 : decode prog_143_method_3_code 1 = .ok (.iload_n 1, 1) := by decide +kernel
theorem d1_2 : decode prog_143_method_3_code 2 = .ok (.baload, 1) := by decide +kernel
theorem d1_3 : decode prog_143_method_3_code 3 = .ok (.sipush 255, 3) := by decide +kernel
theorem d1_6 : decode prog_143_method_3_code 6 = .ok (.iand, 1) := by decide +kernel
theorem d1_7 : decode prog_143_method_3_code 7 = .ok (.istore_n 3, 1) := by decide +kernel
theorem d1_8 : decode prog_143_method_3_code 8 = .ok (.iload_n 2, 1) := by decide +kernel
theorem d1_9 : decode prog_143_method_3_code 9 = .ok (.iconst 1, 1) := by decide +kernel
theorem d1_10 : decode prog_143_method_3_code 10 = .ok (.if_icmp .ne 7, 3) := by decide +kernel
theorem d1_13 : decode prog_143_method_3_code 13 = .ok (.iload_n 3, 1) := by decide +kernel
theorem d1_14 : decode prog_143_method_3_code 14 = .ok (.goto 12, 3) := by decide +kernel
theorem d1_17 : decode prog_143_method_3_code 17 = .ok (.iload_n 3, 1) := by decide +kernel
theorem d1_18 : decode prog_143_method_3_code 18 = .ok (.sipush 255, 3) := by decide +kernel
theorem d1_21 : decode prog_143_method_3_code 21 = .ok (.iload_n 2, 1) := by decide +kernel
theorem d1_22 : decode prog_143_method_3_code 22 = .ok (.iconst 1, 1) := by decide +kernel
theorem d1_23 : decode prog_143_method_3_code 23 = .ok (.iadd, 1) := by decide +kernel
theorem d1_24 : decode prog_143_method_3_code 24 = .ok (.iushr, 1) := by decide +kernel
theorem d1_25 : decode prog_143_method_3_code 25 = .ok (.iand, 1) := by decide +kernel
theorem d1_26 : decode prog_143_method_3_code 26 = .ok (.istore 4, 2) := by decide +kernel
theorem d1_28 : decode prog_143_method_3_code 28 = .ok (.iload_n 1, 1) := by decide +kernel
theorem d1_29 : decode prog_143_method_3_code 29 = .ok (.iconst 1, 1) := by decide +kernel
theorem d1_30 : decode prog_143_method_3_code 30 = .ok (.iadd, 1) := by decide +kernel
theorem d1_31 : decode prog_143_method_3_code 31 = .ok (.istore 5, 2) := by decide +kernel
theorem d1_33 : decode prog_143_method_3_code 33 = .ok (.iload 5, 2) := by decide +kernel
theorem d1_35 : decode prog_143_method_3_code 35 = .ok (.iload_n 1, 1) := by decide +kernel
theorem d1_36 : decode prog_143_method_3_code 36 = .ok (.iload_n 2, 1) := by decide +kernel
theorem d1_37 : decode prog_143_method_3_code 37 = .ok (.iadd, 1) := by decide +kernel
theorem d1_38 : decode prog_143_method_3_code 38 = .ok (.if_icmp .ge 24, 3) := by decide +kernel
theorem d1_41 : decode prog_143_method_3_code 41 = .ok (.iload 4, 2) := by decide +kernel
theorem d1_43 : decode prog_143_method_3_code 43 = .ok (.bipush 6, 2) := by decide +kernel
theorem d1_45 : decode prog_143_method_3_code 45 = .ok (.ishl, 1) := by decide +kernel
theorem d1_46 : decode prog_143_method_3_code 46 = .ok (.aload_n 0, 1) := by decide +kernel
theorem d1_47 : decode prog_143_method_3_code 47 = .ok (.iload 5, 2) := by decide +kernel
theorem d1_49 : decode prog_143_method_3_code 49 = .ok (.baload, 1) := by decide +kernel
theorem d1_50 : decode prog_143_method_3_code 50 = .ok (.bipush 63, 2) := by decide +kernel
theorem d1_52 : decode prog_143_method_3_code 52 = .ok (.iand, 1) := by decide +kernel
theorem d1_53 : decode prog_143_method_3_code 53 = .ok (.ior, 1) := by decide +kernel
theorem d1_54 : decode prog_143_method_3_code 54 = .ok (.istore 4, 2) := by decide +kernel
theorem d1_56 : decode prog_143_method_3_code 56 = .ok (.iinc 5 1, 3) := by decide +kernel
theorem d1_59 : decode prog_143_method_3_code 59 = .ok (.goto (-26), 3) := by decide +kernel
theorem d1_62 : decode prog_143_method_3_code 62 = .ok (.iload 4, 2) := by decide +kernel
theorem d1_64 : decode prog_143_method_3_code 64 = .ok (.ireturn, 1) := by decide +kernel
theorem pn_1 : plainName "com/example/skipstone/skipstone/Utf8" = true := by first | (simp [plainName, overriddenIn]; done) | decide +kernel
theorem ef_1 (m : MethodId) (x0 : Addr) (x1 : Int32) (x2 : Int32) : entryFrame m #[(.ref x0), (.int x1), (.int x2)] 6 = mkF m 0 #[.val (.ref x0), .val (.int x1), .val (.int x2), .unset, .unset, .unset] [] := by first | (simp [entryFrame, mkF, argsToLocals, Value.category]; done) | rfl
def g1 (y0 : Int32) : Int32 := (y0 &&& (255 : Int32))
set_option maxRecDepth 65536 in
set_option maxHeartbeats 40000000 in
theorem rm1_1 (l : Launch) (Z : State) (a0 : Array Value) (hw : ∀ d ∈ tables_1, d.before a0 Z = true) (ws : List Jvm.Cond) (a1 : Addr) (p2 : Int32) (h0 : Heap) (n0 : Nat) {cl : Cell} {y0 : Int32} (h4 : own_four p2) (Ar_ : Arr Z h0 a1 cl .byte) (S : cl.slots.size = (8 : Int32).toNatClampNeg) (hat0 : cl.slots[(p2).toNatClampNeg]? = some (.int y0)) :
    MetFree l (⟨"com/example/skipstone/skipstone/Utf8", "codePoint", "([BII)I"⟩ : MethodName) (head1 (Jvm.Cond.code (⟨"com/example/skipstone/skipstone/Utf8", "codePoint", "([BII)I"⟩ : MethodName) prog_143_method_3_code 6 (some .int) :: ws) ({ frames := 0, cells := 0, slots := 0, locals := 0 } : Room)) (fun a U => a = #[(.ref a1), (.int p2), (.int (1 : Int32))] ∧ Z.Warmed39 U.vm ∧ U.heap = h0) (fun _ _ _ _ _ => True) (fun _ U o U' => ∃ v L, o = .returned v ∧ (QP (some (.int (g1 y0))) h0 n0) v U'.heap L ∧ FrameEnd U o U' L ({ frames := 0, cells := 0, slots := 0, locals := 0 } : Room).cells ({ frames := 0, cells := 0, slots := 0, locals := 0 } : Room).slots) := by
  refine own_met (plainFor_of_name pn_1) (fun m => ef_1 m a1 p2 (1 : Int32)) ?_
  intro p e s m below meth c T0 hx hby hml hown hnm hret hlk hZ X0 e0
  have hown : s.vm.findClass "com/example/skipstone/skipstone/Utf8" = some m.cls := hown
  have hnm : meth.name = "codePoint" := hnm
  have hret : meth.sig.returnType = some .int := hret
  have N0 := Fr.nil n0
  show Go p e below _ (T0.setTop (mkF m 0 #[.val (.ref a1), .val (.int p2), .val (.int (1 : Int32)), .unset, .unset, .unset] []))
  refine go (fun _ q => XS.aloadN X0.here hx rfl (hb hby d1_0) rfl rfl q) ?_
  show Go p e below _ (T0.setTop (mkF m 1 #[.val (.ref a1), .val (.int p2), .val (.int (1 : Int32)), .unset, .unset, .unset] [(.ref a1)]))
  refine go (fun _ q => XS.iloadN X0.here hx rfl (hb hby d1_1) rfl q) ?_
  show Go p e below _ (T0.setTop (mkF m 2 #[.val (.ref a1), .val (.int p2), .val (.int (1 : Int32)), .unset, .unset, .unset] [(.int p2), (.ref a1)]))
  refine go (X0.baloadBytes hx (j := p2) (v := (.int y0)) (by rw [e0]; exact Ar_.1) (State.isArrayOf_alike hZ.alike Ar_.2.1) Ar_.2.2 (inb_of S (own_j0 h4).1) hat0 (g := (mkF m 2 #[.val (.ref a1), .val (.int p2), .val (.int (1 : Int32)), .unset, .unset, .unset] [(.int p2), (.ref a1)])) rfl rfl (hb hby d1_2)) ?_
  show Go p e below _ (T0.setTop (mkF m 3 #[.val (.ref a1), .val (.int p2), .val (.int (1 : Int32)), .unset, .unset, .unset] [(.int y0)]))
  refine go (fun _ q => XS.sipush X0.here hx rfl (hb hby d1_3) q) ?_
  show Go p e below _ (T0.setTop (mkF m 6 #[.val (.ref a1), .val (.int p2), .val (.int (1 : Int32)), .unset, .unset, .unset] [(.int (255 : Int32)), (.int y0)]))
  refine go (fun _ q => XS.iand X0.here hx rfl (hb hby d1_6) rfl q) ?_
  show Go p e below _ (T0.setTop (mkF m 7 #[.val (.ref a1), .val (.int p2), .val (.int (1 : Int32)), .unset, .unset, .unset] [(.int (y0 &&& (255 : Int32)))]))
  refine go (fun _ q => XS.istoreN X0.here hx rfl (hb hby d1_7) rfl (l' := #[.val (.ref a1), .val (.int p2), .val (.int (1 : Int32)), .val (.int (y0 &&& (255 : Int32))), .unset, .unset]) rfl q) ?_
  show Go p e below _ (T0.setTop (mkF m 8 #[.val (.ref a1), .val (.int p2), .val (.int (1 : Int32)), .val (.int (y0 &&& (255 : Int32))), .unset, .unset] []))
  refine go (fun _ q => XS.iloadN X0.here hx rfl (hb hby d1_8) rfl q) ?_
  show Go p e below _ (T0.setTop (mkF m 9 #[.val (.ref a1), .val (.int p2), .val (.int (1 : Int32)), .val (.int (y0 &&& (255 : Int32))), .unset, .unset] [(.int (1 : Int32))]))
  refine go (fun _ q => XS.iconst X0.here hx rfl (hb hby d1_9) q) ?_
  show Go p e below _ (T0.setTop (mkF m 10 #[.val (.ref a1), .val (.int p2), .val (.int (1 : Int32)), .val (.int (y0 &&& (255 : Int32))), .unset, .unset] [(.int (1 : Int32)), (.int (1 : Int32))]))
  refine go (fun _ q => XS.icmpNo X0.here hx rfl (hb hby d1_10) rfl (teq (by decide : (1 : Int32) = (1 : Int32))).2 q) ?_
  show Go p e below _ (T0.setTop (mkF m 13 #[.val (.ref a1), .val (.int p2), .val (.int (1 : Int32)), .val (.int (y0 &&& (255 : Int32))), .unset, .unset] []))
  refine go (fun _ q => XS.iloadN X0.here hx rfl (hb hby d1_13) rfl q) ?_
  show Go p e below _ (T0.setTop (mkF m 14 #[.val (.ref a1), .val (.int p2), .val (.int (1 : Int32)), .val (.int (y0 &&& (255 : Int32))), .unset, .unset] [(.int (y0 &&& (255 : Int32)))]))
  refine go (fun _ q => XS.goto X0.here hx rfl (pc0 := 14) (pc' := 26) rfl (hb hby d1_14) (by decide) (by decide) q) ?_
  show Go p e below _ (T0.setTop (mkF m 26 #[.val (.ref a1), .val (.int p2), .val (.int (1 : Int32)), .val (.int (y0 &&& (255 : Int32))), .unset, .unset] [(.int (y0 &&& (255 : Int32)))]))
  refine go (fun _ q => XS.istore X0.here hx rfl (hb hby d1_26) rfl (l' := #[.val (.ref a1), .val (.int p2), .val (.int (1 : Int32)), .val (.int (y0 &&& (255 : Int32))), .val (.int (y0 &&& (255 : Int32))), .unset]) rfl q) ?_
  show Go p e below _ (T0.setTop (mkF m 28 #[.val (.ref a1), .val (.int p2), .val (.int (1 : Int32)), .val (.int (y0 &&& (255 : Int32))), .val (.int (y0 &&& (255 : Int32))), .unset] []))
  refine go (fun _ q => XS.iloadN X0.here hx rfl (hb hby d1_28) rfl q) ?_
  show Go p e below _ (T0.setTop (mkF m 29 #[.val (.ref a1), .val (.int p2), .val (.int (1 : Int32)), .val (.int (y0 &&& (255 : Int32))), .val (.int (y0 &&& (255 : Int32))), .unset] [(.int p2)]))
  refine go (fun _ q => XS.iconst X0.here hx rfl (hb hby d1_29) q) ?_
  show Go p e below _ (T0.setTop (mkF m 30 #[.val (.ref a1), .val (.int p2), .val (.int (1 : Int32)), .val (.int (y0 &&& (255 : Int32))), .val (.int (y0 &&& (255 : Int32))), .unset] [(.int (1 : Int32)), (.int p2)]))
  refine go (fun _ q => XS.iadd X0.here hx rfl (hb hby d1_30) rfl q) ?_
  show Go p e below _ (T0.setTop (mkF m 31 #[.val (.ref a1), .val (.int p2), .val (.int (1 : Int32)), .val (.int (y0 &&& (255 : Int32))), .val (.int (y0 &&& (255 : Int32))), .unset] [(.int (p2 + (1 : Int32)))]))
  refine go (fun _ q => XS.istore X0.here hx rfl (hb hby d1_31) rfl (l' := #[.val (.ref a1), .val (.int p2), .val (.int (1 : Int32)), .val (.int (y0 &&& (255 : Int32))), .val (.int (y0 &&& (255 : Int32))), .val (.int (p2 + (1 : Int32)))]) rfl q) ?_
  show Go p e below _ (T0.setTop (mkF m 33 #[.val (.ref a1), .val (.int p2), .val (.int (1 : Int32)), .val (.int (y0 &&& (255 : Int32))), .val (.int (y0 &&& (255 : Int32))), .val (.int (p2 + (1 : Int32)))] []))
  refine go (fun _ q => XS.iload X0.here hx rfl (hb hby d1_33) rfl q) ?_
  show Go p e below _ (T0.setTop (mkF m 35 #[.val (.ref a1), .val (.int p2), .val (.int (1 : Int32)), .val (.int (y0 &&& (255 : Int32))), .val (.int (y0 &&& (255 : Int32))), .val (.int (p2 + (1 : Int32)))] [(.int (p2 + (1 : Int32)))]))
  refine go (fun _ q => XS.iloadN X0.here hx rfl (hb hby d1_35) rfl q) ?_
  show Go p e below _ (T0.setTop (mkF m 36 #[.val (.ref a1), .val (.int p2), .val (.int (1 : Int32)), .val (.int (y0 &&& (255 : Int32))), .val (.int (y0 &&& (255 : Int32))), .val (.int (p2 + (1 : Int32)))] [(.int p2), (.int (p2 + (1 : Int32)))]))
  refine go (fun _ q => XS.iloadN X0.here hx rfl (hb hby d1_36) rfl q) ?_
  show Go p e below _ (T0.setTop (mkF m 37 #[.val (.ref a1), .val (.int p2), .val (.int (1 : Int32)), .val (.int (y0 &&& (255 : Int32))), .val (.int (y0 &&& (255 : Int32))), .val (.int (p2 + (1 : Int32)))] [(.int (1 : Int32)), (.int p2), (.int (p2 + (1 : Int32)))]))
  refine go (fun _ q => XS.iadd X0.here hx rfl (hb hby d1_37) rfl q) ?_
  show Go p e below _ (T0.setTop (mkF m 38 #[.val (.ref a1), .val (.int p2), .val (.int (1 : Int32)), .val (.int (y0 &&& (255 : Int32))), .val (.int (y0 &&& (255 : Int32))), .val (.int (p2 + (1 : Int32)))] [(.int (p2 + (1 : Int32))), (.int (p2 + (1 : Int32)))]))
  have hk1 : ¬ ((p2 + (1 : Int32)) < (p2 + (1 : Int32))) := by rcases h4 with rfl | rfl | rfl | rfl <;> decide
  refine go (fun _ q => XS.icmpYes X0.here hx rfl (pc0 := 38) (pc' := 62) rfl (hb hby d1_38) rfl (flt hk1).2.1 (by decide) (by decide) q) ?_
  show Go p e below _ (T0.setTop (mkF m 62 #[.val (.ref a1), .val (.int p2), .val (.int (1 : Int32)), .val (.int (y0 &&& (255 : Int32))), .val (.int (y0 &&& (255 : Int32))), .val (.int (p2 + (1 : Int32)))] []))
  refine go (fun _ q => XS.iload X0.here hx rfl (hb hby d1_62) rfl q) ?_
  show Go p e below _ (T0.setTop (mkF m 64 #[.val (.ref a1), .val (.int p2), .val (.int (1 : Int32)), .val (.int (y0 &&& (255 : Int32))), .val (.int (y0 &&& (255 : Int32))), .val (.int (p2 + (1 : Int32)))] [(.int (y0 &&& (255 : Int32)))]))
  exact own_retI X0 hx hlk hret (hb hby d1_64) (by decide) (by decide) ⟨congrArg (fun z => some (Value.int z)) (by rw [g1]), N0, e0⟩
def g2 (y0 y1 : Int32) : Int32 := (((((y0 &&& (255 : Int32)) &&& (31 : Int32)) <<< ((6 : Int32) &&& 31))) ||| (y1 &&& (63 : Int32)))
set_option maxRecDepth 65536 in
set_option maxHeartbeats 40000000 in
theorem rm1_2 (l : Launch) (Z : State) (a0 : Array Value) (hw : ∀ d ∈ tables_1, d.before a0 Z = true) (ws : List Jvm.Cond) (a1 : Addr) (p2 : Int32) (h0 : Heap) (n0 : Nat) {cl : Cell} {y0 y1 : Int32} (h4 : own_four p2) (Ar_ : Arr Z h0 a1 cl .byte) (S : cl.slots.size = (8 : Int32).toNatClampNeg) (hat0 : cl.slots[(p2).toNatClampNeg]? = some (.int y0)) (hat1 : cl.slots[((p2 + (1 : Int32))).toNatClampNeg]? = some (.int y1)) :
    MetFree l (⟨"com/example/skipstone/skipstone/Utf8", "codePoint", "([BII)I"⟩ : MethodName) (head1 (Jvm.Cond.code (⟨"com/example/skipstone/skipstone/Utf8", "codePoint", "([BII)I"⟩ : MethodName) prog_143_method_3_code 6 (some .int) :: ws) ({ frames := 0, cells := 0, slots := 0, locals := 0 } : Room)) (fun a U => a = #[(.ref a1), (.int p2), (.int (2 : Int32))] ∧ Z.Warmed39 U.vm ∧ U.heap = h0) (fun _ _ _ _ _ => True) (fun _ U o U' => ∃ v L, o = .returned v ∧ (QP (some (.int (g2 y0 y1))) h0 n0) v U'.heap L ∧ FrameEnd U o U' L ({ frames := 0, cells := 0, slots := 0, locals := 0 } : Room).cells ({ frames := 0, cells := 0, slots := 0, locals := 0 } : Room).slots) := by
  refine own_met (plainFor_of_name pn_1) (fun m => ef_1 m a1 p2 (2 : Int32)) ?_
  intro p e s m below meth c T0 hx hby hml hown hnm hret hlk hZ X0 e0
  have hown : s.vm.findClass "com/example/skipstone/skipstone/Utf8" = some m.cls := hown
  have hnm : meth.name = "codePoint" := hnm
  have hret : meth.sig.returnType = some .int := hret
  have N0 := Fr.nil n0
  show Go p e below _ (T0.setTop (mkF m 0 #[.val (.ref a1), .val (.int p2), .val (.int (2 : Int32)), .unset, .unset, .unset] []))
  refine go (fun _ q => XS.aloadN X0.here hx rfl (hb hby d1_0) rfl rfl q) ?_
  show Go p e below _ (T0.setTop (mkF m 1 #[.val (.ref a1), .val (.int p2), .val (.int (2 : Int32)), .unset, .unset, .unset] [(.ref a1)]))
  refine go (fun _ q => XS.iloadN X0.here hx rfl (hb hby d1_1) rfl q) ?_
  show Go p e below _ (T0.setTop (mkF m 2 #[.val (.ref a1), .val (.int p2), .val (.int (2 : Int32)), .unset, .unset, .unset] [(.int p2), (.ref a1)]))
  refine go (X0.baloadBytes hx (j := p2) (v := (.int y0)) (by rw [e0]; exact Ar_.1) (State.isArrayOf_alike hZ.alike Ar_.2.1) Ar_.2.2 (inb_of S (own_j0 h4).1) hat0 (g := (mkF m 2 #[.val (.ref a1), .val (.int p2), .val (.int (2 : Int32)), .unset, .unset, .unset] [(.int p2), (.ref a1)])) rfl rfl (hb hby d1_2)) ?_
  show Go p e below _ (T0.setTop (mkF m 3 #[.val (.ref a1), .val (.int p2), .val (.int (2 : Int32)), .unset, .unset, .unset] [(.int y0)]))
  refine go (fun _ q => XS.sipush X0.here hx rfl (hb hby d1_3) q) ?_
  show Go p e below _ (T0.setTop (mkF m 6 #[.val (.ref a1), .val (.int p2), .val (.int (2 : Int32)), .unset, .unset, .unset] [(.int (255 : Int32)), (.int y0)]))
  refine go (fun _ q => XS.iand X0.here hx rfl (hb hby d1_6) rfl q) ?_
  show Go p e below _ (T0.setTop (mkF m 7 #[.val (.ref a1), .val (.int p2), .val (.int (2 : Int32)), .unset, .unset, .unset] [(.int (y0 &&& (255 : Int32)))]))
  refine go (fun _ q => XS.istoreN X0.here hx rfl (hb hby d1_7) rfl (l' := #[.val (.ref a1), .val (.int p2), .val (.int (2 : Int32)), .val (.int (y0 &&& (255 : Int32))), .unset, .unset]) rfl q) ?_
  show Go p e below _ (T0.setTop (mkF m 8 #[.val (.ref a1), .val (.int p2), .val (.int (2 : Int32)), .val (.int (y0 &&& (255 : Int32))), .unset, .unset] []))
  refine go (fun _ q => XS.iloadN X0.here hx rfl (hb hby d1_8) rfl q) ?_
  show Go p e below _ (T0.setTop (mkF m 9 #[.val (.ref a1), .val (.int p2), .val (.int (2 : Int32)), .val (.int (y0 &&& (255 : Int32))), .unset, .unset] [(.int (2 : Int32))]))
  refine go (fun _ q => XS.iconst X0.here hx rfl (hb hby d1_9) q) ?_
  show Go p e below _ (T0.setTop (mkF m 10 #[.val (.ref a1), .val (.int p2), .val (.int (2 : Int32)), .val (.int (y0 &&& (255 : Int32))), .unset, .unset] [(.int (1 : Int32)), (.int (2 : Int32))]))
  refine go (fun _ q => XS.icmpYes X0.here hx rfl (pc0 := 10) (pc' := 17) rfl (hb hby d1_10) rfl (feq (by decide : ¬ ((2 : Int32) = (1 : Int32)))).2 (by decide) (by decide) q) ?_
  show Go p e below _ (T0.setTop (mkF m 17 #[.val (.ref a1), .val (.int p2), .val (.int (2 : Int32)), .val (.int (y0 &&& (255 : Int32))), .unset, .unset] []))
  refine go (fun _ q => XS.iloadN X0.here hx rfl (hb hby d1_17) rfl q) ?_
  show Go p e below _ (T0.setTop (mkF m 18 #[.val (.ref a1), .val (.int p2), .val (.int (2 : Int32)), .val (.int (y0 &&& (255 : Int32))), .unset, .unset] [(.int (y0 &&& (255 : Int32)))]))
  refine go (fun _ q => XS.sipush X0.here hx rfl (hb hby d1_18) q) ?_
  show Go p e below _ (T0.setTop (mkF m 21 #[.val (.ref a1), .val (.int p2), .val (.int (2 : Int32)), .val (.int (y0 &&& (255 : Int32))), .unset, .unset] [(.int (255 : Int32)), (.int (y0 &&& (255 : Int32)))]))
  refine go (fun _ q => XS.iloadN X0.here hx rfl (hb hby d1_21) rfl q) ?_
  show Go p e below _ (T0.setTop (mkF m 22 #[.val (.ref a1), .val (.int p2), .val (.int (2 : Int32)), .val (.int (y0 &&& (255 : Int32))), .unset, .unset] [(.int (2 : Int32)), (.int (255 : Int32)), (.int (y0 &&& (255 : Int32)))]))
  refine go (fun _ q => XS.iconst X0.here hx rfl (hb hby d1_22) q) ?_
  show Go p e below _ (T0.setTop (mkF m 23 #[.val (.ref a1), .val (.int p2), .val (.int (2 : Int32)), .val (.int (y0 &&& (255 : Int32))), .unset, .unset] [(.int (1 : Int32)), (.int (2 : Int32)), (.int (255 : Int32)), (.int (y0 &&& (255 : Int32)))]))
  refine go (fun _ q => XS.iadd X0.here hx rfl (hb hby d1_23) rfl q) ?_
  show Go p e below _ (T0.setTop (mkF m 24 #[.val (.ref a1), .val (.int p2), .val (.int (2 : Int32)), .val (.int (y0 &&& (255 : Int32))), .unset, .unset] [(.int (3 : Int32)), (.int (255 : Int32)), (.int (y0 &&& (255 : Int32)))]))
  refine go (fun _ q => XS.iushr X0.here hx rfl (hb hby d1_24) rfl q) ?_
  show Go p e below _ (T0.setTop (mkF m 25 #[.val (.ref a1), .val (.int p2), .val (.int (2 : Int32)), .val (.int (y0 &&& (255 : Int32))), .unset, .unset] [(.int (31 : Int32)), (.int (y0 &&& (255 : Int32)))]))
  refine go (fun _ q => XS.iand X0.here hx rfl (hb hby d1_25) rfl q) ?_
  show Go p e below _ (T0.setTop (mkF m 26 #[.val (.ref a1), .val (.int p2), .val (.int (2 : Int32)), .val (.int (y0 &&& (255 : Int32))), .unset, .unset] [(.int ((y0 &&& (255 : Int32)) &&& (31 : Int32)))]))
  refine go (fun _ q => XS.istore X0.here hx rfl (hb hby d1_26) rfl (l' := #[.val (.ref a1), .val (.int p2), .val (.int (2 : Int32)), .val (.int (y0 &&& (255 : Int32))), .val (.int ((y0 &&& (255 : Int32)) &&& (31 : Int32))), .unset]) rfl q) ?_
  show Go p e below _ (T0.setTop (mkF m 28 #[.val (.ref a1), .val (.int p2), .val (.int (2 : Int32)), .val (.int (y0 &&& (255 : Int32))), .val (.int ((y0 &&& (255 : Int32)) &&& (31 : Int32))), .unset] []))
  refine go (fun _ q => XS.iloadN X0.here hx rfl (hb hby d1_28) rfl q) ?_
  show Go p e below _ (T0.setTop (mkF m 29 #[.val (.ref a1), .val (.int p2), .val (.int (2 : Int32)), .val (.int (y0 &&& (255 : Int32))), .val (.int ((y0 &&& (255 : Int32)) &&& (31 : Int32))), .unset] [(.int p2)]))
  refine go (fun _ q => XS.iconst X0.here hx rfl (hb hby d1_29) q) ?_
  show Go p e below _ (T0.setTop (mkF m 30 #[.val (.ref a1), .val (.int p2), .val (.int (2 : Int32)), .val (.int (y0 &&& (255 : Int32))), .val (.int ((y0 &&& (255 : Int32)) &&& (31 : Int32))), .unset] [(.int (1 : Int32)), (.int p2)]))
  refine go (fun _ q => XS.iadd X0.here hx rfl (hb hby d1_30) rfl q) ?_
  show Go p e below _ (T0.setTop (mkF m 31 #[.val (.ref a1), .val (.int p2), .val (.int (2 : Int32)), .val (.int (y0 &&& (255 : Int32))), .val (.int ((y0 &&& (255 : Int32)) &&& (31 : Int32))), .unset] [(.int (p2 + (1 : Int32)))]))
  refine go (fun _ q => XS.istore X0.here hx rfl (hb hby d1_31) rfl (l' := #[.val (.ref a1), .val (.int p2), .val (.int (2 : Int32)), .val (.int (y0 &&& (255 : Int32))), .val (.int ((y0 &&& (255 : Int32)) &&& (31 : Int32))), .val (.int (p2 + (1 : Int32)))]) rfl q) ?_
  show Go p e below _ (T0.setTop (mkF m 33 #[.val (.ref a1), .val (.int p2), .val (.int (2 : Int32)), .val (.int (y0 &&& (255 : Int32))), .val (.int ((y0 &&& (255 : Int32)) &&& (31 : Int32))), .val (.int (p2 + (1 : Int32)))] []))
  refine go (fun _ q => XS.iload X0.here hx rfl (hb hby d1_33) rfl q) ?_
  show Go p e below _ (T0.setTop (mkF m 35 #[.val (.ref a1), .val (.int p2), .val (.int (2 : Int32)), .val (.int (y0 &&& (255 : Int32))), .val (.int ((y0 &&& (255 : Int32)) &&& (31 : Int32))), .val (.int (p2 + (1 : Int32)))] [(.int (p2 + (1 : Int32)))]))
  refine go (fun _ q => XS.iloadN X0.here hx rfl (hb hby d1_35) rfl q) ?_
  show Go p e below _ (T0.setTop (mkF m 36 #[.val (.ref a1), .val (.int p2), .val (.int (2 : Int32)), .val (.int (y0 &&& (255 : Int32))), .val (.int ((y0 &&& (255 : Int32)) &&& (31 : Int32))), .val (.int (p2 + (1 : Int32)))] [(.int p2), (.int (p2 + (1 : Int32)))]))
  refine go (fun _ q => XS.iloadN X0.here hx rfl (hb hby d1_36) rfl q) ?_
  show Go p e below _ (T0.setTop (mkF m 37 #[.val (.ref a1), .val (.int p2), .val (.int (2 : Int32)), .val (.int (y0 &&& (255 : Int32))), .val (.int ((y0 &&& (255 : Int32)) &&& (31 : Int32))), .val (.int (p2 + (1 : Int32)))] [(.int (2 : Int32)), (.int p2), (.int (p2 + (1 : Int32)))]))
  refine go (fun _ q => XS.iadd X0.here hx rfl (hb hby d1_37) rfl q) ?_
  show Go p e below _ (T0.setTop (mkF m 38 #[.val (.ref a1), .val (.int p2), .val (.int (2 : Int32)), .val (.int (y0 &&& (255 : Int32))), .val (.int ((y0 &&& (255 : Int32)) &&& (31 : Int32))), .val (.int (p2 + (1 : Int32)))] [(.int (p2 + (2 : Int32))), (.int (p2 + (1 : Int32)))]))
  have hk1 : (p2 + (1 : Int32)) < (p2 + (2 : Int32)) := by rcases h4 with rfl | rfl | rfl | rfl <;> decide
  refine go (fun _ q => XS.icmpNo X0.here hx rfl (hb hby d1_38) rfl (tlt hk1).2.1 q) ?_
  show Go p e below _ (T0.setTop (mkF m 41 #[.val (.ref a1), .val (.int p2), .val (.int (2 : Int32)), .val (.int (y0 &&& (255 : Int32))), .val (.int ((y0 &&& (255 : Int32)) &&& (31 : Int32))), .val (.int (p2 + (1 : Int32)))] []))
  refine go (fun _ q => XS.iload X0.here hx rfl (hb hby d1_41) rfl q) ?_
  show Go p e below _ (T0.setTop (mkF m 43 #[.val (.ref a1), .val (.int p2), .val (.int (2 : Int32)), .val (.int (y0 &&& (255 : Int32))), .val (.int ((y0 &&& (255 : Int32)) &&& (31 : Int32))), .val (.int (p2 + (1 : Int32)))] [(.int ((y0 &&& (255 : Int32)) &&& (31 : Int32)))]))
  refine go (fun _ q => XS.bipush X0.here hx rfl (hb hby d1_43) q) ?_
  show Go p e below _ (T0.setTop (mkF m 45 #[.val (.ref a1), .val (.int p2), .val (.int (2 : Int32)), .val (.int (y0 &&& (255 : Int32))), .val (.int ((y0 &&& (255 : Int32)) &&& (31 : Int32))), .val (.int (p2 + (1 : Int32)))] [(.int (6 : Int32)), (.int ((y0 &&& (255 : Int32)) &&& (31 : Int32)))]))
  refine go (fun _ q => XS.ishl X0.here hx rfl (hb hby d1_45) rfl q) ?_
  show Go p e below _ (T0.setTop (mkF m 46 #[.val (.ref a1), .val (.int p2), .val (.int (2 : Int32)), .val (.int (y0 &&& (255 : Int32))), .val (.int ((y0 &&& (255 : Int32)) &&& (31 : Int32))), .val (.int (p2 + (1 : Int32)))] [(.int ((((y0 &&& (255 : Int32)) &&& (31 : Int32)) <<< ((6 : Int32) &&& 31))))]))
  refine go (fun _ q => XS.aloadN X0.here hx rfl (hb hby d1_46) rfl rfl q) ?_
  show Go p e below _ (T0.setTop (mkF m 47 #[.val (.ref a1), .val (.int p2), .val (.int (2 : Int32)), .val (.int (y0 &&& (255 : Int32))), .val (.int ((y0 &&& (255 : Int32)) &&& (31 : Int32))), .val (.int (p2 + (1 : Int32)))] [(.ref a1), (.int ((((y0 &&& (255 : Int32)) &&& (31 : Int32)) <<< ((6 : Int32) &&& 31))))]))
  refine go (fun _ q => XS.iload X0.here hx rfl (hb hby d1_47) rfl q) ?_
  show Go p e below _ (T0.setTop (mkF m 49 #[.val (.ref a1), .val (.int p2), .val (.int (2 : Int32)), .val (.int (y0 &&& (255 : Int32))), .val (.int ((y0 &&& (255 : Int32)) &&& (31 : Int32))), .val (.int (p2 + (1 : Int32)))] [(.int (p2 + (1 : Int32))), (.ref a1), (.int ((((y0 &&& (255 : Int32)) &&& (31 : Int32)) <<< ((6 : Int32) &&& 31))))]))
  refine go (X0.baloadBytes hx (j := (p2 + (1 : Int32))) (v := (.int y1)) (by rw [e0]; exact Ar_.1) (State.isArrayOf_alike hZ.alike Ar_.2.1) Ar_.2.2 (inb_of S (own_j1 h4).1) hat1 (g := (mkF m 49 #[.val (.ref a1), .val (.int p2), .val (.int (2 : Int32)), .val (.int (y0 &&& (255 : Int32))), .val (.int ((y0 &&& (255 : Int32)) &&& (31 : Int32))), .val (.int (p2 + (1 : Int32)))] [(.int (p2 + (1 : Int32))), (.ref a1), (.int ((((y0 &&& (255 : Int32)) &&& (31 : Int32)) <<< ((6 : Int32) &&& 31))))])) rfl rfl (hb hby d1_49)) ?_
  show Go p e below _ (T0.setTop (mkF m 50 #[.val (.ref a1), .val (.int p2), .val (.int (2 : Int32)), .val (.int (y0 &&& (255 : Int32))), .val (.int ((y0 &&& (255 : Int32)) &&& (31 : Int32))), .val (.int (p2 + (1 : Int32)))] [(.int y1), (.int ((((y0 &&& (255 : Int32)) &&& (31 : Int32)) <<< ((6 : Int32) &&& 31))))]))
  refine go (fun _ q => XS.bipush X0.here hx rfl (hb hby d1_50) q) ?_
  show Go p e below _ (T0.setTop (mkF m 52 #[.val (.ref a1), .val (.int p2), .val (.int (2 : Int32)), .val (.int (y0 &&& (255 : Int32))), .val (.int ((y0 &&& (255 : Int32)) &&& (31 : Int32))), .val (.int (p2 + (1 : Int32)))] [(.int (63 : Int32)), (.int y1), (.int ((((y0 &&& (255 : Int32)) &&& (31 : Int32)) <<< ((6 : Int32) &&& 31))))]))
  refine go (fun _ q => XS.iand X0.here hx rfl (hb hby d1_52) rfl q) ?_
  show Go p e below _ (T0.setTop (mkF m 53 #[.val (.ref a1), .val (.int p2), .val (.int (2 : Int32)), .val (.int (y0 &&& (255 : Int32))), .val (.int ((y0 &&& (255 : Int32)) &&& (31 : Int32))), .val (.int (p2 + (1 : Int32)))] [(.int (y1 &&& (63 : Int32))), (.int ((((y0 &&& (255 : Int32)) &&& (31 : Int32)) <<< ((6 : Int32) &&& 31))))]))
  refine go (fun _ q => XS.ior X0.here hx rfl (hb hby d1_53) rfl q) ?_
  show Go p e below _ (T0.setTop (mkF m 54 #[.val (.ref a1), .val (.int p2), .val (.int (2 : Int32)), .val (.int (y0 &&& (255 : Int32))), .val (.int ((y0 &&& (255 : Int32)) &&& (31 : Int32))), .val (.int (p2 + (1 : Int32)))] [(.int (((((y0 &&& (255 : Int32)) &&& (31 : Int32)) <<< ((6 : Int32) &&& 31))) ||| (y1 &&& (63 : Int32))))]))
  refine go (fun _ q => XS.istore X0.here hx rfl (hb hby d1_54) rfl (l' := #[.val (.ref a1), .val (.int p2), .val (.int (2 : Int32)), .val (.int (y0 &&& (255 : Int32))), .val (.int (((((y0 &&& (255 : Int32)) &&& (31 : Int32)) <<< ((6 : Int32) &&& 31))) ||| (y1 &&& (63 : Int32)))), .val (.int (p2 + (1 : Int32)))]) rfl q) ?_
  show Go p e below _ (T0.setTop (mkF m 56 #[.val (.ref a1), .val (.int p2), .val (.int (2 : Int32)), .val (.int (y0 &&& (255 : Int32))), .val (.int (((((y0 &&& (255 : Int32)) &&& (31 : Int32)) <<< ((6 : Int32) &&& 31))) ||| (y1 &&& (63 : Int32)))), .val (.int (p2 + (1 : Int32)))] []))
  refine go (fun _ q => XS.iinc X0.here hx rfl (hb hby d1_56) rfl (l' := #[.val (.ref a1), .val (.int p2), .val (.int (2 : Int32)), .val (.int (y0 &&& (255 : Int32))), .val (.int (((((y0 &&& (255 : Int32)) &&& (31 : Int32)) <<< ((6 : Int32) &&& 31))) ||| (y1 &&& (63 : Int32)))), .val (.int ((p2 + (1 : Int32)) + (1 : Int32)))]) rfl q) ?_
  show Go p e below _ (T0.setTop (mkF m 59 #[.val (.ref a1), .val (.int p2), .val (.int (2 : Int32)), .val (.int (y0 &&& (255 : Int32))), .val (.int (((((y0 &&& (255 : Int32)) &&& (31 : Int32)) <<< ((6 : Int32) &&& 31))) ||| (y1 &&& (63 : Int32)))), .val (.int ((p2 + (1 : Int32)) + (1 : Int32)))] []))
  refine go (fun _ q => XS.goto X0.here hx rfl (pc0 := 59) (pc' := 33) rfl (hb hby d1_59) (by decide) (by decide) q) ?_
  show Go p e below _ (T0.setTop (mkF m 33 #[.val (.ref a1), .val (.int p2), .val (.int (2 : Int32)), .val (.int (y0 &&& (255 : Int32))), .val (.int (((((y0 &&& (255 : Int32)) &&& (31 : Int32)) <<< ((6 : Int32) &&& 31))) ||| (y1 &&& (63 : Int32)))), .val (.int ((p2 + (1 : Int32)) + (1 : Int32)))] []))
  refine go (fun _ q => XS.iload X0.here hx rfl (hb hby d1_33) rfl q) ?_
  show Go p e below _ (T0.setTop (mkF m 35 #[.val (.ref a1), .val (.int p2), .val (.int (2 : Int32)), .val (.int (y0 &&& (255 : Int32))), .val (.int (((((y0 &&& (255 : Int32)) &&& (31 : Int32)) <<< ((6 : Int32) &&& 31))) ||| (y1 &&& (63 : Int32)))), .val (.int ((p2 + (1 : Int32)) + (1 : Int32)))] [(.int ((p2 + (1 : Int32)) + (1 : Int32)))]))
  refine go (fun _ q => XS.iloadN X0.here hx rfl (hb hby d1_35) rfl q) ?_
  show Go p e below _ (T0.setTop (mkF m 36 #[.val (.ref a1), .val (.int p2), .val (.int (2 : Int32)), .val (.int (y0 &&& (255 : Int32))), .val (.int (((((y0 &&& (255 : Int32)) &&& (31 : Int32)) <<< ((6 : Int32) &&& 31))) ||| (y1 &&& (63 : Int32)))), .val (.int ((p2 + (1 : Int32)) + (1 : Int32)))] [(.int p2), (.int ((p2 + (1 : Int32)) + (1 : Int32)))]))
  refine go (fun _ q => XS.iloadN X0.here hx rfl (hb hby d1_36) rfl q) ?_
  show Go p e below _ (T0.setTop (mkF m 37 #[.val (.ref a1), .val (.int p2), .val (.int (2 : Int32)), .val (.int (y0 &&& (255 : Int32))), .val (.int (((((y0 &&& (255 : Int32)) &&& (31 : Int32)) <<< ((6 : Int32) &&& 31))) ||| (y1 &&& (63 : Int32)))), .val (.int ((p2 + (1 : Int32)) + (1 : Int32)))] [(.int (2 : Int32)), (.int p2), (.int ((p2 + (1 : Int32)) + (1 : Int32)))]))
  refine go (fun _ q => XS.iadd X0.here hx rfl (hb hby d1_37) rfl q) ?_
  show Go p e below _ (T0.setTop (mkF m 38 #[.val (.ref a1), .val (.int p2), .val (.int (2 : Int32)), .val (.int (y0 &&& (255 : Int32))), .val (.int (((((y0 &&& (255 : Int32)) &&& (31 : Int32)) <<< ((6 : Int32) &&& 31))) ||| (y1 &&& (63 : Int32)))), .val (.int ((p2 + (1 : Int32)) + (1 : Int32)))] [(.int (p2 + (2 : Int32))), (.int ((p2 + (1 : Int32)) + (1 : Int32)))]))
  have hk2 : ¬ (((p2 + (1 : Int32)) + (1 : Int32)) < (p2 + (2 : Int32))) := by rcases h4 with rfl | rfl | rfl | rfl <;> decide
  refine go (fun _ q => XS.icmpYes X0.here hx rfl (pc0 := 38) (pc' := 62) rfl (hb hby d1_38) rfl (flt hk2).2.1 (by decide) (by decide) q) ?_
  show Go p e below _ (T0.setTop (mkF m 62 #[.val (.ref a1), .val (.int p2), .val (.int (2 : Int32)), .val (.int (y0 &&& (255 : Int32))), .val (.int (((((y0 &&& (255 : Int32)) &&& (31 : Int32)) <<< ((6 : Int32) &&& 31))) ||| (y1 &&& (63 : Int32)))), .val (.int ((p2 + (1 : Int32)) + (1 : Int32)))] []))
  refine go (fun _ q => XS.iload X0.here hx rfl (hb hby d1_62) rfl q) ?_
  show Go p e below _ (T0.setTop (mkF m 64 #[.val (.ref a1), .val (.int p2), .val (.int (2 : Int32)), .val (.int (y0 &&& (255 : Int32))), .val (.int (((((y0 &&& (255 : Int32)) &&& (31 : Int32)) <<< ((6 : Int32) &&& 31))) ||| (y1 &&& (63 : Int32)))), .val (.int ((p2 + (1 : Int32)) + (1 : Int32)))] [(.int (((((y0 &&& (255 : Int32)) &&& (31 : Int32)) <<< ((6 : Int32) &&& 31))) ||| (y1 &&& (63 : Int32))))]))
  exact own_retI X0 hx hlk hret (hb hby d1_64) (by decide) (by decide) ⟨congrArg (fun z => some (Value.int z)) (by rw [g2]), N0, e0⟩
def g3 (y0 y1 y2 : Int32) : Int32 := ((((((((y0 &&& (255 : Int32)) &&& (15 : Int32)) <<< ((6 : Int32) &&& 31))) ||| (y1 &&& (63 : Int32))) <<< ((6 : Int32) &&& 31))) ||| (y2 &&& (63 : Int32)))
set_option maxRecDepth 65536 in
set_option maxHeartbeats 40000000 in
theorem rm1_3 (l : Launch) (Z : State) (a0 : Array Value) (hw : ∀ d ∈ tables_1, d.before a0 Z = true) (ws : List Jvm.Cond) (a1 : Addr) (p2 : Int32) (h0 : Heap) (n0 : Nat) {cl : Cell} {y0 y1 y2 : Int32} (h4 : own_four p2) (Ar_ : Arr Z h0 a1 cl .byte) (S : cl.slots.size = (8 : Int32).toNatClampNeg) (hat0 : cl.slots[(p2).toNatClampNeg]? = some (.int y0)) (hat1 : cl.slots[((p2 + (1 : Int32))).toNatClampNeg]? = some (.int y1)) (hat2 : cl.slots[(((p2 + (1 : Int32)) + (1 : Int32))).toNatClampNeg]? = some (.int y2)) :
    MetFree l (⟨"com/example/skipstone/skipstone/Utf8", "codePoint", "([BII)I"⟩ : MethodName) (head1 (Jvm.Cond.code (⟨"com/example/skipstone/skipstone/Utf8", "codePoint", "([BII)I"⟩ : MethodName) prog_143_method_3_code 6 (some .int) :: ws) ({ frames := 0, cells := 0, slots := 0, locals := 0 } : Room)) (fun a U => a = #[(.ref a1), (.int p2), (.int (3 : Int32))] ∧ Z.Warmed39 U.vm ∧ U.heap = h0) (fun _ _ _ _ _ => True) (fun _ U o U' => ∃ v L, o = .returned v ∧ (QP (some (.int (g3 y0 y1 y2))) h0 n0) v U'.heap L ∧ FrameEnd U o U' L ({ frames := 0, cells := 0, slots := 0, locals := 0 } : Room).cells ({ frames := 0, cells := 0, slots := 0, locals := 0 } : Room).slots) := by
  refine own_met (plainFor_of_name pn_1) (fun m => ef_1 m a1 p2 (3 : Int32)) ?_
  intro p e s m below meth c T0 hx hby hml hown hnm hret hlk hZ X0 e0
  have hown : s.vm.findClass "com/example/skipstone/skipstone/Utf8" = some m.cls := hown
  have hnm : meth.name = "codePoint" := hnm
  have hret : meth.sig.returnType = some .int := hret
  have N0 := Fr.nil n0
  show Go p e below _ (T0.setTop (mkF m 0 #[.val (.ref a1), .val (.int p2), .val (.int (3 : Int32)), .unset, .unset, .unset] []))
  refine go (fun _ q => XS.aloadN X0.here hx rfl (hb hby d1_0) rfl rfl q) ?_
  show Go p e below _ (T0.setTop (mkF m 1 #[.val (.ref a1), .val (.int p2), .val (.int (3 : Int32)), .unset, .unset, .unset] [(.ref a1)]))
  refine go (fun _ q => XS.iloadN X0.here hx rfl (hb hby d1_1) rfl q) ?_
  show Go p e below _ (T0.setTop (mkF m 2 #[.val (.ref a1), .val (.int p2), .val (.int (3 : Int32)), .unset, .unset, .unset] [(.int p2), (.ref a1)]))
  refine go (X0.baloadBytes hx (j := p2) (v := (.int y0)) (by rw [e0]; exact Ar_.1) (State.isArrayOf_alike hZ.alike Ar_.2.1) Ar_.2.2 (inb_of S (own_j0 h4).1) hat0 (g := (mkF m 2 #[.val (.ref a1), .val (.int p2), .val (.int (3 : Int32)), .unset, .unset, .unset] [(.int p2), (.ref a1)])) rfl rfl (hb hby d1_2)) ?_
  show Go p e below _ (T0.setTop (mkF m 3 #[.val (.ref a1), .val (.int p2), .val (.int (3 : Int32)), .unset, .unset, .unset] [(.int y0)]))
  refine go (fun _ q => XS.sipush X0.here hx rfl (hb hby d1_3) q) ?_
  show Go p e below _ (T0.setTop (mkF m 6 #[.val (.ref a1), .val (.int p2), .val (.int (3 : Int32)), .unset, .unset, .unset] [(.int (255 : Int32)), (.int y0)]))
  refine go (fun _ q => XS.iand X0.here hx rfl (hb hby d1_6) rfl q) ?_
  show Go p e below _ (T0.setTop (mkF m 7 #[.val (.ref a1), .val (.int p2), .val (.int (3 : Int32)), .unset, .unset, .unset] [(.int (y0 &&& (255 : Int32)))]))
  refine go (fun _ q => XS.istoreN X0.here hx rfl (hb hby d1_7) rfl (l' := #[.val (.ref a1), .val (.int p2), .val (.int (3 : Int32)), .val (.int (y0 &&& (255 : Int32))), .unset, .unset]) rfl q) ?_
  show Go p e below _ (T0.setTop (mkF m 8 #[.val (.ref a1), .val (.int p2), .val (.int (3 : Int32)), .val (.int (y0 &&& (255 : Int32))), .unset, .unset] []))
  refine go (fun _ q => XS.iloadN X0.here hx rfl (hb hby d1_8) rfl q) ?_
  show Go p e below _ (T0.setTop (mkF m 9 #[.val (.ref a1), .val (.int p2), .val (.int (3 : Int32)), .val (.int (y0 &&& (255 : Int32))), .unset, .unset] [(.int (3 : Int32))]))
  refine go (fun _ q => XS.iconst X0.here hx rfl (hb hby d1_9) q) ?_
  show Go p e below _ (T0.setTop (mkF m 10 #[.val (.ref a1), .val (.int p2), .val (.int (3 : Int32)), .val (.int (y0 &&& (255 : Int32))), .unset, .unset] [(.int (1 : Int32)), (.int (3 : Int32))]))
  refine go (fun _ q => XS.icmpYes X0.here hx rfl (pc0 := 10) (pc' := 17) rfl (hb hby d1_10) rfl (feq (by decide : ¬ ((3 : Int32) = (1 : Int32)))).2 (by decide) (by decide) q) ?_
  show Go p e below _ (T0.setTop (mkF m 17 #[.val (.ref a1), .val (.int p2), .val (.int (3 : Int32)), .val (.int (y0 &&& (255 : Int32))), .unset, .unset] []))
  refine go (fun _ q => XS.iloadN X0.here hx rfl (hb hby d1_17) rfl q) ?_
  show Go p e below _ (T0.setTop (mkF m 18 #[.val (.ref a1), .val (.int p2), .val (.int (3 : Int32)), .val (.int (y0 &&& (255 : Int32))), .unset, .unset] [(.int (y0 &&& (255 : Int32)))]))
  refine go (fun _ q => XS.sipush X0.here hx rfl (hb hby d1_18) q) ?_
  show Go p e below _ (T0.setTop (mkF m 21 #[.val (.ref a1), .val (.int p2), .val (.int (3 : Int32)), .val (.int (y0 &&& (255 : Int32))), .unset, .unset] [(.int (255 : Int32)), (.int (y0 &&& (255 : Int32)))]))
  refine go (fun _ q => XS.iloadN X0.here hx rfl (hb hby d1_21) rfl q) ?_
  show Go p e below _ (T0.setTop (mkF m 22 #[.val (.ref a1), .val (.int p2), .val (.int (3 : Int32)), .val (.int (y0 &&& (255 : Int32))), .unset, .unset] [(.int (3 : Int32)), (.int (255 : Int32)), (.int (y0 &&& (255 : Int32)))]))
  refine go (fun _ q => XS.iconst X0.here hx rfl (hb hby d1_22) q) ?_
  show Go p e below _ (T0.setTop (mkF m 23 #[.val (.ref a1), .val (.int p2), .val (.int (3 : Int32)), .val (.int (y0 &&& (255 : Int32))), .unset, .unset] [(.int (1 : Int32)), (.int (3 : Int32)), (.int (255 : Int32)), (.int (y0 &&& (255 : Int32)))]))
  refine go (fun _ q => XS.iadd X0.here hx rfl (hb hby d1_23) rfl q) ?_
  show Go p e below _ (T0.setTop (mkF m 24 #[.val (.ref a1), .val (.int p2), .val (.int (3 : Int32)), .val (.int (y0 &&& (255 : Int32))), .unset, .unset] [(.int (4 : Int32)), (.int (255 : Int32)), (.int (y0 &&& (255 : Int32)))]))
  refine go (fun _ q => XS.iushr X0.here hx rfl (hb hby d1_24) rfl q) ?_
  show Go p e below _ (T0.setTop (mkF m 25 #[.val (.ref a1), .val (.int p2), .val (.int (3 : Int32)), .val (.int (y0 &&& (255 : Int32))), .unset, .unset] [(.int (15 : Int32)), (.int (y0 &&& (255 : Int32)))]))
  refine go (fun _ q => XS.iand X0.here hx rfl (hb hby d1_25) rfl q) ?_
  show Go p e below _ (T0.setTop (mkF m 26 #[.val (.ref a1), .val (.int p2), .val (.int (3 : Int32)), .val (.int (y0 &&& (255 : Int32))), .unset, .unset] [(.int ((y0 &&& (255 : Int32)) &&& (15 : Int32)))]))
  refine go (fun _ q => XS.istore X0.here hx rfl (hb hby d1_26) rfl (l' := #[.val (.ref a1), .val (.int p2), .val (.int (3 : Int32)), .val (.int (y0 &&& (255 : Int32))), .val (.int ((y0 &&& (255 : Int32)) &&& (15 : Int32))), .unset]) rfl q) ?_
  show Go p e below _ (T0.setTop (mkF m 28 #[.val (.ref a1), .val (.int p2), .val (.int (3 : Int32)), .val (.int (y0 &&& (255 : Int32))), .val (.int ((y0 &&& (255 : Int32)) &&& (15 : Int32))), .unset] []))
  refine go (fun _ q => XS.iloadN X0.here hx rfl (hb hby d1_28) rfl q) ?_
  show Go p e below _ (T0.setTop (mkF m 29 #[.val (.ref a1), .val (.int p2), .val (.int (3 : Int32)), .val (.int (y0 &&& (255 : Int32))), .val (.int ((y0 &&& (255 : Int32)) &&& (15 : Int32))), .unset] [(.int p2)]))
  refine go (fun _ q => XS.iconst X0.here hx rfl (hb hby d1_29) q) ?_
  show Go p e below _ (T0.setTop (mkF m 30 #[.val (.ref a1), .val (.int p2), .val (.int (3 : Int32)), .val (.int (y0 &&& (255 : Int32))), .val (.int ((y0 &&& (255 : Int32)) &&& (15 : Int32))), .unset] [(.int (1 : Int32)), (.int p2)]))
  refine go (fun _ q => XS.iadd X0.here hx rfl (hb hby d1_30) rfl q) ?_
  show Go p e below _ (T0.setTop (mkF m 31 #[.val (.ref a1), .val (.int p2), .val (.int (3 : Int32)), .val (.int (y0 &&& (255 : Int32))), .val (.int ((y0 &&& (255 : Int32)) &&& (15 : Int32))), .unset] [(.int (p2 + (1 : Int32)))]))
  refine go (fun _ q => XS.istore X0.here hx rfl (hb hby d1_31) rfl (l' := #[.val (.ref a1), .val (.int p2), .val (.int (3 : Int32)), .val (.int (y0 &&& (255 : Int32))), .val (.int ((y0 &&& (255 : Int32)) &&& (15 : Int32))), .val (.int (p2 + (1 : Int32)))]) rfl q) ?_
  show Go p e below _ (T0.setTop (mkF m 33 #[.val (.ref a1), .val (.int p2), .val (.int (3 : Int32)), .val (.int (y0 &&& (255 : Int32))), .val (.int ((y0 &&& (255 : Int32)) &&& (15 : Int32))), .val (.int (p2 + (1 : Int32)))] []))
  refine go (fun _ q => XS.iload X0.here hx rfl (hb hby d1_33) rfl q) ?_
  show Go p e below _ (T0.setTop (mkF m 35 #[.val (.ref a1), .val (.int p2), .val (.int (3 : Int32)), .val (.int (y0 &&& (255 : Int32))), .val (.int ((y0 &&& (255 : Int32)) &&& (15 : Int32))), .val (.int (p2 + (1 : Int32)))] [(.int (p2 + (1 : Int32)))]))
  refine go (fun _ q => XS.iloadN X0.here hx rfl (hb hby d1_35) rfl q) ?_
  show Go p e below _ (T0.setTop (mkF m 36 #[.val (.ref a1), .val (.int p2), .val (.int (3 : Int32)), .val (.int (y0 &&& (255 : Int32))), .val (.int ((y0 &&& (255 : Int32)) &&& (15 : Int32))), .val (.int (p2 + (1 : Int32)))] [(.int p2), (.int (p2 + (1 : Int32)))]))
  refine go (fun _ q => XS.iloadN X0.here hx rfl (hb hby d1_36) rfl q) ?_
  show Go p e below _ (T0.setTop (mkF m 37 #[.val (.ref a1), .val (.int p2), .val (.int (3 : Int32)), .val (.int (y0 &&& (255 : Int32))), .val (.int ((y0 &&& (255 : Int32)) &&& (15 : Int32))), .val (.int (p2 + (1 : Int32)))] [(.int (3 : Int32)), (.int p2), (.int (p2 + (1 : Int32)))]))
  refine go (fun _ q => XS.iadd X0.here hx rfl (hb hby d1_37) rfl q) ?_
  show Go p e below _ (T0.setTop (mkF m 38 #[.val (.ref a1), .val (.int p2), .val (.int (3 : Int32)), .val (.int (y0 &&& (255 : Int32))), .val (.int ((y0 &&& (255 : Int32)) &&& (15 : Int32))), .val (.int (p2 + (1 : Int32)))] [(.int (p2 + (3 : Int32))), (.int (p2 + (1 : Int32)))]))
  have hk1 : (p2 + (1 : Int32)) < (p2 + (3 : Int32)) := by rcases h4 with rfl | rfl | rfl | rfl <;> decide
  refine go (fun _ q => XS.icmpNo X0.here hx rfl (hb hby d1_38) rfl (tlt hk1).2.1 q) ?_
  show Go p e below _ (T0.setTop (mkF m 41 #[.val (.ref a1), .val (.int p2), .val (.int (3 : Int32)), .val (.int (y0 &&& (255 : Int32))), .val (.int ((y0 &&& (255 : Int32)) &&& (15 : Int32))), .val (.int (p2 + (1 : Int32)))] []))
  refine go (fun _ q => XS.iload X0.here hx rfl (hb hby d1_41) rfl q) ?_
  show Go p e below _ (T0.setTop (mkF m 43 #[.val (.ref a1), .val (.int p2), .val (.int (3 : Int32)), .val (.int (y0 &&& (255 : Int32))), .val (.int ((y0 &&& (255 : Int32)) &&& (15 : Int32))), .val (.int (p2 + (1 : Int32)))] [(.int ((y0 &&& (255 : Int32)) &&& (15 : Int32)))]))
  refine go (fun _ q => XS.bipush X0.here hx rfl (hb hby d1_43) q) ?_
  show Go p e below _ (T0.setTop (mkF m 45 #[.val (.ref a1), .val (.int p2), .val (.int (3 : Int32)), .val (.int (y0 &&& (255 : Int32))), .val (.int ((y0 &&& (255 : Int32)) &&& (15 : Int32))), .val (.int (p2 + (1 : Int32)))] [(.int (6 : Int32)), (.int ((y0 &&& (255 : Int32)) &&& (15 : Int32)))]))
  refine go (fun _ q => XS.ishl X0.here hx rfl (hb hby d1_45) rfl q) ?_
  show Go p e below _ (T0.setTop (mkF m 46 #[.val (.ref a1), .val (.int p2), .val (.int (3 : Int32)), .val (.int (y0 &&& (255 : Int32))), .val (.int ((y0 &&& (255 : Int32)) &&& (15 : Int32))), .val (.int (p2 + (1 : Int32)))] [(.int ((((y0 &&& (255 : Int32)) &&& (15 : Int32)) <<< ((6 : Int32) &&& 31))))]))
  refine go (fun _ q => XS.aloadN X0.here hx rfl (hb hby d1_46) rfl rfl q) ?_
  show Go p e below _ (T0.setTop (mkF m 47 #[.val (.ref a1), .val (.int p2), .val (.int (3 : Int32)), .val (.int (y0 &&& (255 : Int32))), .val (.int ((y0 &&& (255 : Int32)) &&& (15 : Int32))), .val (.int (p2 + (1 : Int32)))] [(.ref a1), (.int ((((y0 &&& (255 : Int32)) &&& (15 : Int32)) <<< ((6 : Int32) &&& 31))))]))
  refine go (fun _ q => XS.iload X0.here hx rfl (hb hby d1_47) rfl q) ?_
  show Go p e below _ (T0.setTop (mkF m 49 #[.val (.ref a1), .val (.int p2), .val (.int (3 : Int32)), .val (.int (y0 &&& (255 : Int32))), .val (.int ((y0 &&& (255 : Int32)) &&& (15 : Int32))), .val (.int (p2 + (1 : Int32)))] [(.int (p2 + (1 : Int32))), (.ref a1), (.int ((((y0 &&& (255 : Int32)) &&& (15 : Int32)) <<< ((6 : Int32) &&& 31))))]))
  refine go (X0.baloadBytes hx (j := (p2 + (1 : Int32))) (v := (.int y1)) (by rw [e0]; exact Ar_.1) (State.isArrayOf_alike hZ.alike Ar_.2.1) Ar_.2.2 (inb_of S (own_j1 h4).1) hat1 (g := (mkF m 49 #[.val (.ref a1), .val (.int p2), .val (.int (3 : Int32)), .val (.int (y0 &&& (255 : Int32))), .val (.int ((y0 &&& (255 : Int32)) &&& (15 : Int32))), .val (.int (p2 + (1 : Int32)))] [(.int (p2 + (1 : Int32))), (.ref a1), (.int ((((y0 &&& (255 : Int32)) &&& (15 : Int32)) <<< ((6 : Int32) &&& 31))))])) rfl rfl (hb hby d1_49)) ?_
  show Go p e below _ (T0.setTop (mkF m 50 #[.val (.ref a1), .val (.int p2), .val (.int (3 : Int32)), .val (.int (y0 &&& (255 : Int32))), .val (.int ((y0 &&& (255 : Int32)) &&& (15 : Int32))), .val (.int (p2 + (1 : Int32)))] [(.int y1), (.int ((((y0 &&& (255 : Int32)) &&& (15 : Int32)) <<< ((6 : Int32) &&& 31))))]))
  refine go (fun _ q => XS.bipush X0.here hx rfl (hb hby d1_50) q) ?_
  show Go p e below _ (T0.setTop (mkF m 52 #[.val (.ref a1), .val (.int p2), .val (.int (3 : Int32)), .val (.int (y0 &&& (255 : Int32))), .val (.int ((y0 &&& (255 : Int32)) &&& (15 : Int32))), .val (.int (p2 + (1 : Int32)))] [(.int (63 : Int32)), (.int y1), (.int ((((y0 &&& (255 : Int32)) &&& (15 : Int32)) <<< ((6 : Int32) &&& 31))))]))
  refine go (fun _ q => XS.iand X0.here hx rfl (hb hby d1_52) rfl q) ?_
  show Go p e below _ (T0.setTop (mkF m 53 #[.val (.ref a1), .val (.int p2), .val (.int (3 : Int32)), .val (.int (y0 &&& (255 : Int32))), .val (.int ((y0 &&& (255 : Int32)) &&& (15 : Int32))), .val (.int (p2 + (1 : Int32)))] [(.int (y1 &&& (63 : Int32))), (.int ((((y0 &&& (255 : Int32)) &&& (15 : Int32)) <<< ((6 : Int32) &&& 31))))]))
  refine go (fun _ q => XS.ior X0.here hx rfl (hb hby d1_53) rfl q) ?_
  show Go p e below _ (T0.setTop (mkF m 54 #[.val (.ref a1), .val (.int p2), .val (.int (3 : Int32)), .val (.int (y0 &&& (255 : Int32))), .val (.int ((y0 &&& (255 : Int32)) &&& (15 : Int32))), .val (.int (p2 + (1 : Int32)))] [(.int (((((y0 &&& (255 : Int32)) &&& (15 : Int32)) <<< ((6 : Int32) &&& 31))) ||| (y1 &&& (63 : Int32))))]))
  refine go (fun _ q => XS.istore X0.here hx rfl (hb hby d1_54) rfl (l' := #[.val (.ref a1), .val (.int p2), .val (.int (3 : Int32)), .val (.int (y0 &&& (255 : Int32))), .val (.int (((((y0 &&& (255 : Int32)) &&& (15 : Int32)) <<< ((6 : Int32) &&& 31))) ||| (y1 &&& (63 : Int32)))), .val (.int (p2 + (1 : Int32)))]) rfl q) ?_
  show Go p e below _ (T0.setTop (mkF m 56 #[.val (.ref a1), .val (.int p2), .val (.int (3 : Int32)), .val (.int (y0 &&& (255 : Int32))), .val (.int (((((y0 &&& (255 : Int32)) &&& (15 : Int32)) <<< ((6 : Int32) &&& 31))) ||| (y1 &&& (63 : Int32)))), .val (.int (p2 + (1 : Int32)))] []))
  refine go (fun _ q => XS.iinc X0.here hx rfl (hb hby d1_56) rfl (l' := #[.val (.ref a1), .val (.int p2), .val (.int (3 : Int32)), .val (.int (y0 &&& (255 : Int32))), .val (.int (((((y0 &&& (255 : Int32)) &&& (15 : Int32)) <<< ((6 : Int32) &&& 31))) ||| (y1 &&& (63 : Int32)))), .val (.int ((p2 + (1 : Int32)) + (1 : Int32)))]) rfl q) ?_
  show Go p e below _ (T0.setTop (mkF m 59 #[.val (.ref a1), .val (.int p2), .val (.int (3 : Int32)), .val (.int (y0 &&& (255 : Int32))), .val (.int (((((y0 &&& (255 : Int32)) &&& (15 : Int32)) <<< ((6 : Int32) &&& 31))) ||| (y1 &&& (63 : Int32)))), .val (.int ((p2 + (1 : Int32)) + (1 : Int32)))] []))
  refine go (fun _ q => XS.goto X0.here hx rfl (pc0 := 59) (pc' := 33) rfl (hb hby d1_59) (by decide) (by decide) q) ?_
  show Go p e below _ (T0.setTop (mkF m 33 #[.val (.ref a1), .val (.int p2), .val (.int (3 : Int32)), .val (.int (y0 &&& (255 : Int32))), .val (.int (((((y0 &&& (255 : Int32)) &&& (15 : Int32)) <<< ((6 : Int32) &&& 31))) ||| (y1 &&& (63 : Int32)))), .val (.int ((p2 + (1 : Int32)) + (1 : Int32)))] []))
  refine go (fun _ q => XS.iload X0.here hx rfl (hb hby d1_33) rfl q) ?_
  show Go p e below _ (T0.setTop (mkF m 35 #[.val (.ref a1), .val (.int p2), .val (.int (3 : Int32)), .val (.int (y0 &&& (255 : Int32))), .val (.int (((((y0 &&& (255 : Int32)) &&& (15 : Int32)) <<< ((6 : Int32) &&& 31))) ||| (y1 &&& (63 : Int32)))), .val (.int ((p2 + (1 : Int32)) + (1 : Int32)))] [(.int ((p2 + (1 : Int32)) + (1 : Int32)))]))
  refine go (fun _ q => XS.iloadN X0.here hx rfl (hb hby d1_35) rfl q) ?_
  show Go p e below _ (T0.setTop (mkF m 36 #[.val (.ref a1), .val (.int p2), .val (.int (3 : Int32)), .val (.int (y0 &&& (255 : Int32))), .val (.int (((((y0 &&& (255 : Int32)) &&& (15 : Int32)) <<< ((6 : Int32) &&& 31))) ||| (y1 &&& (63 : Int32)))), .val (.int ((p2 + (1 : Int32)) + (1 : Int32)))] [(.int p2), (.int ((p2 + (1 : Int32)) + (1 : Int32)))]))
  refine go (fun _ q => XS.iloadN X0.here hx rfl (hb hby d1_36) rfl q) ?_
  show Go p e below _ (T0.setTop (mkF m 37 #[.val (.ref a1), .val (.int p2), .val (.int (3 : Int32)), .val (.int (y0 &&& (255 : Int32))), .val (.int (((((y0 &&& (255 : Int32)) &&& (15 : Int32)) <<< ((6 : Int32) &&& 31))) ||| (y1 &&& (63 : Int32)))), .val (.int ((p2 + (1 : Int32)) + (1 : Int32)))] [(.int (3 : Int32)), (.int p2), (.int ((p2 + (1 : Int32)) + (1 : Int32)))]))
  refine go (fun _ q => XS.iadd X0.here hx rfl (hb hby d1_37) rfl q) ?_
  show Go p e below _ (T0.setTop (mkF m 38 #[.val (.ref a1), .val (.int p2), .val (.int (3 : Int32)), .val (.int (y0 &&& (255 : Int32))), .val (.int (((((y0 &&& (255 : Int32)) &&& (15 : Int32)) <<< ((6 : Int32) &&& 31))) ||| (y1 &&& (63 : Int32)))), .val (.int ((p2 + (1 : Int32)) + (1 : Int32)))] [(.int (p2 + (3 : Int32))), (.int ((p2 + (1 : Int32)) + (1 : Int32)))]))
  have hk2 : ((p2 + (1 : Int32)) + (1 : Int32)) < (p2 + (3 : Int32)) := by rcases h4 with rfl | rfl | rfl | rfl <;> decide
  refine go (fun _ q => XS.icmpNo X0.here hx rfl (hb hby d1_38) rfl (tlt hk2).2.1 q) ?_
  show Go p e below _ (T0.setTop (mkF m 41 #[.val (.ref a1), .val (.int p2), .val (.int (3 : Int32)), .val (.int (y0 &&& (255 : Int32))), .val (.int (((((y0 &&& (255 : Int32)) &&& (15 : Int32)) <<< ((6 : Int32) &&& 31))) ||| (y1 &&& (63 : Int32)))), .val (.int ((p2 + (1 : Int32)) + (1 : Int32)))] []))
  refine go (fun _ q => XS.iload X0.here hx rfl (hb hby d1_41) rfl q) ?_
  show Go p e below _ (T0.setTop (mkF m 43 #[.val (.ref a1), .val (.int p2), .val (.int (3 : Int32)), .val (.int (y0 &&& (255 : Int32))), .val (.int (((((y0 &&& (255 : Int32)) &&& (15 : Int32)) <<< ((6 : Int32) &&& 31))) ||| (y1 &&& (63 : Int32)))), .val (.int ((p2 + (1 : Int32)) + (1 : Int32)))] [(.int (((((y0 &&& (255 : Int32)) &&& (15 : Int32)) <<< ((6 : Int32) &&& 31))) ||| (y1 &&& (63 : Int32))))]))
  refine go (fun _ q => XS.bipush X0.here hx rfl (hb hby d1_43) q) ?_
  show Go p e below _ (T0.setTop (mkF m 45 #[.val (.ref a1), .val (.int p2), .val (.int (3 : Int32)), .val (.int (y0 &&& (255 : Int32))), .val (.int (((((y0 &&& (255 : Int32)) &&& (15 : Int32)) <<< ((6 : Int32) &&& 31))) ||| (y1 &&& (63 : Int32)))), .val (.int ((p2 + (1 : Int32)) + (1 : Int32)))] [(.int (6 : Int32)), (.int (((((y0 &&& (255 : Int32)) &&& (15 : Int32)) <<< ((6 : Int32) &&& 31))) ||| (y1 &&& (63 : Int32))))]))
  refine go (fun _ q => XS.ishl X0.here hx rfl (hb hby d1_45) rfl q) ?_
  show Go p e below _ (T0.setTop (mkF m 46 #[.val (.ref a1), .val (.int p2), .val (.int (3 : Int32)), .val (.int (y0 &&& (255 : Int32))), .val (.int (((((y0 &&& (255 : Int32)) &&& (15 : Int32)) <<< ((6 : Int32) &&& 31))) ||| (y1 &&& (63 : Int32)))), .val (.int ((p2 + (1 : Int32)) + (1 : Int32)))] [(.int (((((((y0 &&& (255 : Int32)) &&& (15 : Int32)) <<< ((6 : Int32) &&& 31))) ||| (y1 &&& (63 : Int32))) <<< ((6 : Int32) &&& 31))))]))
  refine go (fun _ q => XS.aloadN X0.here hx rfl (hb hby d1_46) rfl rfl q) ?_
  show Go p e below _ (T0.setTop (mkF m 47 #[.val (.ref a1), .val (.int p2), .val (.int (3 : Int32)), .val (.int (y0 &&& (255 : Int32))), .val (.int (((((y0 &&& (255 : Int32)) &&& (15 : Int32)) <<< ((6 : Int32) &&& 31))) ||| (y1 &&& (63 : Int32)))), .val (.int ((p2 + (1 : Int32)) + (1 : Int32)))] [(.ref a1), (.int (((((((y0 &&& (255 : Int32)) &&& (15 : Int32)) <<< ((6 : Int32) &&& 31))) ||| (y1 &&& (63 : Int32))) <<< ((6 : Int32) &&& 31))))]))
  refine go (fun _ q => XS.iload X0.here hx rfl (hb hby d1_47) rfl q) ?_
  show Go p e below _ (T0.setTop (mkF m 49 #[.val (.ref a1), .val (.int p2), .val (.int (3 : Int32)), .val (.int (y0 &&& (255 : Int32))), .val (.int (((((y0 &&& (255 : Int32)) &&& (15 : Int32)) <<< ((6 : Int32) &&& 31))) ||| (y1 &&& (63 : Int32)))), .val (.int ((p2 + (1 : Int32)) + (1 : Int32)))] [(.int ((p2 + (1 : Int32)) + (1 : Int32))), (.ref a1), (.int (((((((y0 &&& (255 : Int32)) &&& (15 : Int32)) <<< ((6 : Int32) &&& 31))) ||| (y1 &&& (63 : Int32))) <<< ((6 : Int32) &&& 31))))]))
  refine go (X0.baloadBytes hx (j := ((p2 + (1 : Int32)) + (1 : Int32))) (v := (.int y2)) (by rw [e0]; exact Ar_.1) (State.isArrayOf_alike hZ.alike Ar_.2.1) Ar_.2.2 (inb_of S (own_i2 h4)) hat2 (g := (mkF m 49 #[.val (.ref a1), .val (.int p2), .val (.int (3 : Int32)), .val (.int (y0 &&& (255 : Int32))), .val (.int (((((y0 &&& (255 : Int32)) &&& (15 : Int32)) <<< ((6 : Int32) &&& 31))) ||| (y1 &&& (63 : Int32)))), .val (.int ((p2 + (1 : Int32)) + (1 : Int32)))] [(.int ((p2 + (1 : Int32)) + (1 : Int32))), (.ref a1), (.int (((((((y0 &&& (255 : Int32)) &&& (15 : Int32)) <<< ((6 : Int32) &&& 31))) ||| (y1 &&& (63 : Int32))) <<< ((6 : Int32) &&& 31))))])) rfl rfl (hb hby d1_49)) ?_
  show Go p e below _ (T0.setTop (mkF m 50 #[.val (.ref a1), .val (.int p2), .val (.int (3 : Int32)), .val (.int (y0 &&& (255 : Int32))), .val (.int (((((y0 &&& (255 : Int32)) &&& (15 : Int32)) <<< ((6 : Int32) &&& 31))) ||| (y1 &&& (63 : Int32)))), .val (.int ((p2 + (1 : Int32)) + (1 : Int32)))] [(.int y2), (.int (((((((y0 &&& (255 : Int32)) &&& (15 : Int32)) <<< ((6 : Int32) &&& 31))) ||| (y1 &&& (63 : Int32))) <<< ((6 : Int32) &&& 31))))]))
  refine go (fun _ q => XS.bipush X0.here hx rfl (hb hby d1_50) q) ?_
  show Go p e below _ (T0.setTop (mkF m 52 #[.val (.ref a1), .val (.int p2), .val (.int (3 : Int32)), .val (.int (y0 &&& (255 : Int32))), .val (.int (((((y0 &&& (255 : Int32)) &&& (15 : Int32)) <<< ((6 : Int32) &&& 31))) ||| (y1 &&& (63 : Int32)))), .val (.int ((p2 + (1 : Int32)) + (1 : Int32)))] [(.int (63 : Int32)), (.int y2), (.int (((((((y0 &&& (255 : Int32)) &&& (15 : Int32)) <<< ((6 : Int32) &&& 31))) ||| (y1 &&& (63 : Int32))) <<< ((6 : Int32) &&& 31))))]))
  refine go (fun _ q => XS.iand X0.here hx rfl (hb hby d1_52) rfl q) ?_
  show Go p e below _ (T0.setTop (mkF m 53 #[.val (.ref a1), .val (.int p2), .val (.int (3 : Int32)), .val (.int (y0 &&& (255 : Int32))), .val (.int (((((y0 &&& (255 : Int32)) &&& (15 : Int32)) <<< ((6 : Int32) &&& 31))) ||| (y1 &&& (63 : Int32)))), .val (.int ((p2 + (1 : Int32)) + (1 : Int32)))] [(.int (y2 &&& (63 : Int32))), (.int (((((((y0 &&& (255 : Int32)) &&& (15 : Int32)) <<< ((6 : Int32) &&& 31))) ||| (y1 &&& (63 : Int32))) <<< ((6 : Int32) &&& 31))))]))
  refine go (fun _ q => XS.ior X0.here hx rfl (hb hby d1_53) rfl q) ?_
  show Go p e below _ (T0.setTop (mkF m 54 #[.val (.ref a1), .val (.int p2), .val (.int (3 : Int32)), .val (.int (y0 &&& (255 : Int32))), .val (.int (((((y0 &&& (255 : Int32)) &&& (15 : Int32)) <<< ((6 : Int32) &&& 31))) ||| (y1 &&& (63 : Int32)))), .val (.int ((p2 + (1 : Int32)) + (1 : Int32)))] [(.int ((((((((y0 &&& (255 : Int32)) &&& (15 : Int32)) <<< ((6 : Int32) &&& 31))) ||| (y1 &&& (63 : Int32))) <<< ((6 : Int32) &&& 31))) ||| (y2 &&& (63 : Int32))))]))
  refine go (fun _ q => XS.istore X0.here hx rfl (hb hby d1_54) rfl (l' := #[.val (.ref a1), .val (.int p2), .val (.int (3 : Int32)), .val (.int (y0 &&& (255 : Int32))), .val (.int ((((((((y0 &&& (255 : Int32)) &&& (15 : Int32)) <<< ((6 : Int32) &&& 31))) ||| (y1 &&& (63 : Int32))) <<< ((6 : Int32) &&& 31))) ||| (y2 &&& (63 : Int32)))), .val (.int ((p2 + (1 : Int32)) + (1 : Int32)))]) rfl q) ?_
  show Go p e below _ (T0.setTop (mkF m 56 #[.val (.ref a1), .val (.int p2), .val (.int (3 : Int32)), .val (.int (y0 &&& (255 : Int32))), .val (.int ((((((((y0 &&& (255 : Int32)) &&& (15 : Int32)) <<< ((6 : Int32) &&& 31))) ||| (y1 &&& (63 : Int32))) <<< ((6 : Int32) &&& 31))) ||| (y2 &&& (63 : Int32)))), .val (.int ((p2 + (1 : Int32)) + (1 : Int32)))] []))
  refine go (fun _ q => XS.iinc X0.here hx rfl (hb hby d1_56) rfl (l' := #[.val (.ref a1), .val (.int p2), .val (.int (3 : Int32)), .val (.int (y0 &&& (255 : Int32))), .val (.int ((((((((y0 &&& (255 : Int32)) &&& (15 : Int32)) <<< ((6 : Int32) &&& 31))) ||| (y1 &&& (63 : Int32))) <<< ((6 : Int32) &&& 31))) ||| (y2 &&& (63 : Int32)))), .val (.int (((p2 + (1 : Int32)) + (1 : Int32)) + (1 : Int32)))]) rfl q) ?_
  show Go p e below _ (T0.setTop (mkF m 59 #[.val (.ref a1), .val (.int p2), .val (.int (3 : Int32)), .val (.int (y0 &&& (255 : Int32))), .val (.int ((((((((y0 &&& (255 : Int32)) &&& (15 : Int32)) <<< ((6 : Int32) &&& 31))) ||| (y1 &&& (63 : Int32))) <<< ((6 : Int32) &&& 31))) ||| (y2 &&& (63 : Int32)))), .val (.int (((p2 + (1 : Int32)) + (1 : Int32)) + (1 : Int32)))] []))
  refine go (fun _ q => XS.goto X0.here hx rfl (pc0 := 59) (pc' := 33) rfl (hb hby d1_59) (by decide) (by decide) q) ?_
  show Go p e below _ (T0.setTop (mkF m 33 #[.val (.ref a1), .val (.int p2), .val (.int (3 : Int32)), .val (.int (y0 &&& (255 : Int32))), .val (.int ((((((((y0 &&& (255 : Int32)) &&& (15 : Int32)) <<< ((6 : Int32) &&& 31))) ||| (y1 &&& (63 : Int32))) <<< ((6 : Int32) &&& 31))) ||| (y2 &&& (63 : Int32)))), .val (.int (((p2 + (1 : Int32)) + (1 : Int32)) + (1 : Int32)))] []))
  refine go (fun _ q => XS.iload X0.here hx rfl (hb hby d1_33) rfl q) ?_
  show Go p e below _ (T0.setTop (mkF m 35 #[.val (.ref a1), .val (.int p2), .val (.int (3 : Int32)), .val (.int (y0 &&& (255 : Int32))), .val (.int ((((((((y0 &&& (255 : Int32)) &&& (15 : Int32)) <<< ((6 : Int32) &&& 31))) ||| (y1 &&& (63 : Int32))) <<< ((6 : Int32) &&& 31))) ||| (y2 &&& (63 : Int32)))), .val (.int (((p2 + (1 : Int32)) + (1 : Int32)) + (1 : Int32)))] [(.int (((p2 + (1 : Int32)) + (1 : Int32)) + (1 : Int32)))]))
  refine go (fun _ q => XS.iloadN X0.here hx rfl (hb hby d1_35) rfl q) ?_
  show Go p e below _ (T0.setTop (mkF m 36 #[.val (.ref a1), .val (.int p2), .val (.int (3 : Int32)), .val (.int (y0 &&& (255 : Int32))), .val (.int ((((((((y0 &&& (255 : Int32)) &&& (15 : Int32)) <<< ((6 : Int32) &&& 31))) ||| (y1 &&& (63 : Int32))) <<< ((6 : Int32) &&& 31))) ||| (y2 &&& (63 : Int32)))), .val (.int (((p2 + (1 : Int32)) + (1 : Int32)) + (1 : Int32)))] [(.int p2), (.int (((p2 + (1 : Int32)) + (1 : Int32)) + (1 : Int32)))]))
  refine go (fun _ q => XS.iloadN X0.here hx rfl (hb hby d1_36) rfl q) ?_
  show Go p e below _ (T0.setTop (mkF m 37 #[.val (.ref a1), .val (.int p2), .val (.int (3 : Int32)), .val (.int (y0 &&& (255 : Int32))), .val (.int ((((((((y0 &&& (255 : Int32)) &&& (15 : Int32)) <<< ((6 : Int32) &&& 31))) ||| (y1 &&& (63 : Int32))) <<< ((6 : Int32) &&& 31))) ||| (y2 &&& (63 : Int32)))), .val (.int (((p2 + (1 : Int32)) + (1 : Int32)) + (1 : Int32)))] [(.int (3 : Int32)), (.int p2), (.int (((p2 + (1 : Int32)) + (1 : Int32)) + (1 : Int32)))]))
  refine go (fun _ q => XS.iadd X0.here hx rfl (hb hby d1_37) rfl q) ?_
  show Go p e below _ (T0.setTop (mkF m 38 #[.val (.ref a1), .val (.int p2), .val (.int (3 : Int32)), .val (.int (y0 &&& (255 : Int32))), .val (.int ((((((((y0 &&& (255 : Int32)) &&& (15 : Int32)) <<< ((6 : Int32) &&& 31))) ||| (y1 &&& (63 : Int32))) <<< ((6 : Int32) &&& 31))) ||| (y2 &&& (63 : Int32)))), .val (.int (((p2 + (1 : Int32)) + (1 : Int32)) + (1 : Int32)))] [(.int (p2 + (3 : Int32))), (.int (((p2 + (1 : Int32)) + (1 : Int32)) + (1 : Int32)))]))
  have hk3 : ¬ ((((p2 + (1 : Int32)) + (1 : Int32)) + (1 : Int32)) < (p2 + (3 : Int32))) := by rcases h4 with rfl | rfl | rfl | rfl <;> decide
  refine go (fun _ q => XS.icmpYes X0.here hx rfl (pc0 := 38) (pc' := 62) rfl (hb hby d1_38) rfl (flt hk3).2.1 (by decide) (by decide) q) ?_
  show Go p e below _ (T0.setTop (mkF m 62 #[.val (.ref a1), .val (.int p2), .val (.int (3 : Int32)), .val (.int (y0 &&& (255 : Int32))), .val (.int ((((((((y0 &&& (255 : Int32)) &&& (15 : Int32)) <<< ((6 : Int32) &&& 31))) ||| (y1 &&& (63 : Int32))) <<< ((6 : Int32) &&& 31))) ||| (y2 &&& (63 : Int32)))), .val (.int (((p2 + (1 : Int32)) + (1 : Int32)) + (1 : Int32)))] []))
  refine go (fun _ q => XS.iload X0.here hx rfl (hb hby d1_62) rfl q) ?_
  show Go p e below _ (T0.setTop (mkF m 64 #[.val (.ref a1), .val (.int p2), .val (.int (3 : Int32)), .val (.int (y0 &&& (255 : Int32))), .val (.int ((((((((y0 &&& (255 : Int32)) &&& (15 : Int32)) <<< ((6 : Int32) &&& 31))) ||| (y1 &&& (63 : Int32))) <<< ((6 : Int32) &&& 31))) ||| (y2 &&& (63 : Int32)))), .val (.int (((p2 + (1 : Int32)) + (1 : Int32)) + (1 : Int32)))] [(.int ((((((((y0 &&& (255 : Int32)) &&& (15 : Int32)) <<< ((6 : Int32) &&& 31))) ||| (y1 &&& (63 : Int32))) <<< ((6 : Int32) &&& 31))) ||| (y2 &&& (63 : Int32))))]))
  exact own_retI X0 hx hlk hret (hb hby d1_64) (by decide) (by decide) ⟨congrArg (fun z => some (Value.int z)) (by rw [g3]), N0, e0⟩
def g4 (y0 y1 y2 y3 : Int32) : Int32 := (((((((((((y0 &&& (255 : Int32)) &&& (7 : Int32)) <<< ((6 : Int32) &&& 31))) ||| (y1 &&& (63 : Int32))) <<< ((6 : Int32) &&& 31))) ||| (y2 &&& (63 : Int32))) <<< ((6 : Int32) &&& 31))) ||| (y3 &&& (63 : Int32)))
set_option maxRecDepth 65536 in
set_option maxHeartbeats 40000000 in
theorem rm1_4 (l : Launch) (Z : State) (a0 : Array Value) (hw : ∀ d ∈ tables_1, d.before a0 Z = true) (ws : List Jvm.Cond) (a1 : Addr) (p2 : Int32) (h0 : Heap) (n0 : Nat) {cl : Cell} {y0 y1 y2 y3 : Int32} (h4 : own_four p2) (Ar_ : Arr Z h0 a1 cl .byte) (S : cl.slots.size = (8 : Int32).toNatClampNeg) (hat0 : cl.slots[(p2).toNatClampNeg]? = some (.int y0)) (hat1 : cl.slots[((p2 + (1 : Int32))).toNatClampNeg]? = some (.int y1)) (hat2 : cl.slots[(((p2 + (1 : Int32)) + (1 : Int32))).toNatClampNeg]? = some (.int y2)) (hat3 : cl.slots[((((p2 + (1 : Int32)) + (1 : Int32)) + (1 : Int32))).toNatClampNeg]? = some (.int y3)) :
    MetFree l (⟨"com/example/skipstone/skipstone/Utf8", "codePoint", "([BII)I"⟩ : MethodName) (head1 (Jvm.Cond.code (⟨"com/example/skipstone/skipstone/Utf8", "codePoint", "([BII)I"⟩ : MethodName) prog_143_method_3_code 6 (some .int) :: ws) ({ frames := 0, cells := 0, slots := 0, locals := 0 } : Room)) (fun a U => a = #[(.ref a1), (.int p2), (.int (4 : Int32))] ∧ Z.Warmed39 U.vm ∧ U.heap = h0) (fun _ _ _ _ _ => True) (fun _ U o U' => ∃ v L, o = .returned v ∧ (QP (some (.int (g4 y0 y1 y2 y3))) h0 n0) v U'.heap L ∧ FrameEnd U o U' L ({ frames := 0, cells := 0, slots := 0, locals := 0 } : Room).cells ({ frames := 0, cells := 0, slots := 0, locals := 0 } : Room).slots) := by
  refine own_met (plainFor_of_name pn_1) (fun m => ef_1 m a1 p2 (4 : Int32)) ?_
  intro p e s m below meth c T0 hx hby hml hown hnm hret hlk hZ X0 e0
  have hown : s.vm.findClass "com/example/skipstone/skipstone/Utf8" = some m.cls := hown
  have hnm : meth.name = "codePoint" := hnm
  have hret : meth.sig.returnType = some .int := hret
  have N0 := Fr.nil n0
  show Go p e below _ (T0.setTop (mkF m 0 #[.val (.ref a1), .val (.int p2), .val (.int (4 : Int32)), .unset, .unset, .unset] []))
  refine go (fun _ q => XS.aloadN X0.here hx rfl (hb hby d1_0) rfl rfl q) ?_
  show Go p e below _ (T0.setTop (mkF m 1 #[.val (.ref a1), .val (.int p2), .val (.int (4 : Int32)), .unset, .unset, .unset] [(.ref a1)]))
  refine go (fun _ q => XS.iloadN X0.here hx rfl (hb hby d1_1) rfl q) ?_
  show Go p e below _ (T0.setTop (mkF m 2 #[.val (.ref a1), .val (.int p2), .val (.int (4 : Int32)), .unset, .unset, .unset] [(.int p2), (.ref a1)]))
  refine go (X0.baloadBytes hx (j := p2) (v := (.int y0)) (by rw [e0]; exact Ar_.1) (State.isArrayOf_alike hZ.alike Ar_.2.1) Ar_.2.2 (inb_of S (own_j0 h4).1) hat0 (g := (mkF m 2 #[.val (.ref a1), .val (.int p2), .val (.int (4 : Int32)), .unset, .unset, .unset] [(.int p2), (.ref a1)])) rfl rfl (hb hby d1_2)) ?_
  show Go p e below _ (T0.setTop (mkF m 3 #[.val (.ref a1), .val (.int p2), .val (.int (4 : Int32)), .unset, .unset, .unset] [(.int y0)]))
  refine go (fun _ q => XS.sipush X0.here hx rfl (hb hby d1_3) q) ?_
  show Go p e below _ (T0.setTop (mkF m 6 #[.val (.ref a1), .val (.int p2), .val (.int (4 : Int32)), .unset, .unset, .unset] [(.int (255 : Int32)), (.int y0)]))
  refine go (fun _ q => XS.iand X0.here hx rfl (hb hby d1_6) rfl q) ?_
  show Go p e below _ (T0.setTop (mkF m 7 #[.val (.ref a1), .val (.int p2), .val (.int (4 : Int32)), .unset, .unset, .unset] [(.int (y0 &&& (255 : Int32)))]))
  refine go (fun _ q => XS.istoreN X0.here hx rfl (hb hby d1_7) rfl (l' := #[.val (.ref a1), .val (.int p2), .val (.int (4 : Int32)), .val (.int (y0 &&& (255 : Int32))), .unset, .unset]) rfl q) ?_
  show Go p e below _ (T0.setTop (mkF m 8 #[.val (.ref a1), .val (.int p2), .val (.int (4 : Int32)), .val (.int (y0 &&& (255 : Int32))), .unset, .unset] []))
  refine go (fun _ q => XS.iloadN X0.here hx rfl (hb hby d1_8) rfl q) ?_
  show Go p e below _ (T0.setTop (mkF m 9 #[.val (.ref a1), .val (.int p2), .val (.int (4 : Int32)), .val (.int (y0 &&& (255 : Int32))), .unset, .unset] [(.int (4 : Int32))]))
  refine go (fun _ q => XS.iconst X0.here hx rfl (hb hby d1_9) q) ?_
  show Go p e below _ (T0.setTop (mkF m 10 #[.val (.ref a1), .val (.int p2), .val (.int (4 : Int32)), .val (.int (y0 &&& (255 : Int32))), .unset, .unset] [(.int (1 : Int32)), (.int (4 : Int32))]))
  refine go (fun _ q => XS.icmpYes X0.here hx rfl (pc0 := 10) (pc' := 17) rfl (hb hby d1_10) rfl (feq (by decide : ¬ ((4 : Int32) = (1 : Int32)))).2 (by decide) (by decide) q) ?_
  show Go p e below _ (T0.setTop (mkF m 17 #[.val (.ref a1), .val (.int p2), .val (.int (4 : Int32)), .val (.int (y0 &&& (255 : Int32))), .unset, .unset] []))
  refine go (fun _ q => XS.iloadN X0.here hx rfl (hb hby d1_17) rfl q) ?_
  show Go p e below _ (T0.setTop (mkF m 18 #[.val (.ref a1), .val (.int p2), .val (.int (4 : Int32)), .val (.int (y0 &&& (255 : Int32))), .unset, .unset] [(.int (y0 &&& (255 : Int32)))]))
  refine go (fun _ q => XS.sipush X0.here hx rfl (hb hby d1_18) q) ?_
  show Go p e below _ (T0.setTop (mkF m 21 #[.val (.ref a1), .val (.int p2), .val (.int (4 : Int32)), .val (.int (y0 &&& (255 : Int32))), .unset, .unset] [(.int (255 : Int32)), (.int (y0 &&& (255 : Int32)))]))
  refine go (fun _ q => XS.iloadN X0.here hx rfl (hb hby d1_21) rfl q) ?_
  show Go p e below _ (T0.setTop (mkF m 22 #[.val (.ref a1), .val (.int p2), .val (.int (4 : Int32)), .val (.int (y0 &&& (255 : Int32))), .unset, .unset] [(.int (4 : Int32)), (.int (255 : Int32)), (.int (y0 &&& (255 : Int32)))]))
  refine go (fun _ q => XS.iconst X0.here hx rfl (hb hby d1_22) q) ?_
  show Go p e below _ (T0.setTop (mkF m 23 #[.val (.ref a1), .val (.int p2), .val (.int (4 : Int32)), .val (.int (y0 &&& (255 : Int32))), .unset, .unset] [(.int (1 : Int32)), (.int (4 : Int32)), (.int (255 : Int32)), (.int (y0 &&& (255 : Int32)))]))
  refine go (fun _ q => XS.iadd X0.here hx rfl (hb hby d1_23) rfl q) ?_
  show Go p e below _ (T0.setTop (mkF m 24 #[.val (.ref a1), .val (.int p2), .val (.int (4 : Int32)), .val (.int (y0 &&& (255 : Int32))), .unset, .unset] [(.int (5 : Int32)), (.int (255 : Int32)), (.int (y0 &&& (255 : Int32)))]))
  refine go (fun _ q => XS.iushr X0.here hx rfl (hb hby d1_24) rfl q) ?_
  show Go p e below _ (T0.setTop (mkF m 25 #[.val (.ref a1), .val (.int p2), .val (.int (4 : Int32)), .val (.int (y0 &&& (255 : Int32))), .unset, .unset] [(.int (7 : Int32)), (.int (y0 &&& (255 : Int32)))]))
  refine go (fun _ q => XS.iand X0.here hx rfl (hb hby d1_25) rfl q) ?_
  show Go p e below _ (T0.setTop (mkF m 26 #[.val (.ref a1), .val (.int p2), .val (.int (4 : Int32)), .val (.int (y0 &&& (255 : Int32))), .unset, .unset] [(.int ((y0 &&& (255 : Int32)) &&& (7 : Int32)))]))
  refine go (fun _ q => XS.istore X0.here hx rfl (hb hby d1_26) rfl (l' := #[.val (.ref a1), .val (.int p2), .val (.int (4 : Int32)), .val (.int (y0 &&& (255 : Int32))), .val (.int ((y0 &&& (255 : Int32)) &&& (7 : Int32))), .unset]) rfl q) ?_
  show Go p e below _ (T0.setTop (mkF m 28 #[.val (.ref a1), .val (.int p2), .val (.int (4 : Int32)), .val (.int (y0 &&& (255 : Int32))), .val (.int ((y0 &&& (255 : Int32)) &&& (7 : Int32))), .unset] []))
  refine go (fun _ q => XS.iloadN X0.here hx rfl (hb hby d1_28) rfl q) ?_
  show Go p e below _ (T0.setTop (mkF m 29 #[.val (.ref a1), .val (.int p2), .val (.int (4 : Int32)), .val (.int (y0 &&& (255 : Int32))), .val (.int ((y0 &&& (255 : Int32)) &&& (7 : Int32))), .unset] [(.int p2)]))
  refine go (fun _ q => XS.iconst X0.here hx rfl (hb hby d1_29) q) ?_
  show Go p e below _ (T0.setTop (mkF m 30 #[.val (.ref a1), .val (.int p2), .val (.int (4 : Int32)), .val (.int (y0 &&& (255 : Int32))), .val (.int ((y0 &&& (255 : Int32)) &&& (7 : Int32))), .unset] [(.int (1 : Int32)), (.int p2)]))
  refine go (fun _ q => XS.iadd X0.here hx rfl (hb hby d1_30) rfl q) ?_
  show Go p e below _ (T0.setTop (mkF m 31 #[.val (.ref a1), .val (.int p2), .val (.int (4 : Int32)), .val (.int (y0 &&& (255 : Int32))), .val (.int ((y0 &&& (255 : Int32)) &&& (7 : Int32))), .unset] [(.int (p2 + (1 : Int32)))]))
  refine go (fun _ q => XS.istore X0.here hx rfl (hb hby d1_31) rfl (l' := #[.val (.ref a1), .val (.int p2), .val (.int (4 : Int32)), .val (.int (y0 &&& (255 : Int32))), .val (.int ((y0 &&& (255 : Int32)) &&& (7 : Int32))), .val (.int (p2 + (1 : Int32)))]) rfl q) ?_
  show Go p e below _ (T0.setTop (mkF m 33 #[.val (.ref a1), .val (.int p2), .val (.int (4 : Int32)), .val (.int (y0 &&& (255 : Int32))), .val (.int ((y0 &&& (255 : Int32)) &&& (7 : Int32))), .val (.int (p2 + (1 : Int32)))] []))
  refine go (fun _ q => XS.iload X0.here hx rfl (hb hby d1_33) rfl q) ?_
  show Go p e below _ (T0.setTop (mkF m 35 #[.val (.ref a1), .val (.int p2), .val (.int (4 : Int32)), .val (.int (y0 &&& (255 : Int32))), .val (.int ((y0 &&& (255 : Int32)) &&& (7 : Int32))), .val (.int (p2 + (1 : Int32)))] [(.int (p2 + (1 : Int32)))]))
  refine go (fun _ q => XS.iloadN X0.here hx rfl (hb hby d1_35) rfl q) ?_
  show Go p e below _ (T0.setTop (mkF m 36 #[.val (.ref a1), .val (.int p2), .val (.int (4 : Int32)), .val (.int (y0 &&& (255 : Int32))), .val (.int ((y0 &&& (255 : Int32)) &&& (7 : Int32))), .val (.int (p2 + (1 : Int32)))] [(.int p2), (.int (p2 + (1 : Int32)))]))
  refine go (fun _ q => XS.iloadN X0.here hx rfl (hb hby d1_36) rfl q) ?_
  show Go p e below _ (T0.setTop (mkF m 37 #[.val (.ref a1), .val (.int p2), .val (.int (4 : Int32)), .val (.int (y0 &&& (255 : Int32))), .val (.int ((y0 &&& (255 : Int32)) &&& (7 : Int32))), .val (.int (p2 + (1 : Int32)))] [(.int (4 : Int32)), (.int p2), (.int (p2 + (1 : Int32)))]))
  refine go (fun _ q => XS.iadd X0.here hx rfl (hb hby d1_37) rfl q) ?_
  show Go p e below _ (T0.setTop (mkF m 38 #[.val (.ref a1), .val (.int p2), .val (.int (4 : Int32)), .val (.int (y0 &&& (255 : Int32))), .val (.int ((y0 &&& (255 : Int32)) &&& (7 : Int32))), .val (.int (p2 + (1 : Int32)))] [(.int (p2 + (4 : Int32))), (.int (p2 + (1 : Int32)))]))
  have hk1 : (p2 + (1 : Int32)) < (p2 + (4 : Int32)) := by rcases h4 with rfl | rfl | rfl | rfl <;> decide
  refine go (fun _ q => XS.icmpNo X0.here hx rfl (hb hby d1_38) rfl (tlt hk1).2.1 q) ?_
  show Go p e below _ (T0.setTop (mkF m 41 #[.val (.ref a1), .val (.int p2), .val (.int (4 : Int32)), .val (.int (y0 &&& (255 : Int32))), .val (.int ((y0 &&& (255 : Int32)) &&& (7 : Int32))), .val (.int (p2 + (1 : Int32)))] []))
  refine go (fun _ q => XS.iload X0.here hx rfl (hb hby d1_41) rfl q) ?_
  show Go p e below _ (T0.setTop (mkF m 43 #[.val (.ref a1), .val (.int p2), .val (.int (4 : Int32)), .val (.int (y0 &&& (255 : Int32))), .val (.int ((y0 &&& (255 : Int32)) &&& (7 : Int32))), .val (.int (p2 + (1 : Int32)))] [(.int ((y0 &&& (255 : Int32)) &&& (7 : Int32)))]))
  refine go (fun _ q => XS.bipush X0.here hx rfl (hb hby d1_43) q) ?_
  show Go p e below _ (T0.setTop (mkF m 45 #[.val (.ref a1), .val (.int p2), .val (.int (4 : Int32)), .val (.int (y0 &&& (255 : Int32))), .val (.int ((y0 &&& (255 : Int32)) &&& (7 : Int32))), .val (.int (p2 + (1 : Int32)))] [(.int (6 : Int32)), (.int ((y0 &&& (255 : Int32)) &&& (7 : Int32)))]))
  refine go (fun _ q => XS.ishl X0.here hx rfl (hb hby d1_45) rfl q) ?_
  show Go p e below _ (T0.setTop (mkF m 46 #[.val (.ref a1), .val (.int p2), .val (.int (4 : Int32)), .val (.int (y0 &&& (255 : Int32))), .val (.int ((y0 &&& (255 : Int32)) &&& (7 : Int32))), .val (.int (p2 + (1 : Int32)))] [(.int ((((y0 &&& (255 : Int32)) &&& (7 : Int32)) <<< ((6 : Int32) &&& 31))))]))
  refine go (fun _ q => XS.aloadN X0.here hx rfl (hb hby d1_46) rfl rfl q) ?_
  show Go p e below _ (T0.setTop (mkF m 47 #[.val (.ref a1), .val (.int p2), .val (.int (4 : Int32)), .val (.int (y0 &&& (255 : Int32))), .val (.int ((y0 &&& (255 : Int32)) &&& (7 : Int32))), .val (.int (p2 + (1 : Int32)))] [(.ref a1), (.int ((((y0 &&& (255 : Int32)) &&& (7 : Int32)) <<< ((6 : Int32) &&& 31))))]))
  refine go (fun _ q => XS.iload X0.here hx rfl (hb hby d1_47) rfl q) ?_
  show Go p e below _ (T0.setTop (mkF m 49 #[.val (.ref a1), .val (.int p2), .val (.int (4 : Int32)), .val (.int (y0 &&& (255 : Int32))), .val (.int ((y0 &&& (255 : Int32)) &&& (7 : Int32))), .val (.int (p2 + (1 : Int32)))] [(.int (p2 + (1 : Int32))), (.ref a1), (.int ((((y0 &&& (255 : Int32)) &&& (7 : Int32)) <<< ((6 : Int32) &&& 31))))]))
  refine go (X0.baloadBytes hx (j := (p2 + (1 : Int32))) (v := (.int y1)) (by rw [e0]; exact Ar_.1) (State.isArrayOf_alike hZ.alike Ar_.2.1) Ar_.2.2 (inb_of S (own_j1 h4).1) hat1 (g := (mkF m 49 #[.val (.ref a1), .val (.int p2), .val (.int (4 : Int32)), .val (.int (y0 &&& (255 : Int32))), .val (.int ((y0 &&& (255 : Int32)) &&& (7 : Int32))), .val (.int (p2 + (1 : Int32)))] [(.int (p2 + (1 : Int32))), (.ref a1), (.int ((((y0 &&& (255 : Int32)) &&& (7 : Int32)) <<< ((6 : Int32) &&& 31))))])) rfl rfl (hb hby d1_49)) ?_
  show Go p e below _ (T0.setTop (mkF m 50 #[.val (.ref a1), .val (.int p2), .val (.int (4 : Int32)), .val (.int (y0 &&& (255 : Int32))), .val (.int ((y0 &&& (255 : Int32)) &&& (7 : Int32))), .val (.int (p2 + (1 : Int32)))] [(.int y1), (.int ((((y0 &&& (255 : Int32)) &&& (7 : Int32)) <<< ((6 : Int32) &&& 31))))]))
  refine go (fun _ q => XS.bipush X0.here hx rfl (hb hby d1_50) q) ?_
  show Go p e below _ (T0.setTop (mkF m 52 #[.val (.ref a1), .val (.int p2), .val (.int (4 : Int32)), .val (.int (y0 &&& (255 : Int32))), .val (.int ((y0 &&& (255 : Int32)) &&& (7 : Int32))), .val (.int (p2 + (1 : Int32)))] [(.int (63 : Int32)), (.int y1), (.int ((((y0 &&& (255 : Int32)) &&& (7 : Int32)) <<< ((6 : Int32) &&& 31))))]))
  refine go (fun _ q => XS.iand X0.here hx rfl (hb hby d1_52) rfl q) ?_
  show Go p e below _ (T0.setTop (mkF m 53 #[.val (.ref a1), .val (.int p2), .val (.int (4 : Int32)), .val (.int (y0 &&& (255 : Int32))), .val (.int ((y0 &&& (255 : Int32)) &&& (7 : Int32))), .val (.int (p2 + (1 : Int32)))] [(.int (y1 &&& (63 : Int32))), (.int ((((y0 &&& (255 : Int32)) &&& (7 : Int32)) <<< ((6 : Int32) &&& 31))))]))
  refine go (fun _ q => XS.ior X0.here hx rfl (hb hby d1_53) rfl q) ?_
  show Go p e below _ (T0.setTop (mkF m 54 #[.val (.ref a1), .val (.int p2), .val (.int (4 : Int32)), .val (.int (y0 &&& (255 : Int32))), .val (.int ((y0 &&& (255 : Int32)) &&& (7 : Int32))), .val (.int (p2 + (1 : Int32)))] [(.int (((((y0 &&& (255 : Int32)) &&& (7 : Int32)) <<< ((6 : Int32) &&& 31))) ||| (y1 &&& (63 : Int32))))]))
  refine go (fun _ q => XS.istore X0.here hx rfl (hb hby d1_54) rfl (l' := #[.val (.ref a1), .val (.int p2), .val (.int (4 : Int32)), .val (.int (y0 &&& (255 : Int32))), .val (.int (((((y0 &&& (255 : Int32)) &&& (7 : Int32)) <<< ((6 : Int32) &&& 31))) ||| (y1 &&& (63 : Int32)))), .val (.int (p2 + (1 : Int32)))]) rfl q) ?_
  show Go p e below _ (T0.setTop (mkF m 56 #[.val (.ref a1), .val (.int p2), .val (.int (4 : Int32)), .val (.int (y0 &&& (255 : Int32))), .val (.int (((((y0 &&& (255 : Int32)) &&& (7 : Int32)) <<< ((6 : Int32) &&& 31))) ||| (y1 &&& (63 : Int32)))), .val (.int (p2 + (1 : Int32)))] []))
  refine go (fun _ q => XS.iinc X0.here hx rfl (hb hby d1_56) rfl (l' := #[.val (.ref a1), .val (.int p2), .val (.int (4 : Int32)), .val (.int (y0 &&& (255 : Int32))), .val (.int (((((y0 &&& (255 : Int32)) &&& (7 : Int32)) <<< ((6 : Int32) &&& 31))) ||| (y1 &&& (63 : Int32)))), .val (.int ((p2 + (1 : Int32)) + (1 : Int32)))]) rfl q) ?_
  show Go p e below _ (T0.setTop (mkF m 59 #[.val (.ref a1), .val (.int p2), .val (.int (4 : Int32)), .val (.int (y0 &&& (255 : Int32))), .val (.int (((((y0 &&& (255 : Int32)) &&& (7 : Int32)) <<< ((6 : Int32) &&& 31))) ||| (y1 &&& (63 : Int32)))), .val (.int ((p2 + (1 : Int32)) + (1 : Int32)))] []))
  refine go (fun _ q => XS.goto X0.here hx rfl (pc0 := 59) (pc' := 33) rfl (hb hby d1_59) (by decide) (by decide) q) ?_
  show Go p e below _ (T0.setTop (mkF m 33 #[.val (.ref a1), .val (.int p2), .val (.int (4 : Int32)), .val (.int (y0 &&& (255 : Int32))), .val (.int (((((y0 &&& (255 : Int32)) &&& (7 : Int32)) <<< ((6 : Int32) &&& 31))) ||| (y1 &&& (63 : Int32)))), .val (.int ((p2 + (1 : Int32)) + (1 : Int32)))] []))
  refine go (fun _ q => XS.iload X0.here hx rfl (hb hby d1_33) rfl q) ?_
  show Go p e below _ (T0.setTop (mkF m 35 #[.val (.ref a1), .val (.int p2), .val (.int (4 : Int32)), .val (.int (y0 &&& (255 : Int32))), .val (.int (((((y0 &&& (255 : Int32)) &&& (7 : Int32)) <<< ((6 : Int32) &&& 31))) ||| (y1 &&& (63 : Int32)))), .val (.int ((p2 + (1 : Int32)) + (1 : Int32)))] [(.int ((p2 + (1 : Int32)) + (1 : Int32)))]))
  refine go (fun _ q => XS.iloadN X0.here hx rfl (hb hby d1_35) rfl q) ?_
  show Go p e below _ (T0.setTop (mkF m 36 #[.val (.ref a1), .val (.int p2), .val (.int (4 : Int32)), .val (.int (y0 &&& (255 : Int32))), .val (.int (((((y0 &&& (255 : Int32)) &&& (7 : Int32)) <<< ((6 : Int32) &&& 31))) ||| (y1 &&& (63 : Int32)))), .val (.int ((p2 + (1 : Int32)) + (1 : Int32)))] [(.int p2), (.int ((p2 + (1 : Int32)) + (1 : Int32)))]))
  refine go (fun _ q => XS.iloadN X0.here hx rfl (hb hby d1_36) rfl q) ?_
  show Go p e below _ (T0.setTop (mkF m 37 #[.val (.ref a1), .val (.int p2), .val (.int (4 : Int32)), .val (.int (y0 &&& (255 : Int32))), .val (.int (((((y0 &&& (255 : Int32)) &&& (7 : Int32)) <<< ((6 : Int32) &&& 31))) ||| (y1 &&& (63 : Int32)))), .val (.int ((p2 + (1 : Int32)) + (1 : Int32)))] [(.int (4 : Int32)), (.int p2), (.int ((p2 + (1 : Int32)) + (1 : Int32)))]))
  refine go (fun _ q => XS.iadd X0.here hx rfl (hb hby d1_37) rfl q) ?_
  show Go p e below _ (T0.setTop (mkF m 38 #[.val (.ref a1), .val (.int p2), .val (.int (4 : Int32)), .val (.int (y0 &&& (255 : Int32))), .val (.int (((((y0 &&& (255 : Int32)) &&& (7 : Int32)) <<< ((6 : Int32) &&& 31))) ||| (y1 &&& (63 : Int32)))), .val (.int ((p2 + (1 : Int32)) + (1 : Int32)))] [(.int (p2 + (4 : Int32))), (.int ((p2 + (1 : Int32)) + (1 : Int32)))]))
  have hk2 : ((p2 + (1 : Int32)) + (1 : Int32)) < (p2 + (4 : Int32)) := by rcases h4 with rfl | rfl | rfl | rfl <;> decide
  refine go (fun _ q => XS.icmpNo X0.here hx rfl (hb hby d1_38) rfl (tlt hk2).2.1 q) ?_
  show Go p e below _ (T0.setTop (mkF m 41 #[.val (.ref a1), .val (.int p2), .val (.int (4 : Int32)), .val (.int (y0 &&& (255 : Int32))), .val (.int (((((y0 &&& (255 : Int32)) &&& (7 : Int32)) <<< ((6 : Int32) &&& 31))) ||| (y1 &&& (63 : Int32)))), .val (.int ((p2 + (1 : Int32)) + (1 : Int32)))] []))
  refine go (fun _ q => XS.iload X0.here hx rfl (hb hby d1_41) rfl q) ?_
  show Go p e below _ (T0.setTop (mkF m 43 #[.val (.ref a1), .val (.int p2), .val (.int (4 : Int32)), .val (.int (y0 &&& (255 : Int32))), .val (.int (((((y0 &&& (255 : Int32)) &&& (7 : Int32)) <<< ((6 : Int32) &&& 31))) ||| (y1 &&& (63 : Int32)))), .val (.int ((p2 + (1 : Int32)) + (1 : Int32)))] [(.int (((((y0 &&& (255 : Int32)) &&& (7 : Int32)) <<< ((6 : Int32) &&& 31))) ||| (y1 &&& (63 : Int32))))]))
  refine go (fun _ q => XS.bipush X0.here hx rfl (hb hby d1_43) q) ?_
  show Go p e below _ (T0.setTop (mkF m 45 #[.val (.ref a1), .val (.int p2), .val (.int (4 : Int32)), .val (.int (y0 &&& (255 : Int32))), .val (.int (((((y0 &&& (255 : Int32)) &&& (7 : Int32)) <<< ((6 : Int32) &&& 31))) ||| (y1 &&& (63 : Int32)))), .val (.int ((p2 + (1 : Int32)) + (1 : Int32)))] [(.int (6 : Int32)), (.int (((((y0 &&& (255 : Int32)) &&& (7 : Int32)) <<< ((6 : Int32) &&& 31))) ||| (y1 &&& (63 : Int32))))]))
  refine go (fun _ q => XS.ishl X0.here hx rfl (hb hby d1_45) rfl q) ?_
  show Go p e below _ (T0.setTop (mkF m 46 #[.val (.ref a1), .val (.int p2), .val (.int (4 : Int32)), .val (.int (y0 &&& (255 : Int32))), .val (.int (((((y0 &&& (255 : Int32)) &&& (7 : Int32)) <<< ((6 : Int32) &&& 31))) ||| (y1 &&& (63 : Int32)))), .val (.int ((p2 + (1 : Int32)) + (1 : Int32)))] [(.int (((((((y0 &&& (255 : Int32)) &&& (7 : Int32)) <<< ((6 : Int32) &&& 31))) ||| (y1 &&& (63 : Int32))) <<< ((6 : Int32) &&& 31))))]))
  refine go (fun _ q => XS.aloadN X0.here hx rfl (hb hby d1_46) rfl rfl q) ?_
  show Go p e below _ (T0.setTop (mkF m 47 #[.val (.ref a1), .val (.int p2), .val (.int (4 : Int32)), .val (.int (y0 &&& (255 : Int32))), .val (.int (((((y0 &&& (255 : Int32)) &&& (7 : Int32)) <<< ((6 : Int32) &&& 31))) ||| (y1 &&& (63 : Int32)))), .val (.int ((p2 + (1 : Int32)) + (1 : Int32)))] [(.ref a1), (.int (((((((y0 &&& (255 : Int32)) &&& (7 : Int32)) <<< ((6 : Int32) &&& 31))) ||| (y1 &&& (63 : Int32))) <<< ((6 : Int32) &&& 31))))]))
  refine go (fun _ q => XS.iload X0.here hx rfl (hb hby d1_47) rfl q) ?_
  show Go p e below _ (T0.setTop (mkF m 49 #[.val (.ref a1), .val (.int p2), .val (.int (4 : Int32)), .val (.int (y0 &&& (255 : Int32))), .val (.int (((((y0 &&& (255 : Int32)) &&& (7 : Int32)) <<< ((6 : Int32) &&& 31))) ||| (y1 &&& (63 : Int32)))), .val (.int ((p2 + (1 : Int32)) + (1 : Int32)))] [(.int ((p2 + (1 : Int32)) + (1 : Int32))), (.ref a1), (.int (((((((y0 &&& (255 : Int32)) &&& (7 : Int32)) <<< ((6 : Int32) &&& 31))) ||| (y1 &&& (63 : Int32))) <<< ((6 : Int32) &&& 31))))]))
  refine go (X0.baloadBytes hx (j := ((p2 + (1 : Int32)) + (1 : Int32))) (v := (.int y2)) (by rw [e0]; exact Ar_.1) (State.isArrayOf_alike hZ.alike Ar_.2.1) Ar_.2.2 (inb_of S (own_i2 h4)) hat2 (g := (mkF m 49 #[.val (.ref a1), .val (.int p2), .val (.int (4 : Int32)), .val (.int (y0 &&& (255 : Int32))), .val (.int (((((y0 &&& (255 : Int32)) &&& (7 : Int32)) <<< ((6 : Int32) &&& 31))) ||| (y1 &&& (63 : Int32)))), .val (.int ((p2 + (1 : Int32)) + (1 : Int32)))] [(.int ((p2 + (1 : Int32)) + (1 : Int32))), (.ref a1), (.int (((((((y0 &&& (255 : Int32)) &&& (7 : Int32)) <<< ((6 : Int32) &&& 31))) ||| (y1 &&& (63 : Int32))) <<< ((6 : Int32) &&& 31))))])) rfl rfl (hb hby d1_49)) ?_
  show Go p e below _ (T0.setTop (mkF m 50 #[.val (.ref a1), .val (.int p2), .val (.int (4 : Int32)), .val (.int (y0 &&& (255 : Int32))), .val (.int (((((y0 &&& (255 : Int32)) &&& (7 : Int32)) <<< ((6 : Int32) &&& 31))) ||| (y1 &&& (63 : Int32)))), .val (.int ((p2 + (1 : Int32)) + (1 : Int32)))] [(.int y2), (.int (((((((y0 &&& (255 : Int32)) &&& (7 : Int32)) <<< ((6 : Int32) &&& 31))) ||| (y1 &&& (63 : Int32))) <<< ((6 : Int32) &&& 31))))]))
  refine go (fun _ q => XS.bipush X0.here hx rfl (hb hby d1_50) q) ?_
  show Go p e below _ (T0.setTop (mkF m 52 #[.val (.ref a1), .val (.int p2), .val (.int (4 : Int32)), .val (.int (y0 &&& (255 : Int32))), .val (.int (((((y0 &&& (255 : Int32)) &&& (7 : Int32)) <<< ((6 : Int32) &&& 31))) ||| (y1 &&& (63 : Int32)))), .val (.int ((p2 + (1 : Int32)) + (1 : Int32)))] [(.int (63 : Int32)), (.int y2), (.int (((((((y0 &&& (255 : Int32)) &&& (7 : Int32)) <<< ((6 : Int32) &&& 31))) ||| (y1 &&& (63 : Int32))) <<< ((6 : Int32) &&& 31))))]))
  refine go (fun _ q => XS.iand X0.here hx rfl (hb hby d1_52) rfl q) ?_
  show Go p e below _ (T0.setTop (mkF m 53 #[.val (.ref a1), .val (.int p2), .val (.int (4 : Int32)), .val (.int (y0 &&& (255 : Int32))), .val (.int (((((y0 &&& (255 : Int32)) &&& (7 : Int32)) <<< ((6 : Int32) &&& 31))) ||| (y1 &&& (63 : Int32)))), .val (.int ((p2 + (1 : Int32)) + (1 : Int32)))] [(.int (y2 &&& (63 : Int32))), (.int (((((((y0 &&& (255 : Int32)) &&& (7 : Int32)) <<< ((6 : Int32) &&& 31))) ||| (y1 &&& (63 : Int32))) <<< ((6 : Int32) &&& 31))))]))
  refine go (fun _ q => XS.ior X0.here hx rfl (hb hby d1_53) rfl q) ?_
  show Go p e below _ (T0.setTop (mkF m 54 #[.val (.ref a1), .val (.int p2), .val (.int (4 : Int32)), .val (.int (y0 &&& (255 : Int32))), .val (.int (((((y0 &&& (255 : Int32)) &&& (7 : Int32)) <<< ((6 : Int32) &&& 31))) ||| (y1 &&& (63 : Int32)))), .val (.int ((p2 + (1 : Int32)) + (1 : Int32)))] [(.int ((((((((y0 &&& (255 : Int32)) &&& (7 : Int32)) <<< ((6 : Int32) &&& 31))) ||| (y1 &&& (63 : Int32))) <<< ((6 : Int32) &&& 31))) ||| (y2 &&& (63 : Int32))))]))
  refine go (fun _ q => XS.istore X0.here hx rfl (hb hby d1_54) rfl (l' := #[.val (.ref a1), .val (.int p2), .val (.int (4 : Int32)), .val (.int (y0 &&& (255 : Int32))), .val (.int ((((((((y0 &&& (255 : Int32)) &&& (7 : Int32)) <<< ((6 : Int32) &&& 31))) ||| (y1 &&& (63 : Int32))) <<< ((6 : Int32) &&& 31))) ||| (y2 &&& (63 : Int32)))), .val (.int ((p2 + (1 : Int32)) + (1 : Int32)))]) rfl q) ?_
  show Go p e below _ (T0.setTop (mkF m 56 #[.val (.ref a1), .val (.int p2), .val (.int (4 : Int32)), .val (.int (y0 &&& (255 : Int32))), .val (.int ((((((((y0 &&& (255 : Int32)) &&& (7 : Int32)) <<< ((6 : Int32) &&& 31))) ||| (y1 &&& (63 : Int32))) <<< ((6 : Int32) &&& 31))) ||| (y2 &&& (63 : Int32)))), .val (.int ((p2 + (1 : Int32)) + (1 : Int32)))] []))
  refine go (fun _ q => XS.iinc X0.here hx rfl (hb hby d1_56) rfl (l' := #[.val (.ref a1), .val (.int p2), .val (.int (4 : Int32)), .val (.int (y0 &&& (255 : Int32))), .val (.int ((((((((y0 &&& (255 : Int32)) &&& (7 : Int32)) <<< ((6 : Int32) &&& 31))) ||| (y1 &&& (63 : Int32))) <<< ((6 : Int32) &&& 31))) ||| (y2 &&& (63 : Int32)))), .val (.int (((p2 + (1 : Int32)) + (1 : Int32)) + (1 : Int32)))]) rfl q) ?_
  show Go p e below _ (T0.setTop (mkF m 59 #[.val (.ref a1), .val (.int p2), .val (.int (4 : Int32)), .val (.int (y0 &&& (255 : Int32))), .val (.int ((((((((y0 &&& (255 : Int32)) &&& (7 : Int32)) <<< ((6 : Int32) &&& 31))) ||| (y1 &&& (63 : Int32))) <<< ((6 : Int32) &&& 31))) ||| (y2 &&& (63 : Int32)))), .val (.int (((p2 + (1 : Int32)) + (1 : Int32)) + (1 : Int32)))] []))
  refine go (fun _ q => XS.goto X0.here hx rfl (pc0 := 59) (pc' := 33) rfl (hb hby d1_59) (by decide) (by decide) q) ?_
  show Go p e below _ (T0.setTop (mkF m 33 #[.val (.ref a1), .val (.int p2), .val (.int (4 : Int32)), .val (.int (y0 &&& (255 : Int32))), .val (.int ((((((((y0 &&& (255 : Int32)) &&& (7 : Int32)) <<< ((6 : Int32) &&& 31))) ||| (y1 &&& (63 : Int32))) <<< ((6 : Int32) &&& 31))) ||| (y2 &&& (63 : Int32)))), .val (.int (((p2 + (1 : Int32)) + (1 : Int32)) + (1 : Int32)))] []))
  refine go (fun _ q => XS.iload X0.here hx rfl (hb hby d1_33) rfl q) ?_
  show Go p e below _ (T0.setTop (mkF m 35 #[.val (.ref a1), .val (.int p2), .val (.int (4 : Int32)), .val (.int (y0 &&& (255 : Int32))), .val (.int ((((((((y0 &&& (255 : Int32)) &&& (7 : Int32)) <<< ((6 : Int32) &&& 31))) ||| (y1 &&& (63 : Int32))) <<< ((6 : Int32) &&& 31))) ||| (y2 &&& (63 : Int32)))), .val (.int (((p2 + (1 : Int32)) + (1 : Int32)) + (1 : Int32)))] [(.int (((p2 + (1 : Int32)) + (1 : Int32)) + (1 : Int32)))]))
  refine go (fun _ q => XS.iloadN X0.here hx rfl (hb hby d1_35) rfl q) ?_
  show Go p e below _ (T0.setTop (mkF m 36 #[.val (.ref a1), .val (.int p2), .val (.int (4 : Int32)), .val (.int (y0 &&& (255 : Int32))), .val (.int ((((((((y0 &&& (255 : Int32)) &&& (7 : Int32)) <<< ((6 : Int32) &&& 31))) ||| (y1 &&& (63 : Int32))) <<< ((6 : Int32) &&& 31))) ||| (y2 &&& (63 : Int32)))), .val (.int (((p2 + (1 : Int32)) + (1 : Int32)) + (1 : Int32)))] [(.int p2), (.int (((p2 + (1 : Int32)) + (1 : Int32)) + (1 : Int32)))]))
  refine go (fun _ q => XS.iloadN X0.here hx rfl (hb hby d1_36) rfl q) ?_
  show Go p e below _ (T0.setTop (mkF m 37 #[.val (.ref a1), .val (.int p2), .val (.int (4 : Int32)), .val (.int (y0 &&& (255 : Int32))), .val (.int ((((((((y0 &&& (255 : Int32)) &&& (7 : Int32)) <<< ((6 : Int32) &&& 31))) ||| (y1 &&& (63 : Int32))) <<< ((6 : Int32) &&& 31))) ||| (y2 &&& (63 : Int32)))), .val (.int (((p2 + (1 : Int32)) + (1 : Int32)) + (1 : Int32)))] [(.int (4 : Int32)), (.int p2), (.int (((p2 + (1 : Int32)) + (1 : Int32)) + (1 : Int32)))]))
  refine go (fun _ q => XS.iadd X0.here hx rfl (hb hby d1_37) rfl q) ?_
  show Go p e below _ (T0.setTop (mkF m 38 #[.val (.ref a1), .val (.int p2), .val (.int (4 : Int32)), .val (.int (y0 &&& (255 : Int32))), .val (.int ((((((((y0 &&& (255 : Int32)) &&& (7 : Int32)) <<< ((6 : Int32) &&& 31))) ||| (y1 &&& (63 : Int32))) <<< ((6 : Int32) &&& 31))) ||| (y2 &&& (63 : Int32)))), .val (.int (((p2 + (1 : Int32)) + (1 : Int32)) + (1 : Int32)))] [(.int (p2 + (4 : Int32))), (.int (((p2 + (1 : Int32)) + (1 : Int32)) + (1 : Int32)))]))
  have hk3 : (((p2 + (1 : Int32)) + (1 : Int32)) + (1 : Int32)) < (p2 + (4 : Int32)) := by rcases h4 with rfl | rfl | rfl | rfl <;> decide
  refine go (fun _ q => XS.icmpNo X0.here hx rfl (hb hby d1_38) rfl (tlt hk3).2.1 q) ?_
  show Go p e below _ (T0.setTop (mkF m 41 #[.val (.ref a1), .val (.int p2), .val (.int (4 : Int32)), .val (.int (y0 &&& (255 : Int32))), .val (.int ((((((((y0 &&& (255 : Int32)) &&& (7 : Int32)) <<< ((6 : Int32) &&& 31))) ||| (y1 &&& (63 : Int32))) <<< ((6 : Int32) &&& 31))) ||| (y2 &&& (63 : Int32)))), .val (.int (((p2 + (1 : Int32)) + (1 : Int32)) + (1 : Int32)))] []))
  refine go (fun _ q => XS.iload X0.here hx rfl (hb hby d1_41) rfl q) ?_
  show Go p e below _ (T0.setTop (mkF m 43 #[.val (.ref a1), .val (.int p2), .val (.int (4 : Int32)), .val (.int (y0 &&& (255 : Int32))), .val (.int ((((((((y0 &&& (255 : Int32)) &&& (7 : Int32)) <<< ((6 : Int32) &&& 31))) ||| (y1 &&& (63 : Int32))) <<< ((6 : Int32) &&& 31))) ||| (y2 &&& (63 : Int32)))), .val (.int (((p2 + (1 : Int32)) + (1 : Int32)) + (1 : Int32)))] [(.int ((((((((y0 &&& (255 : Int32)) &&& (7 : Int32)) <<< ((6 : Int32) &&& 31))) ||| (y1 &&& (63 : Int32))) <<< ((6 : Int32) &&& 31))) ||| (y2 &&& (63 : Int32))))]))
  refine go (fun _ q => XS.bipush X0.here hx rfl (hb hby d1_43) q) ?_
  show Go p e below _ (T0.setTop (mkF m 45 #[.val (.ref a1), .val (.int p2), .val (.int (4 : Int32)), .val (.int (y0 &&& (255 : Int32))), .val (.int ((((((((y0 &&& (255 : Int32)) &&& (7 : Int32)) <<< ((6 : Int32) &&& 31))) ||| (y1 &&& (63 : Int32))) <<< ((6 : Int32) &&& 31))) ||| (y2 &&& (63 : Int32)))), .val (.int (((p2 + (1 : Int32)) + (1 : Int32)) + (1 : Int32)))] [(.int (6 : Int32)), (.int ((((((((y0 &&& (255 : Int32)) &&& (7 : Int32)) <<< ((6 : Int32) &&& 31))) ||| (y1 &&& (63 : Int32))) <<< ((6 : Int32) &&& 31))) ||| (y2 &&& (63 : Int32))))]))
  refine go (fun _ q => XS.ishl X0.here hx rfl (hb hby d1_45) rfl q) ?_
  show Go p e below _ (T0.setTop (mkF m 46 #[.val (.ref a1), .val (.int p2), .val (.int (4 : Int32)), .val (.int (y0 &&& (255 : Int32))), .val (.int ((((((((y0 &&& (255 : Int32)) &&& (7 : Int32)) <<< ((6 : Int32) &&& 31))) ||| (y1 &&& (63 : Int32))) <<< ((6 : Int32) &&& 31))) ||| (y2 &&& (63 : Int32)))), .val (.int (((p2 + (1 : Int32)) + (1 : Int32)) + (1 : Int32)))] [(.int ((((((((((y0 &&& (255 : Int32)) &&& (7 : Int32)) <<< ((6 : Int32) &&& 31))) ||| (y1 &&& (63 : Int32))) <<< ((6 : Int32) &&& 31))) ||| (y2 &&& (63 : Int32))) <<< ((6 : Int32) &&& 31))))]))
  refine go (fun _ q => XS.aloadN X0.here hx rfl (hb hby d1_46) rfl rfl q) ?_
  show Go p e below _ (T0.setTop (mkF m 47 #[.val (.ref a1), .val (.int p2), .val (.int (4 : Int32)), .val (.int (y0 &&& (255 : Int32))), .val (.int ((((((((y0 &&& (255 : Int32)) &&& (7 : Int32)) <<< ((6 : Int32) &&& 31))) ||| (y1 &&& (63 : Int32))) <<< ((6 : Int32) &&& 31))) ||| (y2 &&& (63 : Int32)))), .val (.int (((p2 + (1 : Int32)) + (1 : Int32)) + (1 : Int32)))] [(.ref a1), (.int ((((((((((y0 &&& (255 : Int32)) &&& (7 : Int32)) <<< ((6 : Int32) &&& 31))) ||| (y1 &&& (63 : Int32))) <<< ((6 : Int32) &&& 31))) ||| (y2 &&& (63 : Int32))) <<< ((6 : Int32) &&& 31))))]))
  refine go (fun _ q => XS.iload X0.here hx rfl (hb hby d1_47) rfl q) ?_
  show Go p e below _ (T0.setTop (mkF m 49 #[.val (.ref a1), .val (.int p2), .val (.int (4 : Int32)), .val (.int (y0 &&& (255 : Int32))), .val (.int ((((((((y0 &&& (255 : Int32)) &&& (7 : Int32)) <<< ((6 : Int32) &&& 31))) ||| (y1 &&& (63 : Int32))) <<< ((6 : Int32) &&& 31))) ||| (y2 &&& (63 : Int32)))), .val (.int (((p2 + (1 : Int32)) + (1 : Int32)) + (1 : Int32)))] [(.int (((p2 + (1 : Int32)) + (1 : Int32)) + (1 : Int32))), (.ref a1), (.int ((((((((((y0 &&& (255 : Int32)) &&& (7 : Int32)) <<< ((6 : Int32) &&& 31))) ||| (y1 &&& (63 : Int32))) <<< ((6 : Int32) &&& 31))) ||| (y2 &&& (63 : Int32))) <<< ((6 : Int32) &&& 31))))]))
  refine go (X0.baloadBytes hx (j := (((p2 + (1 : Int32)) + (1 : Int32)) + (1 : Int32))) (v := (.int y3)) (by rw [e0]; exact Ar_.1) (State.isArrayOf_alike hZ.alike Ar_.2.1) Ar_.2.2 (inb_of S (own_i3 h4)) hat3 (g := (mkF m 49 #[.val (.ref a1), .val (.int p2), .val (.int (4 : Int32)), .val (.int (y0 &&& (255 : Int32))), .val (.int ((((((((y0 &&& (255 : Int32)) &&& (7 : Int32)) <<< ((6 : Int32) &&& 31))) ||| (y1 &&& (63 : Int32))) <<< ((6 : Int32) &&& 31))) ||| (y2 &&& (63 : Int32)))), .val (.int (((p2 + (1 : Int32)) + (1 : Int32)) + (1 : Int32)))] [(.int (((p2 + (1 : Int32)) + (1 : Int32)) + (1 : Int32))), (.ref a1), (.int ((((((((((y0 &&& (255 : Int32)) &&& (7 : Int32)) <<< ((6 : Int32) &&& 31))) ||| (y1 &&& (63 : Int32))) <<< ((6 : Int32) &&& 31))) ||| (y2 &&& (63 : Int32))) <<< ((6 : Int32) &&& 31))))])) rfl rfl (hb hby d1_49)) ?_
  show Go p e below _ (T0.setTop (mkF m 50 #[.val (.ref a1), .val (.int p2), .val (.int (4 : Int32)), .val (.int (y0 &&& (255 : Int32))), .val (.int ((((((((y0 &&& (255 : Int32)) &&& (7 : Int32)) <<< ((6 : Int32) &&& 31))) ||| (y1 &&& (63 : Int32))) <<< ((6 : Int32) &&& 31))) ||| (y2 &&& (63 : Int32)))), .val (.int (((p2 + (1 : Int32)) + (1 : Int32)) + (1 : Int32)))] [(.int y3), (.int ((((((((((y0 &&& (255 : Int32)) &&& (7 : Int32)) <<< ((6 : Int32) &&& 31))) ||| (y1 &&& (63 : Int32))) <<< ((6 : Int32) &&& 31))) ||| (y2 &&& (63 : Int32))) <<< ((6 : Int32) &&& 31))))]))
  refine go (fun _ q => XS.bipush X0.here hx rfl (hb hby d1_50) q) ?_
  show Go p e below _ (T0.setTop (mkF m 52 #[.val (.ref a1), .val (.int p2), .val (.int (4 : Int32)), .val (.int (y0 &&& (255 : Int32))), .val (.int ((((((((y0 &&& (255 : Int32)) &&& (7 : Int32)) <<< ((6 : Int32) &&& 31))) ||| (y1 &&& (63 : Int32))) <<< ((6 : Int32) &&& 31))) ||| (y2 &&& (63 : Int32)))), .val (.int (((p2 + (1 : Int32)) + (1 : Int32)) + (1 : Int32)))] [(.int (63 : Int32)), (.int y3), (.int ((((((((((y0 &&& (255 : Int32)) &&& (7 : Int32)) <<< ((6 : Int32) &&& 31))) ||| (y1 &&& (63 : Int32))) <<< ((6 : Int32) &&& 31))) ||| (y2 &&& (63 : Int32))) <<< ((6 : Int32) &&& 31))))]))
  refine go (fun _ q => XS.iand X0.here hx rfl (hb hby d1_52) rfl q) ?_
  show Go p e below _ (T0.setTop (mkF m 53 #[.val (.ref a1), .val (.int p2), .val (.int (4 : Int32)), .val (.int (y0 &&& (255 : Int32))), .val (.int ((((((((y0 &&& (255 : Int32)) &&& (7 : Int32)) <<< ((6 : Int32) &&& 31))) ||| (y1 &&& (63 : Int32))) <<< ((6 : Int32) &&& 31))) ||| (y2 &&& (63 : Int32)))), .val (.int (((p2 + (1 : Int32)) + (1 : Int32)) + (1 : Int32)))] [(.int (y3 &&& (63 : Int32))), (.int ((((((((((y0 &&& (255 : Int32)) &&& (7 : Int32)) <<< ((6 : Int32) &&& 31))) ||| (y1 &&& (63 : Int32))) <<< ((6 : Int32) &&& 31))) ||| (y2 &&& (63 : Int32))) <<< ((6 : Int32) &&& 31))))]))
  refine go (fun _ q => XS.ior X0.here hx rfl (hb hby d1_53) rfl q) ?_
  show Go p e below _ (T0.setTop (mkF m 54 #[.val (.ref a1), .val (.int p2), .val (.int (4 : Int32)), .val (.int (y0 &&& (255 : Int32))), .val (.int ((((((((y0 &&& (255 : Int32)) &&& (7 : Int32)) <<< ((6 : Int32) &&& 31))) ||| (y1 &&& (63 : Int32))) <<< ((6 : Int32) &&& 31))) ||| (y2 &&& (63 : Int32)))), .val (.int (((p2 + (1 : Int32)) + (1 : Int32)) + (1 : Int32)))] [(.int (((((((((((y0 &&& (255 : Int32)) &&& (7 : Int32)) <<< ((6 : Int32) &&& 31))) ||| (y1 &&& (63 : Int32))) <<< ((6 : Int32) &&& 31))) ||| (y2 &&& (63 : Int32))) <<< ((6 : Int32) &&& 31))) ||| (y3 &&& (63 : Int32))))]))
  refine go (fun _ q => XS.istore X0.here hx rfl (hb hby d1_54) rfl (l' := #[.val (.ref a1), .val (.int p2), .val (.int (4 : Int32)), .val (.int (y0 &&& (255 : Int32))), .val (.int (((((((((((y0 &&& (255 : Int32)) &&& (7 : Int32)) <<< ((6 : Int32) &&& 31))) ||| (y1 &&& (63 : Int32))) <<< ((6 : Int32) &&& 31))) ||| (y2 &&& (63 : Int32))) <<< ((6 : Int32) &&& 31))) ||| (y3 &&& (63 : Int32)))), .val (.int (((p2 + (1 : Int32)) + (1 : Int32)) + (1 : Int32)))]) rfl q) ?_
  show Go p e below _ (T0.setTop (mkF m 56 #[.val (.ref a1), .val (.int p2), .val (.int (4 : Int32)), .val (.int (y0 &&& (255 : Int32))), .val (.int (((((((((((y0 &&& (255 : Int32)) &&& (7 : Int32)) <<< ((6 : Int32) &&& 31))) ||| (y1 &&& (63 : Int32))) <<< ((6 : Int32) &&& 31))) ||| (y2 &&& (63 : Int32))) <<< ((6 : Int32) &&& 31))) ||| (y3 &&& (63 : Int32)))), .val (.int (((p2 + (1 : Int32)) + (1 : Int32)) + (1 : Int32)))] []))
  refine go (fun _ q => XS.iinc X0.here hx rfl (hb hby d1_56) rfl (l' := #[.val (.ref a1), .val (.int p2), .val (.int (4 : Int32)), .val (.int (y0 &&& (255 : Int32))), .val (.int (((((((((((y0 &&& (255 : Int32)) &&& (7 : Int32)) <<< ((6 : Int32) &&& 31))) ||| (y1 &&& (63 : Int32))) <<< ((6 : Int32) &&& 31))) ||| (y2 &&& (63 : Int32))) <<< ((6 : Int32) &&& 31))) ||| (y3 &&& (63 : Int32)))), .val (.int ((((p2 + (1 : Int32)) + (1 : Int32)) + (1 : Int32)) + (1 : Int32)))]) rfl q) ?_
  show Go p e below _ (T0.setTop (mkF m 59 #[.val (.ref a1), .val (.int p2), .val (.int (4 : Int32)), .val (.int (y0 &&& (255 : Int32))), .val (.int (((((((((((y0 &&& (255 : Int32)) &&& (7 : Int32)) <<< ((6 : Int32) &&& 31))) ||| (y1 &&& (63 : Int32))) <<< ((6 : Int32) &&& 31))) ||| (y2 &&& (63 : Int32))) <<< ((6 : Int32) &&& 31))) ||| (y3 &&& (63 : Int32)))), .val (.int ((((p2 + (1 : Int32)) + (1 : Int32)) + (1 : Int32)) + (1 : Int32)))] []))
  refine go (fun _ q => XS.goto X0.here hx rfl (pc0 := 59) (pc' := 33) rfl (hb hby d1_59) (by decide) (by decide) q) ?_
  show Go p e below _ (T0.setTop (mkF m 33 #[.val (.ref a1), .val (.int p2), .val (.int (4 : Int32)), .val (.int (y0 &&& (255 : Int32))), .val (.int (((((((((((y0 &&& (255 : Int32)) &&& (7 : Int32)) <<< ((6 : Int32) &&& 31))) ||| (y1 &&& (63 : Int32))) <<< ((6 : Int32) &&& 31))) ||| (y2 &&& (63 : Int32))) <<< ((6 : Int32) &&& 31))) ||| (y3 &&& (63 : Int32)))), .val (.int ((((p2 + (1 : Int32)) + (1 : Int32)) + (1 : Int32)) + (1 : Int32)))] []))
  refine go (fun _ q => XS.iload X0.here hx rfl (hb hby d1_33) rfl q) ?_
  show Go p e below _ (T0.setTop (mkF m 35 #[.val (.ref a1), .val (.int p2), .val (.int (4 : Int32)), .val (.int (y0 &&& (255 : Int32))), .val (.int (((((((((((y0 &&& (255 : Int32)) &&& (7 : Int32)) <<< ((6 : Int32) &&& 31))) ||| (y1 &&& (63 : Int32))) <<< ((6 : Int32) &&& 31))) ||| (y2 &&& (63 : Int32))) <<< ((6 : Int32) &&& 31))) ||| (y3 &&& (63 : Int32)))), .val (.int ((((p2 + (1 : Int32)) + (1 : Int32)) + (1 : Int32)) + (1 : Int32)))] [(.int ((((p2 + (1 : Int32)) + (1 : Int32)) + (1 : Int32)) + (1 : Int32)))]))
  refine go (fun _ q => XS.iloadN X0.here hx rfl (hb hby d1_35) rfl q) ?_
  show Go p e below _ (T0.setTop (mkF m 36 #[.val (.ref a1), .val (.int p2), .val (.int (4 : Int32)), .val (.int (y0 &&& (255 : Int32))), .val (.int (((((((((((y0 &&& (255 : Int32)) &&& (7 : Int32)) <<< ((6 : Int32) &&& 31))) ||| (y1 &&& (63 : Int32))) <<< ((6 : Int32) &&& 31))) ||| (y2 &&& (63 : Int32))) <<< ((6 : Int32) &&& 31))) ||| (y3 &&& (63 : Int32)))), .val (.int ((((p2 + (1 : Int32)) + (1 : Int32)) + (1 : Int32)) + (1 : Int32)))] [(.int p2), (.int ((((p2 + (1 : Int32)) + (1 : Int32)) + (1 : Int32)) + (1 : Int32)))]))
  refine go (fun _ q => XS.iloadN X0.here hx rfl (hb hby d1_36) rfl q) ?_
  show Go p e below _ (T0.setTop (mkF m 37 #[.val (.ref a1), .val (.int p2), .val (.int (4 : Int32)), .val (.int (y0 &&& (255 : Int32))), .val (.int (((((((((((y0 &&& (255 : Int32)) &&& (7 : Int32)) <<< ((6 : Int32) &&& 31))) ||| (y1 &&& (63 : Int32))) <<< ((6 : Int32) &&& 31))) ||| (y2 &&& (63 : Int32))) <<< ((6 : Int32) &&& 31))) ||| (y3 &&& (63 : Int32)))), .val (.int ((((p2 + (1 : Int32)) + (1 : Int32)) + (1 : Int32)) + (1 : Int32)))] [(.int (4 : Int32)), (.int p2), (.int ((((p2 + (1 : Int32)) + (1 : Int32)) + (1 : Int32)) + (1 : Int32)))]))
  refine go (fun _ q => XS.iadd X0.here hx rfl (hb hby d1_37) rfl q) ?_
  show Go p e below _ (T0.setTop (mkF m 38 #[.val (.ref a1), .val (.int p2), .val (.int (4 : Int32)), .val (.int (y0 &&& (255 : Int32))), .val (.int (((((((((((y0 &&& (255 : Int32)) &&& (7 : Int32)) <<< ((6 : Int32) &&& 31))) ||| (y1 &&& (63 : Int32))) <<< ((6 : Int32) &&& 31))) ||| (y2 &&& (63 : Int32))) <<< ((6 : Int32) &&& 31))) ||| (y3 &&& (63 : Int32)))), .val (.int ((((p2 + (1 : Int32)) + (1 : Int32)) + (1 : Int32)) + (1 : Int32)))] [(.int (p2 + (4 : Int32))), (.int ((((p2 + (1 : Int32)) + (1 : Int32)) + (1 : Int32)) + (1 : Int32)))]))
  have hk4 : ¬ (((((p2 + (1 : Int32)) + (1 : Int32)) + (1 : Int32)) + (1 : Int32)) < (p2 + (4 : Int32))) := by rcases h4 with rfl | rfl | rfl | rfl <;> decide
  refine go (fun _ q => XS.icmpYes X0.here hx rfl (pc0 := 38) (pc' := 62) rfl (hb hby d1_38) rfl (flt hk4).2.1 (by decide) (by decide) q) ?_
  show Go p e below _ (T0.setTop (mkF m 62 #[.val (.ref a1), .val (.int p2), .val (.int (4 : Int32)), .val (.int (y0 &&& (255 : Int32))), .val (.int (((((((((((y0 &&& (255 : Int32)) &&& (7 : Int32)) <<< ((6 : Int32) &&& 31))) ||| (y1 &&& (63 : Int32))) <<< ((6 : Int32) &&& 31))) ||| (y2 &&& (63 : Int32))) <<< ((6 : Int32) &&& 31))) ||| (y3 &&& (63 : Int32)))), .val (.int ((((p2 + (1 : Int32)) + (1 : Int32)) + (1 : Int32)) + (1 : Int32)))] []))
  refine go (fun _ q => XS.iload X0.here hx rfl (hb hby d1_62) rfl q) ?_
  show Go p e below _ (T0.setTop (mkF m 64 #[.val (.ref a1), .val (.int p2), .val (.int (4 : Int32)), .val (.int (y0 &&& (255 : Int32))), .val (.int (((((((((((y0 &&& (255 : Int32)) &&& (7 : Int32)) <<< ((6 : Int32) &&& 31))) ||| (y1 &&& (63 : Int32))) <<< ((6 : Int32) &&& 31))) ||| (y2 &&& (63 : Int32))) <<< ((6 : Int32) &&& 31))) ||| (y3 &&& (63 : Int32)))), .val (.int ((((p2 + (1 : Int32)) + (1 : Int32)) + (1 : Int32)) + (1 : Int32)))] [(.int (((((((((((y0 &&& (255 : Int32)) &&& (7 : Int32)) <<< ((6 : Int32) &&& 31))) ||| (y1 &&& (63 : Int32))) <<< ((6 : Int32) &&& 31))) ||| (y2 &&& (63 : Int32))) <<< ((6 : Int32) &&& 31))) ||| (y3 &&& (63 : Int32))))]))
  exact own_retI X0 hx hlk hret (hb hby d1_64) (by decide) (by decide) ⟨congrArg (fun z => some (Value.int z)) (by rw [g4]), N0, e0⟩
theorem own_two {x v : Int32} (h : ((((x).toUInt32 >>> ((2 : Int32) &&& 31).toUInt32).toInt32) &&& (3 : Int32)) = v) : own_four v := by
  have a := c_and (((x).toUInt32 >>> ((2 : Int32) &&& 31).toUInt32).toInt32) 3 (by decide)
  rw [h] at a
  have e3 : (3 : Int32).toInt = 3 := rfl
  have e0 : (0 : Int32).toInt = 0 := rfl
  have e1 : (1 : Int32).toInt = 1 := rfl
  have e2 : (2 : Int32).toInt = 2 := rfl
  unfold own_four
  simp only [← Int32.toInt_inj]
  omega
theorem own_rng {x w k z : Int32} (hw : (x &&& (2147483647 : Int32)) = w) (hz : z = (if k = (0 : Int32) then (w % (128 : Int32)) else (if k = (1 : Int32) then ((128 : Int32) + (w % (1920 : Int32))) else (if k = (2 : Int32) then ((2048 : Int32) + (w % (63488 : Int32))) else ((65536 : Int32) + (w % (1048576 : Int32))))))) : 0 ≤ z.toInt ∧ z.toInt ≤ 1114111 := by
  have a1 : w.toInt = x.toInt % 2147483648 := by rw [← hw]; exact c_mask x _ 31 (by decide) (by decide)
  have a2 := (c_irem w 128 128 rfl).1 (by omega)
  have a3 := (c_irem w 1920 1920 rfl).1 (by omega)
  have a4 := (c_irem w 63488 63488 rfl).1 (by omega)
  have a5 := (c_irem w 1048576 1048576 rfl).1 (by omega)
  have s3 := c_iadd 128 (w % 1920)
  have s4 := c_iadd 2048 (w % 63488)
  have s5 := c_iadd 65536 (w % 1048576)
  have b1 := Int32.le_toInt z
  have b2 := Int32.toInt_lt z
  have e3 : (128 : Int32).toInt = 128 := rfl
  have e4 : (2048 : Int32).toInt = 2048 := rfl
  have e5 : (65536 : Int32).toInt = 65536 := rfl
  split at hz
  · subst hz; omega
  · split at hz
    · subst hz; omega
    · split at hz <;> subst hz <;> omega
theorem own_b (x : Int32) : ((nar .byte ((x).toInt8.toInt32)).toInt - x.toInt) % 256 = 0 := by
  have a1 := c_i2b x
  have a2 := c_i2b ((x).toInt8.toInt32)
  show (((x).toInt8.toInt32).toInt8.toInt32.toInt - x.toInt) % 256 = 0
  omega
theorem own_ff (x : Int32) : ((nar .byte ((x).toInt8.toInt32)) &&& (255 : Int32)).toInt = x.toInt % 256 := by
  have a1 := own_b x
  have a2 : ((nar .byte ((x).toInt8.toInt32)) &&& (255 : Int32)).toInt = (nar .byte ((x).toInt8.toInt32)).toInt % 256 := c_mask _ _ 8 (by decide) (by decide)
  omega
theorem own_63 (x : Int32) : ((nar .byte ((x).toInt8.toInt32)) &&& (63 : Int32)).toInt = x.toInt % 64 := by
  have a1 := own_b x
  have a2 : ((nar .byte ((x).toInt8.toInt32)) &&& (63 : Int32)).toInt = (nar .byte ((x).toInt8.toInt32)).toInt % 64 := c_mask _ _ 6 (by decide) (by decide)
  omega
theorem own_tail {y v : Int32} (h : ((128 : Int32) ||| (y &&& (63 : Int32))) = v) : v.toInt = 128 + y.toInt % 64 := by
  have a1 : (y &&& (63 : Int32)).toInt = y.toInt % 64 := c_mask _ _ 6 (by decide) (by decide)
  have e : (128 : Int32).toInt = 128 := rfl
  have a2 := c_or 128 (y &&& (63 : Int32)) 6 (by decide) 64 rfl (by decide) (by omega) (by omega)
  rw [h] at a2
  have b1 := Int32.le_toInt v
  have b2 := Int32.toInt_lt v
  omega
/-- one turn of the callee's loop -/
theorem own_turn {x e : Int32} (h : 0 ≤ x.toInt ∧ x.toInt < 32768) : ((x <<< ((6 : Int32) &&& 31)) ||| ((nar .byte ((e).toInt8.toInt32)) &&& (63 : Int32))).toInt = x.toInt * 64 + e.toInt % 64 := by
  have a1 := c_ishl x 6 6 (by decide)
  have a2 := own_63 e
  have b1 := Int32.le_toInt (x <<< ((6 : Int32) &&& 31))
  have b2 := Int32.toInt_lt (x <<< ((6 : Int32) &&& 31))
  have a3 : (x <<< ((6 : Int32) &&& 31)).toInt = x.toInt * 64 := by
    have a1' : ((x <<< ((6 : Int32) &&& 31)).toInt - x.toInt * 64) % 4294967296 = 0 := a1
    omega
  have a4 := c_or (x <<< ((6 : Int32) &&& 31)) ((nar .byte ((e).toInt8.toInt32)) &&& (63 : Int32)) 6 (by decide) 64 rfl (by omega) (by omega) (by omega)
  have b3 := Int32.le_toInt ((x <<< ((6 : Int32) &&& 31)) ||| ((nar .byte ((e).toInt8.toInt32)) &&& (63 : Int32)))
  have b4 := Int32.toInt_lt ((x <<< ((6 : Int32) &&& 31)) ||| ((nar .byte ((e).toInt8.toInt32)) &&& (63 : Int32)))
  omega
theorem own_main1 {z : Int32} (hr : 0 ≤ z.toInt ∧ z.toInt ≤ 1114111) (h1 : z < (128 : Int32)) : g1 (nar .byte ((z).toInt8.toInt32)) = z := by
  rw [g1]
  apply Int32.toInt_inj.mp
  rw [own_ff]
  rw [Int32.lt_iff_toInt_lt] at h1
  have e : (128 : Int32).toInt = 128 := rfl
  omega
theorem own_main2 {z v0 v1 : Int32} (hr : 0 ≤ z.toInt ∧ z.toInt ≤ 1114111) (h1 : ¬ z < (128 : Int32)) (h2 : z < (2048 : Int32)) (q0 : ((192 : Int32) ||| (z >>> ((6 : Int32) &&& 31))) = v0) (q1 : ((128 : Int32) ||| (z &&& (63 : Int32))) = v1) : g2 (nar .byte ((v0).toInt8.toInt32)) (nar .byte ((v1).toInt8.toInt32)) = z := by
  have t1 := own_tail q1
  rw [Int32.lt_iff_toInt_lt] at h1 h2
  have e : (2048 : Int32).toInt = 2048 := rfl
  have e' : (192 : Int32).toInt = 192 := rfl
  have s1 : (z >>> ((6 : Int32) &&& 31)).toInt = z.toInt / 64 := c_ishr z 6 6 (by decide)
  have s2 := c_or 192 (z >>> ((6 : Int32) &&& 31)) 5 (by decide) 32 rfl (by decide) (by omega) (by omega)
  rw [q0] at s2
  have b1 := Int32.le_toInt v0
  have b2 := Int32.toInt_lt v0
  have f0 := own_ff v0
  rw [g2]
  apply Int32.toInt_inj.mp
  generalize ((nar .byte ((v0).toInt8.toInt32)) &&& (255 : Int32)) = u at f0 ⊢
  have f1 : (u &&& (31 : Int32)).toInt = u.toInt % 32 := c_mask u _ 5 (by decide) (by decide)
  rw [own_turn ⟨by omega, by omega⟩]
  omega
theorem own_main3 {z v0 v1 v2 : Int32} (hr : 0 ≤ z.toInt ∧ z.toInt ≤ 1114111) (h1 : ¬ z < (128 : Int32)) (h2 : ¬ z < (2048 : Int32)) (h3 : z < (65536 : Int32)) (q0 : ((224 : Int32) ||| (z >>> ((12 : Int32) &&& 31))) = v0) (q1 : ((128 : Int32) ||| ((z >>> ((6 : Int32) &&& 31)) &&& (63 : Int32))) = v1) (q2 : ((128 : Int32) ||| (z &&& (63 : Int32))) = v2) : g3 (nar .byte ((v0).toInt8.toInt32)) (nar .byte ((v1).toInt8.toInt32)) (nar .byte ((v2).toInt8.toInt32)) = z := by
  have t1 := own_tail q1
  have t2 := own_tail q2
  rw [Int32.lt_iff_toInt_lt] at h3
  have e : (65536 : Int32).toInt = 65536 := rfl
  have e' : (224 : Int32).toInt = 224 := rfl
  have s0 : (z >>> ((6 : Int32) &&& 31)).toInt = z.toInt / 64 := c_ishr z 6 6 (by decide)
  have s1 : (z >>> ((12 : Int32) &&& 31)).toInt = z.toInt / 4096 := c_ishr z 12 12 (by decide)
  have s2 := c_or 224 (z >>> ((12 : Int32) &&& 31)) 4 (by decide) 16 rfl (by decide) (by omega) (by omega)
  rw [q0] at s2
  have b1 := Int32.le_toInt v0
  have b2 := Int32.toInt_lt v0
  have f0 := own_ff v0
  rw [g3]
  apply Int32.toInt_inj.mp
  generalize ((nar .byte ((v0).toInt8.toInt32)) &&& (255 : Int32)) = u at f0 ⊢
  have f1 : (u &&& (15 : Int32)).toInt = u.toInt % 16 := c_mask u _ 4 (by decide) (by decide)
  have r1 := own_turn (x := (u &&& (15 : Int32))) (e := v1) ⟨by omega, by omega⟩
  rw [own_turn ⟨by omega, by omega⟩]
  omega
theorem own_main4 {z v0 v1 v2 v3 : Int32} (hr : 0 ≤ z.toInt ∧ z.toInt ≤ 1114111) (h1 : ¬ z < (128 : Int32)) (h2 : ¬ z < (2048 : Int32)) (h3 : ¬ z < (65536 : Int32)) (q0 : ((240 : Int32) ||| (z >>> ((18 : Int32) &&& 31))) = v0) (q1 : ((128 : Int32) ||| ((z >>> ((12 : Int32) &&& 31)) &&& (63 : Int32))) = v1) (q2 : ((128 : Int32) ||| ((z >>> ((6 : Int32) &&& 31)) &&& (63 : Int32))) = v2) (q3 : ((128 : Int32) ||| (z &&& (63 : Int32))) = v3) : g4 (nar .byte ((v0).toInt8.toInt32)) (nar .byte ((v1).toInt8.toInt32)) (nar .byte ((v2).toInt8.toInt32)) (nar .byte ((v3).toInt8.toInt32)) = z := by
  have t1 := own_tail q1
  have t2 := own_tail q2
  have t3 := own_tail q3
  have e' : (240 : Int32).toInt = 240 := rfl
  have s0 : (z >>> ((6 : Int32) &&& 31)).toInt = z.toInt / 64 := c_ishr z 6 6 (by decide)
  have s1 : (z >>> ((12 : Int32) &&& 31)).toInt = z.toInt / 4096 := c_ishr z 12 12 (by decide)
  have s1' : (z >>> ((18 : Int32) &&& 31)).toInt = z.toInt / 262144 := c_ishr z 18 18 (by decide)
  have s2 := c_or 240 (z >>> ((18 : Int32) &&& 31)) 3 (by decide) 8 rfl (by decide) (by omega) (by omega)
  rw [q0] at s2
  have b1 := Int32.le_toInt v0
  have b2 := Int32.toInt_lt v0
  have f0 := own_ff v0
  rw [g4]
  apply Int32.toInt_inj.mp
  generalize ((nar .byte ((v0).toInt8.toInt32)) &&& (255 : Int32)) = u at f0 ⊢
  have f1 : (u &&& (7 : Int32)).toInt = u.toInt % 8 := c_mask u _ 3 (by decide) (by decide)
  have r1 := own_turn (x := (u &&& (7 : Int32))) (e := v1) ⟨by omega, by omega⟩
  have r2 := own_turn (e := v2) (show 0 ≤ _ ∧ _ < 32768 from ⟨by rw [r1]; omega, by rw [r1]; omega⟩)
  rw [own_turn ⟨by omega, by omega⟩]
  omega

def Q0 (n0 : Nat) (v : Option Value) (h : Heap) (L : List Loc) : Prop := v = some (.int (1 : Int32)) ∧ Fr n0 L
theorem pd_0_0 : parseMethodDescriptor "([BII)I" = some ⟨[(.array .byte), .int, .int], some .int⟩ := by decide +kernel
theorem pn_0 : plainName "com/example/skipstone/skipstone/Utf8CodePointPinLaw" = true := by first | (simp [plainName, overriddenIn]; done) | decide +kernel
theorem ef_0 (m : MethodId) (x0 : Int32) (x1 : Int32) (x2 : Int32) (x3 : Int32) : entryFrame m #[(.int x0), (.int x1), (.int x2), (.int x3)] maxLocals = mkF m 0 #[.val (.int x0), .val (.int x1), .val (.int x2), .val (.int x3), .unset, .unset, .unset, .unset, .unset, .unset, .unset, .unset, .unset, .unset] [] := by first | (simp [entryFrame, mkF, argsToLocals, Value.category, maxLocals]; done) | rfl
set_option maxRecDepth 65536 in
set_option maxHeartbeats 40000000 in
theorem rm0 (l : Launch) (Z : State) (a0 : Array Value) (hw : ∀ d ∈ tables_1, d.before a0 Z = true) (ws : List Jvm.Cond) (p1 : Int32) (p2 : Int32) (p3 : Int32) (p4 : Int32) (h0 : Heap) (n0 : Nat) (Z0 : n0 ≤ h0.size) :
    MetFree l x (head1 (Jvm.Cond.code x code maxLocals ret :: ws) room_1) (fun a U => a = #[(.int p1), (.int p2), (.int p3), (.int p4)] ∧ Z.Warmed39 U.vm ∧ U.heap = h0) (fun _ _ _ _ _ => True) (fun _ U o U' => ∃ v L, o = .returned v ∧ (Q0 n0) v U'.heap L ∧ FrameEnd U o U' L room_1.cells room_1.slots) := by
  refine own_met (plainFor_of_name pn_0) (fun m => ef_0 m p1 p2 p3 p4) ?_
  intro p e s m below meth c T0 hx hby hml hown hnm hret hlk hZ X0 e0
  have hown : s.vm.findClass "com/example/skipstone/skipstone/Utf8CodePointPinLaw" = some m.cls := hown
  have hnm : meth.name = "law" := hnm
  have hret : meth.sig.returnType = some .boolean := hret
  have N0 := Fr.nil n0
  show Go p e below _ (T0.setTop (mkF m 0 #[.val (.int p1), .val (.int p2), .val (.int p3), .val (.int p4), .unset, .unset, .unset, .unset, .unset, .unset, .unset, .unset, .unset, .unset] []))
  refine go (fun _ q => XS.iloadN X0.here hx rfl (hb hby at_0) rfl q) ?_
  show Go p e below _ (T0.setTop (mkF m 1 #[.val (.int p1), .val (.int p2), .val (.int p3), .val (.int p4), .unset, .unset, .unset, .unset, .unset, .unset, .unset, .unset, .unset, .unset] [(.int p2)]))
  refine go (fun _ q => XS.iconst X0.here hx rfl (hb hby at_1) q) ?_
  show Go p e below _ (T0.setTop (mkF m 2 #[.val (.int p1), .val (.int p2), .val (.int p3), .val (.int p4), .unset, .unset, .unset, .unset, .unset, .unset, .unset, .unset, .unset, .unset] [(.int (3 : Int32)), (.int p2)]))
  refine go (fun _ q => XS.iand X0.here hx rfl (hb hby at_2) rfl q) ?_
  show Go p e below _ (T0.setTop (mkF m 3 #[.val (.int p1), .val (.int p2), .val (.int p3), .val (.int p4), .unset, .unset, .unset, .unset, .unset, .unset, .unset, .unset, .unset, .unset] [(.int (p2 &&& (3 : Int32)))]))
  generalize hv1 : (p2 &&& (3 : Int32)) = v1
  show Go p e below _ (T0.setTop (mkF m 3 #[.val (.int p1), .val (.int p2), .val (.int p3), .val (.int p4), .unset, .unset, .unset, .unset, .unset, .unset, .unset, .unset, .unset, .unset] [(.int v1)]))
  refine go (fun _ q => XS.istore X0.here hx rfl (hb hby at_3) rfl (l' := #[.val (.int p1), .val (.int p2), .val (.int p3), .val (.int p4), .val (.int v1), .unset, .unset, .unset, .unset, .unset, .unset, .unset, .unset, .unset]) rfl q) ?_
  show Go p e below _ (T0.setTop (mkF m 5 #[.val (.int p1), .val (.int p2), .val (.int p3), .val (.int p4), .val (.int v1), .unset, .unset, .unset, .unset, .unset, .unset, .unset, .unset, .unset] []))
  refine go (fun _ q => XS.iloadN X0.here hx rfl (hb hby at_5) rfl q) ?_
  show Go p e below _ (T0.setTop (mkF m 6 #[.val (.int p1), .val (.int p2), .val (.int p3), .val (.int p4), .val (.int v1), .unset, .unset, .unset, .unset, .unset, .unset, .unset, .unset, .unset] [(.int p2)]))
  refine go (fun _ q => XS.iconst X0.here hx rfl (hb hby at_6) q) ?_
  show Go p e below _ (T0.setTop (mkF m 7 #[.val (.int p1), .val (.int p2), .val (.int p3), .val (.int p4), .val (.int v1), .unset, .unset, .unset, .unset, .unset, .unset, .unset, .unset, .unset] [(.int (2 : Int32)), (.int p2)]))
  refine go (fun _ q => XS.iushr X0.here hx rfl (hb hby at_7) rfl q) ?_
  show Go p e below _ (T0.setTop (mkF m 8 #[.val (.int p1), .val (.int p2), .val (.int p3), .val (.int p4), .val (.int v1), .unset, .unset, .unset, .unset, .unset, .unset, .unset, .unset, .unset] [(.int (((p2).toUInt32 >>> ((2 : Int32) &&& 31).toUInt32).toInt32))]))
  refine go (fun _ q => XS.iconst X0.here hx rfl (hb hby at_8) q) ?_
  show Go p e below _ (T0.setTop (mkF m 9 #[.val (.int p1), .val (.int p2), .val (.int p3), .val (.int p4), .val (.int v1), .unset, .unset, .unset, .unset, .unset, .unset, .unset, .unset, .unset] [(.int (3 : Int32)), (.int (((p2).toUInt32 >>> ((2 : Int32) &&& 31).toUInt32).toInt32))]))
  refine go (fun _ q => XS.iand X0.here hx rfl (hb hby at_9) rfl q) ?_
  show Go p e below _ (T0.setTop (mkF m 10 #[.val (.int p1), .val (.int p2), .val (.int p3), .val (.int p4), .val (.int v1), .unset, .unset, .unset, .unset, .unset, .unset, .unset, .unset, .unset] [(.int ((((p2).toUInt32 >>> ((2 : Int32) &&& 31).toUInt32).toInt32) &&& (3 : Int32)))]))
  generalize hv2 : ((((p2).toUInt32 >>> ((2 : Int32) &&& 31).toUInt32).toInt32) &&& (3 : Int32)) = v2
  show Go p e below _ (T0.setTop (mkF m 10 #[.val (.int p1), .val (.int p2), .val (.int p3), .val (.int p4), .val (.int v1), .unset, .unset, .unset, .unset, .unset, .unset, .unset, .unset, .unset] [(.int v2)]))
  refine go (fun _ q => XS.istore X0.here hx rfl (hb hby at_10) rfl (l' := #[.val (.int p1), .val (.int p2), .val (.int p3), .val (.int p4), .val (.int v1), .val (.int v2), .unset, .unset, .unset, .unset, .unset, .unset, .unset, .unset]) rfl q) ?_
  show Go p e below _ (T0.setTop (mkF m 12 #[.val (.int p1), .val (.int p2), .val (.int p3), .val (.int p4), .val (.int v1), .val (.int v2), .unset, .unset, .unset, .unset, .unset, .unset, .unset, .unset] []))
  have own_h4 : own_four v2 := own_two hv2
  refine go (fun _ q => XS.iloadN X0.here hx rfl (hb hby at_12) rfl q) ?_
  show Go p e below _ (T0.setTop (mkF m 13 #[.val (.int p1), .val (.int p2), .val (.int p3), .val (.int p4), .val (.int v1), .val (.int v2), .unset, .unset, .unset, .unset, .unset, .unset, .unset, .unset] [(.int p1)]))
  refine go (X0.ldcInt hx hown (mvT hZ (hw _ (List.mem_of_getElem? (i := 0) rfl))) (g := (mkF m 13 #[.val (.int p1), .val (.int p2), .val (.int p3), .val (.int p4), .val (.int v1), .val (.int v2), .unset, .unset, .unset, .unset, .unset, .unset, .unset, .unset] [(.int p1)])) rfl (hb hby at_13)) ?_
  show Go p e below _ (T0.setTop (mkF m 15 #[.val (.int p1), .val (.int p2), .val (.int p3), .val (.int p4), .val (.int v1), .val (.int v2), .unset, .unset, .unset, .unset, .unset, .unset, .unset, .unset] [(.int (2147483647 : Int32)), (.int p1)]))
  refine go (fun _ q => XS.iand X0.here hx rfl (hb hby at_15) rfl q) ?_
  show Go p e below _ (T0.setTop (mkF m 16 #[.val (.int p1), .val (.int p2), .val (.int p3), .val (.int p4), .val (.int v1), .val (.int v2), .unset, .unset, .unset, .unset, .unset, .unset, .unset, .unset] [(.int (p1 &&& (2147483647 : Int32)))]))
  generalize hv3 : (p1 &&& (2147483647 : Int32)) = v3
  show Go p e below _ (T0.setTop (mkF m 16 #[.val (.int p1), .val (.int p2), .val (.int p3), .val (.int p4), .val (.int v1), .val (.int v2), .unset, .unset, .unset, .unset, .unset, .unset, .unset, .unset] [(.int v3)]))
  refine go (fun _ q => XS.istore X0.here hx rfl (hb hby at_16) rfl (l' := #[.val (.int p1), .val (.int p2), .val (.int p3), .val (.int p4), .val (.int v1), .val (.int v2), .val (.int v3), .unset, .unset, .unset, .unset, .unset, .unset, .unset]) rfl q) ?_
  show Go p e below _ (T0.setTop (mkF m 18 #[.val (.int p1), .val (.int p2), .val (.int p3), .val (.int p4), .val (.int v1), .val (.int v2), .val (.int v3), .unset, .unset, .unset, .unset, .unset, .unset, .unset] []))
  refine go (fun _ q => XS.iload X0.here hx rfl (hb hby at_18) rfl q) ?_
  show Go p e below _ (T0.setTop (mkF m 20 #[.val (.int p1), .val (.int p2), .val (.int p3), .val (.int p4), .val (.int v1), .val (.int v2), .val (.int v3), .unset, .unset, .unset, .unset, .unset, .unset, .unset] [(.int v1)]))
  suffices hj4 : ∀ (z8 : Int32), z8 = (if v1 = (0 : Int32) then (v3 % (128 : Int32)) else (if v1 = (1 : Int32) then ((128 : Int32) + (v3 % (1920 : Int32))) else (if v1 = (2 : Int32) then ((2048 : Int32) + (v3 % (63488 : Int32))) else ((65536 : Int32) + (v3 % (1048576 : Int32)))))) → Go p e below (Dn below s ((Q0 n0)) room_1.cells room_1.slots) (T0.setTop (mkF m 85 #[.val (.int p1), .val (.int p2), .val (.int p3), .val (.int p4), .val (.int v1), .val (.int v2), .val (.int v3), .val (.int z8), .unset, .unset, .unset, .unset, .unset, .unset] [])) by
    by_cases hc5 : v1 = (0 : Int32)
    · refine go (fun _ q => XS.ifNo X0.here hx rfl (hb hby at_20) rfl ((if0 _ _).trans (teq hc5).2) q) ?_
      show Go p e below _ (T0.setTop (mkF m 23 #[.val (.int p1), .val (.int p2), .val (.int p3), .val (.int p4), .val (.int v1), .val (.int v2), .val (.int v3), .unset, .unset, .unset, .unset, .unset, .unset, .unset] []))
      refine go (fun _ q => XS.iload X0.here hx rfl (hb hby at_23) rfl q) ?_
      show Go p e below _ (T0.setTop (mkF m 25 #[.val (.int p1), .val (.int p2), .val (.int p3), .val (.int p4), .val (.int v1), .val (.int v2), .val (.int v3), .unset, .unset, .unset, .unset, .unset, .unset, .unset] [(.int v3)]))
      refine go (fun _ q => XS.sipush X0.here hx rfl (hb hby at_25) q) ?_
      show Go p e below _ (T0.setTop (mkF m 28 #[.val (.int p1), .val (.int p2), .val (.int p3), .val (.int p4), .val (.int v1), .val (.int v2), .val (.int v3), .unset, .unset, .unset, .unset, .unset, .unset, .unset] [(.int (128 : Int32)), (.int v3)]))
      refine go (fun _ q => iremM X0 hx rfl (hb hby at_28) rfl (by decide) q) ?_
      show Go p e below _ (T0.setTop (mkF m 29 #[.val (.int p1), .val (.int p2), .val (.int p3), .val (.int p4), .val (.int v1), .val (.int v2), .val (.int v3), .unset, .unset, .unset, .unset, .unset, .unset, .unset] [(.int (v3 % (128 : Int32)))]))
      refine go (fun _ q => XS.istore X0.here hx rfl (hb hby at_29) rfl (l' := #[.val (.int p1), .val (.int p2), .val (.int p3), .val (.int p4), .val (.int v1), .val (.int v2), .val (.int v3), .val (.int (v3 % (128 : Int32))), .unset, .unset, .unset, .unset, .unset, .unset]) rfl q) ?_
      show Go p e below _ (T0.setTop (mkF m 31 #[.val (.int p1), .val (.int p2), .val (.int p3), .val (.int p4), .val (.int v1), .val (.int v2), .val (.int v3), .val (.int (v3 % (128 : Int32))), .unset, .unset, .unset, .unset, .unset, .unset] []))
      refine go (fun _ q => XS.goto X0.here hx rfl (pc0 := 31) (pc' := 85) rfl (hb hby at_31) (by decide) (by decide) q) ?_
      show Go p e below _ (T0.setTop (mkF m 85 #[.val (.int p1), .val (.int p2), .val (.int p3), .val (.int p4), .val (.int v1), .val (.int v2), .val (.int v3), .val (.int (v3 % (128 : Int32))), .unset, .unset, .unset, .unset, .unset, .unset] []))
      exact hj4 _ (by rw [if_pos hc5])
    · refine go (fun _ q => XS.ifYes X0.here hx rfl (pc0 := 20) (pc' := 34) rfl (hb hby at_20) rfl ((if0 _ _).trans (feq hc5).2) (by decide) (by decide) q) ?_
      show Go p e below _ (T0.setTop (mkF m 34 #[.val (.int p1), .val (.int p2), .val (.int p3), .val (.int p4), .val (.int v1), .val (.int v2), .val (.int v3), .unset, .unset, .unset, .unset, .unset, .unset, .unset] []))
      refine go (fun _ q => XS.iload X0.here hx rfl (hb hby at_34) rfl q) ?_
      show Go p e below _ (T0.setTop (mkF m 36 #[.val (.int p1), .val (.int p2), .val (.int p3), .val (.int p4), .val (.int v1), .val (.int v2), .val (.int v3), .unset, .unset, .unset, .unset, .unset, .unset, .unset] [(.int v1)]))
      refine go (fun _ q => XS.iconst X0.here hx rfl (hb hby at_36) q) ?_
      show Go p e below _ (T0.setTop (mkF m 37 #[.val (.int p1), .val (.int p2), .val (.int p3), .val (.int p4), .val (.int v1), .val (.int v2), .val (.int v3), .unset, .unset, .unset, .unset, .unset, .unset, .unset] [(.int (1 : Int32)), (.int v1)]))
      by_cases hc6 : v1 = (1 : Int32)
      · refine go (fun _ q => XS.icmpNo X0.here hx rfl (hb hby at_37) rfl (teq hc6).2 q) ?_
        show Go p e below _ (T0.setTop (mkF m 40 #[.val (.int p1), .val (.int p2), .val (.int p3), .val (.int p4), .val (.int v1), .val (.int v2), .val (.int v3), .unset, .unset, .unset, .unset, .unset, .unset, .unset] []))
        refine go (fun _ q => XS.sipush X0.here hx rfl (hb hby at_40) q) ?_
        show Go p e below _ (T0.setTop (mkF m 43 #[.val (.int p1), .val (.int p2), .val (.int p3), .val (.int p4), .val (.int v1), .val (.int v2), .val (.int v3), .unset, .unset, .unset, .unset, .unset, .unset, .unset] [(.int (128 : Int32))]))
        refine go (fun _ q => XS.iload X0.here hx rfl (hb hby at_43) rfl q) ?_
        show Go p e below _ (T0.setTop (mkF m 45 #[.val (.int p1), .val (.int p2), .val (.int p3), .val (.int p4), .val (.int v1), .val (.int v2), .val (.int v3), .unset, .unset, .unset, .unset, .unset, .unset, .unset] [(.int v3), (.int (128 : Int32))]))
        refine go (fun _ q => XS.sipush X0.here hx rfl (hb hby at_45) q) ?_
        show Go p e below _ (T0.setTop (mkF m 48 #[.val (.int p1), .val (.int p2), .val (.int p3), .val (.int p4), .val (.int v1), .val (.int v2), .val (.int v3), .unset, .unset, .unset, .unset, .unset, .unset, .unset] [(.int (1920 : Int32)), (.int v3), (.int (128 : Int32))]))
        refine go (fun _ q => iremM X0 hx rfl (hb hby at_48) rfl (by decide) q) ?_
        show Go p e below _ (T0.setTop (mkF m 49 #[.val (.int p1), .val (.int p2), .val (.int p3), .val (.int p4), .val (.int v1), .val (.int v2), .val (.int v3), .unset, .unset, .unset, .unset, .unset, .unset, .unset] [(.int (v3 % (1920 : Int32))), (.int (128 : Int32))]))
        refine go (fun _ q => XS.iadd X0.here hx rfl (hb hby at_49) rfl q) ?_
        show Go p e below _ (T0.setTop (mkF m 50 #[.val (.int p1), .val (.int p2), .val (.int p3), .val (.int p4), .val (.int v1), .val (.int v2), .val (.int v3), .unset, .unset, .unset, .unset, .unset, .unset, .unset] [(.int ((128 : Int32) + (v3 % (1920 : Int32))))]))
        refine go (fun _ q => XS.istore X0.here hx rfl (hb hby at_50) rfl (l' := #[.val (.int p1), .val (.int p2), .val (.int p3), .val (.int p4), .val (.int v1), .val (.int v2), .val (.int v3), .val (.int ((128 : Int32) + (v3 % (1920 : Int32)))), .unset, .unset, .unset, .unset, .unset, .unset]) rfl q) ?_
        show Go p e below _ (T0.setTop (mkF m 52 #[.val (.int p1), .val (.int p2), .val (.int p3), .val (.int p4), .val (.int v1), .val (.int v2), .val (.int v3), .val (.int ((128 : Int32) + (v3 % (1920 : Int32)))), .unset, .unset, .unset, .unset, .unset, .unset] []))
        refine go (fun _ q => XS.goto X0.here hx rfl (pc0 := 52) (pc' := 85) rfl (hb hby at_52) (by decide) (by decide) q) ?_
        show Go p e below _ (T0.setTop (mkF m 85 #[.val (.int p1), .val (.int p2), .val (.int p3), .val (.int p4), .val (.int v1), .val (.int v2), .val (.int v3), .val (.int ((128 : Int32) + (v3 % (1920 : Int32)))), .unset, .unset, .unset, .unset, .unset, .unset] []))
        exact hj4 _ (by rw [if_neg hc5, if_pos hc6])
      · refine go (fun _ q => XS.icmpYes X0.here hx rfl (pc0 := 37) (pc' := 55) rfl (hb hby at_37) rfl (feq hc6).2 (by decide) (by decide) q) ?_
        show Go p e below _ (T0.setTop (mkF m 55 #[.val (.int p1), .val (.int p2), .val (.int p3), .val (.int p4), .val (.int v1), .val (.int v2), .val (.int v3), .unset, .unset, .unset, .unset, .unset, .unset, .unset] []))
        refine go (fun _ q => XS.iload X0.here hx rfl (hb hby at_55) rfl q) ?_
        show Go p e below _ (T0.setTop (mkF m 57 #[.val (.int p1), .val (.int p2), .val (.int p3), .val (.int p4), .val (.int v1), .val (.int v2), .val (.int v3), .unset, .unset, .unset, .unset, .unset, .unset, .unset] [(.int v1)]))
        refine go (fun _ q => XS.iconst X0.here hx rfl (hb hby at_57) q) ?_
        show Go p e below _ (T0.setTop (mkF m 58 #[.val (.int p1), .val (.int p2), .val (.int p3), .val (.int p4), .val (.int v1), .val (.int v2), .val (.int v3), .unset, .unset, .unset, .unset, .unset, .unset, .unset] [(.int (2 : Int32)), (.int v1)]))
        by_cases hc7 : v1 = (2 : Int32)
        · refine go (fun _ q => XS.icmpNo X0.here hx rfl (hb hby at_58) rfl (teq hc7).2 q) ?_
          show Go p e below _ (T0.setTop (mkF m 61 #[.val (.int p1), .val (.int p2), .val (.int p3), .val (.int p4), .val (.int v1), .val (.int v2), .val (.int v3), .unset, .unset, .unset, .unset, .unset, .unset, .unset] []))
          refine go (fun _ q => XS.sipush X0.here hx rfl (hb hby at_61) q) ?_
          show Go p e below _ (T0.setTop (mkF m 64 #[.val (.int p1), .val (.int p2), .val (.int p3), .val (.int p4), .val (.int v1), .val (.int v2), .val (.int v3), .unset, .unset, .unset, .unset, .unset, .unset, .unset] [(.int (2048 : Int32))]))
          refine go (fun _ q => XS.iload X0.here hx rfl (hb hby at_64) rfl q) ?_
          show Go p e below _ (T0.setTop (mkF m 66 #[.val (.int p1), .val (.int p2), .val (.int p3), .val (.int p4), .val (.int v1), .val (.int v2), .val (.int v3), .unset, .unset, .unset, .unset, .unset, .unset, .unset] [(.int v3), (.int (2048 : Int32))]))
          refine go (X0.ldcInt hx hown (mvT hZ (hw _ (List.mem_of_getElem? (i := 8) rfl))) (g := (mkF m 66 #[.val (.int p1), .val (.int p2), .val (.int p3), .val (.int p4), .val (.int v1), .val (.int v2), .val (.int v3), .unset, .unset, .unset, .unset, .unset, .unset, .unset] [(.int v3), (.int (2048 : Int32))])) rfl (hb hby at_66)) ?_
          show Go p e below _ (T0.setTop (mkF m 68 #[.val (.int p1), .val (.int p2), .val (.int p3), .val (.int p4), .val (.int v1), .val (.int v2), .val (.int v3), .unset, .unset, .unset, .unset, .unset, .unset, .unset] [(.int (63488 : Int32)), (.int v3), (.int (2048 : Int32))]))
          refine go (fun _ q => iremM X0 hx rfl (hb hby at_68) rfl (by decide) q) ?_
          show Go p e below _ (T0.setTop (mkF m 69 #[.val (.int p1), .val (.int p2), .val (.int p3), .val (.int p4), .val (.int v1), .val (.int v2), .val (.int v3), .unset, .unset, .unset, .unset, .unset, .unset, .unset] [(.int (v3 % (63488 : Int32))), (.int (2048 : Int32))]))
          refine go (fun _ q => XS.iadd X0.here hx rfl (hb hby at_69) rfl q) ?_
          show Go p e below _ (T0.setTop (mkF m 70 #[.val (.int p1), .val (.int p2), .val (.int p3), .val (.int p4), .val (.int v1), .val (.int v2), .val (.int v3), .unset, .unset, .unset, .unset, .unset, .unset, .unset] [(.int ((2048 : Int32) + (v3 % (63488 : Int32))))]))
          refine go (fun _ q => XS.istore X0.here hx rfl (hb hby at_70) rfl (l' := #[.val (.int p1), .val (.int p2), .val (.int p3), .val (.int p4), .val (.int v1), .val (.int v2), .val (.int v3), .val (.int ((2048 : Int32) + (v3 % (63488 : Int32)))), .unset, .unset, .unset, .unset, .unset, .unset]) rfl q) ?_
          show Go p e below _ (T0.setTop (mkF m 72 #[.val (.int p1), .val (.int p2), .val (.int p3), .val (.int p4), .val (.int v1), .val (.int v2), .val (.int v3), .val (.int ((2048 : Int32) + (v3 % (63488 : Int32)))), .unset, .unset, .unset, .unset, .unset, .unset] []))
          refine go (fun _ q => XS.goto X0.here hx rfl (pc0 := 72) (pc' := 85) rfl (hb hby at_72) (by decide) (by decide) q) ?_
          show Go p e below _ (T0.setTop (mkF m 85 #[.val (.int p1), .val (.int p2), .val (.int p3), .val (.int p4), .val (.int v1), .val (.int v2), .val (.int v3), .val (.int ((2048 : Int32) + (v3 % (63488 : Int32)))), .unset, .unset, .unset, .unset, .unset, .unset] []))
          exact hj4 _ (by rw [if_neg hc5, if_neg hc6, if_pos hc7])
        · refine go (fun _ q => XS.icmpYes X0.here hx rfl (pc0 := 58) (pc' := 75) rfl (hb hby at_58) rfl (feq hc7).2 (by decide) (by decide) q) ?_
          show Go p e below _ (T0.setTop (mkF m 75 #[.val (.int p1), .val (.int p2), .val (.int p3), .val (.int p4), .val (.int v1), .val (.int v2), .val (.int v3), .unset, .unset, .unset, .unset, .unset, .unset, .unset] []))
          refine go (X0.ldcInt hx hown (mvT hZ (hw _ (List.mem_of_getElem? (i := 1) rfl))) (g := (mkF m 75 #[.val (.int p1), .val (.int p2), .val (.int p3), .val (.int p4), .val (.int v1), .val (.int v2), .val (.int v3), .unset, .unset, .unset, .unset, .unset, .unset, .unset] [])) rfl (hb hby at_75)) ?_
          show Go p e below _ (T0.setTop (mkF m 77 #[.val (.int p1), .val (.int p2), .val (.int p3), .val (.int p4), .val (.int v1), .val (.int v2), .val (.int v3), .unset, .unset, .unset, .unset, .unset, .unset, .unset] [(.int (65536 : Int32))]))
          refine go (fun _ q => XS.iload X0.here hx rfl (hb hby at_77) rfl q) ?_
          show Go p e below _ (T0.setTop (mkF m 79 #[.val (.int p1), .val (.int p2), .val (.int p3), .val (.int p4), .val (.int v1), .val (.int v2), .val (.int v3), .unset, .unset, .unset, .unset, .unset, .unset, .unset] [(.int v3), (.int (65536 : Int32))]))
          refine go (X0.ldcInt hx hown (mvT hZ (hw _ (List.mem_of_getElem? (i := 2) rfl))) (g := (mkF m 79 #[.val (.int p1), .val (.int p2), .val (.int p3), .val (.int p4), .val (.int v1), .val (.int v2), .val (.int v3), .unset, .unset, .unset, .unset, .unset, .unset, .unset] [(.int v3), (.int (65536 : Int32))])) rfl (hb hby at_79)) ?_
          show Go p e below _ (T0.setTop (mkF m 81 #[.val (.int p1), .val (.int p2), .val (.int p3), .val (.int p4), .val (.int v1), .val (.int v2), .val (.int v3), .unset, .unset, .unset, .unset, .unset, .unset, .unset] [(.int (1048576 : Int32)), (.int v3), (.int (65536 : Int32))]))
          refine go (fun _ q => iremM X0 hx rfl (hb hby at_81) rfl (by decide) q) ?_
          show Go p e below _ (T0.setTop (mkF m 82 #[.val (.int p1), .val (.int p2), .val (.int p3), .val (.int p4), .val (.int v1), .val (.int v2), .val (.int v3), .unset, .unset, .unset, .unset, .unset, .unset, .unset] [(.int (v3 % (1048576 : Int32))), (.int (65536 : Int32))]))
          refine go (fun _ q => XS.iadd X0.here hx rfl (hb hby at_82) rfl q) ?_
          show Go p e below _ (T0.setTop (mkF m 83 #[.val (.int p1), .val (.int p2), .val (.int p3), .val (.int p4), .val (.int v1), .val (.int v2), .val (.int v3), .unset, .unset, .unset, .unset, .unset, .unset, .unset] [(.int ((65536 : Int32) + (v3 % (1048576 : Int32))))]))
          refine go (fun _ q => XS.istore X0.here hx rfl (hb hby at_83) rfl (l' := #[.val (.int p1), .val (.int p2), .val (.int p3), .val (.int p4), .val (.int v1), .val (.int v2), .val (.int v3), .val (.int ((65536 : Int32) + (v3 % (1048576 : Int32)))), .unset, .unset, .unset, .unset, .unset, .unset]) rfl q) ?_
          show Go p e below _ (T0.setTop (mkF m 85 #[.val (.int p1), .val (.int p2), .val (.int p3), .val (.int p4), .val (.int v1), .val (.int v2), .val (.int v3), .val (.int ((65536 : Int32) + (v3 % (1048576 : Int32)))), .unset, .unset, .unset, .unset, .unset, .unset] []))
          exact hj4 _ (by rw [if_neg hc5, if_neg hc6, if_neg hc7])
  intro z8 hz8
  show Go p e below _ (T0.setTop (mkF m 85 #[.val (.int p1), .val (.int p2), .val (.int p3), .val (.int p4), .val (.int v1), .val (.int v2), .val (.int v3), .val (.int z8), .unset, .unset, .unset, .unset, .unset, .unset] []))
  refine go (fun _ q => XS.bipush X0.here hx rfl (hb hby at_85) q) ?_
  show Go p e below _ (T0.setTop (mkF m 87 #[.val (.int p1), .val (.int p2), .val (.int p3), .val (.int p4), .val (.int v1), .val (.int v2), .val (.int v3), .val (.int z8), .unset, .unset, .unset, .unset, .unset, .unset] [(.int (8 : Int32))]))
  have own_r := own_rng hv3 hz8
  obtain ⟨T9, h9, k9, X9, e9, E9, A9, st9⟩ := newP X0 hx hZ (hw _ (List.mem_of_getElem? (i := 3) rfl)) e0 (g := (mkF m 87 #[.val (.int p1), .val (.int p2), .val (.int p3), .val (.int p4), .val (.int v1), .val (.int v2), .val (.int v3), .val (.int z8), .unset, .unset, .unset, .unset, .unset, .unset] [(.int (8 : Int32))])) rfl (hb hby at_87) rfl (by decide) (cap := 8) (by decide) (by decide) (by decide) (by decide)
  obtain ⟨b9, g9⟩ : ∃ z, z = h0.size := ⟨_, rfl⟩
  rw [← g9] at A9 st9
  refine go st9 ?_
  have g_b9 : n0 ≤ b9 := Nat.le_trans Z0 (Nat.le_of_eq g9.symm)
  have Z9 : n0 ≤ h9.size := Nat.le_trans Z0 E9.1
  have V_b9 : Arv Z h9 b9 k9 .byte (8 : Int32) [(.int (0 : Int32)), (.int (0 : Int32)), (.int (0 : Int32)), (.int (0 : Int32)), (.int (0 : Int32)), (.int (0 : Int32)), (.int (0 : Int32)), (.int (0 : Int32))] (.int (0 : Int32)) := (Arv.new A9 (by decide)).pad (pad_rep [] (.int (0 : Int32)) 8)
  show Go p e below _ (T9.setTop (mkF m 89 #[.val (.int p1), .val (.int p2), .val (.int p3), .val (.int p4), .val (.int v1), .val (.int v2), .val (.int v3), .val (.int z8), .unset, .unset, .unset, .unset, .unset, .unset] [(.ref b9)]))
  refine go (fun _ q => XS.astore X9.here hx rfl (hb hby at_89) rfl rfl (l' := #[.val (.int p1), .val (.int p2), .val (.int p3), .val (.int p4), .val (.int v1), .val (.int v2), .val (.int v3), .val (.int z8), .val (.ref b9), .unset, .unset, .unset, .unset, .unset]) rfl q) ?_
  show Go p e below _ (T9.setTop (mkF m 91 #[.val (.int p1), .val (.int p2), .val (.int p3), .val (.int p4), .val (.int v1), .val (.int v2), .val (.int v3), .val (.int z8), .val (.ref b9), .unset, .unset, .unset, .unset, .unset] []))
  refine go (fun _ q => XS.aload X9.here hx rfl (hb hby at_91) rfl rfl q) ?_
  show Go p e below _ (T9.setTop (mkF m 93 #[.val (.int p1), .val (.int p2), .val (.int p3), .val (.int p4), .val (.int v1), .val (.int v2), .val (.int v3), .val (.int z8), .val (.ref b9), .unset, .unset, .unset, .unset, .unset] [(.ref b9)]))
  refine go (fun _ q => XS.iconst X9.here hx rfl (hb hby at_93) q) ?_
  show Go p e below _ (T9.setTop (mkF m 94 #[.val (.int p1), .val (.int p2), .val (.int p3), .val (.int p4), .val (.int v1), .val (.int v2), .val (.int v3), .val (.int z8), .val (.ref b9), .unset, .unset, .unset, .unset, .unset] [(.int (0 : Int32)), (.ref b9)]))
  refine go (fun _ q => XS.iloadN X9.here hx rfl (hb hby at_94) rfl q) ?_
  show Go p e below _ (T9.setTop (mkF m 95 #[.val (.int p1), .val (.int p2), .val (.int p3), .val (.int p4), .val (.int v1), .val (.int v2), .val (.int v3), .val (.int z8), .val (.ref b9), .unset, .unset, .unset, .unset, .unset] [(.int p3), (.int (0 : Int32)), (.ref b9)]))
  refine go (fun _ q => XS.i2b X9.here hx rfl (hb hby at_95) rfl q) ?_
  show Go p e below _ (T9.setTop (mkF m 96 #[.val (.int p1), .val (.int p2), .val (.int p3), .val (.int p4), .val (.int v1), .val (.int v2), .val (.int v3), .val (.int z8), .val (.ref b9), .unset, .unset, .unset, .unset, .unset] [(.int ((p3).toInt8.toInt32)), (.int (0 : Int32)), (.ref b9)]))
  generalize hv10 : ((p3).toInt8.toInt32) = v10
  show Go p e below _ (T9.setTop (mkF m 96 #[.val (.int p1), .val (.int p2), .val (.int p3), .val (.int p4), .val (.int v1), .val (.int v2), .val (.int v3), .val (.int z8), .val (.ref b9), .unset, .unset, .unset, .unset, .unset] [(.int v10), (.int (0 : Int32)), (.ref b9)]))
  obtain ⟨cl11, Ar11, q11, S11, Ng11, H11, G11⟩ := id V_b9
  obtain ⟨T12, h12, X12, e12, W12, st12⟩ := stB X9 hx hZ e9 Ar11 (j := (0 : Int32)) (inb_of S11 ⟨by decide, by decide⟩) (g := (mkF m 96 #[.val (.int p1), .val (.int p2), .val (.int p3), .val (.int p4), .val (.int v1), .val (.int v2), .val (.int v3), .val (.int z8), .val (.ref b9), .unset, .unset, .unset, .unset, .unset] [(.int v10), (.int (0 : Int32)), (.ref b9)])) rfl rfl (hb hby at_96)
  refine go st12 ?_
  have V_b9_12 : Arv Z h12 b9 k9 .byte (8 : Int32) [(.int (nar .byte v10)), (.int (0 : Int32)), (.int (0 : Int32)), (.int (0 : Int32)), (.int (0 : Int32)), (.int (0 : Int32)), (.int (0 : Int32)), (.int (0 : Int32))] (.int (0 : Int32)) := Arv.set Ar11 q11 S11 Ng11 H11 G11 (fits_nar_byte _) W12 0 rfl (Nat.le_of_ble_eq_true rfl)
  have N12 := Fr.snoc X12 N0 g_b9
  have Z12 : n0 ≤ h12.size := Nat.le_trans Z9 (Nat.le_of_eq W12.size.symm)
  show Go p e below _ (T12.setTop (mkF m 97 #[.val (.int p1), .val (.int p2), .val (.int p3), .val (.int p4), .val (.int v1), .val (.int v2), .val (.int v3), .val (.int z8), .val (.ref b9), .unset, .unset, .unset, .unset, .unset] []))
  refine go (fun _ q => XS.aload X12.here hx rfl (hb hby at_97) rfl rfl q) ?_
  show Go p e below _ (T12.setTop (mkF m 99 #[.val (.int p1), .val (.int p2), .val (.int p3), .val (.int p4), .val (.int v1), .val (.int v2), .val (.int v3), .val (.int z8), .val (.ref b9), .unset, .unset, .unset, .unset, .unset] [(.ref b9)]))
  refine go (fun _ q => XS.iconst X12.here hx rfl (hb hby at_99) q) ?_
  show Go p e below _ (T12.setTop (mkF m 100 #[.val (.int p1), .val (.int p2), .val (.int p3), .val (.int p4), .val (.int v1), .val (.int v2), .val (.int v3), .val (.int z8), .val (.ref b9), .unset, .unset, .unset, .unset, .unset] [(.int (1 : Int32)), (.ref b9)]))
  refine go (fun _ q => XS.iloadN X12.here hx rfl (hb hby at_100) rfl q) ?_
  show Go p e below _ (T12.setTop (mkF m 101 #[.val (.int p1), .val (.int p2), .val (.int p3), .val (.int p4), .val (.int v1), .val (.int v2), .val (.int v3), .val (.int z8), .val (.ref b9), .unset, .unset, .unset, .unset, .unset] [(.int p3), (.int (1 : Int32)), (.ref b9)]))
  refine go (fun _ q => XS.bipush X12.here hx rfl (hb hby at_101) q) ?_
  show Go p e below _ (T12.setTop (mkF m 103 #[.val (.int p1), .val (.int p2), .val (.int p3), .val (.int p4), .val (.int v1), .val (.int v2), .val (.int v3), .val (.int z8), .val (.ref b9), .unset, .unset, .unset, .unset, .unset] [(.int (8 : Int32)), (.int p3), (.int (1 : Int32)), (.ref b9)]))
  refine go (fun _ q => XS.iushr X12.here hx rfl (hb hby at_103) rfl q) ?_
  show Go p e below _ (T12.setTop (mkF m 104 #[.val (.int p1), .val (.int p2), .val (.int p3), .val (.int p4), .val (.int v1), .val (.int v2), .val (.int v3), .val (.int z8), .val (.ref b9), .unset, .unset, .unset, .unset, .unset] [(.int (((p3).toUInt32 >>> ((8 : Int32) &&& 31).toUInt32).toInt32)), (.int (1 : Int32)), (.ref b9)]))
  refine go (fun _ q => XS.i2b X12.here hx rfl (hb hby at_104) rfl q) ?_
  show Go p e below _ (T12.setTop (mkF m 105 #[.val (.int p1), .val (.int p2), .val (.int p3), .val (.int p4), .val (.int v1), .val (.int v2), .val (.int v3), .val (.int z8), .val (.ref b9), .unset, .unset, .unset, .unset, .unset] [(.int (((((p3).toUInt32 >>> ((8 : Int32) &&& 31).toUInt32).toInt32)).toInt8.toInt32)), (.int (1 : Int32)), (.ref b9)]))
  generalize hv13 : (((((p3).toUInt32 >>> ((8 : Int32) &&& 31).toUInt32).toInt32)).toInt8.toInt32) = v13
  show Go p e below _ (T12.setTop (mkF m 105 #[.val (.int p1), .val (.int p2), .val (.int p3), .val (.int p4), .val (.int v1), .val (.int v2), .val (.int v3), .val (.int z8), .val (.ref b9), .unset, .unset, .unset, .unset, .unset] [(.int v13), (.int (1 : Int32)), (.ref b9)]))
  obtain ⟨cl14, Ar14, q14, S14, Ng14, H14, G14⟩ := id V_b9_12
  obtain ⟨T15, h15, X15, e15, W15, st15⟩ := stB X12 hx hZ e12 Ar14 (j := (1 : Int32)) (inb_of S14 ⟨by decide, by decide⟩) (g := (mkF m 105 #[.val (.int p1), .val (.int p2), .val (.int p3), .val (.int p4), .val (.int v1), .val (.int v2), .val (.int v3), .val (.int z8), .val (.ref b9), .unset, .unset, .unset, .unset, .unset] [(.int v13), (.int (1 : Int32)), (.ref b9)])) rfl rfl (hb hby at_105)
  refine go st15 ?_
  have V_b9_15 : Arv Z h15 b9 k9 .byte (8 : Int32) [(.int (nar .byte v10)), (.int (nar .byte v13)), (.int (0 : Int32)), (.int (0 : Int32)), (.int (0 : Int32)), (.int (0 : Int32)), (.int (0 : Int32)), (.int (0 : Int32))] (.int (0 : Int32)) := Arv.set Ar14 q14 S14 Ng14 H14 G14 (fits_nar_byte _) W15 1 rfl (Nat.le_of_ble_eq_true rfl)
  have N15 := Fr.snoc X15 N12 g_b9
  have Z15 : n0 ≤ h15.size := Nat.le_trans Z12 (Nat.le_of_eq W15.size.symm)
  show Go p e below _ (T15.setTop (mkF m 106 #[.val (.int p1), .val (.int p2), .val (.int p3), .val (.int p4), .val (.int v1), .val (.int v2), .val (.int v3), .val (.int z8), .val (.ref b9), .unset, .unset, .unset, .unset, .unset] []))
  refine go (fun _ q => XS.aload X15.here hx rfl (hb hby at_106) rfl rfl q) ?_
  show Go p e below _ (T15.setTop (mkF m 108 #[.val (.int p1), .val (.int p2), .val (.int p3), .val (.int p4), .val (.int v1), .val (.int v2), .val (.int v3), .val (.int z8), .val (.ref b9), .unset, .unset, .unset, .unset, .unset] [(.ref b9)]))
  refine go (fun _ q => XS.iconst X15.here hx rfl (hb hby at_108) q) ?_
  show Go p e below _ (T15.setTop (mkF m 109 #[.val (.int p1), .val (.int p2), .val (.int p3), .val (.int p4), .val (.int v1), .val (.int v2), .val (.int v3), .val (.int z8), .val (.ref b9), .unset, .unset, .unset, .unset, .unset] [(.int (2 : Int32)), (.ref b9)]))
  refine go (fun _ q => XS.iloadN X15.here hx rfl (hb hby at_109) rfl q) ?_
  show Go p e below _ (T15.setTop (mkF m 110 #[.val (.int p1), .val (.int p2), .val (.int p3), .val (.int p4), .val (.int v1), .val (.int v2), .val (.int v3), .val (.int z8), .val (.ref b9), .unset, .unset, .unset, .unset, .unset] [(.int p3), (.int (2 : Int32)), (.ref b9)]))
  refine go (fun _ q => XS.bipush X15.here hx rfl (hb hby at_110) q) ?_
  show Go p e below _ (T15.setTop (mkF m 112 #[.val (.int p1), .val (.int p2), .val (.int p3), .val (.int p4), .val (.int v1), .val (.int v2), .val (.int v3), .val (.int z8), .val (.ref b9), .unset, .unset, .unset, .unset, .unset] [(.int (16 : Int32)), (.int p3), (.int (2 : Int32)), (.ref b9)]))
  refine go (fun _ q => XS.iushr X15.here hx rfl (hb hby at_112) rfl q) ?_
  show Go p e below _ (T15.setTop (mkF m 113 #[.val (.int p1), .val (.int p2), .val (.int p3), .val (.int p4), .val (.int v1), .val (.int v2), .val (.int v3), .val (.int z8), .val (.ref b9), .unset, .unset, .unset, .unset, .unset] [(.int (((p3).toUInt32 >>> ((16 : Int32) &&& 31).toUInt32).toInt32)), (.int (2 : Int32)), (.ref b9)]))
  refine go (fun _ q => XS.i2b X15.here hx rfl (hb hby at_113) rfl q) ?_
  show Go p e below _ (T15.setTop (mkF m 114 #[.val (.int p1), .val (.int p2), .val (.int p3), .val (.int p4), .val (.int v1), .val (.int v2), .val (.int v3), .val (.int z8), .val (.ref b9), .unset, .unset, .unset, .unset, .unset] [(.int (((((p3).toUInt32 >>> ((16 : Int32) &&& 31).toUInt32).toInt32)).toInt8.toInt32)), (.int (2 : Int32)), (.ref b9)]))
  generalize hv16 : (((((p3).toUInt32 >>> ((16 : Int32) &&& 31).toUInt32).toInt32)).toInt8.toInt32) = v16
  show Go p e below _ (T15.setTop (mkF m 114 #[.val (.int p1), .val (.int p2), .val (.int p3), .val (.int p4), .val (.int v1), .val (.int v2), .val (.int v3), .val (.int z8), .val (.ref b9), .unset, .unset, .unset, .unset, .unset] [(.int v16), (.int (2 : Int32)), (.ref b9)]))
  obtain ⟨cl17, Ar17, q17, S17, Ng17, H17, G17⟩ := id V_b9_15
  obtain ⟨T18, h18, X18, e18, W18, st18⟩ := stB X15 hx hZ e15 Ar17 (j := (2 : Int32)) (inb_of S17 ⟨by decide, by decide⟩) (g := (mkF m 114 #[.val (.int p1), .val (.int p2), .val (.int p3), .val (.int p4), .val (.int v1), .val (.int v2), .val (.int v3), .val (.int z8), .val (.ref b9), .unset, .unset, .unset, .unset, .unset] [(.int v16), (.int (2 : Int32)), (.ref b9)])) rfl rfl (hb hby at_114)
  refine go st18 ?_
  have V_b9_18 : Arv Z h18 b9 k9 .byte (8 : Int32) [(.int (nar .byte v10)), (.int (nar .byte v13)), (.int (nar .byte v16)), (.int (0 : Int32)), (.int (0 : Int32)), (.int (0 : Int32)), (.int (0 : Int32)), (.int (0 : Int32))] (.int (0 : Int32)) := Arv.set Ar17 q17 S17 Ng17 H17 G17 (fits_nar_byte _) W18 2 rfl (Nat.le_of_ble_eq_true rfl)
  have N18 := Fr.snoc X18 N15 g_b9
  have Z18 : n0 ≤ h18.size := Nat.le_trans Z15 (Nat.le_of_eq W18.size.symm)
  show Go p e below _ (T18.setTop (mkF m 115 #[.val (.int p1), .val (.int p2), .val (.int p3), .val (.int p4), .val (.int v1), .val (.int v2), .val (.int v3), .val (.int z8), .val (.ref b9), .unset, .unset, .unset, .unset, .unset] []))
  refine go (fun _ q => XS.aload X18.here hx rfl (hb hby at_115) rfl rfl q) ?_
  show Go p e below _ (T18.setTop (mkF m 117 #[.val (.int p1), .val (.int p2), .val (.int p3), .val (.int p4), .val (.int v1), .val (.int v2), .val (.int v3), .val (.int z8), .val (.ref b9), .unset, .unset, .unset, .unset, .unset] [(.ref b9)]))
  refine go (fun _ q => XS.iconst X18.here hx rfl (hb hby at_117) q) ?_
  show Go p e below _ (T18.setTop (mkF m 118 #[.val (.int p1), .val (.int p2), .val (.int p3), .val (.int p4), .val (.int v1), .val (.int v2), .val (.int v3), .val (.int z8), .val (.ref b9), .unset, .unset, .unset, .unset, .unset] [(.int (3 : Int32)), (.ref b9)]))
  refine go (fun _ q => XS.iloadN X18.here hx rfl (hb hby at_118) rfl q) ?_
  show Go p e below _ (T18.setTop (mkF m 119 #[.val (.int p1), .val (.int p2), .val (.int p3), .val (.int p4), .val (.int v1), .val (.int v2), .val (.int v3), .val (.int z8), .val (.ref b9), .unset, .unset, .unset, .unset, .unset] [(.int p3), (.int (3 : Int32)), (.ref b9)]))
  refine go (fun _ q => XS.bipush X18.here hx rfl (hb hby at_119) q) ?_
  show Go p e below _ (T18.setTop (mkF m 121 #[.val (.int p1), .val (.int p2), .val (.int p3), .val (.int p4), .val (.int v1), .val (.int v2), .val (.int v3), .val (.int z8), .val (.ref b9), .unset, .unset, .unset, .unset, .unset] [(.int (24 : Int32)), (.int p3), (.int (3 : Int32)), (.ref b9)]))
  refine go (fun _ q => XS.iushr X18.here hx rfl (hb hby at_121) rfl q) ?_
  show Go p e below _ (T18.setTop (mkF m 122 #[.val (.int p1), .val (.int p2), .val (.int p3), .val (.int p4), .val (.int v1), .val (.int v2), .val (.int v3), .val (.int z8), .val (.ref b9), .unset, .unset, .unset, .unset, .unset] [(.int (((p3).toUInt32 >>> ((24 : Int32) &&& 31).toUInt32).toInt32)), (.int (3 : Int32)), (.ref b9)]))
  refine go (fun _ q => XS.i2b X18.here hx rfl (hb hby at_122) rfl q) ?_
  show Go p e below _ (T18.setTop (mkF m 123 #[.val (.int p1), .val (.int p2), .val (.int p3), .val (.int p4), .val (.int v1), .val (.int v2), .val (.int v3), .val (.int z8), .val (.ref b9), .unset, .unset, .unset, .unset, .unset] [(.int (((((p3).toUInt32 >>> ((24 : Int32) &&& 31).toUInt32).toInt32)).toInt8.toInt32)), (.int (3 : Int32)), (.ref b9)]))
  generalize hv19 : (((((p3).toUInt32 >>> ((24 : Int32) &&& 31).toUInt32).toInt32)).toInt8.toInt32) = v19
  show Go p e below _ (T18.setTop (mkF m 123 #[.val (.int p1), .val (.int p2), .val (.int p3), .val (.int p4), .val (.int v1), .val (.int v2), .val (.int v3), .val (.int z8), .val (.ref b9), .unset, .unset, .unset, .unset, .unset] [(.int v19), (.int (3 : Int32)), (.ref b9)]))
  obtain ⟨cl20, Ar20, q20, S20, Ng20, H20, G20⟩ := id V_b9_18
  obtain ⟨T21, h21, X21, e21, W21, st21⟩ := stB X18 hx hZ e18 Ar20 (j := (3 : Int32)) (inb_of S20 ⟨by decide, by decide⟩) (g := (mkF m 123 #[.val (.int p1), .val (.int p2), .val (.int p3), .val (.int p4), .val (.int v1), .val (.int v2), .val (.int v3), .val (.int z8), .val (.ref b9), .unset, .unset, .unset, .unset, .unset] [(.int v19), (.int (3 : Int32)), (.ref b9)])) rfl rfl (hb hby at_123)
  refine go st21 ?_
  have V_b9_21 : Arv Z h21 b9 k9 .byte (8 : Int32) [(.int (nar .byte v10)), (.int (nar .byte v13)), (.int (nar .byte v16)), (.int (nar .byte v19)), (.int (0 : Int32)), (.int (0 : Int32)), (.int (0 : Int32)), (.int (0 : Int32))] (.int (0 : Int32)) := Arv.set Ar20 q20 S20 Ng20 H20 G20 (fits_nar_byte _) W21 3 rfl (Nat.le_of_ble_eq_true rfl)
  have N21 := Fr.snoc X21 N18 g_b9
  have Z21 : n0 ≤ h21.size := Nat.le_trans Z18 (Nat.le_of_eq W21.size.symm)
  show Go p e below _ (T21.setTop (mkF m 124 #[.val (.int p1), .val (.int p2), .val (.int p3), .val (.int p4), .val (.int v1), .val (.int v2), .val (.int v3), .val (.int z8), .val (.ref b9), .unset, .unset, .unset, .unset, .unset] []))
  refine go (fun _ q => XS.aload X21.here hx rfl (hb hby at_124) rfl rfl q) ?_
  show Go p e below _ (T21.setTop (mkF m 126 #[.val (.int p1), .val (.int p2), .val (.int p3), .val (.int p4), .val (.int v1), .val (.int v2), .val (.int v3), .val (.int z8), .val (.ref b9), .unset, .unset, .unset, .unset, .unset] [(.ref b9)]))
  refine go (fun _ q => XS.iconst X21.here hx rfl (hb hby at_126) q) ?_
  show Go p e below _ (T21.setTop (mkF m 127 #[.val (.int p1), .val (.int p2), .val (.int p3), .val (.int p4), .val (.int v1), .val (.int v2), .val (.int v3), .val (.int z8), .val (.ref b9), .unset, .unset, .unset, .unset, .unset] [(.int (4 : Int32)), (.ref b9)]))
  refine go (fun _ q => XS.iloadN X21.here hx rfl (hb hby at_127) rfl q) ?_
  show Go p e below _ (T21.setTop (mkF m 128 #[.val (.int p1), .val (.int p2), .val (.int p3), .val (.int p4), .val (.int v1), .val (.int v2), .val (.int v3), .val (.int z8), .val (.ref b9), .unset, .unset, .unset, .unset, .unset] [(.int p4), (.int (4 : Int32)), (.ref b9)]))
  refine go (fun _ q => XS.i2b X21.here hx rfl (hb hby at_128) rfl q) ?_
  show Go p e below _ (T21.setTop (mkF m 129 #[.val (.int p1), .val (.int p2), .val (.int p3), .val (.int p4), .val (.int v1), .val (.int v2), .val (.int v3), .val (.int z8), .val (.ref b9), .unset, .unset, .unset, .unset, .unset] [(.int ((p4).toInt8.toInt32)), (.int (4 : Int32)), (.ref b9)]))
  generalize hv22 : ((p4).toInt8.toInt32) = v22
  show Go p e below _ (T21.setTop (mkF m 129 #[.val (.int p1), .val (.int p2), .val (.int p3), .val (.int p4), .val (.int v1), .val (.int v2), .val (.int v3), .val (.int z8), .val (.ref b9), .unset, .unset, .unset, .unset, .unset] [(.int v22), (.int (4 : Int32)), (.ref b9)]))
  obtain ⟨cl23, Ar23, q23, S23, Ng23, H23, G23⟩ := id V_b9_21
  obtain ⟨T24, h24, X24, e24, W24, st24⟩ := stB X21 hx hZ e21 Ar23 (j := (4 : Int32)) (inb_of S23 ⟨by decide, by decide⟩) (g := (mkF m 129 #[.val (.int p1), .val (.int p2), .val (.int p3), .val (.int p4), .val (.int v1), .val (.int v2), .val (.int v3), .val (.int z8), .val (.ref b9), .unset, .unset, .unset, .unset, .unset] [(.int v22), (.int (4 : Int32)), (.ref b9)])) rfl rfl (hb hby at_129)
  refine go st24 ?_
  have V_b9_24 : Arv Z h24 b9 k9 .byte (8 : Int32) [(.int (nar .byte v10)), (.int (nar .byte v13)), (.int (nar .byte v16)), (.int (nar .byte v19)), (.int (nar .byte v22)), (.int (0 : Int32)), (.int (0 : Int32)), (.int (0 : Int32))] (.int (0 : Int32)) := Arv.set Ar23 q23 S23 Ng23 H23 G23 (fits_nar_byte _) W24 4 rfl (Nat.le_of_ble_eq_true rfl)
  have N24 := Fr.snoc X24 N21 g_b9
  have Z24 : n0 ≤ h24.size := Nat.le_trans Z21 (Nat.le_of_eq W24.size.symm)
  show Go p e below _ (T24.setTop (mkF m 130 #[.val (.int p1), .val (.int p2), .val (.int p3), .val (.int p4), .val (.int v1), .val (.int v2), .val (.int v3), .val (.int z8), .val (.ref b9), .unset, .unset, .unset, .unset, .unset] []))
  refine go (fun _ q => XS.aload X24.here hx rfl (hb hby at_130) rfl rfl q) ?_
  show Go p e below _ (T24.setTop (mkF m 132 #[.val (.int p1), .val (.int p2), .val (.int p3), .val (.int p4), .val (.int v1), .val (.int v2), .val (.int v3), .val (.int z8), .val (.ref b9), .unset, .unset, .unset, .unset, .unset] [(.ref b9)]))
  refine go (fun _ q => XS.iconst X24.here hx rfl (hb hby at_132) q) ?_
  show Go p e below _ (T24.setTop (mkF m 133 #[.val (.int p1), .val (.int p2), .val (.int p3), .val (.int p4), .val (.int v1), .val (.int v2), .val (.int v3), .val (.int z8), .val (.ref b9), .unset, .unset, .unset, .unset, .unset] [(.int (5 : Int32)), (.ref b9)]))
  refine go (fun _ q => XS.iloadN X24.here hx rfl (hb hby at_133) rfl q) ?_
  show Go p e below _ (T24.setTop (mkF m 134 #[.val (.int p1), .val (.int p2), .val (.int p3), .val (.int p4), .val (.int v1), .val (.int v2), .val (.int v3), .val (.int z8), .val (.ref b9), .unset, .unset, .unset, .unset, .unset] [(.int p4), (.int (5 : Int32)), (.ref b9)]))
  refine go (fun _ q => XS.bipush X24.here hx rfl (hb hby at_134) q) ?_
  show Go p e below _ (T24.setTop (mkF m 136 #[.val (.int p1), .val (.int p2), .val (.int p3), .val (.int p4), .val (.int v1), .val (.int v2), .val (.int v3), .val (.int z8), .val (.ref b9), .unset, .unset, .unset, .unset, .unset] [(.int (8 : Int32)), (.int p4), (.int (5 : Int32)), (.ref b9)]))
  refine go (fun _ q => XS.iushr X24.here hx rfl (hb hby at_136) rfl q) ?_
  show Go p e below _ (T24.setTop (mkF m 137 #[.val (.int p1), .val (.int p2), .val (.int p3), .val (.int p4), .val (.int v1), .val (.int v2), .val (.int v3), .val (.int z8), .val (.ref b9), .unset, .unset, .unset, .unset, .unset] [(.int (((p4).toUInt32 >>> ((8 : Int32) &&& 31).toUInt32).toInt32)), (.int (5 : Int32)), (.ref b9)]))
  refine go (fun _ q => XS.i2b X24.here hx rfl (hb hby at_137) rfl q) ?_
  show Go p e below _ (T24.setTop (mkF m 138 #[.val (.int p1), .val (.int p2), .val (.int p3), .val (.int p4), .val (.int v1), .val (.int v2), .val (.int v3), .val (.int z8), .val (.ref b9), .unset, .unset, .unset, .unset, .unset] [(.int (((((p4).toUInt32 >>> ((8 : Int32) &&& 31).toUInt32).toInt32)).toInt8.toInt32)), (.int (5 : Int32)), (.ref b9)]))
  generalize hv25 : (((((p4).toUInt32 >>> ((8 : Int32) &&& 31).toUInt32).toInt32)).toInt8.toInt32) = v25
  show Go p e below _ (T24.setTop (mkF m 138 #[.val (.int p1), .val (.int p2), .val (.int p3), .val (.int p4), .val (.int v1), .val (.int v2), .val (.int v3), .val (.int z8), .val (.ref b9), .unset, .unset, .unset, .unset, .unset] [(.int v25), (.int (5 : Int32)), (.ref b9)]))
  obtain ⟨cl26, Ar26, q26, S26, Ng26, H26, G26⟩ := id V_b9_24
  obtain ⟨T27, h27, X27, e27, W27, st27⟩ := stB X24 hx hZ e24 Ar26 (j := (5 : Int32)) (inb_of S26 ⟨by decide, by decide⟩) (g := (mkF m 138 #[.val (.int p1), .val (.int p2), .val (.int p3), .val (.int p4), .val (.int v1), .val (.int v2), .val (.int v3), .val (.int z8), .val (.ref b9), .unset, .unset, .unset, .unset, .unset] [(.int v25), (.int (5 : Int32)), (.ref b9)])) rfl rfl (hb hby at_138)
  refine go st27 ?_
  have V_b9_27 : Arv Z h27 b9 k9 .byte (8 : Int32) [(.int (nar .byte v10)), (.int (nar .byte v13)), (.int (nar .byte v16)), (.int (nar .byte v19)), (.int (nar .byte v22)), (.int (nar .byte v25)), (.int (0 : Int32)), (.int (0 : Int32))] (.int (0 : Int32)) := Arv.set Ar26 q26 S26 Ng26 H26 G26 (fits_nar_byte _) W27 5 rfl (Nat.le_of_ble_eq_true rfl)
  have N27 := Fr.snoc X27 N24 g_b9
  have Z27 : n0 ≤ h27.size := Nat.le_trans Z24 (Nat.le_of_eq W27.size.symm)
  show Go p e below _ (T27.setTop (mkF m 139 #[.val (.int p1), .val (.int p2), .val (.int p3), .val (.int p4), .val (.int v1), .val (.int v2), .val (.int v3), .val (.int z8), .val (.ref b9), .unset, .unset, .unset, .unset, .unset] []))
  refine go (fun _ q => XS.aload X27.here hx rfl (hb hby at_139) rfl rfl q) ?_
  show Go p e below _ (T27.setTop (mkF m 141 #[.val (.int p1), .val (.int p2), .val (.int p3), .val (.int p4), .val (.int v1), .val (.int v2), .val (.int v3), .val (.int z8), .val (.ref b9), .unset, .unset, .unset, .unset, .unset] [(.ref b9)]))
  refine go (fun _ q => XS.bipush X27.here hx rfl (hb hby at_141) q) ?_
  show Go p e below _ (T27.setTop (mkF m 143 #[.val (.int p1), .val (.int p2), .val (.int p3), .val (.int p4), .val (.int v1), .val (.int v2), .val (.int v3), .val (.int z8), .val (.ref b9), .unset, .unset, .unset, .unset, .unset] [(.int (6 : Int32)), (.ref b9)]))
  refine go (fun _ q => XS.iloadN X27.here hx rfl (hb hby at_143) rfl q) ?_
  show Go p e below _ (T27.setTop (mkF m 144 #[.val (.int p1), .val (.int p2), .val (.int p3), .val (.int p4), .val (.int v1), .val (.int v2), .val (.int v3), .val (.int z8), .val (.ref b9), .unset, .unset, .unset, .unset, .unset] [(.int p4), (.int (6 : Int32)), (.ref b9)]))
  refine go (fun _ q => XS.bipush X27.here hx rfl (hb hby at_144) q) ?_
  show Go p e below _ (T27.setTop (mkF m 146 #[.val (.int p1), .val (.int p2), .val (.int p3), .val (.int p4), .val (.int v1), .val (.int v2), .val (.int v3), .val (.int z8), .val (.ref b9), .unset, .unset, .unset, .unset, .unset] [(.int (16 : Int32)), (.int p4), (.int (6 : Int32)), (.ref b9)]))
  refine go (fun _ q => XS.iushr X27.here hx rfl (hb hby at_146) rfl q) ?_
  show Go p e below _ (T27.setTop (mkF m 147 #[.val (.int p1), .val (.int p2), .val (.int p3), .val (.int p4), .val (.int v1), .val (.int v2), .val (.int v3), .val (.int z8), .val (.ref b9), .unset, .unset, .unset, .unset, .unset] [(.int (((p4).toUInt32 >>> ((16 : Int32) &&& 31).toUInt32).toInt32)), (.int (6 : Int32)), (.ref b9)]))
  refine go (fun _ q => XS.i2b X27.here hx rfl (hb hby at_147) rfl q) ?_
  show Go p e below _ (T27.setTop (mkF m 148 #[.val (.int p1), .val (.int p2), .val (.int p3), .val (.int p4), .val (.int v1), .val (.int v2), .val (.int v3), .val (.int z8), .val (.ref b9), .unset, .unset, .unset, .unset, .unset] [(.int (((((p4).toUInt32 >>> ((16 : Int32) &&& 31).toUInt32).toInt32)).toInt8.toInt32)), (.int (6 : Int32)), (.ref b9)]))
  generalize hv28 : (((((p4).toUInt32 >>> ((16 : Int32) &&& 31).toUInt32).toInt32)).toInt8.toInt32) = v28
  show Go p e below _ (T27.setTop (mkF m 148 #[.val (.int p1), .val (.int p2), .val (.int p3), .val (.int p4), .val (.int v1), .val (.int v2), .val (.int v3), .val (.int z8), .val (.ref b9), .unset, .unset, .unset, .unset, .unset] [(.int v28), (.int (6 : Int32)), (.ref b9)]))
  obtain ⟨cl29, Ar29, q29, S29, Ng29, H29, G29⟩ := id V_b9_27
  obtain ⟨T30, h30, X30, e30, W30, st30⟩ := stB X27 hx hZ e27 Ar29 (j := (6 : Int32)) (inb_of S29 ⟨by decide, by decide⟩) (g := (mkF m 148 #[.val (.int p1), .val (.int p2), .val (.int p3), .val (.int p4), .val (.int v1), .val (.int v2), .val (.int v3), .val (.int z8), .val (.ref b9), .unset, .unset, .unset, .unset, .unset] [(.int v28), (.int (6 : Int32)), (.ref b9)])) rfl rfl (hb hby at_148)
  refine go st30 ?_
  have V_b9_30 : Arv Z h30 b9 k9 .byte (8 : Int32) [(.int (nar .byte v10)), (.int (nar .byte v13)), (.int (nar .byte v16)), (.int (nar .byte v19)), (.int (nar .byte v22)), (.int (nar .byte v25)), (.int (nar .byte v28)), (.int (0 : Int32))] (.int (0 : Int32)) := Arv.set Ar29 q29 S29 Ng29 H29 G29 (fits_nar_byte _) W30 6 rfl (Nat.le_of_ble_eq_true rfl)
  have N30 := Fr.snoc X30 N27 g_b9
  have Z30 : n0 ≤ h30.size := Nat.le_trans Z27 (Nat.le_of_eq W30.size.symm)
  show Go p e below _ (T30.setTop (mkF m 149 #[.val (.int p1), .val (.int p2), .val (.int p3), .val (.int p4), .val (.int v1), .val (.int v2), .val (.int v3), .val (.int z8), .val (.ref b9), .unset, .unset, .unset, .unset, .unset] []))
  refine go (fun _ q => XS.aload X30.here hx rfl (hb hby at_149) rfl rfl q) ?_
  show Go p e below _ (T30.setTop (mkF m 151 #[.val (.int p1), .val (.int p2), .val (.int p3), .val (.int p4), .val (.int v1), .val (.int v2), .val (.int v3), .val (.int z8), .val (.ref b9), .unset, .unset, .unset, .unset, .unset] [(.ref b9)]))
  refine go (fun _ q => XS.bipush X30.here hx rfl (hb hby at_151) q) ?_
  show Go p e below _ (T30.setTop (mkF m 153 #[.val (.int p1), .val (.int p2), .val (.int p3), .val (.int p4), .val (.int v1), .val (.int v2), .val (.int v3), .val (.int z8), .val (.ref b9), .unset, .unset, .unset, .unset, .unset] [(.int (7 : Int32)), (.ref b9)]))
  refine go (fun _ q => XS.iloadN X30.here hx rfl (hb hby at_153) rfl q) ?_
  show Go p e below _ (T30.setTop (mkF m 154 #[.val (.int p1), .val (.int p2), .val (.int p3), .val (.int p4), .val (.int v1), .val (.int v2), .val (.int v3), .val (.int z8), .val (.ref b9), .unset, .unset, .unset, .unset, .unset] [(.int p4), (.int (7 : Int32)), (.ref b9)]))
  refine go (fun _ q => XS.bipush X30.here hx rfl (hb hby at_154) q) ?_
  show Go p e below _ (T30.setTop (mkF m 156 #[.val (.int p1), .val (.int p2), .val (.int p3), .val (.int p4), .val (.int v1), .val (.int v2), .val (.int v3), .val (.int z8), .val (.ref b9), .unset, .unset, .unset, .unset, .unset] [(.int (24 : Int32)), (.int p4), (.int (7 : Int32)), (.ref b9)]))
  refine go (fun _ q => XS.iushr X30.here hx rfl (hb hby at_156) rfl q) ?_
  show Go p e below _ (T30.setTop (mkF m 157 #[.val (.int p1), .val (.int p2), .val (.int p3), .val (.int p4), .val (.int v1), .val (.int v2), .val (.int v3), .val (.int z8), .val (.ref b9), .unset, .unset, .unset, .unset, .unset] [(.int (((p4).toUInt32 >>> ((24 : Int32) &&& 31).toUInt32).toInt32)), (.int (7 : Int32)), (.ref b9)]))
  refine go (fun _ q => XS.i2b X30.here hx rfl (hb hby at_157) rfl q) ?_
  show Go p e below _ (T30.setTop (mkF m 158 #[.val (.int p1), .val (.int p2), .val (.int p3), .val (.int p4), .val (.int v1), .val (.int v2), .val (.int v3), .val (.int z8), .val (.ref b9), .unset, .unset, .unset, .unset, .unset] [(.int (((((p4).toUInt32 >>> ((24 : Int32) &&& 31).toUInt32).toInt32)).toInt8.toInt32)), (.int (7 : Int32)), (.ref b9)]))
  generalize hv31 : (((((p4).toUInt32 >>> ((24 : Int32) &&& 31).toUInt32).toInt32)).toInt8.toInt32) = v31
  show Go p e below _ (T30.setTop (mkF m 158 #[.val (.int p1), .val (.int p2), .val (.int p3), .val (.int p4), .val (.int v1), .val (.int v2), .val (.int v3), .val (.int z8), .val (.ref b9), .unset, .unset, .unset, .unset, .unset] [(.int v31), (.int (7 : Int32)), (.ref b9)]))
  obtain ⟨cl32, Ar32, q32, S32, Ng32, H32, G32⟩ := id V_b9_30
  obtain ⟨T33, h33, X33, e33, W33, st33⟩ := stB X30 hx hZ e30 Ar32 (j := (7 : Int32)) (inb_of S32 ⟨by decide, by decide⟩) (g := (mkF m 158 #[.val (.int p1), .val (.int p2), .val (.int p3), .val (.int p4), .val (.int v1), .val (.int v2), .val (.int v3), .val (.int z8), .val (.ref b9), .unset, .unset, .unset, .unset, .unset] [(.int v31), (.int (7 : Int32)), (.ref b9)])) rfl rfl (hb hby at_158)
  refine go st33 ?_
  have V_b9_33 : Arv Z h33 b9 k9 .byte (8 : Int32) [(.int (nar .byte v10)), (.int (nar .byte v13)), (.int (nar .byte v16)), (.int (nar .byte v19)), (.int (nar .byte v22)), (.int (nar .byte v25)), (.int (nar .byte v28)), (.int (nar .byte v31))] (.int (0 : Int32)) := Arv.set Ar32 q32 S32 Ng32 H32 G32 (fits_nar_byte _) W33 7 rfl (Nat.le_of_ble_eq_true rfl)
  have N33 := Fr.snoc X33 N30 g_b9
  have Z33 : n0 ≤ h33.size := Nat.le_trans Z30 (Nat.le_of_eq W33.size.symm)
  show Go p e below _ (T33.setTop (mkF m 159 #[.val (.int p1), .val (.int p2), .val (.int p3), .val (.int p4), .val (.int v1), .val (.int v2), .val (.int v3), .val (.int z8), .val (.ref b9), .unset, .unset, .unset, .unset, .unset] []))
  refine go (fun _ q => XS.iconst X33.here hx rfl (hb hby at_159) q) ?_
  show Go p e below _ (T33.setTop (mkF m 160 #[.val (.int p1), .val (.int p2), .val (.int p3), .val (.int p4), .val (.int v1), .val (.int v2), .val (.int v3), .val (.int z8), .val (.ref b9), .unset, .unset, .unset, .unset, .unset] [(.int (0 : Int32))]))
  refine go (fun _ q => XS.istore X33.here hx rfl (hb hby at_160) rfl (l' := #[.val (.int p1), .val (.int p2), .val (.int p3), .val (.int p4), .val (.int v1), .val (.int v2), .val (.int v3), .val (.int z8), .val (.ref b9), .unset, .unset, .val (.int (0 : Int32)), .unset, .unset]) rfl q) ?_
  show Go p e below _ (T33.setTop (mkF m 162 #[.val (.int p1), .val (.int p2), .val (.int p3), .val (.int p4), .val (.int v1), .val (.int v2), .val (.int v3), .val (.int z8), .val (.ref b9), .unset, .unset, .val (.int (0 : Int32)), .unset, .unset] []))
  refine go (fun _ q => XS.iconst X33.here hx rfl (hb hby at_162) q) ?_
  show Go p e below _ (T33.setTop (mkF m 163 #[.val (.int p1), .val (.int p2), .val (.int p3), .val (.int p4), .val (.int v1), .val (.int v2), .val (.int v3), .val (.int z8), .val (.ref b9), .unset, .unset, .val (.int (0 : Int32)), .unset, .unset] [(.int (0 : Int32))]))
  refine go (fun _ q => XS.istore X33.here hx rfl (hb hby at_163) rfl (l' := #[.val (.int p1), .val (.int p2), .val (.int p3), .val (.int p4), .val (.int v1), .val (.int v2), .val (.int v3), .val (.int z8), .val (.ref b9), .unset, .unset, .val (.int (0 : Int32)), .val (.int (0 : Int32)), .unset]) rfl q) ?_
  show Go p e below _ (T33.setTop (mkF m 165 #[.val (.int p1), .val (.int p2), .val (.int p3), .val (.int p4), .val (.int v1), .val (.int v2), .val (.int v3), .val (.int z8), .val (.ref b9), .unset, .unset, .val (.int (0 : Int32)), .val (.int (0 : Int32)), .unset] []))
  refine go (fun _ q => XS.iconst X33.here hx rfl (hb hby at_165) q) ?_
  show Go p e below _ (T33.setTop (mkF m 166 #[.val (.int p1), .val (.int p2), .val (.int p3), .val (.int p4), .val (.int v1), .val (.int v2), .val (.int v3), .val (.int z8), .val (.ref b9), .unset, .unset, .val (.int (0 : Int32)), .val (.int (0 : Int32)), .unset] [(.int (0 : Int32))]))
  refine go (fun _ q => XS.istore X33.here hx rfl (hb hby at_166) rfl (l' := #[.val (.int p1), .val (.int p2), .val (.int p3), .val (.int p4), .val (.int v1), .val (.int v2), .val (.int v3), .val (.int z8), .val (.ref b9), .unset, .unset, .val (.int (0 : Int32)), .val (.int (0 : Int32)), .val (.int (0 : Int32))]) rfl q) ?_
  show Go p e below _ (T33.setTop (mkF m 168 #[.val (.int p1), .val (.int p2), .val (.int p3), .val (.int p4), .val (.int v1), .val (.int v2), .val (.int v3), .val (.int z8), .val (.ref b9), .unset, .unset, .val (.int (0 : Int32)), .val (.int (0 : Int32)), .val (.int (0 : Int32))] []))
  refine go (fun _ q => XS.iload X33.here hx rfl (hb hby at_168) rfl q) ?_
  show Go p e below _ (T33.setTop (mkF m 170 #[.val (.int p1), .val (.int p2), .val (.int p3), .val (.int p4), .val (.int v1), .val (.int v2), .val (.int v3), .val (.int z8), .val (.ref b9), .unset, .unset, .val (.int (0 : Int32)), .val (.int (0 : Int32)), .val (.int (0 : Int32))] [(.int z8)]))
  refine go (fun _ q => XS.sipush X33.here hx rfl (hb hby at_170) q) ?_
  show Go p e below _ (T33.setTop (mkF m 173 #[.val (.int p1), .val (.int p2), .val (.int p3), .val (.int p4), .val (.int v1), .val (.int v2), .val (.int v3), .val (.int z8), .val (.ref b9), .unset, .unset, .val (.int (0 : Int32)), .val (.int (0 : Int32)), .val (.int (0 : Int32))] [(.int (128 : Int32)), (.int z8)]))
  by_cases hc34 : z8 < (128 : Int32)
  · refine go (fun _ q => XS.icmpNo X33.here hx rfl (hb hby at_173) rfl (tlt hc34).2.1 q) ?_
    show Go p e below _ (T33.setTop (mkF m 176 #[.val (.int p1), .val (.int p2), .val (.int p3), .val (.int p4), .val (.int v1), .val (.int v2), .val (.int v3), .val (.int z8), .val (.ref b9), .unset, .unset, .val (.int (0 : Int32)), .val (.int (0 : Int32)), .val (.int (0 : Int32))] []))
    refine go (fun _ q => XS.iconst X33.here hx rfl (hb hby at_176) q) ?_
    show Go p e below _ (T33.setTop (mkF m 177 #[.val (.int p1), .val (.int p2), .val (.int p3), .val (.int p4), .val (.int v1), .val (.int v2), .val (.int v3), .val (.int z8), .val (.ref b9), .unset, .unset, .val (.int (0 : Int32)), .val (.int (0 : Int32)), .val (.int (0 : Int32))] [(.int (1 : Int32))]))
    refine go (fun _ q => XS.istore X33.here hx rfl (hb hby at_177) rfl (l' := #[.val (.int p1), .val (.int p2), .val (.int p3), .val (.int p4), .val (.int v1), .val (.int v2), .val (.int v3), .val (.int z8), .val (.ref b9), .val (.int (1 : Int32)), .unset, .val (.int (0 : Int32)), .val (.int (0 : Int32)), .val (.int (0 : Int32))]) rfl q) ?_
    show Go p e below _ (T33.setTop (mkF m 179 #[.val (.int p1), .val (.int p2), .val (.int p3), .val (.int p4), .val (.int v1), .val (.int v2), .val (.int v3), .val (.int z8), .val (.ref b9), .val (.int (1 : Int32)), .unset, .val (.int (0 : Int32)), .val (.int (0 : Int32)), .val (.int (0 : Int32))] []))
    refine go (fun _ q => XS.iload X33.here hx rfl (hb hby at_179) rfl q) ?_
    show Go p e below _ (T33.setTop (mkF m 181 #[.val (.int p1), .val (.int p2), .val (.int p3), .val (.int p4), .val (.int v1), .val (.int v2), .val (.int v3), .val (.int z8), .val (.ref b9), .val (.int (1 : Int32)), .unset, .val (.int (0 : Int32)), .val (.int (0 : Int32)), .val (.int (0 : Int32))] [(.int z8)]))
    refine go (fun _ q => XS.istore X33.here hx rfl (hb hby at_181) rfl (l' := #[.val (.int p1), .val (.int p2), .val (.int p3), .val (.int p4), .val (.int v1), .val (.int v2), .val (.int v3), .val (.int z8), .val (.ref b9), .val (.int (1 : Int32)), .val (.int z8), .val (.int (0 : Int32)), .val (.int (0 : Int32)), .val (.int (0 : Int32))]) rfl q) ?_
    show Go p e below _ (T33.setTop (mkF m 183 #[.val (.int p1), .val (.int p2), .val (.int p3), .val (.int p4), .val (.int v1), .val (.int v2), .val (.int v3), .val (.int z8), .val (.ref b9), .val (.int (1 : Int32)), .val (.int z8), .val (.int (0 : Int32)), .val (.int (0 : Int32)), .val (.int (0 : Int32))] []))
    refine go (fun _ q => XS.goto X33.here hx rfl (pc0 := 183) (pc' := 324) rfl (hb hby at_183) (by decide) (by decide) q) ?_
    show Go p e below _ (T33.setTop (mkF m 324 #[.val (.int p1), .val (.int p2), .val (.int p3), .val (.int p4), .val (.int v1), .val (.int v2), .val (.int v3), .val (.int z8), .val (.ref b9), .val (.int (1 : Int32)), .val (.int z8), .val (.int (0 : Int32)), .val (.int (0 : Int32)), .val (.int (0 : Int32))] []))
    refine go (fun _ q => XS.aload X33.here hx rfl (hb hby at_324) rfl rfl q) ?_
    show Go p e below _ (T33.setTop (mkF m 326 #[.val (.int p1), .val (.int p2), .val (.int p3), .val (.int p4), .val (.int v1), .val (.int v2), .val (.int v3), .val (.int z8), .val (.ref b9), .val (.int (1 : Int32)), .val (.int z8), .val (.int (0 : Int32)), .val (.int (0 : Int32)), .val (.int (0 : Int32))] [(.ref b9)]))
    refine go (fun _ q => XS.iload X33.here hx rfl (hb hby at_326) rfl q) ?_
    show Go p e below _ (T33.setTop (mkF m 328 #[.val (.int p1), .val (.int p2), .val (.int p3), .val (.int p4), .val (.int v1), .val (.int v2), .val (.int v3), .val (.int z8), .val (.ref b9), .val (.int (1 : Int32)), .val (.int z8), .val (.int (0 : Int32)), .val (.int (0 : Int32)), .val (.int (0 : Int32))] [(.int v2), (.ref b9)]))
    refine go (fun _ q => XS.iload X33.here hx rfl (hb hby at_328) rfl q) ?_
    show Go p e below _ (T33.setTop (mkF m 330 #[.val (.int p1), .val (.int p2), .val (.int p3), .val (.int p4), .val (.int v1), .val (.int v2), .val (.int v3), .val (.int z8), .val (.ref b9), .val (.int (1 : Int32)), .val (.int z8), .val (.int (0 : Int32)), .val (.int (0 : Int32)), .val (.int (0 : Int32))] [(.int z8), (.int v2), (.ref b9)]))
    refine go (fun _ q => XS.i2b X33.here hx rfl (hb hby at_330) rfl q) ?_
    show Go p e below _ (T33.setTop (mkF m 331 #[.val (.int p1), .val (.int p2), .val (.int p3), .val (.int p4), .val (.int v1), .val (.int v2), .val (.int v3), .val (.int z8), .val (.ref b9), .val (.int (1 : Int32)), .val (.int z8), .val (.int (0 : Int32)), .val (.int (0 : Int32)), .val (.int (0 : Int32))] [(.int ((z8).toInt8.toInt32)), (.int v2), (.ref b9)]))
    obtain ⟨cl35, Ar35, q35, S35, Ng35, H35, G35⟩ := id V_b9_33
    obtain ⟨T36, h36, X36, e36, W36, st36⟩ := stB X33 hx hZ e33 Ar35 (j := v2) (inb_of S35 (own_j0 own_h4).1) (g := (mkF m 331 #[.val (.int p1), .val (.int p2), .val (.int p3), .val (.int p4), .val (.int v1), .val (.int v2), .val (.int v3), .val (.int z8), .val (.ref b9), .val (.int (1 : Int32)), .val (.int z8), .val (.int (0 : Int32)), .val (.int (0 : Int32)), .val (.int (0 : Int32))] [(.int ((z8).toInt8.toInt32)), (.int v2), (.ref b9)])) rfl rfl (hb hby at_331)
    refine go st36 ?_
    have V_b9_36 : Arv Z h36 b9 k9 .byte (8 : Int32) (([(.int (nar .byte v10)), (.int (nar .byte v13)), (.int (nar .byte v16)), (.int (nar .byte v19)), (.int (nar .byte v22)), (.int (nar .byte v25)), (.int (nar .byte v28)), (.int (nar .byte v31))] : List Value).set (v2).toNatClampNeg (.int (nar .byte ((z8).toInt8.toInt32)))) (.int (0 : Int32)) := Arv.set Ar35 q35 S35 Ng35 H35 G35 (fits_nar_byte _) W36 (v2).toNatClampNeg rfl (by simpa using (own_j0 own_h4).2)
    have N36 := Fr.snoc X36 N33 g_b9
    have Z36 : n0 ≤ h36.size := Nat.le_trans Z33 (Nat.le_of_eq W36.size.symm)
    show Go p e below _ (T36.setTop (mkF m 332 #[.val (.int p1), .val (.int p2), .val (.int p3), .val (.int p4), .val (.int v1), .val (.int v2), .val (.int v3), .val (.int z8), .val (.ref b9), .val (.int (1 : Int32)), .val (.int z8), .val (.int (0 : Int32)), .val (.int (0 : Int32)), .val (.int (0 : Int32))] []))
    refine go (fun _ q => XS.iload X36.here hx rfl (hb hby at_332) rfl q) ?_
    show Go p e below _ (T36.setTop (mkF m 334 #[.val (.int p1), .val (.int p2), .val (.int p3), .val (.int p4), .val (.int v1), .val (.int v2), .val (.int v3), .val (.int z8), .val (.ref b9), .val (.int (1 : Int32)), .val (.int z8), .val (.int (0 : Int32)), .val (.int (0 : Int32)), .val (.int (0 : Int32))] [(.int (1 : Int32))]))
    refine go (fun _ q => XS.iconst X36.here hx rfl (hb hby at_334) q) ?_
    show Go p e below _ (T36.setTop (mkF m 335 #[.val (.int p1), .val (.int p2), .val (.int p3), .val (.int p4), .val (.int v1), .val (.int v2), .val (.int v3), .val (.int z8), .val (.ref b9), .val (.int (1 : Int32)), .val (.int z8), .val (.int (0 : Int32)), .val (.int (0 : Int32)), .val (.int (0 : Int32))] [(.int (1 : Int32)), (.int (1 : Int32))]))
    refine go (fun _ q => XS.icmpYes X36.here hx rfl (pc0 := 335) (pc' := 348) rfl (hb hby at_335) rfl (flt (by decide : ¬ ((1 : Int32) < (1 : Int32)))).2.2.2 (by decide) (by decide) q) ?_
    show Go p e below _ (T36.setTop (mkF m 348 #[.val (.int p1), .val (.int p2), .val (.int p3), .val (.int p4), .val (.int v1), .val (.int v2), .val (.int v3), .val (.int z8), .val (.ref b9), .val (.int (1 : Int32)), .val (.int z8), .val (.int (0 : Int32)), .val (.int (0 : Int32)), .val (.int (0 : Int32))] []))
    refine go (fun _ q => XS.iload X36.here hx rfl (hb hby at_348) rfl q) ?_
    show Go p e below _ (T36.setTop (mkF m 350 #[.val (.int p1), .val (.int p2), .val (.int p3), .val (.int p4), .val (.int v1), .val (.int v2), .val (.int v3), .val (.int z8), .val (.ref b9), .val (.int (1 : Int32)), .val (.int z8), .val (.int (0 : Int32)), .val (.int (0 : Int32)), .val (.int (0 : Int32))] [(.int (1 : Int32))]))
    refine go (fun _ q => XS.iconst X36.here hx rfl (hb hby at_350) q) ?_
    show Go p e below _ (T36.setTop (mkF m 351 #[.val (.int p1), .val (.int p2), .val (.int p3), .val (.int p4), .val (.int v1), .val (.int v2), .val (.int v3), .val (.int z8), .val (.ref b9), .val (.int (1 : Int32)), .val (.int z8), .val (.int (0 : Int32)), .val (.int (0 : Int32)), .val (.int (0 : Int32))] [(.int (2 : Int32)), (.int (1 : Int32))]))
    refine go (fun _ q => XS.icmpYes X36.here hx rfl (pc0 := 351) (pc' := 364) rfl (hb hby at_351) rfl (flt (by decide : ¬ ((2 : Int32) < (1 : Int32)))).2.2.2 (by decide) (by decide) q) ?_
    show Go p e below _ (T36.setTop (mkF m 364 #[.val (.int p1), .val (.int p2), .val (.int p3), .val (.int p4), .val (.int v1), .val (.int v2), .val (.int v3), .val (.int z8), .val (.ref b9), .val (.int (1 : Int32)), .val (.int z8), .val (.int (0 : Int32)), .val (.int (0 : Int32)), .val (.int (0 : Int32))] []))
    refine go (fun _ q => XS.iload X36.here hx rfl (hb hby at_364) rfl q) ?_
    show Go p e below _ (T36.setTop (mkF m 366 #[.val (.int p1), .val (.int p2), .val (.int p3), .val (.int p4), .val (.int v1), .val (.int v2), .val (.int v3), .val (.int z8), .val (.ref b9), .val (.int (1 : Int32)), .val (.int z8), .val (.int (0 : Int32)), .val (.int (0 : Int32)), .val (.int (0 : Int32))] [(.int (1 : Int32))]))
    refine go (fun _ q => XS.iconst X36.here hx rfl (hb hby at_366) q) ?_
    show Go p e below _ (T36.setTop (mkF m 367 #[.val (.int p1), .val (.int p2), .val (.int p3), .val (.int p4), .val (.int v1), .val (.int v2), .val (.int v3), .val (.int z8), .val (.ref b9), .val (.int (1 : Int32)), .val (.int z8), .val (.int (0 : Int32)), .val (.int (0 : Int32)), .val (.int (0 : Int32))] [(.int (3 : Int32)), (.int (1 : Int32))]))
    refine go (fun _ q => XS.icmpYes X36.here hx rfl (pc0 := 367) (pc' := 380) rfl (hb hby at_367) rfl (flt (by decide : ¬ ((3 : Int32) < (1 : Int32)))).2.2.2 (by decide) (by decide) q) ?_
    show Go p e below _ (T36.setTop (mkF m 380 #[.val (.int p1), .val (.int p2), .val (.int p3), .val (.int p4), .val (.int v1), .val (.int v2), .val (.int v3), .val (.int z8), .val (.ref b9), .val (.int (1 : Int32)), .val (.int z8), .val (.int (0 : Int32)), .val (.int (0 : Int32)), .val (.int (0 : Int32))] []))
    refine go (fun _ q => XS.aload X36.here hx rfl (hb hby at_380) rfl rfl q) ?_
    show Go p e below _ (T36.setTop (mkF m 382 #[.val (.int p1), .val (.int p2), .val (.int p3), .val (.int p4), .val (.int v1), .val (.int v2), .val (.int v3), .val (.int z8), .val (.ref b9), .val (.int (1 : Int32)), .val (.int z8), .val (.int (0 : Int32)), .val (.int (0 : Int32)), .val (.int (0 : Int32))] [(.ref b9)]))
    refine go (fun _ q => XS.iload X36.here hx rfl (hb hby at_382) rfl q) ?_
    show Go p e below _ (T36.setTop (mkF m 384 #[.val (.int p1), .val (.int p2), .val (.int p3), .val (.int p4), .val (.int v1), .val (.int v2), .val (.int v3), .val (.int z8), .val (.ref b9), .val (.int (1 : Int32)), .val (.int z8), .val (.int (0 : Int32)), .val (.int (0 : Int32)), .val (.int (0 : Int32))] [(.int v2), (.ref b9)]))
    refine go (fun _ q => XS.iload X36.here hx rfl (hb hby at_384) rfl q) ?_
    show Go p e below _ (T36.setTop (mkF m 386 #[.val (.int p1), .val (.int p2), .val (.int p3), .val (.int p4), .val (.int v1), .val (.int v2), .val (.int v3), .val (.int z8), .val (.ref b9), .val (.int (1 : Int32)), .val (.int z8), .val (.int (0 : Int32)), .val (.int (0 : Int32)), .val (.int (0 : Int32))] [(.int (1 : Int32)), (.int v2), (.ref b9)]))
    obtain ⟨clx, Arx, qx, Sx, Ngx, Hx, Gx⟩ := id V_b9_36
    refine own_callS X36 hx hZ hown e36 (hw _ (List.mem_of_getElem? (i := 4) rfl)) (hw _ (List.mem_of_getElem? (i := 5) rfl)) (hw _ (List.mem_of_getElem? (i := 6) rfl)) (hw _ (List.mem_of_getElem? (i := 7) rfl)) (rm1_1 l Z a0 hw [] b9 v2 h36 n0 own_h4 Arx Sx (by rcases own_h4 with rfl | rfl | rfl | rfl <;> exact Hx _ (by rw [Sx]; decide))) (by decide) (by decide) (W := 0) (by decide) (by decide) (by decide) (g := (mkF m 386 #[.val (.int p1), .val (.int p2), .val (.int p3), .val (.int p4), .val (.int v1), .val (.int v2), .val (.int v3), .val (.int z8), .val (.ref b9), .val (.int (1 : Int32)), .val (.int z8), .val (.int (0 : Int32)), .val (.int (0 : Int32)), .val (.int (0 : Int32))] [(.int (1 : Int32)), (.int v2), (.ref b9)])) rfl (by rw [hml]; rfl) (argsL := [(.ref b9), (.int v2), (.int (1 : Int32))]) (rest := []) rfl rfl (lenOf pd_0_0 rfl) (by show 2 * 0 + _ ≤ _; exact Nat.le_of_eq rfl) (hb hby at_386) ?_
    rintro _ T37 L37 X37 ⟨rfl, N37q, e37⟩
    have N37 := Fr.app N36 N37q
    show Go p e below _ (T37.setTop (mkF m 389 #[.val (.int p1), .val (.int p2), .val (.int p3), .val (.int p4), .val (.int v1), .val (.int v2), .val (.int v3), .val (.int z8), .val (.ref b9), .val (.int (1 : Int32)), .val (.int z8), .val (.int (0 : Int32)), .val (.int (0 : Int32)), .val (.int (0 : Int32))] [(.int (g1 (nar .byte ((z8).toInt8.toInt32))))]))
    refine go (fun _ q => XS.iload X37.here hx rfl (hb hby at_389) rfl q) ?_
    show Go p e below _ (T37.setTop (mkF m 391 #[.val (.int p1), .val (.int p2), .val (.int p3), .val (.int p4), .val (.int v1), .val (.int v2), .val (.int v3), .val (.int z8), .val (.ref b9), .val (.int (1 : Int32)), .val (.int z8), .val (.int (0 : Int32)), .val (.int (0 : Int32)), .val (.int (0 : Int32))] [(.int z8), (.int (g1 (nar .byte ((z8).toInt8.toInt32))))]))
    have hk38 : (g1 (nar .byte ((z8).toInt8.toInt32))) = z8 := own_main1 own_r hc34 
    refine go (fun _ q => XS.icmpNo X37.here hx rfl (hb hby at_391) rfl (teq hk38).2 q) ?_
    show Go p e below _ (T37.setTop (mkF m 394 #[.val (.int p1), .val (.int p2), .val (.int p3), .val (.int p4), .val (.int v1), .val (.int v2), .val (.int v3), .val (.int z8), .val (.ref b9), .val (.int (1 : Int32)), .val (.int z8), .val (.int (0 : Int32)), .val (.int (0 : Int32)), .val (.int (0 : Int32))] []))
    refine go (fun _ q => XS.iconst X37.here hx rfl (hb hby at_394) q) ?_
    show Go p e below _ (T37.setTop (mkF m 395 #[.val (.int p1), .val (.int p2), .val (.int p3), .val (.int p4), .val (.int v1), .val (.int v2), .val (.int v3), .val (.int z8), .val (.ref b9), .val (.int (1 : Int32)), .val (.int z8), .val (.int (0 : Int32)), .val (.int (0 : Int32)), .val (.int (0 : Int32))] [(.int (1 : Int32))]))
    refine go (fun _ q => XS.goto X37.here hx rfl (pc0 := 395) (pc' := 399) rfl (hb hby at_395) (by decide) (by decide) q) ?_
    show Go p e below _ (T37.setTop (mkF m 399 #[.val (.int p1), .val (.int p2), .val (.int p3), .val (.int p4), .val (.int v1), .val (.int v2), .val (.int v3), .val (.int z8), .val (.ref b9), .val (.int (1 : Int32)), .val (.int z8), .val (.int (0 : Int32)), .val (.int (0 : Int32)), .val (.int (0 : Int32))] [(.int (1 : Int32))]))
    exact own_retZ (z' := (1 : Int32)) X37 hx hlk hret (hb hby at_399) (by decide) (by decide) rfl ⟨rfl, N37⟩
  · refine go (fun _ q => XS.icmpYes X33.here hx rfl (pc0 := 173) (pc' := 186) rfl (hb hby at_173) rfl (flt hc34).2.1 (by decide) (by decide) q) ?_
    show Go p e below _ (T33.setTop (mkF m 186 #[.val (.int p1), .val (.int p2), .val (.int p3), .val (.int p4), .val (.int v1), .val (.int v2), .val (.int v3), .val (.int z8), .val (.ref b9), .unset, .unset, .val (.int (0 : Int32)), .val (.int (0 : Int32)), .val (.int (0 : Int32))] []))
    refine go (fun _ q => XS.iload X33.here hx rfl (hb hby at_186) rfl q) ?_
    show Go p e below _ (T33.setTop (mkF m 188 #[.val (.int p1), .val (.int p2), .val (.int p3), .val (.int p4), .val (.int v1), .val (.int v2), .val (.int v3), .val (.int z8), .val (.ref b9), .unset, .unset, .val (.int (0 : Int32)), .val (.int (0 : Int32)), .val (.int (0 : Int32))] [(.int z8)]))
    refine go (fun _ q => XS.sipush X33.here hx rfl (hb hby at_188) q) ?_
    show Go p e below _ (T33.setTop (mkF m 191 #[.val (.int p1), .val (.int p2), .val (.int p3), .val (.int p4), .val (.int v1), .val (.int v2), .val (.int v3), .val (.int z8), .val (.ref b9), .unset, .unset, .val (.int (0 : Int32)), .val (.int (0 : Int32)), .val (.int (0 : Int32))] [(.int (2048 : Int32)), (.int z8)]))
    by_cases hc39 : z8 < (2048 : Int32)
    · refine go (fun _ q => XS.icmpNo X33.here hx rfl (hb hby at_191) rfl (tlt hc39).2.1 q) ?_
      show Go p e below _ (T33.setTop (mkF m 194 #[.val (.int p1), .val (.int p2), .val (.int p3), .val (.int p4), .val (.int v1), .val (.int v2), .val (.int v3), .val (.int z8), .val (.ref b9), .unset, .unset, .val (.int (0 : Int32)), .val (.int (0 : Int32)), .val (.int (0 : Int32))] []))
      refine go (fun _ q => XS.iconst X33.here hx rfl (hb hby at_194) q) ?_
      show Go p e below _ (T33.setTop (mkF m 195 #[.val (.int p1), .val (.int p2), .val (.int p3), .val (.int p4), .val (.int v1), .val (.int v2), .val (.int v3), .val (.int z8), .val (.ref b9), .unset, .unset, .val (.int (0 : Int32)), .val (.int (0 : Int32)), .val (.int (0 : Int32))] [(.int (2 : Int32))]))
      refine go (fun _ q => XS.istore X33.here hx rfl (hb hby at_195) rfl (l' := #[.val (.int p1), .val (.int p2), .val (.int p3), .val (.int p4), .val (.int v1), .val (.int v2), .val (.int v3), .val (.int z8), .val (.ref b9), .val (.int (2 : Int32)), .unset, .val (.int (0 : Int32)), .val (.int (0 : Int32)), .val (.int (0 : Int32))]) rfl q) ?_
      show Go p e below _ (T33.setTop (mkF m 197 #[.val (.int p1), .val (.int p2), .val (.int p3), .val (.int p4), .val (.int v1), .val (.int v2), .val (.int v3), .val (.int z8), .val (.ref b9), .val (.int (2 : Int32)), .unset, .val (.int (0 : Int32)), .val (.int (0 : Int32)), .val (.int (0 : Int32))] []))
      refine go (fun _ q => XS.sipush X33.here hx rfl (hb hby at_197) q) ?_
      show Go p e below _ (T33.setTop (mkF m 200 #[.val (.int p1), .val (.int p2), .val (.int p3), .val (.int p4), .val (.int v1), .val (.int v2), .val (.int v3), .val (.int z8), .val (.ref b9), .val (.int (2 : Int32)), .unset, .val (.int (0 : Int32)), .val (.int (0 : Int32)), .val (.int (0 : Int32))] [(.int (192 : Int32))]))
      refine go (fun _ q => XS.iload X33.here hx rfl (hb hby at_200) rfl q) ?_
      show Go p e below _ (T33.setTop (mkF m 202 #[.val (.int p1), .val (.int p2), .val (.int p3), .val (.int p4), .val (.int v1), .val (.int v2), .val (.int v3), .val (.int z8), .val (.ref b9), .val (.int (2 : Int32)), .unset, .val (.int (0 : Int32)), .val (.int (0 : Int32)), .val (.int (0 : Int32))] [(.int z8), (.int (192 : Int32))]))
      refine go (fun _ q => XS.bipush X33.here hx rfl (hb hby at_202) q) ?_
      show Go p e below _ (T33.setTop (mkF m 204 #[.val (.int p1), .val (.int p2), .val (.int p3), .val (.int p4), .val (.int v1), .val (.int v2), .val (.int v3), .val (.int z8), .val (.ref b9), .val (.int (2 : Int32)), .unset, .val (.int (0 : Int32)), .val (.int (0 : Int32)), .val (.int (0 : Int32))] [(.int (6 : Int32)), (.int z8), (.int (192 : Int32))]))
      refine go (fun _ q => XS.ishr X33.here hx rfl (hb hby at_204) rfl q) ?_
      show Go p e below _ (T33.setTop (mkF m 205 #[.val (.int p1), .val (.int p2), .val (.int p3), .val (.int p4), .val (.int v1), .val (.int v2), .val (.int v3), .val (.int z8), .val (.ref b9), .val (.int (2 : Int32)), .unset, .val (.int (0 : Int32)), .val (.int (0 : Int32)), .val (.int (0 : Int32))] [(.int ((z8 >>> ((6 : Int32) &&& 31)))), (.int (192 : Int32))]))
      refine go (fun _ q => XS.ior X33.here hx rfl (hb hby at_205) rfl q) ?_
      show Go p e below _ (T33.setTop (mkF m 206 #[.val (.int p1), .val (.int p2), .val (.int p3), .val (.int p4), .val (.int v1), .val (.int v2), .val (.int v3), .val (.int z8), .val (.ref b9), .val (.int (2 : Int32)), .unset, .val (.int (0 : Int32)), .val (.int (0 : Int32)), .val (.int (0 : Int32))] [(.int ((192 : Int32) ||| ((z8 >>> ((6 : Int32) &&& 31)))))]))
      generalize hv40 : ((192 : Int32) ||| ((z8 >>> ((6 : Int32) &&& 31)))) = v40
      show Go p e below _ (T33.setTop (mkF m 206 #[.val (.int p1), .val (.int p2), .val (.int p3), .val (.int p4), .val (.int v1), .val (.int v2), .val (.int v3), .val (.int z8), .val (.ref b9), .val (.int (2 : Int32)), .unset, .val (.int (0 : Int32)), .val (.int (0 : Int32)), .val (.int (0 : Int32))] [(.int v40)]))
      refine go (fun _ q => XS.istore X33.here hx rfl (hb hby at_206) rfl (l' := #[.val (.int p1), .val (.int p2), .val (.int p3), .val (.int p4), .val (.int v1), .val (.int v2), .val (.int v3), .val (.int z8), .val (.ref b9), .val (.int (2 : Int32)), .val (.int v40), .val (.int (0 : Int32)), .val (.int (0 : Int32)), .val (.int (0 : Int32))]) rfl q) ?_
      show Go p e below _ (T33.setTop (mkF m 208 #[.val (.int p1), .val (.int p2), .val (.int p3), .val (.int p4), .val (.int v1), .val (.int v2), .val (.int v3), .val (.int z8), .val (.ref b9), .val (.int (2 : Int32)), .val (.int v40), .val (.int (0 : Int32)), .val (.int (0 : Int32)), .val (.int (0 : Int32))] []))
      refine go (fun _ q => XS.sipush X33.here hx rfl (hb hby at_208) q) ?_
      show Go p e below _ (T33.setTop (mkF m 211 #[.val (.int p1), .val (.int p2), .val (.int p3), .val (.int p4), .val (.int v1), .val (.int v2), .val (.int v3), .val (.int z8), .val (.ref b9), .val (.int (2 : Int32)), .val (.int v40), .val (.int (0 : Int32)), .val (.int (0 : Int32)), .val (.int (0 : Int32))] [(.int (128 : Int32))]))
      refine go (fun _ q => XS.iload X33.here hx rfl (hb hby at_211) rfl q) ?_
      show Go p e below _ (T33.setTop (mkF m 213 #[.val (.int p1), .val (.int p2), .val (.int p3), .val (.int p4), .val (.int v1), .val (.int v2), .val (.int v3), .val (.int z8), .val (.ref b9), .val (.int (2 : Int32)), .val (.int v40), .val (.int (0 : Int32)), .val (.int (0 : Int32)), .val (.int (0 : Int32))] [(.int z8), (.int (128 : Int32))]))
      refine go (fun _ q => XS.bipush X33.here hx rfl (hb hby at_213) q) ?_
      show Go p e below _ (T33.setTop (mkF m 215 #[.val (.int p1), .val (.int p2), .val (.int p3), .val (.int p4), .val (.int v1), .val (.int v2), .val (.int v3), .val (.int z8), .val (.ref b9), .val (.int (2 : Int32)), .val (.int v40), .val (.int (0 : Int32)), .val (.int (0 : Int32)), .val (.int (0 : Int32))] [(.int (63 : Int32)), (.int z8), (.int (128 : Int32))]))
      refine go (fun _ q => XS.iand X33.here hx rfl (hb hby at_215) rfl q) ?_
      show Go p e below _ (T33.setTop (mkF m 216 #[.val (.int p1), .val (.int p2), .val (.int p3), .val (.int p4), .val (.int v1), .val (.int v2), .val (.int v3), .val (.int z8), .val (.ref b9), .val (.int (2 : Int32)), .val (.int v40), .val (.int (0 : Int32)), .val (.int (0 : Int32)), .val (.int (0 : Int32))] [(.int (z8 &&& (63 : Int32))), (.int (128 : Int32))]))
      refine go (fun _ q => XS.ior X33.here hx rfl (hb hby at_216) rfl q) ?_
      show Go p e below _ (T33.setTop (mkF m 217 #[.val (.int p1), .val (.int p2), .val (.int p3), .val (.int p4), .val (.int v1), .val (.int v2), .val (.int v3), .val (.int z8), .val (.ref b9), .val (.int (2 : Int32)), .val (.int v40), .val (.int (0 : Int32)), .val (.int (0 : Int32)), .val (.int (0 : Int32))] [(.int ((128 : Int32) ||| (z8 &&& (63 : Int32))))]))
      generalize hv41 : ((128 : Int32) ||| (z8 &&& (63 : Int32))) = v41
      show Go p e below _ (T33.setTop (mkF m 217 #[.val (.int p1), .val (.int p2), .val (.int p3), .val (.int p4), .val (.int v1), .val (.int v2), .val (.int v3), .val (.int z8), .val (.ref b9), .val (.int (2 : Int32)), .val (.int v40), .val (.int (0 : Int32)), .val (.int (0 : Int32)), .val (.int (0 : Int32))] [(.int v41)]))
      refine go (fun _ q => XS.istore X33.here hx rfl (hb hby at_217) rfl (l' := #[.val (.int p1), .val (.int p2), .val (.int p3), .val (.int p4), .val (.int v1), .val (.int v2), .val (.int v3), .val (.int z8), .val (.ref b9), .val (.int (2 : Int32)), .val (.int v40), .val (.int v41), .val (.int (0 : Int32)), .val (.int (0 : Int32))]) rfl q) ?_
      show Go p e below _ (T33.setTop (mkF m 219 #[.val (.int p1), .val (.int p2), .val (.int p3), .val (.int p4), .val (.int v1), .val (.int v2), .val (.int v3), .val (.int z8), .val (.ref b9), .val (.int (2 : Int32)), .val (.int v40), .val (.int v41), .val (.int (0 : Int32)), .val (.int (0 : Int32))] []))
      refine go (fun _ q => XS.goto X33.here hx rfl (pc0 := 219) (pc' := 324) rfl (hb hby at_219) (by decide) (by decide) q) ?_
      show Go p e below _ (T33.setTop (mkF m 324 #[.val (.int p1), .val (.int p2), .val (.int p3), .val (.int p4), .val (.int v1), .val (.int v2), .val (.int v3), .val (.int z8), .val (.ref b9), .val (.int (2 : Int32)), .val (.int v40), .val (.int v41), .val (.int (0 : Int32)), .val (.int (0 : Int32))] []))
      refine go (fun _ q => XS.aload X33.here hx rfl (hb hby at_324) rfl rfl q) ?_
      show Go p e below _ (T33.setTop (mkF m 326 #[.val (.int p1), .val (.int p2), .val (.int p3), .val (.int p4), .val (.int v1), .val (.int v2), .val (.int v3), .val (.int z8), .val (.ref b9), .val (.int (2 : Int32)), .val (.int v40), .val (.int v41), .val (.int (0 : Int32)), .val (.int (0 : Int32))] [(.ref b9)]))
      refine go (fun _ q => XS.iload X33.here hx rfl (hb hby at_326) rfl q) ?_
      show Go p e below _ (T33.setTop (mkF m 328 #[.val (.int p1), .val (.int p2), .val (.int p3), .val (.int p4), .val (.int v1), .val (.int v2), .val (.int v3), .val (.int z8), .val (.ref b9), .val (.int (2 : Int32)), .val (.int v40), .val (.int v41), .val (.int (0 : Int32)), .val (.int (0 : Int32))] [(.int v2), (.ref b9)]))
      refine go (fun _ q => XS.iload X33.here hx rfl (hb hby at_328) rfl q) ?_
      show Go p e below _ (T33.setTop (mkF m 330 #[.val (.int p1), .val (.int p2), .val (.int p3), .val (.int p4), .val (.int v1), .val (.int v2), .val (.int v3), .val (.int z8), .val (.ref b9), .val (.int (2 : Int32)), .val (.int v40), .val (.int v41), .val (.int (0 : Int32)), .val (.int (0 : Int32))] [(.int v40), (.int v2), (.ref b9)]))
      refine go (fun _ q => XS.i2b X33.here hx rfl (hb hby at_330) rfl q) ?_
      show Go p e below _ (T33.setTop (mkF m 331 #[.val (.int p1), .val (.int p2), .val (.int p3), .val (.int p4), .val (.int v1), .val (.int v2), .val (.int v3), .val (.int z8), .val (.ref b9), .val (.int (2 : Int32)), .val (.int v40), .val (.int v41), .val (.int (0 : Int32)), .val (.int (0 : Int32))] [(.int ((v40).toInt8.toInt32)), (.int v2), (.ref b9)]))
      obtain ⟨cl42, Ar42, q42, S42, Ng42, H42, G42⟩ := id V_b9_33
      obtain ⟨T43, h43, X43, e43, W43, st43⟩ := stB X33 hx hZ e33 Ar42 (j := v2) (inb_of S42 (own_j0 own_h4).1) (g := (mkF m 331 #[.val (.int p1), .val (.int p2), .val (.int p3), .val (.int p4), .val (.int v1), .val (.int v2), .val (.int v3), .val (.int z8), .val (.ref b9), .val (.int (2 : Int32)), .val (.int v40), .val (.int v41), .val (.int (0 : Int32)), .val (.int (0 : Int32))] [(.int ((v40).toInt8.toInt32)), (.int v2), (.ref b9)])) rfl rfl (hb hby at_331)
      refine go st43 ?_
      have V_b9_43 : Arv Z h43 b9 k9 .byte (8 : Int32) (([(.int (nar .byte v10)), (.int (nar .byte v13)), (.int (nar .byte v16)), (.int (nar .byte v19)), (.int (nar .byte v22)), (.int (nar .byte v25)), (.int (nar .byte v28)), (.int (nar .byte v31))] : List Value).set (v2).toNatClampNeg (.int (nar .byte ((v40).toInt8.toInt32)))) (.int (0 : Int32)) := Arv.set Ar42 q42 S42 Ng42 H42 G42 (fits_nar_byte _) W43 (v2).toNatClampNeg rfl (by simpa using (own_j0 own_h4).2)
      have N43 := Fr.snoc X43 N33 g_b9
      have Z43 : n0 ≤ h43.size := Nat.le_trans Z33 (Nat.le_of_eq W43.size.symm)
      show Go p e below _ (T43.setTop (mkF m 332 #[.val (.int p1), .val (.int p2), .val (.int p3), .val (.int p4), .val (.int v1), .val (.int v2), .val (.int v3), .val (.int z8), .val (.ref b9), .val (.int (2 : Int32)), .val (.int v40), .val (.int v41), .val (.int (0 : Int32)), .val (.int (0 : Int32))] []))
      refine go (fun _ q => XS.iload X43.here hx rfl (hb hby at_332) rfl q) ?_
      show Go p e below _ (T43.setTop (mkF m 334 #[.val (.int p1), .val (.int p2), .val (.int p3), .val (.int p4), .val (.int v1), .val (.int v2), .val (.int v3), .val (.int z8), .val (.ref b9), .val (.int (2 : Int32)), .val (.int v40), .val (.int v41), .val (.int (0 : Int32)), .val (.int (0 : Int32))] [(.int (2 : Int32))]))
      refine go (fun _ q => XS.iconst X43.here hx rfl (hb hby at_334) q) ?_
      show Go p e below _ (T43.setTop (mkF m 335 #[.val (.int p1), .val (.int p2), .val (.int p3), .val (.int p4), .val (.int v1), .val (.int v2), .val (.int v3), .val (.int z8), .val (.ref b9), .val (.int (2 : Int32)), .val (.int v40), .val (.int v41), .val (.int (0 : Int32)), .val (.int (0 : Int32))] [(.int (1 : Int32)), (.int (2 : Int32))]))
      refine go (fun _ q => XS.icmpNo X43.here hx rfl (hb hby at_335) rfl (tlt (by decide : (1 : Int32) < (2 : Int32))).2.2.2 q) ?_
      show Go p e below _ (T43.setTop (mkF m 338 #[.val (.int p1), .val (.int p2), .val (.int p3), .val (.int p4), .val (.int v1), .val (.int v2), .val (.int v3), .val (.int z8), .val (.ref b9), .val (.int (2 : Int32)), .val (.int v40), .val (.int v41), .val (.int (0 : Int32)), .val (.int (0 : Int32))] []))
      refine go (fun _ q => XS.aload X43.here hx rfl (hb hby at_338) rfl rfl q) ?_
      show Go p e below _ (T43.setTop (mkF m 340 #[.val (.int p1), .val (.int p2), .val (.int p3), .val (.int p4), .val (.int v1), .val (.int v2), .val (.int v3), .val (.int z8), .val (.ref b9), .val (.int (2 : Int32)), .val (.int v40), .val (.int v41), .val (.int (0 : Int32)), .val (.int (0 : Int32))] [(.ref b9)]))
      refine go (fun _ q => XS.iload X43.here hx rfl (hb hby at_340) rfl q) ?_
      show Go p e below _ (T43.setTop (mkF m 342 #[.val (.int p1), .val (.int p2), .val (.int p3), .val (.int p4), .val (.int v1), .val (.int v2), .val (.int v3), .val (.int z8), .val (.ref b9), .val (.int (2 : Int32)), .val (.int v40), .val (.int v41), .val (.int (0 : Int32)), .val (.int (0 : Int32))] [(.int v2), (.ref b9)]))
      refine go (fun _ q => XS.iconst X43.here hx rfl (hb hby at_342) q) ?_
      show Go p e below _ (T43.setTop (mkF m 343 #[.val (.int p1), .val (.int p2), .val (.int p3), .val (.int p4), .val (.int v1), .val (.int v2), .val (.int v3), .val (.int z8), .val (.ref b9), .val (.int (2 : Int32)), .val (.int v40), .val (.int v41), .val (.int (0 : Int32)), .val (.int (0 : Int32))] [(.int (1 : Int32)), (.int v2), (.ref b9)]))
      refine go (fun _ q => XS.iadd X43.here hx rfl (hb hby at_343) rfl q) ?_
      show Go p e below _ (T43.setTop (mkF m 344 #[.val (.int p1), .val (.int p2), .val (.int p3), .val (.int p4), .val (.int v1), .val (.int v2), .val (.int v3), .val (.int z8), .val (.ref b9), .val (.int (2 : Int32)), .val (.int v40), .val (.int v41), .val (.int (0 : Int32)), .val (.int (0 : Int32))] [(.int (v2 + (1 : Int32))), (.ref b9)]))
      refine go (fun _ q => XS.iload X43.here hx rfl (hb hby at_344) rfl q) ?_
      show Go p e below _ (T43.setTop (mkF m 346 #[.val (.int p1), .val (.int p2), .val (.int p3), .val (.int p4), .val (.int v1), .val (.int v2), .val (.int v3), .val (.int z8), .val (.ref b9), .val (.int (2 : Int32)), .val (.int v40), .val (.int v41), .val (.int (0 : Int32)), .val (.int (0 : Int32))] [(.int v41), (.int (v2 + (1 : Int32))), (.ref b9)]))
      refine go (fun _ q => XS.i2b X43.here hx rfl (hb hby at_346) rfl q) ?_
      show Go p e below _ (T43.setTop (mkF m 347 #[.val (.int p1), .val (.int p2), .val (.int p3), .val (.int p4), .val (.int v1), .val (.int v2), .val (.int v3), .val (.int z8), .val (.ref b9), .val (.int (2 : Int32)), .val (.int v40), .val (.int v41), .val (.int (0 : Int32)), .val (.int (0 : Int32))] [(.int ((v41).toInt8.toInt32)), (.int (v2 + (1 : Int32))), (.ref b9)]))
      obtain ⟨cl44, Ar44, q44, S44, Ng44, H44, G44⟩ := id V_b9_43
      obtain ⟨T45, h45, X45, e45, W45, st45⟩ := stB X43 hx hZ e43 Ar44 (j := (v2 + (1 : Int32))) (inb_of S44 (own_j1 own_h4).1) (g := (mkF m 347 #[.val (.int p1), .val (.int p2), .val (.int p3), .val (.int p4), .val (.int v1), .val (.int v2), .val (.int v3), .val (.int z8), .val (.ref b9), .val (.int (2 : Int32)), .val (.int v40), .val (.int v41), .val (.int (0 : Int32)), .val (.int (0 : Int32))] [(.int ((v41).toInt8.toInt32)), (.int (v2 + (1 : Int32))), (.ref b9)])) rfl rfl (hb hby at_347)
      refine go st45 ?_
      have V_b9_45 : Arv Z h45 b9 k9 .byte (8 : Int32) ((([(.int (nar .byte v10)), (.int (nar .byte v13)), (.int (nar .byte v16)), (.int (nar .byte v19)), (.int (nar .byte v22)), (.int (nar .byte v25)), (.int (nar .byte v28)), (.int (nar .byte v31))] : List Value).set (v2).toNatClampNeg (.int (nar .byte ((v40).toInt8.toInt32)))).set ((v2 + (1 : Int32))).toNatClampNeg (.int (nar .byte ((v41).toInt8.toInt32)))) (.int (0 : Int32)) := Arv.set Ar44 q44 S44 Ng44 H44 G44 (fits_nar_byte _) W45 ((v2 + (1 : Int32))).toNatClampNeg rfl (by simpa using (own_j1 own_h4).2)
      have N45 := Fr.snoc X45 N43 g_b9
      have Z45 : n0 ≤ h45.size := Nat.le_trans Z43 (Nat.le_of_eq W45.size.symm)
      show Go p e below _ (T45.setTop (mkF m 348 #[.val (.int p1), .val (.int p2), .val (.int p3), .val (.int p4), .val (.int v1), .val (.int v2), .val (.int v3), .val (.int z8), .val (.ref b9), .val (.int (2 : Int32)), .val (.int v40), .val (.int v41), .val (.int (0 : Int32)), .val (.int (0 : Int32))] []))
      refine go (fun _ q => XS.iload X45.here hx rfl (hb hby at_348) rfl q) ?_
      show Go p e below _ (T45.setTop (mkF m 350 #[.val (.int p1), .val (.int p2), .val (.int p3), .val (.int p4), .val (.int v1), .val (.int v2), .val (.int v3), .val (.int z8), .val (.ref b9), .val (.int (2 : Int32)), .val (.int v40), .val (.int v41), .val (.int (0 : Int32)), .val (.int (0 : Int32))] [(.int (2 : Int32))]))
      refine go (fun _ q => XS.iconst X45.here hx rfl (hb hby at_350) q) ?_
      show Go p e below _ (T45.setTop (mkF m 351 #[.val (.int p1), .val (.int p2), .val (.int p3), .val (.int p4), .val (.int v1), .val (.int v2), .val (.int v3), .val (.int z8), .val (.ref b9), .val (.int (2 : Int32)), .val (.int v40), .val (.int v41), .val (.int (0 : Int32)), .val (.int (0 : Int32))] [(.int (2 : Int32)), (.int (2 : Int32))]))
      refine go (fun _ q => XS.icmpYes X45.here hx rfl (pc0 := 351) (pc' := 364) rfl (hb hby at_351) rfl (flt (by decide : ¬ ((2 : Int32) < (2 : Int32)))).2.2.2 (by decide) (by decide) q) ?_
      show Go p e below _ (T45.setTop (mkF m 364 #[.val (.int p1), .val (.int p2), .val (.int p3), .val (.int p4), .val (.int v1), .val (.int v2), .val (.int v3), .val (.int z8), .val (.ref b9), .val (.int (2 : Int32)), .val (.int v40), .val (.int v41), .val (.int (0 : Int32)), .val (.int (0 : Int32))] []))
      refine go (fun _ q => XS.iload X45.here hx rfl (hb hby at_364) rfl q) ?_
      show Go p e below _ (T45.setTop (mkF m 366 #[.val (.int p1), .val (.int p2), .val (.int p3), .val (.int p4), .val (.int v1), .val (.int v2), .val (.int v3), .val (.int z8), .val (.ref b9), .val (.int (2 : Int32)), .val (.int v40), .val (.int v41), .val (.int (0 : Int32)), .val (.int (0 : Int32))] [(.int (2 : Int32))]))
      refine go (fun _ q => XS.iconst X45.here hx rfl (hb hby at_366) q) ?_
      show Go p e below _ (T45.setTop (mkF m 367 #[.val (.int p1), .val (.int p2), .val (.int p3), .val (.int p4), .val (.int v1), .val (.int v2), .val (.int v3), .val (.int z8), .val (.ref b9), .val (.int (2 : Int32)), .val (.int v40), .val (.int v41), .val (.int (0 : Int32)), .val (.int (0 : Int32))] [(.int (3 : Int32)), (.int (2 : Int32))]))
      refine go (fun _ q => XS.icmpYes X45.here hx rfl (pc0 := 367) (pc' := 380) rfl (hb hby at_367) rfl (flt (by decide : ¬ ((3 : Int32) < (2 : Int32)))).2.2.2 (by decide) (by decide) q) ?_
      show Go p e below _ (T45.setTop (mkF m 380 #[.val (.int p1), .val (.int p2), .val (.int p3), .val (.int p4), .val (.int v1), .val (.int v2), .val (.int v3), .val (.int z8), .val (.ref b9), .val (.int (2 : Int32)), .val (.int v40), .val (.int v41), .val (.int (0 : Int32)), .val (.int (0 : Int32))] []))
      refine go (fun _ q => XS.aload X45.here hx rfl (hb hby at_380) rfl rfl q) ?_
      show Go p e below _ (T45.setTop (mkF m 382 #[.val (.int p1), .val (.int p2), .val (.int p3), .val (.int p4), .val (.int v1), .val (.int v2), .val (.int v3), .val (.int z8), .val (.ref b9), .val (.int (2 : Int32)), .val (.int v40), .val (.int v41), .val (.int (0 : Int32)), .val (.int (0 : Int32))] [(.ref b9)]))
      refine go (fun _ q => XS.iload X45.here hx rfl (hb hby at_382) rfl q) ?_
      show Go p e below _ (T45.setTop (mkF m 384 #[.val (.int p1), .val (.int p2), .val (.int p3), .val (.int p4), .val (.int v1), .val (.int v2), .val (.int v3), .val (.int z8), .val (.ref b9), .val (.int (2 : Int32)), .val (.int v40), .val (.int v41), .val (.int (0 : Int32)), .val (.int (0 : Int32))] [(.int v2), (.ref b9)]))
      refine go (fun _ q => XS.iload X45.here hx rfl (hb hby at_384) rfl q) ?_
      show Go p e below _ (T45.setTop (mkF m 386 #[.val (.int p1), .val (.int p2), .val (.int p3), .val (.int p4), .val (.int v1), .val (.int v2), .val (.int v3), .val (.int z8), .val (.ref b9), .val (.int (2 : Int32)), .val (.int v40), .val (.int v41), .val (.int (0 : Int32)), .val (.int (0 : Int32))] [(.int (2 : Int32)), (.int v2), (.ref b9)]))
      obtain ⟨clx, Arx, qx, Sx, Ngx, Hx, Gx⟩ := id V_b9_45
      refine own_callS X45 hx hZ hown e45 (hw _ (List.mem_of_getElem? (i := 4) rfl)) (hw _ (List.mem_of_getElem? (i := 5) rfl)) (hw _ (List.mem_of_getElem? (i := 6) rfl)) (hw _ (List.mem_of_getElem? (i := 7) rfl)) (rm1_2 l Z a0 hw [] b9 v2 h45 n0 own_h4 Arx Sx (by rcases own_h4 with rfl | rfl | rfl | rfl <;> exact Hx _ (by rw [Sx]; decide)) (by rcases own_h4 with rfl | rfl | rfl | rfl <;> exact Hx _ (by rw [Sx]; decide))) (by decide) (by decide) (W := 0) (by decide) (by decide) (by decide) (g := (mkF m 386 #[.val (.int p1), .val (.int p2), .val (.int p3), .val (.int p4), .val (.int v1), .val (.int v2), .val (.int v3), .val (.int z8), .val (.ref b9), .val (.int (2 : Int32)), .val (.int v40), .val (.int v41), .val (.int (0 : Int32)), .val (.int (0 : Int32))] [(.int (2 : Int32)), (.int v2), (.ref b9)])) rfl (by rw [hml]; rfl) (argsL := [(.ref b9), (.int v2), (.int (2 : Int32))]) (rest := []) rfl rfl (lenOf pd_0_0 rfl) (by show 2 * 0 + _ ≤ _; exact Nat.le_of_eq rfl) (hb hby at_386) ?_
      rintro _ T46 L46 X46 ⟨rfl, N46q, e46⟩
      have N46 := Fr.app N45 N46q
      show Go p e below _ (T46.setTop (mkF m 389 #[.val (.int p1), .val (.int p2), .val (.int p3), .val (.int p4), .val (.int v1), .val (.int v2), .val (.int v3), .val (.int z8), .val (.ref b9), .val (.int (2 : Int32)), .val (.int v40), .val (.int v41), .val (.int (0 : Int32)), .val (.int (0 : Int32))] [(.int (g2 (nar .byte ((v40).toInt8.toInt32)) (nar .byte ((v41).toInt8.toInt32))))]))
      refine go (fun _ q => XS.iload X46.here hx rfl (hb hby at_389) rfl q) ?_
      show Go p e below _ (T46.setTop (mkF m 391 #[.val (.int p1), .val (.int p2), .val (.int p3), .val (.int p4), .val (.int v1), .val (.int v2), .val (.int v3), .val (.int z8), .val (.ref b9), .val (.int (2 : Int32)), .val (.int v40), .val (.int v41), .val (.int (0 : Int32)), .val (.int (0 : Int32))] [(.int z8), (.int (g2 (nar .byte ((v40).toInt8.toInt32)) (nar .byte ((v41).toInt8.toInt32))))]))
      have hk47 : (g2 (nar .byte ((v40).toInt8.toInt32)) (nar .byte ((v41).toInt8.toInt32))) = z8 := own_main2 own_r hc34 hc39 hv40 hv41
      refine go (fun _ q => XS.icmpNo X46.here hx rfl (hb hby at_391) rfl (teq hk47).2 q) ?_
      show Go p e below _ (T46.setTop (mkF m 394 #[.val (.int p1), .val (.int p2), .val (.int p3), .val (.int p4), .val (.int v1), .val (.int v2), .val (.int v3), .val (.int z8), .val (.ref b9), .val (.int (2 : Int32)), .val (.int v40), .val (.int v41), .val (.int (0 : Int32)), .val (.int (0 : Int32))] []))
      refine go (fun _ q => XS.iconst X46.here hx rfl (hb hby at_394) q) ?_
      show Go p e below _ (T46.setTop (mkF m 395 #[.val (.int p1), .val (.int p2), .val (.int p3), .val (.int p4), .val (.int v1), .val (.int v2), .val (.int v3), .val (.int z8), .val (.ref b9), .val (.int (2 : Int32)), .val (.int v40), .val (.int v41), .val (.int (0 : Int32)), .val (.int (0 : Int32))] [(.int (1 : Int32))]))
      refine go (fun _ q => XS.goto X46.here hx rfl (pc0 := 395) (pc' := 399) rfl (hb hby at_395) (by decide) (by decide) q) ?_
      show Go p e below _ (T46.setTop (mkF m 399 #[.val (.int p1), .val (.int p2), .val (.int p3), .val (.int p4), .val (.int v1), .val (.int v2), .val (.int v3), .val (.int z8), .val (.ref b9), .val (.int (2 : Int32)), .val (.int v40), .val (.int v41), .val (.int (0 : Int32)), .val (.int (0 : Int32))] [(.int (1 : Int32))]))
      exact own_retZ (z' := (1 : Int32)) X46 hx hlk hret (hb hby at_399) (by decide) (by decide) rfl ⟨rfl, N46⟩
    · refine go (fun _ q => XS.icmpYes X33.here hx rfl (pc0 := 191) (pc' := 222) rfl (hb hby at_191) rfl (flt hc39).2.1 (by decide) (by decide) q) ?_
      show Go p e below _ (T33.setTop (mkF m 222 #[.val (.int p1), .val (.int p2), .val (.int p3), .val (.int p4), .val (.int v1), .val (.int v2), .val (.int v3), .val (.int z8), .val (.ref b9), .unset, .unset, .val (.int (0 : Int32)), .val (.int (0 : Int32)), .val (.int (0 : Int32))] []))
      refine go (fun _ q => XS.iload X33.here hx rfl (hb hby at_222) rfl q) ?_
      show Go p e below _ (T33.setTop (mkF m 224 #[.val (.int p1), .val (.int p2), .val (.int p3), .val (.int p4), .val (.int v1), .val (.int v2), .val (.int v3), .val (.int z8), .val (.ref b9), .unset, .unset, .val (.int (0 : Int32)), .val (.int (0 : Int32)), .val (.int (0 : Int32))] [(.int z8)]))
      refine go (X33.ldcInt hx hown (mvT hZ (hw _ (List.mem_of_getElem? (i := 1) rfl))) (g := (mkF m 224 #[.val (.int p1), .val (.int p2), .val (.int p3), .val (.int p4), .val (.int v1), .val (.int v2), .val (.int v3), .val (.int z8), .val (.ref b9), .unset, .unset, .val (.int (0 : Int32)), .val (.int (0 : Int32)), .val (.int (0 : Int32))] [(.int z8)])) rfl (hb hby at_224)) ?_
      show Go p e below _ (T33.setTop (mkF m 226 #[.val (.int p1), .val (.int p2), .val (.int p3), .val (.int p4), .val (.int v1), .val (.int v2), .val (.int v3), .val (.int z8), .val (.ref b9), .unset, .unset, .val (.int (0 : Int32)), .val (.int (0 : Int32)), .val (.int (0 : Int32))] [(.int (65536 : Int32)), (.int z8)]))
      by_cases hc48 : z8 < (65536 : Int32)
      · refine go (fun _ q => XS.icmpNo X33.here hx rfl (hb hby at_226) rfl (tlt hc48).2.1 q) ?_
        show Go p e below _ (T33.setTop (mkF m 229 #[.val (.int p1), .val (.int p2), .val (.int p3), .val (.int p4), .val (.int v1), .val (.int v2), .val (.int v3), .val (.int z8), .val (.ref b9), .unset, .unset, .val (.int (0 : Int32)), .val (.int (0 : Int32)), .val (.int (0 : Int32))] []))
        refine go (fun _ q => XS.iconst X33.here hx rfl (hb hby at_229) q) ?_
        show Go p e below _ (T33.setTop (mkF m 230 #[.val (.int p1), .val (.int p2), .val (.int p3), .val (.int p4), .val (.int v1), .val (.int v2), .val (.int v3), .val (.int z8), .val (.ref b9), .unset, .unset, .val (.int (0 : Int32)), .val (.int (0 : Int32)), .val (.int (0 : Int32))] [(.int (3 : Int32))]))
        refine go (fun _ q => XS.istore X33.here hx rfl (hb hby at_230) rfl (l' := #[.val (.int p1), .val (.int p2), .val (.int p3), .val (.int p4), .val (.int v1), .val (.int v2), .val (.int v3), .val (.int z8), .val (.ref b9), .val (.int (3 : Int32)), .unset, .val (.int (0 : Int32)), .val (.int (0 : Int32)), .val (.int (0 : Int32))]) rfl q) ?_
        show Go p e below _ (T33.setTop (mkF m 232 #[.val (.int p1), .val (.int p2), .val (.int p3), .val (.int p4), .val (.int v1), .val (.int v2), .val (.int v3), .val (.int z8), .val (.ref b9), .val (.int (3 : Int32)), .unset, .val (.int (0 : Int32)), .val (.int (0 : Int32)), .val (.int (0 : Int32))] []))
        refine go (fun _ q => XS.sipush X33.here hx rfl (hb hby at_232) q) ?_
        show Go p e below _ (T33.setTop (mkF m 235 #[.val (.int p1), .val (.int p2), .val (.int p3), .val (.int p4), .val (.int v1), .val (.int v2), .val (.int v3), .val (.int z8), .val (.ref b9), .val (.int (3 : Int32)), .unset, .val (.int (0 : Int32)), .val (.int (0 : Int32)), .val (.int (0 : Int32))] [(.int (224 : Int32))]))
        refine go (fun _ q => XS.iload X33.here hx rfl (hb hby at_235) rfl q) ?_
        show Go p e below _ (T33.setTop (mkF m 237 #[.val (.int p1), .val (.int p2), .val (.int p3), .val (.int p4), .val (.int v1), .val (.int v2), .val (.int v3), .val (.int z8), .val (.ref b9), .val (.int (3 : Int32)), .unset, .val (.int (0 : Int32)), .val (.int (0 : Int32)), .val (.int (0 : Int32))] [(.int z8), (.int (224 : Int32))]))
        refine go (fun _ q => XS.bipush X33.here hx rfl (hb hby at_237) q) ?_
        show Go p e below _ (T33.setTop (mkF m 239 #[.val (.int p1), .val (.int p2), .val (.int p3), .val (.int p4), .val (.int v1), .val (.int v2), .val (.int v3), .val (.int z8), .val (.ref b9), .val (.int (3 : Int32)), .unset, .val (.int (0 : Int32)), .val (.int (0 : Int32)), .val (.int (0 : Int32))] [(.int (12 : Int32)), (.int z8), (.int (224 : Int32))]))
        refine go (fun _ q => XS.ishr X33.here hx rfl (hb hby at_239) rfl q) ?_
        show Go p e below _ (T33.setTop (mkF m 240 #[.val (.int p1), .val (.int p2), .val (.int p3), .val (.int p4), .val (.int v1), .val (.int v2), .val (.int v3), .val (.int z8), .val (.ref b9), .val (.int (3 : Int32)), .unset, .val (.int (0 : Int32)), .val (.int (0 : Int32)), .val (.int (0 : Int32))] [(.int ((z8 >>> ((12 : Int32) &&& 31)))), (.int (224 : Int32))]))
        refine go (fun _ q => XS.ior X33.here hx rfl (hb hby at_240) rfl q) ?_
        show Go p e below _ (T33.setTop (mkF m 241 #[.val (.int p1), .val (.int p2), .val (.int p3), .val (.int p4), .val (.int v1), .val (.int v2), .val (.int v3), .val (.int z8), .val (.ref b9), .val (.int (3 : Int32)), .unset, .val (.int (0 : Int32)), .val (.int (0 : Int32)), .val (.int (0 : Int32))] [(.int ((224 : Int32) ||| ((z8 >>> ((12 : Int32) &&& 31)))))]))
        generalize hv49 : ((224 : Int32) ||| ((z8 >>> ((12 : Int32) &&& 31)))) = v49
        show Go p e below _ (T33.setTop (mkF m 241 #[.val (.int p1), .val (.int p2), .val (.int p3), .val (.int p4), .val (.int v1), .val (.int v2), .val (.int v3), .val (.int z8), .val (.ref b9), .val (.int (3 : Int32)), .unset, .val (.int (0 : Int32)), .val (.int (0 : Int32)), .val (.int (0 : Int32))] [(.int v49)]))
        refine go (fun _ q => XS.istore X33.here hx rfl (hb hby at_241) rfl (l' := #[.val (.int p1), .val (.int p2), .val (.int p3), .val (.int p4), .val (.int v1), .val (.int v2), .val (.int v3), .val (.int z8), .val (.ref b9), .val (.int (3 : Int32)), .val (.int v49), .val (.int (0 : Int32)), .val (.int (0 : Int32)), .val (.int (0 : Int32))]) rfl q) ?_
        show Go p e below _ (T33.setTop (mkF m 243 #[.val (.int p1), .val (.int p2), .val (.int p3), .val (.int p4), .val (.int v1), .val (.int v2), .val (.int v3), .val (.int z8), .val (.ref b9), .val (.int (3 : Int32)), .val (.int v49), .val (.int (0 : Int32)), .val (.int (0 : Int32)), .val (.int (0 : Int32))] []))
        refine go (fun _ q => XS.sipush X33.here hx rfl (hb hby at_243) q) ?_
        show Go p e below _ (T33.setTop (mkF m 246 #[.val (.int p1), .val (.int p2), .val (.int p3), .val (.int p4), .val (.int v1), .val (.int v2), .val (.int v3), .val (.int z8), .val (.ref b9), .val (.int (3 : Int32)), .val (.int v49), .val (.int (0 : Int32)), .val (.int (0 : Int32)), .val (.int (0 : Int32))] [(.int (128 : Int32))]))
        refine go (fun _ q => XS.iload X33.here hx rfl (hb hby at_246) rfl q) ?_
        show Go p e below _ (T33.setTop (mkF m 248 #[.val (.int p1), .val (.int p2), .val (.int p3), .val (.int p4), .val (.int v1), .val (.int v2), .val (.int v3), .val (.int z8), .val (.ref b9), .val (.int (3 : Int32)), .val (.int v49), .val (.int (0 : Int32)), .val (.int (0 : Int32)), .val (.int (0 : Int32))] [(.int z8), (.int (128 : Int32))]))
        refine go (fun _ q => XS.bipush X33.here hx rfl (hb hby at_248) q) ?_
        show Go p e below _ (T33.setTop (mkF m 250 #[.val (.int p1), .val (.int p2), .val (.int p3), .val (.int p4), .val (.int v1), .val (.int v2), .val (.int v3), .val (.int z8), .val (.ref b9), .val (.int (3 : Int32)), .val (.int v49), .val (.int (0 : Int32)), .val (.int (0 : Int32)), .val (.int (0 : Int32))] [(.int (6 : Int32)), (.int z8), (.int (128 : Int32))]))
        refine go (fun _ q => XS.ishr X33.here hx rfl (hb hby at_250) rfl q) ?_
        show Go p e below _ (T33.setTop (mkF m 251 #[.val (.int p1), .val (.int p2), .val (.int p3), .val (.int p4), .val (.int v1), .val (.int v2), .val (.int v3), .val (.int z8), .val (.ref b9), .val (.int (3 : Int32)), .val (.int v49), .val (.int (0 : Int32)), .val (.int (0 : Int32)), .val (.int (0 : Int32))] [(.int ((z8 >>> ((6 : Int32) &&& 31)))), (.int (128 : Int32))]))
        refine go (fun _ q => XS.bipush X33.here hx rfl (hb hby at_251) q) ?_
        show Go p e below _ (T33.setTop (mkF m 253 #[.val (.int p1), .val (.int p2), .val (.int p3), .val (.int p4), .val (.int v1), .val (.int v2), .val (.int v3), .val (.int z8), .val (.ref b9), .val (.int (3 : Int32)), .val (.int v49), .val (.int (0 : Int32)), .val (.int (0 : Int32)), .val (.int (0 : Int32))] [(.int (63 : Int32)), (.int ((z8 >>> ((6 : Int32) &&& 31)))), (.int (128 : Int32))]))
        refine go (fun _ q => XS.iand X33.here hx rfl (hb hby at_253) rfl q) ?_
        show Go p e below _ (T33.setTop (mkF m 254 #[.val (.int p1), .val (.int p2), .val (.int p3), .val (.int p4), .val (.int v1), .val (.int v2), .val (.int v3), .val (.int z8), .val (.ref b9), .val (.int (3 : Int32)), .val (.int v49), .val (.int (0 : Int32)), .val (.int (0 : Int32)), .val (.int (0 : Int32))] [(.int (((z8 >>> ((6 : Int32) &&& 31))) &&& (63 : Int32))), (.int (128 : Int32))]))
        refine go (fun _ q => XS.ior X33.here hx rfl (hb hby at_254) rfl q) ?_
        show Go p e below _ (T33.setTop (mkF m 255 #[.val (.int p1), .val (.int p2), .val (.int p3), .val (.int p4), .val (.int v1), .val (.int v2), .val (.int v3), .val (.int z8), .val (.ref b9), .val (.int (3 : Int32)), .val (.int v49), .val (.int (0 : Int32)), .val (.int (0 : Int32)), .val (.int (0 : Int32))] [(.int ((128 : Int32) ||| (((z8 >>> ((6 : Int32) &&& 31))) &&& (63 : Int32))))]))
        generalize hv50 : ((128 : Int32) ||| (((z8 >>> ((6 : Int32) &&& 31))) &&& (63 : Int32))) = v50
        show Go p e below _ (T33.setTop (mkF m 255 #[.val (.int p1), .val (.int p2), .val (.int p3), .val (.int p4), .val (.int v1), .val (.int v2), .val (.int v3), .val (.int z8), .val (.ref b9), .val (.int (3 : Int32)), .val (.int v49), .val (.int (0 : Int32)), .val (.int (0 : Int32)), .val (.int (0 : Int32))] [(.int v50)]))
        refine go (fun _ q => XS.istore X33.here hx rfl (hb hby at_255) rfl (l' := #[.val (.int p1), .val (.int p2), .val (.int p3), .val (.int p4), .val (.int v1), .val (.int v2), .val (.int v3), .val (.int z8), .val (.ref b9), .val (.int (3 : Int32)), .val (.int v49), .val (.int v50), .val (.int (0 : Int32)), .val (.int (0 : Int32))]) rfl q) ?_
        show Go p e below _ (T33.setTop (mkF m 257 #[.val (.int p1), .val (.int p2), .val (.int p3), .val (.int p4), .val (.int v1), .val (.int v2), .val (.int v3), .val (.int z8), .val (.ref b9), .val (.int (3 : Int32)), .val (.int v49), .val (.int v50), .val (.int (0 : Int32)), .val (.int (0 : Int32))] []))
        refine go (fun _ q => XS.sipush X33.here hx rfl (hb hby at_257) q) ?_
        show Go p e below _ (T33.setTop (mkF m 260 #[.val (.int p1), .val (.int p2), .val (.int p3), .val (.int p4), .val (.int v1), .val (.int v2), .val (.int v3), .val (.int z8), .val (.ref b9), .val (.int (3 : Int32)), .val (.int v49), .val (.int v50), .val (.int (0 : Int32)), .val (.int (0 : Int32))] [(.int (128 : Int32))]))
        refine go (fun _ q => XS.iload X33.here hx rfl (hb hby at_260) rfl q) ?_
        show Go p e below _ (T33.setTop (mkF m 262 #[.val (.int p1), .val (.int p2), .val (.int p3), .val (.int p4), .val (.int v1), .val (.int v2), .val (.int v3), .val (.int z8), .val (.ref b9), .val (.int (3 : Int32)), .val (.int v49), .val (.int v50), .val (.int (0 : Int32)), .val (.int (0 : Int32))] [(.int z8), (.int (128 : Int32))]))
        refine go (fun _ q => XS.bipush X33.here hx rfl (hb hby at_262) q) ?_
        show Go p e below _ (T33.setTop (mkF m 264 #[.val (.int p1), .val (.int p2), .val (.int p3), .val (.int p4), .val (.int v1), .val (.int v2), .val (.int v3), .val (.int z8), .val (.ref b9), .val (.int (3 : Int32)), .val (.int v49), .val (.int v50), .val (.int (0 : Int32)), .val (.int (0 : Int32))] [(.int (63 : Int32)), (.int z8), (.int (128 : Int32))]))
        refine go (fun _ q => XS.iand X33.here hx rfl (hb hby at_264) rfl q) ?_
        show Go p e below _ (T33.setTop (mkF m 265 #[.val (.int p1), .val (.int p2), .val (.int p3), .val (.int p4), .val (.int v1), .val (.int v2), .val (.int v3), .val (.int z8), .val (.ref b9), .val (.int (3 : Int32)), .val (.int v49), .val (.int v50), .val (.int (0 : Int32)), .val (.int (0 : Int32))] [(.int (z8 &&& (63 : Int32))), (.int (128 : Int32))]))
        refine go (fun _ q => XS.ior X33.here hx rfl (hb hby at_265) rfl q) ?_
        show Go p e below _ (T33.setTop (mkF m 266 #[.val (.int p1), .val (.int p2), .val (.int p3), .val (.int p4), .val (.int v1), .val (.int v2), .val (.int v3), .val (.int z8), .val (.ref b9), .val (.int (3 : Int32)), .val (.int v49), .val (.int v50), .val (.int (0 : Int32)), .val (.int (0 : Int32))] [(.int ((128 : Int32) ||| (z8 &&& (63 : Int32))))]))
        generalize hv51 : ((128 : Int32) ||| (z8 &&& (63 : Int32))) = v51
        show Go p e below _ (T33.setTop (mkF m 266 #[.val (.int p1), .val (.int p2), .val (.int p3), .val (.int p4), .val (.int v1), .val (.int v2), .val (.int v3), .val (.int z8), .val (.ref b9), .val (.int (3 : Int32)), .val (.int v49), .val (.int v50), .val (.int (0 : Int32)), .val (.int (0 : Int32))] [(.int v51)]))
        refine go (fun _ q => XS.istore X33.here hx rfl (hb hby at_266) rfl (l' := #[.val (.int p1), .val (.int p2), .val (.int p3), .val (.int p4), .val (.int v1), .val (.int v2), .val (.int v3), .val (.int z8), .val (.ref b9), .val (.int (3 : Int32)), .val (.int v49), .val (.int v50), .val (.int v51), .val (.int (0 : Int32))]) rfl q) ?_
        show Go p e below _ (T33.setTop (mkF m 268 #[.val (.int p1), .val (.int p2), .val (.int p3), .val (.int p4), .val (.int v1), .val (.int v2), .val (.int v3), .val (.int z8), .val (.ref b9), .val (.int (3 : Int32)), .val (.int v49), .val (.int v50), .val (.int v51), .val (.int (0 : Int32))] []))
        refine go (fun _ q => XS.goto X33.here hx rfl (pc0 := 268) (pc' := 324) rfl (hb hby at_268) (by decide) (by decide) q) ?_
        show Go p e below _ (T33.setTop (mkF m 324 #[.val (.int p1), .val (.int p2), .val (.int p3), .val (.int p4), .val (.int v1), .val (.int v2), .val (.int v3), .val (.int z8), .val (.ref b9), .val (.int (3 : Int32)), .val (.int v49), .val (.int v50), .val (.int v51), .val (.int (0 : Int32))] []))
        refine go (fun _ q => XS.aload X33.here hx rfl (hb hby at_324) rfl rfl q) ?_
        show Go p e below _ (T33.setTop (mkF m 326 #[.val (.int p1), .val (.int p2), .val (.int p3), .val (.int p4), .val (.int v1), .val (.int v2), .val (.int v3), .val (.int z8), .val (.ref b9), .val (.int (3 : Int32)), .val (.int v49), .val (.int v50), .val (.int v51), .val (.int (0 : Int32))] [(.ref b9)]))
        refine go (fun _ q => XS.iload X33.here hx rfl (hb hby at_326) rfl q) ?_
        show Go p e below _ (T33.setTop (mkF m 328 #[.val (.int p1), .val (.int p2), .val (.int p3), .val (.int p4), .val (.int v1), .val (.int v2), .val (.int v3), .val (.int z8), .val (.ref b9), .val (.int (3 : Int32)), .val (.int v49), .val (.int v50), .val (.int v51), .val (.int (0 : Int32))] [(.int v2), (.ref b9)]))
        refine go (fun _ q => XS.iload X33.here hx rfl (hb hby at_328) rfl q) ?_
        show Go p e below _ (T33.setTop (mkF m 330 #[.val (.int p1), .val (.int p2), .val (.int p3), .val (.int p4), .val (.int v1), .val (.int v2), .val (.int v3), .val (.int z8), .val (.ref b9), .val (.int (3 : Int32)), .val (.int v49), .val (.int v50), .val (.int v51), .val (.int (0 : Int32))] [(.int v49), (.int v2), (.ref b9)]))
        refine go (fun _ q => XS.i2b X33.here hx rfl (hb hby at_330) rfl q) ?_
        show Go p e below _ (T33.setTop (mkF m 331 #[.val (.int p1), .val (.int p2), .val (.int p3), .val (.int p4), .val (.int v1), .val (.int v2), .val (.int v3), .val (.int z8), .val (.ref b9), .val (.int (3 : Int32)), .val (.int v49), .val (.int v50), .val (.int v51), .val (.int (0 : Int32))] [(.int ((v49).toInt8.toInt32)), (.int v2), (.ref b9)]))
        obtain ⟨cl52, Ar52, q52, S52, Ng52, H52, G52⟩ := id V_b9_33
        obtain ⟨T53, h53, X53, e53, W53, st53⟩ := stB X33 hx hZ e33 Ar52 (j := v2) (inb_of S52 (own_j0 own_h4).1) (g := (mkF m 331 #[.val (.int p1), .val (.int p2), .val (.int p3), .val (.int p4), .val (.int v1), .val (.int v2), .val (.int v3), .val (.int z8), .val (.ref b9), .val (.int (3 : Int32)), .val (.int v49), .val (.int v50), .val (.int v51), .val (.int (0 : Int32))] [(.int ((v49).toInt8.toInt32)), (.int v2), (.ref b9)])) rfl rfl (hb hby at_331)
        refine go st53 ?_
        have V_b9_53 : Arv Z h53 b9 k9 .byte (8 : Int32) (([(.int (nar .byte v10)), (.int (nar .byte v13)), (.int (nar .byte v16)), (.int (nar .byte v19)), (.int (nar .byte v22)), (.int (nar .byte v25)), (.int (nar .byte v28)), (.int (nar .byte v31))] : List Value).set (v2).toNatClampNeg (.int (nar .byte ((v49).toInt8.toInt32)))) (.int (0 : Int32)) := Arv.set Ar52 q52 S52 Ng52 H52 G52 (fits_nar_byte _) W53 (v2).toNatClampNeg rfl (by simpa using (own_j0 own_h4).2)
        have N53 := Fr.snoc X53 N33 g_b9
        have Z53 : n0 ≤ h53.size := Nat.le_trans Z33 (Nat.le_of_eq W53.size.symm)
        show Go p e below _ (T53.setTop (mkF m 332 #[.val (.int p1), .val (.int p2), .val (.int p3), .val (.int p4), .val (.int v1), .val (.int v2), .val (.int v3), .val (.int z8), .val (.ref b9), .val (.int (3 : Int32)), .val (.int v49), .val (.int v50), .val (.int v51), .val (.int (0 : Int32))] []))
        refine go (fun _ q => XS.iload X53.here hx rfl (hb hby at_332) rfl q) ?_
        show Go p e below _ (T53.setTop (mkF m 334 #[.val (.int p1), .val (.int p2), .val (.int p3), .val (.int p4), .val (.int v1), .val (.int v2), .val (.int v3), .val (.int z8), .val (.ref b9), .val (.int (3 : Int32)), .val (.int v49), .val (.int v50), .val (.int v51), .val (.int (0 : Int32))] [(.int (3 : Int32))]))
        refine go (fun _ q => XS.iconst X53.here hx rfl (hb hby at_334) q) ?_
        show Go p e below _ (T53.setTop (mkF m 335 #[.val (.int p1), .val (.int p2), .val (.int p3), .val (.int p4), .val (.int v1), .val (.int v2), .val (.int v3), .val (.int z8), .val (.ref b9), .val (.int (3 : Int32)), .val (.int v49), .val (.int v50), .val (.int v51), .val (.int (0 : Int32))] [(.int (1 : Int32)), (.int (3 : Int32))]))
        refine go (fun _ q => XS.icmpNo X53.here hx rfl (hb hby at_335) rfl (tlt (by decide : (1 : Int32) < (3 : Int32))).2.2.2 q) ?_
        show Go p e below _ (T53.setTop (mkF m 338 #[.val (.int p1), .val (.int p2), .val (.int p3), .val (.int p4), .val (.int v1), .val (.int v2), .val (.int v3), .val (.int z8), .val (.ref b9), .val (.int (3 : Int32)), .val (.int v49), .val (.int v50), .val (.int v51), .val (.int (0 : Int32))] []))
        refine go (fun _ q => XS.aload X53.here hx rfl (hb hby at_338) rfl rfl q) ?_
        show Go p e below _ (T53.setTop (mkF m 340 #[.val (.int p1), .val (.int p2), .val (.int p3), .val (.int p4), .val (.int v1), .val (.int v2), .val (.int v3), .val (.int z8), .val (.ref b9), .val (.int (3 : Int32)), .val (.int v49), .val (.int v50), .val (.int v51), .val (.int (0 : Int32))] [(.ref b9)]))
        refine go (fun _ q => XS.iload X53.here hx rfl (hb hby at_340) rfl q) ?_
        show Go p e below _ (T53.setTop (mkF m 342 #[.val (.int p1), .val (.int p2), .val (.int p3), .val (.int p4), .val (.int v1), .val (.int v2), .val (.int v3), .val (.int z8), .val (.ref b9), .val (.int (3 : Int32)), .val (.int v49), .val (.int v50), .val (.int v51), .val (.int (0 : Int32))] [(.int v2), (.ref b9)]))
        refine go (fun _ q => XS.iconst X53.here hx rfl (hb hby at_342) q) ?_
        show Go p e below _ (T53.setTop (mkF m 343 #[.val (.int p1), .val (.int p2), .val (.int p3), .val (.int p4), .val (.int v1), .val (.int v2), .val (.int v3), .val (.int z8), .val (.ref b9), .val (.int (3 : Int32)), .val (.int v49), .val (.int v50), .val (.int v51), .val (.int (0 : Int32))] [(.int (1 : Int32)), (.int v2), (.ref b9)]))
        refine go (fun _ q => XS.iadd X53.here hx rfl (hb hby at_343) rfl q) ?_
        show Go p e below _ (T53.setTop (mkF m 344 #[.val (.int p1), .val (.int p2), .val (.int p3), .val (.int p4), .val (.int v1), .val (.int v2), .val (.int v3), .val (.int z8), .val (.ref b9), .val (.int (3 : Int32)), .val (.int v49), .val (.int v50), .val (.int v51), .val (.int (0 : Int32))] [(.int (v2 + (1 : Int32))), (.ref b9)]))
        refine go (fun _ q => XS.iload X53.here hx rfl (hb hby at_344) rfl q) ?_
        show Go p e below _ (T53.setTop (mkF m 346 #[.val (.int p1), .val (.int p2), .val (.int p3), .val (.int p4), .val (.int v1), .val (.int v2), .val (.int v3), .val (.int z8), .val (.ref b9), .val (.int (3 : Int32)), .val (.int v49), .val (.int v50), .val (.int v51), .val (.int (0 : Int32))] [(.int v50), (.int (v2 + (1 : Int32))), (.ref b9)]))
        refine go (fun _ q => XS.i2b X53.here hx rfl (hb hby at_346) rfl q) ?_
        show Go p e below _ (T53.setTop (mkF m 347 #[.val (.int p1), .val (.int p2), .val (.int p3), .val (.int p4), .val (.int v1), .val (.int v2), .val (.int v3), .val (.int z8), .val (.ref b9), .val (.int (3 : Int32)), .val (.int v49), .val (.int v50), .val (.int v51), .val (.int (0 : Int32))] [(.int ((v50).toInt8.toInt32)), (.int (v2 + (1 : Int32))), (.ref b9)]))
        obtain ⟨cl54, Ar54, q54, S54, Ng54, H54, G54⟩ := id V_b9_53
        obtain ⟨T55, h55, X55, e55, W55, st55⟩ := stB X53 hx hZ e53 Ar54 (j := (v2 + (1 : Int32))) (inb_of S54 (own_j1 own_h4).1) (g := (mkF m 347 #[.val (.int p1), .val (.int p2), .val (.int p3), .val (.int p4), .val (.int v1), .val (.int v2), .val (.int v3), .val (.int z8), .val (.ref b9), .val (.int (3 : Int32)), .val (.int v49), .val (.int v50), .val (.int v51), .val (.int (0 : Int32))] [(.int ((v50).toInt8.toInt32)), (.int (v2 + (1 : Int32))), (.ref b9)])) rfl rfl (hb hby at_347)
        refine go st55 ?_
        have V_b9_55 : Arv Z h55 b9 k9 .byte (8 : Int32) ((([(.int (nar .byte v10)), (.int (nar .byte v13)), (.int (nar .byte v16)), (.int (nar .byte v19)), (.int (nar .byte v22)), (.int (nar .byte v25)), (.int (nar .byte v28)), (.int (nar .byte v31))] : List Value).set (v2).toNatClampNeg (.int (nar .byte ((v49).toInt8.toInt32)))).set ((v2 + (1 : Int32))).toNatClampNeg (.int (nar .byte ((v50).toInt8.toInt32)))) (.int (0 : Int32)) := Arv.set Ar54 q54 S54 Ng54 H54 G54 (fits_nar_byte _) W55 ((v2 + (1 : Int32))).toNatClampNeg rfl (by simpa using (own_j1 own_h4).2)
        have N55 := Fr.snoc X55 N53 g_b9
        have Z55 : n0 ≤ h55.size := Nat.le_trans Z53 (Nat.le_of_eq W55.size.symm)
        show Go p e below _ (T55.setTop (mkF m 348 #[.val (.int p1), .val (.int p2), .val (.int p3), .val (.int p4), .val (.int v1), .val (.int v2), .val (.int v3), .val (.int z8), .val (.ref b9), .val (.int (3 : Int32)), .val (.int v49), .val (.int v50), .val (.int v51), .val (.int (0 : Int32))] []))
        refine go (fun _ q => XS.iload X55.here hx rfl (hb hby at_348) rfl q) ?_
        show Go p e below _ (T55.setTop (mkF m 350 #[.val (.int p1), .val (.int p2), .val (.int p3), .val (.int p4), .val (.int v1), .val (.int v2), .val (.int v3), .val (.int z8), .val (.ref b9), .val (.int (3 : Int32)), .val (.int v49), .val (.int v50), .val (.int v51), .val (.int (0 : Int32))] [(.int (3 : Int32))]))
        refine go (fun _ q => XS.iconst X55.here hx rfl (hb hby at_350) q) ?_
        show Go p e below _ (T55.setTop (mkF m 351 #[.val (.int p1), .val (.int p2), .val (.int p3), .val (.int p4), .val (.int v1), .val (.int v2), .val (.int v3), .val (.int z8), .val (.ref b9), .val (.int (3 : Int32)), .val (.int v49), .val (.int v50), .val (.int v51), .val (.int (0 : Int32))] [(.int (2 : Int32)), (.int (3 : Int32))]))
        refine go (fun _ q => XS.icmpNo X55.here hx rfl (hb hby at_351) rfl (tlt (by decide : (2 : Int32) < (3 : Int32))).2.2.2 q) ?_
        show Go p e below _ (T55.setTop (mkF m 354 #[.val (.int p1), .val (.int p2), .val (.int p3), .val (.int p4), .val (.int v1), .val (.int v2), .val (.int v3), .val (.int z8), .val (.ref b9), .val (.int (3 : Int32)), .val (.int v49), .val (.int v50), .val (.int v51), .val (.int (0 : Int32))] []))
        refine go (fun _ q => XS.aload X55.here hx rfl (hb hby at_354) rfl rfl q) ?_
        show Go p e below _ (T55.setTop (mkF m 356 #[.val (.int p1), .val (.int p2), .val (.int p3), .val (.int p4), .val (.int v1), .val (.int v2), .val (.int v3), .val (.int z8), .val (.ref b9), .val (.int (3 : Int32)), .val (.int v49), .val (.int v50), .val (.int v51), .val (.int (0 : Int32))] [(.ref b9)]))
        refine go (fun _ q => XS.iload X55.here hx rfl (hb hby at_356) rfl q) ?_
        show Go p e below _ (T55.setTop (mkF m 358 #[.val (.int p1), .val (.int p2), .val (.int p3), .val (.int p4), .val (.int v1), .val (.int v2), .val (.int v3), .val (.int z8), .val (.ref b9), .val (.int (3 : Int32)), .val (.int v49), .val (.int v50), .val (.int v51), .val (.int (0 : Int32))] [(.int v2), (.ref b9)]))
        refine go (fun _ q => XS.iconst X55.here hx rfl (hb hby at_358) q) ?_
        show Go p e below _ (T55.setTop (mkF m 359 #[.val (.int p1), .val (.int p2), .val (.int p3), .val (.int p4), .val (.int v1), .val (.int v2), .val (.int v3), .val (.int z8), .val (.ref b9), .val (.int (3 : Int32)), .val (.int v49), .val (.int v50), .val (.int v51), .val (.int (0 : Int32))] [(.int (2 : Int32)), (.int v2), (.ref b9)]))
        refine go (fun _ q => XS.iadd X55.here hx rfl (hb hby at_359) rfl q) ?_
        show Go p e below _ (T55.setTop (mkF m 360 #[.val (.int p1), .val (.int p2), .val (.int p3), .val (.int p4), .val (.int v1), .val (.int v2), .val (.int v3), .val (.int z8), .val (.ref b9), .val (.int (3 : Int32)), .val (.int v49), .val (.int v50), .val (.int v51), .val (.int (0 : Int32))] [(.int (v2 + (2 : Int32))), (.ref b9)]))
        refine go (fun _ q => XS.iload X55.here hx rfl (hb hby at_360) rfl q) ?_
        show Go p e below _ (T55.setTop (mkF m 362 #[.val (.int p1), .val (.int p2), .val (.int p3), .val (.int p4), .val (.int v1), .val (.int v2), .val (.int v3), .val (.int z8), .val (.ref b9), .val (.int (3 : Int32)), .val (.int v49), .val (.int v50), .val (.int v51), .val (.int (0 : Int32))] [(.int v51), (.int (v2 + (2 : Int32))), (.ref b9)]))
        refine go (fun _ q => XS.i2b X55.here hx rfl (hb hby at_362) rfl q) ?_
        show Go p e below _ (T55.setTop (mkF m 363 #[.val (.int p1), .val (.int p2), .val (.int p3), .val (.int p4), .val (.int v1), .val (.int v2), .val (.int v3), .val (.int z8), .val (.ref b9), .val (.int (3 : Int32)), .val (.int v49), .val (.int v50), .val (.int v51), .val (.int (0 : Int32))] [(.int ((v51).toInt8.toInt32)), (.int (v2 + (2 : Int32))), (.ref b9)]))
        obtain ⟨cl56, Ar56, q56, S56, Ng56, H56, G56⟩ := id V_b9_55
        obtain ⟨T57, h57, X57, e57, W57, st57⟩ := stB X55 hx hZ e55 Ar56 (j := (v2 + (2 : Int32))) (inb_of S56 (own_j2 own_h4).1) (g := (mkF m 363 #[.val (.int p1), .val (.int p2), .val (.int p3), .val (.int p4), .val (.int v1), .val (.int v2), .val (.int v3), .val (.int z8), .val (.ref b9), .val (.int (3 : Int32)), .val (.int v49), .val (.int v50), .val (.int v51), .val (.int (0 : Int32))] [(.int ((v51).toInt8.toInt32)), (.int (v2 + (2 : Int32))), (.ref b9)])) rfl rfl (hb hby at_363)
        refine go st57 ?_
        have V_b9_57 : Arv Z h57 b9 k9 .byte (8 : Int32) (((([(.int (nar .byte v10)), (.int (nar .byte v13)), (.int (nar .byte v16)), (.int (nar .byte v19)), (.int (nar .byte v22)), (.int (nar .byte v25)), (.int (nar .byte v28)), (.int (nar .byte v31))] : List Value).set (v2).toNatClampNeg (.int (nar .byte ((v49).toInt8.toInt32)))).set ((v2 + (1 : Int32))).toNatClampNeg (.int (nar .byte ((v50).toInt8.toInt32)))).set ((v2 + (2 : Int32))).toNatClampNeg (.int (nar .byte ((v51).toInt8.toInt32)))) (.int (0 : Int32)) := Arv.set Ar56 q56 S56 Ng56 H56 G56 (fits_nar_byte _) W57 ((v2 + (2 : Int32))).toNatClampNeg rfl (by simpa using (own_j2 own_h4).2)
        have N57 := Fr.snoc X57 N55 g_b9
        have Z57 : n0 ≤ h57.size := Nat.le_trans Z55 (Nat.le_of_eq W57.size.symm)
        show Go p e below _ (T57.setTop (mkF m 364 #[.val (.int p1), .val (.int p2), .val (.int p3), .val (.int p4), .val (.int v1), .val (.int v2), .val (.int v3), .val (.int z8), .val (.ref b9), .val (.int (3 : Int32)), .val (.int v49), .val (.int v50), .val (.int v51), .val (.int (0 : Int32))] []))
        refine go (fun _ q => XS.iload X57.here hx rfl (hb hby at_364) rfl q) ?_
        show Go p e below _ (T57.setTop (mkF m 366 #[.val (.int p1), .val (.int p2), .val (.int p3), .val (.int p4), .val (.int v1), .val (.int v2), .val (.int v3), .val (.int z8), .val (.ref b9), .val (.int (3 : Int32)), .val (.int v49), .val (.int v50), .val (.int v51), .val (.int (0 : Int32))] [(.int (3 : Int32))]))
        refine go (fun _ q => XS.iconst X57.here hx rfl (hb hby at_366) q) ?_
        show Go p e below _ (T57.setTop (mkF m 367 #[.val (.int p1), .val (.int p2), .val (.int p3), .val (.int p4), .val (.int v1), .val (.int v2), .val (.int v3), .val (.int z8), .val (.ref b9), .val (.int (3 : Int32)), .val (.int v49), .val (.int v50), .val (.int v51), .val (.int (0 : Int32))] [(.int (3 : Int32)), (.int (3 : Int32))]))
        refine go (fun _ q => XS.icmpYes X57.here hx rfl (pc0 := 367) (pc' := 380) rfl (hb hby at_367) rfl (flt (by decide : ¬ ((3 : Int32) < (3 : Int32)))).2.2.2 (by decide) (by decide) q) ?_
        show Go p e below _ (T57.setTop (mkF m 380 #[.val (.int p1), .val (.int p2), .val (.int p3), .val (.int p4), .val (.int v1), .val (.int v2), .val (.int v3), .val (.int z8), .val (.ref b9), .val (.int (3 : Int32)), .val (.int v49), .val (.int v50), .val (.int v51), .val (.int (0 : Int32))] []))
        refine go (fun _ q => XS.aload X57.here hx rfl (hb hby at_380) rfl rfl q) ?_
        show Go p e below _ (T57.setTop (mkF m 382 #[.val (.int p1), .val (.int p2), .val (.int p3), .val (.int p4), .val (.int v1), .val (.int v2), .val (.int v3), .val (.int z8), .val (.ref b9), .val (.int (3 : Int32)), .val (.int v49), .val (.int v50), .val (.int v51), .val (.int (0 : Int32))] [(.ref b9)]))
        refine go (fun _ q => XS.iload X57.here hx rfl (hb hby at_382) rfl q) ?_
        show Go p e below _ (T57.setTop (mkF m 384 #[.val (.int p1), .val (.int p2), .val (.int p3), .val (.int p4), .val (.int v1), .val (.int v2), .val (.int v3), .val (.int z8), .val (.ref b9), .val (.int (3 : Int32)), .val (.int v49), .val (.int v50), .val (.int v51), .val (.int (0 : Int32))] [(.int v2), (.ref b9)]))
        refine go (fun _ q => XS.iload X57.here hx rfl (hb hby at_384) rfl q) ?_
        show Go p e below _ (T57.setTop (mkF m 386 #[.val (.int p1), .val (.int p2), .val (.int p3), .val (.int p4), .val (.int v1), .val (.int v2), .val (.int v3), .val (.int z8), .val (.ref b9), .val (.int (3 : Int32)), .val (.int v49), .val (.int v50), .val (.int v51), .val (.int (0 : Int32))] [(.int (3 : Int32)), (.int v2), (.ref b9)]))
        obtain ⟨clx, Arx, qx, Sx, Ngx, Hx, Gx⟩ := id V_b9_57
        refine own_callS X57 hx hZ hown e57 (hw _ (List.mem_of_getElem? (i := 4) rfl)) (hw _ (List.mem_of_getElem? (i := 5) rfl)) (hw _ (List.mem_of_getElem? (i := 6) rfl)) (hw _ (List.mem_of_getElem? (i := 7) rfl)) (rm1_3 l Z a0 hw [] b9 v2 h57 n0 own_h4 Arx Sx (by rcases own_h4 with rfl | rfl | rfl | rfl <;> exact Hx _ (by rw [Sx]; decide)) (by rcases own_h4 with rfl | rfl | rfl | rfl <;> exact Hx _ (by rw [Sx]; decide)) (by rcases own_h4 with rfl | rfl | rfl | rfl <;> exact Hx _ (by rw [Sx]; decide))) (by decide) (by decide) (W := 0) (by decide) (by decide) (by decide) (g := (mkF m 386 #[.val (.int p1), .val (.int p2), .val (.int p3), .val (.int p4), .val (.int v1), .val (.int v2), .val (.int v3), .val (.int z8), .val (.ref b9), .val (.int (3 : Int32)), .val (.int v49), .val (.int v50), .val (.int v51), .val (.int (0 : Int32))] [(.int (3 : Int32)), (.int v2), (.ref b9)])) rfl (by rw [hml]; rfl) (argsL := [(.ref b9), (.int v2), (.int (3 : Int32))]) (rest := []) rfl rfl (lenOf pd_0_0 rfl) (by show 2 * 0 + _ ≤ _; exact Nat.le_of_eq rfl) (hb hby at_386) ?_
        rintro _ T58 L58 X58 ⟨rfl, N58q, e58⟩
        have N58 := Fr.app N57 N58q
        show Go p e below _ (T58.setTop (mkF m 389 #[.val (.int p1), .val (.int p2), .val (.int p3), .val (.int p4), .val (.int v1), .val (.int v2), .val (.int v3), .val (.int z8), .val (.ref b9), .val (.int (3 : Int32)), .val (.int v49), .val (.int v50), .val (.int v51), .val (.int (0 : Int32))] [(.int (g3 (nar .byte ((v49).toInt8.toInt32)) (nar .byte ((v50).toInt8.toInt32)) (nar .byte ((v51).toInt8.toInt32))))]))
        refine go (fun _ q => XS.iload X58.here hx rfl (hb hby at_389) rfl q) ?_
        show Go p e below _ (T58.setTop (mkF m 391 #[.val (.int p1), .val (.int p2), .val (.int p3), .val (.int p4), .val (.int v1), .val (.int v2), .val (.int v3), .val (.int z8), .val (.ref b9), .val (.int (3 : Int32)), .val (.int v49), .val (.int v50), .val (.int v51), .val (.int (0 : Int32))] [(.int z8), (.int (g3 (nar .byte ((v49).toInt8.toInt32)) (nar .byte ((v50).toInt8.toInt32)) (nar .byte ((v51).toInt8.toInt32))))]))
        have hk59 : (g3 (nar .byte ((v49).toInt8.toInt32)) (nar .byte ((v50).toInt8.toInt32)) (nar .byte ((v51).toInt8.toInt32))) = z8 := own_main3 own_r hc34 hc39 hc48 hv49 hv50 hv51
        refine go (fun _ q => XS.icmpNo X58.here hx rfl (hb hby at_391) rfl (teq hk59).2 q) ?_
        show Go p e below _ (T58.setTop (mkF m 394 #[.val (.int p1), .val (.int p2), .val (.int p3), .val (.int p4), .val (.int v1), .val (.int v2), .val (.int v3), .val (.int z8), .val (.ref b9), .val (.int (3 : Int32)), .val (.int v49), .val (.int v50), .val (.int v51), .val (.int (0 : Int32))] []))
        refine go (fun _ q => XS.iconst X58.here hx rfl (hb hby at_394) q) ?_
        show Go p e below _ (T58.setTop (mkF m 395 #[.val (.int p1), .val (.int p2), .val (.int p3), .val (.int p4), .val (.int v1), .val (.int v2), .val (.int v3), .val (.int z8), .val (.ref b9), .val (.int (3 : Int32)), .val (.int v49), .val (.int v50), .val (.int v51), .val (.int (0 : Int32))] [(.int (1 : Int32))]))
        refine go (fun _ q => XS.goto X58.here hx rfl (pc0 := 395) (pc' := 399) rfl (hb hby at_395) (by decide) (by decide) q) ?_
        show Go p e below _ (T58.setTop (mkF m 399 #[.val (.int p1), .val (.int p2), .val (.int p3), .val (.int p4), .val (.int v1), .val (.int v2), .val (.int v3), .val (.int z8), .val (.ref b9), .val (.int (3 : Int32)), .val (.int v49), .val (.int v50), .val (.int v51), .val (.int (0 : Int32))] [(.int (1 : Int32))]))
        exact own_retZ (z' := (1 : Int32)) X58 hx hlk hret (hb hby at_399) (by decide) (by decide) rfl ⟨rfl, N58⟩
      · refine go (fun _ q => XS.icmpYes X33.here hx rfl (pc0 := 226) (pc' := 271) rfl (hb hby at_226) rfl (flt hc48).2.1 (by decide) (by decide) q) ?_
        show Go p e below _ (T33.setTop (mkF m 271 #[.val (.int p1), .val (.int p2), .val (.int p3), .val (.int p4), .val (.int v1), .val (.int v2), .val (.int v3), .val (.int z8), .val (.ref b9), .unset, .unset, .val (.int (0 : Int32)), .val (.int (0 : Int32)), .val (.int (0 : Int32))] []))
        refine go (fun _ q => XS.iconst X33.here hx rfl (hb hby at_271) q) ?_
        show Go p e below _ (T33.setTop (mkF m 272 #[.val (.int p1), .val (.int p2), .val (.int p3), .val (.int p4), .val (.int v1), .val (.int v2), .val (.int v3), .val (.int z8), .val (.ref b9), .unset, .unset, .val (.int (0 : Int32)), .val (.int (0 : Int32)), .val (.int (0 : Int32))] [(.int (4 : Int32))]))
        refine go (fun _ q => XS.istore X33.here hx rfl (hb hby at_272) rfl (l' := #[.val (.int p1), .val (.int p2), .val (.int p3), .val (.int p4), .val (.int v1), .val (.int v2), .val (.int v3), .val (.int z8), .val (.ref b9), .val (.int (4 : Int32)), .unset, .val (.int (0 : Int32)), .val (.int (0 : Int32)), .val (.int (0 : Int32))]) rfl q) ?_
        show Go p e below _ (T33.setTop (mkF m 274 #[.val (.int p1), .val (.int p2), .val (.int p3), .val (.int p4), .val (.int v1), .val (.int v2), .val (.int v3), .val (.int z8), .val (.ref b9), .val (.int (4 : Int32)), .unset, .val (.int (0 : Int32)), .val (.int (0 : Int32)), .val (.int (0 : Int32))] []))
        refine go (fun _ q => XS.sipush X33.here hx rfl (hb hby at_274) q) ?_
        show Go p e below _ (T33.setTop (mkF m 277 #[.val (.int p1), .val (.int p2), .val (.int p3), .val (.int p4), .val (.int v1), .val (.int v2), .val (.int v3), .val (.int z8), .val (.ref b9), .val (.int (4 : Int32)), .unset, .val (.int (0 : Int32)), .val (.int (0 : Int32)), .val (.int (0 : Int32))] [(.int (240 : Int32))]))
        refine go (fun _ q => XS.iload X33.here hx rfl (hb hby at_277) rfl q) ?_
        show Go p e below _ (T33.setTop (mkF m 279 #[.val (.int p1), .val (.int p2), .val (.int p3), .val (.int p4), .val (.int v1), .val (.int v2), .val (.int v3), .val (.int z8), .val (.ref b9), .val (.int (4 : Int32)), .unset, .val (.int (0 : Int32)), .val (.int (0 : Int32)), .val (.int (0 : Int32))] [(.int z8), (.int (240 : Int32))]))
        refine go (fun _ q => XS.bipush X33.here hx rfl (hb hby at_279) q) ?_
        show Go p e below _ (T33.setTop (mkF m 281 #[.val (.int p1), .val (.int p2), .val (.int p3), .val (.int p4), .val (.int v1), .val (.int v2), .val (.int v3), .val (.int z8), .val (.ref b9), .val (.int (4 : Int32)), .unset, .val (.int (0 : Int32)), .val (.int (0 : Int32)), .val (.int (0 : Int32))] [(.int (18 : Int32)), (.int z8), (.int (240 : Int32))]))
        refine go (fun _ q => XS.ishr X33.here hx rfl (hb hby at_281) rfl q) ?_
        show Go p e below _ (T33.setTop (mkF m 282 #[.val (.int p1), .val (.int p2), .val (.int p3), .val (.int p4), .val (.int v1), .val (.int v2), .val (.int v3), .val (.int z8), .val (.ref b9), .val (.int (4 : Int32)), .unset, .val (.int (0 : Int32)), .val (.int (0 : Int32)), .val (.int (0 : Int32))] [(.int ((z8 >>> ((18 : Int32) &&& 31)))), (.int (240 : Int32))]))
        refine go (fun _ q => XS.ior X33.here hx rfl (hb hby at_282) rfl q) ?_
        show Go p e below _ (T33.setTop (mkF m 283 #[.val (.int p1), .val (.int p2), .val (.int p3), .val (.int p4), .val (.int v1), .val (.int v2), .val (.int v3), .val (.int z8), .val (.ref b9), .val (.int (4 : Int32)), .unset, .val (.int (0 : Int32)), .val (.int (0 : Int32)), .val (.int (0 : Int32))] [(.int ((240 : Int32) ||| ((z8 >>> ((18 : Int32) &&& 31)))))]))
        generalize hv60 : ((240 : Int32) ||| ((z8 >>> ((18 : Int32) &&& 31)))) = v60
        show Go p e below _ (T33.setTop (mkF m 283 #[.val (.int p1), .val (.int p2), .val (.int p3), .val (.int p4), .val (.int v1), .val (.int v2), .val (.int v3), .val (.int z8), .val (.ref b9), .val (.int (4 : Int32)), .unset, .val (.int (0 : Int32)), .val (.int (0 : Int32)), .val (.int (0 : Int32))] [(.int v60)]))
        refine go (fun _ q => XS.istore X33.here hx rfl (hb hby at_283) rfl (l' := #[.val (.int p1), .val (.int p2), .val (.int p3), .val (.int p4), .val (.int v1), .val (.int v2), .val (.int v3), .val (.int z8), .val (.ref b9), .val (.int (4 : Int32)), .val (.int v60), .val (.int (0 : Int32)), .val (.int (0 : Int32)), .val (.int (0 : Int32))]) rfl q) ?_
        show Go p e below _ (T33.setTop (mkF m 285 #[.val (.int p1), .val (.int p2), .val (.int p3), .val (.int p4), .val (.int v1), .val (.int v2), .val (.int v3), .val (.int z8), .val (.ref b9), .val (.int (4 : Int32)), .val (.int v60), .val (.int (0 : Int32)), .val (.int (0 : Int32)), .val (.int (0 : Int32))] []))
        refine go (fun _ q => XS.sipush X33.here hx rfl (hb hby at_285) q) ?_
        show Go p e below _ (T33.setTop (mkF m 288 #[.val (.int p1), .val (.int p2), .val (.int p3), .val (.int p4), .val (.int v1), .val (.int v2), .val (.int v3), .val (.int z8), .val (.ref b9), .val (.int (4 : Int32)), .val (.int v60), .val (.int (0 : Int32)), .val (.int (0 : Int32)), .val (.int (0 : Int32))] [(.int (128 : Int32))]))
        refine go (fun _ q => XS.iload X33.here hx rfl (hb hby at_288) rfl q) ?_
        show Go p e below _ (T33.setTop (mkF m 290 #[.val (.int p1), .val (.int p2), .val (.int p3), .val (.int p4), .val (.int v1), .val (.int v2), .val (.int v3), .val (.int z8), .val (.ref b9), .val (.int (4 : Int32)), .val (.int v60), .val (.int (0 : Int32)), .val (.int (0 : Int32)), .val (.int (0 : Int32))] [(.int z8), (.int (128 : Int32))]))
        refine go (fun _ q => XS.bipush X33.here hx rfl (hb hby at_290) q) ?_
        show Go p e below _ (T33.setTop (mkF m 292 #[.val (.int p1), .val (.int p2), .val (.int p3), .val (.int p4), .val (.int v1), .val (.int v2), .val (.int v3), .val (.int z8), .val (.ref b9), .val (.int (4 : Int32)), .val (.int v60), .val (.int (0 : Int32)), .val (.int (0 : Int32)), .val (.int (0 : Int32))] [(.int (12 : Int32)), (.int z8), (.int (128 : Int32))]))
        refine go (fun _ q => XS.ishr X33.here hx rfl (hb hby at_292) rfl q) ?_
        show Go p e below _ (T33.setTop (mkF m 293 #[.val (.int p1), .val (.int p2), .val (.int p3), .val (.int p4), .val (.int v1), .val (.int v2), .val (.int v3), .val (.int z8), .val (.ref b9), .val (.int (4 : Int32)), .val (.int v60), .val (.int (0 : Int32)), .val (.int (0 : Int32)), .val (.int (0 : Int32))] [(.int ((z8 >>> ((12 : Int32) &&& 31)))), (.int (128 : Int32))]))
        refine go (fun _ q => XS.bipush X33.here hx rfl (hb hby at_293) q) ?_
        show Go p e below _ (T33.setTop (mkF m 295 #[.val (.int p1), .val (.int p2), .val (.int p3), .val (.int p4), .val (.int v1), .val (.int v2), .val (.int v3), .val (.int z8), .val (.ref b9), .val (.int (4 : Int32)), .val (.int v60), .val (.int (0 : Int32)), .val (.int (0 : Int32)), .val (.int (0 : Int32))] [(.int (63 : Int32)), (.int ((z8 >>> ((12 : Int32) &&& 31)))), (.int (128 : Int32))]))
        refine go (fun _ q => XS.iand X33.here hx rfl (hb hby at_295) rfl q) ?_
        show Go p e below _ (T33.setTop (mkF m 296 #[.val (.int p1), .val (.int p2), .val (.int p3), .val (.int p4), .val (.int v1), .val (.int v2), .val (.int v3), .val (.int z8), .val (.ref b9), .val (.int (4 : Int32)), .val (.int v60), .val (.int (0 : Int32)), .val (.int (0 : Int32)), .val (.int (0 : Int32))] [(.int (((z8 >>> ((12 : Int32) &&& 31))) &&& (63 : Int32))), (.int (128 : Int32))]))
        refine go (fun _ q => XS.ior X33.here hx rfl (hb hby at_296) rfl q) ?_
        show Go p e below _ (T33.setTop (mkF m 297 #[.val (.int p1), .val (.int p2), .val (.int p3), .val (.int p4), .val (.int v1), .val (.int v2), .val (.int v3), .val (.int z8), .val (.ref b9), .val (.int (4 : Int32)), .val (.int v60), .val (.int (0 : Int32)), .val (.int (0 : Int32)), .val (.int (0 : Int32))] [(.int ((128 : Int32) ||| (((z8 >>> ((12 : Int32) &&& 31))) &&& (63 : Int32))))]))
        generalize hv61 : ((128 : Int32) ||| (((z8 >>> ((12 : Int32) &&& 31))) &&& (63 : Int32))) = v61
        show Go p e below _ (T33.setTop (mkF m 297 #[.val (.int p1), .val (.int p2), .val (.int p3), .val (.int p4), .val (.int v1), .val (.int v2), .val (.int v3), .val (.int z8), .val (.ref b9), .val (.int (4 : Int32)), .val (.int v60), .val (.int (0 : Int32)), .val (.int (0 : Int32)), .val (.int (0 : Int32))] [(.int v61)]))
        refine go (fun _ q => XS.istore X33.here hx rfl (hb hby at_297) rfl (l' := #[.val (.int p1), .val (.int p2), .val (.int p3), .val (.int p4), .val (.int v1), .val (.int v2), .val (.int v3), .val (.int z8), .val (.ref b9), .val (.int (4 : Int32)), .val (.int v60), .val (.int v61), .val (.int (0 : Int32)), .val (.int (0 : Int32))]) rfl q) ?_
        show Go p e below _ (T33.setTop (mkF m 299 #[.val (.int p1), .val (.int p2), .val (.int p3), .val (.int p4), .val (.int v1), .val (.int v2), .val (.int v3), .val (.int z8), .val (.ref b9), .val (.int (4 : Int32)), .val (.int v60), .val (.int v61), .val (.int (0 : Int32)), .val (.int (0 : Int32))] []))
        refine go (fun _ q => XS.sipush X33.here hx rfl (hb hby at_299) q) ?_
        show Go p e below _ (T33.setTop (mkF m 302 #[.val (.int p1), .val (.int p2), .val (.int p3), .val (.int p4), .val (.int v1), .val (.int v2), .val (.int v3), .val (.int z8), .val (.ref b9), .val (.int (4 : Int32)), .val (.int v60), .val (.int v61), .val (.int (0 : Int32)), .val (.int (0 : Int32))] [(.int (128 : Int32))]))
        refine go (fun _ q => XS.iload X33.here hx rfl (hb hby at_302) rfl q) ?_
        show Go p e below _ (T33.setTop (mkF m 304 #[.val (.int p1), .val (.int p2), .val (.int p3), .val (.int p4), .val (.int v1), .val (.int v2), .val (.int v3), .val (.int z8), .val (.ref b9), .val (.int (4 : Int32)), .val (.int v60), .val (.int v61), .val (.int (0 : Int32)), .val (.int (0 : Int32))] [(.int z8), (.int (128 : Int32))]))
        refine go (fun _ q => XS.bipush X33.here hx rfl (hb hby at_304) q) ?_
        show Go p e below _ (T33.setTop (mkF m 306 #[.val (.int p1), .val (.int p2), .val (.int p3), .val (.int p4), .val (.int v1), .val (.int v2), .val (.int v3), .val (.int z8), .val (.ref b9), .val (.int (4 : Int32)), .val (.int v60), .val (.int v61), .val (.int (0 : Int32)), .val (.int (0 : Int32))] [(.int (6 : Int32)), (.int z8), (.int (128 : Int32))]))
        refine go (fun _ q => XS.ishr X33.here hx rfl (hb hby at_306) rfl q) ?_
        show Go p e below _ (T33.setTop (mkF m 307 #[.val (.int p1), .val (.int p2), .val (.int p3), .val (.int p4), .val (.int v1), .val (.int v2), .val (.int v3), .val (.int z8), .val (.ref b9), .val (.int (4 : Int32)), .val (.int v60), .val (.int v61), .val (.int (0 : Int32)), .val (.int (0 : Int32))] [(.int ((z8 >>> ((6 : Int32) &&& 31)))), (.int (128 : Int32))]))
        refine go (fun _ q => XS.bipush X33.here hx rfl (hb hby at_307) q) ?_
        show Go p e below _ (T33.setTop (mkF m 309 #[.val (.int p1), .val (.int p2), .val (.int p3), .val (.int p4), .val (.int v1), .val (.int v2), .val (.int v3), .val (.int z8), .val (.ref b9), .val (.int (4 : Int32)), .val (.int v60), .val (.int v61), .val (.int (0 : Int32)), .val (.int (0 : Int32))] [(.int (63 : Int32)), (.int ((z8 >>> ((6 : Int32) &&& 31)))), (.int (128 : Int32))]))
        refine go (fun _ q => XS.iand X33.here hx rfl (hb hby at_309) rfl q) ?_
        show Go p e below _ (T33.setTop (mkF m 310 #[.val (.int p1), .val (.int p2), .val (.int p3), .val (.int p4), .val (.int v1), .val (.int v2), .val (.int v3), .val (.int z8), .val (.ref b9), .val (.int (4 : Int32)), .val (.int v60), .val (.int v61), .val (.int (0 : Int32)), .val (.int (0 : Int32))] [(.int (((z8 >>> ((6 : Int32) &&& 31))) &&& (63 : Int32))), (.int (128 : Int32))]))
        refine go (fun _ q => XS.ior X33.here hx rfl (hb hby at_310) rfl q) ?_
        show Go p e below _ (T33.setTop (mkF m 311 #[.val (.int p1), .val (.int p2), .val (.int p3), .val (.int p4), .val (.int v1), .val (.int v2), .val (.int v3), .val (.int z8), .val (.ref b9), .val (.int (4 : Int32)), .val (.int v60), .val (.int v61), .val (.int (0 : Int32)), .val (.int (0 : Int32))] [(.int ((128 : Int32) ||| (((z8 >>> ((6 : Int32) &&& 31))) &&& (63 : Int32))))]))
        generalize hv62 : ((128 : Int32) ||| (((z8 >>> ((6 : Int32) &&& 31))) &&& (63 : Int32))) = v62
        show Go p e below _ (T33.setTop (mkF m 311 #[.val (.int p1), .val (.int p2), .val (.int p3), .val (.int p4), .val (.int v1), .val (.int v2), .val (.int v3), .val (.int z8), .val (.ref b9), .val (.int (4 : Int32)), .val (.int v60), .val (.int v61), .val (.int (0 : Int32)), .val (.int (0 : Int32))] [(.int v62)]))
        refine go (fun _ q => XS.istore X33.here hx rfl (hb hby at_311) rfl (l' := #[.val (.int p1), .val (.int p2), .val (.int p3), .val (.int p4), .val (.int v1), .val (.int v2), .val (.int v3), .val (.int z8), .val (.ref b9), .val (.int (4 : Int32)), .val (.int v60), .val (.int v61), .val (.int v62), .val (.int (0 : Int32))]) rfl q) ?_
        show Go p e below _ (T33.setTop (mkF m 313 #[.val (.int p1), .val (.int p2), .val (.int p3), .val (.int p4), .val (.int v1), .val (.int v2), .val (.int v3), .val (.int z8), .val (.ref b9), .val (.int (4 : Int32)), .val (.int v60), .val (.int v61), .val (.int v62), .val (.int (0 : Int32))] []))
        refine go (fun _ q => XS.sipush X33.here hx rfl (hb hby at_313) q) ?_
        show Go p e below _ (T33.setTop (mkF m 316 #[.val (.int p1), .val (.int p2), .val (.int p3), .val (.int p4), .val (.int v1), .val (.int v2), .val (.int v3), .val (.int z8), .val (.ref b9), .val (.int (4 : Int32)), .val (.int v60), .val (.int v61), .val (.int v62), .val (.int (0 : Int32))] [(.int (128 : Int32))]))
        refine go (fun _ q => XS.iload X33.here hx rfl (hb hby at_316) rfl q) ?_
        show Go p e below _ (T33.setTop (mkF m 318 #[.val (.int p1), .val (.int p2), .val (.int p3), .val (.int p4), .val (.int v1), .val (.int v2), .val (.int v3), .val (.int z8), .val (.ref b9), .val (.int (4 : Int32)), .val (.int v60), .val (.int v61), .val (.int v62), .val (.int (0 : Int32))] [(.int z8), (.int (128 : Int32))]))
        refine go (fun _ q => XS.bipush X33.here hx rfl (hb hby at_318) q) ?_
        show Go p e below _ (T33.setTop (mkF m 320 #[.val (.int p1), .val (.int p2), .val (.int p3), .val (.int p4), .val (.int v1), .val (.int v2), .val (.int v3), .val (.int z8), .val (.ref b9), .val (.int (4 : Int32)), .val (.int v60), .val (.int v61), .val (.int v62), .val (.int (0 : Int32))] [(.int (63 : Int32)), (.int z8), (.int (128 : Int32))]))
        refine go (fun _ q => XS.iand X33.here hx rfl (hb hby at_320) rfl q) ?_
        show Go p e below _ (T33.setTop (mkF m 321 #[.val (.int p1), .val (.int p2), .val (.int p3), .val (.int p4), .val (.int v1), .val (.int v2), .val (.int v3), .val (.int z8), .val (.ref b9), .val (.int (4 : Int32)), .val (.int v60), .val (.int v61), .val (.int v62), .val (.int (0 : Int32))] [(.int (z8 &&& (63 : Int32))), (.int (128 : Int32))]))
        refine go (fun _ q => XS.ior X33.here hx rfl (hb hby at_321) rfl q) ?_
        show Go p e below _ (T33.setTop (mkF m 322 #[.val (.int p1), .val (.int p2), .val (.int p3), .val (.int p4), .val (.int v1), .val (.int v2), .val (.int v3), .val (.int z8), .val (.ref b9), .val (.int (4 : Int32)), .val (.int v60), .val (.int v61), .val (.int v62), .val (.int (0 : Int32))] [(.int ((128 : Int32) ||| (z8 &&& (63 : Int32))))]))
        generalize hv63 : ((128 : Int32) ||| (z8 &&& (63 : Int32))) = v63
        show Go p e below _ (T33.setTop (mkF m 322 #[.val (.int p1), .val (.int p2), .val (.int p3), .val (.int p4), .val (.int v1), .val (.int v2), .val (.int v3), .val (.int z8), .val (.ref b9), .val (.int (4 : Int32)), .val (.int v60), .val (.int v61), .val (.int v62), .val (.int (0 : Int32))] [(.int v63)]))
        refine go (fun _ q => XS.istore X33.here hx rfl (hb hby at_322) rfl (l' := #[.val (.int p1), .val (.int p2), .val (.int p3), .val (.int p4), .val (.int v1), .val (.int v2), .val (.int v3), .val (.int z8), .val (.ref b9), .val (.int (4 : Int32)), .val (.int v60), .val (.int v61), .val (.int v62), .val (.int v63)]) rfl q) ?_
        show Go p e below _ (T33.setTop (mkF m 324 #[.val (.int p1), .val (.int p2), .val (.int p3), .val (.int p4), .val (.int v1), .val (.int v2), .val (.int v3), .val (.int z8), .val (.ref b9), .val (.int (4 : Int32)), .val (.int v60), .val (.int v61), .val (.int v62), .val (.int v63)] []))
        refine go (fun _ q => XS.aload X33.here hx rfl (hb hby at_324) rfl rfl q) ?_
        show Go p e below _ (T33.setTop (mkF m 326 #[.val (.int p1), .val (.int p2), .val (.int p3), .val (.int p4), .val (.int v1), .val (.int v2), .val (.int v3), .val (.int z8), .val (.ref b9), .val (.int (4 : Int32)), .val (.int v60), .val (.int v61), .val (.int v62), .val (.int v63)] [(.ref b9)]))
        refine go (fun _ q => XS.iload X33.here hx rfl (hb hby at_326) rfl q) ?_
        show Go p e below _ (T33.setTop (mkF m 328 #[.val (.int p1), .val (.int p2), .val (.int p3), .val (.int p4), .val (.int v1), .val (.int v2), .val (.int v3), .val (.int z8), .val (.ref b9), .val (.int (4 : Int32)), .val (.int v60), .val (.int v61), .val (.int v62), .val (.int v63)] [(.int v2), (.ref b9)]))
        refine go (fun _ q => XS.iload X33.here hx rfl (hb hby at_328) rfl q) ?_
        show Go p e below _ (T33.setTop (mkF m 330 #[.val (.int p1), .val (.int p2), .val (.int p3), .val (.int p4), .val (.int v1), .val (.int v2), .val (.int v3), .val (.int z8), .val (.ref b9), .val (.int (4 : Int32)), .val (.int v60), .val (.int v61), .val (.int v62), .val (.int v63)] [(.int v60), (.int v2), (.ref b9)]))
        refine go (fun _ q => XS.i2b X33.here hx rfl (hb hby at_330) rfl q) ?_
        show Go p e below _ (T33.setTop (mkF m 331 #[.val (.int p1), .val (.int p2), .val (.int p3), .val (.int p4), .val (.int v1), .val (.int v2), .val (.int v3), .val (.int z8), .val (.ref b9), .val (.int (4 : Int32)), .val (.int v60), .val (.int v61), .val (.int v62), .val (.int v63)] [(.int ((v60).toInt8.toInt32)), (.int v2), (.ref b9)]))
        obtain ⟨cl64, Ar64, q64, S64, Ng64, H64, G64⟩ := id V_b9_33
        obtain ⟨T65, h65, X65, e65, W65, st65⟩ := stB X33 hx hZ e33 Ar64 (j := v2) (inb_of S64 (own_j0 own_h4).1) (g := (mkF m 331 #[.val (.int p1), .val (.int p2), .val (.int p3), .val (.int p4), .val (.int v1), .val (.int v2), .val (.int v3), .val (.int z8), .val (.ref b9), .val (.int (4 : Int32)), .val (.int v60), .val (.int v61), .val (.int v62), .val (.int v63)] [(.int ((v60).toInt8.toInt32)), (.int v2), (.ref b9)])) rfl rfl (hb hby at_331)
        refine go st65 ?_
        have V_b9_65 : Arv Z h65 b9 k9 .byte (8 : Int32) (([(.int (nar .byte v10)), (.int (nar .byte v13)), (.int (nar .byte v16)), (.int (nar .byte v19)), (.int (nar .byte v22)), (.int (nar .byte v25)), (.int (nar .byte v28)), (.int (nar .byte v31))] : List Value).set (v2).toNatClampNeg (.int (nar .byte ((v60).toInt8.toInt32)))) (.int (0 : Int32)) := Arv.set Ar64 q64 S64 Ng64 H64 G64 (fits_nar_byte _) W65 (v2).toNatClampNeg rfl (by simpa using (own_j0 own_h4).2)
        have N65 := Fr.snoc X65 N33 g_b9
        have Z65 : n0 ≤ h65.size := Nat.le_trans Z33 (Nat.le_of_eq W65.size.symm)
        show Go p e below _ (T65.setTop (mkF m 332 #[.val (.int p1), .val (.int p2), .val (.int p3), .val (.int p4), .val (.int v1), .val (.int v2), .val (.int v3), .val (.int z8), .val (.ref b9), .val (.int (4 : Int32)), .val (.int v60), .val (.int v61), .val (.int v62), .val (.int v63)] []))
        refine go (fun _ q => XS.iload X65.here hx rfl (hb hby at_332) rfl q) ?_
        show Go p e below _ (T65.setTop (mkF m 334 #[.val (.int p1), .val (.int p2), .val (.int p3), .val (.int p4), .val (.int v1), .val (.int v2), .val (.int v3), .val (.int z8), .val (.ref b9), .val (.int (4 : Int32)), .val (.int v60), .val (.int v61), .val (.int v62), .val (.int v63)] [(.int (4 : Int32))]))
        refine go (fun _ q => XS.iconst X65.here hx rfl (hb hby at_334) q) ?_
        show Go p e below _ (T65.setTop (mkF m 335 #[.val (.int p1), .val (.int p2), .val (.int p3), .val (.int p4), .val (.int v1), .val (.int v2), .val (.int v3), .val (.int z8), .val (.ref b9), .val (.int (4 : Int32)), .val (.int v60), .val (.int v61), .val (.int v62), .val (.int v63)] [(.int (1 : Int32)), (.int (4 : Int32))]))
        refine go (fun _ q => XS.icmpNo X65.here hx rfl (hb hby at_335) rfl (tlt (by decide : (1 : Int32) < (4 : Int32))).2.2.2 q) ?_
        show Go p e below _ (T65.setTop (mkF m 338 #[.val (.int p1), .val (.int p2), .val (.int p3), .val (.int p4), .val (.int v1), .val (.int v2), .val (.int v3), .val (.int z8), .val (.ref b9), .val (.int (4 : Int32)), .val (.int v60), .val (.int v61), .val (.int v62), .val (.int v63)] []))
        refine go (fun _ q => XS.aload X65.here hx rfl (hb hby at_338) rfl rfl q) ?_
        show Go p e below _ (T65.setTop (mkF m 340 #[.val (.int p1), .val (.int p2), .val (.int p3), .val (.int p4), .val (.int v1), .val (.int v2), .val (.int v3), .val (.int z8), .val (.ref b9), .val (.int (4 : Int32)), .val (.int v60), .val (.int v61), .val (.int v62), .val (.int v63)] [(.ref b9)]))
        refine go (fun _ q => XS.iload X65.here hx rfl (hb hby at_340) rfl q) ?_
        show Go p e below _ (T65.setTop (mkF m 342 #[.val (.int p1), .val (.int p2), .val (.int p3), .val (.int p4), .val (.int v1), .val (.int v2), .val (.int v3), .val (.int z8), .val (.ref b9), .val (.int (4 : Int32)), .val (.int v60), .val (.int v61), .val (.int v62), .val (.int v63)] [(.int v2), (.ref b9)]))
        refine go (fun _ q => XS.iconst X65.here hx rfl (hb hby at_342) q) ?_
        show Go p e below _ (T65.setTop (mkF m 343 #[.val (.int p1), .val (.int p2), .val (.int p3), .val (.int p4), .val (.int v1), .val (.int v2), .val (.int v3), .val (.int z8), .val (.ref b9), .val (.int (4 : Int32)), .val (.int v60), .val (.int v61), .val (.int v62), .val (.int v63)] [(.int (1 : Int32)), (.int v2), (.ref b9)]))
        refine go (fun _ q => XS.iadd X65.here hx rfl (hb hby at_343) rfl q) ?_
        show Go p e below _ (T65.setTop (mkF m 344 #[.val (.int p1), .val (.int p2), .val (.int p3), .val (.int p4), .val (.int v1), .val (.int v2), .val (.int v3), .val (.int z8), .val (.ref b9), .val (.int (4 : Int32)), .val (.int v60), .val (.int v61), .val (.int v62), .val (.int v63)] [(.int (v2 + (1 : Int32))), (.ref b9)]))
        refine go (fun _ q => XS.iload X65.here hx rfl (hb hby at_344) rfl q) ?_
        show Go p e below _ (T65.setTop (mkF m 346 #[.val (.int p1), .val (.int p2), .val (.int p3), .val (.int p4), .val (.int v1), .val (.int v2), .val (.int v3), .val (.int z8), .val (.ref b9), .val (.int (4 : Int32)), .val (.int v60), .val (.int v61), .val (.int v62), .val (.int v63)] [(.int v61), (.int (v2 + (1 : Int32))), (.ref b9)]))
        refine go (fun _ q => XS.i2b X65.here hx rfl (hb hby at_346) rfl q) ?_
        show Go p e below _ (T65.setTop (mkF m 347 #[.val (.int p1), .val (.int p2), .val (.int p3), .val (.int p4), .val (.int v1), .val (.int v2), .val (.int v3), .val (.int z8), .val (.ref b9), .val (.int (4 : Int32)), .val (.int v60), .val (.int v61), .val (.int v62), .val (.int v63)] [(.int ((v61).toInt8.toInt32)), (.int (v2 + (1 : Int32))), (.ref b9)]))
        obtain ⟨cl66, Ar66, q66, S66, Ng66, H66, G66⟩ := id V_b9_65
        obtain ⟨T67, h67, X67, e67, W67, st67⟩ := stB X65 hx hZ e65 Ar66 (j := (v2 + (1 : Int32))) (inb_of S66 (own_j1 own_h4).1) (g := (mkF m 347 #[.val (.int p1), .val (.int p2), .val (.int p3), .val (.int p4), .val (.int v1), .val (.int v2), .val (.int v3), .val (.int z8), .val (.ref b9), .val (.int (4 : Int32)), .val (.int v60), .val (.int v61), .val (.int v62), .val (.int v63)] [(.int ((v61).toInt8.toInt32)), (.int (v2 + (1 : Int32))), (.ref b9)])) rfl rfl (hb hby at_347)
        refine go st67 ?_
        have V_b9_67 : Arv Z h67 b9 k9 .byte (8 : Int32) ((([(.int (nar .byte v10)), (.int (nar .byte v13)), (.int (nar .byte v16)), (.int (nar .byte v19)), (.int (nar .byte v22)), (.int (nar .byte v25)), (.int (nar .byte v28)), (.int (nar .byte v31))] : List Value).set (v2).toNatClampNeg (.int (nar .byte ((v60).toInt8.toInt32)))).set ((v2 + (1 : Int32))).toNatClampNeg (.int (nar .byte ((v61).toInt8.toInt32)))) (.int (0 : Int32)) := Arv.set Ar66 q66 S66 Ng66 H66 G66 (fits_nar_byte _) W67 ((v2 + (1 : Int32))).toNatClampNeg rfl (by simpa using (own_j1 own_h4).2)
        have N67 := Fr.snoc X67 N65 g_b9
        have Z67 : n0 ≤ h67.size := Nat.le_trans Z65 (Nat.le_of_eq W67.size.symm)
        show Go p e below _ (T67.setTop (mkF m 348 #[.val (.int p1), .val (.int p2), .val (.int p3), .val (.int p4), .val (.int v1), .val (.int v2), .val (.int v3), .val (.int z8), .val (.ref b9), .val (.int (4 : Int32)), .val (.int v60), .val (.int v61), .val (.int v62), .val (.int v63)] []))
        refine go (fun _ q => XS.iload X67.here hx rfl (hb hby at_348) rfl q) ?_
        show Go p e below _ (T67.setTop (mkF m 350 #[.val (.int p1), .val (.int p2), .val (.int p3), .val (.int p4), .val (.int v1), .val (.int v2), .val (.int v3), .val (.int z8), .val (.ref b9), .val (.int (4 : Int32)), .val (.int v60), .val (.int v61), .val (.int v62), .val (.int v63)] [(.int (4 : Int32))]))
        refine go (fun _ q => XS.iconst X67.here hx rfl (hb hby at_350) q) ?_
        show Go p e below _ (T67.setTop (mkF m 351 #[.val (.int p1), .val (.int p2), .val (.int p3), .val (.int p4), .val (.int v1), .val (.int v2), .val (.int v3), .val (.int z8), .val (.ref b9), .val (.int (4 : Int32)), .val (.int v60), .val (.int v61), .val (.int v62), .val (.int v63)] [(.int (2 : Int32)), (.int (4 : Int32))]))
        refine go (fun _ q => XS.icmpNo X67.here hx rfl (hb hby at_351) rfl (tlt (by decide : (2 : Int32) < (4 : Int32))).2.2.2 q) ?_
        show Go p e below _ (T67.setTop (mkF m 354 #[.val (.int p1), .val (.int p2), .val (.int p3), .val (.int p4), .val (.int v1), .val (.int v2), .val (.int v3), .val (.int z8), .val (.ref b9), .val (.int (4 : Int32)), .val (.int v60), .val (.int v61), .val (.int v62), .val (.int v63)] []))
        refine go (fun _ q => XS.aload X67.here hx rfl (hb hby at_354) rfl rfl q) ?_
        show Go p e below _ (T67.setTop (mkF m 356 #[.val (.int p1), .val (.int p2), .val (.int p3), .val (.int p4), .val (.int v1), .val (.int v2), .val (.int v3), .val (.int z8), .val (.ref b9), .val (.int (4 : Int32)), .val (.int v60), .val (.int v61), .val (.int v62), .val (.int v63)] [(.ref b9)]))
        refine go (fun _ q => XS.iload X67.here hx rfl (hb hby at_356) rfl q) ?_
        show Go p e below _ (T67.setTop (mkF m 358 #[.val (.int p1), .val (.int p2), .val (.int p3), .val (.int p4), .val (.int v1), .val (.int v2), .val (.int v3), .val (.int z8), .val (.ref b9), .val (.int (4 : Int32)), .val (.int v60), .val (.int v61), .val (.int v62), .val (.int v63)] [(.int v2), (.ref b9)]))
        refine go (fun _ q => XS.iconst X67.here hx rfl (hb hby at_358) q) ?_
        show Go p e below _ (T67.setTop (mkF m 359 #[.val (.int p1), .val (.int p2), .val (.int p3), .val (.int p4), .val (.int v1), .val (.int v2), .val (.int v3), .val (.int z8), .val (.ref b9), .val (.int (4 : Int32)), .val (.int v60), .val (.int v61), .val (.int v62), .val (.int v63)] [(.int (2 : Int32)), (.int v2), (.ref b9)]))
        refine go (fun _ q => XS.iadd X67.here hx rfl (hb hby at_359) rfl q) ?_
        show Go p e below _ (T67.setTop (mkF m 360 #[.val (.int p1), .val (.int p2), .val (.int p3), .val (.int p4), .val (.int v1), .val (.int v2), .val (.int v3), .val (.int z8), .val (.ref b9), .val (.int (4 : Int32)), .val (.int v60), .val (.int v61), .val (.int v62), .val (.int v63)] [(.int (v2 + (2 : Int32))), (.ref b9)]))
        refine go (fun _ q => XS.iload X67.here hx rfl (hb hby at_360) rfl q) ?_
        show Go p e below _ (T67.setTop (mkF m 362 #[.val (.int p1), .val (.int p2), .val (.int p3), .val (.int p4), .val (.int v1), .val (.int v2), .val (.int v3), .val (.int z8), .val (.ref b9), .val (.int (4 : Int32)), .val (.int v60), .val (.int v61), .val (.int v62), .val (.int v63)] [(.int v62), (.int (v2 + (2 : Int32))), (.ref b9)]))
        refine go (fun _ q => XS.i2b X67.here hx rfl (hb hby at_362) rfl q) ?_
        show Go p e below _ (T67.setTop (mkF m 363 #[.val (.int p1), .val (.int p2), .val (.int p3), .val (.int p4), .val (.int v1), .val (.int v2), .val (.int v3), .val (.int z8), .val (.ref b9), .val (.int (4 : Int32)), .val (.int v60), .val (.int v61), .val (.int v62), .val (.int v63)] [(.int ((v62).toInt8.toInt32)), (.int (v2 + (2 : Int32))), (.ref b9)]))
        obtain ⟨cl68, Ar68, q68, S68, Ng68, H68, G68⟩ := id V_b9_67
        obtain ⟨T69, h69, X69, e69, W69, st69⟩ := stB X67 hx hZ e67 Ar68 (j := (v2 + (2 : Int32))) (inb_of S68 (own_j2 own_h4).1) (g := (mkF m 363 #[.val (.int p1), .val (.int p2), .val (.int p3), .val (.int p4), .val (.int v1), .val (.int v2), .val (.int v3), .val (.int z8), .val (.ref b9), .val (.int (4 : Int32)), .val (.int v60), .val (.int v61), .val (.int v62), .val (.int v63)] [(.int ((v62).toInt8.toInt32)), (.int (v2 + (2 : Int32))), (.ref b9)])) rfl rfl (hb hby at_363)
        refine go st69 ?_
        have V_b9_69 : Arv Z h69 b9 k9 .byte (8 : Int32) (((([(.int (nar .byte v10)), (.int (nar .byte v13)), (.int (nar .byte v16)), (.int (nar .byte v19)), (.int (nar .byte v22)), (.int (nar .byte v25)), (.int (nar .byte v28)), (.int (nar .byte v31))] : List Value).set (v2).toNatClampNeg (.int (nar .byte ((v60).toInt8.toInt32)))).set ((v2 + (1 : Int32))).toNatClampNeg (.int (nar .byte ((v61).toInt8.toInt32)))).set ((v2 + (2 : Int32))).toNatClampNeg (.int (nar .byte ((v62).toInt8.toInt32)))) (.int (0 : Int32)) := Arv.set Ar68 q68 S68 Ng68 H68 G68 (fits_nar_byte _) W69 ((v2 + (2 : Int32))).toNatClampNeg rfl (by simpa using (own_j2 own_h4).2)
        have N69 := Fr.snoc X69 N67 g_b9
        have Z69 : n0 ≤ h69.size := Nat.le_trans Z67 (Nat.le_of_eq W69.size.symm)
        show Go p e below _ (T69.setTop (mkF m 364 #[.val (.int p1), .val (.int p2), .val (.int p3), .val (.int p4), .val (.int v1), .val (.int v2), .val (.int v3), .val (.int z8), .val (.ref b9), .val (.int (4 : Int32)), .val (.int v60), .val (.int v61), .val (.int v62), .val (.int v63)] []))
        refine go (fun _ q => XS.iload X69.here hx rfl (hb hby at_364) rfl q) ?_
        show Go p e below _ (T69.setTop (mkF m 366 #[.val (.int p1), .val (.int p2), .val (.int p3), .val (.int p4), .val (.int v1), .val (.int v2), .val (.int v3), .val (.int z8), .val (.ref b9), .val (.int (4 : Int32)), .val (.int v60), .val (.int v61), .val (.int v62), .val (.int v63)] [(.int (4 : Int32))]))
        refine go (fun _ q => XS.iconst X69.here hx rfl (hb hby at_366) q) ?_
        show Go p e below _ (T69.setTop (mkF m 367 #[.val (.int p1), .val (.int p2), .val (.int p3), .val (.int p4), .val (.int v1), .val (.int v2), .val (.int v3), .val (.int z8), .val (.ref b9), .val (.int (4 : Int32)), .val (.int v60), .val (.int v61), .val (.int v62), .val (.int v63)] [(.int (3 : Int32)), (.int (4 : Int32))]))
        refine go (fun _ q => XS.icmpNo X69.here hx rfl (hb hby at_367) rfl (tlt (by decide : (3 : Int32) < (4 : Int32))).2.2.2 q) ?_
        show Go p e below _ (T69.setTop (mkF m 370 #[.val (.int p1), .val (.int p2), .val (.int p3), .val (.int p4), .val (.int v1), .val (.int v2), .val (.int v3), .val (.int z8), .val (.ref b9), .val (.int (4 : Int32)), .val (.int v60), .val (.int v61), .val (.int v62), .val (.int v63)] []))
        refine go (fun _ q => XS.aload X69.here hx rfl (hb hby at_370) rfl rfl q) ?_
        show Go p e below _ (T69.setTop (mkF m 372 #[.val (.int p1), .val (.int p2), .val (.int p3), .val (.int p4), .val (.int v1), .val (.int v2), .val (.int v3), .val (.int z8), .val (.ref b9), .val (.int (4 : Int32)), .val (.int v60), .val (.int v61), .val (.int v62), .val (.int v63)] [(.ref b9)]))
        refine go (fun _ q => XS.iload X69.here hx rfl (hb hby at_372) rfl q) ?_
        show Go p e below _ (T69.setTop (mkF m 374 #[.val (.int p1), .val (.int p2), .val (.int p3), .val (.int p4), .val (.int v1), .val (.int v2), .val (.int v3), .val (.int z8), .val (.ref b9), .val (.int (4 : Int32)), .val (.int v60), .val (.int v61), .val (.int v62), .val (.int v63)] [(.int v2), (.ref b9)]))
        refine go (fun _ q => XS.iconst X69.here hx rfl (hb hby at_374) q) ?_
        show Go p e below _ (T69.setTop (mkF m 375 #[.val (.int p1), .val (.int p2), .val (.int p3), .val (.int p4), .val (.int v1), .val (.int v2), .val (.int v3), .val (.int z8), .val (.ref b9), .val (.int (4 : Int32)), .val (.int v60), .val (.int v61), .val (.int v62), .val (.int v63)] [(.int (3 : Int32)), (.int v2), (.ref b9)]))
        refine go (fun _ q => XS.iadd X69.here hx rfl (hb hby at_375) rfl q) ?_
        show Go p e below _ (T69.setTop (mkF m 376 #[.val (.int p1), .val (.int p2), .val (.int p3), .val (.int p4), .val (.int v1), .val (.int v2), .val (.int v3), .val (.int z8), .val (.ref b9), .val (.int (4 : Int32)), .val (.int v60), .val (.int v61), .val (.int v62), .val (.int v63)] [(.int (v2 + (3 : Int32))), (.ref b9)]))
        refine go (fun _ q => XS.iload X69.here hx rfl (hb hby at_376) rfl q) ?_
        show Go p e below _ (T69.setTop (mkF m 378 #[.val (.int p1), .val (.int p2), .val (.int p3), .val (.int p4), .val (.int v1), .val (.int v2), .val (.int v3), .val (.int z8), .val (.ref b9), .val (.int (4 : Int32)), .val (.int v60), .val (.int v61), .val (.int v62), .val (.int v63)] [(.int v63), (.int (v2 + (3 : Int32))), (.ref b9)]))
        refine go (fun _ q => XS.i2b X69.here hx rfl (hb hby at_378) rfl q) ?_
        show Go p e below _ (T69.setTop (mkF m 379 #[.val (.int p1), .val (.int p2), .val (.int p3), .val (.int p4), .val (.int v1), .val (.int v2), .val (.int v3), .val (.int z8), .val (.ref b9), .val (.int (4 : Int32)), .val (.int v60), .val (.int v61), .val (.int v62), .val (.int v63)] [(.int ((v63).toInt8.toInt32)), (.int (v2 + (3 : Int32))), (.ref b9)]))
        obtain ⟨cl70, Ar70, q70, S70, Ng70, H70, G70⟩ := id V_b9_69
        obtain ⟨T71, h71, X71, e71, W71, st71⟩ := stB X69 hx hZ e69 Ar70 (j := (v2 + (3 : Int32))) (inb_of S70 (own_j3 own_h4).1) (g := (mkF m 379 #[.val (.int p1), .val (.int p2), .val (.int p3), .val (.int p4), .val (.int v1), .val (.int v2), .val (.int v3), .val (.int z8), .val (.ref b9), .val (.int (4 : Int32)), .val (.int v60), .val (.int v61), .val (.int v62), .val (.int v63)] [(.int ((v63).toInt8.toInt32)), (.int (v2 + (3 : Int32))), (.ref b9)])) rfl rfl (hb hby at_379)
        refine go st71 ?_
        have V_b9_71 : Arv Z h71 b9 k9 .byte (8 : Int32) ((((([(.int (nar .byte v10)), (.int (nar .byte v13)), (.int (nar .byte v16)), (.int (nar .byte v19)), (.int (nar .byte v22)), (.int (nar .byte v25)), (.int (nar .byte v28)), (.int (nar .byte v31))] : List Value).set (v2).toNatClampNeg (.int (nar .byte ((v60).toInt8.toInt32)))).set ((v2 + (1 : Int32))).toNatClampNeg (.int (nar .byte ((v61).toInt8.toInt32)))).set ((v2 + (2 : Int32))).toNatClampNeg (.int (nar .byte ((v62).toInt8.toInt32)))).set ((v2 + (3 : Int32))).toNatClampNeg (.int (nar .byte ((v63).toInt8.toInt32)))) (.int (0 : Int32)) := Arv.set Ar70 q70 S70 Ng70 H70 G70 (fits_nar_byte _) W71 ((v2 + (3 : Int32))).toNatClampNeg rfl (by simpa using (own_j3 own_h4).2)
        have N71 := Fr.snoc X71 N69 g_b9
        have Z71 : n0 ≤ h71.size := Nat.le_trans Z69 (Nat.le_of_eq W71.size.symm)
        show Go p e below _ (T71.setTop (mkF m 380 #[.val (.int p1), .val (.int p2), .val (.int p3), .val (.int p4), .val (.int v1), .val (.int v2), .val (.int v3), .val (.int z8), .val (.ref b9), .val (.int (4 : Int32)), .val (.int v60), .val (.int v61), .val (.int v62), .val (.int v63)] []))
        refine go (fun _ q => XS.aload X71.here hx rfl (hb hby at_380) rfl rfl q) ?_
        show Go p e below _ (T71.setTop (mkF m 382 #[.val (.int p1), .val (.int p2), .val (.int p3), .val (.int p4), .val (.int v1), .val (.int v2), .val (.int v3), .val (.int z8), .val (.ref b9), .val (.int (4 : Int32)), .val (.int v60), .val (.int v61), .val (.int v62), .val (.int v63)] [(.ref b9)]))
        refine go (fun _ q => XS.iload X71.here hx rfl (hb hby at_382) rfl q) ?_
        show Go p e below _ (T71.setTop (mkF m 384 #[.val (.int p1), .val (.int p2), .val (.int p3), .val (.int p4), .val (.int v1), .val (.int v2), .val (.int v3), .val (.int z8), .val (.ref b9), .val (.int (4 : Int32)), .val (.int v60), .val (.int v61), .val (.int v62), .val (.int v63)] [(.int v2), (.ref b9)]))
        refine go (fun _ q => XS.iload X71.here hx rfl (hb hby at_384) rfl q) ?_
        show Go p e below _ (T71.setTop (mkF m 386 #[.val (.int p1), .val (.int p2), .val (.int p3), .val (.int p4), .val (.int v1), .val (.int v2), .val (.int v3), .val (.int z8), .val (.ref b9), .val (.int (4 : Int32)), .val (.int v60), .val (.int v61), .val (.int v62), .val (.int v63)] [(.int (4 : Int32)), (.int v2), (.ref b9)]))
        obtain ⟨clx, Arx, qx, Sx, Ngx, Hx, Gx⟩ := id V_b9_71
        refine own_callS X71 hx hZ hown e71 (hw _ (List.mem_of_getElem? (i := 4) rfl)) (hw _ (List.mem_of_getElem? (i := 5) rfl)) (hw _ (List.mem_of_getElem? (i := 6) rfl)) (hw _ (List.mem_of_getElem? (i := 7) rfl)) (rm1_4 l Z a0 hw [] b9 v2 h71 n0 own_h4 Arx Sx (by rcases own_h4 with rfl | rfl | rfl | rfl <;> exact Hx _ (by rw [Sx]; decide)) (by rcases own_h4 with rfl | rfl | rfl | rfl <;> exact Hx _ (by rw [Sx]; decide)) (by rcases own_h4 with rfl | rfl | rfl | rfl <;> exact Hx _ (by rw [Sx]; decide)) (by rcases own_h4 with rfl | rfl | rfl | rfl <;> exact Hx _ (by rw [Sx]; decide))) (by decide) (by decide) (W := 0) (by decide) (by decide) (by decide) (g := (mkF m 386 #[.val (.int p1), .val (.int p2), .val (.int p3), .val (.int p4), .val (.int v1), .val (.int v2), .val (.int v3), .val (.int z8), .val (.ref b9), .val (.int (4 : Int32)), .val (.int v60), .val (.int v61), .val (.int v62), .val (.int v63)] [(.int (4 : Int32)), (.int v2), (.ref b9)])) rfl (by rw [hml]; rfl) (argsL := [(.ref b9), (.int v2), (.int (4 : Int32))]) (rest := []) rfl rfl (lenOf pd_0_0 rfl) (by show 2 * 0 + _ ≤ _; exact Nat.le_of_eq rfl) (hb hby at_386) ?_
        rintro _ T72 L72 X72 ⟨rfl, N72q, e72⟩
        have N72 := Fr.app N71 N72q
        show Go p e below _ (T72.setTop (mkF m 389 #[.val (.int p1), .val (.int p2), .val (.int p3), .val (.int p4), .val (.int v1), .val (.int v2), .val (.int v3), .val (.int z8), .val (.ref b9), .val (.int (4 : Int32)), .val (.int v60), .val (.int v61), .val (.int v62), .val (.int v63)] [(.int (g4 (nar .byte ((v60).toInt8.toInt32)) (nar .byte ((v61).toInt8.toInt32)) (nar .byte ((v62).toInt8.toInt32)) (nar .byte ((v63).toInt8.toInt32))))]))
        refine go (fun _ q => XS.iload X72.here hx rfl (hb hby at_389) rfl q) ?_
        show Go p e below _ (T72.setTop (mkF m 391 #[.val (.int p1), .val (.int p2), .val (.int p3), .val (.int p4), .val (.int v1), .val (.int v2), .val (.int v3), .val (.int z8), .val (.ref b9), .val (.int (4 : Int32)), .val (.int v60), .val (.int v61), .val (.int v62), .val (.int v63)] [(.int z8), (.int (g4 (nar .byte ((v60).toInt8.toInt32)) (nar .byte ((v61).toInt8.toInt32)) (nar .byte ((v62).toInt8.toInt32)) (nar .byte ((v63).toInt8.toInt32))))]))
        have hk73 : (g4 (nar .byte ((v60).toInt8.toInt32)) (nar .byte ((v61).toInt8.toInt32)) (nar .byte ((v62).toInt8.toInt32)) (nar .byte ((v63).toInt8.toInt32))) = z8 := own_main4 own_r hc34 hc39 hc48 hv60 hv61 hv62 hv63
        refine go (fun _ q => XS.icmpNo X72.here hx rfl (hb hby at_391) rfl (teq hk73).2 q) ?_
        show Go p e below _ (T72.setTop (mkF m 394 #[.val (.int p1), .val (.int p2), .val (.int p3), .val (.int p4), .val (.int v1), .val (.int v2), .val (.int v3), .val (.int z8), .val (.ref b9), .val (.int (4 : Int32)), .val (.int v60), .val (.int v61), .val (.int v62), .val (.int v63)] []))
        refine go (fun _ q => XS.iconst X72.here hx rfl (hb hby at_394) q) ?_
        show Go p e below _ (T72.setTop (mkF m 395 #[.val (.int p1), .val (.int p2), .val (.int p3), .val (.int p4), .val (.int v1), .val (.int v2), .val (.int v3), .val (.int z8), .val (.ref b9), .val (.int (4 : Int32)), .val (.int v60), .val (.int v61), .val (.int v62), .val (.int v63)] [(.int (1 : Int32))]))
        refine go (fun _ q => XS.goto X72.here hx rfl (pc0 := 395) (pc' := 399) rfl (hb hby at_395) (by decide) (by decide) q) ?_
        show Go p e below _ (T72.setTop (mkF m 399 #[.val (.int p1), .val (.int p2), .val (.int p3), .val (.int p4), .val (.int v1), .val (.int v2), .val (.int v3), .val (.int z8), .val (.ref b9), .val (.int (4 : Int32)), .val (.int v60), .val (.int v61), .val (.int v62), .val (.int v63)] [(.int (1 : Int32))]))
        exact own_retZ (z' := (1 : Int32)) X72 hx hlk hret (hb hby at_399) (by decide) (by decide) rfl ⟨rfl, N72⟩
set_option maxRecDepth 65536 in
set_option maxHeartbeats 40000000 in
theorem comes_1 {Post : Tables → Env → Array Value → State → Outcome → State → Prop} (hpost : ∀ tb e args s v u, (limb_1_1.after args s (.returned v) u = true ∧ limb_1_2.after args s (.returned v) u = true ∧ True) → FrameEnd s (.returned v) u (Jvm.fieldLocs frame_1_writes args s ++ Jvm.arrayLocs frame_1_arrays args s ++ Jvm.staticLocs frame_1_statics s) 16 128 → Post tb e args s (.returned v) u) :
    ArmFor flags0 classFile x code maxLocals ret World_1 tables_1 room_1 Calls_1 rest_1 Pre_1 Post := by
  intro l hfl _ _ p e ha hc hk s m args below hf hA hF happ hP
  obtain ⟨hcalls, hrest, hpre⟩ := hP
  obtain ⟨-, -, -, hnamed, -, -, -, hat⟩ := (Spec.applies_iff hf).mp happ
  obtain ⟨hg, hn⟩ := and_e (Cond.before_iff.mp (show (Jvm.Cond.and given_1 narrow_1).before args s = true from hpre))
  obtain ⟨gc, g0⟩ := and_e hg
  obtain ⟨ga0, g1⟩ := and_e g0
  obtain ⟨ga1, g2⟩ := and_e g1
  obtain ⟨ga2, g3⟩ := and_e g2
  have ga3 := g3
  obtain ⟨w0, w1, w2, w3, rfl⟩ : ∃ w0 w1 w2 w3 : Value, args = #[w0, w1, w2, w3] := by
    have hs : args.size = 4 := by simpa [Cond.value, given_1] using gc
    obtain ⟨L⟩ := args
    match L, hs with
    | [w0, w1, w2, w3], _ => exact ⟨w0, w1, w2, w3, rfl⟩
  have hw := fun d (hd : d ∈ tables_1) => atoms_spec (ws := Jvm.Cond.code x code maxLocals ret :: tables_1) hat d (List.mem_cons_of_mem _ hd)
  obtain ⟨i0, ei0⟩ := is_v ga0
  obtain rfl : w0 = (.int i0) := Option.some.inj ei0
  obtain ⟨i1, ei1⟩ := is_v ga1
  obtain rfl : w1 = (.int i1) := Option.some.inj ei1
  obtain ⟨i2, ei2⟩ := is_v ga2
  obtain rfl : w2 = (.int i2) := Option.some.inj ei2
  obtain ⟨i3, ei3⟩ := is_v ga3
  obtain rfl : w3 = (.int i3) := Option.some.inj ei3
  obtain ⟨n, o, h1, h2, h3, _, L, rfl, ⟨rfl, N⟩, hq⟩ := rm0 l s _ hw tables_1 i0 i1 i2 i3 s.heap s.heap.size (Nat.le_refl _) p e ha hc hk s m _ below hf ((Spec.applies_iff_loose hf).mp happ).1 ⟨rfl, State.Warmed39.refl s, rfl⟩ trivial
  refine ⟨n, _, h1, h2, h3, hpost _ _ _ _ _ _ ⟨Cond.after_iff.mpr rfl, Cond.after_iff.mpr (eq_i res_at (Term.int_eval (1)) rfl), trivial⟩ ⟨hq.1, hq.2.1, (hq.2.2.sift fun y hy => Or.inr (N y hy)).mono (by decide) (by decide)⟩⟩
theorem main_1_1 : Claimed_1_1 := comes_1 fun _ _ _ _ _ _ h hF => ⟨h.1, hF⟩
theorem main_1_2 : Claimed_1_2 := comes_1 fun _ _ _ _ _ _ h hF => ⟨h.2.1, hF⟩
end Jvm.Pilot.@@N@@
namespace Jvm.Pilot.@@N@@
open Jvm Jvm.ClassFile Sem Op Lib Jvm.Free Jvm.Stand Jvm.Pilot.@@N@@.Jvm.D
/-! MADE BY PROGRAM (witnessworld.py) out of the Statement's table words and the real class files: 9 classes; the members and pool entries that the words name. The judged class is class 1, her method 1. -/
namespace start1
open Jvm.ClassFile
def u (s : String) : CpInfo := .utf8 (stringToUtf16 s)
/-- a pool by its gaps: so many unusable entries, then the entry; so many at the end -/
def gap : Nat → List CpInfo → List CpInfo
  | 0, r => r
  | n + 1, r => .unusable :: gap n r
def poolList (es : List (Nat × CpInfo)) (last : Nat) : List CpInfo := es.foldr (fun e r => gap e.1 (e.2 :: r)) (gap last [])
def pool (es : List (Nat × CpInfo)) (last : Nat) : Array CpInfo := ⟨poolList es last⟩
def fileOf (pool : Array CpInfo) (this : Nat) (attrs : Array Attribute := #[]) (ms : Array MethodInfo := #[]) (fl : Nat := 33) (sup : Nat := 0) (ifs : Array Nat := #[]) (fds : Array FieldInfo := #[]) : ClassFile where
  minorVersion := 0
  majorVersion := 65
  constantPool := pool
  accessFlags := fl
  thisClass := this
  superClass := sup
  interfaces := ifs
  fields := fds
  methods := ms
  attributes := attrs
def plain (name : String) (sup : Option ClassId) : Class where
  name := name
  kind := .ordinary
  loader := none
  accessFlags := 33
  super := sup
  interfaces := #[]
  cf := none
  fields := #[]
  methods := #[]
  instanceTypes := #[]
  staticTypes := #[]
  resolved := #[]
  callSites := []
  init := .initialized
  statics := none
  mirror := none

def pool0 : Array CpInfo := pool [(5, u "<init>"), (0, u "()V"), (1, .class_ 10), (1, u "java/lang/Object")] 113

def k0m0 : Method := { name := "<init>", desc := "()V", sig := { parameters := [], returnType := none }, accessFlags := 1, code := none }
/-- java/lang/Object -/
def k0 : Class := { plain "java/lang/Object" none with
  accessFlags := 33
  interfaces := #[]
  cf := some (fileOf pool0 8 #[] #[{ accessFlags := 1, nameIndex := 5, descriptorIndex := 6, attributes := #[] }] 33 0 #[] #[])
  fields := #[]
  methods := #[k0m0]
  instanceTypes := #[]
  staticTypes := #[]
  resolved := Array.replicate 124 none
  statics := none }

def pool1 : Array CpInfo := pool [(2, .class_ 4), (1, u "java/lang/Object"), (0, u "<init>"), (0, u "()V"), (0, .integer 2147483647), (0, .integer 63488), (0, .integer 65536), (0, .integer 1048576), (0, .methodref 12 13), (0, .class_ 14), (0, .nameAndType 15 16), (0, u "com/example/skipstone/skipstone/Utf8"), (0, u "codePoint"), (0, u "([BII)I"), (0, .class_ 18), (0, u "com/example/skipstone/skipstone/Utf8CodePointPinLaw"), (2, u "law"), (0, u "(IIII)Z")] 5

def k1m0 : Method := { name := "<init>", desc := "()V", sig := { parameters := [], returnType := none }, accessFlags := 2, code := none }
def k1c1 : Code := { maxStack := 4, maxLocals := 14, code := code, exceptionTable := #[], attributes := #[] }
def k1m1 : Method := { name := "law", desc := "(IIII)Z", sig := { parameters := [.int, .int, .int, .int], returnType := some .boolean }, accessFlags := 9, code := some k1c1 }
/-- com/example/skipstone/skipstone/Utf8CodePointPinLaw -/
def k1 : Class := { plain "com/example/skipstone/skipstone/Utf8CodePointPinLaw" (some 0) with
  accessFlags := 49
  interfaces := #[]
  cf := some (fileOf pool1 17 #[] #[{ accessFlags := 2, nameIndex := 5, descriptorIndex := 6, attributes := #[] }, { accessFlags := 9, nameIndex := 21, descriptorIndex := 22, attributes := #[] }] 49 2 #[] #[])
  fields := #[]
  methods := #[k1m0, k1m1]
  instanceTypes := #[]
  staticTypes := #[]
  resolved := Array.replicate 28 none
  statics := none }

def pool2 : Array CpInfo := pool [(2, .class_ 4), (1, u "java/lang/Object"), (0, u "<init>"), (0, u "()V"), (0, .class_ 8), (0, u "com/example/skipstone/skipstone/Utf8"), (5, u "codePoint"), (0, u "([BII)I")] 2

def k2m0 : Method := { name := "<init>", desc := "()V", sig := { parameters := [], returnType := none }, accessFlags := 2, code := none }
def k2c1 : Code := { maxStack := 4, maxLocals := 6, code := prog_143_method_3_code, exceptionTable := #[], attributes := #[] }
def k2m1 : Method := { name := "codePoint", desc := "([BII)I", sig := { parameters := [(.array .byte), .int, .int], returnType := some .int }, accessFlags := 8, code := some k2c1 }
/-- com/example/skipstone/skipstone/Utf8 -/
def k2 : Class := { plain "com/example/skipstone/skipstone/Utf8" (some 0) with
  accessFlags := 48
  interfaces := #[]
  cf := some (fileOf pool2 7 #[] #[{ accessFlags := 2, nameIndex := 5, descriptorIndex := 6, attributes := #[] }, { accessFlags := 8, nameIndex := 14, descriptorIndex := 15, attributes := #[] }] 48 2 #[] #[])
  fields := #[]
  methods := #[k2m0, k2m1]
  instanceTypes := #[]
  staticTypes := #[]
  resolved := Array.replicate 18 none
  statics := none }

def pool3 : Array CpInfo := pool [(1, u "java/lang/Cloneable"), (0, .class_ 1), (0, u "java/lang/Object"), (0, .class_ 3)] 3

/-- java/lang/Cloneable -/
def k3 : Class := { plain "java/lang/Cloneable" (some 0) with
  accessFlags := 1537
  interfaces := #[]
  cf := some (fileOf pool3 2 #[] #[] 1537 4 #[] #[])
  fields := #[]
  methods := #[]
  instanceTypes := #[]
  staticTypes := #[]
  resolved := Array.replicate 8 none
  statics := none }

def pool4 : Array CpInfo := pool [(1, u "java/io/Serializable"), (0, .class_ 1), (0, u "java/lang/Object"), (0, .class_ 3)] 3

/-- java/io/Serializable -/
def k4 : Class := { plain "java/io/Serializable" (some 0) with
  accessFlags := 1537
  interfaces := #[]
  cf := some (fileOf pool4 2 #[] #[] 1537 4 #[] #[])
  fields := #[]
  methods := #[]
  instanceTypes := #[]
  staticTypes := #[]
  resolved := Array.replicate 8 none
  statics := none }

/-- the primitive byte -/
def k5 : Class := { plain "byte" none with kind := .primitive 'B', accessFlags := 0x411 }
/-- [B -/
def k6 : Class := { plain "[B" (some 0) with kind := .array 5 .byte, interfaces := #[3, 4], accessFlags := 1041 }

/-- the primitive int -/
def k7 : Class := { plain "int" none with kind := .primitive 'I', accessFlags := 0x411 }
/-- [I -/
def k8 : Class := { plain "[I" (some 0) with kind := .array 7 .int, interfaces := #[3, 4], accessFlags := 1041 }

def heap : Heap := #[]
def classes : Array Class := #[k0, k1, k2, k3, k4, k5, k6, k7, k8]
def interned : List (Array UInt16 × Addr) := []
def slotsUsed : Nat := 0
def theMethod : MethodId := ⟨1, 1⟩
def args0 : Array Value := #[.int 5, .int 300, .int 7, .int 9]
def aboutOver (below : List Frame) : State where
  vm := { classes := classes, interned := interned.toArray }
  heap := heap
  slotsUsed := slotsUsed
  threads := #[{ frames := .invoking theMethod args0 :: below }]
def below0 : List Frame := [.native { method := ⟨0, 0⟩, args := #[] }]
def about1 : State := aboutOver below0
def p0 : Program := .bare "" "" ""
def e0 : Env := launch0.env 0 0 0
theorem w_frames : about1.frames = Frame.invoking theMethod args0 :: below0 := rfl
set_option maxRecDepth 65536 in
theorem w_args : argsFit about1.vm theMethod args0 = true := by decide +kernel
set_option maxRecDepth 65536 in
theorem w_heap : heapFits about1 = true := by decide +kernel
set_option maxRecDepth 65536 in
theorem w_runnable : about1.curStatus? = some .runnable := by decide +kernel
set_option maxRecDepth 65536 in
theorem w_alone : about1.alone = true := by decide +kernel
set_option maxRecDepth 65536 in
theorem w_named : about1.methodNamed? x = some theMethod := by decide +kernel
set_option maxRecDepth 65536 in
theorem w_hears : about1.hears theMethod below0 = true := by decide +kernel
set_option maxRecDepth 65536 in
theorem w_ripe : about1.ripe theMethod args0 below0 = true := by decide +kernel
theorem w_running : about1.status = .running := rfl
set_option maxRecDepth 65536 in
theorem w_room : about1.hasRoom e0.platform room_1 = true :=
  launch0.hasRoom_least _ room_1 (by decide +kernel) (by decide +kernel) (by decide +kernel) (by decide +kernel) (by decide +kernel) (by decide +kernel)
theorem allAtoms_all (ts : List Jvm.Cond) (a : Array Jvm.Value) (st : Jvm.State) : (allAtoms ts).before a st = ts.all (fun c => c.before a st) := by
  induction ts with
  | nil => rfl
  | cons c t ih =>
    show (Jvm.Cond.and c (allAtoms t)).before a st = _
    rw [Jvm.Cond.before_and, ih, List.all_cons]
def words1 : List Jvm.Cond := Jvm.Cond.code x code maxLocals ret :: tables_1
/-- a 'code' word, met by the world's own term for the bytes: nothing is compared byte by byte -/
theorem code_word {y : MethodName} {bytes : ByteArray} {mx : Nat} {rt : Option FieldType} {a : Array Value} {s : State} {m : MethodId} {meth : Method} {c : Code} (h1 : s.methodNamed? y = some m) (h2 : s.vm.method? m = some meth) (h3 : meth.code = some c) (h4 : c.code = bytes)
    (h5 : (c.maxLocals == mx && c.exceptionTable.isEmpty && decide (c.maxStack ≤ mostOperands) && decide (meth.sig.returnType = rt) && !meth.locks && decide (parseMethodDescriptor y.desc = some meth.sig)) = true) : (Jvm.Cond.code y bytes mx rt).before a s = true := by
  simp only [Bool.and_eq_true, beq_iff_eq, Bool.not_eq_true', decide_eq_true_eq] at h5
  obtain ⟨⟨⟨⟨⟨g1, g2⟩, g3⟩, g4⟩, g5⟩, g6⟩ := h5
  simp [Cond.before, Cond.holds, Cond.value, h1, h2, h3, h4, g1, g2, g3, g4, g5, g6]
def isCode : Jvm.Cond → Bool
  | .code _ _ _ _ => true
  | _ => false
theorem all_split {L : List Jvm.Cond} {P : Jvm.Cond → Bool} (h1 : L.all (fun c => isCode c || P c) = true) (h2 : ∀ c ∈ L.filter isCode, P c = true) : L.all P = true := by
  refine List.all_eq_true.mpr fun c hc => ?_
  have h := List.all_eq_true.mp h1 c hc
  rcases Bool.eq_false_or_eq_true (isCode c) with hi | hi
  · exact h2 c (List.mem_filter.mpr ⟨hc, hi⟩)
  · simpa [hi] using h
set_option maxRecDepth 65536 in
theorem w_c0 : (Jvm.Cond.code x code maxLocals ret).before args0 about1 = true := code_word (m := ⟨1, 1⟩) (meth := k1m1) (c := k1c1) (by decide +kernel) rfl rfl rfl (by decide +kernel)
set_option maxRecDepth 65536 in
theorem w_c1 : (Jvm.Cond.code ({ cls := "com/example/skipstone/skipstone/Utf8", name := "codePoint", desc := "([BII)I" } : Jvm.MethodName) prog_143_method_3_code (6 : Nat) (Option.some Jvm.ClassFile.FieldType.int)).before args0 about1 = true := code_word (m := ⟨2, 1⟩) (meth := k2m1) (c := k2c1) (by decide +kernel) rfl rfl rfl (by decide +kernel)
def codes1 : List Jvm.Cond := [Jvm.Cond.code x code maxLocals ret, Jvm.Cond.code ({ cls := "com/example/skipstone/skipstone/Utf8", name := "codePoint", desc := "([BII)I" } : Jvm.MethodName) prog_143_method_3_code (6 : Nat) (Option.some Jvm.ClassFile.FieldType.int)]
set_option maxRecDepth 65536 in
theorem codes_eq : words1.filter isCode = codes1 := rfl
theorem w_codes : ∀ c ∈ words1.filter isCode, c.before args0 about1 = true := by
  rw [codes_eq]
  intro c hc
  simp only [codes1, List.mem_cons, List.not_mem_nil, or_false] at hc
  rcases hc with rfl | rfl
  · exact w_c0
  · exact w_c1
set_option maxRecDepth 65536 in
theorem w_t1 : words1.all (fun c => isCode c || c.before args0 about1) = true := by decide +kernel
theorem w_tables : (allAtoms (Jvm.Cond.code x code maxLocals ret :: tables_1)).before args0 about1 = true := by
  rw [allAtoms_all]
  show words1.all (fun c => c.before args0 about1) = true
  refine all_split ?_ w_codes
  rw [w_t1]
set_option maxRecDepth 65536 in
theorem w_case : (Jvm.Cond.and given_1 narrow_1).before args0 about1 = true := by decide +kernel
theorem w_applies : (headSpec (Jvm.Cond.code x code maxLocals ret :: tables_1) room_1).applies x e0.platform about1 = true :=
  (Spec.applies_iff w_frames).mpr ⟨w_running, w_runnable, w_alone, w_named, w_hears, w_ripe, w_room, w_tables⟩
theorem atStart : AtStart classFile x code maxLocals ret World_1 tables_1 room_1 Calls_1 rest_1 Pre_1 launch0 p0 e0 about1 theMethod args0 below0 :=
  ⟨lists_1, trivial, launch0.admits_env _ _ _, launch0.least_env, fairChoices_fair.cas, fairChoices_fair.clock, w_frames, w_args, w_heap, w_applies, trivial, trivial, w_case⟩
end start1
theorem witness_1 : WitnessClaimed_1 := ⟨start1.p0, start1.e0, start1.about1, start1.theMethod, start1.args0, start1.below0, start1.atStart⟩
end Jvm.Pilot.@@N@@
