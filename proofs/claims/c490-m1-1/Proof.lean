import JvmDerived
import JvmDerived.Pilot.@@N@@Statement
import JvmDerived.Pilot.@@N@@Code
set_option linter.unusedVariables false
set_option linter.unusedSimpArgs false
namespace Jvm.Pilot.@@N@@
open Jvm Jvm.ClassFile Sem Op Lib Jvm.Free Jvm.Stand Jvm.LawKit Jvm.RoadKit Bundle Jvm.Pilot.@@N@@.Jvm.D
/-! ## Own: a walk forward: from here the run comes to an end that K takes -/
section Own
variable {p : Program} {l : Launch} {e : Env} {R : Room} {s : State} {m : MethodId} {args : Array Value} {below : List Frame} {meth : Method} {c : Code} {T : State} {locs : List Loc} {cells slots : Nat} {K : State → Prop}
def Go (p : Program) (e : Env) (below : List Frame) (K : State → Prop) (S : State) : Prop := ∃ t, Steps p.tables e below S t ∧ K t
theorem go {S S' : State} (h : ∀ t, Steps p.tables e below S' t → Steps p.tables e below S t) (g : Go p e below K S') : Go p e below K S := by
  obtain ⟨t, h1, h2⟩ := g
  exact ⟨t, h t h1, h2⟩
/-- the end of a body: what is returned, the heap and the written places fulfil Q, within so many cells and slots -/
def Dn (below : List Frame) (s : State) (Q : Option Value → Heap → List Loc → Prop) (C N : Nat) (t : State) : Prop := ∃ v L, t.status = .running ∧ Ended t below (.returned v) ∧ Q v t.heap L ∧ FrameEnd s (.returned v) t L C N
variable {Q : Option Value → Heap → List Loc → Prop} {C N : Nat}
theorem own_retI (X : Stand p l e R s m args below meth c T locs cells slots) (hx : p.tables.exec = Jvm.exec) (hlk : meth.locks = false) {pc : Nat} {Ls : Array Slot} {z : Int32} {rest : List Value} (hret : meth.sig.returnType = some .int) (hd : decode c.code pc = .ok (.ireturn, 1))
    (hC : cells ≤ C) (hN : slots ≤ N) (hQ : Q (some (.int z)) T.heap locs) : Go p e below (Dn below s Q C N) (T.setTop (mkF m pc Ls (.int z :: rest))) := by
  obtain ⟨fs, hr, hrun, hended, hW, hsame⟩ := X.leave (v := some (.int z)) (fun h => by rw [hret] at h; cases h) hlk
  refine ⟨_, ?_, _, _, hrun, hended, hQ, ⟨_, rfl⟩, hW, hsame.mono hC hN⟩
  have hm' : T.vm.method? m = some meth := X.method'
  have hn : narrow .int (.int z) = .int z := rfl
  show Steps p.tables e below (T.setTop { method := m, pc := pc, locals := Ls, stack := _ :: rest, locked := none }) _
  jvm_step X.here [X.here.top, hx, hd, hm', hret, hn]
  first | (intro acts; rw [hr _ acts rfl rfl rfl]) | rw [hr _ _ rfl rfl rfl]
  exact Steps.refl _
theorem own_retZ (X : Stand p l e R s m args below meth c T locs cells slots) (hx : p.tables.exec = Jvm.exec) (hlk : meth.locks = false) {pc : Nat} {Ls : Array Slot} {z z' : Int32} {rest : List Value} (hret : meth.sig.returnType = some .boolean) (hd : decode c.code pc = .ok (.ireturn, 1))
    (hC : cells ≤ C) (hN : slots ≤ N) (hz : nar .boolean z = z') (hQ : Q (some (.int z')) T.heap locs) : Go p e below (Dn below s Q C N) (T.setTop (mkF m pc Ls (.int z :: rest))) := by
  subst hz
  obtain ⟨fs, hr, hrun, hended, hW, hsame⟩ := X.leave (v := some (.int (nar .boolean z))) (fun h => by rw [hret] at h; cases h) hlk
  exact ⟨_, retN X hx (t := .boolean) hret (by simp) hd hr, _, _, hrun, hended, hQ, ⟨_, rfl⟩, hW, hsame.mono hC hN⟩
theorem own_retJ (X : Stand p l e R s m args below meth c T locs cells slots) (hx : p.tables.exec = Jvm.exec) (hlk : meth.locks = false) {pc : Nat} {Ls : Array Slot} {z : Int64} (hret : meth.sig.returnType = some .long) (hd : decode c.code pc = .ok (.lreturn, 1))
    (hC : cells ≤ C) (hN : slots ≤ N) (hQ : Q (some (.long z)) T.heap locs) : Go p e below (Dn below s Q C N) (T.setTop (mkF m pc Ls [.long z])) := by
  obtain ⟨fs, hr, hrun, hended, hW, hsame⟩ := X.leave (v := some (.long z)) (fun h => by rw [hret] at h; cases h) hlk
  exact ⟨_, X.lreturnOut hx hret hd hr, _, _, hrun, hended, hQ, ⟨_, rfl⟩, hW, hsame.mono hC hN⟩
theorem own_retA (X : Stand p l e R s m args below meth c T locs cells slots) (hx : p.tables.exec = Jvm.exec) (hlk : meth.locks = false) {pc : Nat} {Ls : Array Slot} {w : Value} {t : FieldType} (hw : w.isRef = true) (hret : meth.sig.returnType = some t) (ht : t.isReference = true) (hd : decode c.code pc = .ok (.areturn, 1))
    (hC : cells ≤ C) (hN : slots ≤ N) (hQ : Q (some w) T.heap locs) : Go p e below (Dn below s Q C N) (T.setTop (mkF m pc Ls [w])) := by
  obtain ⟨fs, hr, hrun, hended, hW, hsame⟩ := X.leave (v := some w) (fun h => by rw [hret] at h; cases h) hlk
  exact ⟨_, X.areturnOut hx hw hret ht hd hr, _, _, hrun, hended, hQ, ⟨_, rfl⟩, hW, hsame.mono hC hN⟩
theorem own_retV (X : Stand p l e R s m args below meth c T locs cells slots) (hx : p.tables.exec = Jvm.exec) (hlk : meth.locks = false) {pc : Nat} {Ls : Array Slot} (hret : meth.sig.returnType = none) (hd : decode c.code pc = .ok (.return_, 1))
    (hC : cells ≤ C) (hN : slots ≤ N) (hQ : Q none T.heap locs) : Go p e below (Dn below s Q C N) (T.setTop (mkF m pc Ls [])) := by
  obtain ⟨fs, hr, hrun, hended, hW, hsame⟩ := X.leave (v := none) (fun _ => rfl) hlk
  exact ⟨_, X.returnOut hx hret hd hr, _, _, hrun, hended, hQ, ⟨_, rfl⟩, hW, hsame.mono hC hN⟩
theorem own_lrem {g : JFrame} {target : State} (X : Stand p l e R s m args below meth c T locs cells slots) (hx : p.tables.exec = Jvm.exec) (hg : g.method = m) {x y : Int64} {rest : List Value} (hd : decode c.code g.pc = .ok (.lrem, 1)) (hs : g.stack = .long y :: .long x :: rest) (hy : y ≠ 0)
    (hr : Steps p.tables e below (T.setTop { g with pc := g.pc + 1, stack := .long (x % y) :: rest }) target) : Steps p.tables e below (T.setTop g) target := by
  have q : x - x / y * y = x % y := lrem_mod x y
  exact XS.lrem X.here hx hg hd hs hy (by rw [q]; exact hr)
/-- what a body's walk is handed -/
theorem own_met {x : MethodName} {code : ByteArray} {maxL : Nat} {ret : Option FieldType} {ws : List Jvm.Cond} {as' : Array Value} {L0 : Array Slot} {Z : State} {h0 : Heap} (hpl : plainFor x = true) (hef : ∀ m, entryFrame m as' maxL = mkF m 0 L0 [])
    (body : ∀ (p : Program) (e : Env) (s : State) (m : MethodId) (below : List Frame) (meth : Method) (c : Code) (T : State), p.tables.exec = Jvm.exec → c.code = code → c.maxLocals = maxL → s.vm.findClass x.cls = some m.cls → meth.name = x.name → meth.sig.returnType = ret → meth.locks = false → Z.Warmed39 s.vm →
      Stand p l e R s m as' below meth c T [] 0 0 → T.heap = h0 → Go p e below (Dn below s Q R.cells R.slots) (T.setTop (mkF m 0 L0 []))) :
    MetFree l x (head1 (Jvm.Cond.code x code maxL ret :: ws) R) (fun a U => a = as' ∧ Z.Warmed39 U.vm ∧ U.heap = h0) (fun _ _ _ _ _ => True) (fun _ U o U' => ∃ v L, o = .returned v ∧ Q v U'.heap L ∧ FrameEnd U o U' L R.cells R.slots) := by
  refine MetFree.of_bodySF hpl hisR ?_
  intro p e s m args below meth c s₁ Bd hml0 hP hK
  obtain ⟨rfl, hZ, hh⟩ := hP
  obtain ⟨t, h1, v, L, h2, h3, h4, h5⟩ := body p e s m below meth c s₁ Bd.exec Bd.bytes hml0 (findClass_of_methodNamed Bd.named) (name_of_methodNamed Bd.named Bd.method).1 Bd.returns (BodyLoose.notSynchronized Bd) hZ (Stand.of_body Bd) (by rw [← hh, Bd.state]; rfl)
  exact ⟨t, .returned v, castTop (hef m) h1, h2, h3, v, L, rfl, h4, h5⟩
section Calls
variable {Z : State} {a0 : Array Value} {own : String} {idx : Nat} {y : MethodName} {bytes : ByteArray} {maxL W : Nat} {ret : Option FieldType} {rm : Room} {as' : Array Value} {h : Heap}
/-- a static call by the callee's contract -/
theorem own_callS (X : Stand p l e R s m args below meth c T locs cells slots) (hx : p.tables.exec = Jvm.exec) (hZ : Z.Warmed39 s.vm) (hown : s.vm.findClass own = some m.cls) (eT : T.heap = h)
    (w1 : (Jvm.Cond.methodLink own idx y).before a0 Z = true) (w2 : (Jvm.Cond.static y).before a0 Z = true) (w3 : (Jvm.Cond.initialized y.cls).before a0 Z = true) (w4 : (Jvm.Cond.code y bytes maxL ret).before a0 Z = true)
    (hM : MetFree l y (head1 [Jvm.Cond.code y bytes maxL ret] rm) (fun a U => a = as' ∧ Z.Warmed39 U.vm ∧ U.heap = h) (fun _ _ _ _ _ => True) (fun _ U o U' => ∃ v L, o = .returned v ∧ Q v U'.heap L ∧ FrameEnd U o U' L rm.cells rm.slots))
    (hy : y.cls ≠ "java/lang/invoke/MethodHandle" ∧ y.cls ≠ "java/lang/invoke/VarHandle") (hf : rm.frames + 1 ≤ R.frames) (hl : W + (maxL + 11) + rm.locals ≤ R.locals) (hc : cells + rm.cells ≤ R.cells) (hs : slots + rm.slots ≤ R.slots)
    {g : JFrame} (hg : g.method = m) (hsize : g.locals.size = c.maxLocals) {argsL rest : List Value} (hst : g.stack = argsL.reverse ++ rest) (has : argsL.toArray = as') (hlen : ∀ sig, parseMethodDescriptor y.desc = some sig → argsL.length = sig.parameters.length)
    (hW : 2 * g.monitorRoom + (rest.map fun v => v.category).sum ≤ W) (hd : decode c.code g.pc = .ok (.invokestatic idx, 3))
    (k : ∀ v T' L, Stand p l e R s m args below meth c T' (locs ++ L) (cells + rm.cells) (slots + rm.slots) → Q v T'.heap L → Go p e below K (T'.setTop { g with pc := g.pc + 3, stack := v.toList ++ rest })) : Go p e below K (T.setTop g) := by
  obtain ⟨v, _, ⟨T', L', k', n'⟩, -, X', ⟨Lc, hQ, l1, y1, z1⟩, st⟩ := Jvm.LawKit.callS X hx (y := y) hown (mvT hZ w1) (mvT hZ w2) (mvT hZ w3) (mvT hZ w4) hy (backOf (W := W) hM hZ w4 w3 hf hl) hg hsize hlen hst hW hd (fun _ _ => ⟨has, eT, hc, hs⟩)
  dsimp only [Pt.U, Pt.locs, Pt.cells, Pt.slots] at X' l1 y1 z1 st hQ
  subst l1 y1 z1
  exact go st (k _ _ _ X' hQ)
/-- a constructor by its contract -/
theorem own_callC (X : Stand p l e R s m args below meth c T locs cells slots) (hx : p.tables.exec = Jvm.exec) (hZ : Z.Warmed39 s.vm) (hown : s.vm.findClass own = some m.cls) (eT : T.heap = h)
    (w1 : (Jvm.Cond.methodLink own idx y).before a0 Z = true) (w2 : (Jvm.Cond.instanceMethod y).before a0 Z = true) (w3 : (Jvm.Cond.initialized y.cls).before a0 Z = true) (w4 : (Jvm.Cond.code y bytes maxL none).before a0 Z = true)
    (hM : MetFree l y (head1 [Jvm.Cond.code y bytes maxL none] rm) (fun a U => a = as' ∧ Z.Warmed39 U.vm ∧ U.heap = h) (fun _ _ _ _ _ => True) (fun _ U o U' => ∃ v L, o = .returned v ∧ Q v U'.heap L ∧ FrameEnd U o U' L rm.cells rm.slots))
    (hyn : y.name = "<init>") (hy : y.cls ≠ "java/lang/invoke/MethodHandle" ∧ y.cls ≠ "java/lang/invoke/VarHandle") (hf : rm.frames + 1 ≤ R.frames) (hl : W + (maxL + 11) + rm.locals ≤ R.locals) (hc : cells + rm.cells ≤ R.cells) (hs : slots + rm.slots ≤ R.slots)
    {g : JFrame} (hg : g.method = m) (hsize : g.locals.size = c.maxLocals) {a : Addr} {argsL rest : List Value} (hst : g.stack = argsL.reverse ++ .ref a :: rest) (has : (.ref a :: argsL).toArray = as') (hlen : ∀ sig, parseMethodDescriptor y.desc = some sig → argsL.length = sig.parameters.length)
    (hW : 2 * g.monitorRoom + (rest.map fun v => v.category).sum ≤ W) (hd : decode c.code g.pc = .ok (.invokespecial idx, 3))
    (k : ∀ v T' L, Stand p l e R s m args below meth c T' (locs ++ L) (cells + rm.cells) (slots + rm.slots) → Q v T'.heap L → Go p e below K (T'.setTop { g with pc := g.pc + 3, stack := v.toList ++ rest })) : Go p e below K (T.setTop g) := by
  obtain ⟨v, _, ⟨T', L', k', n'⟩, -, X', ⟨Lc, hQ, l1, y1, z1⟩, st⟩ := X.specialBack hx (y := y) hyn hown (mvT hZ w1) (mvT hZ w2) (mvT hZ w4) hy (backOf (W := W) hM hZ w4 w3 hf hl) hg hsize (Steps.refl _) (a := a) hlen hst hW hd (fun _ _ => ⟨has, eT, hc, hs⟩)
  dsimp only [Pt.U, Pt.locs, Pt.cells, Pt.slots] at X' l1 y1 z1 st hQ
  subst l1 y1 z1
  exact go (fun t q => st.trans q) (k _ _ _ X' hQ)
/-- a virtual call of a method that the receiver's class declares itself -/
theorem own_callV (X : Stand p l e R s m args below meth c T locs cells slots) (hx : p.tables.exec = Jvm.exec) (hZ : Z.Warmed39 s.vm) (hown : s.vm.findClass own = some m.cls) (eT : T.heap = h)
    (w1 : (Jvm.Cond.methodLink own idx y).before a0 Z = true) (w2 : (Jvm.Cond.declares y).before a0 Z = true) (w5 : (Jvm.Cond.instanceMethod y).before a0 Z = true) (w6 : (Jvm.Cond.selects y.cls y y).before a0 Z = true) (w3 : (Jvm.Cond.initialized y.cls).before a0 Z = true) (w4 : (Jvm.Cond.code y bytes maxL ret).before a0 Z = true)
    (hM : MetFree l y (head1 [Jvm.Cond.code y bytes maxL ret] rm) (fun a U => a = as' ∧ Z.Warmed39 U.vm ∧ U.heap = h) (fun _ _ _ _ _ => True) (fun _ U o U' => ∃ v L, o = .returned v ∧ Q v U'.heap L ∧ FrameEnd U o U' L rm.cells rm.slots))
    (hy : y.cls ≠ "java/lang/invoke/MethodHandle" ∧ y.cls ≠ "java/lang/invoke/VarHandle") (hf : rm.frames + 1 ≤ R.frames) (hl : W + (maxL + 11) + rm.locals ≤ R.locals) (hc : cells + rm.cells ≤ R.cells) (hs : slots + rm.slots ≤ R.slots)
    {a : Addr} (E : Exa Z h a y.cls) {g : JFrame} (hg : g.method = m) (hsize : g.locals.size = c.maxLocals) {argsL rest : List Value} (hst : g.stack = argsL.reverse ++ .ref a :: rest) (has : (.ref a :: argsL).toArray = as') (hlen : ∀ sig, parseMethodDescriptor y.desc = some sig → argsL.length = sig.parameters.length)
    (hW : 2 * g.monitorRoom + (rest.map fun v => v.category).sum ≤ W) (hd : decode c.code g.pc = .ok (.invokevirtual idx, 3))
    (k : ∀ v T' L, Stand p l e R s m args below meth c T' (locs ++ L) (cells + rm.cells) (slots + rm.slots) → Q v T'.heap L → Go p e below K (T'.setTop { g with pc := g.pc + 3, stack := v.toList ++ rest })) : Go p e below K (T.setTop g) := by
  obtain ⟨cq, kq, qa, qb, qc⟩ := isOf hZ eT E
  obtain ⟨v, _, ⟨T', L', k', n'⟩, -, X', ⟨Lc, hQ, l1, y1, z1⟩, st⟩ := X.virtualBack hx (y := y) (z := y) hown (mvT hZ w1) (mvT hZ w2) (notFace_of_selects (args := #[]) (mvT hZ w6)) (mvT hZ w6) (mvT hZ w5) hy (backOf (W := W) hM hZ w4 w3 hf hl) qa qc hg hsize (Steps.refl _) hlen hst hW hd (fun _ _ => ⟨has, eT, hc, hs⟩)
  dsimp only [Pt.U, Pt.locs, Pt.cells, Pt.slots] at X' l1 y1 z1 st hQ
  subst l1 y1 z1
  exact go (fun t q => st.trans q) (k _ _ _ X' hQ)
end Calls
end Own
/-- a body that writes nothing: it returns r, the heap is what it was -/
def QP (r : Option Value) (h0 : Heap) (n0 : Nat) (v : Option Value) (h : Heap) (L : List Loc) : Prop := v = r ∧ Fr n0 L ∧ h = h0

/-- in the heap h the object at a is a NodeSet that holds xs, in this order -/
def NSet (Z : State) (h : Heap) (n0 : Nat) (a : Addr) (xs : List Int32) : Prop := ∃ (t : Addr) (k : ClassId) (ys : List Value), n0 ≤ a ∧ n0 ≤ t ∧ a ≠ t ∧ Exa Z h a "quorate/NodeSet" ∧ Fld Z h a "quorate/NodeSet" "members" "[I" (.ref t) ∧ Fld Z h a "quorate/NodeSet" "size" "I" (.int (Int32.ofNat xs.length)) ∧ Arv Z h t k .int (4 : Int32) (xs.map Value.int ++ ys) (.int (0 : Int32)) ∧ xs.length + ys.length = 4
theorem own_exa {Z : State} {h : Heap} {n0 : Nat} {a : Addr} {xs : List Int32} (F : NSet Z h n0 a xs) : Exa Z h a "quorate/NodeSet" := by
  obtain ⟨t, k, ys, g1, g2, g3, E, Fm, Fs, V, hy⟩ := F
  exact E
def own_add (xs : List Int32) (x : Int32) : List Int32 := if x ∈ xs then xs else xs ++ [x]
def own_rm : List Int32 → Int32 → List Int32
  | [], _ => []
  | [a], r => if a = r then [] else [a]
  | [a, b], r => if a = r then [b] else if b = r then [a] else [a, b]
  | [a, b, c], r => if a = r then [c, b] else if b = r then [a, c] else if c = r then [a, b] else [a, b, c]
  | xs, _ => xs
theorem own_ys {n : Nat} {ys : List Value} (h : n + ys.length = 4) (hn : n = 0) : ∃ y0 y1 y2 y3, ys = [y0, y1, y2, y3] := by
  have h' : ys.length = 4 := by omega
  rcases ys with _ | ⟨y0, _ | ⟨y1, _ | ⟨y2, _ | ⟨y3, _ | ⟨y4, ys⟩⟩⟩⟩⟩ <;> simp only [List.length_cons, List.length_nil] at h' <;> first | omega | exact ⟨_, _, _, _, rfl⟩
theorem own_ys1 {ys : List Value} (h : 1 + ys.length = 4) : ∃ y1 y2 y3, ys = [y1, y2, y3] := by
  have h' : ys.length = 3 := by omega
  rcases ys with _ | ⟨y0, _ | ⟨y1, _ | ⟨y2, _ | ⟨y3, ys⟩⟩⟩⟩ <;> simp only [List.length_cons, List.length_nil] at h' <;> first | omega | exact ⟨_, _, _, rfl⟩
theorem own_ys2 {ys : List Value} (h : 2 + ys.length = 4) : ∃ y2 y3, ys = [y2, y3] := by
  have h' : ys.length = 2 := by omega
  rcases ys with _ | ⟨y0, _ | ⟨y1, _ | ⟨y2, ys⟩⟩⟩ <;> simp only [List.length_cons, List.length_nil] at h' <;> first | omega | exact ⟨_, _, rfl⟩
theorem own_ys3 {ys : List Value} (h : 3 + ys.length = 4) : ∃ y3, ys = [y3] := by
  have h' : ys.length = 1 := by omega
  rcases ys with _ | ⟨y0, _ | ⟨y1, ys⟩⟩ <;> simp only [List.length_cons, List.length_nil] at h' <;> first | omega | exact ⟨_, rfl⟩
theorem d6_0 : decode prog_102_method_4_code 0 = .ok (.iconst 0, 1) := by decide +kernel
theorem d6_1 : decode prog_102_method_4_code 1 = .ok (.istore_n 2, 1) := by decide +kernel
theorem d6_2 : decode prog_102_method_4_code 2 = .ok (.iload_n 2, 1) := by decide +kernel
theorem d6_3 : decode prog_102_method_4_code 3 = .ok (.aload_n 0, 1) := by decide +kernel
theorem d6_4 : decode prog_102_method_4_code 4 = .ok (.getfield 17, 3) := by decide +kernel
theorem d6_7 : decode prog_102_method_4_code 7 = .ok (.if_icmp .ge 21, 3) := by decide +kernel
theorem d6_10 : decode prog_102_method_4_code 10 = .ok (.aload_n 0, 1) := by decide +kernel
theorem d6_11 : decode prog_102_method_4_code 11 = .ok (.getfield 7, 3) := by decide +kernel
theorem d6_14 : decode prog_102_method_4_code 14 = .ok (.iload_n 2, 1) := by decide +kernel
theorem d6_15 : decode prog_102_method_4_code 15 = .ok (.iaload, 1) := by decide +kernel
theorem d6_16 : decode prog_102_method_4_code 16 = .ok (.iload_n 1, 1) := by decide +kernel
theorem d6_17 : decode prog_102_method_4_code 17 = .ok (.if_icmp .ne 5, 3) := by decide +kernel
theorem d6_20 : decode prog_102_method_4_code 20 = .ok (.iconst 1, 1) := by decide +kernel
theorem d6_21 : decode prog_102_method_4_code 21 = .ok (.ireturn, 1) := by decide +kernel
theorem d6_22 : decode prog_102_method_4_code 22 = .ok (.iinc 2 1, 3) := by decide +kernel
theorem d6_25 : decode prog_102_method_4_code 25 = .ok (.goto (-23), 3) := by decide +kernel
theorem d6_28 : decode prog_102_method_4_code 28 = .ok (.iconst 0, 1) := by decide +kernel
theorem d6_29 : decode prog_102_method_4_code 29 = .ok (.ireturn, 1) := by decide +kernel
theorem pn_6 : plainName "quorate/NodeSet" = true := by first | (simp [plainName, overriddenIn]; done) | decide +kernel
theorem ef_6 (m : MethodId) (x0 : Addr) (x1 : Int32) : entryFrame m #[(.ref x0), (.int x1)] 3 = mkF m 0 #[.val (.ref x0), .val (.int x1), .unset] [] := by first | (simp [entryFrame, mkF, argsToLocals, Value.category]; done) | rfl
def c0 (p2  : Int32) : Int32 := (0 : Int32)
set_option maxRecDepth 65536 in
set_option maxHeartbeats 40000000 in
theorem rmC_0 (l : Launch) (Z : State) (a0 : Array Value) (hw : ∀ d ∈ tables_1, d.before a0 Z = true) (ws : List Jvm.Cond) (a1 : Addr) (p2 : Int32) (h0 : Heap) (n0 : Nat) {t : Addr} {k : ClassId} {y0 y1 y2 y3 : Value} (F_m : Fld Z h0 a1 "quorate/NodeSet" "members" "[I" (.ref t)) (F_s : Fld Z h0 a1 "quorate/NodeSet" "size" "I" (.int (0 : Int32))) (V_t : Arv Z h0 t k .int (4 : Int32) [y0, y1, y2, y3] (.int (0 : Int32))) :
    MetFree l (⟨"quorate/NodeSet", "contains", "(I)Z"⟩ : MethodName) (head1 (Jvm.Cond.code (⟨"quorate/NodeSet", "contains", "(I)Z"⟩ : MethodName) prog_102_method_4_code 3 (some .boolean) :: ws) ({ frames := 0, cells := 0, slots := 0, locals := 0 } : Room)) (fun a U => a = #[(.ref a1), (.int p2)] ∧ Z.Warmed39 U.vm ∧ U.heap = h0) (fun _ _ _ _ _ => True) (fun _ U o U' => ∃ v L, o = .returned v ∧ (QP (some (.int (c0 p2 ))) h0 n0) v U'.heap L ∧ FrameEnd U o U' L ({ frames := 0, cells := 0, slots := 0, locals := 0 } : Room).cells ({ frames := 0, cells := 0, slots := 0, locals := 0 } : Room).slots) := by
  refine own_met (plainFor_of_name pn_6) (fun m => ef_6 m a1 p2) ?_
  intro p e s m below meth c T0 hx hby hml hown hnm hret hlk hZ X0 e0
  have hown : s.vm.findClass "quorate/NodeSet" = some m.cls := hown
  have hnm : meth.name = "contains" := hnm
  have hret : meth.sig.returnType = some .boolean := hret
  have N0 := Fr.nil n0
  show Go p e below _ (T0.setTop (mkF m 0 #[.val (.ref a1), .val (.int p2), .unset] []))
  refine go (fun _ q => XS.iconst X0.here hx rfl (hb hby d6_0) q) ?_
  show Go p e below _ (T0.setTop (mkF m 1 #[.val (.ref a1), .val (.int p2), .unset] [(.int (0 : Int32))]))
  refine go (fun _ q => XS.istoreN X0.here hx rfl (hb hby d6_1) rfl (l' := #[.val (.ref a1), .val (.int p2), .val (.int (0 : Int32))]) rfl q) ?_
  show Go p e below _ (T0.setTop (mkF m 2 #[.val (.ref a1), .val (.int p2), .val (.int (0 : Int32))] []))
  refine go (fun _ q => XS.iloadN X0.here hx rfl (hb hby d6_2) rfl q) ?_
  show Go p e below _ (T0.setTop (mkF m 3 #[.val (.ref a1), .val (.int p2), .val (.int (0 : Int32))] [(.int (0 : Int32))]))
  refine go (fun _ q => XS.aloadN X0.here hx rfl (hb hby d6_3) rfl rfl q) ?_
  show Go p e below _ (T0.setTop (mkF m 4 #[.val (.ref a1), .val (.int p2), .val (.int (0 : Int32))] [(.ref a1), (.int (0 : Int32))]))
  obtain ⟨T1, X1, e1, st1⟩ := getF X0 hx hZ hown (host := "") (Or.inl (hw _ (List.mem_of_getElem? (i := 17) rfl))) Via.refl e0 F_s (g := (mkF m 4 #[.val (.ref a1), .val (.int p2), .val (.int (0 : Int32))] [(.ref a1), (.int (0 : Int32))])) rfl rfl (hb hby d6_4)
  refine go st1 ?_
  show Go p e below _ (T1.setTop (mkF m 7 #[.val (.ref a1), .val (.int p2), .val (.int (0 : Int32))] [(.int (0 : Int32)), (.int (0 : Int32))]))
  refine go (fun _ q => XS.icmpYes X1.here hx rfl (pc0 := 7) (pc' := 28) rfl (hb hby d6_7) rfl (flt (by decide : ¬ ((0 : Int32) < (0 : Int32)))).2.1 (by decide) (by decide) q) ?_
  show Go p e below _ (T1.setTop (mkF m 28 #[.val (.ref a1), .val (.int p2), .val (.int (0 : Int32))] []))
  refine go (fun _ q => XS.iconst X1.here hx rfl (hb hby d6_28) q) ?_
  show Go p e below _ (T1.setTop (mkF m 29 #[.val (.ref a1), .val (.int p2), .val (.int (0 : Int32))] [(.int (0 : Int32))]))
  exact own_retZ (z' := (0 : Int32)) X1 hx hlk hret (hb hby d6_29) (by decide) (by decide) rfl ⟨congrArg (fun z => some (Value.int z)) (by rw [c0]), N0, e1⟩
theorem own_c0 (p2  : Int32) : c0 p2  = if p2 ∈ ([] : List Int32) then 1 else 0 := by
  unfold c0
  simp only [List.mem_cons, List.not_mem_nil, or_false, eq_comm (a := p2)] <;> (repeat' split) <;> simp_all
def c1 (p2 x0 : Int32) : Int32 := (if x0 = p2 then (1 : Int32) else (0 : Int32))
set_option maxRecDepth 65536 in
set_option maxHeartbeats 40000000 in
theorem rmC_1 (l : Launch) (Z : State) (a0 : Array Value) (hw : ∀ d ∈ tables_1, d.before a0 Z = true) (ws : List Jvm.Cond) (a1 : Addr) (p2 : Int32) (h0 : Heap) (n0 : Nat) {t : Addr} {k : ClassId} {x0 : Int32} {y1 y2 y3 : Value} (F_m : Fld Z h0 a1 "quorate/NodeSet" "members" "[I" (.ref t)) (F_s : Fld Z h0 a1 "quorate/NodeSet" "size" "I" (.int (1 : Int32))) (V_t : Arv Z h0 t k .int (4 : Int32) [(.int x0), y1, y2, y3] (.int (0 : Int32))) :
    MetFree l (⟨"quorate/NodeSet", "contains", "(I)Z"⟩ : MethodName) (head1 (Jvm.Cond.code (⟨"quorate/NodeSet", "contains", "(I)Z"⟩ : MethodName) prog_102_method_4_code 3 (some .boolean) :: ws) ({ frames := 0, cells := 0, slots := 0, locals := 0 } : Room)) (fun a U => a = #[(.ref a1), (.int p2)] ∧ Z.Warmed39 U.vm ∧ U.heap = h0) (fun _ _ _ _ _ => True) (fun _ U o U' => ∃ v L, o = .returned v ∧ (QP (some (.int (c1 p2 x0))) h0 n0) v U'.heap L ∧ FrameEnd U o U' L ({ frames := 0, cells := 0, slots := 0, locals := 0 } : Room).cells ({ frames := 0, cells := 0, slots := 0, locals := 0 } : Room).slots) := by
  refine own_met (plainFor_of_name pn_6) (fun m => ef_6 m a1 p2) ?_
  intro p e s m below meth c T0 hx hby hml hown hnm hret hlk hZ X0 e0
  have hown : s.vm.findClass "quorate/NodeSet" = some m.cls := hown
  have hnm : meth.name = "contains" := hnm
  have hret : meth.sig.returnType = some .boolean := hret
  have N0 := Fr.nil n0
  show Go p e below _ (T0.setTop (mkF m 0 #[.val (.ref a1), .val (.int p2), .unset] []))
  refine go (fun _ q => XS.iconst X0.here hx rfl (hb hby d6_0) q) ?_
  show Go p e below _ (T0.setTop (mkF m 1 #[.val (.ref a1), .val (.int p2), .unset] [(.int (0 : Int32))]))
  refine go (fun _ q => XS.istoreN X0.here hx rfl (hb hby d6_1) rfl (l' := #[.val (.ref a1), .val (.int p2), .val (.int (0 : Int32))]) rfl q) ?_
  show Go p e below _ (T0.setTop (mkF m 2 #[.val (.ref a1), .val (.int p2), .val (.int (0 : Int32))] []))
  refine go (fun _ q => XS.iloadN X0.here hx rfl (hb hby d6_2) rfl q) ?_
  show Go p e below _ (T0.setTop (mkF m 3 #[.val (.ref a1), .val (.int p2), .val (.int (0 : Int32))] [(.int (0 : Int32))]))
  refine go (fun _ q => XS.aloadN X0.here hx rfl (hb hby d6_3) rfl rfl q) ?_
  show Go p e below _ (T0.setTop (mkF m 4 #[.val (.ref a1), .val (.int p2), .val (.int (0 : Int32))] [(.ref a1), (.int (0 : Int32))]))
  obtain ⟨T1, X1, e1, st1⟩ := getF X0 hx hZ hown (host := "") (Or.inl (hw _ (List.mem_of_getElem? (i := 17) rfl))) Via.refl e0 F_s (g := (mkF m 4 #[.val (.ref a1), .val (.int p2), .val (.int (0 : Int32))] [(.ref a1), (.int (0 : Int32))])) rfl rfl (hb hby d6_4)
  refine go st1 ?_
  show Go p e below _ (T1.setTop (mkF m 7 #[.val (.ref a1), .val (.int p2), .val (.int (0 : Int32))] [(.int (1 : Int32)), (.int (0 : Int32))]))
  refine go (fun _ q => XS.icmpNo X1.here hx rfl (hb hby d6_7) rfl (tlt (by decide : (0 : Int32) < (1 : Int32))).2.1 q) ?_
  show Go p e below _ (T1.setTop (mkF m 10 #[.val (.ref a1), .val (.int p2), .val (.int (0 : Int32))] []))
  refine go (fun _ q => XS.aloadN X1.here hx rfl (hb hby d6_10) rfl rfl q) ?_
  show Go p e below _ (T1.setTop (mkF m 11 #[.val (.ref a1), .val (.int p2), .val (.int (0 : Int32))] [(.ref a1)]))
  obtain ⟨T2, X2, e2, st2⟩ := getF X1 hx hZ hown (host := "") (Or.inl (hw _ (List.mem_of_getElem? (i := 10) rfl))) Via.refl e1 F_m (g := (mkF m 11 #[.val (.ref a1), .val (.int p2), .val (.int (0 : Int32))] [(.ref a1)])) rfl rfl (hb hby d6_11)
  refine go st2 ?_
  show Go p e below _ (T2.setTop (mkF m 14 #[.val (.ref a1), .val (.int p2), .val (.int (0 : Int32))] [(.ref t)]))
  refine go (fun _ q => XS.iloadN X2.here hx rfl (hb hby d6_14) rfl q) ?_
  show Go p e below _ (T2.setTop (mkF m 15 #[.val (.ref a1), .val (.int p2), .val (.int (0 : Int32))] [(.int (0 : Int32)), (.ref t)]))
  obtain ⟨cl3, Ar3, q3, S3, Ng3, H3, G3⟩ := id V_t
  refine go (X2.iaload hx (j := (0 : Int32)) (v := (.int x0)) (by rw [e2]; exact Ar3.1) (State.isArrayOf_alike hZ.alike Ar3.2.1) Ar3.2.2 (inb_of S3 ⟨by decide, by decide⟩) (H3 _ (by rw [S3]; decide)) (g := (mkF m 15 #[.val (.ref a1), .val (.int p2), .val (.int (0 : Int32))] [(.int (0 : Int32)), (.ref t)])) rfl rfl (hb hby d6_15)) ?_
  show Go p e below _ (T2.setTop (mkF m 16 #[.val (.ref a1), .val (.int p2), .val (.int (0 : Int32))] [(.int x0)]))
  refine go (fun _ q => XS.iloadN X2.here hx rfl (hb hby d6_16) rfl q) ?_
  show Go p e below _ (T2.setTop (mkF m 17 #[.val (.ref a1), .val (.int p2), .val (.int (0 : Int32))] [(.int p2), (.int x0)]))
  by_cases hc4 : x0 = p2
  · refine go (fun _ q => XS.icmpNo X2.here hx rfl (hb hby d6_17) rfl (teq hc4).2 q) ?_
    show Go p e below _ (T2.setTop (mkF m 20 #[.val (.ref a1), .val (.int p2), .val (.int (0 : Int32))] []))
    refine go (fun _ q => XS.iconst X2.here hx rfl (hb hby d6_20) q) ?_
    show Go p e below _ (T2.setTop (mkF m 21 #[.val (.ref a1), .val (.int p2), .val (.int (0 : Int32))] [(.int (1 : Int32))]))
    exact own_retZ (z' := (1 : Int32)) X2 hx hlk hret (hb hby d6_21) (by decide) (by decide) rfl ⟨congrArg (fun z => some (Value.int z)) (by rw [c1, if_pos hc4]), N0, e2⟩
  · refine go (fun _ q => XS.icmpYes X2.here hx rfl (pc0 := 17) (pc' := 22) rfl (hb hby d6_17) rfl (feq hc4).2 (by decide) (by decide) q) ?_
    show Go p e below _ (T2.setTop (mkF m 22 #[.val (.ref a1), .val (.int p2), .val (.int (0 : Int32))] []))
    refine go (fun _ q => XS.iinc X2.here hx rfl (hb hby d6_22) rfl (l' := #[.val (.ref a1), .val (.int p2), .val (.int (1 : Int32))]) rfl q) ?_
    show Go p e below _ (T2.setTop (mkF m 25 #[.val (.ref a1), .val (.int p2), .val (.int (1 : Int32))] []))
    refine go (fun _ q => XS.goto X2.here hx rfl (pc0 := 25) (pc' := 2) rfl (hb hby d6_25) (by decide) (by decide) q) ?_
    show Go p e below _ (T2.setTop (mkF m 2 #[.val (.ref a1), .val (.int p2), .val (.int (1 : Int32))] []))
    refine go (fun _ q => XS.iloadN X2.here hx rfl (hb hby d6_2) rfl q) ?_
    show Go p e below _ (T2.setTop (mkF m 3 #[.val (.ref a1), .val (.int p2), .val (.int (1 : Int32))] [(.int (1 : Int32))]))
    refine go (fun _ q => XS.aloadN X2.here hx rfl (hb hby d6_3) rfl rfl q) ?_
    show Go p e below _ (T2.setTop (mkF m 4 #[.val (.ref a1), .val (.int p2), .val (.int (1 : Int32))] [(.ref a1), (.int (1 : Int32))]))
    obtain ⟨T5, X5, e5, st5⟩ := getF X2 hx hZ hown (host := "") (Or.inl (hw _ (List.mem_of_getElem? (i := 17) rfl))) Via.refl e2 F_s (g := (mkF m 4 #[.val (.ref a1), .val (.int p2), .val (.int (1 : Int32))] [(.ref a1), (.int (1 : Int32))])) rfl rfl (hb hby d6_4)
    refine go st5 ?_
    show Go p e below _ (T5.setTop (mkF m 7 #[.val (.ref a1), .val (.int p2), .val (.int (1 : Int32))] [(.int (1 : Int32)), (.int (1 : Int32))]))
    refine go (fun _ q => XS.icmpYes X5.here hx rfl (pc0 := 7) (pc' := 28) rfl (hb hby d6_7) rfl (flt (by decide : ¬ ((1 : Int32) < (1 : Int32)))).2.1 (by decide) (by decide) q) ?_
    show Go p e below _ (T5.setTop (mkF m 28 #[.val (.ref a1), .val (.int p2), .val (.int (1 : Int32))] []))
    refine go (fun _ q => XS.iconst X5.here hx rfl (hb hby d6_28) q) ?_
    show Go p e below _ (T5.setTop (mkF m 29 #[.val (.ref a1), .val (.int p2), .val (.int (1 : Int32))] [(.int (0 : Int32))]))
    exact own_retZ (z' := (0 : Int32)) X5 hx hlk hret (hb hby d6_29) (by decide) (by decide) rfl ⟨congrArg (fun z => some (Value.int z)) (by rw [c1, if_neg hc4]), N0, e5⟩
theorem own_c1 (p2 x0 : Int32) : c1 p2 x0 = if p2 ∈ ([x0] : List Int32) then 1 else 0 := by
  unfold c1
  simp only [List.mem_cons, List.not_mem_nil, or_false, eq_comm (a := p2)] <;> (repeat' split) <;> simp_all
def c2 (p2 x0 x1 : Int32) : Int32 := (if x0 = p2 then (1 : Int32) else (if x1 = p2 then (1 : Int32) else (0 : Int32)))
set_option maxRecDepth 65536 in
set_option maxHeartbeats 40000000 in
theorem rmC_2 (l : Launch) (Z : State) (a0 : Array Value) (hw : ∀ d ∈ tables_1, d.before a0 Z = true) (ws : List Jvm.Cond) (a1 : Addr) (p2 : Int32) (h0 : Heap) (n0 : Nat) {t : Addr} {k : ClassId} {x0 x1 : Int32} {y2 y3 : Value} (F_m : Fld Z h0 a1 "quorate/NodeSet" "members" "[I" (.ref t)) (F_s : Fld Z h0 a1 "quorate/NodeSet" "size" "I" (.int (2 : Int32))) (V_t : Arv Z h0 t k .int (4 : Int32) [(.int x0), (.int x1), y2, y3] (.int (0 : Int32))) :
    MetFree l (⟨"quorate/NodeSet", "contains", "(I)Z"⟩ : MethodName) (head1 (Jvm.Cond.code (⟨"quorate/NodeSet", "contains", "(I)Z"⟩ : MethodName) prog_102_method_4_code 3 (some .boolean) :: ws) ({ frames := 0, cells := 0, slots := 0, locals := 0 } : Room)) (fun a U => a = #[(.ref a1), (.int p2)] ∧ Z.Warmed39 U.vm ∧ U.heap = h0) (fun _ _ _ _ _ => True) (fun _ U o U' => ∃ v L, o = .returned v ∧ (QP (some (.int (c2 p2 x0 x1))) h0 n0) v U'.heap L ∧ FrameEnd U o U' L ({ frames := 0, cells := 0, slots := 0, locals := 0 } : Room).cells ({ frames := 0, cells := 0, slots := 0, locals := 0 } : Room).slots) := by
  refine own_met (plainFor_of_name pn_6) (fun m => ef_6 m a1 p2) ?_
  intro p e s m below meth c T0 hx hby hml hown hnm hret hlk hZ X0 e0
  have hown : s.vm.findClass "quorate/NodeSet" = some m.cls := hown
  have hnm : meth.name = "contains" := hnm
  have hret : meth.sig.returnType = some .boolean := hret
  have N0 := Fr.nil n0
  show Go p e below _ (T0.setTop (mkF m 0 #[.val (.ref a1), .val (.int p2), .unset] []))
  refine go (fun _ q => XS.iconst X0.here hx rfl (hb hby d6_0) q) ?_
  show Go p e below _ (T0.setTop (mkF m 1 #[.val (.ref a1), .val (.int p2), .unset] [(.int (0 : Int32))]))
  refine go (fun _ q => XS.istoreN X0.here hx rfl (hb hby d6_1) rfl (l' := #[.val (.ref a1), .val (.int p2), .val (.int (0 : Int32))]) rfl q) ?_
  show Go p e below _ (T0.setTop (mkF m 2 #[.val (.ref a1), .val (.int p2), .val (.int (0 : Int32))] []))
  refine go (fun _ q => XS.iloadN X0.here hx rfl (hb hby d6_2) rfl q) ?_
  show Go p e below _ (T0.setTop (mkF m 3 #[.val (.ref a1), .val (.int p2), .val (.int (0 : Int32))] [(.int (0 : Int32))]))
  refine go (fun _ q => XS.aloadN X0.here hx rfl (hb hby d6_3) rfl rfl q) ?_
  show Go p e below _ (T0.setTop (mkF m 4 #[.val (.ref a1), .val (.int p2), .val (.int (0 : Int32))] [(.ref a1), (.int (0 : Int32))]))
  obtain ⟨T1, X1, e1, st1⟩ := getF X0 hx hZ hown (host := "") (Or.inl (hw _ (List.mem_of_getElem? (i := 17) rfl))) Via.refl e0 F_s (g := (mkF m 4 #[.val (.ref a1), .val (.int p2), .val (.int (0 : Int32))] [(.ref a1), (.int (0 : Int32))])) rfl rfl (hb hby d6_4)
  refine go st1 ?_
  show Go p e below _ (T1.setTop (mkF m 7 #[.val (.ref a1), .val (.int p2), .val (.int (0 : Int32))] [(.int (2 : Int32)), (.int (0 : Int32))]))
  refine go (fun _ q => XS.icmpNo X1.here hx rfl (hb hby d6_7) rfl (tlt (by decide : (0 : Int32) < (2 : Int32))).2.1 q) ?_
  show Go p e below _ (T1.setTop (mkF m 10 #[.val (.ref a1), .val (.int p2), .val (.int (0 : Int32))] []))
  refine go (fun _ q => XS.aloadN X1.here hx rfl (hb hby d6_10) rfl rfl q) ?_
  show Go p e below _ (T1.setTop (mkF m 11 #[.val (.ref a1), .val (.int p2), .val (.int (0 : Int32))] [(.ref a1)]))
  obtain ⟨T2, X2, e2, st2⟩ := getF X1 hx hZ hown (host := "") (Or.inl (hw _ (List.mem_of_getElem? (i := 10) rfl))) Via.refl e1 F_m (g := (mkF m 11 #[.val (.ref a1), .val (.int p2), .val (.int (0 : Int32))] [(.ref a1)])) rfl rfl (hb hby d6_11)
  refine go st2 ?_
  show Go p e below _ (T2.setTop (mkF m 14 #[.val (.ref a1), .val (.int p2), .val (.int (0 : Int32))] [(.ref t)]))
  refine go (fun _ q => XS.iloadN X2.here hx rfl (hb hby d6_14) rfl q) ?_
  show Go p e below _ (T2.setTop (mkF m 15 #[.val (.ref a1), .val (.int p2), .val (.int (0 : Int32))] [(.int (0 : Int32)), (.ref t)]))
  obtain ⟨cl3, Ar3, q3, S3, Ng3, H3, G3⟩ := id V_t
  refine go (X2.iaload hx (j := (0 : Int32)) (v := (.int x0)) (by rw [e2]; exact Ar3.1) (State.isArrayOf_alike hZ.alike Ar3.2.1) Ar3.2.2 (inb_of S3 ⟨by decide, by decide⟩) (H3 _ (by rw [S3]; decide)) (g := (mkF m 15 #[.val (.ref a1), .val (.int p2), .val (.int (0 : Int32))] [(.int (0 : Int32)), (.ref t)])) rfl rfl (hb hby d6_15)) ?_
  show Go p e below _ (T2.setTop (mkF m 16 #[.val (.ref a1), .val (.int p2), .val (.int (0 : Int32))] [(.int x0)]))
  refine go (fun _ q => XS.iloadN X2.here hx rfl (hb hby d6_16) rfl q) ?_
  show Go p e below _ (T2.setTop (mkF m 17 #[.val (.ref a1), .val (.int p2), .val (.int (0 : Int32))] [(.int p2), (.int x0)]))
  by_cases hc4 : x0 = p2
  · refine go (fun _ q => XS.icmpNo X2.here hx rfl (hb hby d6_17) rfl (teq hc4).2 q) ?_
    show Go p e below _ (T2.setTop (mkF m 20 #[.val (.ref a1), .val (.int p2), .val (.int (0 : Int32))] []))
    refine go (fun _ q => XS.iconst X2.here hx rfl (hb hby d6_20) q) ?_
    show Go p e below _ (T2.setTop (mkF m 21 #[.val (.ref a1), .val (.int p2), .val (.int (0 : Int32))] [(.int (1 : Int32))]))
    exact own_retZ (z' := (1 : Int32)) X2 hx hlk hret (hb hby d6_21) (by decide) (by decide) rfl ⟨congrArg (fun z => some (Value.int z)) (by rw [c2, if_pos hc4]), N0, e2⟩
  · refine go (fun _ q => XS.icmpYes X2.here hx rfl (pc0 := 17) (pc' := 22) rfl (hb hby d6_17) rfl (feq hc4).2 (by decide) (by decide) q) ?_
    show Go p e below _ (T2.setTop (mkF m 22 #[.val (.ref a1), .val (.int p2), .val (.int (0 : Int32))] []))
    refine go (fun _ q => XS.iinc X2.here hx rfl (hb hby d6_22) rfl (l' := #[.val (.ref a1), .val (.int p2), .val (.int (1 : Int32))]) rfl q) ?_
    show Go p e below _ (T2.setTop (mkF m 25 #[.val (.ref a1), .val (.int p2), .val (.int (1 : Int32))] []))
    refine go (fun _ q => XS.goto X2.here hx rfl (pc0 := 25) (pc' := 2) rfl (hb hby d6_25) (by decide) (by decide) q) ?_
    show Go p e below _ (T2.setTop (mkF m 2 #[.val (.ref a1), .val (.int p2), .val (.int (1 : Int32))] []))
    refine go (fun _ q => XS.iloadN X2.here hx rfl (hb hby d6_2) rfl q) ?_
    show Go p e below _ (T2.setTop (mkF m 3 #[.val (.ref a1), .val (.int p2), .val (.int (1 : Int32))] [(.int (1 : Int32))]))
    refine go (fun _ q => XS.aloadN X2.here hx rfl (hb hby d6_3) rfl rfl q) ?_
    show Go p e below _ (T2.setTop (mkF m 4 #[.val (.ref a1), .val (.int p2), .val (.int (1 : Int32))] [(.ref a1), (.int (1 : Int32))]))
    obtain ⟨T5, X5, e5, st5⟩ := getF X2 hx hZ hown (host := "") (Or.inl (hw _ (List.mem_of_getElem? (i := 17) rfl))) Via.refl e2 F_s (g := (mkF m 4 #[.val (.ref a1), .val (.int p2), .val (.int (1 : Int32))] [(.ref a1), (.int (1 : Int32))])) rfl rfl (hb hby d6_4)
    refine go st5 ?_
    show Go p e below _ (T5.setTop (mkF m 7 #[.val (.ref a1), .val (.int p2), .val (.int (1 : Int32))] [(.int (2 : Int32)), (.int (1 : Int32))]))
    refine go (fun _ q => XS.icmpNo X5.here hx rfl (hb hby d6_7) rfl (tlt (by decide : (1 : Int32) < (2 : Int32))).2.1 q) ?_
    show Go p e below _ (T5.setTop (mkF m 10 #[.val (.ref a1), .val (.int p2), .val (.int (1 : Int32))] []))
    refine go (fun _ q => XS.aloadN X5.here hx rfl (hb hby d6_10) rfl rfl q) ?_
    show Go p e below _ (T5.setTop (mkF m 11 #[.val (.ref a1), .val (.int p2), .val (.int (1 : Int32))] [(.ref a1)]))
    obtain ⟨T6, X6, e6, st6⟩ := getF X5 hx hZ hown (host := "") (Or.inl (hw _ (List.mem_of_getElem? (i := 10) rfl))) Via.refl e5 F_m (g := (mkF m 11 #[.val (.ref a1), .val (.int p2), .val (.int (1 : Int32))] [(.ref a1)])) rfl rfl (hb hby d6_11)
    refine go st6 ?_
    show Go p e below _ (T6.setTop (mkF m 14 #[.val (.ref a1), .val (.int p2), .val (.int (1 : Int32))] [(.ref t)]))
    refine go (fun _ q => XS.iloadN X6.here hx rfl (hb hby d6_14) rfl q) ?_
    show Go p e below _ (T6.setTop (mkF m 15 #[.val (.ref a1), .val (.int p2), .val (.int (1 : Int32))] [(.int (1 : Int32)), (.ref t)]))
    obtain ⟨cl7, Ar7, q7, S7, Ng7, H7, G7⟩ := id V_t
    refine go (X6.iaload hx (j := (1 : Int32)) (v := (.int x1)) (by rw [e6]; exact Ar7.1) (State.isArrayOf_alike hZ.alike Ar7.2.1) Ar7.2.2 (inb_of S7 ⟨by decide, by decide⟩) (H7 _ (by rw [S7]; decide)) (g := (mkF m 15 #[.val (.ref a1), .val (.int p2), .val (.int (1 : Int32))] [(.int (1 : Int32)), (.ref t)])) rfl rfl (hb hby d6_15)) ?_
    show Go p e below _ (T6.setTop (mkF m 16 #[.val (.ref a1), .val (.int p2), .val (.int (1 : Int32))] [(.int x1)]))
    refine go (fun _ q => XS.iloadN X6.here hx rfl (hb hby d6_16) rfl q) ?_
    show Go p e below _ (T6.setTop (mkF m 17 #[.val (.ref a1), .val (.int p2), .val (.int (1 : Int32))] [(.int p2), (.int x1)]))
    by_cases hc8 : x1 = p2
    · refine go (fun _ q => XS.icmpNo X6.here hx rfl (hb hby d6_17) rfl (teq hc8).2 q) ?_
      show Go p e below _ (T6.setTop (mkF m 20 #[.val (.ref a1), .val (.int p2), .val (.int (1 : Int32))] []))
      refine go (fun _ q => XS.iconst X6.here hx rfl (hb hby d6_20) q) ?_
      show Go p e below _ (T6.setTop (mkF m 21 #[.val (.ref a1), .val (.int p2), .val (.int (1 : Int32))] [(.int (1 : Int32))]))
      exact own_retZ (z' := (1 : Int32)) X6 hx hlk hret (hb hby d6_21) (by decide) (by decide) rfl ⟨congrArg (fun z => some (Value.int z)) (by rw [c2, if_neg hc4, if_pos hc8]), N0, e6⟩
    · refine go (fun _ q => XS.icmpYes X6.here hx rfl (pc0 := 17) (pc' := 22) rfl (hb hby d6_17) rfl (feq hc8).2 (by decide) (by decide) q) ?_
      show Go p e below _ (T6.setTop (mkF m 22 #[.val (.ref a1), .val (.int p2), .val (.int (1 : Int32))] []))
      refine go (fun _ q => XS.iinc X6.here hx rfl (hb hby d6_22) rfl (l' := #[.val (.ref a1), .val (.int p2), .val (.int (2 : Int32))]) rfl q) ?_
      show Go p e below _ (T6.setTop (mkF m 25 #[.val (.ref a1), .val (.int p2), .val (.int (2 : Int32))] []))
      refine go (fun _ q => XS.goto X6.here hx rfl (pc0 := 25) (pc' := 2) rfl (hb hby d6_25) (by decide) (by decide) q) ?_
      show Go p e below _ (T6.setTop (mkF m 2 #[.val (.ref a1), .val (.int p2), .val (.int (2 : Int32))] []))
      refine go (fun _ q => XS.iloadN X6.here hx rfl (hb hby d6_2) rfl q) ?_
      show Go p e below _ (T6.setTop (mkF m 3 #[.val (.ref a1), .val (.int p2), .val (.int (2 : Int32))] [(.int (2 : Int32))]))
      refine go (fun _ q => XS.aloadN X6.here hx rfl (hb hby d6_3) rfl rfl q) ?_
      show Go p e below _ (T6.setTop (mkF m 4 #[.val (.ref a1), .val (.int p2), .val (.int (2 : Int32))] [(.ref a1), (.int (2 : Int32))]))
      obtain ⟨T9, X9, e9, st9⟩ := getF X6 hx hZ hown (host := "") (Or.inl (hw _ (List.mem_of_getElem? (i := 17) rfl))) Via.refl e6 F_s (g := (mkF m 4 #[.val (.ref a1), .val (.int p2), .val (.int (2 : Int32))] [(.ref a1), (.int (2 : Int32))])) rfl rfl (hb hby d6_4)
      refine go st9 ?_
      show Go p e below _ (T9.setTop (mkF m 7 #[.val (.ref a1), .val (.int p2), .val (.int (2 : Int32))] [(.int (2 : Int32)), (.int (2 : Int32))]))
      refine go (fun _ q => XS.icmpYes X9.here hx rfl (pc0 := 7) (pc' := 28) rfl (hb hby d6_7) rfl (flt (by decide : ¬ ((2 : Int32) < (2 : Int32)))).2.1 (by decide) (by decide) q) ?_
      show Go p e below _ (T9.setTop (mkF m 28 #[.val (.ref a1), .val (.int p2), .val (.int (2 : Int32))] []))
      refine go (fun _ q => XS.iconst X9.here hx rfl (hb hby d6_28) q) ?_
      show Go p e below _ (T9.setTop (mkF m 29 #[.val (.ref a1), .val (.int p2), .val (.int (2 : Int32))] [(.int (0 : Int32))]))
      exact own_retZ (z' := (0 : Int32)) X9 hx hlk hret (hb hby d6_29) (by decide) (by decide) rfl ⟨congrArg (fun z => some (Value.int z)) (by rw [c2, if_neg hc4, if_neg hc8]), N0, e9⟩
theorem own_c2 (p2 x0 x1 : Int32) : c2 p2 x0 x1 = if p2 ∈ ([x0, x1] : List Int32) then 1 else 0 := by
  unfold c2
  simp only [List.mem_cons, List.not_mem_nil, or_false, eq_comm (a := p2)] <;> (repeat' split) <;> simp_all
def c3 (p2 x0 x1 x2 : Int32) : Int32 := (if x0 = p2 then (1 : Int32) else (if x1 = p2 then (1 : Int32) else (if x2 = p2 then (1 : Int32) else (0 : Int32))))
set_option maxRecDepth 65536 in
set_option maxHeartbeats 40000000 in
theorem rmC_3 (l : Launch) (Z : State) (a0 : Array Value) (hw : ∀ d ∈ tables_1, d.before a0 Z = true) (ws : List Jvm.Cond) (a1 : Addr) (p2 : Int32) (h0 : Heap) (n0 : Nat) {t : Addr} {k : ClassId} {x0 x1 x2 : Int32} {y3 : Value} (F_m : Fld Z h0 a1 "quorate/NodeSet" "members" "[I" (.ref t)) (F_s : Fld Z h0 a1 "quorate/NodeSet" "size" "I" (.int (3 : Int32))) (V_t : Arv Z h0 t k .int (4 : Int32) [(.int x0), (.int x1), (.int x2), y3] (.int (0 : Int32))) :
    MetFree l (⟨"quorate/NodeSet", "contains", "(I)Z"⟩ : MethodName) (head1 (Jvm.Cond.code (⟨"quorate/NodeSet", "contains", "(I)Z"⟩ : MethodName) prog_102_method_4_code 3 (some .boolean) :: ws) ({ frames := 0, cells := 0, slots := 0, locals := 0 } : Room)) (fun a U => a = #[(.ref a1), (.int p2)] ∧ Z.Warmed39 U.vm ∧ U.heap = h0) (fun _ _ _ _ _ => True) (fun _ U o U' => ∃ v L, o = .returned v ∧ (QP (some (.int (c3 p2 x0 x1 x2))) h0 n0) v U'.heap L ∧ FrameEnd U o U' L ({ frames := 0, cells := 0, slots := 0, locals := 0 } : Room).cells ({ frames := 0, cells := 0, slots := 0, locals := 0 } : Room).slots) := by
  refine own_met (plainFor_of_name pn_6) (fun m => ef_6 m a1 p2) ?_
  intro p e s m below meth c T0 hx hby hml hown hnm hret hlk hZ X0 e0
  have hown : s.vm.findClass "quorate/NodeSet" = some m.cls := hown
  have hnm : meth.name = "contains" := hnm
  have hret : meth.sig.returnType = some .boolean := hret
  have N0 := Fr.nil n0
  show Go p e below _ (T0.setTop (mkF m 0 #[.val (.ref a1), .val (.int p2), .unset] []))
  refine go (fun _ q => XS.iconst X0.here hx rfl (hb hby d6_0) q) ?_
  show Go p e below _ (T0.setTop (mkF m 1 #[.val (.ref a1), .val (.int p2), .unset] [(.int (0 : Int32))]))
  refine go (fun _ q => XS.istoreN X0.here hx rfl (hb hby d6_1) rfl (l' := #[.val (.ref a1), .val (.int p2), .val (.int (0 : Int32))]) rfl q) ?_
  show Go p e below _ (T0.setTop (mkF m 2 #[.val (.ref a1), .val (.int p2), .val (.int (0 : Int32))] []))
  refine go (fun _ q => XS.iloadN X0.here hx rfl (hb hby d6_2) rfl q) ?_
  show Go p e below _ (T0.setTop (mkF m 3 #[.val (.ref a1), .val (.int p2), .val (.int (0 : Int32))] [(.int (0 : Int32))]))
  refine go (fun _ q => XS.aloadN X0.here hx rfl (hb hby d6_3) rfl rfl q) ?_
  show Go p e below _ (T0.setTop (mkF m 4 #[.val (.ref a1), .val (.int p2), .val (.int (0 : Int32))] [(.ref a1), (.int (0 : Int32))]))
  obtain ⟨T1, X1, e1, st1⟩ := getF X0 hx hZ hown (host := "") (Or.inl (hw _ (List.mem_of_getElem? (i := 17) rfl))) Via.refl e0 F_s (g := (mkF m 4 #[.val (.ref a1), .val (.int p2), .val (.int (0 : Int32))] [(.ref a1), (.int (0 : Int32))])) rfl rfl (hb hby d6_4)
  refine go st1 ?_
  show Go p e below _ (T1.setTop (mkF m 7 #[.val (.ref a1), .val (.int p2), .val (.int (0 : Int32))] [(.int (3 : Int32)), (.int (0 : Int32))]))
  refine go (fun _ q => XS.icmpNo X1.here hx rfl (hb hby d6_7) rfl (tlt (by decide : (0 : Int32) < (3 : Int32))).2.1 q) ?_
  show Go p e below _ (T1.setTop (mkF m 10 #[.val (.ref a1), .val (.int p2), .val (.int (0 : Int32))] []))
  refine go (fun _ q => XS.aloadN X1.here hx rfl (hb hby d6_10) rfl rfl q) ?_
  show Go p e below _ (T1.setTop (mkF m 11 #[.val (.ref a1), .val (.int p2), .val (.int (0 : Int32))] [(.ref a1)]))
  obtain ⟨T2, X2, e2, st2⟩ := getF X1 hx hZ hown (host := "") (Or.inl (hw _ (List.mem_of_getElem? (i := 10) rfl))) Via.refl e1 F_m (g := (mkF m 11 #[.val (.ref a1), .val (.int p2), .val (.int (0 : Int32))] [(.ref a1)])) rfl rfl (hb hby d6_11)
  refine go st2 ?_
  show Go p e below _ (T2.setTop (mkF m 14 #[.val (.ref a1), .val (.int p2), .val (.int (0 : Int32))] [(.ref t)]))
  refine go (fun _ q => XS.iloadN X2.here hx rfl (hb hby d6_14) rfl q) ?_
  show Go p e below _ (T2.setTop (mkF m 15 #[.val (.ref a1), .val (.int p2), .val (.int (0 : Int32))] [(.int (0 : Int32)), (.ref t)]))
  obtain ⟨cl3, Ar3, q3, S3, Ng3, H3, G3⟩ := id V_t
  refine go (X2.iaload hx (j := (0 : Int32)) (v := (.int x0)) (by rw [e2]; exact Ar3.1) (State.isArrayOf_alike hZ.alike Ar3.2.1) Ar3.2.2 (inb_of S3 ⟨by decide, by decide⟩) (H3 _ (by rw [S3]; decide)) (g := (mkF m 15 #[.val (.ref a1), .val (.int p2), .val (.int (0 : Int32))] [(.int (0 : Int32)), (.ref t)])) rfl rfl (hb hby d6_15)) ?_
  show Go p e below _ (T2.setTop (mkF m 16 #[.val (.ref a1), .val (.int p2), .val (.int (0 : Int32))] [(.int x0)]))
  refine go (fun _ q => XS.iloadN X2.here hx rfl (hb hby d6_16) rfl q) ?_
  show Go p e below _ (T2.setTop (mkF m 17 #[.val (.ref a1), .val (.int p2), .val (.int (0 : Int32))] [(.int p2), (.int x0)]))
  by_cases hc4 : x0 = p2
  · refine go (fun _ q => XS.icmpNo X2.here hx rfl (hb hby d6_17) rfl (teq hc4).2 q) ?_
    show Go p e below _ (T2.setTop (mkF m 20 #[.val (.ref a1), .val (.int p2), .val (.int (0 : Int32))] []))
    refine go (fun _ q => XS.iconst X2.here hx rfl (hb hby d6_20) q) ?_
    show Go p e below _ (T2.setTop (mkF m 21 #[.val (.ref a1), .val (.int p2), .val (.int (0 : Int32))] [(.int (1 : Int32))]))
    exact own_retZ (z' := (1 : Int32)) X2 hx hlk hret (hb hby d6_21) (by decide) (by decide) rfl ⟨congrArg (fun z => some (Value.int z)) (by rw [c3, if_pos hc4]), N0, e2⟩
  · refine go (fun _ q => XS.icmpYes X2.here hx rfl (pc0 := 17) (pc' := 22) rfl (hb hby d6_17) rfl (feq hc4).2 (by decide) (by decide) q) ?_
    show Go p e below _ (T2.setTop (mkF m 22 #[.val (.ref a1), .val (.int p2), .val (.int (0 : Int32))] []))
    refine go (fun _ q => XS.iinc X2.here hx rfl (hb hby d6_22) rfl (l' := #[.val (.ref a1), .val (.int p2), .val (.int (1 : Int32))]) rfl q) ?_
    show Go p e below _ (T2.setTop (mkF m 25 #[.val (.ref a1), .val (.int p2), .val (.int (1 : Int32))] []))
    refine go (fun _ q => XS.goto X2.here hx rfl (pc0 := 25) (pc' := 2) rfl (hb hby d6_25) (by decide) (by decide) q) ?_
    show Go p e below _ (T2.setTop (mkF m 2 #[.val (.ref a1), .val (.int p2), .val (.int (1 : Int32))] []))
    refine go (fun _ q => XS.iloadN X2.here hx rfl (hb hby d6_2) rfl q) ?_
    show Go p e below _ (T2.setTop (mkF m 3 #[.val (.ref a1), .val (.int p2), .val (.int (1 : Int32))] [(.int (1 : Int32))]))
    refine go (fun _ q => XS.aloadN X2.here hx rfl (hb hby d6_3) rfl rfl q) ?_
    show Go p e below _ (T2.setTop (mkF m 4 #[.val (.ref a1), .val (.int p2), .val (.int (1 : Int32))] [(.ref a1), (.int (1 : Int32))]))
    obtain ⟨T5, X5, e5, st5⟩ := getF X2 hx hZ hown (host := "") (Or.inl (hw _ (List.mem_of_getElem? (i := 17) rfl))) Via.refl e2 F_s (g := (mkF m 4 #[.val (.ref a1), .val (.int p2), .val (.int (1 : Int32))] [(.ref a1), (.int (1 : Int32))])) rfl rfl (hb hby d6_4)
    refine go st5 ?_
    show Go p e below _ (T5.setTop (mkF m 7 #[.val (.ref a1), .val (.int p2), .val (.int (1 : Int32))] [(.int (3 : Int32)), (.int (1 : Int32))]))
    refine go (fun _ q => XS.icmpNo X5.here hx rfl (hb hby d6_7) rfl (tlt (by decide : (1 : Int32) < (3 : Int32))).2.1 q) ?_
    show Go p e below _ (T5.setTop (mkF m 10 #[.val (.ref a1), .val (.int p2), .val (.int (1 : Int32))] []))
    refine go (fun _ q => XS.aloadN X5.here hx rfl (hb hby d6_10) rfl rfl q) ?_
    show Go p e below _ (T5.setTop (mkF m 11 #[.val (.ref a1), .val (.int p2), .val (.int (1 : Int32))] [(.ref a1)]))
    obtain ⟨T6, X6, e6, st6⟩ := getF X5 hx hZ hown (host := "") (Or.inl (hw _ (List.mem_of_getElem? (i := 10) rfl))) Via.refl e5 F_m (g := (mkF m 11 #[.val (.ref a1), .val (.int p2), .val (.int (1 : Int32))] [(.ref a1)])) rfl rfl (hb hby d6_11)
    refine go st6 ?_
    show Go p e below _ (T6.setTop (mkF m 14 #[.val (.ref a1), .val (.int p2), .val (.int (1 : Int32))] [(.ref t)]))
    refine go (fun _ q => XS.iloadN X6.here hx rfl (hb hby d6_14) rfl q) ?_
    show Go p e below _ (T6.setTop (mkF m 15 #[.val (.ref a1), .val (.int p2), .val (.int (1 : Int32))] [(.int (1 : Int32)), (.ref t)]))
    obtain ⟨cl7, Ar7, q7, S7, Ng7, H7, G7⟩ := id V_t
    refine go (X6.iaload hx (j := (1 : Int32)) (v := (.int x1)) (by rw [e6]; exact Ar7.1) (State.isArrayOf_alike hZ.alike Ar7.2.1) Ar7.2.2 (inb_of S7 ⟨by decide, by decide⟩) (H7 _ (by rw [S7]; decide)) (g := (mkF m 15 #[.val (.ref a1), .val (.int p2), .val (.int (1 : Int32))] [(.int (1 : Int32)), (.ref t)])) rfl rfl (hb hby d6_15)) ?_
    show Go p e below _ (T6.setTop (mkF m 16 #[.val (.ref a1), .val (.int p2), .val (.int (1 : Int32))] [(.int x1)]))
    refine go (fun _ q => XS.iloadN X6.here hx rfl (hb hby d6_16) rfl q) ?_
    show Go p e below _ (T6.setTop (mkF m 17 #[.val (.ref a1), .val (.int p2), .val (.int (1 : Int32))] [(.int p2), (.int x1)]))
    by_cases hc8 : x1 = p2
    · refine go (fun _ q => XS.icmpNo X6.here hx rfl (hb hby d6_17) rfl (teq hc8).2 q) ?_
      show Go p e below _ (T6.setTop (mkF m 20 #[.val (.ref a1), .val (.int p2), .val (.int (1 : Int32))] []))
      refine go (fun _ q => XS.iconst X6.here hx rfl (hb hby d6_20) q) ?_
      show Go p e below _ (T6.setTop (mkF m 21 #[.val (.ref a1), .val (.int p2), .val (.int (1 : Int32))] [(.int (1 : Int32))]))
      exact own_retZ (z' := (1 : Int32)) X6 hx hlk hret (hb hby d6_21) (by decide) (by decide) rfl ⟨congrArg (fun z => some (Value.int z)) (by rw [c3, if_neg hc4, if_pos hc8]), N0, e6⟩
    · refine go (fun _ q => XS.icmpYes X6.here hx rfl (pc0 := 17) (pc' := 22) rfl (hb hby d6_17) rfl (feq hc8).2 (by decide) (by decide) q) ?_
      show Go p e below _ (T6.setTop (mkF m 22 #[.val (.ref a1), .val (.int p2), .val (.int (1 : Int32))] []))
      refine go (fun _ q => XS.iinc X6.here hx rfl (hb hby d6_22) rfl (l' := #[.val (.ref a1), .val (.int p2), .val (.int (2 : Int32))]) rfl q) ?_
      show Go p e below _ (T6.setTop (mkF m 25 #[.val (.ref a1), .val (.int p2), .val (.int (2 : Int32))] []))
      refine go (fun _ q => XS.goto X6.here hx rfl (pc0 := 25) (pc' := 2) rfl (hb hby d6_25) (by decide) (by decide) q) ?_
      show Go p e below _ (T6.setTop (mkF m 2 #[.val (.ref a1), .val (.int p2), .val (.int (2 : Int32))] []))
      refine go (fun _ q => XS.iloadN X6.here hx rfl (hb hby d6_2) rfl q) ?_
      show Go p e below _ (T6.setTop (mkF m 3 #[.val (.ref a1), .val (.int p2), .val (.int (2 : Int32))] [(.int (2 : Int32))]))
      refine go (fun _ q => XS.aloadN X6.here hx rfl (hb hby d6_3) rfl rfl q) ?_
      show Go p e below _ (T6.setTop (mkF m 4 #[.val (.ref a1), .val (.int p2), .val (.int (2 : Int32))] [(.ref a1), (.int (2 : Int32))]))
      obtain ⟨T9, X9, e9, st9⟩ := getF X6 hx hZ hown (host := "") (Or.inl (hw _ (List.mem_of_getElem? (i := 17) rfl))) Via.refl e6 F_s (g := (mkF m 4 #[.val (.ref a1), .val (.int p2), .val (.int (2 : Int32))] [(.ref a1), (.int (2 : Int32))])) rfl rfl (hb hby d6_4)
      refine go st9 ?_
      show Go p e below _ (T9.setTop (mkF m 7 #[.val (.ref a1), .val (.int p2), .val (.int (2 : Int32))] [(.int (3 : Int32)), (.int (2 : Int32))]))
      refine go (fun _ q => XS.icmpNo X9.here hx rfl (hb hby d6_7) rfl (tlt (by decide : (2 : Int32) < (3 : Int32))).2.1 q) ?_
      show Go p e below _ (T9.setTop (mkF m 10 #[.val (.ref a1), .val (.int p2), .val (.int (2 : Int32))] []))
      refine go (fun _ q => XS.aloadN X9.here hx rfl (hb hby d6_10) rfl rfl q) ?_
      show Go p e below _ (T9.setTop (mkF m 11 #[.val (.ref a1), .val (.int p2), .val (.int (2 : Int32))] [(.ref a1)]))
      obtain ⟨T10, X10, e10, st10⟩ := getF X9 hx hZ hown (host := "") (Or.inl (hw _ (List.mem_of_getElem? (i := 10) rfl))) Via.refl e9 F_m (g := (mkF m 11 #[.val (.ref a1), .val (.int p2), .val (.int (2 : Int32))] [(.ref a1)])) rfl rfl (hb hby d6_11)
      refine go st10 ?_
      show Go p e below _ (T10.setTop (mkF m 14 #[.val (.ref a1), .val (.int p2), .val (.int (2 : Int32))] [(.ref t)]))
      refine go (fun _ q => XS.iloadN X10.here hx rfl (hb hby d6_14) rfl q) ?_
      show Go p e below _ (T10.setTop (mkF m 15 #[.val (.ref a1), .val (.int p2), .val (.int (2 : Int32))] [(.int (2 : Int32)), (.ref t)]))
      obtain ⟨cl11, Ar11, q11, S11, Ng11, H11, G11⟩ := id V_t
      refine go (X10.iaload hx (j := (2 : Int32)) (v := (.int x2)) (by rw [e10]; exact Ar11.1) (State.isArrayOf_alike hZ.alike Ar11.2.1) Ar11.2.2 (inb_of S11 ⟨by decide, by decide⟩) (H11 _ (by rw [S11]; decide)) (g := (mkF m 15 #[.val (.ref a1), .val (.int p2), .val (.int (2 : Int32))] [(.int (2 : Int32)), (.ref t)])) rfl rfl (hb hby d6_15)) ?_
      show Go p e below _ (T10.setTop (mkF m 16 #[.val (.ref a1), .val (.int p2), .val (.int (2 : Int32))] [(.int x2)]))
      refine go (fun _ q => XS.iloadN X10.here hx rfl (hb hby d6_16) rfl q) ?_
      show Go p e below _ (T10.setTop (mkF m 17 #[.val (.ref a1), .val (.int p2), .val (.int (2 : Int32))] [(.int p2), (.int x2)]))
      by_cases hc12 : x2 = p2
      · refine go (fun _ q => XS.icmpNo X10.here hx rfl (hb hby d6_17) rfl (teq hc12).2 q) ?_
        show Go p e below _ (T10.setTop (mkF m 20 #[.val (.ref a1), .val (.int p2), .val (.int (2 : Int32))] []))
        refine go (fun _ q => XS.iconst X10.here hx rfl (hb hby d6_20) q) ?_
        show Go p e below _ (T10.setTop (mkF m 21 #[.val (.ref a1), .val (.int p2), .val (.int (2 : Int32))] [(.int (1 : Int32))]))
        exact own_retZ (z' := (1 : Int32)) X10 hx hlk hret (hb hby d6_21) (by decide) (by decide) rfl ⟨congrArg (fun z => some (Value.int z)) (by rw [c3, if_neg hc4, if_neg hc8, if_pos hc12]), N0, e10⟩
      · refine go (fun _ q => XS.icmpYes X10.here hx rfl (pc0 := 17) (pc' := 22) rfl (hb hby d6_17) rfl (feq hc12).2 (by decide) (by decide) q) ?_
        show Go p e below _ (T10.setTop (mkF m 22 #[.val (.ref a1), .val (.int p2), .val (.int (2 : Int32))] []))
        refine go (fun _ q => XS.iinc X10.here hx rfl (hb hby d6_22) rfl (l' := #[.val (.ref a1), .val (.int p2), .val (.int (3 : Int32))]) rfl q) ?_
        show Go p e below _ (T10.setTop (mkF m 25 #[.val (.ref a1), .val (.int p2), .val (.int (3 : Int32))] []))
        refine go (fun _ q => XS.goto X10.here hx rfl (pc0 := 25) (pc' := 2) rfl (hb hby d6_25) (by decide) (by decide) q) ?_
        show Go p e below _ (T10.setTop (mkF m 2 #[.val (.ref a1), .val (.int p2), .val (.int (3 : Int32))] []))
        refine go (fun _ q => XS.iloadN X10.here hx rfl (hb hby d6_2) rfl q) ?_
        show Go p e below _ (T10.setTop (mkF m 3 #[.val (.ref a1), .val (.int p2), .val (.int (3 : Int32))] [(.int (3 : Int32))]))
        refine go (fun _ q => XS.aloadN X10.here hx rfl (hb hby d6_3) rfl rfl q) ?_
        show Go p e below _ (T10.setTop (mkF m 4 #[.val (.ref a1), .val (.int p2), .val (.int (3 : Int32))] [(.ref a1), (.int (3 : Int32))]))
        obtain ⟨T13, X13, e13, st13⟩ := getF X10 hx hZ hown (host := "") (Or.inl (hw _ (List.mem_of_getElem? (i := 17) rfl))) Via.refl e10 F_s (g := (mkF m 4 #[.val (.ref a1), .val (.int p2), .val (.int (3 : Int32))] [(.ref a1), (.int (3 : Int32))])) rfl rfl (hb hby d6_4)
        refine go st13 ?_
        show Go p e below _ (T13.setTop (mkF m 7 #[.val (.ref a1), .val (.int p2), .val (.int (3 : Int32))] [(.int (3 : Int32)), (.int (3 : Int32))]))
        refine go (fun _ q => XS.icmpYes X13.here hx rfl (pc0 := 7) (pc' := 28) rfl (hb hby d6_7) rfl (flt (by decide : ¬ ((3 : Int32) < (3 : Int32)))).2.1 (by decide) (by decide) q) ?_
        show Go p e below _ (T13.setTop (mkF m 28 #[.val (.ref a1), .val (.int p2), .val (.int (3 : Int32))] []))
        refine go (fun _ q => XS.iconst X13.here hx rfl (hb hby d6_28) q) ?_
        show Go p e below _ (T13.setTop (mkF m 29 #[.val (.ref a1), .val (.int p2), .val (.int (3 : Int32))] [(.int (0 : Int32))]))
        exact own_retZ (z' := (0 : Int32)) X13 hx hlk hret (hb hby d6_29) (by decide) (by decide) rfl ⟨congrArg (fun z => some (Value.int z)) (by rw [c3, if_neg hc4, if_neg hc8, if_neg hc12]), N0, e13⟩
theorem own_c3 (p2 x0 x1 x2 : Int32) : c3 p2 x0 x1 x2 = if p2 ∈ ([x0, x1, x2] : List Int32) then 1 else 0 := by
  unfold c3
  simp only [List.mem_cons, List.not_mem_nil, or_false, eq_comm (a := p2)] <;> (repeat' split) <;> simp_all
set_option maxHeartbeats 4000000 in
theorem rmC (l : Launch) (Z : State) (a0 : Array Value) (hw : ∀ d ∈ tables_1, d.before a0 Z = true) (ws : List Jvm.Cond) (a1 : Addr) (p2 : Int32) (h0 : Heap) (n0 : Nat) (xs : List Int32) (hl : xs.length ≤ 3) (F : NSet Z h0 n0 a1 xs) :
    MetFree l (⟨"quorate/NodeSet", "contains", "(I)Z"⟩ : MethodName) (head1 (Jvm.Cond.code (⟨"quorate/NodeSet", "contains", "(I)Z"⟩ : MethodName) prog_102_method_4_code 3 (some .boolean) :: ws) ({ frames := 0, cells := 0, slots := 0, locals := 0 } : Room)) (fun a U => a = #[(.ref a1), (.int p2)] ∧ Z.Warmed39 U.vm ∧ U.heap = h0) (fun _ _ _ _ _ => True) (fun _ U o U' => ∃ v L, o = .returned v ∧ (QP (some (.int (if p2 ∈ xs then (1 : Int32) else (0 : Int32)))) h0 n0) v U'.heap L ∧ FrameEnd U o U' L ({ frames := 0, cells := 0, slots := 0, locals := 0 } : Room).cells ({ frames := 0, cells := 0, slots := 0, locals := 0 } : Room).slots) := by
  rcases xs with _ | ⟨x0, _ | ⟨x1, _ | ⟨x2, _ | ⟨x3, xs⟩⟩⟩⟩
  · obtain ⟨t, k, ys, g1, g2, g3, E, Fm, Fs, V, hy⟩ := F
    obtain ⟨y0, y1, y2, y3, rfl⟩ := own_ys hy rfl
    have h := rmC_0 l Z a0 hw ws a1 p2 h0 n0 Fm Fs V
    rw [own_c0] at h
    exact h
  · obtain ⟨t, k, ys, g1, g2, g3, E, Fm, Fs, V, hy⟩ := F
    obtain ⟨y1, y2, y3, rfl⟩ := own_ys1 hy
    have h := rmC_1 l Z a0 hw ws a1 p2 h0 n0 Fm Fs V
    rw [own_c1] at h
    exact h
  · obtain ⟨t, k, ys, g1, g2, g3, E, Fm, Fs, V, hy⟩ := F
    obtain ⟨y2, y3, rfl⟩ := own_ys2 hy
    have h := rmC_2 l Z a0 hw ws a1 p2 h0 n0 Fm Fs V
    rw [own_c2] at h
    exact h
  · obtain ⟨t, k, ys, g1, g2, g3, E, Fm, Fs, V, hy⟩ := F
    obtain ⟨y3, rfl⟩ := own_ys3 hy
    have h := rmC_3 l Z a0 hw ws a1 p2 h0 n0 Fm Fs V
    rw [own_c3] at h
    exact h
  · simp only [List.length_cons] at hl; omega
theorem d5_0 : decode prog_102_method_5_code 0 = .ok (.aload_n 0, 1) := by decide +kernel
theorem d5_1 : decode prog_102_method_5_code 1 = .ok (.getfield 17, 3) := by decide +kernel
theorem d5_4 : decode prog_102_method_5_code 4 = .ok (.ireturn, 1) := by decide +kernel
theorem pn_5 : plainName "quorate/NodeSet" = true := by first | (simp [plainName, overriddenIn]; done) | decide +kernel
theorem ef_5 (m : MethodId) (x0 : Addr) : entryFrame m #[(.ref x0)] 1 = mkF m 0 #[.val (.ref x0)] [] := by first | (simp [entryFrame, mkF, argsToLocals, Value.category]; done) | rfl
set_option maxRecDepth 65536 in
set_option maxHeartbeats 40000000 in
theorem rmS (l : Launch) (Z : State) (a0 : Array Value) (hw : ∀ d ∈ tables_1, d.before a0 Z = true) (ws : List Jvm.Cond) (a1 : Addr) (h0 : Heap) (n0 : Nat) (xs : List Int32) (F : NSet Z h0 n0 a1 xs) :
    MetFree l (⟨"quorate/NodeSet", "size", "()I"⟩ : MethodName) (head1 (Jvm.Cond.code (⟨"quorate/NodeSet", "size", "()I"⟩ : MethodName) prog_102_method_5_code 1 (some .int) :: ws) ({ frames := 0, cells := 0, slots := 0, locals := 0 } : Room)) (fun a U => a = #[(.ref a1)] ∧ Z.Warmed39 U.vm ∧ U.heap = h0) (fun _ _ _ _ _ => True) (fun _ U o U' => ∃ v L, o = .returned v ∧ (QP (some (.int (Int32.ofNat xs.length))) h0 n0) v U'.heap L ∧ FrameEnd U o U' L ({ frames := 0, cells := 0, slots := 0, locals := 0 } : Room).cells ({ frames := 0, cells := 0, slots := 0, locals := 0 } : Room).slots) := by
  refine own_met (plainFor_of_name pn_5) (fun m => ef_5 m a1) ?_
  intro p e s m below meth c T0 hx hby hml hown hnm hret hlk hZ X0 e0
  have hown : s.vm.findClass "quorate/NodeSet" = some m.cls := hown
  have hnm : meth.name = "size" := hnm
  have hret : meth.sig.returnType = some .int := hret
  have N0 := Fr.nil n0
  obtain ⟨t, k, ys, g1, g2, g3, E, Fm, F_s, V, hy⟩ := F
  show Go p e below _ (T0.setTop (mkF m 0 #[.val (.ref a1)] []))
  refine go (fun _ q => XS.aloadN X0.here hx rfl (hb hby d5_0) rfl rfl q) ?_
  show Go p e below _ (T0.setTop (mkF m 1 #[.val (.ref a1)] [(.ref a1)]))
  obtain ⟨T1, X1, e1, st1⟩ := getF X0 hx hZ hown (host := "") (Or.inl (hw _ (List.mem_of_getElem? (i := 17) rfl))) Via.refl e0 F_s (g := (mkF m 1 #[.val (.ref a1)] [(.ref a1)])) rfl rfl (hb hby d5_1)
  refine go st1 ?_
  show Go p e below _ (T1.setTop (mkF m 4 #[.val (.ref a1)] [(.int (Int32.ofNat xs.length))]))
  exact own_retI X1 hx hlk hret (hb hby d5_4) (by decide) (by decide) ⟨rfl, N0, e1⟩
theorem d7_0 : decode prog_102_method_2_code 0 = .ok (.aload_n 0, 1) := by decide +kernel
theorem d7_1 : decode prog_102_method_2_code 1 = .ok (.iload_n 1, 1) := by decide +kernel
theorem d7_2 : decode prog_102_method_2_code 2 = .ok (.invokevirtual 13, 3) := by decide +kernel
theorem d7_5 : decode prog_102_method_2_code 5 = .ok (.ifCond .eq 5, 3) := by decide +kernel
theorem d7_8 : decode prog_102_method_2_code 8 = .ok (.iconst 0, 1) := by decide +kernel
theorem d7_9 : decode prog_102_method_2_code 9 = .ok (.ireturn, 1) := by decide +kernel
theorem d7_10 : decode prog_102_method_2_code 10 = .ok (.aload_n 0, 1) := by decide +kernel
theorem d7_11 : decode prog_102_method_2_code 11 = .ok (.getfield 17, 3) := by decide +kernel
theorem d7_14 : decode prog_102_method_2_code 14 = .ok (.aload_n 0, 1) := by decide +kernel
theorem d7_15 : decode prog_102_method_2_code 15 = .ok (.getfield 7, 3) := by decide +kernel
theorem d7_18 : decode prog_102_method_2_code 18 = .ok (.arraylength, 1) := by decide +kernel
theorem d7_19 : decode prog_102_method_2_code 19 = .ok (.if_icmp .ne 20, 3) := by decide +kernel
theorem d7_39 : decode prog_102_method_2_code 39 = .ok (.aload_n 0, 1) := by decide +kernel
theorem d7_40 : decode prog_102_method_2_code 40 = .ok (.getfield 7, 3) := by decide +kernel
theorem d7_43 : decode prog_102_method_2_code 43 = .ok (.aload_n 0, 1) := by decide +kernel
theorem d7_44 : decode prog_102_method_2_code 44 = .ok (.dup, 1) := by decide +kernel
theorem d7_45 : decode prog_102_method_2_code 45 = .ok (.getfield 17, 3) := by decide +kernel
theorem d7_48 : decode prog_102_method_2_code 48 = .ok (.dup_x1, 1) := by decide +kernel
theorem d7_49 : decode prog_102_method_2_code 49 = .ok (.iconst 1, 1) := by decide +kernel
theorem d7_50 : decode prog_102_method_2_code 50 = .ok (.iadd, 1) := by decide +kernel
theorem d7_51 : decode prog_102_method_2_code 51 = .ok (.putfield 17, 3) := by decide +kernel
theorem d7_54 : decode prog_102_method_2_code 54 = .ok (.iload_n 1, 1) := by decide +kernel
theorem d7_55 : decode prog_102_method_2_code 55 = .ok (.iastore, 1) := by decide +kernel
theorem d7_56 : decode prog_102_method_2_code 56 = .ok (.iconst 1, 1) := by decide +kernel
theorem d7_57 : decode prog_102_method_2_code 57 = .ok (.ireturn, 1) := by decide +kernel
theorem pd_7_0 : parseMethodDescriptor "(I)Z" = some ⟨[.int], some .boolean⟩ := by decide +kernel
theorem pn_7 : plainName "quorate/NodeSet" = true := by first | (simp [plainName, overriddenIn]; done) | decide +kernel
theorem ef_7 (m : MethodId) (x0 : Addr) (x1 : Int32) : entryFrame m #[(.ref x0), (.int x1)] 2 = mkF m 0 #[.val (.ref x0), .val (.int x1)] [] := by first | (simp [entryFrame, mkF, argsToLocals, Value.category]; done) | rfl
def QA (Z : State) (a1 : Addr) (r : Option Value) (xs : List Int32) (n0 : Nat) (v : Option Value) (h : Heap) (L : List Loc) : Prop := v = r ∧ Fr n0 L ∧ n0 ≤ h.size ∧ NSet Z h n0 a1 xs
set_option maxRecDepth 65536 in
set_option maxHeartbeats 40000000 in
theorem rmA_0 (l : Launch) (Z : State) (a0 : Array Value) (hw : ∀ d ∈ tables_1, d.before a0 Z = true) (ws : List Jvm.Cond) (a1 : Addr) (p2 : Int32) (h0 : Heap) (n0 : Nat) {t : Addr} {k : ClassId} {y0 y1 y2 y3 : Value} (Z0 : n0 ≤ h0.size) (g_a1 : n0 ≤ a1) (g_t : n0 ≤ t) (ne_at : a1 ≠ t) (E_a1 : Exa Z h0 a1 "quorate/NodeSet") (F_m : Fld Z h0 a1 "quorate/NodeSet" "members" "[I" (.ref t)) (F_s : Fld Z h0 a1 "quorate/NodeSet" "size" "I" (.int (0 : Int32))) (V_t : Arv Z h0 t k .int (4 : Int32) [y0, y1, y2, y3] (.int (0 : Int32))) :
    MetFree l (⟨"quorate/NodeSet", "add", "(I)Z"⟩ : MethodName) (head1 (Jvm.Cond.code (⟨"quorate/NodeSet", "add", "(I)Z"⟩ : MethodName) prog_102_method_2_code 2 (some .boolean) :: ws) ({ frames := 1, cells := 0, slots := 0, locals := 14 } : Room)) (fun a U => a = #[(.ref a1), (.int p2)] ∧ Z.Warmed39 U.vm ∧ U.heap = h0) (fun _ _ _ _ _ => True) (fun _ U o U' => ∃ v L, o = .returned v ∧ (QA Z a1 (some (.int (if p2 ∈ ([] : List Int32) then (0 : Int32) else (1 : Int32)))) (own_add [] p2) n0) v U'.heap L ∧ FrameEnd U o U' L ({ frames := 1, cells := 0, slots := 0, locals := 14 } : Room).cells ({ frames := 1, cells := 0, slots := 0, locals := 14 } : Room).slots) := by
  refine own_met (plainFor_of_name pn_7) (fun m => ef_7 m a1 p2) ?_
  intro p e s m below meth c T0 hx hby hml hown hnm hret hlk hZ X0 e0
  have hown : s.vm.findClass "quorate/NodeSet" = some m.cls := hown
  have hnm : meth.name = "add" := hnm
  have hret : meth.sig.returnType = some .boolean := hret
  have N0 := Fr.nil n0
  show Go p e below _ (T0.setTop (mkF m 0 #[.val (.ref a1), .val (.int p2)] []))
  refine go (fun _ q => XS.aloadN X0.here hx rfl (hb hby d7_0) rfl rfl q) ?_
  show Go p e below _ (T0.setTop (mkF m 1 #[.val (.ref a1), .val (.int p2)] [(.ref a1)]))
  refine go (fun _ q => XS.iloadN X0.here hx rfl (hb hby d7_1) rfl q) ?_
  show Go p e below _ (T0.setTop (mkF m 2 #[.val (.ref a1), .val (.int p2)] [(.int p2), (.ref a1)]))
  refine own_callV X0 hx hZ hown e0 (hw _ (List.mem_of_getElem? (i := 38) rfl)) (hw _ (List.mem_of_getElem? (i := 29) rfl)) (hw _ (List.mem_of_getElem? (i := 30) rfl)) (hw _ (List.mem_of_getElem? (i := 31) rfl)) (hw _ (List.mem_of_getElem? (i := 2) rfl)) (hw _ (List.mem_of_getElem? (i := 32) rfl)) (rmC_0 l Z a0 hw [] a1 p2 h0 n0 F_m F_s V_t) (by decide) (by decide) (W := 0) (by decide) (by decide) (by decide) (a := a1) E_a1 (g := (mkF m 2 #[.val (.ref a1), .val (.int p2)] [(.int p2), (.ref a1)])) rfl (by rw [hml]; rfl) (argsL := [(.int p2)]) (rest := []) rfl rfl (lenOf pd_7_0 rfl) (by show 2 * 0 + _ ≤ _; exact Nat.le_of_eq rfl) (hb hby d7_2) ?_
  rintro _ T1 L1 X1 ⟨rfl, N1q, e1⟩
  have N1 := Fr.app N0 N1q
  show Go p e below _ (T1.setTop (mkF m 5 #[.val (.ref a1), .val (.int p2)] [(.int (c0 p2 ))]))
  by_cases hc2 : (c0 p2 ) = (0 : Int32)
  · refine go (fun _ q => XS.ifYes X1.here hx rfl (pc0 := 5) (pc' := 10) rfl (hb hby d7_5) rfl ((if0 _ _).trans (teq hc2).1) (by decide) (by decide) q) ?_
    show Go p e below _ (T1.setTop (mkF m 10 #[.val (.ref a1), .val (.int p2)] []))
    refine go (fun _ q => XS.aloadN X1.here hx rfl (hb hby d7_10) rfl rfl q) ?_
    show Go p e below _ (T1.setTop (mkF m 11 #[.val (.ref a1), .val (.int p2)] [(.ref a1)]))
    obtain ⟨T3, X3, e3, st3⟩ := getF X1 hx hZ hown (host := "") (Or.inl (hw _ (List.mem_of_getElem? (i := 17) rfl))) Via.refl e1 F_s (g := (mkF m 11 #[.val (.ref a1), .val (.int p2)] [(.ref a1)])) rfl rfl (hb hby d7_11)
    refine go st3 ?_
    show Go p e below _ (T3.setTop (mkF m 14 #[.val (.ref a1), .val (.int p2)] [(.int (0 : Int32))]))
    refine go (fun _ q => XS.aloadN X3.here hx rfl (hb hby d7_14) rfl rfl q) ?_
    show Go p e below _ (T3.setTop (mkF m 15 #[.val (.ref a1), .val (.int p2)] [(.ref a1), (.int (0 : Int32))]))
    obtain ⟨T4, X4, e4, st4⟩ := getF X3 hx hZ hown (host := "") (Or.inl (hw _ (List.mem_of_getElem? (i := 10) rfl))) Via.refl e3 F_m (g := (mkF m 15 #[.val (.ref a1), .val (.int p2)] [(.ref a1), (.int (0 : Int32))])) rfl rfl (hb hby d7_15)
    refine go st4 ?_
    show Go p e below _ (T4.setTop (mkF m 18 #[.val (.ref a1), .val (.int p2)] [(.ref t), (.int (0 : Int32))]))
    obtain ⟨cl5, Ar5, q5, S5, Ng5, H5, G5⟩ := id V_t
    refine go (X4.arraylength hx (by rw [e4]; exact Ar5.1) (State.isArrayOf_alike hZ.alike Ar5.2.1) (g := (mkF m 18 #[.val (.ref a1), .val (.int p2)] [(.ref t), (.int (0 : Int32))])) rfl rfl (hb hby d7_18)) ?_
    rw [len_of S5 Ng5]
    show Go p e below _ (T4.setTop (mkF m 19 #[.val (.ref a1), .val (.int p2)] [(.int (4 : Int32)), (.int (0 : Int32))]))
    refine go (fun _ q => XS.icmpYes X4.here hx rfl (pc0 := 19) (pc' := 39) rfl (hb hby d7_19) rfl (feq (by decide : ¬ ((0 : Int32) = (4 : Int32)))).2 (by decide) (by decide) q) ?_
    show Go p e below _ (T4.setTop (mkF m 39 #[.val (.ref a1), .val (.int p2)] []))
    refine go (fun _ q => XS.aloadN X4.here hx rfl (hb hby d7_39) rfl rfl q) ?_
    show Go p e below _ (T4.setTop (mkF m 40 #[.val (.ref a1), .val (.int p2)] [(.ref a1)]))
    obtain ⟨T6, X6, e6, st6⟩ := getF X4 hx hZ hown (host := "") (Or.inl (hw _ (List.mem_of_getElem? (i := 10) rfl))) Via.refl e4 F_m (g := (mkF m 40 #[.val (.ref a1), .val (.int p2)] [(.ref a1)])) rfl rfl (hb hby d7_40)
    refine go st6 ?_
    show Go p e below _ (T6.setTop (mkF m 43 #[.val (.ref a1), .val (.int p2)] [(.ref t)]))
    refine go (fun _ q => XS.aloadN X6.here hx rfl (hb hby d7_43) rfl rfl q) ?_
    show Go p e below _ (T6.setTop (mkF m 44 #[.val (.ref a1), .val (.int p2)] [(.ref a1), (.ref t)]))
    refine go (fun _ q => XS.dup X6.here hx rfl (hb hby d7_44) rfl rfl q) ?_
    show Go p e below _ (T6.setTop (mkF m 45 #[.val (.ref a1), .val (.int p2)] [(.ref a1), (.ref a1), (.ref t)]))
    obtain ⟨T7, X7, e7, st7⟩ := getF X6 hx hZ hown (host := "") (Or.inl (hw _ (List.mem_of_getElem? (i := 17) rfl))) Via.refl e6 F_s (g := (mkF m 45 #[.val (.ref a1), .val (.int p2)] [(.ref a1), (.ref a1), (.ref t)])) rfl rfl (hb hby d7_45)
    refine go st7 ?_
    show Go p e below _ (T7.setTop (mkF m 48 #[.val (.ref a1), .val (.int p2)] [(.int (0 : Int32)), (.ref a1), (.ref t)]))
    refine go (fun _ q => XS.dupX1 X7.here hx rfl (hb hby d7_48) rfl rfl rfl q) ?_
    show Go p e below _ (T7.setTop (mkF m 49 #[.val (.ref a1), .val (.int p2)] [(.int (0 : Int32)), (.ref a1), (.int (0 : Int32)), (.ref t)]))
    refine go (fun _ q => XS.iconst X7.here hx rfl (hb hby d7_49) q) ?_
    show Go p e below _ (T7.setTop (mkF m 50 #[.val (.ref a1), .val (.int p2)] [(.int (1 : Int32)), (.int (0 : Int32)), (.ref a1), (.int (0 : Int32)), (.ref t)]))
    refine go (fun _ q => XS.iadd X7.here hx rfl (hb hby d7_50) rfl q) ?_
    show Go p e below _ (T7.setTop (mkF m 51 #[.val (.ref a1), .val (.int p2)] [(.int (1 : Int32)), (.ref a1), (.int (0 : Int32)), (.ref t)]))
    obtain ⟨T8, h8, X8, e8, W8, st8⟩ := putF X7 hx hZ hown (host := "") (Or.inl (hw _ (List.mem_of_getElem? (i := 17) rfl))) Via.refl e7 F_s E_a1 (Or.inl (hw _ (List.mem_of_getElem? (i := 18) rfl))) (hw _ (List.mem_of_getElem? (i := 1) rfl)) (ty := .int) (by decide) rfl rfl (g := (mkF m 51 #[.val (.ref a1), .val (.int p2)] [(.int (1 : Int32)), (.ref a1), (.int (0 : Int32)), (.ref t)])) rfl rfl (hb hby d7_51)
    refine go st8 ?_
    have F_s_8 : Fld Z h8 a1 "quorate/NodeSet" "size" "I" (.int (1 : Int32)) := F_s.same W8
    have E_a1_9 : Exa Z h8 a1 "quorate/NodeSet" := E_a1.wr W8
    have F_m_10 : Fld Z h8 a1 "quorate/NodeSet" "members" "[I" (.ref t) := F_m.other W8 (Or.inr (slot_ne (Or.inl (hw _ (List.mem_of_getElem? (i := 11) rfl))) (Or.inl (hw _ (List.mem_of_getElem? (i := 18) rfl))) (by decide) (t := (.array .int)) (t' := .int) (by decide) (by decide)))
    have V_t_11 : Arv Z h8 t k .int (4 : Int32) [y0, y1, y2, y3] (.int (0 : Int32)) := V_t.other W8 (Ne.symm ne_at)
    have N8 := Fr.snoc X8 N1 g_a1
    have Z8 : n0 ≤ h8.size := Nat.le_trans Z0 (Nat.le_of_eq W8.size.symm)
    show Go p e below _ (T8.setTop (mkF m 54 #[.val (.ref a1), .val (.int p2)] [(.int (0 : Int32)), (.ref t)]))
    refine go (fun _ q => XS.iloadN X8.here hx rfl (hb hby d7_54) rfl q) ?_
    show Go p e below _ (T8.setTop (mkF m 55 #[.val (.ref a1), .val (.int p2)] [(.int p2), (.int (0 : Int32)), (.ref t)]))
    obtain ⟨cl12, Ar12, q12, S12, Ng12, H12, G12⟩ := id V_t_11
    obtain ⟨T13, h13, X13, e13, W13, st13⟩ := stI X8 hx hZ e8 Ar12 (j := (0 : Int32)) (inb_of S12 ⟨by decide, by decide⟩) (g := (mkF m 55 #[.val (.ref a1), .val (.int p2)] [(.int p2), (.int (0 : Int32)), (.ref t)])) rfl rfl (hb hby d7_55)
    refine go st13 ?_
    have V_t_13 : Arv Z h13 t k .int (4 : Int32) [(.int p2), y1, y2, y3] (.int (0 : Int32)) := Arv.set Ar12 q12 S12 Ng12 H12 G12 rfl W13 0 rfl (Nat.le_of_ble_eq_true rfl)
    have E_a1_14 : Exa Z h13 a1 "quorate/NodeSet" := E_a1_9.wr W13
    have F_m_15 : Fld Z h13 a1 "quorate/NodeSet" "members" "[I" (.ref t) := F_m_10.other W13 (Or.inl ne_at)
    have F_s_16 : Fld Z h13 a1 "quorate/NodeSet" "size" "I" (.int (1 : Int32)) := F_s_8.other W13 (Or.inl ne_at)
    have N13 := Fr.snoc X13 N8 g_t
    have Z13 : n0 ≤ h13.size := Nat.le_trans Z8 (Nat.le_of_eq W13.size.symm)
    show Go p e below _ (T13.setTop (mkF m 56 #[.val (.ref a1), .val (.int p2)] []))
    refine go (fun _ q => XS.iconst X13.here hx rfl (hb hby d7_56) q) ?_
    show Go p e below _ (T13.setTop (mkF m 57 #[.val (.ref a1), .val (.int p2)] [(.int (1 : Int32))]))
    have own_in : ¬ p2 ∈ ([] : List Int32) := by
      have q := own_c0 p2 
      by_cases k : p2 ∈ ([] : List Int32)
      · rw [if_pos k, hc2] at q; exact absurd q (by decide)
      · exact k
    exact own_retZ (z' := (1 : Int32)) X13 hx hlk hret (hb hby d7_57) (by decide) (by decide) rfl (by rw [e13]; exact ⟨(by rw [if_neg own_in]), N13, Z13, (by rw [own_add, if_neg own_in]; exact ⟨t, k, [y1, y2, y3], g_a1, g_t, ne_at, E_a1_14, F_m_15, F_s_16, V_t_13, rfl⟩)⟩)
  · refine go (fun _ q => XS.ifNo X1.here hx rfl (hb hby d7_5) rfl ((if0 _ _).trans (feq hc2).1) q) ?_
    show Go p e below _ (T1.setTop (mkF m 8 #[.val (.ref a1), .val (.int p2)] []))
    refine go (fun _ q => XS.iconst X1.here hx rfl (hb hby d7_8) q) ?_
    show Go p e below _ (T1.setTop (mkF m 9 #[.val (.ref a1), .val (.int p2)] [(.int (0 : Int32))]))
    have own_in : p2 ∈ ([] : List Int32) := by
      have q := own_c0 p2 
      by_cases k : p2 ∈ ([] : List Int32)
      · exact k
      · rw [if_neg k] at q; exact absurd q hc2
    exact own_retZ (z' := (0 : Int32)) X1 hx hlk hret (hb hby d7_9) (by decide) (by decide) rfl (by rw [e1]; exact ⟨(by rw [if_pos own_in]), N1, Z0, (by rw [own_add, if_pos own_in]; exact ⟨t, k, [y0, y1, y2, y3], g_a1, g_t, ne_at, E_a1, F_m, F_s, V_t, rfl⟩)⟩)
set_option maxRecDepth 65536 in
set_option maxHeartbeats 40000000 in
theorem rmA_1 (l : Launch) (Z : State) (a0 : Array Value) (hw : ∀ d ∈ tables_1, d.before a0 Z = true) (ws : List Jvm.Cond) (a1 : Addr) (p2 : Int32) (h0 : Heap) (n0 : Nat) {t : Addr} {k : ClassId} {x0 : Int32} {y1 y2 y3 : Value} (Z0 : n0 ≤ h0.size) (g_a1 : n0 ≤ a1) (g_t : n0 ≤ t) (ne_at : a1 ≠ t) (E_a1 : Exa Z h0 a1 "quorate/NodeSet") (F_m : Fld Z h0 a1 "quorate/NodeSet" "members" "[I" (.ref t)) (F_s : Fld Z h0 a1 "quorate/NodeSet" "size" "I" (.int (1 : Int32))) (V_t : Arv Z h0 t k .int (4 : Int32) [(.int x0), y1, y2, y3] (.int (0 : Int32))) :
    MetFree l (⟨"quorate/NodeSet", "add", "(I)Z"⟩ : MethodName) (head1 (Jvm.Cond.code (⟨"quorate/NodeSet", "add", "(I)Z"⟩ : MethodName) prog_102_method_2_code 2 (some .boolean) :: ws) ({ frames := 1, cells := 0, slots := 0, locals := 14 } : Room)) (fun a U => a = #[(.ref a1), (.int p2)] ∧ Z.Warmed39 U.vm ∧ U.heap = h0) (fun _ _ _ _ _ => True) (fun _ U o U' => ∃ v L, o = .returned v ∧ (QA Z a1 (some (.int (if p2 ∈ ([x0] : List Int32) then (0 : Int32) else (1 : Int32)))) (own_add [x0] p2) n0) v U'.heap L ∧ FrameEnd U o U' L ({ frames := 1, cells := 0, slots := 0, locals := 14 } : Room).cells ({ frames := 1, cells := 0, slots := 0, locals := 14 } : Room).slots) := by
  refine own_met (plainFor_of_name pn_7) (fun m => ef_7 m a1 p2) ?_
  intro p e s m below meth c T0 hx hby hml hown hnm hret hlk hZ X0 e0
  have hown : s.vm.findClass "quorate/NodeSet" = some m.cls := hown
  have hnm : meth.name = "add" := hnm
  have hret : meth.sig.returnType = some .boolean := hret
  have N0 := Fr.nil n0
  show Go p e below _ (T0.setTop (mkF m 0 #[.val (.ref a1), .val (.int p2)] []))
  refine go (fun _ q => XS.aloadN X0.here hx rfl (hb hby d7_0) rfl rfl q) ?_
  show Go p e below _ (T0.setTop (mkF m 1 #[.val (.ref a1), .val (.int p2)] [(.ref a1)]))
  refine go (fun _ q => XS.iloadN X0.here hx rfl (hb hby d7_1) rfl q) ?_
  show Go p e below _ (T0.setTop (mkF m 2 #[.val (.ref a1), .val (.int p2)] [(.int p2), (.ref a1)]))
  refine own_callV X0 hx hZ hown e0 (hw _ (List.mem_of_getElem? (i := 38) rfl)) (hw _ (List.mem_of_getElem? (i := 29) rfl)) (hw _ (List.mem_of_getElem? (i := 30) rfl)) (hw _ (List.mem_of_getElem? (i := 31) rfl)) (hw _ (List.mem_of_getElem? (i := 2) rfl)) (hw _ (List.mem_of_getElem? (i := 32) rfl)) (rmC_1 l Z a0 hw [] a1 p2 h0 n0 F_m F_s V_t) (by decide) (by decide) (W := 0) (by decide) (by decide) (by decide) (a := a1) E_a1 (g := (mkF m 2 #[.val (.ref a1), .val (.int p2)] [(.int p2), (.ref a1)])) rfl (by rw [hml]; rfl) (argsL := [(.int p2)]) (rest := []) rfl rfl (lenOf pd_7_0 rfl) (by show 2 * 0 + _ ≤ _; exact Nat.le_of_eq rfl) (hb hby d7_2) ?_
  rintro _ T1 L1 X1 ⟨rfl, N1q, e1⟩
  have N1 := Fr.app N0 N1q
  show Go p e below _ (T1.setTop (mkF m 5 #[.val (.ref a1), .val (.int p2)] [(.int (c1 p2 x0))]))
  by_cases hc2 : (c1 p2 x0) = (0 : Int32)
  · refine go (fun _ q => XS.ifYes X1.here hx rfl (pc0 := 5) (pc' := 10) rfl (hb hby d7_5) rfl ((if0 _ _).trans (teq hc2).1) (by decide) (by decide) q) ?_
    show Go p e below _ (T1.setTop (mkF m 10 #[.val (.ref a1), .val (.int p2)] []))
    refine go (fun _ q => XS.aloadN X1.here hx rfl (hb hby d7_10) rfl rfl q) ?_
    show Go p e below _ (T1.setTop (mkF m 11 #[.val (.ref a1), .val (.int p2)] [(.ref a1)]))
    obtain ⟨T3, X3, e3, st3⟩ := getF X1 hx hZ hown (host := "") (Or.inl (hw _ (List.mem_of_getElem? (i := 17) rfl))) Via.refl e1 F_s (g := (mkF m 11 #[.val (.ref a1), .val (.int p2)] [(.ref a1)])) rfl rfl (hb hby d7_11)
    refine go st3 ?_
    show Go p e below _ (T3.setTop (mkF m 14 #[.val (.ref a1), .val (.int p2)] [(.int (1 : Int32))]))
    refine go (fun _ q => XS.aloadN X3.here hx rfl (hb hby d7_14) rfl rfl q) ?_
    show Go p e below _ (T3.setTop (mkF m 15 #[.val (.ref a1), .val (.int p2)] [(.ref a1), (.int (1 : Int32))]))
    obtain ⟨T4, X4, e4, st4⟩ := getF X3 hx hZ hown (host := "") (Or.inl (hw _ (List.mem_of_getElem? (i := 10) rfl))) Via.refl e3 F_m (g := (mkF m 15 #[.val (.ref a1), .val (.int p2)] [(.ref a1), (.int (1 : Int32))])) rfl rfl (hb hby d7_15)
    refine go st4 ?_
    show Go p e below _ (T4.setTop (mkF m 18 #[.val (.ref a1), .val (.int p2)] [(.ref t), (.int (1 : Int32))]))
    obtain ⟨cl5, Ar5, q5, S5, Ng5, H5, G5⟩ := id V_t
    refine go (X4.arraylength hx (by rw [e4]; exact Ar5.1) (State.isArrayOf_alike hZ.alike Ar5.2.1) (g := (mkF m 18 #[.val (.ref a1), .val (.int p2)] [(.ref t), (.int (1 : Int32))])) rfl rfl (hb hby d7_18)) ?_
    rw [len_of S5 Ng5]
    show Go p e below _ (T4.setTop (mkF m 19 #[.val (.ref a1), .val (.int p2)] [(.int (4 : Int32)), (.int (1 : Int32))]))
    refine go (fun _ q => XS.icmpYes X4.here hx rfl (pc0 := 19) (pc' := 39) rfl (hb hby d7_19) rfl (feq (by decide : ¬ ((1 : Int32) = (4 : Int32)))).2 (by decide) (by decide) q) ?_
    show Go p e below _ (T4.setTop (mkF m 39 #[.val (.ref a1), .val (.int p2)] []))
    refine go (fun _ q => XS.aloadN X4.here hx rfl (hb hby d7_39) rfl rfl q) ?_
    show Go p e below _ (T4.setTop (mkF m 40 #[.val (.ref a1), .val (.int p2)] [(.ref a1)]))
    obtain ⟨T6, X6, e6, st6⟩ := getF X4 hx hZ hown (host := "") (Or.inl (hw _ (List.mem_of_getElem? (i := 10) rfl))) Via.refl e4 F_m (g := (mkF m 40 #[.val (.ref a1), .val (.int p2)] [(.ref a1)])) rfl rfl (hb hby d7_40)
    refine go st6 ?_
    show Go p e below _ (T6.setTop (mkF m 43 #[.val (.ref a1), .val (.int p2)] [(.ref t)]))
    refine go (fun _ q => XS.aloadN X6.here hx rfl (hb hby d7_43) rfl rfl q) ?_
    show Go p e below _ (T6.setTop (mkF m 44 #[.val (.ref a1), .val (.int p2)] [(.ref a1), (.ref t)]))
    refine go (fun _ q => XS.dup X6.here hx rfl (hb hby d7_44) rfl rfl q) ?_
    show Go p e below _ (T6.setTop (mkF m 45 #[.val (.ref a1), .val (.int p2)] [(.ref a1), (.ref a1), (.ref t)]))
    obtain ⟨T7, X7, e7, st7⟩ := getF X6 hx hZ hown (host := "") (Or.inl (hw _ (List.mem_of_getElem? (i := 17) rfl))) Via.refl e6 F_s (g := (mkF m 45 #[.val (.ref a1), .val (.int p2)] [(.ref a1), (.ref a1), (.ref t)])) rfl rfl (hb hby d7_45)
    refine go st7 ?_
    show Go p e below _ (T7.setTop (mkF m 48 #[.val (.ref a1), .val (.int p2)] [(.int (1 : Int32)), (.ref a1), (.ref t)]))
    refine go (fun _ q => XS.dupX1 X7.here hx rfl (hb hby d7_48) rfl rfl rfl q) ?_
    show Go p e below _ (T7.setTop (mkF m 49 #[.val (.ref a1), .val (.int p2)] [(.int (1 : Int32)), (.ref a1), (.int (1 : Int32)), (.ref t)]))
    refine go (fun _ q => XS.iconst X7.here hx rfl (hb hby d7_49) q) ?_
    show Go p e below _ (T7.setTop (mkF m 50 #[.val (.ref a1), .val (.int p2)] [(.int (1 : Int32)), (.int (1 : Int32)), (.ref a1), (.int (1 : Int32)), (.ref t)]))
    refine go (fun _ q => XS.iadd X7.here hx rfl (hb hby d7_50) rfl q) ?_
    show Go p e below _ (T7.setTop (mkF m 51 #[.val (.ref a1), .val (.int p2)] [(.int (2 : Int32)), (.ref a1), (.int (1 : Int32)), (.ref t)]))
    obtain ⟨T8, h8, X8, e8, W8, st8⟩ := putF X7 hx hZ hown (host := "") (Or.inl (hw _ (List.mem_of_getElem? (i := 17) rfl))) Via.refl e7 F_s E_a1 (Or.inl (hw _ (List.mem_of_getElem? (i := 18) rfl))) (hw _ (List.mem_of_getElem? (i := 1) rfl)) (ty := .int) (by decide) rfl rfl (g := (mkF m 51 #[.val (.ref a1), .val (.int p2)] [(.int (2 : Int32)), (.ref a1), (.int (1 : Int32)), (.ref t)])) rfl rfl (hb hby d7_51)
    refine go st8 ?_
    have F_s_8 : Fld Z h8 a1 "quorate/NodeSet" "size" "I" (.int (2 : Int32)) := F_s.same W8
    have E_a1_9 : Exa Z h8 a1 "quorate/NodeSet" := E_a1.wr W8
    have F_m_10 : Fld Z h8 a1 "quorate/NodeSet" "members" "[I" (.ref t) := F_m.other W8 (Or.inr (slot_ne (Or.inl (hw _ (List.mem_of_getElem? (i := 11) rfl))) (Or.inl (hw _ (List.mem_of_getElem? (i := 18) rfl))) (by decide) (t := (.array .int)) (t' := .int) (by decide) (by decide)))
    have V_t_11 : Arv Z h8 t k .int (4 : Int32) [(.int x0), y1, y2, y3] (.int (0 : Int32)) := V_t.other W8 (Ne.symm ne_at)
    have N8 := Fr.snoc X8 N1 g_a1
    have Z8 : n0 ≤ h8.size := Nat.le_trans Z0 (Nat.le_of_eq W8.size.symm)
    show Go p e below _ (T8.setTop (mkF m 54 #[.val (.ref a1), .val (.int p2)] [(.int (1 : Int32)), (.ref t)]))
    refine go (fun _ q => XS.iloadN X8.here hx rfl (hb hby d7_54) rfl q) ?_
    show Go p e below _ (T8.setTop (mkF m 55 #[.val (.ref a1), .val (.int p2)] [(.int p2), (.int (1 : Int32)), (.ref t)]))
    obtain ⟨cl12, Ar12, q12, S12, Ng12, H12, G12⟩ := id V_t_11
    obtain ⟨T13, h13, X13, e13, W13, st13⟩ := stI X8 hx hZ e8 Ar12 (j := (1 : Int32)) (inb_of S12 ⟨by decide, by decide⟩) (g := (mkF m 55 #[.val (.ref a1), .val (.int p2)] [(.int p2), (.int (1 : Int32)), (.ref t)])) rfl rfl (hb hby d7_55)
    refine go st13 ?_
    have V_t_13 : Arv Z h13 t k .int (4 : Int32) [(.int x0), (.int p2), y2, y3] (.int (0 : Int32)) := Arv.set Ar12 q12 S12 Ng12 H12 G12 rfl W13 1 rfl (Nat.le_of_ble_eq_true rfl)
    have E_a1_14 : Exa Z h13 a1 "quorate/NodeSet" := E_a1_9.wr W13
    have F_m_15 : Fld Z h13 a1 "quorate/NodeSet" "members" "[I" (.ref t) := F_m_10.other W13 (Or.inl ne_at)
    have F_s_16 : Fld Z h13 a1 "quorate/NodeSet" "size" "I" (.int (2 : Int32)) := F_s_8.other W13 (Or.inl ne_at)
    have N13 := Fr.snoc X13 N8 g_t
    have Z13 : n0 ≤ h13.size := Nat.le_trans Z8 (Nat.le_of_eq W13.size.symm)
    show Go p e below _ (T13.setTop (mkF m 56 #[.val (.ref a1), .val (.int p2)] []))
    refine go (fun _ q => XS.iconst X13.here hx rfl (hb hby d7_56) q) ?_
    show Go p e below _ (T13.setTop (mkF m 57 #[.val (.ref a1), .val (.int p2)] [(.int (1 : Int32))]))
    have own_in : ¬ p2 ∈ ([x0] : List Int32) := by
      have q := own_c1 p2 x0
      by_cases k : p2 ∈ ([x0] : List Int32)
      · rw [if_pos k, hc2] at q; exact absurd q (by decide)
      · exact k
    exact own_retZ (z' := (1 : Int32)) X13 hx hlk hret (hb hby d7_57) (by decide) (by decide) rfl (by rw [e13]; exact ⟨(by rw [if_neg own_in]), N13, Z13, (by rw [own_add, if_neg own_in]; exact ⟨t, k, [y2, y3], g_a1, g_t, ne_at, E_a1_14, F_m_15, F_s_16, V_t_13, rfl⟩)⟩)
  · refine go (fun _ q => XS.ifNo X1.here hx rfl (hb hby d7_5) rfl ((if0 _ _).trans (feq hc2).1) q) ?_
    show Go p e below _ (T1.setTop (mkF m 8 #[.val (.ref a1), .val (.int p2)] []))
    refine go (fun _ q => XS.iconst X1.here hx rfl (hb hby d7_8) q) ?_
    show Go p e below _ (T1.setTop (mkF m 9 #[.val (.ref a1), .val (.int p2)] [(.int (0 : Int32))]))
    have own_in : p2 ∈ ([x0] : List Int32) := by
      have q := own_c1 p2 x0
      by_cases k : p2 ∈ ([x0] : List Int32)
      · exact k
      · rw [if_neg k] at q; exact absurd q hc2
    exact own_retZ (z' := (0 : Int32)) X1 hx hlk hret (hb hby d7_9) (by decide) (by decide) rfl (by rw [e1]; exact ⟨(by rw [if_pos own_in]), N1, Z0, (by rw [own_add, if_pos own_in]; exact ⟨t, k, [y1, y2, y3], g_a1, g_t, ne_at, E_a1, F_m, F_s, V_t, rfl⟩)⟩)
set_option maxRecDepth 65536 in
set_option maxHeartbeats 40000000 in
theorem rmA_2 (l : Launch) (Z : State) (a0 : Array Value) (hw : ∀ d ∈ tables_1, d.before a0 Z = true) (ws : List Jvm.Cond) (a1 : Addr) (p2 : Int32) (h0 : Heap) (n0 : Nat) {t : Addr} {k : ClassId} {x0 x1 : Int32} {y2 y3 : Value} (Z0 : n0 ≤ h0.size) (g_a1 : n0 ≤ a1) (g_t : n0 ≤ t) (ne_at : a1 ≠ t) (E_a1 : Exa Z h0 a1 "quorate/NodeSet") (F_m : Fld Z h0 a1 "quorate/NodeSet" "members" "[I" (.ref t)) (F_s : Fld Z h0 a1 "quorate/NodeSet" "size" "I" (.int (2 : Int32))) (V_t : Arv Z h0 t k .int (4 : Int32) [(.int x0), (.int x1), y2, y3] (.int (0 : Int32))) :
    MetFree l (⟨"quorate/NodeSet", "add", "(I)Z"⟩ : MethodName) (head1 (Jvm.Cond.code (⟨"quorate/NodeSet", "add", "(I)Z"⟩ : MethodName) prog_102_method_2_code 2 (some .boolean) :: ws) ({ frames := 1, cells := 0, slots := 0, locals := 14 } : Room)) (fun a U => a = #[(.ref a1), (.int p2)] ∧ Z.Warmed39 U.vm ∧ U.heap = h0) (fun _ _ _ _ _ => True) (fun _ U o U' => ∃ v L, o = .returned v ∧ (QA Z a1 (some (.int (if p2 ∈ ([x0, x1] : List Int32) then (0 : Int32) else (1 : Int32)))) (own_add [x0, x1] p2) n0) v U'.heap L ∧ FrameEnd U o U' L ({ frames := 1, cells := 0, slots := 0, locals := 14 } : Room).cells ({ frames := 1, cells := 0, slots := 0, locals := 14 } : Room).slots) := by
  refine own_met (plainFor_of_name pn_7) (fun m => ef_7 m a1 p2) ?_
  intro p e s m below meth c T0 hx hby hml hown hnm hret hlk hZ X0 e0
  have hown : s.vm.findClass "quorate/NodeSet" = some m.cls := hown
  have hnm : meth.name = "add" := hnm
  have hret : meth.sig.returnType = some .boolean := hret
  have N0 := Fr.nil n0
  show Go p e below _ (T0.setTop (mkF m 0 #[.val (.ref a1), .val (.int p2)] []))
  refine go (fun _ q => XS.aloadN X0.here hx rfl (hb hby d7_0) rfl rfl q) ?_
  show Go p e below _ (T0.setTop (mkF m 1 #[.val (.ref a1), .val (.int p2)] [(.ref a1)]))
  refine go (fun _ q => XS.iloadN X0.here hx rfl (hb hby d7_1) rfl q) ?_
  show Go p e below _ (T0.setTop (mkF m 2 #[.val (.ref a1), .val (.int p2)] [(.int p2), (.ref a1)]))
  refine own_callV X0 hx hZ hown e0 (hw _ (List.mem_of_getElem? (i := 38) rfl)) (hw _ (List.mem_of_getElem? (i := 29) rfl)) (hw _ (List.mem_of_getElem? (i := 30) rfl)) (hw _ (List.mem_of_getElem? (i := 31) rfl)) (hw _ (List.mem_of_getElem? (i := 2) rfl)) (hw _ (List.mem_of_getElem? (i := 32) rfl)) (rmC_2 l Z a0 hw [] a1 p2 h0 n0 F_m F_s V_t) (by decide) (by decide) (W := 0) (by decide) (by decide) (by decide) (a := a1) E_a1 (g := (mkF m 2 #[.val (.ref a1), .val (.int p2)] [(.int p2), (.ref a1)])) rfl (by rw [hml]; rfl) (argsL := [(.int p2)]) (rest := []) rfl rfl (lenOf pd_7_0 rfl) (by show 2 * 0 + _ ≤ _; exact Nat.le_of_eq rfl) (hb hby d7_2) ?_
  rintro _ T1 L1 X1 ⟨rfl, N1q, e1⟩
  have N1 := Fr.app N0 N1q
  show Go p e below _ (T1.setTop (mkF m 5 #[.val (.ref a1), .val (.int p2)] [(.int (c2 p2 x0 x1))]))
  by_cases hc2 : (c2 p2 x0 x1) = (0 : Int32)
  · refine go (fun _ q => XS.ifYes X1.here hx rfl (pc0 := 5) (pc' := 10) rfl (hb hby d7_5) rfl ((if0 _ _).trans (teq hc2).1) (by decide) (by decide) q) ?_
    show Go p e below _ (T1.setTop (mkF m 10 #[.val (.ref a1), .val (.int p2)] []))
    refine go (fun _ q => XS.aloadN X1.here hx rfl (hb hby d7_10) rfl rfl q) ?_
    show Go p e below _ (T1.setTop (mkF m 11 #[.val (.ref a1), .val (.int p2)] [(.ref a1)]))
    obtain ⟨T3, X3, e3, st3⟩ := getF X1 hx hZ hown (host := "") (Or.inl (hw _ (List.mem_of_getElem? (i := 17) rfl))) Via.refl e1 F_s (g := (mkF m 11 #[.val (.ref a1), .val (.int p2)] [(.ref a1)])) rfl rfl (hb hby d7_11)
    refine go st3 ?_
    show Go p e below _ (T3.setTop (mkF m 14 #[.val (.ref a1), .val (.int p2)] [(.int (2 : Int32))]))
    refine go (fun _ q => XS.aloadN X3.here hx rfl (hb hby d7_14) rfl rfl q) ?_
    show Go p e below _ (T3.setTop (mkF m 15 #[.val (.ref a1), .val (.int p2)] [(.ref a1), (.int (2 : Int32))]))
    obtain ⟨T4, X4, e4, st4⟩ := getF X3 hx hZ hown (host := "") (Or.inl (hw _ (List.mem_of_getElem? (i := 10) rfl))) Via.refl e3 F_m (g := (mkF m 15 #[.val (.ref a1), .val (.int p2)] [(.ref a1), (.int (2 : Int32))])) rfl rfl (hb hby d7_15)
    refine go st4 ?_
    show Go p e below _ (T4.setTop (mkF m 18 #[.val (.ref a1), .val (.int p2)] [(.ref t), (.int (2 : Int32))]))
    obtain ⟨cl5, Ar5, q5, S5, Ng5, H5, G5⟩ := id V_t
    refine go (X4.arraylength hx (by rw [e4]; exact Ar5.1) (State.isArrayOf_alike hZ.alike Ar5.2.1) (g := (mkF m 18 #[.val (.ref a1), .val (.int p2)] [(.ref t), (.int (2 : Int32))])) rfl rfl (hb hby d7_18)) ?_
    rw [len_of S5 Ng5]
    show Go p e below _ (T4.setTop (mkF m 19 #[.val (.ref a1), .val (.int p2)] [(.int (4 : Int32)), (.int (2 : Int32))]))
    refine go (fun _ q => XS.icmpYes X4.here hx rfl (pc0 := 19) (pc' := 39) rfl (hb hby d7_19) rfl (feq (by decide : ¬ ((2 : Int32) = (4 : Int32)))).2 (by decide) (by decide) q) ?_
    show Go p e below _ (T4.setTop (mkF m 39 #[.val (.ref a1), .val (.int p2)] []))
    refine go (fun _ q => XS.aloadN X4.here hx rfl (hb hby d7_39) rfl rfl q) ?_
    show Go p e below _ (T4.setTop (mkF m 40 #[.val (.ref a1), .val (.int p2)] [(.ref a1)]))
    obtain ⟨T6, X6, e6, st6⟩ := getF X4 hx hZ hown (host := "") (Or.inl (hw _ (List.mem_of_getElem? (i := 10) rfl))) Via.refl e4 F_m (g := (mkF m 40 #[.val (.ref a1), .val (.int p2)] [(.ref a1)])) rfl rfl (hb hby d7_40)
    refine go st6 ?_
    show Go p e below _ (T6.setTop (mkF m 43 #[.val (.ref a1), .val (.int p2)] [(.ref t)]))
    refine go (fun _ q => XS.aloadN X6.here hx rfl (hb hby d7_43) rfl rfl q) ?_
    show Go p e below _ (T6.setTop (mkF m 44 #[.val (.ref a1), .val (.int p2)] [(.ref a1), (.ref t)]))
    refine go (fun _ q => XS.dup X6.here hx rfl (hb hby d7_44) rfl rfl q) ?_
    show Go p e below _ (T6.setTop (mkF m 45 #[.val (.ref a1), .val (.int p2)] [(.ref a1), (.ref a1), (.ref t)]))
    obtain ⟨T7, X7, e7, st7⟩ := getF X6 hx hZ hown (host := "") (Or.inl (hw _ (List.mem_of_getElem? (i := 17) rfl))) Via.refl e6 F_s (g := (mkF m 45 #[.val (.ref a1), .val (.int p2)] [(.ref a1), (.ref a1), (.ref t)])) rfl rfl (hb hby d7_45)
    refine go st7 ?_
    show Go p e below _ (T7.setTop (mkF m 48 #[.val (.ref a1), .val (.int p2)] [(.int (2 : Int32)), (.ref a1), (.ref t)]))
    refine go (fun _ q => XS.dupX1 X7.here hx rfl (hb hby d7_48) rfl rfl rfl q) ?_
    show Go p e below _ (T7.setTop (mkF m 49 #[.val (.ref a1), .val (.int p2)] [(.int (2 : Int32)), (.ref a1), (.int (2 : Int32)), (.ref t)]))
    refine go (fun _ q => XS.iconst X7.here hx rfl (hb hby d7_49) q) ?_
    show Go p e below _ (T7.setTop (mkF m 50 #[.val (.ref a1), .val (.int p2)] [(.int (1 : Int32)), (.int (2 : Int32)), (.ref a1), (.int (2 : Int32)), (.ref t)]))
    refine go (fun _ q => XS.iadd X7.here hx rfl (hb hby d7_50) rfl q) ?_
    show Go p e below _ (T7.setTop (mkF m 51 #[.val (.ref a1), .val (.int p2)] [(.int (3 : Int32)), (.ref a1), (.int (2 : Int32)), (.ref t)]))
    obtain ⟨T8, h8, X8, e8, W8, st8⟩ := putF X7 hx hZ hown (host := "") (Or.inl (hw _ (List.mem_of_getElem? (i := 17) rfl))) Via.refl e7 F_s E_a1 (Or.inl (hw _ (List.mem_of_getElem? (i := 18) rfl))) (hw _ (List.mem_of_getElem? (i := 1) rfl)) (ty := .int) (by decide) rfl rfl (g := (mkF m 51 #[.val (.ref a1), .val (.int p2)] [(.int (3 : Int32)), (.ref a1), (.int (2 : Int32)), (.ref t)])) rfl rfl (hb hby d7_51)
    refine go st8 ?_
    have F_s_8 : Fld Z h8 a1 "quorate/NodeSet" "size" "I" (.int (3 : Int32)) := F_s.same W8
    have E_a1_9 : Exa Z h8 a1 "quorate/NodeSet" := E_a1.wr W8
    have F_m_10 : Fld Z h8 a1 "quorate/NodeSet" "members" "[I" (.ref t) := F_m.other W8 (Or.inr (slot_ne (Or.inl (hw _ (List.mem_of_getElem? (i := 11) rfl))) (Or.inl (hw _ (List.mem_of_getElem? (i := 18) rfl))) (by decide) (t := (.array .int)) (t' := .int) (by decide) (by decide)))
    have V_t_11 : Arv Z h8 t k .int (4 : Int32) [(.int x0), (.int x1), y2, y3] (.int (0 : Int32)) := V_t.other W8 (Ne.symm ne_at)
    have N8 := Fr.snoc X8 N1 g_a1
    have Z8 : n0 ≤ h8.size := Nat.le_trans Z0 (Nat.le_of_eq W8.size.symm)
    show Go p e below _ (T8.setTop (mkF m 54 #[.val (.ref a1), .val (.int p2)] [(.int (2 : Int32)), (.ref t)]))
    refine go (fun _ q => XS.iloadN X8.here hx rfl (hb hby d7_54) rfl q) ?_
    show Go p e below _ (T8.setTop (mkF m 55 #[.val (.ref a1), .val (.int p2)] [(.int p2), (.int (2 : Int32)), (.ref t)]))
    obtain ⟨cl12, Ar12, q12, S12, Ng12, H12, G12⟩ := id V_t_11
    obtain ⟨T13, h13, X13, e13, W13, st13⟩ := stI X8 hx hZ e8 Ar12 (j := (2 : Int32)) (inb_of S12 ⟨by decide, by decide⟩) (g := (mkF m 55 #[.val (.ref a1), .val (.int p2)] [(.int p2), (.int (2 : Int32)), (.ref t)])) rfl rfl (hb hby d7_55)
    refine go st13 ?_
    have V_t_13 : Arv Z h13 t k .int (4 : Int32) [(.int x0), (.int x1), (.int p2), y3] (.int (0 : Int32)) := Arv.set Ar12 q12 S12 Ng12 H12 G12 rfl W13 2 rfl (Nat.le_of_ble_eq_true rfl)
    have E_a1_14 : Exa Z h13 a1 "quorate/NodeSet" := E_a1_9.wr W13
    have F_m_15 : Fld Z h13 a1 "quorate/NodeSet" "members" "[I" (.ref t) := F_m_10.other W13 (Or.inl ne_at)
    have F_s_16 : Fld Z h13 a1 "quorate/NodeSet" "size" "I" (.int (3 : Int32)) := F_s_8.other W13 (Or.inl ne_at)
    have N13 := Fr.snoc X13 N8 g_t
    have Z13 : n0 ≤ h13.size := Nat.le_trans Z8 (Nat.le_of_eq W13.size.symm)
    show Go p e below _ (T13.setTop (mkF m 56 #[.val (.ref a1), .val (.int p2)] []))
    refine go (fun _ q => XS.iconst X13.here hx rfl (hb hby d7_56) q) ?_
    show Go p e below _ (T13.setTop (mkF m 57 #[.val (.ref a1), .val (.int p2)] [(.int (1 : Int32))]))
    have own_in : ¬ p2 ∈ ([x0, x1] : List Int32) := by
      have q := own_c2 p2 x0 x1
      by_cases k : p2 ∈ ([x0, x1] : List Int32)
      · rw [if_pos k, hc2] at q; exact absurd q (by decide)
      · exact k
    exact own_retZ (z' := (1 : Int32)) X13 hx hlk hret (hb hby d7_57) (by decide) (by decide) rfl (by rw [e13]; exact ⟨(by rw [if_neg own_in]), N13, Z13, (by rw [own_add, if_neg own_in]; exact ⟨t, k, [y3], g_a1, g_t, ne_at, E_a1_14, F_m_15, F_s_16, V_t_13, rfl⟩)⟩)
  · refine go (fun _ q => XS.ifNo X1.here hx rfl (hb hby d7_5) rfl ((if0 _ _).trans (feq hc2).1) q) ?_
    show Go p e below _ (T1.setTop (mkF m 8 #[.val (.ref a1), .val (.int p2)] []))
    refine go (fun _ q => XS.iconst X1.here hx rfl (hb hby d7_8) q) ?_
    show Go p e below _ (T1.setTop (mkF m 9 #[.val (.ref a1), .val (.int p2)] [(.int (0 : Int32))]))
    have own_in : p2 ∈ ([x0, x1] : List Int32) := by
      have q := own_c2 p2 x0 x1
      by_cases k : p2 ∈ ([x0, x1] : List Int32)
      · exact k
      · rw [if_neg k] at q; exact absurd q hc2
    exact own_retZ (z' := (0 : Int32)) X1 hx hlk hret (hb hby d7_9) (by decide) (by decide) rfl (by rw [e1]; exact ⟨(by rw [if_pos own_in]), N1, Z0, (by rw [own_add, if_pos own_in]; exact ⟨t, k, [y2, y3], g_a1, g_t, ne_at, E_a1, F_m, F_s, V_t, rfl⟩)⟩)
set_option maxHeartbeats 4000000 in
theorem rmA (l : Launch) (Z : State) (a0 : Array Value) (hw : ∀ d ∈ tables_1, d.before a0 Z = true) (ws : List Jvm.Cond) (a1 : Addr) (p2 : Int32) (h0 : Heap) (n0 : Nat) (xs : List Int32) (hl : xs.length ≤ 2) (Z0 : n0 ≤ h0.size) (F : NSet Z h0 n0 a1 xs) :
    MetFree l (⟨"quorate/NodeSet", "add", "(I)Z"⟩ : MethodName) (head1 (Jvm.Cond.code (⟨"quorate/NodeSet", "add", "(I)Z"⟩ : MethodName) prog_102_method_2_code 2 (some .boolean) :: ws) ({ frames := 1, cells := 0, slots := 0, locals := 14 } : Room)) (fun a U => a = #[(.ref a1), (.int p2)] ∧ Z.Warmed39 U.vm ∧ U.heap = h0) (fun _ _ _ _ _ => True) (fun _ U o U' => ∃ v L, o = .returned v ∧ (QA Z a1 (some (.int (if p2 ∈ xs then (0 : Int32) else (1 : Int32)))) (own_add xs p2) n0) v U'.heap L ∧ FrameEnd U o U' L ({ frames := 1, cells := 0, slots := 0, locals := 14 } : Room).cells ({ frames := 1, cells := 0, slots := 0, locals := 14 } : Room).slots) := by
  rcases xs with _ | ⟨x0, _ | ⟨x1, _ | ⟨x2, xs⟩⟩⟩
  · obtain ⟨t, k, ys, g1, g2, g3, E, Fm, Fs, V, hy⟩ := F
    obtain ⟨y0, y1, y2, y3, rfl⟩ := own_ys hy rfl
    exact rmA_0 l Z a0 hw ws a1 p2 h0 n0 Z0 g1 g2 g3 E Fm Fs V
  · obtain ⟨t, k, ys, g1, g2, g3, E, Fm, Fs, V, hy⟩ := F
    obtain ⟨y1, y2, y3, rfl⟩ := own_ys1 hy
    exact rmA_1 l Z a0 hw ws a1 p2 h0 n0 Z0 g1 g2 g3 E Fm Fs V
  · obtain ⟨t, k, ys, g1, g2, g3, E, Fm, Fs, V, hy⟩ := F
    obtain ⟨y2, y3, rfl⟩ := own_ys2 hy
    exact rmA_2 l Z a0 hw ws a1 p2 h0 n0 Z0 g1 g2 g3 E Fm Fs V
  · simp only [List.length_cons] at hl; omega
theorem d3_0 : decode prog_102_method_3_code 0 = .ok (.iconst 0, 1) := by decide +kernel
theorem d3_1 : decode prog_102_method_3_code 1 = .ok (.istore_n 2, 1) := by decide +kernel
theorem d3_2 : decode prog_102_method_3_code 2 = .ok (.iload_n 2, 1) := by decide +kernel
theorem d3_3 : decode prog_102_method_3_code 3 = .ok (.aload_n 0, 1) := by decide +kernel
theorem d3_4 : decode prog_102_method_3_code 4 = .ok (.getfield 17, 3) := by decide +kernel
theorem d3_7 : decode prog_102_method_3_code 7 = .ok (.if_icmp .ge 42, 3) := by decide +kernel
theorem d3_10 : decode prog_102_method_3_code 10 = .ok (.aload_n 0, 1) := by decide +kernel
theorem d3_11 : decode prog_102_method_3_code 11 = .ok (.getfield 7, 3) := by decide +kernel
theorem d3_14 : decode prog_102_method_3_code 14 = .ok (.iload_n 2, 1) := by decide +kernel
theorem d3_15 : decode prog_102_method_3_code 15 = .ok (.iaload, 1) := by decide +kernel
theorem d3_16 : decode prog_102_method_3_code 16 = .ok (.iload_n 1, 1) := by decide +kernel
theorem d3_17 : decode prog_102_method_3_code 17 = .ok (.if_icmp .ne 26, 3) := by decide +kernel
theorem d3_20 : decode prog_102_method_3_code 20 = .ok (.aload_n 0, 1) := by decide +kernel
theorem d3_21 : decode prog_102_method_3_code 21 = .ok (.getfield 7, 3) := by decide +kernel
theorem d3_24 : decode prog_102_method_3_code 24 = .ok (.iload_n 2, 1) := by decide +kernel
theorem d3_25 : decode prog_102_method_3_code 25 = .ok (.aload_n 0, 1) := by decide +kernel
theorem d3_26 : decode prog_102_method_3_code 26 = .ok (.getfield 7, 3) := by decide +kernel
theorem d3_29 : decode prog_102_method_3_code 29 = .ok (.aload_n 0, 1) := by decide +kernel
theorem d3_30 : decode prog_102_method_3_code 30 = .ok (.dup, 1) := by decide +kernel
theorem d3_31 : decode prog_102_method_3_code 31 = .ok (.getfield 17, 3) := by decide +kernel
theorem d3_34 : decode prog_102_method_3_code 34 = .ok (.iconst 1, 1) := by decide +kernel
theorem d3_35 : decode prog_102_method_3_code 35 = .ok (.isub, 1) := by decide +kernel
theorem d3_36 : decode prog_102_method_3_code 36 = .ok (.dup_x1, 1) := by decide +kernel
theorem d3_37 : decode prog_102_method_3_code 37 = .ok (.putfield 17, 3) := by decide +kernel
theorem d3_40 : decode prog_102_method_3_code 40 = .ok (.iaload, 1) := by decide +kernel
theorem d3_41 : decode prog_102_method_3_code 41 = .ok (.iastore, 1) := by decide +kernel
theorem d3_42 : decode prog_102_method_3_code 42 = .ok (.return_, 1) := by decide +kernel
theorem d3_43 : decode prog_102_method_3_code 43 = .ok (.iinc 2 1, 3) := by decide +kernel
theorem d3_46 : decode prog_102_method_3_code 46 = .ok (.goto (-44), 3) := by decide +kernel
theorem d3_49 : decode prog_102_method_3_code 49 = .ok (.return_, 1) := by decide +kernel
theorem pn_3 : plainName "quorate/NodeSet" = true := by first | (simp [plainName, overriddenIn]; done) | decide +kernel
theorem ef_3 (m : MethodId) (x0 : Addr) (x1 : Int32) : entryFrame m #[(.ref x0), (.int x1)] 3 = mkF m 0 #[.val (.ref x0), .val (.int x1), .unset] [] := by first | (simp [entryFrame, mkF, argsToLocals, Value.category]; done) | rfl
set_option maxRecDepth 65536 in
set_option maxHeartbeats 40000000 in
theorem rmR_0 (l : Launch) (Z : State) (a0 : Array Value) (hw : ∀ d ∈ tables_1, d.before a0 Z = true) (ws : List Jvm.Cond) (a1 : Addr) (p2 : Int32) (h0 : Heap) (n0 : Nat) {t : Addr} {k : ClassId} {y0 y1 y2 y3 : Value} (Z0 : n0 ≤ h0.size) (g_a1 : n0 ≤ a1) (g_t : n0 ≤ t) (ne_at : a1 ≠ t) (E_a1 : Exa Z h0 a1 "quorate/NodeSet") (F_m : Fld Z h0 a1 "quorate/NodeSet" "members" "[I" (.ref t)) (F_s : Fld Z h0 a1 "quorate/NodeSet" "size" "I" (.int (0 : Int32))) (V_t : Arv Z h0 t k .int (4 : Int32) [y0, y1, y2, y3] (.int (0 : Int32))) :
    MetFree l (⟨"quorate/NodeSet", "remove", "(I)V"⟩ : MethodName) (head1 (Jvm.Cond.code (⟨"quorate/NodeSet", "remove", "(I)V"⟩ : MethodName) prog_102_method_3_code 3 none :: ws) ({ frames := 0, cells := 0, slots := 0, locals := 0 } : Room)) (fun a U => a = #[(.ref a1), (.int p2)] ∧ Z.Warmed39 U.vm ∧ U.heap = h0) (fun _ _ _ _ _ => True) (fun _ U o U' => ∃ v L, o = .returned v ∧ (QA Z a1 none (own_rm [] p2) n0) v U'.heap L ∧ FrameEnd U o U' L ({ frames := 0, cells := 0, slots := 0, locals := 0 } : Room).cells ({ frames := 0, cells := 0, slots := 0, locals := 0 } : Room).slots) := by
  refine own_met (plainFor_of_name pn_3) (fun m => ef_3 m a1 p2) ?_
  intro p e s m below meth c T0 hx hby hml hown hnm hret hlk hZ X0 e0
  have hown : s.vm.findClass "quorate/NodeSet" = some m.cls := hown
  have hnm : meth.name = "remove" := hnm
  have hret : meth.sig.returnType = none := hret
  have N0 := Fr.nil n0
  show Go p e below _ (T0.setTop (mkF m 0 #[.val (.ref a1), .val (.int p2), .unset] []))
  refine go (fun _ q => XS.iconst X0.here hx rfl (hb hby d3_0) q) ?_
  show Go p e below _ (T0.setTop (mkF m 1 #[.val (.ref a1), .val (.int p2), .unset] [(.int (0 : Int32))]))
  refine go (fun _ q => XS.istoreN X0.here hx rfl (hb hby d3_1) rfl (l' := #[.val (.ref a1), .val (.int p2), .val (.int (0 : Int32))]) rfl q) ?_
  show Go p e below _ (T0.setTop (mkF m 2 #[.val (.ref a1), .val (.int p2), .val (.int (0 : Int32))] []))
  refine go (fun _ q => XS.iloadN X0.here hx rfl (hb hby d3_2) rfl q) ?_
  show Go p e below _ (T0.setTop (mkF m 3 #[.val (.ref a1), .val (.int p2), .val (.int (0 : Int32))] [(.int (0 : Int32))]))
  refine go (fun _ q => XS.aloadN X0.here hx rfl (hb hby d3_3) rfl rfl q) ?_
  show Go p e below _ (T0.setTop (mkF m 4 #[.val (.ref a1), .val (.int p2), .val (.int (0 : Int32))] [(.ref a1), (.int (0 : Int32))]))
  obtain ⟨T1, X1, e1, st1⟩ := getF X0 hx hZ hown (host := "") (Or.inl (hw _ (List.mem_of_getElem? (i := 17) rfl))) Via.refl e0 F_s (g := (mkF m 4 #[.val (.ref a1), .val (.int p2), .val (.int (0 : Int32))] [(.ref a1), (.int (0 : Int32))])) rfl rfl (hb hby d3_4)
  refine go st1 ?_
  show Go p e below _ (T1.setTop (mkF m 7 #[.val (.ref a1), .val (.int p2), .val (.int (0 : Int32))] [(.int (0 : Int32)), (.int (0 : Int32))]))
  refine go (fun _ q => XS.icmpYes X1.here hx rfl (pc0 := 7) (pc' := 49) rfl (hb hby d3_7) rfl (flt (by decide : ¬ ((0 : Int32) < (0 : Int32)))).2.1 (by decide) (by decide) q) ?_
  show Go p e below _ (T1.setTop (mkF m 49 #[.val (.ref a1), .val (.int p2), .val (.int (0 : Int32))] []))
  exact own_retV X1 hx hlk hret (hb hby d3_49) (by decide) (by decide) (by rw [e1]; exact ⟨rfl, N0, Z0, (by simp only [own_rm]; exact ⟨t, k, [y0, y1, y2, y3], g_a1, g_t, ne_at, E_a1, F_m, F_s, V_t, rfl⟩)⟩)
set_option maxRecDepth 65536 in
set_option maxHeartbeats 40000000 in
theorem rmR_1 (l : Launch) (Z : State) (a0 : Array Value) (hw : ∀ d ∈ tables_1, d.before a0 Z = true) (ws : List Jvm.Cond) (a1 : Addr) (p2 : Int32) (h0 : Heap) (n0 : Nat) {t : Addr} {k : ClassId} {x0 : Int32} {y1 y2 y3 : Value} (Z0 : n0 ≤ h0.size) (g_a1 : n0 ≤ a1) (g_t : n0 ≤ t) (ne_at : a1 ≠ t) (E_a1 : Exa Z h0 a1 "quorate/NodeSet") (F_m : Fld Z h0 a1 "quorate/NodeSet" "members" "[I" (.ref t)) (F_s : Fld Z h0 a1 "quorate/NodeSet" "size" "I" (.int (1 : Int32))) (V_t : Arv Z h0 t k .int (4 : Int32) [(.int x0), y1, y2, y3] (.int (0 : Int32))) :
    MetFree l (⟨"quorate/NodeSet", "remove", "(I)V"⟩ : MethodName) (head1 (Jvm.Cond.code (⟨"quorate/NodeSet", "remove", "(I)V"⟩ : MethodName) prog_102_method_3_code 3 none :: ws) ({ frames := 0, cells := 0, slots := 0, locals := 0 } : Room)) (fun a U => a = #[(.ref a1), (.int p2)] ∧ Z.Warmed39 U.vm ∧ U.heap = h0) (fun _ _ _ _ _ => True) (fun _ U o U' => ∃ v L, o = .returned v ∧ (QA Z a1 none (own_rm [x0] p2) n0) v U'.heap L ∧ FrameEnd U o U' L ({ frames := 0, cells := 0, slots := 0, locals := 0 } : Room).cells ({ frames := 0, cells := 0, slots := 0, locals := 0 } : Room).slots) := by
  refine own_met (plainFor_of_name pn_3) (fun m => ef_3 m a1 p2) ?_
  intro p e s m below meth c T0 hx hby hml hown hnm hret hlk hZ X0 e0
  have hown : s.vm.findClass "quorate/NodeSet" = some m.cls := hown
  have hnm : meth.name = "remove" := hnm
  have hret : meth.sig.returnType = none := hret
  have N0 := Fr.nil n0
  show Go p e below _ (T0.setTop (mkF m 0 #[.val (.ref a1), .val (.int p2), .unset] []))
  refine go (fun _ q => XS.iconst X0.here hx rfl (hb hby d3_0) q) ?_
  show Go p e below _ (T0.setTop (mkF m 1 #[.val (.ref a1), .val (.int p2), .unset] [(.int (0 : Int32))]))
  refine go (fun _ q => XS.istoreN X0.here hx rfl (hb hby d3_1) rfl (l' := #[.val (.ref a1), .val (.int p2), .val (.int (0 : Int32))]) rfl q) ?_
  show Go p e below _ (T0.setTop (mkF m 2 #[.val (.ref a1), .val (.int p2), .val (.int (0 : Int32))] []))
  refine go (fun _ q => XS.iloadN X0.here hx rfl (hb hby d3_2) rfl q) ?_
  show Go p e below _ (T0.setTop (mkF m 3 #[.val (.ref a1), .val (.int p2), .val (.int (0 : Int32))] [(.int (0 : Int32))]))
  refine go (fun _ q => XS.aloadN X0.here hx rfl (hb hby d3_3) rfl rfl q) ?_
  show Go p e below _ (T0.setTop (mkF m 4 #[.val (.ref a1), .val (.int p2), .val (.int (0 : Int32))] [(.ref a1), (.int (0 : Int32))]))
  obtain ⟨T1, X1, e1, st1⟩ := getF X0 hx hZ hown (host := "") (Or.inl (hw _ (List.mem_of_getElem? (i := 17) rfl))) Via.refl e0 F_s (g := (mkF m 4 #[.val (.ref a1), .val (.int p2), .val (.int (0 : Int32))] [(.ref a1), (.int (0 : Int32))])) rfl rfl (hb hby d3_4)
  refine go st1 ?_
  show Go p e below _ (T1.setTop (mkF m 7 #[.val (.ref a1), .val (.int p2), .val (.int (0 : Int32))] [(.int (1 : Int32)), (.int (0 : Int32))]))
  refine go (fun _ q => XS.icmpNo X1.here hx rfl (hb hby d3_7) rfl (tlt (by decide : (0 : Int32) < (1 : Int32))).2.1 q) ?_
  show Go p e below _ (T1.setTop (mkF m 10 #[.val (.ref a1), .val (.int p2), .val (.int (0 : Int32))] []))
  refine go (fun _ q => XS.aloadN X1.here hx rfl (hb hby d3_10) rfl rfl q) ?_
  show Go p e below _ (T1.setTop (mkF m 11 #[.val (.ref a1), .val (.int p2), .val (.int (0 : Int32))] [(.ref a1)]))
  obtain ⟨T2, X2, e2, st2⟩ := getF X1 hx hZ hown (host := "") (Or.inl (hw _ (List.mem_of_getElem? (i := 10) rfl))) Via.refl e1 F_m (g := (mkF m 11 #[.val (.ref a1), .val (.int p2), .val (.int (0 : Int32))] [(.ref a1)])) rfl rfl (hb hby d3_11)
  refine go st2 ?_
  show Go p e below _ (T2.setTop (mkF m 14 #[.val (.ref a1), .val (.int p2), .val (.int (0 : Int32))] [(.ref t)]))
  refine go (fun _ q => XS.iloadN X2.here hx rfl (hb hby d3_14) rfl q) ?_
  show Go p e below _ (T2.setTop (mkF m 15 #[.val (.ref a1), .val (.int p2), .val (.int (0 : Int32))] [(.int (0 : Int32)), (.ref t)]))
  obtain ⟨cl3, Ar3, q3, S3, Ng3, H3, G3⟩ := id V_t
  refine go (X2.iaload hx (j := (0 : Int32)) (v := (.int x0)) (by rw [e2]; exact Ar3.1) (State.isArrayOf_alike hZ.alike Ar3.2.1) Ar3.2.2 (inb_of S3 ⟨by decide, by decide⟩) (H3 _ (by rw [S3]; decide)) (g := (mkF m 15 #[.val (.ref a1), .val (.int p2), .val (.int (0 : Int32))] [(.int (0 : Int32)), (.ref t)])) rfl rfl (hb hby d3_15)) ?_
  show Go p e below _ (T2.setTop (mkF m 16 #[.val (.ref a1), .val (.int p2), .val (.int (0 : Int32))] [(.int x0)]))
  refine go (fun _ q => XS.iloadN X2.here hx rfl (hb hby d3_16) rfl q) ?_
  show Go p e below _ (T2.setTop (mkF m 17 #[.val (.ref a1), .val (.int p2), .val (.int (0 : Int32))] [(.int p2), (.int x0)]))
  by_cases hc4 : x0 = p2
  · refine go (fun _ q => XS.icmpNo X2.here hx rfl (hb hby d3_17) rfl (teq hc4).2 q) ?_
    show Go p e below _ (T2.setTop (mkF m 20 #[.val (.ref a1), .val (.int p2), .val (.int (0 : Int32))] []))
    refine go (fun _ q => XS.aloadN X2.here hx rfl (hb hby d3_20) rfl rfl q) ?_
    show Go p e below _ (T2.setTop (mkF m 21 #[.val (.ref a1), .val (.int p2), .val (.int (0 : Int32))] [(.ref a1)]))
    obtain ⟨T5, X5, e5, st5⟩ := getF X2 hx hZ hown (host := "") (Or.inl (hw _ (List.mem_of_getElem? (i := 10) rfl))) Via.refl e2 F_m (g := (mkF m 21 #[.val (.ref a1), .val (.int p2), .val (.int (0 : Int32))] [(.ref a1)])) rfl rfl (hb hby d3_21)
    refine go st5 ?_
    show Go p e below _ (T5.setTop (mkF m 24 #[.val (.ref a1), .val (.int p2), .val (.int (0 : Int32))] [(.ref t)]))
    refine go (fun _ q => XS.iloadN X5.here hx rfl (hb hby d3_24) rfl q) ?_
    show Go p e below _ (T5.setTop (mkF m 25 #[.val (.ref a1), .val (.int p2), .val (.int (0 : Int32))] [(.int (0 : Int32)), (.ref t)]))
    refine go (fun _ q => XS.aloadN X5.here hx rfl (hb hby d3_25) rfl rfl q) ?_
    show Go p e below _ (T5.setTop (mkF m 26 #[.val (.ref a1), .val (.int p2), .val (.int (0 : Int32))] [(.ref a1), (.int (0 : Int32)), (.ref t)]))
    obtain ⟨T6, X6, e6, st6⟩ := getF X5 hx hZ hown (host := "") (Or.inl (hw _ (List.mem_of_getElem? (i := 10) rfl))) Via.refl e5 F_m (g := (mkF m 26 #[.val (.ref a1), .val (.int p2), .val (.int (0 : Int32))] [(.ref a1), (.int (0 : Int32)), (.ref t)])) rfl rfl (hb hby d3_26)
    refine go st6 ?_
    show Go p e below _ (T6.setTop (mkF m 29 #[.val (.ref a1), .val (.int p2), .val (.int (0 : Int32))] [(.ref t), (.int (0 : Int32)), (.ref t)]))
    refine go (fun _ q => XS.aloadN X6.here hx rfl (hb hby d3_29) rfl rfl q) ?_
    show Go p e below _ (T6.setTop (mkF m 30 #[.val (.ref a1), .val (.int p2), .val (.int (0 : Int32))] [(.ref a1), (.ref t), (.int (0 : Int32)), (.ref t)]))
    refine go (fun _ q => XS.dup X6.here hx rfl (hb hby d3_30) rfl rfl q) ?_
    show Go p e below _ (T6.setTop (mkF m 31 #[.val (.ref a1), .val (.int p2), .val (.int (0 : Int32))] [(.ref a1), (.ref a1), (.ref t), (.int (0 : Int32)), (.ref t)]))
    obtain ⟨T7, X7, e7, st7⟩ := getF X6 hx hZ hown (host := "") (Or.inl (hw _ (List.mem_of_getElem? (i := 17) rfl))) Via.refl e6 F_s (g := (mkF m 31 #[.val (.ref a1), .val (.int p2), .val (.int (0 : Int32))] [(.ref a1), (.ref a1), (.ref t), (.int (0 : Int32)), (.ref t)])) rfl rfl (hb hby d3_31)
    refine go st7 ?_
    show Go p e below _ (T7.setTop (mkF m 34 #[.val (.ref a1), .val (.int p2), .val (.int (0 : Int32))] [(.int (1 : Int32)), (.ref a1), (.ref t), (.int (0 : Int32)), (.ref t)]))
    refine go (fun _ q => XS.iconst X7.here hx rfl (hb hby d3_34) q) ?_
    show Go p e below _ (T7.setTop (mkF m 35 #[.val (.ref a1), .val (.int p2), .val (.int (0 : Int32))] [(.int (1 : Int32)), (.int (1 : Int32)), (.ref a1), (.ref t), (.int (0 : Int32)), (.ref t)]))
    refine go (fun _ q => XS.isub X7.here hx rfl (hb hby d3_35) rfl q) ?_
    show Go p e below _ (T7.setTop (mkF m 36 #[.val (.ref a1), .val (.int p2), .val (.int (0 : Int32))] [(.int (0 : Int32)), (.ref a1), (.ref t), (.int (0 : Int32)), (.ref t)]))
    refine go (fun _ q => XS.dupX1 X7.here hx rfl (hb hby d3_36) rfl rfl rfl q) ?_
    show Go p e below _ (T7.setTop (mkF m 37 #[.val (.ref a1), .val (.int p2), .val (.int (0 : Int32))] [(.int (0 : Int32)), (.ref a1), (.int (0 : Int32)), (.ref t), (.int (0 : Int32)), (.ref t)]))
    obtain ⟨T8, h8, X8, e8, W8, st8⟩ := putF X7 hx hZ hown (host := "") (Or.inl (hw _ (List.mem_of_getElem? (i := 17) rfl))) Via.refl e7 F_s E_a1 (Or.inl (hw _ (List.mem_of_getElem? (i := 18) rfl))) (hw _ (List.mem_of_getElem? (i := 1) rfl)) (ty := .int) (by decide) rfl rfl (g := (mkF m 37 #[.val (.ref a1), .val (.int p2), .val (.int (0 : Int32))] [(.int (0 : Int32)), (.ref a1), (.int (0 : Int32)), (.ref t), (.int (0 : Int32)), (.ref t)])) rfl rfl (hb hby d3_37)
    refine go st8 ?_
    have F_s_8 : Fld Z h8 a1 "quorate/NodeSet" "size" "I" (.int (0 : Int32)) := F_s.same W8
    have E_a1_9 : Exa Z h8 a1 "quorate/NodeSet" := E_a1.wr W8
    have F_m_10 : Fld Z h8 a1 "quorate/NodeSet" "members" "[I" (.ref t) := F_m.other W8 (Or.inr (slot_ne (Or.inl (hw _ (List.mem_of_getElem? (i := 11) rfl))) (Or.inl (hw _ (List.mem_of_getElem? (i := 18) rfl))) (by decide) (t := (.array .int)) (t' := .int) (by decide) (by decide)))
    have V_t_11 : Arv Z h8 t k .int (4 : Int32) [(.int x0), y1, y2, y3] (.int (0 : Int32)) := V_t.other W8 (Ne.symm ne_at)
    have N8 := Fr.snoc X8 N0 g_a1
    have Z8 : n0 ≤ h8.size := Nat.le_trans Z0 (Nat.le_of_eq W8.size.symm)
    show Go p e below _ (T8.setTop (mkF m 40 #[.val (.ref a1), .val (.int p2), .val (.int (0 : Int32))] [(.int (0 : Int32)), (.ref t), (.int (0 : Int32)), (.ref t)]))
    obtain ⟨cl12, Ar12, q12, S12, Ng12, H12, G12⟩ := id V_t_11
    refine go (X8.iaload hx (j := (0 : Int32)) (v := (.int x0)) (by rw [e8]; exact Ar12.1) (State.isArrayOf_alike hZ.alike Ar12.2.1) Ar12.2.2 (inb_of S12 ⟨by decide, by decide⟩) (H12 _ (by rw [S12]; decide)) (g := (mkF m 40 #[.val (.ref a1), .val (.int p2), .val (.int (0 : Int32))] [(.int (0 : Int32)), (.ref t), (.int (0 : Int32)), (.ref t)])) rfl rfl (hb hby d3_40)) ?_
    show Go p e below _ (T8.setTop (mkF m 41 #[.val (.ref a1), .val (.int p2), .val (.int (0 : Int32))] [(.int x0), (.int (0 : Int32)), (.ref t)]))
    obtain ⟨cl13, Ar13, q13, S13, Ng13, H13, G13⟩ := id V_t_11
    obtain ⟨T14, h14, X14, e14, W14, st14⟩ := stI X8 hx hZ e8 Ar13 (j := (0 : Int32)) (inb_of S13 ⟨by decide, by decide⟩) (g := (mkF m 41 #[.val (.ref a1), .val (.int p2), .val (.int (0 : Int32))] [(.int x0), (.int (0 : Int32)), (.ref t)])) rfl rfl (hb hby d3_41)
    refine go st14 ?_
    have V_t_14 : Arv Z h14 t k .int (4 : Int32) [(.int x0), y1, y2, y3] (.int (0 : Int32)) := Arv.set Ar13 q13 S13 Ng13 H13 G13 rfl W14 0 rfl (Nat.le_of_ble_eq_true rfl)
    have E_a1_15 : Exa Z h14 a1 "quorate/NodeSet" := E_a1_9.wr W14
    have F_m_16 : Fld Z h14 a1 "quorate/NodeSet" "members" "[I" (.ref t) := F_m_10.other W14 (Or.inl ne_at)
    have F_s_17 : Fld Z h14 a1 "quorate/NodeSet" "size" "I" (.int (0 : Int32)) := F_s_8.other W14 (Or.inl ne_at)
    have N14 := Fr.snoc X14 N8 g_t
    have Z14 : n0 ≤ h14.size := Nat.le_trans Z8 (Nat.le_of_eq W14.size.symm)
    show Go p e below _ (T14.setTop (mkF m 42 #[.val (.ref a1), .val (.int p2), .val (.int (0 : Int32))] []))
    exact own_retV X14 hx hlk hret (hb hby d3_42) (by decide) (by decide) (by rw [e14]; exact ⟨rfl, N14, Z14, (by simp only [own_rm, if_pos hc4]; exact ⟨t, k, [(.int x0), y1, y2, y3], g_a1, g_t, ne_at, E_a1_15, F_m_16, F_s_17, V_t_14, rfl⟩)⟩)
  · refine go (fun _ q => XS.icmpYes X2.here hx rfl (pc0 := 17) (pc' := 43) rfl (hb hby d3_17) rfl (feq hc4).2 (by decide) (by decide) q) ?_
    show Go p e below _ (T2.setTop (mkF m 43 #[.val (.ref a1), .val (.int p2), .val (.int (0 : Int32))] []))
    refine go (fun _ q => XS.iinc X2.here hx rfl (hb hby d3_43) rfl (l' := #[.val (.ref a1), .val (.int p2), .val (.int (1 : Int32))]) rfl q) ?_
    show Go p e below _ (T2.setTop (mkF m 46 #[.val (.ref a1), .val (.int p2), .val (.int (1 : Int32))] []))
    refine go (fun _ q => XS.goto X2.here hx rfl (pc0 := 46) (pc' := 2) rfl (hb hby d3_46) (by decide) (by decide) q) ?_
    show Go p e below _ (T2.setTop (mkF m 2 #[.val (.ref a1), .val (.int p2), .val (.int (1 : Int32))] []))
    refine go (fun _ q => XS.iloadN X2.here hx rfl (hb hby d3_2) rfl q) ?_
    show Go p e below _ (T2.setTop (mkF m 3 #[.val (.ref a1), .val (.int p2), .val (.int (1 : Int32))] [(.int (1 : Int32))]))
    refine go (fun _ q => XS.aloadN X2.here hx rfl (hb hby d3_3) rfl rfl q) ?_
    show Go p e below _ (T2.setTop (mkF m 4 #[.val (.ref a1), .val (.int p2), .val (.int (1 : Int32))] [(.ref a1), (.int (1 : Int32))]))
    obtain ⟨T18, X18, e18, st18⟩ := getF X2 hx hZ hown (host := "") (Or.inl (hw _ (List.mem_of_getElem? (i := 17) rfl))) Via.refl e2 F_s (g := (mkF m 4 #[.val (.ref a1), .val (.int p2), .val (.int (1 : Int32))] [(.ref a1), (.int (1 : Int32))])) rfl rfl (hb hby d3_4)
    refine go st18 ?_
    show Go p e below _ (T18.setTop (mkF m 7 #[.val (.ref a1), .val (.int p2), .val (.int (1 : Int32))] [(.int (1 : Int32)), (.int (1 : Int32))]))
    refine go (fun _ q => XS.icmpYes X18.here hx rfl (pc0 := 7) (pc' := 49) rfl (hb hby d3_7) rfl (flt (by decide : ¬ ((1 : Int32) < (1 : Int32)))).2.1 (by decide) (by decide) q) ?_
    show Go p e below _ (T18.setTop (mkF m 49 #[.val (.ref a1), .val (.int p2), .val (.int (1 : Int32))] []))
    exact own_retV X18 hx hlk hret (hb hby d3_49) (by decide) (by decide) (by rw [e18]; exact ⟨rfl, N0, Z0, (by simp only [own_rm, if_neg hc4]; exact ⟨t, k, [y1, y2, y3], g_a1, g_t, ne_at, E_a1, F_m, F_s, V_t, rfl⟩)⟩)
set_option maxRecDepth 65536 in
set_option maxHeartbeats 40000000 in
theorem rmR_2 (l : Launch) (Z : State) (a0 : Array Value) (hw : ∀ d ∈ tables_1, d.before a0 Z = true) (ws : List Jvm.Cond) (a1 : Addr) (p2 : Int32) (h0 : Heap) (n0 : Nat) {t : Addr} {k : ClassId} {x0 x1 : Int32} {y2 y3 : Value} (Z0 : n0 ≤ h0.size) (g_a1 : n0 ≤ a1) (g_t : n0 ≤ t) (ne_at : a1 ≠ t) (E_a1 : Exa Z h0 a1 "quorate/NodeSet") (F_m : Fld Z h0 a1 "quorate/NodeSet" "members" "[I" (.ref t)) (F_s : Fld Z h0 a1 "quorate/NodeSet" "size" "I" (.int (2 : Int32))) (V_t : Arv Z h0 t k .int (4 : Int32) [(.int x0), (.int x1), y2, y3] (.int (0 : Int32))) :
    MetFree l (⟨"quorate/NodeSet", "remove", "(I)V"⟩ : MethodName) (head1 (Jvm.Cond.code (⟨"quorate/NodeSet", "remove", "(I)V"⟩ : MethodName) prog_102_method_3_code 3 none :: ws) ({ frames := 0, cells := 0, slots := 0, locals := 0 } : Room)) (fun a U => a = #[(.ref a1), (.int p2)] ∧ Z.Warmed39 U.vm ∧ U.heap = h0) (fun _ _ _ _ _ => True) (fun _ U o U' => ∃ v L, o = .returned v ∧ (QA Z a1 none (own_rm [x0, x1] p2) n0) v U'.heap L ∧ FrameEnd U o U' L ({ frames := 0, cells := 0, slots := 0, locals := 0 } : Room).cells ({ frames := 0, cells := 0, slots := 0, locals := 0 } : Room).slots) := by
  refine own_met (plainFor_of_name pn_3) (fun m => ef_3 m a1 p2) ?_
  intro p e s m below meth c T0 hx hby hml hown hnm hret hlk hZ X0 e0
  have hown : s.vm.findClass "quorate/NodeSet" = some m.cls := hown
  have hnm : meth.name = "remove" := hnm
  have hret : meth.sig.returnType = none := hret
  have N0 := Fr.nil n0
  show Go p e below _ (T0.setTop (mkF m 0 #[.val (.ref a1), .val (.int p2), .unset] []))
  refine go (fun _ q => XS.iconst X0.here hx rfl (hb hby d3_0) q) ?_
  show Go p e below _ (T0.setTop (mkF m 1 #[.val (.ref a1), .val (.int p2), .unset] [(.int (0 : Int32))]))
  refine go (fun _ q => XS.istoreN X0.here hx rfl (hb hby d3_1) rfl (l' := #[.val (.ref a1), .val (.int p2), .val (.int (0 : Int32))]) rfl q) ?_
  show Go p e below _ (T0.setTop (mkF m 2 #[.val (.ref a1), .val (.int p2), .val (.int (0 : Int32))] []))
  refine go (fun _ q => XS.iloadN X0.here hx rfl (hb hby d3_2) rfl q) ?_
  show Go p e below _ (T0.setTop (mkF m 3 #[.val (.ref a1), .val (.int p2), .val (.int (0 : Int32))] [(.int (0 : Int32))]))
  refine go (fun _ q => XS.aloadN X0.here hx rfl (hb hby d3_3) rfl rfl q) ?_
  show Go p e below _ (T0.setTop (mkF m 4 #[.val (.ref a1), .val (.int p2), .val (.int (0 : Int32))] [(.ref a1), (.int (0 : Int32))]))
  obtain ⟨T1, X1, e1, st1⟩ := getF X0 hx hZ hown (host := "") (Or.inl (hw _ (List.mem_of_getElem? (i := 17) rfl))) Via.refl e0 F_s (g := (mkF m 4 #[.val (.ref a1), .val (.int p2), .val (.int (0 : Int32))] [(.ref a1), (.int (0 : Int32))])) rfl rfl (hb hby d3_4)
  refine go st1 ?_
  show Go p e below _ (T1.setTop (mkF m 7 #[.val (.ref a1), .val (.int p2), .val (.int (0 : Int32))] [(.int (2 : Int32)), (.int (0 : Int32))]))
  refine go (fun _ q => XS.icmpNo X1.here hx rfl (hb hby d3_7) rfl (tlt (by decide : (0 : Int32) < (2 : Int32))).2.1 q) ?_
  show Go p e below _ (T1.setTop (mkF m 10 #[.val (.ref a1), .val (.int p2), .val (.int (0 : Int32))] []))
  refine go (fun _ q => XS.aloadN X1.here hx rfl (hb hby d3_10) rfl rfl q) ?_
  show Go p e below _ (T1.setTop (mkF m 11 #[.val (.ref a1), .val (.int p2), .val (.int (0 : Int32))] [(.ref a1)]))
  obtain ⟨T2, X2, e2, st2⟩ := getF X1 hx hZ hown (host := "") (Or.inl (hw _ (List.mem_of_getElem? (i := 10) rfl))) Via.refl e1 F_m (g := (mkF m 11 #[.val (.ref a1), .val (.int p2), .val (.int (0 : Int32))] [(.ref a1)])) rfl rfl (hb hby d3_11)
  refine go st2 ?_
  show Go p e below _ (T2.setTop (mkF m 14 #[.val (.ref a1), .val (.int p2), .val (.int (0 : Int32))] [(.ref t)]))
  refine go (fun _ q => XS.iloadN X2.here hx rfl (hb hby d3_14) rfl q) ?_
  show Go p e below _ (T2.setTop (mkF m 15 #[.val (.ref a1), .val (.int p2), .val (.int (0 : Int32))] [(.int (0 : Int32)), (.ref t)]))
  obtain ⟨cl3, Ar3, q3, S3, Ng3, H3, G3⟩ := id V_t
  refine go (X2.iaload hx (j := (0 : Int32)) (v := (.int x0)) (by rw [e2]; exact Ar3.1) (State.isArrayOf_alike hZ.alike Ar3.2.1) Ar3.2.2 (inb_of S3 ⟨by decide, by decide⟩) (H3 _ (by rw [S3]; decide)) (g := (mkF m 15 #[.val (.ref a1), .val (.int p2), .val (.int (0 : Int32))] [(.int (0 : Int32)), (.ref t)])) rfl rfl (hb hby d3_15)) ?_
  show Go p e below _ (T2.setTop (mkF m 16 #[.val (.ref a1), .val (.int p2), .val (.int (0 : Int32))] [(.int x0)]))
  refine go (fun _ q => XS.iloadN X2.here hx rfl (hb hby d3_16) rfl q) ?_
  show Go p e below _ (T2.setTop (mkF m 17 #[.val (.ref a1), .val (.int p2), .val (.int (0 : Int32))] [(.int p2), (.int x0)]))
  by_cases hc4 : x0 = p2
  · refine go (fun _ q => XS.icmpNo X2.here hx rfl (hb hby d3_17) rfl (teq hc4).2 q) ?_
    show Go p e below _ (T2.setTop (mkF m 20 #[.val (.ref a1), .val (.int p2), .val (.int (0 : Int32))] []))
    refine go (fun _ q => XS.aloadN X2.here hx rfl (hb hby d3_20) rfl rfl q) ?_
    show Go p e below _ (T2.setTop (mkF m 21 #[.val (.ref a1), .val (.int p2), .val (.int (0 : Int32))] [(.ref a1)]))
    obtain ⟨T5, X5, e5, st5⟩ := getF X2 hx hZ hown (host := "") (Or.inl (hw _ (List.mem_of_getElem? (i := 10) rfl))) Via.refl e2 F_m (g := (mkF m 21 #[.val (.ref a1), .val (.int p2), .val (.int (0 : Int32))] [(.ref a1)])) rfl rfl (hb hby d3_21)
    refine go st5 ?_
    show Go p e below _ (T5.setTop (mkF m 24 #[.val (.ref a1), .val (.int p2), .val (.int (0 : Int32))] [(.ref t)]))
    refine go (fun _ q => XS.iloadN X5.here hx rfl (hb hby d3_24) rfl q) ?_
    show Go p e below _ (T5.setTop (mkF m 25 #[.val (.ref a1), .val (.int p2), .val (.int (0 : Int32))] [(.int (0 : Int32)), (.ref t)]))
    refine go (fun _ q => XS.aloadN X5.here hx rfl (hb hby d3_25) rfl rfl q) ?_
    show Go p e below _ (T5.setTop (mkF m 26 #[.val (.ref a1), .val (.int p2), .val (.int (0 : Int32))] [(.ref a1), (.int (0 : Int32)), (.ref t)]))
    obtain ⟨T6, X6, e6, st6⟩ := getF X5 hx hZ hown (host := "") (Or.inl (hw _ (List.mem_of_getElem? (i := 10) rfl))) Via.refl e5 F_m (g := (mkF m 26 #[.val (.ref a1), .val (.int p2), .val (.int (0 : Int32))] [(.ref a1), (.int (0 : Int32)), (.ref t)])) rfl rfl (hb hby d3_26)
    refine go st6 ?_
    show Go p e below _ (T6.setTop (mkF m 29 #[.val (.ref a1), .val (.int p2), .val (.int (0 : Int32))] [(.ref t), (.int (0 : Int32)), (.ref t)]))
    refine go (fun _ q => XS.aloadN X6.here hx rfl (hb hby d3_29) rfl rfl q) ?_
    show Go p e below _ (T6.setTop (mkF m 30 #[.val (.ref a1), .val (.int p2), .val (.int (0 : Int32))] [(.ref a1), (.ref t), (.int (0 : Int32)), (.ref t)]))
    refine go (fun _ q => XS.dup X6.here hx rfl (hb hby d3_30) rfl rfl q) ?_
    show Go p e below _ (T6.setTop (mkF m 31 #[.val (.ref a1), .val (.int p2), .val (.int (0 : Int32))] [(.ref a1), (.ref a1), (.ref t), (.int (0 : Int32)), (.ref t)]))
    obtain ⟨T7, X7, e7, st7⟩ := getF X6 hx hZ hown (host := "") (Or.inl (hw _ (List.mem_of_getElem? (i := 17) rfl))) Via.refl e6 F_s (g := (mkF m 31 #[.val (.ref a1), .val (.int p2), .val (.int (0 : Int32))] [(.ref a1), (.ref a1), (.ref t), (.int (0 : Int32)), (.ref t)])) rfl rfl (hb hby d3_31)
    refine go st7 ?_
    show Go p e below _ (T7.setTop (mkF m 34 #[.val (.ref a1), .val (.int p2), .val (.int (0 : Int32))] [(.int (2 : Int32)), (.ref a1), (.ref t), (.int (0 : Int32)), (.ref t)]))
    refine go (fun _ q => XS.iconst X7.here hx rfl (hb hby d3_34) q) ?_
    show Go p e below _ (T7.setTop (mkF m 35 #[.val (.ref a1), .val (.int p2), .val (.int (0 : Int32))] [(.int (1 : Int32)), (.int (2 : Int32)), (.ref a1), (.ref t), (.int (0 : Int32)), (.ref t)]))
    refine go (fun _ q => XS.isub X7.here hx rfl (hb hby d3_35) rfl q) ?_
    show Go p e below _ (T7.setTop (mkF m 36 #[.val (.ref a1), .val (.int p2), .val (.int (0 : Int32))] [(.int (1 : Int32)), (.ref a1), (.ref t), (.int (0 : Int32)), (.ref t)]))
    refine go (fun _ q => XS.dupX1 X7.here hx rfl (hb hby d3_36) rfl rfl rfl q) ?_
    show Go p e below _ (T7.setTop (mkF m 37 #[.val (.ref a1), .val (.int p2), .val (.int (0 : Int32))] [(.int (1 : Int32)), (.ref a1), (.int (1 : Int32)), (.ref t), (.int (0 : Int32)), (.ref t)]))
    obtain ⟨T8, h8, X8, e8, W8, st8⟩ := putF X7 hx hZ hown (host := "") (Or.inl (hw _ (List.mem_of_getElem? (i := 17) rfl))) Via.refl e7 F_s E_a1 (Or.inl (hw _ (List.mem_of_getElem? (i := 18) rfl))) (hw _ (List.mem_of_getElem? (i := 1) rfl)) (ty := .int) (by decide) rfl rfl (g := (mkF m 37 #[.val (.ref a1), .val (.int p2), .val (.int (0 : Int32))] [(.int (1 : Int32)), (.ref a1), (.int (1 : Int32)), (.ref t), (.int (0 : Int32)), (.ref t)])) rfl rfl (hb hby d3_37)
    refine go st8 ?_
    have F_s_8 : Fld Z h8 a1 "quorate/NodeSet" "size" "I" (.int (1 : Int32)) := F_s.same W8
    have E_a1_9 : Exa Z h8 a1 "quorate/NodeSet" := E_a1.wr W8
    have F_m_10 : Fld Z h8 a1 "quorate/NodeSet" "members" "[I" (.ref t) := F_m.other W8 (Or.inr (slot_ne (Or.inl (hw _ (List.mem_of_getElem? (i := 11) rfl))) (Or.inl (hw _ (List.mem_of_getElem? (i := 18) rfl))) (by decide) (t := (.array .int)) (t' := .int) (by decide) (by decide)))
    have V_t_11 : Arv Z h8 t k .int (4 : Int32) [(.int x0), (.int x1), y2, y3] (.int (0 : Int32)) := V_t.other W8 (Ne.symm ne_at)
    have N8 := Fr.snoc X8 N0 g_a1
    have Z8 : n0 ≤ h8.size := Nat.le_trans Z0 (Nat.le_of_eq W8.size.symm)
    show Go p e below _ (T8.setTop (mkF m 40 #[.val (.ref a1), .val (.int p2), .val (.int (0 : Int32))] [(.int (1 : Int32)), (.ref t), (.int (0 : Int32)), (.ref t)]))
    obtain ⟨cl12, Ar12, q12, S12, Ng12, H12, G12⟩ := id V_t_11
    refine go (X8.iaload hx (j := (1 : Int32)) (v := (.int x1)) (by rw [e8]; exact Ar12.1) (State.isArrayOf_alike hZ.alike Ar12.2.1) Ar12.2.2 (inb_of S12 ⟨by decide, by decide⟩) (H12 _ (by rw [S12]; decide)) (g := (mkF m 40 #[.val (.ref a1), .val (.int p2), .val (.int (0 : Int32))] [(.int (1 : Int32)), (.ref t), (.int (0 : Int32)), (.ref t)])) rfl rfl (hb hby d3_40)) ?_
    show Go p e below _ (T8.setTop (mkF m 41 #[.val (.ref a1), .val (.int p2), .val (.int (0 : Int32))] [(.int x1), (.int (0 : Int32)), (.ref t)]))
    obtain ⟨cl13, Ar13, q13, S13, Ng13, H13, G13⟩ := id V_t_11
    obtain ⟨T14, h14, X14, e14, W14, st14⟩ := stI X8 hx hZ e8 Ar13 (j := (0 : Int32)) (inb_of S13 ⟨by decide, by decide⟩) (g := (mkF m 41 #[.val (.ref a1), .val (.int p2), .val (.int (0 : Int32))] [(.int x1), (.int (0 : Int32)), (.ref t)])) rfl rfl (hb hby d3_41)
    refine go st14 ?_
    have V_t_14 : Arv Z h14 t k .int (4 : Int32) [(.int x1), (.int x1), y2, y3] (.int (0 : Int32)) := Arv.set Ar13 q13 S13 Ng13 H13 G13 rfl W14 0 rfl (Nat.le_of_ble_eq_true rfl)
    have E_a1_15 : Exa Z h14 a1 "quorate/NodeSet" := E_a1_9.wr W14
    have F_m_16 : Fld Z h14 a1 "quorate/NodeSet" "members" "[I" (.ref t) := F_m_10.other W14 (Or.inl ne_at)
    have F_s_17 : Fld Z h14 a1 "quorate/NodeSet" "size" "I" (.int (1 : Int32)) := F_s_8.other W14 (Or.inl ne_at)
    have N14 := Fr.snoc X14 N8 g_t
    have Z14 : n0 ≤ h14.size := Nat.le_trans Z8 (Nat.le_of_eq W14.size.symm)
    show Go p e below _ (T14.setTop (mkF m 42 #[.val (.ref a1), .val (.int p2), .val (.int (0 : Int32))] []))
    exact own_retV X14 hx hlk hret (hb hby d3_42) (by decide) (by decide) (by rw [e14]; exact ⟨rfl, N14, Z14, (by simp only [own_rm, if_pos hc4]; exact ⟨t, k, [(.int x1), y2, y3], g_a1, g_t, ne_at, E_a1_15, F_m_16, F_s_17, V_t_14, rfl⟩)⟩)
  · refine go (fun _ q => XS.icmpYes X2.here hx rfl (pc0 := 17) (pc' := 43) rfl (hb hby d3_17) rfl (feq hc4).2 (by decide) (by decide) q) ?_
    show Go p e below _ (T2.setTop (mkF m 43 #[.val (.ref a1), .val (.int p2), .val (.int (0 : Int32))] []))
    refine go (fun _ q => XS.iinc X2.here hx rfl (hb hby d3_43) rfl (l' := #[.val (.ref a1), .val (.int p2), .val (.int (1 : Int32))]) rfl q) ?_
    show Go p e below _ (T2.setTop (mkF m 46 #[.val (.ref a1), .val (.int p2), .val (.int (1 : Int32))] []))
    refine go (fun _ q => XS.goto X2.here hx rfl (pc0 := 46) (pc' := 2) rfl (hb hby d3_46) (by decide) (by decide) q) ?_
    show Go p e below _ (T2.setTop (mkF m 2 #[.val (.ref a1), .val (.int p2), .val (.int (1 : Int32))] []))
    refine go (fun _ q => XS.iloadN X2.here hx rfl (hb hby d3_2) rfl q) ?_
    show Go p e below _ (T2.setTop (mkF m 3 #[.val (.ref a1), .val (.int p2), .val (.int (1 : Int32))] [(.int (1 : Int32))]))
    refine go (fun _ q => XS.aloadN X2.here hx rfl (hb hby d3_3) rfl rfl q) ?_
    show Go p e below _ (T2.setTop (mkF m 4 #[.val (.ref a1), .val (.int p2), .val (.int (1 : Int32))] [(.ref a1), (.int (1 : Int32))]))
    obtain ⟨T18, X18, e18, st18⟩ := getF X2 hx hZ hown (host := "") (Or.inl (hw _ (List.mem_of_getElem? (i := 17) rfl))) Via.refl e2 F_s (g := (mkF m 4 #[.val (.ref a1), .val (.int p2), .val (.int (1 : Int32))] [(.ref a1), (.int (1 : Int32))])) rfl rfl (hb hby d3_4)
    refine go st18 ?_
    show Go p e below _ (T18.setTop (mkF m 7 #[.val (.ref a1), .val (.int p2), .val (.int (1 : Int32))] [(.int (2 : Int32)), (.int (1 : Int32))]))
    refine go (fun _ q => XS.icmpNo X18.here hx rfl (hb hby d3_7) rfl (tlt (by decide : (1 : Int32) < (2 : Int32))).2.1 q) ?_
    show Go p e below _ (T18.setTop (mkF m 10 #[.val (.ref a1), .val (.int p2), .val (.int (1 : Int32))] []))
    refine go (fun _ q => XS.aloadN X18.here hx rfl (hb hby d3_10) rfl rfl q) ?_
    show Go p e below _ (T18.setTop (mkF m 11 #[.val (.ref a1), .val (.int p2), .val (.int (1 : Int32))] [(.ref a1)]))
    obtain ⟨T19, X19, e19, st19⟩ := getF X18 hx hZ hown (host := "") (Or.inl (hw _ (List.mem_of_getElem? (i := 10) rfl))) Via.refl e18 F_m (g := (mkF m 11 #[.val (.ref a1), .val (.int p2), .val (.int (1 : Int32))] [(.ref a1)])) rfl rfl (hb hby d3_11)
    refine go st19 ?_
    show Go p e below _ (T19.setTop (mkF m 14 #[.val (.ref a1), .val (.int p2), .val (.int (1 : Int32))] [(.ref t)]))
    refine go (fun _ q => XS.iloadN X19.here hx rfl (hb hby d3_14) rfl q) ?_
    show Go p e below _ (T19.setTop (mkF m 15 #[.val (.ref a1), .val (.int p2), .val (.int (1 : Int32))] [(.int (1 : Int32)), (.ref t)]))
    obtain ⟨cl20, Ar20, q20, S20, Ng20, H20, G20⟩ := id V_t
    refine go (X19.iaload hx (j := (1 : Int32)) (v := (.int x1)) (by rw [e19]; exact Ar20.1) (State.isArrayOf_alike hZ.alike Ar20.2.1) Ar20.2.2 (inb_of S20 ⟨by decide, by decide⟩) (H20 _ (by rw [S20]; decide)) (g := (mkF m 15 #[.val (.ref a1), .val (.int p2), .val (.int (1 : Int32))] [(.int (1 : Int32)), (.ref t)])) rfl rfl (hb hby d3_15)) ?_
    show Go p e below _ (T19.setTop (mkF m 16 #[.val (.ref a1), .val (.int p2), .val (.int (1 : Int32))] [(.int x1)]))
    refine go (fun _ q => XS.iloadN X19.here hx rfl (hb hby d3_16) rfl q) ?_
    show Go p e below _ (T19.setTop (mkF m 17 #[.val (.ref a1), .val (.int p2), .val (.int (1 : Int32))] [(.int p2), (.int x1)]))
    by_cases hc21 : x1 = p2
    · refine go (fun _ q => XS.icmpNo X19.here hx rfl (hb hby d3_17) rfl (teq hc21).2 q) ?_
      show Go p e below _ (T19.setTop (mkF m 20 #[.val (.ref a1), .val (.int p2), .val (.int (1 : Int32))] []))
      refine go (fun _ q => XS.aloadN X19.here hx rfl (hb hby d3_20) rfl rfl q) ?_
      show Go p e below _ (T19.setTop (mkF m 21 #[.val (.ref a1), .val (.int p2), .val (.int (1 : Int32))] [(.ref a1)]))
      obtain ⟨T22, X22, e22, st22⟩ := getF X19 hx hZ hown (host := "") (Or.inl (hw _ (List.mem_of_getElem? (i := 10) rfl))) Via.refl e19 F_m (g := (mkF m 21 #[.val (.ref a1), .val (.int p2), .val (.int (1 : Int32))] [(.ref a1)])) rfl rfl (hb hby d3_21)
      refine go st22 ?_
      show Go p e below _ (T22.setTop (mkF m 24 #[.val (.ref a1), .val (.int p2), .val (.int (1 : Int32))] [(.ref t)]))
      refine go (fun _ q => XS.iloadN X22.here hx rfl (hb hby d3_24) rfl q) ?_
      show Go p e below _ (T22.setTop (mkF m 25 #[.val (.ref a1), .val (.int p2), .val (.int (1 : Int32))] [(.int (1 : Int32)), (.ref t)]))
      refine go (fun _ q => XS.aloadN X22.here hx rfl (hb hby d3_25) rfl rfl q) ?_
      show Go p e below _ (T22.setTop (mkF m 26 #[.val (.ref a1), .val (.int p2), .val (.int (1 : Int32))] [(.ref a1), (.int (1 : Int32)), (.ref t)]))
      obtain ⟨T23, X23, e23, st23⟩ := getF X22 hx hZ hown (host := "") (Or.inl (hw _ (List.mem_of_getElem? (i := 10) rfl))) Via.refl e22 F_m (g := (mkF m 26 #[.val (.ref a1), .val (.int p2), .val (.int (1 : Int32))] [(.ref a1), (.int (1 : Int32)), (.ref t)])) rfl rfl (hb hby d3_26)
      refine go st23 ?_
      show Go p e below _ (T23.setTop (mkF m 29 #[.val (.ref a1), .val (.int p2), .val (.int (1 : Int32))] [(.ref t), (.int (1 : Int32)), (.ref t)]))
      refine go (fun _ q => XS.aloadN X23.here hx rfl (hb hby d3_29) rfl rfl q) ?_
      show Go p e below _ (T23.setTop (mkF m 30 #[.val (.ref a1), .val (.int p2), .val (.int (1 : Int32))] [(.ref a1), (.ref t), (.int (1 : Int32)), (.ref t)]))
      refine go (fun _ q => XS.dup X23.here hx rfl (hb hby d3_30) rfl rfl q) ?_
      show Go p e below _ (T23.setTop (mkF m 31 #[.val (.ref a1), .val (.int p2), .val (.int (1 : Int32))] [(.ref a1), (.ref a1), (.ref t), (.int (1 : Int32)), (.ref t)]))
      obtain ⟨T24, X24, e24, st24⟩ := getF X23 hx hZ hown (host := "") (Or.inl (hw _ (List.mem_of_getElem? (i := 17) rfl))) Via.refl e23 F_s (g := (mkF m 31 #[.val (.ref a1), .val (.int p2), .val (.int (1 : Int32))] [(.ref a1), (.ref a1), (.ref t), (.int (1 : Int32)), (.ref t)])) rfl rfl (hb hby d3_31)
      refine go st24 ?_
      show Go p e below _ (T24.setTop (mkF m 34 #[.val (.ref a1), .val (.int p2), .val (.int (1 : Int32))] [(.int (2 : Int32)), (.ref a1), (.ref t), (.int (1 : Int32)), (.ref t)]))
      refine go (fun _ q => XS.iconst X24.here hx rfl (hb hby d3_34) q) ?_
      show Go p e below _ (T24.setTop (mkF m 35 #[.val (.ref a1), .val (.int p2), .val (.int (1 : Int32))] [(.int (1 : Int32)), (.int (2 : Int32)), (.ref a1), (.ref t), (.int (1 : Int32)), (.ref t)]))
      refine go (fun _ q => XS.isub X24.here hx rfl (hb hby d3_35) rfl q) ?_
      show Go p e below _ (T24.setTop (mkF m 36 #[.val (.ref a1), .val (.int p2), .val (.int (1 : Int32))] [(.int (1 : Int32)), (.ref a1), (.ref t), (.int (1 : Int32)), (.ref t)]))
      refine go (fun _ q => XS.dupX1 X24.here hx rfl (hb hby d3_36) rfl rfl rfl q) ?_
      show Go p e below _ (T24.setTop (mkF m 37 #[.val (.ref a1), .val (.int p2), .val (.int (1 : Int32))] [(.int (1 : Int32)), (.ref a1), (.int (1 : Int32)), (.ref t), (.int (1 : Int32)), (.ref t)]))
      obtain ⟨T25, h25, X25, e25, W25, st25⟩ := putF X24 hx hZ hown (host := "") (Or.inl (hw _ (List.mem_of_getElem? (i := 17) rfl))) Via.refl e24 F_s E_a1 (Or.inl (hw _ (List.mem_of_getElem? (i := 18) rfl))) (hw _ (List.mem_of_getElem? (i := 1) rfl)) (ty := .int) (by decide) rfl rfl (g := (mkF m 37 #[.val (.ref a1), .val (.int p2), .val (.int (1 : Int32))] [(.int (1 : Int32)), (.ref a1), (.int (1 : Int32)), (.ref t), (.int (1 : Int32)), (.ref t)])) rfl rfl (hb hby d3_37)
      refine go st25 ?_
      have F_s_25 : Fld Z h25 a1 "quorate/NodeSet" "size" "I" (.int (1 : Int32)) := F_s.same W25
      have E_a1_26 : Exa Z h25 a1 "quorate/NodeSet" := E_a1.wr W25
      have F_m_27 : Fld Z h25 a1 "quorate/NodeSet" "members" "[I" (.ref t) := F_m.other W25 (Or.inr (slot_ne (Or.inl (hw _ (List.mem_of_getElem? (i := 11) rfl))) (Or.inl (hw _ (List.mem_of_getElem? (i := 18) rfl))) (by decide) (t := (.array .int)) (t' := .int) (by decide) (by decide)))
      have V_t_28 : Arv Z h25 t k .int (4 : Int32) [(.int x0), (.int x1), y2, y3] (.int (0 : Int32)) := V_t.other W25 (Ne.symm ne_at)
      have N25 := Fr.snoc X25 N0 g_a1
      have Z25 : n0 ≤ h25.size := Nat.le_trans Z0 (Nat.le_of_eq W25.size.symm)
      show Go p e below _ (T25.setTop (mkF m 40 #[.val (.ref a1), .val (.int p2), .val (.int (1 : Int32))] [(.int (1 : Int32)), (.ref t), (.int (1 : Int32)), (.ref t)]))
      obtain ⟨cl29, Ar29, q29, S29, Ng29, H29, G29⟩ := id V_t_28
      refine go (X25.iaload hx (j := (1 : Int32)) (v := (.int x1)) (by rw [e25]; exact Ar29.1) (State.isArrayOf_alike hZ.alike Ar29.2.1) Ar29.2.2 (inb_of S29 ⟨by decide, by decide⟩) (H29 _ (by rw [S29]; decide)) (g := (mkF m 40 #[.val (.ref a1), .val (.int p2), .val (.int (1 : Int32))] [(.int (1 : Int32)), (.ref t), (.int (1 : Int32)), (.ref t)])) rfl rfl (hb hby d3_40)) ?_
      show Go p e below _ (T25.setTop (mkF m 41 #[.val (.ref a1), .val (.int p2), .val (.int (1 : Int32))] [(.int x1), (.int (1 : Int32)), (.ref t)]))
      obtain ⟨cl30, Ar30, q30, S30, Ng30, H30, G30⟩ := id V_t_28
      obtain ⟨T31, h31, X31, e31, W31, st31⟩ := stI X25 hx hZ e25 Ar30 (j := (1 : Int32)) (inb_of S30 ⟨by decide, by decide⟩) (g := (mkF m 41 #[.val (.ref a1), .val (.int p2), .val (.int (1 : Int32))] [(.int x1), (.int (1 : Int32)), (.ref t)])) rfl rfl (hb hby d3_41)
      refine go st31 ?_
      have V_t_31 : Arv Z h31 t k .int (4 : Int32) [(.int x0), (.int x1), y2, y3] (.int (0 : Int32)) := Arv.set Ar30 q30 S30 Ng30 H30 G30 rfl W31 1 rfl (Nat.le_of_ble_eq_true rfl)
      have E_a1_32 : Exa Z h31 a1 "quorate/NodeSet" := E_a1_26.wr W31
      have F_m_33 : Fld Z h31 a1 "quorate/NodeSet" "members" "[I" (.ref t) := F_m_27.other W31 (Or.inl ne_at)
      have F_s_34 : Fld Z h31 a1 "quorate/NodeSet" "size" "I" (.int (1 : Int32)) := F_s_25.other W31 (Or.inl ne_at)
      have N31 := Fr.snoc X31 N25 g_t
      have Z31 : n0 ≤ h31.size := Nat.le_trans Z25 (Nat.le_of_eq W31.size.symm)
      show Go p e below _ (T31.setTop (mkF m 42 #[.val (.ref a1), .val (.int p2), .val (.int (1 : Int32))] []))
      exact own_retV X31 hx hlk hret (hb hby d3_42) (by decide) (by decide) (by rw [e31]; exact ⟨rfl, N31, Z31, (by simp only [own_rm, if_neg hc4, if_pos hc21]; exact ⟨t, k, [(.int x1), y2, y3], g_a1, g_t, ne_at, E_a1_32, F_m_33, F_s_34, V_t_31, rfl⟩)⟩)
    · refine go (fun _ q => XS.icmpYes X19.here hx rfl (pc0 := 17) (pc' := 43) rfl (hb hby d3_17) rfl (feq hc21).2 (by decide) (by decide) q) ?_
      show Go p e below _ (T19.setTop (mkF m 43 #[.val (.ref a1), .val (.int p2), .val (.int (1 : Int32))] []))
      refine go (fun _ q => XS.iinc X19.here hx rfl (hb hby d3_43) rfl (l' := #[.val (.ref a1), .val (.int p2), .val (.int (2 : Int32))]) rfl q) ?_
      show Go p e below _ (T19.setTop (mkF m 46 #[.val (.ref a1), .val (.int p2), .val (.int (2 : Int32))] []))
      refine go (fun _ q => XS.goto X19.here hx rfl (pc0 := 46) (pc' := 2) rfl (hb hby d3_46) (by decide) (by decide) q) ?_
      show Go p e below _ (T19.setTop (mkF m 2 #[.val (.ref a1), .val (.int p2), .val (.int (2 : Int32))] []))
      refine go (fun _ q => XS.iloadN X19.here hx rfl (hb hby d3_2) rfl q) ?_
      show Go p e below _ (T19.setTop (mkF m 3 #[.val (.ref a1), .val (.int p2), .val (.int (2 : Int32))] [(.int (2 : Int32))]))
      refine go (fun _ q => XS.aloadN X19.here hx rfl (hb hby d3_3) rfl rfl q) ?_
      show Go p e below _ (T19.setTop (mkF m 4 #[.val (.ref a1), .val (.int p2), .val (.int (2 : Int32))] [(.ref a1), (.int (2 : Int32))]))
      obtain ⟨T35, X35, e35, st35⟩ := getF X19 hx hZ hown (host := "") (Or.inl (hw _ (List.mem_of_getElem? (i := 17) rfl))) Via.refl e19 F_s (g := (mkF m 4 #[.val (.ref a1), .val (.int p2), .val (.int (2 : Int32))] [(.ref a1), (.int (2 : Int32))])) rfl rfl (hb hby d3_4)
      refine go st35 ?_
      show Go p e below _ (T35.setTop (mkF m 7 #[.val (.ref a1), .val (.int p2), .val (.int (2 : Int32))] [(.int (2 : Int32)), (.int (2 : Int32))]))
      refine go (fun _ q => XS.icmpYes X35.here hx rfl (pc0 := 7) (pc' := 49) rfl (hb hby d3_7) rfl (flt (by decide : ¬ ((2 : Int32) < (2 : Int32)))).2.1 (by decide) (by decide) q) ?_
      show Go p e below _ (T35.setTop (mkF m 49 #[.val (.ref a1), .val (.int p2), .val (.int (2 : Int32))] []))
      exact own_retV X35 hx hlk hret (hb hby d3_49) (by decide) (by decide) (by rw [e35]; exact ⟨rfl, N0, Z0, (by simp only [own_rm, if_neg hc4, if_neg hc21]; exact ⟨t, k, [y2, y3], g_a1, g_t, ne_at, E_a1, F_m, F_s, V_t, rfl⟩)⟩)
set_option maxRecDepth 65536 in
set_option maxHeartbeats 40000000 in
theorem rmR_3 (l : Launch) (Z : State) (a0 : Array Value) (hw : ∀ d ∈ tables_1, d.before a0 Z = true) (ws : List Jvm.Cond) (a1 : Addr) (p2 : Int32) (h0 : Heap) (n0 : Nat) {t : Addr} {k : ClassId} {x0 x1 x2 : Int32} {y3 : Value} (Z0 : n0 ≤ h0.size) (g_a1 : n0 ≤ a1) (g_t : n0 ≤ t) (ne_at : a1 ≠ t) (E_a1 : Exa Z h0 a1 "quorate/NodeSet") (F_m : Fld Z h0 a1 "quorate/NodeSet" "members" "[I" (.ref t)) (F_s : Fld Z h0 a1 "quorate/NodeSet" "size" "I" (.int (3 : Int32))) (V_t : Arv Z h0 t k .int (4 : Int32) [(.int x0), (.int x1), (.int x2), y3] (.int (0 : Int32))) :
    MetFree l (⟨"quorate/NodeSet", "remove", "(I)V"⟩ : MethodName) (head1 (Jvm.Cond.code (⟨"quorate/NodeSet", "remove", "(I)V"⟩ : MethodName) prog_102_method_3_code 3 none :: ws) ({ frames := 0, cells := 0, slots := 0, locals := 0 } : Room)) (fun a U => a = #[(.ref a1), (.int p2)] ∧ Z.Warmed39 U.vm ∧ U.heap = h0) (fun _ _ _ _ _ => True) (fun _ U o U' => ∃ v L, o = .returned v ∧ (QA Z a1 none (own_rm [x0, x1, x2] p2) n0) v U'.heap L ∧ FrameEnd U o U' L ({ frames := 0, cells := 0, slots := 0, locals := 0 } : Room).cells ({ frames := 0, cells := 0, slots := 0, locals := 0 } : Room).slots) := by
  refine own_met (plainFor_of_name pn_3) (fun m => ef_3 m a1 p2) ?_
  intro p e s m below meth c T0 hx hby hml hown hnm hret hlk hZ X0 e0
  have hown : s.vm.findClass "quorate/NodeSet" = some m.cls := hown
  have hnm : meth.name = "remove" := hnm
  have hret : meth.sig.returnType = none := hret
  have N0 := Fr.nil n0
  show Go p e below _ (T0.setTop (mkF m 0 #[.val (.ref a1), .val (.int p2), .unset] []))
  refine go (fun _ q => XS.iconst X0.here hx rfl (hb hby d3_0) q) ?_
  show Go p e below _ (T0.setTop (mkF m 1 #[.val (.ref a1), .val (.int p2), .unset] [(.int (0 : Int32))]))
  refine go (fun _ q => XS.istoreN X0.here hx rfl (hb hby d3_1) rfl (l' := #[.val (.ref a1), .val (.int p2), .val (.int (0 : Int32))]) rfl q) ?_
  show Go p e below _ (T0.setTop (mkF m 2 #[.val (.ref a1), .val (.int p2), .val (.int (0 : Int32))] []))
  refine go (fun _ q => XS.iloadN X0.here hx rfl (hb hby d3_2) rfl q) ?_
  show Go p e below _ (T0.setTop (mkF m 3 #[.val (.ref a1), .val (.int p2), .val (.int (0 : Int32))] [(.int (0 : Int32))]))
  refine go (fun _ q => XS.aloadN X0.here hx rfl (hb hby d3_3) rfl rfl q) ?_
  show Go p e below _ (T0.setTop (mkF m 4 #[.val (.ref a1), .val (.int p2), .val (.int (0 : Int32))] [(.ref a1), (.int (0 : Int32))]))
  obtain ⟨T1, X1, e1, st1⟩ := getF X0 hx hZ hown (host := "") (Or.inl (hw _ (List.mem_of_getElem? (i := 17) rfl))) Via.refl e0 F_s (g := (mkF m 4 #[.val (.ref a1), .val (.int p2), .val (.int (0 : Int32))] [(.ref a1), (.int (0 : Int32))])) rfl rfl (hb hby d3_4)
  refine go st1 ?_
  show Go p e below _ (T1.setTop (mkF m 7 #[.val (.ref a1), .val (.int p2), .val (.int (0 : Int32))] [(.int (3 : Int32)), (.int (0 : Int32))]))
  refine go (fun _ q => XS.icmpNo X1.here hx rfl (hb hby d3_7) rfl (tlt (by decide : (0 : Int32) < (3 : Int32))).2.1 q) ?_
  show Go p e below _ (T1.setTop (mkF m 10 #[.val (.ref a1), .val (.int p2), .val (.int (0 : Int32))] []))
  refine go (fun _ q => XS.aloadN X1.here hx rfl (hb hby d3_10) rfl rfl q) ?_
  show Go p e below _ (T1.setTop (mkF m 11 #[.val (.ref a1), .val (.int p2), .val (.int (0 : Int32))] [(.ref a1)]))
  obtain ⟨T2, X2, e2, st2⟩ := getF X1 hx hZ hown (host := "") (Or.inl (hw _ (List.mem_of_getElem? (i := 10) rfl))) Via.refl e1 F_m (g := (mkF m 11 #[.val (.ref a1), .val (.int p2), .val (.int (0 : Int32))] [(.ref a1)])) rfl rfl (hb hby d3_11)
  refine go st2 ?_
  show Go p e below _ (T2.setTop (mkF m 14 #[.val (.ref a1), .val (.int p2), .val (.int (0 : Int32))] [(.ref t)]))
  refine go (fun _ q => XS.iloadN X2.here hx rfl (hb hby d3_14) rfl q) ?_
  show Go p e below _ (T2.setTop (mkF m 15 #[.val (.ref a1), .val (.int p2), .val (.int (0 : Int32))] [(.int (0 : Int32)), (.ref t)]))
  obtain ⟨cl3, Ar3, q3, S3, Ng3, H3, G3⟩ := id V_t
  refine go (X2.iaload hx (j := (0 : Int32)) (v := (.int x0)) (by rw [e2]; exact Ar3.1) (State.isArrayOf_alike hZ.alike Ar3.2.1) Ar3.2.2 (inb_of S3 ⟨by decide, by decide⟩) (H3 _ (by rw [S3]; decide)) (g := (mkF m 15 #[.val (.ref a1), .val (.int p2), .val (.int (0 : Int32))] [(.int (0 : Int32)), (.ref t)])) rfl rfl (hb hby d3_15)) ?_
  show Go p e below _ (T2.setTop (mkF m 16 #[.val (.ref a1), .val (.int p2), .val (.int (0 : Int32))] [(.int x0)]))
  refine go (fun _ q => XS.iloadN X2.here hx rfl (hb hby d3_16) rfl q) ?_
  show Go p e below _ (T2.setTop (mkF m 17 #[.val (.ref a1), .val (.int p2), .val (.int (0 : Int32))] [(.int p2), (.int x0)]))
  by_cases hc4 : x0 = p2
  · refine go (fun _ q => XS.icmpNo X2.here hx rfl (hb hby d3_17) rfl (teq hc4).2 q) ?_
    show Go p e below _ (T2.setTop (mkF m 20 #[.val (.ref a1), .val (.int p2), .val (.int (0 : Int32))] []))
    refine go (fun _ q => XS.aloadN X2.here hx rfl (hb hby d3_20) rfl rfl q) ?_
    show Go p e below _ (T2.setTop (mkF m 21 #[.val (.ref a1), .val (.int p2), .val (.int (0 : Int32))] [(.ref a1)]))
    obtain ⟨T5, X5, e5, st5⟩ := getF X2 hx hZ hown (host := "") (Or.inl (hw _ (List.mem_of_getElem? (i := 10) rfl))) Via.refl e2 F_m (g := (mkF m 21 #[.val (.ref a1), .val (.int p2), .val (.int (0 : Int32))] [(.ref a1)])) rfl rfl (hb hby d3_21)
    refine go st5 ?_
    show Go p e below _ (T5.setTop (mkF m 24 #[.val (.ref a1), .val (.int p2), .val (.int (0 : Int32))] [(.ref t)]))
    refine go (fun _ q => XS.iloadN X5.here hx rfl (hb hby d3_24) rfl q) ?_
    show Go p e below _ (T5.setTop (mkF m 25 #[.val (.ref a1), .val (.int p2), .val (.int (0 : Int32))] [(.int (0 : Int32)), (.ref t)]))
    refine go (fun _ q => XS.aloadN X5.here hx rfl (hb hby d3_25) rfl rfl q) ?_
    show Go p e below _ (T5.setTop (mkF m 26 #[.val (.ref a1), .val (.int p2), .val (.int (0 : Int32))] [(.ref a1), (.int (0 : Int32)), (.ref t)]))
    obtain ⟨T6, X6, e6, st6⟩ := getF X5 hx hZ hown (host := "") (Or.inl (hw _ (List.mem_of_getElem? (i := 10) rfl))) Via.refl e5 F_m (g := (mkF m 26 #[.val (.ref a1), .val (.int p2), .val (.int (0 : Int32))] [(.ref a1), (.int (0 : Int32)), (.ref t)])) rfl rfl (hb hby d3_26)
    refine go st6 ?_
    show Go p e below _ (T6.setTop (mkF m 29 #[.val (.ref a1), .val (.int p2), .val (.int (0 : Int32))] [(.ref t), (.int (0 : Int32)), (.ref t)]))
    refine go (fun _ q => XS.aloadN X6.here hx rfl (hb hby d3_29) rfl rfl q) ?_
    show Go p e below _ (T6.setTop (mkF m 30 #[.val (.ref a1), .val (.int p2), .val (.int (0 : Int32))] [(.ref a1), (.ref t), (.int (0 : Int32)), (.ref t)]))
    refine go (fun _ q => XS.dup X6.here hx rfl (hb hby d3_30) rfl rfl q) ?_
    show Go p e below _ (T6.setTop (mkF m 31 #[.val (.ref a1), .val (.int p2), .val (.int (0 : Int32))] [(.ref a1), (.ref a1), (.ref t), (.int (0 : Int32)), (.ref t)]))
    obtain ⟨T7, X7, e7, st7⟩ := getF X6 hx hZ hown (host := "") (Or.inl (hw _ (List.mem_of_getElem? (i := 17) rfl))) Via.refl e6 F_s (g := (mkF m 31 #[.val (.ref a1), .val (.int p2), .val (.int (0 : Int32))] [(.ref a1), (.ref a1), (.ref t), (.int (0 : Int32)), (.ref t)])) rfl rfl (hb hby d3_31)
    refine go st7 ?_
    show Go p e below _ (T7.setTop (mkF m 34 #[.val (.ref a1), .val (.int p2), .val (.int (0 : Int32))] [(.int (3 : Int32)), (.ref a1), (.ref t), (.int (0 : Int32)), (.ref t)]))
    refine go (fun _ q => XS.iconst X7.here hx rfl (hb hby d3_34) q) ?_
    show Go p e below _ (T7.setTop (mkF m 35 #[.val (.ref a1), .val (.int p2), .val (.int (0 : Int32))] [(.int (1 : Int32)), (.int (3 : Int32)), (.ref a1), (.ref t), (.int (0 : Int32)), (.ref t)]))
    refine go (fun _ q => XS.isub X7.here hx rfl (hb hby d3_35) rfl q) ?_
    show Go p e below _ (T7.setTop (mkF m 36 #[.val (.ref a1), .val (.int p2), .val (.int (0 : Int32))] [(.int (2 : Int32)), (.ref a1), (.ref t), (.int (0 : Int32)), (.ref t)]))
    refine go (fun _ q => XS.dupX1 X7.here hx rfl (hb hby d3_36) rfl rfl rfl q) ?_
    show Go p e below _ (T7.setTop (mkF m 37 #[.val (.ref a1), .val (.int p2), .val (.int (0 : Int32))] [(.int (2 : Int32)), (.ref a1), (.int (2 : Int32)), (.ref t), (.int (0 : Int32)), (.ref t)]))
    obtain ⟨T8, h8, X8, e8, W8, st8⟩ := putF X7 hx hZ hown (host := "") (Or.inl (hw _ (List.mem_of_getElem? (i := 17) rfl))) Via.refl e7 F_s E_a1 (Or.inl (hw _ (List.mem_of_getElem? (i := 18) rfl))) (hw _ (List.mem_of_getElem? (i := 1) rfl)) (ty := .int) (by decide) rfl rfl (g := (mkF m 37 #[.val (.ref a1), .val (.int p2), .val (.int (0 : Int32))] [(.int (2 : Int32)), (.ref a1), (.int (2 : Int32)), (.ref t), (.int (0 : Int32)), (.ref t)])) rfl rfl (hb hby d3_37)
    refine go st8 ?_
    have F_s_8 : Fld Z h8 a1 "quorate/NodeSet" "size" "I" (.int (2 : Int32)) := F_s.same W8
    have E_a1_9 : Exa Z h8 a1 "quorate/NodeSet" := E_a1.wr W8
    have F_m_10 : Fld Z h8 a1 "quorate/NodeSet" "members" "[I" (.ref t) := F_m.other W8 (Or.inr (slot_ne (Or.inl (hw _ (List.mem_of_getElem? (i := 11) rfl))) (Or.inl (hw _ (List.mem_of_getElem? (i := 18) rfl))) (by decide) (t := (.array .int)) (t' := .int) (by decide) (by decide)))
    have V_t_11 : Arv Z h8 t k .int (4 : Int32) [(.int x0), (.int x1), (.int x2), y3] (.int (0 : Int32)) := V_t.other W8 (Ne.symm ne_at)
    have N8 := Fr.snoc X8 N0 g_a1
    have Z8 : n0 ≤ h8.size := Nat.le_trans Z0 (Nat.le_of_eq W8.size.symm)
    show Go p e below _ (T8.setTop (mkF m 40 #[.val (.ref a1), .val (.int p2), .val (.int (0 : Int32))] [(.int (2 : Int32)), (.ref t), (.int (0 : Int32)), (.ref t)]))
    obtain ⟨cl12, Ar12, q12, S12, Ng12, H12, G12⟩ := id V_t_11
    refine go (X8.iaload hx (j := (2 : Int32)) (v := (.int x2)) (by rw [e8]; exact Ar12.1) (State.isArrayOf_alike hZ.alike Ar12.2.1) Ar12.2.2 (inb_of S12 ⟨by decide, by decide⟩) (H12 _ (by rw [S12]; decide)) (g := (mkF m 40 #[.val (.ref a1), .val (.int p2), .val (.int (0 : Int32))] [(.int (2 : Int32)), (.ref t), (.int (0 : Int32)), (.ref t)])) rfl rfl (hb hby d3_40)) ?_
    show Go p e below _ (T8.setTop (mkF m 41 #[.val (.ref a1), .val (.int p2), .val (.int (0 : Int32))] [(.int x2), (.int (0 : Int32)), (.ref t)]))
    obtain ⟨cl13, Ar13, q13, S13, Ng13, H13, G13⟩ := id V_t_11
    obtain ⟨T14, h14, X14, e14, W14, st14⟩ := stI X8 hx hZ e8 Ar13 (j := (0 : Int32)) (inb_of S13 ⟨by decide, by decide⟩) (g := (mkF m 41 #[.val (.ref a1), .val (.int p2), .val (.int (0 : Int32))] [(.int x2), (.int (0 : Int32)), (.ref t)])) rfl rfl (hb hby d3_41)
    refine go st14 ?_
    have V_t_14 : Arv Z h14 t k .int (4 : Int32) [(.int x2), (.int x1), (.int x2), y3] (.int (0 : Int32)) := Arv.set Ar13 q13 S13 Ng13 H13 G13 rfl W14 0 rfl (Nat.le_of_ble_eq_true rfl)
    have E_a1_15 : Exa Z h14 a1 "quorate/NodeSet" := E_a1_9.wr W14
    have F_m_16 : Fld Z h14 a1 "quorate/NodeSet" "members" "[I" (.ref t) := F_m_10.other W14 (Or.inl ne_at)
    have F_s_17 : Fld Z h14 a1 "quorate/NodeSet" "size" "I" (.int (2 : Int32)) := F_s_8.other W14 (Or.inl ne_at)
    have N14 := Fr.snoc X14 N8 g_t
    have Z14 : n0 ≤ h14.size := Nat.le_trans Z8 (Nat.le_of_eq W14.size.symm)
    show Go p e below _ (T14.setTop (mkF m 42 #[.val (.ref a1), .val (.int p2), .val (.int (0 : Int32))] []))
    exact own_retV X14 hx hlk hret (hb hby d3_42) (by decide) (by decide) (by rw [e14]; exact ⟨rfl, N14, Z14, (by simp only [own_rm, if_pos hc4]; exact ⟨t, k, [(.int x2), y3], g_a1, g_t, ne_at, E_a1_15, F_m_16, F_s_17, V_t_14, rfl⟩)⟩)
  · refine go (fun _ q => XS.icmpYes X2.here hx rfl (pc0 := 17) (pc' := 43) rfl (hb hby d3_17) rfl (feq hc4).2 (by decide) (by decide) q) ?_
    show Go p e below _ (T2.setTop (mkF m 43 #[.val (.ref a1), .val (.int p2), .val (.int (0 : Int32))] []))
    refine go (fun _ q => XS.iinc X2.here hx rfl (hb hby d3_43) rfl (l' := #[.val (.ref a1), .val (.int p2), .val (.int (1 : Int32))]) rfl q) ?_
    show Go p e below _ (T2.setTop (mkF m 46 #[.val (.ref a1), .val (.int p2), .val (.int (1 : Int32))] []))
    refine go (fun _ q => XS.goto X2.here hx rfl (pc0 := 46) (pc' := 2) rfl (hb hby d3_46) (by decide) (by decide) q) ?_
    show Go p e below _ (T2.setTop (mkF m 2 #[.val (.ref a1), .val (.int p2), .val (.int (1 : Int32))] []))
    refine go (fun _ q => XS.iloadN X2.here hx rfl (hb hby d3_2) rfl q) ?_
    show Go p e below _ (T2.setTop (mkF m 3 #[.val (.ref a1), .val (.int p2), .val (.int (1 : Int32))] [(.int (1 : Int32))]))
    refine go (fun _ q => XS.aloadN X2.here hx rfl (hb hby d3_3) rfl rfl q) ?_
    show Go p e below _ (T2.setTop (mkF m 4 #[.val (.ref a1), .val (.int p2), .val (.int (1 : Int32))] [(.ref a1), (.int (1 : Int32))]))
    obtain ⟨T18, X18, e18, st18⟩ := getF X2 hx hZ hown (host := "") (Or.inl (hw _ (List.mem_of_getElem? (i := 17) rfl))) Via.refl e2 F_s (g := (mkF m 4 #[.val (.ref a1), .val (.int p2), .val (.int (1 : Int32))] [(.ref a1), (.int (1 : Int32))])) rfl rfl (hb hby d3_4)
    refine go st18 ?_
    show Go p e below _ (T18.setTop (mkF m 7 #[.val (.ref a1), .val (.int p2), .val (.int (1 : Int32))] [(.int (3 : Int32)), (.int (1 : Int32))]))
    refine go (fun _ q => XS.icmpNo X18.here hx rfl (hb hby d3_7) rfl (tlt (by decide : (1 : Int32) < (3 : Int32))).2.1 q) ?_
    show Go p e below _ (T18.setTop (mkF m 10 #[.val (.ref a1), .val (.int p2), .val (.int (1 : Int32))] []))
    refine go (fun _ q => XS.aloadN X18.here hx rfl (hb hby d3_10) rfl rfl q) ?_
    show Go p e below _ (T18.setTop (mkF m 11 #[.val (.ref a1), .val (.int p2), .val (.int (1 : Int32))] [(.ref a1)]))
    obtain ⟨T19, X19, e19, st19⟩ := getF X18 hx hZ hown (host := "") (Or.inl (hw _ (List.mem_of_getElem? (i := 10) rfl))) Via.refl e18 F_m (g := (mkF m 11 #[.val (.ref a1), .val (.int p2), .val (.int (1 : Int32))] [(.ref a1)])) rfl rfl (hb hby d3_11)
    refine go st19 ?_
    show Go p e below _ (T19.setTop (mkF m 14 #[.val (.ref a1), .val (.int p2), .val (.int (1 : Int32))] [(.ref t)]))
    refine go (fun _ q => XS.iloadN X19.here hx rfl (hb hby d3_14) rfl q) ?_
    show Go p e below _ (T19.setTop (mkF m 15 #[.val (.ref a1), .val (.int p2), .val (.int (1 : Int32))] [(.int (1 : Int32)), (.ref t)]))
    obtain ⟨cl20, Ar20, q20, S20, Ng20, H20, G20⟩ := id V_t
    refine go (X19.iaload hx (j := (1 : Int32)) (v := (.int x1)) (by rw [e19]; exact Ar20.1) (State.isArrayOf_alike hZ.alike Ar20.2.1) Ar20.2.2 (inb_of S20 ⟨by decide, by decide⟩) (H20 _ (by rw [S20]; decide)) (g := (mkF m 15 #[.val (.ref a1), .val (.int p2), .val (.int (1 : Int32))] [(.int (1 : Int32)), (.ref t)])) rfl rfl (hb hby d3_15)) ?_
    show Go p e below _ (T19.setTop (mkF m 16 #[.val (.ref a1), .val (.int p2), .val (.int (1 : Int32))] [(.int x1)]))
    refine go (fun _ q => XS.iloadN X19.here hx rfl (hb hby d3_16) rfl q) ?_
    show Go p e below _ (T19.setTop (mkF m 17 #[.val (.ref a1), .val (.int p2), .val (.int (1 : Int32))] [(.int p2), (.int x1)]))
    by_cases hc21 : x1 = p2
    · refine go (fun _ q => XS.icmpNo X19.here hx rfl (hb hby d3_17) rfl (teq hc21).2 q) ?_
      show Go p e below _ (T19.setTop (mkF m 20 #[.val (.ref a1), .val (.int p2), .val (.int (1 : Int32))] []))
      refine go (fun _ q => XS.aloadN X19.here hx rfl (hb hby d3_20) rfl rfl q) ?_
      show Go p e below _ (T19.setTop (mkF m 21 #[.val (.ref a1), .val (.int p2), .val (.int (1 : Int32))] [(.ref a1)]))
      obtain ⟨T22, X22, e22, st22⟩ := getF X19 hx hZ hown (host := "") (Or.inl (hw _ (List.mem_of_getElem? (i := 10) rfl))) Via.refl e19 F_m (g := (mkF m 21 #[.val (.ref a1), .val (.int p2), .val (.int (1 : Int32))] [(.ref a1)])) rfl rfl (hb hby d3_21)
      refine go st22 ?_
      show Go p e below _ (T22.setTop (mkF m 24 #[.val (.ref a1), .val (.int p2), .val (.int (1 : Int32))] [(.ref t)]))
      refine go (fun _ q => XS.iloadN X22.here hx rfl (hb hby d3_24) rfl q) ?_
      show Go p e below _ (T22.setTop (mkF m 25 #[.val (.ref a1), .val (.int p2), .val (.int (1 : Int32))] [(.int (1 : Int32)), (.ref t)]))
      refine go (fun _ q => XS.aloadN X22.here hx rfl (hb hby d3_25) rfl rfl q) ?_
      show Go p e below _ (T22.setTop (mkF m 26 #[.val (.ref a1), .val (.int p2), .val (.int (1 : Int32))] [(.ref a1), (.int (1 : Int32)), (.ref t)]))
      obtain ⟨T23, X23, e23, st23⟩ := getF X22 hx hZ hown (host := "") (Or.inl (hw _ (List.mem_of_getElem? (i := 10) rfl))) Via.refl e22 F_m (g := (mkF m 26 #[.val (.ref a1), .val (.int p2), .val (.int (1 : Int32))] [(.ref a1), (.int (1 : Int32)), (.ref t)])) rfl rfl (hb hby d3_26)
      refine go st23 ?_
      show Go p e below _ (T23.setTop (mkF m 29 #[.val (.ref a1), .val (.int p2), .val (.int (1 : Int32))] [(.ref t), (.int (1 : Int32)), (.ref t)]))
      refine go (fun _ q => XS.aloadN X23.here hx rfl (hb hby d3_29) rfl rfl q) ?_
      show Go p e below _ (T23.setTop (mkF m 30 #[.val (.ref a1), .val (.int p2), .val (.int (1 : Int32))] [(.ref a1), (.ref t), (.int (1 : Int32)), (.ref t)]))
      refine go (fun _ q => XS.dup X23.here hx rfl (hb hby d3_30) rfl rfl q) ?_
      show Go p e below _ (T23.setTop (mkF m 31 #[.val (.ref a1), .val (.int p2), .val (.int (1 : Int32))] [(.ref a1), (.ref a1), (.ref t), (.int (1 : Int32)), (.ref t)]))
      obtain ⟨T24, X24, e24, st24⟩ := getF X23 hx hZ hown (host := "") (Or.inl (hw _ (List.mem_of_getElem? (i := 17) rfl))) Via.refl e23 F_s (g := (mkF m 31 #[.val (.ref a1), .val (.int p2), .val (.int (1 : Int32))] [(.ref a1), (.ref a1), (.ref t), (.int (1 : Int32)), (.ref t)])) rfl rfl (hb hby d3_31)
      refine go st24 ?_
      show Go p e below _ (T24.setTop (mkF m 34 #[.val (.ref a1), .val (.int p2), .val (.int (1 : Int32))] [(.int (3 : Int32)), (.ref a1), (.ref t), (.int (1 : Int32)), (.ref t)]))
      refine go (fun _ q => XS.iconst X24.here hx rfl (hb hby d3_34) q) ?_
      show Go p e below _ (T24.setTop (mkF m 35 #[.val (.ref a1), .val (.int p2), .val (.int (1 : Int32))] [(.int (1 : Int32)), (.int (3 : Int32)), (.ref a1), (.ref t), (.int (1 : Int32)), (.ref t)]))
      refine go (fun _ q => XS.isub X24.here hx rfl (hb hby d3_35) rfl q) ?_
      show Go p e below _ (T24.setTop (mkF m 36 #[.val (.ref a1), .val (.int p2), .val (.int (1 : Int32))] [(.int (2 : Int32)), (.ref a1), (.ref t), (.int (1 : Int32)), (.ref t)]))
      refine go (fun _ q => XS.dupX1 X24.here hx rfl (hb hby d3_36) rfl rfl rfl q) ?_
      show Go p e below _ (T24.setTop (mkF m 37 #[.val (.ref a1), .val (.int p2), .val (.int (1 : Int32))] [(.int (2 : Int32)), (.ref a1), (.int (2 : Int32)), (.ref t), (.int (1 : Int32)), (.ref t)]))
      obtain ⟨T25, h25, X25, e25, W25, st25⟩ := putF X24 hx hZ hown (host := "") (Or.inl (hw _ (List.mem_of_getElem? (i := 17) rfl))) Via.refl e24 F_s E_a1 (Or.inl (hw _ (List.mem_of_getElem? (i := 18) rfl))) (hw _ (List.mem_of_getElem? (i := 1) rfl)) (ty := .int) (by decide) rfl rfl (g := (mkF m 37 #[.val (.ref a1), .val (.int p2), .val (.int (1 : Int32))] [(.int (2 : Int32)), (.ref a1), (.int (2 : Int32)), (.ref t), (.int (1 : Int32)), (.ref t)])) rfl rfl (hb hby d3_37)
      refine go st25 ?_
      have F_s_25 : Fld Z h25 a1 "quorate/NodeSet" "size" "I" (.int (2 : Int32)) := F_s.same W25
      have E_a1_26 : Exa Z h25 a1 "quorate/NodeSet" := E_a1.wr W25
      have F_m_27 : Fld Z h25 a1 "quorate/NodeSet" "members" "[I" (.ref t) := F_m.other W25 (Or.inr (slot_ne (Or.inl (hw _ (List.mem_of_getElem? (i := 11) rfl))) (Or.inl (hw _ (List.mem_of_getElem? (i := 18) rfl))) (by decide) (t := (.array .int)) (t' := .int) (by decide) (by decide)))
      have V_t_28 : Arv Z h25 t k .int (4 : Int32) [(.int x0), (.int x1), (.int x2), y3] (.int (0 : Int32)) := V_t.other W25 (Ne.symm ne_at)
      have N25 := Fr.snoc X25 N0 g_a1
      have Z25 : n0 ≤ h25.size := Nat.le_trans Z0 (Nat.le_of_eq W25.size.symm)
      show Go p e below _ (T25.setTop (mkF m 40 #[.val (.ref a1), .val (.int p2), .val (.int (1 : Int32))] [(.int (2 : Int32)), (.ref t), (.int (1 : Int32)), (.ref t)]))
      obtain ⟨cl29, Ar29, q29, S29, Ng29, H29, G29⟩ := id V_t_28
      refine go (X25.iaload hx (j := (2 : Int32)) (v := (.int x2)) (by rw [e25]; exact Ar29.1) (State.isArrayOf_alike hZ.alike Ar29.2.1) Ar29.2.2 (inb_of S29 ⟨by decide, by decide⟩) (H29 _ (by rw [S29]; decide)) (g := (mkF m 40 #[.val (.ref a1), .val (.int p2), .val (.int (1 : Int32))] [(.int (2 : Int32)), (.ref t), (.int (1 : Int32)), (.ref t)])) rfl rfl (hb hby d3_40)) ?_
      show Go p e below _ (T25.setTop (mkF m 41 #[.val (.ref a1), .val (.int p2), .val (.int (1 : Int32))] [(.int x2), (.int (1 : Int32)), (.ref t)]))
      obtain ⟨cl30, Ar30, q30, S30, Ng30, H30, G30⟩ := id V_t_28
      obtain ⟨T31, h31, X31, e31, W31, st31⟩ := stI X25 hx hZ e25 Ar30 (j := (1 : Int32)) (inb_of S30 ⟨by decide, by decide⟩) (g := (mkF m 41 #[.val (.ref a1), .val (.int p2), .val (.int (1 : Int32))] [(.int x2), (.int (1 : Int32)), (.ref t)])) rfl rfl (hb hby d3_41)
      refine go st31 ?_
      have V_t_31 : Arv Z h31 t k .int (4 : Int32) [(.int x0), (.int x2), (.int x2), y3] (.int (0 : Int32)) := Arv.set Ar30 q30 S30 Ng30 H30 G30 rfl W31 1 rfl (Nat.le_of_ble_eq_true rfl)
      have E_a1_32 : Exa Z h31 a1 "quorate/NodeSet" := E_a1_26.wr W31
      have F_m_33 : Fld Z h31 a1 "quorate/NodeSet" "members" "[I" (.ref t) := F_m_27.other W31 (Or.inl ne_at)
      have F_s_34 : Fld Z h31 a1 "quorate/NodeSet" "size" "I" (.int (2 : Int32)) := F_s_25.other W31 (Or.inl ne_at)
      have N31 := Fr.snoc X31 N25 g_t
      have Z31 : n0 ≤ h31.size := Nat.le_trans Z25 (Nat.le_of_eq W31.size.symm)
      show Go p e below _ (T31.setTop (mkF m 42 #[.val (.ref a1), .val (.int p2), .val (.int (1 : Int32))] []))
      exact own_retV X31 hx hlk hret (hb hby d3_42) (by decide) (by decide) (by rw [e31]; exact ⟨rfl, N31, Z31, (by simp only [own_rm, if_neg hc4, if_pos hc21]; exact ⟨t, k, [(.int x2), y3], g_a1, g_t, ne_at, E_a1_32, F_m_33, F_s_34, V_t_31, rfl⟩)⟩)
    · refine go (fun _ q => XS.icmpYes X19.here hx rfl (pc0 := 17) (pc' := 43) rfl (hb hby d3_17) rfl (feq hc21).2 (by decide) (by decide) q) ?_
      show Go p e below _ (T19.setTop (mkF m 43 #[.val (.ref a1), .val (.int p2), .val (.int (1 : Int32))] []))
      refine go (fun _ q => XS.iinc X19.here hx rfl (hb hby d3_43) rfl (l' := #[.val (.ref a1), .val (.int p2), .val (.int (2 : Int32))]) rfl q) ?_
      show Go p e below _ (T19.setTop (mkF m 46 #[.val (.ref a1), .val (.int p2), .val (.int (2 : Int32))] []))
      refine go (fun _ q => XS.goto X19.here hx rfl (pc0 := 46) (pc' := 2) rfl (hb hby d3_46) (by decide) (by decide) q) ?_
      show Go p e below _ (T19.setTop (mkF m 2 #[.val (.ref a1), .val (.int p2), .val (.int (2 : Int32))] []))
      refine go (fun _ q => XS.iloadN X19.here hx rfl (hb hby d3_2) rfl q) ?_
      show Go p e below _ (T19.setTop (mkF m 3 #[.val (.ref a1), .val (.int p2), .val (.int (2 : Int32))] [(.int (2 : Int32))]))
      refine go (fun _ q => XS.aloadN X19.here hx rfl (hb hby d3_3) rfl rfl q) ?_
      show Go p e below _ (T19.setTop (mkF m 4 #[.val (.ref a1), .val (.int p2), .val (.int (2 : Int32))] [(.ref a1), (.int (2 : Int32))]))
      obtain ⟨T35, X35, e35, st35⟩ := getF X19 hx hZ hown (host := "") (Or.inl (hw _ (List.mem_of_getElem? (i := 17) rfl))) Via.refl e19 F_s (g := (mkF m 4 #[.val (.ref a1), .val (.int p2), .val (.int (2 : Int32))] [(.ref a1), (.int (2 : Int32))])) rfl rfl (hb hby d3_4)
      refine go st35 ?_
      show Go p e below _ (T35.setTop (mkF m 7 #[.val (.ref a1), .val (.int p2), .val (.int (2 : Int32))] [(.int (3 : Int32)), (.int (2 : Int32))]))
      refine go (fun _ q => XS.icmpNo X35.here hx rfl (hb hby d3_7) rfl (tlt (by decide : (2 : Int32) < (3 : Int32))).2.1 q) ?_
      show Go p e below _ (T35.setTop (mkF m 10 #[.val (.ref a1), .val (.int p2), .val (.int (2 : Int32))] []))
      refine go (fun _ q => XS.aloadN X35.here hx rfl (hb hby d3_10) rfl rfl q) ?_
      show Go p e below _ (T35.setTop (mkF m 11 #[.val (.ref a1), .val (.int p2), .val (.int (2 : Int32))] [(.ref a1)]))
      obtain ⟨T36, X36, e36, st36⟩ := getF X35 hx hZ hown (host := "") (Or.inl (hw _ (List.mem_of_getElem? (i := 10) rfl))) Via.refl e35 F_m (g := (mkF m 11 #[.val (.ref a1), .val (.int p2), .val (.int (2 : Int32))] [(.ref a1)])) rfl rfl (hb hby d3_11)
      refine go st36 ?_
      show Go p e below _ (T36.setTop (mkF m 14 #[.val (.ref a1), .val (.int p2), .val (.int (2 : Int32))] [(.ref t)]))
      refine go (fun _ q => XS.iloadN X36.here hx rfl (hb hby d3_14) rfl q) ?_
      show Go p e below _ (T36.setTop (mkF m 15 #[.val (.ref a1), .val (.int p2), .val (.int (2 : Int32))] [(.int (2 : Int32)), (.ref t)]))
      obtain ⟨cl37, Ar37, q37, S37, Ng37, H37, G37⟩ := id V_t
      refine go (X36.iaload hx (j := (2 : Int32)) (v := (.int x2)) (by rw [e36]; exact Ar37.1) (State.isArrayOf_alike hZ.alike Ar37.2.1) Ar37.2.2 (inb_of S37 ⟨by decide, by decide⟩) (H37 _ (by rw [S37]; decide)) (g := (mkF m 15 #[.val (.ref a1), .val (.int p2), .val (.int (2 : Int32))] [(.int (2 : Int32)), (.ref t)])) rfl rfl (hb hby d3_15)) ?_
      show Go p e below _ (T36.setTop (mkF m 16 #[.val (.ref a1), .val (.int p2), .val (.int (2 : Int32))] [(.int x2)]))
      refine go (fun _ q => XS.iloadN X36.here hx rfl (hb hby d3_16) rfl q) ?_
      show Go p e below _ (T36.setTop (mkF m 17 #[.val (.ref a1), .val (.int p2), .val (.int (2 : Int32))] [(.int p2), (.int x2)]))
      by_cases hc38 : x2 = p2
      · refine go (fun _ q => XS.icmpNo X36.here hx rfl (hb hby d3_17) rfl (teq hc38).2 q) ?_
        show Go p e below _ (T36.setTop (mkF m 20 #[.val (.ref a1), .val (.int p2), .val (.int (2 : Int32))] []))
        refine go (fun _ q => XS.aloadN X36.here hx rfl (hb hby d3_20) rfl rfl q) ?_
        show Go p e below _ (T36.setTop (mkF m 21 #[.val (.ref a1), .val (.int p2), .val (.int (2 : Int32))] [(.ref a1)]))
        obtain ⟨T39, X39, e39, st39⟩ := getF X36 hx hZ hown (host := "") (Or.inl (hw _ (List.mem_of_getElem? (i := 10) rfl))) Via.refl e36 F_m (g := (mkF m 21 #[.val (.ref a1), .val (.int p2), .val (.int (2 : Int32))] [(.ref a1)])) rfl rfl (hb hby d3_21)
        refine go st39 ?_
        show Go p e below _ (T39.setTop (mkF m 24 #[.val (.ref a1), .val (.int p2), .val (.int (2 : Int32))] [(.ref t)]))
        refine go (fun _ q => XS.iloadN X39.here hx rfl (hb hby d3_24) rfl q) ?_
        show Go p e below _ (T39.setTop (mkF m 25 #[.val (.ref a1), .val (.int p2), .val (.int (2 : Int32))] [(.int (2 : Int32)), (.ref t)]))
        refine go (fun _ q => XS.aloadN X39.here hx rfl (hb hby d3_25) rfl rfl q) ?_
        show Go p e below _ (T39.setTop (mkF m 26 #[.val (.ref a1), .val (.int p2), .val (.int (2 : Int32))] [(.ref a1), (.int (2 : Int32)), (.ref t)]))
        obtain ⟨T40, X40, e40, st40⟩ := getF X39 hx hZ hown (host := "") (Or.inl (hw _ (List.mem_of_getElem? (i := 10) rfl))) Via.refl e39 F_m (g := (mkF m 26 #[.val (.ref a1), .val (.int p2), .val (.int (2 : Int32))] [(.ref a1), (.int (2 : Int32)), (.ref t)])) rfl rfl (hb hby d3_26)
        refine go st40 ?_
        show Go p e below _ (T40.setTop (mkF m 29 #[.val (.ref a1), .val (.int p2), .val (.int (2 : Int32))] [(.ref t), (.int (2 : Int32)), (.ref t)]))
        refine go (fun _ q => XS.aloadN X40.here hx rfl (hb hby d3_29) rfl rfl q) ?_
        show Go p e below _ (T40.setTop (mkF m 30 #[.val (.ref a1), .val (.int p2), .val (.int (2 : Int32))] [(.ref a1), (.ref t), (.int (2 : Int32)), (.ref t)]))
        refine go (fun _ q => XS.dup X40.here hx rfl (hb hby d3_30) rfl rfl q) ?_
        show Go p e below _ (T40.setTop (mkF m 31 #[.val (.ref a1), .val (.int p2), .val (.int (2 : Int32))] [(.ref a1), (.ref a1), (.ref t), (.int (2 : Int32)), (.ref t)]))
        obtain ⟨T41, X41, e41, st41⟩ := getF X40 hx hZ hown (host := "") (Or.inl (hw _ (List.mem_of_getElem? (i := 17) rfl))) Via.refl e40 F_s (g := (mkF m 31 #[.val (.ref a1), .val (.int p2), .val (.int (2 : Int32))] [(.ref a1), (.ref a1), (.ref t), (.int (2 : Int32)), (.ref t)])) rfl rfl (hb hby d3_31)
        refine go st41 ?_
        show Go p e below _ (T41.setTop (mkF m 34 #[.val (.ref a1), .val (.int p2), .val (.int (2 : Int32))] [(.int (3 : Int32)), (.ref a1), (.ref t), (.int (2 : Int32)), (.ref t)]))
        refine go (fun _ q => XS.iconst X41.here hx rfl (hb hby d3_34) q) ?_
        show Go p e below _ (T41.setTop (mkF m 35 #[.val (.ref a1), .val (.int p2), .val (.int (2 : Int32))] [(.int (1 : Int32)), (.int (3 : Int32)), (.ref a1), (.ref t), (.int (2 : Int32)), (.ref t)]))
        refine go (fun _ q => XS.isub X41.here hx rfl (hb hby d3_35) rfl q) ?_
        show Go p e below _ (T41.setTop (mkF m 36 #[.val (.ref a1), .val (.int p2), .val (.int (2 : Int32))] [(.int (2 : Int32)), (.ref a1), (.ref t), (.int (2 : Int32)), (.ref t)]))
        refine go (fun _ q => XS.dupX1 X41.here hx rfl (hb hby d3_36) rfl rfl rfl q) ?_
        show Go p e below _ (T41.setTop (mkF m 37 #[.val (.ref a1), .val (.int p2), .val (.int (2 : Int32))] [(.int (2 : Int32)), (.ref a1), (.int (2 : Int32)), (.ref t), (.int (2 : Int32)), (.ref t)]))
        obtain ⟨T42, h42, X42, e42, W42, st42⟩ := putF X41 hx hZ hown (host := "") (Or.inl (hw _ (List.mem_of_getElem? (i := 17) rfl))) Via.refl e41 F_s E_a1 (Or.inl (hw _ (List.mem_of_getElem? (i := 18) rfl))) (hw _ (List.mem_of_getElem? (i := 1) rfl)) (ty := .int) (by decide) rfl rfl (g := (mkF m 37 #[.val (.ref a1), .val (.int p2), .val (.int (2 : Int32))] [(.int (2 : Int32)), (.ref a1), (.int (2 : Int32)), (.ref t), (.int (2 : Int32)), (.ref t)])) rfl rfl (hb hby d3_37)
        refine go st42 ?_
        have F_s_42 : Fld Z h42 a1 "quorate/NodeSet" "size" "I" (.int (2 : Int32)) := F_s.same W42
        have E_a1_43 : Exa Z h42 a1 "quorate/NodeSet" := E_a1.wr W42
        have F_m_44 : Fld Z h42 a1 "quorate/NodeSet" "members" "[I" (.ref t) := F_m.other W42 (Or.inr (slot_ne (Or.inl (hw _ (List.mem_of_getElem? (i := 11) rfl))) (Or.inl (hw _ (List.mem_of_getElem? (i := 18) rfl))) (by decide) (t := (.array .int)) (t' := .int) (by decide) (by decide)))
        have V_t_45 : Arv Z h42 t k .int (4 : Int32) [(.int x0), (.int x1), (.int x2), y3] (.int (0 : Int32)) := V_t.other W42 (Ne.symm ne_at)
        have N42 := Fr.snoc X42 N0 g_a1
        have Z42 : n0 ≤ h42.size := Nat.le_trans Z0 (Nat.le_of_eq W42.size.symm)
        show Go p e below _ (T42.setTop (mkF m 40 #[.val (.ref a1), .val (.int p2), .val (.int (2 : Int32))] [(.int (2 : Int32)), (.ref t), (.int (2 : Int32)), (.ref t)]))
        obtain ⟨cl46, Ar46, q46, S46, Ng46, H46, G46⟩ := id V_t_45
        refine go (X42.iaload hx (j := (2 : Int32)) (v := (.int x2)) (by rw [e42]; exact Ar46.1) (State.isArrayOf_alike hZ.alike Ar46.2.1) Ar46.2.2 (inb_of S46 ⟨by decide, by decide⟩) (H46 _ (by rw [S46]; decide)) (g := (mkF m 40 #[.val (.ref a1), .val (.int p2), .val (.int (2 : Int32))] [(.int (2 : Int32)), (.ref t), (.int (2 : Int32)), (.ref t)])) rfl rfl (hb hby d3_40)) ?_
        show Go p e below _ (T42.setTop (mkF m 41 #[.val (.ref a1), .val (.int p2), .val (.int (2 : Int32))] [(.int x2), (.int (2 : Int32)), (.ref t)]))
        obtain ⟨cl47, Ar47, q47, S47, Ng47, H47, G47⟩ := id V_t_45
        obtain ⟨T48, h48, X48, e48, W48, st48⟩ := stI X42 hx hZ e42 Ar47 (j := (2 : Int32)) (inb_of S47 ⟨by decide, by decide⟩) (g := (mkF m 41 #[.val (.ref a1), .val (.int p2), .val (.int (2 : Int32))] [(.int x2), (.int (2 : Int32)), (.ref t)])) rfl rfl (hb hby d3_41)
        refine go st48 ?_
        have V_t_48 : Arv Z h48 t k .int (4 : Int32) [(.int x0), (.int x1), (.int x2), y3] (.int (0 : Int32)) := Arv.set Ar47 q47 S47 Ng47 H47 G47 rfl W48 2 rfl (Nat.le_of_ble_eq_true rfl)
        have E_a1_49 : Exa Z h48 a1 "quorate/NodeSet" := E_a1_43.wr W48
        have F_m_50 : Fld Z h48 a1 "quorate/NodeSet" "members" "[I" (.ref t) := F_m_44.other W48 (Or.inl ne_at)
        have F_s_51 : Fld Z h48 a1 "quorate/NodeSet" "size" "I" (.int (2 : Int32)) := F_s_42.other W48 (Or.inl ne_at)
        have N48 := Fr.snoc X48 N42 g_t
        have Z48 : n0 ≤ h48.size := Nat.le_trans Z42 (Nat.le_of_eq W48.size.symm)
        show Go p e below _ (T48.setTop (mkF m 42 #[.val (.ref a1), .val (.int p2), .val (.int (2 : Int32))] []))
        exact own_retV X48 hx hlk hret (hb hby d3_42) (by decide) (by decide) (by rw [e48]; exact ⟨rfl, N48, Z48, (by simp only [own_rm, if_neg hc4, if_neg hc21, if_pos hc38]; exact ⟨t, k, [(.int x2), y3], g_a1, g_t, ne_at, E_a1_49, F_m_50, F_s_51, V_t_48, rfl⟩)⟩)
      · refine go (fun _ q => XS.icmpYes X36.here hx rfl (pc0 := 17) (pc' := 43) rfl (hb hby d3_17) rfl (feq hc38).2 (by decide) (by decide) q) ?_
        show Go p e below _ (T36.setTop (mkF m 43 #[.val (.ref a1), .val (.int p2), .val (.int (2 : Int32))] []))
        refine go (fun _ q => XS.iinc X36.here hx rfl (hb hby d3_43) rfl (l' := #[.val (.ref a1), .val (.int p2), .val (.int (3 : Int32))]) rfl q) ?_
        show Go p e below _ (T36.setTop (mkF m 46 #[.val (.ref a1), .val (.int p2), .val (.int (3 : Int32))] []))
        refine go (fun _ q => XS.goto X36.here hx rfl (pc0 := 46) (pc' := 2) rfl (hb hby d3_46) (by decide) (by decide) q) ?_
        show Go p e below _ (T36.setTop (mkF m 2 #[.val (.ref a1), .val (.int p2), .val (.int (3 : Int32))] []))
        refine go (fun _ q => XS.iloadN X36.here hx rfl (hb hby d3_2) rfl q) ?_
        show Go p e below _ (T36.setTop (mkF m 3 #[.val (.ref a1), .val (.int p2), .val (.int (3 : Int32))] [(.int (3 : Int32))]))
        refine go (fun _ q => XS.aloadN X36.here hx rfl (hb hby d3_3) rfl rfl q) ?_
        show Go p e below _ (T36.setTop (mkF m 4 #[.val (.ref a1), .val (.int p2), .val (.int (3 : Int32))] [(.ref a1), (.int (3 : Int32))]))
        obtain ⟨T52, X52, e52, st52⟩ := getF X36 hx hZ hown (host := "") (Or.inl (hw _ (List.mem_of_getElem? (i := 17) rfl))) Via.refl e36 F_s (g := (mkF m 4 #[.val (.ref a1), .val (.int p2), .val (.int (3 : Int32))] [(.ref a1), (.int (3 : Int32))])) rfl rfl (hb hby d3_4)
        refine go st52 ?_
        show Go p e below _ (T52.setTop (mkF m 7 #[.val (.ref a1), .val (.int p2), .val (.int (3 : Int32))] [(.int (3 : Int32)), (.int (3 : Int32))]))
        refine go (fun _ q => XS.icmpYes X52.here hx rfl (pc0 := 7) (pc' := 49) rfl (hb hby d3_7) rfl (flt (by decide : ¬ ((3 : Int32) < (3 : Int32)))).2.1 (by decide) (by decide) q) ?_
        show Go p e below _ (T52.setTop (mkF m 49 #[.val (.ref a1), .val (.int p2), .val (.int (3 : Int32))] []))
        exact own_retV X52 hx hlk hret (hb hby d3_49) (by decide) (by decide) (by rw [e52]; exact ⟨rfl, N0, Z0, (by simp only [own_rm, if_neg hc4, if_neg hc21, if_neg hc38]; exact ⟨t, k, [y3], g_a1, g_t, ne_at, E_a1, F_m, F_s, V_t, rfl⟩)⟩)
set_option maxHeartbeats 4000000 in
theorem rmR (l : Launch) (Z : State) (a0 : Array Value) (hw : ∀ d ∈ tables_1, d.before a0 Z = true) (ws : List Jvm.Cond) (a1 : Addr) (p2 : Int32) (h0 : Heap) (n0 : Nat) (xs : List Int32) (hl : xs.length ≤ 3) (Z0 : n0 ≤ h0.size) (F : NSet Z h0 n0 a1 xs) :
    MetFree l (⟨"quorate/NodeSet", "remove", "(I)V"⟩ : MethodName) (head1 (Jvm.Cond.code (⟨"quorate/NodeSet", "remove", "(I)V"⟩ : MethodName) prog_102_method_3_code 3 none :: ws) ({ frames := 0, cells := 0, slots := 0, locals := 0 } : Room)) (fun a U => a = #[(.ref a1), (.int p2)] ∧ Z.Warmed39 U.vm ∧ U.heap = h0) (fun _ _ _ _ _ => True) (fun _ U o U' => ∃ v L, o = .returned v ∧ (QA Z a1 none (own_rm xs p2) n0) v U'.heap L ∧ FrameEnd U o U' L ({ frames := 0, cells := 0, slots := 0, locals := 0 } : Room).cells ({ frames := 0, cells := 0, slots := 0, locals := 0 } : Room).slots) := by
  rcases xs with _ | ⟨x0, _ | ⟨x1, _ | ⟨x2, _ | ⟨x3, xs⟩⟩⟩⟩
  · obtain ⟨t, k, ys, g1, g2, g3, E, Fm, Fs, V, hy⟩ := F
    obtain ⟨y0, y1, y2, y3, rfl⟩ := own_ys hy rfl
    exact rmR_0 l Z a0 hw ws a1 p2 h0 n0 Z0 g1 g2 g3 E Fm Fs V
  · obtain ⟨t, k, ys, g1, g2, g3, E, Fm, Fs, V, hy⟩ := F
    obtain ⟨y1, y2, y3, rfl⟩ := own_ys1 hy
    exact rmR_1 l Z a0 hw ws a1 p2 h0 n0 Z0 g1 g2 g3 E Fm Fs V
  · obtain ⟨t, k, ys, g1, g2, g3, E, Fm, Fs, V, hy⟩ := F
    obtain ⟨y2, y3, rfl⟩ := own_ys2 hy
    exact rmR_2 l Z a0 hw ws a1 p2 h0 n0 Z0 g1 g2 g3 E Fm Fs V
  · obtain ⟨t, k, ys, g1, g2, g3, E, Fm, Fs, V, hy⟩ := F
    obtain ⟨y3, rfl⟩ := own_ys3 hy
    exact rmR_3 l Z a0 hw ws a1 p2 h0 n0 Z0 g1 g2 g3 E Fm Fs V
  · simp only [List.length_cons] at hl; omega
theorem d1_0 : decode prog_102_method_1_code 0 = .ok (.aload_n 0, 1) := by decide +kernel
theorem d1_1 : decode prog_102_method_1_code 1 = .ok (.invokespecial 1, 3) := by decide +kernel
theorem d1_4 : decode prog_102_method_1_code 4 = .ok (.aload_n 0, 1) := by decide +kernel
theorem d1_5 : decode prog_102_method_1_code 5 = .ok (.iconst 4, 1) := by decide +kernel
theorem d1_6 : decode prog_102_method_1_code 6 = .ok (.newarray .int, 2) := by decide +kernel
theorem d1_8 : decode prog_102_method_1_code 8 = .ok (.putfield 7, 3) := by decide +kernel
theorem d1_11 : decode prog_102_method_1_code 11 = .ok (.return_, 1) := by decide +kernel
theorem pn_1 : plainName "quorate/NodeSet" = true := by first | (simp [plainName, overriddenIn]; done) | decide +kernel
theorem ef_1 (m : MethodId) (x0 : Addr) : entryFrame m #[(.ref x0)] 1 = mkF m 0 #[.val (.ref x0)] [] := by first | (simp [entryFrame, mkF, argsToLocals, Value.category]; done) | rfl
set_option maxRecDepth 65536 in
set_option maxHeartbeats 40000000 in
theorem rmN (l : Launch) (Z : State) (a0 : Array Value) (hw : ∀ d ∈ tables_1, d.before a0 Z = true) (ws : List Jvm.Cond) (a1 : Addr) (h0 : Heap) (n0 : Nat) {u : Value} (Z0 : n0 ≤ h0.size) (g_a1 : n0 ≤ a1) (E_a1 : Exa Z h0 a1 "quorate/NodeSet") (F_m : Fld Z h0 a1 "quorate/NodeSet" "members" "[I" u) (F_s : Fld Z h0 a1 "quorate/NodeSet" "size" "I" (.int (0 : Int32))) :
    MetFree l (⟨"quorate/NodeSet", "<init>", "()V"⟩ : MethodName) (head1 (Jvm.Cond.code (⟨"quorate/NodeSet", "<init>", "()V"⟩ : MethodName) prog_102_method_1_code 1 none :: ws) ({ frames := 1, cells := 1, slots := 4, locals := 12 } : Room)) (fun a U => a = #[(.ref a1)] ∧ Z.Warmed39 U.vm ∧ U.heap = h0) (fun _ _ _ _ _ => True) (fun _ U o U' => ∃ v L, o = .returned v ∧ (QA Z a1 none [] n0) v U'.heap L ∧ FrameEnd U o U' L ({ frames := 1, cells := 1, slots := 4, locals := 12 } : Room).cells ({ frames := 1, cells := 1, slots := 4, locals := 12 } : Room).slots) := by
  refine own_met (plainFor_of_name pn_1) (fun m => ef_1 m a1) ?_
  intro p e s m below meth c T0 hx hby hml hown hnm hret hlk hZ X0 e0
  have hown : s.vm.findClass "quorate/NodeSet" = some m.cls := hown
  have hnm : meth.name = "<init>" := hnm
  have hret : meth.sig.returnType = none := hret
  have N0 := Fr.nil n0
  show Go p e below _ (T0.setTop (mkF m 0 #[.val (.ref a1)] []))
  refine go (fun _ q => XS.aloadN X0.here hx rfl (hb hby d1_0) rfl rfl q) ?_
  show Go p e below _ (T0.setTop (mkF m 1 #[.val (.ref a1)] [(.ref a1)]))
  obtain ⟨T1, X1, e1, st1⟩ := initO X0 hx hZ hown (hw _ (List.mem_of_getElem? (i := 6) rfl)) (hw _ (List.mem_of_getElem? (i := 7) rfl)) (hw _ (List.mem_of_getElem? (i := 8) rfl)) e0 (g := (mkF m 1 #[.val (.ref a1)] [(.ref a1)])) rfl (by rw [hml]; rfl) rfl (hb hby d1_1) (by decide) (W := 0) (by show 2 * 0 + _ ≤ _; exact Nat.le_of_eq rfl) (by decide)
  refine go st1 ?_
  show Go p e below _ (T1.setTop (mkF m 4 #[.val (.ref a1)] []))
  refine go (fun _ q => XS.aloadN X1.here hx rfl (hb hby d1_4) rfl rfl q) ?_
  show Go p e below _ (T1.setTop (mkF m 5 #[.val (.ref a1)] [(.ref a1)]))
  refine go (fun _ q => XS.iconst X1.here hx rfl (hb hby d1_5) q) ?_
  show Go p e below _ (T1.setTop (mkF m 6 #[.val (.ref a1)] [(.int (4 : Int32)), (.ref a1)]))
  obtain ⟨T2, h2, k2, X2, e2, E2, A2, st2⟩ := newP X1 hx hZ (hw _ (List.mem_of_getElem? (i := 9) rfl)) e1 (g := (mkF m 6 #[.val (.ref a1)] [(.int (4 : Int32)), (.ref a1)])) rfl (hb hby d1_6) rfl (by decide) (cap := 4) (by decide) (by decide) (by decide) (by decide)
  obtain ⟨b2, g2⟩ : ∃ z, z = h0.size := ⟨_, rfl⟩
  rw [← g2] at A2 st2
  refine go st2 ?_
  have ne_a1_b2 : a1 ≠ b2 := Nat.ne_of_lt (Nat.lt_of_lt_of_le E_a1.lt (Nat.le_of_eq g2.symm))
  have g_b2 : n0 ≤ b2 := Nat.le_trans Z0 (Nat.le_of_eq g2.symm)
  have Z2 : n0 ≤ h2.size := Nat.le_trans Z0 E2.1
  have E_a1_3 : Exa Z h2 a1 "quorate/NodeSet" := E_a1.ext E2
  have F_m_4 : Fld Z h2 a1 "quorate/NodeSet" "members" "[I" u := F_m.ext E2
  have F_s_5 : Fld Z h2 a1 "quorate/NodeSet" "size" "I" (.int (0 : Int32)) := F_s.ext E2
  have V_b2 : Arv Z h2 b2 k2 .int (4 : Int32) [(.int (0 : Int32)), (.int (0 : Int32)), (.int (0 : Int32)), (.int (0 : Int32))] (.int (0 : Int32)) := (Arv.new A2 (by decide)).pad (pad_rep [] (.int (0 : Int32)) 4)
  show Go p e below _ (T2.setTop (mkF m 8 #[.val (.ref a1)] [(.ref b2), (.ref a1)]))
  obtain ⟨T6, h6, X6, e6, W6, st6⟩ := putF X2 hx hZ hown (host := "") (Or.inl (hw _ (List.mem_of_getElem? (i := 10) rfl))) Via.refl e2 F_m_4 E_a1_3 (Or.inl (hw _ (List.mem_of_getElem? (i := 11) rfl))) (hw _ (List.mem_of_getElem? (i := 1) rfl)) (ty := (.array .int)) (by decide) rfl rfl (g := (mkF m 8 #[.val (.ref a1)] [(.ref b2), (.ref a1)])) rfl rfl (hb hby d1_8)
  refine go st6 ?_
  have F_m_6 : Fld Z h6 a1 "quorate/NodeSet" "members" "[I" (.ref b2) := F_m_4.same W6
  have E_a1_7 : Exa Z h6 a1 "quorate/NodeSet" := E_a1_3.wr W6
  have F_s_8 : Fld Z h6 a1 "quorate/NodeSet" "size" "I" (.int (0 : Int32)) := F_s_5.other W6 (Or.inr (slot_ne (Or.inl (hw _ (List.mem_of_getElem? (i := 18) rfl))) (Or.inl (hw _ (List.mem_of_getElem? (i := 11) rfl))) (by decide) (t := .int) (t' := (.array .int)) (by decide) (by decide)))
  have V_b2_9 : Arv Z h6 b2 k2 .int (4 : Int32) [(.int (0 : Int32)), (.int (0 : Int32)), (.int (0 : Int32)), (.int (0 : Int32))] (.int (0 : Int32)) := V_b2.other W6 (Ne.symm ne_a1_b2)
  have N6 := Fr.snoc X6 N0 g_a1
  have Z6 : n0 ≤ h6.size := Nat.le_trans Z2 (Nat.le_of_eq W6.size.symm)
  show Go p e below _ (T6.setTop (mkF m 11 #[.val (.ref a1)] []))
  exact own_retV X6 hx hlk hret (hb hby d1_11) (by decide) (by decide) (by rw [e6]; exact ⟨rfl, N6, Z6, ⟨b2, _, [(.int (0 : Int32)), (.int (0 : Int32)), (.int (0 : Int32)), (.int (0 : Int32))], g_a1, g_b2, ne_a1_b2, E_a1_7, F_m_6, F_s_8, V_b2_9, rfl⟩⟩)
def f4 (p1 : Int32) (p2 : Int32) (p3 : Int32) (p4 : Int32) (p5 : Int32) : Int32 := (if (0 : Int32) < p2 then (if p1 = p3 then (1 : Int32) else (if (1 : Int32) < p2 then (if p1 = p4 then (1 : Int32) else (if (2 : Int32) < p2 then (if p1 = p5 then (1 : Int32) else (0 : Int32)) else (0 : Int32))) else (if (2 : Int32) < p2 then (if p1 = p5 then (1 : Int32) else (0 : Int32)) else (0 : Int32)))) else (if (1 : Int32) < p2 then (if p1 = p4 then (1 : Int32) else (if (2 : Int32) < p2 then (if p1 = p5 then (1 : Int32) else (0 : Int32)) else (0 : Int32))) else (if (2 : Int32) < p2 then (if p1 = p5 then (1 : Int32) else (0 : Int32)) else (0 : Int32))))
theorem d4_0 : decode method_2_code 0 = .ok (.iload_n 1, 1) := by decide +kernel
theorem d4_1 : decode method_2_code 1 = .ok (.ifCond .le 8, 3) := by decide +kernel
theorem d4_4 : decode method_2_code 4 = .ok (.iload_n 0, 1) := by decide +kernel
theorem d4_5 : decode method_2_code 5 = .ok (.iload_n 2, 1) := by decide +kernel
theorem d4_6 : decode method_2_code 6 = .ok (.if_icmp .eq 24, 3) := by decide +kernel
theorem d4_9 : decode method_2_code 9 = .ok (.iload_n 1, 1) := by decide +kernel
theorem d4_10 : decode method_2_code 10 = .ok (.iconst 1, 1) := by decide +kernel
theorem d4_11 : decode method_2_code 11 = .ok (.if_icmp .le 8, 3) := by decide +kernel
theorem d4_14 : decode method_2_code 14 = .ok (.iload_n 0, 1) := by decide +kernel
theorem d4_15 : decode method_2_code 15 = .ok (.iload_n 3, 1) := by decide +kernel
theorem d4_16 : decode method_2_code 16 = .ok (.if_icmp .eq 14, 3) := by decide +kernel
theorem d4_19 : decode method_2_code 19 = .ok (.iload_n 1, 1) := by decide +kernel
theorem d4_20 : decode method_2_code 20 = .ok (.iconst 2, 1) := by decide +kernel
theorem d4_21 : decode method_2_code 21 = .ok (.if_icmp .le 13, 3) := by decide +kernel
theorem d4_24 : decode method_2_code 24 = .ok (.iload_n 0, 1) := by decide +kernel
theorem d4_25 : decode method_2_code 25 = .ok (.iload 4, 2) := by decide +kernel
theorem d4_27 : decode method_2_code 27 = .ok (.if_icmp .ne 7, 3) := by decide +kernel
theorem d4_30 : decode method_2_code 30 = .ok (.iconst 1, 1) := by decide +kernel
theorem d4_31 : decode method_2_code 31 = .ok (.goto 4, 3) := by decide +kernel
theorem d4_34 : decode method_2_code 34 = .ok (.iconst 0, 1) := by decide +kernel
theorem d4_35 : decode method_2_code 35 = .ok (.ireturn, 1) := by decide +kernel
theorem pn_4 : plainName "quorate/NodeSetRemovePinLaw" = true := by first | (simp [plainName, overriddenIn]; done) | decide +kernel
theorem ef_4 (m : MethodId) (x0 : Int32) (x1 : Int32) (x2 : Int32) (x3 : Int32) (x4 : Int32) : entryFrame m #[(.int x0), (.int x1), (.int x2), (.int x3), (.int x4)] 5 = mkF m 0 #[.val (.int x0), .val (.int x1), .val (.int x2), .val (.int x3), .val (.int x4)] [] := by first | (simp [entryFrame, mkF, argsToLocals, Value.category]; done) | rfl
set_option maxRecDepth 65536 in
set_option maxHeartbeats 40000000 in
theorem rm4 (l : Launch) (Z : State) (a0 : Array Value) (hw : ∀ d ∈ tables_1, d.before a0 Z = true) (ws : List Jvm.Cond) (p1 : Int32) (p2 : Int32) (p3 : Int32) (p4 : Int32) (p5 : Int32) (h0 : Heap) (n0 : Nat) :
    MetFree l (⟨"quorate/NodeSetRemovePinLaw", "in", "(IIIII)Z"⟩ : MethodName) (head1 (Jvm.Cond.code (⟨"quorate/NodeSetRemovePinLaw", "in", "(IIIII)Z"⟩ : MethodName) method_2_code 5 (some .boolean) :: ws) ({ frames := 0, cells := 0, slots := 0, locals := 0 } : Room)) (fun a U => a = #[(.int p1), (.int p2), (.int p3), (.int p4), (.int p5)] ∧ Z.Warmed39 U.vm ∧ U.heap = h0) (fun _ _ _ _ _ => True) (fun _ U o U' => ∃ v L, o = .returned v ∧ (QP (some (.int (f4 p1 p2 p3 p4 p5))) h0 n0) v U'.heap L ∧ FrameEnd U o U' L ({ frames := 0, cells := 0, slots := 0, locals := 0 } : Room).cells ({ frames := 0, cells := 0, slots := 0, locals := 0 } : Room).slots) := by
  refine own_met (plainFor_of_name pn_4) (fun m => ef_4 m p1 p2 p3 p4 p5) ?_
  intro p e s m below meth c T0 hx hby hml hown hnm hret hlk hZ X0 e0
  have hown : s.vm.findClass "quorate/NodeSetRemovePinLaw" = some m.cls := hown
  have hnm : meth.name = "in" := hnm
  have hret : meth.sig.returnType = some .boolean := hret
  have N0 := Fr.nil n0
  show Go p e below _ (T0.setTop (mkF m 0 #[.val (.int p1), .val (.int p2), .val (.int p3), .val (.int p4), .val (.int p5)] []))
  refine go (fun _ q => XS.iloadN X0.here hx rfl (hb hby d4_0) rfl q) ?_
  show Go p e below _ (T0.setTop (mkF m 1 #[.val (.int p1), .val (.int p2), .val (.int p3), .val (.int p4), .val (.int p5)] [(.int p2)]))
  suffices hj1 : ∀ (z16 : Int32), z16 = (if (0 : Int32) < p2 then (if p1 = p3 then (1 : Int32) else (if (1 : Int32) < p2 then (if p1 = p4 then (1 : Int32) else (if (2 : Int32) < p2 then (if p1 = p5 then (1 : Int32) else (0 : Int32)) else (0 : Int32))) else (if (2 : Int32) < p2 then (if p1 = p5 then (1 : Int32) else (0 : Int32)) else (0 : Int32)))) else (if (1 : Int32) < p2 then (if p1 = p4 then (1 : Int32) else (if (2 : Int32) < p2 then (if p1 = p5 then (1 : Int32) else (0 : Int32)) else (0 : Int32))) else (if (2 : Int32) < p2 then (if p1 = p5 then (1 : Int32) else (0 : Int32)) else (0 : Int32)))) → Go p e below (Dn below s ((QP (some (.int (f4 p1 p2 p3 p4 p5))) h0 n0)) ({ frames := 0, cells := 0, slots := 0, locals := 0 } : Room).cells ({ frames := 0, cells := 0, slots := 0, locals := 0 } : Room).slots) (T0.setTop (mkF m 35 #[.val (.int p1), .val (.int p2), .val (.int p3), .val (.int p4), .val (.int p5)] [(.int z16)])) by
    by_cases hc2 : (0 : Int32) < p2
    · refine go (fun _ q => XS.ifNo X0.here hx rfl (hb hby d4_1) rfl ((if0 _ _).trans (tlt hc2).2.2.2) q) ?_
      show Go p e below _ (T0.setTop (mkF m 4 #[.val (.int p1), .val (.int p2), .val (.int p3), .val (.int p4), .val (.int p5)] []))
      refine go (fun _ q => XS.iloadN X0.here hx rfl (hb hby d4_4) rfl q) ?_
      show Go p e below _ (T0.setTop (mkF m 5 #[.val (.int p1), .val (.int p2), .val (.int p3), .val (.int p4), .val (.int p5)] [(.int p1)]))
      refine go (fun _ q => XS.iloadN X0.here hx rfl (hb hby d4_5) rfl q) ?_
      show Go p e below _ (T0.setTop (mkF m 6 #[.val (.int p1), .val (.int p2), .val (.int p3), .val (.int p4), .val (.int p5)] [(.int p3), (.int p1)]))
      by_cases hc3 : p1 = p3
      · refine go (fun _ q => XS.icmpYes X0.here hx rfl (pc0 := 6) (pc' := 30) rfl (hb hby d4_6) rfl (teq hc3).1 (by decide) (by decide) q) ?_
        show Go p e below _ (T0.setTop (mkF m 30 #[.val (.int p1), .val (.int p2), .val (.int p3), .val (.int p4), .val (.int p5)] []))
        refine go (fun _ q => XS.iconst X0.here hx rfl (hb hby d4_30) q) ?_
        show Go p e below _ (T0.setTop (mkF m 31 #[.val (.int p1), .val (.int p2), .val (.int p3), .val (.int p4), .val (.int p5)] [(.int (1 : Int32))]))
        refine go (fun _ q => XS.goto X0.here hx rfl (pc0 := 31) (pc' := 35) rfl (hb hby d4_31) (by decide) (by decide) q) ?_
        show Go p e below _ (T0.setTop (mkF m 35 #[.val (.int p1), .val (.int p2), .val (.int p3), .val (.int p4), .val (.int p5)] [(.int (1 : Int32))]))
        exact hj1 _ (by rw [if_pos hc2, if_pos hc3])
      · refine go (fun _ q => XS.icmpNo X0.here hx rfl (hb hby d4_6) rfl (feq hc3).1 q) ?_
        show Go p e below _ (T0.setTop (mkF m 9 #[.val (.int p1), .val (.int p2), .val (.int p3), .val (.int p4), .val (.int p5)] []))
        refine go (fun _ q => XS.iloadN X0.here hx rfl (hb hby d4_9) rfl q) ?_
        show Go p e below _ (T0.setTop (mkF m 10 #[.val (.int p1), .val (.int p2), .val (.int p3), .val (.int p4), .val (.int p5)] [(.int p2)]))
        refine go (fun _ q => XS.iconst X0.here hx rfl (hb hby d4_10) q) ?_
        show Go p e below _ (T0.setTop (mkF m 11 #[.val (.int p1), .val (.int p2), .val (.int p3), .val (.int p4), .val (.int p5)] [(.int (1 : Int32)), (.int p2)]))
        by_cases hc4 : (1 : Int32) < p2
        · refine go (fun _ q => XS.icmpNo X0.here hx rfl (hb hby d4_11) rfl (tlt hc4).2.2.2 q) ?_
          show Go p e below _ (T0.setTop (mkF m 14 #[.val (.int p1), .val (.int p2), .val (.int p3), .val (.int p4), .val (.int p5)] []))
          refine go (fun _ q => XS.iloadN X0.here hx rfl (hb hby d4_14) rfl q) ?_
          show Go p e below _ (T0.setTop (mkF m 15 #[.val (.int p1), .val (.int p2), .val (.int p3), .val (.int p4), .val (.int p5)] [(.int p1)]))
          refine go (fun _ q => XS.iloadN X0.here hx rfl (hb hby d4_15) rfl q) ?_
          show Go p e below _ (T0.setTop (mkF m 16 #[.val (.int p1), .val (.int p2), .val (.int p3), .val (.int p4), .val (.int p5)] [(.int p4), (.int p1)]))
          by_cases hc5 : p1 = p4
          · refine go (fun _ q => XS.icmpYes X0.here hx rfl (pc0 := 16) (pc' := 30) rfl (hb hby d4_16) rfl (teq hc5).1 (by decide) (by decide) q) ?_
            show Go p e below _ (T0.setTop (mkF m 30 #[.val (.int p1), .val (.int p2), .val (.int p3), .val (.int p4), .val (.int p5)] []))
            refine go (fun _ q => XS.iconst X0.here hx rfl (hb hby d4_30) q) ?_
            show Go p e below _ (T0.setTop (mkF m 31 #[.val (.int p1), .val (.int p2), .val (.int p3), .val (.int p4), .val (.int p5)] [(.int (1 : Int32))]))
            refine go (fun _ q => XS.goto X0.here hx rfl (pc0 := 31) (pc' := 35) rfl (hb hby d4_31) (by decide) (by decide) q) ?_
            show Go p e below _ (T0.setTop (mkF m 35 #[.val (.int p1), .val (.int p2), .val (.int p3), .val (.int p4), .val (.int p5)] [(.int (1 : Int32))]))
            exact hj1 _ (by rw [if_pos hc2, if_neg hc3, if_pos hc4, if_pos hc5])
          · refine go (fun _ q => XS.icmpNo X0.here hx rfl (hb hby d4_16) rfl (feq hc5).1 q) ?_
            show Go p e below _ (T0.setTop (mkF m 19 #[.val (.int p1), .val (.int p2), .val (.int p3), .val (.int p4), .val (.int p5)] []))
            refine go (fun _ q => XS.iloadN X0.here hx rfl (hb hby d4_19) rfl q) ?_
            show Go p e below _ (T0.setTop (mkF m 20 #[.val (.int p1), .val (.int p2), .val (.int p3), .val (.int p4), .val (.int p5)] [(.int p2)]))
            refine go (fun _ q => XS.iconst X0.here hx rfl (hb hby d4_20) q) ?_
            show Go p e below _ (T0.setTop (mkF m 21 #[.val (.int p1), .val (.int p2), .val (.int p3), .val (.int p4), .val (.int p5)] [(.int (2 : Int32)), (.int p2)]))
            by_cases hc6 : (2 : Int32) < p2
            · refine go (fun _ q => XS.icmpNo X0.here hx rfl (hb hby d4_21) rfl (tlt hc6).2.2.2 q) ?_
              show Go p e below _ (T0.setTop (mkF m 24 #[.val (.int p1), .val (.int p2), .val (.int p3), .val (.int p4), .val (.int p5)] []))
              refine go (fun _ q => XS.iloadN X0.here hx rfl (hb hby d4_24) rfl q) ?_
              show Go p e below _ (T0.setTop (mkF m 25 #[.val (.int p1), .val (.int p2), .val (.int p3), .val (.int p4), .val (.int p5)] [(.int p1)]))
              refine go (fun _ q => XS.iload X0.here hx rfl (hb hby d4_25) rfl q) ?_
              show Go p e below _ (T0.setTop (mkF m 27 #[.val (.int p1), .val (.int p2), .val (.int p3), .val (.int p4), .val (.int p5)] [(.int p5), (.int p1)]))
              by_cases hc7 : p1 = p5
              · refine go (fun _ q => XS.icmpNo X0.here hx rfl (hb hby d4_27) rfl (teq hc7).2 q) ?_
                show Go p e below _ (T0.setTop (mkF m 30 #[.val (.int p1), .val (.int p2), .val (.int p3), .val (.int p4), .val (.int p5)] []))
                refine go (fun _ q => XS.iconst X0.here hx rfl (hb hby d4_30) q) ?_
                show Go p e below _ (T0.setTop (mkF m 31 #[.val (.int p1), .val (.int p2), .val (.int p3), .val (.int p4), .val (.int p5)] [(.int (1 : Int32))]))
                refine go (fun _ q => XS.goto X0.here hx rfl (pc0 := 31) (pc' := 35) rfl (hb hby d4_31) (by decide) (by decide) q) ?_
                show Go p e below _ (T0.setTop (mkF m 35 #[.val (.int p1), .val (.int p2), .val (.int p3), .val (.int p4), .val (.int p5)] [(.int (1 : Int32))]))
                exact hj1 _ (by rw [if_pos hc2, if_neg hc3, if_pos hc4, if_neg hc5, if_pos hc6, if_pos hc7])
              · refine go (fun _ q => XS.icmpYes X0.here hx rfl (pc0 := 27) (pc' := 34) rfl (hb hby d4_27) rfl (feq hc7).2 (by decide) (by decide) q) ?_
                show Go p e below _ (T0.setTop (mkF m 34 #[.val (.int p1), .val (.int p2), .val (.int p3), .val (.int p4), .val (.int p5)] []))
                refine go (fun _ q => XS.iconst X0.here hx rfl (hb hby d4_34) q) ?_
                show Go p e below _ (T0.setTop (mkF m 35 #[.val (.int p1), .val (.int p2), .val (.int p3), .val (.int p4), .val (.int p5)] [(.int (0 : Int32))]))
                exact hj1 _ (by rw [if_pos hc2, if_neg hc3, if_pos hc4, if_neg hc5, if_pos hc6, if_neg hc7])
            · refine go (fun _ q => XS.icmpYes X0.here hx rfl (pc0 := 21) (pc' := 34) rfl (hb hby d4_21) rfl (flt hc6).2.2.2 (by decide) (by decide) q) ?_
              show Go p e below _ (T0.setTop (mkF m 34 #[.val (.int p1), .val (.int p2), .val (.int p3), .val (.int p4), .val (.int p5)] []))
              refine go (fun _ q => XS.iconst X0.here hx rfl (hb hby d4_34) q) ?_
              show Go p e below _ (T0.setTop (mkF m 35 #[.val (.int p1), .val (.int p2), .val (.int p3), .val (.int p4), .val (.int p5)] [(.int (0 : Int32))]))
              exact hj1 _ (by rw [if_pos hc2, if_neg hc3, if_pos hc4, if_neg hc5, if_neg hc6])
        · refine go (fun _ q => XS.icmpYes X0.here hx rfl (pc0 := 11) (pc' := 19) rfl (hb hby d4_11) rfl (flt hc4).2.2.2 (by decide) (by decide) q) ?_
          show Go p e below _ (T0.setTop (mkF m 19 #[.val (.int p1), .val (.int p2), .val (.int p3), .val (.int p4), .val (.int p5)] []))
          refine go (fun _ q => XS.iloadN X0.here hx rfl (hb hby d4_19) rfl q) ?_
          show Go p e below _ (T0.setTop (mkF m 20 #[.val (.int p1), .val (.int p2), .val (.int p3), .val (.int p4), .val (.int p5)] [(.int p2)]))
          refine go (fun _ q => XS.iconst X0.here hx rfl (hb hby d4_20) q) ?_
          show Go p e below _ (T0.setTop (mkF m 21 #[.val (.int p1), .val (.int p2), .val (.int p3), .val (.int p4), .val (.int p5)] [(.int (2 : Int32)), (.int p2)]))
          by_cases hc8 : (2 : Int32) < p2
          · refine go (fun _ q => XS.icmpNo X0.here hx rfl (hb hby d4_21) rfl (tlt hc8).2.2.2 q) ?_
            show Go p e below _ (T0.setTop (mkF m 24 #[.val (.int p1), .val (.int p2), .val (.int p3), .val (.int p4), .val (.int p5)] []))
            refine go (fun _ q => XS.iloadN X0.here hx rfl (hb hby d4_24) rfl q) ?_
            show Go p e below _ (T0.setTop (mkF m 25 #[.val (.int p1), .val (.int p2), .val (.int p3), .val (.int p4), .val (.int p5)] [(.int p1)]))
            refine go (fun _ q => XS.iload X0.here hx rfl (hb hby d4_25) rfl q) ?_
            show Go p e below _ (T0.setTop (mkF m 27 #[.val (.int p1), .val (.int p2), .val (.int p3), .val (.int p4), .val (.int p5)] [(.int p5), (.int p1)]))
            by_cases hc9 : p1 = p5
            · refine go (fun _ q => XS.icmpNo X0.here hx rfl (hb hby d4_27) rfl (teq hc9).2 q) ?_
              show Go p e below _ (T0.setTop (mkF m 30 #[.val (.int p1), .val (.int p2), .val (.int p3), .val (.int p4), .val (.int p5)] []))
              refine go (fun _ q => XS.iconst X0.here hx rfl (hb hby d4_30) q) ?_
              show Go p e below _ (T0.setTop (mkF m 31 #[.val (.int p1), .val (.int p2), .val (.int p3), .val (.int p4), .val (.int p5)] [(.int (1 : Int32))]))
              refine go (fun _ q => XS.goto X0.here hx rfl (pc0 := 31) (pc' := 35) rfl (hb hby d4_31) (by decide) (by decide) q) ?_
              show Go p e below _ (T0.setTop (mkF m 35 #[.val (.int p1), .val (.int p2), .val (.int p3), .val (.int p4), .val (.int p5)] [(.int (1 : Int32))]))
              exact hj1 _ (by rw [if_pos hc2, if_neg hc3, if_neg hc4, if_pos hc8, if_pos hc9])
            · refine go (fun _ q => XS.icmpYes X0.here hx rfl (pc0 := 27) (pc' := 34) rfl (hb hby d4_27) rfl (feq hc9).2 (by decide) (by decide) q) ?_
              show Go p e below _ (T0.setTop (mkF m 34 #[.val (.int p1), .val (.int p2), .val (.int p3), .val (.int p4), .val (.int p5)] []))
              refine go (fun _ q => XS.iconst X0.here hx rfl (hb hby d4_34) q) ?_
              show Go p e below _ (T0.setTop (mkF m 35 #[.val (.int p1), .val (.int p2), .val (.int p3), .val (.int p4), .val (.int p5)] [(.int (0 : Int32))]))
              exact hj1 _ (by rw [if_pos hc2, if_neg hc3, if_neg hc4, if_pos hc8, if_neg hc9])
          · refine go (fun _ q => XS.icmpYes X0.here hx rfl (pc0 := 21) (pc' := 34) rfl (hb hby d4_21) rfl (flt hc8).2.2.2 (by decide) (by decide) q) ?_
            show Go p e below _ (T0.setTop (mkF m 34 #[.val (.int p1), .val (.int p2), .val (.int p3), .val (.int p4), .val (.int p5)] []))
            refine go (fun _ q => XS.iconst X0.here hx rfl (hb hby d4_34) q) ?_
            show Go p e below _ (T0.setTop (mkF m 35 #[.val (.int p1), .val (.int p2), .val (.int p3), .val (.int p4), .val (.int p5)] [(.int (0 : Int32))]))
            exact hj1 _ (by rw [if_pos hc2, if_neg hc3, if_neg hc4, if_neg hc8])
    · refine go (fun _ q => XS.ifYes X0.here hx rfl (pc0 := 1) (pc' := 9) rfl (hb hby d4_1) rfl ((if0 _ _).trans (flt hc2).2.2.2) (by decide) (by decide) q) ?_
      show Go p e below _ (T0.setTop (mkF m 9 #[.val (.int p1), .val (.int p2), .val (.int p3), .val (.int p4), .val (.int p5)] []))
      refine go (fun _ q => XS.iloadN X0.here hx rfl (hb hby d4_9) rfl q) ?_
      show Go p e below _ (T0.setTop (mkF m 10 #[.val (.int p1), .val (.int p2), .val (.int p3), .val (.int p4), .val (.int p5)] [(.int p2)]))
      refine go (fun _ q => XS.iconst X0.here hx rfl (hb hby d4_10) q) ?_
      show Go p e below _ (T0.setTop (mkF m 11 #[.val (.int p1), .val (.int p2), .val (.int p3), .val (.int p4), .val (.int p5)] [(.int (1 : Int32)), (.int p2)]))
      by_cases hc10 : (1 : Int32) < p2
      · refine go (fun _ q => XS.icmpNo X0.here hx rfl (hb hby d4_11) rfl (tlt hc10).2.2.2 q) ?_
        show Go p e below _ (T0.setTop (mkF m 14 #[.val (.int p1), .val (.int p2), .val (.int p3), .val (.int p4), .val (.int p5)] []))
        refine go (fun _ q => XS.iloadN X0.here hx rfl (hb hby d4_14) rfl q) ?_
        show Go p e below _ (T0.setTop (mkF m 15 #[.val (.int p1), .val (.int p2), .val (.int p3), .val (.int p4), .val (.int p5)] [(.int p1)]))
        refine go (fun _ q => XS.iloadN X0.here hx rfl (hb hby d4_15) rfl q) ?_
        show Go p e below _ (T0.setTop (mkF m 16 #[.val (.int p1), .val (.int p2), .val (.int p3), .val (.int p4), .val (.int p5)] [(.int p4), (.int p1)]))
        by_cases hc11 : p1 = p4
        · refine go (fun _ q => XS.icmpYes X0.here hx rfl (pc0 := 16) (pc' := 30) rfl (hb hby d4_16) rfl (teq hc11).1 (by decide) (by decide) q) ?_
          show Go p e below _ (T0.setTop (mkF m 30 #[.val (.int p1), .val (.int p2), .val (.int p3), .val (.int p4), .val (.int p5)] []))
          refine go (fun _ q => XS.iconst X0.here hx rfl (hb hby d4_30) q) ?_
          show Go p e below _ (T0.setTop (mkF m 31 #[.val (.int p1), .val (.int p2), .val (.int p3), .val (.int p4), .val (.int p5)] [(.int (1 : Int32))]))
          refine go (fun _ q => XS.goto X0.here hx rfl (pc0 := 31) (pc' := 35) rfl (hb hby d4_31) (by decide) (by decide) q) ?_
          show Go p e below _ (T0.setTop (mkF m 35 #[.val (.int p1), .val (.int p2), .val (.int p3), .val (.int p4), .val (.int p5)] [(.int (1 : Int32))]))
          exact hj1 _ (by rw [if_neg hc2, if_pos hc10, if_pos hc11])
        · refine go (fun _ q => XS.icmpNo X0.here hx rfl (hb hby d4_16) rfl (feq hc11).1 q) ?_
          show Go p e below _ (T0.setTop (mkF m 19 #[.val (.int p1), .val (.int p2), .val (.int p3), .val (.int p4), .val (.int p5)] []))
          refine go (fun _ q => XS.iloadN X0.here hx rfl (hb hby d4_19) rfl q) ?_
          show Go p e below _ (T0.setTop (mkF m 20 #[.val (.int p1), .val (.int p2), .val (.int p3), .val (.int p4), .val (.int p5)] [(.int p2)]))
          refine go (fun _ q => XS.iconst X0.here hx rfl (hb hby d4_20) q) ?_
          show Go p e below _ (T0.setTop (mkF m 21 #[.val (.int p1), .val (.int p2), .val (.int p3), .val (.int p4), .val (.int p5)] [(.int (2 : Int32)), (.int p2)]))
          by_cases hc12 : (2 : Int32) < p2
          · refine go (fun _ q => XS.icmpNo X0.here hx rfl (hb hby d4_21) rfl (tlt hc12).2.2.2 q) ?_
            show Go p e below _ (T0.setTop (mkF m 24 #[.val (.int p1), .val (.int p2), .val (.int p3), .val (.int p4), .val (.int p5)] []))
            refine go (fun _ q => XS.iloadN X0.here hx rfl (hb hby d4_24) rfl q) ?_
            show Go p e below _ (T0.setTop (mkF m 25 #[.val (.int p1), .val (.int p2), .val (.int p3), .val (.int p4), .val (.int p5)] [(.int p1)]))
            refine go (fun _ q => XS.iload X0.here hx rfl (hb hby d4_25) rfl q) ?_
            show Go p e below _ (T0.setTop (mkF m 27 #[.val (.int p1), .val (.int p2), .val (.int p3), .val (.int p4), .val (.int p5)] [(.int p5), (.int p1)]))
            by_cases hc13 : p1 = p5
            · refine go (fun _ q => XS.icmpNo X0.here hx rfl (hb hby d4_27) rfl (teq hc13).2 q) ?_
              show Go p e below _ (T0.setTop (mkF m 30 #[.val (.int p1), .val (.int p2), .val (.int p3), .val (.int p4), .val (.int p5)] []))
              refine go (fun _ q => XS.iconst X0.here hx rfl (hb hby d4_30) q) ?_
              show Go p e below _ (T0.setTop (mkF m 31 #[.val (.int p1), .val (.int p2), .val (.int p3), .val (.int p4), .val (.int p5)] [(.int (1 : Int32))]))
              refine go (fun _ q => XS.goto X0.here hx rfl (pc0 := 31) (pc' := 35) rfl (hb hby d4_31) (by decide) (by decide) q) ?_
              show Go p e below _ (T0.setTop (mkF m 35 #[.val (.int p1), .val (.int p2), .val (.int p3), .val (.int p4), .val (.int p5)] [(.int (1 : Int32))]))
              exact hj1 _ (by rw [if_neg hc2, if_pos hc10, if_neg hc11, if_pos hc12, if_pos hc13])
            · refine go (fun _ q => XS.icmpYes X0.here hx rfl (pc0 := 27) (pc' := 34) rfl (hb hby d4_27) rfl (feq hc13).2 (by decide) (by decide) q) ?_
              show Go p e below _ (T0.setTop (mkF m 34 #[.val (.int p1), .val (.int p2), .val (.int p3), .val (.int p4), .val (.int p5)] []))
              refine go (fun _ q => XS.iconst X0.here hx rfl (hb hby d4_34) q) ?_
              show Go p e below _ (T0.setTop (mkF m 35 #[.val (.int p1), .val (.int p2), .val (.int p3), .val (.int p4), .val (.int p5)] [(.int (0 : Int32))]))
              exact hj1 _ (by rw [if_neg hc2, if_pos hc10, if_neg hc11, if_pos hc12, if_neg hc13])
          · refine go (fun _ q => XS.icmpYes X0.here hx rfl (pc0 := 21) (pc' := 34) rfl (hb hby d4_21) rfl (flt hc12).2.2.2 (by decide) (by decide) q) ?_
            show Go p e below _ (T0.setTop (mkF m 34 #[.val (.int p1), .val (.int p2), .val (.int p3), .val (.int p4), .val (.int p5)] []))
            refine go (fun _ q => XS.iconst X0.here hx rfl (hb hby d4_34) q) ?_
            show Go p e below _ (T0.setTop (mkF m 35 #[.val (.int p1), .val (.int p2), .val (.int p3), .val (.int p4), .val (.int p5)] [(.int (0 : Int32))]))
            exact hj1 _ (by rw [if_neg hc2, if_pos hc10, if_neg hc11, if_neg hc12])
      · refine go (fun _ q => XS.icmpYes X0.here hx rfl (pc0 := 11) (pc' := 19) rfl (hb hby d4_11) rfl (flt hc10).2.2.2 (by decide) (by decide) q) ?_
        show Go p e below _ (T0.setTop (mkF m 19 #[.val (.int p1), .val (.int p2), .val (.int p3), .val (.int p4), .val (.int p5)] []))
        refine go (fun _ q => XS.iloadN X0.here hx rfl (hb hby d4_19) rfl q) ?_
        show Go p e below _ (T0.setTop (mkF m 20 #[.val (.int p1), .val (.int p2), .val (.int p3), .val (.int p4), .val (.int p5)] [(.int p2)]))
        refine go (fun _ q => XS.iconst X0.here hx rfl (hb hby d4_20) q) ?_
        show Go p e below _ (T0.setTop (mkF m 21 #[.val (.int p1), .val (.int p2), .val (.int p3), .val (.int p4), .val (.int p5)] [(.int (2 : Int32)), (.int p2)]))
        by_cases hc14 : (2 : Int32) < p2
        · refine go (fun _ q => XS.icmpNo X0.here hx rfl (hb hby d4_21) rfl (tlt hc14).2.2.2 q) ?_
          show Go p e below _ (T0.setTop (mkF m 24 #[.val (.int p1), .val (.int p2), .val (.int p3), .val (.int p4), .val (.int p5)] []))
          refine go (fun _ q => XS.iloadN X0.here hx rfl (hb hby d4_24) rfl q) ?_
          show Go p e below _ (T0.setTop (mkF m 25 #[.val (.int p1), .val (.int p2), .val (.int p3), .val (.int p4), .val (.int p5)] [(.int p1)]))
          refine go (fun _ q => XS.iload X0.here hx rfl (hb hby d4_25) rfl q) ?_
          show Go p e below _ (T0.setTop (mkF m 27 #[.val (.int p1), .val (.int p2), .val (.int p3), .val (.int p4), .val (.int p5)] [(.int p5), (.int p1)]))
          by_cases hc15 : p1 = p5
          · refine go (fun _ q => XS.icmpNo X0.here hx rfl (hb hby d4_27) rfl (teq hc15).2 q) ?_
            show Go p e below _ (T0.setTop (mkF m 30 #[.val (.int p1), .val (.int p2), .val (.int p3), .val (.int p4), .val (.int p5)] []))
            refine go (fun _ q => XS.iconst X0.here hx rfl (hb hby d4_30) q) ?_
            show Go p e below _ (T0.setTop (mkF m 31 #[.val (.int p1), .val (.int p2), .val (.int p3), .val (.int p4), .val (.int p5)] [(.int (1 : Int32))]))
            refine go (fun _ q => XS.goto X0.here hx rfl (pc0 := 31) (pc' := 35) rfl (hb hby d4_31) (by decide) (by decide) q) ?_
            show Go p e below _ (T0.setTop (mkF m 35 #[.val (.int p1), .val (.int p2), .val (.int p3), .val (.int p4), .val (.int p5)] [(.int (1 : Int32))]))
            exact hj1 _ (by rw [if_neg hc2, if_neg hc10, if_pos hc14, if_pos hc15])
          · refine go (fun _ q => XS.icmpYes X0.here hx rfl (pc0 := 27) (pc' := 34) rfl (hb hby d4_27) rfl (feq hc15).2 (by decide) (by decide) q) ?_
            show Go p e below _ (T0.setTop (mkF m 34 #[.val (.int p1), .val (.int p2), .val (.int p3), .val (.int p4), .val (.int p5)] []))
            refine go (fun _ q => XS.iconst X0.here hx rfl (hb hby d4_34) q) ?_
            show Go p e below _ (T0.setTop (mkF m 35 #[.val (.int p1), .val (.int p2), .val (.int p3), .val (.int p4), .val (.int p5)] [(.int (0 : Int32))]))
            exact hj1 _ (by rw [if_neg hc2, if_neg hc10, if_pos hc14, if_neg hc15])
        · refine go (fun _ q => XS.icmpYes X0.here hx rfl (pc0 := 21) (pc' := 34) rfl (hb hby d4_21) rfl (flt hc14).2.2.2 (by decide) (by decide) q) ?_
          show Go p e below _ (T0.setTop (mkF m 34 #[.val (.int p1), .val (.int p2), .val (.int p3), .val (.int p4), .val (.int p5)] []))
          refine go (fun _ q => XS.iconst X0.here hx rfl (hb hby d4_34) q) ?_
          show Go p e below _ (T0.setTop (mkF m 35 #[.val (.int p1), .val (.int p2), .val (.int p3), .val (.int p4), .val (.int p5)] [(.int (0 : Int32))]))
          exact hj1 _ (by rw [if_neg hc2, if_neg hc10, if_neg hc14])
  intro z16 hz16
  show Go p e below _ (T0.setTop (mkF m 35 #[.val (.int p1), .val (.int p2), .val (.int p3), .val (.int p4), .val (.int p5)] [(.int z16)]))
  exact own_retZ (z' := z16) X0 hx hlk hret (hb hby d4_35) (by decide) (by decide) (by rw [hz16]; (repeat' split) <;> rfl) ⟨congrArg (fun z => some (Value.int z)) (by rw [f4, hz16]), N0, e0⟩
theorem own_add_mem (xs : List Int32) (x y : Int32) : y ∈ own_add xs x ↔ y ∈ xs ∨ y = x := by
  unfold own_add
  split
  · rename_i h; constructor
    · exact Or.inl
    · rintro (q | rfl)
      · exact q
      · exact h
  · simp
theorem own_add_nodup {xs : List Int32} {x : Int32} (h : xs.Nodup) : (own_add xs x).Nodup := by
  unfold own_add
  split
  · exact h
  · rename_i q
    rw [List.nodup_append]
    refine ⟨h, by simp, ?_⟩
    intro a ha b hb e
    simp at hb
    subst hb e
    exact q ha
theorem own_add_len (xs : List Int32) (x : Int32) : (own_add xs x).length = xs.length + (if x ∈ xs then 0 else 1) := by
  unfold own_add
  split <;> simp
theorem own_rm_mem : ∀ (xs : List Int32) (r y : Int32), xs.length ≤ 3 → xs.Nodup → (y ∈ own_rm xs r ↔ y ∈ xs ∧ y ≠ r)
  | [], r, y, _, _ => by simp [own_rm]
  | [a], r, y, _, _ => by
    simp only [own_rm]
    by_cases h : a = r
    · subst h; simp
    · rw [if_neg h]; simp only [List.mem_singleton]
      constructor
      · rintro rfl; exact ⟨rfl, h⟩
      · exact fun q => q.1
  | [a, b], r, y, _, hn => by
    simp only [List.nodup_cons, List.mem_cons, List.not_mem_nil, or_false, not_or] at hn
    simp only [own_rm]
    by_cases h1 : a = r
    · rw [if_pos h1]; simp only [List.mem_cons, List.not_mem_nil, or_false]; grind
    · rw [if_neg h1]
      by_cases h2 : b = r
      · rw [if_pos h2]; simp only [List.mem_cons, List.not_mem_nil, or_false]; grind
      · rw [if_neg h2]; simp only [List.mem_cons, List.not_mem_nil, or_false]; grind
  | [a, b, c], r, y, _, hn => by
    simp only [List.nodup_cons, List.mem_cons, List.not_mem_nil, or_false, not_or] at hn
    simp only [own_rm]
    by_cases h1 : a = r
    · rw [if_pos h1]; simp only [List.mem_cons, List.not_mem_nil, or_false]; grind
    · rw [if_neg h1]
      by_cases h2 : b = r
      · rw [if_pos h2]; simp only [List.mem_cons, List.not_mem_nil, or_false]; grind
      · rw [if_neg h2]
        by_cases h3 : c = r
        · rw [if_pos h3]; simp only [List.mem_cons, List.not_mem_nil, or_false]; grind
        · rw [if_neg h3]; simp only [List.mem_cons, List.not_mem_nil, or_false]; grind
theorem own_rm_len : ∀ (xs : List Int32) (r : Int32), xs.length ≤ 3 → (own_rm xs r).length + (if r ∈ xs then 1 else 0) = xs.length
  | [], r, _ => by simp [own_rm]
  | [a], r, _ => by simp only [own_rm, List.mem_cons, List.not_mem_nil, or_false]; by_cases h : a = r <;> simp [h, eq_comm (a := r)]
  | [a, b], r, _ => by
    simp only [own_rm, List.mem_cons, List.not_mem_nil, or_false]
    by_cases h1 : a = r <;> by_cases h2 : b = r <;> simp [h1, h2, eq_comm (a := r)]
  | [a, b, c], r, _ => by
    simp only [own_rm, List.mem_cons, List.not_mem_nil, or_false]
    by_cases h1 : a = r <;> by_cases h2 : b = r <;> by_cases h3 : c = r <;> simp [h1, h2, h3, eq_comm (a := r)]
theorem own_f4 (y k a b c : Int32) : f4 y k a b c = 0 ↔ ¬ (((0 : Int32) < k ∧ y = a) ∨ ((1 : Int32) < k ∧ y = b) ∨ ((2 : Int32) < k ∧ y = c)) := by
  unfold f4
  (repeat' split) <;> simp_all -failIfUnchanged [-Int32.not_lt]
section OwnSets
variable {k a b c r : Int32} {xs1 xs2 xs3 : List Int32}
theorem own_mem3 (h1 : xs1 = (if (0 : Int32) < k then (own_add ([] : List Int32) a) else ([] : List Int32))) (h2 : xs2 = (if (1 : Int32) < k then (own_add xs1 b) else xs1)) (h3 : xs3 = (if (2 : Int32) < k then (own_add xs2 c) else xs2)) (y : Int32) : y ∈ xs3 ↔ ((0 : Int32) < k ∧ y = a) ∨ ((1 : Int32) < k ∧ y = b) ∨ ((2 : Int32) < k ∧ y = c) := by
  subst h3 h2 h1
  by_cases h0 : (0 : Int32) < k <;> by_cases h1 : (1 : Int32) < k <;> by_cases h2 : (2 : Int32) < k <;> simp [h0, h1, h2, own_add_mem, or_assoc]
theorem own_nodup3 (h1 : xs1 = (if (0 : Int32) < k then (own_add ([] : List Int32) a) else ([] : List Int32))) (h2 : xs2 = (if (1 : Int32) < k then (own_add xs1 b) else xs1)) (h3 : xs3 = (if (2 : Int32) < k then (own_add xs2 c) else xs2)) : xs3.Nodup := by
  subst h3 h2 h1
  split <;> (try apply own_add_nodup) <;> split <;> (try apply own_add_nodup) <;> split <;> (try apply own_add_nodup) <;> exact List.nodup_nil
theorem own_len1 (h1 : xs1 = (if (0 : Int32) < k then (own_add ([] : List Int32) a) else ([] : List Int32))) : xs1.length ≤ 1 := by
  subst h1; split <;> simp [own_add]
theorem own_addle (xs : List Int32) (x : Int32) : (own_add xs x).length ≤ xs.length + 1 := by rw [own_add_len]; split <;> omega
theorem own_len2 (l : xs1.length ≤ 1) (h2 : xs2 = (if (1 : Int32) < k then (own_add xs1 b) else xs1)) : xs2.length ≤ 2 := by
  subst h2; have := own_addle xs1 b; split <;> omega
theorem own_len3 (l : xs2.length ≤ 2) (h3 : xs3 = (if (2 : Int32) < k then (own_add xs2 c) else xs2)) : xs3.length ≤ 3 := by
  subst h3; have := own_addle xs2 c; split <;> omega
theorem own_len4 (l : xs3.length ≤ 3) (r : Int32) : (own_rm xs3 r).length ≤ 3 := by
  have := own_rm_len xs3 r l; omega
theorem own_has (l : xs3.length ≤ 3) (h1 : xs1 = (if (0 : Int32) < k then (own_add ([] : List Int32) a) else ([] : List Int32))) (h2 : xs2 = (if (1 : Int32) < k then (own_add xs1 b) else xs1)) (h3 : xs3 = (if (2 : Int32) < k then (own_add xs2 c) else xs2)) {y z : Int32}
    (hz : z = (if (f4 y k a b c) = (0 : Int32) then (0 : Int32) else (if y = r then (0 : Int32) else (1 : Int32)))) : (if y ∈ (own_rm xs3 r) then (1 : Int32) else (0 : Int32)) = z := by
  subst hz
  have m := own_mem3 h1 h2 h3 y
  have q := own_rm_mem xs3 r y l (own_nodup3 h1 h2 h3)
  have f := own_f4 y k a b c
  rw [← m] at f
  simp only [q, f]
  by_cases e1 : y ∈ xs3 <;> by_cases e2 : y = r <;> simp [e1, e2]
theorem own_hasnt (l : xs3.length ≤ 3) (h1 : xs1 = (if (0 : Int32) < k then (own_add ([] : List Int32) a) else ([] : List Int32))) (h2 : xs2 = (if (1 : Int32) < k then (own_add xs1 b) else xs1)) (h3 : xs3 = (if (2 : Int32) < k then (own_add xs2 c) else xs2)) : (if r ∈ (own_rm xs3 r) then (1 : Int32) else (0 : Int32)) = (0 : Int32) := by
  have q := own_rm_mem xs3 r r l (own_nodup3 h1 h2 h3)
  rw [if_neg]
  rw [q]; simp
theorem own_size (hk : 0 ≤ k.toInt) (l : xs3.length ≤ 3) (h1 : xs1 = (if (0 : Int32) < k then (own_add ([] : List Int32) a) else ([] : List Int32))) (h2 : xs2 = (if (1 : Int32) < k then (own_add xs1 b) else xs1)) (h3 : xs3 = (if (2 : Int32) < k then (own_add xs2 c) else xs2)) {z1 z2 z3 z4 v w : Int32}
    (q1 : z1 = (if (0 : Int32) < k then (1 : Int32) else (0 : Int32))) (q2 : z2 = (if (1 : Int32) < k then (if b = a then (0 : Int32) else (1 : Int32)) else (0 : Int32))) (q3 : z3 = (if (2 : Int32) < k then (if c = a then (0 : Int32) else (if c = b then (0 : Int32) else (1 : Int32))) else (0 : Int32)))
    (qv : ((z1 + z2) + z3) = v) (q4 : z4 = (if (f4 r k a b c) = (0 : Int32) then (0 : Int32) else (1 : Int32))) (qw : (v - z4) = w) : (Int32.ofNat (own_rm xs3 r).length) = w := by
  have m := own_mem3 h1 h2 h3 r
  have f := own_f4 r k a b c
  rw [← m] at f
  have n := own_rm_len xs3 r l
  have e1 : Int32.ofNat xs3.length = v := by
    have k1 : (1 : Int32) < k → (0 : Int32) < k := by
      rw [Int32.lt_iff_toInt_lt, Int32.lt_iff_toInt_lt]
      have e0 : (0 : Int32).toInt = 0 := rfl
      have e1 : (1 : Int32).toInt = 1 := rfl
      omega
    have k2 : (2 : Int32) < k → (1 : Int32) < k := by
      rw [Int32.lt_iff_toInt_lt, Int32.lt_iff_toInt_lt]
      have e0 : (2 : Int32).toInt = 2 := rfl
      have e1 : (1 : Int32).toInt = 1 := rfl
      omega
    subst h3 h2 h1 qv q1 q2 q3
    by_cases c2 : (2 : Int32) < k
    · have c1 := k2 c2
      have c0 := k1 c1
      by_cases e1 : b = a <;> by_cases e2 : c = a <;> by_cases e3 : c = b <;> simp [own_add_len, own_add_mem, c0, c1, c2, e1, e2, e3] <;> rfl
    · by_cases c1 : (1 : Int32) < k
      · have c0 := k1 c1
        by_cases e1 : b = a <;> simp [own_add_len, own_add_mem, c0, c1, c2, e1] <;> rfl
      · by_cases c0 : (0 : Int32) < k <;> simp [own_add_len, own_add_mem, c0, c1, c2] <;> rfl
  rw [← e1] at qw
  subst qw q4
  by_cases g : r ∈ xs3
  · rw [if_neg (fun z => f.mp z g)]
    rw [if_pos g] at n
    rw [← n, Int32.ofNat_add]
    show _ = _ + 1 - 1
    rw [Int32.add_sub_cancel]
  · rw [if_pos (f.mpr g)]
    rw [if_neg g] at n
    rw [← n]; simp
end OwnSets
theorem own_k {x v : Int32} (h : (x &&& (3 : Int32)) = v) : 0 ≤ v.toInt := by
  have a := c_and x 3 (by decide)
  rw [h] at a
  exact a.1

def Q0 (n0 : Nat) (v : Option Value) (h : Heap) (L : List Loc) : Prop := v = some (.int (1 : Int32)) ∧ Fr n0 L
theorem pd_0_0 : parseMethodDescriptor "()V" = some ⟨[], none⟩ := by decide +kernel
theorem pd_0_1 : parseMethodDescriptor "(I)Z" = some ⟨[.int], some .boolean⟩ := by decide +kernel
theorem pd_0_2 : parseMethodDescriptor "(I)V" = some ⟨[.int], none⟩ := by decide +kernel
theorem pd_0_3 : parseMethodDescriptor "(IIIII)Z" = some ⟨[.int, .int, .int, .int, .int], some .boolean⟩ := by decide +kernel
theorem pd_0_4 : parseMethodDescriptor "()I" = some ⟨[], some .int⟩ := by decide +kernel
theorem pn_0 : plainName "quorate/NodeSetRemovePinLaw" = true := by first | (simp [plainName, overriddenIn]; done) | decide +kernel
theorem ef_0 (m : MethodId) (x0 : Int32) (x1 : Int32) (x2 : Int32) (x3 : Int32) (x4 : Int32) : entryFrame m #[(.int x0), (.int x1), (.int x2), (.int x3), (.int x4)] maxLocals = mkF m 0 #[.val (.int x0), .val (.int x1), .val (.int x2), .val (.int x3), .val (.int x4), .unset, .unset, .unset, .unset, .unset, .unset, .unset, .unset, .unset] [] := by first | (simp [entryFrame, mkF, argsToLocals, Value.category, maxLocals]; done) | rfl
set_option maxRecDepth 65536 in
set_option maxHeartbeats 40000000 in
theorem rm0 (l : Launch) (Z : State) (a0 : Array Value) (hw : ∀ d ∈ tables_1, d.before a0 Z = true) (ws : List Jvm.Cond) (p1 : Int32) (p2 : Int32) (p3 : Int32) (p4 : Int32) (p5 : Int32) (h0 : Heap) (n0 : Nat) (Z0 : n0 ≤ h0.size) :
    MetFree l x (head1 (Jvm.Cond.code x code maxLocals ret :: ws) room_1) (fun a U => a = #[(.int p1), (.int p2), (.int p3), (.int p4), (.int p5)] ∧ Z.Warmed39 U.vm ∧ U.heap = h0) (fun _ _ _ _ _ => True) (fun _ U o U' => ∃ v L, o = .returned v ∧ (Q0 n0) v U'.heap L ∧ FrameEnd U o U' L room_1.cells room_1.slots) := by
  refine own_met (plainFor_of_name pn_0) (fun m => ef_0 m p1 p2 p3 p4 p5) ?_
  intro p e s m below meth c T0 hx hby hml hown hnm hret hlk hZ X0 e0
  have hown : s.vm.findClass "quorate/NodeSetRemovePinLaw" = some m.cls := hown
  have hnm : meth.name = "law" := hnm
  have hret : meth.sig.returnType = some .boolean := hret
  have N0 := Fr.nil n0
  show Go p e below _ (T0.setTop (mkF m 0 #[.val (.int p1), .val (.int p2), .val (.int p3), .val (.int p4), .val (.int p5), .unset, .unset, .unset, .unset, .unset, .unset, .unset, .unset, .unset] []))
  refine go (fun _ q => XS.iload X0.here hx rfl (hb hby at_0) rfl q) ?_
  show Go p e below _ (T0.setTop (mkF m 2 #[.val (.int p1), .val (.int p2), .val (.int p3), .val (.int p4), .val (.int p5), .unset, .unset, .unset, .unset, .unset, .unset, .unset, .unset, .unset] [(.int p5)]))
  refine go (fun _ q => XS.iconst X0.here hx rfl (hb hby at_2) q) ?_
  show Go p e below _ (T0.setTop (mkF m 3 #[.val (.int p1), .val (.int p2), .val (.int p3), .val (.int p4), .val (.int p5), .unset, .unset, .unset, .unset, .unset, .unset, .unset, .unset, .unset] [(.int (3 : Int32)), (.int p5)]))
  refine go (fun _ q => XS.iand X0.here hx rfl (hb hby at_3) rfl q) ?_
  show Go p e below _ (T0.setTop (mkF m 4 #[.val (.int p1), .val (.int p2), .val (.int p3), .val (.int p4), .val (.int p5), .unset, .unset, .unset, .unset, .unset, .unset, .unset, .unset, .unset] [(.int (p5 &&& (3 : Int32)))]))
  generalize hv1 : (p5 &&& (3 : Int32)) = v1
  show Go p e below _ (T0.setTop (mkF m 4 #[.val (.int p1), .val (.int p2), .val (.int p3), .val (.int p4), .val (.int p5), .unset, .unset, .unset, .unset, .unset, .unset, .unset, .unset, .unset] [(.int v1)]))
  refine go (fun _ q => XS.istore X0.here hx rfl (hb hby at_4) rfl (l' := #[.val (.int p1), .val (.int p2), .val (.int p3), .val (.int p4), .val (.int p5), .val (.int v1), .unset, .unset, .unset, .unset, .unset, .unset, .unset, .unset]) rfl q) ?_
  show Go p e below _ (T0.setTop (mkF m 6 #[.val (.int p1), .val (.int p2), .val (.int p3), .val (.int p4), .val (.int p5), .val (.int v1), .unset, .unset, .unset, .unset, .unset, .unset, .unset, .unset] []))
  refine go (fun _ q => XS.iload X0.here hx rfl (hb hby at_6) rfl q) ?_
  show Go p e below _ (T0.setTop (mkF m 8 #[.val (.int p1), .val (.int p2), .val (.int p3), .val (.int p4), .val (.int p5), .val (.int v1), .unset, .unset, .unset, .unset, .unset, .unset, .unset, .unset] [(.int p5)]))
  refine go (fun _ q => XS.iconst X0.here hx rfl (hb hby at_8) q) ?_
  show Go p e below _ (T0.setTop (mkF m 9 #[.val (.int p1), .val (.int p2), .val (.int p3), .val (.int p4), .val (.int p5), .val (.int v1), .unset, .unset, .unset, .unset, .unset, .unset, .unset, .unset] [(.int (2 : Int32)), (.int p5)]))
  refine go (fun _ q => XS.iushr X0.here hx rfl (hb hby at_9) rfl q) ?_
  show Go p e below _ (T0.setTop (mkF m 10 #[.val (.int p1), .val (.int p2), .val (.int p3), .val (.int p4), .val (.int p5), .val (.int v1), .unset, .unset, .unset, .unset, .unset, .unset, .unset, .unset] [(.int (((p5).toUInt32 >>> ((2 : Int32) &&& 31).toUInt32).toInt32))]))
  refine go (fun _ q => XS.iconst X0.here hx rfl (hb hby at_10) q) ?_
  show Go p e below _ (T0.setTop (mkF m 11 #[.val (.int p1), .val (.int p2), .val (.int p3), .val (.int p4), .val (.int p5), .val (.int v1), .unset, .unset, .unset, .unset, .unset, .unset, .unset, .unset] [(.int (3 : Int32)), (.int (((p5).toUInt32 >>> ((2 : Int32) &&& 31).toUInt32).toInt32))]))
  refine go (fun _ q => XS.iand X0.here hx rfl (hb hby at_11) rfl q) ?_
  show Go p e below _ (T0.setTop (mkF m 12 #[.val (.int p1), .val (.int p2), .val (.int p3), .val (.int p4), .val (.int p5), .val (.int v1), .unset, .unset, .unset, .unset, .unset, .unset, .unset, .unset] [(.int ((((p5).toUInt32 >>> ((2 : Int32) &&& 31).toUInt32).toInt32) &&& (3 : Int32)))]))
  generalize hv2 : ((((p5).toUInt32 >>> ((2 : Int32) &&& 31).toUInt32).toInt32) &&& (3 : Int32)) = v2
  show Go p e below _ (T0.setTop (mkF m 12 #[.val (.int p1), .val (.int p2), .val (.int p3), .val (.int p4), .val (.int p5), .val (.int v1), .unset, .unset, .unset, .unset, .unset, .unset, .unset, .unset] [(.int v2)]))
  refine go (fun _ q => XS.istore X0.here hx rfl (hb hby at_12) rfl (l' := #[.val (.int p1), .val (.int p2), .val (.int p3), .val (.int p4), .val (.int p5), .val (.int v1), .val (.int v2), .unset, .unset, .unset, .unset, .unset, .unset, .unset]) rfl q) ?_
  show Go p e below _ (T0.setTop (mkF m 14 #[.val (.int p1), .val (.int p2), .val (.int p3), .val (.int p4), .val (.int p5), .val (.int v1), .val (.int v2), .unset, .unset, .unset, .unset, .unset, .unset, .unset] []))
  refine go (fun _ q => XS.iload X0.here hx rfl (hb hby at_14) rfl q) ?_
  show Go p e below _ (T0.setTop (mkF m 16 #[.val (.int p1), .val (.int p2), .val (.int p3), .val (.int p4), .val (.int p5), .val (.int v1), .val (.int v2), .unset, .unset, .unset, .unset, .unset, .unset, .unset] [(.int v2)]))
  suffices hj3 : ∀ (z7 : Int32), z7 = (if v2 = (0 : Int32) then p1 else (if v2 = (1 : Int32) then p2 else (if v2 = (2 : Int32) then p3 else p4))) → Go p e below (Dn below s ((Q0 n0)) room_1.cells room_1.slots) (T0.setTop (mkF m 44 #[.val (.int p1), .val (.int p2), .val (.int p3), .val (.int p4), .val (.int p5), .val (.int v1), .val (.int v2), .unset, .unset, .unset, .unset, .unset, .unset, .unset] [(.int z7)])) by
    by_cases hc4 : v2 = (0 : Int32)
    · refine go (fun _ q => XS.ifNo X0.here hx rfl (hb hby at_16) rfl ((if0 _ _).trans (teq hc4).2) q) ?_
      show Go p e below _ (T0.setTop (mkF m 19 #[.val (.int p1), .val (.int p2), .val (.int p3), .val (.int p4), .val (.int p5), .val (.int v1), .val (.int v2), .unset, .unset, .unset, .unset, .unset, .unset, .unset] []))
      refine go (fun _ q => XS.iloadN X0.here hx rfl (hb hby at_19) rfl q) ?_
      show Go p e below _ (T0.setTop (mkF m 20 #[.val (.int p1), .val (.int p2), .val (.int p3), .val (.int p4), .val (.int p5), .val (.int v1), .val (.int v2), .unset, .unset, .unset, .unset, .unset, .unset, .unset] [(.int p1)]))
      refine go (fun _ q => XS.goto X0.here hx rfl (pc0 := 20) (pc' := 44) rfl (hb hby at_20) (by decide) (by decide) q) ?_
      show Go p e below _ (T0.setTop (mkF m 44 #[.val (.int p1), .val (.int p2), .val (.int p3), .val (.int p4), .val (.int p5), .val (.int v1), .val (.int v2), .unset, .unset, .unset, .unset, .unset, .unset, .unset] [(.int p1)]))
      exact hj3 _ (by rw [if_pos hc4])
    · refine go (fun _ q => XS.ifYes X0.here hx rfl (pc0 := 16) (pc' := 23) rfl (hb hby at_16) rfl ((if0 _ _).trans (feq hc4).2) (by decide) (by decide) q) ?_
      show Go p e below _ (T0.setTop (mkF m 23 #[.val (.int p1), .val (.int p2), .val (.int p3), .val (.int p4), .val (.int p5), .val (.int v1), .val (.int v2), .unset, .unset, .unset, .unset, .unset, .unset, .unset] []))
      refine go (fun _ q => XS.iload X0.here hx rfl (hb hby at_23) rfl q) ?_
      show Go p e below _ (T0.setTop (mkF m 25 #[.val (.int p1), .val (.int p2), .val (.int p3), .val (.int p4), .val (.int p5), .val (.int v1), .val (.int v2), .unset, .unset, .unset, .unset, .unset, .unset, .unset] [(.int v2)]))
      refine go (fun _ q => XS.iconst X0.here hx rfl (hb hby at_25) q) ?_
      show Go p e below _ (T0.setTop (mkF m 26 #[.val (.int p1), .val (.int p2), .val (.int p3), .val (.int p4), .val (.int p5), .val (.int v1), .val (.int v2), .unset, .unset, .unset, .unset, .unset, .unset, .unset] [(.int (1 : Int32)), (.int v2)]))
      by_cases hc5 : v2 = (1 : Int32)
      · refine go (fun _ q => XS.icmpNo X0.here hx rfl (hb hby at_26) rfl (teq hc5).2 q) ?_
        show Go p e below _ (T0.setTop (mkF m 29 #[.val (.int p1), .val (.int p2), .val (.int p3), .val (.int p4), .val (.int p5), .val (.int v1), .val (.int v2), .unset, .unset, .unset, .unset, .unset, .unset, .unset] []))
        refine go (fun _ q => XS.iloadN X0.here hx rfl (hb hby at_29) rfl q) ?_
        show Go p e below _ (T0.setTop (mkF m 30 #[.val (.int p1), .val (.int p2), .val (.int p3), .val (.int p4), .val (.int p5), .val (.int v1), .val (.int v2), .unset, .unset, .unset, .unset, .unset, .unset, .unset] [(.int p2)]))
        refine go (fun _ q => XS.goto X0.here hx rfl (pc0 := 30) (pc' := 44) rfl (hb hby at_30) (by decide) (by decide) q) ?_
        show Go p e below _ (T0.setTop (mkF m 44 #[.val (.int p1), .val (.int p2), .val (.int p3), .val (.int p4), .val (.int p5), .val (.int v1), .val (.int v2), .unset, .unset, .unset, .unset, .unset, .unset, .unset] [(.int p2)]))
        exact hj3 _ (by rw [if_neg hc4, if_pos hc5])
      · refine go (fun _ q => XS.icmpYes X0.here hx rfl (pc0 := 26) (pc' := 33) rfl (hb hby at_26) rfl (feq hc5).2 (by decide) (by decide) q) ?_
        show Go p e below _ (T0.setTop (mkF m 33 #[.val (.int p1), .val (.int p2), .val (.int p3), .val (.int p4), .val (.int p5), .val (.int v1), .val (.int v2), .unset, .unset, .unset, .unset, .unset, .unset, .unset] []))
        refine go (fun _ q => XS.iload X0.here hx rfl (hb hby at_33) rfl q) ?_
        show Go p e below _ (T0.setTop (mkF m 35 #[.val (.int p1), .val (.int p2), .val (.int p3), .val (.int p4), .val (.int p5), .val (.int v1), .val (.int v2), .unset, .unset, .unset, .unset, .unset, .unset, .unset] [(.int v2)]))
        refine go (fun _ q => XS.iconst X0.here hx rfl (hb hby at_35) q) ?_
        show Go p e below _ (T0.setTop (mkF m 36 #[.val (.int p1), .val (.int p2), .val (.int p3), .val (.int p4), .val (.int p5), .val (.int v1), .val (.int v2), .unset, .unset, .unset, .unset, .unset, .unset, .unset] [(.int (2 : Int32)), (.int v2)]))
        by_cases hc6 : v2 = (2 : Int32)
        · refine go (fun _ q => XS.icmpNo X0.here hx rfl (hb hby at_36) rfl (teq hc6).2 q) ?_
          show Go p e below _ (T0.setTop (mkF m 39 #[.val (.int p1), .val (.int p2), .val (.int p3), .val (.int p4), .val (.int p5), .val (.int v1), .val (.int v2), .unset, .unset, .unset, .unset, .unset, .unset, .unset] []))
          refine go (fun _ q => XS.iloadN X0.here hx rfl (hb hby at_39) rfl q) ?_
          show Go p e below _ (T0.setTop (mkF m 40 #[.val (.int p1), .val (.int p2), .val (.int p3), .val (.int p4), .val (.int p5), .val (.int v1), .val (.int v2), .unset, .unset, .unset, .unset, .unset, .unset, .unset] [(.int p3)]))
          refine go (fun _ q => XS.goto X0.here hx rfl (pc0 := 40) (pc' := 44) rfl (hb hby at_40) (by decide) (by decide) q) ?_
          show Go p e below _ (T0.setTop (mkF m 44 #[.val (.int p1), .val (.int p2), .val (.int p3), .val (.int p4), .val (.int p5), .val (.int v1), .val (.int v2), .unset, .unset, .unset, .unset, .unset, .unset, .unset] [(.int p3)]))
          exact hj3 _ (by rw [if_neg hc4, if_neg hc5, if_pos hc6])
        · refine go (fun _ q => XS.icmpYes X0.here hx rfl (pc0 := 36) (pc' := 43) rfl (hb hby at_36) rfl (feq hc6).2 (by decide) (by decide) q) ?_
          show Go p e below _ (T0.setTop (mkF m 43 #[.val (.int p1), .val (.int p2), .val (.int p3), .val (.int p4), .val (.int p5), .val (.int v1), .val (.int v2), .unset, .unset, .unset, .unset, .unset, .unset, .unset] []))
          refine go (fun _ q => XS.iloadN X0.here hx rfl (hb hby at_43) rfl q) ?_
          show Go p e below _ (T0.setTop (mkF m 44 #[.val (.int p1), .val (.int p2), .val (.int p3), .val (.int p4), .val (.int p5), .val (.int v1), .val (.int v2), .unset, .unset, .unset, .unset, .unset, .unset, .unset] [(.int p4)]))
          exact hj3 _ (by rw [if_neg hc4, if_neg hc5, if_neg hc6])
  intro z7 hz7
  show Go p e below _ (T0.setTop (mkF m 44 #[.val (.int p1), .val (.int p2), .val (.int p3), .val (.int p4), .val (.int p5), .val (.int v1), .val (.int v2), .unset, .unset, .unset, .unset, .unset, .unset, .unset] [(.int z7)]))
  refine go (fun _ q => XS.istore X0.here hx rfl (hb hby at_44) rfl (l' := #[.val (.int p1), .val (.int p2), .val (.int p3), .val (.int p4), .val (.int p5), .val (.int v1), .val (.int v2), .val (.int z7), .unset, .unset, .unset, .unset, .unset, .unset]) rfl q) ?_
  show Go p e below _ (T0.setTop (mkF m 46 #[.val (.int p1), .val (.int p2), .val (.int p3), .val (.int p4), .val (.int p5), .val (.int v1), .val (.int v2), .val (.int z7), .unset, .unset, .unset, .unset, .unset, .unset] []))
  obtain ⟨T8, h8, X8, e8, E8, A8, D8, -, st8⟩ := newO X0 hx hZ hown (hw _ (List.mem_of_getElem? (i := 0) rfl)) (hw _ (List.mem_of_getElem? (i := 1) rfl)) (hw _ (List.mem_of_getElem? (i := 2) rfl)) e0 (g := (mkF m 46 #[.val (.int p1), .val (.int p2), .val (.int p3), .val (.int p4), .val (.int p5), .val (.int v1), .val (.int v2), .val (.int z7), .unset, .unset, .unset, .unset, .unset, .unset] [])) rfl (hb hby at_46) (by decide) (by decide)
  obtain ⟨b8, g8⟩ : ∃ z, z = h0.size := ⟨_, rfl⟩
  rw [← g8] at A8 D8 st8
  refine go st8 ?_
  have g_b8 : n0 ≤ b8 := Nat.le_trans Z0 (Nat.le_of_eq g8.symm)
  have Z8 : n0 ≤ h8.size := Nat.le_trans Z0 E8.1
  have F_members_b8 : Fld Z h8 b8 "quorate/NodeSet" "members" "[I" .null := D8 (Or.inl (hw _ (List.mem_of_getElem? (i := 11) rfl))) (ty := (.array .int)) (by decide)
  have F_size_b8 : Fld Z h8 b8 "quorate/NodeSet" "size" "I" (.int (0 : Int32)) := D8 (Or.inl (hw _ (List.mem_of_getElem? (i := 18) rfl))) (ty := .int) (by decide)
  show Go p e below _ (T8.setTop (mkF m 49 #[.val (.int p1), .val (.int p2), .val (.int p3), .val (.int p4), .val (.int p5), .val (.int v1), .val (.int v2), .val (.int z7), .unset, .unset, .unset, .unset, .unset, .unset] [(.ref b8)]))
  refine go (fun _ q => XS.dup X8.here hx rfl (hb hby at_49) rfl rfl q) ?_
  show Go p e below _ (T8.setTop (mkF m 50 #[.val (.int p1), .val (.int p2), .val (.int p3), .val (.int p4), .val (.int p5), .val (.int v1), .val (.int v2), .val (.int z7), .unset, .unset, .unset, .unset, .unset, .unset] [(.ref b8), (.ref b8)]))
  refine own_callC X8 hx hZ hown e8 (hw _ (List.mem_of_getElem? (i := 3) rfl)) (hw _ (List.mem_of_getElem? (i := 4) rfl)) (hw _ (List.mem_of_getElem? (i := 2) rfl)) (hw _ (List.mem_of_getElem? (i := 5) rfl)) (rmN l Z a0 hw [] b8 h8 n0 Z8 g_b8 A8 F_members_b8 F_size_b8) rfl (by decide) (by decide) (W := 1) (by decide) (by decide) (by decide) (a := b8) (g := (mkF m 50 #[.val (.int p1), .val (.int p2), .val (.int p3), .val (.int p4), .val (.int p5), .val (.int v1), .val (.int v2), .val (.int z7), .unset, .unset, .unset, .unset, .unset, .unset] [(.ref b8), (.ref b8)])) rfl (by rw [hml]; rfl) (argsL := []) (rest := [(.ref b8)]) rfl rfl (lenOf pd_0_0 rfl) (by show 2 * 0 + _ ≤ _; exact Nat.le_of_eq rfl) (hb hby at_50) ?_
  rintro _ T9 L9 X9 ⟨rfl, N9q, Zq9, Pq9⟩
  have N9 := Fr.app N0 N9q
  show Go p e below _ (T9.setTop (mkF m 53 #[.val (.int p1), .val (.int p2), .val (.int p3), .val (.int p4), .val (.int p5), .val (.int v1), .val (.int v2), .val (.int z7), .unset, .unset, .unset, .unset, .unset, .unset] [(.ref b8)]))
  refine go (fun _ q => XS.astore X9.here hx rfl (hb hby at_53) rfl rfl (l' := #[.val (.int p1), .val (.int p2), .val (.int p3), .val (.int p4), .val (.int p5), .val (.int v1), .val (.int v2), .val (.int z7), .val (.ref b8), .unset, .unset, .unset, .unset, .unset]) rfl q) ?_
  show Go p e below _ (T9.setTop (mkF m 55 #[.val (.int p1), .val (.int p2), .val (.int p3), .val (.int p4), .val (.int p5), .val (.int v1), .val (.int v2), .val (.int z7), .val (.ref b8), .unset, .unset, .unset, .unset, .unset] []))
  refine go (fun _ q => XS.iload X9.here hx rfl (hb hby at_55) rfl q) ?_
  show Go p e below _ (T9.setTop (mkF m 57 #[.val (.int p1), .val (.int p2), .val (.int p3), .val (.int p4), .val (.int p5), .val (.int v1), .val (.int v2), .val (.int z7), .val (.ref b8), .unset, .unset, .unset, .unset, .unset] [(.int v1)]))
  suffices hj10 : ∀ (T13 : State) (L13 : List Loc), Stand p l e room_1 s m #[(.int p1), (.int p2), (.int p3), (.int p4), (.int p5)] below meth c T13 L13 2 6 → Fr n0 L13 → n0 ≤ T13.heap.size → ∀ (xs14 : List Int32), NSet Z T13.heap n0 b8 xs14 → xs14 = (if (0 : Int32) < v1 then (own_add ([] : List Int32) p1) else ([] : List Int32)) → Go p e below (Dn below s ((Q0 n0)) room_1.cells room_1.slots) (T13.setTop (mkF m 67 #[.val (.int p1), .val (.int p2), .val (.int p3), .val (.int p4), .val (.int p5), .val (.int v1), .val (.int v2), .val (.int z7), .val (.ref b8), .unset, .unset, .unset, .unset, .unset] [])) by
    by_cases hc11 : (0 : Int32) < v1
    · refine go (fun _ q => XS.ifNo X9.here hx rfl (hb hby at_57) rfl ((if0 _ _).trans (tlt hc11).2.2.2) q) ?_
      show Go p e below _ (T9.setTop (mkF m 60 #[.val (.int p1), .val (.int p2), .val (.int p3), .val (.int p4), .val (.int p5), .val (.int v1), .val (.int v2), .val (.int z7), .val (.ref b8), .unset, .unset, .unset, .unset, .unset] []))
      refine go (fun _ q => XS.aload X9.here hx rfl (hb hby at_60) rfl rfl q) ?_
      show Go p e below _ (T9.setTop (mkF m 62 #[.val (.int p1), .val (.int p2), .val (.int p3), .val (.int p4), .val (.int p5), .val (.int v1), .val (.int v2), .val (.int z7), .val (.ref b8), .unset, .unset, .unset, .unset, .unset] [(.ref b8)]))
      refine go (fun _ q => XS.iloadN X9.here hx rfl (hb hby at_62) rfl q) ?_
      show Go p e below _ (T9.setTop (mkF m 63 #[.val (.int p1), .val (.int p2), .val (.int p3), .val (.int p4), .val (.int p5), .val (.int v1), .val (.int v2), .val (.int z7), .val (.ref b8), .unset, .unset, .unset, .unset, .unset] [(.int p1), (.ref b8)]))
      refine own_callV X9 hx hZ hown rfl (hw _ (List.mem_of_getElem? (i := 33) rfl)) (hw _ (List.mem_of_getElem? (i := 34) rfl)) (hw _ (List.mem_of_getElem? (i := 35) rfl)) (hw _ (List.mem_of_getElem? (i := 36) rfl)) (hw _ (List.mem_of_getElem? (i := 2) rfl)) (hw _ (List.mem_of_getElem? (i := 37) rfl)) (rmA l Z a0 hw [] b8 p1 T9.heap n0 ([] : List Int32) (Nat.zero_le _) Zq9 Pq9) (by decide) (by decide) (W := 0) (by decide) (by decide) (by decide) (a := b8) (own_exa Pq9) (g := (mkF m 63 #[.val (.int p1), .val (.int p2), .val (.int p3), .val (.int p4), .val (.int p5), .val (.int v1), .val (.int v2), .val (.int z7), .val (.ref b8), .unset, .unset, .unset, .unset, .unset] [(.int p1), (.ref b8)])) rfl (by rw [hml]; rfl) (argsL := [(.int p1)]) (rest := []) rfl rfl (lenOf pd_0_1 rfl) (by show 2 * 0 + _ ≤ _; exact Nat.le_of_eq rfl) (hb hby at_63) ?_
      rintro _ T12 L12 X12 ⟨rfl, N12q, Zq12, Pq12⟩
      have N12 := Fr.app N9 N12q
      show Go p e below _ (T12.setTop (mkF m 66 #[.val (.int p1), .val (.int p2), .val (.int p3), .val (.int p4), .val (.int p5), .val (.int v1), .val (.int v2), .val (.int z7), .val (.ref b8), .unset, .unset, .unset, .unset, .unset] [(.int (if p1 ∈ ([] : List Int32) then (0 : Int32) else (1 : Int32)))]))
      refine go (fun _ q => XS.pop X12.here hx rfl (hb hby at_66) rfl rfl q) ?_
      show Go p e below _ (T12.setTop (mkF m 67 #[.val (.int p1), .val (.int p2), .val (.int p3), .val (.int p4), .val (.int p5), .val (.int v1), .val (.int v2), .val (.int z7), .val (.ref b8), .unset, .unset, .unset, .unset, .unset] []))
      exact hj10 T12 _ X12 N12 Zq12 _ Pq12 (by rw [if_pos hc11])
    · refine go (fun _ q => XS.ifYes X9.here hx rfl (pc0 := 57) (pc' := 67) rfl (hb hby at_57) rfl ((if0 _ _).trans (flt hc11).2.2.2) (by decide) (by decide) q) ?_
      show Go p e below _ (T9.setTop (mkF m 67 #[.val (.int p1), .val (.int p2), .val (.int p3), .val (.int p4), .val (.int p5), .val (.int v1), .val (.int v2), .val (.int z7), .val (.ref b8), .unset, .unset, .unset, .unset, .unset] []))
      exact hj10 T9 _ X9 N9 Zq9 _ Pq9 (by rw [if_neg hc11])
  intro T13 L13 X13 N13 Z13 xs14 Pxs14 hxs14
  show Go p e below _ (T13.setTop (mkF m 67 #[.val (.int p1), .val (.int p2), .val (.int p3), .val (.int p4), .val (.int p5), .val (.int v1), .val (.int v2), .val (.int z7), .val (.ref b8), .unset, .unset, .unset, .unset, .unset] []))
  have own_l1 := own_len1 hxs14
  refine go (fun _ q => XS.iload X13.here hx rfl (hb hby at_67) rfl q) ?_
  show Go p e below _ (T13.setTop (mkF m 69 #[.val (.int p1), .val (.int p2), .val (.int p3), .val (.int p4), .val (.int p5), .val (.int v1), .val (.int v2), .val (.int z7), .val (.ref b8), .unset, .unset, .unset, .unset, .unset] [(.int v1)]))
  refine go (fun _ q => XS.iconst X13.here hx rfl (hb hby at_69) q) ?_
  show Go p e below _ (T13.setTop (mkF m 70 #[.val (.int p1), .val (.int p2), .val (.int p3), .val (.int p4), .val (.int p5), .val (.int v1), .val (.int v2), .val (.int z7), .val (.ref b8), .unset, .unset, .unset, .unset, .unset] [(.int (1 : Int32)), (.int v1)]))
  suffices hj15 : ∀ (T18 : State) (L18 : List Loc), Stand p l e room_1 s m #[(.int p1), (.int p2), (.int p3), (.int p4), (.int p5)] below meth c T18 L18 2 6 → Fr n0 L18 → n0 ≤ T18.heap.size → ∀ (xs19 : List Int32), NSet Z T18.heap n0 b8 xs19 → xs19 = (if (1 : Int32) < v1 then (own_add xs14 p2) else xs14) → Go p e below (Dn below s ((Q0 n0)) room_1.cells room_1.slots) (T18.setTop (mkF m 80 #[.val (.int p1), .val (.int p2), .val (.int p3), .val (.int p4), .val (.int p5), .val (.int v1), .val (.int v2), .val (.int z7), .val (.ref b8), .unset, .unset, .unset, .unset, .unset] [])) by
    by_cases hc16 : (1 : Int32) < v1
    · refine go (fun _ q => XS.icmpNo X13.here hx rfl (hb hby at_70) rfl (tlt hc16).2.2.2 q) ?_
      show Go p e below _ (T13.setTop (mkF m 73 #[.val (.int p1), .val (.int p2), .val (.int p3), .val (.int p4), .val (.int p5), .val (.int v1), .val (.int v2), .val (.int z7), .val (.ref b8), .unset, .unset, .unset, .unset, .unset] []))
      refine go (fun _ q => XS.aload X13.here hx rfl (hb hby at_73) rfl rfl q) ?_
      show Go p e below _ (T13.setTop (mkF m 75 #[.val (.int p1), .val (.int p2), .val (.int p3), .val (.int p4), .val (.int p5), .val (.int v1), .val (.int v2), .val (.int z7), .val (.ref b8), .unset, .unset, .unset, .unset, .unset] [(.ref b8)]))
      refine go (fun _ q => XS.iloadN X13.here hx rfl (hb hby at_75) rfl q) ?_
      show Go p e below _ (T13.setTop (mkF m 76 #[.val (.int p1), .val (.int p2), .val (.int p3), .val (.int p4), .val (.int p5), .val (.int v1), .val (.int v2), .val (.int z7), .val (.ref b8), .unset, .unset, .unset, .unset, .unset] [(.int p2), (.ref b8)]))
      refine own_callV X13 hx hZ hown rfl (hw _ (List.mem_of_getElem? (i := 33) rfl)) (hw _ (List.mem_of_getElem? (i := 34) rfl)) (hw _ (List.mem_of_getElem? (i := 35) rfl)) (hw _ (List.mem_of_getElem? (i := 36) rfl)) (hw _ (List.mem_of_getElem? (i := 2) rfl)) (hw _ (List.mem_of_getElem? (i := 37) rfl)) (rmA l Z a0 hw [] b8 p2 T13.heap n0 xs14 (Nat.le_succ_of_le own_l1) Z13 Pxs14) (by decide) (by decide) (W := 0) (by decide) (by decide) (by decide) (a := b8) (own_exa Pxs14) (g := (mkF m 76 #[.val (.int p1), .val (.int p2), .val (.int p3), .val (.int p4), .val (.int p5), .val (.int v1), .val (.int v2), .val (.int z7), .val (.ref b8), .unset, .unset, .unset, .unset, .unset] [(.int p2), (.ref b8)])) rfl (by rw [hml]; rfl) (argsL := [(.int p2)]) (rest := []) rfl rfl (lenOf pd_0_1 rfl) (by show 2 * 0 + _ ≤ _; exact Nat.le_of_eq rfl) (hb hby at_76) ?_
      rintro _ T17 L17 X17 ⟨rfl, N17q, Zq17, Pq17⟩
      have N17 := Fr.app N13 N17q
      show Go p e below _ (T17.setTop (mkF m 79 #[.val (.int p1), .val (.int p2), .val (.int p3), .val (.int p4), .val (.int p5), .val (.int v1), .val (.int v2), .val (.int z7), .val (.ref b8), .unset, .unset, .unset, .unset, .unset] [(.int (if p2 ∈ xs14 then (0 : Int32) else (1 : Int32)))]))
      refine go (fun _ q => XS.pop X17.here hx rfl (hb hby at_79) rfl rfl q) ?_
      show Go p e below _ (T17.setTop (mkF m 80 #[.val (.int p1), .val (.int p2), .val (.int p3), .val (.int p4), .val (.int p5), .val (.int v1), .val (.int v2), .val (.int z7), .val (.ref b8), .unset, .unset, .unset, .unset, .unset] []))
      exact hj15 T17 _ X17 N17 Zq17 _ Pq17 (by rw [if_pos hc16])
    · refine go (fun _ q => XS.icmpYes X13.here hx rfl (pc0 := 70) (pc' := 80) rfl (hb hby at_70) rfl (flt hc16).2.2.2 (by decide) (by decide) q) ?_
      show Go p e below _ (T13.setTop (mkF m 80 #[.val (.int p1), .val (.int p2), .val (.int p3), .val (.int p4), .val (.int p5), .val (.int v1), .val (.int v2), .val (.int z7), .val (.ref b8), .unset, .unset, .unset, .unset, .unset] []))
      exact hj15 T13 _ X13 N13 Z13 _ Pxs14 (by rw [if_neg hc16])
  intro T18 L18 X18 N18 Z18 xs19 Pxs19 hxs19
  show Go p e below _ (T18.setTop (mkF m 80 #[.val (.int p1), .val (.int p2), .val (.int p3), .val (.int p4), .val (.int p5), .val (.int v1), .val (.int v2), .val (.int z7), .val (.ref b8), .unset, .unset, .unset, .unset, .unset] []))
  have own_l2 := own_len2 own_l1 hxs19
  refine go (fun _ q => XS.iload X18.here hx rfl (hb hby at_80) rfl q) ?_
  show Go p e below _ (T18.setTop (mkF m 82 #[.val (.int p1), .val (.int p2), .val (.int p3), .val (.int p4), .val (.int p5), .val (.int v1), .val (.int v2), .val (.int z7), .val (.ref b8), .unset, .unset, .unset, .unset, .unset] [(.int v1)]))
  refine go (fun _ q => XS.iconst X18.here hx rfl (hb hby at_82) q) ?_
  show Go p e below _ (T18.setTop (mkF m 83 #[.val (.int p1), .val (.int p2), .val (.int p3), .val (.int p4), .val (.int p5), .val (.int v1), .val (.int v2), .val (.int z7), .val (.ref b8), .unset, .unset, .unset, .unset, .unset] [(.int (2 : Int32)), (.int v1)]))
  suffices hj20 : ∀ (T23 : State) (L23 : List Loc), Stand p l e room_1 s m #[(.int p1), (.int p2), (.int p3), (.int p4), (.int p5)] below meth c T23 L23 2 6 → Fr n0 L23 → n0 ≤ T23.heap.size → ∀ (xs24 : List Int32), NSet Z T23.heap n0 b8 xs24 → xs24 = (if (2 : Int32) < v1 then (own_add xs19 p3) else xs19) → Go p e below (Dn below s ((Q0 n0)) room_1.cells room_1.slots) (T23.setTop (mkF m 93 #[.val (.int p1), .val (.int p2), .val (.int p3), .val (.int p4), .val (.int p5), .val (.int v1), .val (.int v2), .val (.int z7), .val (.ref b8), .unset, .unset, .unset, .unset, .unset] [])) by
    by_cases hc21 : (2 : Int32) < v1
    · refine go (fun _ q => XS.icmpNo X18.here hx rfl (hb hby at_83) rfl (tlt hc21).2.2.2 q) ?_
      show Go p e below _ (T18.setTop (mkF m 86 #[.val (.int p1), .val (.int p2), .val (.int p3), .val (.int p4), .val (.int p5), .val (.int v1), .val (.int v2), .val (.int z7), .val (.ref b8), .unset, .unset, .unset, .unset, .unset] []))
      refine go (fun _ q => XS.aload X18.here hx rfl (hb hby at_86) rfl rfl q) ?_
      show Go p e below _ (T18.setTop (mkF m 88 #[.val (.int p1), .val (.int p2), .val (.int p3), .val (.int p4), .val (.int p5), .val (.int v1), .val (.int v2), .val (.int z7), .val (.ref b8), .unset, .unset, .unset, .unset, .unset] [(.ref b8)]))
      refine go (fun _ q => XS.iloadN X18.here hx rfl (hb hby at_88) rfl q) ?_
      show Go p e below _ (T18.setTop (mkF m 89 #[.val (.int p1), .val (.int p2), .val (.int p3), .val (.int p4), .val (.int p5), .val (.int v1), .val (.int v2), .val (.int z7), .val (.ref b8), .unset, .unset, .unset, .unset, .unset] [(.int p3), (.ref b8)]))
      refine own_callV X18 hx hZ hown rfl (hw _ (List.mem_of_getElem? (i := 33) rfl)) (hw _ (List.mem_of_getElem? (i := 34) rfl)) (hw _ (List.mem_of_getElem? (i := 35) rfl)) (hw _ (List.mem_of_getElem? (i := 36) rfl)) (hw _ (List.mem_of_getElem? (i := 2) rfl)) (hw _ (List.mem_of_getElem? (i := 37) rfl)) (rmA l Z a0 hw [] b8 p3 T18.heap n0 xs19 own_l2 Z18 Pxs19) (by decide) (by decide) (W := 0) (by decide) (by decide) (by decide) (a := b8) (own_exa Pxs19) (g := (mkF m 89 #[.val (.int p1), .val (.int p2), .val (.int p3), .val (.int p4), .val (.int p5), .val (.int v1), .val (.int v2), .val (.int z7), .val (.ref b8), .unset, .unset, .unset, .unset, .unset] [(.int p3), (.ref b8)])) rfl (by rw [hml]; rfl) (argsL := [(.int p3)]) (rest := []) rfl rfl (lenOf pd_0_1 rfl) (by show 2 * 0 + _ ≤ _; exact Nat.le_of_eq rfl) (hb hby at_89) ?_
      rintro _ T22 L22 X22 ⟨rfl, N22q, Zq22, Pq22⟩
      have N22 := Fr.app N18 N22q
      show Go p e below _ (T22.setTop (mkF m 92 #[.val (.int p1), .val (.int p2), .val (.int p3), .val (.int p4), .val (.int p5), .val (.int v1), .val (.int v2), .val (.int z7), .val (.ref b8), .unset, .unset, .unset, .unset, .unset] [(.int (if p3 ∈ xs19 then (0 : Int32) else (1 : Int32)))]))
      refine go (fun _ q => XS.pop X22.here hx rfl (hb hby at_92) rfl rfl q) ?_
      show Go p e below _ (T22.setTop (mkF m 93 #[.val (.int p1), .val (.int p2), .val (.int p3), .val (.int p4), .val (.int p5), .val (.int v1), .val (.int v2), .val (.int z7), .val (.ref b8), .unset, .unset, .unset, .unset, .unset] []))
      exact hj20 T22 _ X22 N22 Zq22 _ Pq22 (by rw [if_pos hc21])
    · refine go (fun _ q => XS.icmpYes X18.here hx rfl (pc0 := 83) (pc' := 93) rfl (hb hby at_83) rfl (flt hc21).2.2.2 (by decide) (by decide) q) ?_
      show Go p e below _ (T18.setTop (mkF m 93 #[.val (.int p1), .val (.int p2), .val (.int p3), .val (.int p4), .val (.int p5), .val (.int v1), .val (.int v2), .val (.int z7), .val (.ref b8), .unset, .unset, .unset, .unset, .unset] []))
      exact hj20 T18 _ X18 N18 Z18 _ Pxs19 (by rw [if_neg hc21])
  intro T23 L23 X23 N23 Z23 xs24 Pxs24 hxs24
  show Go p e below _ (T23.setTop (mkF m 93 #[.val (.int p1), .val (.int p2), .val (.int p3), .val (.int p4), .val (.int p5), .val (.int v1), .val (.int v2), .val (.int z7), .val (.ref b8), .unset, .unset, .unset, .unset, .unset] []))
  have own_l3 := own_len3 own_l2 hxs24
  refine go (fun _ q => XS.aload X23.here hx rfl (hb hby at_93) rfl rfl q) ?_
  show Go p e below _ (T23.setTop (mkF m 95 #[.val (.int p1), .val (.int p2), .val (.int p3), .val (.int p4), .val (.int p5), .val (.int v1), .val (.int v2), .val (.int z7), .val (.ref b8), .unset, .unset, .unset, .unset, .unset] [(.ref b8)]))
  refine go (fun _ q => XS.iload X23.here hx rfl (hb hby at_95) rfl q) ?_
  show Go p e below _ (T23.setTop (mkF m 97 #[.val (.int p1), .val (.int p2), .val (.int p3), .val (.int p4), .val (.int p5), .val (.int v1), .val (.int v2), .val (.int z7), .val (.ref b8), .unset, .unset, .unset, .unset, .unset] [(.int z7), (.ref b8)]))
  refine own_callV X23 hx hZ hown rfl (hw _ (List.mem_of_getElem? (i := 12) rfl)) (hw _ (List.mem_of_getElem? (i := 13) rfl)) (hw _ (List.mem_of_getElem? (i := 14) rfl)) (hw _ (List.mem_of_getElem? (i := 15) rfl)) (hw _ (List.mem_of_getElem? (i := 2) rfl)) (hw _ (List.mem_of_getElem? (i := 16) rfl)) (rmR l Z a0 hw [] b8 z7 T23.heap n0 xs24 own_l3 Z23 Pxs24) (by decide) (by decide) (W := 0) (by decide) (by decide) (by decide) (a := b8) (own_exa Pxs24) (g := (mkF m 97 #[.val (.int p1), .val (.int p2), .val (.int p3), .val (.int p4), .val (.int p5), .val (.int v1), .val (.int v2), .val (.int z7), .val (.ref b8), .unset, .unset, .unset, .unset, .unset] [(.int z7), (.ref b8)])) rfl (by rw [hml]; rfl) (argsL := [(.int z7)]) (rest := []) rfl rfl (lenOf pd_0_2 rfl) (by show 2 * 0 + _ ≤ _; exact Nat.le_of_eq rfl) (hb hby at_97) ?_
  rintro _ T25 L25 X25 ⟨rfl, N25q, Zq25, Pq25⟩
  have N25 := Fr.app N23 N25q
  show Go p e below _ (T25.setTop (mkF m 100 #[.val (.int p1), .val (.int p2), .val (.int p3), .val (.int p4), .val (.int p5), .val (.int v1), .val (.int v2), .val (.int z7), .val (.ref b8), .unset, .unset, .unset, .unset, .unset] []))
  have own_l4 := own_len4 own_l3 z7
  refine go (fun _ q => XS.iload X25.here hx rfl (hb hby at_100) rfl q) ?_
  show Go p e below _ (T25.setTop (mkF m 102 #[.val (.int p1), .val (.int p2), .val (.int p3), .val (.int p4), .val (.int p5), .val (.int v1), .val (.int v2), .val (.int z7), .val (.ref b8), .unset, .unset, .unset, .unset, .unset] [(.int v1)]))
  suffices hj26 : ∀ (z28 : Int32), z28 = (if (0 : Int32) < v1 then (1 : Int32) else (0 : Int32)) → Go p e below (Dn below s ((Q0 n0)) room_1.cells room_1.slots) (T25.setTop (mkF m 110 #[.val (.int p1), .val (.int p2), .val (.int p3), .val (.int p4), .val (.int p5), .val (.int v1), .val (.int v2), .val (.int z7), .val (.ref b8), .unset, .unset, .unset, .unset, .unset] [(.int z28)])) by
    by_cases hc27 : (0 : Int32) < v1
    · refine go (fun _ q => XS.ifNo X25.here hx rfl (hb hby at_102) rfl ((if0 _ _).trans (tlt hc27).2.2.2) q) ?_
      show Go p e below _ (T25.setTop (mkF m 105 #[.val (.int p1), .val (.int p2), .val (.int p3), .val (.int p4), .val (.int p5), .val (.int v1), .val (.int v2), .val (.int z7), .val (.ref b8), .unset, .unset, .unset, .unset, .unset] []))
      refine go (fun _ q => XS.iconst X25.here hx rfl (hb hby at_105) q) ?_
      show Go p e below _ (T25.setTop (mkF m 106 #[.val (.int p1), .val (.int p2), .val (.int p3), .val (.int p4), .val (.int p5), .val (.int v1), .val (.int v2), .val (.int z7), .val (.ref b8), .unset, .unset, .unset, .unset, .unset] [(.int (1 : Int32))]))
      refine go (fun _ q => XS.goto X25.here hx rfl (pc0 := 106) (pc' := 110) rfl (hb hby at_106) (by decide) (by decide) q) ?_
      show Go p e below _ (T25.setTop (mkF m 110 #[.val (.int p1), .val (.int p2), .val (.int p3), .val (.int p4), .val (.int p5), .val (.int v1), .val (.int v2), .val (.int z7), .val (.ref b8), .unset, .unset, .unset, .unset, .unset] [(.int (1 : Int32))]))
      exact hj26 _ (by rw [if_pos hc27])
    · refine go (fun _ q => XS.ifYes X25.here hx rfl (pc0 := 102) (pc' := 109) rfl (hb hby at_102) rfl ((if0 _ _).trans (flt hc27).2.2.2) (by decide) (by decide) q) ?_
      show Go p e below _ (T25.setTop (mkF m 109 #[.val (.int p1), .val (.int p2), .val (.int p3), .val (.int p4), .val (.int p5), .val (.int v1), .val (.int v2), .val (.int z7), .val (.ref b8), .unset, .unset, .unset, .unset, .unset] []))
      refine go (fun _ q => XS.iconst X25.here hx rfl (hb hby at_109) q) ?_
      show Go p e below _ (T25.setTop (mkF m 110 #[.val (.int p1), .val (.int p2), .val (.int p3), .val (.int p4), .val (.int p5), .val (.int v1), .val (.int v2), .val (.int z7), .val (.ref b8), .unset, .unset, .unset, .unset, .unset] [(.int (0 : Int32))]))
      exact hj26 _ (by rw [if_neg hc27])
  intro z28 hz28
  show Go p e below _ (T25.setTop (mkF m 110 #[.val (.int p1), .val (.int p2), .val (.int p3), .val (.int p4), .val (.int p5), .val (.int v1), .val (.int v2), .val (.int z7), .val (.ref b8), .unset, .unset, .unset, .unset, .unset] [(.int z28)]))
  refine go (fun _ q => XS.iload X25.here hx rfl (hb hby at_110) rfl q) ?_
  show Go p e below _ (T25.setTop (mkF m 112 #[.val (.int p1), .val (.int p2), .val (.int p3), .val (.int p4), .val (.int p5), .val (.int v1), .val (.int v2), .val (.int z7), .val (.ref b8), .unset, .unset, .unset, .unset, .unset] [(.int v1), (.int z28)]))
  refine go (fun _ q => XS.iconst X25.here hx rfl (hb hby at_112) q) ?_
  show Go p e below _ (T25.setTop (mkF m 113 #[.val (.int p1), .val (.int p2), .val (.int p3), .val (.int p4), .val (.int p5), .val (.int v1), .val (.int v2), .val (.int z7), .val (.ref b8), .unset, .unset, .unset, .unset, .unset] [(.int (1 : Int32)), (.int v1), (.int z28)]))
  suffices hj29 : ∀ (z32 : Int32), z32 = (if (1 : Int32) < v1 then (if p2 = p1 then (0 : Int32) else (1 : Int32)) else (0 : Int32)) → Go p e below (Dn below s ((Q0 n0)) room_1.cells room_1.slots) (T25.setTop (mkF m 126 #[.val (.int p1), .val (.int p2), .val (.int p3), .val (.int p4), .val (.int p5), .val (.int v1), .val (.int v2), .val (.int z7), .val (.ref b8), .unset, .unset, .unset, .unset, .unset] [(.int z32), (.int z28)])) by
    by_cases hc30 : (1 : Int32) < v1
    · refine go (fun _ q => XS.icmpNo X25.here hx rfl (hb hby at_113) rfl (tlt hc30).2.2.2 q) ?_
      show Go p e below _ (T25.setTop (mkF m 116 #[.val (.int p1), .val (.int p2), .val (.int p3), .val (.int p4), .val (.int p5), .val (.int v1), .val (.int v2), .val (.int z7), .val (.ref b8), .unset, .unset, .unset, .unset, .unset] [(.int z28)]))
      refine go (fun _ q => XS.iloadN X25.here hx rfl (hb hby at_116) rfl q) ?_
      show Go p e below _ (T25.setTop (mkF m 117 #[.val (.int p1), .val (.int p2), .val (.int p3), .val (.int p4), .val (.int p5), .val (.int v1), .val (.int v2), .val (.int z7), .val (.ref b8), .unset, .unset, .unset, .unset, .unset] [(.int p2), (.int z28)]))
      refine go (fun _ q => XS.iloadN X25.here hx rfl (hb hby at_117) rfl q) ?_
      show Go p e below _ (T25.setTop (mkF m 118 #[.val (.int p1), .val (.int p2), .val (.int p3), .val (.int p4), .val (.int p5), .val (.int v1), .val (.int v2), .val (.int z7), .val (.ref b8), .unset, .unset, .unset, .unset, .unset] [(.int p1), (.int p2), (.int z28)]))
      by_cases hc31 : p2 = p1
      · refine go (fun _ q => XS.icmpYes X25.here hx rfl (pc0 := 118) (pc' := 125) rfl (hb hby at_118) rfl (teq hc31).1 (by decide) (by decide) q) ?_
        show Go p e below _ (T25.setTop (mkF m 125 #[.val (.int p1), .val (.int p2), .val (.int p3), .val (.int p4), .val (.int p5), .val (.int v1), .val (.int v2), .val (.int z7), .val (.ref b8), .unset, .unset, .unset, .unset, .unset] [(.int z28)]))
        refine go (fun _ q => XS.iconst X25.here hx rfl (hb hby at_125) q) ?_
        show Go p e below _ (T25.setTop (mkF m 126 #[.val (.int p1), .val (.int p2), .val (.int p3), .val (.int p4), .val (.int p5), .val (.int v1), .val (.int v2), .val (.int z7), .val (.ref b8), .unset, .unset, .unset, .unset, .unset] [(.int (0 : Int32)), (.int z28)]))
        exact hj29 _ (by rw [if_pos hc30, if_pos hc31])
      · refine go (fun _ q => XS.icmpNo X25.here hx rfl (hb hby at_118) rfl (feq hc31).1 q) ?_
        show Go p e below _ (T25.setTop (mkF m 121 #[.val (.int p1), .val (.int p2), .val (.int p3), .val (.int p4), .val (.int p5), .val (.int v1), .val (.int v2), .val (.int z7), .val (.ref b8), .unset, .unset, .unset, .unset, .unset] [(.int z28)]))
        refine go (fun _ q => XS.iconst X25.here hx rfl (hb hby at_121) q) ?_
        show Go p e below _ (T25.setTop (mkF m 122 #[.val (.int p1), .val (.int p2), .val (.int p3), .val (.int p4), .val (.int p5), .val (.int v1), .val (.int v2), .val (.int z7), .val (.ref b8), .unset, .unset, .unset, .unset, .unset] [(.int (1 : Int32)), (.int z28)]))
        refine go (fun _ q => XS.goto X25.here hx rfl (pc0 := 122) (pc' := 126) rfl (hb hby at_122) (by decide) (by decide) q) ?_
        show Go p e below _ (T25.setTop (mkF m 126 #[.val (.int p1), .val (.int p2), .val (.int p3), .val (.int p4), .val (.int p5), .val (.int v1), .val (.int v2), .val (.int z7), .val (.ref b8), .unset, .unset, .unset, .unset, .unset] [(.int (1 : Int32)), (.int z28)]))
        exact hj29 _ (by rw [if_pos hc30, if_neg hc31])
    · refine go (fun _ q => XS.icmpYes X25.here hx rfl (pc0 := 113) (pc' := 125) rfl (hb hby at_113) rfl (flt hc30).2.2.2 (by decide) (by decide) q) ?_
      show Go p e below _ (T25.setTop (mkF m 125 #[.val (.int p1), .val (.int p2), .val (.int p3), .val (.int p4), .val (.int p5), .val (.int v1), .val (.int v2), .val (.int z7), .val (.ref b8), .unset, .unset, .unset, .unset, .unset] [(.int z28)]))
      refine go (fun _ q => XS.iconst X25.here hx rfl (hb hby at_125) q) ?_
      show Go p e below _ (T25.setTop (mkF m 126 #[.val (.int p1), .val (.int p2), .val (.int p3), .val (.int p4), .val (.int p5), .val (.int v1), .val (.int v2), .val (.int z7), .val (.ref b8), .unset, .unset, .unset, .unset, .unset] [(.int (0 : Int32)), (.int z28)]))
      exact hj29 _ (by rw [if_neg hc30])
  intro z32 hz32
  show Go p e below _ (T25.setTop (mkF m 126 #[.val (.int p1), .val (.int p2), .val (.int p3), .val (.int p4), .val (.int p5), .val (.int v1), .val (.int v2), .val (.int z7), .val (.ref b8), .unset, .unset, .unset, .unset, .unset] [(.int z32), (.int z28)]))
  refine go (fun _ q => XS.iadd X25.here hx rfl (hb hby at_126) rfl q) ?_
  show Go p e below _ (T25.setTop (mkF m 127 #[.val (.int p1), .val (.int p2), .val (.int p3), .val (.int p4), .val (.int p5), .val (.int v1), .val (.int v2), .val (.int z7), .val (.ref b8), .unset, .unset, .unset, .unset, .unset] [(.int (z28 + z32))]))
  refine go (fun _ q => XS.iload X25.here hx rfl (hb hby at_127) rfl q) ?_
  show Go p e below _ (T25.setTop (mkF m 129 #[.val (.int p1), .val (.int p2), .val (.int p3), .val (.int p4), .val (.int p5), .val (.int v1), .val (.int v2), .val (.int z7), .val (.ref b8), .unset, .unset, .unset, .unset, .unset] [(.int v1), (.int (z28 + z32))]))
  refine go (fun _ q => XS.iconst X25.here hx rfl (hb hby at_129) q) ?_
  show Go p e below _ (T25.setTop (mkF m 130 #[.val (.int p1), .val (.int p2), .val (.int p3), .val (.int p4), .val (.int p5), .val (.int v1), .val (.int v2), .val (.int z7), .val (.ref b8), .unset, .unset, .unset, .unset, .unset] [(.int (2 : Int32)), (.int v1), (.int (z28 + z32))]))
  suffices hj33 : ∀ (z37 : Int32), z37 = (if (2 : Int32) < v1 then (if p3 = p1 then (0 : Int32) else (if p3 = p2 then (0 : Int32) else (1 : Int32))) else (0 : Int32)) → Go p e below (Dn below s ((Q0 n0)) room_1.cells room_1.slots) (T25.setTop (mkF m 148 #[.val (.int p1), .val (.int p2), .val (.int p3), .val (.int p4), .val (.int p5), .val (.int v1), .val (.int v2), .val (.int z7), .val (.ref b8), .unset, .unset, .unset, .unset, .unset] [(.int z37), (.int (z28 + z32))])) by
    by_cases hc34 : (2 : Int32) < v1
    · refine go (fun _ q => XS.icmpNo X25.here hx rfl (hb hby at_130) rfl (tlt hc34).2.2.2 q) ?_
      show Go p e below _ (T25.setTop (mkF m 133 #[.val (.int p1), .val (.int p2), .val (.int p3), .val (.int p4), .val (.int p5), .val (.int v1), .val (.int v2), .val (.int z7), .val (.ref b8), .unset, .unset, .unset, .unset, .unset] [(.int (z28 + z32))]))
      refine go (fun _ q => XS.iloadN X25.here hx rfl (hb hby at_133) rfl q) ?_
      show Go p e below _ (T25.setTop (mkF m 134 #[.val (.int p1), .val (.int p2), .val (.int p3), .val (.int p4), .val (.int p5), .val (.int v1), .val (.int v2), .val (.int z7), .val (.ref b8), .unset, .unset, .unset, .unset, .unset] [(.int p3), (.int (z28 + z32))]))
      refine go (fun _ q => XS.iloadN X25.here hx rfl (hb hby at_134) rfl q) ?_
      show Go p e below _ (T25.setTop (mkF m 135 #[.val (.int p1), .val (.int p2), .val (.int p3), .val (.int p4), .val (.int p5), .val (.int v1), .val (.int v2), .val (.int z7), .val (.ref b8), .unset, .unset, .unset, .unset, .unset] [(.int p1), (.int p3), (.int (z28 + z32))]))
      by_cases hc35 : p3 = p1
      · refine go (fun _ q => XS.icmpYes X25.here hx rfl (pc0 := 135) (pc' := 147) rfl (hb hby at_135) rfl (teq hc35).1 (by decide) (by decide) q) ?_
        show Go p e below _ (T25.setTop (mkF m 147 #[.val (.int p1), .val (.int p2), .val (.int p3), .val (.int p4), .val (.int p5), .val (.int v1), .val (.int v2), .val (.int z7), .val (.ref b8), .unset, .unset, .unset, .unset, .unset] [(.int (z28 + z32))]))
        refine go (fun _ q => XS.iconst X25.here hx rfl (hb hby at_147) q) ?_
        show Go p e below _ (T25.setTop (mkF m 148 #[.val (.int p1), .val (.int p2), .val (.int p3), .val (.int p4), .val (.int p5), .val (.int v1), .val (.int v2), .val (.int z7), .val (.ref b8), .unset, .unset, .unset, .unset, .unset] [(.int (0 : Int32)), (.int (z28 + z32))]))
        exact hj33 _ (by rw [if_pos hc34, if_pos hc35])
      · refine go (fun _ q => XS.icmpNo X25.here hx rfl (hb hby at_135) rfl (feq hc35).1 q) ?_
        show Go p e below _ (T25.setTop (mkF m 138 #[.val (.int p1), .val (.int p2), .val (.int p3), .val (.int p4), .val (.int p5), .val (.int v1), .val (.int v2), .val (.int z7), .val (.ref b8), .unset, .unset, .unset, .unset, .unset] [(.int (z28 + z32))]))
        refine go (fun _ q => XS.iloadN X25.here hx rfl (hb hby at_138) rfl q) ?_
        show Go p e below _ (T25.setTop (mkF m 139 #[.val (.int p1), .val (.int p2), .val (.int p3), .val (.int p4), .val (.int p5), .val (.int v1), .val (.int v2), .val (.int z7), .val (.ref b8), .unset, .unset, .unset, .unset, .unset] [(.int p3), (.int (z28 + z32))]))
        refine go (fun _ q => XS.iloadN X25.here hx rfl (hb hby at_139) rfl q) ?_
        show Go p e below _ (T25.setTop (mkF m 140 #[.val (.int p1), .val (.int p2), .val (.int p3), .val (.int p4), .val (.int p5), .val (.int v1), .val (.int v2), .val (.int z7), .val (.ref b8), .unset, .unset, .unset, .unset, .unset] [(.int p2), (.int p3), (.int (z28 + z32))]))
        by_cases hc36 : p3 = p2
        · refine go (fun _ q => XS.icmpYes X25.here hx rfl (pc0 := 140) (pc' := 147) rfl (hb hby at_140) rfl (teq hc36).1 (by decide) (by decide) q) ?_
          show Go p e below _ (T25.setTop (mkF m 147 #[.val (.int p1), .val (.int p2), .val (.int p3), .val (.int p4), .val (.int p5), .val (.int v1), .val (.int v2), .val (.int z7), .val (.ref b8), .unset, .unset, .unset, .unset, .unset] [(.int (z28 + z32))]))
          refine go (fun _ q => XS.iconst X25.here hx rfl (hb hby at_147) q) ?_
          show Go p e below _ (T25.setTop (mkF m 148 #[.val (.int p1), .val (.int p2), .val (.int p3), .val (.int p4), .val (.int p5), .val (.int v1), .val (.int v2), .val (.int z7), .val (.ref b8), .unset, .unset, .unset, .unset, .unset] [(.int (0 : Int32)), (.int (z28 + z32))]))
          exact hj33 _ (by rw [if_pos hc34, if_neg hc35, if_pos hc36])
        · refine go (fun _ q => XS.icmpNo X25.here hx rfl (hb hby at_140) rfl (feq hc36).1 q) ?_
          show Go p e below _ (T25.setTop (mkF m 143 #[.val (.int p1), .val (.int p2), .val (.int p3), .val (.int p4), .val (.int p5), .val (.int v1), .val (.int v2), .val (.int z7), .val (.ref b8), .unset, .unset, .unset, .unset, .unset] [(.int (z28 + z32))]))
          refine go (fun _ q => XS.iconst X25.here hx rfl (hb hby at_143) q) ?_
          show Go p e below _ (T25.setTop (mkF m 144 #[.val (.int p1), .val (.int p2), .val (.int p3), .val (.int p4), .val (.int p5), .val (.int v1), .val (.int v2), .val (.int z7), .val (.ref b8), .unset, .unset, .unset, .unset, .unset] [(.int (1 : Int32)), (.int (z28 + z32))]))
          refine go (fun _ q => XS.goto X25.here hx rfl (pc0 := 144) (pc' := 148) rfl (hb hby at_144) (by decide) (by decide) q) ?_
          show Go p e below _ (T25.setTop (mkF m 148 #[.val (.int p1), .val (.int p2), .val (.int p3), .val (.int p4), .val (.int p5), .val (.int v1), .val (.int v2), .val (.int z7), .val (.ref b8), .unset, .unset, .unset, .unset, .unset] [(.int (1 : Int32)), (.int (z28 + z32))]))
          exact hj33 _ (by rw [if_pos hc34, if_neg hc35, if_neg hc36])
    · refine go (fun _ q => XS.icmpYes X25.here hx rfl (pc0 := 130) (pc' := 147) rfl (hb hby at_130) rfl (flt hc34).2.2.2 (by decide) (by decide) q) ?_
      show Go p e below _ (T25.setTop (mkF m 147 #[.val (.int p1), .val (.int p2), .val (.int p3), .val (.int p4), .val (.int p5), .val (.int v1), .val (.int v2), .val (.int z7), .val (.ref b8), .unset, .unset, .unset, .unset, .unset] [(.int (z28 + z32))]))
      refine go (fun _ q => XS.iconst X25.here hx rfl (hb hby at_147) q) ?_
      show Go p e below _ (T25.setTop (mkF m 148 #[.val (.int p1), .val (.int p2), .val (.int p3), .val (.int p4), .val (.int p5), .val (.int v1), .val (.int v2), .val (.int z7), .val (.ref b8), .unset, .unset, .unset, .unset, .unset] [(.int (0 : Int32)), (.int (z28 + z32))]))
      exact hj33 _ (by rw [if_neg hc34])
  intro z37 hz37
  show Go p e below _ (T25.setTop (mkF m 148 #[.val (.int p1), .val (.int p2), .val (.int p3), .val (.int p4), .val (.int p5), .val (.int v1), .val (.int v2), .val (.int z7), .val (.ref b8), .unset, .unset, .unset, .unset, .unset] [(.int z37), (.int (z28 + z32))]))
  refine go (fun _ q => XS.iadd X25.here hx rfl (hb hby at_148) rfl q) ?_
  show Go p e below _ (T25.setTop (mkF m 149 #[.val (.int p1), .val (.int p2), .val (.int p3), .val (.int p4), .val (.int p5), .val (.int v1), .val (.int v2), .val (.int z7), .val (.ref b8), .unset, .unset, .unset, .unset, .unset] [(.int ((z28 + z32) + z37))]))
  generalize hv38 : ((z28 + z32) + z37) = v38
  show Go p e below _ (T25.setTop (mkF m 149 #[.val (.int p1), .val (.int p2), .val (.int p3), .val (.int p4), .val (.int p5), .val (.int v1), .val (.int v2), .val (.int z7), .val (.ref b8), .unset, .unset, .unset, .unset, .unset] [(.int v38)]))
  refine go (fun _ q => XS.istore X25.here hx rfl (hb hby at_149) rfl (l' := #[.val (.int p1), .val (.int p2), .val (.int p3), .val (.int p4), .val (.int p5), .val (.int v1), .val (.int v2), .val (.int z7), .val (.ref b8), .val (.int v38), .unset, .unset, .unset, .unset]) rfl q) ?_
  show Go p e below _ (T25.setTop (mkF m 151 #[.val (.int p1), .val (.int p2), .val (.int p3), .val (.int p4), .val (.int p5), .val (.int v1), .val (.int v2), .val (.int z7), .val (.ref b8), .val (.int v38), .unset, .unset, .unset, .unset] []))
  refine go (fun _ q => XS.iload X25.here hx rfl (hb hby at_151) rfl q) ?_
  show Go p e below _ (T25.setTop (mkF m 153 #[.val (.int p1), .val (.int p2), .val (.int p3), .val (.int p4), .val (.int p5), .val (.int v1), .val (.int v2), .val (.int z7), .val (.ref b8), .val (.int v38), .unset, .unset, .unset, .unset] [(.int v38)]))
  refine go (fun _ q => XS.iload X25.here hx rfl (hb hby at_153) rfl q) ?_
  show Go p e below _ (T25.setTop (mkF m 155 #[.val (.int p1), .val (.int p2), .val (.int p3), .val (.int p4), .val (.int p5), .val (.int v1), .val (.int v2), .val (.int z7), .val (.ref b8), .val (.int v38), .unset, .unset, .unset, .unset] [(.int z7), (.int v38)]))
  refine go (fun _ q => XS.iload X25.here hx rfl (hb hby at_155) rfl q) ?_
  show Go p e below _ (T25.setTop (mkF m 157 #[.val (.int p1), .val (.int p2), .val (.int p3), .val (.int p4), .val (.int p5), .val (.int v1), .val (.int v2), .val (.int z7), .val (.ref b8), .val (.int v38), .unset, .unset, .unset, .unset] [(.int v1), (.int z7), (.int v38)]))
  refine go (fun _ q => XS.iloadN X25.here hx rfl (hb hby at_157) rfl q) ?_
  show Go p e below _ (T25.setTop (mkF m 158 #[.val (.int p1), .val (.int p2), .val (.int p3), .val (.int p4), .val (.int p5), .val (.int v1), .val (.int v2), .val (.int z7), .val (.ref b8), .val (.int v38), .unset, .unset, .unset, .unset] [(.int p1), (.int v1), (.int z7), (.int v38)]))
  refine go (fun _ q => XS.iloadN X25.here hx rfl (hb hby at_158) rfl q) ?_
  show Go p e below _ (T25.setTop (mkF m 159 #[.val (.int p1), .val (.int p2), .val (.int p3), .val (.int p4), .val (.int p5), .val (.int v1), .val (.int v2), .val (.int z7), .val (.ref b8), .val (.int v38), .unset, .unset, .unset, .unset] [(.int p2), (.int p1), (.int v1), (.int z7), (.int v38)]))
  refine go (fun _ q => XS.iloadN X25.here hx rfl (hb hby at_159) rfl q) ?_
  show Go p e below _ (T25.setTop (mkF m 160 #[.val (.int p1), .val (.int p2), .val (.int p3), .val (.int p4), .val (.int p5), .val (.int v1), .val (.int v2), .val (.int z7), .val (.ref b8), .val (.int v38), .unset, .unset, .unset, .unset] [(.int p3), (.int p2), (.int p1), (.int v1), (.int z7), (.int v38)]))
  refine own_callS X25 hx hZ hown rfl (hw _ (List.mem_of_getElem? (i := 19) rfl)) (hw _ (List.mem_of_getElem? (i := 20) rfl)) (hw _ (List.mem_of_getElem? (i := 21) rfl)) (hw _ (List.mem_of_getElem? (i := 22) rfl)) (rm4 l Z a0 hw [] z7 v1 p1 p2 p3 T25.heap n0) (by decide) (by decide) (W := 1) (by decide) (by decide) (by decide) (g := (mkF m 160 #[.val (.int p1), .val (.int p2), .val (.int p3), .val (.int p4), .val (.int p5), .val (.int v1), .val (.int v2), .val (.int z7), .val (.ref b8), .val (.int v38), .unset, .unset, .unset, .unset] [(.int p3), (.int p2), (.int p1), (.int v1), (.int z7), (.int v38)])) rfl (by rw [hml]; rfl) (argsL := [(.int z7), (.int v1), (.int p1), (.int p2), (.int p3)]) (rest := [(.int v38)]) rfl rfl (lenOf pd_0_3 rfl) (by show 2 * 0 + _ ≤ _; exact Nat.le_of_eq rfl) (hb hby at_160) ?_
  rintro _ T39 L39 X39 ⟨rfl, N39q, e39⟩
  have N39 := Fr.app N25 N39q
  show Go p e below _ (T39.setTop (mkF m 163 #[.val (.int p1), .val (.int p2), .val (.int p3), .val (.int p4), .val (.int p5), .val (.int v1), .val (.int v2), .val (.int z7), .val (.ref b8), .val (.int v38), .unset, .unset, .unset, .unset] [(.int (f4 z7 v1 p1 p2 p3)), (.int v38)]))
  suffices hj40 : ∀ (z42 : Int32), z42 = (if (f4 z7 v1 p1 p2 p3) = (0 : Int32) then (0 : Int32) else (1 : Int32)) → Go p e below (Dn below s ((Q0 n0)) room_1.cells room_1.slots) (T39.setTop (mkF m 171 #[.val (.int p1), .val (.int p2), .val (.int p3), .val (.int p4), .val (.int p5), .val (.int v1), .val (.int v2), .val (.int z7), .val (.ref b8), .val (.int v38), .unset, .unset, .unset, .unset] [(.int z42), (.int v38)])) by
    by_cases hc41 : (f4 z7 v1 p1 p2 p3) = (0 : Int32)
    · refine go (fun _ q => XS.ifYes X39.here hx rfl (pc0 := 163) (pc' := 170) rfl (hb hby at_163) rfl ((if0 _ _).trans (teq hc41).1) (by decide) (by decide) q) ?_
      show Go p e below _ (T39.setTop (mkF m 170 #[.val (.int p1), .val (.int p2), .val (.int p3), .val (.int p4), .val (.int p5), .val (.int v1), .val (.int v2), .val (.int z7), .val (.ref b8), .val (.int v38), .unset, .unset, .unset, .unset] [(.int v38)]))
      refine go (fun _ q => XS.iconst X39.here hx rfl (hb hby at_170) q) ?_
      show Go p e below _ (T39.setTop (mkF m 171 #[.val (.int p1), .val (.int p2), .val (.int p3), .val (.int p4), .val (.int p5), .val (.int v1), .val (.int v2), .val (.int z7), .val (.ref b8), .val (.int v38), .unset, .unset, .unset, .unset] [(.int (0 : Int32)), (.int v38)]))
      exact hj40 _ (by rw [if_pos hc41])
    · refine go (fun _ q => XS.ifNo X39.here hx rfl (hb hby at_163) rfl ((if0 _ _).trans (feq hc41).1) q) ?_
      show Go p e below _ (T39.setTop (mkF m 166 #[.val (.int p1), .val (.int p2), .val (.int p3), .val (.int p4), .val (.int p5), .val (.int v1), .val (.int v2), .val (.int z7), .val (.ref b8), .val (.int v38), .unset, .unset, .unset, .unset] [(.int v38)]))
      refine go (fun _ q => XS.iconst X39.here hx rfl (hb hby at_166) q) ?_
      show Go p e below _ (T39.setTop (mkF m 167 #[.val (.int p1), .val (.int p2), .val (.int p3), .val (.int p4), .val (.int p5), .val (.int v1), .val (.int v2), .val (.int z7), .val (.ref b8), .val (.int v38), .unset, .unset, .unset, .unset] [(.int (1 : Int32)), (.int v38)]))
      refine go (fun _ q => XS.goto X39.here hx rfl (pc0 := 167) (pc' := 171) rfl (hb hby at_167) (by decide) (by decide) q) ?_
      show Go p e below _ (T39.setTop (mkF m 171 #[.val (.int p1), .val (.int p2), .val (.int p3), .val (.int p4), .val (.int p5), .val (.int v1), .val (.int v2), .val (.int z7), .val (.ref b8), .val (.int v38), .unset, .unset, .unset, .unset] [(.int (1 : Int32)), (.int v38)]))
      exact hj40 _ (by rw [if_neg hc41])
  intro z42 hz42
  show Go p e below _ (T39.setTop (mkF m 171 #[.val (.int p1), .val (.int p2), .val (.int p3), .val (.int p4), .val (.int p5), .val (.int v1), .val (.int v2), .val (.int z7), .val (.ref b8), .val (.int v38), .unset, .unset, .unset, .unset] [(.int z42), (.int v38)]))
  refine go (fun _ q => XS.isub X39.here hx rfl (hb hby at_171) rfl q) ?_
  show Go p e below _ (T39.setTop (mkF m 172 #[.val (.int p1), .val (.int p2), .val (.int p3), .val (.int p4), .val (.int p5), .val (.int v1), .val (.int v2), .val (.int z7), .val (.ref b8), .val (.int v38), .unset, .unset, .unset, .unset] [(.int (v38 - z42))]))
  generalize hv43 : (v38 - z42) = v43
  show Go p e below _ (T39.setTop (mkF m 172 #[.val (.int p1), .val (.int p2), .val (.int p3), .val (.int p4), .val (.int p5), .val (.int v1), .val (.int v2), .val (.int z7), .val (.ref b8), .val (.int v38), .unset, .unset, .unset, .unset] [(.int v43)]))
  refine go (fun _ q => XS.istore X39.here hx rfl (hb hby at_172) rfl (l' := #[.val (.int p1), .val (.int p2), .val (.int p3), .val (.int p4), .val (.int p5), .val (.int v1), .val (.int v2), .val (.int z7), .val (.ref b8), .val (.int v38), .val (.int v43), .unset, .unset, .unset]) rfl q) ?_
  show Go p e below _ (T39.setTop (mkF m 174 #[.val (.int p1), .val (.int p2), .val (.int p3), .val (.int p4), .val (.int p5), .val (.int v1), .val (.int v2), .val (.int z7), .val (.ref b8), .val (.int v38), .val (.int v43), .unset, .unset, .unset] []))
  refine go (fun _ q => XS.iloadN X39.here hx rfl (hb hby at_174) rfl q) ?_
  show Go p e below _ (T39.setTop (mkF m 175 #[.val (.int p1), .val (.int p2), .val (.int p3), .val (.int p4), .val (.int p5), .val (.int v1), .val (.int v2), .val (.int z7), .val (.ref b8), .val (.int v38), .val (.int v43), .unset, .unset, .unset] [(.int p1)]))
  refine go (fun _ q => XS.iload X39.here hx rfl (hb hby at_175) rfl q) ?_
  show Go p e below _ (T39.setTop (mkF m 177 #[.val (.int p1), .val (.int p2), .val (.int p3), .val (.int p4), .val (.int p5), .val (.int v1), .val (.int v2), .val (.int z7), .val (.ref b8), .val (.int v38), .val (.int v43), .unset, .unset, .unset] [(.int v1), (.int p1)]))
  refine go (fun _ q => XS.iloadN X39.here hx rfl (hb hby at_177) rfl q) ?_
  show Go p e below _ (T39.setTop (mkF m 178 #[.val (.int p1), .val (.int p2), .val (.int p3), .val (.int p4), .val (.int p5), .val (.int v1), .val (.int v2), .val (.int z7), .val (.ref b8), .val (.int v38), .val (.int v43), .unset, .unset, .unset] [(.int p1), (.int v1), (.int p1)]))
  refine go (fun _ q => XS.iloadN X39.here hx rfl (hb hby at_178) rfl q) ?_
  show Go p e below _ (T39.setTop (mkF m 179 #[.val (.int p1), .val (.int p2), .val (.int p3), .val (.int p4), .val (.int p5), .val (.int v1), .val (.int v2), .val (.int z7), .val (.ref b8), .val (.int v38), .val (.int v43), .unset, .unset, .unset] [(.int p2), (.int p1), (.int v1), (.int p1)]))
  refine go (fun _ q => XS.iloadN X39.here hx rfl (hb hby at_179) rfl q) ?_
  show Go p e below _ (T39.setTop (mkF m 180 #[.val (.int p1), .val (.int p2), .val (.int p3), .val (.int p4), .val (.int p5), .val (.int v1), .val (.int v2), .val (.int z7), .val (.ref b8), .val (.int v38), .val (.int v43), .unset, .unset, .unset] [(.int p3), (.int p2), (.int p1), (.int v1), (.int p1)]))
  refine own_callS X39 hx hZ hown e39 (hw _ (List.mem_of_getElem? (i := 19) rfl)) (hw _ (List.mem_of_getElem? (i := 20) rfl)) (hw _ (List.mem_of_getElem? (i := 21) rfl)) (hw _ (List.mem_of_getElem? (i := 22) rfl)) (rm4 l Z a0 hw [] p1 v1 p1 p2 p3 T25.heap n0) (by decide) (by decide) (W := 0) (by decide) (by decide) (by decide) (g := (mkF m 180 #[.val (.int p1), .val (.int p2), .val (.int p3), .val (.int p4), .val (.int p5), .val (.int v1), .val (.int v2), .val (.int z7), .val (.ref b8), .val (.int v38), .val (.int v43), .unset, .unset, .unset] [(.int p3), (.int p2), (.int p1), (.int v1), (.int p1)])) rfl (by rw [hml]; rfl) (argsL := [(.int p1), (.int v1), (.int p1), (.int p2), (.int p3)]) (rest := []) rfl rfl (lenOf pd_0_3 rfl) (by show 2 * 0 + _ ≤ _; exact Nat.le_of_eq rfl) (hb hby at_180) ?_
  rintro _ T44 L44 X44 ⟨rfl, N44q, e44⟩
  have N44 := Fr.app N39 N44q
  show Go p e below _ (T44.setTop (mkF m 183 #[.val (.int p1), .val (.int p2), .val (.int p3), .val (.int p4), .val (.int p5), .val (.int v1), .val (.int v2), .val (.int z7), .val (.ref b8), .val (.int v38), .val (.int v43), .unset, .unset, .unset] [(.int (f4 p1 v1 p1 p2 p3))]))
  suffices hj45 : ∀ (z48 : Int32), z48 = (if (f4 p1 v1 p1 p2 p3) = (0 : Int32) then (0 : Int32) else (if p1 = z7 then (0 : Int32) else (1 : Int32))) → Go p e below (Dn below s ((Q0 n0)) room_1.cells room_1.slots) (T44.setTop (mkF m 197 #[.val (.int p1), .val (.int p2), .val (.int p3), .val (.int p4), .val (.int p5), .val (.int v1), .val (.int v2), .val (.int z7), .val (.ref b8), .val (.int v38), .val (.int v43), .unset, .unset, .unset] [(.int z48)])) by
    by_cases hc46 : (f4 p1 v1 p1 p2 p3) = (0 : Int32)
    · refine go (fun _ q => XS.ifYes X44.here hx rfl (pc0 := 183) (pc' := 196) rfl (hb hby at_183) rfl ((if0 _ _).trans (teq hc46).1) (by decide) (by decide) q) ?_
      show Go p e below _ (T44.setTop (mkF m 196 #[.val (.int p1), .val (.int p2), .val (.int p3), .val (.int p4), .val (.int p5), .val (.int v1), .val (.int v2), .val (.int z7), .val (.ref b8), .val (.int v38), .val (.int v43), .unset, .unset, .unset] []))
      refine go (fun _ q => XS.iconst X44.here hx rfl (hb hby at_196) q) ?_
      show Go p e below _ (T44.setTop (mkF m 197 #[.val (.int p1), .val (.int p2), .val (.int p3), .val (.int p4), .val (.int p5), .val (.int v1), .val (.int v2), .val (.int z7), .val (.ref b8), .val (.int v38), .val (.int v43), .unset, .unset, .unset] [(.int (0 : Int32))]))
      exact hj45 _ (by rw [if_pos hc46])
    · refine go (fun _ q => XS.ifNo X44.here hx rfl (hb hby at_183) rfl ((if0 _ _).trans (feq hc46).1) q) ?_
      show Go p e below _ (T44.setTop (mkF m 186 #[.val (.int p1), .val (.int p2), .val (.int p3), .val (.int p4), .val (.int p5), .val (.int v1), .val (.int v2), .val (.int z7), .val (.ref b8), .val (.int v38), .val (.int v43), .unset, .unset, .unset] []))
      refine go (fun _ q => XS.iloadN X44.here hx rfl (hb hby at_186) rfl q) ?_
      show Go p e below _ (T44.setTop (mkF m 187 #[.val (.int p1), .val (.int p2), .val (.int p3), .val (.int p4), .val (.int p5), .val (.int v1), .val (.int v2), .val (.int z7), .val (.ref b8), .val (.int v38), .val (.int v43), .unset, .unset, .unset] [(.int p1)]))
      refine go (fun _ q => XS.iload X44.here hx rfl (hb hby at_187) rfl q) ?_
      show Go p e below _ (T44.setTop (mkF m 189 #[.val (.int p1), .val (.int p2), .val (.int p3), .val (.int p4), .val (.int p5), .val (.int v1), .val (.int v2), .val (.int z7), .val (.ref b8), .val (.int v38), .val (.int v43), .unset, .unset, .unset] [(.int z7), (.int p1)]))
      by_cases hc47 : p1 = z7
      · refine go (fun _ q => XS.icmpYes X44.here hx rfl (pc0 := 189) (pc' := 196) rfl (hb hby at_189) rfl (teq hc47).1 (by decide) (by decide) q) ?_
        show Go p e below _ (T44.setTop (mkF m 196 #[.val (.int p1), .val (.int p2), .val (.int p3), .val (.int p4), .val (.int p5), .val (.int v1), .val (.int v2), .val (.int z7), .val (.ref b8), .val (.int v38), .val (.int v43), .unset, .unset, .unset] []))
        refine go (fun _ q => XS.iconst X44.here hx rfl (hb hby at_196) q) ?_
        show Go p e below _ (T44.setTop (mkF m 197 #[.val (.int p1), .val (.int p2), .val (.int p3), .val (.int p4), .val (.int p5), .val (.int v1), .val (.int v2), .val (.int z7), .val (.ref b8), .val (.int v38), .val (.int v43), .unset, .unset, .unset] [(.int (0 : Int32))]))
        exact hj45 _ (by rw [if_neg hc46, if_pos hc47])
      · refine go (fun _ q => XS.icmpNo X44.here hx rfl (hb hby at_189) rfl (feq hc47).1 q) ?_
        show Go p e below _ (T44.setTop (mkF m 192 #[.val (.int p1), .val (.int p2), .val (.int p3), .val (.int p4), .val (.int p5), .val (.int v1), .val (.int v2), .val (.int z7), .val (.ref b8), .val (.int v38), .val (.int v43), .unset, .unset, .unset] []))
        refine go (fun _ q => XS.iconst X44.here hx rfl (hb hby at_192) q) ?_
        show Go p e below _ (T44.setTop (mkF m 193 #[.val (.int p1), .val (.int p2), .val (.int p3), .val (.int p4), .val (.int p5), .val (.int v1), .val (.int v2), .val (.int z7), .val (.ref b8), .val (.int v38), .val (.int v43), .unset, .unset, .unset] [(.int (1 : Int32))]))
        refine go (fun _ q => XS.goto X44.here hx rfl (pc0 := 193) (pc' := 197) rfl (hb hby at_193) (by decide) (by decide) q) ?_
        show Go p e below _ (T44.setTop (mkF m 197 #[.val (.int p1), .val (.int p2), .val (.int p3), .val (.int p4), .val (.int p5), .val (.int v1), .val (.int v2), .val (.int z7), .val (.ref b8), .val (.int v38), .val (.int v43), .unset, .unset, .unset] [(.int (1 : Int32))]))
        exact hj45 _ (by rw [if_neg hc46, if_neg hc47])
  intro z48 hz48
  show Go p e below _ (T44.setTop (mkF m 197 #[.val (.int p1), .val (.int p2), .val (.int p3), .val (.int p4), .val (.int p5), .val (.int v1), .val (.int v2), .val (.int z7), .val (.ref b8), .val (.int v38), .val (.int v43), .unset, .unset, .unset] [(.int z48)]))
  refine go (fun _ q => XS.istore X44.here hx rfl (hb hby at_197) rfl (l' := #[.val (.int p1), .val (.int p2), .val (.int p3), .val (.int p4), .val (.int p5), .val (.int v1), .val (.int v2), .val (.int z7), .val (.ref b8), .val (.int v38), .val (.int v43), .val (.int z48), .unset, .unset]) rfl q) ?_
  show Go p e below _ (T44.setTop (mkF m 199 #[.val (.int p1), .val (.int p2), .val (.int p3), .val (.int p4), .val (.int p5), .val (.int v1), .val (.int v2), .val (.int z7), .val (.ref b8), .val (.int v38), .val (.int v43), .val (.int z48), .unset, .unset] []))
  refine go (fun _ q => XS.iloadN X44.here hx rfl (hb hby at_199) rfl q) ?_
  show Go p e below _ (T44.setTop (mkF m 200 #[.val (.int p1), .val (.int p2), .val (.int p3), .val (.int p4), .val (.int p5), .val (.int v1), .val (.int v2), .val (.int z7), .val (.ref b8), .val (.int v38), .val (.int v43), .val (.int z48), .unset, .unset] [(.int p2)]))
  refine go (fun _ q => XS.iload X44.here hx rfl (hb hby at_200) rfl q) ?_
  show Go p e below _ (T44.setTop (mkF m 202 #[.val (.int p1), .val (.int p2), .val (.int p3), .val (.int p4), .val (.int p5), .val (.int v1), .val (.int v2), .val (.int z7), .val (.ref b8), .val (.int v38), .val (.int v43), .val (.int z48), .unset, .unset] [(.int v1), (.int p2)]))
  refine go (fun _ q => XS.iloadN X44.here hx rfl (hb hby at_202) rfl q) ?_
  show Go p e below _ (T44.setTop (mkF m 203 #[.val (.int p1), .val (.int p2), .val (.int p3), .val (.int p4), .val (.int p5), .val (.int v1), .val (.int v2), .val (.int z7), .val (.ref b8), .val (.int v38), .val (.int v43), .val (.int z48), .unset, .unset] [(.int p1), (.int v1), (.int p2)]))
  refine go (fun _ q => XS.iloadN X44.here hx rfl (hb hby at_203) rfl q) ?_
  show Go p e below _ (T44.setTop (mkF m 204 #[.val (.int p1), .val (.int p2), .val (.int p3), .val (.int p4), .val (.int p5), .val (.int v1), .val (.int v2), .val (.int z7), .val (.ref b8), .val (.int v38), .val (.int v43), .val (.int z48), .unset, .unset] [(.int p2), (.int p1), (.int v1), (.int p2)]))
  refine go (fun _ q => XS.iloadN X44.here hx rfl (hb hby at_204) rfl q) ?_
  show Go p e below _ (T44.setTop (mkF m 205 #[.val (.int p1), .val (.int p2), .val (.int p3), .val (.int p4), .val (.int p5), .val (.int v1), .val (.int v2), .val (.int z7), .val (.ref b8), .val (.int v38), .val (.int v43), .val (.int z48), .unset, .unset] [(.int p3), (.int p2), (.int p1), (.int v1), (.int p2)]))
  refine own_callS X44 hx hZ hown e44 (hw _ (List.mem_of_getElem? (i := 19) rfl)) (hw _ (List.mem_of_getElem? (i := 20) rfl)) (hw _ (List.mem_of_getElem? (i := 21) rfl)) (hw _ (List.mem_of_getElem? (i := 22) rfl)) (rm4 l Z a0 hw [] p2 v1 p1 p2 p3 T25.heap n0) (by decide) (by decide) (W := 0) (by decide) (by decide) (by decide) (g := (mkF m 205 #[.val (.int p1), .val (.int p2), .val (.int p3), .val (.int p4), .val (.int p5), .val (.int v1), .val (.int v2), .val (.int z7), .val (.ref b8), .val (.int v38), .val (.int v43), .val (.int z48), .unset, .unset] [(.int p3), (.int p2), (.int p1), (.int v1), (.int p2)])) rfl (by rw [hml]; rfl) (argsL := [(.int p2), (.int v1), (.int p1), (.int p2), (.int p3)]) (rest := []) rfl rfl (lenOf pd_0_3 rfl) (by show 2 * 0 + _ ≤ _; exact Nat.le_of_eq rfl) (hb hby at_205) ?_
  rintro _ T49 L49 X49 ⟨rfl, N49q, e49⟩
  have N49 := Fr.app N44 N49q
  show Go p e below _ (T49.setTop (mkF m 208 #[.val (.int p1), .val (.int p2), .val (.int p3), .val (.int p4), .val (.int p5), .val (.int v1), .val (.int v2), .val (.int z7), .val (.ref b8), .val (.int v38), .val (.int v43), .val (.int z48), .unset, .unset] [(.int (f4 p2 v1 p1 p2 p3))]))
  suffices hj50 : ∀ (z53 : Int32), z53 = (if (f4 p2 v1 p1 p2 p3) = (0 : Int32) then (0 : Int32) else (if p2 = z7 then (0 : Int32) else (1 : Int32))) → Go p e below (Dn below s ((Q0 n0)) room_1.cells room_1.slots) (T49.setTop (mkF m 222 #[.val (.int p1), .val (.int p2), .val (.int p3), .val (.int p4), .val (.int p5), .val (.int v1), .val (.int v2), .val (.int z7), .val (.ref b8), .val (.int v38), .val (.int v43), .val (.int z48), .unset, .unset] [(.int z53)])) by
    by_cases hc51 : (f4 p2 v1 p1 p2 p3) = (0 : Int32)
    · refine go (fun _ q => XS.ifYes X49.here hx rfl (pc0 := 208) (pc' := 221) rfl (hb hby at_208) rfl ((if0 _ _).trans (teq hc51).1) (by decide) (by decide) q) ?_
      show Go p e below _ (T49.setTop (mkF m 221 #[.val (.int p1), .val (.int p2), .val (.int p3), .val (.int p4), .val (.int p5), .val (.int v1), .val (.int v2), .val (.int z7), .val (.ref b8), .val (.int v38), .val (.int v43), .val (.int z48), .unset, .unset] []))
      refine go (fun _ q => XS.iconst X49.here hx rfl (hb hby at_221) q) ?_
      show Go p e below _ (T49.setTop (mkF m 222 #[.val (.int p1), .val (.int p2), .val (.int p3), .val (.int p4), .val (.int p5), .val (.int v1), .val (.int v2), .val (.int z7), .val (.ref b8), .val (.int v38), .val (.int v43), .val (.int z48), .unset, .unset] [(.int (0 : Int32))]))
      exact hj50 _ (by rw [if_pos hc51])
    · refine go (fun _ q => XS.ifNo X49.here hx rfl (hb hby at_208) rfl ((if0 _ _).trans (feq hc51).1) q) ?_
      show Go p e below _ (T49.setTop (mkF m 211 #[.val (.int p1), .val (.int p2), .val (.int p3), .val (.int p4), .val (.int p5), .val (.int v1), .val (.int v2), .val (.int z7), .val (.ref b8), .val (.int v38), .val (.int v43), .val (.int z48), .unset, .unset] []))
      refine go (fun _ q => XS.iloadN X49.here hx rfl (hb hby at_211) rfl q) ?_
      show Go p e below _ (T49.setTop (mkF m 212 #[.val (.int p1), .val (.int p2), .val (.int p3), .val (.int p4), .val (.int p5), .val (.int v1), .val (.int v2), .val (.int z7), .val (.ref b8), .val (.int v38), .val (.int v43), .val (.int z48), .unset, .unset] [(.int p2)]))
      refine go (fun _ q => XS.iload X49.here hx rfl (hb hby at_212) rfl q) ?_
      show Go p e below _ (T49.setTop (mkF m 214 #[.val (.int p1), .val (.int p2), .val (.int p3), .val (.int p4), .val (.int p5), .val (.int v1), .val (.int v2), .val (.int z7), .val (.ref b8), .val (.int v38), .val (.int v43), .val (.int z48), .unset, .unset] [(.int z7), (.int p2)]))
      by_cases hc52 : p2 = z7
      · refine go (fun _ q => XS.icmpYes X49.here hx rfl (pc0 := 214) (pc' := 221) rfl (hb hby at_214) rfl (teq hc52).1 (by decide) (by decide) q) ?_
        show Go p e below _ (T49.setTop (mkF m 221 #[.val (.int p1), .val (.int p2), .val (.int p3), .val (.int p4), .val (.int p5), .val (.int v1), .val (.int v2), .val (.int z7), .val (.ref b8), .val (.int v38), .val (.int v43), .val (.int z48), .unset, .unset] []))
        refine go (fun _ q => XS.iconst X49.here hx rfl (hb hby at_221) q) ?_
        show Go p e below _ (T49.setTop (mkF m 222 #[.val (.int p1), .val (.int p2), .val (.int p3), .val (.int p4), .val (.int p5), .val (.int v1), .val (.int v2), .val (.int z7), .val (.ref b8), .val (.int v38), .val (.int v43), .val (.int z48), .unset, .unset] [(.int (0 : Int32))]))
        exact hj50 _ (by rw [if_neg hc51, if_pos hc52])
      · refine go (fun _ q => XS.icmpNo X49.here hx rfl (hb hby at_214) rfl (feq hc52).1 q) ?_
        show Go p e below _ (T49.setTop (mkF m 217 #[.val (.int p1), .val (.int p2), .val (.int p3), .val (.int p4), .val (.int p5), .val (.int v1), .val (.int v2), .val (.int z7), .val (.ref b8), .val (.int v38), .val (.int v43), .val (.int z48), .unset, .unset] []))
        refine go (fun _ q => XS.iconst X49.here hx rfl (hb hby at_217) q) ?_
        show Go p e below _ (T49.setTop (mkF m 218 #[.val (.int p1), .val (.int p2), .val (.int p3), .val (.int p4), .val (.int p5), .val (.int v1), .val (.int v2), .val (.int z7), .val (.ref b8), .val (.int v38), .val (.int v43), .val (.int z48), .unset, .unset] [(.int (1 : Int32))]))
        refine go (fun _ q => XS.goto X49.here hx rfl (pc0 := 218) (pc' := 222) rfl (hb hby at_218) (by decide) (by decide) q) ?_
        show Go p e below _ (T49.setTop (mkF m 222 #[.val (.int p1), .val (.int p2), .val (.int p3), .val (.int p4), .val (.int p5), .val (.int v1), .val (.int v2), .val (.int z7), .val (.ref b8), .val (.int v38), .val (.int v43), .val (.int z48), .unset, .unset] [(.int (1 : Int32))]))
        exact hj50 _ (by rw [if_neg hc51, if_neg hc52])
  intro z53 hz53
  show Go p e below _ (T49.setTop (mkF m 222 #[.val (.int p1), .val (.int p2), .val (.int p3), .val (.int p4), .val (.int p5), .val (.int v1), .val (.int v2), .val (.int z7), .val (.ref b8), .val (.int v38), .val (.int v43), .val (.int z48), .unset, .unset] [(.int z53)]))
  refine go (fun _ q => XS.istore X49.here hx rfl (hb hby at_222) rfl (l' := #[.val (.int p1), .val (.int p2), .val (.int p3), .val (.int p4), .val (.int p5), .val (.int v1), .val (.int v2), .val (.int z7), .val (.ref b8), .val (.int v38), .val (.int v43), .val (.int z48), .val (.int z53), .unset]) rfl q) ?_
  show Go p e below _ (T49.setTop (mkF m 224 #[.val (.int p1), .val (.int p2), .val (.int p3), .val (.int p4), .val (.int p5), .val (.int v1), .val (.int v2), .val (.int z7), .val (.ref b8), .val (.int v38), .val (.int v43), .val (.int z48), .val (.int z53), .unset] []))
  refine go (fun _ q => XS.iloadN X49.here hx rfl (hb hby at_224) rfl q) ?_
  show Go p e below _ (T49.setTop (mkF m 225 #[.val (.int p1), .val (.int p2), .val (.int p3), .val (.int p4), .val (.int p5), .val (.int v1), .val (.int v2), .val (.int z7), .val (.ref b8), .val (.int v38), .val (.int v43), .val (.int z48), .val (.int z53), .unset] [(.int p3)]))
  refine go (fun _ q => XS.iload X49.here hx rfl (hb hby at_225) rfl q) ?_
  show Go p e below _ (T49.setTop (mkF m 227 #[.val (.int p1), .val (.int p2), .val (.int p3), .val (.int p4), .val (.int p5), .val (.int v1), .val (.int v2), .val (.int z7), .val (.ref b8), .val (.int v38), .val (.int v43), .val (.int z48), .val (.int z53), .unset] [(.int v1), (.int p3)]))
  refine go (fun _ q => XS.iloadN X49.here hx rfl (hb hby at_227) rfl q) ?_
  show Go p e below _ (T49.setTop (mkF m 228 #[.val (.int p1), .val (.int p2), .val (.int p3), .val (.int p4), .val (.int p5), .val (.int v1), .val (.int v2), .val (.int z7), .val (.ref b8), .val (.int v38), .val (.int v43), .val (.int z48), .val (.int z53), .unset] [(.int p1), (.int v1), (.int p3)]))
  refine go (fun _ q => XS.iloadN X49.here hx rfl (hb hby at_228) rfl q) ?_
  show Go p e below _ (T49.setTop (mkF m 229 #[.val (.int p1), .val (.int p2), .val (.int p3), .val (.int p4), .val (.int p5), .val (.int v1), .val (.int v2), .val (.int z7), .val (.ref b8), .val (.int v38), .val (.int v43), .val (.int z48), .val (.int z53), .unset] [(.int p2), (.int p1), (.int v1), (.int p3)]))
  refine go (fun _ q => XS.iloadN X49.here hx rfl (hb hby at_229) rfl q) ?_
  show Go p e below _ (T49.setTop (mkF m 230 #[.val (.int p1), .val (.int p2), .val (.int p3), .val (.int p4), .val (.int p5), .val (.int v1), .val (.int v2), .val (.int z7), .val (.ref b8), .val (.int v38), .val (.int v43), .val (.int z48), .val (.int z53), .unset] [(.int p3), (.int p2), (.int p1), (.int v1), (.int p3)]))
  refine own_callS X49 hx hZ hown e49 (hw _ (List.mem_of_getElem? (i := 19) rfl)) (hw _ (List.mem_of_getElem? (i := 20) rfl)) (hw _ (List.mem_of_getElem? (i := 21) rfl)) (hw _ (List.mem_of_getElem? (i := 22) rfl)) (rm4 l Z a0 hw [] p3 v1 p1 p2 p3 T25.heap n0) (by decide) (by decide) (W := 0) (by decide) (by decide) (by decide) (g := (mkF m 230 #[.val (.int p1), .val (.int p2), .val (.int p3), .val (.int p4), .val (.int p5), .val (.int v1), .val (.int v2), .val (.int z7), .val (.ref b8), .val (.int v38), .val (.int v43), .val (.int z48), .val (.int z53), .unset] [(.int p3), (.int p2), (.int p1), (.int v1), (.int p3)])) rfl (by rw [hml]; rfl) (argsL := [(.int p3), (.int v1), (.int p1), (.int p2), (.int p3)]) (rest := []) rfl rfl (lenOf pd_0_3 rfl) (by show 2 * 0 + _ ≤ _; exact Nat.le_of_eq rfl) (hb hby at_230) ?_
  rintro _ T54 L54 X54 ⟨rfl, N54q, e54⟩
  have N54 := Fr.app N49 N54q
  show Go p e below _ (T54.setTop (mkF m 233 #[.val (.int p1), .val (.int p2), .val (.int p3), .val (.int p4), .val (.int p5), .val (.int v1), .val (.int v2), .val (.int z7), .val (.ref b8), .val (.int v38), .val (.int v43), .val (.int z48), .val (.int z53), .unset] [(.int (f4 p3 v1 p1 p2 p3))]))
  suffices hj55 : ∀ (z58 : Int32), z58 = (if (f4 p3 v1 p1 p2 p3) = (0 : Int32) then (0 : Int32) else (if p3 = z7 then (0 : Int32) else (1 : Int32))) → Go p e below (Dn below s ((Q0 n0)) room_1.cells room_1.slots) (T54.setTop (mkF m 247 #[.val (.int p1), .val (.int p2), .val (.int p3), .val (.int p4), .val (.int p5), .val (.int v1), .val (.int v2), .val (.int z7), .val (.ref b8), .val (.int v38), .val (.int v43), .val (.int z48), .val (.int z53), .unset] [(.int z58)])) by
    by_cases hc56 : (f4 p3 v1 p1 p2 p3) = (0 : Int32)
    · refine go (fun _ q => XS.ifYes X54.here hx rfl (pc0 := 233) (pc' := 246) rfl (hb hby at_233) rfl ((if0 _ _).trans (teq hc56).1) (by decide) (by decide) q) ?_
      show Go p e below _ (T54.setTop (mkF m 246 #[.val (.int p1), .val (.int p2), .val (.int p3), .val (.int p4), .val (.int p5), .val (.int v1), .val (.int v2), .val (.int z7), .val (.ref b8), .val (.int v38), .val (.int v43), .val (.int z48), .val (.int z53), .unset] []))
      refine go (fun _ q => XS.iconst X54.here hx rfl (hb hby at_246) q) ?_
      show Go p e below _ (T54.setTop (mkF m 247 #[.val (.int p1), .val (.int p2), .val (.int p3), .val (.int p4), .val (.int p5), .val (.int v1), .val (.int v2), .val (.int z7), .val (.ref b8), .val (.int v38), .val (.int v43), .val (.int z48), .val (.int z53), .unset] [(.int (0 : Int32))]))
      exact hj55 _ (by rw [if_pos hc56])
    · refine go (fun _ q => XS.ifNo X54.here hx rfl (hb hby at_233) rfl ((if0 _ _).trans (feq hc56).1) q) ?_
      show Go p e below _ (T54.setTop (mkF m 236 #[.val (.int p1), .val (.int p2), .val (.int p3), .val (.int p4), .val (.int p5), .val (.int v1), .val (.int v2), .val (.int z7), .val (.ref b8), .val (.int v38), .val (.int v43), .val (.int z48), .val (.int z53), .unset] []))
      refine go (fun _ q => XS.iloadN X54.here hx rfl (hb hby at_236) rfl q) ?_
      show Go p e below _ (T54.setTop (mkF m 237 #[.val (.int p1), .val (.int p2), .val (.int p3), .val (.int p4), .val (.int p5), .val (.int v1), .val (.int v2), .val (.int z7), .val (.ref b8), .val (.int v38), .val (.int v43), .val (.int z48), .val (.int z53), .unset] [(.int p3)]))
      refine go (fun _ q => XS.iload X54.here hx rfl (hb hby at_237) rfl q) ?_
      show Go p e below _ (T54.setTop (mkF m 239 #[.val (.int p1), .val (.int p2), .val (.int p3), .val (.int p4), .val (.int p5), .val (.int v1), .val (.int v2), .val (.int z7), .val (.ref b8), .val (.int v38), .val (.int v43), .val (.int z48), .val (.int z53), .unset] [(.int z7), (.int p3)]))
      by_cases hc57 : p3 = z7
      · refine go (fun _ q => XS.icmpYes X54.here hx rfl (pc0 := 239) (pc' := 246) rfl (hb hby at_239) rfl (teq hc57).1 (by decide) (by decide) q) ?_
        show Go p e below _ (T54.setTop (mkF m 246 #[.val (.int p1), .val (.int p2), .val (.int p3), .val (.int p4), .val (.int p5), .val (.int v1), .val (.int v2), .val (.int z7), .val (.ref b8), .val (.int v38), .val (.int v43), .val (.int z48), .val (.int z53), .unset] []))
        refine go (fun _ q => XS.iconst X54.here hx rfl (hb hby at_246) q) ?_
        show Go p e below _ (T54.setTop (mkF m 247 #[.val (.int p1), .val (.int p2), .val (.int p3), .val (.int p4), .val (.int p5), .val (.int v1), .val (.int v2), .val (.int z7), .val (.ref b8), .val (.int v38), .val (.int v43), .val (.int z48), .val (.int z53), .unset] [(.int (0 : Int32))]))
        exact hj55 _ (by rw [if_neg hc56, if_pos hc57])
      · refine go (fun _ q => XS.icmpNo X54.here hx rfl (hb hby at_239) rfl (feq hc57).1 q) ?_
        show Go p e below _ (T54.setTop (mkF m 242 #[.val (.int p1), .val (.int p2), .val (.int p3), .val (.int p4), .val (.int p5), .val (.int v1), .val (.int v2), .val (.int z7), .val (.ref b8), .val (.int v38), .val (.int v43), .val (.int z48), .val (.int z53), .unset] []))
        refine go (fun _ q => XS.iconst X54.here hx rfl (hb hby at_242) q) ?_
        show Go p e below _ (T54.setTop (mkF m 243 #[.val (.int p1), .val (.int p2), .val (.int p3), .val (.int p4), .val (.int p5), .val (.int v1), .val (.int v2), .val (.int z7), .val (.ref b8), .val (.int v38), .val (.int v43), .val (.int z48), .val (.int z53), .unset] [(.int (1 : Int32))]))
        refine go (fun _ q => XS.goto X54.here hx rfl (pc0 := 243) (pc' := 247) rfl (hb hby at_243) (by decide) (by decide) q) ?_
        show Go p e below _ (T54.setTop (mkF m 247 #[.val (.int p1), .val (.int p2), .val (.int p3), .val (.int p4), .val (.int p5), .val (.int v1), .val (.int v2), .val (.int z7), .val (.ref b8), .val (.int v38), .val (.int v43), .val (.int z48), .val (.int z53), .unset] [(.int (1 : Int32))]))
        exact hj55 _ (by rw [if_neg hc56, if_neg hc57])
  intro z58 hz58
  show Go p e below _ (T54.setTop (mkF m 247 #[.val (.int p1), .val (.int p2), .val (.int p3), .val (.int p4), .val (.int p5), .val (.int v1), .val (.int v2), .val (.int z7), .val (.ref b8), .val (.int v38), .val (.int v43), .val (.int z48), .val (.int z53), .unset] [(.int z58)]))
  refine go (fun _ q => XS.istore X54.here hx rfl (hb hby at_247) rfl (l' := #[.val (.int p1), .val (.int p2), .val (.int p3), .val (.int p4), .val (.int p5), .val (.int v1), .val (.int v2), .val (.int z7), .val (.ref b8), .val (.int v38), .val (.int v43), .val (.int z48), .val (.int z53), .val (.int z58)]) rfl q) ?_
  show Go p e below _ (T54.setTop (mkF m 249 #[.val (.int p1), .val (.int p2), .val (.int p3), .val (.int p4), .val (.int p5), .val (.int v1), .val (.int v2), .val (.int z7), .val (.ref b8), .val (.int v38), .val (.int v43), .val (.int z48), .val (.int z53), .val (.int z58)] []))
  refine go (fun _ q => XS.aload X54.here hx rfl (hb hby at_249) rfl rfl q) ?_
  show Go p e below _ (T54.setTop (mkF m 251 #[.val (.int p1), .val (.int p2), .val (.int p3), .val (.int p4), .val (.int p5), .val (.int v1), .val (.int v2), .val (.int z7), .val (.ref b8), .val (.int v38), .val (.int v43), .val (.int z48), .val (.int z53), .val (.int z58)] [(.ref b8)]))
  refine own_callV X54 hx hZ hown e54 (hw _ (List.mem_of_getElem? (i := 23) rfl)) (hw _ (List.mem_of_getElem? (i := 24) rfl)) (hw _ (List.mem_of_getElem? (i := 25) rfl)) (hw _ (List.mem_of_getElem? (i := 26) rfl)) (hw _ (List.mem_of_getElem? (i := 2) rfl)) (hw _ (List.mem_of_getElem? (i := 27) rfl)) (rmS l Z a0 hw [] b8 T25.heap n0 (own_rm xs24 z7) Pq25) (by decide) (by decide) (W := 0) (by decide) (by decide) (by decide) (a := b8) (own_exa Pq25) (g := (mkF m 251 #[.val (.int p1), .val (.int p2), .val (.int p3), .val (.int p4), .val (.int p5), .val (.int v1), .val (.int v2), .val (.int z7), .val (.ref b8), .val (.int v38), .val (.int v43), .val (.int z48), .val (.int z53), .val (.int z58)] [(.ref b8)])) rfl (by rw [hml]; rfl) (argsL := []) (rest := []) rfl rfl (lenOf pd_0_4 rfl) (by show 2 * 0 + _ ≤ _; exact Nat.le_of_eq rfl) (hb hby at_251) ?_
  rintro _ T59 L59 X59 ⟨rfl, N59q, e59⟩
  have N59 := Fr.app N54 N59q
  show Go p e below _ (T59.setTop (mkF m 254 #[.val (.int p1), .val (.int p2), .val (.int p3), .val (.int p4), .val (.int p5), .val (.int v1), .val (.int v2), .val (.int z7), .val (.ref b8), .val (.int v38), .val (.int v43), .val (.int z48), .val (.int z53), .val (.int z58)] [(.int (Int32.ofNat (own_rm xs24 z7).length))]))
  refine go (fun _ q => XS.iload X59.here hx rfl (hb hby at_254) rfl q) ?_
  show Go p e below _ (T59.setTop (mkF m 256 #[.val (.int p1), .val (.int p2), .val (.int p3), .val (.int p4), .val (.int p5), .val (.int v1), .val (.int v2), .val (.int z7), .val (.ref b8), .val (.int v38), .val (.int v43), .val (.int z48), .val (.int z53), .val (.int z58)] [(.int v43), (.int (Int32.ofNat (own_rm xs24 z7).length))]))
  have hk60 : (Int32.ofNat (own_rm xs24 z7).length) = v43 := own_size (own_k hv1) own_l3 hxs14 hxs19 hxs24 hz28 hz32 hz37 hv38 hz42 hv43
  refine go (fun _ q => XS.icmpNo X59.here hx rfl (hb hby at_256) rfl (teq hk60).2 q) ?_
  show Go p e below _ (T59.setTop (mkF m 259 #[.val (.int p1), .val (.int p2), .val (.int p3), .val (.int p4), .val (.int p5), .val (.int v1), .val (.int v2), .val (.int z7), .val (.ref b8), .val (.int v38), .val (.int v43), .val (.int z48), .val (.int z53), .val (.int z58)] []))
  refine go (fun _ q => XS.aload X59.here hx rfl (hb hby at_259) rfl rfl q) ?_
  show Go p e below _ (T59.setTop (mkF m 261 #[.val (.int p1), .val (.int p2), .val (.int p3), .val (.int p4), .val (.int p5), .val (.int v1), .val (.int v2), .val (.int z7), .val (.ref b8), .val (.int v38), .val (.int v43), .val (.int z48), .val (.int z53), .val (.int z58)] [(.ref b8)]))
  refine go (fun _ q => XS.iloadN X59.here hx rfl (hb hby at_261) rfl q) ?_
  show Go p e below _ (T59.setTop (mkF m 262 #[.val (.int p1), .val (.int p2), .val (.int p3), .val (.int p4), .val (.int p5), .val (.int v1), .val (.int v2), .val (.int z7), .val (.ref b8), .val (.int v38), .val (.int v43), .val (.int z48), .val (.int z53), .val (.int z58)] [(.int p1), (.ref b8)]))
  refine own_callV X59 hx hZ hown e59 (hw _ (List.mem_of_getElem? (i := 28) rfl)) (hw _ (List.mem_of_getElem? (i := 29) rfl)) (hw _ (List.mem_of_getElem? (i := 30) rfl)) (hw _ (List.mem_of_getElem? (i := 31) rfl)) (hw _ (List.mem_of_getElem? (i := 2) rfl)) (hw _ (List.mem_of_getElem? (i := 32) rfl)) (rmC l Z a0 hw [] b8 p1 T25.heap n0 (own_rm xs24 z7) own_l4 Pq25) (by decide) (by decide) (W := 0) (by decide) (by decide) (by decide) (a := b8) (own_exa Pq25) (g := (mkF m 262 #[.val (.int p1), .val (.int p2), .val (.int p3), .val (.int p4), .val (.int p5), .val (.int v1), .val (.int v2), .val (.int z7), .val (.ref b8), .val (.int v38), .val (.int v43), .val (.int z48), .val (.int z53), .val (.int z58)] [(.int p1), (.ref b8)])) rfl (by rw [hml]; rfl) (argsL := [(.int p1)]) (rest := []) rfl rfl (lenOf pd_0_1 rfl) (by show 2 * 0 + _ ≤ _; exact Nat.le_of_eq rfl) (hb hby at_262) ?_
  rintro _ T61 L61 X61 ⟨rfl, N61q, e61⟩
  have N61 := Fr.app N59 N61q
  show Go p e below _ (T61.setTop (mkF m 265 #[.val (.int p1), .val (.int p2), .val (.int p3), .val (.int p4), .val (.int p5), .val (.int v1), .val (.int v2), .val (.int z7), .val (.ref b8), .val (.int v38), .val (.int v43), .val (.int z48), .val (.int z53), .val (.int z58)] [(.int (if p1 ∈ (own_rm xs24 z7) then (1 : Int32) else (0 : Int32)))]))
  refine go (fun _ q => XS.iload X61.here hx rfl (hb hby at_265) rfl q) ?_
  show Go p e below _ (T61.setTop (mkF m 267 #[.val (.int p1), .val (.int p2), .val (.int p3), .val (.int p4), .val (.int p5), .val (.int v1), .val (.int v2), .val (.int z7), .val (.ref b8), .val (.int v38), .val (.int v43), .val (.int z48), .val (.int z53), .val (.int z58)] [(.int z48), (.int (if p1 ∈ (own_rm xs24 z7) then (1 : Int32) else (0 : Int32)))]))
  have hk62 : (if p1 ∈ (own_rm xs24 z7) then (1 : Int32) else (0 : Int32)) = z48 := own_has own_l3 hxs14 hxs19 hxs24 hz48
  refine go (fun _ q => XS.icmpNo X61.here hx rfl (hb hby at_267) rfl (teq hk62).2 q) ?_
  show Go p e below _ (T61.setTop (mkF m 270 #[.val (.int p1), .val (.int p2), .val (.int p3), .val (.int p4), .val (.int p5), .val (.int v1), .val (.int v2), .val (.int z7), .val (.ref b8), .val (.int v38), .val (.int v43), .val (.int z48), .val (.int z53), .val (.int z58)] []))
  refine go (fun _ q => XS.aload X61.here hx rfl (hb hby at_270) rfl rfl q) ?_
  show Go p e below _ (T61.setTop (mkF m 272 #[.val (.int p1), .val (.int p2), .val (.int p3), .val (.int p4), .val (.int p5), .val (.int v1), .val (.int v2), .val (.int z7), .val (.ref b8), .val (.int v38), .val (.int v43), .val (.int z48), .val (.int z53), .val (.int z58)] [(.ref b8)]))
  refine go (fun _ q => XS.iloadN X61.here hx rfl (hb hby at_272) rfl q) ?_
  show Go p e below _ (T61.setTop (mkF m 273 #[.val (.int p1), .val (.int p2), .val (.int p3), .val (.int p4), .val (.int p5), .val (.int v1), .val (.int v2), .val (.int z7), .val (.ref b8), .val (.int v38), .val (.int v43), .val (.int z48), .val (.int z53), .val (.int z58)] [(.int p2), (.ref b8)]))
  refine own_callV X61 hx hZ hown e61 (hw _ (List.mem_of_getElem? (i := 28) rfl)) (hw _ (List.mem_of_getElem? (i := 29) rfl)) (hw _ (List.mem_of_getElem? (i := 30) rfl)) (hw _ (List.mem_of_getElem? (i := 31) rfl)) (hw _ (List.mem_of_getElem? (i := 2) rfl)) (hw _ (List.mem_of_getElem? (i := 32) rfl)) (rmC l Z a0 hw [] b8 p2 T25.heap n0 (own_rm xs24 z7) own_l4 Pq25) (by decide) (by decide) (W := 0) (by decide) (by decide) (by decide) (a := b8) (own_exa Pq25) (g := (mkF m 273 #[.val (.int p1), .val (.int p2), .val (.int p3), .val (.int p4), .val (.int p5), .val (.int v1), .val (.int v2), .val (.int z7), .val (.ref b8), .val (.int v38), .val (.int v43), .val (.int z48), .val (.int z53), .val (.int z58)] [(.int p2), (.ref b8)])) rfl (by rw [hml]; rfl) (argsL := [(.int p2)]) (rest := []) rfl rfl (lenOf pd_0_1 rfl) (by show 2 * 0 + _ ≤ _; exact Nat.le_of_eq rfl) (hb hby at_273) ?_
  rintro _ T63 L63 X63 ⟨rfl, N63q, e63⟩
  have N63 := Fr.app N61 N63q
  show Go p e below _ (T63.setTop (mkF m 276 #[.val (.int p1), .val (.int p2), .val (.int p3), .val (.int p4), .val (.int p5), .val (.int v1), .val (.int v2), .val (.int z7), .val (.ref b8), .val (.int v38), .val (.int v43), .val (.int z48), .val (.int z53), .val (.int z58)] [(.int (if p2 ∈ (own_rm xs24 z7) then (1 : Int32) else (0 : Int32)))]))
  refine go (fun _ q => XS.iload X63.here hx rfl (hb hby at_276) rfl q) ?_
  show Go p e below _ (T63.setTop (mkF m 278 #[.val (.int p1), .val (.int p2), .val (.int p3), .val (.int p4), .val (.int p5), .val (.int v1), .val (.int v2), .val (.int z7), .val (.ref b8), .val (.int v38), .val (.int v43), .val (.int z48), .val (.int z53), .val (.int z58)] [(.int z53), (.int (if p2 ∈ (own_rm xs24 z7) then (1 : Int32) else (0 : Int32)))]))
  have hk64 : (if p2 ∈ (own_rm xs24 z7) then (1 : Int32) else (0 : Int32)) = z53 := own_has own_l3 hxs14 hxs19 hxs24 hz53
  refine go (fun _ q => XS.icmpNo X63.here hx rfl (hb hby at_278) rfl (teq hk64).2 q) ?_
  show Go p e below _ (T63.setTop (mkF m 281 #[.val (.int p1), .val (.int p2), .val (.int p3), .val (.int p4), .val (.int p5), .val (.int v1), .val (.int v2), .val (.int z7), .val (.ref b8), .val (.int v38), .val (.int v43), .val (.int z48), .val (.int z53), .val (.int z58)] []))
  refine go (fun _ q => XS.aload X63.here hx rfl (hb hby at_281) rfl rfl q) ?_
  show Go p e below _ (T63.setTop (mkF m 283 #[.val (.int p1), .val (.int p2), .val (.int p3), .val (.int p4), .val (.int p5), .val (.int v1), .val (.int v2), .val (.int z7), .val (.ref b8), .val (.int v38), .val (.int v43), .val (.int z48), .val (.int z53), .val (.int z58)] [(.ref b8)]))
  refine go (fun _ q => XS.iloadN X63.here hx rfl (hb hby at_283) rfl q) ?_
  show Go p e below _ (T63.setTop (mkF m 284 #[.val (.int p1), .val (.int p2), .val (.int p3), .val (.int p4), .val (.int p5), .val (.int v1), .val (.int v2), .val (.int z7), .val (.ref b8), .val (.int v38), .val (.int v43), .val (.int z48), .val (.int z53), .val (.int z58)] [(.int p3), (.ref b8)]))
  refine own_callV X63 hx hZ hown e63 (hw _ (List.mem_of_getElem? (i := 28) rfl)) (hw _ (List.mem_of_getElem? (i := 29) rfl)) (hw _ (List.mem_of_getElem? (i := 30) rfl)) (hw _ (List.mem_of_getElem? (i := 31) rfl)) (hw _ (List.mem_of_getElem? (i := 2) rfl)) (hw _ (List.mem_of_getElem? (i := 32) rfl)) (rmC l Z a0 hw [] b8 p3 T25.heap n0 (own_rm xs24 z7) own_l4 Pq25) (by decide) (by decide) (W := 0) (by decide) (by decide) (by decide) (a := b8) (own_exa Pq25) (g := (mkF m 284 #[.val (.int p1), .val (.int p2), .val (.int p3), .val (.int p4), .val (.int p5), .val (.int v1), .val (.int v2), .val (.int z7), .val (.ref b8), .val (.int v38), .val (.int v43), .val (.int z48), .val (.int z53), .val (.int z58)] [(.int p3), (.ref b8)])) rfl (by rw [hml]; rfl) (argsL := [(.int p3)]) (rest := []) rfl rfl (lenOf pd_0_1 rfl) (by show 2 * 0 + _ ≤ _; exact Nat.le_of_eq rfl) (hb hby at_284) ?_
  rintro _ T65 L65 X65 ⟨rfl, N65q, e65⟩
  have N65 := Fr.app N63 N65q
  show Go p e below _ (T65.setTop (mkF m 287 #[.val (.int p1), .val (.int p2), .val (.int p3), .val (.int p4), .val (.int p5), .val (.int v1), .val (.int v2), .val (.int z7), .val (.ref b8), .val (.int v38), .val (.int v43), .val (.int z48), .val (.int z53), .val (.int z58)] [(.int (if p3 ∈ (own_rm xs24 z7) then (1 : Int32) else (0 : Int32)))]))
  refine go (fun _ q => XS.iload X65.here hx rfl (hb hby at_287) rfl q) ?_
  show Go p e below _ (T65.setTop (mkF m 289 #[.val (.int p1), .val (.int p2), .val (.int p3), .val (.int p4), .val (.int p5), .val (.int v1), .val (.int v2), .val (.int z7), .val (.ref b8), .val (.int v38), .val (.int v43), .val (.int z48), .val (.int z53), .val (.int z58)] [(.int z58), (.int (if p3 ∈ (own_rm xs24 z7) then (1 : Int32) else (0 : Int32)))]))
  have hk66 : (if p3 ∈ (own_rm xs24 z7) then (1 : Int32) else (0 : Int32)) = z58 := own_has own_l3 hxs14 hxs19 hxs24 hz58
  refine go (fun _ q => XS.icmpNo X65.here hx rfl (hb hby at_289) rfl (teq hk66).2 q) ?_
  show Go p e below _ (T65.setTop (mkF m 292 #[.val (.int p1), .val (.int p2), .val (.int p3), .val (.int p4), .val (.int p5), .val (.int v1), .val (.int v2), .val (.int z7), .val (.ref b8), .val (.int v38), .val (.int v43), .val (.int z48), .val (.int z53), .val (.int z58)] []))
  refine go (fun _ q => XS.aload X65.here hx rfl (hb hby at_292) rfl rfl q) ?_
  show Go p e below _ (T65.setTop (mkF m 294 #[.val (.int p1), .val (.int p2), .val (.int p3), .val (.int p4), .val (.int p5), .val (.int v1), .val (.int v2), .val (.int z7), .val (.ref b8), .val (.int v38), .val (.int v43), .val (.int z48), .val (.int z53), .val (.int z58)] [(.ref b8)]))
  refine go (fun _ q => XS.iload X65.here hx rfl (hb hby at_294) rfl q) ?_
  show Go p e below _ (T65.setTop (mkF m 296 #[.val (.int p1), .val (.int p2), .val (.int p3), .val (.int p4), .val (.int p5), .val (.int v1), .val (.int v2), .val (.int z7), .val (.ref b8), .val (.int v38), .val (.int v43), .val (.int z48), .val (.int z53), .val (.int z58)] [(.int z7), (.ref b8)]))
  refine own_callV X65 hx hZ hown e65 (hw _ (List.mem_of_getElem? (i := 28) rfl)) (hw _ (List.mem_of_getElem? (i := 29) rfl)) (hw _ (List.mem_of_getElem? (i := 30) rfl)) (hw _ (List.mem_of_getElem? (i := 31) rfl)) (hw _ (List.mem_of_getElem? (i := 2) rfl)) (hw _ (List.mem_of_getElem? (i := 32) rfl)) (rmC l Z a0 hw [] b8 z7 T25.heap n0 (own_rm xs24 z7) own_l4 Pq25) (by decide) (by decide) (W := 0) (by decide) (by decide) (by decide) (a := b8) (own_exa Pq25) (g := (mkF m 296 #[.val (.int p1), .val (.int p2), .val (.int p3), .val (.int p4), .val (.int p5), .val (.int v1), .val (.int v2), .val (.int z7), .val (.ref b8), .val (.int v38), .val (.int v43), .val (.int z48), .val (.int z53), .val (.int z58)] [(.int z7), (.ref b8)])) rfl (by rw [hml]; rfl) (argsL := [(.int z7)]) (rest := []) rfl rfl (lenOf pd_0_1 rfl) (by show 2 * 0 + _ ≤ _; exact Nat.le_of_eq rfl) (hb hby at_296) ?_
  rintro _ T67 L67 X67 ⟨rfl, N67q, e67⟩
  have N67 := Fr.app N65 N67q
  show Go p e below _ (T67.setTop (mkF m 299 #[.val (.int p1), .val (.int p2), .val (.int p3), .val (.int p4), .val (.int p5), .val (.int v1), .val (.int v2), .val (.int z7), .val (.ref b8), .val (.int v38), .val (.int v43), .val (.int z48), .val (.int z53), .val (.int z58)] [(.int (if z7 ∈ (own_rm xs24 z7) then (1 : Int32) else (0 : Int32)))]))
  have hk68 : (if z7 ∈ (own_rm xs24 z7) then (1 : Int32) else (0 : Int32)) = (0 : Int32) := own_hasnt own_l3 hxs14 hxs19 hxs24
  refine go (fun _ q => XS.ifNo X67.here hx rfl (hb hby at_299) rfl ((if0 _ _).trans (teq hk68).2) q) ?_
  show Go p e below _ (T67.setTop (mkF m 302 #[.val (.int p1), .val (.int p2), .val (.int p3), .val (.int p4), .val (.int p5), .val (.int v1), .val (.int v2), .val (.int z7), .val (.ref b8), .val (.int v38), .val (.int v43), .val (.int z48), .val (.int z53), .val (.int z58)] []))
  refine go (fun _ q => XS.iconst X67.here hx rfl (hb hby at_302) q) ?_
  show Go p e below _ (T67.setTop (mkF m 303 #[.val (.int p1), .val (.int p2), .val (.int p3), .val (.int p4), .val (.int p5), .val (.int v1), .val (.int v2), .val (.int z7), .val (.ref b8), .val (.int v38), .val (.int v43), .val (.int z48), .val (.int z53), .val (.int z58)] [(.int (1 : Int32))]))
  refine go (fun _ q => XS.goto X67.here hx rfl (pc0 := 303) (pc' := 307) rfl (hb hby at_303) (by decide) (by decide) q) ?_
  show Go p e below _ (T67.setTop (mkF m 307 #[.val (.int p1), .val (.int p2), .val (.int p3), .val (.int p4), .val (.int p5), .val (.int v1), .val (.int v2), .val (.int z7), .val (.ref b8), .val (.int v38), .val (.int v43), .val (.int z48), .val (.int z53), .val (.int z58)] [(.int (1 : Int32))]))
  exact own_retZ (z' := (1 : Int32)) X67 hx hlk hret (hb hby at_307) (by decide) (by decide) rfl ⟨rfl, N67⟩
set_option maxRecDepth 65536 in
set_option maxHeartbeats 40000000 in
theorem comes_1 {Post : Tables → Env → Array Value → State → Outcome → State → Prop} (hpost : ∀ tb e args s v u, (limb_1_1.after args s (.returned v) u = true ∧ limb_1_2.after args s (.returned v) u = true ∧ True) → FrameEnd s (.returned v) u (Jvm.fieldLocs frame_1_writes args s ++ Jvm.arrayLocs frame_1_arrays args s ++ Jvm.staticLocs frame_1_statics s) 16 128 → Post tb e args s (.returned v) u) :
    ArmFor flags0 classFile x code maxLocals ret World_1 tables_1 room_1 Calls_1 rest_1 Pre_1 Post := by
  intro l hfl _ _ p e ha hc hk s m args below hf hA hF happ hP
  obtain ⟨hcalls, hrest, hpre⟩ := hP
  obtain ⟨-, -, -, hnamed, -, -, -, hat⟩ := (Spec.applies_iff hf).mp happ
  obtain ⟨hg, hn⟩ := and_e (Cond.before_iff.mp (show (Jvm.Cond.and given_1 narrow_1).before args s = true from hpre))
  obtain ⟨gc, g0⟩ := and_e hg
  obtain ⟨ga0, g1⟩ := and_e g0
  obtain ⟨ga1, g2⟩ := and_e g1
  obtain ⟨ga2, g3⟩ := and_e g2
  obtain ⟨ga3, g4⟩ := and_e g3
  have ga4 := g4
  obtain ⟨w0, w1, w2, w3, w4, rfl⟩ : ∃ w0 w1 w2 w3 w4 : Value, args = #[w0, w1, w2, w3, w4] := by
    have hs : args.size = 5 := by simpa [Cond.value, given_1] using gc
    obtain ⟨L⟩ := args
    match L, hs with
    | [w0, w1, w2, w3, w4], _ => exact ⟨w0, w1, w2, w3, w4, rfl⟩
  have hw := fun d (hd : d ∈ tables_1) => atoms_spec (ws := Jvm.Cond.code x code maxLocals ret :: tables_1) hat d (List.mem_cons_of_mem _ hd)
  obtain ⟨i0, ei0⟩ := is_v ga0
  obtain rfl : w0 = (.int i0) := Option.some.inj ei0
  obtain ⟨i1, ei1⟩ := is_v ga1
  obtain rfl : w1 = (.int i1) := Option.some.inj ei1
  obtain ⟨i2, ei2⟩ := is_v ga2
  obtain rfl : w2 = (.int i2) := Option.some.inj ei2
  obtain ⟨i3, ei3⟩ := is_v ga3
  obtain rfl : w3 = (.int i3) := Option.some.inj ei3
  obtain ⟨i4, ei4⟩ := is_v ga4
  obtain rfl : w4 = (.int i4) := Option.some.inj ei4
  obtain ⟨n, o, h1, h2, h3, _, L, rfl, ⟨rfl, N⟩, hq⟩ := rm0 l s _ hw tables_1 i0 i1 i2 i3 i4 s.heap s.heap.size (Nat.le_refl _) p e ha hc hk s m _ below hf ((Spec.applies_iff_loose hf).mp happ).1 ⟨rfl, State.Warmed39.refl s, rfl⟩ trivial
  refine ⟨n, _, h1, h2, h3, hpost _ _ _ _ _ _ ⟨Cond.after_iff.mpr rfl, Cond.after_iff.mpr (eq_i res_at (Term.int_eval (1)) rfl), trivial⟩ ⟨hq.1, hq.2.1, (hq.2.2.sift fun y hy => Or.inr (N y hy)).mono (by decide) (by decide)⟩⟩
theorem main_1_1 : Claimed_1_1 := comes_1 fun _ _ _ _ _ _ h hF => ⟨h.1, hF⟩
theorem main_1_2 : Claimed_1_2 := comes_1 fun _ _ _ _ _ _ h hF => ⟨h.2.1, hF⟩
end Jvm.Pilot.@@N@@
namespace Jvm.Pilot.@@N@@
open Jvm Jvm.ClassFile Sem Op Lib Jvm.Free Jvm.Stand Jvm.Pilot.@@N@@.Jvm.D
/-! MADE BY PROGRAM (witnessworld.py) out of the Statement's table words and the real class files: 9 classes; the members and pool entries that the words name. The judged class is class 1, her method 2. -/
namespace start1
open Jvm.ClassFile
def u (s : String) : CpInfo := .utf8 (stringToUtf16 s)
/-- a pool by its gaps: so many unusable entries, then the entry; so many at the end -/
def gap : Nat → List CpInfo → List CpInfo
  | 0, r => r
  | n + 1, r => .unusable :: gap n r
def poolList (es : List (Nat × CpInfo)) (last : Nat) : List CpInfo := es.foldr (fun e r => gap e.1 (e.2 :: r)) (gap last [])
def pool (es : List (Nat × CpInfo)) (last : Nat) : Array CpInfo := ⟨poolList es last⟩
def fileOf (pool : Array CpInfo) (this : Nat) (attrs : Array Attribute := #[]) (ms : Array MethodInfo := #[]) (fl : Nat := 33) (sup : Nat := 0) (ifs : Array Nat := #[]) (fds : Array FieldInfo := #[]) : ClassFile where
  minorVersion := 0
  majorVersion := 65
  constantPool := pool
  accessFlags := fl
  thisClass := this
  superClass := sup
  interfaces := ifs
  fields := fds
  methods := ms
  attributes := attrs
def plain (name : String) (sup : Option ClassId) : Class where
  name := name
  kind := .ordinary
  loader := none
  accessFlags := 33
  super := sup
  interfaces := #[]
  cf := none
  fields := #[]
  methods := #[]
  instanceTypes := #[]
  staticTypes := #[]
  resolved := #[]
  callSites := []
  init := .initialized
  statics := none
  mirror := none

def pool0 : Array CpInfo := pool [(5, u "<init>"), (0, u "()V"), (1, .class_ 10), (1, u "java/lang/Object")] 113

def k0c0 : Code := { maxStack := 0, maxLocals := 1, code := object_method_1_code, exceptionTable := #[], attributes := #[] }
def k0m0 : Method := { name := "<init>", desc := "()V", sig := { parameters := [], returnType := none }, accessFlags := 1, code := some k0c0 }
/-- java/lang/Object -/
def k0 : Class := { plain "java/lang/Object" none with
  accessFlags := 33
  interfaces := #[]
  cf := some (fileOf pool0 8 #[] #[{ accessFlags := 1, nameIndex := 5, descriptorIndex := 6, attributes := #[] }] 33 0 #[] #[])
  fields := #[]
  methods := #[k0m0]
  instanceTypes := #[]
  staticTypes := #[]
  resolved := Array.replicate 124 none
  statics := none }

def pool1 : Array CpInfo := pool [(2, .class_ 4), (0, .nameAndType 5 6), (0, u "java/lang/Object"), (0, u "<init>"), (0, u "()V"), (0, .class_ 8), (0, u "quorate/NodeSet"), (0, .methodref 7 3), (0, .methodref 7 11), (0, .nameAndType 12 13), (0, u "add"), (0, u "(I)Z"), (0, .methodref 7 15), (0, .nameAndType 16 17), (0, u "remove"), (0, u "(I)V"), (0, .methodref 19 20), (0, .class_ 21), (0, .nameAndType 22 23), (0, u "quorate/NodeSetRemovePinLaw"), (0, u "in"), (0, u "(IIIII)Z"), (0, .methodref 7 25), (0, .nameAndType 26 27), (0, u "size"), (0, u "()I"), (0, .methodref 7 29), (0, .nameAndType 30 13), (0, u "contains"), (3, u "law")] 2

def k1m0 : Method := { name := "<init>", desc := "()V", sig := { parameters := [], returnType := none }, accessFlags := 1, code := none }
def k1c1 : Code := { maxStack := 2, maxLocals := 5, code := method_2_code, exceptionTable := #[], attributes := #[] }
def k1m1 : Method := { name := "in", desc := "(IIIII)Z", sig := { parameters := [.int, .int, .int, .int, .int], returnType := some .boolean }, accessFlags := 10, code := some k1c1 }
def k1c2 : Code := { maxStack := 6, maxLocals := 14, code := code, exceptionTable := #[], attributes := #[] }
def k1m2 : Method := { name := "law", desc := "(IIIII)Z", sig := { parameters := [.int, .int, .int, .int, .int], returnType := some .boolean }, accessFlags := 9, code := some k1c2 }
/-- quorate/NodeSetRemovePinLaw -/
def k1 : Class := { plain "quorate/NodeSetRemovePinLaw" (some 0) with
  accessFlags := 49
  interfaces := #[]
  cf := some (fileOf pool1 19 #[] #[{ accessFlags := 1, nameIndex := 5, descriptorIndex := 6, attributes := #[] }, { accessFlags := 10, nameIndex := 22, descriptorIndex := 23, attributes := #[] }, { accessFlags := 9, nameIndex := 34, descriptorIndex := 23, attributes := #[] }] 49 2 #[] #[])
  fields := #[]
  methods := #[k1m0, k1m1, k1m2]
  instanceTypes := #[]
  staticTypes := #[]
  resolved := Array.replicate 37 none
  statics := none }

def pool2 : Array CpInfo := pool [(1, .methodref 2 3), (0, .class_ 4), (0, .nameAndType 5 6), (0, u "java/lang/Object"), (0, u "<init>"), (0, u "()V"), (0, .fieldref 8 9), (0, .class_ 10), (0, .nameAndType 11 12), (0, u "quorate/NodeSet"), (0, u "members"), (0, u "[I"), (0, .methodref 8 14), (0, .nameAndType 15 16), (0, u "contains"), (0, u "(I)Z"), (0, .fieldref 8 18), (0, .nameAndType 19 20), (0, u "size"), (0, u "I"), (8, u "add"), (1, u "remove"), (0, u "(I)V"), (0, u "()I")] 5

def k2c0 : Code := { maxStack := 2, maxLocals := 1, code := prog_102_method_1_code, exceptionTable := #[], attributes := #[] }
def k2m0 : Method := { name := "<init>", desc := "()V", sig := { parameters := [], returnType := none }, accessFlags := 0, code := some k2c0 }
def k2c1 : Code := { maxStack := 5, maxLocals := 2, code := prog_102_method_2_code, exceptionTable := #[], attributes := #[] }
def k2m1 : Method := { name := "add", desc := "(I)Z", sig := { parameters := [.int], returnType := some .boolean }, accessFlags := 0, code := some k2c1 }
def k2c2 : Code := { maxStack := 6, maxLocals := 3, code := prog_102_method_3_code, exceptionTable := #[], attributes := #[] }
def k2m2 : Method := { name := "remove", desc := "(I)V", sig := { parameters := [.int], returnType := none }, accessFlags := 0, code := some k2c2 }
def k2c3 : Code := { maxStack := 2, maxLocals := 3, code := prog_102_method_4_code, exceptionTable := #[], attributes := #[] }
def k2m3 : Method := { name := "contains", desc := "(I)Z", sig := { parameters := [.int], returnType := some .boolean }, accessFlags := 0, code := some k2c3 }
def k2c4 : Code := { maxStack := 1, maxLocals := 1, code := prog_102_method_5_code, exceptionTable := #[], attributes := #[] }
def k2m4 : Method := { name := "size", desc := "()I", sig := { parameters := [], returnType := some .int }, accessFlags := 0, code := some k2c4 }
/-- quorate/NodeSet -/
def k2 : Class := { plain "quorate/NodeSet" (some 0) with
  accessFlags := 48
  interfaces := #[]
  cf := some (fileOf pool2 8 #[] #[{ accessFlags := 0, nameIndex := 5, descriptorIndex := 6, attributes := #[] }, { accessFlags := 0, nameIndex := 29, descriptorIndex := 16, attributes := #[] }, { accessFlags := 0, nameIndex := 31, descriptorIndex := 32, attributes := #[] }, { accessFlags := 0, nameIndex := 15, descriptorIndex := 16, attributes := #[] }, { accessFlags := 0, nameIndex := 19, descriptorIndex := 33, attributes := #[] }] 48 2 #[] #[{ accessFlags := 2, nameIndex := 11, descriptorIndex := 12, attributes := #[] }, { accessFlags := 2, nameIndex := 19, descriptorIndex := 20, attributes := #[] }])
  fields := #[{ name := "members", type := (.array .int), accessFlags := 2, slot := 0, constantValue := 0 }, { name := "size", type := .int, accessFlags := 2, slot := 1, constantValue := 0 }]
  methods := #[k2m0, k2m1, k2m2, k2m3, k2m4]
  instanceTypes := #[(.array .int), .int]
  staticTypes := #[]
  resolved := Array.replicate 39 none
  statics := none }

def pool3 : Array CpInfo := pool [(1, u "java/lang/Cloneable"), (0, .class_ 1), (0, u "java/lang/Object"), (0, .class_ 3)] 3

/-- java/lang/Cloneable -/
def k3 : Class := { plain "java/lang/Cloneable" (some 0) with
  accessFlags := 1537
  interfaces := #[]
  cf := some (fileOf pool3 2 #[] #[] 1537 4 #[] #[])
  fields := #[]
  methods := #[]
  instanceTypes := #[]
  staticTypes := #[]
  resolved := Array.replicate 8 none
  statics := none }

def pool4 : Array CpInfo := pool [(1, u "java/io/Serializable"), (0, .class_ 1), (0, u "java/lang/Object"), (0, .class_ 3)] 3

/-- java/io/Serializable -/
def k4 : Class := { plain "java/io/Serializable" (some 0) with
  accessFlags := 1537
  interfaces := #[]
  cf := some (fileOf pool4 2 #[] #[] 1537 4 #[] #[])
  fields := #[]
  methods := #[]
  instanceTypes := #[]
  staticTypes := #[]
  resolved := Array.replicate 8 none
  statics := none }

/-- the primitive byte -/
def k5 : Class := { plain "byte" none with kind := .primitive 'B', accessFlags := 0x411 }
/-- [B -/
def k6 : Class := { plain "[B" (some 0) with kind := .array 5 .byte, interfaces := #[3, 4], accessFlags := 1041 }

/-- the primitive int -/
def k7 : Class := { plain "int" none with kind := .primitive 'I', accessFlags := 0x411 }
/-- [I -/
def k8 : Class := { plain "[I" (some 0) with kind := .array 7 .int, interfaces := #[3, 4], accessFlags := 1041 }

def heap : Heap := #[]
def classes : Array Class := #[k0, k1, k2, k3, k4, k5, k6, k7, k8]
def interned : List (Array UInt16 × Addr) := []
def slotsUsed : Nat := 0
def theMethod : MethodId := ⟨1, 2⟩
def args0 : Array Value := #[.int 5, .int 300, .int 7, .int 8, .int 9]
def aboutOver (below : List Frame) : State where
  vm := { classes := classes, interned := interned.toArray }
  heap := heap
  slotsUsed := slotsUsed
  threads := #[{ frames := .invoking theMethod args0 :: below }]
def below0 : List Frame := [.native { method := ⟨0, 0⟩, args := #[] }]
def about1 : State := aboutOver below0
def p0 : Program := .bare "" "" ""
def e0 : Env := launch0.env 0 0 0
theorem w_frames : about1.frames = Frame.invoking theMethod args0 :: below0 := rfl
set_option maxRecDepth 65536 in
theorem w_args : argsFit about1.vm theMethod args0 = true := by decide +kernel
set_option maxRecDepth 65536 in
theorem w_heap : heapFits about1 = true := by decide +kernel
set_option maxRecDepth 65536 in
theorem w_runnable : about1.curStatus? = some .runnable := by decide +kernel
set_option maxRecDepth 65536 in
theorem w_alone : about1.alone = true := by decide +kernel
set_option maxRecDepth 65536 in
theorem w_named : about1.methodNamed? x = some theMethod := by decide +kernel
set_option maxRecDepth 65536 in
theorem w_hears : about1.hears theMethod below0 = true := by decide +kernel
set_option maxRecDepth 65536 in
theorem w_ripe : about1.ripe theMethod args0 below0 = true := by decide +kernel
theorem w_running : about1.status = .running := rfl
set_option maxRecDepth 65536 in
theorem w_room : about1.hasRoom e0.platform room_1 = true :=
  launch0.hasRoom_least _ room_1 (by decide +kernel) (by decide +kernel) (by decide +kernel) (by decide +kernel) (by decide +kernel) (by decide +kernel)
theorem allAtoms_all (ts : List Jvm.Cond) (a : Array Jvm.Value) (st : Jvm.State) : (allAtoms ts).before a st = ts.all (fun c => c.before a st) := by
  induction ts with
  | nil => rfl
  | cons c t ih =>
    show (Jvm.Cond.and c (allAtoms t)).before a st = _
    rw [Jvm.Cond.before_and, ih, List.all_cons]
def words1 : List Jvm.Cond := Jvm.Cond.code x code maxLocals ret :: tables_1
/-- a 'code' word, met by the world's own term for the bytes: nothing is compared byte by byte -/
theorem code_word {y : MethodName} {bytes : ByteArray} {mx : Nat} {rt : Option FieldType} {a : Array Value} {s : State} {m : MethodId} {meth : Method} {c : Code} (h1 : s.methodNamed? y = some m) (h2 : s.vm.method? m = some meth) (h3 : meth.code = some c) (h4 : c.code = bytes)
    (h5 : (c.maxLocals == mx && c.exceptionTable.isEmpty && decide (c.maxStack ≤ mostOperands) && decide (meth.sig.returnType = rt) && !meth.locks && decide (parseMethodDescriptor y.desc = some meth.sig)) = true) : (Jvm.Cond.code y bytes mx rt).before a s = true := by
  simp only [Bool.and_eq_true, beq_iff_eq, Bool.not_eq_true', decide_eq_true_eq] at h5
  obtain ⟨⟨⟨⟨⟨g1, g2⟩, g3⟩, g4⟩, g5⟩, g6⟩ := h5
  simp [Cond.before, Cond.holds, Cond.value, h1, h2, h3, h4, g1, g2, g3, g4, g5, g6]
def isCode : Jvm.Cond → Bool
  | .code _ _ _ _ => true
  | _ => false
theorem all_split {L : List Jvm.Cond} {P : Jvm.Cond → Bool} (h1 : L.all (fun c => isCode c || P c) = true) (h2 : ∀ c ∈ L.filter isCode, P c = true) : L.all P = true := by
  refine List.all_eq_true.mpr fun c hc => ?_
  have h := List.all_eq_true.mp h1 c hc
  rcases Bool.eq_false_or_eq_true (isCode c) with hi | hi
  · exact h2 c (List.mem_filter.mpr ⟨hc, hi⟩)
  · simpa [hi] using h
set_option maxRecDepth 65536 in
theorem w_c0 : (Jvm.Cond.code x code maxLocals ret).before args0 about1 = true := code_word (m := ⟨1, 2⟩) (meth := k1m2) (c := k1c2) (by decide +kernel) rfl rfl rfl (by decide +kernel)
set_option maxRecDepth 65536 in
theorem w_c1 : (Jvm.Cond.code ({ cls := "quorate/NodeSet", name := "<init>", desc := "()V" } : Jvm.MethodName) prog_102_method_1_code (1 : Nat) (Option.none : Option Jvm.ClassFile.FieldType)).before args0 about1 = true := code_word (m := ⟨2, 0⟩) (meth := k2m0) (c := k2c0) (by decide +kernel) rfl rfl rfl (by decide +kernel)
set_option maxRecDepth 65536 in
theorem w_c2 : (Jvm.Cond.code ({ cls := "java/lang/Object", name := "<init>", desc := "()V" } : Jvm.MethodName) object_method_1_code (1 : Nat) (Option.none : Option Jvm.ClassFile.FieldType)).before args0 about1 = true := code_word (m := ⟨0, 0⟩) (meth := k0m0) (c := k0c0) (by decide +kernel) rfl rfl rfl (by decide +kernel)
set_option maxRecDepth 65536 in
theorem w_c3 : (Jvm.Cond.code ({ cls := "quorate/NodeSet", name := "remove", desc := "(I)V" } : Jvm.MethodName) prog_102_method_3_code (3 : Nat) (Option.none : Option Jvm.ClassFile.FieldType)).before args0 about1 = true := code_word (m := ⟨2, 2⟩) (meth := k2m2) (c := k2c2) (by decide +kernel) rfl rfl rfl (by decide +kernel)
set_option maxRecDepth 65536 in
theorem w_c4 : (Jvm.Cond.code ({ cls := "quorate/NodeSetRemovePinLaw", name := "in", desc := "(IIIII)Z" } : Jvm.MethodName) method_2_code (5 : Nat) (Option.some Jvm.ClassFile.FieldType.boolean)).before args0 about1 = true := code_word (m := ⟨1, 1⟩) (meth := k1m1) (c := k1c1) (by decide +kernel) rfl rfl rfl (by decide +kernel)
set_option maxRecDepth 65536 in
theorem w_c5 : (Jvm.Cond.code ({ cls := "quorate/NodeSet", name := "size", desc := "()I" } : Jvm.MethodName) prog_102_method_5_code (1 : Nat) (Option.some Jvm.ClassFile.FieldType.int)).before args0 about1 = true := code_word (m := ⟨2, 4⟩) (meth := k2m4) (c := k2c4) (by decide +kernel) rfl rfl rfl (by decide +kernel)
set_option maxRecDepth 65536 in
theorem w_c6 : (Jvm.Cond.code ({ cls := "quorate/NodeSet", name := "contains", desc := "(I)Z" } : Jvm.MethodName) prog_102_method_4_code (3 : Nat) (Option.some Jvm.ClassFile.FieldType.boolean)).before args0 about1 = true := code_word (m := ⟨2, 3⟩) (meth := k2m3) (c := k2c3) (by decide +kernel) rfl rfl rfl (by decide +kernel)
set_option maxRecDepth 65536 in
theorem w_c7 : (Jvm.Cond.code ({ cls := "quorate/NodeSet", name := "add", desc := "(I)Z" } : Jvm.MethodName) prog_102_method_2_code (2 : Nat) (Option.some Jvm.ClassFile.FieldType.boolean)).before args0 about1 = true := code_word (m := ⟨2, 1⟩) (meth := k2m1) (c := k2c1) (by decide +kernel) rfl rfl rfl (by decide +kernel)
def codes1 : List Jvm.Cond := [Jvm.Cond.code x code maxLocals ret, Jvm.Cond.code ({ cls := "quorate/NodeSet", name := "<init>", desc := "()V" } : Jvm.MethodName) prog_102_method_1_code (1 : Nat) (Option.none : Option Jvm.ClassFile.FieldType), Jvm.Cond.code ({ cls := "java/lang/Object", name := "<init>", desc := "()V" } : Jvm.MethodName) object_method_1_code (1 : Nat) (Option.none : Option Jvm.ClassFile.FieldType), Jvm.Cond.code ({ cls := "quorate/NodeSet", name := "remove", desc := "(I)V" } : Jvm.MethodName) prog_102_method_3_code (3 : Nat) (Option.none : Option Jvm.ClassFile.FieldType), Jvm.Cond.code ({ cls := "quorate/NodeSetRemovePinLaw", name := "in", desc := "(IIIII)Z" } : Jvm.MethodName) method_2_code (5 : Nat) (Option.some Jvm.ClassFile.FieldType.boolean), Jvm.Cond.code ({ cls := "quorate/NodeSet", name := "size", desc := "()I" } : Jvm.MethodName) prog_102_method_5_code (1 : Nat) (Option.some Jvm.ClassFile.FieldType.int), Jvm.Cond.code ({ cls := "quorate/NodeSet", name := "contains", desc := "(I)Z" } : Jvm.MethodName) prog_102_method_4_code (3 : Nat) (Option.some Jvm.ClassFile.FieldType.boolean), Jvm.Cond.code ({ cls := "quorate/NodeSet", name := "add", desc := "(I)Z" } : Jvm.MethodName) prog_102_method_2_code (2 : Nat) (Option.some Jvm.ClassFile.FieldType.boolean)]
set_option maxRecDepth 65536 in
theorem codes_eq : words1.filter isCode = codes1 := rfl
theorem w_codes : ∀ c ∈ words1.filter isCode, c.before args0 about1 = true := by
  rw [codes_eq]
  intro c hc
  simp only [codes1, List.mem_cons, List.not_mem_nil, or_false] at hc
  rcases hc with rfl | rfl | rfl | rfl | rfl | rfl | rfl | rfl
  · exact w_c0
  · exact w_c1
  · exact w_c2
  · exact w_c3
  · exact w_c4
  · exact w_c5
  · exact w_c6
  · exact w_c7
set_option maxRecDepth 65536 in
theorem w_t1 : (words1.take 24).all (fun c => isCode c || c.before args0 about1) = true := by decide +kernel
set_option maxRecDepth 65536 in
theorem w_t2 : (words1.drop 24).all (fun c => isCode c || c.before args0 about1) = true := by decide +kernel
theorem w_tables : (allAtoms (Jvm.Cond.code x code maxLocals ret :: tables_1)).before args0 about1 = true := by
  rw [allAtoms_all]
  show words1.all (fun c => c.before args0 about1) = true
  refine all_split ?_ w_codes
  rw [← List.take_append_drop 24 words1, List.all_append, w_t1, w_t2]
  rfl
set_option maxRecDepth 65536 in
theorem w_case : (Jvm.Cond.and given_1 narrow_1).before args0 about1 = true := by decide +kernel
theorem w_applies : (headSpec (Jvm.Cond.code x code maxLocals ret :: tables_1) room_1).applies x e0.platform about1 = true :=
  (Spec.applies_iff w_frames).mpr ⟨w_running, w_runnable, w_alone, w_named, w_hears, w_ripe, w_room, w_tables⟩
theorem atStart : AtStart classFile x code maxLocals ret World_1 tables_1 room_1 Calls_1 rest_1 Pre_1 launch0 p0 e0 about1 theMethod args0 below0 :=
  ⟨lists_1, trivial, launch0.admits_env _ _ _, launch0.least_env, fairChoices_fair.cas, fairChoices_fair.clock, w_frames, w_args, w_heap, w_applies, trivial, trivial, w_case⟩
end start1
theorem witness_1 : WitnessClaimed_1 := ⟨start1.p0, start1.e0, start1.about1, start1.theMethod, start1.args0, start1.below0, start1.atStart⟩
end Jvm.Pilot.@@N@@
