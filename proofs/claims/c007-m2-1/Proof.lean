import JvmDerived
import JvmDerived.Pilot.@@N@@Statement
import JvmDerived.Pilot.@@N@@Code
set_option linter.unusedVariables false
set_option linter.unusedSimpArgs false
namespace Jvm.Pilot.@@N@@
open Jvm Jvm.ClassFile Sem Op Lib Jvm.Free Jvm.Stand Jvm.LawKit Jvm.RoadKit Bundle Jvm.Pilot.@@N@@.Jvm.D
/-! ## Own: a walk forward: from here the run comes to an end that K takes -/
section Own
variable {p : Program} {l : Launch} {e : Env} {R : Room} {s : State} {m : MethodId} {args : Array Value} {below : List Frame} {meth : Method} {c : Code} {T : State} {locs : List Loc} {cells slots : Nat} {K : State → Prop}
def Go (p : Program) (e : Env) (below : List Frame) (K : State → Prop) (S : State) : Prop := ∃ t, Steps p.tables e below S t ∧ K t
theorem go {S S' : State} (h : ∀ t, Steps p.tables e below S' t → Steps p.tables e below S t) (g : Go p e below K S') : Go p e below K S := by
  obtain ⟨t, h1, h2⟩ := g
  exact ⟨t, h t h1, h2⟩
/-- the end of a body: what is returned, the heap and the written places fulfil Q, within so many cells and slots -/
def Dn (below : List Frame) (s : State) (Q : Option Value → Heap → List Loc → Prop) (C N : Nat) (t : State) : Prop := ∃ v L, t.status = .running ∧ Ended t below (.returned v) ∧ Q v t.heap L ∧ FrameEnd s (.returned v) t L C N
variable {Q : Option Value → Heap → List Loc → Prop} {C N : Nat}
theorem own_retI (X : Stand p l e R s m args below meth c T locs cells slots) (hx : p.tables.exec = Jvm.exec) (hlk : meth.locks = false) {pc : Nat} {Ls : Array Slot} {z : Int32} {rest : List Value} (hret : meth.sig.returnType = some .int) (hd : decode c.code pc = .ok (.ireturn, 1))
    (hC : cells ≤ C) (hN : slots ≤ N) (hQ : Q (some (.int z)) T.heap locs) : Go p e below (Dn below s Q C N) (T.setTop (mkF m pc Ls (.int z :: rest))) := by
  obtain ⟨fs, hr, hrun, hended, hW, hsame⟩ := X.leave (v := some (.int z)) (fun h => by rw [hret] at h; cases h) hlk
  refine ⟨_, ?_, _, _, hrun, hended, hQ, ⟨_, rfl⟩, hW, hsame.mono hC hN⟩
  have hm' : T.vm.method? m = some meth := X.method'
  have hn : narrow .int (.int z) = .int z := rfl
  show Steps p.tables e below (T.setTop { method := m, pc := pc, locals := Ls, stack := _ :: rest, locked := none }) _
  jvm_step X.here [X.here.top, hx, hd, hm', hret, hn]
  first | (intro acts; rw [hr _ acts rfl rfl rfl]) | rw [hr _ _ rfl rfl rfl]
  exact Steps.refl _
theorem own_retZ (X : Stand p l e R s m args below meth c T locs cells slots) (hx : p.tables.exec = Jvm.exec) (hlk : meth.locks = false) {pc : Nat} {Ls : Array Slot} {z z' : Int32} {rest : List Value} (hret : meth.sig.returnType = some .boolean) (hd : decode c.code pc = .ok (.ireturn, 1))
    (hC : cells ≤ C) (hN : slots ≤ N) (hz : nar .boolean z = z') (hQ : Q (some (.int z')) T.heap locs) : Go p e below (Dn below s Q C N) (T.setTop (mkF m pc Ls (.int z :: rest))) := by
  subst hz
  obtain ⟨fs, hr, hrun, hended, hW, hsame⟩ := X.leave (v := some (.int (nar .boolean z))) (fun h => by rw [hret] at h; cases h) hlk
  exact ⟨_, retN X hx (t := .boolean) hret (by simp) hd hr, _, _, hrun, hended, hQ, ⟨_, rfl⟩, hW, hsame.mono hC hN⟩
theorem own_retJ (X : Stand p l e R s m args below meth c T locs cells slots) (hx : p.tables.exec = Jvm.exec) (hlk : meth.locks = false) {pc : Nat} {Ls : Array Slot} {z : Int64} (hret : meth.sig.returnType = some .long) (hd : decode c.code pc = .ok (.lreturn, 1))
    (hC : cells ≤ C) (hN : slots ≤ N) (hQ : Q (some (.long z)) T.heap locs) : Go p e below (Dn below s Q C N) (T.setTop (mkF m pc Ls [.long z])) := by
  obtain ⟨fs, hr, hrun, hended, hW, hsame⟩ := X.leave (v := some (.long z)) (fun h => by rw [hret] at h; cases h) hlk
  exact ⟨_, X.lreturnOut hx hret hd hr, _, _, hrun, hended, hQ, ⟨_, rfl⟩, hW, hsame.mono hC hN⟩
theorem own_retA (X : Stand p l e R s m args below meth c T locs cells slots) (hx : p.tables.exec = Jvm.exec) (hlk : meth.locks = false) {pc : Nat} {Ls : Array Slot} {w : Value} {t : FieldType} (hw : w.isRef = true) (hret : meth.sig.returnType = some t) (ht : t.isReference = true) (hd : decode c.code pc = .ok (.areturn, 1))
    (hC : cells ≤ C) (hN : slots ≤ N) (hQ : Q (some w) T.heap locs) : Go p e below (Dn below s Q C N) (T.setTop (mkF m pc Ls [w])) := by
  obtain ⟨fs, hr, hrun, hended, hW, hsame⟩ := X.leave (v := some w) (fun h => by rw [hret] at h; cases h) hlk
  exact ⟨_, X.areturnOut hx hw hret ht hd hr, _, _, hrun, hended, hQ, ⟨_, rfl⟩, hW, hsame.mono hC hN⟩
theorem own_retV (X : Stand p l e R s m args below meth c T locs cells slots) (hx : p.tables.exec = Jvm.exec) (hlk : meth.locks = false) {pc : Nat} {Ls : Array Slot} (hret : meth.sig.returnType = none) (hd : decode c.code pc = .ok (.return_, 1))
    (hC : cells ≤ C) (hN : slots ≤ N) (hQ : Q none T.heap locs) : Go p e below (Dn below s Q C N) (T.setTop (mkF m pc Ls [])) := by
  obtain ⟨fs, hr, hrun, hended, hW, hsame⟩ := X.leave (v := none) (fun _ => rfl) hlk
  exact ⟨_, X.returnOut hx hret hd hr, _, _, hrun, hended, hQ, ⟨_, rfl⟩, hW, hsame.mono hC hN⟩
theorem own_lrem {g : JFrame} {target : State} (X : Stand p l e R s m args below meth c T locs cells slots) (hx : p.tables.exec = Jvm.exec) (hg : g.method = m) {x y : Int64} {rest : List Value} (hd : decode c.code g.pc = .ok (.lrem, 1)) (hs : g.stack = .long y :: .long x :: rest) (hy : y ≠ 0)
    (hr : Steps p.tables e below (T.setTop { g with pc := g.pc + 1, stack := .long (x % y) :: rest }) target) : Steps p.tables e below (T.setTop g) target := by
  have q : x - x / y * y = x % y := lrem_mod x y
  exact XS.lrem X.here hx hg hd hs hy (by rw [q]; exact hr)
/-- what a body's walk is handed -/
theorem own_met {x : MethodName} {code : ByteArray} {maxL : Nat} {ret : Option FieldType} {ws : List Jvm.Cond} {as' : Array Value} {L0 : Array Slot} {Z : State} {h0 : Heap} (hpl : plainFor x = true) (hef : ∀ m, entryFrame m as' maxL = mkF m 0 L0 [])
    (body : ∀ (p : Program) (e : Env) (s : State) (m : MethodId) (below : List Frame) (meth : Method) (c : Code) (T : State), p.tables.exec = Jvm.exec → c.code = code → c.maxLocals = maxL → s.vm.findClass x.cls = some m.cls → meth.name = x.name → meth.sig.returnType = ret → meth.locks = false → Z.Warmed39 s.vm →
      Stand p l e R s m as' below meth c T [] 0 0 → T.heap = h0 → Go p e below (Dn below s Q R.cells R.slots) (T.setTop (mkF m 0 L0 []))) :
    MetFree l x (head1 (Jvm.Cond.code x code maxL ret :: ws) R) (fun a U => a = as' ∧ Z.Warmed39 U.vm ∧ U.heap = h0) (fun _ _ _ _ _ => True) (fun _ U o U' => ∃ v L, o = .returned v ∧ Q v U'.heap L ∧ FrameEnd U o U' L R.cells R.slots) := by
  refine MetFree.of_bodySF hpl hisR ?_
  intro p e s m args below meth c s₁ Bd hml0 hP hK
  obtain ⟨rfl, hZ, hh⟩ := hP
  obtain ⟨t, h1, v, L, h2, h3, h4, h5⟩ := body p e s m below meth c s₁ Bd.exec Bd.bytes hml0 (findClass_of_methodNamed Bd.named) (name_of_methodNamed Bd.named Bd.method).1 Bd.returns (BodyLoose.notSynchronized Bd) hZ (Stand.of_body Bd) (by rw [← hh, Bd.state]; rfl)
  exact ⟨t, .returned v, castTop (hef m) h1, h2, h3, v, L, rfl, h4, h5⟩
section Calls
variable {Z : State} {a0 : Array Value} {own : String} {idx : Nat} {y : MethodName} {bytes : ByteArray} {maxL W : Nat} {ret : Option FieldType} {rm : Room} {as' : Array Value} {h : Heap}
/-- a static call by the callee's contract -/
theorem own_callS (X : Stand p l e R s m args below meth c T locs cells slots) (hx : p.tables.exec = Jvm.exec) (hZ : Z.Warmed39 s.vm) (hown : s.vm.findClass own = some m.cls) (eT : T.heap = h)
    (w1 : (Jvm.Cond.methodLink own idx y).before a0 Z = true) (w2 : (Jvm.Cond.static y).before a0 Z = true) (w3 : (Jvm.Cond.initialized y.cls).before a0 Z = true) (w4 : (Jvm.Cond.code y bytes maxL ret).before a0 Z = true)
    (hM : MetFree l y (head1 [Jvm.Cond.code y bytes maxL ret] rm) (fun a U => a = as' ∧ Z.Warmed39 U.vm ∧ U.heap = h) (fun _ _ _ _ _ => True) (fun _ U o U' => ∃ v L, o = .returned v ∧ Q v U'.heap L ∧ FrameEnd U o U' L rm.cells rm.slots))
    (hy : y.cls ≠ "java/lang/invoke/MethodHandle" ∧ y.cls ≠ "java/lang/invoke/VarHandle") (hf : rm.frames + 1 ≤ R.frames) (hl : W + (maxL + 11) + rm.locals ≤ R.locals) (hc : cells + rm.cells ≤ R.cells) (hs : slots + rm.slots ≤ R.slots)
    {g : JFrame} (hg : g.method = m) (hsize : g.locals.size = c.maxLocals) {argsL rest : List Value} (hst : g.stack = argsL.reverse ++ rest) (has : argsL.toArray = as') (hlen : ∀ sig, parseMethodDescriptor y.desc = some sig → argsL.length = sig.parameters.length)
    (hW : 2 * g.monitorRoom + (rest.map fun v => v.category).sum ≤ W) (hd : decode c.code g.pc = .ok (.invokestatic idx, 3))
    (k : ∀ v T' L, Stand p l e R s m args below meth c T' (locs ++ L) (cells + rm.cells) (slots + rm.slots) → Q v T'.heap L → Go p e below K (T'.setTop { g with pc := g.pc + 3, stack := v.toList ++ rest })) : Go p e below K (T.setTop g) := by
  obtain ⟨v, _, ⟨T', L', k', n'⟩, -, X', ⟨Lc, hQ, l1, y1, z1⟩, st⟩ := Jvm.LawKit.callS X hx (y := y) hown (mvT hZ w1) (mvT hZ w2) (mvT hZ w3) (mvT hZ w4) hy (backOf (W := W) hM hZ w4 w3 hf hl) hg hsize hlen hst hW hd (fun _ _ => ⟨has, eT, hc, hs⟩)
  dsimp only [Pt.U, Pt.locs, Pt.cells, Pt.slots] at X' l1 y1 z1 st hQ
  subst l1 y1 z1
  exact go st (k _ _ _ X' hQ)
/-- a constructor by its contract -/
theorem own_callC (X : Stand p l e R s m args below meth c T locs cells slots) (hx : p.tables.exec = Jvm.exec) (hZ : Z.Warmed39 s.vm) (hown : s.vm.findClass own = some m.cls) (eT : T.heap = h)
    (w1 : (Jvm.Cond.methodLink own idx y).before a0 Z = true) (w2 : (Jvm.Cond.instanceMethod y).before a0 Z = true) (w3 : (Jvm.Cond.initialized y.cls).before a0 Z = true) (w4 : (Jvm.Cond.code y bytes maxL none).before a0 Z = true)
    (hM : MetFree l y (head1 [Jvm.Cond.code y bytes maxL none] rm) (fun a U => a = as' ∧ Z.Warmed39 U.vm ∧ U.heap = h) (fun _ _ _ _ _ => True) (fun _ U o U' => ∃ v L, o = .returned v ∧ Q v U'.heap L ∧ FrameEnd U o U' L rm.cells rm.slots))
    (hyn : y.name = "<init>") (hy : y.cls ≠ "java/lang/invoke/MethodHandle" ∧ y.cls ≠ "java/lang/invoke/VarHandle") (hf : rm.frames + 1 ≤ R.frames) (hl : W + (maxL + 11) + rm.locals ≤ R.locals) (hc : cells + rm.cells ≤ R.cells) (hs : slots + rm.slots ≤ R.slots)
    {g : JFrame} (hg : g.method = m) (hsize : g.locals.size = c.maxLocals) {a : Addr} {argsL rest : List Value} (hst : g.stack = argsL.reverse ++ .ref a :: rest) (has : (.ref a :: argsL).toArray = as') (hlen : ∀ sig, parseMethodDescriptor y.desc = some sig → argsL.length = sig.parameters.length)
    (hW : 2 * g.monitorRoom + (rest.map fun v => v.category).sum ≤ W) (hd : decode c.code g.pc = .ok (.invokespecial idx, 3))
    (k : ∀ v T' L, Stand p l e R s m args below meth c T' (locs ++ L) (cells + rm.cells) (slots + rm.slots) → Q v T'.heap L → Go p e below K (T'.setTop { g with pc := g.pc + 3, stack := v.toList ++ rest })) : Go p e below K (T.setTop g) := by
  obtain ⟨v, _, ⟨T', L', k', n'⟩, -, X', ⟨Lc, hQ, l1, y1, z1⟩, st⟩ := X.specialBack hx (y := y) hyn hown (mvT hZ w1) (mvT hZ w2) (mvT hZ w4) hy (backOf (W := W) hM hZ w4 w3 hf hl) hg hsize (Steps.refl _) (a := a) hlen hst hW hd (fun _ _ => ⟨has, eT, hc, hs⟩)
  dsimp only [Pt.U, Pt.locs, Pt.cells, Pt.slots] at X' l1 y1 z1 st hQ
  subst l1 y1 z1
  exact go (fun t q => st.trans q) (k _ _ _ X' hQ)
/-- a virtual call of a method that the receiver's class declares itself -/
theorem own_callV (X : Stand p l e R s m args below meth c T locs cells slots) (hx : p.tables.exec = Jvm.exec) (hZ : Z.Warmed39 s.vm) (hown : s.vm.findClass own = some m.cls) (eT : T.heap = h)
    (w1 : (Jvm.Cond.methodLink own idx y).before a0 Z = true) (w2 : (Jvm.Cond.declares y).before a0 Z = true) (w5 : (Jvm.Cond.instanceMethod y).before a0 Z = true) (w6 : (Jvm.Cond.selects y.cls y y).before a0 Z = true) (w3 : (Jvm.Cond.initialized y.cls).before a0 Z = true) (w4 : (Jvm.Cond.code y bytes maxL ret).before a0 Z = true)
    (hM : MetFree l y (head1 [Jvm.Cond.code y bytes maxL ret] rm) (fun a U => a = as' ∧ Z.Warmed39 U.vm ∧ U.heap = h) (fun _ _ _ _ _ => True) (fun _ U o U' => ∃ v L, o = .returned v ∧ Q v U'.heap L ∧ FrameEnd U o U' L rm.cells rm.slots))
    (hy : y.cls ≠ "java/lang/invoke/MethodHandle" ∧ y.cls ≠ "java/lang/invoke/VarHandle") (hf : rm.frames + 1 ≤ R.frames) (hl : W + (maxL + 11) + rm.locals ≤ R.locals) (hc : cells + rm.cells ≤ R.cells) (hs : slots + rm.slots ≤ R.slots)
    {a : Addr} (E : Exa Z h a y.cls) {g : JFrame} (hg : g.method = m) (hsize : g.locals.size = c.maxLocals) {argsL rest : List Value} (hst : g.stack = argsL.reverse ++ .ref a :: rest) (has : (.ref a :: argsL).toArray = as') (hlen : ∀ sig, parseMethodDescriptor y.desc = some sig → argsL.length = sig.parameters.length)
    (hW : 2 * g.monitorRoom + (rest.map fun v => v.category).sum ≤ W) (hd : decode c.code g.pc = .ok (.invokevirtual idx, 3))
    (k : ∀ v T' L, Stand p l e R s m args below meth c T' (locs ++ L) (cells + rm.cells) (slots + rm.slots) → Q v T'.heap L → Go p e below K (T'.setTop { g with pc := g.pc + 3, stack := v.toList ++ rest })) : Go p e below K (T.setTop g) := by
  obtain ⟨cq, kq, qa, qb, qc⟩ := isOf hZ eT E
  obtain ⟨v, _, ⟨T', L', k', n'⟩, -, X', ⟨Lc, hQ, l1, y1, z1⟩, st⟩ := X.virtualBack hx (y := y) (z := y) hown (mvT hZ w1) (mvT hZ w2) (notFace_of_selects (args := #[]) (mvT hZ w6)) (mvT hZ w6) (mvT hZ w5) hy (backOf (W := W) hM hZ w4 w3 hf hl) qa qc hg hsize (Steps.refl _) hlen hst hW hd (fun _ _ => ⟨has, eT, hc, hs⟩)
  dsimp only [Pt.U, Pt.locs, Pt.cells, Pt.slots] at X' l1 y1 z1 st hQ
  subst l1 y1 z1
  exact go (fun t q => st.trans q) (k _ _ _ X' hQ)
end Calls
end Own
/-- a body that writes nothing: it returns r, the heap is what it was -/
def QP (r : Option Value) (h0 : Heap) (n0 : Nat) (v : Option Value) (h : Heap) (L : List Loc) : Prop := v = r ∧ Fr n0 L ∧ h = h0

/-! ## Own: an int array by its list -/
section OwnAri
variable {p : Program} {l : Launch} {e : Env} {R : Room} {s : State} {m : MethodId} {args : Array Value} {below : List Frame} {meth : Method} {c : Code} {T : State} {locs : List Loc} {cells slots : Nat} {Z : State} {h h' : Heap} {a b : Addr} {sl : Nat} {v : Value} {ws : List Addr} {A : List Int32}
def Ari (Z : State) (h : Heap) (a : Addr) (A : List Int32) : Prop := ∃ (k : ClassId) (n : Int32), Arv Z h a k .int n (A.map Value.int) (.int (0 : Int32)) ∧ n.toNatClampNeg = A.length
theorem Ari.lt (F : Ari Z h a A) : a < h.size := by obtain ⟨k, n, V, -⟩ := F; exact V.lt
theorem Ari.ext (F : Ari Z h a A) (E : Ext h h') : Ari Z h' a A := by obtain ⟨k, n, V, q⟩ := F; exact ⟨k, n, V.ext E, q⟩
theorem Ari.other (F : Ari Z h b A) (W : Wr h h' a sl v) (q : b ≠ a) : Ari Z h' b A := by obtain ⟨k, n, V, r⟩ := F; exact ⟨k, n, V.other W q, r⟩
theorem Ari.keep (F : Ari Z h a A) (K : Keep h h' ws) (q : a ∉ ws) : Ari Z h' a A := by obtain ⟨k, n, V, r⟩ := F; exact ⟨k, n, V.keep K q, r⟩
theorem own_map_getD (A : List Int32) (i : Nat) : (A.map Value.int).getD i (.int (0 : Int32)) = .int (A.getD i 0) := by
  rw [List.getD_eq_getElem?_getD, List.getD_eq_getElem?_getD, List.getElem?_map]
  cases A[i]? <;> rfl
theorem Ari.cell (F : Ari Z h a A) : ∃ cl : Cell, Arr Z h a cl .int ∧ cl.slots.size = A.length ∧ ∀ i, i < A.length → cl.slots[i]? = some (.int (A.getD i 0)) := by
  obtain ⟨k, n, ⟨cl, Ar, -, S, -, H, -⟩, q⟩ := F
  refine ⟨cl, Ar, by rw [S, q], fun i hi => ?_⟩
  rw [← own_map_getD]
  exact H i (by rw [S, q]; exact hi)
theorem own_inb {cl : Cell} {j : Int32} (S : cl.slots.size = A.length) (h0 : ¬ j < 0) (h1 : j.toNatClampNeg < A.length) : ¬ (j < 0 ∨ cl.slots.size ≤ j.toNatClampNeg) := by
  rintro (q | q)
  · exact h0 q
  · omega
theorem own_iaload (X : Stand p l e R s m args below meth c T locs cells slots) (hx : p.tables.exec = Jvm.exec) (hZ : Z.Warmed39 s.vm) (eT : T.heap = h) (F : Ari Z h a A) {j : Int32} (h0 : ¬ j < 0) (h1 : j.toNatClampNeg < A.length)
    {g : JFrame} (hg : g.method = m) {rest : List Value} (hs : g.stack = .int j :: .ref a :: rest) (hd : decode c.code g.pc = .ok (.iaload, 1)) :
    ∀ target, Steps p.tables e below (T.setTop { g with pc := g.pc + 1, stack := .int (A.getD j.toNatClampNeg 0) :: rest }) target → Steps p.tables e below (T.setTop g) target := by
  obtain ⟨cl, Ar, S, H⟩ := F.cell
  exact X.iaload hx (j := j) (by rw [eT]; exact Ar.1) (State.isArrayOf_alike hZ.alike Ar.2.1) Ar.2.2 (own_inb S h0 h1) (H _ h1) hg hs hd
theorem own_iastore (X : Stand p l e R s m args below meth c T locs cells slots) (hx : p.tables.exec = Jvm.exec) (hZ : Z.Warmed39 s.vm) (eT : T.heap = h) (F : Ari Z h a A) {j x : Int32} (h0 : ¬ j < 0) (h1 : j.toNatClampNeg < A.length)
    {g : JFrame} (hg : g.method = m) {rest : List Value} (hs : g.stack = .int x :: .int j :: .ref a :: rest) (hd : decode c.code g.pc = .ok (.iastore, 1)) :
    ∃ T' h', Stand p l e R s m args below meth c T' (locs ++ [⟨a, j.toNatClampNeg⟩]) cells slots ∧ T'.heap = h' ∧ Wr h h' a j.toNatClampNeg (.int x) ∧ Ari Z h' a (A.set j.toNatClampNeg x) ∧ ∀ target, Steps p.tables e below (T'.setTop { g with pc := g.pc + 1, stack := rest }) target → Steps p.tables e below (T.setTop g) target := by
  obtain ⟨k, n, ⟨cl, Ar, q, S, Ng, H, G⟩, qn⟩ := F
  obtain ⟨T', h', X', e', W, st⟩ := stI X hx hZ eT Ar (j := j) (x := x) (own_inb (A := A) (by rw [S, qn]) h0 h1) hg hs hd
  refine ⟨T', h', X', e', W, ⟨k, n, ?_, by rw [List.length_set]; exact qn⟩, st⟩
  have V := Arv.set Ar q S Ng H G (v := .int x) rfl W j.toNatClampNeg rfl (by rw [List.length_map]; exact h1)
  rw [List.map_set]
  exact V
theorem own_arilen (X : Stand p l e R s m args below meth c T locs cells slots) (hx : p.tables.exec = Jvm.exec) (hZ : Z.Warmed39 s.vm) (eT : T.heap = h) (F : Ari Z h a A)
    {g : JFrame} (hg : g.method = m) {rest : List Value} (hs : g.stack = .ref a :: rest) (hd : decode c.code g.pc = .ok (.arraylength, 1)) :
    ∀ target, Steps p.tables e below (T.setTop { g with pc := g.pc + 1, stack := .int (A.length.toInt32) :: rest }) target → Steps p.tables e below (T.setTop g) target := by
  obtain ⟨cl, Ar, S, H⟩ := F.cell
  rw [← S]
  exact X.arraylength hx (by rw [eT]; exact Ar.1) (State.isArrayOf_alike hZ.alike Ar.2.1) hg hs hd
/-- a fresh int array of n places -/
theorem own_fresh {k : ClassId} {n : Int32} (V : Arr Z h a (newA k .int n) .int) (q : ¬ n < 0) {m : Nat} (hm : n.toNatClampNeg = m) : Ari Z h a (List.replicate m (0 : Int32)) := by
  refine ⟨k, n, ?_, by rw [List.length_replicate]; exact hm⟩
  rw [List.map_replicate]
  exact (Arv.new V q).pad (pad_rep [] (.int (0 : Int32)) m)
end OwnAri

/-! ## the callee, as a function on lists -/
def own_adv : Int32 → List Int32 → Int32 → Int32 × List Int32
  | c, [], _ => (c, [])
  | c, g :: gs, s => if c < s then own_adv (c + (g + 1)) gs s else (c, g :: gs)
def own_ks : Int32 → List Int32 → List Int32 → List Int32 → List Int32
  | _, _, [], ks => ks
  | c, gs, s :: ss, ks => if (own_adv c gs s).1 < s then ks else own_ks (own_adv c gs s).1 (own_adv c gs s).2 ss (if (own_adv c gs s).1 = s then ks ++ [s] else ks)
theorem own_succ (n : Nat) : Int32.ofNat n + (1 : Int32) = Int32.ofNat (n + 1) := by
  rw [Int32.ofNat_add]; rfl
theorem own_toInt {n : Nat} (h : n < 1000) : (Int32.ofNat n).toInt = n := Int32.toInt_ofNat_small (by omega)
theorem own_nneg {n : Nat} (h : n < 1000) : ¬ (Int32.ofNat n < 0) := by
  rw [Int32.lt_iff_toInt_lt, own_toInt h]
  have e0 : (0 : Int32).toInt = 0 := rfl
  omega
theorem own_nat {n : Nat} (h : n < 1000) : (Int32.ofNat n).toNatClampNeg = n := by
  show (Int32.ofNat n).toInt.toNat = n
  rw [own_toInt h]; rfl
theorem own_ltn {a b : Nat} (ha : a < 1000) (hb : b < 1000) : Int32.ofNat a < Int32.ofNat b ↔ a < b := by
  rw [Int32.lt_iff_toInt_lt, own_toInt ha, own_toInt hb]; omega
theorem own_droplen {G gs tl : List Int32} {o : Nat} (h : G.drop o = gs ++ tl) (hg : gs ≠ []) : o + gs.length ≤ G.length := by
  have q := congrArg List.length h
  rw [List.length_drop, List.length_append] at q
  have : gs.length ≠ 0 := fun k => hg (List.length_eq_zero_iff.mp k)
  omega
theorem own_read {G gs tl : List Int32} {o : Nat} {g : Int32} (h : G.drop o = (g :: gs) ++ tl) : G.getD o 0 = g := by
  have q : (G.drop o)[0]? = some g := by rw [h]; rfl
  rw [List.getElem?_drop] at q
  rw [List.getD_eq_getElem?_getD]
  simpa using congrArg (fun z => z.getD 0) q
theorem own_next {G gs tl : List Int32} {o : Nat} {g : Int32} (h : G.drop o = (g :: gs) ++ tl) : G.drop (o + 1) = gs ++ tl := by
  rw [← List.drop_drop, h]; rfl
theorem own_take_set {A ks : List Int32} {s : Int32} (h : A.take ks.length = ks) (hl : ks.length < A.length) : (A.set ks.length s).take ks.length = ks ∧ (A.set ks.length s).take (ks ++ [s]).length = ks ++ [s] := by
  constructor
  · rw [List.take_set_of_le (Nat.le_refl _)]; exact h
  · rw [List.length_append, List.length_singleton, List.take_add_one, List.take_set_of_le (Nat.le_refl _), h, List.getElem?_set_self hl]; rfl
theorem own_drop_set {A : List Int32} {n i : Nat} {s : Int32} (h : n ≤ i) : (A.set n s).drop (i + 1) = A.drop (i + 1) := by
  rw [List.drop_set_of_lt (by omega)]

theorem d1_0 : decode prog_97_method_16_code 0 = .ok (.iload_n 1, 1) := by decide +kernel
theorem d1_1 : decode prog_97_method_16_code 1 = .ok (.istore 6, 2) := by decide +kernel
theorem d1_3 : decode prog_97_method_16_code 3 = .ok (.iload_n 1, 1) := by decide +kernel
theorem d1_4 : decode prog_97_method_16_code 4 = .ok (.iload_n 2, 1) := by decide +kernel
theorem d1_5 : decode prog_97_method_16_code 5 = .ok (.iadd, 1) := by decide +kernel
theorem d1_6 : decode prog_97_method_16_code 6 = .ok (.istore 7, 2) := by decide +kernel
theorem d1_8 : decode prog_97_method_16_code 8 = .ok (.aload_n 0, 1) := by decide +kernel
theorem d1_9 : decode prog_97_method_16_code 9 = .ok (.iload 6, 2) := by decide +kernel
theorem d1_11 : decode prog_97_method_16_code 11 = .ok (.iinc 6 1, 3) := by decide +kernel
theorem d1_14 : decode prog_97_method_16_code 14 = .ok (.iaload, 1) := by decide +kernel
theorem d1_15 : decode prog_97_method_16_code 15 = .ok (.iload 5, 2) := by decide +kernel
theorem d1_17 : decode prog_97_method_16_code 17 = .ok (.isub, 1) := by decide +kernel
theorem d1_18 : decode prog_97_method_16_code 18 = .ok (.istore 8, 2) := by decide +kernel
theorem d1_20 : decode prog_97_method_16_code 20 = .ok (.iconst 0, 1) := by decide +kernel
theorem d1_21 : decode prog_97_method_16_code 21 = .ok (.istore 9, 2) := by decide +kernel
theorem d1_23 : decode prog_97_method_16_code 23 = .ok (.iconst 0, 1) := by decide +kernel
theorem d1_24 : decode prog_97_method_16_code 24 = .ok (.istore 10, 2) := by decide +kernel
theorem d1_26 : decode prog_97_method_16_code 26 = .ok (.iload 10, 2) := by decide +kernel
theorem d1_28 : decode prog_97_method_16_code 28 = .ok (.iload 4, 2) := by decide +kernel
theorem d1_30 : decode prog_97_method_16_code 30 = .ok (.if_icmp .ge 79, 3) := by decide +kernel
theorem d1_33 : decode prog_97_method_16_code 33 = .ok (.aload_n 3, 1) := by decide +kernel
theorem d1_34 : decode prog_97_method_16_code 34 = .ok (.iload 10, 2) := by decide +kernel
theorem d1_36 : decode prog_97_method_16_code 36 = .ok (.iaload, 1) := by decide +kernel
theorem d1_37 : decode prog_97_method_16_code 37 = .ok (.istore 11, 2) := by decide +kernel
theorem d1_39 : decode prog_97_method_16_code 39 = .ok (.iload 8, 2) := by decide +kernel
theorem d1_41 : decode prog_97_method_16_code 41 = .ok (.iload 11, 2) := by decide +kernel
theorem d1_43 : decode prog_97_method_16_code 43 = .ok (.if_icmp .ge 27, 3) := by decide +kernel
theorem d1_46 : decode prog_97_method_16_code 46 = .ok (.iload 6, 2) := by decide +kernel
theorem d1_48 : decode prog_97_method_16_code 48 = .ok (.iload 7, 2) := by decide +kernel
theorem d1_50 : decode prog_97_method_16_code 50 = .ok (.if_icmp .ge 20, 3) := by decide +kernel
theorem d1_53 : decode prog_97_method_16_code 53 = .ok (.iload 8, 2) := by decide +kernel
theorem d1_55 : decode prog_97_method_16_code 55 = .ok (.aload_n 0, 1) := by decide +kernel
theorem d1_56 : decode prog_97_method_16_code 56 = .ok (.iload 6, 2) := by decide +kernel
theorem d1_58 : decode prog_97_method_16_code 58 = .ok (.iinc 6 1, 3) := by decide +kernel
theorem d1_61 : decode prog_97_method_16_code 61 = .ok (.iaload, 1) := by decide +kernel
theorem d1_62 : decode prog_97_method_16_code 62 = .ok (.iconst 1, 1) := by decide +kernel
theorem d1_63 : decode prog_97_method_16_code 63 = .ok (.iadd, 1) := by decide +kernel
theorem d1_64 : decode prog_97_method_16_code 64 = .ok (.iadd, 1) := by decide +kernel
theorem d1_65 : decode prog_97_method_16_code 65 = .ok (.istore 8, 2) := by decide +kernel
theorem d1_67 : decode prog_97_method_16_code 67 = .ok (.goto (-28), 3) := by decide +kernel
theorem d1_70 : decode prog_97_method_16_code 70 = .ok (.iload 8, 2) := by decide +kernel
theorem d1_72 : decode prog_97_method_16_code 72 = .ok (.iload 11, 2) := by decide +kernel
theorem d1_74 : decode prog_97_method_16_code 74 = .ok (.if_icmp .ge 6, 3) := by decide +kernel
theorem d1_77 : decode prog_97_method_16_code 77 = .ok (.goto 32, 3) := by decide +kernel
theorem d1_80 : decode prog_97_method_16_code 80 = .ok (.aload_n 3, 1) := by decide +kernel
theorem d1_81 : decode prog_97_method_16_code 81 = .ok (.iload 9, 2) := by decide +kernel
theorem d1_83 : decode prog_97_method_16_code 83 = .ok (.iload 11, 2) := by decide +kernel
theorem d1_85 : decode prog_97_method_16_code 85 = .ok (.iastore, 1) := by decide +kernel
theorem d1_86 : decode prog_97_method_16_code 86 = .ok (.iload 9, 2) := by decide +kernel
theorem d1_88 : decode prog_97_method_16_code 88 = .ok (.iload 8, 2) := by decide +kernel
theorem d1_90 : decode prog_97_method_16_code 90 = .ok (.iload 11, 2) := by decide +kernel
theorem d1_92 : decode prog_97_method_16_code 92 = .ok (.if_icmp .ne 7, 3) := by decide +kernel
theorem d1_95 : decode prog_97_method_16_code 95 = .ok (.iconst 1, 1) := by decide +kernel
theorem d1_96 : decode prog_97_method_16_code 96 = .ok (.goto 4, 3) := by decide +kernel
theorem d1_99 : decode prog_97_method_16_code 99 = .ok (.iconst 0, 1) := by decide +kernel
theorem d1_100 : decode prog_97_method_16_code 100 = .ok (.iadd, 1) := by decide +kernel
theorem d1_101 : decode prog_97_method_16_code 101 = .ok (.istore 9, 2) := by decide +kernel
theorem d1_103 : decode prog_97_method_16_code 103 = .ok (.iinc 10 1, 3) := by decide +kernel
theorem d1_106 : decode prog_97_method_16_code 106 = .ok (.goto (-80), 3) := by decide +kernel
theorem d1_109 : decode prog_97_method_16_code 109 = .ok (.iload 9, 2) := by decide +kernel
theorem d1_111 : decode prog_97_method_16_code 111 = .ok (.ireturn, 1) := by decide +kernel
theorem pn_1 : plainName "com/example/skipstone/skipstone/PostingsCursor" = true := by first | (simp [plainName, overriddenIn]; done) | decide +kernel
theorem ef_1 (m : MethodId) (x0 : Addr) (x1 : Int32) (x2 : Int32) (x3 : Addr) (x4 : Int32) (x5 : Int32) : entryFrame m #[(.ref x0), (.int x1), (.int x2), (.ref x3), (.int x4), (.int x5)] 12 = mkF m 0 #[.val (.ref x0), .val (.int x1), .val (.int x2), .val (.ref x3), .val (.int x4), .val (.int x5), .unset, .unset, .unset, .unset, .unset, .unset] [] := by first | (simp [entryFrame, mkF, argsToLocals, Value.category]; done) | rfl
set_option maxRecDepth 65536 in
set_option maxHeartbeats 40000000 in
theorem own_inner {p : Program} {l : Launch} {e : Env} {R : Room} {s : State} {m : MethodId} {args : Array Value} {below : List Frame} {meth : Method} {c : Code} {cells slots : Nat} {Z : State} {K : State → Prop} {T : State} {locs : List Loc} {h : Heap} (X : Stand p l e R s m args below meth c T locs cells slots) (hx : p.tables.exec = Jvm.exec) (hZ : Z.Warmed39 s.vm) (hby : c.code = prog_97_method_16_code) (eT : T.heap = h) {a1 a4 : Addr} {p2 p3 p5 p6 c7 k9 i10 s11 : Int32} {G : List Int32} (F : Ari Z h a1 G) (hG : G.length < 1000) (tl : List Int32) :
    ∀ (gs : List Int32) (o : Nat) (c8 : Int32), o + gs.length < 1000 → G.drop o = gs ++ tl → c7 = Int32.ofNat (o + gs.length) →
      (∀ o' : Nat, o' + (own_adv c8 gs s11).2.length < 1000 → G.drop o' = (own_adv c8 gs s11).2 ++ tl → c7 = Int32.ofNat (o' + (own_adv c8 gs s11).2.length) → Go p e below K (T.setTop (mkF m 70 #[.val (.ref a1), .val (.int p2), .val (.int p3), .val (.ref a4), .val (.int p5), .val (.int p6), .val (.int (Int32.ofNat o')), .val (.int c7), .val (.int (own_adv c8 gs s11).1), .val (.int k9), .val (.int i10), .val (.int s11)] []))) →
      Go p e below K (T.setTop (mkF m 39 #[.val (.ref a1), .val (.int p2), .val (.int p3), .val (.ref a4), .val (.int p5), .val (.int p6), .val (.int (Int32.ofNat o)), .val (.int c7), .val (.int c8), .val (.int k9), .val (.int i10), .val (.int s11)] [])) := by
  intro gs
  induction gs with
  | nil =>
    intro o c8 hbo hd hE kont
    show Go p e below _ (T.setTop (mkF m 39 #[.val (.ref a1), .val (.int p2), .val (.int p3), .val (.ref a4), .val (.int p5), .val (.int p6), .val (.int (Int32.ofNat o)), .val (.int c7), .val (.int c8), .val (.int k9), .val (.int i10), .val (.int s11)] []))
    refine go (fun _ q => XS.iload X.here hx rfl (hb hby d1_39) rfl q) ?_
    show Go p e below _ (T.setTop (mkF m 41 #[.val (.ref a1), .val (.int p2), .val (.int p3), .val (.ref a4), .val (.int p5), .val (.int p6), .val (.int (Int32.ofNat o)), .val (.int c7), .val (.int c8), .val (.int k9), .val (.int i10), .val (.int s11)] [(.int c8)]))
    refine go (fun _ q => XS.iload X.here hx rfl (hb hby d1_41) rfl q) ?_
    show Go p e below _ (T.setTop (mkF m 43 #[.val (.ref a1), .val (.int p2), .val (.int p3), .val (.ref a4), .val (.int p5), .val (.int p6), .val (.int (Int32.ofNat o)), .val (.int c7), .val (.int c8), .val (.int k9), .val (.int i10), .val (.int s11)] [(.int s11), (.int c8)]))
    by_cases hc1 : c8 < s11
    · refine go (fun _ q => XS.icmpNo X.here hx rfl (hb hby d1_43) rfl (tlt hc1).2.1 q) ?_
      show Go p e below _ (T.setTop (mkF m 46 #[.val (.ref a1), .val (.int p2), .val (.int p3), .val (.ref a4), .val (.int p5), .val (.int p6), .val (.int (Int32.ofNat o)), .val (.int c7), .val (.int c8), .val (.int k9), .val (.int i10), .val (.int s11)] []))
      refine go (fun _ q => XS.iload X.here hx rfl (hb hby d1_46) rfl q) ?_
      show Go p e below _ (T.setTop (mkF m 48 #[.val (.ref a1), .val (.int p2), .val (.int p3), .val (.ref a4), .val (.int p5), .val (.int p6), .val (.int (Int32.ofNat o)), .val (.int c7), .val (.int c8), .val (.int k9), .val (.int i10), .val (.int s11)] [(.int (Int32.ofNat o))]))
      refine go (fun _ q => XS.iload X.here hx rfl (hb hby d1_48) rfl q) ?_
      show Go p e below _ (T.setTop (mkF m 50 #[.val (.ref a1), .val (.int p2), .val (.int p3), .val (.ref a4), .val (.int p5), .val (.int p6), .val (.int (Int32.ofNat o)), .val (.int c7), .val (.int c8), .val (.int k9), .val (.int i10), .val (.int s11)] [(.int c7), (.int (Int32.ofNat o))]))
      have hk2 : ¬ ((Int32.ofNat o) < c7) := by rw [hE]; exact fun q => Nat.lt_irrefl _ ((own_ltn (by simpa using hbo) (by simpa using hbo)).mp q)
      refine go (fun _ q => XS.icmpYes X.here hx rfl (pc0 := 50) (pc' := 70) rfl (hb hby d1_50) rfl (flt hk2).2.1 (by decide) (by decide) q) ?_
      show Go p e below _ (T.setTop (mkF m 70 #[.val (.ref a1), .val (.int p2), .val (.int p3), .val (.ref a4), .val (.int p5), .val (.int p6), .val (.int (Int32.ofNat o)), .val (.int c7), .val (.int c8), .val (.int k9), .val (.int i10), .val (.int s11)] []))
      exact kont o hbo hd hE
    · refine go (fun _ q => XS.icmpYes X.here hx rfl (pc0 := 43) (pc' := 70) rfl (hb hby d1_43) rfl (flt hc1).2.1 (by decide) (by decide) q) ?_
      show Go p e below _ (T.setTop (mkF m 70 #[.val (.ref a1), .val (.int p2), .val (.int p3), .val (.ref a4), .val (.int p5), .val (.int p6), .val (.int (Int32.ofNat o)), .val (.int c7), .val (.int c8), .val (.int k9), .val (.int i10), .val (.int s11)] []))
      exact kont o hbo hd hE
  | cons g gs ih =>
    intro o c8 hbo hd hE kont
    have hlen := own_droplen hd (by simp)
    have hlen' : o < G.length := by simp only [List.length_cons] at hlen; omega
    simp only [List.length_cons] at hbo hE
    show Go p e below _ (T.setTop (mkF m 39 #[.val (.ref a1), .val (.int p2), .val (.int p3), .val (.ref a4), .val (.int p5), .val (.int p6), .val (.int (Int32.ofNat o)), .val (.int c7), .val (.int c8), .val (.int k9), .val (.int i10), .val (.int s11)] []))
    refine go (fun _ q => XS.iload X.here hx rfl (hb hby d1_39) rfl q) ?_
    show Go p e below _ (T.setTop (mkF m 41 #[.val (.ref a1), .val (.int p2), .val (.int p3), .val (.ref a4), .val (.int p5), .val (.int p6), .val (.int (Int32.ofNat o)), .val (.int c7), .val (.int c8), .val (.int k9), .val (.int i10), .val (.int s11)] [(.int c8)]))
    refine go (fun _ q => XS.iload X.here hx rfl (hb hby d1_41) rfl q) ?_
    show Go p e below _ (T.setTop (mkF m 43 #[.val (.ref a1), .val (.int p2), .val (.int p3), .val (.ref a4), .val (.int p5), .val (.int p6), .val (.int (Int32.ofNat o)), .val (.int c7), .val (.int c8), .val (.int k9), .val (.int i10), .val (.int s11)] [(.int s11), (.int c8)]))
    by_cases hc1 : c8 < s11
    · refine go (fun _ q => XS.icmpNo X.here hx rfl (hb hby d1_43) rfl (tlt hc1).2.1 q) ?_
      show Go p e below _ (T.setTop (mkF m 46 #[.val (.ref a1), .val (.int p2), .val (.int p3), .val (.ref a4), .val (.int p5), .val (.int p6), .val (.int (Int32.ofNat o)), .val (.int c7), .val (.int c8), .val (.int k9), .val (.int i10), .val (.int s11)] []))
      refine go (fun _ q => XS.iload X.here hx rfl (hb hby d1_46) rfl q) ?_
      show Go p e below _ (T.setTop (mkF m 48 #[.val (.ref a1), .val (.int p2), .val (.int p3), .val (.ref a4), .val (.int p5), .val (.int p6), .val (.int (Int32.ofNat o)), .val (.int c7), .val (.int c8), .val (.int k9), .val (.int i10), .val (.int s11)] [(.int (Int32.ofNat o))]))
      refine go (fun _ q => XS.iload X.here hx rfl (hb hby d1_48) rfl q) ?_
      show Go p e below _ (T.setTop (mkF m 50 #[.val (.ref a1), .val (.int p2), .val (.int p3), .val (.ref a4), .val (.int p5), .val (.int p6), .val (.int (Int32.ofNat o)), .val (.int c7), .val (.int c8), .val (.int k9), .val (.int i10), .val (.int s11)] [(.int c7), (.int (Int32.ofNat o))]))
      have hk2 : (Int32.ofNat o) < c7 := by rw [hE]; exact (own_ltn (by omega) (by omega)).mpr (by omega)
      refine go (fun _ q => XS.icmpNo X.here hx rfl (hb hby d1_50) rfl (tlt hk2).2.1 q) ?_
      show Go p e below _ (T.setTop (mkF m 53 #[.val (.ref a1), .val (.int p2), .val (.int p3), .val (.ref a4), .val (.int p5), .val (.int p6), .val (.int (Int32.ofNat o)), .val (.int c7), .val (.int c8), .val (.int k9), .val (.int i10), .val (.int s11)] []))
      refine go (fun _ q => XS.iload X.here hx rfl (hb hby d1_53) rfl q) ?_
      show Go p e below _ (T.setTop (mkF m 55 #[.val (.ref a1), .val (.int p2), .val (.int p3), .val (.ref a4), .val (.int p5), .val (.int p6), .val (.int (Int32.ofNat o)), .val (.int c7), .val (.int c8), .val (.int k9), .val (.int i10), .val (.int s11)] [(.int c8)]))
      refine go (fun _ q => XS.aloadN X.here hx rfl (hb hby d1_55) rfl rfl q) ?_
      show Go p e below _ (T.setTop (mkF m 56 #[.val (.ref a1), .val (.int p2), .val (.int p3), .val (.ref a4), .val (.int p5), .val (.int p6), .val (.int (Int32.ofNat o)), .val (.int c7), .val (.int c8), .val (.int k9), .val (.int i10), .val (.int s11)] [(.ref a1), (.int c8)]))
      refine go (fun _ q => XS.iload X.here hx rfl (hb hby d1_56) rfl q) ?_
      show Go p e below _ (T.setTop (mkF m 58 #[.val (.ref a1), .val (.int p2), .val (.int p3), .val (.ref a4), .val (.int p5), .val (.int p6), .val (.int (Int32.ofNat o)), .val (.int c7), .val (.int c8), .val (.int k9), .val (.int i10), .val (.int s11)] [(.int (Int32.ofNat o)), (.ref a1), (.int c8)]))
      refine go (fun _ q => XS.iinc X.here hx rfl (hb hby d1_58) rfl (l' := #[.val (.ref a1), .val (.int p2), .val (.int p3), .val (.ref a4), .val (.int p5), .val (.int p6), .val (.int ((Int32.ofNat o) + (1 : Int32))), .val (.int c7), .val (.int c8), .val (.int k9), .val (.int i10), .val (.int s11)]) rfl q) ?_
      show Go p e below _ (T.setTop (mkF m 61 #[.val (.ref a1), .val (.int p2), .val (.int p3), .val (.ref a4), .val (.int p5), .val (.int p6), .val (.int ((Int32.ofNat o) + (1 : Int32))), .val (.int c7), .val (.int c8), .val (.int k9), .val (.int i10), .val (.int s11)] [(.int (Int32.ofNat o)), (.ref a1), (.int c8)]))
      refine go (own_iaload X hx hZ eT F (j := (Int32.ofNat o)) (own_nneg (by omega)) (by rw [own_nat (by omega)]; exact hlen') (g := (mkF m 61 #[.val (.ref a1), .val (.int p2), .val (.int p3), .val (.ref a4), .val (.int p5), .val (.int p6), .val (.int ((Int32.ofNat o) + (1 : Int32))), .val (.int c7), .val (.int c8), .val (.int k9), .val (.int i10), .val (.int s11)] [(.int (Int32.ofNat o)), (.ref a1), (.int c8)])) rfl rfl (hb hby d1_61)) ?_
      show Go p e below _ (T.setTop (mkF m 62 #[.val (.ref a1), .val (.int p2), .val (.int p3), .val (.ref a4), .val (.int p5), .val (.int p6), .val (.int ((Int32.ofNat o) + (1 : Int32))), .val (.int c7), .val (.int c8), .val (.int k9), .val (.int i10), .val (.int s11)] [(.int (G.getD ((Int32.ofNat o)).toNatClampNeg 0)), (.int c8)]))
      refine go (fun _ q => XS.iconst X.here hx rfl (hb hby d1_62) q) ?_
      show Go p e below _ (T.setTop (mkF m 63 #[.val (.ref a1), .val (.int p2), .val (.int p3), .val (.ref a4), .val (.int p5), .val (.int p6), .val (.int ((Int32.ofNat o) + (1 : Int32))), .val (.int c7), .val (.int c8), .val (.int k9), .val (.int i10), .val (.int s11)] [(.int (1 : Int32)), (.int (G.getD ((Int32.ofNat o)).toNatClampNeg 0)), (.int c8)]))
      refine go (fun _ q => XS.iadd X.here hx rfl (hb hby d1_63) rfl q) ?_
      show Go p e below _ (T.setTop (mkF m 64 #[.val (.ref a1), .val (.int p2), .val (.int p3), .val (.ref a4), .val (.int p5), .val (.int p6), .val (.int ((Int32.ofNat o) + (1 : Int32))), .val (.int c7), .val (.int c8), .val (.int k9), .val (.int i10), .val (.int s11)] [(.int ((G.getD ((Int32.ofNat o)).toNatClampNeg 0) + (1 : Int32))), (.int c8)]))
      refine go (fun _ q => XS.iadd X.here hx rfl (hb hby d1_64) rfl q) ?_
      show Go p e below _ (T.setTop (mkF m 65 #[.val (.ref a1), .val (.int p2), .val (.int p3), .val (.ref a4), .val (.int p5), .val (.int p6), .val (.int ((Int32.ofNat o) + (1 : Int32))), .val (.int c7), .val (.int c8), .val (.int k9), .val (.int i10), .val (.int s11)] [(.int (c8 + ((G.getD ((Int32.ofNat o)).toNatClampNeg 0) + (1 : Int32))))]))
      refine go (fun _ q => XS.istore X.here hx rfl (hb hby d1_65) rfl (l' := #[.val (.ref a1), .val (.int p2), .val (.int p3), .val (.ref a4), .val (.int p5), .val (.int p6), .val (.int ((Int32.ofNat o) + (1 : Int32))), .val (.int c7), .val (.int (c8 + ((G.getD ((Int32.ofNat o)).toNatClampNeg 0) + (1 : Int32)))), .val (.int k9), .val (.int i10), .val (.int s11)]) rfl q) ?_
      show Go p e below _ (T.setTop (mkF m 67 #[.val (.ref a1), .val (.int p2), .val (.int p3), .val (.ref a4), .val (.int p5), .val (.int p6), .val (.int ((Int32.ofNat o) + (1 : Int32))), .val (.int c7), .val (.int (c8 + ((G.getD ((Int32.ofNat o)).toNatClampNeg 0) + (1 : Int32)))), .val (.int k9), .val (.int i10), .val (.int s11)] []))
      refine go (fun _ q => XS.goto X.here hx rfl (pc0 := 67) (pc' := 39) rfl (hb hby d1_67) (by decide) (by decide) q) ?_
      show Go p e below _ (T.setTop (mkF m 39 #[.val (.ref a1), .val (.int p2), .val (.int p3), .val (.ref a4), .val (.int p5), .val (.int p6), .val (.int ((Int32.ofNat o) + (1 : Int32))), .val (.int c7), .val (.int (c8 + ((G.getD ((Int32.ofNat o)).toNatClampNeg 0) + (1 : Int32)))), .val (.int k9), .val (.int i10), .val (.int s11)] []))
      have ea : own_adv c8 (g :: gs) s11 = own_adv (c8 + (g + 1)) gs s11 := by rw [own_adv, if_pos hc1]
      rw [ea] at kont
      have er : G.getD (Int32.ofNat o).toNatClampNeg 0 = g := by rw [own_nat (by omega)]; exact own_read hd
      rw [er, own_succ]
      exact ih (o + 1) (c8 + (g + 1)) (by omega) (own_next hd) (by rw [hE]; congr 1; omega) kont
    · refine go (fun _ q => XS.icmpYes X.here hx rfl (pc0 := 43) (pc' := 70) rfl (hb hby d1_43) rfl (flt hc1).2.1 (by decide) (by decide) q) ?_
      show Go p e below _ (T.setTop (mkF m 70 #[.val (.ref a1), .val (.int p2), .val (.int p3), .val (.ref a4), .val (.int p5), .val (.int p6), .val (.int (Int32.ofNat o)), .val (.int c7), .val (.int c8), .val (.int k9), .val (.int i10), .val (.int s11)] []))
      have ea : own_adv c8 (g :: gs) s11 = (c8, g :: gs) := by rw [own_adv, if_neg hc1]
      rw [ea] at kont
      exact kont o hbo hd hE
set_option maxRecDepth 65536 in
set_option maxHeartbeats 40000000 in
theorem own_outer {p : Program} {l : Launch} {e : Env} {R : Room} {s : State} {m : MethodId} {args : Array Value} {below : List Frame} {meth : Method} {c : Code} {cells slots : Nat} {Z : State} {K : State → Prop} (hx : p.tables.exec = Jvm.exec) (hZ : Z.Warmed39 s.vm) (hby : c.code = prog_97_method_16_code) {a1 a4 : Addr} {p2 p3 p5 p6 c7 : Int32} {n0 : Nat} (g_a4 : n0 ≤ a4) (ne14 : a1 ≠ a4) {G : List Int32} (hG : G.length < 900) (tl tm : List Int32) :
    ∀ (ss : List Int32) (T : State) (locs : List Loc) (h : Heap) (A : List Int32) (gs ks : List Int32) (o i : Nat) (c8 : Int32) (s11 : Slot),
      Stand p l e R s m args below meth c T locs cells slots → Fr n0 locs → n0 ≤ h.size → T.heap = h → Ari Z h a1 G → Ari Z h a4 A → A.length = 4 → o + gs.length < 1000 → G.drop o = gs ++ tl → c7 = Int32.ofNat (o + gs.length) →
      A.drop i = ss ++ tm → p5 = Int32.ofNat (i + ss.length) → i + ss.length ≤ 4 → ks.length ≤ i → A.take ks.length = ks → (s11 = .unset ∨ ∃ w : Int32, s11 = .val (.int w)) →
      (∀ (T' : State) (locs' : List Loc) (h' : Heap) (A' : List Int32) (o' c' i' : Int32) (s' : Slot), Stand p l e R s m args below meth c T' locs' cells slots → Fr n0 locs' → n0 ≤ h'.size → T'.heap = h' → Keep h h' [a4] → Ari Z h' a4 A' → A'.length = 4 → A'.take (own_ks c8 gs ss ks).length = (own_ks c8 gs ss ks) → Go p e below K (T'.setTop (mkF m 109 #[.val (.ref a1), .val (.int p2), .val (.int p3), .val (.ref a4), .val (.int p5), .val (.int p6), .val (.int o'), .val (.int c7), .val (.int c'), .val (.int (Int32.ofNat (own_ks c8 gs ss ks).length)), .val (.int i'), s'] []))) →
      Go p e below K (T.setTop (mkF m 26 #[.val (.ref a1), .val (.int p2), .val (.int p3), .val (.ref a4), .val (.int p5), .val (.int p6), .val (.int (Int32.ofNat o)), .val (.int c7), .val (.int c8), .val (.int (Int32.ofNat ks.length)), .val (.int (Int32.ofNat i)), s11] [])) := by
  intro ss
  induction ss with
  | nil =>
    intro T locs h A gs ks o i c8 s11 X N Zs eT F FA lA hbo hd hE hS hp5 hi hks hk hs11 kont
    show Go p e below _ (T.setTop (mkF m 26 #[.val (.ref a1), .val (.int p2), .val (.int p3), .val (.ref a4), .val (.int p5), .val (.int p6), .val (.int (Int32.ofNat o)), .val (.int c7), .val (.int c8), .val (.int (Int32.ofNat ks.length)), .val (.int (Int32.ofNat i)), s11] []))
    refine go (fun _ q => XS.iload X.here hx rfl (hb hby d1_26) rfl q) ?_
    show Go p e below _ (T.setTop (mkF m 28 #[.val (.ref a1), .val (.int p2), .val (.int p3), .val (.ref a4), .val (.int p5), .val (.int p6), .val (.int (Int32.ofNat o)), .val (.int c7), .val (.int c8), .val (.int (Int32.ofNat ks.length)), .val (.int (Int32.ofNat i)), s11] [(.int (Int32.ofNat i))]))
    refine go (fun _ q => XS.iload X.here hx rfl (hb hby d1_28) rfl q) ?_
    show Go p e below _ (T.setTop (mkF m 30 #[.val (.ref a1), .val (.int p2), .val (.int p3), .val (.ref a4), .val (.int p5), .val (.int p6), .val (.int (Int32.ofNat o)), .val (.int c7), .val (.int c8), .val (.int (Int32.ofNat ks.length)), .val (.int (Int32.ofNat i)), s11] [(.int p5), (.int (Int32.ofNat i))]))
    have hk1 : ¬ ((Int32.ofNat i) < p5) := by rw [hp5]; exact fun q => Nat.lt_irrefl _ ((own_ltn (a := i) (b := i) (by omega) (by omega)).mp q)
    refine go (fun _ q => XS.icmpYes X.here hx rfl (pc0 := 30) (pc' := 109) rfl (hb hby d1_30) rfl (flt hk1).2.1 (by decide) (by decide) q) ?_
    show Go p e below _ (T.setTop (mkF m 109 #[.val (.ref a1), .val (.int p2), .val (.int p3), .val (.ref a4), .val (.int p5), .val (.int p6), .val (.int (Int32.ofNat o)), .val (.int c7), .val (.int c8), .val (.int (Int32.ofNat ks.length)), .val (.int (Int32.ofNat i)), s11] []))
    exact kont T locs h A _ _ _ _ X N Zs eT (Keep.refl _ _) FA lA hk
  | cons st ss ih =>
    intro T locs h A gs ks o i c8 s11 X N Zs eT F FA lA hbo hd hE hS hp5 hi hks hk hs11 kont
    simp only [List.length_cons] at hp5 hi
    have hil : i < A.length := by omega
    show Go p e below _ (T.setTop (mkF m 26 #[.val (.ref a1), .val (.int p2), .val (.int p3), .val (.ref a4), .val (.int p5), .val (.int p6), .val (.int (Int32.ofNat o)), .val (.int c7), .val (.int c8), .val (.int (Int32.ofNat ks.length)), .val (.int (Int32.ofNat i)), s11] []))
    refine go (fun _ q => XS.iload X.here hx rfl (hb hby d1_26) rfl q) ?_
    show Go p e below _ (T.setTop (mkF m 28 #[.val (.ref a1), .val (.int p2), .val (.int p3), .val (.ref a4), .val (.int p5), .val (.int p6), .val (.int (Int32.ofNat o)), .val (.int c7), .val (.int c8), .val (.int (Int32.ofNat ks.length)), .val (.int (Int32.ofNat i)), s11] [(.int (Int32.ofNat i))]))
    refine go (fun _ q => XS.iload X.here hx rfl (hb hby d1_28) rfl q) ?_
    show Go p e below _ (T.setTop (mkF m 30 #[.val (.ref a1), .val (.int p2), .val (.int p3), .val (.ref a4), .val (.int p5), .val (.int p6), .val (.int (Int32.ofNat o)), .val (.int c7), .val (.int c8), .val (.int (Int32.ofNat ks.length)), .val (.int (Int32.ofNat i)), s11] [(.int p5), (.int (Int32.ofNat i))]))
    have hk1 : (Int32.ofNat i) < p5 := by rw [hp5]; exact (own_ltn (by omega) (by omega)).mpr (by omega)
    refine go (fun _ q => XS.icmpNo X.here hx rfl (hb hby d1_30) rfl (tlt hk1).2.1 q) ?_
    show Go p e below _ (T.setTop (mkF m 33 #[.val (.ref a1), .val (.int p2), .val (.int p3), .val (.ref a4), .val (.int p5), .val (.int p6), .val (.int (Int32.ofNat o)), .val (.int c7), .val (.int c8), .val (.int (Int32.ofNat ks.length)), .val (.int (Int32.ofNat i)), s11] []))
    refine go (fun _ q => XS.aloadN X.here hx rfl (hb hby d1_33) rfl rfl q) ?_
    show Go p e below _ (T.setTop (mkF m 34 #[.val (.ref a1), .val (.int p2), .val (.int p3), .val (.ref a4), .val (.int p5), .val (.int p6), .val (.int (Int32.ofNat o)), .val (.int c7), .val (.int c8), .val (.int (Int32.ofNat ks.length)), .val (.int (Int32.ofNat i)), s11] [(.ref a4)]))
    refine go (fun _ q => XS.iload X.here hx rfl (hb hby d1_34) rfl q) ?_
    show Go p e below _ (T.setTop (mkF m 36 #[.val (.ref a1), .val (.int p2), .val (.int p3), .val (.ref a4), .val (.int p5), .val (.int p6), .val (.int (Int32.ofNat o)), .val (.int c7), .val (.int c8), .val (.int (Int32.ofNat ks.length)), .val (.int (Int32.ofNat i)), s11] [(.int (Int32.ofNat i)), (.ref a4)]))
    refine go (own_iaload X hx hZ eT FA (j := (Int32.ofNat i)) (own_nneg (by omega)) (by rw [own_nat (by omega)]; exact hil) (g := (mkF m 36 #[.val (.ref a1), .val (.int p2), .val (.int p3), .val (.ref a4), .val (.int p5), .val (.int p6), .val (.int (Int32.ofNat o)), .val (.int c7), .val (.int c8), .val (.int (Int32.ofNat ks.length)), .val (.int (Int32.ofNat i)), s11] [(.int (Int32.ofNat i)), (.ref a4)])) rfl rfl (hb hby d1_36)) ?_
    show Go p e below _ (T.setTop (mkF m 37 #[.val (.ref a1), .val (.int p2), .val (.int p3), .val (.ref a4), .val (.int p5), .val (.int p6), .val (.int (Int32.ofNat o)), .val (.int c7), .val (.int c8), .val (.int (Int32.ofNat ks.length)), .val (.int (Int32.ofNat i)), s11] [(.int (A.getD ((Int32.ofNat i)).toNatClampNeg 0))]))
    refine go (fun _ q => XS.istore X.here hx rfl (hb hby d1_37) rfl (l' := #[.val (.ref a1), .val (.int p2), .val (.int p3), .val (.ref a4), .val (.int p5), .val (.int p6), .val (.int (Int32.ofNat o)), .val (.int c7), .val (.int c8), .val (.int (Int32.ofNat ks.length)), .val (.int (Int32.ofNat i)), .val (.int (A.getD ((Int32.ofNat i)).toNatClampNeg 0))]) (by rcases hs11 with rfl | ⟨w, rfl⟩ <;> rfl) q) ?_
    show Go p e below _ (T.setTop (mkF m 39 #[.val (.ref a1), .val (.int p2), .val (.int p3), .val (.ref a4), .val (.int p5), .val (.int p6), .val (.int (Int32.ofNat o)), .val (.int c7), .val (.int c8), .val (.int (Int32.ofNat ks.length)), .val (.int (Int32.ofNat i)), .val (.int (A.getD ((Int32.ofNat i)).toNatClampNeg 0))] []))
    have er : A.getD (Int32.ofNat i).toNatClampNeg 0 = st := by rw [own_nat (by omega)]; exact own_read hS
    rw [er]
    refine own_inner X hx hZ hby eT F (by omega) tl gs o c8 hbo hd hE ?_
    intro o' hb' hd' hE'
    generalize hadv : own_adv c8 gs st = ad at hb' hd' hE' ⊢
    show Go p e below _ (T.setTop (mkF m 70 #[.val (.ref a1), .val (.int p2), .val (.int p3), .val (.ref a4), .val (.int p5), .val (.int p6), .val (.int (Int32.ofNat o')), .val (.int c7), .val (.int ad.1), .val (.int (Int32.ofNat ks.length)), .val (.int (Int32.ofNat i)), .val (.int st)] []))
    refine go (fun _ q => XS.iload X.here hx rfl (hb hby d1_70) rfl q) ?_
    show Go p e below _ (T.setTop (mkF m 72 #[.val (.ref a1), .val (.int p2), .val (.int p3), .val (.ref a4), .val (.int p5), .val (.int p6), .val (.int (Int32.ofNat o')), .val (.int c7), .val (.int ad.1), .val (.int (Int32.ofNat ks.length)), .val (.int (Int32.ofNat i)), .val (.int st)] [(.int ad.1)]))
    refine go (fun _ q => XS.iload X.here hx rfl (hb hby d1_72) rfl q) ?_
    show Go p e below _ (T.setTop (mkF m 74 #[.val (.ref a1), .val (.int p2), .val (.int p3), .val (.ref a4), .val (.int p5), .val (.int p6), .val (.int (Int32.ofNat o')), .val (.int c7), .val (.int ad.1), .val (.int (Int32.ofNat ks.length)), .val (.int (Int32.ofNat i)), .val (.int st)] [(.int st), (.int ad.1)]))
    by_cases hc2 : ad.1 < st
    · refine go (fun _ q => XS.icmpNo X.here hx rfl (hb hby d1_74) rfl (tlt hc2).2.1 q) ?_
      show Go p e below _ (T.setTop (mkF m 77 #[.val (.ref a1), .val (.int p2), .val (.int p3), .val (.ref a4), .val (.int p5), .val (.int p6), .val (.int (Int32.ofNat o')), .val (.int c7), .val (.int ad.1), .val (.int (Int32.ofNat ks.length)), .val (.int (Int32.ofNat i)), .val (.int st)] []))
      refine go (fun _ q => XS.goto X.here hx rfl (pc0 := 77) (pc' := 109) rfl (hb hby d1_77) (by decide) (by decide) q) ?_
      show Go p e below _ (T.setTop (mkF m 109 #[.val (.ref a1), .val (.int p2), .val (.int p3), .val (.ref a4), .val (.int p5), .val (.int p6), .val (.int (Int32.ofNat o')), .val (.int c7), .val (.int ad.1), .val (.int (Int32.ofNat ks.length)), .val (.int (Int32.ofNat i)), .val (.int st)] []))
      have ek : own_ks c8 gs (st :: ss) ks = ks := by rw [own_ks, hadv, if_pos hc2]
      rw [ek] at kont
      exact kont T _ h A _ _ _ _ X N Zs eT (Keep.refl _ _) FA lA hk
    · refine go (fun _ q => XS.icmpYes X.here hx rfl (pc0 := 74) (pc' := 80) rfl (hb hby d1_74) rfl (flt hc2).2.1 (by decide) (by decide) q) ?_
      show Go p e below _ (T.setTop (mkF m 80 #[.val (.ref a1), .val (.int p2), .val (.int p3), .val (.ref a4), .val (.int p5), .val (.int p6), .val (.int (Int32.ofNat o')), .val (.int c7), .val (.int ad.1), .val (.int (Int32.ofNat ks.length)), .val (.int (Int32.ofNat i)), .val (.int st)] []))
      refine go (fun _ q => XS.aloadN X.here hx rfl (hb hby d1_80) rfl rfl q) ?_
      show Go p e below _ (T.setTop (mkF m 81 #[.val (.ref a1), .val (.int p2), .val (.int p3), .val (.ref a4), .val (.int p5), .val (.int p6), .val (.int (Int32.ofNat o')), .val (.int c7), .val (.int ad.1), .val (.int (Int32.ofNat ks.length)), .val (.int (Int32.ofNat i)), .val (.int st)] [(.ref a4)]))
      refine go (fun _ q => XS.iload X.here hx rfl (hb hby d1_81) rfl q) ?_
      show Go p e below _ (T.setTop (mkF m 83 #[.val (.ref a1), .val (.int p2), .val (.int p3), .val (.ref a4), .val (.int p5), .val (.int p6), .val (.int (Int32.ofNat o')), .val (.int c7), .val (.int ad.1), .val (.int (Int32.ofNat ks.length)), .val (.int (Int32.ofNat i)), .val (.int st)] [(.int (Int32.ofNat ks.length)), (.ref a4)]))
      refine go (fun _ q => XS.iload X.here hx rfl (hb hby d1_83) rfl q) ?_
      show Go p e below _ (T.setTop (mkF m 85 #[.val (.ref a1), .val (.int p2), .val (.int p3), .val (.ref a4), .val (.int p5), .val (.int p6), .val (.int (Int32.ofNat o')), .val (.int c7), .val (.int ad.1), .val (.int (Int32.ofNat ks.length)), .val (.int (Int32.ofNat i)), .val (.int st)] [(.int st), (.int (Int32.ofNat ks.length)), (.ref a4)]))
      obtain ⟨T3, h3, X3, e3, W3, V3, st3⟩ := own_iastore X hx hZ eT FA (j := (Int32.ofNat ks.length)) (x := st) (own_nneg (by omega)) (by rw [own_nat (by omega)]; omega) (g := (mkF m 85 #[.val (.ref a1), .val (.int p2), .val (.int p3), .val (.ref a4), .val (.int p5), .val (.int p6), .val (.int (Int32.ofNat o')), .val (.int c7), .val (.int ad.1), .val (.int (Int32.ofNat ks.length)), .val (.int (Int32.ofNat i)), .val (.int st)] [(.int st), (.int (Int32.ofNat ks.length)), (.ref a4)])) rfl rfl (hb hby d1_85)
      refine go st3 ?_
      have P3 : Ari Z h3 a4 (A.set ((Int32.ofNat ks.length)).toNatClampNeg st) := V3
      have l3 : (A.set ((Int32.ofNat ks.length)).toNatClampNeg st).length = 4 := by rw [List.length_set]; exact lA
      have P_4 : Ari Z h3 a1 G := F.other W3 ne14
      have N3 := Fr.snoc X3 N g_a4
      have Z3 : n0 ≤ h3.size := Nat.le_trans Zs (Nat.le_of_eq W3.size.symm)
      show Go p e below _ (T3.setTop (mkF m 86 #[.val (.ref a1), .val (.int p2), .val (.int p3), .val (.ref a4), .val (.int p5), .val (.int p6), .val (.int (Int32.ofNat o')), .val (.int c7), .val (.int ad.1), .val (.int (Int32.ofNat ks.length)), .val (.int (Int32.ofNat i)), .val (.int st)] []))
      refine go (fun _ q => XS.iload X3.here hx rfl (hb hby d1_86) rfl q) ?_
      show Go p e below _ (T3.setTop (mkF m 88 #[.val (.ref a1), .val (.int p2), .val (.int p3), .val (.ref a4), .val (.int p5), .val (.int p6), .val (.int (Int32.ofNat o')), .val (.int c7), .val (.int ad.1), .val (.int (Int32.ofNat ks.length)), .val (.int (Int32.ofNat i)), .val (.int st)] [(.int (Int32.ofNat ks.length))]))
      refine go (fun _ q => XS.iload X3.here hx rfl (hb hby d1_88) rfl q) ?_
      show Go p e below _ (T3.setTop (mkF m 90 #[.val (.ref a1), .val (.int p2), .val (.int p3), .val (.ref a4), .val (.int p5), .val (.int p6), .val (.int (Int32.ofNat o')), .val (.int c7), .val (.int ad.1), .val (.int (Int32.ofNat ks.length)), .val (.int (Int32.ofNat i)), .val (.int st)] [(.int ad.1), (.int (Int32.ofNat ks.length))]))
      refine go (fun _ q => XS.iload X3.here hx rfl (hb hby d1_90) rfl q) ?_
      show Go p e below _ (T3.setTop (mkF m 92 #[.val (.ref a1), .val (.int p2), .val (.int p3), .val (.ref a4), .val (.int p5), .val (.int p6), .val (.int (Int32.ofNat o')), .val (.int c7), .val (.int ad.1), .val (.int (Int32.ofNat ks.length)), .val (.int (Int32.ofNat i)), .val (.int st)] [(.int st), (.int ad.1), (.int (Int32.ofNat ks.length))]))
      by_cases hc5 : ad.1 = st
      · refine go (fun _ q => XS.icmpNo X3.here hx rfl (hb hby d1_92) rfl (teq hc5).2 q) ?_
        show Go p e below _ (T3.setTop (mkF m 95 #[.val (.ref a1), .val (.int p2), .val (.int p3), .val (.ref a4), .val (.int p5), .val (.int p6), .val (.int (Int32.ofNat o')), .val (.int c7), .val (.int ad.1), .val (.int (Int32.ofNat ks.length)), .val (.int (Int32.ofNat i)), .val (.int st)] [(.int (Int32.ofNat ks.length))]))
        refine go (fun _ q => XS.iconst X3.here hx rfl (hb hby d1_95) q) ?_
        show Go p e below _ (T3.setTop (mkF m 96 #[.val (.ref a1), .val (.int p2), .val (.int p3), .val (.ref a4), .val (.int p5), .val (.int p6), .val (.int (Int32.ofNat o')), .val (.int c7), .val (.int ad.1), .val (.int (Int32.ofNat ks.length)), .val (.int (Int32.ofNat i)), .val (.int st)] [(.int (1 : Int32)), (.int (Int32.ofNat ks.length))]))
        refine go (fun _ q => XS.goto X3.here hx rfl (pc0 := 96) (pc' := 100) rfl (hb hby d1_96) (by decide) (by decide) q) ?_
        show Go p e below _ (T3.setTop (mkF m 100 #[.val (.ref a1), .val (.int p2), .val (.int p3), .val (.ref a4), .val (.int p5), .val (.int p6), .val (.int (Int32.ofNat o')), .val (.int c7), .val (.int ad.1), .val (.int (Int32.ofNat ks.length)), .val (.int (Int32.ofNat i)), .val (.int st)] [(.int (1 : Int32)), (.int (Int32.ofNat ks.length))]))
        refine go (fun _ q => XS.iadd X3.here hx rfl (hb hby d1_100) rfl q) ?_
        show Go p e below _ (T3.setTop (mkF m 101 #[.val (.ref a1), .val (.int p2), .val (.int p3), .val (.ref a4), .val (.int p5), .val (.int p6), .val (.int (Int32.ofNat o')), .val (.int c7), .val (.int ad.1), .val (.int (Int32.ofNat ks.length)), .val (.int (Int32.ofNat i)), .val (.int st)] [(.int ((Int32.ofNat ks.length) + (1 : Int32)))]))
        refine go (fun _ q => XS.istore X3.here hx rfl (hb hby d1_101) rfl (l' := #[.val (.ref a1), .val (.int p2), .val (.int p3), .val (.ref a4), .val (.int p5), .val (.int p6), .val (.int (Int32.ofNat o')), .val (.int c7), .val (.int ad.1), .val (.int ((Int32.ofNat ks.length) + (1 : Int32))), .val (.int (Int32.ofNat i)), .val (.int st)]) rfl q) ?_
        show Go p e below _ (T3.setTop (mkF m 103 #[.val (.ref a1), .val (.int p2), .val (.int p3), .val (.ref a4), .val (.int p5), .val (.int p6), .val (.int (Int32.ofNat o')), .val (.int c7), .val (.int ad.1), .val (.int ((Int32.ofNat ks.length) + (1 : Int32))), .val (.int (Int32.ofNat i)), .val (.int st)] []))
        refine go (fun _ q => XS.iinc X3.here hx rfl (hb hby d1_103) rfl (l' := #[.val (.ref a1), .val (.int p2), .val (.int p3), .val (.ref a4), .val (.int p5), .val (.int p6), .val (.int (Int32.ofNat o')), .val (.int c7), .val (.int ad.1), .val (.int ((Int32.ofNat ks.length) + (1 : Int32))), .val (.int ((Int32.ofNat i) + (1 : Int32))), .val (.int st)]) rfl q) ?_
        show Go p e below _ (T3.setTop (mkF m 106 #[.val (.ref a1), .val (.int p2), .val (.int p3), .val (.ref a4), .val (.int p5), .val (.int p6), .val (.int (Int32.ofNat o')), .val (.int c7), .val (.int ad.1), .val (.int ((Int32.ofNat ks.length) + (1 : Int32))), .val (.int ((Int32.ofNat i) + (1 : Int32))), .val (.int st)] []))
        refine go (fun _ q => XS.goto X3.here hx rfl (pc0 := 106) (pc' := 26) rfl (hb hby d1_106) (by decide) (by decide) q) ?_
        show Go p e below _ (T3.setTop (mkF m 26 #[.val (.ref a1), .val (.int p2), .val (.int p3), .val (.ref a4), .val (.int p5), .val (.int p6), .val (.int (Int32.ofNat o')), .val (.int c7), .val (.int ad.1), .val (.int ((Int32.ofNat ks.length) + (1 : Int32))), .val (.int ((Int32.ofNat i) + (1 : Int32))), .val (.int st)] []))
        have ek : own_ks c8 gs (st :: ss) ks = own_ks ad.1 ad.2 ss (ks ++ [st]) := by rw [own_ks, hadv, if_neg hc2, if_pos hc5]
        rw [ek] at kont
        have et := own_take_set (s := st) hk (by omega)
        rw [own_nat (by omega)] at P3 l3
        rw [own_succ i, show Int32.ofNat ks.length + (1 : Int32) = Int32.ofNat (ks ++ [st]).length by rw [own_succ, List.length_append]; rfl]
        refine ih T3 _ h3 (A.set ks.length st) ad.2 (ks ++ [st]) o' (i + 1) ad.1 _ X3 N3 Z3 e3 P_4 P3 l3 hb' hd' hE' (by rw [own_drop_set hks]; exact own_next hS) (by rw [hp5]; congr 1; omega) (by omega) (by simp; omega) et.2 (Or.inr ⟨_, rfl⟩) ?_
        intro T' locs' h' A' o'' c' i' s' X' N' Z' e' K' FA' lA' ht'
        exact kont T' locs' h' A' o'' c' i' s' X' N' Z' e' ((Keep.of_wr W3).trans K' (fun x hx => Or.inl hx)) FA' lA' ht'
      · refine go (fun _ q => XS.icmpYes X3.here hx rfl (pc0 := 92) (pc' := 99) rfl (hb hby d1_92) rfl (feq hc5).2 (by decide) (by decide) q) ?_
        show Go p e below _ (T3.setTop (mkF m 99 #[.val (.ref a1), .val (.int p2), .val (.int p3), .val (.ref a4), .val (.int p5), .val (.int p6), .val (.int (Int32.ofNat o')), .val (.int c7), .val (.int ad.1), .val (.int (Int32.ofNat ks.length)), .val (.int (Int32.ofNat i)), .val (.int st)] [(.int (Int32.ofNat ks.length))]))
        refine go (fun _ q => XS.iconst X3.here hx rfl (hb hby d1_99) q) ?_
        show Go p e below _ (T3.setTop (mkF m 100 #[.val (.ref a1), .val (.int p2), .val (.int p3), .val (.ref a4), .val (.int p5), .val (.int p6), .val (.int (Int32.ofNat o')), .val (.int c7), .val (.int ad.1), .val (.int (Int32.ofNat ks.length)), .val (.int (Int32.ofNat i)), .val (.int st)] [(.int (0 : Int32)), (.int (Int32.ofNat ks.length))]))
        refine go (fun _ q => XS.iadd X3.here hx rfl (hb hby d1_100) rfl q) ?_
        show Go p e below _ (T3.setTop (mkF m 101 #[.val (.ref a1), .val (.int p2), .val (.int p3), .val (.ref a4), .val (.int p5), .val (.int p6), .val (.int (Int32.ofNat o')), .val (.int c7), .val (.int ad.1), .val (.int (Int32.ofNat ks.length)), .val (.int (Int32.ofNat i)), .val (.int st)] [(.int ((Int32.ofNat ks.length) + (0 : Int32)))]))
        refine go (fun _ q => XS.istore X3.here hx rfl (hb hby d1_101) rfl (l' := #[.val (.ref a1), .val (.int p2), .val (.int p3), .val (.ref a4), .val (.int p5), .val (.int p6), .val (.int (Int32.ofNat o')), .val (.int c7), .val (.int ad.1), .val (.int ((Int32.ofNat ks.length) + (0 : Int32))), .val (.int (Int32.ofNat i)), .val (.int st)]) rfl q) ?_
        show Go p e below _ (T3.setTop (mkF m 103 #[.val (.ref a1), .val (.int p2), .val (.int p3), .val (.ref a4), .val (.int p5), .val (.int p6), .val (.int (Int32.ofNat o')), .val (.int c7), .val (.int ad.1), .val (.int ((Int32.ofNat ks.length) + (0 : Int32))), .val (.int (Int32.ofNat i)), .val (.int st)] []))
        refine go (fun _ q => XS.iinc X3.here hx rfl (hb hby d1_103) rfl (l' := #[.val (.ref a1), .val (.int p2), .val (.int p3), .val (.ref a4), .val (.int p5), .val (.int p6), .val (.int (Int32.ofNat o')), .val (.int c7), .val (.int ad.1), .val (.int ((Int32.ofNat ks.length) + (0 : Int32))), .val (.int ((Int32.ofNat i) + (1 : Int32))), .val (.int st)]) rfl q) ?_
        show Go p e below _ (T3.setTop (mkF m 106 #[.val (.ref a1), .val (.int p2), .val (.int p3), .val (.ref a4), .val (.int p5), .val (.int p6), .val (.int (Int32.ofNat o')), .val (.int c7), .val (.int ad.1), .val (.int ((Int32.ofNat ks.length) + (0 : Int32))), .val (.int ((Int32.ofNat i) + (1 : Int32))), .val (.int st)] []))
        refine go (fun _ q => XS.goto X3.here hx rfl (pc0 := 106) (pc' := 26) rfl (hb hby d1_106) (by decide) (by decide) q) ?_
        show Go p e below _ (T3.setTop (mkF m 26 #[.val (.ref a1), .val (.int p2), .val (.int p3), .val (.ref a4), .val (.int p5), .val (.int p6), .val (.int (Int32.ofNat o')), .val (.int c7), .val (.int ad.1), .val (.int ((Int32.ofNat ks.length) + (0 : Int32))), .val (.int ((Int32.ofNat i) + (1 : Int32))), .val (.int st)] []))
        have ek : own_ks c8 gs (st :: ss) ks = own_ks ad.1 ad.2 ss ks := by rw [own_ks, hadv, if_neg hc2, if_neg hc5]
        rw [ek] at kont
        have et := own_take_set (s := st) hk (by omega)
        rw [own_nat (by omega)] at P3 l3
        rw [own_succ i, Int32.add_zero]
        refine ih T3 _ h3 (A.set ks.length st) ad.2 ks o' (i + 1) ad.1 _ X3 N3 Z3 e3 P_4 P3 l3 hb' hd' hE' (by rw [own_drop_set hks]; exact own_next hS) (by rw [hp5]; congr 1; omega) (by omega) (by omega) et.1 (Or.inr ⟨_, rfl⟩) ?_
        intro T' locs' h' A' o'' c' i' s' X' N' Z' e' K' FA' lA' ht'
        exact kont T' locs' h' A' o'' c' i' s' X' N' Z' e' ((Keep.of_wr W3).trans K' (fun x hx => Or.inl hx)) FA' lA' ht'
def QK (Z : State) (a4 : Addr) (ks : List Int32) (h0 : Heap) (n0 : Nat) (v : Option Value) (h : Heap) (L : List Loc) : Prop := v = some (.int (Int32.ofNat ks.length)) ∧ Fr n0 L ∧ ∃ A' : List Int32, n0 ≤ h.size ∧ Keep h0 h [a4] ∧ Ari Z h a4 A' ∧ A'.length = 4 ∧ A'.take ks.length = ks
set_option maxRecDepth 65536 in
set_option maxHeartbeats 40000000 in
theorem rmK (l : Launch) (Z : State) (a0 : Array Value) (hw : ∀ d ∈ tables_1, d.before a0 Z = true) (ws : List Jvm.Cond) (a1 : Addr) (p2 : Int32) (p3 : Int32) (a4 : Addr) (p5 : Int32) (p6 : Int32) (h0 : Heap) (n0 : Nat) {G A gs ss tl tm : List Int32} {g0 : Int32} {fr : Nat} (Z0 : n0 ≤ h0.size) (g_a4 : n0 ≤ a4) (ne14 : a1 ≠ a4) (F_G : Ari Z h0 a1 G) (lG : G.length = 6) (F_A : Ari Z h0 a4 A) (lA : A.length = 4) (hfr : fr + 1 + gs.length ≤ 6) (hp2 : p2 = Int32.ofNat fr) (hE : p2 + p3 = Int32.ofNat (fr + 1 + gs.length)) (hd0 : G.drop fr = (g0 :: gs) ++ tl) (hS : A.drop 0 = ss ++ tm) (hp5 : p5 = Int32.ofNat ss.length) (hss : ss.length ≤ 4) :
    MetFree l (⟨"com/example/skipstone/skipstone/PostingsCursor", "keepStarts", "([III[III)I"⟩ : MethodName) (head1 (Jvm.Cond.code (⟨"com/example/skipstone/skipstone/PostingsCursor", "keepStarts", "([III[III)I"⟩ : MethodName) prog_97_method_16_code 12 (some .int) :: ws) ({ frames := 0, cells := 0, slots := 0, locals := 0 } : Room)) (fun a U => a = #[(.ref a1), (.int p2), (.int p3), (.ref a4), (.int p5), (.int p6)] ∧ Z.Warmed39 U.vm ∧ U.heap = h0) (fun _ _ _ _ _ => True) (fun _ U o U' => ∃ v L, o = .returned v ∧ (QK Z a4 (own_ks (g0 - p6) gs ss []) h0 n0) v U'.heap L ∧ FrameEnd U o U' L ({ frames := 0, cells := 0, slots := 0, locals := 0 } : Room).cells ({ frames := 0, cells := 0, slots := 0, locals := 0 } : Room).slots) := by
  refine own_met (plainFor_of_name pn_1) (fun m => ef_1 m a1 p2 p3 a4 p5 p6) ?_
  intro p e s m below meth c T0 hx hby hml hown hnm hret hlk hZ X0 e0
  have hown : s.vm.findClass "com/example/skipstone/skipstone/PostingsCursor" = some m.cls := hown
  have hnm : meth.name = "keepStarts" := hnm
  have hret : meth.sig.returnType = some .int := hret
  have N0 := Fr.nil n0
  show Go p e below _ (T0.setTop (mkF m 0 #[.val (.ref a1), .val (.int p2), .val (.int p3), .val (.ref a4), .val (.int p5), .val (.int p6), .unset, .unset, .unset, .unset, .unset, .unset] []))
  refine go (fun _ q => XS.iloadN X0.here hx rfl (hb hby d1_0) rfl q) ?_
  show Go p e below _ (T0.setTop (mkF m 1 #[.val (.ref a1), .val (.int p2), .val (.int p3), .val (.ref a4), .val (.int p5), .val (.int p6), .unset, .unset, .unset, .unset, .unset, .unset] [(.int p2)]))
  refine go (fun _ q => XS.istore X0.here hx rfl (hb hby d1_1) rfl (l' := #[.val (.ref a1), .val (.int p2), .val (.int p3), .val (.ref a4), .val (.int p5), .val (.int p6), .val (.int p2), .unset, .unset, .unset, .unset, .unset]) rfl q) ?_
  show Go p e below _ (T0.setTop (mkF m 3 #[.val (.ref a1), .val (.int p2), .val (.int p3), .val (.ref a4), .val (.int p5), .val (.int p6), .val (.int p2), .unset, .unset, .unset, .unset, .unset] []))
  refine go (fun _ q => XS.iloadN X0.here hx rfl (hb hby d1_3) rfl q) ?_
  show Go p e below _ (T0.setTop (mkF m 4 #[.val (.ref a1), .val (.int p2), .val (.int p3), .val (.ref a4), .val (.int p5), .val (.int p6), .val (.int p2), .unset, .unset, .unset, .unset, .unset] [(.int p2)]))
  refine go (fun _ q => XS.iloadN X0.here hx rfl (hb hby d1_4) rfl q) ?_
  show Go p e below _ (T0.setTop (mkF m 5 #[.val (.ref a1), .val (.int p2), .val (.int p3), .val (.ref a4), .val (.int p5), .val (.int p6), .val (.int p2), .unset, .unset, .unset, .unset, .unset] [(.int p3), (.int p2)]))
  refine go (fun _ q => XS.iadd X0.here hx rfl (hb hby d1_5) rfl q) ?_
  show Go p e below _ (T0.setTop (mkF m 6 #[.val (.ref a1), .val (.int p2), .val (.int p3), .val (.ref a4), .val (.int p5), .val (.int p6), .val (.int p2), .unset, .unset, .unset, .unset, .unset] [(.int (p2 + p3))]))
  refine go (fun _ q => XS.istore X0.here hx rfl (hb hby d1_6) rfl (l' := #[.val (.ref a1), .val (.int p2), .val (.int p3), .val (.ref a4), .val (.int p5), .val (.int p6), .val (.int p2), .val (.int (p2 + p3)), .unset, .unset, .unset, .unset]) rfl q) ?_
  show Go p e below _ (T0.setTop (mkF m 8 #[.val (.ref a1), .val (.int p2), .val (.int p3), .val (.ref a4), .val (.int p5), .val (.int p6), .val (.int p2), .val (.int (p2 + p3)), .unset, .unset, .unset, .unset] []))
  refine go (fun _ q => XS.aloadN X0.here hx rfl (hb hby d1_8) rfl rfl q) ?_
  show Go p e below _ (T0.setTop (mkF m 9 #[.val (.ref a1), .val (.int p2), .val (.int p3), .val (.ref a4), .val (.int p5), .val (.int p6), .val (.int p2), .val (.int (p2 + p3)), .unset, .unset, .unset, .unset] [(.ref a1)]))
  refine go (fun _ q => XS.iload X0.here hx rfl (hb hby d1_9) rfl q) ?_
  show Go p e below _ (T0.setTop (mkF m 11 #[.val (.ref a1), .val (.int p2), .val (.int p3), .val (.ref a4), .val (.int p5), .val (.int p6), .val (.int p2), .val (.int (p2 + p3)), .unset, .unset, .unset, .unset] [(.int p2), (.ref a1)]))
  refine go (fun _ q => XS.iinc X0.here hx rfl (hb hby d1_11) rfl (l' := #[.val (.ref a1), .val (.int p2), .val (.int p3), .val (.ref a4), .val (.int p5), .val (.int p6), .val (.int (p2 + (1 : Int32))), .val (.int (p2 + p3)), .unset, .unset, .unset, .unset]) rfl q) ?_
  show Go p e below _ (T0.setTop (mkF m 14 #[.val (.ref a1), .val (.int p2), .val (.int p3), .val (.ref a4), .val (.int p5), .val (.int p6), .val (.int (p2 + (1 : Int32))), .val (.int (p2 + p3)), .unset, .unset, .unset, .unset] [(.int p2), (.ref a1)]))
  refine go (own_iaload X0 hx hZ e0 F_G (j := p2) (by rw [hp2]; exact own_nneg (by omega)) (by rw [hp2, own_nat (by omega)]; omega) (g := (mkF m 14 #[.val (.ref a1), .val (.int p2), .val (.int p3), .val (.ref a4), .val (.int p5), .val (.int p6), .val (.int (p2 + (1 : Int32))), .val (.int (p2 + p3)), .unset, .unset, .unset, .unset] [(.int p2), (.ref a1)])) rfl rfl (hb hby d1_14)) ?_
  show Go p e below _ (T0.setTop (mkF m 15 #[.val (.ref a1), .val (.int p2), .val (.int p3), .val (.ref a4), .val (.int p5), .val (.int p6), .val (.int (p2 + (1 : Int32))), .val (.int (p2 + p3)), .unset, .unset, .unset, .unset] [(.int (G.getD (p2).toNatClampNeg 0))]))
  refine go (fun _ q => XS.iload X0.here hx rfl (hb hby d1_15) rfl q) ?_
  show Go p e below _ (T0.setTop (mkF m 17 #[.val (.ref a1), .val (.int p2), .val (.int p3), .val (.ref a4), .val (.int p5), .val (.int p6), .val (.int (p2 + (1 : Int32))), .val (.int (p2 + p3)), .unset, .unset, .unset, .unset] [(.int p6), (.int (G.getD (p2).toNatClampNeg 0))]))
  refine go (fun _ q => XS.isub X0.here hx rfl (hb hby d1_17) rfl q) ?_
  show Go p e below _ (T0.setTop (mkF m 18 #[.val (.ref a1), .val (.int p2), .val (.int p3), .val (.ref a4), .val (.int p5), .val (.int p6), .val (.int (p2 + (1 : Int32))), .val (.int (p2 + p3)), .unset, .unset, .unset, .unset] [(.int ((G.getD (p2).toNatClampNeg 0) - p6))]))
  refine go (fun _ q => XS.istore X0.here hx rfl (hb hby d1_18) rfl (l' := #[.val (.ref a1), .val (.int p2), .val (.int p3), .val (.ref a4), .val (.int p5), .val (.int p6), .val (.int (p2 + (1 : Int32))), .val (.int (p2 + p3)), .val (.int ((G.getD (p2).toNatClampNeg 0) - p6)), .unset, .unset, .unset]) rfl q) ?_
  show Go p e below _ (T0.setTop (mkF m 20 #[.val (.ref a1), .val (.int p2), .val (.int p3), .val (.ref a4), .val (.int p5), .val (.int p6), .val (.int (p2 + (1 : Int32))), .val (.int (p2 + p3)), .val (.int ((G.getD (p2).toNatClampNeg 0) - p6)), .unset, .unset, .unset] []))
  refine go (fun _ q => XS.iconst X0.here hx rfl (hb hby d1_20) q) ?_
  show Go p e below _ (T0.setTop (mkF m 21 #[.val (.ref a1), .val (.int p2), .val (.int p3), .val (.ref a4), .val (.int p5), .val (.int p6), .val (.int (p2 + (1 : Int32))), .val (.int (p2 + p3)), .val (.int ((G.getD (p2).toNatClampNeg 0) - p6)), .unset, .unset, .unset] [(.int (0 : Int32))]))
  refine go (fun _ q => XS.istore X0.here hx rfl (hb hby d1_21) rfl (l' := #[.val (.ref a1), .val (.int p2), .val (.int p3), .val (.ref a4), .val (.int p5), .val (.int p6), .val (.int (p2 + (1 : Int32))), .val (.int (p2 + p3)), .val (.int ((G.getD (p2).toNatClampNeg 0) - p6)), .val (.int (0 : Int32)), .unset, .unset]) rfl q) ?_
  show Go p e below _ (T0.setTop (mkF m 23 #[.val (.ref a1), .val (.int p2), .val (.int p3), .val (.ref a4), .val (.int p5), .val (.int p6), .val (.int (p2 + (1 : Int32))), .val (.int (p2 + p3)), .val (.int ((G.getD (p2).toNatClampNeg 0) - p6)), .val (.int (0 : Int32)), .unset, .unset] []))
  refine go (fun _ q => XS.iconst X0.here hx rfl (hb hby d1_23) q) ?_
  show Go p e below _ (T0.setTop (mkF m 24 #[.val (.ref a1), .val (.int p2), .val (.int p3), .val (.ref a4), .val (.int p5), .val (.int p6), .val (.int (p2 + (1 : Int32))), .val (.int (p2 + p3)), .val (.int ((G.getD (p2).toNatClampNeg 0) - p6)), .val (.int (0 : Int32)), .unset, .unset] [(.int (0 : Int32))]))
  refine go (fun _ q => XS.istore X0.here hx rfl (hb hby d1_24) rfl (l' := #[.val (.ref a1), .val (.int p2), .val (.int p3), .val (.ref a4), .val (.int p5), .val (.int p6), .val (.int (p2 + (1 : Int32))), .val (.int (p2 + p3)), .val (.int ((G.getD (p2).toNatClampNeg 0) - p6)), .val (.int (0 : Int32)), .val (.int (0 : Int32)), .unset]) rfl q) ?_
  show Go p e below _ (T0.setTop (mkF m 26 #[.val (.ref a1), .val (.int p2), .val (.int p3), .val (.ref a4), .val (.int p5), .val (.int p6), .val (.int (p2 + (1 : Int32))), .val (.int (p2 + p3)), .val (.int ((G.getD (p2).toNatClampNeg 0) - p6)), .val (.int (0 : Int32)), .val (.int (0 : Int32)), .unset] []))
  rw [show p2 + (1 : Int32) = Int32.ofNat (fr + 1) by rw [hp2]; exact own_succ fr]
  have er : G.getD (p2).toNatClampNeg 0 = g0 := by rw [hp2, own_nat (by omega)]; exact own_read hd0
  rw [er]
  refine own_outer hx hZ hby g_a4 ne14 (by omega) tl tm ss T0 _ h0 A gs [] (fr + 1) 0 (g0 - p6) _ X0 N0 Z0 e0 F_G F_A lA (by omega) (own_next hd0) hE hS (by rw [hp5, Nat.zero_add]) (by omega) (by simp) (by simp) (Or.inl rfl) ?_
  intro T' locs' h' A' o' c' i' s' X' N' Z' e' K' FA' lA' ht'
  show Go p e below _ (T'.setTop (mkF m 109 #[.val (.ref a1), .val (.int p2), .val (.int p3), .val (.ref a4), .val (.int p5), .val (.int p6), .val (.int o'), .val (.int (p2 + p3)), .val (.int c'), .val (.int (Int32.ofNat (own_ks (g0 - p6) gs ss []).length)), .val (.int i'), s'] []))
  refine go (fun _ q => XS.iload X'.here hx rfl (hb hby d1_109) rfl q) ?_
  show Go p e below _ (T'.setTop (mkF m 111 #[.val (.ref a1), .val (.int p2), .val (.int p3), .val (.ref a4), .val (.int p5), .val (.int p6), .val (.int o'), .val (.int (p2 + p3)), .val (.int c'), .val (.int (Int32.ofNat (own_ks (g0 - p6) gs ss []).length)), .val (.int i'), s'] [(.int (Int32.ofNat (own_ks (g0 - p6) gs ss []).length))]))
  exact own_retI X' hx hlk hret (hb hby d1_111) (by decide) (by decide) (by rw [e']; exact ⟨rfl, N', A', Z', K', FA', lA', ht'⟩)
def f2 (p1 : Int32) (p2 : Int32) (p3 : Int32) (p4 : Int32) (p5 : Int32) (p6 : Int32) : Int32 := (if p1 = p3 then (1 : Int32) else (if (1 : Int32) < p2 then (if p1 = p4 then (1 : Int32) else (if (2 : Int32) < p2 then (if p1 = p5 then (1 : Int32) else (if (3 : Int32) < p2 then (if p1 = p6 then (1 : Int32) else (0 : Int32)) else (0 : Int32))) else (if (3 : Int32) < p2 then (if p1 = p6 then (1 : Int32) else (0 : Int32)) else (0 : Int32)))) else (if (2 : Int32) < p2 then (if p1 = p5 then (1 : Int32) else (if (3 : Int32) < p2 then (if p1 = p6 then (1 : Int32) else (0 : Int32)) else (0 : Int32))) else (if (3 : Int32) < p2 then (if p1 = p6 then (1 : Int32) else (0 : Int32)) else (0 : Int32)))))
theorem d2_0 : decode method_2_code 0 = .ok (.iload_n 0, 1) := by decide +kernel
theorem d2_1 : decode method_2_code 1 = .ok (.iload_n 2, 1) := by decide +kernel
theorem d2_2 : decode method_2_code 2 = .ok (.if_icmp .eq 35, 3) := by decide +kernel
theorem d2_5 : decode method_2_code 5 = .ok (.iload_n 1, 1) := by decide +kernel
theorem d2_6 : decode method_2_code 6 = .ok (.iconst 1, 1) := by decide +kernel
theorem d2_7 : decode method_2_code 7 = .ok (.if_icmp .le 8, 3) := by decide +kernel
theorem d2_10 : decode method_2_code 10 = .ok (.iload_n 0, 1) := by decide +kernel
theorem d2_11 : decode method_2_code 11 = .ok (.iload_n 3, 1) := by decide +kernel
theorem d2_12 : decode method_2_code 12 = .ok (.if_icmp .eq 25, 3) := by decide +kernel
theorem d2_15 : decode method_2_code 15 = .ok (.iload_n 1, 1) := by decide +kernel
theorem d2_16 : decode method_2_code 16 = .ok (.iconst 2, 1) := by decide +kernel
theorem d2_17 : decode method_2_code 17 = .ok (.if_icmp .le 9, 3) := by decide +kernel
theorem d2_20 : decode method_2_code 20 = .ok (.iload_n 0, 1) := by decide +kernel
theorem d2_21 : decode method_2_code 21 = .ok (.iload 4, 2) := by decide +kernel
theorem d2_23 : decode method_2_code 23 = .ok (.if_icmp .eq 14, 3) := by decide +kernel
theorem d2_26 : decode method_2_code 26 = .ok (.iload_n 1, 1) := by decide +kernel
theorem d2_27 : decode method_2_code 27 = .ok (.iconst 3, 1) := by decide +kernel
theorem d2_28 : decode method_2_code 28 = .ok (.if_icmp .le 13, 3) := by decide +kernel
theorem d2_31 : decode method_2_code 31 = .ok (.iload_n 0, 1) := by decide +kernel
theorem d2_32 : decode method_2_code 32 = .ok (.iload 5, 2) := by decide +kernel
theorem d2_34 : decode method_2_code 34 = .ok (.if_icmp .ne 7, 3) := by decide +kernel
theorem d2_37 : decode method_2_code 37 = .ok (.iconst 1, 1) := by decide +kernel
theorem d2_38 : decode method_2_code 38 = .ok (.goto 4, 3) := by decide +kernel
theorem d2_41 : decode method_2_code 41 = .ok (.iconst 0, 1) := by decide +kernel
theorem d2_42 : decode method_2_code 42 = .ok (.ireturn, 1) := by decide +kernel
theorem pn_2 : plainName "com/example/skipstone/skipstone/PostingsCursorKeepStartsPinLaw" = true := by first | (simp [plainName, overriddenIn]; done) | decide +kernel
theorem ef_2 (m : MethodId) (x0 : Int32) (x1 : Int32) (x2 : Int32) (x3 : Int32) (x4 : Int32) (x5 : Int32) : entryFrame m #[(.int x0), (.int x1), (.int x2), (.int x3), (.int x4), (.int x5)] 6 = mkF m 0 #[.val (.int x0), .val (.int x1), .val (.int x2), .val (.int x3), .val (.int x4), .val (.int x5)] [] := by first | (simp [entryFrame, mkF, argsToLocals, Value.category]; done) | rfl
set_option maxRecDepth 65536 in
set_option maxHeartbeats 40000000 in
theorem rm2 (l : Launch) (Z : State) (a0 : Array Value) (hw : ∀ d ∈ tables_1, d.before a0 Z = true) (ws : List Jvm.Cond) (p1 : Int32) (p2 : Int32) (p3 : Int32) (p4 : Int32) (p5 : Int32) (p6 : Int32) (h0 : Heap) (n0 : Nat) :
    MetFree l (⟨"com/example/skipstone/skipstone/PostingsCursorKeepStartsPinLaw", "member", "(IIIIII)Z"⟩ : MethodName) (head1 (Jvm.Cond.code (⟨"com/example/skipstone/skipstone/PostingsCursorKeepStartsPinLaw", "member", "(IIIIII)Z"⟩ : MethodName) method_2_code 6 (some .boolean) :: ws) ({ frames := 0, cells := 0, slots := 0, locals := 0 } : Room)) (fun a U => a = #[(.int p1), (.int p2), (.int p3), (.int p4), (.int p5), (.int p6)] ∧ Z.Warmed39 U.vm ∧ U.heap = h0) (fun _ _ _ _ _ => True) (fun _ U o U' => ∃ v L, o = .returned v ∧ (QP (some (.int (f2 p1 p2 p3 p4 p5 p6))) h0 n0) v U'.heap L ∧ FrameEnd U o U' L ({ frames := 0, cells := 0, slots := 0, locals := 0 } : Room).cells ({ frames := 0, cells := 0, slots := 0, locals := 0 } : Room).slots) := by
  refine own_met (plainFor_of_name pn_2) (fun m => ef_2 m p1 p2 p3 p4 p5 p6) ?_
  intro p e s m below meth c T0 hx hby hml hown hnm hret hlk hZ X0 e0
  have hown : s.vm.findClass "com/example/skipstone/skipstone/PostingsCursorKeepStartsPinLaw" = some m.cls := hown
  have hnm : meth.name = "member" := hnm
  have hret : meth.sig.returnType = some .boolean := hret
  have N0 := Fr.nil n0
  show Go p e below _ (T0.setTop (mkF m 0 #[.val (.int p1), .val (.int p2), .val (.int p3), .val (.int p4), .val (.int p5), .val (.int p6)] []))
  refine go (fun _ q => XS.iloadN X0.here hx rfl (hb hby d2_0) rfl q) ?_
  show Go p e below _ (T0.setTop (mkF m 1 #[.val (.int p1), .val (.int p2), .val (.int p3), .val (.int p4), .val (.int p5), .val (.int p6)] [(.int p1)]))
  refine go (fun _ q => XS.iloadN X0.here hx rfl (hb hby d2_1) rfl q) ?_
  show Go p e below _ (T0.setTop (mkF m 2 #[.val (.int p1), .val (.int p2), .val (.int p3), .val (.int p4), .val (.int p5), .val (.int p6)] [(.int p3), (.int p1)]))
  suffices hj1 : ∀ (z17 : Int32), z17 = (if p1 = p3 then (1 : Int32) else (if (1 : Int32) < p2 then (if p1 = p4 then (1 : Int32) else (if (2 : Int32) < p2 then (if p1 = p5 then (1 : Int32) else (if (3 : Int32) < p2 then (if p1 = p6 then (1 : Int32) else (0 : Int32)) else (0 : Int32))) else (if (3 : Int32) < p2 then (if p1 = p6 then (1 : Int32) else (0 : Int32)) else (0 : Int32)))) else (if (2 : Int32) < p2 then (if p1 = p5 then (1 : Int32) else (if (3 : Int32) < p2 then (if p1 = p6 then (1 : Int32) else (0 : Int32)) else (0 : Int32))) else (if (3 : Int32) < p2 then (if p1 = p6 then (1 : Int32) else (0 : Int32)) else (0 : Int32))))) → Go p e below (Dn below s ((QP (some (.int (f2 p1 p2 p3 p4 p5 p6))) h0 n0)) ({ frames := 0, cells := 0, slots := 0, locals := 0 } : Room).cells ({ frames := 0, cells := 0, slots := 0, locals := 0 } : Room).slots) (T0.setTop (mkF m 42 #[.val (.int p1), .val (.int p2), .val (.int p3), .val (.int p4), .val (.int p5), .val (.int p6)] [(.int z17)])) by
    by_cases hc2 : p1 = p3
    · refine go (fun _ q => XS.icmpYes X0.here hx rfl (pc0 := 2) (pc' := 37) rfl (hb hby d2_2) rfl (teq hc2).1 (by decide) (by decide) q) ?_
      show Go p e below _ (T0.setTop (mkF m 37 #[.val (.int p1), .val (.int p2), .val (.int p3), .val (.int p4), .val (.int p5), .val (.int p6)] []))
      refine go (fun _ q => XS.iconst X0.here hx rfl (hb hby d2_37) q) ?_
      show Go p e below _ (T0.setTop (mkF m 38 #[.val (.int p1), .val (.int p2), .val (.int p3), .val (.int p4), .val (.int p5), .val (.int p6)] [(.int (1 : Int32))]))
      refine go (fun _ q => XS.goto X0.here hx rfl (pc0 := 38) (pc' := 42) rfl (hb hby d2_38) (by decide) (by decide) q) ?_
      show Go p e below _ (T0.setTop (mkF m 42 #[.val (.int p1), .val (.int p2), .val (.int p3), .val (.int p4), .val (.int p5), .val (.int p6)] [(.int (1 : Int32))]))
      exact hj1 _ (by rw [if_pos hc2])
    · refine go (fun _ q => XS.icmpNo X0.here hx rfl (hb hby d2_2) rfl (feq hc2).1 q) ?_
      show Go p e below _ (T0.setTop (mkF m 5 #[.val (.int p1), .val (.int p2), .val (.int p3), .val (.int p4), .val (.int p5), .val (.int p6)] []))
      refine go (fun _ q => XS.iloadN X0.here hx rfl (hb hby d2_5) rfl q) ?_
      show Go p e below _ (T0.setTop (mkF m 6 #[.val (.int p1), .val (.int p2), .val (.int p3), .val (.int p4), .val (.int p5), .val (.int p6)] [(.int p2)]))
      refine go (fun _ q => XS.iconst X0.here hx rfl (hb hby d2_6) q) ?_
      show Go p e below _ (T0.setTop (mkF m 7 #[.val (.int p1), .val (.int p2), .val (.int p3), .val (.int p4), .val (.int p5), .val (.int p6)] [(.int (1 : Int32)), (.int p2)]))
      by_cases hc3 : (1 : Int32) < p2
      · refine go (fun _ q => XS.icmpNo X0.here hx rfl (hb hby d2_7) rfl (tlt hc3).2.2.2 q) ?_
        show Go p e below _ (T0.setTop (mkF m 10 #[.val (.int p1), .val (.int p2), .val (.int p3), .val (.int p4), .val (.int p5), .val (.int p6)] []))
        refine go (fun _ q => XS.iloadN X0.here hx rfl (hb hby d2_10) rfl q) ?_
        show Go p e below _ (T0.setTop (mkF m 11 #[.val (.int p1), .val (.int p2), .val (.int p3), .val (.int p4), .val (.int p5), .val (.int p6)] [(.int p1)]))
        refine go (fun _ q => XS.iloadN X0.here hx rfl (hb hby d2_11) rfl q) ?_
        show Go p e below _ (T0.setTop (mkF m 12 #[.val (.int p1), .val (.int p2), .val (.int p3), .val (.int p4), .val (.int p5), .val (.int p6)] [(.int p4), (.int p1)]))
        by_cases hc4 : p1 = p4
        · refine go (fun _ q => XS.icmpYes X0.here hx rfl (pc0 := 12) (pc' := 37) rfl (hb hby d2_12) rfl (teq hc4).1 (by decide) (by decide) q) ?_
          show Go p e below _ (T0.setTop (mkF m 37 #[.val (.int p1), .val (.int p2), .val (.int p3), .val (.int p4), .val (.int p5), .val (.int p6)] []))
          refine go (fun _ q => XS.iconst X0.here hx rfl (hb hby d2_37) q) ?_
          show Go p e below _ (T0.setTop (mkF m 38 #[.val (.int p1), .val (.int p2), .val (.int p3), .val (.int p4), .val (.int p5), .val (.int p6)] [(.int (1 : Int32))]))
          refine go (fun _ q => XS.goto X0.here hx rfl (pc0 := 38) (pc' := 42) rfl (hb hby d2_38) (by decide) (by decide) q) ?_
          show Go p e below _ (T0.setTop (mkF m 42 #[.val (.int p1), .val (.int p2), .val (.int p3), .val (.int p4), .val (.int p5), .val (.int p6)] [(.int (1 : Int32))]))
          exact hj1 _ (by rw [if_neg hc2, if_pos hc3, if_pos hc4])
        · refine go (fun _ q => XS.icmpNo X0.here hx rfl (hb hby d2_12) rfl (feq hc4).1 q) ?_
          show Go p e below _ (T0.setTop (mkF m 15 #[.val (.int p1), .val (.int p2), .val (.int p3), .val (.int p4), .val (.int p5), .val (.int p6)] []))
          refine go (fun _ q => XS.iloadN X0.here hx rfl (hb hby d2_15) rfl q) ?_
          show Go p e below _ (T0.setTop (mkF m 16 #[.val (.int p1), .val (.int p2), .val (.int p3), .val (.int p4), .val (.int p5), .val (.int p6)] [(.int p2)]))
          refine go (fun _ q => XS.iconst X0.here hx rfl (hb hby d2_16) q) ?_
          show Go p e below _ (T0.setTop (mkF m 17 #[.val (.int p1), .val (.int p2), .val (.int p3), .val (.int p4), .val (.int p5), .val (.int p6)] [(.int (2 : Int32)), (.int p2)]))
          by_cases hc5 : (2 : Int32) < p2
          · refine go (fun _ q => XS.icmpNo X0.here hx rfl (hb hby d2_17) rfl (tlt hc5).2.2.2 q) ?_
            show Go p e below _ (T0.setTop (mkF m 20 #[.val (.int p1), .val (.int p2), .val (.int p3), .val (.int p4), .val (.int p5), .val (.int p6)] []))
            refine go (fun _ q => XS.iloadN X0.here hx rfl (hb hby d2_20) rfl q) ?_
            show Go p e below _ (T0.setTop (mkF m 21 #[.val (.int p1), .val (.int p2), .val (.int p3), .val (.int p4), .val (.int p5), .val (.int p6)] [(.int p1)]))
            refine go (fun _ q => XS.iload X0.here hx rfl (hb hby d2_21) rfl q) ?_
            show Go p e below _ (T0.setTop (mkF m 23 #[.val (.int p1), .val (.int p2), .val (.int p3), .val (.int p4), .val (.int p5), .val (.int p6)] [(.int p5), (.int p1)]))
            by_cases hc6 : p1 = p5
            · refine go (fun _ q => XS.icmpYes X0.here hx rfl (pc0 := 23) (pc' := 37) rfl (hb hby d2_23) rfl (teq hc6).1 (by decide) (by decide) q) ?_
              show Go p e below _ (T0.setTop (mkF m 37 #[.val (.int p1), .val (.int p2), .val (.int p3), .val (.int p4), .val (.int p5), .val (.int p6)] []))
              refine go (fun _ q => XS.iconst X0.here hx rfl (hb hby d2_37) q) ?_
              show Go p e below _ (T0.setTop (mkF m 38 #[.val (.int p1), .val (.int p2), .val (.int p3), .val (.int p4), .val (.int p5), .val (.int p6)] [(.int (1 : Int32))]))
              refine go (fun _ q => XS.goto X0.here hx rfl (pc0 := 38) (pc' := 42) rfl (hb hby d2_38) (by decide) (by decide) q) ?_
              show Go p e below _ (T0.setTop (mkF m 42 #[.val (.int p1), .val (.int p2), .val (.int p3), .val (.int p4), .val (.int p5), .val (.int p6)] [(.int (1 : Int32))]))
              exact hj1 _ (by rw [if_neg hc2, if_pos hc3, if_neg hc4, if_pos hc5, if_pos hc6])
            · refine go (fun _ q => XS.icmpNo X0.here hx rfl (hb hby d2_23) rfl (feq hc6).1 q) ?_
              show Go p e below _ (T0.setTop (mkF m 26 #[.val (.int p1), .val (.int p2), .val (.int p3), .val (.int p4), .val (.int p5), .val (.int p6)] []))
              refine go (fun _ q => XS.iloadN X0.here hx rfl (hb hby d2_26) rfl q) ?_
              show Go p e below _ (T0.setTop (mkF m 27 #[.val (.int p1), .val (.int p2), .val (.int p3), .val (.int p4), .val (.int p5), .val (.int p6)] [(.int p2)]))
              refine go (fun _ q => XS.iconst X0.here hx rfl (hb hby d2_27) q) ?_
              show Go p e below _ (T0.setTop (mkF m 28 #[.val (.int p1), .val (.int p2), .val (.int p3), .val (.int p4), .val (.int p5), .val (.int p6)] [(.int (3 : Int32)), (.int p2)]))
              by_cases hc7 : (3 : Int32) < p2
              · refine go (fun _ q => XS.icmpNo X0.here hx rfl (hb hby d2_28) rfl (tlt hc7).2.2.2 q) ?_
                show Go p e below _ (T0.setTop (mkF m 31 #[.val (.int p1), .val (.int p2), .val (.int p3), .val (.int p4), .val (.int p5), .val (.int p6)] []))
                refine go (fun _ q => XS.iloadN X0.here hx rfl (hb hby d2_31) rfl q) ?_
                show Go p e below _ (T0.setTop (mkF m 32 #[.val (.int p1), .val (.int p2), .val (.int p3), .val (.int p4), .val (.int p5), .val (.int p6)] [(.int p1)]))
                refine go (fun _ q => XS.iload X0.here hx rfl (hb hby d2_32) rfl q) ?_
                show Go p e below _ (T0.setTop (mkF m 34 #[.val (.int p1), .val (.int p2), .val (.int p3), .val (.int p4), .val (.int p5), .val (.int p6)] [(.int p6), (.int p1)]))
                by_cases hc8 : p1 = p6
                · refine go (fun _ q => XS.icmpNo X0.here hx rfl (hb hby d2_34) rfl (teq hc8).2 q) ?_
                  show Go p e below _ (T0.setTop (mkF m 37 #[.val (.int p1), .val (.int p2), .val (.int p3), .val (.int p4), .val (.int p5), .val (.int p6)] []))
                  refine go (fun _ q => XS.iconst X0.here hx rfl (hb hby d2_37) q) ?_
                  show Go p e below _ (T0.setTop (mkF m 38 #[.val (.int p1), .val (.int p2), .val (.int p3), .val (.int p4), .val (.int p5), .val (.int p6)] [(.int (1 : Int32))]))
                  refine go (fun _ q => XS.goto X0.here hx rfl (pc0 := 38) (pc' := 42) rfl (hb hby d2_38) (by decide) (by decide) q) ?_
                  show Go p e below _ (T0.setTop (mkF m 42 #[.val (.int p1), .val (.int p2), .val (.int p3), .val (.int p4), .val (.int p5), .val (.int p6)] [(.int (1 : Int32))]))
                  exact hj1 _ (by rw [if_neg hc2, if_pos hc3, if_neg hc4, if_pos hc5, if_neg hc6, if_pos hc7, if_pos hc8])
                · refine go (fun _ q => XS.icmpYes X0.here hx rfl (pc0 := 34) (pc' := 41) rfl (hb hby d2_34) rfl (feq hc8).2 (by decide) (by decide) q) ?_
                  show Go p e below _ (T0.setTop (mkF m 41 #[.val (.int p1), .val (.int p2), .val (.int p3), .val (.int p4), .val (.int p5), .val (.int p6)] []))
                  refine go (fun _ q => XS.iconst X0.here hx rfl (hb hby d2_41) q) ?_
                  show Go p e below _ (T0.setTop (mkF m 42 #[.val (.int p1), .val (.int p2), .val (.int p3), .val (.int p4), .val (.int p5), .val (.int p6)] [(.int (0 : Int32))]))
                  exact hj1 _ (by rw [if_neg hc2, if_pos hc3, if_neg hc4, if_pos hc5, if_neg hc6, if_pos hc7, if_neg hc8])
              · refine go (fun _ q => XS.icmpYes X0.here hx rfl (pc0 := 28) (pc' := 41) rfl (hb hby d2_28) rfl (flt hc7).2.2.2 (by decide) (by decide) q) ?_
                show Go p e below _ (T0.setTop (mkF m 41 #[.val (.int p1), .val (.int p2), .val (.int p3), .val (.int p4), .val (.int p5), .val (.int p6)] []))
                refine go (fun _ q => XS.iconst X0.here hx rfl (hb hby d2_41) q) ?_
                show Go p e below _ (T0.setTop (mkF m 42 #[.val (.int p1), .val (.int p2), .val (.int p3), .val (.int p4), .val (.int p5), .val (.int p6)] [(.int (0 : Int32))]))
                exact hj1 _ (by rw [if_neg hc2, if_pos hc3, if_neg hc4, if_pos hc5, if_neg hc6, if_neg hc7])
          · refine go (fun _ q => XS.icmpYes X0.here hx rfl (pc0 := 17) (pc' := 26) rfl (hb hby d2_17) rfl (flt hc5).2.2.2 (by decide) (by decide) q) ?_
            show Go p e below _ (T0.setTop (mkF m 26 #[.val (.int p1), .val (.int p2), .val (.int p3), .val (.int p4), .val (.int p5), .val (.int p6)] []))
            refine go (fun _ q => XS.iloadN X0.here hx rfl (hb hby d2_26) rfl q) ?_
            show Go p e below _ (T0.setTop (mkF m 27 #[.val (.int p1), .val (.int p2), .val (.int p3), .val (.int p4), .val (.int p5), .val (.int p6)] [(.int p2)]))
            refine go (fun _ q => XS.iconst X0.here hx rfl (hb hby d2_27) q) ?_
            show Go p e below _ (T0.setTop (mkF m 28 #[.val (.int p1), .val (.int p2), .val (.int p3), .val (.int p4), .val (.int p5), .val (.int p6)] [(.int (3 : Int32)), (.int p2)]))
            by_cases hc9 : (3 : Int32) < p2
            · refine go (fun _ q => XS.icmpNo X0.here hx rfl (hb hby d2_28) rfl (tlt hc9).2.2.2 q) ?_
              show Go p e below _ (T0.setTop (mkF m 31 #[.val (.int p1), .val (.int p2), .val (.int p3), .val (.int p4), .val (.int p5), .val (.int p6)] []))
              refine go (fun _ q => XS.iloadN X0.here hx rfl (hb hby d2_31) rfl q) ?_
              show Go p e below _ (T0.setTop (mkF m 32 #[.val (.int p1), .val (.int p2), .val (.int p3), .val (.int p4), .val (.int p5), .val (.int p6)] [(.int p1)]))
              refine go (fun _ q => XS.iload X0.here hx rfl (hb hby d2_32) rfl q) ?_
              show Go p e below _ (T0.setTop (mkF m 34 #[.val (.int p1), .val (.int p2), .val (.int p3), .val (.int p4), .val (.int p5), .val (.int p6)] [(.int p6), (.int p1)]))
              by_cases hc10 : p1 = p6
              · refine go (fun _ q => XS.icmpNo X0.here hx rfl (hb hby d2_34) rfl (teq hc10).2 q) ?_
                show Go p e below _ (T0.setTop (mkF m 37 #[.val (.int p1), .val (.int p2), .val (.int p3), .val (.int p4), .val (.int p5), .val (.int p6)] []))
                refine go (fun _ q => XS.iconst X0.here hx rfl (hb hby d2_37) q) ?_
                show Go p e below _ (T0.setTop (mkF m 38 #[.val (.int p1), .val (.int p2), .val (.int p3), .val (.int p4), .val (.int p5), .val (.int p6)] [(.int (1 : Int32))]))
                refine go (fun _ q => XS.goto X0.here hx rfl (pc0 := 38) (pc' := 42) rfl (hb hby d2_38) (by decide) (by decide) q) ?_
                show Go p e below _ (T0.setTop (mkF m 42 #[.val (.int p1), .val (.int p2), .val (.int p3), .val (.int p4), .val (.int p5), .val (.int p6)] [(.int (1 : Int32))]))
                exact hj1 _ (by rw [if_neg hc2, if_pos hc3, if_neg hc4, if_neg hc5, if_pos hc9, if_pos hc10])
              · refine go (fun _ q => XS.icmpYes X0.here hx rfl (pc0 := 34) (pc' := 41) rfl (hb hby d2_34) rfl (feq hc10).2 (by decide) (by decide) q) ?_
                show Go p e below _ (T0.setTop (mkF m 41 #[.val (.int p1), .val (.int p2), .val (.int p3), .val (.int p4), .val (.int p5), .val (.int p6)] []))
                refine go (fun _ q => XS.iconst X0.here hx rfl (hb hby d2_41) q) ?_
                show Go p e below _ (T0.setTop (mkF m 42 #[.val (.int p1), .val (.int p2), .val (.int p3), .val (.int p4), .val (.int p5), .val (.int p6)] [(.int (0 : Int32))]))
                exact hj1 _ (by rw [if_neg hc2, if_pos hc3, if_neg hc4, if_neg hc5, if_pos hc9, if_neg hc10])
            · refine go (fun _ q => XS.icmpYes X0.here hx rfl (pc0 := 28) (pc' := 41) rfl (hb hby d2_28) rfl (flt hc9).2.2.2 (by decide) (by decide) q) ?_
              show Go p e below _ (T0.setTop (mkF m 41 #[.val (.int p1), .val (.int p2), .val (.int p3), .val (.int p4), .val (.int p5), .val (.int p6)] []))
              refine go (fun _ q => XS.iconst X0.here hx rfl (hb hby d2_41) q) ?_
              show Go p e below _ (T0.setTop (mkF m 42 #[.val (.int p1), .val (.int p2), .val (.int p3), .val (.int p4), .val (.int p5), .val (.int p6)] [(.int (0 : Int32))]))
              exact hj1 _ (by rw [if_neg hc2, if_pos hc3, if_neg hc4, if_neg hc5, if_neg hc9])
      · refine go (fun _ q => XS.icmpYes X0.here hx rfl (pc0 := 7) (pc' := 15) rfl (hb hby d2_7) rfl (flt hc3).2.2.2 (by decide) (by decide) q) ?_
        show Go p e below _ (T0.setTop (mkF m 15 #[.val (.int p1), .val (.int p2), .val (.int p3), .val (.int p4), .val (.int p5), .val (.int p6)] []))
        refine go (fun _ q => XS.iloadN X0.here hx rfl (hb hby d2_15) rfl q) ?_
        show Go p e below _ (T0.setTop (mkF m 16 #[.val (.int p1), .val (.int p2), .val (.int p3), .val (.int p4), .val (.int p5), .val (.int p6)] [(.int p2)]))
        refine go (fun _ q => XS.iconst X0.here hx rfl (hb hby d2_16) q) ?_
        show Go p e below _ (T0.setTop (mkF m 17 #[.val (.int p1), .val (.int p2), .val (.int p3), .val (.int p4), .val (.int p5), .val (.int p6)] [(.int (2 : Int32)), (.int p2)]))
        by_cases hc11 : (2 : Int32) < p2
        · refine go (fun _ q => XS.icmpNo X0.here hx rfl (hb hby d2_17) rfl (tlt hc11).2.2.2 q) ?_
          show Go p e below _ (T0.setTop (mkF m 20 #[.val (.int p1), .val (.int p2), .val (.int p3), .val (.int p4), .val (.int p5), .val (.int p6)] []))
          refine go (fun _ q => XS.iloadN X0.here hx rfl (hb hby d2_20) rfl q) ?_
          show Go p e below _ (T0.setTop (mkF m 21 #[.val (.int p1), .val (.int p2), .val (.int p3), .val (.int p4), .val (.int p5), .val (.int p6)] [(.int p1)]))
          refine go (fun _ q => XS.iload X0.here hx rfl (hb hby d2_21) rfl q) ?_
          show Go p e below _ (T0.setTop (mkF m 23 #[.val (.int p1), .val (.int p2), .val (.int p3), .val (.int p4), .val (.int p5), .val (.int p6)] [(.int p5), (.int p1)]))
          by_cases hc12 : p1 = p5
          · refine go (fun _ q => XS.icmpYes X0.here hx rfl (pc0 := 23) (pc' := 37) rfl (hb hby d2_23) rfl (teq hc12).1 (by decide) (by decide) q) ?_
            show Go p e below _ (T0.setTop (mkF m 37 #[.val (.int p1), .val (.int p2), .val (.int p3), .val (.int p4), .val (.int p5), .val (.int p6)] []))
            refine go (fun _ q => XS.iconst X0.here hx rfl (hb hby d2_37) q) ?_
            show Go p e below _ (T0.setTop (mkF m 38 #[.val (.int p1), .val (.int p2), .val (.int p3), .val (.int p4), .val (.int p5), .val (.int p6)] [(.int (1 : Int32))]))
            refine go (fun _ q => XS.goto X0.here hx rfl (pc0 := 38) (pc' := 42) rfl (hb hby d2_38) (by decide) (by decide) q) ?_
            show Go p e below _ (T0.setTop (mkF m 42 #[.val (.int p1), .val (.int p2), .val (.int p3), .val (.int p4), .val (.int p5), .val (.int p6)] [(.int (1 : Int32))]))
            exact hj1 _ (by rw [if_neg hc2, if_neg hc3, if_pos hc11, if_pos hc12])
          · refine go (fun _ q => XS.icmpNo X0.here hx rfl (hb hby d2_23) rfl (feq hc12).1 q) ?_
            show Go p e below _ (T0.setTop (mkF m 26 #[.val (.int p1), .val (.int p2), .val (.int p3), .val (.int p4), .val (.int p5), .val (.int p6)] []))
            refine go (fun _ q => XS.iloadN X0.here hx rfl (hb hby d2_26) rfl q) ?_
            show Go p e below _ (T0.setTop (mkF m 27 #[.val (.int p1), .val (.int p2), .val (.int p3), .val (.int p4), .val (.int p5), .val (.int p6)] [(.int p2)]))
            refine go (fun _ q => XS.iconst X0.here hx rfl (hb hby d2_27) q) ?_
            show Go p e below _ (T0.setTop (mkF m 28 #[.val (.int p1), .val (.int p2), .val (.int p3), .val (.int p4), .val (.int p5), .val (.int p6)] [(.int (3 : Int32)), (.int p2)]))
            by_cases hc13 : (3 : Int32) < p2
            · refine go (fun _ q => XS.icmpNo X0.here hx rfl (hb hby d2_28) rfl (tlt hc13).2.2.2 q) ?_
              show Go p e below _ (T0.setTop (mkF m 31 #[.val (.int p1), .val (.int p2), .val (.int p3), .val (.int p4), .val (.int p5), .val (.int p6)] []))
              refine go (fun _ q => XS.iloadN X0.here hx rfl (hb hby d2_31) rfl q) ?_
              show Go p e below _ (T0.setTop (mkF m 32 #[.val (.int p1), .val (.int p2), .val (.int p3), .val (.int p4), .val (.int p5), .val (.int p6)] [(.int p1)]))
              refine go (fun _ q => XS.iload X0.here hx rfl (hb hby d2_32) rfl q) ?_
              show Go p e below _ (T0.setTop (mkF m 34 #[.val (.int p1), .val (.int p2), .val (.int p3), .val (.int p4), .val (.int p5), .val (.int p6)] [(.int p6), (.int p1)]))
              by_cases hc14 : p1 = p6
              · refine go (fun _ q => XS.icmpNo X0.here hx rfl (hb hby d2_34) rfl (teq hc14).2 q) ?_
                show Go p e below _ (T0.setTop (mkF m 37 #[.val (.int p1), .val (.int p2), .val (.int p3), .val (.int p4), .val (.int p5), .val (.int p6)] []))
                refine go (fun _ q => XS.iconst X0.here hx rfl (hb hby d2_37) q) ?_
                show Go p e below _ (T0.setTop (mkF m 38 #[.val (.int p1), .val (.int p2), .val (.int p3), .val (.int p4), .val (.int p5), .val (.int p6)] [(.int (1 : Int32))]))
                refine go (fun _ q => XS.goto X0.here hx rfl (pc0 := 38) (pc' := 42) rfl (hb hby d2_38) (by decide) (by decide) q) ?_
                show Go p e below _ (T0.setTop (mkF m 42 #[.val (.int p1), .val (.int p2), .val (.int p3), .val (.int p4), .val (.int p5), .val (.int p6)] [(.int (1 : Int32))]))
                exact hj1 _ (by rw [if_neg hc2, if_neg hc3, if_pos hc11, if_neg hc12, if_pos hc13, if_pos hc14])
              · refine go (fun _ q => XS.icmpYes X0.here hx rfl (pc0 := 34) (pc' := 41) rfl (hb hby d2_34) rfl (feq hc14).2 (by decide) (by decide) q) ?_
                show Go p e below _ (T0.setTop (mkF m 41 #[.val (.int p1), .val (.int p2), .val (.int p3), .val (.int p4), .val (.int p5), .val (.int p6)] []))
                refine go (fun _ q => XS.iconst X0.here hx rfl (hb hby d2_41) q) ?_
                show Go p e below _ (T0.setTop (mkF m 42 #[.val (.int p1), .val (.int p2), .val (.int p3), .val (.int p4), .val (.int p5), .val (.int p6)] [(.int (0 : Int32))]))
                exact hj1 _ (by rw [if_neg hc2, if_neg hc3, if_pos hc11, if_neg hc12, if_pos hc13, if_neg hc14])
            · refine go (fun _ q => XS.icmpYes X0.here hx rfl (pc0 := 28) (pc' := 41) rfl (hb hby d2_28) rfl (flt hc13).2.2.2 (by decide) (by decide) q) ?_
              show Go p e below _ (T0.setTop (mkF m 41 #[.val (.int p1), .val (.int p2), .val (.int p3), .val (.int p4), .val (.int p5), .val (.int p6)] []))
              refine go (fun _ q => XS.iconst X0.here hx rfl (hb hby d2_41) q) ?_
              show Go p e below _ (T0.setTop (mkF m 42 #[.val (.int p1), .val (.int p2), .val (.int p3), .val (.int p4), .val (.int p5), .val (.int p6)] [(.int (0 : Int32))]))
              exact hj1 _ (by rw [if_neg hc2, if_neg hc3, if_pos hc11, if_neg hc12, if_neg hc13])
        · refine go (fun _ q => XS.icmpYes X0.here hx rfl (pc0 := 17) (pc' := 26) rfl (hb hby d2_17) rfl (flt hc11).2.2.2 (by decide) (by decide) q) ?_
          show Go p e below _ (T0.setTop (mkF m 26 #[.val (.int p1), .val (.int p2), .val (.int p3), .val (.int p4), .val (.int p5), .val (.int p6)] []))
          refine go (fun _ q => XS.iloadN X0.here hx rfl (hb hby d2_26) rfl q) ?_
          show Go p e below _ (T0.setTop (mkF m 27 #[.val (.int p1), .val (.int p2), .val (.int p3), .val (.int p4), .val (.int p5), .val (.int p6)] [(.int p2)]))
          refine go (fun _ q => XS.iconst X0.here hx rfl (hb hby d2_27) q) ?_
          show Go p e below _ (T0.setTop (mkF m 28 #[.val (.int p1), .val (.int p2), .val (.int p3), .val (.int p4), .val (.int p5), .val (.int p6)] [(.int (3 : Int32)), (.int p2)]))
          by_cases hc15 : (3 : Int32) < p2
          · refine go (fun _ q => XS.icmpNo X0.here hx rfl (hb hby d2_28) rfl (tlt hc15).2.2.2 q) ?_
            show Go p e below _ (T0.setTop (mkF m 31 #[.val (.int p1), .val (.int p2), .val (.int p3), .val (.int p4), .val (.int p5), .val (.int p6)] []))
            refine go (fun _ q => XS.iloadN X0.here hx rfl (hb hby d2_31) rfl q) ?_
            show Go p e below _ (T0.setTop (mkF m 32 #[.val (.int p1), .val (.int p2), .val (.int p3), .val (.int p4), .val (.int p5), .val (.int p6)] [(.int p1)]))
            refine go (fun _ q => XS.iload X0.here hx rfl (hb hby d2_32) rfl q) ?_
            show Go p e below _ (T0.setTop (mkF m 34 #[.val (.int p1), .val (.int p2), .val (.int p3), .val (.int p4), .val (.int p5), .val (.int p6)] [(.int p6), (.int p1)]))
            by_cases hc16 : p1 = p6
            · refine go (fun _ q => XS.icmpNo X0.here hx rfl (hb hby d2_34) rfl (teq hc16).2 q) ?_
              show Go p e below _ (T0.setTop (mkF m 37 #[.val (.int p1), .val (.int p2), .val (.int p3), .val (.int p4), .val (.int p5), .val (.int p6)] []))
              refine go (fun _ q => XS.iconst X0.here hx rfl (hb hby d2_37) q) ?_
              show Go p e below _ (T0.setTop (mkF m 38 #[.val (.int p1), .val (.int p2), .val (.int p3), .val (.int p4), .val (.int p5), .val (.int p6)] [(.int (1 : Int32))]))
              refine go (fun _ q => XS.goto X0.here hx rfl (pc0 := 38) (pc' := 42) rfl (hb hby d2_38) (by decide) (by decide) q) ?_
              show Go p e below _ (T0.setTop (mkF m 42 #[.val (.int p1), .val (.int p2), .val (.int p3), .val (.int p4), .val (.int p5), .val (.int p6)] [(.int (1 : Int32))]))
              exact hj1 _ (by rw [if_neg hc2, if_neg hc3, if_neg hc11, if_pos hc15, if_pos hc16])
            · refine go (fun _ q => XS.icmpYes X0.here hx rfl (pc0 := 34) (pc' := 41) rfl (hb hby d2_34) rfl (feq hc16).2 (by decide) (by decide) q) ?_
              show Go p e below _ (T0.setTop (mkF m 41 #[.val (.int p1), .val (.int p2), .val (.int p3), .val (.int p4), .val (.int p5), .val (.int p6)] []))
              refine go (fun _ q => XS.iconst X0.here hx rfl (hb hby d2_41) q) ?_
              show Go p e below _ (T0.setTop (mkF m 42 #[.val (.int p1), .val (.int p2), .val (.int p3), .val (.int p4), .val (.int p5), .val (.int p6)] [(.int (0 : Int32))]))
              exact hj1 _ (by rw [if_neg hc2, if_neg hc3, if_neg hc11, if_pos hc15, if_neg hc16])
          · refine go (fun _ q => XS.icmpYes X0.here hx rfl (pc0 := 28) (pc' := 41) rfl (hb hby d2_28) rfl (flt hc15).2.2.2 (by decide) (by decide) q) ?_
            show Go p e below _ (T0.setTop (mkF m 41 #[.val (.int p1), .val (.int p2), .val (.int p3), .val (.int p4), .val (.int p5), .val (.int p6)] []))
            refine go (fun _ q => XS.iconst X0.here hx rfl (hb hby d2_41) q) ?_
            show Go p e below _ (T0.setTop (mkF m 42 #[.val (.int p1), .val (.int p2), .val (.int p3), .val (.int p4), .val (.int p5), .val (.int p6)] [(.int (0 : Int32))]))
            exact hj1 _ (by rw [if_neg hc2, if_neg hc3, if_neg hc11, if_neg hc15])
  intro z17 hz17
  show Go p e below _ (T0.setTop (mkF m 42 #[.val (.int p1), .val (.int p2), .val (.int p3), .val (.int p4), .val (.int p5), .val (.int p6)] [(.int z17)]))
  exact own_retZ (z' := z17) X0 hx hlk hret (hb hby d2_42) (by decide) (by decide) (by rw [hz17]; (repeat' split) <;> rfl) ⟨congrArg (fun z => some (Value.int z)) (by rw [f2, hz17]), N0, e0⟩
def own_pos : Int32 → List Int32 → List Int32
  | c, [] => [c]
  | c, g :: gs => c :: own_pos (c + (g + 1)) gs
theorem own_hd (c : Int32) (gs : List Int32) : ∃ t, own_pos c gs = c :: t := by cases gs <;> exact ⟨_, rfl⟩
theorem own_advs (s : Int32) : ∀ (gs : List Int32) (c : Int32), (own_pos c gs).Pairwise (· < ·) →
    (own_pos (own_adv c gs s).1 (own_adv c gs s).2).Pairwise (· < ·) ∧ (∀ y, ¬ y < s → (y ∈ own_pos c gs ↔ y ∈ own_pos (own_adv c gs s).1 (own_adv c gs s).2)) ∧ ((own_adv c gs s).1 < s → own_pos (own_adv c gs s).1 (own_adv c gs s).2 = [(own_adv c gs s).1]) := by
  intro gs
  induction gs with
  | nil => intro c h; exact ⟨h, fun _ _ => Iff.rfl, fun _ => rfl⟩
  | cons g gs ih =>
    intro c h
    by_cases hc : c < s
    · have e : own_adv c (g :: gs) s = own_adv (c + (g + 1)) gs s := by rw [own_adv, if_pos hc]
      rw [e]
      have h' : (own_pos (c + (g + 1)) gs).Pairwise (· < ·) := (List.pairwise_cons.mp h).2
      obtain ⟨a1, a2, a3⟩ := ih _ h'
      refine ⟨a1, fun y hy => ?_, a3⟩
      rw [← a2 y hy]
      show y ∈ c :: own_pos (c + (g + 1)) gs ↔ _
      rw [List.mem_cons]
      constructor
      · rintro (rfl | q)
        · exact absurd hc hy
        · exact q
      · exact Or.inr
    · have e : own_adv c (g :: gs) s = (c, g :: gs) := by rw [own_adv, if_neg hc]
      rw [e]
      exact ⟨h, fun _ _ => Iff.rfl, fun q => absurd q hc⟩
theorem own_ksf : ∀ (ss : List Int32) (c : Int32) (gs ks : List Int32), (own_pos c gs).Pairwise (· < ·) → ss.Pairwise (· < ·) → own_ks c gs ss ks = ks ++ ss.filter (fun y => decide (y ∈ own_pos c gs)) := by
  intro ss
  induction ss with
  | nil => intro c gs ks _ _; simp [own_ks]
  | cons s ss ih =>
    intro c gs ks h1 h2
    obtain ⟨a1, a2, a3⟩ := own_advs s gs c h1
    obtain ⟨b1, b2⟩ := List.pairwise_cons.mp h2
    rw [own_ks]
    generalize own_adv c gs s = ad at a1 a2 a3 ⊢
    have hself : ¬ s < s := Int32.lt_irrefl
    have hlt : ∀ y ∈ ss, ¬ y < s := fun y hy q => Int32.lt_asymm q (b1 y hy)
    by_cases hc : ad.1 < s
    · rw [if_pos hc]
      have e : (s :: ss).filter (fun y => decide (y ∈ own_pos c gs)) = [] := by
        rw [List.filter_eq_nil_iff]
        intro y hy
        simp only [decide_eq_true_eq]
        have hy' : ¬ y < s := by
          rcases List.mem_cons.mp hy with rfl | q
          · exact hself
          · exact hlt y q
        rw [a2 y hy', a3 hc, List.mem_singleton]
        rintro rfl
        exact hy' hc
      rw [e, List.append_nil]
    · rw [if_neg hc, ih _ _ _ a1 b2]
      have em : s ∈ own_pos c gs ↔ ad.1 = s := by
        rw [a2 s hself]
        obtain ⟨t, ht⟩ := own_hd ad.1 ad.2
        rw [ht] at a1 ⊢
        rw [List.mem_cons]
        constructor
        · rintro (rfl | q)
          · rfl
          · exact absurd ((List.pairwise_cons.mp a1).1 s q) hc
        · exact fun q => Or.inl q.symm
      have ef : ss.filter (fun y => decide (y ∈ own_pos ad.1 ad.2)) = ss.filter (fun y => decide (y ∈ own_pos c gs)) := by
        apply List.filter_congr
        intro y hy
        rw [decide_eq_decide]
        exact (a2 y (hlt y hy)).symm
      rw [ef, List.filter_cons]
      by_cases q : ad.1 = s
      · rw [if_pos q, if_pos (by simpa using em.mpr q)]; simp
      · rw [if_neg q, if_neg (by simpa using fun z => q (em.mp z))]
/-- the kept ones so far: n of them, at the array's beginning -/
def own_est (n : Int32) (xs F : List Int32) (b : Nat) : Prop := n = Int32.ofNat F.length ∧ xs.take F.length = F ∧ F.length ≤ b
theorem own_estep {n n' s m : Int32} {xs xs' F : List Int32} {b : Nat} (h : own_est n xs F b) (hb : b < 1000) (hl : b < xs.length) (hn : n' = (if m = (0 : Int32) then n else (n + (1 : Int32)))) (hx : xs' = (if m = (0 : Int32) then xs else (xs.set (n).toNatClampNeg s))) : own_est n' xs' (if m = (0 : Int32) then F else F ++ [s]) (b + 1) := by
  obtain ⟨h1, h2, h3⟩ := h
  by_cases q : m = 0
  · rw [if_pos q] at hn hx ⊢
    subst hn hx
    exact ⟨h1, h2, by omega⟩
  · rw [if_neg q] at hn hx ⊢
    subst hn hx h1
    rw [own_nat (by omega)]
    refine ⟨?_, (own_take_set h2 (by omega)).2, by simp; omega⟩
    rw [own_succ, List.length_append]; rfl
theorem own_getD {A F : List Int32} {j : Nat} (h : A.take F.length = F) (hj : j < F.length) : A.getD j 0 = F.getD j 0 := by
  rw [List.getD_eq_getElem?_getD, List.getD_eq_getElem?_getD]
  have q : F[j]? = (A.take F.length)[j]? := by rw [h]
  rw [q, List.getElem?_take_of_lt hj]
theorem own_same {n : Int32} {A xs F : List Int32} {b j : Nat} (h : own_est n xs F b) (hb : b < 1000) (hA : A.take F.length = F) (hn : ¬ (n < Int32.ofNat (j + 1))) (hj : j < 900) : A.getD j 0 = xs.getD j 0 := by
  obtain ⟨h1, h2, h3⟩ := h
  have hl : j < F.length := by
    subst h1
    rw [own_ltn (by omega) (by omega)] at hn
    omega
  rw [own_getD hA hl, own_getD h2 hl]
theorem own_filt {s0 s1 s2 s3 m0 m1 m2 m3 : Int32} {P : Int32 → Bool} {ct : Nat} (hc : ct ≤ 4) (h0 : m0 = 0 ↔ ¬ (0 < ct ∧ P s0 = true)) (h1 : m1 = 0 ↔ ¬ (1 < ct ∧ P s1 = true)) (h2 : m2 = 0 ↔ ¬ (2 < ct ∧ P s2 = true)) (h3 : m3 = 0 ↔ ¬ (3 < ct ∧ P s3 = true)) :
    (if m3 = (0 : Int32) then (if m2 = (0 : Int32) then (if m1 = (0 : Int32) then (if m0 = (0 : Int32) then ([] : List Int32) else [] ++ [s0]) else (if m0 = (0 : Int32) then ([] : List Int32) else [] ++ [s0]) ++ [s1]) else (if m1 = (0 : Int32) then (if m0 = (0 : Int32) then ([] : List Int32) else [] ++ [s0]) else (if m0 = (0 : Int32) then ([] : List Int32) else [] ++ [s0]) ++ [s1]) ++ [s2])
      else (if m2 = (0 : Int32) then (if m1 = (0 : Int32) then (if m0 = (0 : Int32) then ([] : List Int32) else [] ++ [s0]) else (if m0 = (0 : Int32) then ([] : List Int32) else [] ++ [s0]) ++ [s1]) else (if m1 = (0 : Int32) then (if m0 = (0 : Int32) then ([] : List Int32) else [] ++ [s0]) else (if m0 = (0 : Int32) then ([] : List Int32) else [] ++ [s0]) ++ [s1]) ++ [s2]) ++ [s3]) = ([s0, s1, s2, s3].take ct).filter P := by
  simp only [h0, h1, h2, h3]
  clear h0 h1 h2 h3
  match ct, hc with
  | 0, _ => simp
  | 1, _ => cases e0 : P s0 <;> simp [e0]
  | 2, _ => cases e0 : P s0 <;> cases e1 : P s1 <;> simp [e0, e1]
  | 3, _ => cases e0 : P s0 <;> cases e1 : P s1 <;> cases e2 : P s2 <;> simp [e0, e1, e2]
  | 4, _ => cases e0 : P s0 <;> cases e1 : P s1 <;> cases e2 : P s2 <;> cases e3 : P s3 <;> simp [e0, e1, e2, e3]

theorem own_01 {x v : Int32} (h : (x &&& (1 : Int32)) = v) : v = 0 ∨ v = 1 := by
  have a := c_and x 1 (by decide)
  rw [h] at a
  have e0 : (0 : Int32).toInt = 0 := rfl
  have e1 : (1 : Int32).toInt = 1 := rfl
  simp only [← Int32.toInt_inj]
  omega
theorem own_ix0 {v : Int32} (h : v = 0 ∨ v = 1) : ¬ v < 0 ∧ v.toNatClampNeg < 6 := by rcases h with rfl | rfl <;> decide
theorem own_ix1 {v : Int32} (h : v = 0 ∨ v = 1) : ¬ (v + (1 : Int32)) < 0 ∧ (v + (1 : Int32)).toNatClampNeg < 6 := by rcases h with rfl | rfl <;> decide
theorem own_ix2 {v : Int32} (h : v = 0 ∨ v = 1) : ¬ (v + (2 : Int32)) < 0 ∧ (v + (2 : Int32)).toNatClampNeg < 6 := by rcases h with rfl | rfl <;> decide
theorem own_ix3 {v : Int32} (h : v = 0 ∨ v = 1) : ¬ (v + (3 : Int32)) < 0 ∧ (v + (3 : Int32)).toNatClampNeg < 6 := by rcases h with rfl | rfl <;> decide
theorem own_frn {v : Int32} (h : v = 0 ∨ v = 1) : ∃ fr : Nat, fr ≤ 1 ∧ v = Int32.ofNat fr := by
  rcases h with rfl | rfl
  · exact ⟨0, by decide, rfl⟩
  · exact ⟨1, by decide, rfl⟩
theorem own_ofint {v : Int32} {n : Nat} (h : v.toInt = n) (hn : n < 1000) : v = Int32.ofNat n := Int32.toInt_inj.mp (by rw [h, own_toInt hn])
theorem own_fn {x v : Int32} (h : ((1 : Int32) + (x &&& (3 : Int32))) = v) : ∃ f : Nat, f ≤ 3 ∧ v = Int32.ofNat (f + 1) := by
  have a := c_and x 3 (by decide)
  have a2 := c_iadd 1 (x &&& 3)
  rw [h] at a2
  have e3 : (3 : Int32).toInt = 3 := rfl
  have e1 : (1 : Int32).toInt = 1 := rfl
  have b1 := Int32.le_toInt v
  have b2 := Int32.toInt_lt v
  exact ⟨(x &&& 3).toInt.toNat, by omega, own_ofint (by omega) (by omega)⟩
theorem own_cn {x v : Int32} (h : ((x &&& (7 : Int32)) % (5 : Int32)) = v) : ∃ ct : Nat, ct ≤ 4 ∧ v = Int32.ofNat ct := by
  have a := c_and x 7 (by decide)
  have a2 := (c_irem (x &&& (7 : Int32)) 5 5 rfl).1 (by omega)
  rw [h] at a2
  exact ⟨v.toInt.toNat, by omega, own_ofint (by omega) (by omega)⟩
theorem own_gl {a b c : Int32} {f : Nat} (h : f ≤ 3) : (([a, b, c] : List Int32).take f).length = f := by
  rw [List.length_take]; simp; omega
theorem own_sl {a b c d : Int32} {f : Nat} (h : f ≤ 4) : (([a, b, c, d] : List Int32).take f).length = f := by
  rw [List.length_take]; simp; omega
theorem own_td (a b c d : Int32) (n : Nat) : ([a, b, c, d] : List Int32).drop 0 = ([a, b, c, d] : List Int32).take n ++ ([a, b, c, d] : List Int32).drop n := (List.take_append_drop n _).symm
theorem own_gaps {v w g0 g1 g2 g3 j : Int32} {fr f : Nat} {x1 x2 x3 : List Int32} (hf : fr ≤ 1) (hv : v = Int32.ofNat fr) (h3 : f ≤ 3) (hw : w = Int32.ofNat (f + 1))
    (q1 : x1 = (if (1 : Int32) < w then ((([j, j, j, j, j, j] : List Int32).set (v).toNatClampNeg g0).set (v + (1 : Int32)).toNatClampNeg g1) else (([j, j, j, j, j, j] : List Int32).set (v).toNatClampNeg g0)))
    (q2 : x2 = (if (2 : Int32) < w then (x1.set (v + (2 : Int32)).toNatClampNeg g2) else x1)) (q3 : x3 = (if (3 : Int32) < w then (x2.set (v + (3 : Int32)).toNatClampNeg g3) else x2)) :
    ∃ tl, x3.drop fr = (g0 :: ([g1, g2, g3] : List Int32).take f) ++ tl := by
  subst hv hw
  match fr, hf, f, h3 with
  | 0, _, 0, _ => subst q3 q2 q1; exact ⟨_, rfl⟩
  | 0, _, 1, _ => subst q3 q2 q1; exact ⟨_, rfl⟩
  | 0, _, 2, _ => subst q3 q2 q1; exact ⟨_, rfl⟩
  | 0, _, 3, _ => subst q3 q2 q1; exact ⟨_, rfl⟩
  | 1, _, 0, _ => subst q3 q2 q1; exact ⟨_, rfl⟩
  | 1, _, 1, _ => subst q3 q2 q1; exact ⟨_, rfl⟩
  | 1, _, 2, _ => subst q3 q2 q1; exact ⟨_, rfl⟩
  | 1, _, 3, _ => subst q3 q2 q1; exact ⟨_, rfl⟩
theorem own_15 {x v : Int32} (h : (x &&& (15 : Int32)) = v) : 0 ≤ v.toInt ∧ v.toInt ≤ 15 := by
  have a := c_and x 15 (by decide)
  rw [h] at a
  exact a
theorem own_q0 {x y a b q : Int32} (ha : (x &&& (1073741823 : Int32)) = a) (hb : (y &&& (1073741823 : Int32)) = b) (hq : (a - b) = q) : -1073741823 ≤ q.toInt ∧ q.toInt ≤ 1073741823 := by
  have a1 := c_and x 1073741823 (by decide)
  have a2 := c_and y 1073741823 (by decide)
  rw [ha] at a1
  rw [hb] at a2
  have e : (1073741823 : Int32).toInt = 1073741823 := rfl
  have a3 := c_isub a b
  rw [hq] at a3
  have b1 := Int32.le_toInt q
  have b2 := Int32.toInt_lt q
  omega
theorem own_qs {q g r : Int32} {B : Int} (hq : -1073741900 ≤ q.toInt ∧ q.toInt ≤ B) (hB : B ≤ 1073742000) (hg : 0 ≤ g.toInt ∧ g.toInt ≤ 15) (hr : ((q + g) + (1 : Int32)) = r) : r.toInt = q.toInt + g.toInt + 1 := by
  have a1 := c_iadd q g
  have a2 := c_iadd (q + g) 1
  rw [hr] at a2
  have b1 := Int32.le_toInt (q + g)
  have b2 := Int32.toInt_lt (q + g)
  have b3 := Int32.le_toInt r
  have b4 := Int32.toInt_lt r
  have e1 : (1 : Int32).toInt = 1 := rfl
  omega
theorem own_ss {q x r : Int32} {B : Int} (hq : -1073741900 ≤ q.toInt ∧ q.toInt ≤ B) (hB : B ≤ 1073742000) (hr : ((q + (1 : Int32)) + (x &&& (15 : Int32))) = r) : q.toInt + 1 ≤ r.toInt ∧ r.toInt ≤ q.toInt + 16 := by
  have hg := own_15 (x := x) rfl
  have a1 := c_iadd q 1
  have a2 := c_iadd (q + 1) (x &&& 15)
  rw [hr] at a2
  have b1 := Int32.le_toInt (q + 1)
  have b2 := Int32.toInt_lt (q + 1)
  have b3 := Int32.le_toInt r
  have b4 := Int32.toInt_lt r
  have e1 : (1 : Int32).toInt = 1 := rfl
  omega
theorem own_s0 {q x r : Int32} (hq : -1073741823 ≤ q.toInt ∧ q.toInt ≤ 1073741823) (hr : ((q - (4 : Int32)) + (x &&& (15 : Int32))) = r) : -1073741900 ≤ r.toInt ∧ r.toInt ≤ 1073741900 := by
  have hg := own_15 (x := x) rfl
  have a1 := c_isub q 4
  have a2 := c_iadd (q - 4) (x &&& 15)
  rw [hr] at a2
  have b1 := Int32.le_toInt (q - 4)
  have b2 := Int32.toInt_lt (q - 4)
  have b3 := Int32.le_toInt r
  have b4 := Int32.toInt_lt r
  have e1 : (4 : Int32).toInt = 4 := rfl
  omega
theorem own_pw4 {a b c d : Int32} (h1 : a.toInt < b.toInt) (h2 : b.toInt < c.toInt) (h3 : c.toInt < d.toInt) (n : Nat) : (([a, b, c, d] : List Int32).take n).Pairwise (· < ·) := by
  refine List.Pairwise.sublist (List.take_sublist n _) ?_
  simp only [List.pairwise_cons, List.mem_cons, List.not_mem_nil, or_false, List.Pairwise.nil, and_true, forall_eq_or_imp, forall_eq, Int32.lt_iff_toInt_lt, false_implies, implies_true]
  omega
theorem own_posq {q0 q1 q2 q3 g1 g2 g3 : Int32} {f : Nat} (h3 : f ≤ 3) (h1 : ((q0 + g1) + (1 : Int32)) = q1) (h2 : ((q1 + g2) + (1 : Int32)) = q2) (h4 : ((q2 + g3) + (1 : Int32)) = q3) : own_pos q0 (([g1, g2, g3] : List Int32).take f) = ([q0, q1, q2, q3] : List Int32).take (f + 1) := by
  subst h4 h2 h1
  match f, h3 with
  | 0, _ => rfl
  | 1, _ => simp [own_pos, Int32.add_assoc]
  | 2, _ => simp [own_pos, Int32.add_assoc]
  | 3, _ => simp [own_pos, Int32.add_assoc]
theorem own_memf {y w q0 q1 q2 q3 : Int32} {f : Nat} (h3 : f ≤ 3) (hw : w = Int32.ofNat (f + 1)) : (f2 y w q0 q1 q2 q3) = (0 : Int32) ↔ ¬ y ∈ ([q0, q1, q2, q3] : List Int32).take (f + 1) := by
  have k11 : ¬ ((1 : Int32) < 1) := by decide
  have k12 : ((1 : Int32) < 2) := by decide
  have k13 : ((1 : Int32) < 3) := by decide
  have k14 : ((1 : Int32) < 4) := by decide
  have k21 : ¬ ((2 : Int32) < 1) := by decide
  have k22 : ¬ ((2 : Int32) < 2) := by decide
  have k23 : ((2 : Int32) < 3) := by decide
  have k24 : ((2 : Int32) < 4) := by decide
  have k31 : ¬ ((3 : Int32) < 1) := by decide
  have k32 : ¬ ((3 : Int32) < 2) := by decide
  have k33 : ¬ ((3 : Int32) < 3) := by decide
  have k34 : ((3 : Int32) < 4) := by decide
  unfold f2
  match f, h3 with
  | 0, _ => rw [show w = (1 : Int32) from hw]; simp only [k11, k21, k31, if_false]; by_cases e0 : y = q0 <;> simp [e0]
  | 1, _ => rw [show w = (2 : Int32) from hw]; simp only [k12, k22, k32, if_false, if_true]; by_cases e0 : y = q0 <;> by_cases e1 : y = q1 <;> simp [e0, e1]
  | 2, _ => rw [show w = (3 : Int32) from hw]; simp only [k13, k23, k33, if_false, if_true]; by_cases e0 : y = q0 <;> by_cases e1 : y = q1 <;> by_cases e2 : y = q2 <;> simp [e0, e1, e2]
  | 3, _ => rw [show w = (4 : Int32) from hw]; simp only [k14, k24, k34, if_true]; by_cases e0 : y = q0 <;> by_cases e1 : y = q1 <;> by_cases e2 : y = q2 <;> by_cases e3 : y = q3 <;> simp [e0, e1, e2, e3]
theorem own_mi {y w q0 q1 q2 q3 z v : Int32} {i ct f : Nat} {L : List Int32} (h3 : f ≤ 3) (hw : w = Int32.ofNat (f + 1)) (hc : ct ≤ 4) (hv : v = Int32.ofNat ct) (hi : i < 900) (hL : L = ([q0, q1, q2, q3] : List Int32).take (f + 1))
    (hz : z = (if Int32.ofNat i < v then (if (f2 y w q0 q1 q2 q3) = (0 : Int32) then (0 : Int32) else (1 : Int32)) else (0 : Int32))) : z = 0 ↔ ¬ (i < ct ∧ decide (y ∈ L) = true) := by
  have m := own_memf (y := y) (q0 := q0) (q1 := q1) (q2 := q2) (q3 := q3) h3 hw
  subst hv hL
  simp only [own_ltn (show i < 1000 by omega) (show ct < 1000 by omega)] at hz
  subst hz
  rw [decide_eq_true_eq]
  by_cases c1 : i < ct
  · rw [if_pos c1]
    by_cases c2 : (f2 y w q0 q1 q2 q3) = (0 : Int32)
    · rw [if_pos c2]; exact ⟨fun _ k => m.mp c2 k.2, fun _ => rfl⟩
    · rw [if_neg c2]
      have : y ∈ ([q0, q1, q2, q3] : List Int32).take (f + 1) := by
        apply Classical.byContradiction
        exact fun k => c2 (m.mpr k)
      constructor
      · intro k; exact absurd k (by decide)
      · intro k; exact absurd ⟨c1, this⟩ k
  · rw [if_neg c1]; simp [c1]
theorem own_e0 {n m s : Int32} {xs : List Int32} (hn : n = (if m = (0 : Int32) then (0 : Int32) else (1 : Int32))) (hx : xs = (if m = (0 : Int32) then ([(0 : Int32), (0 : Int32), (0 : Int32), (0 : Int32)] : List Int32) else ([s, (0 : Int32), (0 : Int32), (0 : Int32)] : List Int32))) : own_est n xs (if m = (0 : Int32) then ([] : List Int32) else [] ++ [s]) 1 := by
  by_cases q : m = 0
  · rw [if_pos q] at hn hx ⊢
    subst hn hx
    exact ⟨rfl, rfl, by decide⟩
  · rw [if_neg q] at hn hx ⊢
    subst hn hx
    exact ⟨rfl, rfl, Nat.le_refl _⟩
theorem own_ixe {n : Int32} {xs F : List Int32} {b : Nat} (h : own_est n xs F b) (hb : b < 1000) : ¬ n < 0 ∧ n.toNatClampNeg ≤ b := by
  obtain ⟨h1, h2, h3⟩ := h
  subst h1
  exact ⟨own_nneg (by omega), by rw [own_nat (by omega)]; exact h3⟩

def Q0 (n0 : Nat) (v : Option Value) (h : Heap) (L : List Loc) : Prop := v = some (.int (1 : Int32)) ∧ Fr n0 L
theorem pd_0_0 : parseMethodDescriptor "([III[III)I" = some ⟨[(.array .int), .int, .int, (.array .int), .int, .int], some .int⟩ := by decide +kernel
theorem pd_0_1 : parseMethodDescriptor "(IIIIII)Z" = some ⟨[.int, .int, .int, .int, .int, .int], some .boolean⟩ := by decide +kernel
theorem pn_0 : plainName "com/example/skipstone/skipstone/PostingsCursorKeepStartsPinLaw" = true := by first | (simp [plainName, overriddenIn]; done) | decide +kernel
theorem ef_0 (m : MethodId) (x0 : Int32) (x1 : Int32) (x2 : Int32) (x3 : Int32) (x4 : Int32) : entryFrame m #[(.int x0), (.int x1), (.int x2), (.int x3), (.int x4)] maxLocals = mkF m 0 #[.val (.int x0), .val (.int x1), .val (.int x2), .val (.int x3), .val (.int x4), .unset, .unset, .unset, .unset, .unset, .unset, .unset, .unset, .unset, .unset, .unset, .unset, .unset, .unset, .unset, .unset, .unset, .unset, .unset, .unset, .unset, .unset, .unset, .unset, .unset, .unset] [] := by first | (simp [entryFrame, mkF, argsToLocals, Value.category, maxLocals]; done) | rfl
set_option maxRecDepth 65536 in
set_option maxHeartbeats 40000000 in
theorem rm0 (l : Launch) (Z : State) (a0 : Array Value) (hw : ∀ d ∈ tables_1, d.before a0 Z = true) (ws : List Jvm.Cond) (p1 : Int32) (p2 : Int32) (p3 : Int32) (p4 : Int32) (p5 : Int32) (h0 : Heap) (n0 : Nat) (Z0 : n0 ≤ h0.size) :
    MetFree l x (head1 (Jvm.Cond.code x code maxLocals ret :: ws) room_1) (fun a U => a = #[(.int p1), (.int p2), (.int p3), (.int p4), (.int p5)] ∧ Z.Warmed39 U.vm ∧ U.heap = h0) (fun _ _ _ _ _ => True) (fun _ U o U' => ∃ v L, o = .returned v ∧ (Q0 n0) v U'.heap L ∧ FrameEnd U o U' L room_1.cells room_1.slots) := by
  refine own_met (plainFor_of_name pn_0) (fun m => ef_0 m p1 p2 p3 p4 p5) ?_
  intro p e s m below meth c T0 hx hby hml hown hnm hret hlk hZ X0 e0
  have hown : s.vm.findClass "com/example/skipstone/skipstone/PostingsCursorKeepStartsPinLaw" = some m.cls := hown
  have hnm : meth.name = "law" := hnm
  have hret : meth.sig.returnType = some .boolean := hret
  have N0 := Fr.nil n0
  show Go p e below _ (T0.setTop (mkF m 0 #[.val (.int p1), .val (.int p2), .val (.int p3), .val (.int p4), .val (.int p5), .unset, .unset, .unset, .unset, .unset, .unset, .unset, .unset, .unset, .unset, .unset, .unset, .unset, .unset, .unset, .unset, .unset, .unset, .unset, .unset, .unset, .unset, .unset, .unset, .unset, .unset] []))
  refine go (fun _ q => XS.iconst X0.here hx rfl (hb hby at_0) q) ?_
  show Go p e below _ (T0.setTop (mkF m 1 #[.val (.int p1), .val (.int p2), .val (.int p3), .val (.int p4), .val (.int p5), .unset, .unset, .unset, .unset, .unset, .unset, .unset, .unset, .unset, .unset, .unset, .unset, .unset, .unset, .unset, .unset, .unset, .unset, .unset, .unset, .unset, .unset, .unset, .unset, .unset, .unset] [(.int (1 : Int32))]))
  refine go (fun _ q => XS.iload X0.here hx rfl (hb hby at_1) rfl q) ?_
  show Go p e below _ (T0.setTop (mkF m 3 #[.val (.int p1), .val (.int p2), .val (.int p3), .val (.int p4), .val (.int p5), .unset, .unset, .unset, .unset, .unset, .unset, .unset, .unset, .unset, .unset, .unset, .unset, .unset, .unset, .unset, .unset, .unset, .unset, .unset, .unset, .unset, .unset, .unset, .unset, .unset, .unset] [(.int p5), (.int (1 : Int32))]))
  refine go (fun _ q => XS.iconst X0.here hx rfl (hb hby at_3) q) ?_
  show Go p e below _ (T0.setTop (mkF m 4 #[.val (.int p1), .val (.int p2), .val (.int p3), .val (.int p4), .val (.int p5), .unset, .unset, .unset, .unset, .unset, .unset, .unset, .unset, .unset, .unset, .unset, .unset, .unset, .unset, .unset, .unset, .unset, .unset, .unset, .unset, .unset, .unset, .unset, .unset, .unset, .unset] [(.int (3 : Int32)), (.int p5), (.int (1 : Int32))]))
  refine go (fun _ q => XS.iand X0.here hx rfl (hb hby at_4) rfl q) ?_
  show Go p e below _ (T0.setTop (mkF m 5 #[.val (.int p1), .val (.int p2), .val (.int p3), .val (.int p4), .val (.int p5), .unset, .unset, .unset, .unset, .unset, .unset, .unset, .unset, .unset, .unset, .unset, .unset, .unset, .unset, .unset, .unset, .unset, .unset, .unset, .unset, .unset, .unset, .unset, .unset, .unset, .unset] [(.int (p5 &&& (3 : Int32))), (.int (1 : Int32))]))
  refine go (fun _ q => XS.iadd X0.here hx rfl (hb hby at_5) rfl q) ?_
  show Go p e below _ (T0.setTop (mkF m 6 #[.val (.int p1), .val (.int p2), .val (.int p3), .val (.int p4), .val (.int p5), .unset, .unset, .unset, .unset, .unset, .unset, .unset, .unset, .unset, .unset, .unset, .unset, .unset, .unset, .unset, .unset, .unset, .unset, .unset, .unset, .unset, .unset, .unset, .unset, .unset, .unset] [(.int ((1 : Int32) + (p5 &&& (3 : Int32))))]))
  generalize hv1 : ((1 : Int32) + (p5 &&& (3 : Int32))) = v1
  show Go p e below _ (T0.setTop (mkF m 6 #[.val (.int p1), .val (.int p2), .val (.int p3), .val (.int p4), .val (.int p5), .unset, .unset, .unset, .unset, .unset, .unset, .unset, .unset, .unset, .unset, .unset, .unset, .unset, .unset, .unset, .unset, .unset, .unset, .unset, .unset, .unset, .unset, .unset, .unset, .unset, .unset] [(.int v1)]))
  refine go (fun _ q => XS.istore X0.here hx rfl (hb hby at_6) rfl (l' := #[.val (.int p1), .val (.int p2), .val (.int p3), .val (.int p4), .val (.int p5), .val (.int v1), .unset, .unset, .unset, .unset, .unset, .unset, .unset, .unset, .unset, .unset, .unset, .unset, .unset, .unset, .unset, .unset, .unset, .unset, .unset, .unset, .unset, .unset, .unset, .unset, .unset]) rfl q) ?_
  show Go p e below _ (T0.setTop (mkF m 8 #[.val (.int p1), .val (.int p2), .val (.int p3), .val (.int p4), .val (.int p5), .val (.int v1), .unset, .unset, .unset, .unset, .unset, .unset, .unset, .unset, .unset, .unset, .unset, .unset, .unset, .unset, .unset, .unset, .unset, .unset, .unset, .unset, .unset, .unset, .unset, .unset, .unset] []))
  refine go (fun _ q => XS.iload X0.here hx rfl (hb hby at_8) rfl q) ?_
  show Go p e below _ (T0.setTop (mkF m 10 #[.val (.int p1), .val (.int p2), .val (.int p3), .val (.int p4), .val (.int p5), .val (.int v1), .unset, .unset, .unset, .unset, .unset, .unset, .unset, .unset, .unset, .unset, .unset, .unset, .unset, .unset, .unset, .unset, .unset, .unset, .unset, .unset, .unset, .unset, .unset, .unset, .unset] [(.int p5)]))
  refine go (fun _ q => XS.iconst X0.here hx rfl (hb hby at_10) q) ?_
  show Go p e below _ (T0.setTop (mkF m 11 #[.val (.int p1), .val (.int p2), .val (.int p3), .val (.int p4), .val (.int p5), .val (.int v1), .unset, .unset, .unset, .unset, .unset, .unset, .unset, .unset, .unset, .unset, .unset, .unset, .unset, .unset, .unset, .unset, .unset, .unset, .unset, .unset, .unset, .unset, .unset, .unset, .unset] [(.int (2 : Int32)), (.int p5)]))
  refine go (fun _ q => XS.iushr X0.here hx rfl (hb hby at_11) rfl q) ?_
  show Go p e below _ (T0.setTop (mkF m 12 #[.val (.int p1), .val (.int p2), .val (.int p3), .val (.int p4), .val (.int p5), .val (.int v1), .unset, .unset, .unset, .unset, .unset, .unset, .unset, .unset, .unset, .unset, .unset, .unset, .unset, .unset, .unset, .unset, .unset, .unset, .unset, .unset, .unset, .unset, .unset, .unset, .unset] [(.int (((p5).toUInt32 >>> ((2 : Int32) &&& 31).toUInt32).toInt32))]))
  refine go (fun _ q => XS.bipush X0.here hx rfl (hb hby at_12) q) ?_
  show Go p e below _ (T0.setTop (mkF m 14 #[.val (.int p1), .val (.int p2), .val (.int p3), .val (.int p4), .val (.int p5), .val (.int v1), .unset, .unset, .unset, .unset, .unset, .unset, .unset, .unset, .unset, .unset, .unset, .unset, .unset, .unset, .unset, .unset, .unset, .unset, .unset, .unset, .unset, .unset, .unset, .unset, .unset] [(.int (7 : Int32)), (.int (((p5).toUInt32 >>> ((2 : Int32) &&& 31).toUInt32).toInt32))]))
  refine go (fun _ q => XS.iand X0.here hx rfl (hb hby at_14) rfl q) ?_
  show Go p e below _ (T0.setTop (mkF m 15 #[.val (.int p1), .val (.int p2), .val (.int p3), .val (.int p4), .val (.int p5), .val (.int v1), .unset, .unset, .unset, .unset, .unset, .unset, .unset, .unset, .unset, .unset, .unset, .unset, .unset, .unset, .unset, .unset, .unset, .unset, .unset, .unset, .unset, .unset, .unset, .unset, .unset] [(.int ((((p5).toUInt32 >>> ((2 : Int32) &&& 31).toUInt32).toInt32) &&& (7 : Int32)))]))
  refine go (fun _ q => XS.iconst X0.here hx rfl (hb hby at_15) q) ?_
  show Go p e below _ (T0.setTop (mkF m 16 #[.val (.int p1), .val (.int p2), .val (.int p3), .val (.int p4), .val (.int p5), .val (.int v1), .unset, .unset, .unset, .unset, .unset, .unset, .unset, .unset, .unset, .unset, .unset, .unset, .unset, .unset, .unset, .unset, .unset, .unset, .unset, .unset, .unset, .unset, .unset, .unset, .unset] [(.int (5 : Int32)), (.int ((((p5).toUInt32 >>> ((2 : Int32) &&& 31).toUInt32).toInt32) &&& (7 : Int32)))]))
  refine go (fun _ q => iremM X0 hx rfl (hb hby at_16) rfl (by decide) q) ?_
  show Go p e below _ (T0.setTop (mkF m 17 #[.val (.int p1), .val (.int p2), .val (.int p3), .val (.int p4), .val (.int p5), .val (.int v1), .unset, .unset, .unset, .unset, .unset, .unset, .unset, .unset, .unset, .unset, .unset, .unset, .unset, .unset, .unset, .unset, .unset, .unset, .unset, .unset, .unset, .unset, .unset, .unset, .unset] [(.int (((((p5).toUInt32 >>> ((2 : Int32) &&& 31).toUInt32).toInt32) &&& (7 : Int32)) % (5 : Int32)))]))
  generalize hv2 : (((((p5).toUInt32 >>> ((2 : Int32) &&& 31).toUInt32).toInt32) &&& (7 : Int32)) % (5 : Int32)) = v2
  show Go p e below _ (T0.setTop (mkF m 17 #[.val (.int p1), .val (.int p2), .val (.int p3), .val (.int p4), .val (.int p5), .val (.int v1), .unset, .unset, .unset, .unset, .unset, .unset, .unset, .unset, .unset, .unset, .unset, .unset, .unset, .unset, .unset, .unset, .unset, .unset, .unset, .unset, .unset, .unset, .unset, .unset, .unset] [(.int v2)]))
  refine go (fun _ q => XS.istore X0.here hx rfl (hb hby at_17) rfl (l' := #[.val (.int p1), .val (.int p2), .val (.int p3), .val (.int p4), .val (.int p5), .val (.int v1), .val (.int v2), .unset, .unset, .unset, .unset, .unset, .unset, .unset, .unset, .unset, .unset, .unset, .unset, .unset, .unset, .unset, .unset, .unset, .unset, .unset, .unset, .unset, .unset, .unset, .unset]) rfl q) ?_
  show Go p e below _ (T0.setTop (mkF m 19 #[.val (.int p1), .val (.int p2), .val (.int p3), .val (.int p4), .val (.int p5), .val (.int v1), .val (.int v2), .unset, .unset, .unset, .unset, .unset, .unset, .unset, .unset, .unset, .unset, .unset, .unset, .unset, .unset, .unset, .unset, .unset, .unset, .unset, .unset, .unset, .unset, .unset, .unset] []))
  refine go (fun _ q => XS.iload X0.here hx rfl (hb hby at_19) rfl q) ?_
  show Go p e below _ (T0.setTop (mkF m 21 #[.val (.int p1), .val (.int p2), .val (.int p3), .val (.int p4), .val (.int p5), .val (.int v1), .val (.int v2), .unset, .unset, .unset, .unset, .unset, .unset, .unset, .unset, .unset, .unset, .unset, .unset, .unset, .unset, .unset, .unset, .unset, .unset, .unset, .unset, .unset, .unset, .unset, .unset] [(.int p5)]))
  refine go (fun _ q => XS.iconst X0.here hx rfl (hb hby at_21) q) ?_
  show Go p e below _ (T0.setTop (mkF m 22 #[.val (.int p1), .val (.int p2), .val (.int p3), .val (.int p4), .val (.int p5), .val (.int v1), .val (.int v2), .unset, .unset, .unset, .unset, .unset, .unset, .unset, .unset, .unset, .unset, .unset, .unset, .unset, .unset, .unset, .unset, .unset, .unset, .unset, .unset, .unset, .unset, .unset, .unset] [(.int (5 : Int32)), (.int p5)]))
  refine go (fun _ q => XS.iushr X0.here hx rfl (hb hby at_22) rfl q) ?_
  show Go p e below _ (T0.setTop (mkF m 23 #[.val (.int p1), .val (.int p2), .val (.int p3), .val (.int p4), .val (.int p5), .val (.int v1), .val (.int v2), .unset, .unset, .unset, .unset, .unset, .unset, .unset, .unset, .unset, .unset, .unset, .unset, .unset, .unset, .unset, .unset, .unset, .unset, .unset, .unset, .unset, .unset, .unset, .unset] [(.int (((p5).toUInt32 >>> ((5 : Int32) &&& 31).toUInt32).toInt32))]))
  refine go (fun _ q => XS.iconst X0.here hx rfl (hb hby at_23) q) ?_
  show Go p e below _ (T0.setTop (mkF m 24 #[.val (.int p1), .val (.int p2), .val (.int p3), .val (.int p4), .val (.int p5), .val (.int v1), .val (.int v2), .unset, .unset, .unset, .unset, .unset, .unset, .unset, .unset, .unset, .unset, .unset, .unset, .unset, .unset, .unset, .unset, .unset, .unset, .unset, .unset, .unset, .unset, .unset, .unset] [(.int (1 : Int32)), (.int (((p5).toUInt32 >>> ((5 : Int32) &&& 31).toUInt32).toInt32))]))
  refine go (fun _ q => XS.iand X0.here hx rfl (hb hby at_24) rfl q) ?_
  show Go p e below _ (T0.setTop (mkF m 25 #[.val (.int p1), .val (.int p2), .val (.int p3), .val (.int p4), .val (.int p5), .val (.int v1), .val (.int v2), .unset, .unset, .unset, .unset, .unset, .unset, .unset, .unset, .unset, .unset, .unset, .unset, .unset, .unset, .unset, .unset, .unset, .unset, .unset, .unset, .unset, .unset, .unset, .unset] [(.int ((((p5).toUInt32 >>> ((5 : Int32) &&& 31).toUInt32).toInt32) &&& (1 : Int32)))]))
  generalize hv3 : ((((p5).toUInt32 >>> ((5 : Int32) &&& 31).toUInt32).toInt32) &&& (1 : Int32)) = v3
  show Go p e below _ (T0.setTop (mkF m 25 #[.val (.int p1), .val (.int p2), .val (.int p3), .val (.int p4), .val (.int p5), .val (.int v1), .val (.int v2), .unset, .unset, .unset, .unset, .unset, .unset, .unset, .unset, .unset, .unset, .unset, .unset, .unset, .unset, .unset, .unset, .unset, .unset, .unset, .unset, .unset, .unset, .unset, .unset] [(.int v3)]))
  refine go (fun _ q => XS.istore X0.here hx rfl (hb hby at_25) rfl (l' := #[.val (.int p1), .val (.int p2), .val (.int p3), .val (.int p4), .val (.int p5), .val (.int v1), .val (.int v2), .val (.int v3), .unset, .unset, .unset, .unset, .unset, .unset, .unset, .unset, .unset, .unset, .unset, .unset, .unset, .unset, .unset, .unset, .unset, .unset, .unset, .unset, .unset, .unset, .unset]) rfl q) ?_
  show Go p e below _ (T0.setTop (mkF m 27 #[.val (.int p1), .val (.int p2), .val (.int p3), .val (.int p4), .val (.int p5), .val (.int v1), .val (.int v2), .val (.int v3), .unset, .unset, .unset, .unset, .unset, .unset, .unset, .unset, .unset, .unset, .unset, .unset, .unset, .unset, .unset, .unset, .unset, .unset, .unset, .unset, .unset, .unset, .unset] []))
  have own_fr01 := own_01 hv3
  refine go (fun _ q => XS.iloadN X0.here hx rfl (hb hby at_27) rfl q) ?_
  show Go p e below _ (T0.setTop (mkF m 28 #[.val (.int p1), .val (.int p2), .val (.int p3), .val (.int p4), .val (.int p5), .val (.int v1), .val (.int v2), .val (.int v3), .unset, .unset, .unset, .unset, .unset, .unset, .unset, .unset, .unset, .unset, .unset, .unset, .unset, .unset, .unset, .unset, .unset, .unset, .unset, .unset, .unset, .unset, .unset] [(.int p4)]))
  refine go (X0.ldcInt hx hown (mvT hZ (hw _ (List.mem_of_getElem? (i := 0) rfl))) (g := (mkF m 28 #[.val (.int p1), .val (.int p2), .val (.int p3), .val (.int p4), .val (.int p5), .val (.int v1), .val (.int v2), .val (.int v3), .unset, .unset, .unset, .unset, .unset, .unset, .unset, .unset, .unset, .unset, .unset, .unset, .unset, .unset, .unset, .unset, .unset, .unset, .unset, .unset, .unset, .unset, .unset] [(.int p4)])) rfl (hb hby at_28)) ?_
  show Go p e below _ (T0.setTop (mkF m 30 #[.val (.int p1), .val (.int p2), .val (.int p3), .val (.int p4), .val (.int p5), .val (.int v1), .val (.int v2), .val (.int v3), .unset, .unset, .unset, .unset, .unset, .unset, .unset, .unset, .unset, .unset, .unset, .unset, .unset, .unset, .unset, .unset, .unset, .unset, .unset, .unset, .unset, .unset, .unset] [(.int (1073741823 : Int32)), (.int p4)]))
  refine go (fun _ q => XS.iand X0.here hx rfl (hb hby at_30) rfl q) ?_
  show Go p e below _ (T0.setTop (mkF m 31 #[.val (.int p1), .val (.int p2), .val (.int p3), .val (.int p4), .val (.int p5), .val (.int v1), .val (.int v2), .val (.int v3), .unset, .unset, .unset, .unset, .unset, .unset, .unset, .unset, .unset, .unset, .unset, .unset, .unset, .unset, .unset, .unset, .unset, .unset, .unset, .unset, .unset, .unset, .unset] [(.int (p4 &&& (1073741823 : Int32)))]))
  generalize hv4 : (p4 &&& (1073741823 : Int32)) = v4
  show Go p e below _ (T0.setTop (mkF m 31 #[.val (.int p1), .val (.int p2), .val (.int p3), .val (.int p4), .val (.int p5), .val (.int v1), .val (.int v2), .val (.int v3), .unset, .unset, .unset, .unset, .unset, .unset, .unset, .unset, .unset, .unset, .unset, .unset, .unset, .unset, .unset, .unset, .unset, .unset, .unset, .unset, .unset, .unset, .unset] [(.int v4)]))
  refine go (fun _ q => XS.istore X0.here hx rfl (hb hby at_31) rfl (l' := #[.val (.int p1), .val (.int p2), .val (.int p3), .val (.int p4), .val (.int p5), .val (.int v1), .val (.int v2), .val (.int v3), .val (.int v4), .unset, .unset, .unset, .unset, .unset, .unset, .unset, .unset, .unset, .unset, .unset, .unset, .unset, .unset, .unset, .unset, .unset, .unset, .unset, .unset, .unset, .unset]) rfl q) ?_
  show Go p e below _ (T0.setTop (mkF m 33 #[.val (.int p1), .val (.int p2), .val (.int p3), .val (.int p4), .val (.int p5), .val (.int v1), .val (.int v2), .val (.int v3), .val (.int v4), .unset, .unset, .unset, .unset, .unset, .unset, .unset, .unset, .unset, .unset, .unset, .unset, .unset, .unset, .unset, .unset, .unset, .unset, .unset, .unset, .unset, .unset] []))
  refine go (fun _ q => XS.iloadN X0.here hx rfl (hb hby at_33) rfl q) ?_
  show Go p e below _ (T0.setTop (mkF m 34 #[.val (.int p1), .val (.int p2), .val (.int p3), .val (.int p4), .val (.int p5), .val (.int v1), .val (.int v2), .val (.int v3), .val (.int v4), .unset, .unset, .unset, .unset, .unset, .unset, .unset, .unset, .unset, .unset, .unset, .unset, .unset, .unset, .unset, .unset, .unset, .unset, .unset, .unset, .unset, .unset] [(.int p2)]))
  refine go (fun _ q => XS.bipush X0.here hx rfl (hb hby at_34) q) ?_
  show Go p e below _ (T0.setTop (mkF m 36 #[.val (.int p1), .val (.int p2), .val (.int p3), .val (.int p4), .val (.int p5), .val (.int v1), .val (.int v2), .val (.int v3), .val (.int v4), .unset, .unset, .unset, .unset, .unset, .unset, .unset, .unset, .unset, .unset, .unset, .unset, .unset, .unset, .unset, .unset, .unset, .unset, .unset, .unset, .unset, .unset] [(.int (16 : Int32)), (.int p2)]))
  refine go (fun _ q => XS.iushr X0.here hx rfl (hb hby at_36) rfl q) ?_
  show Go p e below _ (T0.setTop (mkF m 37 #[.val (.int p1), .val (.int p2), .val (.int p3), .val (.int p4), .val (.int p5), .val (.int v1), .val (.int v2), .val (.int v3), .val (.int v4), .unset, .unset, .unset, .unset, .unset, .unset, .unset, .unset, .unset, .unset, .unset, .unset, .unset, .unset, .unset, .unset, .unset, .unset, .unset, .unset, .unset, .unset] [(.int (((p2).toUInt32 >>> ((16 : Int32) &&& 31).toUInt32).toInt32))]))
  refine go (fun _ q => XS.bipush X0.here hx rfl (hb hby at_37) q) ?_
  show Go p e below _ (T0.setTop (mkF m 39 #[.val (.int p1), .val (.int p2), .val (.int p3), .val (.int p4), .val (.int p5), .val (.int v1), .val (.int v2), .val (.int v3), .val (.int v4), .unset, .unset, .unset, .unset, .unset, .unset, .unset, .unset, .unset, .unset, .unset, .unset, .unset, .unset, .unset, .unset, .unset, .unset, .unset, .unset, .unset, .unset] [(.int (15 : Int32)), (.int (((p2).toUInt32 >>> ((16 : Int32) &&& 31).toUInt32).toInt32))]))
  refine go (fun _ q => XS.iand X0.here hx rfl (hb hby at_39) rfl q) ?_
  show Go p e below _ (T0.setTop (mkF m 40 #[.val (.int p1), .val (.int p2), .val (.int p3), .val (.int p4), .val (.int p5), .val (.int v1), .val (.int v2), .val (.int v3), .val (.int v4), .unset, .unset, .unset, .unset, .unset, .unset, .unset, .unset, .unset, .unset, .unset, .unset, .unset, .unset, .unset, .unset, .unset, .unset, .unset, .unset, .unset, .unset] [(.int ((((p2).toUInt32 >>> ((16 : Int32) &&& 31).toUInt32).toInt32) &&& (15 : Int32)))]))
  generalize hv5 : ((((p2).toUInt32 >>> ((16 : Int32) &&& 31).toUInt32).toInt32) &&& (15 : Int32)) = v5
  show Go p e below _ (T0.setTop (mkF m 40 #[.val (.int p1), .val (.int p2), .val (.int p3), .val (.int p4), .val (.int p5), .val (.int v1), .val (.int v2), .val (.int v3), .val (.int v4), .unset, .unset, .unset, .unset, .unset, .unset, .unset, .unset, .unset, .unset, .unset, .unset, .unset, .unset, .unset, .unset, .unset, .unset, .unset, .unset, .unset, .unset] [(.int v5)]))
  refine go (fun _ q => XS.istore X0.here hx rfl (hb hby at_40) rfl (l' := #[.val (.int p1), .val (.int p2), .val (.int p3), .val (.int p4), .val (.int p5), .val (.int v1), .val (.int v2), .val (.int v3), .val (.int v4), .val (.int v5), .unset, .unset, .unset, .unset, .unset, .unset, .unset, .unset, .unset, .unset, .unset, .unset, .unset, .unset, .unset, .unset, .unset, .unset, .unset, .unset, .unset]) rfl q) ?_
  show Go p e below _ (T0.setTop (mkF m 42 #[.val (.int p1), .val (.int p2), .val (.int p3), .val (.int p4), .val (.int p5), .val (.int v1), .val (.int v2), .val (.int v3), .val (.int v4), .val (.int v5), .unset, .unset, .unset, .unset, .unset, .unset, .unset, .unset, .unset, .unset, .unset, .unset, .unset, .unset, .unset, .unset, .unset, .unset, .unset, .unset, .unset] []))
  refine go (fun _ q => XS.iloadN X0.here hx rfl (hb hby at_42) rfl q) ?_
  show Go p e below _ (T0.setTop (mkF m 43 #[.val (.int p1), .val (.int p2), .val (.int p3), .val (.int p4), .val (.int p5), .val (.int v1), .val (.int v2), .val (.int v3), .val (.int v4), .val (.int v5), .unset, .unset, .unset, .unset, .unset, .unset, .unset, .unset, .unset, .unset, .unset, .unset, .unset, .unset, .unset, .unset, .unset, .unset, .unset, .unset, .unset] [(.int p1)]))
  refine go (X0.ldcInt hx hown (mvT hZ (hw _ (List.mem_of_getElem? (i := 0) rfl))) (g := (mkF m 43 #[.val (.int p1), .val (.int p2), .val (.int p3), .val (.int p4), .val (.int p5), .val (.int v1), .val (.int v2), .val (.int v3), .val (.int v4), .val (.int v5), .unset, .unset, .unset, .unset, .unset, .unset, .unset, .unset, .unset, .unset, .unset, .unset, .unset, .unset, .unset, .unset, .unset, .unset, .unset, .unset, .unset] [(.int p1)])) rfl (hb hby at_43)) ?_
  show Go p e below _ (T0.setTop (mkF m 45 #[.val (.int p1), .val (.int p2), .val (.int p3), .val (.int p4), .val (.int p5), .val (.int v1), .val (.int v2), .val (.int v3), .val (.int v4), .val (.int v5), .unset, .unset, .unset, .unset, .unset, .unset, .unset, .unset, .unset, .unset, .unset, .unset, .unset, .unset, .unset, .unset, .unset, .unset, .unset, .unset, .unset] [(.int (1073741823 : Int32)), (.int p1)]))
  refine go (fun _ q => XS.iand X0.here hx rfl (hb hby at_45) rfl q) ?_
  show Go p e below _ (T0.setTop (mkF m 46 #[.val (.int p1), .val (.int p2), .val (.int p3), .val (.int p4), .val (.int p5), .val (.int v1), .val (.int v2), .val (.int v3), .val (.int v4), .val (.int v5), .unset, .unset, .unset, .unset, .unset, .unset, .unset, .unset, .unset, .unset, .unset, .unset, .unset, .unset, .unset, .unset, .unset, .unset, .unset, .unset, .unset] [(.int (p1 &&& (1073741823 : Int32)))]))
  generalize hv6 : (p1 &&& (1073741823 : Int32)) = v6
  show Go p e below _ (T0.setTop (mkF m 46 #[.val (.int p1), .val (.int p2), .val (.int p3), .val (.int p4), .val (.int p5), .val (.int v1), .val (.int v2), .val (.int v3), .val (.int v4), .val (.int v5), .unset, .unset, .unset, .unset, .unset, .unset, .unset, .unset, .unset, .unset, .unset, .unset, .unset, .unset, .unset, .unset, .unset, .unset, .unset, .unset, .unset] [(.int v6)]))
  refine go (fun _ q => XS.istore X0.here hx rfl (hb hby at_46) rfl (l' := #[.val (.int p1), .val (.int p2), .val (.int p3), .val (.int p4), .val (.int p5), .val (.int v1), .val (.int v2), .val (.int v3), .val (.int v4), .val (.int v5), .val (.int v6), .unset, .unset, .unset, .unset, .unset, .unset, .unset, .unset, .unset, .unset, .unset, .unset, .unset, .unset, .unset, .unset, .unset, .unset, .unset, .unset]) rfl q) ?_
  show Go p e below _ (T0.setTop (mkF m 48 #[.val (.int p1), .val (.int p2), .val (.int p3), .val (.int p4), .val (.int p5), .val (.int v1), .val (.int v2), .val (.int v3), .val (.int v4), .val (.int v5), .val (.int v6), .unset, .unset, .unset, .unset, .unset, .unset, .unset, .unset, .unset, .unset, .unset, .unset, .unset, .unset, .unset, .unset, .unset, .unset, .unset, .unset] []))
  refine go (fun _ q => XS.iloadN X0.here hx rfl (hb hby at_48) rfl q) ?_
  show Go p e below _ (T0.setTop (mkF m 49 #[.val (.int p1), .val (.int p2), .val (.int p3), .val (.int p4), .val (.int p5), .val (.int v1), .val (.int v2), .val (.int v3), .val (.int v4), .val (.int v5), .val (.int v6), .unset, .unset, .unset, .unset, .unset, .unset, .unset, .unset, .unset, .unset, .unset, .unset, .unset, .unset, .unset, .unset, .unset, .unset, .unset, .unset] [(.int p2)]))
  refine go (fun _ q => XS.bipush X0.here hx rfl (hb hby at_49) q) ?_
  show Go p e below _ (T0.setTop (mkF m 51 #[.val (.int p1), .val (.int p2), .val (.int p3), .val (.int p4), .val (.int p5), .val (.int v1), .val (.int v2), .val (.int v3), .val (.int v4), .val (.int v5), .val (.int v6), .unset, .unset, .unset, .unset, .unset, .unset, .unset, .unset, .unset, .unset, .unset, .unset, .unset, .unset, .unset, .unset, .unset, .unset, .unset, .unset] [(.int (15 : Int32)), (.int p2)]))
  refine go (fun _ q => XS.iand X0.here hx rfl (hb hby at_51) rfl q) ?_
  show Go p e below _ (T0.setTop (mkF m 52 #[.val (.int p1), .val (.int p2), .val (.int p3), .val (.int p4), .val (.int p5), .val (.int v1), .val (.int v2), .val (.int v3), .val (.int v4), .val (.int v5), .val (.int v6), .unset, .unset, .unset, .unset, .unset, .unset, .unset, .unset, .unset, .unset, .unset, .unset, .unset, .unset, .unset, .unset, .unset, .unset, .unset, .unset] [(.int (p2 &&& (15 : Int32)))]))
  generalize hv7 : (p2 &&& (15 : Int32)) = v7
  show Go p e below _ (T0.setTop (mkF m 52 #[.val (.int p1), .val (.int p2), .val (.int p3), .val (.int p4), .val (.int p5), .val (.int v1), .val (.int v2), .val (.int v3), .val (.int v4), .val (.int v5), .val (.int v6), .unset, .unset, .unset, .unset, .unset, .unset, .unset, .unset, .unset, .unset, .unset, .unset, .unset, .unset, .unset, .unset, .unset, .unset, .unset, .unset] [(.int v7)]))
  refine go (fun _ q => XS.istore X0.here hx rfl (hb hby at_52) rfl (l' := #[.val (.int p1), .val (.int p2), .val (.int p3), .val (.int p4), .val (.int p5), .val (.int v1), .val (.int v2), .val (.int v3), .val (.int v4), .val (.int v5), .val (.int v6), .val (.int v7), .unset, .unset, .unset, .unset, .unset, .unset, .unset, .unset, .unset, .unset, .unset, .unset, .unset, .unset, .unset, .unset, .unset, .unset, .unset]) rfl q) ?_
  show Go p e below _ (T0.setTop (mkF m 54 #[.val (.int p1), .val (.int p2), .val (.int p3), .val (.int p4), .val (.int p5), .val (.int v1), .val (.int v2), .val (.int v3), .val (.int v4), .val (.int v5), .val (.int v6), .val (.int v7), .unset, .unset, .unset, .unset, .unset, .unset, .unset, .unset, .unset, .unset, .unset, .unset, .unset, .unset, .unset, .unset, .unset, .unset, .unset] []))
  refine go (fun _ q => XS.iloadN X0.here hx rfl (hb hby at_54) rfl q) ?_
  show Go p e below _ (T0.setTop (mkF m 55 #[.val (.int p1), .val (.int p2), .val (.int p3), .val (.int p4), .val (.int p5), .val (.int v1), .val (.int v2), .val (.int v3), .val (.int v4), .val (.int v5), .val (.int v6), .val (.int v7), .unset, .unset, .unset, .unset, .unset, .unset, .unset, .unset, .unset, .unset, .unset, .unset, .unset, .unset, .unset, .unset, .unset, .unset, .unset] [(.int p2)]))
  refine go (fun _ q => XS.iconst X0.here hx rfl (hb hby at_55) q) ?_
  show Go p e below _ (T0.setTop (mkF m 56 #[.val (.int p1), .val (.int p2), .val (.int p3), .val (.int p4), .val (.int p5), .val (.int v1), .val (.int v2), .val (.int v3), .val (.int v4), .val (.int v5), .val (.int v6), .val (.int v7), .unset, .unset, .unset, .unset, .unset, .unset, .unset, .unset, .unset, .unset, .unset, .unset, .unset, .unset, .unset, .unset, .unset, .unset, .unset] [(.int (4 : Int32)), (.int p2)]))
  refine go (fun _ q => XS.iushr X0.here hx rfl (hb hby at_56) rfl q) ?_
  show Go p e below _ (T0.setTop (mkF m 57 #[.val (.int p1), .val (.int p2), .val (.int p3), .val (.int p4), .val (.int p5), .val (.int v1), .val (.int v2), .val (.int v3), .val (.int v4), .val (.int v5), .val (.int v6), .val (.int v7), .unset, .unset, .unset, .unset, .unset, .unset, .unset, .unset, .unset, .unset, .unset, .unset, .unset, .unset, .unset, .unset, .unset, .unset, .unset] [(.int (((p2).toUInt32 >>> ((4 : Int32) &&& 31).toUInt32).toInt32))]))
  refine go (fun _ q => XS.bipush X0.here hx rfl (hb hby at_57) q) ?_
  show Go p e below _ (T0.setTop (mkF m 59 #[.val (.int p1), .val (.int p2), .val (.int p3), .val (.int p4), .val (.int p5), .val (.int v1), .val (.int v2), .val (.int v3), .val (.int v4), .val (.int v5), .val (.int v6), .val (.int v7), .unset, .unset, .unset, .unset, .unset, .unset, .unset, .unset, .unset, .unset, .unset, .unset, .unset, .unset, .unset, .unset, .unset, .unset, .unset] [(.int (15 : Int32)), (.int (((p2).toUInt32 >>> ((4 : Int32) &&& 31).toUInt32).toInt32))]))
  refine go (fun _ q => XS.iand X0.here hx rfl (hb hby at_59) rfl q) ?_
  show Go p e below _ (T0.setTop (mkF m 60 #[.val (.int p1), .val (.int p2), .val (.int p3), .val (.int p4), .val (.int p5), .val (.int v1), .val (.int v2), .val (.int v3), .val (.int v4), .val (.int v5), .val (.int v6), .val (.int v7), .unset, .unset, .unset, .unset, .unset, .unset, .unset, .unset, .unset, .unset, .unset, .unset, .unset, .unset, .unset, .unset, .unset, .unset, .unset] [(.int ((((p2).toUInt32 >>> ((4 : Int32) &&& 31).toUInt32).toInt32) &&& (15 : Int32)))]))
  generalize hv8 : ((((p2).toUInt32 >>> ((4 : Int32) &&& 31).toUInt32).toInt32) &&& (15 : Int32)) = v8
  show Go p e below _ (T0.setTop (mkF m 60 #[.val (.int p1), .val (.int p2), .val (.int p3), .val (.int p4), .val (.int p5), .val (.int v1), .val (.int v2), .val (.int v3), .val (.int v4), .val (.int v5), .val (.int v6), .val (.int v7), .unset, .unset, .unset, .unset, .unset, .unset, .unset, .unset, .unset, .unset, .unset, .unset, .unset, .unset, .unset, .unset, .unset, .unset, .unset] [(.int v8)]))
  refine go (fun _ q => XS.istore X0.here hx rfl (hb hby at_60) rfl (l' := #[.val (.int p1), .val (.int p2), .val (.int p3), .val (.int p4), .val (.int p5), .val (.int v1), .val (.int v2), .val (.int v3), .val (.int v4), .val (.int v5), .val (.int v6), .val (.int v7), .val (.int v8), .unset, .unset, .unset, .unset, .unset, .unset, .unset, .unset, .unset, .unset, .unset, .unset, .unset, .unset, .unset, .unset, .unset, .unset]) rfl q) ?_
  show Go p e below _ (T0.setTop (mkF m 62 #[.val (.int p1), .val (.int p2), .val (.int p3), .val (.int p4), .val (.int p5), .val (.int v1), .val (.int v2), .val (.int v3), .val (.int v4), .val (.int v5), .val (.int v6), .val (.int v7), .val (.int v8), .unset, .unset, .unset, .unset, .unset, .unset, .unset, .unset, .unset, .unset, .unset, .unset, .unset, .unset, .unset, .unset, .unset, .unset] []))
  refine go (fun _ q => XS.iloadN X0.here hx rfl (hb hby at_62) rfl q) ?_
  show Go p e below _ (T0.setTop (mkF m 63 #[.val (.int p1), .val (.int p2), .val (.int p3), .val (.int p4), .val (.int p5), .val (.int v1), .val (.int v2), .val (.int v3), .val (.int v4), .val (.int v5), .val (.int v6), .val (.int v7), .val (.int v8), .unset, .unset, .unset, .unset, .unset, .unset, .unset, .unset, .unset, .unset, .unset, .unset, .unset, .unset, .unset, .unset, .unset, .unset] [(.int p2)]))
  refine go (fun _ q => XS.bipush X0.here hx rfl (hb hby at_63) q) ?_
  show Go p e below _ (T0.setTop (mkF m 65 #[.val (.int p1), .val (.int p2), .val (.int p3), .val (.int p4), .val (.int p5), .val (.int v1), .val (.int v2), .val (.int v3), .val (.int v4), .val (.int v5), .val (.int v6), .val (.int v7), .val (.int v8), .unset, .unset, .unset, .unset, .unset, .unset, .unset, .unset, .unset, .unset, .unset, .unset, .unset, .unset, .unset, .unset, .unset, .unset] [(.int (8 : Int32)), (.int p2)]))
  refine go (fun _ q => XS.iushr X0.here hx rfl (hb hby at_65) rfl q) ?_
  show Go p e below _ (T0.setTop (mkF m 66 #[.val (.int p1), .val (.int p2), .val (.int p3), .val (.int p4), .val (.int p5), .val (.int v1), .val (.int v2), .val (.int v3), .val (.int v4), .val (.int v5), .val (.int v6), .val (.int v7), .val (.int v8), .unset, .unset, .unset, .unset, .unset, .unset, .unset, .unset, .unset, .unset, .unset, .unset, .unset, .unset, .unset, .unset, .unset, .unset] [(.int (((p2).toUInt32 >>> ((8 : Int32) &&& 31).toUInt32).toInt32))]))
  refine go (fun _ q => XS.bipush X0.here hx rfl (hb hby at_66) q) ?_
  show Go p e below _ (T0.setTop (mkF m 68 #[.val (.int p1), .val (.int p2), .val (.int p3), .val (.int p4), .val (.int p5), .val (.int v1), .val (.int v2), .val (.int v3), .val (.int v4), .val (.int v5), .val (.int v6), .val (.int v7), .val (.int v8), .unset, .unset, .unset, .unset, .unset, .unset, .unset, .unset, .unset, .unset, .unset, .unset, .unset, .unset, .unset, .unset, .unset, .unset] [(.int (15 : Int32)), (.int (((p2).toUInt32 >>> ((8 : Int32) &&& 31).toUInt32).toInt32))]))
  refine go (fun _ q => XS.iand X0.here hx rfl (hb hby at_68) rfl q) ?_
  show Go p e below _ (T0.setTop (mkF m 69 #[.val (.int p1), .val (.int p2), .val (.int p3), .val (.int p4), .val (.int p5), .val (.int v1), .val (.int v2), .val (.int v3), .val (.int v4), .val (.int v5), .val (.int v6), .val (.int v7), .val (.int v8), .unset, .unset, .unset, .unset, .unset, .unset, .unset, .unset, .unset, .unset, .unset, .unset, .unset, .unset, .unset, .unset, .unset, .unset] [(.int ((((p2).toUInt32 >>> ((8 : Int32) &&& 31).toUInt32).toInt32) &&& (15 : Int32)))]))
  generalize hv9 : ((((p2).toUInt32 >>> ((8 : Int32) &&& 31).toUInt32).toInt32) &&& (15 : Int32)) = v9
  show Go p e below _ (T0.setTop (mkF m 69 #[.val (.int p1), .val (.int p2), .val (.int p3), .val (.int p4), .val (.int p5), .val (.int v1), .val (.int v2), .val (.int v3), .val (.int v4), .val (.int v5), .val (.int v6), .val (.int v7), .val (.int v8), .unset, .unset, .unset, .unset, .unset, .unset, .unset, .unset, .unset, .unset, .unset, .unset, .unset, .unset, .unset, .unset, .unset, .unset] [(.int v9)]))
  refine go (fun _ q => XS.istore X0.here hx rfl (hb hby at_69) rfl (l' := #[.val (.int p1), .val (.int p2), .val (.int p3), .val (.int p4), .val (.int p5), .val (.int v1), .val (.int v2), .val (.int v3), .val (.int v4), .val (.int v5), .val (.int v6), .val (.int v7), .val (.int v8), .val (.int v9), .unset, .unset, .unset, .unset, .unset, .unset, .unset, .unset, .unset, .unset, .unset, .unset, .unset, .unset, .unset, .unset, .unset]) rfl q) ?_
  show Go p e below _ (T0.setTop (mkF m 71 #[.val (.int p1), .val (.int p2), .val (.int p3), .val (.int p4), .val (.int p5), .val (.int v1), .val (.int v2), .val (.int v3), .val (.int v4), .val (.int v5), .val (.int v6), .val (.int v7), .val (.int v8), .val (.int v9), .unset, .unset, .unset, .unset, .unset, .unset, .unset, .unset, .unset, .unset, .unset, .unset, .unset, .unset, .unset, .unset, .unset] []))
  refine go (fun _ q => XS.bipush X0.here hx rfl (hb hby at_71) q) ?_
  show Go p e below _ (T0.setTop (mkF m 73 #[.val (.int p1), .val (.int p2), .val (.int p3), .val (.int p4), .val (.int p5), .val (.int v1), .val (.int v2), .val (.int v3), .val (.int v4), .val (.int v5), .val (.int v6), .val (.int v7), .val (.int v8), .val (.int v9), .unset, .unset, .unset, .unset, .unset, .unset, .unset, .unset, .unset, .unset, .unset, .unset, .unset, .unset, .unset, .unset, .unset] [(.int (6 : Int32))]))
  obtain ⟨T10, h10, k10, X10, e10, E10, A10, st10⟩ := newP X0 hx hZ (hw _ (List.mem_of_getElem? (i := 1) rfl)) e0 (g := (mkF m 73 #[.val (.int p1), .val (.int p2), .val (.int p3), .val (.int p4), .val (.int p5), .val (.int v1), .val (.int v2), .val (.int v3), .val (.int v4), .val (.int v5), .val (.int v6), .val (.int v7), .val (.int v8), .val (.int v9), .unset, .unset, .unset, .unset, .unset, .unset, .unset, .unset, .unset, .unset, .unset, .unset, .unset, .unset, .unset, .unset, .unset] [(.int (6 : Int32))])) rfl (hb hby at_73) rfl (by decide) (cap := 6) (by decide) (by decide) (by decide) (by decide)
  obtain ⟨b10, g10⟩ : ∃ z, z = h0.size := ⟨_, rfl⟩
  rw [← g10] at A10 st10
  refine go st10 ?_
  have g_b10 : n0 ≤ b10 := Nat.le_trans Z0 (Nat.le_of_eq g10.symm)
  have Z10 : n0 ≤ h10.size := Nat.le_trans Z0 E10.1
  have P10 : Ari Z h10 b10 ([(0 : Int32), (0 : Int32), (0 : Int32), (0 : Int32), (0 : Int32), (0 : Int32)] : List Int32) := own_fresh A10 (by decide) (m := 6) rfl
  show Go p e below _ (T10.setTop (mkF m 75 #[.val (.int p1), .val (.int p2), .val (.int p3), .val (.int p4), .val (.int p5), .val (.int v1), .val (.int v2), .val (.int v3), .val (.int v4), .val (.int v5), .val (.int v6), .val (.int v7), .val (.int v8), .val (.int v9), .unset, .unset, .unset, .unset, .unset, .unset, .unset, .unset, .unset, .unset, .unset, .unset, .unset, .unset, .unset, .unset, .unset] [(.ref b10)]))
  refine go (fun _ q => XS.astore X10.here hx rfl (hb hby at_75) rfl rfl (l' := #[.val (.int p1), .val (.int p2), .val (.int p3), .val (.int p4), .val (.int p5), .val (.int v1), .val (.int v2), .val (.int v3), .val (.int v4), .val (.int v5), .val (.int v6), .val (.int v7), .val (.int v8), .val (.int v9), .val (.ref b10), .unset, .unset, .unset, .unset, .unset, .unset, .unset, .unset, .unset, .unset, .unset, .unset, .unset, .unset, .unset, .unset]) rfl q) ?_
  show Go p e below _ (T10.setTop (mkF m 77 #[.val (.int p1), .val (.int p2), .val (.int p3), .val (.int p4), .val (.int p5), .val (.int v1), .val (.int v2), .val (.int v3), .val (.int v4), .val (.int v5), .val (.int v6), .val (.int v7), .val (.int v8), .val (.int v9), .val (.ref b10), .unset, .unset, .unset, .unset, .unset, .unset, .unset, .unset, .unset, .unset, .unset, .unset, .unset, .unset, .unset, .unset] []))
  refine go (fun _ q => XS.aload X10.here hx rfl (hb hby at_77) rfl rfl q) ?_
  show Go p e below _ (T10.setTop (mkF m 79 #[.val (.int p1), .val (.int p2), .val (.int p3), .val (.int p4), .val (.int p5), .val (.int v1), .val (.int v2), .val (.int v3), .val (.int v4), .val (.int v5), .val (.int v6), .val (.int v7), .val (.int v8), .val (.int v9), .val (.ref b10), .unset, .unset, .unset, .unset, .unset, .unset, .unset, .unset, .unset, .unset, .unset, .unset, .unset, .unset, .unset, .unset] [(.ref b10)]))
  refine go (fun _ q => XS.iconst X10.here hx rfl (hb hby at_79) q) ?_
  show Go p e below _ (T10.setTop (mkF m 80 #[.val (.int p1), .val (.int p2), .val (.int p3), .val (.int p4), .val (.int p5), .val (.int v1), .val (.int v2), .val (.int v3), .val (.int v4), .val (.int v5), .val (.int v6), .val (.int v7), .val (.int v8), .val (.int v9), .val (.ref b10), .unset, .unset, .unset, .unset, .unset, .unset, .unset, .unset, .unset, .unset, .unset, .unset, .unset, .unset, .unset, .unset] [(.int (0 : Int32)), (.ref b10)]))
  refine go (fun _ q => XS.iload X10.here hx rfl (hb hby at_80) rfl q) ?_
  show Go p e below _ (T10.setTop (mkF m 82 #[.val (.int p1), .val (.int p2), .val (.int p3), .val (.int p4), .val (.int p5), .val (.int v1), .val (.int v2), .val (.int v3), .val (.int v4), .val (.int v5), .val (.int v6), .val (.int v7), .val (.int v8), .val (.int v9), .val (.ref b10), .unset, .unset, .unset, .unset, .unset, .unset, .unset, .unset, .unset, .unset, .unset, .unset, .unset, .unset, .unset, .unset] [(.int v5), (.int (0 : Int32)), (.ref b10)]))
  obtain ⟨T11, h11, X11, e11, W11, V11, st11⟩ := own_iastore X10 hx hZ e10 P10 (j := (0 : Int32)) (x := v5) (by decide) (Nat.le_of_ble_eq_true rfl) (g := (mkF m 82 #[.val (.int p1), .val (.int p2), .val (.int p3), .val (.int p4), .val (.int p5), .val (.int v1), .val (.int v2), .val (.int v3), .val (.int v4), .val (.int v5), .val (.int v6), .val (.int v7), .val (.int v8), .val (.int v9), .val (.ref b10), .unset, .unset, .unset, .unset, .unset, .unset, .unset, .unset, .unset, .unset, .unset, .unset, .unset, .unset, .unset, .unset] [(.int v5), (.int (0 : Int32)), (.ref b10)])) rfl rfl (hb hby at_82)
  refine go st11 ?_
  have P11 : Ari Z h11 b10 ([v5, (0 : Int32), (0 : Int32), (0 : Int32), (0 : Int32), (0 : Int32)] : List Int32) := V11
  have N11 := Fr.snoc X11 N0 g_b10
  have Z11 : n0 ≤ h11.size := Nat.le_trans Z10 (Nat.le_of_eq W11.size.symm)
  show Go p e below _ (T11.setTop (mkF m 83 #[.val (.int p1), .val (.int p2), .val (.int p3), .val (.int p4), .val (.int p5), .val (.int v1), .val (.int v2), .val (.int v3), .val (.int v4), .val (.int v5), .val (.int v6), .val (.int v7), .val (.int v8), .val (.int v9), .val (.ref b10), .unset, .unset, .unset, .unset, .unset, .unset, .unset, .unset, .unset, .unset, .unset, .unset, .unset, .unset, .unset, .unset] []))
  refine go (fun _ q => XS.aload X11.here hx rfl (hb hby at_83) rfl rfl q) ?_
  show Go p e below _ (T11.setTop (mkF m 85 #[.val (.int p1), .val (.int p2), .val (.int p3), .val (.int p4), .val (.int p5), .val (.int v1), .val (.int v2), .val (.int v3), .val (.int v4), .val (.int v5), .val (.int v6), .val (.int v7), .val (.int v8), .val (.int v9), .val (.ref b10), .unset, .unset, .unset, .unset, .unset, .unset, .unset, .unset, .unset, .unset, .unset, .unset, .unset, .unset, .unset, .unset] [(.ref b10)]))
  refine go (fun _ q => XS.iconst X11.here hx rfl (hb hby at_85) q) ?_
  show Go p e below _ (T11.setTop (mkF m 86 #[.val (.int p1), .val (.int p2), .val (.int p3), .val (.int p4), .val (.int p5), .val (.int v1), .val (.int v2), .val (.int v3), .val (.int v4), .val (.int v5), .val (.int v6), .val (.int v7), .val (.int v8), .val (.int v9), .val (.ref b10), .unset, .unset, .unset, .unset, .unset, .unset, .unset, .unset, .unset, .unset, .unset, .unset, .unset, .unset, .unset, .unset] [(.int (1 : Int32)), (.ref b10)]))
  refine go (fun _ q => XS.iload X11.here hx rfl (hb hby at_86) rfl q) ?_
  show Go p e below _ (T11.setTop (mkF m 88 #[.val (.int p1), .val (.int p2), .val (.int p3), .val (.int p4), .val (.int p5), .val (.int v1), .val (.int v2), .val (.int v3), .val (.int v4), .val (.int v5), .val (.int v6), .val (.int v7), .val (.int v8), .val (.int v9), .val (.ref b10), .unset, .unset, .unset, .unset, .unset, .unset, .unset, .unset, .unset, .unset, .unset, .unset, .unset, .unset, .unset, .unset] [(.int v5), (.int (1 : Int32)), (.ref b10)]))
  obtain ⟨T12, h12, X12, e12, W12, V12, st12⟩ := own_iastore X11 hx hZ e11 P11 (j := (1 : Int32)) (x := v5) (by decide) (Nat.le_of_ble_eq_true rfl) (g := (mkF m 88 #[.val (.int p1), .val (.int p2), .val (.int p3), .val (.int p4), .val (.int p5), .val (.int v1), .val (.int v2), .val (.int v3), .val (.int v4), .val (.int v5), .val (.int v6), .val (.int v7), .val (.int v8), .val (.int v9), .val (.ref b10), .unset, .unset, .unset, .unset, .unset, .unset, .unset, .unset, .unset, .unset, .unset, .unset, .unset, .unset, .unset, .unset] [(.int v5), (.int (1 : Int32)), (.ref b10)])) rfl rfl (hb hby at_88)
  refine go st12 ?_
  have P12 : Ari Z h12 b10 ([v5, v5, (0 : Int32), (0 : Int32), (0 : Int32), (0 : Int32)] : List Int32) := V12
  have N12 := Fr.snoc X12 N11 g_b10
  have Z12 : n0 ≤ h12.size := Nat.le_trans Z11 (Nat.le_of_eq W12.size.symm)
  show Go p e below _ (T12.setTop (mkF m 89 #[.val (.int p1), .val (.int p2), .val (.int p3), .val (.int p4), .val (.int p5), .val (.int v1), .val (.int v2), .val (.int v3), .val (.int v4), .val (.int v5), .val (.int v6), .val (.int v7), .val (.int v8), .val (.int v9), .val (.ref b10), .unset, .unset, .unset, .unset, .unset, .unset, .unset, .unset, .unset, .unset, .unset, .unset, .unset, .unset, .unset, .unset] []))
  refine go (fun _ q => XS.aload X12.here hx rfl (hb hby at_89) rfl rfl q) ?_
  show Go p e below _ (T12.setTop (mkF m 91 #[.val (.int p1), .val (.int p2), .val (.int p3), .val (.int p4), .val (.int p5), .val (.int v1), .val (.int v2), .val (.int v3), .val (.int v4), .val (.int v5), .val (.int v6), .val (.int v7), .val (.int v8), .val (.int v9), .val (.ref b10), .unset, .unset, .unset, .unset, .unset, .unset, .unset, .unset, .unset, .unset, .unset, .unset, .unset, .unset, .unset, .unset] [(.ref b10)]))
  refine go (fun _ q => XS.iconst X12.here hx rfl (hb hby at_91) q) ?_
  show Go p e below _ (T12.setTop (mkF m 92 #[.val (.int p1), .val (.int p2), .val (.int p3), .val (.int p4), .val (.int p5), .val (.int v1), .val (.int v2), .val (.int v3), .val (.int v4), .val (.int v5), .val (.int v6), .val (.int v7), .val (.int v8), .val (.int v9), .val (.ref b10), .unset, .unset, .unset, .unset, .unset, .unset, .unset, .unset, .unset, .unset, .unset, .unset, .unset, .unset, .unset, .unset] [(.int (2 : Int32)), (.ref b10)]))
  refine go (fun _ q => XS.iload X12.here hx rfl (hb hby at_92) rfl q) ?_
  show Go p e below _ (T12.setTop (mkF m 94 #[.val (.int p1), .val (.int p2), .val (.int p3), .val (.int p4), .val (.int p5), .val (.int v1), .val (.int v2), .val (.int v3), .val (.int v4), .val (.int v5), .val (.int v6), .val (.int v7), .val (.int v8), .val (.int v9), .val (.ref b10), .unset, .unset, .unset, .unset, .unset, .unset, .unset, .unset, .unset, .unset, .unset, .unset, .unset, .unset, .unset, .unset] [(.int v5), (.int (2 : Int32)), (.ref b10)]))
  obtain ⟨T13, h13, X13, e13, W13, V13, st13⟩ := own_iastore X12 hx hZ e12 P12 (j := (2 : Int32)) (x := v5) (by decide) (Nat.le_of_ble_eq_true rfl) (g := (mkF m 94 #[.val (.int p1), .val (.int p2), .val (.int p3), .val (.int p4), .val (.int p5), .val (.int v1), .val (.int v2), .val (.int v3), .val (.int v4), .val (.int v5), .val (.int v6), .val (.int v7), .val (.int v8), .val (.int v9), .val (.ref b10), .unset, .unset, .unset, .unset, .unset, .unset, .unset, .unset, .unset, .unset, .unset, .unset, .unset, .unset, .unset, .unset] [(.int v5), (.int (2 : Int32)), (.ref b10)])) rfl rfl (hb hby at_94)
  refine go st13 ?_
  have P13 : Ari Z h13 b10 ([v5, v5, v5, (0 : Int32), (0 : Int32), (0 : Int32)] : List Int32) := V13
  have N13 := Fr.snoc X13 N12 g_b10
  have Z13 : n0 ≤ h13.size := Nat.le_trans Z12 (Nat.le_of_eq W13.size.symm)
  show Go p e below _ (T13.setTop (mkF m 95 #[.val (.int p1), .val (.int p2), .val (.int p3), .val (.int p4), .val (.int p5), .val (.int v1), .val (.int v2), .val (.int v3), .val (.int v4), .val (.int v5), .val (.int v6), .val (.int v7), .val (.int v8), .val (.int v9), .val (.ref b10), .unset, .unset, .unset, .unset, .unset, .unset, .unset, .unset, .unset, .unset, .unset, .unset, .unset, .unset, .unset, .unset] []))
  refine go (fun _ q => XS.aload X13.here hx rfl (hb hby at_95) rfl rfl q) ?_
  show Go p e below _ (T13.setTop (mkF m 97 #[.val (.int p1), .val (.int p2), .val (.int p3), .val (.int p4), .val (.int p5), .val (.int v1), .val (.int v2), .val (.int v3), .val (.int v4), .val (.int v5), .val (.int v6), .val (.int v7), .val (.int v8), .val (.int v9), .val (.ref b10), .unset, .unset, .unset, .unset, .unset, .unset, .unset, .unset, .unset, .unset, .unset, .unset, .unset, .unset, .unset, .unset] [(.ref b10)]))
  refine go (fun _ q => XS.iconst X13.here hx rfl (hb hby at_97) q) ?_
  show Go p e below _ (T13.setTop (mkF m 98 #[.val (.int p1), .val (.int p2), .val (.int p3), .val (.int p4), .val (.int p5), .val (.int v1), .val (.int v2), .val (.int v3), .val (.int v4), .val (.int v5), .val (.int v6), .val (.int v7), .val (.int v8), .val (.int v9), .val (.ref b10), .unset, .unset, .unset, .unset, .unset, .unset, .unset, .unset, .unset, .unset, .unset, .unset, .unset, .unset, .unset, .unset] [(.int (3 : Int32)), (.ref b10)]))
  refine go (fun _ q => XS.iload X13.here hx rfl (hb hby at_98) rfl q) ?_
  show Go p e below _ (T13.setTop (mkF m 100 #[.val (.int p1), .val (.int p2), .val (.int p3), .val (.int p4), .val (.int p5), .val (.int v1), .val (.int v2), .val (.int v3), .val (.int v4), .val (.int v5), .val (.int v6), .val (.int v7), .val (.int v8), .val (.int v9), .val (.ref b10), .unset, .unset, .unset, .unset, .unset, .unset, .unset, .unset, .unset, .unset, .unset, .unset, .unset, .unset, .unset, .unset] [(.int v5), (.int (3 : Int32)), (.ref b10)]))
  obtain ⟨T14, h14, X14, e14, W14, V14, st14⟩ := own_iastore X13 hx hZ e13 P13 (j := (3 : Int32)) (x := v5) (by decide) (Nat.le_of_ble_eq_true rfl) (g := (mkF m 100 #[.val (.int p1), .val (.int p2), .val (.int p3), .val (.int p4), .val (.int p5), .val (.int v1), .val (.int v2), .val (.int v3), .val (.int v4), .val (.int v5), .val (.int v6), .val (.int v7), .val (.int v8), .val (.int v9), .val (.ref b10), .unset, .unset, .unset, .unset, .unset, .unset, .unset, .unset, .unset, .unset, .unset, .unset, .unset, .unset, .unset, .unset] [(.int v5), (.int (3 : Int32)), (.ref b10)])) rfl rfl (hb hby at_100)
  refine go st14 ?_
  have P14 : Ari Z h14 b10 ([v5, v5, v5, v5, (0 : Int32), (0 : Int32)] : List Int32) := V14
  have N14 := Fr.snoc X14 N13 g_b10
  have Z14 : n0 ≤ h14.size := Nat.le_trans Z13 (Nat.le_of_eq W14.size.symm)
  show Go p e below _ (T14.setTop (mkF m 101 #[.val (.int p1), .val (.int p2), .val (.int p3), .val (.int p4), .val (.int p5), .val (.int v1), .val (.int v2), .val (.int v3), .val (.int v4), .val (.int v5), .val (.int v6), .val (.int v7), .val (.int v8), .val (.int v9), .val (.ref b10), .unset, .unset, .unset, .unset, .unset, .unset, .unset, .unset, .unset, .unset, .unset, .unset, .unset, .unset, .unset, .unset] []))
  refine go (fun _ q => XS.aload X14.here hx rfl (hb hby at_101) rfl rfl q) ?_
  show Go p e below _ (T14.setTop (mkF m 103 #[.val (.int p1), .val (.int p2), .val (.int p3), .val (.int p4), .val (.int p5), .val (.int v1), .val (.int v2), .val (.int v3), .val (.int v4), .val (.int v5), .val (.int v6), .val (.int v7), .val (.int v8), .val (.int v9), .val (.ref b10), .unset, .unset, .unset, .unset, .unset, .unset, .unset, .unset, .unset, .unset, .unset, .unset, .unset, .unset, .unset, .unset] [(.ref b10)]))
  refine go (fun _ q => XS.iconst X14.here hx rfl (hb hby at_103) q) ?_
  show Go p e below _ (T14.setTop (mkF m 104 #[.val (.int p1), .val (.int p2), .val (.int p3), .val (.int p4), .val (.int p5), .val (.int v1), .val (.int v2), .val (.int v3), .val (.int v4), .val (.int v5), .val (.int v6), .val (.int v7), .val (.int v8), .val (.int v9), .val (.ref b10), .unset, .unset, .unset, .unset, .unset, .unset, .unset, .unset, .unset, .unset, .unset, .unset, .unset, .unset, .unset, .unset] [(.int (4 : Int32)), (.ref b10)]))
  refine go (fun _ q => XS.iload X14.here hx rfl (hb hby at_104) rfl q) ?_
  show Go p e below _ (T14.setTop (mkF m 106 #[.val (.int p1), .val (.int p2), .val (.int p3), .val (.int p4), .val (.int p5), .val (.int v1), .val (.int v2), .val (.int v3), .val (.int v4), .val (.int v5), .val (.int v6), .val (.int v7), .val (.int v8), .val (.int v9), .val (.ref b10), .unset, .unset, .unset, .unset, .unset, .unset, .unset, .unset, .unset, .unset, .unset, .unset, .unset, .unset, .unset, .unset] [(.int v5), (.int (4 : Int32)), (.ref b10)]))
  obtain ⟨T15, h15, X15, e15, W15, V15, st15⟩ := own_iastore X14 hx hZ e14 P14 (j := (4 : Int32)) (x := v5) (by decide) (Nat.le_of_ble_eq_true rfl) (g := (mkF m 106 #[.val (.int p1), .val (.int p2), .val (.int p3), .val (.int p4), .val (.int p5), .val (.int v1), .val (.int v2), .val (.int v3), .val (.int v4), .val (.int v5), .val (.int v6), .val (.int v7), .val (.int v8), .val (.int v9), .val (.ref b10), .unset, .unset, .unset, .unset, .unset, .unset, .unset, .unset, .unset, .unset, .unset, .unset, .unset, .unset, .unset, .unset] [(.int v5), (.int (4 : Int32)), (.ref b10)])) rfl rfl (hb hby at_106)
  refine go st15 ?_
  have P15 : Ari Z h15 b10 ([v5, v5, v5, v5, v5, (0 : Int32)] : List Int32) := V15
  have N15 := Fr.snoc X15 N14 g_b10
  have Z15 : n0 ≤ h15.size := Nat.le_trans Z14 (Nat.le_of_eq W15.size.symm)
  show Go p e below _ (T15.setTop (mkF m 107 #[.val (.int p1), .val (.int p2), .val (.int p3), .val (.int p4), .val (.int p5), .val (.int v1), .val (.int v2), .val (.int v3), .val (.int v4), .val (.int v5), .val (.int v6), .val (.int v7), .val (.int v8), .val (.int v9), .val (.ref b10), .unset, .unset, .unset, .unset, .unset, .unset, .unset, .unset, .unset, .unset, .unset, .unset, .unset, .unset, .unset, .unset] []))
  refine go (fun _ q => XS.aload X15.here hx rfl (hb hby at_107) rfl rfl q) ?_
  show Go p e below _ (T15.setTop (mkF m 109 #[.val (.int p1), .val (.int p2), .val (.int p3), .val (.int p4), .val (.int p5), .val (.int v1), .val (.int v2), .val (.int v3), .val (.int v4), .val (.int v5), .val (.int v6), .val (.int v7), .val (.int v8), .val (.int v9), .val (.ref b10), .unset, .unset, .unset, .unset, .unset, .unset, .unset, .unset, .unset, .unset, .unset, .unset, .unset, .unset, .unset, .unset] [(.ref b10)]))
  refine go (fun _ q => XS.iconst X15.here hx rfl (hb hby at_109) q) ?_
  show Go p e below _ (T15.setTop (mkF m 110 #[.val (.int p1), .val (.int p2), .val (.int p3), .val (.int p4), .val (.int p5), .val (.int v1), .val (.int v2), .val (.int v3), .val (.int v4), .val (.int v5), .val (.int v6), .val (.int v7), .val (.int v8), .val (.int v9), .val (.ref b10), .unset, .unset, .unset, .unset, .unset, .unset, .unset, .unset, .unset, .unset, .unset, .unset, .unset, .unset, .unset, .unset] [(.int (5 : Int32)), (.ref b10)]))
  refine go (fun _ q => XS.iload X15.here hx rfl (hb hby at_110) rfl q) ?_
  show Go p e below _ (T15.setTop (mkF m 112 #[.val (.int p1), .val (.int p2), .val (.int p3), .val (.int p4), .val (.int p5), .val (.int v1), .val (.int v2), .val (.int v3), .val (.int v4), .val (.int v5), .val (.int v6), .val (.int v7), .val (.int v8), .val (.int v9), .val (.ref b10), .unset, .unset, .unset, .unset, .unset, .unset, .unset, .unset, .unset, .unset, .unset, .unset, .unset, .unset, .unset, .unset] [(.int v5), (.int (5 : Int32)), (.ref b10)]))
  obtain ⟨T16, h16, X16, e16, W16, V16, st16⟩ := own_iastore X15 hx hZ e15 P15 (j := (5 : Int32)) (x := v5) (by decide) (Nat.le_of_ble_eq_true rfl) (g := (mkF m 112 #[.val (.int p1), .val (.int p2), .val (.int p3), .val (.int p4), .val (.int p5), .val (.int v1), .val (.int v2), .val (.int v3), .val (.int v4), .val (.int v5), .val (.int v6), .val (.int v7), .val (.int v8), .val (.int v9), .val (.ref b10), .unset, .unset, .unset, .unset, .unset, .unset, .unset, .unset, .unset, .unset, .unset, .unset, .unset, .unset, .unset, .unset] [(.int v5), (.int (5 : Int32)), (.ref b10)])) rfl rfl (hb hby at_112)
  refine go st16 ?_
  have P16 : Ari Z h16 b10 ([v5, v5, v5, v5, v5, v5] : List Int32) := V16
  have N16 := Fr.snoc X16 N15 g_b10
  have Z16 : n0 ≤ h16.size := Nat.le_trans Z15 (Nat.le_of_eq W16.size.symm)
  show Go p e below _ (T16.setTop (mkF m 113 #[.val (.int p1), .val (.int p2), .val (.int p3), .val (.int p4), .val (.int p5), .val (.int v1), .val (.int v2), .val (.int v3), .val (.int v4), .val (.int v5), .val (.int v6), .val (.int v7), .val (.int v8), .val (.int v9), .val (.ref b10), .unset, .unset, .unset, .unset, .unset, .unset, .unset, .unset, .unset, .unset, .unset, .unset, .unset, .unset, .unset, .unset] []))
  refine go (fun _ q => XS.aload X16.here hx rfl (hb hby at_113) rfl rfl q) ?_
  show Go p e below _ (T16.setTop (mkF m 115 #[.val (.int p1), .val (.int p2), .val (.int p3), .val (.int p4), .val (.int p5), .val (.int v1), .val (.int v2), .val (.int v3), .val (.int v4), .val (.int v5), .val (.int v6), .val (.int v7), .val (.int v8), .val (.int v9), .val (.ref b10), .unset, .unset, .unset, .unset, .unset, .unset, .unset, .unset, .unset, .unset, .unset, .unset, .unset, .unset, .unset, .unset] [(.ref b10)]))
  refine go (fun _ q => XS.iload X16.here hx rfl (hb hby at_115) rfl q) ?_
  show Go p e below _ (T16.setTop (mkF m 117 #[.val (.int p1), .val (.int p2), .val (.int p3), .val (.int p4), .val (.int p5), .val (.int v1), .val (.int v2), .val (.int v3), .val (.int v4), .val (.int v5), .val (.int v6), .val (.int v7), .val (.int v8), .val (.int v9), .val (.ref b10), .unset, .unset, .unset, .unset, .unset, .unset, .unset, .unset, .unset, .unset, .unset, .unset, .unset, .unset, .unset, .unset] [(.int v3), (.ref b10)]))
  refine go (fun _ q => XS.iload X16.here hx rfl (hb hby at_117) rfl q) ?_
  show Go p e below _ (T16.setTop (mkF m 119 #[.val (.int p1), .val (.int p2), .val (.int p3), .val (.int p4), .val (.int p5), .val (.int v1), .val (.int v2), .val (.int v3), .val (.int v4), .val (.int v5), .val (.int v6), .val (.int v7), .val (.int v8), .val (.int v9), .val (.ref b10), .unset, .unset, .unset, .unset, .unset, .unset, .unset, .unset, .unset, .unset, .unset, .unset, .unset, .unset, .unset, .unset] [(.int v6), (.int v3), (.ref b10)]))
  obtain ⟨T17, h17, X17, e17, W17, V17, st17⟩ := own_iastore X16 hx hZ e16 P16 (j := v3) (x := v6) (own_ix0 own_fr01).1 (own_ix0 own_fr01).2 (g := (mkF m 119 #[.val (.int p1), .val (.int p2), .val (.int p3), .val (.int p4), .val (.int p5), .val (.int v1), .val (.int v2), .val (.int v3), .val (.int v4), .val (.int v5), .val (.int v6), .val (.int v7), .val (.int v8), .val (.int v9), .val (.ref b10), .unset, .unset, .unset, .unset, .unset, .unset, .unset, .unset, .unset, .unset, .unset, .unset, .unset, .unset, .unset, .unset] [(.int v6), (.int v3), (.ref b10)])) rfl rfl (hb hby at_119)
  refine go st17 ?_
  have P17 : Ari Z h17 b10 (([v5, v5, v5, v5, v5, v5] : List Int32).set (v3).toNatClampNeg v6) := V17
  have l17 : (([v5, v5, v5, v5, v5, v5] : List Int32).set (v3).toNatClampNeg v6).length = 6 := by rw [List.length_set]; exact rfl
  have N17 := Fr.snoc X17 N16 g_b10
  have Z17 : n0 ≤ h17.size := Nat.le_trans Z16 (Nat.le_of_eq W17.size.symm)
  show Go p e below _ (T17.setTop (mkF m 120 #[.val (.int p1), .val (.int p2), .val (.int p3), .val (.int p4), .val (.int p5), .val (.int v1), .val (.int v2), .val (.int v3), .val (.int v4), .val (.int v5), .val (.int v6), .val (.int v7), .val (.int v8), .val (.int v9), .val (.ref b10), .unset, .unset, .unset, .unset, .unset, .unset, .unset, .unset, .unset, .unset, .unset, .unset, .unset, .unset, .unset, .unset] []))
  refine go (fun _ q => XS.iload X17.here hx rfl (hb hby at_120) rfl q) ?_
  show Go p e below _ (T17.setTop (mkF m 122 #[.val (.int p1), .val (.int p2), .val (.int p3), .val (.int p4), .val (.int p5), .val (.int v1), .val (.int v2), .val (.int v3), .val (.int v4), .val (.int v5), .val (.int v6), .val (.int v7), .val (.int v8), .val (.int v9), .val (.ref b10), .unset, .unset, .unset, .unset, .unset, .unset, .unset, .unset, .unset, .unset, .unset, .unset, .unset, .unset, .unset, .unset] [(.int v1)]))
  refine go (fun _ q => XS.iconst X17.here hx rfl (hb hby at_122) q) ?_
  show Go p e below _ (T17.setTop (mkF m 123 #[.val (.int p1), .val (.int p2), .val (.int p3), .val (.int p4), .val (.int p5), .val (.int v1), .val (.int v2), .val (.int v3), .val (.int v4), .val (.int v5), .val (.int v6), .val (.int v7), .val (.int v8), .val (.int v9), .val (.ref b10), .unset, .unset, .unset, .unset, .unset, .unset, .unset, .unset, .unset, .unset, .unset, .unset, .unset, .unset, .unset, .unset] [(.int (1 : Int32)), (.int v1)]))
  suffices hj18 : ∀ (T21 : State) (L21 : List Loc), Stand p l e room_1 s m #[(.int p1), (.int p2), (.int p3), (.int p4), (.int p5)] below meth c T21 L21 1 6 → Fr n0 L21 → n0 ≤ T21.heap.size → ∀ (xs22 : List Int32), Ari Z T21.heap b10 xs22 → xs22 = (if (1 : Int32) < v1 then ((([v5, v5, v5, v5, v5, v5] : List Int32).set (v3).toNatClampNeg v6).set ((v3 + (1 : Int32))).toNatClampNeg v7) else (([v5, v5, v5, v5, v5, v5] : List Int32).set (v3).toNatClampNeg v6)) → Go p e below (Dn below s ((Q0 n0)) room_1.cells room_1.slots) (T21.setTop (mkF m 135 #[.val (.int p1), .val (.int p2), .val (.int p3), .val (.int p4), .val (.int p5), .val (.int v1), .val (.int v2), .val (.int v3), .val (.int v4), .val (.int v5), .val (.int v6), .val (.int v7), .val (.int v8), .val (.int v9), .val (.ref b10), .unset, .unset, .unset, .unset, .unset, .unset, .unset, .unset, .unset, .unset, .unset, .unset, .unset, .unset, .unset, .unset] [])) by
    by_cases hc19 : (1 : Int32) < v1
    · refine go (fun _ q => XS.icmpNo X17.here hx rfl (hb hby at_123) rfl (tlt hc19).2.2.2 q) ?_
      show Go p e below _ (T17.setTop (mkF m 126 #[.val (.int p1), .val (.int p2), .val (.int p3), .val (.int p4), .val (.int p5), .val (.int v1), .val (.int v2), .val (.int v3), .val (.int v4), .val (.int v5), .val (.int v6), .val (.int v7), .val (.int v8), .val (.int v9), .val (.ref b10), .unset, .unset, .unset, .unset, .unset, .unset, .unset, .unset, .unset, .unset, .unset, .unset, .unset, .unset, .unset, .unset] []))
      refine go (fun _ q => XS.aload X17.here hx rfl (hb hby at_126) rfl rfl q) ?_
      show Go p e below _ (T17.setTop (mkF m 128 #[.val (.int p1), .val (.int p2), .val (.int p3), .val (.int p4), .val (.int p5), .val (.int v1), .val (.int v2), .val (.int v3), .val (.int v4), .val (.int v5), .val (.int v6), .val (.int v7), .val (.int v8), .val (.int v9), .val (.ref b10), .unset, .unset, .unset, .unset, .unset, .unset, .unset, .unset, .unset, .unset, .unset, .unset, .unset, .unset, .unset, .unset] [(.ref b10)]))
      refine go (fun _ q => XS.iload X17.here hx rfl (hb hby at_128) rfl q) ?_
      show Go p e below _ (T17.setTop (mkF m 130 #[.val (.int p1), .val (.int p2), .val (.int p3), .val (.int p4), .val (.int p5), .val (.int v1), .val (.int v2), .val (.int v3), .val (.int v4), .val (.int v5), .val (.int v6), .val (.int v7), .val (.int v8), .val (.int v9), .val (.ref b10), .unset, .unset, .unset, .unset, .unset, .unset, .unset, .unset, .unset, .unset, .unset, .unset, .unset, .unset, .unset, .unset] [(.int v3), (.ref b10)]))
      refine go (fun _ q => XS.iconst X17.here hx rfl (hb hby at_130) q) ?_
      show Go p e below _ (T17.setTop (mkF m 131 #[.val (.int p1), .val (.int p2), .val (.int p3), .val (.int p4), .val (.int p5), .val (.int v1), .val (.int v2), .val (.int v3), .val (.int v4), .val (.int v5), .val (.int v6), .val (.int v7), .val (.int v8), .val (.int v9), .val (.ref b10), .unset, .unset, .unset, .unset, .unset, .unset, .unset, .unset, .unset, .unset, .unset, .unset, .unset, .unset, .unset, .unset] [(.int (1 : Int32)), (.int v3), (.ref b10)]))
      refine go (fun _ q => XS.iadd X17.here hx rfl (hb hby at_131) rfl q) ?_
      show Go p e below _ (T17.setTop (mkF m 132 #[.val (.int p1), .val (.int p2), .val (.int p3), .val (.int p4), .val (.int p5), .val (.int v1), .val (.int v2), .val (.int v3), .val (.int v4), .val (.int v5), .val (.int v6), .val (.int v7), .val (.int v8), .val (.int v9), .val (.ref b10), .unset, .unset, .unset, .unset, .unset, .unset, .unset, .unset, .unset, .unset, .unset, .unset, .unset, .unset, .unset, .unset] [(.int (v3 + (1 : Int32))), (.ref b10)]))
      refine go (fun _ q => XS.iload X17.here hx rfl (hb hby at_132) rfl q) ?_
      show Go p e below _ (T17.setTop (mkF m 134 #[.val (.int p1), .val (.int p2), .val (.int p3), .val (.int p4), .val (.int p5), .val (.int v1), .val (.int v2), .val (.int v3), .val (.int v4), .val (.int v5), .val (.int v6), .val (.int v7), .val (.int v8), .val (.int v9), .val (.ref b10), .unset, .unset, .unset, .unset, .unset, .unset, .unset, .unset, .unset, .unset, .unset, .unset, .unset, .unset, .unset, .unset] [(.int v7), (.int (v3 + (1 : Int32))), (.ref b10)]))
      obtain ⟨T20, h20, X20, e20, W20, V20, st20⟩ := own_iastore X17 hx hZ e17 P17 (j := (v3 + (1 : Int32))) (x := v7) (own_ix1 own_fr01).1 (by rw [l17]; exact (own_ix1 own_fr01).2) (g := (mkF m 134 #[.val (.int p1), .val (.int p2), .val (.int p3), .val (.int p4), .val (.int p5), .val (.int v1), .val (.int v2), .val (.int v3), .val (.int v4), .val (.int v5), .val (.int v6), .val (.int v7), .val (.int v8), .val (.int v9), .val (.ref b10), .unset, .unset, .unset, .unset, .unset, .unset, .unset, .unset, .unset, .unset, .unset, .unset, .unset, .unset, .unset, .unset] [(.int v7), (.int (v3 + (1 : Int32))), (.ref b10)])) rfl rfl (hb hby at_134)
      refine go st20 ?_
      have P20 : Ari Z h20 b10 ((([v5, v5, v5, v5, v5, v5] : List Int32).set (v3).toNatClampNeg v6).set ((v3 + (1 : Int32))).toNatClampNeg v7) := V20
      have l20 : ((([v5, v5, v5, v5, v5, v5] : List Int32).set (v3).toNatClampNeg v6).set ((v3 + (1 : Int32))).toNatClampNeg v7).length = 6 := by rw [List.length_set]; exact l17
      have N20 := Fr.snoc X20 N17 g_b10
      have Z20 : n0 ≤ h20.size := Nat.le_trans Z17 (Nat.le_of_eq W20.size.symm)
      show Go p e below _ (T20.setTop (mkF m 135 #[.val (.int p1), .val (.int p2), .val (.int p3), .val (.int p4), .val (.int p5), .val (.int v1), .val (.int v2), .val (.int v3), .val (.int v4), .val (.int v5), .val (.int v6), .val (.int v7), .val (.int v8), .val (.int v9), .val (.ref b10), .unset, .unset, .unset, .unset, .unset, .unset, .unset, .unset, .unset, .unset, .unset, .unset, .unset, .unset, .unset, .unset] []))
      exact hj18 T20 _ X20 N20 (by rw [e20]; exact Z20) _ (by rw [e20]; exact P20) (by rw [if_pos hc19])
    · refine go (fun _ q => XS.icmpYes X17.here hx rfl (pc0 := 123) (pc' := 135) rfl (hb hby at_123) rfl (flt hc19).2.2.2 (by decide) (by decide) q) ?_
      show Go p e below _ (T17.setTop (mkF m 135 #[.val (.int p1), .val (.int p2), .val (.int p3), .val (.int p4), .val (.int p5), .val (.int v1), .val (.int v2), .val (.int v3), .val (.int v4), .val (.int v5), .val (.int v6), .val (.int v7), .val (.int v8), .val (.int v9), .val (.ref b10), .unset, .unset, .unset, .unset, .unset, .unset, .unset, .unset, .unset, .unset, .unset, .unset, .unset, .unset, .unset, .unset] []))
      exact hj18 T17 _ X17 N17 (by rw [e17]; exact Z17) _ (by rw [e17]; exact P17) (by rw [if_neg hc19])
  intro T21 L21 X21 N21 Z21 xs22 Pxs22 hxs22
  have lxs22 : xs22.length = 6 := by rw [hxs22]; (repeat' split) <;> first | rfl | assumption | (simp only [List.length_set]; first | rfl | assumption)
  show Go p e below _ (T21.setTop (mkF m 135 #[.val (.int p1), .val (.int p2), .val (.int p3), .val (.int p4), .val (.int p5), .val (.int v1), .val (.int v2), .val (.int v3), .val (.int v4), .val (.int v5), .val (.int v6), .val (.int v7), .val (.int v8), .val (.int v9), .val (.ref b10), .unset, .unset, .unset, .unset, .unset, .unset, .unset, .unset, .unset, .unset, .unset, .unset, .unset, .unset, .unset, .unset] []))
  refine go (fun _ q => XS.iload X21.here hx rfl (hb hby at_135) rfl q) ?_
  show Go p e below _ (T21.setTop (mkF m 137 #[.val (.int p1), .val (.int p2), .val (.int p3), .val (.int p4), .val (.int p5), .val (.int v1), .val (.int v2), .val (.int v3), .val (.int v4), .val (.int v5), .val (.int v6), .val (.int v7), .val (.int v8), .val (.int v9), .val (.ref b10), .unset, .unset, .unset, .unset, .unset, .unset, .unset, .unset, .unset, .unset, .unset, .unset, .unset, .unset, .unset, .unset] [(.int v1)]))
  refine go (fun _ q => XS.iconst X21.here hx rfl (hb hby at_137) q) ?_
  show Go p e below _ (T21.setTop (mkF m 138 #[.val (.int p1), .val (.int p2), .val (.int p3), .val (.int p4), .val (.int p5), .val (.int v1), .val (.int v2), .val (.int v3), .val (.int v4), .val (.int v5), .val (.int v6), .val (.int v7), .val (.int v8), .val (.int v9), .val (.ref b10), .unset, .unset, .unset, .unset, .unset, .unset, .unset, .unset, .unset, .unset, .unset, .unset, .unset, .unset, .unset, .unset] [(.int (2 : Int32)), (.int v1)]))
  suffices hj23 : ∀ (T26 : State) (L26 : List Loc), Stand p l e room_1 s m #[(.int p1), (.int p2), (.int p3), (.int p4), (.int p5)] below meth c T26 L26 1 6 → Fr n0 L26 → n0 ≤ T26.heap.size → ∀ (xs27 : List Int32), Ari Z T26.heap b10 xs27 → xs27 = (if (2 : Int32) < v1 then (xs22.set ((v3 + (2 : Int32))).toNatClampNeg v8) else xs22) → Go p e below (Dn below s ((Q0 n0)) room_1.cells room_1.slots) (T26.setTop (mkF m 150 #[.val (.int p1), .val (.int p2), .val (.int p3), .val (.int p4), .val (.int p5), .val (.int v1), .val (.int v2), .val (.int v3), .val (.int v4), .val (.int v5), .val (.int v6), .val (.int v7), .val (.int v8), .val (.int v9), .val (.ref b10), .unset, .unset, .unset, .unset, .unset, .unset, .unset, .unset, .unset, .unset, .unset, .unset, .unset, .unset, .unset, .unset] [])) by
    by_cases hc24 : (2 : Int32) < v1
    · refine go (fun _ q => XS.icmpNo X21.here hx rfl (hb hby at_138) rfl (tlt hc24).2.2.2 q) ?_
      show Go p e below _ (T21.setTop (mkF m 141 #[.val (.int p1), .val (.int p2), .val (.int p3), .val (.int p4), .val (.int p5), .val (.int v1), .val (.int v2), .val (.int v3), .val (.int v4), .val (.int v5), .val (.int v6), .val (.int v7), .val (.int v8), .val (.int v9), .val (.ref b10), .unset, .unset, .unset, .unset, .unset, .unset, .unset, .unset, .unset, .unset, .unset, .unset, .unset, .unset, .unset, .unset] []))
      refine go (fun _ q => XS.aload X21.here hx rfl (hb hby at_141) rfl rfl q) ?_
      show Go p e below _ (T21.setTop (mkF m 143 #[.val (.int p1), .val (.int p2), .val (.int p3), .val (.int p4), .val (.int p5), .val (.int v1), .val (.int v2), .val (.int v3), .val (.int v4), .val (.int v5), .val (.int v6), .val (.int v7), .val (.int v8), .val (.int v9), .val (.ref b10), .unset, .unset, .unset, .unset, .unset, .unset, .unset, .unset, .unset, .unset, .unset, .unset, .unset, .unset, .unset, .unset] [(.ref b10)]))
      refine go (fun _ q => XS.iload X21.here hx rfl (hb hby at_143) rfl q) ?_
      show Go p e below _ (T21.setTop (mkF m 145 #[.val (.int p1), .val (.int p2), .val (.int p3), .val (.int p4), .val (.int p5), .val (.int v1), .val (.int v2), .val (.int v3), .val (.int v4), .val (.int v5), .val (.int v6), .val (.int v7), .val (.int v8), .val (.int v9), .val (.ref b10), .unset, .unset, .unset, .unset, .unset, .unset, .unset, .unset, .unset, .unset, .unset, .unset, .unset, .unset, .unset, .unset] [(.int v3), (.ref b10)]))
      refine go (fun _ q => XS.iconst X21.here hx rfl (hb hby at_145) q) ?_
      show Go p e below _ (T21.setTop (mkF m 146 #[.val (.int p1), .val (.int p2), .val (.int p3), .val (.int p4), .val (.int p5), .val (.int v1), .val (.int v2), .val (.int v3), .val (.int v4), .val (.int v5), .val (.int v6), .val (.int v7), .val (.int v8), .val (.int v9), .val (.ref b10), .unset, .unset, .unset, .unset, .unset, .unset, .unset, .unset, .unset, .unset, .unset, .unset, .unset, .unset, .unset, .unset] [(.int (2 : Int32)), (.int v3), (.ref b10)]))
      refine go (fun _ q => XS.iadd X21.here hx rfl (hb hby at_146) rfl q) ?_
      show Go p e below _ (T21.setTop (mkF m 147 #[.val (.int p1), .val (.int p2), .val (.int p3), .val (.int p4), .val (.int p5), .val (.int v1), .val (.int v2), .val (.int v3), .val (.int v4), .val (.int v5), .val (.int v6), .val (.int v7), .val (.int v8), .val (.int v9), .val (.ref b10), .unset, .unset, .unset, .unset, .unset, .unset, .unset, .unset, .unset, .unset, .unset, .unset, .unset, .unset, .unset, .unset] [(.int (v3 + (2 : Int32))), (.ref b10)]))
      refine go (fun _ q => XS.iload X21.here hx rfl (hb hby at_147) rfl q) ?_
      show Go p e below _ (T21.setTop (mkF m 149 #[.val (.int p1), .val (.int p2), .val (.int p3), .val (.int p4), .val (.int p5), .val (.int v1), .val (.int v2), .val (.int v3), .val (.int v4), .val (.int v5), .val (.int v6), .val (.int v7), .val (.int v8), .val (.int v9), .val (.ref b10), .unset, .unset, .unset, .unset, .unset, .unset, .unset, .unset, .unset, .unset, .unset, .unset, .unset, .unset, .unset, .unset] [(.int v8), (.int (v3 + (2 : Int32))), (.ref b10)]))
      obtain ⟨T25, h25, X25, e25, W25, V25, st25⟩ := own_iastore X21 hx hZ rfl Pxs22 (j := (v3 + (2 : Int32))) (x := v8) (own_ix2 own_fr01).1 (by rw [lxs22]; exact (own_ix2 own_fr01).2) (g := (mkF m 149 #[.val (.int p1), .val (.int p2), .val (.int p3), .val (.int p4), .val (.int p5), .val (.int v1), .val (.int v2), .val (.int v3), .val (.int v4), .val (.int v5), .val (.int v6), .val (.int v7), .val (.int v8), .val (.int v9), .val (.ref b10), .unset, .unset, .unset, .unset, .unset, .unset, .unset, .unset, .unset, .unset, .unset, .unset, .unset, .unset, .unset, .unset] [(.int v8), (.int (v3 + (2 : Int32))), (.ref b10)])) rfl rfl (hb hby at_149)
      refine go st25 ?_
      have P25 : Ari Z h25 b10 (xs22.set ((v3 + (2 : Int32))).toNatClampNeg v8) := V25
      have l25 : (xs22.set ((v3 + (2 : Int32))).toNatClampNeg v8).length = 6 := by rw [List.length_set]; exact lxs22
      have N25 := Fr.snoc X25 N21 g_b10
      have Z25 : n0 ≤ h25.size := Nat.le_trans Z21 (Nat.le_of_eq W25.size.symm)
      show Go p e below _ (T25.setTop (mkF m 150 #[.val (.int p1), .val (.int p2), .val (.int p3), .val (.int p4), .val (.int p5), .val (.int v1), .val (.int v2), .val (.int v3), .val (.int v4), .val (.int v5), .val (.int v6), .val (.int v7), .val (.int v8), .val (.int v9), .val (.ref b10), .unset, .unset, .unset, .unset, .unset, .unset, .unset, .unset, .unset, .unset, .unset, .unset, .unset, .unset, .unset, .unset] []))
      exact hj23 T25 _ X25 N25 (by rw [e25]; exact Z25) _ (by rw [e25]; exact P25) (by rw [if_pos hc24])
    · refine go (fun _ q => XS.icmpYes X21.here hx rfl (pc0 := 138) (pc' := 150) rfl (hb hby at_138) rfl (flt hc24).2.2.2 (by decide) (by decide) q) ?_
      show Go p e below _ (T21.setTop (mkF m 150 #[.val (.int p1), .val (.int p2), .val (.int p3), .val (.int p4), .val (.int p5), .val (.int v1), .val (.int v2), .val (.int v3), .val (.int v4), .val (.int v5), .val (.int v6), .val (.int v7), .val (.int v8), .val (.int v9), .val (.ref b10), .unset, .unset, .unset, .unset, .unset, .unset, .unset, .unset, .unset, .unset, .unset, .unset, .unset, .unset, .unset, .unset] []))
      exact hj23 T21 _ X21 N21 Z21 _ Pxs22 (by rw [if_neg hc24])
  intro T26 L26 X26 N26 Z26 xs27 Pxs27 hxs27
  have lxs27 : xs27.length = 6 := by rw [hxs27]; (repeat' split) <;> first | rfl | assumption | (simp only [List.length_set]; first | rfl | assumption)
  show Go p e below _ (T26.setTop (mkF m 150 #[.val (.int p1), .val (.int p2), .val (.int p3), .val (.int p4), .val (.int p5), .val (.int v1), .val (.int v2), .val (.int v3), .val (.int v4), .val (.int v5), .val (.int v6), .val (.int v7), .val (.int v8), .val (.int v9), .val (.ref b10), .unset, .unset, .unset, .unset, .unset, .unset, .unset, .unset, .unset, .unset, .unset, .unset, .unset, .unset, .unset, .unset] []))
  refine go (fun _ q => XS.iload X26.here hx rfl (hb hby at_150) rfl q) ?_
  show Go p e below _ (T26.setTop (mkF m 152 #[.val (.int p1), .val (.int p2), .val (.int p3), .val (.int p4), .val (.int p5), .val (.int v1), .val (.int v2), .val (.int v3), .val (.int v4), .val (.int v5), .val (.int v6), .val (.int v7), .val (.int v8), .val (.int v9), .val (.ref b10), .unset, .unset, .unset, .unset, .unset, .unset, .unset, .unset, .unset, .unset, .unset, .unset, .unset, .unset, .unset, .unset] [(.int v1)]))
  refine go (fun _ q => XS.iconst X26.here hx rfl (hb hby at_152) q) ?_
  show Go p e below _ (T26.setTop (mkF m 153 #[.val (.int p1), .val (.int p2), .val (.int p3), .val (.int p4), .val (.int p5), .val (.int v1), .val (.int v2), .val (.int v3), .val (.int v4), .val (.int v5), .val (.int v6), .val (.int v7), .val (.int v8), .val (.int v9), .val (.ref b10), .unset, .unset, .unset, .unset, .unset, .unset, .unset, .unset, .unset, .unset, .unset, .unset, .unset, .unset, .unset, .unset] [(.int (3 : Int32)), (.int v1)]))
  suffices hj28 : ∀ (T31 : State) (L31 : List Loc), Stand p l e room_1 s m #[(.int p1), (.int p2), (.int p3), (.int p4), (.int p5)] below meth c T31 L31 1 6 → Fr n0 L31 → n0 ≤ T31.heap.size → ∀ (xs32 : List Int32), Ari Z T31.heap b10 xs32 → xs32 = (if (3 : Int32) < v1 then (xs27.set ((v3 + (3 : Int32))).toNatClampNeg v9) else xs27) → Go p e below (Dn below s ((Q0 n0)) room_1.cells room_1.slots) (T31.setTop (mkF m 165 #[.val (.int p1), .val (.int p2), .val (.int p3), .val (.int p4), .val (.int p5), .val (.int v1), .val (.int v2), .val (.int v3), .val (.int v4), .val (.int v5), .val (.int v6), .val (.int v7), .val (.int v8), .val (.int v9), .val (.ref b10), .unset, .unset, .unset, .unset, .unset, .unset, .unset, .unset, .unset, .unset, .unset, .unset, .unset, .unset, .unset, .unset] [])) by
    by_cases hc29 : (3 : Int32) < v1
    · refine go (fun _ q => XS.icmpNo X26.here hx rfl (hb hby at_153) rfl (tlt hc29).2.2.2 q) ?_
      show Go p e below _ (T26.setTop (mkF m 156 #[.val (.int p1), .val (.int p2), .val (.int p3), .val (.int p4), .val (.int p5), .val (.int v1), .val (.int v2), .val (.int v3), .val (.int v4), .val (.int v5), .val (.int v6), .val (.int v7), .val (.int v8), .val (.int v9), .val (.ref b10), .unset, .unset, .unset, .unset, .unset, .unset, .unset, .unset, .unset, .unset, .unset, .unset, .unset, .unset, .unset, .unset] []))
      refine go (fun _ q => XS.aload X26.here hx rfl (hb hby at_156) rfl rfl q) ?_
      show Go p e below _ (T26.setTop (mkF m 158 #[.val (.int p1), .val (.int p2), .val (.int p3), .val (.int p4), .val (.int p5), .val (.int v1), .val (.int v2), .val (.int v3), .val (.int v4), .val (.int v5), .val (.int v6), .val (.int v7), .val (.int v8), .val (.int v9), .val (.ref b10), .unset, .unset, .unset, .unset, .unset, .unset, .unset, .unset, .unset, .unset, .unset, .unset, .unset, .unset, .unset, .unset] [(.ref b10)]))
      refine go (fun _ q => XS.iload X26.here hx rfl (hb hby at_158) rfl q) ?_
      show Go p e below _ (T26.setTop (mkF m 160 #[.val (.int p1), .val (.int p2), .val (.int p3), .val (.int p4), .val (.int p5), .val (.int v1), .val (.int v2), .val (.int v3), .val (.int v4), .val (.int v5), .val (.int v6), .val (.int v7), .val (.int v8), .val (.int v9), .val (.ref b10), .unset, .unset, .unset, .unset, .unset, .unset, .unset, .unset, .unset, .unset, .unset, .unset, .unset, .unset, .unset, .unset] [(.int v3), (.ref b10)]))
      refine go (fun _ q => XS.iconst X26.here hx rfl (hb hby at_160) q) ?_
      show Go p e below _ (T26.setTop (mkF m 161 #[.val (.int p1), .val (.int p2), .val (.int p3), .val (.int p4), .val (.int p5), .val (.int v1), .val (.int v2), .val (.int v3), .val (.int v4), .val (.int v5), .val (.int v6), .val (.int v7), .val (.int v8), .val (.int v9), .val (.ref b10), .unset, .unset, .unset, .unset, .unset, .unset, .unset, .unset, .unset, .unset, .unset, .unset, .unset, .unset, .unset, .unset] [(.int (3 : Int32)), (.int v3), (.ref b10)]))
      refine go (fun _ q => XS.iadd X26.here hx rfl (hb hby at_161) rfl q) ?_
      show Go p e below _ (T26.setTop (mkF m 162 #[.val (.int p1), .val (.int p2), .val (.int p3), .val (.int p4), .val (.int p5), .val (.int v1), .val (.int v2), .val (.int v3), .val (.int v4), .val (.int v5), .val (.int v6), .val (.int v7), .val (.int v8), .val (.int v9), .val (.ref b10), .unset, .unset, .unset, .unset, .unset, .unset, .unset, .unset, .unset, .unset, .unset, .unset, .unset, .unset, .unset, .unset] [(.int (v3 + (3 : Int32))), (.ref b10)]))
      refine go (fun _ q => XS.iload X26.here hx rfl (hb hby at_162) rfl q) ?_
      show Go p e below _ (T26.setTop (mkF m 164 #[.val (.int p1), .val (.int p2), .val (.int p3), .val (.int p4), .val (.int p5), .val (.int v1), .val (.int v2), .val (.int v3), .val (.int v4), .val (.int v5), .val (.int v6), .val (.int v7), .val (.int v8), .val (.int v9), .val (.ref b10), .unset, .unset, .unset, .unset, .unset, .unset, .unset, .unset, .unset, .unset, .unset, .unset, .unset, .unset, .unset, .unset] [(.int v9), (.int (v3 + (3 : Int32))), (.ref b10)]))
      obtain ⟨T30, h30, X30, e30, W30, V30, st30⟩ := own_iastore X26 hx hZ rfl Pxs27 (j := (v3 + (3 : Int32))) (x := v9) (own_ix3 own_fr01).1 (by rw [lxs27]; exact (own_ix3 own_fr01).2) (g := (mkF m 164 #[.val (.int p1), .val (.int p2), .val (.int p3), .val (.int p4), .val (.int p5), .val (.int v1), .val (.int v2), .val (.int v3), .val (.int v4), .val (.int v5), .val (.int v6), .val (.int v7), .val (.int v8), .val (.int v9), .val (.ref b10), .unset, .unset, .unset, .unset, .unset, .unset, .unset, .unset, .unset, .unset, .unset, .unset, .unset, .unset, .unset, .unset] [(.int v9), (.int (v3 + (3 : Int32))), (.ref b10)])) rfl rfl (hb hby at_164)
      refine go st30 ?_
      have P30 : Ari Z h30 b10 (xs27.set ((v3 + (3 : Int32))).toNatClampNeg v9) := V30
      have l30 : (xs27.set ((v3 + (3 : Int32))).toNatClampNeg v9).length = 6 := by rw [List.length_set]; exact lxs27
      have N30 := Fr.snoc X30 N26 g_b10
      have Z30 : n0 ≤ h30.size := Nat.le_trans Z26 (Nat.le_of_eq W30.size.symm)
      show Go p e below _ (T30.setTop (mkF m 165 #[.val (.int p1), .val (.int p2), .val (.int p3), .val (.int p4), .val (.int p5), .val (.int v1), .val (.int v2), .val (.int v3), .val (.int v4), .val (.int v5), .val (.int v6), .val (.int v7), .val (.int v8), .val (.int v9), .val (.ref b10), .unset, .unset, .unset, .unset, .unset, .unset, .unset, .unset, .unset, .unset, .unset, .unset, .unset, .unset, .unset, .unset] []))
      exact hj28 T30 _ X30 N30 (by rw [e30]; exact Z30) _ (by rw [e30]; exact P30) (by rw [if_pos hc29])
    · refine go (fun _ q => XS.icmpYes X26.here hx rfl (pc0 := 153) (pc' := 165) rfl (hb hby at_153) rfl (flt hc29).2.2.2 (by decide) (by decide) q) ?_
      show Go p e below _ (T26.setTop (mkF m 165 #[.val (.int p1), .val (.int p2), .val (.int p3), .val (.int p4), .val (.int p5), .val (.int v1), .val (.int v2), .val (.int v3), .val (.int v4), .val (.int v5), .val (.int v6), .val (.int v7), .val (.int v8), .val (.int v9), .val (.ref b10), .unset, .unset, .unset, .unset, .unset, .unset, .unset, .unset, .unset, .unset, .unset, .unset, .unset, .unset, .unset, .unset] []))
      exact hj28 T26 _ X26 N26 Z26 _ Pxs27 (by rw [if_neg hc29])
  intro T31 L31 X31 N31 Z31 xs32 Pxs32 hxs32
  have lxs32 : xs32.length = 6 := by rw [hxs32]; (repeat' split) <;> first | rfl | assumption | (simp only [List.length_set]; first | rfl | assumption)
  show Go p e below _ (T31.setTop (mkF m 165 #[.val (.int p1), .val (.int p2), .val (.int p3), .val (.int p4), .val (.int p5), .val (.int v1), .val (.int v2), .val (.int v3), .val (.int v4), .val (.int v5), .val (.int v6), .val (.int v7), .val (.int v8), .val (.int v9), .val (.ref b10), .unset, .unset, .unset, .unset, .unset, .unset, .unset, .unset, .unset, .unset, .unset, .unset, .unset, .unset, .unset, .unset] []))
  refine go (fun _ q => XS.iload X31.here hx rfl (hb hby at_165) rfl q) ?_
  show Go p e below _ (T31.setTop (mkF m 167 #[.val (.int p1), .val (.int p2), .val (.int p3), .val (.int p4), .val (.int p5), .val (.int v1), .val (.int v2), .val (.int v3), .val (.int v4), .val (.int v5), .val (.int v6), .val (.int v7), .val (.int v8), .val (.int v9), .val (.ref b10), .unset, .unset, .unset, .unset, .unset, .unset, .unset, .unset, .unset, .unset, .unset, .unset, .unset, .unset, .unset, .unset] [(.int v6)]))
  refine go (fun _ q => XS.iload X31.here hx rfl (hb hby at_167) rfl q) ?_
  show Go p e below _ (T31.setTop (mkF m 169 #[.val (.int p1), .val (.int p2), .val (.int p3), .val (.int p4), .val (.int p5), .val (.int v1), .val (.int v2), .val (.int v3), .val (.int v4), .val (.int v5), .val (.int v6), .val (.int v7), .val (.int v8), .val (.int v9), .val (.ref b10), .unset, .unset, .unset, .unset, .unset, .unset, .unset, .unset, .unset, .unset, .unset, .unset, .unset, .unset, .unset, .unset] [(.int v4), (.int v6)]))
  refine go (fun _ q => XS.isub X31.here hx rfl (hb hby at_169) rfl q) ?_
  show Go p e below _ (T31.setTop (mkF m 170 #[.val (.int p1), .val (.int p2), .val (.int p3), .val (.int p4), .val (.int p5), .val (.int v1), .val (.int v2), .val (.int v3), .val (.int v4), .val (.int v5), .val (.int v6), .val (.int v7), .val (.int v8), .val (.int v9), .val (.ref b10), .unset, .unset, .unset, .unset, .unset, .unset, .unset, .unset, .unset, .unset, .unset, .unset, .unset, .unset, .unset, .unset] [(.int (v6 - v4))]))
  generalize hv33 : (v6 - v4) = v33
  show Go p e below _ (T31.setTop (mkF m 170 #[.val (.int p1), .val (.int p2), .val (.int p3), .val (.int p4), .val (.int p5), .val (.int v1), .val (.int v2), .val (.int v3), .val (.int v4), .val (.int v5), .val (.int v6), .val (.int v7), .val (.int v8), .val (.int v9), .val (.ref b10), .unset, .unset, .unset, .unset, .unset, .unset, .unset, .unset, .unset, .unset, .unset, .unset, .unset, .unset, .unset, .unset] [(.int v33)]))
  refine go (fun _ q => XS.istore X31.here hx rfl (hb hby at_170) rfl (l' := #[.val (.int p1), .val (.int p2), .val (.int p3), .val (.int p4), .val (.int p5), .val (.int v1), .val (.int v2), .val (.int v3), .val (.int v4), .val (.int v5), .val (.int v6), .val (.int v7), .val (.int v8), .val (.int v9), .val (.ref b10), .val (.int v33), .unset, .unset, .unset, .unset, .unset, .unset, .unset, .unset, .unset, .unset, .unset, .unset, .unset, .unset, .unset]) rfl q) ?_
  show Go p e below _ (T31.setTop (mkF m 172 #[.val (.int p1), .val (.int p2), .val (.int p3), .val (.int p4), .val (.int p5), .val (.int v1), .val (.int v2), .val (.int v3), .val (.int v4), .val (.int v5), .val (.int v6), .val (.int v7), .val (.int v8), .val (.int v9), .val (.ref b10), .val (.int v33), .unset, .unset, .unset, .unset, .unset, .unset, .unset, .unset, .unset, .unset, .unset, .unset, .unset, .unset, .unset] []))
  refine go (fun _ q => XS.iload X31.here hx rfl (hb hby at_172) rfl q) ?_
  show Go p e below _ (T31.setTop (mkF m 174 #[.val (.int p1), .val (.int p2), .val (.int p3), .val (.int p4), .val (.int p5), .val (.int v1), .val (.int v2), .val (.int v3), .val (.int v4), .val (.int v5), .val (.int v6), .val (.int v7), .val (.int v8), .val (.int v9), .val (.ref b10), .val (.int v33), .unset, .unset, .unset, .unset, .unset, .unset, .unset, .unset, .unset, .unset, .unset, .unset, .unset, .unset, .unset] [(.int v33)]))
  refine go (fun _ q => XS.iload X31.here hx rfl (hb hby at_174) rfl q) ?_
  show Go p e below _ (T31.setTop (mkF m 176 #[.val (.int p1), .val (.int p2), .val (.int p3), .val (.int p4), .val (.int p5), .val (.int v1), .val (.int v2), .val (.int v3), .val (.int v4), .val (.int v5), .val (.int v6), .val (.int v7), .val (.int v8), .val (.int v9), .val (.ref b10), .val (.int v33), .unset, .unset, .unset, .unset, .unset, .unset, .unset, .unset, .unset, .unset, .unset, .unset, .unset, .unset, .unset] [(.int v7), (.int v33)]))
  refine go (fun _ q => XS.iadd X31.here hx rfl (hb hby at_176) rfl q) ?_
  show Go p e below _ (T31.setTop (mkF m 177 #[.val (.int p1), .val (.int p2), .val (.int p3), .val (.int p4), .val (.int p5), .val (.int v1), .val (.int v2), .val (.int v3), .val (.int v4), .val (.int v5), .val (.int v6), .val (.int v7), .val (.int v8), .val (.int v9), .val (.ref b10), .val (.int v33), .unset, .unset, .unset, .unset, .unset, .unset, .unset, .unset, .unset, .unset, .unset, .unset, .unset, .unset, .unset] [(.int (v33 + v7))]))
  refine go (fun _ q => XS.iconst X31.here hx rfl (hb hby at_177) q) ?_
  show Go p e below _ (T31.setTop (mkF m 178 #[.val (.int p1), .val (.int p2), .val (.int p3), .val (.int p4), .val (.int p5), .val (.int v1), .val (.int v2), .val (.int v3), .val (.int v4), .val (.int v5), .val (.int v6), .val (.int v7), .val (.int v8), .val (.int v9), .val (.ref b10), .val (.int v33), .unset, .unset, .unset, .unset, .unset, .unset, .unset, .unset, .unset, .unset, .unset, .unset, .unset, .unset, .unset] [(.int (1 : Int32)), (.int (v33 + v7))]))
  refine go (fun _ q => XS.iadd X31.here hx rfl (hb hby at_178) rfl q) ?_
  show Go p e below _ (T31.setTop (mkF m 179 #[.val (.int p1), .val (.int p2), .val (.int p3), .val (.int p4), .val (.int p5), .val (.int v1), .val (.int v2), .val (.int v3), .val (.int v4), .val (.int v5), .val (.int v6), .val (.int v7), .val (.int v8), .val (.int v9), .val (.ref b10), .val (.int v33), .unset, .unset, .unset, .unset, .unset, .unset, .unset, .unset, .unset, .unset, .unset, .unset, .unset, .unset, .unset] [(.int ((v33 + v7) + (1 : Int32)))]))
  generalize hv34 : ((v33 + v7) + (1 : Int32)) = v34
  show Go p e below _ (T31.setTop (mkF m 179 #[.val (.int p1), .val (.int p2), .val (.int p3), .val (.int p4), .val (.int p5), .val (.int v1), .val (.int v2), .val (.int v3), .val (.int v4), .val (.int v5), .val (.int v6), .val (.int v7), .val (.int v8), .val (.int v9), .val (.ref b10), .val (.int v33), .unset, .unset, .unset, .unset, .unset, .unset, .unset, .unset, .unset, .unset, .unset, .unset, .unset, .unset, .unset] [(.int v34)]))
  refine go (fun _ q => XS.istore X31.here hx rfl (hb hby at_179) rfl (l' := #[.val (.int p1), .val (.int p2), .val (.int p3), .val (.int p4), .val (.int p5), .val (.int v1), .val (.int v2), .val (.int v3), .val (.int v4), .val (.int v5), .val (.int v6), .val (.int v7), .val (.int v8), .val (.int v9), .val (.ref b10), .val (.int v33), .val (.int v34), .unset, .unset, .unset, .unset, .unset, .unset, .unset, .unset, .unset, .unset, .unset, .unset, .unset, .unset]) rfl q) ?_
  show Go p e below _ (T31.setTop (mkF m 181 #[.val (.int p1), .val (.int p2), .val (.int p3), .val (.int p4), .val (.int p5), .val (.int v1), .val (.int v2), .val (.int v3), .val (.int v4), .val (.int v5), .val (.int v6), .val (.int v7), .val (.int v8), .val (.int v9), .val (.ref b10), .val (.int v33), .val (.int v34), .unset, .unset, .unset, .unset, .unset, .unset, .unset, .unset, .unset, .unset, .unset, .unset, .unset, .unset] []))
  refine go (fun _ q => XS.iload X31.here hx rfl (hb hby at_181) rfl q) ?_
  show Go p e below _ (T31.setTop (mkF m 183 #[.val (.int p1), .val (.int p2), .val (.int p3), .val (.int p4), .val (.int p5), .val (.int v1), .val (.int v2), .val (.int v3), .val (.int v4), .val (.int v5), .val (.int v6), .val (.int v7), .val (.int v8), .val (.int v9), .val (.ref b10), .val (.int v33), .val (.int v34), .unset, .unset, .unset, .unset, .unset, .unset, .unset, .unset, .unset, .unset, .unset, .unset, .unset, .unset] [(.int v34)]))
  refine go (fun _ q => XS.iload X31.here hx rfl (hb hby at_183) rfl q) ?_
  show Go p e below _ (T31.setTop (mkF m 185 #[.val (.int p1), .val (.int p2), .val (.int p3), .val (.int p4), .val (.int p5), .val (.int v1), .val (.int v2), .val (.int v3), .val (.int v4), .val (.int v5), .val (.int v6), .val (.int v7), .val (.int v8), .val (.int v9), .val (.ref b10), .val (.int v33), .val (.int v34), .unset, .unset, .unset, .unset, .unset, .unset, .unset, .unset, .unset, .unset, .unset, .unset, .unset, .unset] [(.int v8), (.int v34)]))
  refine go (fun _ q => XS.iadd X31.here hx rfl (hb hby at_185) rfl q) ?_
  show Go p e below _ (T31.setTop (mkF m 186 #[.val (.int p1), .val (.int p2), .val (.int p3), .val (.int p4), .val (.int p5), .val (.int v1), .val (.int v2), .val (.int v3), .val (.int v4), .val (.int v5), .val (.int v6), .val (.int v7), .val (.int v8), .val (.int v9), .val (.ref b10), .val (.int v33), .val (.int v34), .unset, .unset, .unset, .unset, .unset, .unset, .unset, .unset, .unset, .unset, .unset, .unset, .unset, .unset] [(.int (v34 + v8))]))
  refine go (fun _ q => XS.iconst X31.here hx rfl (hb hby at_186) q) ?_
  show Go p e below _ (T31.setTop (mkF m 187 #[.val (.int p1), .val (.int p2), .val (.int p3), .val (.int p4), .val (.int p5), .val (.int v1), .val (.int v2), .val (.int v3), .val (.int v4), .val (.int v5), .val (.int v6), .val (.int v7), .val (.int v8), .val (.int v9), .val (.ref b10), .val (.int v33), .val (.int v34), .unset, .unset, .unset, .unset, .unset, .unset, .unset, .unset, .unset, .unset, .unset, .unset, .unset, .unset] [(.int (1 : Int32)), (.int (v34 + v8))]))
  refine go (fun _ q => XS.iadd X31.here hx rfl (hb hby at_187) rfl q) ?_
  show Go p e below _ (T31.setTop (mkF m 188 #[.val (.int p1), .val (.int p2), .val (.int p3), .val (.int p4), .val (.int p5), .val (.int v1), .val (.int v2), .val (.int v3), .val (.int v4), .val (.int v5), .val (.int v6), .val (.int v7), .val (.int v8), .val (.int v9), .val (.ref b10), .val (.int v33), .val (.int v34), .unset, .unset, .unset, .unset, .unset, .unset, .unset, .unset, .unset, .unset, .unset, .unset, .unset, .unset] [(.int ((v34 + v8) + (1 : Int32)))]))
  generalize hv35 : ((v34 + v8) + (1 : Int32)) = v35
  show Go p e below _ (T31.setTop (mkF m 188 #[.val (.int p1), .val (.int p2), .val (.int p3), .val (.int p4), .val (.int p5), .val (.int v1), .val (.int v2), .val (.int v3), .val (.int v4), .val (.int v5), .val (.int v6), .val (.int v7), .val (.int v8), .val (.int v9), .val (.ref b10), .val (.int v33), .val (.int v34), .unset, .unset, .unset, .unset, .unset, .unset, .unset, .unset, .unset, .unset, .unset, .unset, .unset, .unset] [(.int v35)]))
  refine go (fun _ q => XS.istore X31.here hx rfl (hb hby at_188) rfl (l' := #[.val (.int p1), .val (.int p2), .val (.int p3), .val (.int p4), .val (.int p5), .val (.int v1), .val (.int v2), .val (.int v3), .val (.int v4), .val (.int v5), .val (.int v6), .val (.int v7), .val (.int v8), .val (.int v9), .val (.ref b10), .val (.int v33), .val (.int v34), .val (.int v35), .unset, .unset, .unset, .unset, .unset, .unset, .unset, .unset, .unset, .unset, .unset, .unset, .unset]) rfl q) ?_
  show Go p e below _ (T31.setTop (mkF m 190 #[.val (.int p1), .val (.int p2), .val (.int p3), .val (.int p4), .val (.int p5), .val (.int v1), .val (.int v2), .val (.int v3), .val (.int v4), .val (.int v5), .val (.int v6), .val (.int v7), .val (.int v8), .val (.int v9), .val (.ref b10), .val (.int v33), .val (.int v34), .val (.int v35), .unset, .unset, .unset, .unset, .unset, .unset, .unset, .unset, .unset, .unset, .unset, .unset, .unset] []))
  refine go (fun _ q => XS.iload X31.here hx rfl (hb hby at_190) rfl q) ?_
  show Go p e below _ (T31.setTop (mkF m 192 #[.val (.int p1), .val (.int p2), .val (.int p3), .val (.int p4), .val (.int p5), .val (.int v1), .val (.int v2), .val (.int v3), .val (.int v4), .val (.int v5), .val (.int v6), .val (.int v7), .val (.int v8), .val (.int v9), .val (.ref b10), .val (.int v33), .val (.int v34), .val (.int v35), .unset, .unset, .unset, .unset, .unset, .unset, .unset, .unset, .unset, .unset, .unset, .unset, .unset] [(.int v35)]))
  refine go (fun _ q => XS.iload X31.here hx rfl (hb hby at_192) rfl q) ?_
  show Go p e below _ (T31.setTop (mkF m 194 #[.val (.int p1), .val (.int p2), .val (.int p3), .val (.int p4), .val (.int p5), .val (.int v1), .val (.int v2), .val (.int v3), .val (.int v4), .val (.int v5), .val (.int v6), .val (.int v7), .val (.int v8), .val (.int v9), .val (.ref b10), .val (.int v33), .val (.int v34), .val (.int v35), .unset, .unset, .unset, .unset, .unset, .unset, .unset, .unset, .unset, .unset, .unset, .unset, .unset] [(.int v9), (.int v35)]))
  refine go (fun _ q => XS.iadd X31.here hx rfl (hb hby at_194) rfl q) ?_
  show Go p e below _ (T31.setTop (mkF m 195 #[.val (.int p1), .val (.int p2), .val (.int p3), .val (.int p4), .val (.int p5), .val (.int v1), .val (.int v2), .val (.int v3), .val (.int v4), .val (.int v5), .val (.int v6), .val (.int v7), .val (.int v8), .val (.int v9), .val (.ref b10), .val (.int v33), .val (.int v34), .val (.int v35), .unset, .unset, .unset, .unset, .unset, .unset, .unset, .unset, .unset, .unset, .unset, .unset, .unset] [(.int (v35 + v9))]))
  refine go (fun _ q => XS.iconst X31.here hx rfl (hb hby at_195) q) ?_
  show Go p e below _ (T31.setTop (mkF m 196 #[.val (.int p1), .val (.int p2), .val (.int p3), .val (.int p4), .val (.int p5), .val (.int v1), .val (.int v2), .val (.int v3), .val (.int v4), .val (.int v5), .val (.int v6), .val (.int v7), .val (.int v8), .val (.int v9), .val (.ref b10), .val (.int v33), .val (.int v34), .val (.int v35), .unset, .unset, .unset, .unset, .unset, .unset, .unset, .unset, .unset, .unset, .unset, .unset, .unset] [(.int (1 : Int32)), (.int (v35 + v9))]))
  refine go (fun _ q => XS.iadd X31.here hx rfl (hb hby at_196) rfl q) ?_
  show Go p e below _ (T31.setTop (mkF m 197 #[.val (.int p1), .val (.int p2), .val (.int p3), .val (.int p4), .val (.int p5), .val (.int v1), .val (.int v2), .val (.int v3), .val (.int v4), .val (.int v5), .val (.int v6), .val (.int v7), .val (.int v8), .val (.int v9), .val (.ref b10), .val (.int v33), .val (.int v34), .val (.int v35), .unset, .unset, .unset, .unset, .unset, .unset, .unset, .unset, .unset, .unset, .unset, .unset, .unset] [(.int ((v35 + v9) + (1 : Int32)))]))
  generalize hv36 : ((v35 + v9) + (1 : Int32)) = v36
  show Go p e below _ (T31.setTop (mkF m 197 #[.val (.int p1), .val (.int p2), .val (.int p3), .val (.int p4), .val (.int p5), .val (.int v1), .val (.int v2), .val (.int v3), .val (.int v4), .val (.int v5), .val (.int v6), .val (.int v7), .val (.int v8), .val (.int v9), .val (.ref b10), .val (.int v33), .val (.int v34), .val (.int v35), .unset, .unset, .unset, .unset, .unset, .unset, .unset, .unset, .unset, .unset, .unset, .unset, .unset] [(.int v36)]))
  refine go (fun _ q => XS.istore X31.here hx rfl (hb hby at_197) rfl (l' := #[.val (.int p1), .val (.int p2), .val (.int p3), .val (.int p4), .val (.int p5), .val (.int v1), .val (.int v2), .val (.int v3), .val (.int v4), .val (.int v5), .val (.int v6), .val (.int v7), .val (.int v8), .val (.int v9), .val (.ref b10), .val (.int v33), .val (.int v34), .val (.int v35), .val (.int v36), .unset, .unset, .unset, .unset, .unset, .unset, .unset, .unset, .unset, .unset, .unset, .unset]) rfl q) ?_
  show Go p e below _ (T31.setTop (mkF m 199 #[.val (.int p1), .val (.int p2), .val (.int p3), .val (.int p4), .val (.int p5), .val (.int v1), .val (.int v2), .val (.int v3), .val (.int v4), .val (.int v5), .val (.int v6), .val (.int v7), .val (.int v8), .val (.int v9), .val (.ref b10), .val (.int v33), .val (.int v34), .val (.int v35), .val (.int v36), .unset, .unset, .unset, .unset, .unset, .unset, .unset, .unset, .unset, .unset, .unset, .unset] []))
  refine go (fun _ q => XS.iload X31.here hx rfl (hb hby at_199) rfl q) ?_
  show Go p e below _ (T31.setTop (mkF m 201 #[.val (.int p1), .val (.int p2), .val (.int p3), .val (.int p4), .val (.int p5), .val (.int v1), .val (.int v2), .val (.int v3), .val (.int v4), .val (.int v5), .val (.int v6), .val (.int v7), .val (.int v8), .val (.int v9), .val (.ref b10), .val (.int v33), .val (.int v34), .val (.int v35), .val (.int v36), .unset, .unset, .unset, .unset, .unset, .unset, .unset, .unset, .unset, .unset, .unset, .unset] [(.int v33)]))
  refine go (fun _ q => XS.iconst X31.here hx rfl (hb hby at_201) q) ?_
  show Go p e below _ (T31.setTop (mkF m 202 #[.val (.int p1), .val (.int p2), .val (.int p3), .val (.int p4), .val (.int p5), .val (.int v1), .val (.int v2), .val (.int v3), .val (.int v4), .val (.int v5), .val (.int v6), .val (.int v7), .val (.int v8), .val (.int v9), .val (.ref b10), .val (.int v33), .val (.int v34), .val (.int v35), .val (.int v36), .unset, .unset, .unset, .unset, .unset, .unset, .unset, .unset, .unset, .unset, .unset, .unset] [(.int (4 : Int32)), (.int v33)]))
  refine go (fun _ q => XS.isub X31.here hx rfl (hb hby at_202) rfl q) ?_
  show Go p e below _ (T31.setTop (mkF m 203 #[.val (.int p1), .val (.int p2), .val (.int p3), .val (.int p4), .val (.int p5), .val (.int v1), .val (.int v2), .val (.int v3), .val (.int v4), .val (.int v5), .val (.int v6), .val (.int v7), .val (.int v8), .val (.int v9), .val (.ref b10), .val (.int v33), .val (.int v34), .val (.int v35), .val (.int v36), .unset, .unset, .unset, .unset, .unset, .unset, .unset, .unset, .unset, .unset, .unset, .unset] [(.int (v33 - (4 : Int32)))]))
  refine go (fun _ q => XS.iloadN X31.here hx rfl (hb hby at_203) rfl q) ?_
  show Go p e below _ (T31.setTop (mkF m 204 #[.val (.int p1), .val (.int p2), .val (.int p3), .val (.int p4), .val (.int p5), .val (.int v1), .val (.int v2), .val (.int v3), .val (.int v4), .val (.int v5), .val (.int v6), .val (.int v7), .val (.int v8), .val (.int v9), .val (.ref b10), .val (.int v33), .val (.int v34), .val (.int v35), .val (.int v36), .unset, .unset, .unset, .unset, .unset, .unset, .unset, .unset, .unset, .unset, .unset, .unset] [(.int p3), (.int (v33 - (4 : Int32)))]))
  refine go (fun _ q => XS.bipush X31.here hx rfl (hb hby at_204) q) ?_
  show Go p e below _ (T31.setTop (mkF m 206 #[.val (.int p1), .val (.int p2), .val (.int p3), .val (.int p4), .val (.int p5), .val (.int v1), .val (.int v2), .val (.int v3), .val (.int v4), .val (.int v5), .val (.int v6), .val (.int v7), .val (.int v8), .val (.int v9), .val (.ref b10), .val (.int v33), .val (.int v34), .val (.int v35), .val (.int v36), .unset, .unset, .unset, .unset, .unset, .unset, .unset, .unset, .unset, .unset, .unset, .unset] [(.int (15 : Int32)), (.int p3), (.int (v33 - (4 : Int32)))]))
  refine go (fun _ q => XS.iand X31.here hx rfl (hb hby at_206) rfl q) ?_
  show Go p e below _ (T31.setTop (mkF m 207 #[.val (.int p1), .val (.int p2), .val (.int p3), .val (.int p4), .val (.int p5), .val (.int v1), .val (.int v2), .val (.int v3), .val (.int v4), .val (.int v5), .val (.int v6), .val (.int v7), .val (.int v8), .val (.int v9), .val (.ref b10), .val (.int v33), .val (.int v34), .val (.int v35), .val (.int v36), .unset, .unset, .unset, .unset, .unset, .unset, .unset, .unset, .unset, .unset, .unset, .unset] [(.int (p3 &&& (15 : Int32))), (.int (v33 - (4 : Int32)))]))
  refine go (fun _ q => XS.iadd X31.here hx rfl (hb hby at_207) rfl q) ?_
  show Go p e below _ (T31.setTop (mkF m 208 #[.val (.int p1), .val (.int p2), .val (.int p3), .val (.int p4), .val (.int p5), .val (.int v1), .val (.int v2), .val (.int v3), .val (.int v4), .val (.int v5), .val (.int v6), .val (.int v7), .val (.int v8), .val (.int v9), .val (.ref b10), .val (.int v33), .val (.int v34), .val (.int v35), .val (.int v36), .unset, .unset, .unset, .unset, .unset, .unset, .unset, .unset, .unset, .unset, .unset, .unset] [(.int ((v33 - (4 : Int32)) + (p3 &&& (15 : Int32))))]))
  generalize hv37 : ((v33 - (4 : Int32)) + (p3 &&& (15 : Int32))) = v37
  show Go p e below _ (T31.setTop (mkF m 208 #[.val (.int p1), .val (.int p2), .val (.int p3), .val (.int p4), .val (.int p5), .val (.int v1), .val (.int v2), .val (.int v3), .val (.int v4), .val (.int v5), .val (.int v6), .val (.int v7), .val (.int v8), .val (.int v9), .val (.ref b10), .val (.int v33), .val (.int v34), .val (.int v35), .val (.int v36), .unset, .unset, .unset, .unset, .unset, .unset, .unset, .unset, .unset, .unset, .unset, .unset] [(.int v37)]))
  refine go (fun _ q => XS.istore X31.here hx rfl (hb hby at_208) rfl (l' := #[.val (.int p1), .val (.int p2), .val (.int p3), .val (.int p4), .val (.int p5), .val (.int v1), .val (.int v2), .val (.int v3), .val (.int v4), .val (.int v5), .val (.int v6), .val (.int v7), .val (.int v8), .val (.int v9), .val (.ref b10), .val (.int v33), .val (.int v34), .val (.int v35), .val (.int v36), .val (.int v37), .unset, .unset, .unset, .unset, .unset, .unset, .unset, .unset, .unset, .unset, .unset]) rfl q) ?_
  show Go p e below _ (T31.setTop (mkF m 210 #[.val (.int p1), .val (.int p2), .val (.int p3), .val (.int p4), .val (.int p5), .val (.int v1), .val (.int v2), .val (.int v3), .val (.int v4), .val (.int v5), .val (.int v6), .val (.int v7), .val (.int v8), .val (.int v9), .val (.ref b10), .val (.int v33), .val (.int v34), .val (.int v35), .val (.int v36), .val (.int v37), .unset, .unset, .unset, .unset, .unset, .unset, .unset, .unset, .unset, .unset, .unset] []))
  refine go (fun _ q => XS.iload X31.here hx rfl (hb hby at_210) rfl q) ?_
  show Go p e below _ (T31.setTop (mkF m 212 #[.val (.int p1), .val (.int p2), .val (.int p3), .val (.int p4), .val (.int p5), .val (.int v1), .val (.int v2), .val (.int v3), .val (.int v4), .val (.int v5), .val (.int v6), .val (.int v7), .val (.int v8), .val (.int v9), .val (.ref b10), .val (.int v33), .val (.int v34), .val (.int v35), .val (.int v36), .val (.int v37), .unset, .unset, .unset, .unset, .unset, .unset, .unset, .unset, .unset, .unset, .unset] [(.int v37)]))
  refine go (fun _ q => XS.iconst X31.here hx rfl (hb hby at_212) q) ?_
  show Go p e below _ (T31.setTop (mkF m 213 #[.val (.int p1), .val (.int p2), .val (.int p3), .val (.int p4), .val (.int p5), .val (.int v1), .val (.int v2), .val (.int v3), .val (.int v4), .val (.int v5), .val (.int v6), .val (.int v7), .val (.int v8), .val (.int v9), .val (.ref b10), .val (.int v33), .val (.int v34), .val (.int v35), .val (.int v36), .val (.int v37), .unset, .unset, .unset, .unset, .unset, .unset, .unset, .unset, .unset, .unset, .unset] [(.int (1 : Int32)), (.int v37)]))
  refine go (fun _ q => XS.iadd X31.here hx rfl (hb hby at_213) rfl q) ?_
  show Go p e below _ (T31.setTop (mkF m 214 #[.val (.int p1), .val (.int p2), .val (.int p3), .val (.int p4), .val (.int p5), .val (.int v1), .val (.int v2), .val (.int v3), .val (.int v4), .val (.int v5), .val (.int v6), .val (.int v7), .val (.int v8), .val (.int v9), .val (.ref b10), .val (.int v33), .val (.int v34), .val (.int v35), .val (.int v36), .val (.int v37), .unset, .unset, .unset, .unset, .unset, .unset, .unset, .unset, .unset, .unset, .unset] [(.int (v37 + (1 : Int32)))]))
  refine go (fun _ q => XS.iloadN X31.here hx rfl (hb hby at_214) rfl q) ?_
  show Go p e below _ (T31.setTop (mkF m 215 #[.val (.int p1), .val (.int p2), .val (.int p3), .val (.int p4), .val (.int p5), .val (.int v1), .val (.int v2), .val (.int v3), .val (.int v4), .val (.int v5), .val (.int v6), .val (.int v7), .val (.int v8), .val (.int v9), .val (.ref b10), .val (.int v33), .val (.int v34), .val (.int v35), .val (.int v36), .val (.int v37), .unset, .unset, .unset, .unset, .unset, .unset, .unset, .unset, .unset, .unset, .unset] [(.int p3), (.int (v37 + (1 : Int32)))]))
  refine go (fun _ q => XS.iconst X31.here hx rfl (hb hby at_215) q) ?_
  show Go p e below _ (T31.setTop (mkF m 216 #[.val (.int p1), .val (.int p2), .val (.int p3), .val (.int p4), .val (.int p5), .val (.int v1), .val (.int v2), .val (.int v3), .val (.int v4), .val (.int v5), .val (.int v6), .val (.int v7), .val (.int v8), .val (.int v9), .val (.ref b10), .val (.int v33), .val (.int v34), .val (.int v35), .val (.int v36), .val (.int v37), .unset, .unset, .unset, .unset, .unset, .unset, .unset, .unset, .unset, .unset, .unset] [(.int (4 : Int32)), (.int p3), (.int (v37 + (1 : Int32)))]))
  refine go (fun _ q => XS.iushr X31.here hx rfl (hb hby at_216) rfl q) ?_
  show Go p e below _ (T31.setTop (mkF m 217 #[.val (.int p1), .val (.int p2), .val (.int p3), .val (.int p4), .val (.int p5), .val (.int v1), .val (.int v2), .val (.int v3), .val (.int v4), .val (.int v5), .val (.int v6), .val (.int v7), .val (.int v8), .val (.int v9), .val (.ref b10), .val (.int v33), .val (.int v34), .val (.int v35), .val (.int v36), .val (.int v37), .unset, .unset, .unset, .unset, .unset, .unset, .unset, .unset, .unset, .unset, .unset] [(.int (((p3).toUInt32 >>> ((4 : Int32) &&& 31).toUInt32).toInt32)), (.int (v37 + (1 : Int32)))]))
  refine go (fun _ q => XS.bipush X31.here hx rfl (hb hby at_217) q) ?_
  show Go p e below _ (T31.setTop (mkF m 219 #[.val (.int p1), .val (.int p2), .val (.int p3), .val (.int p4), .val (.int p5), .val (.int v1), .val (.int v2), .val (.int v3), .val (.int v4), .val (.int v5), .val (.int v6), .val (.int v7), .val (.int v8), .val (.int v9), .val (.ref b10), .val (.int v33), .val (.int v34), .val (.int v35), .val (.int v36), .val (.int v37), .unset, .unset, .unset, .unset, .unset, .unset, .unset, .unset, .unset, .unset, .unset] [(.int (15 : Int32)), (.int (((p3).toUInt32 >>> ((4 : Int32) &&& 31).toUInt32).toInt32)), (.int (v37 + (1 : Int32)))]))
  refine go (fun _ q => XS.iand X31.here hx rfl (hb hby at_219) rfl q) ?_
  show Go p e below _ (T31.setTop (mkF m 220 #[.val (.int p1), .val (.int p2), .val (.int p3), .val (.int p4), .val (.int p5), .val (.int v1), .val (.int v2), .val (.int v3), .val (.int v4), .val (.int v5), .val (.int v6), .val (.int v7), .val (.int v8), .val (.int v9), .val (.ref b10), .val (.int v33), .val (.int v34), .val (.int v35), .val (.int v36), .val (.int v37), .unset, .unset, .unset, .unset, .unset, .unset, .unset, .unset, .unset, .unset, .unset] [(.int ((((p3).toUInt32 >>> ((4 : Int32) &&& 31).toUInt32).toInt32) &&& (15 : Int32))), (.int (v37 + (1 : Int32)))]))
  refine go (fun _ q => XS.iadd X31.here hx rfl (hb hby at_220) rfl q) ?_
  show Go p e below _ (T31.setTop (mkF m 221 #[.val (.int p1), .val (.int p2), .val (.int p3), .val (.int p4), .val (.int p5), .val (.int v1), .val (.int v2), .val (.int v3), .val (.int v4), .val (.int v5), .val (.int v6), .val (.int v7), .val (.int v8), .val (.int v9), .val (.ref b10), .val (.int v33), .val (.int v34), .val (.int v35), .val (.int v36), .val (.int v37), .unset, .unset, .unset, .unset, .unset, .unset, .unset, .unset, .unset, .unset, .unset] [(.int ((v37 + (1 : Int32)) + ((((p3).toUInt32 >>> ((4 : Int32) &&& 31).toUInt32).toInt32) &&& (15 : Int32))))]))
  generalize hv38 : ((v37 + (1 : Int32)) + ((((p3).toUInt32 >>> ((4 : Int32) &&& 31).toUInt32).toInt32) &&& (15 : Int32))) = v38
  show Go p e below _ (T31.setTop (mkF m 221 #[.val (.int p1), .val (.int p2), .val (.int p3), .val (.int p4), .val (.int p5), .val (.int v1), .val (.int v2), .val (.int v3), .val (.int v4), .val (.int v5), .val (.int v6), .val (.int v7), .val (.int v8), .val (.int v9), .val (.ref b10), .val (.int v33), .val (.int v34), .val (.int v35), .val (.int v36), .val (.int v37), .unset, .unset, .unset, .unset, .unset, .unset, .unset, .unset, .unset, .unset, .unset] [(.int v38)]))
  refine go (fun _ q => XS.istore X31.here hx rfl (hb hby at_221) rfl (l' := #[.val (.int p1), .val (.int p2), .val (.int p3), .val (.int p4), .val (.int p5), .val (.int v1), .val (.int v2), .val (.int v3), .val (.int v4), .val (.int v5), .val (.int v6), .val (.int v7), .val (.int v8), .val (.int v9), .val (.ref b10), .val (.int v33), .val (.int v34), .val (.int v35), .val (.int v36), .val (.int v37), .val (.int v38), .unset, .unset, .unset, .unset, .unset, .unset, .unset, .unset, .unset, .unset]) rfl q) ?_
  show Go p e below _ (T31.setTop (mkF m 223 #[.val (.int p1), .val (.int p2), .val (.int p3), .val (.int p4), .val (.int p5), .val (.int v1), .val (.int v2), .val (.int v3), .val (.int v4), .val (.int v5), .val (.int v6), .val (.int v7), .val (.int v8), .val (.int v9), .val (.ref b10), .val (.int v33), .val (.int v34), .val (.int v35), .val (.int v36), .val (.int v37), .val (.int v38), .unset, .unset, .unset, .unset, .unset, .unset, .unset, .unset, .unset, .unset] []))
  refine go (fun _ q => XS.iload X31.here hx rfl (hb hby at_223) rfl q) ?_
  show Go p e below _ (T31.setTop (mkF m 225 #[.val (.int p1), .val (.int p2), .val (.int p3), .val (.int p4), .val (.int p5), .val (.int v1), .val (.int v2), .val (.int v3), .val (.int v4), .val (.int v5), .val (.int v6), .val (.int v7), .val (.int v8), .val (.int v9), .val (.ref b10), .val (.int v33), .val (.int v34), .val (.int v35), .val (.int v36), .val (.int v37), .val (.int v38), .unset, .unset, .unset, .unset, .unset, .unset, .unset, .unset, .unset, .unset] [(.int v38)]))
  refine go (fun _ q => XS.iconst X31.here hx rfl (hb hby at_225) q) ?_
  show Go p e below _ (T31.setTop (mkF m 226 #[.val (.int p1), .val (.int p2), .val (.int p3), .val (.int p4), .val (.int p5), .val (.int v1), .val (.int v2), .val (.int v3), .val (.int v4), .val (.int v5), .val (.int v6), .val (.int v7), .val (.int v8), .val (.int v9), .val (.ref b10), .val (.int v33), .val (.int v34), .val (.int v35), .val (.int v36), .val (.int v37), .val (.int v38), .unset, .unset, .unset, .unset, .unset, .unset, .unset, .unset, .unset, .unset] [(.int (1 : Int32)), (.int v38)]))
  refine go (fun _ q => XS.iadd X31.here hx rfl (hb hby at_226) rfl q) ?_
  show Go p e below _ (T31.setTop (mkF m 227 #[.val (.int p1), .val (.int p2), .val (.int p3), .val (.int p4), .val (.int p5), .val (.int v1), .val (.int v2), .val (.int v3), .val (.int v4), .val (.int v5), .val (.int v6), .val (.int v7), .val (.int v8), .val (.int v9), .val (.ref b10), .val (.int v33), .val (.int v34), .val (.int v35), .val (.int v36), .val (.int v37), .val (.int v38), .unset, .unset, .unset, .unset, .unset, .unset, .unset, .unset, .unset, .unset] [(.int (v38 + (1 : Int32)))]))
  refine go (fun _ q => XS.iloadN X31.here hx rfl (hb hby at_227) rfl q) ?_
  show Go p e below _ (T31.setTop (mkF m 228 #[.val (.int p1), .val (.int p2), .val (.int p3), .val (.int p4), .val (.int p5), .val (.int v1), .val (.int v2), .val (.int v3), .val (.int v4), .val (.int v5), .val (.int v6), .val (.int v7), .val (.int v8), .val (.int v9), .val (.ref b10), .val (.int v33), .val (.int v34), .val (.int v35), .val (.int v36), .val (.int v37), .val (.int v38), .unset, .unset, .unset, .unset, .unset, .unset, .unset, .unset, .unset, .unset] [(.int p3), (.int (v38 + (1 : Int32)))]))
  refine go (fun _ q => XS.bipush X31.here hx rfl (hb hby at_228) q) ?_
  show Go p e below _ (T31.setTop (mkF m 230 #[.val (.int p1), .val (.int p2), .val (.int p3), .val (.int p4), .val (.int p5), .val (.int v1), .val (.int v2), .val (.int v3), .val (.int v4), .val (.int v5), .val (.int v6), .val (.int v7), .val (.int v8), .val (.int v9), .val (.ref b10), .val (.int v33), .val (.int v34), .val (.int v35), .val (.int v36), .val (.int v37), .val (.int v38), .unset, .unset, .unset, .unset, .unset, .unset, .unset, .unset, .unset, .unset] [(.int (8 : Int32)), (.int p3), (.int (v38 + (1 : Int32)))]))
  refine go (fun _ q => XS.iushr X31.here hx rfl (hb hby at_230) rfl q) ?_
  show Go p e below _ (T31.setTop (mkF m 231 #[.val (.int p1), .val (.int p2), .val (.int p3), .val (.int p4), .val (.int p5), .val (.int v1), .val (.int v2), .val (.int v3), .val (.int v4), .val (.int v5), .val (.int v6), .val (.int v7), .val (.int v8), .val (.int v9), .val (.ref b10), .val (.int v33), .val (.int v34), .val (.int v35), .val (.int v36), .val (.int v37), .val (.int v38), .unset, .unset, .unset, .unset, .unset, .unset, .unset, .unset, .unset, .unset] [(.int (((p3).toUInt32 >>> ((8 : Int32) &&& 31).toUInt32).toInt32)), (.int (v38 + (1 : Int32)))]))
  refine go (fun _ q => XS.bipush X31.here hx rfl (hb hby at_231) q) ?_
  show Go p e below _ (T31.setTop (mkF m 233 #[.val (.int p1), .val (.int p2), .val (.int p3), .val (.int p4), .val (.int p5), .val (.int v1), .val (.int v2), .val (.int v3), .val (.int v4), .val (.int v5), .val (.int v6), .val (.int v7), .val (.int v8), .val (.int v9), .val (.ref b10), .val (.int v33), .val (.int v34), .val (.int v35), .val (.int v36), .val (.int v37), .val (.int v38), .unset, .unset, .unset, .unset, .unset, .unset, .unset, .unset, .unset, .unset] [(.int (15 : Int32)), (.int (((p3).toUInt32 >>> ((8 : Int32) &&& 31).toUInt32).toInt32)), (.int (v38 + (1 : Int32)))]))
  refine go (fun _ q => XS.iand X31.here hx rfl (hb hby at_233) rfl q) ?_
  show Go p e below _ (T31.setTop (mkF m 234 #[.val (.int p1), .val (.int p2), .val (.int p3), .val (.int p4), .val (.int p5), .val (.int v1), .val (.int v2), .val (.int v3), .val (.int v4), .val (.int v5), .val (.int v6), .val (.int v7), .val (.int v8), .val (.int v9), .val (.ref b10), .val (.int v33), .val (.int v34), .val (.int v35), .val (.int v36), .val (.int v37), .val (.int v38), .unset, .unset, .unset, .unset, .unset, .unset, .unset, .unset, .unset, .unset] [(.int ((((p3).toUInt32 >>> ((8 : Int32) &&& 31).toUInt32).toInt32) &&& (15 : Int32))), (.int (v38 + (1 : Int32)))]))
  refine go (fun _ q => XS.iadd X31.here hx rfl (hb hby at_234) rfl q) ?_
  show Go p e below _ (T31.setTop (mkF m 235 #[.val (.int p1), .val (.int p2), .val (.int p3), .val (.int p4), .val (.int p5), .val (.int v1), .val (.int v2), .val (.int v3), .val (.int v4), .val (.int v5), .val (.int v6), .val (.int v7), .val (.int v8), .val (.int v9), .val (.ref b10), .val (.int v33), .val (.int v34), .val (.int v35), .val (.int v36), .val (.int v37), .val (.int v38), .unset, .unset, .unset, .unset, .unset, .unset, .unset, .unset, .unset, .unset] [(.int ((v38 + (1 : Int32)) + ((((p3).toUInt32 >>> ((8 : Int32) &&& 31).toUInt32).toInt32) &&& (15 : Int32))))]))
  generalize hv39 : ((v38 + (1 : Int32)) + ((((p3).toUInt32 >>> ((8 : Int32) &&& 31).toUInt32).toInt32) &&& (15 : Int32))) = v39
  show Go p e below _ (T31.setTop (mkF m 235 #[.val (.int p1), .val (.int p2), .val (.int p3), .val (.int p4), .val (.int p5), .val (.int v1), .val (.int v2), .val (.int v3), .val (.int v4), .val (.int v5), .val (.int v6), .val (.int v7), .val (.int v8), .val (.int v9), .val (.ref b10), .val (.int v33), .val (.int v34), .val (.int v35), .val (.int v36), .val (.int v37), .val (.int v38), .unset, .unset, .unset, .unset, .unset, .unset, .unset, .unset, .unset, .unset] [(.int v39)]))
  refine go (fun _ q => XS.istore X31.here hx rfl (hb hby at_235) rfl (l' := #[.val (.int p1), .val (.int p2), .val (.int p3), .val (.int p4), .val (.int p5), .val (.int v1), .val (.int v2), .val (.int v3), .val (.int v4), .val (.int v5), .val (.int v6), .val (.int v7), .val (.int v8), .val (.int v9), .val (.ref b10), .val (.int v33), .val (.int v34), .val (.int v35), .val (.int v36), .val (.int v37), .val (.int v38), .val (.int v39), .unset, .unset, .unset, .unset, .unset, .unset, .unset, .unset, .unset]) rfl q) ?_
  show Go p e below _ (T31.setTop (mkF m 237 #[.val (.int p1), .val (.int p2), .val (.int p3), .val (.int p4), .val (.int p5), .val (.int v1), .val (.int v2), .val (.int v3), .val (.int v4), .val (.int v5), .val (.int v6), .val (.int v7), .val (.int v8), .val (.int v9), .val (.ref b10), .val (.int v33), .val (.int v34), .val (.int v35), .val (.int v36), .val (.int v37), .val (.int v38), .val (.int v39), .unset, .unset, .unset, .unset, .unset, .unset, .unset, .unset, .unset] []))
  refine go (fun _ q => XS.iload X31.here hx rfl (hb hby at_237) rfl q) ?_
  show Go p e below _ (T31.setTop (mkF m 239 #[.val (.int p1), .val (.int p2), .val (.int p3), .val (.int p4), .val (.int p5), .val (.int v1), .val (.int v2), .val (.int v3), .val (.int v4), .val (.int v5), .val (.int v6), .val (.int v7), .val (.int v8), .val (.int v9), .val (.ref b10), .val (.int v33), .val (.int v34), .val (.int v35), .val (.int v36), .val (.int v37), .val (.int v38), .val (.int v39), .unset, .unset, .unset, .unset, .unset, .unset, .unset, .unset, .unset] [(.int v39)]))
  refine go (fun _ q => XS.iconst X31.here hx rfl (hb hby at_239) q) ?_
  show Go p e below _ (T31.setTop (mkF m 240 #[.val (.int p1), .val (.int p2), .val (.int p3), .val (.int p4), .val (.int p5), .val (.int v1), .val (.int v2), .val (.int v3), .val (.int v4), .val (.int v5), .val (.int v6), .val (.int v7), .val (.int v8), .val (.int v9), .val (.ref b10), .val (.int v33), .val (.int v34), .val (.int v35), .val (.int v36), .val (.int v37), .val (.int v38), .val (.int v39), .unset, .unset, .unset, .unset, .unset, .unset, .unset, .unset, .unset] [(.int (1 : Int32)), (.int v39)]))
  refine go (fun _ q => XS.iadd X31.here hx rfl (hb hby at_240) rfl q) ?_
  show Go p e below _ (T31.setTop (mkF m 241 #[.val (.int p1), .val (.int p2), .val (.int p3), .val (.int p4), .val (.int p5), .val (.int v1), .val (.int v2), .val (.int v3), .val (.int v4), .val (.int v5), .val (.int v6), .val (.int v7), .val (.int v8), .val (.int v9), .val (.ref b10), .val (.int v33), .val (.int v34), .val (.int v35), .val (.int v36), .val (.int v37), .val (.int v38), .val (.int v39), .unset, .unset, .unset, .unset, .unset, .unset, .unset, .unset, .unset] [(.int (v39 + (1 : Int32)))]))
  refine go (fun _ q => XS.iloadN X31.here hx rfl (hb hby at_241) rfl q) ?_
  show Go p e below _ (T31.setTop (mkF m 242 #[.val (.int p1), .val (.int p2), .val (.int p3), .val (.int p4), .val (.int p5), .val (.int v1), .val (.int v2), .val (.int v3), .val (.int v4), .val (.int v5), .val (.int v6), .val (.int v7), .val (.int v8), .val (.int v9), .val (.ref b10), .val (.int v33), .val (.int v34), .val (.int v35), .val (.int v36), .val (.int v37), .val (.int v38), .val (.int v39), .unset, .unset, .unset, .unset, .unset, .unset, .unset, .unset, .unset] [(.int p3), (.int (v39 + (1 : Int32)))]))
  refine go (fun _ q => XS.bipush X31.here hx rfl (hb hby at_242) q) ?_
  show Go p e below _ (T31.setTop (mkF m 244 #[.val (.int p1), .val (.int p2), .val (.int p3), .val (.int p4), .val (.int p5), .val (.int v1), .val (.int v2), .val (.int v3), .val (.int v4), .val (.int v5), .val (.int v6), .val (.int v7), .val (.int v8), .val (.int v9), .val (.ref b10), .val (.int v33), .val (.int v34), .val (.int v35), .val (.int v36), .val (.int v37), .val (.int v38), .val (.int v39), .unset, .unset, .unset, .unset, .unset, .unset, .unset, .unset, .unset] [(.int (12 : Int32)), (.int p3), (.int (v39 + (1 : Int32)))]))
  refine go (fun _ q => XS.iushr X31.here hx rfl (hb hby at_244) rfl q) ?_
  show Go p e below _ (T31.setTop (mkF m 245 #[.val (.int p1), .val (.int p2), .val (.int p3), .val (.int p4), .val (.int p5), .val (.int v1), .val (.int v2), .val (.int v3), .val (.int v4), .val (.int v5), .val (.int v6), .val (.int v7), .val (.int v8), .val (.int v9), .val (.ref b10), .val (.int v33), .val (.int v34), .val (.int v35), .val (.int v36), .val (.int v37), .val (.int v38), .val (.int v39), .unset, .unset, .unset, .unset, .unset, .unset, .unset, .unset, .unset] [(.int (((p3).toUInt32 >>> ((12 : Int32) &&& 31).toUInt32).toInt32)), (.int (v39 + (1 : Int32)))]))
  refine go (fun _ q => XS.bipush X31.here hx rfl (hb hby at_245) q) ?_
  show Go p e below _ (T31.setTop (mkF m 247 #[.val (.int p1), .val (.int p2), .val (.int p3), .val (.int p4), .val (.int p5), .val (.int v1), .val (.int v2), .val (.int v3), .val (.int v4), .val (.int v5), .val (.int v6), .val (.int v7), .val (.int v8), .val (.int v9), .val (.ref b10), .val (.int v33), .val (.int v34), .val (.int v35), .val (.int v36), .val (.int v37), .val (.int v38), .val (.int v39), .unset, .unset, .unset, .unset, .unset, .unset, .unset, .unset, .unset] [(.int (15 : Int32)), (.int (((p3).toUInt32 >>> ((12 : Int32) &&& 31).toUInt32).toInt32)), (.int (v39 + (1 : Int32)))]))
  refine go (fun _ q => XS.iand X31.here hx rfl (hb hby at_247) rfl q) ?_
  show Go p e below _ (T31.setTop (mkF m 248 #[.val (.int p1), .val (.int p2), .val (.int p3), .val (.int p4), .val (.int p5), .val (.int v1), .val (.int v2), .val (.int v3), .val (.int v4), .val (.int v5), .val (.int v6), .val (.int v7), .val (.int v8), .val (.int v9), .val (.ref b10), .val (.int v33), .val (.int v34), .val (.int v35), .val (.int v36), .val (.int v37), .val (.int v38), .val (.int v39), .unset, .unset, .unset, .unset, .unset, .unset, .unset, .unset, .unset] [(.int ((((p3).toUInt32 >>> ((12 : Int32) &&& 31).toUInt32).toInt32) &&& (15 : Int32))), (.int (v39 + (1 : Int32)))]))
  refine go (fun _ q => XS.iadd X31.here hx rfl (hb hby at_248) rfl q) ?_
  show Go p e below _ (T31.setTop (mkF m 249 #[.val (.int p1), .val (.int p2), .val (.int p3), .val (.int p4), .val (.int p5), .val (.int v1), .val (.int v2), .val (.int v3), .val (.int v4), .val (.int v5), .val (.int v6), .val (.int v7), .val (.int v8), .val (.int v9), .val (.ref b10), .val (.int v33), .val (.int v34), .val (.int v35), .val (.int v36), .val (.int v37), .val (.int v38), .val (.int v39), .unset, .unset, .unset, .unset, .unset, .unset, .unset, .unset, .unset] [(.int ((v39 + (1 : Int32)) + ((((p3).toUInt32 >>> ((12 : Int32) &&& 31).toUInt32).toInt32) &&& (15 : Int32))))]))
  generalize hv40 : ((v39 + (1 : Int32)) + ((((p3).toUInt32 >>> ((12 : Int32) &&& 31).toUInt32).toInt32) &&& (15 : Int32))) = v40
  show Go p e below _ (T31.setTop (mkF m 249 #[.val (.int p1), .val (.int p2), .val (.int p3), .val (.int p4), .val (.int p5), .val (.int v1), .val (.int v2), .val (.int v3), .val (.int v4), .val (.int v5), .val (.int v6), .val (.int v7), .val (.int v8), .val (.int v9), .val (.ref b10), .val (.int v33), .val (.int v34), .val (.int v35), .val (.int v36), .val (.int v37), .val (.int v38), .val (.int v39), .unset, .unset, .unset, .unset, .unset, .unset, .unset, .unset, .unset] [(.int v40)]))
  refine go (fun _ q => XS.istore X31.here hx rfl (hb hby at_249) rfl (l' := #[.val (.int p1), .val (.int p2), .val (.int p3), .val (.int p4), .val (.int p5), .val (.int v1), .val (.int v2), .val (.int v3), .val (.int v4), .val (.int v5), .val (.int v6), .val (.int v7), .val (.int v8), .val (.int v9), .val (.ref b10), .val (.int v33), .val (.int v34), .val (.int v35), .val (.int v36), .val (.int v37), .val (.int v38), .val (.int v39), .val (.int v40), .unset, .unset, .unset, .unset, .unset, .unset, .unset, .unset]) rfl q) ?_
  show Go p e below _ (T31.setTop (mkF m 251 #[.val (.int p1), .val (.int p2), .val (.int p3), .val (.int p4), .val (.int p5), .val (.int v1), .val (.int v2), .val (.int v3), .val (.int v4), .val (.int v5), .val (.int v6), .val (.int v7), .val (.int v8), .val (.int v9), .val (.ref b10), .val (.int v33), .val (.int v34), .val (.int v35), .val (.int v36), .val (.int v37), .val (.int v38), .val (.int v39), .val (.int v40), .unset, .unset, .unset, .unset, .unset, .unset, .unset, .unset] []))
  refine go (fun _ q => XS.iconst X31.here hx rfl (hb hby at_251) q) ?_
  show Go p e below _ (T31.setTop (mkF m 252 #[.val (.int p1), .val (.int p2), .val (.int p3), .val (.int p4), .val (.int p5), .val (.int v1), .val (.int v2), .val (.int v3), .val (.int v4), .val (.int v5), .val (.int v6), .val (.int v7), .val (.int v8), .val (.int v9), .val (.ref b10), .val (.int v33), .val (.int v34), .val (.int v35), .val (.int v36), .val (.int v37), .val (.int v38), .val (.int v39), .val (.int v40), .unset, .unset, .unset, .unset, .unset, .unset, .unset, .unset] [(.int (4 : Int32))]))
  obtain ⟨T41, h41, k41, X41, e41, E41, A41, st41⟩ := newP X31 hx hZ (hw _ (List.mem_of_getElem? (i := 1) rfl)) rfl (g := (mkF m 252 #[.val (.int p1), .val (.int p2), .val (.int p3), .val (.int p4), .val (.int p5), .val (.int v1), .val (.int v2), .val (.int v3), .val (.int v4), .val (.int v5), .val (.int v6), .val (.int v7), .val (.int v8), .val (.int v9), .val (.ref b10), .val (.int v33), .val (.int v34), .val (.int v35), .val (.int v36), .val (.int v37), .val (.int v38), .val (.int v39), .val (.int v40), .unset, .unset, .unset, .unset, .unset, .unset, .unset, .unset] [(.int (4 : Int32))])) rfl (hb hby at_252) rfl (by decide) (cap := 4) (by decide) (by decide) (by decide) (by decide)
  obtain ⟨b41, g41⟩ : ∃ z, z = T31.heap.size := ⟨_, rfl⟩
  rw [← g41] at A41 st41
  refine go st41 ?_
  have ne_b10_b41 : b10 ≠ b41 := Nat.ne_of_lt (Nat.lt_of_lt_of_le Pxs32.lt (Nat.le_of_eq g41.symm))
  have g_b41 : n0 ≤ b41 := Nat.le_trans Z31 (Nat.le_of_eq g41.symm)
  have Z41 : n0 ≤ h41.size := Nat.le_trans Z31 E41.1
  have P_42 : Ari Z h41 b10 xs32 := Pxs32.ext E41
  have P41 : Ari Z h41 b41 ([(0 : Int32), (0 : Int32), (0 : Int32), (0 : Int32)] : List Int32) := own_fresh A41 (by decide) (m := 4) rfl
  show Go p e below _ (T41.setTop (mkF m 254 #[.val (.int p1), .val (.int p2), .val (.int p3), .val (.int p4), .val (.int p5), .val (.int v1), .val (.int v2), .val (.int v3), .val (.int v4), .val (.int v5), .val (.int v6), .val (.int v7), .val (.int v8), .val (.int v9), .val (.ref b10), .val (.int v33), .val (.int v34), .val (.int v35), .val (.int v36), .val (.int v37), .val (.int v38), .val (.int v39), .val (.int v40), .unset, .unset, .unset, .unset, .unset, .unset, .unset, .unset] [(.ref b41)]))
  refine go (fun _ q => XS.astore X41.here hx rfl (hb hby at_254) rfl rfl (l' := #[.val (.int p1), .val (.int p2), .val (.int p3), .val (.int p4), .val (.int p5), .val (.int v1), .val (.int v2), .val (.int v3), .val (.int v4), .val (.int v5), .val (.int v6), .val (.int v7), .val (.int v8), .val (.int v9), .val (.ref b10), .val (.int v33), .val (.int v34), .val (.int v35), .val (.int v36), .val (.int v37), .val (.int v38), .val (.int v39), .val (.int v40), .val (.ref b41), .unset, .unset, .unset, .unset, .unset, .unset, .unset]) rfl q) ?_
  show Go p e below _ (T41.setTop (mkF m 256 #[.val (.int p1), .val (.int p2), .val (.int p3), .val (.int p4), .val (.int p5), .val (.int v1), .val (.int v2), .val (.int v3), .val (.int v4), .val (.int v5), .val (.int v6), .val (.int v7), .val (.int v8), .val (.int v9), .val (.ref b10), .val (.int v33), .val (.int v34), .val (.int v35), .val (.int v36), .val (.int v37), .val (.int v38), .val (.int v39), .val (.int v40), .val (.ref b41), .unset, .unset, .unset, .unset, .unset, .unset, .unset] []))
  refine go (fun _ q => XS.aload X41.here hx rfl (hb hby at_256) rfl rfl q) ?_
  show Go p e below _ (T41.setTop (mkF m 258 #[.val (.int p1), .val (.int p2), .val (.int p3), .val (.int p4), .val (.int p5), .val (.int v1), .val (.int v2), .val (.int v3), .val (.int v4), .val (.int v5), .val (.int v6), .val (.int v7), .val (.int v8), .val (.int v9), .val (.ref b10), .val (.int v33), .val (.int v34), .val (.int v35), .val (.int v36), .val (.int v37), .val (.int v38), .val (.int v39), .val (.int v40), .val (.ref b41), .unset, .unset, .unset, .unset, .unset, .unset, .unset] [(.ref b41)]))
  refine go (fun _ q => XS.iconst X41.here hx rfl (hb hby at_258) q) ?_
  show Go p e below _ (T41.setTop (mkF m 259 #[.val (.int p1), .val (.int p2), .val (.int p3), .val (.int p4), .val (.int p5), .val (.int v1), .val (.int v2), .val (.int v3), .val (.int v4), .val (.int v5), .val (.int v6), .val (.int v7), .val (.int v8), .val (.int v9), .val (.ref b10), .val (.int v33), .val (.int v34), .val (.int v35), .val (.int v36), .val (.int v37), .val (.int v38), .val (.int v39), .val (.int v40), .val (.ref b41), .unset, .unset, .unset, .unset, .unset, .unset, .unset] [(.int (0 : Int32)), (.ref b41)]))
  refine go (fun _ q => XS.iload X41.here hx rfl (hb hby at_259) rfl q) ?_
  show Go p e below _ (T41.setTop (mkF m 261 #[.val (.int p1), .val (.int p2), .val (.int p3), .val (.int p4), .val (.int p5), .val (.int v1), .val (.int v2), .val (.int v3), .val (.int v4), .val (.int v5), .val (.int v6), .val (.int v7), .val (.int v8), .val (.int v9), .val (.ref b10), .val (.int v33), .val (.int v34), .val (.int v35), .val (.int v36), .val (.int v37), .val (.int v38), .val (.int v39), .val (.int v40), .val (.ref b41), .unset, .unset, .unset, .unset, .unset, .unset, .unset] [(.int v37), (.int (0 : Int32)), (.ref b41)]))
  obtain ⟨T43, h43, X43, e43, W43, V43, st43⟩ := own_iastore X41 hx hZ e41 P41 (j := (0 : Int32)) (x := v37) (by decide) (Nat.le_of_ble_eq_true rfl) (g := (mkF m 261 #[.val (.int p1), .val (.int p2), .val (.int p3), .val (.int p4), .val (.int p5), .val (.int v1), .val (.int v2), .val (.int v3), .val (.int v4), .val (.int v5), .val (.int v6), .val (.int v7), .val (.int v8), .val (.int v9), .val (.ref b10), .val (.int v33), .val (.int v34), .val (.int v35), .val (.int v36), .val (.int v37), .val (.int v38), .val (.int v39), .val (.int v40), .val (.ref b41), .unset, .unset, .unset, .unset, .unset, .unset, .unset] [(.int v37), (.int (0 : Int32)), (.ref b41)])) rfl rfl (hb hby at_261)
  refine go st43 ?_
  have P43 : Ari Z h43 b41 ([v37, (0 : Int32), (0 : Int32), (0 : Int32)] : List Int32) := V43
  have P_44 : Ari Z h43 b10 xs32 := P_42.other W43 ne_b10_b41
  have N43 := Fr.snoc X43 N31 g_b41
  have Z43 : n0 ≤ h43.size := Nat.le_trans Z41 (Nat.le_of_eq W43.size.symm)
  show Go p e below _ (T43.setTop (mkF m 262 #[.val (.int p1), .val (.int p2), .val (.int p3), .val (.int p4), .val (.int p5), .val (.int v1), .val (.int v2), .val (.int v3), .val (.int v4), .val (.int v5), .val (.int v6), .val (.int v7), .val (.int v8), .val (.int v9), .val (.ref b10), .val (.int v33), .val (.int v34), .val (.int v35), .val (.int v36), .val (.int v37), .val (.int v38), .val (.int v39), .val (.int v40), .val (.ref b41), .unset, .unset, .unset, .unset, .unset, .unset, .unset] []))
  refine go (fun _ q => XS.aload X43.here hx rfl (hb hby at_262) rfl rfl q) ?_
  show Go p e below _ (T43.setTop (mkF m 264 #[.val (.int p1), .val (.int p2), .val (.int p3), .val (.int p4), .val (.int p5), .val (.int v1), .val (.int v2), .val (.int v3), .val (.int v4), .val (.int v5), .val (.int v6), .val (.int v7), .val (.int v8), .val (.int v9), .val (.ref b10), .val (.int v33), .val (.int v34), .val (.int v35), .val (.int v36), .val (.int v37), .val (.int v38), .val (.int v39), .val (.int v40), .val (.ref b41), .unset, .unset, .unset, .unset, .unset, .unset, .unset] [(.ref b41)]))
  refine go (fun _ q => XS.iconst X43.here hx rfl (hb hby at_264) q) ?_
  show Go p e below _ (T43.setTop (mkF m 265 #[.val (.int p1), .val (.int p2), .val (.int p3), .val (.int p4), .val (.int p5), .val (.int v1), .val (.int v2), .val (.int v3), .val (.int v4), .val (.int v5), .val (.int v6), .val (.int v7), .val (.int v8), .val (.int v9), .val (.ref b10), .val (.int v33), .val (.int v34), .val (.int v35), .val (.int v36), .val (.int v37), .val (.int v38), .val (.int v39), .val (.int v40), .val (.ref b41), .unset, .unset, .unset, .unset, .unset, .unset, .unset] [(.int (1 : Int32)), (.ref b41)]))
  refine go (fun _ q => XS.iload X43.here hx rfl (hb hby at_265) rfl q) ?_
  show Go p e below _ (T43.setTop (mkF m 267 #[.val (.int p1), .val (.int p2), .val (.int p3), .val (.int p4), .val (.int p5), .val (.int v1), .val (.int v2), .val (.int v3), .val (.int v4), .val (.int v5), .val (.int v6), .val (.int v7), .val (.int v8), .val (.int v9), .val (.ref b10), .val (.int v33), .val (.int v34), .val (.int v35), .val (.int v36), .val (.int v37), .val (.int v38), .val (.int v39), .val (.int v40), .val (.ref b41), .unset, .unset, .unset, .unset, .unset, .unset, .unset] [(.int v38), (.int (1 : Int32)), (.ref b41)]))
  obtain ⟨T45, h45, X45, e45, W45, V45, st45⟩ := own_iastore X43 hx hZ e43 P43 (j := (1 : Int32)) (x := v38) (by decide) (Nat.le_of_ble_eq_true rfl) (g := (mkF m 267 #[.val (.int p1), .val (.int p2), .val (.int p3), .val (.int p4), .val (.int p5), .val (.int v1), .val (.int v2), .val (.int v3), .val (.int v4), .val (.int v5), .val (.int v6), .val (.int v7), .val (.int v8), .val (.int v9), .val (.ref b10), .val (.int v33), .val (.int v34), .val (.int v35), .val (.int v36), .val (.int v37), .val (.int v38), .val (.int v39), .val (.int v40), .val (.ref b41), .unset, .unset, .unset, .unset, .unset, .unset, .unset] [(.int v38), (.int (1 : Int32)), (.ref b41)])) rfl rfl (hb hby at_267)
  refine go st45 ?_
  have P45 : Ari Z h45 b41 ([v37, v38, (0 : Int32), (0 : Int32)] : List Int32) := V45
  have P_46 : Ari Z h45 b10 xs32 := P_44.other W45 ne_b10_b41
  have N45 := Fr.snoc X45 N43 g_b41
  have Z45 : n0 ≤ h45.size := Nat.le_trans Z43 (Nat.le_of_eq W45.size.symm)
  show Go p e below _ (T45.setTop (mkF m 268 #[.val (.int p1), .val (.int p2), .val (.int p3), .val (.int p4), .val (.int p5), .val (.int v1), .val (.int v2), .val (.int v3), .val (.int v4), .val (.int v5), .val (.int v6), .val (.int v7), .val (.int v8), .val (.int v9), .val (.ref b10), .val (.int v33), .val (.int v34), .val (.int v35), .val (.int v36), .val (.int v37), .val (.int v38), .val (.int v39), .val (.int v40), .val (.ref b41), .unset, .unset, .unset, .unset, .unset, .unset, .unset] []))
  refine go (fun _ q => XS.aload X45.here hx rfl (hb hby at_268) rfl rfl q) ?_
  show Go p e below _ (T45.setTop (mkF m 270 #[.val (.int p1), .val (.int p2), .val (.int p3), .val (.int p4), .val (.int p5), .val (.int v1), .val (.int v2), .val (.int v3), .val (.int v4), .val (.int v5), .val (.int v6), .val (.int v7), .val (.int v8), .val (.int v9), .val (.ref b10), .val (.int v33), .val (.int v34), .val (.int v35), .val (.int v36), .val (.int v37), .val (.int v38), .val (.int v39), .val (.int v40), .val (.ref b41), .unset, .unset, .unset, .unset, .unset, .unset, .unset] [(.ref b41)]))
  refine go (fun _ q => XS.iconst X45.here hx rfl (hb hby at_270) q) ?_
  show Go p e below _ (T45.setTop (mkF m 271 #[.val (.int p1), .val (.int p2), .val (.int p3), .val (.int p4), .val (.int p5), .val (.int v1), .val (.int v2), .val (.int v3), .val (.int v4), .val (.int v5), .val (.int v6), .val (.int v7), .val (.int v8), .val (.int v9), .val (.ref b10), .val (.int v33), .val (.int v34), .val (.int v35), .val (.int v36), .val (.int v37), .val (.int v38), .val (.int v39), .val (.int v40), .val (.ref b41), .unset, .unset, .unset, .unset, .unset, .unset, .unset] [(.int (2 : Int32)), (.ref b41)]))
  refine go (fun _ q => XS.iload X45.here hx rfl (hb hby at_271) rfl q) ?_
  show Go p e below _ (T45.setTop (mkF m 273 #[.val (.int p1), .val (.int p2), .val (.int p3), .val (.int p4), .val (.int p5), .val (.int v1), .val (.int v2), .val (.int v3), .val (.int v4), .val (.int v5), .val (.int v6), .val (.int v7), .val (.int v8), .val (.int v9), .val (.ref b10), .val (.int v33), .val (.int v34), .val (.int v35), .val (.int v36), .val (.int v37), .val (.int v38), .val (.int v39), .val (.int v40), .val (.ref b41), .unset, .unset, .unset, .unset, .unset, .unset, .unset] [(.int v39), (.int (2 : Int32)), (.ref b41)]))
  obtain ⟨T47, h47, X47, e47, W47, V47, st47⟩ := own_iastore X45 hx hZ e45 P45 (j := (2 : Int32)) (x := v39) (by decide) (Nat.le_of_ble_eq_true rfl) (g := (mkF m 273 #[.val (.int p1), .val (.int p2), .val (.int p3), .val (.int p4), .val (.int p5), .val (.int v1), .val (.int v2), .val (.int v3), .val (.int v4), .val (.int v5), .val (.int v6), .val (.int v7), .val (.int v8), .val (.int v9), .val (.ref b10), .val (.int v33), .val (.int v34), .val (.int v35), .val (.int v36), .val (.int v37), .val (.int v38), .val (.int v39), .val (.int v40), .val (.ref b41), .unset, .unset, .unset, .unset, .unset, .unset, .unset] [(.int v39), (.int (2 : Int32)), (.ref b41)])) rfl rfl (hb hby at_273)
  refine go st47 ?_
  have P47 : Ari Z h47 b41 ([v37, v38, v39, (0 : Int32)] : List Int32) := V47
  have P_48 : Ari Z h47 b10 xs32 := P_46.other W47 ne_b10_b41
  have N47 := Fr.snoc X47 N45 g_b41
  have Z47 : n0 ≤ h47.size := Nat.le_trans Z45 (Nat.le_of_eq W47.size.symm)
  show Go p e below _ (T47.setTop (mkF m 274 #[.val (.int p1), .val (.int p2), .val (.int p3), .val (.int p4), .val (.int p5), .val (.int v1), .val (.int v2), .val (.int v3), .val (.int v4), .val (.int v5), .val (.int v6), .val (.int v7), .val (.int v8), .val (.int v9), .val (.ref b10), .val (.int v33), .val (.int v34), .val (.int v35), .val (.int v36), .val (.int v37), .val (.int v38), .val (.int v39), .val (.int v40), .val (.ref b41), .unset, .unset, .unset, .unset, .unset, .unset, .unset] []))
  refine go (fun _ q => XS.aload X47.here hx rfl (hb hby at_274) rfl rfl q) ?_
  show Go p e below _ (T47.setTop (mkF m 276 #[.val (.int p1), .val (.int p2), .val (.int p3), .val (.int p4), .val (.int p5), .val (.int v1), .val (.int v2), .val (.int v3), .val (.int v4), .val (.int v5), .val (.int v6), .val (.int v7), .val (.int v8), .val (.int v9), .val (.ref b10), .val (.int v33), .val (.int v34), .val (.int v35), .val (.int v36), .val (.int v37), .val (.int v38), .val (.int v39), .val (.int v40), .val (.ref b41), .unset, .unset, .unset, .unset, .unset, .unset, .unset] [(.ref b41)]))
  refine go (fun _ q => XS.iconst X47.here hx rfl (hb hby at_276) q) ?_
  show Go p e below _ (T47.setTop (mkF m 277 #[.val (.int p1), .val (.int p2), .val (.int p3), .val (.int p4), .val (.int p5), .val (.int v1), .val (.int v2), .val (.int v3), .val (.int v4), .val (.int v5), .val (.int v6), .val (.int v7), .val (.int v8), .val (.int v9), .val (.ref b10), .val (.int v33), .val (.int v34), .val (.int v35), .val (.int v36), .val (.int v37), .val (.int v38), .val (.int v39), .val (.int v40), .val (.ref b41), .unset, .unset, .unset, .unset, .unset, .unset, .unset] [(.int (3 : Int32)), (.ref b41)]))
  refine go (fun _ q => XS.iload X47.here hx rfl (hb hby at_277) rfl q) ?_
  show Go p e below _ (T47.setTop (mkF m 279 #[.val (.int p1), .val (.int p2), .val (.int p3), .val (.int p4), .val (.int p5), .val (.int v1), .val (.int v2), .val (.int v3), .val (.int v4), .val (.int v5), .val (.int v6), .val (.int v7), .val (.int v8), .val (.int v9), .val (.ref b10), .val (.int v33), .val (.int v34), .val (.int v35), .val (.int v36), .val (.int v37), .val (.int v38), .val (.int v39), .val (.int v40), .val (.ref b41), .unset, .unset, .unset, .unset, .unset, .unset, .unset] [(.int v40), (.int (3 : Int32)), (.ref b41)]))
  obtain ⟨T49, h49, X49, e49, W49, V49, st49⟩ := own_iastore X47 hx hZ e47 P47 (j := (3 : Int32)) (x := v40) (by decide) (Nat.le_of_ble_eq_true rfl) (g := (mkF m 279 #[.val (.int p1), .val (.int p2), .val (.int p3), .val (.int p4), .val (.int p5), .val (.int v1), .val (.int v2), .val (.int v3), .val (.int v4), .val (.int v5), .val (.int v6), .val (.int v7), .val (.int v8), .val (.int v9), .val (.ref b10), .val (.int v33), .val (.int v34), .val (.int v35), .val (.int v36), .val (.int v37), .val (.int v38), .val (.int v39), .val (.int v40), .val (.ref b41), .unset, .unset, .unset, .unset, .unset, .unset, .unset] [(.int v40), (.int (3 : Int32)), (.ref b41)])) rfl rfl (hb hby at_279)
  refine go st49 ?_
  have P49 : Ari Z h49 b41 ([v37, v38, v39, v40] : List Int32) := V49
  have P_50 : Ari Z h49 b10 xs32 := P_48.other W49 ne_b10_b41
  have N49 := Fr.snoc X49 N47 g_b41
  have Z49 : n0 ≤ h49.size := Nat.le_trans Z47 (Nat.le_of_eq W49.size.symm)
  show Go p e below _ (T49.setTop (mkF m 280 #[.val (.int p1), .val (.int p2), .val (.int p3), .val (.int p4), .val (.int p5), .val (.int v1), .val (.int v2), .val (.int v3), .val (.int v4), .val (.int v5), .val (.int v6), .val (.int v7), .val (.int v8), .val (.int v9), .val (.ref b10), .val (.int v33), .val (.int v34), .val (.int v35), .val (.int v36), .val (.int v37), .val (.int v38), .val (.int v39), .val (.int v40), .val (.ref b41), .unset, .unset, .unset, .unset, .unset, .unset, .unset] []))
  obtain ⟨fr, own_frb, own_p2⟩ := own_frn own_fr01
  obtain ⟨f, own_fb, own_fe⟩ := own_fn hv1
  obtain ⟨ct, own_cb, own_p5⟩ := own_cn hv2
  obtain ⟨tl, own_dr⟩ := own_gaps own_frb own_p2 own_fb own_fe hxs22 hxs27 hxs32
  refine go (fun _ q => XS.aload X49.here hx rfl (hb hby at_280) rfl rfl q) ?_
  show Go p e below _ (T49.setTop (mkF m 282 #[.val (.int p1), .val (.int p2), .val (.int p3), .val (.int p4), .val (.int p5), .val (.int v1), .val (.int v2), .val (.int v3), .val (.int v4), .val (.int v5), .val (.int v6), .val (.int v7), .val (.int v8), .val (.int v9), .val (.ref b10), .val (.int v33), .val (.int v34), .val (.int v35), .val (.int v36), .val (.int v37), .val (.int v38), .val (.int v39), .val (.int v40), .val (.ref b41), .unset, .unset, .unset, .unset, .unset, .unset, .unset] [(.ref b10)]))
  refine go (fun _ q => XS.iload X49.here hx rfl (hb hby at_282) rfl q) ?_
  show Go p e below _ (T49.setTop (mkF m 284 #[.val (.int p1), .val (.int p2), .val (.int p3), .val (.int p4), .val (.int p5), .val (.int v1), .val (.int v2), .val (.int v3), .val (.int v4), .val (.int v5), .val (.int v6), .val (.int v7), .val (.int v8), .val (.int v9), .val (.ref b10), .val (.int v33), .val (.int v34), .val (.int v35), .val (.int v36), .val (.int v37), .val (.int v38), .val (.int v39), .val (.int v40), .val (.ref b41), .unset, .unset, .unset, .unset, .unset, .unset, .unset] [(.int v3), (.ref b10)]))
  refine go (fun _ q => XS.iload X49.here hx rfl (hb hby at_284) rfl q) ?_
  show Go p e below _ (T49.setTop (mkF m 286 #[.val (.int p1), .val (.int p2), .val (.int p3), .val (.int p4), .val (.int p5), .val (.int v1), .val (.int v2), .val (.int v3), .val (.int v4), .val (.int v5), .val (.int v6), .val (.int v7), .val (.int v8), .val (.int v9), .val (.ref b10), .val (.int v33), .val (.int v34), .val (.int v35), .val (.int v36), .val (.int v37), .val (.int v38), .val (.int v39), .val (.int v40), .val (.ref b41), .unset, .unset, .unset, .unset, .unset, .unset, .unset] [(.int v1), (.int v3), (.ref b10)]))
  refine go (fun _ q => XS.aload X49.here hx rfl (hb hby at_286) rfl rfl q) ?_
  show Go p e below _ (T49.setTop (mkF m 288 #[.val (.int p1), .val (.int p2), .val (.int p3), .val (.int p4), .val (.int p5), .val (.int v1), .val (.int v2), .val (.int v3), .val (.int v4), .val (.int v5), .val (.int v6), .val (.int v7), .val (.int v8), .val (.int v9), .val (.ref b10), .val (.int v33), .val (.int v34), .val (.int v35), .val (.int v36), .val (.int v37), .val (.int v38), .val (.int v39), .val (.int v40), .val (.ref b41), .unset, .unset, .unset, .unset, .unset, .unset, .unset] [(.ref b41), (.int v1), (.int v3), (.ref b10)]))
  refine go (fun _ q => XS.iload X49.here hx rfl (hb hby at_288) rfl q) ?_
  show Go p e below _ (T49.setTop (mkF m 290 #[.val (.int p1), .val (.int p2), .val (.int p3), .val (.int p4), .val (.int p5), .val (.int v1), .val (.int v2), .val (.int v3), .val (.int v4), .val (.int v5), .val (.int v6), .val (.int v7), .val (.int v8), .val (.int v9), .val (.ref b10), .val (.int v33), .val (.int v34), .val (.int v35), .val (.int v36), .val (.int v37), .val (.int v38), .val (.int v39), .val (.int v40), .val (.ref b41), .unset, .unset, .unset, .unset, .unset, .unset, .unset] [(.int v2), (.ref b41), (.int v1), (.int v3), (.ref b10)]))
  refine go (fun _ q => XS.iload X49.here hx rfl (hb hby at_290) rfl q) ?_
  show Go p e below _ (T49.setTop (mkF m 292 #[.val (.int p1), .val (.int p2), .val (.int p3), .val (.int p4), .val (.int p5), .val (.int v1), .val (.int v2), .val (.int v3), .val (.int v4), .val (.int v5), .val (.int v6), .val (.int v7), .val (.int v8), .val (.int v9), .val (.ref b10), .val (.int v33), .val (.int v34), .val (.int v35), .val (.int v36), .val (.int v37), .val (.int v38), .val (.int v39), .val (.int v40), .val (.ref b41), .unset, .unset, .unset, .unset, .unset, .unset, .unset] [(.int v4), (.int v2), (.ref b41), (.int v1), (.int v3), (.ref b10)]))
  refine own_callS X49 hx hZ hown e49 (hw _ (List.mem_of_getElem? (i := 2) rfl)) (hw _ (List.mem_of_getElem? (i := 3) rfl)) (hw _ (List.mem_of_getElem? (i := 4) rfl)) (hw _ (List.mem_of_getElem? (i := 5) rfl)) (rmK l Z a0 hw [] b10 v3 v1 b41 v2 v4 h49 n0 Z49 g_b41 ne_b10_b41 P_50 lxs32 P49 rfl (by rw [own_gl own_fb]; omega) own_p2 (by rw [own_gl own_fb, own_p2, own_fe, ← Int32.ofNat_add]; congr 1; omega) own_dr (own_td v37 v38 v39 v40 ct) (by rw [own_sl own_cb]; exact own_p5) (by rw [own_sl own_cb]; exact own_cb)) (by decide) (by decide) (W := 0) (by decide) (by decide) (by decide) (g := (mkF m 292 #[.val (.int p1), .val (.int p2), .val (.int p3), .val (.int p4), .val (.int p5), .val (.int v1), .val (.int v2), .val (.int v3), .val (.int v4), .val (.int v5), .val (.int v6), .val (.int v7), .val (.int v8), .val (.int v9), .val (.ref b10), .val (.int v33), .val (.int v34), .val (.int v35), .val (.int v36), .val (.int v37), .val (.int v38), .val (.int v39), .val (.int v40), .val (.ref b41), .unset, .unset, .unset, .unset, .unset, .unset, .unset] [(.int v4), (.int v2), (.ref b41), (.int v1), (.int v3), (.ref b10)])) rfl (by rw [hml]; rfl) (argsL := [(.ref b10), (.int v3), (.int v1), (.ref b41), (.int v2), (.int v4)]) (rest := []) rfl rfl (lenOf pd_0_0 rfl) (by show 2 * 0 + _ ≤ _; exact Nat.le_of_eq rfl) (hb hby at_292) ?_
  rintro _ T51 L51 X51 ⟨rfl, N51q, Qr51⟩
  have N51 := Fr.app N49 N51q
  obtain ⟨A51, Zq51, K51, PA51, lA51, tA51⟩ := Qr51
  have P_52 : Ari Z T51.heap b10 xs32 := P_50.keep K51 (ninS ne_b10_b41 nin0)
  show Go p e below _ (T51.setTop (mkF m 295 #[.val (.int p1), .val (.int p2), .val (.int p3), .val (.int p4), .val (.int p5), .val (.int v1), .val (.int v2), .val (.int v3), .val (.int v4), .val (.int v5), .val (.int v6), .val (.int v7), .val (.int v8), .val (.int v9), .val (.ref b10), .val (.int v33), .val (.int v34), .val (.int v35), .val (.int v36), .val (.int v37), .val (.int v38), .val (.int v39), .val (.int v40), .val (.ref b41), .unset, .unset, .unset, .unset, .unset, .unset, .unset] [(.int (Int32.ofNat (own_ks (v6 - v4) (([v7, v8, v9] : List Int32).take f) (([v37, v38, v39, v40] : List Int32).take ct) []).length))]))
  generalize hv53 : (Int32.ofNat (own_ks (v6 - v4) (([v7, v8, v9] : List Int32).take f) (([v37, v38, v39, v40] : List Int32).take ct) []).length) = v53
  show Go p e below _ (T51.setTop (mkF m 295 #[.val (.int p1), .val (.int p2), .val (.int p3), .val (.int p4), .val (.int p5), .val (.int v1), .val (.int v2), .val (.int v3), .val (.int v4), .val (.int v5), .val (.int v6), .val (.int v7), .val (.int v8), .val (.int v9), .val (.ref b10), .val (.int v33), .val (.int v34), .val (.int v35), .val (.int v36), .val (.int v37), .val (.int v38), .val (.int v39), .val (.int v40), .val (.ref b41), .unset, .unset, .unset, .unset, .unset, .unset, .unset] [(.int v53)]))
  refine go (fun _ q => XS.istore X51.here hx rfl (hb hby at_295) rfl (l' := #[.val (.int p1), .val (.int p2), .val (.int p3), .val (.int p4), .val (.int p5), .val (.int v1), .val (.int v2), .val (.int v3), .val (.int v4), .val (.int v5), .val (.int v6), .val (.int v7), .val (.int v8), .val (.int v9), .val (.ref b10), .val (.int v33), .val (.int v34), .val (.int v35), .val (.int v36), .val (.int v37), .val (.int v38), .val (.int v39), .val (.int v40), .val (.ref b41), .val (.int v53), .unset, .unset, .unset, .unset, .unset, .unset]) rfl q) ?_
  show Go p e below _ (T51.setTop (mkF m 297 #[.val (.int p1), .val (.int p2), .val (.int p3), .val (.int p4), .val (.int p5), .val (.int v1), .val (.int v2), .val (.int v3), .val (.int v4), .val (.int v5), .val (.int v6), .val (.int v7), .val (.int v8), .val (.int v9), .val (.ref b10), .val (.int v33), .val (.int v34), .val (.int v35), .val (.int v36), .val (.int v37), .val (.int v38), .val (.int v39), .val (.int v40), .val (.ref b41), .val (.int v53), .unset, .unset, .unset, .unset, .unset, .unset] []))
  have b0 := own_q0 hv6 hv4 hv33
  have b1 := own_15 hv7
  have b2 := own_15 hv8
  have b3 := own_15 hv9
  have r1 := own_qs (B := 1073741823) ⟨by omega, by omega⟩ (by decide) b1 hv34
  have r2 := own_qs (B := 1073741900) ⟨by omega, by omega⟩ (by decide) b2 hv35
  have r3 := own_qs (B := 1073741950) ⟨by omega, by omega⟩ (by decide) b3 hv36
  have t0 := own_s0 b0 hv37
  have t1 := own_ss (B := 1073741900) t0 (by decide) hv38
  have t2 := own_ss (B := 1073741916) ⟨by omega, by omega⟩ (by decide) hv39
  have t3 := own_ss (B := 1073741932) ⟨by omega, by omega⟩ (by decide) hv40
  have own_pq := own_posq (f := f) own_fb hv34 hv35 hv36
  have own_kf : own_ks (v6 - v4) (([v7, v8, v9] : List Int32).take f) (([v37, v38, v39, v40] : List Int32).take ct) [] = (([v37, v38, v39, v40] : List Int32).take ct).filter (fun y => decide (y ∈ own_pos v33 (([v7, v8, v9] : List Int32).take f))) := by
    rw [hv33]
    exact (own_ksf (([v37, v38, v39, v40] : List Int32).take ct) v33 (([v7, v8, v9] : List Int32).take f) [] (by rw [own_pq]; exact own_pw4 (by omega) (by omega) (by omega) _) (own_pw4 (by omega) (by omega) (by omega) _)).trans (List.nil_append _)
  refine go (fun _ q => XS.iload X51.here hx rfl (hb hby at_297) rfl q) ?_
  show Go p e below _ (T51.setTop (mkF m 299 #[.val (.int p1), .val (.int p2), .val (.int p3), .val (.int p4), .val (.int p5), .val (.int v1), .val (.int v2), .val (.int v3), .val (.int v4), .val (.int v5), .val (.int v6), .val (.int v7), .val (.int v8), .val (.int v9), .val (.ref b10), .val (.int v33), .val (.int v34), .val (.int v35), .val (.int v36), .val (.int v37), .val (.int v38), .val (.int v39), .val (.int v40), .val (.ref b41), .val (.int v53), .unset, .unset, .unset, .unset, .unset, .unset] [(.int v2)]))
  suffices hj54 : ∀ (T59 : State) (L59 : List Loc), Stand p l e room_1 s m #[(.int p1), (.int p2), (.int p3), (.int p4), (.int p5)] below meth c T59 L59 2 10 → Fr n0 L59 → T59.heap = T51.heap → ∀ (z58 : Int32), z58 = (if (0 : Int32) < v2 then (if (f2 v37 v1 v33 v34 v35 v36) = (0 : Int32) then (0 : Int32) else (1 : Int32)) else (0 : Int32)) → Go p e below (Dn below s ((Q0 n0)) room_1.cells room_1.slots) (T59.setTop (mkF m 325 #[.val (.int p1), .val (.int p2), .val (.int p3), .val (.int p4), .val (.int p5), .val (.int v1), .val (.int v2), .val (.int v3), .val (.int v4), .val (.int v5), .val (.int v6), .val (.int v7), .val (.int v8), .val (.int v9), .val (.ref b10), .val (.int v33), .val (.int v34), .val (.int v35), .val (.int v36), .val (.int v37), .val (.int v38), .val (.int v39), .val (.int v40), .val (.ref b41), .val (.int v53), .unset, .unset, .unset, .unset, .unset, .unset] [(.int z58)])) by
    by_cases hc55 : (0 : Int32) < v2
    · refine go (fun _ q => XS.ifNo X51.here hx rfl (hb hby at_299) rfl ((if0 _ _).trans (tlt hc55).2.2.2) q) ?_
      show Go p e below _ (T51.setTop (mkF m 302 #[.val (.int p1), .val (.int p2), .val (.int p3), .val (.int p4), .val (.int p5), .val (.int v1), .val (.int v2), .val (.int v3), .val (.int v4), .val (.int v5), .val (.int v6), .val (.int v7), .val (.int v8), .val (.int v9), .val (.ref b10), .val (.int v33), .val (.int v34), .val (.int v35), .val (.int v36), .val (.int v37), .val (.int v38), .val (.int v39), .val (.int v40), .val (.ref b41), .val (.int v53), .unset, .unset, .unset, .unset, .unset, .unset] []))
      refine go (fun _ q => XS.iload X51.here hx rfl (hb hby at_302) rfl q) ?_
      show Go p e below _ (T51.setTop (mkF m 304 #[.val (.int p1), .val (.int p2), .val (.int p3), .val (.int p4), .val (.int p5), .val (.int v1), .val (.int v2), .val (.int v3), .val (.int v4), .val (.int v5), .val (.int v6), .val (.int v7), .val (.int v8), .val (.int v9), .val (.ref b10), .val (.int v33), .val (.int v34), .val (.int v35), .val (.int v36), .val (.int v37), .val (.int v38), .val (.int v39), .val (.int v40), .val (.ref b41), .val (.int v53), .unset, .unset, .unset, .unset, .unset, .unset] [(.int v37)]))
      refine go (fun _ q => XS.iload X51.here hx rfl (hb hby at_304) rfl q) ?_
      show Go p e below _ (T51.setTop (mkF m 306 #[.val (.int p1), .val (.int p2), .val (.int p3), .val (.int p4), .val (.int p5), .val (.int v1), .val (.int v2), .val (.int v3), .val (.int v4), .val (.int v5), .val (.int v6), .val (.int v7), .val (.int v8), .val (.int v9), .val (.ref b10), .val (.int v33), .val (.int v34), .val (.int v35), .val (.int v36), .val (.int v37), .val (.int v38), .val (.int v39), .val (.int v40), .val (.ref b41), .val (.int v53), .unset, .unset, .unset, .unset, .unset, .unset] [(.int v1), (.int v37)]))
      refine go (fun _ q => XS.iload X51.here hx rfl (hb hby at_306) rfl q) ?_
      show Go p e below _ (T51.setTop (mkF m 308 #[.val (.int p1), .val (.int p2), .val (.int p3), .val (.int p4), .val (.int p5), .val (.int v1), .val (.int v2), .val (.int v3), .val (.int v4), .val (.int v5), .val (.int v6), .val (.int v7), .val (.int v8), .val (.int v9), .val (.ref b10), .val (.int v33), .val (.int v34), .val (.int v35), .val (.int v36), .val (.int v37), .val (.int v38), .val (.int v39), .val (.int v40), .val (.ref b41), .val (.int v53), .unset, .unset, .unset, .unset, .unset, .unset] [(.int v33), (.int v1), (.int v37)]))
      refine go (fun _ q => XS.iload X51.here hx rfl (hb hby at_308) rfl q) ?_
      show Go p e below _ (T51.setTop (mkF m 310 #[.val (.int p1), .val (.int p2), .val (.int p3), .val (.int p4), .val (.int p5), .val (.int v1), .val (.int v2), .val (.int v3), .val (.int v4), .val (.int v5), .val (.int v6), .val (.int v7), .val (.int v8), .val (.int v9), .val (.ref b10), .val (.int v33), .val (.int v34), .val (.int v35), .val (.int v36), .val (.int v37), .val (.int v38), .val (.int v39), .val (.int v40), .val (.ref b41), .val (.int v53), .unset, .unset, .unset, .unset, .unset, .unset] [(.int v34), (.int v33), (.int v1), (.int v37)]))
      refine go (fun _ q => XS.iload X51.here hx rfl (hb hby at_310) rfl q) ?_
      show Go p e below _ (T51.setTop (mkF m 312 #[.val (.int p1), .val (.int p2), .val (.int p3), .val (.int p4), .val (.int p5), .val (.int v1), .val (.int v2), .val (.int v3), .val (.int v4), .val (.int v5), .val (.int v6), .val (.int v7), .val (.int v8), .val (.int v9), .val (.ref b10), .val (.int v33), .val (.int v34), .val (.int v35), .val (.int v36), .val (.int v37), .val (.int v38), .val (.int v39), .val (.int v40), .val (.ref b41), .val (.int v53), .unset, .unset, .unset, .unset, .unset, .unset] [(.int v35), (.int v34), (.int v33), (.int v1), (.int v37)]))
      refine go (fun _ q => XS.iload X51.here hx rfl (hb hby at_312) rfl q) ?_
      show Go p e below _ (T51.setTop (mkF m 314 #[.val (.int p1), .val (.int p2), .val (.int p3), .val (.int p4), .val (.int p5), .val (.int v1), .val (.int v2), .val (.int v3), .val (.int v4), .val (.int v5), .val (.int v6), .val (.int v7), .val (.int v8), .val (.int v9), .val (.ref b10), .val (.int v33), .val (.int v34), .val (.int v35), .val (.int v36), .val (.int v37), .val (.int v38), .val (.int v39), .val (.int v40), .val (.ref b41), .val (.int v53), .unset, .unset, .unset, .unset, .unset, .unset] [(.int v36), (.int v35), (.int v34), (.int v33), (.int v1), (.int v37)]))
      refine own_callS X51 hx hZ hown rfl (hw _ (List.mem_of_getElem? (i := 6) rfl)) (hw _ (List.mem_of_getElem? (i := 7) rfl)) (hw _ (List.mem_of_getElem? (i := 8) rfl)) (hw _ (List.mem_of_getElem? (i := 9) rfl)) (rm2 l Z a0 hw [] v37 v1 v33 v34 v35 v36 T51.heap n0) (by decide) (by decide) (W := 0) (by decide) (by decide) (by decide) (g := (mkF m 314 #[.val (.int p1), .val (.int p2), .val (.int p3), .val (.int p4), .val (.int p5), .val (.int v1), .val (.int v2), .val (.int v3), .val (.int v4), .val (.int v5), .val (.int v6), .val (.int v7), .val (.int v8), .val (.int v9), .val (.ref b10), .val (.int v33), .val (.int v34), .val (.int v35), .val (.int v36), .val (.int v37), .val (.int v38), .val (.int v39), .val (.int v40), .val (.ref b41), .val (.int v53), .unset, .unset, .unset, .unset, .unset, .unset] [(.int v36), (.int v35), (.int v34), (.int v33), (.int v1), (.int v37)])) rfl (by rw [hml]; rfl) (argsL := [(.int v37), (.int v1), (.int v33), (.int v34), (.int v35), (.int v36)]) (rest := []) rfl rfl (lenOf pd_0_1 rfl) (by show 2 * 0 + _ ≤ _; exact Nat.le_of_eq rfl) (hb hby at_314) ?_
      rintro _ T56 L56 X56 ⟨rfl, N56q, e56⟩
      have N56 := Fr.app N51 N56q
      show Go p e below _ (T56.setTop (mkF m 317 #[.val (.int p1), .val (.int p2), .val (.int p3), .val (.int p4), .val (.int p5), .val (.int v1), .val (.int v2), .val (.int v3), .val (.int v4), .val (.int v5), .val (.int v6), .val (.int v7), .val (.int v8), .val (.int v9), .val (.ref b10), .val (.int v33), .val (.int v34), .val (.int v35), .val (.int v36), .val (.int v37), .val (.int v38), .val (.int v39), .val (.int v40), .val (.ref b41), .val (.int v53), .unset, .unset, .unset, .unset, .unset, .unset] [(.int (f2 v37 v1 v33 v34 v35 v36))]))
      by_cases hc57 : (f2 v37 v1 v33 v34 v35 v36) = (0 : Int32)
      · refine go (fun _ q => XS.ifYes X56.here hx rfl (pc0 := 317) (pc' := 324) rfl (hb hby at_317) rfl ((if0 _ _).trans (teq hc57).1) (by decide) (by decide) q) ?_
        show Go p e below _ (T56.setTop (mkF m 324 #[.val (.int p1), .val (.int p2), .val (.int p3), .val (.int p4), .val (.int p5), .val (.int v1), .val (.int v2), .val (.int v3), .val (.int v4), .val (.int v5), .val (.int v6), .val (.int v7), .val (.int v8), .val (.int v9), .val (.ref b10), .val (.int v33), .val (.int v34), .val (.int v35), .val (.int v36), .val (.int v37), .val (.int v38), .val (.int v39), .val (.int v40), .val (.ref b41), .val (.int v53), .unset, .unset, .unset, .unset, .unset, .unset] []))
        refine go (fun _ q => XS.iconst X56.here hx rfl (hb hby at_324) q) ?_
        show Go p e below _ (T56.setTop (mkF m 325 #[.val (.int p1), .val (.int p2), .val (.int p3), .val (.int p4), .val (.int p5), .val (.int v1), .val (.int v2), .val (.int v3), .val (.int v4), .val (.int v5), .val (.int v6), .val (.int v7), .val (.int v8), .val (.int v9), .val (.ref b10), .val (.int v33), .val (.int v34), .val (.int v35), .val (.int v36), .val (.int v37), .val (.int v38), .val (.int v39), .val (.int v40), .val (.ref b41), .val (.int v53), .unset, .unset, .unset, .unset, .unset, .unset] [(.int (0 : Int32))]))
        exact hj54 T56 _ X56 N56 e56 _ (by rw [if_pos hc55, if_pos hc57])
      · refine go (fun _ q => XS.ifNo X56.here hx rfl (hb hby at_317) rfl ((if0 _ _).trans (feq hc57).1) q) ?_
        show Go p e below _ (T56.setTop (mkF m 320 #[.val (.int p1), .val (.int p2), .val (.int p3), .val (.int p4), .val (.int p5), .val (.int v1), .val (.int v2), .val (.int v3), .val (.int v4), .val (.int v5), .val (.int v6), .val (.int v7), .val (.int v8), .val (.int v9), .val (.ref b10), .val (.int v33), .val (.int v34), .val (.int v35), .val (.int v36), .val (.int v37), .val (.int v38), .val (.int v39), .val (.int v40), .val (.ref b41), .val (.int v53), .unset, .unset, .unset, .unset, .unset, .unset] []))
        refine go (fun _ q => XS.iconst X56.here hx rfl (hb hby at_320) q) ?_
        show Go p e below _ (T56.setTop (mkF m 321 #[.val (.int p1), .val (.int p2), .val (.int p3), .val (.int p4), .val (.int p5), .val (.int v1), .val (.int v2), .val (.int v3), .val (.int v4), .val (.int v5), .val (.int v6), .val (.int v7), .val (.int v8), .val (.int v9), .val (.ref b10), .val (.int v33), .val (.int v34), .val (.int v35), .val (.int v36), .val (.int v37), .val (.int v38), .val (.int v39), .val (.int v40), .val (.ref b41), .val (.int v53), .unset, .unset, .unset, .unset, .unset, .unset] [(.int (1 : Int32))]))
        refine go (fun _ q => XS.goto X56.here hx rfl (pc0 := 321) (pc' := 325) rfl (hb hby at_321) (by decide) (by decide) q) ?_
        show Go p e below _ (T56.setTop (mkF m 325 #[.val (.int p1), .val (.int p2), .val (.int p3), .val (.int p4), .val (.int p5), .val (.int v1), .val (.int v2), .val (.int v3), .val (.int v4), .val (.int v5), .val (.int v6), .val (.int v7), .val (.int v8), .val (.int v9), .val (.ref b10), .val (.int v33), .val (.int v34), .val (.int v35), .val (.int v36), .val (.int v37), .val (.int v38), .val (.int v39), .val (.int v40), .val (.ref b41), .val (.int v53), .unset, .unset, .unset, .unset, .unset, .unset] [(.int (1 : Int32))]))
        exact hj54 T56 _ X56 N56 e56 _ (by rw [if_pos hc55, if_neg hc57])
    · refine go (fun _ q => XS.ifYes X51.here hx rfl (pc0 := 299) (pc' := 324) rfl (hb hby at_299) rfl ((if0 _ _).trans (flt hc55).2.2.2) (by decide) (by decide) q) ?_
      show Go p e below _ (T51.setTop (mkF m 324 #[.val (.int p1), .val (.int p2), .val (.int p3), .val (.int p4), .val (.int p5), .val (.int v1), .val (.int v2), .val (.int v3), .val (.int v4), .val (.int v5), .val (.int v6), .val (.int v7), .val (.int v8), .val (.int v9), .val (.ref b10), .val (.int v33), .val (.int v34), .val (.int v35), .val (.int v36), .val (.int v37), .val (.int v38), .val (.int v39), .val (.int v40), .val (.ref b41), .val (.int v53), .unset, .unset, .unset, .unset, .unset, .unset] []))
      refine go (fun _ q => XS.iconst X51.here hx rfl (hb hby at_324) q) ?_
      show Go p e below _ (T51.setTop (mkF m 325 #[.val (.int p1), .val (.int p2), .val (.int p3), .val (.int p4), .val (.int p5), .val (.int v1), .val (.int v2), .val (.int v3), .val (.int v4), .val (.int v5), .val (.int v6), .val (.int v7), .val (.int v8), .val (.int v9), .val (.ref b10), .val (.int v33), .val (.int v34), .val (.int v35), .val (.int v36), .val (.int v37), .val (.int v38), .val (.int v39), .val (.int v40), .val (.ref b41), .val (.int v53), .unset, .unset, .unset, .unset, .unset, .unset] [(.int (0 : Int32))]))
      exact hj54 T51 _ X51 N51 rfl _ (by rw [if_neg hc55])
  intro T59 L59 X59 N59 e59 z58 hz58
  show Go p e below _ (T59.setTop (mkF m 325 #[.val (.int p1), .val (.int p2), .val (.int p3), .val (.int p4), .val (.int p5), .val (.int v1), .val (.int v2), .val (.int v3), .val (.int v4), .val (.int v5), .val (.int v6), .val (.int v7), .val (.int v8), .val (.int v9), .val (.ref b10), .val (.int v33), .val (.int v34), .val (.int v35), .val (.int v36), .val (.int v37), .val (.int v38), .val (.int v39), .val (.int v40), .val (.ref b41), .val (.int v53), .unset, .unset, .unset, .unset, .unset, .unset] [(.int z58)]))
  refine go (fun _ q => XS.istore X59.here hx rfl (hb hby at_325) rfl (l' := #[.val (.int p1), .val (.int p2), .val (.int p3), .val (.int p4), .val (.int p5), .val (.int v1), .val (.int v2), .val (.int v3), .val (.int v4), .val (.int v5), .val (.int v6), .val (.int v7), .val (.int v8), .val (.int v9), .val (.ref b10), .val (.int v33), .val (.int v34), .val (.int v35), .val (.int v36), .val (.int v37), .val (.int v38), .val (.int v39), .val (.int v40), .val (.ref b41), .val (.int v53), .val (.int z58), .unset, .unset, .unset, .unset, .unset]) rfl q) ?_
  show Go p e below _ (T59.setTop (mkF m 327 #[.val (.int p1), .val (.int p2), .val (.int p3), .val (.int p4), .val (.int p5), .val (.int v1), .val (.int v2), .val (.int v3), .val (.int v4), .val (.int v5), .val (.int v6), .val (.int v7), .val (.int v8), .val (.int v9), .val (.ref b10), .val (.int v33), .val (.int v34), .val (.int v35), .val (.int v36), .val (.int v37), .val (.int v38), .val (.int v39), .val (.int v40), .val (.ref b41), .val (.int v53), .val (.int z58), .unset, .unset, .unset, .unset, .unset] []))
  have own_m0 := own_mi (i := 0) own_fb own_fe own_cb own_p5 (by decide) own_pq hz58
  refine go (fun _ q => XS.iload X59.here hx rfl (hb hby at_327) rfl q) ?_
  show Go p e below _ (T59.setTop (mkF m 329 #[.val (.int p1), .val (.int p2), .val (.int p3), .val (.int p4), .val (.int p5), .val (.int v1), .val (.int v2), .val (.int v3), .val (.int v4), .val (.int v5), .val (.int v6), .val (.int v7), .val (.int v8), .val (.int v9), .val (.ref b10), .val (.int v33), .val (.int v34), .val (.int v35), .val (.int v36), .val (.int v37), .val (.int v38), .val (.int v39), .val (.int v40), .val (.ref b41), .val (.int v53), .val (.int z58), .unset, .unset, .unset, .unset, .unset] [(.int v2)]))
  refine go (fun _ q => XS.iconst X59.here hx rfl (hb hby at_329) q) ?_
  show Go p e below _ (T59.setTop (mkF m 330 #[.val (.int p1), .val (.int p2), .val (.int p3), .val (.int p4), .val (.int p5), .val (.int v1), .val (.int v2), .val (.int v3), .val (.int v4), .val (.int v5), .val (.int v6), .val (.int v7), .val (.int v8), .val (.int v9), .val (.ref b10), .val (.int v33), .val (.int v34), .val (.int v35), .val (.int v36), .val (.int v37), .val (.int v38), .val (.int v39), .val (.int v40), .val (.ref b41), .val (.int v53), .val (.int z58), .unset, .unset, .unset, .unset, .unset] [(.int (1 : Int32)), (.int v2)]))
  suffices hj60 : ∀ (T65 : State) (L65 : List Loc), Stand p l e room_1 s m #[(.int p1), (.int p2), (.int p3), (.int p4), (.int p5)] below meth c T65 L65 2 10 → Fr n0 L65 → T65.heap = T51.heap → ∀ (z64 : Int32), z64 = (if (1 : Int32) < v2 then (if (f2 v38 v1 v33 v34 v35 v36) = (0 : Int32) then (0 : Int32) else (1 : Int32)) else (0 : Int32)) → Go p e below (Dn below s ((Q0 n0)) room_1.cells room_1.slots) (T65.setTop (mkF m 356 #[.val (.int p1), .val (.int p2), .val (.int p3), .val (.int p4), .val (.int p5), .val (.int v1), .val (.int v2), .val (.int v3), .val (.int v4), .val (.int v5), .val (.int v6), .val (.int v7), .val (.int v8), .val (.int v9), .val (.ref b10), .val (.int v33), .val (.int v34), .val (.int v35), .val (.int v36), .val (.int v37), .val (.int v38), .val (.int v39), .val (.int v40), .val (.ref b41), .val (.int v53), .val (.int z58), .unset, .unset, .unset, .unset, .unset] [(.int z64)])) by
    by_cases hc61 : (1 : Int32) < v2
    · refine go (fun _ q => XS.icmpNo X59.here hx rfl (hb hby at_330) rfl (tlt hc61).2.2.2 q) ?_
      show Go p e below _ (T59.setTop (mkF m 333 #[.val (.int p1), .val (.int p2), .val (.int p3), .val (.int p4), .val (.int p5), .val (.int v1), .val (.int v2), .val (.int v3), .val (.int v4), .val (.int v5), .val (.int v6), .val (.int v7), .val (.int v8), .val (.int v9), .val (.ref b10), .val (.int v33), .val (.int v34), .val (.int v35), .val (.int v36), .val (.int v37), .val (.int v38), .val (.int v39), .val (.int v40), .val (.ref b41), .val (.int v53), .val (.int z58), .unset, .unset, .unset, .unset, .unset] []))
      refine go (fun _ q => XS.iload X59.here hx rfl (hb hby at_333) rfl q) ?_
      show Go p e below _ (T59.setTop (mkF m 335 #[.val (.int p1), .val (.int p2), .val (.int p3), .val (.int p4), .val (.int p5), .val (.int v1), .val (.int v2), .val (.int v3), .val (.int v4), .val (.int v5), .val (.int v6), .val (.int v7), .val (.int v8), .val (.int v9), .val (.ref b10), .val (.int v33), .val (.int v34), .val (.int v35), .val (.int v36), .val (.int v37), .val (.int v38), .val (.int v39), .val (.int v40), .val (.ref b41), .val (.int v53), .val (.int z58), .unset, .unset, .unset, .unset, .unset] [(.int v38)]))
      refine go (fun _ q => XS.iload X59.here hx rfl (hb hby at_335) rfl q) ?_
      show Go p e below _ (T59.setTop (mkF m 337 #[.val (.int p1), .val (.int p2), .val (.int p3), .val (.int p4), .val (.int p5), .val (.int v1), .val (.int v2), .val (.int v3), .val (.int v4), .val (.int v5), .val (.int v6), .val (.int v7), .val (.int v8), .val (.int v9), .val (.ref b10), .val (.int v33), .val (.int v34), .val (.int v35), .val (.int v36), .val (.int v37), .val (.int v38), .val (.int v39), .val (.int v40), .val (.ref b41), .val (.int v53), .val (.int z58), .unset, .unset, .unset, .unset, .unset] [(.int v1), (.int v38)]))
      refine go (fun _ q => XS.iload X59.here hx rfl (hb hby at_337) rfl q) ?_
      show Go p e below _ (T59.setTop (mkF m 339 #[.val (.int p1), .val (.int p2), .val (.int p3), .val (.int p4), .val (.int p5), .val (.int v1), .val (.int v2), .val (.int v3), .val (.int v4), .val (.int v5), .val (.int v6), .val (.int v7), .val (.int v8), .val (.int v9), .val (.ref b10), .val (.int v33), .val (.int v34), .val (.int v35), .val (.int v36), .val (.int v37), .val (.int v38), .val (.int v39), .val (.int v40), .val (.ref b41), .val (.int v53), .val (.int z58), .unset, .unset, .unset, .unset, .unset] [(.int v33), (.int v1), (.int v38)]))
      refine go (fun _ q => XS.iload X59.here hx rfl (hb hby at_339) rfl q) ?_
      show Go p e below _ (T59.setTop (mkF m 341 #[.val (.int p1), .val (.int p2), .val (.int p3), .val (.int p4), .val (.int p5), .val (.int v1), .val (.int v2), .val (.int v3), .val (.int v4), .val (.int v5), .val (.int v6), .val (.int v7), .val (.int v8), .val (.int v9), .val (.ref b10), .val (.int v33), .val (.int v34), .val (.int v35), .val (.int v36), .val (.int v37), .val (.int v38), .val (.int v39), .val (.int v40), .val (.ref b41), .val (.int v53), .val (.int z58), .unset, .unset, .unset, .unset, .unset] [(.int v34), (.int v33), (.int v1), (.int v38)]))
      refine go (fun _ q => XS.iload X59.here hx rfl (hb hby at_341) rfl q) ?_
      show Go p e below _ (T59.setTop (mkF m 343 #[.val (.int p1), .val (.int p2), .val (.int p3), .val (.int p4), .val (.int p5), .val (.int v1), .val (.int v2), .val (.int v3), .val (.int v4), .val (.int v5), .val (.int v6), .val (.int v7), .val (.int v8), .val (.int v9), .val (.ref b10), .val (.int v33), .val (.int v34), .val (.int v35), .val (.int v36), .val (.int v37), .val (.int v38), .val (.int v39), .val (.int v40), .val (.ref b41), .val (.int v53), .val (.int z58), .unset, .unset, .unset, .unset, .unset] [(.int v35), (.int v34), (.int v33), (.int v1), (.int v38)]))
      refine go (fun _ q => XS.iload X59.here hx rfl (hb hby at_343) rfl q) ?_
      show Go p e below _ (T59.setTop (mkF m 345 #[.val (.int p1), .val (.int p2), .val (.int p3), .val (.int p4), .val (.int p5), .val (.int v1), .val (.int v2), .val (.int v3), .val (.int v4), .val (.int v5), .val (.int v6), .val (.int v7), .val (.int v8), .val (.int v9), .val (.ref b10), .val (.int v33), .val (.int v34), .val (.int v35), .val (.int v36), .val (.int v37), .val (.int v38), .val (.int v39), .val (.int v40), .val (.ref b41), .val (.int v53), .val (.int z58), .unset, .unset, .unset, .unset, .unset] [(.int v36), (.int v35), (.int v34), (.int v33), (.int v1), (.int v38)]))
      refine own_callS X59 hx hZ hown e59 (hw _ (List.mem_of_getElem? (i := 6) rfl)) (hw _ (List.mem_of_getElem? (i := 7) rfl)) (hw _ (List.mem_of_getElem? (i := 8) rfl)) (hw _ (List.mem_of_getElem? (i := 9) rfl)) (rm2 l Z a0 hw [] v38 v1 v33 v34 v35 v36 T51.heap n0) (by decide) (by decide) (W := 0) (by decide) (by decide) (by decide) (g := (mkF m 345 #[.val (.int p1), .val (.int p2), .val (.int p3), .val (.int p4), .val (.int p5), .val (.int v1), .val (.int v2), .val (.int v3), .val (.int v4), .val (.int v5), .val (.int v6), .val (.int v7), .val (.int v8), .val (.int v9), .val (.ref b10), .val (.int v33), .val (.int v34), .val (.int v35), .val (.int v36), .val (.int v37), .val (.int v38), .val (.int v39), .val (.int v40), .val (.ref b41), .val (.int v53), .val (.int z58), .unset, .unset, .unset, .unset, .unset] [(.int v36), (.int v35), (.int v34), (.int v33), (.int v1), (.int v38)])) rfl (by rw [hml]; rfl) (argsL := [(.int v38), (.int v1), (.int v33), (.int v34), (.int v35), (.int v36)]) (rest := []) rfl rfl (lenOf pd_0_1 rfl) (by show 2 * 0 + _ ≤ _; exact Nat.le_of_eq rfl) (hb hby at_345) ?_
      rintro _ T62 L62 X62 ⟨rfl, N62q, e62⟩
      have N62 := Fr.app N59 N62q
      show Go p e below _ (T62.setTop (mkF m 348 #[.val (.int p1), .val (.int p2), .val (.int p3), .val (.int p4), .val (.int p5), .val (.int v1), .val (.int v2), .val (.int v3), .val (.int v4), .val (.int v5), .val (.int v6), .val (.int v7), .val (.int v8), .val (.int v9), .val (.ref b10), .val (.int v33), .val (.int v34), .val (.int v35), .val (.int v36), .val (.int v37), .val (.int v38), .val (.int v39), .val (.int v40), .val (.ref b41), .val (.int v53), .val (.int z58), .unset, .unset, .unset, .unset, .unset] [(.int (f2 v38 v1 v33 v34 v35 v36))]))
      by_cases hc63 : (f2 v38 v1 v33 v34 v35 v36) = (0 : Int32)
      · refine go (fun _ q => XS.ifYes X62.here hx rfl (pc0 := 348) (pc' := 355) rfl (hb hby at_348) rfl ((if0 _ _).trans (teq hc63).1) (by decide) (by decide) q) ?_
        show Go p e below _ (T62.setTop (mkF m 355 #[.val (.int p1), .val (.int p2), .val (.int p3), .val (.int p4), .val (.int p5), .val (.int v1), .val (.int v2), .val (.int v3), .val (.int v4), .val (.int v5), .val (.int v6), .val (.int v7), .val (.int v8), .val (.int v9), .val (.ref b10), .val (.int v33), .val (.int v34), .val (.int v35), .val (.int v36), .val (.int v37), .val (.int v38), .val (.int v39), .val (.int v40), .val (.ref b41), .val (.int v53), .val (.int z58), .unset, .unset, .unset, .unset, .unset] []))
        refine go (fun _ q => XS.iconst X62.here hx rfl (hb hby at_355) q) ?_
        show Go p e below _ (T62.setTop (mkF m 356 #[.val (.int p1), .val (.int p2), .val (.int p3), .val (.int p4), .val (.int p5), .val (.int v1), .val (.int v2), .val (.int v3), .val (.int v4), .val (.int v5), .val (.int v6), .val (.int v7), .val (.int v8), .val (.int v9), .val (.ref b10), .val (.int v33), .val (.int v34), .val (.int v35), .val (.int v36), .val (.int v37), .val (.int v38), .val (.int v39), .val (.int v40), .val (.ref b41), .val (.int v53), .val (.int z58), .unset, .unset, .unset, .unset, .unset] [(.int (0 : Int32))]))
        exact hj60 T62 _ X62 N62 e62 _ (by rw [if_pos hc61, if_pos hc63])
      · refine go (fun _ q => XS.ifNo X62.here hx rfl (hb hby at_348) rfl ((if0 _ _).trans (feq hc63).1) q) ?_
        show Go p e below _ (T62.setTop (mkF m 351 #[.val (.int p1), .val (.int p2), .val (.int p3), .val (.int p4), .val (.int p5), .val (.int v1), .val (.int v2), .val (.int v3), .val (.int v4), .val (.int v5), .val (.int v6), .val (.int v7), .val (.int v8), .val (.int v9), .val (.ref b10), .val (.int v33), .val (.int v34), .val (.int v35), .val (.int v36), .val (.int v37), .val (.int v38), .val (.int v39), .val (.int v40), .val (.ref b41), .val (.int v53), .val (.int z58), .unset, .unset, .unset, .unset, .unset] []))
        refine go (fun _ q => XS.iconst X62.here hx rfl (hb hby at_351) q) ?_
        show Go p e below _ (T62.setTop (mkF m 352 #[.val (.int p1), .val (.int p2), .val (.int p3), .val (.int p4), .val (.int p5), .val (.int v1), .val (.int v2), .val (.int v3), .val (.int v4), .val (.int v5), .val (.int v6), .val (.int v7), .val (.int v8), .val (.int v9), .val (.ref b10), .val (.int v33), .val (.int v34), .val (.int v35), .val (.int v36), .val (.int v37), .val (.int v38), .val (.int v39), .val (.int v40), .val (.ref b41), .val (.int v53), .val (.int z58), .unset, .unset, .unset, .unset, .unset] [(.int (1 : Int32))]))
        refine go (fun _ q => XS.goto X62.here hx rfl (pc0 := 352) (pc' := 356) rfl (hb hby at_352) (by decide) (by decide) q) ?_
        show Go p e below _ (T62.setTop (mkF m 356 #[.val (.int p1), .val (.int p2), .val (.int p3), .val (.int p4), .val (.int p5), .val (.int v1), .val (.int v2), .val (.int v3), .val (.int v4), .val (.int v5), .val (.int v6), .val (.int v7), .val (.int v8), .val (.int v9), .val (.ref b10), .val (.int v33), .val (.int v34), .val (.int v35), .val (.int v36), .val (.int v37), .val (.int v38), .val (.int v39), .val (.int v40), .val (.ref b41), .val (.int v53), .val (.int z58), .unset, .unset, .unset, .unset, .unset] [(.int (1 : Int32))]))
        exact hj60 T62 _ X62 N62 e62 _ (by rw [if_pos hc61, if_neg hc63])
    · refine go (fun _ q => XS.icmpYes X59.here hx rfl (pc0 := 330) (pc' := 355) rfl (hb hby at_330) rfl (flt hc61).2.2.2 (by decide) (by decide) q) ?_
      show Go p e below _ (T59.setTop (mkF m 355 #[.val (.int p1), .val (.int p2), .val (.int p3), .val (.int p4), .val (.int p5), .val (.int v1), .val (.int v2), .val (.int v3), .val (.int v4), .val (.int v5), .val (.int v6), .val (.int v7), .val (.int v8), .val (.int v9), .val (.ref b10), .val (.int v33), .val (.int v34), .val (.int v35), .val (.int v36), .val (.int v37), .val (.int v38), .val (.int v39), .val (.int v40), .val (.ref b41), .val (.int v53), .val (.int z58), .unset, .unset, .unset, .unset, .unset] []))
      refine go (fun _ q => XS.iconst X59.here hx rfl (hb hby at_355) q) ?_
      show Go p e below _ (T59.setTop (mkF m 356 #[.val (.int p1), .val (.int p2), .val (.int p3), .val (.int p4), .val (.int p5), .val (.int v1), .val (.int v2), .val (.int v3), .val (.int v4), .val (.int v5), .val (.int v6), .val (.int v7), .val (.int v8), .val (.int v9), .val (.ref b10), .val (.int v33), .val (.int v34), .val (.int v35), .val (.int v36), .val (.int v37), .val (.int v38), .val (.int v39), .val (.int v40), .val (.ref b41), .val (.int v53), .val (.int z58), .unset, .unset, .unset, .unset, .unset] [(.int (0 : Int32))]))
      exact hj60 T59 _ X59 N59 e59 _ (by rw [if_neg hc61])
  intro T65 L65 X65 N65 e65 z64 hz64
  show Go p e below _ (T65.setTop (mkF m 356 #[.val (.int p1), .val (.int p2), .val (.int p3), .val (.int p4), .val (.int p5), .val (.int v1), .val (.int v2), .val (.int v3), .val (.int v4), .val (.int v5), .val (.int v6), .val (.int v7), .val (.int v8), .val (.int v9), .val (.ref b10), .val (.int v33), .val (.int v34), .val (.int v35), .val (.int v36), .val (.int v37), .val (.int v38), .val (.int v39), .val (.int v40), .val (.ref b41), .val (.int v53), .val (.int z58), .unset, .unset, .unset, .unset, .unset] [(.int z64)]))
  refine go (fun _ q => XS.istore X65.here hx rfl (hb hby at_356) rfl (l' := #[.val (.int p1), .val (.int p2), .val (.int p3), .val (.int p4), .val (.int p5), .val (.int v1), .val (.int v2), .val (.int v3), .val (.int v4), .val (.int v5), .val (.int v6), .val (.int v7), .val (.int v8), .val (.int v9), .val (.ref b10), .val (.int v33), .val (.int v34), .val (.int v35), .val (.int v36), .val (.int v37), .val (.int v38), .val (.int v39), .val (.int v40), .val (.ref b41), .val (.int v53), .val (.int z58), .val (.int z64), .unset, .unset, .unset, .unset]) rfl q) ?_
  show Go p e below _ (T65.setTop (mkF m 358 #[.val (.int p1), .val (.int p2), .val (.int p3), .val (.int p4), .val (.int p5), .val (.int v1), .val (.int v2), .val (.int v3), .val (.int v4), .val (.int v5), .val (.int v6), .val (.int v7), .val (.int v8), .val (.int v9), .val (.ref b10), .val (.int v33), .val (.int v34), .val (.int v35), .val (.int v36), .val (.int v37), .val (.int v38), .val (.int v39), .val (.int v40), .val (.ref b41), .val (.int v53), .val (.int z58), .val (.int z64), .unset, .unset, .unset, .unset] []))
  have own_m1 := own_mi (i := 1) own_fb own_fe own_cb own_p5 (by decide) own_pq hz64
  refine go (fun _ q => XS.iload X65.here hx rfl (hb hby at_358) rfl q) ?_
  show Go p e below _ (T65.setTop (mkF m 360 #[.val (.int p1), .val (.int p2), .val (.int p3), .val (.int p4), .val (.int p5), .val (.int v1), .val (.int v2), .val (.int v3), .val (.int v4), .val (.int v5), .val (.int v6), .val (.int v7), .val (.int v8), .val (.int v9), .val (.ref b10), .val (.int v33), .val (.int v34), .val (.int v35), .val (.int v36), .val (.int v37), .val (.int v38), .val (.int v39), .val (.int v40), .val (.ref b41), .val (.int v53), .val (.int z58), .val (.int z64), .unset, .unset, .unset, .unset] [(.int v2)]))
  refine go (fun _ q => XS.iconst X65.here hx rfl (hb hby at_360) q) ?_
  show Go p e below _ (T65.setTop (mkF m 361 #[.val (.int p1), .val (.int p2), .val (.int p3), .val (.int p4), .val (.int p5), .val (.int v1), .val (.int v2), .val (.int v3), .val (.int v4), .val (.int v5), .val (.int v6), .val (.int v7), .val (.int v8), .val (.int v9), .val (.ref b10), .val (.int v33), .val (.int v34), .val (.int v35), .val (.int v36), .val (.int v37), .val (.int v38), .val (.int v39), .val (.int v40), .val (.ref b41), .val (.int v53), .val (.int z58), .val (.int z64), .unset, .unset, .unset, .unset] [(.int (2 : Int32)), (.int v2)]))
  suffices hj66 : ∀ (T71 : State) (L71 : List Loc), Stand p l e room_1 s m #[(.int p1), (.int p2), (.int p3), (.int p4), (.int p5)] below meth c T71 L71 2 10 → Fr n0 L71 → T71.heap = T51.heap → ∀ (z70 : Int32), z70 = (if (2 : Int32) < v2 then (if (f2 v39 v1 v33 v34 v35 v36) = (0 : Int32) then (0 : Int32) else (1 : Int32)) else (0 : Int32)) → Go p e below (Dn below s ((Q0 n0)) room_1.cells room_1.slots) (T71.setTop (mkF m 387 #[.val (.int p1), .val (.int p2), .val (.int p3), .val (.int p4), .val (.int p5), .val (.int v1), .val (.int v2), .val (.int v3), .val (.int v4), .val (.int v5), .val (.int v6), .val (.int v7), .val (.int v8), .val (.int v9), .val (.ref b10), .val (.int v33), .val (.int v34), .val (.int v35), .val (.int v36), .val (.int v37), .val (.int v38), .val (.int v39), .val (.int v40), .val (.ref b41), .val (.int v53), .val (.int z58), .val (.int z64), .unset, .unset, .unset, .unset] [(.int z70)])) by
    by_cases hc67 : (2 : Int32) < v2
    · refine go (fun _ q => XS.icmpNo X65.here hx rfl (hb hby at_361) rfl (tlt hc67).2.2.2 q) ?_
      show Go p e below _ (T65.setTop (mkF m 364 #[.val (.int p1), .val (.int p2), .val (.int p3), .val (.int p4), .val (.int p5), .val (.int v1), .val (.int v2), .val (.int v3), .val (.int v4), .val (.int v5), .val (.int v6), .val (.int v7), .val (.int v8), .val (.int v9), .val (.ref b10), .val (.int v33), .val (.int v34), .val (.int v35), .val (.int v36), .val (.int v37), .val (.int v38), .val (.int v39), .val (.int v40), .val (.ref b41), .val (.int v53), .val (.int z58), .val (.int z64), .unset, .unset, .unset, .unset] []))
      refine go (fun _ q => XS.iload X65.here hx rfl (hb hby at_364) rfl q) ?_
      show Go p e below _ (T65.setTop (mkF m 366 #[.val (.int p1), .val (.int p2), .val (.int p3), .val (.int p4), .val (.int p5), .val (.int v1), .val (.int v2), .val (.int v3), .val (.int v4), .val (.int v5), .val (.int v6), .val (.int v7), .val (.int v8), .val (.int v9), .val (.ref b10), .val (.int v33), .val (.int v34), .val (.int v35), .val (.int v36), .val (.int v37), .val (.int v38), .val (.int v39), .val (.int v40), .val (.ref b41), .val (.int v53), .val (.int z58), .val (.int z64), .unset, .unset, .unset, .unset] [(.int v39)]))
      refine go (fun _ q => XS.iload X65.here hx rfl (hb hby at_366) rfl q) ?_
      show Go p e below _ (T65.setTop (mkF m 368 #[.val (.int p1), .val (.int p2), .val (.int p3), .val (.int p4), .val (.int p5), .val (.int v1), .val (.int v2), .val (.int v3), .val (.int v4), .val (.int v5), .val (.int v6), .val (.int v7), .val (.int v8), .val (.int v9), .val (.ref b10), .val (.int v33), .val (.int v34), .val (.int v35), .val (.int v36), .val (.int v37), .val (.int v38), .val (.int v39), .val (.int v40), .val (.ref b41), .val (.int v53), .val (.int z58), .val (.int z64), .unset, .unset, .unset, .unset] [(.int v1), (.int v39)]))
      refine go (fun _ q => XS.iload X65.here hx rfl (hb hby at_368) rfl q) ?_
      show Go p e below _ (T65.setTop (mkF m 370 #[.val (.int p1), .val (.int p2), .val (.int p3), .val (.int p4), .val (.int p5), .val (.int v1), .val (.int v2), .val (.int v3), .val (.int v4), .val (.int v5), .val (.int v6), .val (.int v7), .val (.int v8), .val (.int v9), .val (.ref b10), .val (.int v33), .val (.int v34), .val (.int v35), .val (.int v36), .val (.int v37), .val (.int v38), .val (.int v39), .val (.int v40), .val (.ref b41), .val (.int v53), .val (.int z58), .val (.int z64), .unset, .unset, .unset, .unset] [(.int v33), (.int v1), (.int v39)]))
      refine go (fun _ q => XS.iload X65.here hx rfl (hb hby at_370) rfl q) ?_
      show Go p e below _ (T65.setTop (mkF m 372 #[.val (.int p1), .val (.int p2), .val (.int p3), .val (.int p4), .val (.int p5), .val (.int v1), .val (.int v2), .val (.int v3), .val (.int v4), .val (.int v5), .val (.int v6), .val (.int v7), .val (.int v8), .val (.int v9), .val (.ref b10), .val (.int v33), .val (.int v34), .val (.int v35), .val (.int v36), .val (.int v37), .val (.int v38), .val (.int v39), .val (.int v40), .val (.ref b41), .val (.int v53), .val (.int z58), .val (.int z64), .unset, .unset, .unset, .unset] [(.int v34), (.int v33), (.int v1), (.int v39)]))
      refine go (fun _ q => XS.iload X65.here hx rfl (hb hby at_372) rfl q) ?_
      show Go p e below _ (T65.setTop (mkF m 374 #[.val (.int p1), .val (.int p2), .val (.int p3), .val (.int p4), .val (.int p5), .val (.int v1), .val (.int v2), .val (.int v3), .val (.int v4), .val (.int v5), .val (.int v6), .val (.int v7), .val (.int v8), .val (.int v9), .val (.ref b10), .val (.int v33), .val (.int v34), .val (.int v35), .val (.int v36), .val (.int v37), .val (.int v38), .val (.int v39), .val (.int v40), .val (.ref b41), .val (.int v53), .val (.int z58), .val (.int z64), .unset, .unset, .unset, .unset] [(.int v35), (.int v34), (.int v33), (.int v1), (.int v39)]))
      refine go (fun _ q => XS.iload X65.here hx rfl (hb hby at_374) rfl q) ?_
      show Go p e below _ (T65.setTop (mkF m 376 #[.val (.int p1), .val (.int p2), .val (.int p3), .val (.int p4), .val (.int p5), .val (.int v1), .val (.int v2), .val (.int v3), .val (.int v4), .val (.int v5), .val (.int v6), .val (.int v7), .val (.int v8), .val (.int v9), .val (.ref b10), .val (.int v33), .val (.int v34), .val (.int v35), .val (.int v36), .val (.int v37), .val (.int v38), .val (.int v39), .val (.int v40), .val (.ref b41), .val (.int v53), .val (.int z58), .val (.int z64), .unset, .unset, .unset, .unset] [(.int v36), (.int v35), (.int v34), (.int v33), (.int v1), (.int v39)]))
      refine own_callS X65 hx hZ hown e65 (hw _ (List.mem_of_getElem? (i := 6) rfl)) (hw _ (List.mem_of_getElem? (i := 7) rfl)) (hw _ (List.mem_of_getElem? (i := 8) rfl)) (hw _ (List.mem_of_getElem? (i := 9) rfl)) (rm2 l Z a0 hw [] v39 v1 v33 v34 v35 v36 T51.heap n0) (by decide) (by decide) (W := 0) (by decide) (by decide) (by decide) (g := (mkF m 376 #[.val (.int p1), .val (.int p2), .val (.int p3), .val (.int p4), .val (.int p5), .val (.int v1), .val (.int v2), .val (.int v3), .val (.int v4), .val (.int v5), .val (.int v6), .val (.int v7), .val (.int v8), .val (.int v9), .val (.ref b10), .val (.int v33), .val (.int v34), .val (.int v35), .val (.int v36), .val (.int v37), .val (.int v38), .val (.int v39), .val (.int v40), .val (.ref b41), .val (.int v53), .val (.int z58), .val (.int z64), .unset, .unset, .unset, .unset] [(.int v36), (.int v35), (.int v34), (.int v33), (.int v1), (.int v39)])) rfl (by rw [hml]; rfl) (argsL := [(.int v39), (.int v1), (.int v33), (.int v34), (.int v35), (.int v36)]) (rest := []) rfl rfl (lenOf pd_0_1 rfl) (by show 2 * 0 + _ ≤ _; exact Nat.le_of_eq rfl) (hb hby at_376) ?_
      rintro _ T68 L68 X68 ⟨rfl, N68q, e68⟩
      have N68 := Fr.app N65 N68q
      show Go p e below _ (T68.setTop (mkF m 379 #[.val (.int p1), .val (.int p2), .val (.int p3), .val (.int p4), .val (.int p5), .val (.int v1), .val (.int v2), .val (.int v3), .val (.int v4), .val (.int v5), .val (.int v6), .val (.int v7), .val (.int v8), .val (.int v9), .val (.ref b10), .val (.int v33), .val (.int v34), .val (.int v35), .val (.int v36), .val (.int v37), .val (.int v38), .val (.int v39), .val (.int v40), .val (.ref b41), .val (.int v53), .val (.int z58), .val (.int z64), .unset, .unset, .unset, .unset] [(.int (f2 v39 v1 v33 v34 v35 v36))]))
      by_cases hc69 : (f2 v39 v1 v33 v34 v35 v36) = (0 : Int32)
      · refine go (fun _ q => XS.ifYes X68.here hx rfl (pc0 := 379) (pc' := 386) rfl (hb hby at_379) rfl ((if0 _ _).trans (teq hc69).1) (by decide) (by decide) q) ?_
        show Go p e below _ (T68.setTop (mkF m 386 #[.val (.int p1), .val (.int p2), .val (.int p3), .val (.int p4), .val (.int p5), .val (.int v1), .val (.int v2), .val (.int v3), .val (.int v4), .val (.int v5), .val (.int v6), .val (.int v7), .val (.int v8), .val (.int v9), .val (.ref b10), .val (.int v33), .val (.int v34), .val (.int v35), .val (.int v36), .val (.int v37), .val (.int v38), .val (.int v39), .val (.int v40), .val (.ref b41), .val (.int v53), .val (.int z58), .val (.int z64), .unset, .unset, .unset, .unset] []))
        refine go (fun _ q => XS.iconst X68.here hx rfl (hb hby at_386) q) ?_
        show Go p e below _ (T68.setTop (mkF m 387 #[.val (.int p1), .val (.int p2), .val (.int p3), .val (.int p4), .val (.int p5), .val (.int v1), .val (.int v2), .val (.int v3), .val (.int v4), .val (.int v5), .val (.int v6), .val (.int v7), .val (.int v8), .val (.int v9), .val (.ref b10), .val (.int v33), .val (.int v34), .val (.int v35), .val (.int v36), .val (.int v37), .val (.int v38), .val (.int v39), .val (.int v40), .val (.ref b41), .val (.int v53), .val (.int z58), .val (.int z64), .unset, .unset, .unset, .unset] [(.int (0 : Int32))]))
        exact hj66 T68 _ X68 N68 e68 _ (by rw [if_pos hc67, if_pos hc69])
      · refine go (fun _ q => XS.ifNo X68.here hx rfl (hb hby at_379) rfl ((if0 _ _).trans (feq hc69).1) q) ?_
        show Go p e below _ (T68.setTop (mkF m 382 #[.val (.int p1), .val (.int p2), .val (.int p3), .val (.int p4), .val (.int p5), .val (.int v1), .val (.int v2), .val (.int v3), .val (.int v4), .val (.int v5), .val (.int v6), .val (.int v7), .val (.int v8), .val (.int v9), .val (.ref b10), .val (.int v33), .val (.int v34), .val (.int v35), .val (.int v36), .val (.int v37), .val (.int v38), .val (.int v39), .val (.int v40), .val (.ref b41), .val (.int v53), .val (.int z58), .val (.int z64), .unset, .unset, .unset, .unset] []))
        refine go (fun _ q => XS.iconst X68.here hx rfl (hb hby at_382) q) ?_
        show Go p e below _ (T68.setTop (mkF m 383 #[.val (.int p1), .val (.int p2), .val (.int p3), .val (.int p4), .val (.int p5), .val (.int v1), .val (.int v2), .val (.int v3), .val (.int v4), .val (.int v5), .val (.int v6), .val (.int v7), .val (.int v8), .val (.int v9), .val (.ref b10), .val (.int v33), .val (.int v34), .val (.int v35), .val (.int v36), .val (.int v37), .val (.int v38), .val (.int v39), .val (.int v40), .val (.ref b41), .val (.int v53), .val (.int z58), .val (.int z64), .unset, .unset, .unset, .unset] [(.int (1 : Int32))]))
        refine go (fun _ q => XS.goto X68.here hx rfl (pc0 := 383) (pc' := 387) rfl (hb hby at_383) (by decide) (by decide) q) ?_
        show Go p e below _ (T68.setTop (mkF m 387 #[.val (.int p1), .val (.int p2), .val (.int p3), .val (.int p4), .val (.int p5), .val (.int v1), .val (.int v2), .val (.int v3), .val (.int v4), .val (.int v5), .val (.int v6), .val (.int v7), .val (.int v8), .val (.int v9), .val (.ref b10), .val (.int v33), .val (.int v34), .val (.int v35), .val (.int v36), .val (.int v37), .val (.int v38), .val (.int v39), .val (.int v40), .val (.ref b41), .val (.int v53), .val (.int z58), .val (.int z64), .unset, .unset, .unset, .unset] [(.int (1 : Int32))]))
        exact hj66 T68 _ X68 N68 e68 _ (by rw [if_pos hc67, if_neg hc69])
    · refine go (fun _ q => XS.icmpYes X65.here hx rfl (pc0 := 361) (pc' := 386) rfl (hb hby at_361) rfl (flt hc67).2.2.2 (by decide) (by decide) q) ?_
      show Go p e below _ (T65.setTop (mkF m 386 #[.val (.int p1), .val (.int p2), .val (.int p3), .val (.int p4), .val (.int p5), .val (.int v1), .val (.int v2), .val (.int v3), .val (.int v4), .val (.int v5), .val (.int v6), .val (.int v7), .val (.int v8), .val (.int v9), .val (.ref b10), .val (.int v33), .val (.int v34), .val (.int v35), .val (.int v36), .val (.int v37), .val (.int v38), .val (.int v39), .val (.int v40), .val (.ref b41), .val (.int v53), .val (.int z58), .val (.int z64), .unset, .unset, .unset, .unset] []))
      refine go (fun _ q => XS.iconst X65.here hx rfl (hb hby at_386) q) ?_
      show Go p e below _ (T65.setTop (mkF m 387 #[.val (.int p1), .val (.int p2), .val (.int p3), .val (.int p4), .val (.int p5), .val (.int v1), .val (.int v2), .val (.int v3), .val (.int v4), .val (.int v5), .val (.int v6), .val (.int v7), .val (.int v8), .val (.int v9), .val (.ref b10), .val (.int v33), .val (.int v34), .val (.int v35), .val (.int v36), .val (.int v37), .val (.int v38), .val (.int v39), .val (.int v40), .val (.ref b41), .val (.int v53), .val (.int z58), .val (.int z64), .unset, .unset, .unset, .unset] [(.int (0 : Int32))]))
      exact hj66 T65 _ X65 N65 e65 _ (by rw [if_neg hc67])
  intro T71 L71 X71 N71 e71 z70 hz70
  show Go p e below _ (T71.setTop (mkF m 387 #[.val (.int p1), .val (.int p2), .val (.int p3), .val (.int p4), .val (.int p5), .val (.int v1), .val (.int v2), .val (.int v3), .val (.int v4), .val (.int v5), .val (.int v6), .val (.int v7), .val (.int v8), .val (.int v9), .val (.ref b10), .val (.int v33), .val (.int v34), .val (.int v35), .val (.int v36), .val (.int v37), .val (.int v38), .val (.int v39), .val (.int v40), .val (.ref b41), .val (.int v53), .val (.int z58), .val (.int z64), .unset, .unset, .unset, .unset] [(.int z70)]))
  refine go (fun _ q => XS.istore X71.here hx rfl (hb hby at_387) rfl (l' := #[.val (.int p1), .val (.int p2), .val (.int p3), .val (.int p4), .val (.int p5), .val (.int v1), .val (.int v2), .val (.int v3), .val (.int v4), .val (.int v5), .val (.int v6), .val (.int v7), .val (.int v8), .val (.int v9), .val (.ref b10), .val (.int v33), .val (.int v34), .val (.int v35), .val (.int v36), .val (.int v37), .val (.int v38), .val (.int v39), .val (.int v40), .val (.ref b41), .val (.int v53), .val (.int z58), .val (.int z64), .val (.int z70), .unset, .unset, .unset]) rfl q) ?_
  show Go p e below _ (T71.setTop (mkF m 389 #[.val (.int p1), .val (.int p2), .val (.int p3), .val (.int p4), .val (.int p5), .val (.int v1), .val (.int v2), .val (.int v3), .val (.int v4), .val (.int v5), .val (.int v6), .val (.int v7), .val (.int v8), .val (.int v9), .val (.ref b10), .val (.int v33), .val (.int v34), .val (.int v35), .val (.int v36), .val (.int v37), .val (.int v38), .val (.int v39), .val (.int v40), .val (.ref b41), .val (.int v53), .val (.int z58), .val (.int z64), .val (.int z70), .unset, .unset, .unset] []))
  have own_m2 := own_mi (i := 2) own_fb own_fe own_cb own_p5 (by decide) own_pq hz70
  refine go (fun _ q => XS.iload X71.here hx rfl (hb hby at_389) rfl q) ?_
  show Go p e below _ (T71.setTop (mkF m 391 #[.val (.int p1), .val (.int p2), .val (.int p3), .val (.int p4), .val (.int p5), .val (.int v1), .val (.int v2), .val (.int v3), .val (.int v4), .val (.int v5), .val (.int v6), .val (.int v7), .val (.int v8), .val (.int v9), .val (.ref b10), .val (.int v33), .val (.int v34), .val (.int v35), .val (.int v36), .val (.int v37), .val (.int v38), .val (.int v39), .val (.int v40), .val (.ref b41), .val (.int v53), .val (.int z58), .val (.int z64), .val (.int z70), .unset, .unset, .unset] [(.int v2)]))
  refine go (fun _ q => XS.iconst X71.here hx rfl (hb hby at_391) q) ?_
  show Go p e below _ (T71.setTop (mkF m 392 #[.val (.int p1), .val (.int p2), .val (.int p3), .val (.int p4), .val (.int p5), .val (.int v1), .val (.int v2), .val (.int v3), .val (.int v4), .val (.int v5), .val (.int v6), .val (.int v7), .val (.int v8), .val (.int v9), .val (.ref b10), .val (.int v33), .val (.int v34), .val (.int v35), .val (.int v36), .val (.int v37), .val (.int v38), .val (.int v39), .val (.int v40), .val (.ref b41), .val (.int v53), .val (.int z58), .val (.int z64), .val (.int z70), .unset, .unset, .unset] [(.int (3 : Int32)), (.int v2)]))
  suffices hj72 : ∀ (T77 : State) (L77 : List Loc), Stand p l e room_1 s m #[(.int p1), (.int p2), (.int p3), (.int p4), (.int p5)] below meth c T77 L77 2 10 → Fr n0 L77 → T77.heap = T51.heap → ∀ (z76 : Int32), z76 = (if (3 : Int32) < v2 then (if (f2 v40 v1 v33 v34 v35 v36) = (0 : Int32) then (0 : Int32) else (1 : Int32)) else (0 : Int32)) → Go p e below (Dn below s ((Q0 n0)) room_1.cells room_1.slots) (T77.setTop (mkF m 418 #[.val (.int p1), .val (.int p2), .val (.int p3), .val (.int p4), .val (.int p5), .val (.int v1), .val (.int v2), .val (.int v3), .val (.int v4), .val (.int v5), .val (.int v6), .val (.int v7), .val (.int v8), .val (.int v9), .val (.ref b10), .val (.int v33), .val (.int v34), .val (.int v35), .val (.int v36), .val (.int v37), .val (.int v38), .val (.int v39), .val (.int v40), .val (.ref b41), .val (.int v53), .val (.int z58), .val (.int z64), .val (.int z70), .unset, .unset, .unset] [(.int z76)])) by
    by_cases hc73 : (3 : Int32) < v2
    · refine go (fun _ q => XS.icmpNo X71.here hx rfl (hb hby at_392) rfl (tlt hc73).2.2.2 q) ?_
      show Go p e below _ (T71.setTop (mkF m 395 #[.val (.int p1), .val (.int p2), .val (.int p3), .val (.int p4), .val (.int p5), .val (.int v1), .val (.int v2), .val (.int v3), .val (.int v4), .val (.int v5), .val (.int v6), .val (.int v7), .val (.int v8), .val (.int v9), .val (.ref b10), .val (.int v33), .val (.int v34), .val (.int v35), .val (.int v36), .val (.int v37), .val (.int v38), .val (.int v39), .val (.int v40), .val (.ref b41), .val (.int v53), .val (.int z58), .val (.int z64), .val (.int z70), .unset, .unset, .unset] []))
      refine go (fun _ q => XS.iload X71.here hx rfl (hb hby at_395) rfl q) ?_
      show Go p e below _ (T71.setTop (mkF m 397 #[.val (.int p1), .val (.int p2), .val (.int p3), .val (.int p4), .val (.int p5), .val (.int v1), .val (.int v2), .val (.int v3), .val (.int v4), .val (.int v5), .val (.int v6), .val (.int v7), .val (.int v8), .val (.int v9), .val (.ref b10), .val (.int v33), .val (.int v34), .val (.int v35), .val (.int v36), .val (.int v37), .val (.int v38), .val (.int v39), .val (.int v40), .val (.ref b41), .val (.int v53), .val (.int z58), .val (.int z64), .val (.int z70), .unset, .unset, .unset] [(.int v40)]))
      refine go (fun _ q => XS.iload X71.here hx rfl (hb hby at_397) rfl q) ?_
      show Go p e below _ (T71.setTop (mkF m 399 #[.val (.int p1), .val (.int p2), .val (.int p3), .val (.int p4), .val (.int p5), .val (.int v1), .val (.int v2), .val (.int v3), .val (.int v4), .val (.int v5), .val (.int v6), .val (.int v7), .val (.int v8), .val (.int v9), .val (.ref b10), .val (.int v33), .val (.int v34), .val (.int v35), .val (.int v36), .val (.int v37), .val (.int v38), .val (.int v39), .val (.int v40), .val (.ref b41), .val (.int v53), .val (.int z58), .val (.int z64), .val (.int z70), .unset, .unset, .unset] [(.int v1), (.int v40)]))
      refine go (fun _ q => XS.iload X71.here hx rfl (hb hby at_399) rfl q) ?_
      show Go p e below _ (T71.setTop (mkF m 401 #[.val (.int p1), .val (.int p2), .val (.int p3), .val (.int p4), .val (.int p5), .val (.int v1), .val (.int v2), .val (.int v3), .val (.int v4), .val (.int v5), .val (.int v6), .val (.int v7), .val (.int v8), .val (.int v9), .val (.ref b10), .val (.int v33), .val (.int v34), .val (.int v35), .val (.int v36), .val (.int v37), .val (.int v38), .val (.int v39), .val (.int v40), .val (.ref b41), .val (.int v53), .val (.int z58), .val (.int z64), .val (.int z70), .unset, .unset, .unset] [(.int v33), (.int v1), (.int v40)]))
      refine go (fun _ q => XS.iload X71.here hx rfl (hb hby at_401) rfl q) ?_
      show Go p e below _ (T71.setTop (mkF m 403 #[.val (.int p1), .val (.int p2), .val (.int p3), .val (.int p4), .val (.int p5), .val (.int v1), .val (.int v2), .val (.int v3), .val (.int v4), .val (.int v5), .val (.int v6), .val (.int v7), .val (.int v8), .val (.int v9), .val (.ref b10), .val (.int v33), .val (.int v34), .val (.int v35), .val (.int v36), .val (.int v37), .val (.int v38), .val (.int v39), .val (.int v40), .val (.ref b41), .val (.int v53), .val (.int z58), .val (.int z64), .val (.int z70), .unset, .unset, .unset] [(.int v34), (.int v33), (.int v1), (.int v40)]))
      refine go (fun _ q => XS.iload X71.here hx rfl (hb hby at_403) rfl q) ?_
      show Go p e below _ (T71.setTop (mkF m 405 #[.val (.int p1), .val (.int p2), .val (.int p3), .val (.int p4), .val (.int p5), .val (.int v1), .val (.int v2), .val (.int v3), .val (.int v4), .val (.int v5), .val (.int v6), .val (.int v7), .val (.int v8), .val (.int v9), .val (.ref b10), .val (.int v33), .val (.int v34), .val (.int v35), .val (.int v36), .val (.int v37), .val (.int v38), .val (.int v39), .val (.int v40), .val (.ref b41), .val (.int v53), .val (.int z58), .val (.int z64), .val (.int z70), .unset, .unset, .unset] [(.int v35), (.int v34), (.int v33), (.int v1), (.int v40)]))
      refine go (fun _ q => XS.iload X71.here hx rfl (hb hby at_405) rfl q) ?_
      show Go p e below _ (T71.setTop (mkF m 407 #[.val (.int p1), .val (.int p2), .val (.int p3), .val (.int p4), .val (.int p5), .val (.int v1), .val (.int v2), .val (.int v3), .val (.int v4), .val (.int v5), .val (.int v6), .val (.int v7), .val (.int v8), .val (.int v9), .val (.ref b10), .val (.int v33), .val (.int v34), .val (.int v35), .val (.int v36), .val (.int v37), .val (.int v38), .val (.int v39), .val (.int v40), .val (.ref b41), .val (.int v53), .val (.int z58), .val (.int z64), .val (.int z70), .unset, .unset, .unset] [(.int v36), (.int v35), (.int v34), (.int v33), (.int v1), (.int v40)]))
      refine own_callS X71 hx hZ hown e71 (hw _ (List.mem_of_getElem? (i := 6) rfl)) (hw _ (List.mem_of_getElem? (i := 7) rfl)) (hw _ (List.mem_of_getElem? (i := 8) rfl)) (hw _ (List.mem_of_getElem? (i := 9) rfl)) (rm2 l Z a0 hw [] v40 v1 v33 v34 v35 v36 T51.heap n0) (by decide) (by decide) (W := 0) (by decide) (by decide) (by decide) (g := (mkF m 407 #[.val (.int p1), .val (.int p2), .val (.int p3), .val (.int p4), .val (.int p5), .val (.int v1), .val (.int v2), .val (.int v3), .val (.int v4), .val (.int v5), .val (.int v6), .val (.int v7), .val (.int v8), .val (.int v9), .val (.ref b10), .val (.int v33), .val (.int v34), .val (.int v35), .val (.int v36), .val (.int v37), .val (.int v38), .val (.int v39), .val (.int v40), .val (.ref b41), .val (.int v53), .val (.int z58), .val (.int z64), .val (.int z70), .unset, .unset, .unset] [(.int v36), (.int v35), (.int v34), (.int v33), (.int v1), (.int v40)])) rfl (by rw [hml]; rfl) (argsL := [(.int v40), (.int v1), (.int v33), (.int v34), (.int v35), (.int v36)]) (rest := []) rfl rfl (lenOf pd_0_1 rfl) (by show 2 * 0 + _ ≤ _; exact Nat.le_of_eq rfl) (hb hby at_407) ?_
      rintro _ T74 L74 X74 ⟨rfl, N74q, e74⟩
      have N74 := Fr.app N71 N74q
      show Go p e below _ (T74.setTop (mkF m 410 #[.val (.int p1), .val (.int p2), .val (.int p3), .val (.int p4), .val (.int p5), .val (.int v1), .val (.int v2), .val (.int v3), .val (.int v4), .val (.int v5), .val (.int v6), .val (.int v7), .val (.int v8), .val (.int v9), .val (.ref b10), .val (.int v33), .val (.int v34), .val (.int v35), .val (.int v36), .val (.int v37), .val (.int v38), .val (.int v39), .val (.int v40), .val (.ref b41), .val (.int v53), .val (.int z58), .val (.int z64), .val (.int z70), .unset, .unset, .unset] [(.int (f2 v40 v1 v33 v34 v35 v36))]))
      by_cases hc75 : (f2 v40 v1 v33 v34 v35 v36) = (0 : Int32)
      · refine go (fun _ q => XS.ifYes X74.here hx rfl (pc0 := 410) (pc' := 417) rfl (hb hby at_410) rfl ((if0 _ _).trans (teq hc75).1) (by decide) (by decide) q) ?_
        show Go p e below _ (T74.setTop (mkF m 417 #[.val (.int p1), .val (.int p2), .val (.int p3), .val (.int p4), .val (.int p5), .val (.int v1), .val (.int v2), .val (.int v3), .val (.int v4), .val (.int v5), .val (.int v6), .val (.int v7), .val (.int v8), .val (.int v9), .val (.ref b10), .val (.int v33), .val (.int v34), .val (.int v35), .val (.int v36), .val (.int v37), .val (.int v38), .val (.int v39), .val (.int v40), .val (.ref b41), .val (.int v53), .val (.int z58), .val (.int z64), .val (.int z70), .unset, .unset, .unset] []))
        refine go (fun _ q => XS.iconst X74.here hx rfl (hb hby at_417) q) ?_
        show Go p e below _ (T74.setTop (mkF m 418 #[.val (.int p1), .val (.int p2), .val (.int p3), .val (.int p4), .val (.int p5), .val (.int v1), .val (.int v2), .val (.int v3), .val (.int v4), .val (.int v5), .val (.int v6), .val (.int v7), .val (.int v8), .val (.int v9), .val (.ref b10), .val (.int v33), .val (.int v34), .val (.int v35), .val (.int v36), .val (.int v37), .val (.int v38), .val (.int v39), .val (.int v40), .val (.ref b41), .val (.int v53), .val (.int z58), .val (.int z64), .val (.int z70), .unset, .unset, .unset] [(.int (0 : Int32))]))
        exact hj72 T74 _ X74 N74 e74 _ (by rw [if_pos hc73, if_pos hc75])
      · refine go (fun _ q => XS.ifNo X74.here hx rfl (hb hby at_410) rfl ((if0 _ _).trans (feq hc75).1) q) ?_
        show Go p e below _ (T74.setTop (mkF m 413 #[.val (.int p1), .val (.int p2), .val (.int p3), .val (.int p4), .val (.int p5), .val (.int v1), .val (.int v2), .val (.int v3), .val (.int v4), .val (.int v5), .val (.int v6), .val (.int v7), .val (.int v8), .val (.int v9), .val (.ref b10), .val (.int v33), .val (.int v34), .val (.int v35), .val (.int v36), .val (.int v37), .val (.int v38), .val (.int v39), .val (.int v40), .val (.ref b41), .val (.int v53), .val (.int z58), .val (.int z64), .val (.int z70), .unset, .unset, .unset] []))
        refine go (fun _ q => XS.iconst X74.here hx rfl (hb hby at_413) q) ?_
        show Go p e below _ (T74.setTop (mkF m 414 #[.val (.int p1), .val (.int p2), .val (.int p3), .val (.int p4), .val (.int p5), .val (.int v1), .val (.int v2), .val (.int v3), .val (.int v4), .val (.int v5), .val (.int v6), .val (.int v7), .val (.int v8), .val (.int v9), .val (.ref b10), .val (.int v33), .val (.int v34), .val (.int v35), .val (.int v36), .val (.int v37), .val (.int v38), .val (.int v39), .val (.int v40), .val (.ref b41), .val (.int v53), .val (.int z58), .val (.int z64), .val (.int z70), .unset, .unset, .unset] [(.int (1 : Int32))]))
        refine go (fun _ q => XS.goto X74.here hx rfl (pc0 := 414) (pc' := 418) rfl (hb hby at_414) (by decide) (by decide) q) ?_
        show Go p e below _ (T74.setTop (mkF m 418 #[.val (.int p1), .val (.int p2), .val (.int p3), .val (.int p4), .val (.int p5), .val (.int v1), .val (.int v2), .val (.int v3), .val (.int v4), .val (.int v5), .val (.int v6), .val (.int v7), .val (.int v8), .val (.int v9), .val (.ref b10), .val (.int v33), .val (.int v34), .val (.int v35), .val (.int v36), .val (.int v37), .val (.int v38), .val (.int v39), .val (.int v40), .val (.ref b41), .val (.int v53), .val (.int z58), .val (.int z64), .val (.int z70), .unset, .unset, .unset] [(.int (1 : Int32))]))
        exact hj72 T74 _ X74 N74 e74 _ (by rw [if_pos hc73, if_neg hc75])
    · refine go (fun _ q => XS.icmpYes X71.here hx rfl (pc0 := 392) (pc' := 417) rfl (hb hby at_392) rfl (flt hc73).2.2.2 (by decide) (by decide) q) ?_
      show Go p e below _ (T71.setTop (mkF m 417 #[.val (.int p1), .val (.int p2), .val (.int p3), .val (.int p4), .val (.int p5), .val (.int v1), .val (.int v2), .val (.int v3), .val (.int v4), .val (.int v5), .val (.int v6), .val (.int v7), .val (.int v8), .val (.int v9), .val (.ref b10), .val (.int v33), .val (.int v34), .val (.int v35), .val (.int v36), .val (.int v37), .val (.int v38), .val (.int v39), .val (.int v40), .val (.ref b41), .val (.int v53), .val (.int z58), .val (.int z64), .val (.int z70), .unset, .unset, .unset] []))
      refine go (fun _ q => XS.iconst X71.here hx rfl (hb hby at_417) q) ?_
      show Go p e below _ (T71.setTop (mkF m 418 #[.val (.int p1), .val (.int p2), .val (.int p3), .val (.int p4), .val (.int p5), .val (.int v1), .val (.int v2), .val (.int v3), .val (.int v4), .val (.int v5), .val (.int v6), .val (.int v7), .val (.int v8), .val (.int v9), .val (.ref b10), .val (.int v33), .val (.int v34), .val (.int v35), .val (.int v36), .val (.int v37), .val (.int v38), .val (.int v39), .val (.int v40), .val (.ref b41), .val (.int v53), .val (.int z58), .val (.int z64), .val (.int z70), .unset, .unset, .unset] [(.int (0 : Int32))]))
      exact hj72 T71 _ X71 N71 e71 _ (by rw [if_neg hc73])
  intro T77 L77 X77 N77 e77 z76 hz76
  show Go p e below _ (T77.setTop (mkF m 418 #[.val (.int p1), .val (.int p2), .val (.int p3), .val (.int p4), .val (.int p5), .val (.int v1), .val (.int v2), .val (.int v3), .val (.int v4), .val (.int v5), .val (.int v6), .val (.int v7), .val (.int v8), .val (.int v9), .val (.ref b10), .val (.int v33), .val (.int v34), .val (.int v35), .val (.int v36), .val (.int v37), .val (.int v38), .val (.int v39), .val (.int v40), .val (.ref b41), .val (.int v53), .val (.int z58), .val (.int z64), .val (.int z70), .unset, .unset, .unset] [(.int z76)]))
  refine go (fun _ q => XS.istore X77.here hx rfl (hb hby at_418) rfl (l' := #[.val (.int p1), .val (.int p2), .val (.int p3), .val (.int p4), .val (.int p5), .val (.int v1), .val (.int v2), .val (.int v3), .val (.int v4), .val (.int v5), .val (.int v6), .val (.int v7), .val (.int v8), .val (.int v9), .val (.ref b10), .val (.int v33), .val (.int v34), .val (.int v35), .val (.int v36), .val (.int v37), .val (.int v38), .val (.int v39), .val (.int v40), .val (.ref b41), .val (.int v53), .val (.int z58), .val (.int z64), .val (.int z70), .val (.int z76), .unset, .unset]) rfl q) ?_
  show Go p e below _ (T77.setTop (mkF m 420 #[.val (.int p1), .val (.int p2), .val (.int p3), .val (.int p4), .val (.int p5), .val (.int v1), .val (.int v2), .val (.int v3), .val (.int v4), .val (.int v5), .val (.int v6), .val (.int v7), .val (.int v8), .val (.int v9), .val (.ref b10), .val (.int v33), .val (.int v34), .val (.int v35), .val (.int v36), .val (.int v37), .val (.int v38), .val (.int v39), .val (.int v40), .val (.ref b41), .val (.int v53), .val (.int z58), .val (.int z64), .val (.int z70), .val (.int z76), .unset, .unset] []))
  have own_m3 := own_mi (i := 3) own_fb own_fe own_cb own_p5 (by decide) own_pq hz76
  refine go (fun _ q => XS.iconst X77.here hx rfl (hb hby at_420) q) ?_
  show Go p e below _ (T77.setTop (mkF m 421 #[.val (.int p1), .val (.int p2), .val (.int p3), .val (.int p4), .val (.int p5), .val (.int v1), .val (.int v2), .val (.int v3), .val (.int v4), .val (.int v5), .val (.int v6), .val (.int v7), .val (.int v8), .val (.int v9), .val (.ref b10), .val (.int v33), .val (.int v34), .val (.int v35), .val (.int v36), .val (.int v37), .val (.int v38), .val (.int v39), .val (.int v40), .val (.ref b41), .val (.int v53), .val (.int z58), .val (.int z64), .val (.int z70), .val (.int z76), .unset, .unset] [(.int (0 : Int32))]))
  refine go (fun _ q => XS.istore X77.here hx rfl (hb hby at_421) rfl (l' := #[.val (.int p1), .val (.int p2), .val (.int p3), .val (.int p4), .val (.int p5), .val (.int v1), .val (.int v2), .val (.int v3), .val (.int v4), .val (.int v5), .val (.int v6), .val (.int v7), .val (.int v8), .val (.int v9), .val (.ref b10), .val (.int v33), .val (.int v34), .val (.int v35), .val (.int v36), .val (.int v37), .val (.int v38), .val (.int v39), .val (.int v40), .val (.ref b41), .val (.int v53), .val (.int z58), .val (.int z64), .val (.int z70), .val (.int z76), .val (.int (0 : Int32)), .unset]) rfl q) ?_
  show Go p e below _ (T77.setTop (mkF m 423 #[.val (.int p1), .val (.int p2), .val (.int p3), .val (.int p4), .val (.int p5), .val (.int v1), .val (.int v2), .val (.int v3), .val (.int v4), .val (.int v5), .val (.int v6), .val (.int v7), .val (.int v8), .val (.int v9), .val (.ref b10), .val (.int v33), .val (.int v34), .val (.int v35), .val (.int v36), .val (.int v37), .val (.int v38), .val (.int v39), .val (.int v40), .val (.ref b41), .val (.int v53), .val (.int z58), .val (.int z64), .val (.int z70), .val (.int z76), .val (.int (0 : Int32)), .unset] []))
  refine go (fun _ q => XS.iconst X77.here hx rfl (hb hby at_423) q) ?_
  show Go p e below _ (T77.setTop (mkF m 424 #[.val (.int p1), .val (.int p2), .val (.int p3), .val (.int p4), .val (.int p5), .val (.int v1), .val (.int v2), .val (.int v3), .val (.int v4), .val (.int v5), .val (.int v6), .val (.int v7), .val (.int v8), .val (.int v9), .val (.ref b10), .val (.int v33), .val (.int v34), .val (.int v35), .val (.int v36), .val (.int v37), .val (.int v38), .val (.int v39), .val (.int v40), .val (.ref b41), .val (.int v53), .val (.int z58), .val (.int z64), .val (.int z70), .val (.int z76), .val (.int (0 : Int32)), .unset] [(.int (4 : Int32))]))
  obtain ⟨T78, h78, k78, X78, e78, E78, A78, st78⟩ := newP X77 hx hZ (hw _ (List.mem_of_getElem? (i := 1) rfl)) e77 (g := (mkF m 424 #[.val (.int p1), .val (.int p2), .val (.int p3), .val (.int p4), .val (.int p5), .val (.int v1), .val (.int v2), .val (.int v3), .val (.int v4), .val (.int v5), .val (.int v6), .val (.int v7), .val (.int v8), .val (.int v9), .val (.ref b10), .val (.int v33), .val (.int v34), .val (.int v35), .val (.int v36), .val (.int v37), .val (.int v38), .val (.int v39), .val (.int v40), .val (.ref b41), .val (.int v53), .val (.int z58), .val (.int z64), .val (.int z70), .val (.int z76), .val (.int (0 : Int32)), .unset] [(.int (4 : Int32))])) rfl (hb hby at_424) rfl (by decide) (cap := 4) (by decide) (by decide) (by decide) (by decide)
  obtain ⟨b78, g78⟩ : ∃ z, z = T51.heap.size := ⟨_, rfl⟩
  rw [← g78] at A78 st78
  refine go st78 ?_
  have ne_b10_b78 : b10 ≠ b78 := Nat.ne_of_lt (Nat.lt_of_lt_of_le P_52.lt (Nat.le_of_eq g78.symm))
  have ne_b41_b78 : b41 ≠ b78 := Nat.ne_of_lt (Nat.lt_of_lt_of_le PA51.lt (Nat.le_of_eq g78.symm))
  have g_b78 : n0 ≤ b78 := Nat.le_trans Zq51 (Nat.le_of_eq g78.symm)
  have Z78 : n0 ≤ h78.size := Nat.le_trans Zq51 E78.1
  have P_79 : Ari Z h78 b10 xs32 := P_52.ext E78
  have P_80 : Ari Z h78 b41 A51 := PA51.ext E78
  have P78 : Ari Z h78 b78 ([(0 : Int32), (0 : Int32), (0 : Int32), (0 : Int32)] : List Int32) := own_fresh A78 (by decide) (m := 4) rfl
  show Go p e below _ (T78.setTop (mkF m 426 #[.val (.int p1), .val (.int p2), .val (.int p3), .val (.int p4), .val (.int p5), .val (.int v1), .val (.int v2), .val (.int v3), .val (.int v4), .val (.int v5), .val (.int v6), .val (.int v7), .val (.int v8), .val (.int v9), .val (.ref b10), .val (.int v33), .val (.int v34), .val (.int v35), .val (.int v36), .val (.int v37), .val (.int v38), .val (.int v39), .val (.int v40), .val (.ref b41), .val (.int v53), .val (.int z58), .val (.int z64), .val (.int z70), .val (.int z76), .val (.int (0 : Int32)), .unset] [(.ref b78)]))
  refine go (fun _ q => XS.astore X78.here hx rfl (hb hby at_426) rfl rfl (l' := #[.val (.int p1), .val (.int p2), .val (.int p3), .val (.int p4), .val (.int p5), .val (.int v1), .val (.int v2), .val (.int v3), .val (.int v4), .val (.int v5), .val (.int v6), .val (.int v7), .val (.int v8), .val (.int v9), .val (.ref b10), .val (.int v33), .val (.int v34), .val (.int v35), .val (.int v36), .val (.int v37), .val (.int v38), .val (.int v39), .val (.int v40), .val (.ref b41), .val (.int v53), .val (.int z58), .val (.int z64), .val (.int z70), .val (.int z76), .val (.int (0 : Int32)), .val (.ref b78)]) rfl q) ?_
  show Go p e below _ (T78.setTop (mkF m 428 #[.val (.int p1), .val (.int p2), .val (.int p3), .val (.int p4), .val (.int p5), .val (.int v1), .val (.int v2), .val (.int v3), .val (.int v4), .val (.int v5), .val (.int v6), .val (.int v7), .val (.int v8), .val (.int v9), .val (.ref b10), .val (.int v33), .val (.int v34), .val (.int v35), .val (.int v36), .val (.int v37), .val (.int v38), .val (.int v39), .val (.int v40), .val (.ref b41), .val (.int v53), .val (.int z58), .val (.int z64), .val (.int z70), .val (.int z76), .val (.int (0 : Int32)), .val (.ref b78)] []))
  refine go (fun _ q => XS.iload X78.here hx rfl (hb hby at_428) rfl q) ?_
  show Go p e below _ (T78.setTop (mkF m 430 #[.val (.int p1), .val (.int p2), .val (.int p3), .val (.int p4), .val (.int p5), .val (.int v1), .val (.int v2), .val (.int v3), .val (.int v4), .val (.int v5), .val (.int v6), .val (.int v7), .val (.int v8), .val (.int v9), .val (.ref b10), .val (.int v33), .val (.int v34), .val (.int v35), .val (.int v36), .val (.int v37), .val (.int v38), .val (.int v39), .val (.int v40), .val (.ref b41), .val (.int v53), .val (.int z58), .val (.int z64), .val (.int z70), .val (.int z76), .val (.int (0 : Int32)), .val (.ref b78)] [(.int z58)]))
  suffices hj81 : ∀ (T87 : State) (L87 : List Loc), Stand p l e room_1 s m #[(.int p1), (.int p2), (.int p3), (.int p4), (.int p5)] below meth c T87 L87 3 14 → Fr n0 L87 → n0 ≤ T87.heap.size → Ari Z T87.heap b10 xs32 → Ari Z T87.heap b41 A51 → ∀ (xs90 : List Int32), Ari Z T87.heap b78 xs90 → xs90 = (if z58 = (0 : Int32) then ([(0 : Int32), (0 : Int32), (0 : Int32), (0 : Int32)] : List Int32) else ([v37, (0 : Int32), (0 : Int32), (0 : Int32)] : List Int32)) → ∀ (z86 : Int32), z86 = (if z58 = (0 : Int32) then (0 : Int32) else (1 : Int32)) → Go p e below (Dn below s ((Q0 n0)) room_1.cells room_1.slots) (T87.setTop (mkF m 443 #[.val (.int p1), .val (.int p2), .val (.int p3), .val (.int p4), .val (.int p5), .val (.int v1), .val (.int v2), .val (.int v3), .val (.int v4), .val (.int v5), .val (.int v6), .val (.int v7), .val (.int v8), .val (.int v9), .val (.ref b10), .val (.int v33), .val (.int v34), .val (.int v35), .val (.int v36), .val (.int v37), .val (.int v38), .val (.int v39), .val (.int v40), .val (.ref b41), .val (.int v53), .val (.int z58), .val (.int z64), .val (.int z70), .val (.int z76), .val (.int z86), .val (.ref b78)] [])) by
    by_cases hc82 : z58 = (0 : Int32)
    · refine go (fun _ q => XS.ifYes X78.here hx rfl (pc0 := 430) (pc' := 443) rfl (hb hby at_430) rfl ((if0 _ _).trans (teq hc82).1) (by decide) (by decide) q) ?_
      show Go p e below _ (T78.setTop (mkF m 443 #[.val (.int p1), .val (.int p2), .val (.int p3), .val (.int p4), .val (.int p5), .val (.int v1), .val (.int v2), .val (.int v3), .val (.int v4), .val (.int v5), .val (.int v6), .val (.int v7), .val (.int v8), .val (.int v9), .val (.ref b10), .val (.int v33), .val (.int v34), .val (.int v35), .val (.int v36), .val (.int v37), .val (.int v38), .val (.int v39), .val (.int v40), .val (.ref b41), .val (.int v53), .val (.int z58), .val (.int z64), .val (.int z70), .val (.int z76), .val (.int (0 : Int32)), .val (.ref b78)] []))
      exact hj81 T78 _ X78 N77 (by rw [e78]; exact Z78) (by rw [e78]; exact P_79) (by rw [e78]; exact P_80) _ (by rw [e78]; exact P78) (by rw [if_pos hc82]) _ (by rw [if_pos hc82])
    · refine go (fun _ q => XS.ifNo X78.here hx rfl (hb hby at_430) rfl ((if0 _ _).trans (feq hc82).1) q) ?_
      show Go p e below _ (T78.setTop (mkF m 433 #[.val (.int p1), .val (.int p2), .val (.int p3), .val (.int p4), .val (.int p5), .val (.int v1), .val (.int v2), .val (.int v3), .val (.int v4), .val (.int v5), .val (.int v6), .val (.int v7), .val (.int v8), .val (.int v9), .val (.ref b10), .val (.int v33), .val (.int v34), .val (.int v35), .val (.int v36), .val (.int v37), .val (.int v38), .val (.int v39), .val (.int v40), .val (.ref b41), .val (.int v53), .val (.int z58), .val (.int z64), .val (.int z70), .val (.int z76), .val (.int (0 : Int32)), .val (.ref b78)] []))
      refine go (fun _ q => XS.aload X78.here hx rfl (hb hby at_433) rfl rfl q) ?_
      show Go p e below _ (T78.setTop (mkF m 435 #[.val (.int p1), .val (.int p2), .val (.int p3), .val (.int p4), .val (.int p5), .val (.int v1), .val (.int v2), .val (.int v3), .val (.int v4), .val (.int v5), .val (.int v6), .val (.int v7), .val (.int v8), .val (.int v9), .val (.ref b10), .val (.int v33), .val (.int v34), .val (.int v35), .val (.int v36), .val (.int v37), .val (.int v38), .val (.int v39), .val (.int v40), .val (.ref b41), .val (.int v53), .val (.int z58), .val (.int z64), .val (.int z70), .val (.int z76), .val (.int (0 : Int32)), .val (.ref b78)] [(.ref b78)]))
      refine go (fun _ q => XS.iload X78.here hx rfl (hb hby at_435) rfl q) ?_
      show Go p e below _ (T78.setTop (mkF m 437 #[.val (.int p1), .val (.int p2), .val (.int p3), .val (.int p4), .val (.int p5), .val (.int v1), .val (.int v2), .val (.int v3), .val (.int v4), .val (.int v5), .val (.int v6), .val (.int v7), .val (.int v8), .val (.int v9), .val (.ref b10), .val (.int v33), .val (.int v34), .val (.int v35), .val (.int v36), .val (.int v37), .val (.int v38), .val (.int v39), .val (.int v40), .val (.ref b41), .val (.int v53), .val (.int z58), .val (.int z64), .val (.int z70), .val (.int z76), .val (.int (0 : Int32)), .val (.ref b78)] [(.int (0 : Int32)), (.ref b78)]))
      refine go (fun _ q => XS.iload X78.here hx rfl (hb hby at_437) rfl q) ?_
      show Go p e below _ (T78.setTop (mkF m 439 #[.val (.int p1), .val (.int p2), .val (.int p3), .val (.int p4), .val (.int p5), .val (.int v1), .val (.int v2), .val (.int v3), .val (.int v4), .val (.int v5), .val (.int v6), .val (.int v7), .val (.int v8), .val (.int v9), .val (.ref b10), .val (.int v33), .val (.int v34), .val (.int v35), .val (.int v36), .val (.int v37), .val (.int v38), .val (.int v39), .val (.int v40), .val (.ref b41), .val (.int v53), .val (.int z58), .val (.int z64), .val (.int z70), .val (.int z76), .val (.int (0 : Int32)), .val (.ref b78)] [(.int v37), (.int (0 : Int32)), (.ref b78)]))
      obtain ⟨T83, h83, X83, e83, W83, V83, st83⟩ := own_iastore X78 hx hZ e78 P78 (j := (0 : Int32)) (x := v37) (by decide) (Nat.le_of_ble_eq_true rfl) (g := (mkF m 439 #[.val (.int p1), .val (.int p2), .val (.int p3), .val (.int p4), .val (.int p5), .val (.int v1), .val (.int v2), .val (.int v3), .val (.int v4), .val (.int v5), .val (.int v6), .val (.int v7), .val (.int v8), .val (.int v9), .val (.ref b10), .val (.int v33), .val (.int v34), .val (.int v35), .val (.int v36), .val (.int v37), .val (.int v38), .val (.int v39), .val (.int v40), .val (.ref b41), .val (.int v53), .val (.int z58), .val (.int z64), .val (.int z70), .val (.int z76), .val (.int (0 : Int32)), .val (.ref b78)] [(.int v37), (.int (0 : Int32)), (.ref b78)])) rfl rfl (hb hby at_439)
      refine go st83 ?_
      have P83 : Ari Z h83 b78 ([v37, (0 : Int32), (0 : Int32), (0 : Int32)] : List Int32) := V83
      have P_84 : Ari Z h83 b10 xs32 := P_79.other W83 ne_b10_b78
      have P_85 : Ari Z h83 b41 A51 := P_80.other W83 ne_b41_b78
      have N83 := Fr.snoc X83 N77 g_b78
      have Z83 : n0 ≤ h83.size := Nat.le_trans Z78 (Nat.le_of_eq W83.size.symm)
      show Go p e below _ (T83.setTop (mkF m 440 #[.val (.int p1), .val (.int p2), .val (.int p3), .val (.int p4), .val (.int p5), .val (.int v1), .val (.int v2), .val (.int v3), .val (.int v4), .val (.int v5), .val (.int v6), .val (.int v7), .val (.int v8), .val (.int v9), .val (.ref b10), .val (.int v33), .val (.int v34), .val (.int v35), .val (.int v36), .val (.int v37), .val (.int v38), .val (.int v39), .val (.int v40), .val (.ref b41), .val (.int v53), .val (.int z58), .val (.int z64), .val (.int z70), .val (.int z76), .val (.int (0 : Int32)), .val (.ref b78)] []))
      refine go (fun _ q => XS.iinc X83.here hx rfl (hb hby at_440) rfl (l' := #[.val (.int p1), .val (.int p2), .val (.int p3), .val (.int p4), .val (.int p5), .val (.int v1), .val (.int v2), .val (.int v3), .val (.int v4), .val (.int v5), .val (.int v6), .val (.int v7), .val (.int v8), .val (.int v9), .val (.ref b10), .val (.int v33), .val (.int v34), .val (.int v35), .val (.int v36), .val (.int v37), .val (.int v38), .val (.int v39), .val (.int v40), .val (.ref b41), .val (.int v53), .val (.int z58), .val (.int z64), .val (.int z70), .val (.int z76), .val (.int (1 : Int32)), .val (.ref b78)]) rfl q) ?_
      show Go p e below _ (T83.setTop (mkF m 443 #[.val (.int p1), .val (.int p2), .val (.int p3), .val (.int p4), .val (.int p5), .val (.int v1), .val (.int v2), .val (.int v3), .val (.int v4), .val (.int v5), .val (.int v6), .val (.int v7), .val (.int v8), .val (.int v9), .val (.ref b10), .val (.int v33), .val (.int v34), .val (.int v35), .val (.int v36), .val (.int v37), .val (.int v38), .val (.int v39), .val (.int v40), .val (.ref b41), .val (.int v53), .val (.int z58), .val (.int z64), .val (.int z70), .val (.int z76), .val (.int (1 : Int32)), .val (.ref b78)] []))
      exact hj81 T83 _ X83 N83 (by rw [e83]; exact Z83) (by rw [e83]; exact P_84) (by rw [e83]; exact P_85) _ (by rw [e83]; exact P83) (by rw [if_neg hc82]) _ (by rw [if_neg hc82])
  intro T87 L87 X87 N87 Z87 P88 P89 xs90 Pxs90 hxs90 z86 hz86
  have lxs90 : xs90.length = 4 := by rw [hxs90]; (repeat' split) <;> first | rfl | assumption | (simp only [List.length_set]; first | rfl | assumption)
  show Go p e below _ (T87.setTop (mkF m 443 #[.val (.int p1), .val (.int p2), .val (.int p3), .val (.int p4), .val (.int p5), .val (.int v1), .val (.int v2), .val (.int v3), .val (.int v4), .val (.int v5), .val (.int v6), .val (.int v7), .val (.int v8), .val (.int v9), .val (.ref b10), .val (.int v33), .val (.int v34), .val (.int v35), .val (.int v36), .val (.int v37), .val (.int v38), .val (.int v39), .val (.int v40), .val (.ref b41), .val (.int v53), .val (.int z58), .val (.int z64), .val (.int z70), .val (.int z76), .val (.int z86), .val (.ref b78)] []))
  have own_t0 := own_e0 hz86 hxs90
  refine go (fun _ q => XS.iload X87.here hx rfl (hb hby at_443) rfl q) ?_
  show Go p e below _ (T87.setTop (mkF m 445 #[.val (.int p1), .val (.int p2), .val (.int p3), .val (.int p4), .val (.int p5), .val (.int v1), .val (.int v2), .val (.int v3), .val (.int v4), .val (.int v5), .val (.int v6), .val (.int v7), .val (.int v8), .val (.int v9), .val (.ref b10), .val (.int v33), .val (.int v34), .val (.int v35), .val (.int v36), .val (.int v37), .val (.int v38), .val (.int v39), .val (.int v40), .val (.ref b41), .val (.int v53), .val (.int z58), .val (.int z64), .val (.int z70), .val (.int z76), .val (.int z86), .val (.ref b78)] [(.int z64)]))
  suffices hj91 : ∀ (T97 : State) (L97 : List Loc), Stand p l e room_1 s m #[(.int p1), (.int p2), (.int p3), (.int p4), (.int p5)] below meth c T97 L97 3 14 → Fr n0 L97 → n0 ≤ T97.heap.size → Ari Z T97.heap b10 xs32 → Ari Z T97.heap b41 A51 → ∀ (xs100 : List Int32), Ari Z T97.heap b78 xs100 → xs100 = (if z64 = (0 : Int32) then xs90 else (xs90.set (z86).toNatClampNeg v38)) → ∀ (z96 : Int32), z96 = (if z64 = (0 : Int32) then z86 else (z86 + (1 : Int32))) → Go p e below (Dn below s ((Q0 n0)) room_1.cells room_1.slots) (T97.setTop (mkF m 458 #[.val (.int p1), .val (.int p2), .val (.int p3), .val (.int p4), .val (.int p5), .val (.int v1), .val (.int v2), .val (.int v3), .val (.int v4), .val (.int v5), .val (.int v6), .val (.int v7), .val (.int v8), .val (.int v9), .val (.ref b10), .val (.int v33), .val (.int v34), .val (.int v35), .val (.int v36), .val (.int v37), .val (.int v38), .val (.int v39), .val (.int v40), .val (.ref b41), .val (.int v53), .val (.int z58), .val (.int z64), .val (.int z70), .val (.int z76), .val (.int z96), .val (.ref b78)] [])) by
    by_cases hc92 : z64 = (0 : Int32)
    · refine go (fun _ q => XS.ifYes X87.here hx rfl (pc0 := 445) (pc' := 458) rfl (hb hby at_445) rfl ((if0 _ _).trans (teq hc92).1) (by decide) (by decide) q) ?_
      show Go p e below _ (T87.setTop (mkF m 458 #[.val (.int p1), .val (.int p2), .val (.int p3), .val (.int p4), .val (.int p5), .val (.int v1), .val (.int v2), .val (.int v3), .val (.int v4), .val (.int v5), .val (.int v6), .val (.int v7), .val (.int v8), .val (.int v9), .val (.ref b10), .val (.int v33), .val (.int v34), .val (.int v35), .val (.int v36), .val (.int v37), .val (.int v38), .val (.int v39), .val (.int v40), .val (.ref b41), .val (.int v53), .val (.int z58), .val (.int z64), .val (.int z70), .val (.int z76), .val (.int z86), .val (.ref b78)] []))
      exact hj91 T87 _ X87 N87 Z87 P88 P89 _ Pxs90 (by rw [if_pos hc92]) _ (by rw [if_pos hc92])
    · refine go (fun _ q => XS.ifNo X87.here hx rfl (hb hby at_445) rfl ((if0 _ _).trans (feq hc92).1) q) ?_
      show Go p e below _ (T87.setTop (mkF m 448 #[.val (.int p1), .val (.int p2), .val (.int p3), .val (.int p4), .val (.int p5), .val (.int v1), .val (.int v2), .val (.int v3), .val (.int v4), .val (.int v5), .val (.int v6), .val (.int v7), .val (.int v8), .val (.int v9), .val (.ref b10), .val (.int v33), .val (.int v34), .val (.int v35), .val (.int v36), .val (.int v37), .val (.int v38), .val (.int v39), .val (.int v40), .val (.ref b41), .val (.int v53), .val (.int z58), .val (.int z64), .val (.int z70), .val (.int z76), .val (.int z86), .val (.ref b78)] []))
      refine go (fun _ q => XS.aload X87.here hx rfl (hb hby at_448) rfl rfl q) ?_
      show Go p e below _ (T87.setTop (mkF m 450 #[.val (.int p1), .val (.int p2), .val (.int p3), .val (.int p4), .val (.int p5), .val (.int v1), .val (.int v2), .val (.int v3), .val (.int v4), .val (.int v5), .val (.int v6), .val (.int v7), .val (.int v8), .val (.int v9), .val (.ref b10), .val (.int v33), .val (.int v34), .val (.int v35), .val (.int v36), .val (.int v37), .val (.int v38), .val (.int v39), .val (.int v40), .val (.ref b41), .val (.int v53), .val (.int z58), .val (.int z64), .val (.int z70), .val (.int z76), .val (.int z86), .val (.ref b78)] [(.ref b78)]))
      refine go (fun _ q => XS.iload X87.here hx rfl (hb hby at_450) rfl q) ?_
      show Go p e below _ (T87.setTop (mkF m 452 #[.val (.int p1), .val (.int p2), .val (.int p3), .val (.int p4), .val (.int p5), .val (.int v1), .val (.int v2), .val (.int v3), .val (.int v4), .val (.int v5), .val (.int v6), .val (.int v7), .val (.int v8), .val (.int v9), .val (.ref b10), .val (.int v33), .val (.int v34), .val (.int v35), .val (.int v36), .val (.int v37), .val (.int v38), .val (.int v39), .val (.int v40), .val (.ref b41), .val (.int v53), .val (.int z58), .val (.int z64), .val (.int z70), .val (.int z76), .val (.int z86), .val (.ref b78)] [(.int z86), (.ref b78)]))
      refine go (fun _ q => XS.iload X87.here hx rfl (hb hby at_452) rfl q) ?_
      show Go p e below _ (T87.setTop (mkF m 454 #[.val (.int p1), .val (.int p2), .val (.int p3), .val (.int p4), .val (.int p5), .val (.int v1), .val (.int v2), .val (.int v3), .val (.int v4), .val (.int v5), .val (.int v6), .val (.int v7), .val (.int v8), .val (.int v9), .val (.ref b10), .val (.int v33), .val (.int v34), .val (.int v35), .val (.int v36), .val (.int v37), .val (.int v38), .val (.int v39), .val (.int v40), .val (.ref b41), .val (.int v53), .val (.int z58), .val (.int z64), .val (.int z70), .val (.int z76), .val (.int z86), .val (.ref b78)] [(.int v38), (.int z86), (.ref b78)]))
      obtain ⟨T93, h93, X93, e93, W93, V93, st93⟩ := own_iastore X87 hx hZ rfl Pxs90 (j := z86) (x := v38) (own_ixe own_t0 (by decide)).1 (by rw [lxs90]; exact Nat.lt_of_le_of_lt (own_ixe own_t0 (by decide)).2 (by decide)) (g := (mkF m 454 #[.val (.int p1), .val (.int p2), .val (.int p3), .val (.int p4), .val (.int p5), .val (.int v1), .val (.int v2), .val (.int v3), .val (.int v4), .val (.int v5), .val (.int v6), .val (.int v7), .val (.int v8), .val (.int v9), .val (.ref b10), .val (.int v33), .val (.int v34), .val (.int v35), .val (.int v36), .val (.int v37), .val (.int v38), .val (.int v39), .val (.int v40), .val (.ref b41), .val (.int v53), .val (.int z58), .val (.int z64), .val (.int z70), .val (.int z76), .val (.int z86), .val (.ref b78)] [(.int v38), (.int z86), (.ref b78)])) rfl rfl (hb hby at_454)
      refine go st93 ?_
      have P93 : Ari Z h93 b78 (xs90.set (z86).toNatClampNeg v38) := V93
      have l93 : (xs90.set (z86).toNatClampNeg v38).length = 4 := by rw [List.length_set]; exact lxs90
      have P_94 : Ari Z h93 b10 xs32 := P88.other W93 ne_b10_b78
      have P_95 : Ari Z h93 b41 A51 := P89.other W93 ne_b41_b78
      have N93 := Fr.snoc X93 N87 g_b78
      have Z93 : n0 ≤ h93.size := Nat.le_trans Z87 (Nat.le_of_eq W93.size.symm)
      show Go p e below _ (T93.setTop (mkF m 455 #[.val (.int p1), .val (.int p2), .val (.int p3), .val (.int p4), .val (.int p5), .val (.int v1), .val (.int v2), .val (.int v3), .val (.int v4), .val (.int v5), .val (.int v6), .val (.int v7), .val (.int v8), .val (.int v9), .val (.ref b10), .val (.int v33), .val (.int v34), .val (.int v35), .val (.int v36), .val (.int v37), .val (.int v38), .val (.int v39), .val (.int v40), .val (.ref b41), .val (.int v53), .val (.int z58), .val (.int z64), .val (.int z70), .val (.int z76), .val (.int z86), .val (.ref b78)] []))
      refine go (fun _ q => XS.iinc X93.here hx rfl (hb hby at_455) rfl (l' := #[.val (.int p1), .val (.int p2), .val (.int p3), .val (.int p4), .val (.int p5), .val (.int v1), .val (.int v2), .val (.int v3), .val (.int v4), .val (.int v5), .val (.int v6), .val (.int v7), .val (.int v8), .val (.int v9), .val (.ref b10), .val (.int v33), .val (.int v34), .val (.int v35), .val (.int v36), .val (.int v37), .val (.int v38), .val (.int v39), .val (.int v40), .val (.ref b41), .val (.int v53), .val (.int z58), .val (.int z64), .val (.int z70), .val (.int z76), .val (.int (z86 + (1 : Int32))), .val (.ref b78)]) rfl q) ?_
      show Go p e below _ (T93.setTop (mkF m 458 #[.val (.int p1), .val (.int p2), .val (.int p3), .val (.int p4), .val (.int p5), .val (.int v1), .val (.int v2), .val (.int v3), .val (.int v4), .val (.int v5), .val (.int v6), .val (.int v7), .val (.int v8), .val (.int v9), .val (.ref b10), .val (.int v33), .val (.int v34), .val (.int v35), .val (.int v36), .val (.int v37), .val (.int v38), .val (.int v39), .val (.int v40), .val (.ref b41), .val (.int v53), .val (.int z58), .val (.int z64), .val (.int z70), .val (.int z76), .val (.int (z86 + (1 : Int32))), .val (.ref b78)] []))
      exact hj91 T93 _ X93 N93 (by rw [e93]; exact Z93) (by rw [e93]; exact P_94) (by rw [e93]; exact P_95) _ (by rw [e93]; exact P93) (by rw [if_neg hc92]) _ (by rw [if_neg hc92])
  intro T97 L97 X97 N97 Z97 P98 P99 xs100 Pxs100 hxs100 z96 hz96
  have lxs100 : xs100.length = 4 := by rw [hxs100]; (repeat' split) <;> first | rfl | assumption | (simp only [List.length_set]; first | rfl | assumption)
  show Go p e below _ (T97.setTop (mkF m 458 #[.val (.int p1), .val (.int p2), .val (.int p3), .val (.int p4), .val (.int p5), .val (.int v1), .val (.int v2), .val (.int v3), .val (.int v4), .val (.int v5), .val (.int v6), .val (.int v7), .val (.int v8), .val (.int v9), .val (.ref b10), .val (.int v33), .val (.int v34), .val (.int v35), .val (.int v36), .val (.int v37), .val (.int v38), .val (.int v39), .val (.int v40), .val (.ref b41), .val (.int v53), .val (.int z58), .val (.int z64), .val (.int z70), .val (.int z76), .val (.int z96), .val (.ref b78)] []))
  have own_t1 := own_estep own_t0 (by decide) (by rw [lxs90]; decide) hz96 hxs100
  refine go (fun _ q => XS.iload X97.here hx rfl (hb hby at_458) rfl q) ?_
  show Go p e below _ (T97.setTop (mkF m 460 #[.val (.int p1), .val (.int p2), .val (.int p3), .val (.int p4), .val (.int p5), .val (.int v1), .val (.int v2), .val (.int v3), .val (.int v4), .val (.int v5), .val (.int v6), .val (.int v7), .val (.int v8), .val (.int v9), .val (.ref b10), .val (.int v33), .val (.int v34), .val (.int v35), .val (.int v36), .val (.int v37), .val (.int v38), .val (.int v39), .val (.int v40), .val (.ref b41), .val (.int v53), .val (.int z58), .val (.int z64), .val (.int z70), .val (.int z76), .val (.int z96), .val (.ref b78)] [(.int z70)]))
  suffices hj101 : ∀ (T107 : State) (L107 : List Loc), Stand p l e room_1 s m #[(.int p1), (.int p2), (.int p3), (.int p4), (.int p5)] below meth c T107 L107 3 14 → Fr n0 L107 → n0 ≤ T107.heap.size → Ari Z T107.heap b10 xs32 → Ari Z T107.heap b41 A51 → ∀ (xs110 : List Int32), Ari Z T107.heap b78 xs110 → xs110 = (if z70 = (0 : Int32) then xs100 else (xs100.set (z96).toNatClampNeg v39)) → ∀ (z106 : Int32), z106 = (if z70 = (0 : Int32) then z96 else (z96 + (1 : Int32))) → Go p e below (Dn below s ((Q0 n0)) room_1.cells room_1.slots) (T107.setTop (mkF m 473 #[.val (.int p1), .val (.int p2), .val (.int p3), .val (.int p4), .val (.int p5), .val (.int v1), .val (.int v2), .val (.int v3), .val (.int v4), .val (.int v5), .val (.int v6), .val (.int v7), .val (.int v8), .val (.int v9), .val (.ref b10), .val (.int v33), .val (.int v34), .val (.int v35), .val (.int v36), .val (.int v37), .val (.int v38), .val (.int v39), .val (.int v40), .val (.ref b41), .val (.int v53), .val (.int z58), .val (.int z64), .val (.int z70), .val (.int z76), .val (.int z106), .val (.ref b78)] [])) by
    by_cases hc102 : z70 = (0 : Int32)
    · refine go (fun _ q => XS.ifYes X97.here hx rfl (pc0 := 460) (pc' := 473) rfl (hb hby at_460) rfl ((if0 _ _).trans (teq hc102).1) (by decide) (by decide) q) ?_
      show Go p e below _ (T97.setTop (mkF m 473 #[.val (.int p1), .val (.int p2), .val (.int p3), .val (.int p4), .val (.int p5), .val (.int v1), .val (.int v2), .val (.int v3), .val (.int v4), .val (.int v5), .val (.int v6), .val (.int v7), .val (.int v8), .val (.int v9), .val (.ref b10), .val (.int v33), .val (.int v34), .val (.int v35), .val (.int v36), .val (.int v37), .val (.int v38), .val (.int v39), .val (.int v40), .val (.ref b41), .val (.int v53), .val (.int z58), .val (.int z64), .val (.int z70), .val (.int z76), .val (.int z96), .val (.ref b78)] []))
      exact hj101 T97 _ X97 N97 Z97 P98 P99 _ Pxs100 (by rw [if_pos hc102]) _ (by rw [if_pos hc102])
    · refine go (fun _ q => XS.ifNo X97.here hx rfl (hb hby at_460) rfl ((if0 _ _).trans (feq hc102).1) q) ?_
      show Go p e below _ (T97.setTop (mkF m 463 #[.val (.int p1), .val (.int p2), .val (.int p3), .val (.int p4), .val (.int p5), .val (.int v1), .val (.int v2), .val (.int v3), .val (.int v4), .val (.int v5), .val (.int v6), .val (.int v7), .val (.int v8), .val (.int v9), .val (.ref b10), .val (.int v33), .val (.int v34), .val (.int v35), .val (.int v36), .val (.int v37), .val (.int v38), .val (.int v39), .val (.int v40), .val (.ref b41), .val (.int v53), .val (.int z58), .val (.int z64), .val (.int z70), .val (.int z76), .val (.int z96), .val (.ref b78)] []))
      refine go (fun _ q => XS.aload X97.here hx rfl (hb hby at_463) rfl rfl q) ?_
      show Go p e below _ (T97.setTop (mkF m 465 #[.val (.int p1), .val (.int p2), .val (.int p3), .val (.int p4), .val (.int p5), .val (.int v1), .val (.int v2), .val (.int v3), .val (.int v4), .val (.int v5), .val (.int v6), .val (.int v7), .val (.int v8), .val (.int v9), .val (.ref b10), .val (.int v33), .val (.int v34), .val (.int v35), .val (.int v36), .val (.int v37), .val (.int v38), .val (.int v39), .val (.int v40), .val (.ref b41), .val (.int v53), .val (.int z58), .val (.int z64), .val (.int z70), .val (.int z76), .val (.int z96), .val (.ref b78)] [(.ref b78)]))
      refine go (fun _ q => XS.iload X97.here hx rfl (hb hby at_465) rfl q) ?_
      show Go p e below _ (T97.setTop (mkF m 467 #[.val (.int p1), .val (.int p2), .val (.int p3), .val (.int p4), .val (.int p5), .val (.int v1), .val (.int v2), .val (.int v3), .val (.int v4), .val (.int v5), .val (.int v6), .val (.int v7), .val (.int v8), .val (.int v9), .val (.ref b10), .val (.int v33), .val (.int v34), .val (.int v35), .val (.int v36), .val (.int v37), .val (.int v38), .val (.int v39), .val (.int v40), .val (.ref b41), .val (.int v53), .val (.int z58), .val (.int z64), .val (.int z70), .val (.int z76), .val (.int z96), .val (.ref b78)] [(.int z96), (.ref b78)]))
      refine go (fun _ q => XS.iload X97.here hx rfl (hb hby at_467) rfl q) ?_
      show Go p e below _ (T97.setTop (mkF m 469 #[.val (.int p1), .val (.int p2), .val (.int p3), .val (.int p4), .val (.int p5), .val (.int v1), .val (.int v2), .val (.int v3), .val (.int v4), .val (.int v5), .val (.int v6), .val (.int v7), .val (.int v8), .val (.int v9), .val (.ref b10), .val (.int v33), .val (.int v34), .val (.int v35), .val (.int v36), .val (.int v37), .val (.int v38), .val (.int v39), .val (.int v40), .val (.ref b41), .val (.int v53), .val (.int z58), .val (.int z64), .val (.int z70), .val (.int z76), .val (.int z96), .val (.ref b78)] [(.int v39), (.int z96), (.ref b78)]))
      obtain ⟨T103, h103, X103, e103, W103, V103, st103⟩ := own_iastore X97 hx hZ rfl Pxs100 (j := z96) (x := v39) (own_ixe own_t1 (by decide)).1 (by rw [lxs100]; exact Nat.lt_of_le_of_lt (own_ixe own_t1 (by decide)).2 (by decide)) (g := (mkF m 469 #[.val (.int p1), .val (.int p2), .val (.int p3), .val (.int p4), .val (.int p5), .val (.int v1), .val (.int v2), .val (.int v3), .val (.int v4), .val (.int v5), .val (.int v6), .val (.int v7), .val (.int v8), .val (.int v9), .val (.ref b10), .val (.int v33), .val (.int v34), .val (.int v35), .val (.int v36), .val (.int v37), .val (.int v38), .val (.int v39), .val (.int v40), .val (.ref b41), .val (.int v53), .val (.int z58), .val (.int z64), .val (.int z70), .val (.int z76), .val (.int z96), .val (.ref b78)] [(.int v39), (.int z96), (.ref b78)])) rfl rfl (hb hby at_469)
      refine go st103 ?_
      have P103 : Ari Z h103 b78 (xs100.set (z96).toNatClampNeg v39) := V103
      have l103 : (xs100.set (z96).toNatClampNeg v39).length = 4 := by rw [List.length_set]; exact lxs100
      have P_104 : Ari Z h103 b10 xs32 := P98.other W103 ne_b10_b78
      have P_105 : Ari Z h103 b41 A51 := P99.other W103 ne_b41_b78
      have N103 := Fr.snoc X103 N97 g_b78
      have Z103 : n0 ≤ h103.size := Nat.le_trans Z97 (Nat.le_of_eq W103.size.symm)
      show Go p e below _ (T103.setTop (mkF m 470 #[.val (.int p1), .val (.int p2), .val (.int p3), .val (.int p4), .val (.int p5), .val (.int v1), .val (.int v2), .val (.int v3), .val (.int v4), .val (.int v5), .val (.int v6), .val (.int v7), .val (.int v8), .val (.int v9), .val (.ref b10), .val (.int v33), .val (.int v34), .val (.int v35), .val (.int v36), .val (.int v37), .val (.int v38), .val (.int v39), .val (.int v40), .val (.ref b41), .val (.int v53), .val (.int z58), .val (.int z64), .val (.int z70), .val (.int z76), .val (.int z96), .val (.ref b78)] []))
      refine go (fun _ q => XS.iinc X103.here hx rfl (hb hby at_470) rfl (l' := #[.val (.int p1), .val (.int p2), .val (.int p3), .val (.int p4), .val (.int p5), .val (.int v1), .val (.int v2), .val (.int v3), .val (.int v4), .val (.int v5), .val (.int v6), .val (.int v7), .val (.int v8), .val (.int v9), .val (.ref b10), .val (.int v33), .val (.int v34), .val (.int v35), .val (.int v36), .val (.int v37), .val (.int v38), .val (.int v39), .val (.int v40), .val (.ref b41), .val (.int v53), .val (.int z58), .val (.int z64), .val (.int z70), .val (.int z76), .val (.int (z96 + (1 : Int32))), .val (.ref b78)]) rfl q) ?_
      show Go p e below _ (T103.setTop (mkF m 473 #[.val (.int p1), .val (.int p2), .val (.int p3), .val (.int p4), .val (.int p5), .val (.int v1), .val (.int v2), .val (.int v3), .val (.int v4), .val (.int v5), .val (.int v6), .val (.int v7), .val (.int v8), .val (.int v9), .val (.ref b10), .val (.int v33), .val (.int v34), .val (.int v35), .val (.int v36), .val (.int v37), .val (.int v38), .val (.int v39), .val (.int v40), .val (.ref b41), .val (.int v53), .val (.int z58), .val (.int z64), .val (.int z70), .val (.int z76), .val (.int (z96 + (1 : Int32))), .val (.ref b78)] []))
      exact hj101 T103 _ X103 N103 (by rw [e103]; exact Z103) (by rw [e103]; exact P_104) (by rw [e103]; exact P_105) _ (by rw [e103]; exact P103) (by rw [if_neg hc102]) _ (by rw [if_neg hc102])
  intro T107 L107 X107 N107 Z107 P108 P109 xs110 Pxs110 hxs110 z106 hz106
  have lxs110 : xs110.length = 4 := by rw [hxs110]; (repeat' split) <;> first | rfl | assumption | (simp only [List.length_set]; first | rfl | assumption)
  show Go p e below _ (T107.setTop (mkF m 473 #[.val (.int p1), .val (.int p2), .val (.int p3), .val (.int p4), .val (.int p5), .val (.int v1), .val (.int v2), .val (.int v3), .val (.int v4), .val (.int v5), .val (.int v6), .val (.int v7), .val (.int v8), .val (.int v9), .val (.ref b10), .val (.int v33), .val (.int v34), .val (.int v35), .val (.int v36), .val (.int v37), .val (.int v38), .val (.int v39), .val (.int v40), .val (.ref b41), .val (.int v53), .val (.int z58), .val (.int z64), .val (.int z70), .val (.int z76), .val (.int z106), .val (.ref b78)] []))
  have own_t2 := own_estep own_t1 (by decide) (by rw [lxs100]; decide) hz106 hxs110
  refine go (fun _ q => XS.iload X107.here hx rfl (hb hby at_473) rfl q) ?_
  show Go p e below _ (T107.setTop (mkF m 475 #[.val (.int p1), .val (.int p2), .val (.int p3), .val (.int p4), .val (.int p5), .val (.int v1), .val (.int v2), .val (.int v3), .val (.int v4), .val (.int v5), .val (.int v6), .val (.int v7), .val (.int v8), .val (.int v9), .val (.ref b10), .val (.int v33), .val (.int v34), .val (.int v35), .val (.int v36), .val (.int v37), .val (.int v38), .val (.int v39), .val (.int v40), .val (.ref b41), .val (.int v53), .val (.int z58), .val (.int z64), .val (.int z70), .val (.int z76), .val (.int z106), .val (.ref b78)] [(.int z76)]))
  suffices hj111 : ∀ (T117 : State) (L117 : List Loc), Stand p l e room_1 s m #[(.int p1), (.int p2), (.int p3), (.int p4), (.int p5)] below meth c T117 L117 3 14 → Fr n0 L117 → n0 ≤ T117.heap.size → Ari Z T117.heap b10 xs32 → Ari Z T117.heap b41 A51 → ∀ (xs120 : List Int32), Ari Z T117.heap b78 xs120 → xs120 = (if z76 = (0 : Int32) then xs110 else (xs110.set (z106).toNatClampNeg v40)) → ∀ (z116 : Int32), z116 = (if z76 = (0 : Int32) then z106 else (z106 + (1 : Int32))) → Go p e below (Dn below s ((Q0 n0)) room_1.cells room_1.slots) (T117.setTop (mkF m 488 #[.val (.int p1), .val (.int p2), .val (.int p3), .val (.int p4), .val (.int p5), .val (.int v1), .val (.int v2), .val (.int v3), .val (.int v4), .val (.int v5), .val (.int v6), .val (.int v7), .val (.int v8), .val (.int v9), .val (.ref b10), .val (.int v33), .val (.int v34), .val (.int v35), .val (.int v36), .val (.int v37), .val (.int v38), .val (.int v39), .val (.int v40), .val (.ref b41), .val (.int v53), .val (.int z58), .val (.int z64), .val (.int z70), .val (.int z76), .val (.int z116), .val (.ref b78)] [])) by
    by_cases hc112 : z76 = (0 : Int32)
    · refine go (fun _ q => XS.ifYes X107.here hx rfl (pc0 := 475) (pc' := 488) rfl (hb hby at_475) rfl ((if0 _ _).trans (teq hc112).1) (by decide) (by decide) q) ?_
      show Go p e below _ (T107.setTop (mkF m 488 #[.val (.int p1), .val (.int p2), .val (.int p3), .val (.int p4), .val (.int p5), .val (.int v1), .val (.int v2), .val (.int v3), .val (.int v4), .val (.int v5), .val (.int v6), .val (.int v7), .val (.int v8), .val (.int v9), .val (.ref b10), .val (.int v33), .val (.int v34), .val (.int v35), .val (.int v36), .val (.int v37), .val (.int v38), .val (.int v39), .val (.int v40), .val (.ref b41), .val (.int v53), .val (.int z58), .val (.int z64), .val (.int z70), .val (.int z76), .val (.int z106), .val (.ref b78)] []))
      exact hj111 T107 _ X107 N107 Z107 P108 P109 _ Pxs110 (by rw [if_pos hc112]) _ (by rw [if_pos hc112])
    · refine go (fun _ q => XS.ifNo X107.here hx rfl (hb hby at_475) rfl ((if0 _ _).trans (feq hc112).1) q) ?_
      show Go p e below _ (T107.setTop (mkF m 478 #[.val (.int p1), .val (.int p2), .val (.int p3), .val (.int p4), .val (.int p5), .val (.int v1), .val (.int v2), .val (.int v3), .val (.int v4), .val (.int v5), .val (.int v6), .val (.int v7), .val (.int v8), .val (.int v9), .val (.ref b10), .val (.int v33), .val (.int v34), .val (.int v35), .val (.int v36), .val (.int v37), .val (.int v38), .val (.int v39), .val (.int v40), .val (.ref b41), .val (.int v53), .val (.int z58), .val (.int z64), .val (.int z70), .val (.int z76), .val (.int z106), .val (.ref b78)] []))
      refine go (fun _ q => XS.aload X107.here hx rfl (hb hby at_478) rfl rfl q) ?_
      show Go p e below _ (T107.setTop (mkF m 480 #[.val (.int p1), .val (.int p2), .val (.int p3), .val (.int p4), .val (.int p5), .val (.int v1), .val (.int v2), .val (.int v3), .val (.int v4), .val (.int v5), .val (.int v6), .val (.int v7), .val (.int v8), .val (.int v9), .val (.ref b10), .val (.int v33), .val (.int v34), .val (.int v35), .val (.int v36), .val (.int v37), .val (.int v38), .val (.int v39), .val (.int v40), .val (.ref b41), .val (.int v53), .val (.int z58), .val (.int z64), .val (.int z70), .val (.int z76), .val (.int z106), .val (.ref b78)] [(.ref b78)]))
      refine go (fun _ q => XS.iload X107.here hx rfl (hb hby at_480) rfl q) ?_
      show Go p e below _ (T107.setTop (mkF m 482 #[.val (.int p1), .val (.int p2), .val (.int p3), .val (.int p4), .val (.int p5), .val (.int v1), .val (.int v2), .val (.int v3), .val (.int v4), .val (.int v5), .val (.int v6), .val (.int v7), .val (.int v8), .val (.int v9), .val (.ref b10), .val (.int v33), .val (.int v34), .val (.int v35), .val (.int v36), .val (.int v37), .val (.int v38), .val (.int v39), .val (.int v40), .val (.ref b41), .val (.int v53), .val (.int z58), .val (.int z64), .val (.int z70), .val (.int z76), .val (.int z106), .val (.ref b78)] [(.int z106), (.ref b78)]))
      refine go (fun _ q => XS.iload X107.here hx rfl (hb hby at_482) rfl q) ?_
      show Go p e below _ (T107.setTop (mkF m 484 #[.val (.int p1), .val (.int p2), .val (.int p3), .val (.int p4), .val (.int p5), .val (.int v1), .val (.int v2), .val (.int v3), .val (.int v4), .val (.int v5), .val (.int v6), .val (.int v7), .val (.int v8), .val (.int v9), .val (.ref b10), .val (.int v33), .val (.int v34), .val (.int v35), .val (.int v36), .val (.int v37), .val (.int v38), .val (.int v39), .val (.int v40), .val (.ref b41), .val (.int v53), .val (.int z58), .val (.int z64), .val (.int z70), .val (.int z76), .val (.int z106), .val (.ref b78)] [(.int v40), (.int z106), (.ref b78)]))
      obtain ⟨T113, h113, X113, e113, W113, V113, st113⟩ := own_iastore X107 hx hZ rfl Pxs110 (j := z106) (x := v40) (own_ixe own_t2 (by decide)).1 (by rw [lxs110]; exact Nat.lt_of_le_of_lt (own_ixe own_t2 (by decide)).2 (by decide)) (g := (mkF m 484 #[.val (.int p1), .val (.int p2), .val (.int p3), .val (.int p4), .val (.int p5), .val (.int v1), .val (.int v2), .val (.int v3), .val (.int v4), .val (.int v5), .val (.int v6), .val (.int v7), .val (.int v8), .val (.int v9), .val (.ref b10), .val (.int v33), .val (.int v34), .val (.int v35), .val (.int v36), .val (.int v37), .val (.int v38), .val (.int v39), .val (.int v40), .val (.ref b41), .val (.int v53), .val (.int z58), .val (.int z64), .val (.int z70), .val (.int z76), .val (.int z106), .val (.ref b78)] [(.int v40), (.int z106), (.ref b78)])) rfl rfl (hb hby at_484)
      refine go st113 ?_
      have P113 : Ari Z h113 b78 (xs110.set (z106).toNatClampNeg v40) := V113
      have l113 : (xs110.set (z106).toNatClampNeg v40).length = 4 := by rw [List.length_set]; exact lxs110
      have P_114 : Ari Z h113 b10 xs32 := P108.other W113 ne_b10_b78
      have P_115 : Ari Z h113 b41 A51 := P109.other W113 ne_b41_b78
      have N113 := Fr.snoc X113 N107 g_b78
      have Z113 : n0 ≤ h113.size := Nat.le_trans Z107 (Nat.le_of_eq W113.size.symm)
      show Go p e below _ (T113.setTop (mkF m 485 #[.val (.int p1), .val (.int p2), .val (.int p3), .val (.int p4), .val (.int p5), .val (.int v1), .val (.int v2), .val (.int v3), .val (.int v4), .val (.int v5), .val (.int v6), .val (.int v7), .val (.int v8), .val (.int v9), .val (.ref b10), .val (.int v33), .val (.int v34), .val (.int v35), .val (.int v36), .val (.int v37), .val (.int v38), .val (.int v39), .val (.int v40), .val (.ref b41), .val (.int v53), .val (.int z58), .val (.int z64), .val (.int z70), .val (.int z76), .val (.int z106), .val (.ref b78)] []))
      refine go (fun _ q => XS.iinc X113.here hx rfl (hb hby at_485) rfl (l' := #[.val (.int p1), .val (.int p2), .val (.int p3), .val (.int p4), .val (.int p5), .val (.int v1), .val (.int v2), .val (.int v3), .val (.int v4), .val (.int v5), .val (.int v6), .val (.int v7), .val (.int v8), .val (.int v9), .val (.ref b10), .val (.int v33), .val (.int v34), .val (.int v35), .val (.int v36), .val (.int v37), .val (.int v38), .val (.int v39), .val (.int v40), .val (.ref b41), .val (.int v53), .val (.int z58), .val (.int z64), .val (.int z70), .val (.int z76), .val (.int (z106 + (1 : Int32))), .val (.ref b78)]) rfl q) ?_
      show Go p e below _ (T113.setTop (mkF m 488 #[.val (.int p1), .val (.int p2), .val (.int p3), .val (.int p4), .val (.int p5), .val (.int v1), .val (.int v2), .val (.int v3), .val (.int v4), .val (.int v5), .val (.int v6), .val (.int v7), .val (.int v8), .val (.int v9), .val (.ref b10), .val (.int v33), .val (.int v34), .val (.int v35), .val (.int v36), .val (.int v37), .val (.int v38), .val (.int v39), .val (.int v40), .val (.ref b41), .val (.int v53), .val (.int z58), .val (.int z64), .val (.int z70), .val (.int z76), .val (.int (z106 + (1 : Int32))), .val (.ref b78)] []))
      exact hj111 T113 _ X113 N113 (by rw [e113]; exact Z113) (by rw [e113]; exact P_114) (by rw [e113]; exact P_115) _ (by rw [e113]; exact P113) (by rw [if_neg hc112]) _ (by rw [if_neg hc112])
  intro T117 L117 X117 N117 Z117 P118 P119 xs120 Pxs120 hxs120 z116 hz116
  have lxs120 : xs120.length = 4 := by rw [hxs120]; (repeat' split) <;> first | rfl | assumption | (simp only [List.length_set]; first | rfl | assumption)
  show Go p e below _ (T117.setTop (mkF m 488 #[.val (.int p1), .val (.int p2), .val (.int p3), .val (.int p4), .val (.int p5), .val (.int v1), .val (.int v2), .val (.int v3), .val (.int v4), .val (.int v5), .val (.int v6), .val (.int v7), .val (.int v8), .val (.int v9), .val (.ref b10), .val (.int v33), .val (.int v34), .val (.int v35), .val (.int v36), .val (.int v37), .val (.int v38), .val (.int v39), .val (.int v40), .val (.ref b41), .val (.int v53), .val (.int z58), .val (.int z64), .val (.int z70), .val (.int z76), .val (.int z116), .val (.ref b78)] []))
  have own_t3 := own_estep own_t2 (by decide) (by rw [lxs110]; decide) hz116 hxs120
  refine go (fun _ q => XS.iload X117.here hx rfl (hb hby at_488) rfl q) ?_
  show Go p e below _ (T117.setTop (mkF m 490 #[.val (.int p1), .val (.int p2), .val (.int p3), .val (.int p4), .val (.int p5), .val (.int v1), .val (.int v2), .val (.int v3), .val (.int v4), .val (.int v5), .val (.int v6), .val (.int v7), .val (.int v8), .val (.int v9), .val (.ref b10), .val (.int v33), .val (.int v34), .val (.int v35), .val (.int v36), .val (.int v37), .val (.int v38), .val (.int v39), .val (.int v40), .val (.ref b41), .val (.int v53), .val (.int z58), .val (.int z64), .val (.int z70), .val (.int z76), .val (.int z116), .val (.ref b78)] [(.int v53)]))
  have own_F := (own_filt (P := fun y => decide (y ∈ own_pos v33 (([v7, v8, v9] : List Int32).take f))) own_cb own_m0 own_m1 own_m2 own_m3).trans own_kf.symm
  rw [own_F] at own_t3
  refine go (fun _ q => XS.iload X117.here hx rfl (hb hby at_490) rfl q) ?_
  show Go p e below _ (T117.setTop (mkF m 492 #[.val (.int p1), .val (.int p2), .val (.int p3), .val (.int p4), .val (.int p5), .val (.int v1), .val (.int v2), .val (.int v3), .val (.int v4), .val (.int v5), .val (.int v6), .val (.int v7), .val (.int v8), .val (.int v9), .val (.ref b10), .val (.int v33), .val (.int v34), .val (.int v35), .val (.int v36), .val (.int v37), .val (.int v38), .val (.int v39), .val (.int v40), .val (.ref b41), .val (.int v53), .val (.int z58), .val (.int z64), .val (.int z70), .val (.int z76), .val (.int z116), .val (.ref b78)] [(.int z116), (.int v53)]))
  have hk121 : v53 = z116 := by rw [← hv53]; exact own_t3.1.symm
  refine go (fun _ q => XS.icmpNo X117.here hx rfl (hb hby at_492) rfl (teq hk121).2 q) ?_
  show Go p e below _ (T117.setTop (mkF m 495 #[.val (.int p1), .val (.int p2), .val (.int p3), .val (.int p4), .val (.int p5), .val (.int v1), .val (.int v2), .val (.int v3), .val (.int v4), .val (.int v5), .val (.int v6), .val (.int v7), .val (.int v8), .val (.int v9), .val (.ref b10), .val (.int v33), .val (.int v34), .val (.int v35), .val (.int v36), .val (.int v37), .val (.int v38), .val (.int v39), .val (.int v40), .val (.ref b41), .val (.int v53), .val (.int z58), .val (.int z64), .val (.int z70), .val (.int z76), .val (.int z116), .val (.ref b78)] []))
  refine go (fun _ q => XS.iload X117.here hx rfl (hb hby at_495) rfl q) ?_
  show Go p e below _ (T117.setTop (mkF m 497 #[.val (.int p1), .val (.int p2), .val (.int p3), .val (.int p4), .val (.int p5), .val (.int v1), .val (.int v2), .val (.int v3), .val (.int v4), .val (.int v5), .val (.int v6), .val (.int v7), .val (.int v8), .val (.int v9), .val (.ref b10), .val (.int v33), .val (.int v34), .val (.int v35), .val (.int v36), .val (.int v37), .val (.int v38), .val (.int v39), .val (.int v40), .val (.ref b41), .val (.int v53), .val (.int z58), .val (.int z64), .val (.int z70), .val (.int z76), .val (.int z116), .val (.ref b78)] [(.int z116)]))
  refine go (fun _ q => XS.iconst X117.here hx rfl (hb hby at_497) q) ?_
  show Go p e below _ (T117.setTop (mkF m 498 #[.val (.int p1), .val (.int p2), .val (.int p3), .val (.int p4), .val (.int p5), .val (.int v1), .val (.int v2), .val (.int v3), .val (.int v4), .val (.int v5), .val (.int v6), .val (.int v7), .val (.int v8), .val (.int v9), .val (.ref b10), .val (.int v33), .val (.int v34), .val (.int v35), .val (.int v36), .val (.int v37), .val (.int v38), .val (.int v39), .val (.int v40), .val (.ref b41), .val (.int v53), .val (.int z58), .val (.int z64), .val (.int z70), .val (.int z76), .val (.int z116), .val (.ref b78)] [(.int (1 : Int32)), (.int z116)]))
  suffices hj122 : Go p e below (Dn below s ((Q0 n0)) room_1.cells room_1.slots) (T117.setTop (mkF m 512 #[.val (.int p1), .val (.int p2), .val (.int p3), .val (.int p4), .val (.int p5), .val (.int v1), .val (.int v2), .val (.int v3), .val (.int v4), .val (.int v5), .val (.int v6), .val (.int v7), .val (.int v8), .val (.int v9), .val (.ref b10), .val (.int v33), .val (.int v34), .val (.int v35), .val (.int v36), .val (.int v37), .val (.int v38), .val (.int v39), .val (.int v40), .val (.ref b41), .val (.int v53), .val (.int z58), .val (.int z64), .val (.int z70), .val (.int z76), .val (.int z116), .val (.ref b78)] [])) by
    by_cases hc123 : z116 < (1 : Int32)
    · refine go (fun _ q => XS.icmpYes X117.here hx rfl (pc0 := 498) (pc' := 512) rfl (hb hby at_498) rfl (tlt hc123).1 (by decide) (by decide) q) ?_
      show Go p e below _ (T117.setTop (mkF m 512 #[.val (.int p1), .val (.int p2), .val (.int p3), .val (.int p4), .val (.int p5), .val (.int v1), .val (.int v2), .val (.int v3), .val (.int v4), .val (.int v5), .val (.int v6), .val (.int v7), .val (.int v8), .val (.int v9), .val (.ref b10), .val (.int v33), .val (.int v34), .val (.int v35), .val (.int v36), .val (.int v37), .val (.int v38), .val (.int v39), .val (.int v40), .val (.ref b41), .val (.int v53), .val (.int z58), .val (.int z64), .val (.int z70), .val (.int z76), .val (.int z116), .val (.ref b78)] []))
      exact hj122
    · refine go (fun _ q => XS.icmpNo X117.here hx rfl (hb hby at_498) rfl (flt hc123).1 q) ?_
      show Go p e below _ (T117.setTop (mkF m 501 #[.val (.int p1), .val (.int p2), .val (.int p3), .val (.int p4), .val (.int p5), .val (.int v1), .val (.int v2), .val (.int v3), .val (.int v4), .val (.int v5), .val (.int v6), .val (.int v7), .val (.int v8), .val (.int v9), .val (.ref b10), .val (.int v33), .val (.int v34), .val (.int v35), .val (.int v36), .val (.int v37), .val (.int v38), .val (.int v39), .val (.int v40), .val (.ref b41), .val (.int v53), .val (.int z58), .val (.int z64), .val (.int z70), .val (.int z76), .val (.int z116), .val (.ref b78)] []))
      refine go (fun _ q => XS.aload X117.here hx rfl (hb hby at_501) rfl rfl q) ?_
      show Go p e below _ (T117.setTop (mkF m 503 #[.val (.int p1), .val (.int p2), .val (.int p3), .val (.int p4), .val (.int p5), .val (.int v1), .val (.int v2), .val (.int v3), .val (.int v4), .val (.int v5), .val (.int v6), .val (.int v7), .val (.int v8), .val (.int v9), .val (.ref b10), .val (.int v33), .val (.int v34), .val (.int v35), .val (.int v36), .val (.int v37), .val (.int v38), .val (.int v39), .val (.int v40), .val (.ref b41), .val (.int v53), .val (.int z58), .val (.int z64), .val (.int z70), .val (.int z76), .val (.int z116), .val (.ref b78)] [(.ref b41)]))
      refine go (fun _ q => XS.iconst X117.here hx rfl (hb hby at_503) q) ?_
      show Go p e below _ (T117.setTop (mkF m 504 #[.val (.int p1), .val (.int p2), .val (.int p3), .val (.int p4), .val (.int p5), .val (.int v1), .val (.int v2), .val (.int v3), .val (.int v4), .val (.int v5), .val (.int v6), .val (.int v7), .val (.int v8), .val (.int v9), .val (.ref b10), .val (.int v33), .val (.int v34), .val (.int v35), .val (.int v36), .val (.int v37), .val (.int v38), .val (.int v39), .val (.int v40), .val (.ref b41), .val (.int v53), .val (.int z58), .val (.int z64), .val (.int z70), .val (.int z76), .val (.int z116), .val (.ref b78)] [(.int (0 : Int32)), (.ref b41)]))
      refine go (own_iaload X117 hx hZ rfl P119 (j := (0 : Int32)) (by decide) (by rw [lA51]; decide) (g := (mkF m 504 #[.val (.int p1), .val (.int p2), .val (.int p3), .val (.int p4), .val (.int p5), .val (.int v1), .val (.int v2), .val (.int v3), .val (.int v4), .val (.int v5), .val (.int v6), .val (.int v7), .val (.int v8), .val (.int v9), .val (.ref b10), .val (.int v33), .val (.int v34), .val (.int v35), .val (.int v36), .val (.int v37), .val (.int v38), .val (.int v39), .val (.int v40), .val (.ref b41), .val (.int v53), .val (.int z58), .val (.int z64), .val (.int z70), .val (.int z76), .val (.int z116), .val (.ref b78)] [(.int (0 : Int32)), (.ref b41)])) rfl rfl (hb hby at_504)) ?_
      show Go p e below _ (T117.setTop (mkF m 505 #[.val (.int p1), .val (.int p2), .val (.int p3), .val (.int p4), .val (.int p5), .val (.int v1), .val (.int v2), .val (.int v3), .val (.int v4), .val (.int v5), .val (.int v6), .val (.int v7), .val (.int v8), .val (.int v9), .val (.ref b10), .val (.int v33), .val (.int v34), .val (.int v35), .val (.int v36), .val (.int v37), .val (.int v38), .val (.int v39), .val (.int v40), .val (.ref b41), .val (.int v53), .val (.int z58), .val (.int z64), .val (.int z70), .val (.int z76), .val (.int z116), .val (.ref b78)] [(.int (A51.getD ((0 : Int32)).toNatClampNeg 0))]))
      refine go (fun _ q => XS.aload X117.here hx rfl (hb hby at_505) rfl rfl q) ?_
      show Go p e below _ (T117.setTop (mkF m 507 #[.val (.int p1), .val (.int p2), .val (.int p3), .val (.int p4), .val (.int p5), .val (.int v1), .val (.int v2), .val (.int v3), .val (.int v4), .val (.int v5), .val (.int v6), .val (.int v7), .val (.int v8), .val (.int v9), .val (.ref b10), .val (.int v33), .val (.int v34), .val (.int v35), .val (.int v36), .val (.int v37), .val (.int v38), .val (.int v39), .val (.int v40), .val (.ref b41), .val (.int v53), .val (.int z58), .val (.int z64), .val (.int z70), .val (.int z76), .val (.int z116), .val (.ref b78)] [(.ref b78), (.int (A51.getD ((0 : Int32)).toNatClampNeg 0))]))
      refine go (fun _ q => XS.iconst X117.here hx rfl (hb hby at_507) q) ?_
      show Go p e below _ (T117.setTop (mkF m 508 #[.val (.int p1), .val (.int p2), .val (.int p3), .val (.int p4), .val (.int p5), .val (.int v1), .val (.int v2), .val (.int v3), .val (.int v4), .val (.int v5), .val (.int v6), .val (.int v7), .val (.int v8), .val (.int v9), .val (.ref b10), .val (.int v33), .val (.int v34), .val (.int v35), .val (.int v36), .val (.int v37), .val (.int v38), .val (.int v39), .val (.int v40), .val (.ref b41), .val (.int v53), .val (.int z58), .val (.int z64), .val (.int z70), .val (.int z76), .val (.int z116), .val (.ref b78)] [(.int (0 : Int32)), (.ref b78), (.int (A51.getD ((0 : Int32)).toNatClampNeg 0))]))
      refine go (own_iaload X117 hx hZ rfl Pxs120 (j := (0 : Int32)) (by decide) (by rw [lxs120]; decide) (g := (mkF m 508 #[.val (.int p1), .val (.int p2), .val (.int p3), .val (.int p4), .val (.int p5), .val (.int v1), .val (.int v2), .val (.int v3), .val (.int v4), .val (.int v5), .val (.int v6), .val (.int v7), .val (.int v8), .val (.int v9), .val (.ref b10), .val (.int v33), .val (.int v34), .val (.int v35), .val (.int v36), .val (.int v37), .val (.int v38), .val (.int v39), .val (.int v40), .val (.ref b41), .val (.int v53), .val (.int z58), .val (.int z64), .val (.int z70), .val (.int z76), .val (.int z116), .val (.ref b78)] [(.int (0 : Int32)), (.ref b78), (.int (A51.getD ((0 : Int32)).toNatClampNeg 0))])) rfl rfl (hb hby at_508)) ?_
      show Go p e below _ (T117.setTop (mkF m 509 #[.val (.int p1), .val (.int p2), .val (.int p3), .val (.int p4), .val (.int p5), .val (.int v1), .val (.int v2), .val (.int v3), .val (.int v4), .val (.int v5), .val (.int v6), .val (.int v7), .val (.int v8), .val (.int v9), .val (.ref b10), .val (.int v33), .val (.int v34), .val (.int v35), .val (.int v36), .val (.int v37), .val (.int v38), .val (.int v39), .val (.int v40), .val (.ref b41), .val (.int v53), .val (.int z58), .val (.int z64), .val (.int z70), .val (.int z76), .val (.int z116), .val (.ref b78)] [(.int (xs120.getD ((0 : Int32)).toNatClampNeg 0)), (.int (A51.getD ((0 : Int32)).toNatClampNeg 0))]))
      have hk124 : (A51.getD ((0 : Int32)).toNatClampNeg 0) = (xs120.getD ((0 : Int32)).toNatClampNeg 0) := own_same (j := 0) own_t3 (by decide) tA51 hc123 (by decide)
      refine go (fun _ q => XS.icmpNo X117.here hx rfl (hb hby at_509) rfl (teq hk124).2 q) ?_
      show Go p e below _ (T117.setTop (mkF m 512 #[.val (.int p1), .val (.int p2), .val (.int p3), .val (.int p4), .val (.int p5), .val (.int v1), .val (.int v2), .val (.int v3), .val (.int v4), .val (.int v5), .val (.int v6), .val (.int v7), .val (.int v8), .val (.int v9), .val (.ref b10), .val (.int v33), .val (.int v34), .val (.int v35), .val (.int v36), .val (.int v37), .val (.int v38), .val (.int v39), .val (.int v40), .val (.ref b41), .val (.int v53), .val (.int z58), .val (.int z64), .val (.int z70), .val (.int z76), .val (.int z116), .val (.ref b78)] []))
      exact hj122
  show Go p e below _ (T117.setTop (mkF m 512 #[.val (.int p1), .val (.int p2), .val (.int p3), .val (.int p4), .val (.int p5), .val (.int v1), .val (.int v2), .val (.int v3), .val (.int v4), .val (.int v5), .val (.int v6), .val (.int v7), .val (.int v8), .val (.int v9), .val (.ref b10), .val (.int v33), .val (.int v34), .val (.int v35), .val (.int v36), .val (.int v37), .val (.int v38), .val (.int v39), .val (.int v40), .val (.ref b41), .val (.int v53), .val (.int z58), .val (.int z64), .val (.int z70), .val (.int z76), .val (.int z116), .val (.ref b78)] []))
  refine go (fun _ q => XS.iload X117.here hx rfl (hb hby at_512) rfl q) ?_
  show Go p e below _ (T117.setTop (mkF m 514 #[.val (.int p1), .val (.int p2), .val (.int p3), .val (.int p4), .val (.int p5), .val (.int v1), .val (.int v2), .val (.int v3), .val (.int v4), .val (.int v5), .val (.int v6), .val (.int v7), .val (.int v8), .val (.int v9), .val (.ref b10), .val (.int v33), .val (.int v34), .val (.int v35), .val (.int v36), .val (.int v37), .val (.int v38), .val (.int v39), .val (.int v40), .val (.ref b41), .val (.int v53), .val (.int z58), .val (.int z64), .val (.int z70), .val (.int z76), .val (.int z116), .val (.ref b78)] [(.int z116)]))
  refine go (fun _ q => XS.iconst X117.here hx rfl (hb hby at_514) q) ?_
  show Go p e below _ (T117.setTop (mkF m 515 #[.val (.int p1), .val (.int p2), .val (.int p3), .val (.int p4), .val (.int p5), .val (.int v1), .val (.int v2), .val (.int v3), .val (.int v4), .val (.int v5), .val (.int v6), .val (.int v7), .val (.int v8), .val (.int v9), .val (.ref b10), .val (.int v33), .val (.int v34), .val (.int v35), .val (.int v36), .val (.int v37), .val (.int v38), .val (.int v39), .val (.int v40), .val (.ref b41), .val (.int v53), .val (.int z58), .val (.int z64), .val (.int z70), .val (.int z76), .val (.int z116), .val (.ref b78)] [(.int (2 : Int32)), (.int z116)]))
  suffices hj125 : Go p e below (Dn below s ((Q0 n0)) room_1.cells room_1.slots) (T117.setTop (mkF m 529 #[.val (.int p1), .val (.int p2), .val (.int p3), .val (.int p4), .val (.int p5), .val (.int v1), .val (.int v2), .val (.int v3), .val (.int v4), .val (.int v5), .val (.int v6), .val (.int v7), .val (.int v8), .val (.int v9), .val (.ref b10), .val (.int v33), .val (.int v34), .val (.int v35), .val (.int v36), .val (.int v37), .val (.int v38), .val (.int v39), .val (.int v40), .val (.ref b41), .val (.int v53), .val (.int z58), .val (.int z64), .val (.int z70), .val (.int z76), .val (.int z116), .val (.ref b78)] [])) by
    by_cases hc126 : z116 < (2 : Int32)
    · refine go (fun _ q => XS.icmpYes X117.here hx rfl (pc0 := 515) (pc' := 529) rfl (hb hby at_515) rfl (tlt hc126).1 (by decide) (by decide) q) ?_
      show Go p e below _ (T117.setTop (mkF m 529 #[.val (.int p1), .val (.int p2), .val (.int p3), .val (.int p4), .val (.int p5), .val (.int v1), .val (.int v2), .val (.int v3), .val (.int v4), .val (.int v5), .val (.int v6), .val (.int v7), .val (.int v8), .val (.int v9), .val (.ref b10), .val (.int v33), .val (.int v34), .val (.int v35), .val (.int v36), .val (.int v37), .val (.int v38), .val (.int v39), .val (.int v40), .val (.ref b41), .val (.int v53), .val (.int z58), .val (.int z64), .val (.int z70), .val (.int z76), .val (.int z116), .val (.ref b78)] []))
      exact hj125
    · refine go (fun _ q => XS.icmpNo X117.here hx rfl (hb hby at_515) rfl (flt hc126).1 q) ?_
      show Go p e below _ (T117.setTop (mkF m 518 #[.val (.int p1), .val (.int p2), .val (.int p3), .val (.int p4), .val (.int p5), .val (.int v1), .val (.int v2), .val (.int v3), .val (.int v4), .val (.int v5), .val (.int v6), .val (.int v7), .val (.int v8), .val (.int v9), .val (.ref b10), .val (.int v33), .val (.int v34), .val (.int v35), .val (.int v36), .val (.int v37), .val (.int v38), .val (.int v39), .val (.int v40), .val (.ref b41), .val (.int v53), .val (.int z58), .val (.int z64), .val (.int z70), .val (.int z76), .val (.int z116), .val (.ref b78)] []))
      refine go (fun _ q => XS.aload X117.here hx rfl (hb hby at_518) rfl rfl q) ?_
      show Go p e below _ (T117.setTop (mkF m 520 #[.val (.int p1), .val (.int p2), .val (.int p3), .val (.int p4), .val (.int p5), .val (.int v1), .val (.int v2), .val (.int v3), .val (.int v4), .val (.int v5), .val (.int v6), .val (.int v7), .val (.int v8), .val (.int v9), .val (.ref b10), .val (.int v33), .val (.int v34), .val (.int v35), .val (.int v36), .val (.int v37), .val (.int v38), .val (.int v39), .val (.int v40), .val (.ref b41), .val (.int v53), .val (.int z58), .val (.int z64), .val (.int z70), .val (.int z76), .val (.int z116), .val (.ref b78)] [(.ref b41)]))
      refine go (fun _ q => XS.iconst X117.here hx rfl (hb hby at_520) q) ?_
      show Go p e below _ (T117.setTop (mkF m 521 #[.val (.int p1), .val (.int p2), .val (.int p3), .val (.int p4), .val (.int p5), .val (.int v1), .val (.int v2), .val (.int v3), .val (.int v4), .val (.int v5), .val (.int v6), .val (.int v7), .val (.int v8), .val (.int v9), .val (.ref b10), .val (.int v33), .val (.int v34), .val (.int v35), .val (.int v36), .val (.int v37), .val (.int v38), .val (.int v39), .val (.int v40), .val (.ref b41), .val (.int v53), .val (.int z58), .val (.int z64), .val (.int z70), .val (.int z76), .val (.int z116), .val (.ref b78)] [(.int (1 : Int32)), (.ref b41)]))
      refine go (own_iaload X117 hx hZ rfl P119 (j := (1 : Int32)) (by decide) (by rw [lA51]; decide) (g := (mkF m 521 #[.val (.int p1), .val (.int p2), .val (.int p3), .val (.int p4), .val (.int p5), .val (.int v1), .val (.int v2), .val (.int v3), .val (.int v4), .val (.int v5), .val (.int v6), .val (.int v7), .val (.int v8), .val (.int v9), .val (.ref b10), .val (.int v33), .val (.int v34), .val (.int v35), .val (.int v36), .val (.int v37), .val (.int v38), .val (.int v39), .val (.int v40), .val (.ref b41), .val (.int v53), .val (.int z58), .val (.int z64), .val (.int z70), .val (.int z76), .val (.int z116), .val (.ref b78)] [(.int (1 : Int32)), (.ref b41)])) rfl rfl (hb hby at_521)) ?_
      show Go p e below _ (T117.setTop (mkF m 522 #[.val (.int p1), .val (.int p2), .val (.int p3), .val (.int p4), .val (.int p5), .val (.int v1), .val (.int v2), .val (.int v3), .val (.int v4), .val (.int v5), .val (.int v6), .val (.int v7), .val (.int v8), .val (.int v9), .val (.ref b10), .val (.int v33), .val (.int v34), .val (.int v35), .val (.int v36), .val (.int v37), .val (.int v38), .val (.int v39), .val (.int v40), .val (.ref b41), .val (.int v53), .val (.int z58), .val (.int z64), .val (.int z70), .val (.int z76), .val (.int z116), .val (.ref b78)] [(.int (A51.getD ((1 : Int32)).toNatClampNeg 0))]))
      refine go (fun _ q => XS.aload X117.here hx rfl (hb hby at_522) rfl rfl q) ?_
      show Go p e below _ (T117.setTop (mkF m 524 #[.val (.int p1), .val (.int p2), .val (.int p3), .val (.int p4), .val (.int p5), .val (.int v1), .val (.int v2), .val (.int v3), .val (.int v4), .val (.int v5), .val (.int v6), .val (.int v7), .val (.int v8), .val (.int v9), .val (.ref b10), .val (.int v33), .val (.int v34), .val (.int v35), .val (.int v36), .val (.int v37), .val (.int v38), .val (.int v39), .val (.int v40), .val (.ref b41), .val (.int v53), .val (.int z58), .val (.int z64), .val (.int z70), .val (.int z76), .val (.int z116), .val (.ref b78)] [(.ref b78), (.int (A51.getD ((1 : Int32)).toNatClampNeg 0))]))
      refine go (fun _ q => XS.iconst X117.here hx rfl (hb hby at_524) q) ?_
      show Go p e below _ (T117.setTop (mkF m 525 #[.val (.int p1), .val (.int p2), .val (.int p3), .val (.int p4), .val (.int p5), .val (.int v1), .val (.int v2), .val (.int v3), .val (.int v4), .val (.int v5), .val (.int v6), .val (.int v7), .val (.int v8), .val (.int v9), .val (.ref b10), .val (.int v33), .val (.int v34), .val (.int v35), .val (.int v36), .val (.int v37), .val (.int v38), .val (.int v39), .val (.int v40), .val (.ref b41), .val (.int v53), .val (.int z58), .val (.int z64), .val (.int z70), .val (.int z76), .val (.int z116), .val (.ref b78)] [(.int (1 : Int32)), (.ref b78), (.int (A51.getD ((1 : Int32)).toNatClampNeg 0))]))
      refine go (own_iaload X117 hx hZ rfl Pxs120 (j := (1 : Int32)) (by decide) (by rw [lxs120]; decide) (g := (mkF m 525 #[.val (.int p1), .val (.int p2), .val (.int p3), .val (.int p4), .val (.int p5), .val (.int v1), .val (.int v2), .val (.int v3), .val (.int v4), .val (.int v5), .val (.int v6), .val (.int v7), .val (.int v8), .val (.int v9), .val (.ref b10), .val (.int v33), .val (.int v34), .val (.int v35), .val (.int v36), .val (.int v37), .val (.int v38), .val (.int v39), .val (.int v40), .val (.ref b41), .val (.int v53), .val (.int z58), .val (.int z64), .val (.int z70), .val (.int z76), .val (.int z116), .val (.ref b78)] [(.int (1 : Int32)), (.ref b78), (.int (A51.getD ((1 : Int32)).toNatClampNeg 0))])) rfl rfl (hb hby at_525)) ?_
      show Go p e below _ (T117.setTop (mkF m 526 #[.val (.int p1), .val (.int p2), .val (.int p3), .val (.int p4), .val (.int p5), .val (.int v1), .val (.int v2), .val (.int v3), .val (.int v4), .val (.int v5), .val (.int v6), .val (.int v7), .val (.int v8), .val (.int v9), .val (.ref b10), .val (.int v33), .val (.int v34), .val (.int v35), .val (.int v36), .val (.int v37), .val (.int v38), .val (.int v39), .val (.int v40), .val (.ref b41), .val (.int v53), .val (.int z58), .val (.int z64), .val (.int z70), .val (.int z76), .val (.int z116), .val (.ref b78)] [(.int (xs120.getD ((1 : Int32)).toNatClampNeg 0)), (.int (A51.getD ((1 : Int32)).toNatClampNeg 0))]))
      have hk127 : (A51.getD ((1 : Int32)).toNatClampNeg 0) = (xs120.getD ((1 : Int32)).toNatClampNeg 0) := own_same (j := 1) own_t3 (by decide) tA51 hc126 (by decide)
      refine go (fun _ q => XS.icmpNo X117.here hx rfl (hb hby at_526) rfl (teq hk127).2 q) ?_
      show Go p e below _ (T117.setTop (mkF m 529 #[.val (.int p1), .val (.int p2), .val (.int p3), .val (.int p4), .val (.int p5), .val (.int v1), .val (.int v2), .val (.int v3), .val (.int v4), .val (.int v5), .val (.int v6), .val (.int v7), .val (.int v8), .val (.int v9), .val (.ref b10), .val (.int v33), .val (.int v34), .val (.int v35), .val (.int v36), .val (.int v37), .val (.int v38), .val (.int v39), .val (.int v40), .val (.ref b41), .val (.int v53), .val (.int z58), .val (.int z64), .val (.int z70), .val (.int z76), .val (.int z116), .val (.ref b78)] []))
      exact hj125
  show Go p e below _ (T117.setTop (mkF m 529 #[.val (.int p1), .val (.int p2), .val (.int p3), .val (.int p4), .val (.int p5), .val (.int v1), .val (.int v2), .val (.int v3), .val (.int v4), .val (.int v5), .val (.int v6), .val (.int v7), .val (.int v8), .val (.int v9), .val (.ref b10), .val (.int v33), .val (.int v34), .val (.int v35), .val (.int v36), .val (.int v37), .val (.int v38), .val (.int v39), .val (.int v40), .val (.ref b41), .val (.int v53), .val (.int z58), .val (.int z64), .val (.int z70), .val (.int z76), .val (.int z116), .val (.ref b78)] []))
  refine go (fun _ q => XS.iload X117.here hx rfl (hb hby at_529) rfl q) ?_
  show Go p e below _ (T117.setTop (mkF m 531 #[.val (.int p1), .val (.int p2), .val (.int p3), .val (.int p4), .val (.int p5), .val (.int v1), .val (.int v2), .val (.int v3), .val (.int v4), .val (.int v5), .val (.int v6), .val (.int v7), .val (.int v8), .val (.int v9), .val (.ref b10), .val (.int v33), .val (.int v34), .val (.int v35), .val (.int v36), .val (.int v37), .val (.int v38), .val (.int v39), .val (.int v40), .val (.ref b41), .val (.int v53), .val (.int z58), .val (.int z64), .val (.int z70), .val (.int z76), .val (.int z116), .val (.ref b78)] [(.int z116)]))
  refine go (fun _ q => XS.iconst X117.here hx rfl (hb hby at_531) q) ?_
  show Go p e below _ (T117.setTop (mkF m 532 #[.val (.int p1), .val (.int p2), .val (.int p3), .val (.int p4), .val (.int p5), .val (.int v1), .val (.int v2), .val (.int v3), .val (.int v4), .val (.int v5), .val (.int v6), .val (.int v7), .val (.int v8), .val (.int v9), .val (.ref b10), .val (.int v33), .val (.int v34), .val (.int v35), .val (.int v36), .val (.int v37), .val (.int v38), .val (.int v39), .val (.int v40), .val (.ref b41), .val (.int v53), .val (.int z58), .val (.int z64), .val (.int z70), .val (.int z76), .val (.int z116), .val (.ref b78)] [(.int (3 : Int32)), (.int z116)]))
  suffices hj128 : Go p e below (Dn below s ((Q0 n0)) room_1.cells room_1.slots) (T117.setTop (mkF m 546 #[.val (.int p1), .val (.int p2), .val (.int p3), .val (.int p4), .val (.int p5), .val (.int v1), .val (.int v2), .val (.int v3), .val (.int v4), .val (.int v5), .val (.int v6), .val (.int v7), .val (.int v8), .val (.int v9), .val (.ref b10), .val (.int v33), .val (.int v34), .val (.int v35), .val (.int v36), .val (.int v37), .val (.int v38), .val (.int v39), .val (.int v40), .val (.ref b41), .val (.int v53), .val (.int z58), .val (.int z64), .val (.int z70), .val (.int z76), .val (.int z116), .val (.ref b78)] [])) by
    by_cases hc129 : z116 < (3 : Int32)
    · refine go (fun _ q => XS.icmpYes X117.here hx rfl (pc0 := 532) (pc' := 546) rfl (hb hby at_532) rfl (tlt hc129).1 (by decide) (by decide) q) ?_
      show Go p e below _ (T117.setTop (mkF m 546 #[.val (.int p1), .val (.int p2), .val (.int p3), .val (.int p4), .val (.int p5), .val (.int v1), .val (.int v2), .val (.int v3), .val (.int v4), .val (.int v5), .val (.int v6), .val (.int v7), .val (.int v8), .val (.int v9), .val (.ref b10), .val (.int v33), .val (.int v34), .val (.int v35), .val (.int v36), .val (.int v37), .val (.int v38), .val (.int v39), .val (.int v40), .val (.ref b41), .val (.int v53), .val (.int z58), .val (.int z64), .val (.int z70), .val (.int z76), .val (.int z116), .val (.ref b78)] []))
      exact hj128
    · refine go (fun _ q => XS.icmpNo X117.here hx rfl (hb hby at_532) rfl (flt hc129).1 q) ?_
      show Go p e below _ (T117.setTop (mkF m 535 #[.val (.int p1), .val (.int p2), .val (.int p3), .val (.int p4), .val (.int p5), .val (.int v1), .val (.int v2), .val (.int v3), .val (.int v4), .val (.int v5), .val (.int v6), .val (.int v7), .val (.int v8), .val (.int v9), .val (.ref b10), .val (.int v33), .val (.int v34), .val (.int v35), .val (.int v36), .val (.int v37), .val (.int v38), .val (.int v39), .val (.int v40), .val (.ref b41), .val (.int v53), .val (.int z58), .val (.int z64), .val (.int z70), .val (.int z76), .val (.int z116), .val (.ref b78)] []))
      refine go (fun _ q => XS.aload X117.here hx rfl (hb hby at_535) rfl rfl q) ?_
      show Go p e below _ (T117.setTop (mkF m 537 #[.val (.int p1), .val (.int p2), .val (.int p3), .val (.int p4), .val (.int p5), .val (.int v1), .val (.int v2), .val (.int v3), .val (.int v4), .val (.int v5), .val (.int v6), .val (.int v7), .val (.int v8), .val (.int v9), .val (.ref b10), .val (.int v33), .val (.int v34), .val (.int v35), .val (.int v36), .val (.int v37), .val (.int v38), .val (.int v39), .val (.int v40), .val (.ref b41), .val (.int v53), .val (.int z58), .val (.int z64), .val (.int z70), .val (.int z76), .val (.int z116), .val (.ref b78)] [(.ref b41)]))
      refine go (fun _ q => XS.iconst X117.here hx rfl (hb hby at_537) q) ?_
      show Go p e below _ (T117.setTop (mkF m 538 #[.val (.int p1), .val (.int p2), .val (.int p3), .val (.int p4), .val (.int p5), .val (.int v1), .val (.int v2), .val (.int v3), .val (.int v4), .val (.int v5), .val (.int v6), .val (.int v7), .val (.int v8), .val (.int v9), .val (.ref b10), .val (.int v33), .val (.int v34), .val (.int v35), .val (.int v36), .val (.int v37), .val (.int v38), .val (.int v39), .val (.int v40), .val (.ref b41), .val (.int v53), .val (.int z58), .val (.int z64), .val (.int z70), .val (.int z76), .val (.int z116), .val (.ref b78)] [(.int (2 : Int32)), (.ref b41)]))
      refine go (own_iaload X117 hx hZ rfl P119 (j := (2 : Int32)) (by decide) (by rw [lA51]; decide) (g := (mkF m 538 #[.val (.int p1), .val (.int p2), .val (.int p3), .val (.int p4), .val (.int p5), .val (.int v1), .val (.int v2), .val (.int v3), .val (.int v4), .val (.int v5), .val (.int v6), .val (.int v7), .val (.int v8), .val (.int v9), .val (.ref b10), .val (.int v33), .val (.int v34), .val (.int v35), .val (.int v36), .val (.int v37), .val (.int v38), .val (.int v39), .val (.int v40), .val (.ref b41), .val (.int v53), .val (.int z58), .val (.int z64), .val (.int z70), .val (.int z76), .val (.int z116), .val (.ref b78)] [(.int (2 : Int32)), (.ref b41)])) rfl rfl (hb hby at_538)) ?_
      show Go p e below _ (T117.setTop (mkF m 539 #[.val (.int p1), .val (.int p2), .val (.int p3), .val (.int p4), .val (.int p5), .val (.int v1), .val (.int v2), .val (.int v3), .val (.int v4), .val (.int v5), .val (.int v6), .val (.int v7), .val (.int v8), .val (.int v9), .val (.ref b10), .val (.int v33), .val (.int v34), .val (.int v35), .val (.int v36), .val (.int v37), .val (.int v38), .val (.int v39), .val (.int v40), .val (.ref b41), .val (.int v53), .val (.int z58), .val (.int z64), .val (.int z70), .val (.int z76), .val (.int z116), .val (.ref b78)] [(.int (A51.getD ((2 : Int32)).toNatClampNeg 0))]))
      refine go (fun _ q => XS.aload X117.here hx rfl (hb hby at_539) rfl rfl q) ?_
      show Go p e below _ (T117.setTop (mkF m 541 #[.val (.int p1), .val (.int p2), .val (.int p3), .val (.int p4), .val (.int p5), .val (.int v1), .val (.int v2), .val (.int v3), .val (.int v4), .val (.int v5), .val (.int v6), .val (.int v7), .val (.int v8), .val (.int v9), .val (.ref b10), .val (.int v33), .val (.int v34), .val (.int v35), .val (.int v36), .val (.int v37), .val (.int v38), .val (.int v39), .val (.int v40), .val (.ref b41), .val (.int v53), .val (.int z58), .val (.int z64), .val (.int z70), .val (.int z76), .val (.int z116), .val (.ref b78)] [(.ref b78), (.int (A51.getD ((2 : Int32)).toNatClampNeg 0))]))
      refine go (fun _ q => XS.iconst X117.here hx rfl (hb hby at_541) q) ?_
      show Go p e below _ (T117.setTop (mkF m 542 #[.val (.int p1), .val (.int p2), .val (.int p3), .val (.int p4), .val (.int p5), .val (.int v1), .val (.int v2), .val (.int v3), .val (.int v4), .val (.int v5), .val (.int v6), .val (.int v7), .val (.int v8), .val (.int v9), .val (.ref b10), .val (.int v33), .val (.int v34), .val (.int v35), .val (.int v36), .val (.int v37), .val (.int v38), .val (.int v39), .val (.int v40), .val (.ref b41), .val (.int v53), .val (.int z58), .val (.int z64), .val (.int z70), .val (.int z76), .val (.int z116), .val (.ref b78)] [(.int (2 : Int32)), (.ref b78), (.int (A51.getD ((2 : Int32)).toNatClampNeg 0))]))
      refine go (own_iaload X117 hx hZ rfl Pxs120 (j := (2 : Int32)) (by decide) (by rw [lxs120]; decide) (g := (mkF m 542 #[.val (.int p1), .val (.int p2), .val (.int p3), .val (.int p4), .val (.int p5), .val (.int v1), .val (.int v2), .val (.int v3), .val (.int v4), .val (.int v5), .val (.int v6), .val (.int v7), .val (.int v8), .val (.int v9), .val (.ref b10), .val (.int v33), .val (.int v34), .val (.int v35), .val (.int v36), .val (.int v37), .val (.int v38), .val (.int v39), .val (.int v40), .val (.ref b41), .val (.int v53), .val (.int z58), .val (.int z64), .val (.int z70), .val (.int z76), .val (.int z116), .val (.ref b78)] [(.int (2 : Int32)), (.ref b78), (.int (A51.getD ((2 : Int32)).toNatClampNeg 0))])) rfl rfl (hb hby at_542)) ?_
      show Go p e below _ (T117.setTop (mkF m 543 #[.val (.int p1), .val (.int p2), .val (.int p3), .val (.int p4), .val (.int p5), .val (.int v1), .val (.int v2), .val (.int v3), .val (.int v4), .val (.int v5), .val (.int v6), .val (.int v7), .val (.int v8), .val (.int v9), .val (.ref b10), .val (.int v33), .val (.int v34), .val (.int v35), .val (.int v36), .val (.int v37), .val (.int v38), .val (.int v39), .val (.int v40), .val (.ref b41), .val (.int v53), .val (.int z58), .val (.int z64), .val (.int z70), .val (.int z76), .val (.int z116), .val (.ref b78)] [(.int (xs120.getD ((2 : Int32)).toNatClampNeg 0)), (.int (A51.getD ((2 : Int32)).toNatClampNeg 0))]))
      have hk130 : (A51.getD ((2 : Int32)).toNatClampNeg 0) = (xs120.getD ((2 : Int32)).toNatClampNeg 0) := own_same (j := 2) own_t3 (by decide) tA51 hc129 (by decide)
      refine go (fun _ q => XS.icmpNo X117.here hx rfl (hb hby at_543) rfl (teq hk130).2 q) ?_
      show Go p e below _ (T117.setTop (mkF m 546 #[.val (.int p1), .val (.int p2), .val (.int p3), .val (.int p4), .val (.int p5), .val (.int v1), .val (.int v2), .val (.int v3), .val (.int v4), .val (.int v5), .val (.int v6), .val (.int v7), .val (.int v8), .val (.int v9), .val (.ref b10), .val (.int v33), .val (.int v34), .val (.int v35), .val (.int v36), .val (.int v37), .val (.int v38), .val (.int v39), .val (.int v40), .val (.ref b41), .val (.int v53), .val (.int z58), .val (.int z64), .val (.int z70), .val (.int z76), .val (.int z116), .val (.ref b78)] []))
      exact hj128
  show Go p e below _ (T117.setTop (mkF m 546 #[.val (.int p1), .val (.int p2), .val (.int p3), .val (.int p4), .val (.int p5), .val (.int v1), .val (.int v2), .val (.int v3), .val (.int v4), .val (.int v5), .val (.int v6), .val (.int v7), .val (.int v8), .val (.int v9), .val (.ref b10), .val (.int v33), .val (.int v34), .val (.int v35), .val (.int v36), .val (.int v37), .val (.int v38), .val (.int v39), .val (.int v40), .val (.ref b41), .val (.int v53), .val (.int z58), .val (.int z64), .val (.int z70), .val (.int z76), .val (.int z116), .val (.ref b78)] []))
  refine go (fun _ q => XS.iload X117.here hx rfl (hb hby at_546) rfl q) ?_
  show Go p e below _ (T117.setTop (mkF m 548 #[.val (.int p1), .val (.int p2), .val (.int p3), .val (.int p4), .val (.int p5), .val (.int v1), .val (.int v2), .val (.int v3), .val (.int v4), .val (.int v5), .val (.int v6), .val (.int v7), .val (.int v8), .val (.int v9), .val (.ref b10), .val (.int v33), .val (.int v34), .val (.int v35), .val (.int v36), .val (.int v37), .val (.int v38), .val (.int v39), .val (.int v40), .val (.ref b41), .val (.int v53), .val (.int z58), .val (.int z64), .val (.int z70), .val (.int z76), .val (.int z116), .val (.ref b78)] [(.int z116)]))
  refine go (fun _ q => XS.iconst X117.here hx rfl (hb hby at_548) q) ?_
  show Go p e below _ (T117.setTop (mkF m 549 #[.val (.int p1), .val (.int p2), .val (.int p3), .val (.int p4), .val (.int p5), .val (.int v1), .val (.int v2), .val (.int v3), .val (.int v4), .val (.int v5), .val (.int v6), .val (.int v7), .val (.int v8), .val (.int v9), .val (.ref b10), .val (.int v33), .val (.int v34), .val (.int v35), .val (.int v36), .val (.int v37), .val (.int v38), .val (.int v39), .val (.int v40), .val (.ref b41), .val (.int v53), .val (.int z58), .val (.int z64), .val (.int z70), .val (.int z76), .val (.int z116), .val (.ref b78)] [(.int (4 : Int32)), (.int z116)]))
  suffices hj131 : Go p e below (Dn below s ((Q0 n0)) room_1.cells room_1.slots) (T117.setTop (mkF m 563 #[.val (.int p1), .val (.int p2), .val (.int p3), .val (.int p4), .val (.int p5), .val (.int v1), .val (.int v2), .val (.int v3), .val (.int v4), .val (.int v5), .val (.int v6), .val (.int v7), .val (.int v8), .val (.int v9), .val (.ref b10), .val (.int v33), .val (.int v34), .val (.int v35), .val (.int v36), .val (.int v37), .val (.int v38), .val (.int v39), .val (.int v40), .val (.ref b41), .val (.int v53), .val (.int z58), .val (.int z64), .val (.int z70), .val (.int z76), .val (.int z116), .val (.ref b78)] [])) by
    by_cases hc132 : z116 < (4 : Int32)
    · refine go (fun _ q => XS.icmpYes X117.here hx rfl (pc0 := 549) (pc' := 563) rfl (hb hby at_549) rfl (tlt hc132).1 (by decide) (by decide) q) ?_
      show Go p e below _ (T117.setTop (mkF m 563 #[.val (.int p1), .val (.int p2), .val (.int p3), .val (.int p4), .val (.int p5), .val (.int v1), .val (.int v2), .val (.int v3), .val (.int v4), .val (.int v5), .val (.int v6), .val (.int v7), .val (.int v8), .val (.int v9), .val (.ref b10), .val (.int v33), .val (.int v34), .val (.int v35), .val (.int v36), .val (.int v37), .val (.int v38), .val (.int v39), .val (.int v40), .val (.ref b41), .val (.int v53), .val (.int z58), .val (.int z64), .val (.int z70), .val (.int z76), .val (.int z116), .val (.ref b78)] []))
      exact hj131
    · refine go (fun _ q => XS.icmpNo X117.here hx rfl (hb hby at_549) rfl (flt hc132).1 q) ?_
      show Go p e below _ (T117.setTop (mkF m 552 #[.val (.int p1), .val (.int p2), .val (.int p3), .val (.int p4), .val (.int p5), .val (.int v1), .val (.int v2), .val (.int v3), .val (.int v4), .val (.int v5), .val (.int v6), .val (.int v7), .val (.int v8), .val (.int v9), .val (.ref b10), .val (.int v33), .val (.int v34), .val (.int v35), .val (.int v36), .val (.int v37), .val (.int v38), .val (.int v39), .val (.int v40), .val (.ref b41), .val (.int v53), .val (.int z58), .val (.int z64), .val (.int z70), .val (.int z76), .val (.int z116), .val (.ref b78)] []))
      refine go (fun _ q => XS.aload X117.here hx rfl (hb hby at_552) rfl rfl q) ?_
      show Go p e below _ (T117.setTop (mkF m 554 #[.val (.int p1), .val (.int p2), .val (.int p3), .val (.int p4), .val (.int p5), .val (.int v1), .val (.int v2), .val (.int v3), .val (.int v4), .val (.int v5), .val (.int v6), .val (.int v7), .val (.int v8), .val (.int v9), .val (.ref b10), .val (.int v33), .val (.int v34), .val (.int v35), .val (.int v36), .val (.int v37), .val (.int v38), .val (.int v39), .val (.int v40), .val (.ref b41), .val (.int v53), .val (.int z58), .val (.int z64), .val (.int z70), .val (.int z76), .val (.int z116), .val (.ref b78)] [(.ref b41)]))
      refine go (fun _ q => XS.iconst X117.here hx rfl (hb hby at_554) q) ?_
      show Go p e below _ (T117.setTop (mkF m 555 #[.val (.int p1), .val (.int p2), .val (.int p3), .val (.int p4), .val (.int p5), .val (.int v1), .val (.int v2), .val (.int v3), .val (.int v4), .val (.int v5), .val (.int v6), .val (.int v7), .val (.int v8), .val (.int v9), .val (.ref b10), .val (.int v33), .val (.int v34), .val (.int v35), .val (.int v36), .val (.int v37), .val (.int v38), .val (.int v39), .val (.int v40), .val (.ref b41), .val (.int v53), .val (.int z58), .val (.int z64), .val (.int z70), .val (.int z76), .val (.int z116), .val (.ref b78)] [(.int (3 : Int32)), (.ref b41)]))
      refine go (own_iaload X117 hx hZ rfl P119 (j := (3 : Int32)) (by decide) (by rw [lA51]; decide) (g := (mkF m 555 #[.val (.int p1), .val (.int p2), .val (.int p3), .val (.int p4), .val (.int p5), .val (.int v1), .val (.int v2), .val (.int v3), .val (.int v4), .val (.int v5), .val (.int v6), .val (.int v7), .val (.int v8), .val (.int v9), .val (.ref b10), .val (.int v33), .val (.int v34), .val (.int v35), .val (.int v36), .val (.int v37), .val (.int v38), .val (.int v39), .val (.int v40), .val (.ref b41), .val (.int v53), .val (.int z58), .val (.int z64), .val (.int z70), .val (.int z76), .val (.int z116), .val (.ref b78)] [(.int (3 : Int32)), (.ref b41)])) rfl rfl (hb hby at_555)) ?_
      show Go p e below _ (T117.setTop (mkF m 556 #[.val (.int p1), .val (.int p2), .val (.int p3), .val (.int p4), .val (.int p5), .val (.int v1), .val (.int v2), .val (.int v3), .val (.int v4), .val (.int v5), .val (.int v6), .val (.int v7), .val (.int v8), .val (.int v9), .val (.ref b10), .val (.int v33), .val (.int v34), .val (.int v35), .val (.int v36), .val (.int v37), .val (.int v38), .val (.int v39), .val (.int v40), .val (.ref b41), .val (.int v53), .val (.int z58), .val (.int z64), .val (.int z70), .val (.int z76), .val (.int z116), .val (.ref b78)] [(.int (A51.getD ((3 : Int32)).toNatClampNeg 0))]))
      refine go (fun _ q => XS.aload X117.here hx rfl (hb hby at_556) rfl rfl q) ?_
      show Go p e below _ (T117.setTop (mkF m 558 #[.val (.int p1), .val (.int p2), .val (.int p3), .val (.int p4), .val (.int p5), .val (.int v1), .val (.int v2), .val (.int v3), .val (.int v4), .val (.int v5), .val (.int v6), .val (.int v7), .val (.int v8), .val (.int v9), .val (.ref b10), .val (.int v33), .val (.int v34), .val (.int v35), .val (.int v36), .val (.int v37), .val (.int v38), .val (.int v39), .val (.int v40), .val (.ref b41), .val (.int v53), .val (.int z58), .val (.int z64), .val (.int z70), .val (.int z76), .val (.int z116), .val (.ref b78)] [(.ref b78), (.int (A51.getD ((3 : Int32)).toNatClampNeg 0))]))
      refine go (fun _ q => XS.iconst X117.here hx rfl (hb hby at_558) q) ?_
      show Go p e below _ (T117.setTop (mkF m 559 #[.val (.int p1), .val (.int p2), .val (.int p3), .val (.int p4), .val (.int p5), .val (.int v1), .val (.int v2), .val (.int v3), .val (.int v4), .val (.int v5), .val (.int v6), .val (.int v7), .val (.int v8), .val (.int v9), .val (.ref b10), .val (.int v33), .val (.int v34), .val (.int v35), .val (.int v36), .val (.int v37), .val (.int v38), .val (.int v39), .val (.int v40), .val (.ref b41), .val (.int v53), .val (.int z58), .val (.int z64), .val (.int z70), .val (.int z76), .val (.int z116), .val (.ref b78)] [(.int (3 : Int32)), (.ref b78), (.int (A51.getD ((3 : Int32)).toNatClampNeg 0))]))
      refine go (own_iaload X117 hx hZ rfl Pxs120 (j := (3 : Int32)) (by decide) (by rw [lxs120]; decide) (g := (mkF m 559 #[.val (.int p1), .val (.int p2), .val (.int p3), .val (.int p4), .val (.int p5), .val (.int v1), .val (.int v2), .val (.int v3), .val (.int v4), .val (.int v5), .val (.int v6), .val (.int v7), .val (.int v8), .val (.int v9), .val (.ref b10), .val (.int v33), .val (.int v34), .val (.int v35), .val (.int v36), .val (.int v37), .val (.int v38), .val (.int v39), .val (.int v40), .val (.ref b41), .val (.int v53), .val (.int z58), .val (.int z64), .val (.int z70), .val (.int z76), .val (.int z116), .val (.ref b78)] [(.int (3 : Int32)), (.ref b78), (.int (A51.getD ((3 : Int32)).toNatClampNeg 0))])) rfl rfl (hb hby at_559)) ?_
      show Go p e below _ (T117.setTop (mkF m 560 #[.val (.int p1), .val (.int p2), .val (.int p3), .val (.int p4), .val (.int p5), .val (.int v1), .val (.int v2), .val (.int v3), .val (.int v4), .val (.int v5), .val (.int v6), .val (.int v7), .val (.int v8), .val (.int v9), .val (.ref b10), .val (.int v33), .val (.int v34), .val (.int v35), .val (.int v36), .val (.int v37), .val (.int v38), .val (.int v39), .val (.int v40), .val (.ref b41), .val (.int v53), .val (.int z58), .val (.int z64), .val (.int z70), .val (.int z76), .val (.int z116), .val (.ref b78)] [(.int (xs120.getD ((3 : Int32)).toNatClampNeg 0)), (.int (A51.getD ((3 : Int32)).toNatClampNeg 0))]))
      have hk133 : (A51.getD ((3 : Int32)).toNatClampNeg 0) = (xs120.getD ((3 : Int32)).toNatClampNeg 0) := own_same (j := 3) own_t3 (by decide) tA51 hc132 (by decide)
      refine go (fun _ q => XS.icmpNo X117.here hx rfl (hb hby at_560) rfl (teq hk133).2 q) ?_
      show Go p e below _ (T117.setTop (mkF m 563 #[.val (.int p1), .val (.int p2), .val (.int p3), .val (.int p4), .val (.int p5), .val (.int v1), .val (.int v2), .val (.int v3), .val (.int v4), .val (.int v5), .val (.int v6), .val (.int v7), .val (.int v8), .val (.int v9), .val (.ref b10), .val (.int v33), .val (.int v34), .val (.int v35), .val (.int v36), .val (.int v37), .val (.int v38), .val (.int v39), .val (.int v40), .val (.ref b41), .val (.int v53), .val (.int z58), .val (.int z64), .val (.int z70), .val (.int z76), .val (.int z116), .val (.ref b78)] []))
      exact hj131
  show Go p e below _ (T117.setTop (mkF m 563 #[.val (.int p1), .val (.int p2), .val (.int p3), .val (.int p4), .val (.int p5), .val (.int v1), .val (.int v2), .val (.int v3), .val (.int v4), .val (.int v5), .val (.int v6), .val (.int v7), .val (.int v8), .val (.int v9), .val (.ref b10), .val (.int v33), .val (.int v34), .val (.int v35), .val (.int v36), .val (.int v37), .val (.int v38), .val (.int v39), .val (.int v40), .val (.ref b41), .val (.int v53), .val (.int z58), .val (.int z64), .val (.int z70), .val (.int z76), .val (.int z116), .val (.ref b78)] []))
  refine go (fun _ q => XS.iconst X117.here hx rfl (hb hby at_563) q) ?_
  show Go p e below _ (T117.setTop (mkF m 564 #[.val (.int p1), .val (.int p2), .val (.int p3), .val (.int p4), .val (.int p5), .val (.int v1), .val (.int v2), .val (.int v3), .val (.int v4), .val (.int v5), .val (.int v6), .val (.int v7), .val (.int v8), .val (.int v9), .val (.ref b10), .val (.int v33), .val (.int v34), .val (.int v35), .val (.int v36), .val (.int v37), .val (.int v38), .val (.int v39), .val (.int v40), .val (.ref b41), .val (.int v53), .val (.int z58), .val (.int z64), .val (.int z70), .val (.int z76), .val (.int z116), .val (.ref b78)] [(.int (1 : Int32))]))
  refine go (fun _ q => XS.goto X117.here hx rfl (pc0 := 564) (pc' := 568) rfl (hb hby at_564) (by decide) (by decide) q) ?_
  show Go p e below _ (T117.setTop (mkF m 568 #[.val (.int p1), .val (.int p2), .val (.int p3), .val (.int p4), .val (.int p5), .val (.int v1), .val (.int v2), .val (.int v3), .val (.int v4), .val (.int v5), .val (.int v6), .val (.int v7), .val (.int v8), .val (.int v9), .val (.ref b10), .val (.int v33), .val (.int v34), .val (.int v35), .val (.int v36), .val (.int v37), .val (.int v38), .val (.int v39), .val (.int v40), .val (.ref b41), .val (.int v53), .val (.int z58), .val (.int z64), .val (.int z70), .val (.int z76), .val (.int z116), .val (.ref b78)] [(.int (1 : Int32))]))
  exact own_retZ (z' := (1 : Int32)) X117 hx hlk hret (hb hby at_568) (by decide) (by decide) rfl ⟨rfl, N117⟩
set_option maxRecDepth 65536 in
set_option maxHeartbeats 40000000 in
theorem comes_1 {Post : Tables → Env → Array Value → State → Outcome → State → Prop} (hpost : ∀ tb e args s v u, (limb_1_1.after args s (.returned v) u = true ∧ limb_1_2.after args s (.returned v) u = true ∧ True) → FrameEnd s (.returned v) u (Jvm.fieldLocs frame_1_writes args s ++ Jvm.arrayLocs frame_1_arrays args s ++ Jvm.staticLocs frame_1_statics s) 16 128 → Post tb e args s (.returned v) u) :
    ArmFor flags0 classFile x code maxLocals ret World_1 tables_1 room_1 Calls_1 rest_1 Pre_1 Post := by
  intro l hfl _ _ p e ha hc hk s m args below hf hA hF happ hP
  obtain ⟨hcalls, hrest, hpre⟩ := hP
  obtain ⟨-, -, -, hnamed, -, -, -, hat⟩ := (Spec.applies_iff hf).mp happ
  obtain ⟨hg, hn⟩ := and_e (Cond.before_iff.mp (show (Jvm.Cond.and given_1 narrow_1).before args s = true from hpre))
  obtain ⟨gc, g0⟩ := and_e hg
  obtain ⟨ga0, g1⟩ := and_e g0
  obtain ⟨ga1, g2⟩ := and_e g1
  obtain ⟨ga2, g3⟩ := and_e g2
  obtain ⟨ga3, g4⟩ := and_e g3
  have ga4 := g4
  obtain ⟨w0, w1, w2, w3, w4, rfl⟩ : ∃ w0 w1 w2 w3 w4 : Value, args = #[w0, w1, w2, w3, w4] := by
    have hs : args.size = 5 := by simpa [Cond.value, given_1] using gc
    obtain ⟨L⟩ := args
    match L, hs with
    | [w0, w1, w2, w3, w4], _ => exact ⟨w0, w1, w2, w3, w4, rfl⟩
  have hw := fun d (hd : d ∈ tables_1) => atoms_spec (ws := Jvm.Cond.code x code maxLocals ret :: tables_1) hat d (List.mem_cons_of_mem _ hd)
  obtain ⟨i0, ei0⟩ := is_v ga0
  obtain rfl : w0 = (.int i0) := Option.some.inj ei0
  obtain ⟨i1, ei1⟩ := is_v ga1
  obtain rfl : w1 = (.int i1) := Option.some.inj ei1
  obtain ⟨i2, ei2⟩ := is_v ga2
  obtain rfl : w2 = (.int i2) := Option.some.inj ei2
  obtain ⟨i3, ei3⟩ := is_v ga3
  obtain rfl : w3 = (.int i3) := Option.some.inj ei3
  obtain ⟨i4, ei4⟩ := is_v ga4
  obtain rfl : w4 = (.int i4) := Option.some.inj ei4
  obtain ⟨n, o, h1, h2, h3, _, L, rfl, ⟨rfl, N⟩, hq⟩ := rm0 l s _ hw tables_1 i0 i1 i2 i3 i4 s.heap s.heap.size (Nat.le_refl _) p e ha hc hk s m _ below hf ((Spec.applies_iff_loose hf).mp happ).1 ⟨rfl, State.Warmed39.refl s, rfl⟩ trivial
  refine ⟨n, _, h1, h2, h3, hpost _ _ _ _ _ _ ⟨Cond.after_iff.mpr rfl, Cond.after_iff.mpr (eq_i res_at (Term.int_eval (1)) rfl), trivial⟩ ⟨hq.1, hq.2.1, (hq.2.2.sift fun y hy => Or.inr (N y hy)).mono (by decide) (by decide)⟩⟩
theorem main_1_1 : Claimed_1_1 := comes_1 fun _ _ _ _ _ _ h hF => ⟨h.1, hF⟩
theorem main_1_2 : Claimed_1_2 := comes_1 fun _ _ _ _ _ _ h hF => ⟨h.2.1, hF⟩
end Jvm.Pilot.@@N@@
namespace Jvm.Pilot.@@N@@
open Jvm Jvm.ClassFile Sem Op Lib Jvm.Free Jvm.Stand Jvm.Pilot.@@N@@.Jvm.D
/-! MADE BY PROGRAM (witnessworld.py) out of the Statement's table words and the real class files: 10 classes; the members and pool entries that the words name. The judged class is class 1, her method 2. -/
namespace start1
open Jvm.ClassFile
def u (s : String) : CpInfo := .utf8 (stringToUtf16 s)
/-- a pool by its gaps: so many unusable entries, then the entry; so many at the end -/
def gap : Nat → List CpInfo → List CpInfo
  | 0, r => r
  | n + 1, r => .unusable :: gap n r
def poolList (es : List (Nat × CpInfo)) (last : Nat) : List CpInfo := es.foldr (fun e r => gap e.1 (e.2 :: r)) (gap last [])
def pool (es : List (Nat × CpInfo)) (last : Nat) : Array CpInfo := ⟨poolList es last⟩
def fileOf (pool : Array CpInfo) (this : Nat) (attrs : Array Attribute := #[]) (ms : Array MethodInfo := #[]) (fl : Nat := 33) (sup : Nat := 0) (ifs : Array Nat := #[]) (fds : Array FieldInfo := #[]) : ClassFile where
  minorVersion := 0
  majorVersion := 65
  constantPool := pool
  accessFlags := fl
  thisClass := this
  superClass := sup
  interfaces := ifs
  fields := fds
  methods := ms
  attributes := attrs
def plain (name : String) (sup : Option ClassId) : Class where
  name := name
  kind := .ordinary
  loader := none
  accessFlags := 33
  super := sup
  interfaces := #[]
  cf := none
  fields := #[]
  methods := #[]
  instanceTypes := #[]
  staticTypes := #[]
  resolved := #[]
  callSites := []
  init := .initialized
  statics := none
  mirror := none

def pool0 : Array CpInfo := pool [(5, u "<init>"), (0, u "()V"), (1, .class_ 10), (1, u "java/lang/Object")] 113

def k0m0 : Method := { name := "<init>", desc := "()V", sig := { parameters := [], returnType := none }, accessFlags := 1, code := none }
/-- java/lang/Object -/
def k0 : Class := { plain "java/lang/Object" none with
  accessFlags := 33
  interfaces := #[]
  cf := some (fileOf pool0 8 #[] #[{ accessFlags := 1, nameIndex := 5, descriptorIndex := 6, attributes := #[] }] 33 0 #[] #[])
  fields := #[]
  methods := #[k0m0]
  instanceTypes := #[]
  staticTypes := #[]
  resolved := Array.replicate 124 none
  statics := none }

def pool1 : Array CpInfo := pool [(2, .class_ 4), (1, u "java/lang/Object"), (0, u "<init>"), (0, u "()V"), (0, .integer 1073741823), (0, .interfaceMethodref 9 10), (0, .class_ 11), (0, .nameAndType 12 13), (0, u "com/example/skipstone/skipstone/PostingsCursor"), (0, u "keepStarts"), (0, u "([III[III)I"), (0, .methodref 15 16), (0, .class_ 17), (0, .nameAndType 18 19), (0, u "com/example/skipstone/skipstone/PostingsCursorKeepStartsPinLaw"), (0, u "member"), (0, u "(IIIIII)Z"), (3, u "law"), (0, u "(IIIII)Z")] 4

def k1m0 : Method := { name := "<init>", desc := "()V", sig := { parameters := [], returnType := none }, accessFlags := 2, code := none }
def k1c1 : Code := { maxStack := 2, maxLocals := 6, code := method_2_code, exceptionTable := #[], attributes := #[] }
def k1m1 : Method := { name := "member", desc := "(IIIIII)Z", sig := { parameters := [.int, .int, .int, .int, .int, .int], returnType := some .boolean }, accessFlags := 10, code := some k1c1 }
def k1c2 : Code := { maxStack := 6, maxLocals := 31, code := code, exceptionTable := #[], attributes := #[] }
def k1m2 : Method := { name := "law", desc := "(IIIII)Z", sig := { parameters := [.int, .int, .int, .int, .int], returnType := some .boolean }, accessFlags := 9, code := some k1c2 }
/-- com/example/skipstone/skipstone/PostingsCursorKeepStartsPinLaw -/
def k1 : Class := { plain "com/example/skipstone/skipstone/PostingsCursorKeepStartsPinLaw" (some 0) with
  accessFlags := 49
  interfaces := #[]
  cf := some (fileOf pool1 15 #[] #[{ accessFlags := 2, nameIndex := 5, descriptorIndex := 6, attributes := #[] }, { accessFlags := 10, nameIndex := 18, descriptorIndex := 19, attributes := #[] }, { accessFlags := 9, nameIndex := 23, descriptorIndex := 24, attributes := #[] }] 49 2 #[] #[])
  fields := #[]
  methods := #[k1m0, k1m1, k1m2]
  instanceTypes := #[]
  staticTypes := #[]
  resolved := Array.replicate 29 none
  statics := none }

def pool2 : Array CpInfo := pool [(4, .class_ 6), (1, u "com/example/skipstone/skipstone/Walk"), (11, .class_ 19), (0, u "java/lang/Object"), (0, u "EXHAUSTED"), (0, u "I")] 13

/-- com/example/skipstone/skipstone/Walk -/
def k2 : Class := { plain "com/example/skipstone/skipstone/Walk" (some 0) with
  accessFlags := 1536
  interfaces := #[]
  cf := some (fileOf pool2 4 #[] #[] 1536 18 #[] #[{ accessFlags := 25, nameIndex := 20, descriptorIndex := 21, attributes := #[] }])
  fields := #[{ name := "EXHAUSTED", type := .int, accessFlags := 25, slot := 0, constantValue := 0 }]
  methods := #[]
  instanceTypes := #[]
  staticTypes := #[.int]
  resolved := Array.replicate 35 none
  statics := none }

def pool3 : Array CpInfo := pool [(2, .class_ 4), (1, u "com/example/skipstone/skipstone/PostingsCursor"), (18, u "keepStarts"), (0, u "([III[III)I"), (2, .class_ 28), (0, u "java/lang/Object"), (0, .class_ 30), (0, u "com/example/skipstone/skipstone/Walk"), (26, .class_ 58), (0, u "com/example/skipstone/skipstone/PostingsCursor$PostingScore"), (0, .class_ 60), (0, u "com/example/skipstone/skipstone/PostingsCursor$Notes"), (0, .class_ 62), (0, u "com/example/skipstone/skipstone/PostingsCursor$HeldBlock")] 4

def k3c0 : Code := { maxStack := 3, maxLocals := 12, code := prog_97_method_16_code, exceptionTable := #[], attributes := #[] }
def k3m0 : Method := { name := "keepStarts", desc := "([III[III)I", sig := { parameters := [(.array .int), .int, .int, (.array .int), .int, .int], returnType := some .int }, accessFlags := 9, code := some k3c0 }
/-- com/example/skipstone/skipstone/PostingsCursor -/
def k3 : Class := { plain "com/example/skipstone/skipstone/PostingsCursor" (some 0) with
  accessFlags := 1536
  interfaces := #[2]
  cf := some (fileOf pool3 2 #[.nestMembers #[57, 59, 61]] #[{ accessFlags := 9, nameIndex := 23, descriptorIndex := 24, attributes := #[] }] 1536 27 #[29] #[])
  fields := #[]
  methods := #[k3m0]
  instanceTypes := #[]
  staticTypes := #[]
  resolved := Array.replicate 67 none
  statics := none }

def pool4 : Array CpInfo := pool [(1, u "java/lang/Cloneable"), (0, .class_ 1), (0, u "java/lang/Object"), (0, .class_ 3)] 3

/-- java/lang/Cloneable -/
def k4 : Class := { plain "java/lang/Cloneable" (some 0) with
  accessFlags := 1537
  interfaces := #[]
  cf := some (fileOf pool4 2 #[] #[] 1537 4 #[] #[])
  fields := #[]
  methods := #[]
  instanceTypes := #[]
  staticTypes := #[]
  resolved := Array.replicate 8 none
  statics := none }

def pool5 : Array CpInfo := pool [(1, u "java/io/Serializable"), (0, .class_ 1), (0, u "java/lang/Object"), (0, .class_ 3)] 3

/-- java/io/Serializable -/
def k5 : Class := { plain "java/io/Serializable" (some 0) with
  accessFlags := 1537
  interfaces := #[]
  cf := some (fileOf pool5 2 #[] #[] 1537 4 #[] #[])
  fields := #[]
  methods := #[]
  instanceTypes := #[]
  staticTypes := #[]
  resolved := Array.replicate 8 none
  statics := none }

/-- the primitive byte -/
def k6 : Class := { plain "byte" none with kind := .primitive 'B', accessFlags := 0x411 }
/-- [B -/
def k7 : Class := { plain "[B" (some 0) with kind := .array 6 .byte, interfaces := #[4, 5], accessFlags := 1041 }

/-- the primitive int -/
def k8 : Class := { plain "int" none with kind := .primitive 'I', accessFlags := 0x411 }
/-- [I -/
def k9 : Class := { plain "[I" (some 0) with kind := .array 8 .int, interfaces := #[4, 5], accessFlags := 1041 }

def heap : Heap := #[]
def classes : Array Class := #[k0, k1, k2, k3, k4, k5, k6, k7, k8, k9]
def interned : List (Array UInt16 × Addr) := []
def slotsUsed : Nat := 0
def theMethod : MethodId := ⟨1, 2⟩
def args0 : Array Value := #[.int 5, .int 300, .int 7, .int 8, .int 9]
def aboutOver (below : List Frame) : State where
  vm := { classes := classes, interned := interned.toArray }
  heap := heap
  slotsUsed := slotsUsed
  threads := #[{ frames := .invoking theMethod args0 :: below }]
def below0 : List Frame := [.native { method := ⟨0, 0⟩, args := #[] }]
def about1 : State := aboutOver below0
def p0 : Program := .bare "" "" ""
def e0 : Env := launch0.env 0 0 0
theorem w_frames : about1.frames = Frame.invoking theMethod args0 :: below0 := rfl
set_option maxRecDepth 65536 in
theorem w_args : argsFit about1.vm theMethod args0 = true := by decide +kernel
set_option maxRecDepth 65536 in
theorem w_heap : heapFits about1 = true := by decide +kernel
set_option maxRecDepth 65536 in
theorem w_runnable : about1.curStatus? = some .runnable := by decide +kernel
set_option maxRecDepth 65536 in
theorem w_alone : about1.alone = true := by decide +kernel
set_option maxRecDepth 65536 in
theorem w_named : about1.methodNamed? x = some theMethod := by decide +kernel
set_option maxRecDepth 65536 in
theorem w_hears : about1.hears theMethod below0 = true := by decide +kernel
set_option maxRecDepth 65536 in
theorem w_ripe : about1.ripe theMethod args0 below0 = true := by decide +kernel
theorem w_running : about1.status = .running := rfl
set_option maxRecDepth 65536 in
theorem w_room : about1.hasRoom e0.platform room_1 = true :=
  launch0.hasRoom_least _ room_1 (by decide +kernel) (by decide +kernel) (by decide +kernel) (by decide +kernel) (by decide +kernel) (by decide +kernel)
theorem allAtoms_all (ts : List Jvm.Cond) (a : Array Jvm.Value) (st : Jvm.State) : (allAtoms ts).before a st = ts.all (fun c => c.before a st) := by
  induction ts with
  | nil => rfl
  | cons c t ih =>
    show (Jvm.Cond.and c (allAtoms t)).before a st = _
    rw [Jvm.Cond.before_and, ih, List.all_cons]
def words1 : List Jvm.Cond := Jvm.Cond.code x code maxLocals ret :: tables_1
/-- a 'code' word, met by the world's own term for the bytes: nothing is compared byte by byte -/
theorem code_word {y : MethodName} {bytes : ByteArray} {mx : Nat} {rt : Option FieldType} {a : Array Value} {s : State} {m : MethodId} {meth : Method} {c : Code} (h1 : s.methodNamed? y = some m) (h2 : s.vm.method? m = some meth) (h3 : meth.code = some c) (h4 : c.code = bytes)
    (h5 : (c.maxLocals == mx && c.exceptionTable.isEmpty && decide (c.maxStack ≤ mostOperands) && decide (meth.sig.returnType = rt) && !meth.locks && decide (parseMethodDescriptor y.desc = some meth.sig)) = true) : (Jvm.Cond.code y bytes mx rt).before a s = true := by
  simp only [Bool.and_eq_true, beq_iff_eq, Bool.not_eq_true', decide_eq_true_eq] at h5
  obtain ⟨⟨⟨⟨⟨g1, g2⟩, g3⟩, g4⟩, g5⟩, g6⟩ := h5
  simp [Cond.before, Cond.holds, Cond.value, h1, h2, h3, h4, g1, g2, g3, g4, g5, g6]
def isCode : Jvm.Cond → Bool
  | .code _ _ _ _ => true
  | _ => false
theorem all_split {L : List Jvm.Cond} {P : Jvm.Cond → Bool} (h1 : L.all (fun c => isCode c || P c) = true) (h2 : ∀ c ∈ L.filter isCode, P c = true) : L.all P = true := by
  refine List.all_eq_true.mpr fun c hc => ?_
  have h := List.all_eq_true.mp h1 c hc
  rcases Bool.eq_false_or_eq_true (isCode c) with hi | hi
  · exact h2 c (List.mem_filter.mpr ⟨hc, hi⟩)
  · simpa [hi] using h
set_option maxRecDepth 65536 in
theorem w_c0 : (Jvm.Cond.code x code maxLocals ret).before args0 about1 = true := code_word (m := ⟨1, 2⟩) (meth := k1m2) (c := k1c2) (by decide +kernel) rfl rfl rfl (by decide +kernel)
set_option maxRecDepth 65536 in
theorem w_c1 : (Jvm.Cond.code ({ cls := "com/example/skipstone/skipstone/PostingsCursor", name := "keepStarts", desc := "([III[III)I" } : Jvm.MethodName) prog_97_method_16_code (12 : Nat) (Option.some Jvm.ClassFile.FieldType.int)).before args0 about1 = true := code_word (m := ⟨3, 0⟩) (meth := k3m0) (c := k3c0) (by decide +kernel) rfl rfl rfl (by decide +kernel)
set_option maxRecDepth 65536 in
theorem w_c2 : (Jvm.Cond.code ({ cls := "com/example/skipstone/skipstone/PostingsCursorKeepStartsPinLaw", name := "member", desc := "(IIIIII)Z" } : Jvm.MethodName) method_2_code (6 : Nat) (Option.some Jvm.ClassFile.FieldType.boolean)).before args0 about1 = true := code_word (m := ⟨1, 1⟩) (meth := k1m1) (c := k1c1) (by decide +kernel) rfl rfl rfl (by decide +kernel)
def codes1 : List Jvm.Cond := [Jvm.Cond.code x code maxLocals ret, Jvm.Cond.code ({ cls := "com/example/skipstone/skipstone/PostingsCursor", name := "keepStarts", desc := "([III[III)I" } : Jvm.MethodName) prog_97_method_16_code (12 : Nat) (Option.some Jvm.ClassFile.FieldType.int), Jvm.Cond.code ({ cls := "com/example/skipstone/skipstone/PostingsCursorKeepStartsPinLaw", name := "member", desc := "(IIIIII)Z" } : Jvm.MethodName) method_2_code (6 : Nat) (Option.some Jvm.ClassFile.FieldType.boolean)]
set_option maxRecDepth 65536 in
theorem codes_eq : words1.filter isCode = codes1 := rfl
theorem w_codes : ∀ c ∈ words1.filter isCode, c.before args0 about1 = true := by
  rw [codes_eq]
  intro c hc
  simp only [codes1, List.mem_cons, List.not_mem_nil, or_false] at hc
  rcases hc with rfl | rfl | rfl
  · exact w_c0
  · exact w_c1
  · exact w_c2
set_option maxRecDepth 65536 in
theorem w_t1 : words1.all (fun c => isCode c || c.before args0 about1) = true := by decide +kernel
theorem w_tables : (allAtoms (Jvm.Cond.code x code maxLocals ret :: tables_1)).before args0 about1 = true := by
  rw [allAtoms_all]
  show words1.all (fun c => c.before args0 about1) = true
  refine all_split ?_ w_codes
  rw [w_t1]
set_option maxRecDepth 65536 in
theorem w_case : (Jvm.Cond.and given_1 narrow_1).before args0 about1 = true := by decide +kernel
theorem w_applies : (headSpec (Jvm.Cond.code x code maxLocals ret :: tables_1) room_1).applies x e0.platform about1 = true :=
  (Spec.applies_iff w_frames).mpr ⟨w_running, w_runnable, w_alone, w_named, w_hears, w_ripe, w_room, w_tables⟩
theorem atStart : AtStart classFile x code maxLocals ret World_1 tables_1 room_1 Calls_1 rest_1 Pre_1 launch0 p0 e0 about1 theMethod args0 below0 :=
  ⟨lists_1, trivial, launch0.admits_env _ _ _, launch0.least_env, fairChoices_fair.cas, fairChoices_fair.clock, w_frames, w_args, w_heap, w_applies, trivial, trivial, w_case⟩
end start1
theorem witness_1 : WitnessClaimed_1 := ⟨start1.p0, start1.e0, start1.about1, start1.theMethod, start1.args0, start1.below0, start1.atStart⟩
end Jvm.Pilot.@@N@@
