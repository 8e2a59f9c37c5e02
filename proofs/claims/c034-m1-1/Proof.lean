import JvmDerived
import JvmDerived.Pilot.@@N@@Statement
import JvmDerived.Pilot.@@N@@Code
set_option linter.unusedVariables false
set_option linter.unusedSimpArgs false
namespace Jvm.Pilot.@@N@@
open Jvm Jvm.ClassFile Sem Op Lib Jvm.Free Jvm.Stand Jvm.LawKit Jvm.RoadKit Bundle Jvm.Pilot.@@N@@.Jvm.D
/-! ## Own: a walk forward: from here the run comes to an end that K takes -/
section Own
variable {p : Program} {l : Launch} {e : Env} {R : Room} {s : State} {m : MethodId} {args : Array Value} {below : List Frame} {meth : Method} {c : Code} {T : State} {locs : List Loc} {cells slots : Nat} {K : State → Prop}
def Go (p : Program) (e : Env) (below : List Frame) (K : State → Prop) (S : State) : Prop := ∃ t, Steps p.tables e below S t ∧ K t
theorem go {S S' : State} (h : ∀ t, Steps p.tables e below S' t → Steps p.tables e below S t) (g : Go p e below K S') : Go p e below K S := by
  obtain ⟨t, h1, h2⟩ := g
  exact ⟨t, h t h1, h2⟩
/-- the end of a body: what is returned, the heap and the written places fulfil Q, within so many cells and slots -/
def Dn (below : List Frame) (s : State) (Q : Option Value → Heap → List Loc → Prop) (C N : Nat) (t : State) : Prop := ∃ v L, t.status = .running ∧ Ended t below (.returned v) ∧ Q v t.heap L ∧ FrameEnd s (.returned v) t L C N
variable {Q : Option Value → Heap → List Loc → Prop} {C N : Nat}
theorem own_retI (X : Stand p l e R s m args below meth c T locs cells slots) (hx : p.tables.exec = Jvm.exec) (hlk : meth.locks = false) {pc : Nat} {Ls : Array Slot} {z : Int32} {rest : List Value} (hret : meth.sig.returnType = some .int) (hd : decode c.code pc = .ok (.ireturn, 1))
    (hC : cells ≤ C) (hN : slots ≤ N) (hQ : Q (some (.int z)) T.heap locs) : Go p e below (Dn below s Q C N) (T.setTop (mkF m pc Ls (.int z :: rest))) := by
  obtain ⟨fs, hr, hrun, hended, hW, hsame⟩ := X.leave (v := some (.int z)) (fun h => by rw [hret] at h; cases h) hlk
  refine ⟨_, ?_, _, _, hrun, hended, hQ, ⟨_, rfl⟩, hW, hsame.mono hC hN⟩
  have hm' : T.vm.method? m = some meth := X.method'
  have hn : narrow .int (.int z) = .int z := rfl
  show Steps p.tables e below (T.setTop { method := m, pc := pc, locals := Ls, stack := _ :: rest, locked := none }) _
  jvm_step X.here [X.here.top, hx, hd, hm', hret, hn]
  first | (intro acts; rw [hr _ acts rfl rfl rfl]) | rw [hr _ _ rfl rfl rfl]
  exact Steps.refl _
theorem own_retZ (X : Stand p l e R s m args below meth c T locs cells slots) (hx : p.tables.exec = Jvm.exec) (hlk : meth.locks = false) {pc : Nat} {Ls : Array Slot} {z z' : Int32} {rest : List Value} (hret : meth.sig.returnType = some .boolean) (hd : decode c.code pc = .ok (.ireturn, 1))
    (hC : cells ≤ C) (hN : slots ≤ N) (hz : nar .boolean z = z') (hQ : Q (some (.int z')) T.heap locs) : Go p e below (Dn below s Q C N) (T.setTop (mkF m pc Ls (.int z :: rest))) := by
  subst hz
  obtain ⟨fs, hr, hrun, hended, hW, hsame⟩ := X.leave (v := some (.int (nar .boolean z))) (fun h => by rw [hret] at h; cases h) hlk
  exact ⟨_, retN X hx (t := .boolean) hret (by simp) hd hr, _, _, hrun, hended, hQ, ⟨_, rfl⟩, hW, hsame.mono hC hN⟩
theorem own_retJ (X : Stand p l e R s m args below meth c T locs cells slots) (hx : p.tables.exec = Jvm.exec) (hlk : meth.locks = false) {pc : Nat} {Ls : Array Slot} {z : Int64} (hret : meth.sig.returnType = some .long) (hd : decode c.code pc = .ok (.lreturn, 1))
    (hC : cells ≤ C) (hN : slots ≤ N) (hQ : Q (some (.long z)) T.heap locs) : Go p e below (Dn below s Q C N) (T.setTop (mkF m pc Ls [.long z])) := by
  obtain ⟨fs, hr, hrun, hended, hW, hsame⟩ := X.leave (v := some (.long z)) (fun h => by rw [hret] at h; cases h) hlk
  exact ⟨_, X.lreturnOut hx hret hd hr, _, _, hrun, hended, hQ, ⟨_, rfl⟩, hW, hsame.mono hC hN⟩
theorem own_retA (X : Stand p l e R s m args below meth c T locs cells slots) (hx : p.tables.exec = Jvm.exec) (hlk : meth.locks = false) {pc : Nat} {Ls : Array Slot} {w : Value} {t : FieldType} (hw : w.isRef = true) (hret : meth.sig.returnType = some t) (ht : t.isReference = true) (hd : decode c.code pc = .ok (.areturn, 1))
    (hC : cells ≤ C) (hN : slots ≤ N) (hQ : Q (some w) T.heap locs) : Go p e below (Dn below s Q C N) (T.setTop (mkF m pc Ls [w])) := by
  obtain ⟨fs, hr, hrun, hended, hW, hsame⟩ := X.leave (v := some w) (fun h => by rw [hret] at h; cases h) hlk
  exact ⟨_, X.areturnOut hx hw hret ht hd hr, _, _, hrun, hended, hQ, ⟨_, rfl⟩, hW, hsame.mono hC hN⟩
theorem own_retV (X : Stand p l e R s m args below meth c T locs cells slots) (hx : p.tables.exec = Jvm.exec) (hlk : meth.locks = false) {pc : Nat} {Ls : Array Slot} (hret : meth.sig.returnType = none) (hd : decode c.code pc = .ok (.return_, 1))
    (hC : cells ≤ C) (hN : slots ≤ N) (hQ : Q none T.heap locs) : Go p e below (Dn below s Q C N) (T.setTop (mkF m pc Ls [])) := by
  obtain ⟨fs, hr, hrun, hended, hW, hsame⟩ := X.leave (v := none) (fun _ => rfl) hlk
  exact ⟨_, X.returnOut hx hret hd hr, _, _, hrun, hended, hQ, ⟨_, rfl⟩, hW, hsame.mono hC hN⟩
theorem own_lrem {g : JFrame} {target : State} (X : Stand p l e R s m args below meth c T locs cells slots) (hx : p.tables.exec = Jvm.exec) (hg : g.method = m) {x y : Int64} {rest : List Value} (hd : decode c.code g.pc = .ok (.lrem, 1)) (hs : g.stack = .long y :: .long x :: rest) (hy : y ≠ 0)
    (hr : Steps p.tables e below (T.setTop { g with pc := g.pc + 1, stack := .long (x % y) :: rest }) target) : Steps p.tables e below (T.setTop g) target := by
  have q : x - x / y * y = x % y := lrem_mod x y
  exact XS.lrem X.here hx hg hd hs hy (by rw [q]; exact hr)
/-- what a body's walk is handed -/
theorem own_met {x : MethodName} {code : ByteArray} {maxL : Nat} {ret : Option FieldType} {ws : List Jvm.Cond} {as' : Array Value} {L0 : Array Slot} {Z : State} {h0 : Heap} (hpl : plainFor x = true) (hef : ∀ m, entryFrame m as' maxL = mkF m 0 L0 [])
    (body : ∀ (p : Program) (e : Env) (s : State) (m : MethodId) (below : List Frame) (meth : Method) (c : Code) (T : State), p.tables.exec = Jvm.exec → c.code = code → c.maxLocals = maxL → s.vm.findClass x.cls = some m.cls → meth.name = x.name → meth.sig.returnType = ret → meth.locks = false → Z.Warmed39 s.vm →
      Stand p l e R s m as' below meth c T [] 0 0 → T.heap = h0 → Go p e below (Dn below s Q R.cells R.slots) (T.setTop (mkF m 0 L0 []))) :
    MetFree l x (head1 (Jvm.Cond.code x code maxL ret :: ws) R) (fun a U => a = as' ∧ Z.Warmed39 U.vm ∧ U.heap = h0) (fun _ _ _ _ _ => True) (fun _ U o U' => ∃ v L, o = .returned v ∧ Q v U'.heap L ∧ FrameEnd U o U' L R.cells R.slots) := by
  refine MetFree.of_bodySF hpl hisR ?_
  intro p e s m args below meth c s₁ Bd hml0 hP hK
  obtain ⟨rfl, hZ, hh⟩ := hP
  obtain ⟨t, h1, v, L, h2, h3, h4, h5⟩ := body p e s m below meth c s₁ Bd.exec Bd.bytes hml0 (findClass_of_methodNamed Bd.named) (name_of_methodNamed Bd.named Bd.method).1 Bd.returns (BodyLoose.notSynchronized Bd) hZ (Stand.of_body Bd) (by rw [← hh, Bd.state]; rfl)
  exact ⟨t, .returned v, castTop (hef m) h1, h2, h3, v, L, rfl, h4, h5⟩
section Calls
variable {Z : State} {a0 : Array Value} {own : String} {idx : Nat} {y : MethodName} {bytes : ByteArray} {maxL W : Nat} {ret : Option FieldType} {rm : Room} {as' : Array Value} {h : Heap}
/-- a static call by the callee's contract -/
theorem own_callS (X : Stand p l e R s m args below meth c T locs cells slots) (hx : p.tables.exec = Jvm.exec) (hZ : Z.Warmed39 s.vm) (hown : s.vm.findClass own = some m.cls) (eT : T.heap = h)
    (w1 : (Jvm.Cond.methodLink own idx y).before a0 Z = true) (w2 : (Jvm.Cond.static y).before a0 Z = true) (w3 : (Jvm.Cond.initialized y.cls).before a0 Z = true) (w4 : (Jvm.Cond.code y bytes maxL ret).before a0 Z = true)
    (hM : MetFree l y (head1 [Jvm.Cond.code y bytes maxL ret] rm) (fun a U => a = as' ∧ Z.Warmed39 U.vm ∧ U.heap = h) (fun _ _ _ _ _ => True) (fun _ U o U' => ∃ v L, o = .returned v ∧ Q v U'.heap L ∧ FrameEnd U o U' L rm.cells rm.slots))
    (hy : y.cls ≠ "java/lang/invoke/MethodHandle" ∧ y.cls ≠ "java/lang/invoke/VarHandle") (hf : rm.frames + 1 ≤ R.frames) (hl : W + (maxL + 11) + rm.locals ≤ R.locals) (hc : cells + rm.cells ≤ R.cells) (hs : slots + rm.slots ≤ R.slots)
    {g : JFrame} (hg : g.method = m) (hsize : g.locals.size = c.maxLocals) {argsL rest : List Value} (hst : g.stack = argsL.reverse ++ rest) (has : argsL.toArray = as') (hlen : ∀ sig, parseMethodDescriptor y.desc = some sig → argsL.length = sig.parameters.length)
    (hW : 2 * g.monitorRoom + (rest.map fun v => v.category).sum ≤ W) (hd : decode c.code g.pc = .ok (.invokestatic idx, 3))
    (k : ∀ v T' L, Stand p l e R s m args below meth c T' (locs ++ L) (cells + rm.cells) (slots + rm.slots) → Q v T'.heap L → Go p e below K (T'.setTop { g with pc := g.pc + 3, stack := v.toList ++ rest })) : Go p e below K (T.setTop g) := by
  obtain ⟨v, _, ⟨T', L', k', n'⟩, -, X', ⟨Lc, hQ, l1, y1, z1⟩, st⟩ := Jvm.LawKit.callS X hx (y := y) hown (mvT hZ w1) (mvT hZ w2) (mvT hZ w3) (mvT hZ w4) hy (backOf (W := W) hM hZ w4 w3 hf hl) hg hsize hlen hst hW hd (fun _ _ => ⟨has, eT, hc, hs⟩)
  dsimp only [Pt.U, Pt.locs, Pt.cells, Pt.slots] at X' l1 y1 z1 st hQ
  subst l1 y1 z1
  exact go st (k _ _ _ X' hQ)
/-- a constructor by its contract -/
theorem own_callC (X : Stand p l e R s m args below meth c T locs cells slots) (hx : p.tables.exec = Jvm.exec) (hZ : Z.Warmed39 s.vm) (hown : s.vm.findClass own = some m.cls) (eT : T.heap = h)
    (w1 : (Jvm.Cond.methodLink own idx y).before a0 Z = true) (w2 : (Jvm.Cond.instanceMethod y).before a0 Z = true) (w3 : (Jvm.Cond.initialized y.cls).before a0 Z = true) (w4 : (Jvm.Cond.code y bytes maxL none).before a0 Z = true)
    (hM : MetFree l y (head1 [Jvm.Cond.code y bytes maxL none] rm) (fun a U => a = as' ∧ Z.Warmed39 U.vm ∧ U.heap = h) (fun _ _ _ _ _ => True) (fun _ U o U' => ∃ v L, o = .returned v ∧ Q v U'.heap L ∧ FrameEnd U o U' L rm.cells rm.slots))
    (hyn : y.name = "<init>") (hy : y.cls ≠ "java/lang/invoke/MethodHandle" ∧ y.cls ≠ "java/lang/invoke/VarHandle") (hf : rm.frames + 1 ≤ R.frames) (hl : W + (maxL + 11) + rm.locals ≤ R.locals) (hc : cells + rm.cells ≤ R.cells) (hs : slots + rm.slots ≤ R.slots)
    {g : JFrame} (hg : g.method = m) (hsize : g.locals.size = c.maxLocals) {a : Addr} {argsL rest : List Value} (hst : g.stack = argsL.reverse ++ .ref a :: rest) (has : (.ref a :: argsL).toArray = as') (hlen : ∀ sig, parseMethodDescriptor y.desc = some sig → argsL.length = sig.parameters.length)
    (hW : 2 * g.monitorRoom + (rest.map fun v => v.category).sum ≤ W) (hd : decode c.code g.pc = .ok (.invokespecial idx, 3))
    (k : ∀ v T' L, Stand p l e R s m args below meth c T' (locs ++ L) (cells + rm.cells) (slots + rm.slots) → Q v T'.heap L → Go p e below K (T'.setTop { g with pc := g.pc + 3, stack := v.toList ++ rest })) : Go p e below K (T.setTop g) := by
  obtain ⟨v, _, ⟨T', L', k', n'⟩, -, X', ⟨Lc, hQ, l1, y1, z1⟩, st⟩ := X.specialBack hx (y := y) hyn hown (mvT hZ w1) (mvT hZ w2) (mvT hZ w4) hy (backOf (W := W) hM hZ w4 w3 hf hl) hg hsize (Steps.refl _) (a := a) hlen hst hW hd (fun _ _ => ⟨has, eT, hc, hs⟩)
  dsimp only [Pt.U, Pt.locs, Pt.cells, Pt.slots] at X' l1 y1 z1 st hQ
  subst l1 y1 z1
  exact go (fun t q => st.trans q) (k _ _ _ X' hQ)
/-- a virtual call of a method that the receiver's class declares itself -/
theorem own_callV (X : Stand p l e R s m args below meth c T locs cells slots) (hx : p.tables.exec = Jvm.exec) (hZ : Z.Warmed39 s.vm) (hown : s.vm.findClass own = some m.cls) (eT : T.heap = h)
    (w1 : (Jvm.Cond.methodLink own idx y).before a0 Z = true) (w2 : (Jvm.Cond.declares y).before a0 Z = true) (w5 : (Jvm.Cond.instanceMethod y).before a0 Z = true) (w6 : (Jvm.Cond.selects y.cls y y).before a0 Z = true) (w3 : (Jvm.Cond.initialized y.cls).before a0 Z = true) (w4 : (Jvm.Cond.code y bytes maxL ret).before a0 Z = true)
    (hM : MetFree l y (head1 [Jvm.Cond.code y bytes maxL ret] rm) (fun a U => a = as' ∧ Z.Warmed39 U.vm ∧ U.heap = h) (fun _ _ _ _ _ => True) (fun _ U o U' => ∃ v L, o = .returned v ∧ Q v U'.heap L ∧ FrameEnd U o U' L rm.cells rm.slots))
    (hy : y.cls ≠ "java/lang/invoke/MethodHandle" ∧ y.cls ≠ "java/lang/invoke/VarHandle") (hf : rm.frames + 1 ≤ R.frames) (hl : W + (maxL + 11) + rm.locals ≤ R.locals) (hc : cells + rm.cells ≤ R.cells) (hs : slots + rm.slots ≤ R.slots)
    {a : Addr} (E : Exa Z h a y.cls) {g : JFrame} (hg : g.method = m) (hsize : g.locals.size = c.maxLocals) {argsL rest : List Value} (hst : g.stack = argsL.reverse ++ .ref a :: rest) (has : (.ref a :: argsL).toArray = as') (hlen : ∀ sig, parseMethodDescriptor y.desc = some sig → argsL.length = sig.parameters.length)
    (hW : 2 * g.monitorRoom + (rest.map fun v => v.category).sum ≤ W) (hd : decode c.code g.pc = .ok (.invokevirtual idx, 3))
    (k : ∀ v T' L, Stand p l e R s m args below meth c T' (locs ++ L) (cells + rm.cells) (slots + rm.slots) → Q v T'.heap L → Go p e below K (T'.setTop { g with pc := g.pc + 3, stack := v.toList ++ rest })) : Go p e below K (T.setTop g) := by
  obtain ⟨cq, kq, qa, qb, qc⟩ := isOf hZ eT E
  obtain ⟨v, _, ⟨T', L', k', n'⟩, -, X', ⟨Lc, hQ, l1, y1, z1⟩, st⟩ := X.virtualBack hx (y := y) (z := y) hown (mvT hZ w1) (mvT hZ w2) (notFace_of_selects (args := #[]) (mvT hZ w6)) (mvT hZ w6) (mvT hZ w5) hy (backOf (W := W) hM hZ w4 w3 hf hl) qa qc hg hsize (Steps.refl _) hlen hst hW hd (fun _ _ => ⟨has, eT, hc, hs⟩)
  dsimp only [Pt.U, Pt.locs, Pt.cells, Pt.slots] at X' l1 y1 z1 st hQ
  subst l1 y1 z1
  exact go (fun t q => st.trans q) (k _ _ _ X' hQ)
end Calls
end Own
/-- a body that writes nothing: it returns r, the heap is what it was -/
def QP (r : Option Value) (h0 : Heap) (n0 : Nat) (v : Option Value) (h : Heap) (L : List Loc) : Prop := v = r ∧ Fr n0 L ∧ h = h0

/-! ## Own: an int array by its list -/
section OwnAri
variable {p : Program} {l : Launch} {e : Env} {R : Room} {s : State} {m : MethodId} {args : Array Value} {below : List Frame} {meth : Method} {c : Code} {T : State} {locs : List Loc} {cells slots : Nat} {Z : State} {h h' : Heap} {a b : Addr} {sl : Nat} {v : Value} {ws : List Addr} {A : List Int32}
def Ari (Z : State) (h : Heap) (a : Addr) (A : List Int32) : Prop := ∃ (k : ClassId) (n : Int32), Arv Z h a k .int n (A.map Value.int) (.int (0 : Int32)) ∧ n.toNatClampNeg = A.length
theorem Ari.lt (F : Ari Z h a A) : a < h.size := by obtain ⟨k, n, V, -⟩ := F; exact V.lt
theorem Ari.ext (F : Ari Z h a A) (E : Ext h h') : Ari Z h' a A := by obtain ⟨k, n, V, q⟩ := F; exact ⟨k, n, V.ext E, q⟩
theorem Ari.other (F : Ari Z h b A) (W : Wr h h' a sl v) (q : b ≠ a) : Ari Z h' b A := by obtain ⟨k, n, V, r⟩ := F; exact ⟨k, n, V.other W q, r⟩
theorem Ari.keep (F : Ari Z h a A) (K : Keep h h' ws) (q : a ∉ ws) : Ari Z h' a A := by obtain ⟨k, n, V, r⟩ := F; exact ⟨k, n, V.keep K q, r⟩
theorem own_map_getD (A : List Int32) (i : Nat) : (A.map Value.int).getD i (.int (0 : Int32)) = .int (A.getD i 0) := by
  rw [List.getD_eq_getElem?_getD, List.getD_eq_getElem?_getD, List.getElem?_map]
  cases A[i]? <;> rfl
theorem Ari.cell (F : Ari Z h a A) : ∃ cl : Cell, Arr Z h a cl .int ∧ cl.slots.size = A.length ∧ ∀ i, i < A.length → cl.slots[i]? = some (.int (A.getD i 0)) := by
  obtain ⟨k, n, ⟨cl, Ar, -, S, -, H, -⟩, q⟩ := F
  refine ⟨cl, Ar, by rw [S, q], fun i hi => ?_⟩
  rw [← own_map_getD]
  exact H i (by rw [S, q]; exact hi)
theorem own_inb {cl : Cell} {j : Int32} (S : cl.slots.size = A.length) (h0 : ¬ j < 0) (h1 : j.toNatClampNeg < A.length) : ¬ (j < 0 ∨ cl.slots.size ≤ j.toNatClampNeg) := by
  rintro (q | q)
  · exact h0 q
  · omega
theorem own_iaload (X : Stand p l e R s m args below meth c T locs cells slots) (hx : p.tables.exec = Jvm.exec) (hZ : Z.Warmed39 s.vm) (eT : T.heap = h) (F : Ari Z h a A) {j : Int32} (h0 : ¬ j < 0) (h1 : j.toNatClampNeg < A.length)
    {g : JFrame} (hg : g.method = m) {rest : List Value} (hs : g.stack = .int j :: .ref a :: rest) (hd : decode c.code g.pc = .ok (.iaload, 1)) :
    ∀ target, Steps p.tables e below (T.setTop { g with pc := g.pc + 1, stack := .int (A.getD j.toNatClampNeg 0) :: rest }) target → Steps p.tables e below (T.setTop g) target := by
  obtain ⟨cl, Ar, S, H⟩ := F.cell
  exact X.iaload hx (j := j) (by rw [eT]; exact Ar.1) (State.isArrayOf_alike hZ.alike Ar.2.1) Ar.2.2 (own_inb S h0 h1) (H _ h1) hg hs hd
theorem own_iastore (X : Stand p l e R s m args below meth c T locs cells slots) (hx : p.tables.exec = Jvm.exec) (hZ : Z.Warmed39 s.vm) (eT : T.heap = h) (F : Ari Z h a A) {j x : Int32} (h0 : ¬ j < 0) (h1 : j.toNatClampNeg < A.length)
    {g : JFrame} (hg : g.method = m) {rest : List Value} (hs : g.stack = .int x :: .int j :: .ref a :: rest) (hd : decode c.code g.pc = .ok (.iastore, 1)) :
    ∃ T' h', Stand p l e R s m args below meth c T' (locs ++ [⟨a, j.toNatClampNeg⟩]) cells slots ∧ T'.heap = h' ∧ Wr h h' a j.toNatClampNeg (.int x) ∧ Ari Z h' a (A.set j.toNatClampNeg x) ∧ ∀ target, Steps p.tables e below (T'.setTop { g with pc := g.pc + 1, stack := rest }) target → Steps p.tables e below (T.setTop g) target := by
  obtain ⟨k, n, ⟨cl, Ar, q, S, Ng, H, G⟩, qn⟩ := F
  obtain ⟨T', h', X', e', W, st⟩ := stI X hx hZ eT Ar (j := j) (x := x) (own_inb (A := A) (by rw [S, qn]) h0 h1) hg hs hd
  refine ⟨T', h', X', e', W, ⟨k, n, ?_, by rw [List.length_set]; exact qn⟩, st⟩
  have V := Arv.set Ar q S Ng H G (v := .int x) rfl W j.toNatClampNeg rfl (by rw [List.length_map]; exact h1)
  rw [List.map_set]
  exact V
theorem own_arilen (X : Stand p l e R s m args below meth c T locs cells slots) (hx : p.tables.exec = Jvm.exec) (hZ : Z.Warmed39 s.vm) (eT : T.heap = h) (F : Ari Z h a A)
    {g : JFrame} (hg : g.method = m) {rest : List Value} (hs : g.stack = .ref a :: rest) (hd : decode c.code g.pc = .ok (.arraylength, 1)) :
    ∀ target, Steps p.tables e below (T.setTop { g with pc := g.pc + 1, stack := .int (A.length.toInt32) :: rest }) target → Steps p.tables e below (T.setTop g) target := by
  obtain ⟨cl, Ar, S, H⟩ := F.cell
  rw [← S]
  exact X.arraylength hx (by rw [eT]; exact Ar.1) (State.isArrayOf_alike hZ.alike Ar.2.1) hg hs hd
/-- a fresh int array of n places -/
theorem own_fresh {k : ClassId} {n : Int32} (V : Arr Z h a (newA k .int n) .int) (q : ¬ n < 0) {m : Nat} (hm : n.toNatClampNeg = m) : Ari Z h a (List.replicate m (0 : Int32)) := by
  refine ⟨k, n, ?_, by rw [List.length_replicate]; exact hm⟩
  rw [List.map_replicate]
  exact (Arv.new V q).pad (pad_rep [] (.int (0 : Int32)) m)
end OwnAri

def f1 (p1 : Int32) (p2 : Int32) : Int32 := (if p2 < p1 then p2 else p1)
theorem d1_0 : decode jdk_29_method_69_code 0 = .ok (.iload_n 0, 1) := by decide +kernel
theorem d1_1 : decode jdk_29_method_69_code 1 = .ok (.iload_n 1, 1) := by decide +kernel
theorem d1_2 : decode jdk_29_method_69_code 2 = .ok (.if_icmp .gt 7, 3) := by decide +kernel
theorem d1_5 : decode jdk_29_method_69_code 5 = .ok (.iload_n 0, 1) := by decide +kernel
theorem d1_6 : decode jdk_29_method_69_code 6 = .ok (.goto 4, 3) := by decide +kernel
theorem d1_9 : decode jdk_29_method_69_code 9 = .ok (.iload_n 1, 1) := by decide +kernel
theorem d1_10 : decode jdk_29_method_69_code 10 = .ok (.ireturn, 1) := by decide +kernel
theorem ef_1 (m : MethodId) (x0 : Int32) (x1 : Int32) : entryFrame m #[(.int x0), (.int x1)] 2 = mkF m 0 #[.val (.int x0), .val (.int x1)] [] := by first | (simp [entryFrame, mkF, argsToLocals, Value.category]; done) | rfl
set_option maxRecDepth 65536 in
set_option maxHeartbeats 40000000 in
theorem rm1 (l : Launch) (Z : State) (a0 : Array Value) (hw : ∀ d ∈ tables_1, d.before a0 Z = true) (ws : List Jvm.Cond) (p1 : Int32) (p2 : Int32) (h0 : Heap) (n0 : Nat) :
    MetFree l (⟨"java/lang/Math", "min", "(II)I"⟩ : MethodName) (head1 (Jvm.Cond.code (⟨"java/lang/Math", "min", "(II)I"⟩ : MethodName) jdk_29_method_69_code 2 (some .int) :: ws) ({ frames := 0, cells := 0, slots := 0, locals := 0 } : Room)) (fun a U => a = #[(.int p1), (.int p2)] ∧ Z.Warmed39 U.vm ∧ U.heap = h0) (fun _ _ _ _ _ => True) (fun _ U o U' => ∃ v L, o = .returned v ∧ (QP (some (.int (f1 p1 p2))) h0 n0) v U'.heap L ∧ FrameEnd U o U' L ({ frames := 0, cells := 0, slots := 0, locals := 0 } : Room).cells ({ frames := 0, cells := 0, slots := 0, locals := 0 } : Room).slots) := by
  refine own_met (Jvm.Free.JP.mathPlain rfl (by decide +kernel)) (fun m => ef_1 m p1 p2) ?_
  intro p e s m below meth c T0 hx hby hml hown hnm hret hlk hZ X0 e0
  have hown : s.vm.findClass "java/lang/Math" = some m.cls := hown
  have hnm : meth.name = "min" := hnm
  have hret : meth.sig.returnType = some .int := hret
  have N0 := Fr.nil n0
  show Go p e below _ (T0.setTop (mkF m 0 #[.val (.int p1), .val (.int p2)] []))
  refine go (fun _ q => XS.iloadN X0.here hx rfl (hb hby d1_0) rfl q) ?_
  show Go p e below _ (T0.setTop (mkF m 1 #[.val (.int p1), .val (.int p2)] [(.int p1)]))
  refine go (fun _ q => XS.iloadN X0.here hx rfl (hb hby d1_1) rfl q) ?_
  show Go p e below _ (T0.setTop (mkF m 2 #[.val (.int p1), .val (.int p2)] [(.int p2), (.int p1)]))
  suffices hj1 : ∀ (z3 : Int32), z3 = (if p2 < p1 then p2 else p1) → Go p e below (Dn below s ((QP (some (.int (f1 p1 p2))) h0 n0)) ({ frames := 0, cells := 0, slots := 0, locals := 0 } : Room).cells ({ frames := 0, cells := 0, slots := 0, locals := 0 } : Room).slots) (T0.setTop (mkF m 10 #[.val (.int p1), .val (.int p2)] [(.int z3)])) by
    by_cases hc2 : p2 < p1
    · refine go (fun _ q => XS.icmpYes X0.here hx rfl (pc0 := 2) (pc' := 9) rfl (hb hby d1_2) rfl (tlt hc2).2.2.1 (by decide) (by decide) q) ?_
      show Go p e below _ (T0.setTop (mkF m 9 #[.val (.int p1), .val (.int p2)] []))
      refine go (fun _ q => XS.iloadN X0.here hx rfl (hb hby d1_9) rfl q) ?_
      show Go p e below _ (T0.setTop (mkF m 10 #[.val (.int p1), .val (.int p2)] [(.int p2)]))
      exact hj1 _ (by rw [if_pos hc2])
    · refine go (fun _ q => XS.icmpNo X0.here hx rfl (hb hby d1_2) rfl (flt hc2).2.2.1 q) ?_
      show Go p e below _ (T0.setTop (mkF m 5 #[.val (.int p1), .val (.int p2)] []))
      refine go (fun _ q => XS.iloadN X0.here hx rfl (hb hby d1_5) rfl q) ?_
      show Go p e below _ (T0.setTop (mkF m 6 #[.val (.int p1), .val (.int p2)] [(.int p1)]))
      refine go (fun _ q => XS.goto X0.here hx rfl (pc0 := 6) (pc' := 10) rfl (hb hby d1_6) (by decide) (by decide) q) ?_
      show Go p e below _ (T0.setTop (mkF m 10 #[.val (.int p1), .val (.int p2)] [(.int p1)]))
      exact hj1 _ (by rw [if_neg hc2])
  intro z3 hz3
  show Go p e below _ (T0.setTop (mkF m 10 #[.val (.int p1), .val (.int p2)] [(.int z3)]))
  exact own_retI X0 hx hlk hret (hb hby d1_10) (by decide) (by decide) ⟨congrArg (fun z => some (Value.int z)) (by rw [f1, hz3]), N0, e0⟩
def own_p3 (q : Int32) : Prop := q = 0 ∨ q = 1 ∨ q = 2
theorem own_i1 {q : Int32} (h : own_p3 q) : ¬ (q + (1 : Int32)) < 0 ∧ (q + (1 : Int32)).toNatClampNeg < 4 := by rcases h with rfl | rfl | rfl <;> decide
theorem own_i0 {q : Int32} (h : own_p3 q) : ¬ q < 0 ∧ q.toNatClampNeg < 4 := by rcases h with rfl | rfl | rfl <;> decide

def QB (Z : State) (h0 : Heap) (n0 : Nat) (v : Option Value) (h : Heap) (L : List Loc) : Prop := v = some (.ref h0.size) ∧ Fr n0 L ∧ n0 ≤ h.size ∧ Keep h0 h [] ∧ Exa Z h h0.size "[I" ∧ Ari Z h h0.size ([0, 0, 0, 0, 0] : List Int32)
theorem d4_0 : decode prog_45_method_19_code 0 = .ok (.iload_n 1, 1) := by decide +kernel
theorem d4_1 : decode prog_45_method_19_code 1 = .ok (.iconst 1, 1) := by decide +kernel
theorem d4_2 : decode prog_45_method_19_code 2 = .ok (.iadd, 1) := by decide +kernel
theorem d4_3 : decode prog_45_method_19_code 3 = .ok (.newarray .int, 2) := by decide +kernel
theorem d4_5 : decode prog_45_method_19_code 5 = .ok (.astore_n 2, 1) := by decide +kernel
theorem d4_6 : decode prog_45_method_19_code 6 = .ok (.aload_n 0, 1) := by decide +kernel
theorem d4_7 : decode prog_45_method_19_code 7 = .ok (.astore_n 3, 1) := by decide +kernel
theorem d4_8 : decode prog_45_method_19_code 8 = .ok (.aload_n 3, 1) := by decide +kernel
theorem d4_9 : decode prog_45_method_19_code 9 = .ok (.arraylength, 1) := by decide +kernel
theorem d4_10 : decode prog_45_method_19_code 10 = .ok (.istore 4, 2) := by decide +kernel
theorem d4_12 : decode prog_45_method_19_code 12 = .ok (.iconst 0, 1) := by decide +kernel
theorem d4_13 : decode prog_45_method_19_code 13 = .ok (.istore 5, 2) := by decide +kernel
theorem d4_15 : decode prog_45_method_19_code 15 = .ok (.iload 5, 2) := by decide +kernel
theorem d4_17 : decode prog_45_method_19_code 17 = .ok (.iload 4, 2) := by decide +kernel
theorem d4_19 : decode prog_45_method_19_code 19 = .ok (.if_icmp .ge 25, 3) := by decide +kernel
theorem d4_44 : decode prog_45_method_19_code 44 = .ok (.iconst 0, 1) := by decide +kernel
theorem d4_45 : decode prog_45_method_19_code 45 = .ok (.istore_n 3, 1) := by decide +kernel
theorem d4_46 : decode prog_45_method_19_code 46 = .ok (.iload_n 3, 1) := by decide +kernel
theorem d4_47 : decode prog_45_method_19_code 47 = .ok (.iload_n 1, 1) := by decide +kernel
theorem d4_48 : decode prog_45_method_19_code 48 = .ok (.if_icmp .ge 20, 3) := by decide +kernel
theorem d4_51 : decode prog_45_method_19_code 51 = .ok (.aload_n 2, 1) := by decide +kernel
theorem d4_52 : decode prog_45_method_19_code 52 = .ok (.iload_n 3, 1) := by decide +kernel
theorem d4_53 : decode prog_45_method_19_code 53 = .ok (.iconst 1, 1) := by decide +kernel
theorem d4_54 : decode prog_45_method_19_code 54 = .ok (.iadd, 1) := by decide +kernel
theorem d4_55 : decode prog_45_method_19_code 55 = .ok (.dup2, 1) := by decide +kernel
theorem d4_56 : decode prog_45_method_19_code 56 = .ok (.iaload, 1) := by decide +kernel
theorem d4_57 : decode prog_45_method_19_code 57 = .ok (.aload_n 2, 1) := by decide +kernel
theorem d4_58 : decode prog_45_method_19_code 58 = .ok (.iload_n 3, 1) := by decide +kernel
theorem d4_59 : decode prog_45_method_19_code 59 = .ok (.iaload, 1) := by decide +kernel
theorem d4_60 : decode prog_45_method_19_code 60 = .ok (.iadd, 1) := by decide +kernel
theorem d4_61 : decode prog_45_method_19_code 61 = .ok (.iastore, 1) := by decide +kernel
theorem d4_62 : decode prog_45_method_19_code 62 = .ok (.iinc 3 1, 3) := by decide +kernel
theorem d4_65 : decode prog_45_method_19_code 65 = .ok (.goto (-19), 3) := by decide +kernel
theorem d4_68 : decode prog_45_method_19_code 68 = .ok (.aload_n 2, 1) := by decide +kernel
theorem d4_69 : decode prog_45_method_19_code 69 = .ok (.areturn, 1) := by decide +kernel
theorem pn_4 : plainName "com/example/junctura/junctura/conformance/OptimalPaths" = true := by first | (simp [plainName, overriddenIn]; done) | decide +kernel
theorem ef_4 (m : MethodId) (x0 : Addr) (x1 : Int32) : entryFrame m #[(.ref x0), (.int x1)] 7 = mkF m 0 #[.val (.ref x0), .val (.int x1), .unset, .unset, .unset, .unset, .unset] [] := by first | (simp [entryFrame, mkF, argsToLocals, Value.category]; done) | rfl
set_option maxRecDepth 65536 in
set_option maxHeartbeats 40000000 in
theorem rm4 (l : Launch) (Z : State) (a0 : Array Value) (hw : ∀ d ∈ tables_1, d.before a0 Z = true) (ws : List Jvm.Cond) (a1 : Addr) (h0 : Heap) (n0 : Nat) (Z0 : n0 ≤ h0.size) (F_1 : Ari Z h0 a1 ([] : List Int32)) :
    MetFree l (⟨"com/example/junctura/junctura/conformance/OptimalPaths", "countBy", "([II)[I"⟩ : MethodName) (head1 (Jvm.Cond.code (⟨"com/example/junctura/junctura/conformance/OptimalPaths", "countBy", "([II)[I"⟩ : MethodName) prog_45_method_19_code 7 (some (.array .int)) :: ws) ({ frames := 0, cells := 1, slots := 5, locals := 0 } : Room)) (fun a U => a = #[(.ref a1), (.int (4 : Int32))] ∧ Z.Warmed39 U.vm ∧ U.heap = h0) (fun _ _ _ _ _ => True) (fun _ U o U' => ∃ v L, o = .returned v ∧ (QB Z h0 n0) v U'.heap L ∧ FrameEnd U o U' L ({ frames := 0, cells := 1, slots := 5, locals := 0 } : Room).cells ({ frames := 0, cells := 1, slots := 5, locals := 0 } : Room).slots) := by
  refine own_met (plainFor_of_name pn_4) (fun m => ef_4 m a1 (4 : Int32)) ?_
  intro p e s m below meth c T0 hx hby hml hown hnm hret hlk hZ X0 e0
  have hown : s.vm.findClass "com/example/junctura/junctura/conformance/OptimalPaths" = some m.cls := hown
  have hnm : meth.name = "countBy" := hnm
  have hret : meth.sig.returnType = some (.array .int) := hret
  have N0 := Fr.nil n0
  show Go p e below _ (T0.setTop (mkF m 0 #[.val (.ref a1), .val (.int (4 : Int32)), .unset, .unset, .unset, .unset, .unset] []))
  refine go (fun _ q => XS.iloadN X0.here hx rfl (hb hby d4_0) rfl q) ?_
  show Go p e below _ (T0.setTop (mkF m 1 #[.val (.ref a1), .val (.int (4 : Int32)), .unset, .unset, .unset, .unset, .unset] [(.int (4 : Int32))]))
  refine go (fun _ q => XS.iconst X0.here hx rfl (hb hby d4_1) q) ?_
  show Go p e below _ (T0.setTop (mkF m 2 #[.val (.ref a1), .val (.int (4 : Int32)), .unset, .unset, .unset, .unset, .unset] [(.int (1 : Int32)), (.int (4 : Int32))]))
  refine go (fun _ q => XS.iadd X0.here hx rfl (hb hby d4_2) rfl q) ?_
  show Go p e below _ (T0.setTop (mkF m 3 #[.val (.ref a1), .val (.int (4 : Int32)), .unset, .unset, .unset, .unset, .unset] [(.int (5 : Int32))]))
  obtain ⟨T1, h1, k1, X1, e1, E1, A1, Ex1, st1⟩ := newPE X0 hx hZ (hw _ (List.mem_of_getElem? (i := 5) rfl)) e0 (g := (mkF m 3 #[.val (.ref a1), .val (.int (4 : Int32)), .unset, .unset, .unset, .unset, .unset] [(.int (5 : Int32))])) rfl (hb hby d4_3) rfl (by decide) (cap := 5) (by decide) (by decide) (by decide) (by decide) (ad := "[I") rfl
  obtain ⟨b1, g1⟩ : ∃ z, z = h0.size := ⟨_, rfl⟩
  rw [← g1] at A1 st1 Ex1
  refine go st1 ?_
  have ne_a1_b1 : a1 ≠ b1 := Nat.ne_of_lt (Nat.lt_of_lt_of_le F_1.lt (Nat.le_of_eq g1.symm))
  have g_b1 : n0 ≤ b1 := Nat.le_trans Z0 (Nat.le_of_eq g1.symm)
  have sz_b1 : h0.size ≤ b1 := Nat.le_trans (Keep.refl h0 []).1 (Nat.le_of_eq g1.symm)
  have Z1 : n0 ≤ h1.size := Nat.le_trans Z0 E1.1
  have P_2 : Ari Z h1 a1 ([] : List Int32) := F_1.ext E1
  have K1 : Keep h0 h1 [] := (Keep.refl h0 []).ext E1
  have P1 : Ari Z h1 b1 ([(0 : Int32), (0 : Int32), (0 : Int32), (0 : Int32), (0 : Int32)] : List Int32) := own_fresh A1 (by decide) (m := 5) rfl
  show Go p e below _ (T1.setTop (mkF m 5 #[.val (.ref a1), .val (.int (4 : Int32)), .unset, .unset, .unset, .unset, .unset] [(.ref b1)]))
  refine go (fun _ q => XS.astoreN X1.here hx rfl (hb hby d4_5) rfl rfl (l' := #[.val (.ref a1), .val (.int (4 : Int32)), .val (.ref b1), .unset, .unset, .unset, .unset]) rfl q) ?_
  show Go p e below _ (T1.setTop (mkF m 6 #[.val (.ref a1), .val (.int (4 : Int32)), .val (.ref b1), .unset, .unset, .unset, .unset] []))
  refine go (fun _ q => XS.aloadN X1.here hx rfl (hb hby d4_6) rfl rfl q) ?_
  show Go p e below _ (T1.setTop (mkF m 7 #[.val (.ref a1), .val (.int (4 : Int32)), .val (.ref b1), .unset, .unset, .unset, .unset] [(.ref a1)]))
  refine go (fun _ q => XS.astoreN X1.here hx rfl (hb hby d4_7) rfl rfl (l' := #[.val (.ref a1), .val (.int (4 : Int32)), .val (.ref b1), .val (.ref a1), .unset, .unset, .unset]) rfl q) ?_
  show Go p e below _ (T1.setTop (mkF m 8 #[.val (.ref a1), .val (.int (4 : Int32)), .val (.ref b1), .val (.ref a1), .unset, .unset, .unset] []))
  refine go (fun _ q => XS.aloadN X1.here hx rfl (hb hby d4_8) rfl rfl q) ?_
  show Go p e below _ (T1.setTop (mkF m 9 #[.val (.ref a1), .val (.int (4 : Int32)), .val (.ref b1), .val (.ref a1), .unset, .unset, .unset] [(.ref a1)]))
  refine go (own_arilen X1 hx hZ e1 P_2 (g := (mkF m 9 #[.val (.ref a1), .val (.int (4 : Int32)), .val (.ref b1), .val (.ref a1), .unset, .unset, .unset] [(.ref a1)])) rfl rfl (hb hby d4_9)) ?_
  show Go p e below _ (T1.setTop (mkF m 10 #[.val (.ref a1), .val (.int (4 : Int32)), .val (.ref b1), .val (.ref a1), .unset, .unset, .unset] [(.int (0 : Int32))]))
  refine go (fun _ q => XS.istore X1.here hx rfl (hb hby d4_10) rfl (l' := #[.val (.ref a1), .val (.int (4 : Int32)), .val (.ref b1), .val (.ref a1), .val (.int (0 : Int32)), .unset, .unset]) rfl q) ?_
  show Go p e below _ (T1.setTop (mkF m 12 #[.val (.ref a1), .val (.int (4 : Int32)), .val (.ref b1), .val (.ref a1), .val (.int (0 : Int32)), .unset, .unset] []))
  refine go (fun _ q => XS.iconst X1.here hx rfl (hb hby d4_12) q) ?_
  show Go p e below _ (T1.setTop (mkF m 13 #[.val (.ref a1), .val (.int (4 : Int32)), .val (.ref b1), .val (.ref a1), .val (.int (0 : Int32)), .unset, .unset] [(.int (0 : Int32))]))
  refine go (fun _ q => XS.istore X1.here hx rfl (hb hby d4_13) rfl (l' := #[.val (.ref a1), .val (.int (4 : Int32)), .val (.ref b1), .val (.ref a1), .val (.int (0 : Int32)), .val (.int (0 : Int32)), .unset]) rfl q) ?_
  show Go p e below _ (T1.setTop (mkF m 15 #[.val (.ref a1), .val (.int (4 : Int32)), .val (.ref b1), .val (.ref a1), .val (.int (0 : Int32)), .val (.int (0 : Int32)), .unset] []))
  refine go (fun _ q => XS.iload X1.here hx rfl (hb hby d4_15) rfl q) ?_
  show Go p e below _ (T1.setTop (mkF m 17 #[.val (.ref a1), .val (.int (4 : Int32)), .val (.ref b1), .val (.ref a1), .val (.int (0 : Int32)), .val (.int (0 : Int32)), .unset] [(.int (0 : Int32))]))
  refine go (fun _ q => XS.iload X1.here hx rfl (hb hby d4_17) rfl q) ?_
  show Go p e below _ (T1.setTop (mkF m 19 #[.val (.ref a1), .val (.int (4 : Int32)), .val (.ref b1), .val (.ref a1), .val (.int (0 : Int32)), .val (.int (0 : Int32)), .unset] [(.int (0 : Int32)), (.int (0 : Int32))]))
  refine go (fun _ q => XS.icmpYes X1.here hx rfl (pc0 := 19) (pc' := 44) rfl (hb hby d4_19) rfl (flt (by decide : ¬ ((0 : Int32) < (0 : Int32)))).2.1 (by decide) (by decide) q) ?_
  show Go p e below _ (T1.setTop (mkF m 44 #[.val (.ref a1), .val (.int (4 : Int32)), .val (.ref b1), .val (.ref a1), .val (.int (0 : Int32)), .val (.int (0 : Int32)), .unset] []))
  refine go (fun _ q => XS.iconst X1.here hx rfl (hb hby d4_44) q) ?_
  show Go p e below _ (T1.setTop (mkF m 45 #[.val (.ref a1), .val (.int (4 : Int32)), .val (.ref b1), .val (.ref a1), .val (.int (0 : Int32)), .val (.int (0 : Int32)), .unset] [(.int (0 : Int32))]))
  refine go (fun _ q => XS.istoreN X1.here hx rfl (hb hby d4_45) rfl (l' := #[.val (.ref a1), .val (.int (4 : Int32)), .val (.ref b1), .val (.int (0 : Int32)), .val (.int (0 : Int32)), .val (.int (0 : Int32)), .unset]) rfl q) ?_
  show Go p e below _ (T1.setTop (mkF m 46 #[.val (.ref a1), .val (.int (4 : Int32)), .val (.ref b1), .val (.int (0 : Int32)), .val (.int (0 : Int32)), .val (.int (0 : Int32)), .unset] []))
  refine go (fun _ q => XS.iloadN X1.here hx rfl (hb hby d4_46) rfl q) ?_
  show Go p e below _ (T1.setTop (mkF m 47 #[.val (.ref a1), .val (.int (4 : Int32)), .val (.ref b1), .val (.int (0 : Int32)), .val (.int (0 : Int32)), .val (.int (0 : Int32)), .unset] [(.int (0 : Int32))]))
  refine go (fun _ q => XS.iloadN X1.here hx rfl (hb hby d4_47) rfl q) ?_
  show Go p e below _ (T1.setTop (mkF m 48 #[.val (.ref a1), .val (.int (4 : Int32)), .val (.ref b1), .val (.int (0 : Int32)), .val (.int (0 : Int32)), .val (.int (0 : Int32)), .unset] [(.int (4 : Int32)), (.int (0 : Int32))]))
  refine go (fun _ q => XS.icmpNo X1.here hx rfl (hb hby d4_48) rfl (tlt (by decide : (0 : Int32) < (4 : Int32))).2.1 q) ?_
  show Go p e below _ (T1.setTop (mkF m 51 #[.val (.ref a1), .val (.int (4 : Int32)), .val (.ref b1), .val (.int (0 : Int32)), .val (.int (0 : Int32)), .val (.int (0 : Int32)), .unset] []))
  refine go (fun _ q => XS.aloadN X1.here hx rfl (hb hby d4_51) rfl rfl q) ?_
  show Go p e below _ (T1.setTop (mkF m 52 #[.val (.ref a1), .val (.int (4 : Int32)), .val (.ref b1), .val (.int (0 : Int32)), .val (.int (0 : Int32)), .val (.int (0 : Int32)), .unset] [(.ref b1)]))
  refine go (fun _ q => XS.iloadN X1.here hx rfl (hb hby d4_52) rfl q) ?_
  show Go p e below _ (T1.setTop (mkF m 53 #[.val (.ref a1), .val (.int (4 : Int32)), .val (.ref b1), .val (.int (0 : Int32)), .val (.int (0 : Int32)), .val (.int (0 : Int32)), .unset] [(.int (0 : Int32)), (.ref b1)]))
  refine go (fun _ q => XS.iconst X1.here hx rfl (hb hby d4_53) q) ?_
  show Go p e below _ (T1.setTop (mkF m 54 #[.val (.ref a1), .val (.int (4 : Int32)), .val (.ref b1), .val (.int (0 : Int32)), .val (.int (0 : Int32)), .val (.int (0 : Int32)), .unset] [(.int (1 : Int32)), (.int (0 : Int32)), (.ref b1)]))
  refine go (fun _ q => XS.iadd X1.here hx rfl (hb hby d4_54) rfl q) ?_
  show Go p e below _ (T1.setTop (mkF m 55 #[.val (.ref a1), .val (.int (4 : Int32)), .val (.ref b1), .val (.int (0 : Int32)), .val (.int (0 : Int32)), .val (.int (0 : Int32)), .unset] [(.int (1 : Int32)), (.ref b1)]))
  refine go (S' := T1.setTop (mkF m 56 #[.val (.ref a1), .val (.int (4 : Int32)), .val (.ref b1), .val (.int (0 : Int32)), .val (.int (0 : Int32)), .val (.int (0 : Int32)), .unset] [(.int (1 : Int32)), (.ref b1), (.int (1 : Int32)), (.ref b1)])) (fun _ q => by jvm_step X1.here [X1.here.top, hx, (hb hby d4_55), Value.category]; exact q) ?_
  show Go p e below _ (T1.setTop (mkF m 56 #[.val (.ref a1), .val (.int (4 : Int32)), .val (.ref b1), .val (.int (0 : Int32)), .val (.int (0 : Int32)), .val (.int (0 : Int32)), .unset] [(.int (1 : Int32)), (.ref b1), (.int (1 : Int32)), (.ref b1)]))
  refine go (own_iaload X1 hx hZ e1 P1 (j := (1 : Int32)) (by decide) (Nat.le_of_ble_eq_true rfl) (g := (mkF m 56 #[.val (.ref a1), .val (.int (4 : Int32)), .val (.ref b1), .val (.int (0 : Int32)), .val (.int (0 : Int32)), .val (.int (0 : Int32)), .unset] [(.int (1 : Int32)), (.ref b1), (.int (1 : Int32)), (.ref b1)])) rfl rfl (hb hby d4_56)) ?_
  show Go p e below _ (T1.setTop (mkF m 57 #[.val (.ref a1), .val (.int (4 : Int32)), .val (.ref b1), .val (.int (0 : Int32)), .val (.int (0 : Int32)), .val (.int (0 : Int32)), .unset] [(.int (0 : Int32)), (.int (1 : Int32)), (.ref b1)]))
  refine go (fun _ q => XS.aloadN X1.here hx rfl (hb hby d4_57) rfl rfl q) ?_
  show Go p e below _ (T1.setTop (mkF m 58 #[.val (.ref a1), .val (.int (4 : Int32)), .val (.ref b1), .val (.int (0 : Int32)), .val (.int (0 : Int32)), .val (.int (0 : Int32)), .unset] [(.ref b1), (.int (0 : Int32)), (.int (1 : Int32)), (.ref b1)]))
  refine go (fun _ q => XS.iloadN X1.here hx rfl (hb hby d4_58) rfl q) ?_
  show Go p e below _ (T1.setTop (mkF m 59 #[.val (.ref a1), .val (.int (4 : Int32)), .val (.ref b1), .val (.int (0 : Int32)), .val (.int (0 : Int32)), .val (.int (0 : Int32)), .unset] [(.int (0 : Int32)), (.ref b1), (.int (0 : Int32)), (.int (1 : Int32)), (.ref b1)]))
  refine go (own_iaload X1 hx hZ e1 P1 (j := (0 : Int32)) (by decide) (Nat.le_of_ble_eq_true rfl) (g := (mkF m 59 #[.val (.ref a1), .val (.int (4 : Int32)), .val (.ref b1), .val (.int (0 : Int32)), .val (.int (0 : Int32)), .val (.int (0 : Int32)), .unset] [(.int (0 : Int32)), (.ref b1), (.int (0 : Int32)), (.int (1 : Int32)), (.ref b1)])) rfl rfl (hb hby d4_59)) ?_
  show Go p e below _ (T1.setTop (mkF m 60 #[.val (.ref a1), .val (.int (4 : Int32)), .val (.ref b1), .val (.int (0 : Int32)), .val (.int (0 : Int32)), .val (.int (0 : Int32)), .unset] [(.int (0 : Int32)), (.int (0 : Int32)), (.int (1 : Int32)), (.ref b1)]))
  refine go (fun _ q => XS.iadd X1.here hx rfl (hb hby d4_60) rfl q) ?_
  show Go p e below _ (T1.setTop (mkF m 61 #[.val (.ref a1), .val (.int (4 : Int32)), .val (.ref b1), .val (.int (0 : Int32)), .val (.int (0 : Int32)), .val (.int (0 : Int32)), .unset] [(.int (0 : Int32)), (.int (1 : Int32)), (.ref b1)]))
  obtain ⟨T3, h3, X3, e3, W3, V3, st3⟩ := own_iastore X1 hx hZ e1 P1 (j := (1 : Int32)) (x := (0 : Int32)) (by decide) (Nat.le_of_ble_eq_true rfl) (g := (mkF m 61 #[.val (.ref a1), .val (.int (4 : Int32)), .val (.ref b1), .val (.int (0 : Int32)), .val (.int (0 : Int32)), .val (.int (0 : Int32)), .unset] [(.int (0 : Int32)), (.int (1 : Int32)), (.ref b1)])) rfl rfl (hb hby d4_61)
  refine go st3 ?_
  have P3 : Ari Z h3 b1 ([(0 : Int32), (0 : Int32), (0 : Int32), (0 : Int32), (0 : Int32)] : List Int32) := V3
  have P_4 : Ari Z h3 a1 ([] : List Int32) := P_2.other W3 ne_a1_b1
  have E_b1_5 : Exa Z h3 b1 "[I" := Ex1.wr W3
  have N3 := Fr.snoc X3 N0 g_b1
  have K3 : Keep h0 h3 [] := K1.wr W3 (Or.inr sz_b1)
  have Z3 : n0 ≤ h3.size := Nat.le_trans Z1 (Nat.le_of_eq W3.size.symm)
  show Go p e below _ (T3.setTop (mkF m 62 #[.val (.ref a1), .val (.int (4 : Int32)), .val (.ref b1), .val (.int (0 : Int32)), .val (.int (0 : Int32)), .val (.int (0 : Int32)), .unset] []))
  refine go (fun _ q => XS.iinc X3.here hx rfl (hb hby d4_62) rfl (l' := #[.val (.ref a1), .val (.int (4 : Int32)), .val (.ref b1), .val (.int (1 : Int32)), .val (.int (0 : Int32)), .val (.int (0 : Int32)), .unset]) rfl q) ?_
  show Go p e below _ (T3.setTop (mkF m 65 #[.val (.ref a1), .val (.int (4 : Int32)), .val (.ref b1), .val (.int (1 : Int32)), .val (.int (0 : Int32)), .val (.int (0 : Int32)), .unset] []))
  refine go (fun _ q => XS.goto X3.here hx rfl (pc0 := 65) (pc' := 46) rfl (hb hby d4_65) (by decide) (by decide) q) ?_
  show Go p e below _ (T3.setTop (mkF m 46 #[.val (.ref a1), .val (.int (4 : Int32)), .val (.ref b1), .val (.int (1 : Int32)), .val (.int (0 : Int32)), .val (.int (0 : Int32)), .unset] []))
  refine go (fun _ q => XS.iloadN X3.here hx rfl (hb hby d4_46) rfl q) ?_
  show Go p e below _ (T3.setTop (mkF m 47 #[.val (.ref a1), .val (.int (4 : Int32)), .val (.ref b1), .val (.int (1 : Int32)), .val (.int (0 : Int32)), .val (.int (0 : Int32)), .unset] [(.int (1 : Int32))]))
  refine go (fun _ q => XS.iloadN X3.here hx rfl (hb hby d4_47) rfl q) ?_
  show Go p e below _ (T3.setTop (mkF m 48 #[.val (.ref a1), .val (.int (4 : Int32)), .val (.ref b1), .val (.int (1 : Int32)), .val (.int (0 : Int32)), .val (.int (0 : Int32)), .unset] [(.int (4 : Int32)), (.int (1 : Int32))]))
  refine go (fun _ q => XS.icmpNo X3.here hx rfl (hb hby d4_48) rfl (tlt (by decide : (1 : Int32) < (4 : Int32))).2.1 q) ?_
  show Go p e below _ (T3.setTop (mkF m 51 #[.val (.ref a1), .val (.int (4 : Int32)), .val (.ref b1), .val (.int (1 : Int32)), .val (.int (0 : Int32)), .val (.int (0 : Int32)), .unset] []))
  refine go (fun _ q => XS.aloadN X3.here hx rfl (hb hby d4_51) rfl rfl q) ?_
  show Go p e below _ (T3.setTop (mkF m 52 #[.val (.ref a1), .val (.int (4 : Int32)), .val (.ref b1), .val (.int (1 : Int32)), .val (.int (0 : Int32)), .val (.int (0 : Int32)), .unset] [(.ref b1)]))
  refine go (fun _ q => XS.iloadN X3.here hx rfl (hb hby d4_52) rfl q) ?_
  show Go p e below _ (T3.setTop (mkF m 53 #[.val (.ref a1), .val (.int (4 : Int32)), .val (.ref b1), .val (.int (1 : Int32)), .val (.int (0 : Int32)), .val (.int (0 : Int32)), .unset] [(.int (1 : Int32)), (.ref b1)]))
  refine go (fun _ q => XS.iconst X3.here hx rfl (hb hby d4_53) q) ?_
  show Go p e below _ (T3.setTop (mkF m 54 #[.val (.ref a1), .val (.int (4 : Int32)), .val (.ref b1), .val (.int (1 : Int32)), .val (.int (0 : Int32)), .val (.int (0 : Int32)), .unset] [(.int (1 : Int32)), (.int (1 : Int32)), (.ref b1)]))
  refine go (fun _ q => XS.iadd X3.here hx rfl (hb hby d4_54) rfl q) ?_
  show Go p e below _ (T3.setTop (mkF m 55 #[.val (.ref a1), .val (.int (4 : Int32)), .val (.ref b1), .val (.int (1 : Int32)), .val (.int (0 : Int32)), .val (.int (0 : Int32)), .unset] [(.int (2 : Int32)), (.ref b1)]))
  refine go (S' := T3.setTop (mkF m 56 #[.val (.ref a1), .val (.int (4 : Int32)), .val (.ref b1), .val (.int (1 : Int32)), .val (.int (0 : Int32)), .val (.int (0 : Int32)), .unset] [(.int (2 : Int32)), (.ref b1), (.int (2 : Int32)), (.ref b1)])) (fun _ q => by jvm_step X3.here [X3.here.top, hx, (hb hby d4_55), Value.category]; exact q) ?_
  show Go p e below _ (T3.setTop (mkF m 56 #[.val (.ref a1), .val (.int (4 : Int32)), .val (.ref b1), .val (.int (1 : Int32)), .val (.int (0 : Int32)), .val (.int (0 : Int32)), .unset] [(.int (2 : Int32)), (.ref b1), (.int (2 : Int32)), (.ref b1)]))
  refine go (own_iaload X3 hx hZ e3 P3 (j := (2 : Int32)) (by decide) (Nat.le_of_ble_eq_true rfl) (g := (mkF m 56 #[.val (.ref a1), .val (.int (4 : Int32)), .val (.ref b1), .val (.int (1 : Int32)), .val (.int (0 : Int32)), .val (.int (0 : Int32)), .unset] [(.int (2 : Int32)), (.ref b1), (.int (2 : Int32)), (.ref b1)])) rfl rfl (hb hby d4_56)) ?_
  show Go p e below _ (T3.setTop (mkF m 57 #[.val (.ref a1), .val (.int (4 : Int32)), .val (.ref b1), .val (.int (1 : Int32)), .val (.int (0 : Int32)), .val (.int (0 : Int32)), .unset] [(.int (0 : Int32)), (.int (2 : Int32)), (.ref b1)]))
  refine go (fun _ q => XS.aloadN X3.here hx rfl (hb hby d4_57) rfl rfl q) ?_
  show Go p e below _ (T3.setTop (mkF m 58 #[.val (.ref a1), .val (.int (4 : Int32)), .val (.ref b1), .val (.int (1 : Int32)), .val (.int (0 : Int32)), .val (.int (0 : Int32)), .unset] [(.ref b1), (.int (0 : Int32)), (.int (2 : Int32)), (.ref b1)]))
  refine go (fun _ q => XS.iloadN X3.here hx rfl (hb hby d4_58) rfl q) ?_
  show Go p e below _ (T3.setTop (mkF m 59 #[.val (.ref a1), .val (.int (4 : Int32)), .val (.ref b1), .val (.int (1 : Int32)), .val (.int (0 : Int32)), .val (.int (0 : Int32)), .unset] [(.int (1 : Int32)), (.ref b1), (.int (0 : Int32)), (.int (2 : Int32)), (.ref b1)]))
  refine go (own_iaload X3 hx hZ e3 P3 (j := (1 : Int32)) (by decide) (Nat.le_of_ble_eq_true rfl) (g := (mkF m 59 #[.val (.ref a1), .val (.int (4 : Int32)), .val (.ref b1), .val (.int (1 : Int32)), .val (.int (0 : Int32)), .val (.int (0 : Int32)), .unset] [(.int (1 : Int32)), (.ref b1), (.int (0 : Int32)), (.int (2 : Int32)), (.ref b1)])) rfl rfl (hb hby d4_59)) ?_
  show Go p e below _ (T3.setTop (mkF m 60 #[.val (.ref a1), .val (.int (4 : Int32)), .val (.ref b1), .val (.int (1 : Int32)), .val (.int (0 : Int32)), .val (.int (0 : Int32)), .unset] [(.int (0 : Int32)), (.int (0 : Int32)), (.int (2 : Int32)), (.ref b1)]))
  refine go (fun _ q => XS.iadd X3.here hx rfl (hb hby d4_60) rfl q) ?_
  show Go p e below _ (T3.setTop (mkF m 61 #[.val (.ref a1), .val (.int (4 : Int32)), .val (.ref b1), .val (.int (1 : Int32)), .val (.int (0 : Int32)), .val (.int (0 : Int32)), .unset] [(.int (0 : Int32)), (.int (2 : Int32)), (.ref b1)]))
  obtain ⟨T6, h6, X6, e6, W6, V6, st6⟩ := own_iastore X3 hx hZ e3 P3 (j := (2 : Int32)) (x := (0 : Int32)) (by decide) (Nat.le_of_ble_eq_true rfl) (g := (mkF m 61 #[.val (.ref a1), .val (.int (4 : Int32)), .val (.ref b1), .val (.int (1 : Int32)), .val (.int (0 : Int32)), .val (.int (0 : Int32)), .unset] [(.int (0 : Int32)), (.int (2 : Int32)), (.ref b1)])) rfl rfl (hb hby d4_61)
  refine go st6 ?_
  have P6 : Ari Z h6 b1 ([(0 : Int32), (0 : Int32), (0 : Int32), (0 : Int32), (0 : Int32)] : List Int32) := V6
  have P_7 : Ari Z h6 a1 ([] : List Int32) := P_4.other W6 ne_a1_b1
  have E_b1_8 : Exa Z h6 b1 "[I" := E_b1_5.wr W6
  have N6 := Fr.snoc X6 N3 g_b1
  have K6 : Keep h0 h6 [] := K3.wr W6 (Or.inr sz_b1)
  have Z6 : n0 ≤ h6.size := Nat.le_trans Z3 (Nat.le_of_eq W6.size.symm)
  show Go p e below _ (T6.setTop (mkF m 62 #[.val (.ref a1), .val (.int (4 : Int32)), .val (.ref b1), .val (.int (1 : Int32)), .val (.int (0 : Int32)), .val (.int (0 : Int32)), .unset] []))
  refine go (fun _ q => XS.iinc X6.here hx rfl (hb hby d4_62) rfl (l' := #[.val (.ref a1), .val (.int (4 : Int32)), .val (.ref b1), .val (.int (2 : Int32)), .val (.int (0 : Int32)), .val (.int (0 : Int32)), .unset]) rfl q) ?_
  show Go p e below _ (T6.setTop (mkF m 65 #[.val (.ref a1), .val (.int (4 : Int32)), .val (.ref b1), .val (.int (2 : Int32)), .val (.int (0 : Int32)), .val (.int (0 : Int32)), .unset] []))
  refine go (fun _ q => XS.goto X6.here hx rfl (pc0 := 65) (pc' := 46) rfl (hb hby d4_65) (by decide) (by decide) q) ?_
  show Go p e below _ (T6.setTop (mkF m 46 #[.val (.ref a1), .val (.int (4 : Int32)), .val (.ref b1), .val (.int (2 : Int32)), .val (.int (0 : Int32)), .val (.int (0 : Int32)), .unset] []))
  refine go (fun _ q => XS.iloadN X6.here hx rfl (hb hby d4_46) rfl q) ?_
  show Go p e below _ (T6.setTop (mkF m 47 #[.val (.ref a1), .val (.int (4 : Int32)), .val (.ref b1), .val (.int (2 : Int32)), .val (.int (0 : Int32)), .val (.int (0 : Int32)), .unset] [(.int (2 : Int32))]))
  refine go (fun _ q => XS.iloadN X6.here hx rfl (hb hby d4_47) rfl q) ?_
  show Go p e below _ (T6.setTop (mkF m 48 #[.val (.ref a1), .val (.int (4 : Int32)), .val (.ref b1), .val (.int (2 : Int32)), .val (.int (0 : Int32)), .val (.int (0 : Int32)), .unset] [(.int (4 : Int32)), (.int (2 : Int32))]))
  refine go (fun _ q => XS.icmpNo X6.here hx rfl (hb hby d4_48) rfl (tlt (by decide : (2 : Int32) < (4 : Int32))).2.1 q) ?_
  show Go p e below _ (T6.setTop (mkF m 51 #[.val (.ref a1), .val (.int (4 : Int32)), .val (.ref b1), .val (.int (2 : Int32)), .val (.int (0 : Int32)), .val (.int (0 : Int32)), .unset] []))
  refine go (fun _ q => XS.aloadN X6.here hx rfl (hb hby d4_51) rfl rfl q) ?_
  show Go p e below _ (T6.setTop (mkF m 52 #[.val (.ref a1), .val (.int (4 : Int32)), .val (.ref b1), .val (.int (2 : Int32)), .val (.int (0 : Int32)), .val (.int (0 : Int32)), .unset] [(.ref b1)]))
  refine go (fun _ q => XS.iloadN X6.here hx rfl (hb hby d4_52) rfl q) ?_
  show Go p e below _ (T6.setTop (mkF m 53 #[.val (.ref a1), .val (.int (4 : Int32)), .val (.ref b1), .val (.int (2 : Int32)), .val (.int (0 : Int32)), .val (.int (0 : Int32)), .unset] [(.int (2 : Int32)), (.ref b1)]))
  refine go (fun _ q => XS.iconst X6.here hx rfl (hb hby d4_53) q) ?_
  show Go p e below _ (T6.setTop (mkF m 54 #[.val (.ref a1), .val (.int (4 : Int32)), .val (.ref b1), .val (.int (2 : Int32)), .val (.int (0 : Int32)), .val (.int (0 : Int32)), .unset] [(.int (1 : Int32)), (.int (2 : Int32)), (.ref b1)]))
  refine go (fun _ q => XS.iadd X6.here hx rfl (hb hby d4_54) rfl q) ?_
  show Go p e below _ (T6.setTop (mkF m 55 #[.val (.ref a1), .val (.int (4 : Int32)), .val (.ref b1), .val (.int (2 : Int32)), .val (.int (0 : Int32)), .val (.int (0 : Int32)), .unset] [(.int (3 : Int32)), (.ref b1)]))
  refine go (S' := T6.setTop (mkF m 56 #[.val (.ref a1), .val (.int (4 : Int32)), .val (.ref b1), .val (.int (2 : Int32)), .val (.int (0 : Int32)), .val (.int (0 : Int32)), .unset] [(.int (3 : Int32)), (.ref b1), (.int (3 : Int32)), (.ref b1)])) (fun _ q => by jvm_step X6.here [X6.here.top, hx, (hb hby d4_55), Value.category]; exact q) ?_
  show Go p e below _ (T6.setTop (mkF m 56 #[.val (.ref a1), .val (.int (4 : Int32)), .val (.ref b1), .val (.int (2 : Int32)), .val (.int (0 : Int32)), .val (.int (0 : Int32)), .unset] [(.int (3 : Int32)), (.ref b1), (.int (3 : Int32)), (.ref b1)]))
  refine go (own_iaload X6 hx hZ e6 P6 (j := (3 : Int32)) (by decide) (Nat.le_of_ble_eq_true rfl) (g := (mkF m 56 #[.val (.ref a1), .val (.int (4 : Int32)), .val (.ref b1), .val (.int (2 : Int32)), .val (.int (0 : Int32)), .val (.int (0 : Int32)), .unset] [(.int (3 : Int32)), (.ref b1), (.int (3 : Int32)), (.ref b1)])) rfl rfl (hb hby d4_56)) ?_
  show Go p e below _ (T6.setTop (mkF m 57 #[.val (.ref a1), .val (.int (4 : Int32)), .val (.ref b1), .val (.int (2 : Int32)), .val (.int (0 : Int32)), .val (.int (0 : Int32)), .unset] [(.int (0 : Int32)), (.int (3 : Int32)), (.ref b1)]))
  refine go (fun _ q => XS.aloadN X6.here hx rfl (hb hby d4_57) rfl rfl q) ?_
  show Go p e below _ (T6.setTop (mkF m 58 #[.val (.ref a1), .val (.int (4 : Int32)), .val (.ref b1), .val (.int (2 : Int32)), .val (.int (0 : Int32)), .val (.int (0 : Int32)), .unset] [(.ref b1), (.int (0 : Int32)), (.int (3 : Int32)), (.ref b1)]))
  refine go (fun _ q => XS.iloadN X6.here hx rfl (hb hby d4_58) rfl q) ?_
  show Go p e below _ (T6.setTop (mkF m 59 #[.val (.ref a1), .val (.int (4 : Int32)), .val (.ref b1), .val (.int (2 : Int32)), .val (.int (0 : Int32)), .val (.int (0 : Int32)), .unset] [(.int (2 : Int32)), (.ref b1), (.int (0 : Int32)), (.int (3 : Int32)), (.ref b1)]))
  refine go (own_iaload X6 hx hZ e6 P6 (j := (2 : Int32)) (by decide) (Nat.le_of_ble_eq_true rfl) (g := (mkF m 59 #[.val (.ref a1), .val (.int (4 : Int32)), .val (.ref b1), .val (.int (2 : Int32)), .val (.int (0 : Int32)), .val (.int (0 : Int32)), .unset] [(.int (2 : Int32)), (.ref b1), (.int (0 : Int32)), (.int (3 : Int32)), (.ref b1)])) rfl rfl (hb hby d4_59)) ?_
  show Go p e below _ (T6.setTop (mkF m 60 #[.val (.ref a1), .val (.int (4 : Int32)), .val (.ref b1), .val (.int (2 : Int32)), .val (.int (0 : Int32)), .val (.int (0 : Int32)), .unset] [(.int (0 : Int32)), (.int (0 : Int32)), (.int (3 : Int32)), (.ref b1)]))
  refine go (fun _ q => XS.iadd X6.here hx rfl (hb hby d4_60) rfl q) ?_
  show Go p e below _ (T6.setTop (mkF m 61 #[.val (.ref a1), .val (.int (4 : Int32)), .val (.ref b1), .val (.int (2 : Int32)), .val (.int (0 : Int32)), .val (.int (0 : Int32)), .unset] [(.int (0 : Int32)), (.int (3 : Int32)), (.ref b1)]))
  obtain ⟨T9, h9, X9, e9, W9, V9, st9⟩ := own_iastore X6 hx hZ e6 P6 (j := (3 : Int32)) (x := (0 : Int32)) (by decide) (Nat.le_of_ble_eq_true rfl) (g := (mkF m 61 #[.val (.ref a1), .val (.int (4 : Int32)), .val (.ref b1), .val (.int (2 : Int32)), .val (.int (0 : Int32)), .val (.int (0 : Int32)), .unset] [(.int (0 : Int32)), (.int (3 : Int32)), (.ref b1)])) rfl rfl (hb hby d4_61)
  refine go st9 ?_
  have P9 : Ari Z h9 b1 ([(0 : Int32), (0 : Int32), (0 : Int32), (0 : Int32), (0 : Int32)] : List Int32) := V9
  have P_10 : Ari Z h9 a1 ([] : List Int32) := P_7.other W9 ne_a1_b1
  have E_b1_11 : Exa Z h9 b1 "[I" := E_b1_8.wr W9
  have N9 := Fr.snoc X9 N6 g_b1
  have K9 : Keep h0 h9 [] := K6.wr W9 (Or.inr sz_b1)
  have Z9 : n0 ≤ h9.size := Nat.le_trans Z6 (Nat.le_of_eq W9.size.symm)
  show Go p e below _ (T9.setTop (mkF m 62 #[.val (.ref a1), .val (.int (4 : Int32)), .val (.ref b1), .val (.int (2 : Int32)), .val (.int (0 : Int32)), .val (.int (0 : Int32)), .unset] []))
  refine go (fun _ q => XS.iinc X9.here hx rfl (hb hby d4_62) rfl (l' := #[.val (.ref a1), .val (.int (4 : Int32)), .val (.ref b1), .val (.int (3 : Int32)), .val (.int (0 : Int32)), .val (.int (0 : Int32)), .unset]) rfl q) ?_
  show Go p e below _ (T9.setTop (mkF m 65 #[.val (.ref a1), .val (.int (4 : Int32)), .val (.ref b1), .val (.int (3 : Int32)), .val (.int (0 : Int32)), .val (.int (0 : Int32)), .unset] []))
  refine go (fun _ q => XS.goto X9.here hx rfl (pc0 := 65) (pc' := 46) rfl (hb hby d4_65) (by decide) (by decide) q) ?_
  show Go p e below _ (T9.setTop (mkF m 46 #[.val (.ref a1), .val (.int (4 : Int32)), .val (.ref b1), .val (.int (3 : Int32)), .val (.int (0 : Int32)), .val (.int (0 : Int32)), .unset] []))
  refine go (fun _ q => XS.iloadN X9.here hx rfl (hb hby d4_46) rfl q) ?_
  show Go p e below _ (T9.setTop (mkF m 47 #[.val (.ref a1), .val (.int (4 : Int32)), .val (.ref b1), .val (.int (3 : Int32)), .val (.int (0 : Int32)), .val (.int (0 : Int32)), .unset] [(.int (3 : Int32))]))
  refine go (fun _ q => XS.iloadN X9.here hx rfl (hb hby d4_47) rfl q) ?_
  show Go p e below _ (T9.setTop (mkF m 48 #[.val (.ref a1), .val (.int (4 : Int32)), .val (.ref b1), .val (.int (3 : Int32)), .val (.int (0 : Int32)), .val (.int (0 : Int32)), .unset] [(.int (4 : Int32)), (.int (3 : Int32))]))
  refine go (fun _ q => XS.icmpNo X9.here hx rfl (hb hby d4_48) rfl (tlt (by decide : (3 : Int32) < (4 : Int32))).2.1 q) ?_
  show Go p e below _ (T9.setTop (mkF m 51 #[.val (.ref a1), .val (.int (4 : Int32)), .val (.ref b1), .val (.int (3 : Int32)), .val (.int (0 : Int32)), .val (.int (0 : Int32)), .unset] []))
  refine go (fun _ q => XS.aloadN X9.here hx rfl (hb hby d4_51) rfl rfl q) ?_
  show Go p e below _ (T9.setTop (mkF m 52 #[.val (.ref a1), .val (.int (4 : Int32)), .val (.ref b1), .val (.int (3 : Int32)), .val (.int (0 : Int32)), .val (.int (0 : Int32)), .unset] [(.ref b1)]))
  refine go (fun _ q => XS.iloadN X9.here hx rfl (hb hby d4_52) rfl q) ?_
  show Go p e below _ (T9.setTop (mkF m 53 #[.val (.ref a1), .val (.int (4 : Int32)), .val (.ref b1), .val (.int (3 : Int32)), .val (.int (0 : Int32)), .val (.int (0 : Int32)), .unset] [(.int (3 : Int32)), (.ref b1)]))
  refine go (fun _ q => XS.iconst X9.here hx rfl (hb hby d4_53) q) ?_
  show Go p e below _ (T9.setTop (mkF m 54 #[.val (.ref a1), .val (.int (4 : Int32)), .val (.ref b1), .val (.int (3 : Int32)), .val (.int (0 : Int32)), .val (.int (0 : Int32)), .unset] [(.int (1 : Int32)), (.int (3 : Int32)), (.ref b1)]))
  refine go (fun _ q => XS.iadd X9.here hx rfl (hb hby d4_54) rfl q) ?_
  show Go p e below _ (T9.setTop (mkF m 55 #[.val (.ref a1), .val (.int (4 : Int32)), .val (.ref b1), .val (.int (3 : Int32)), .val (.int (0 : Int32)), .val (.int (0 : Int32)), .unset] [(.int (4 : Int32)), (.ref b1)]))
  refine go (S' := T9.setTop (mkF m 56 #[.val (.ref a1), .val (.int (4 : Int32)), .val (.ref b1), .val (.int (3 : Int32)), .val (.int (0 : Int32)), .val (.int (0 : Int32)), .unset] [(.int (4 : Int32)), (.ref b1), (.int (4 : Int32)), (.ref b1)])) (fun _ q => by jvm_step X9.here [X9.here.top, hx, (hb hby d4_55), Value.category]; exact q) ?_
  show Go p e below _ (T9.setTop (mkF m 56 #[.val (.ref a1), .val (.int (4 : Int32)), .val (.ref b1), .val (.int (3 : Int32)), .val (.int (0 : Int32)), .val (.int (0 : Int32)), .unset] [(.int (4 : Int32)), (.ref b1), (.int (4 : Int32)), (.ref b1)]))
  refine go (own_iaload X9 hx hZ e9 P9 (j := (4 : Int32)) (by decide) (Nat.le_of_ble_eq_true rfl) (g := (mkF m 56 #[.val (.ref a1), .val (.int (4 : Int32)), .val (.ref b1), .val (.int (3 : Int32)), .val (.int (0 : Int32)), .val (.int (0 : Int32)), .unset] [(.int (4 : Int32)), (.ref b1), (.int (4 : Int32)), (.ref b1)])) rfl rfl (hb hby d4_56)) ?_
  show Go p e below _ (T9.setTop (mkF m 57 #[.val (.ref a1), .val (.int (4 : Int32)), .val (.ref b1), .val (.int (3 : Int32)), .val (.int (0 : Int32)), .val (.int (0 : Int32)), .unset] [(.int (0 : Int32)), (.int (4 : Int32)), (.ref b1)]))
  refine go (fun _ q => XS.aloadN X9.here hx rfl (hb hby d4_57) rfl rfl q) ?_
  show Go p e below _ (T9.setTop (mkF m 58 #[.val (.ref a1), .val (.int (4 : Int32)), .val (.ref b1), .val (.int (3 : Int32)), .val (.int (0 : Int32)), .val (.int (0 : Int32)), .unset] [(.ref b1), (.int (0 : Int32)), (.int (4 : Int32)), (.ref b1)]))
  refine go (fun _ q => XS.iloadN X9.here hx rfl (hb hby d4_58) rfl q) ?_
  show Go p e below _ (T9.setTop (mkF m 59 #[.val (.ref a1), .val (.int (4 : Int32)), .val (.ref b1), .val (.int (3 : Int32)), .val (.int (0 : Int32)), .val (.int (0 : Int32)), .unset] [(.int (3 : Int32)), (.ref b1), (.int (0 : Int32)), (.int (4 : Int32)), (.ref b1)]))
  refine go (own_iaload X9 hx hZ e9 P9 (j := (3 : Int32)) (by decide) (Nat.le_of_ble_eq_true rfl) (g := (mkF m 59 #[.val (.ref a1), .val (.int (4 : Int32)), .val (.ref b1), .val (.int (3 : Int32)), .val (.int (0 : Int32)), .val (.int (0 : Int32)), .unset] [(.int (3 : Int32)), (.ref b1), (.int (0 : Int32)), (.int (4 : Int32)), (.ref b1)])) rfl rfl (hb hby d4_59)) ?_
  show Go p e below _ (T9.setTop (mkF m 60 #[.val (.ref a1), .val (.int (4 : Int32)), .val (.ref b1), .val (.int (3 : Int32)), .val (.int (0 : Int32)), .val (.int (0 : Int32)), .unset] [(.int (0 : Int32)), (.int (0 : Int32)), (.int (4 : Int32)), (.ref b1)]))
  refine go (fun _ q => XS.iadd X9.here hx rfl (hb hby d4_60) rfl q) ?_
  show Go p e below _ (T9.setTop (mkF m 61 #[.val (.ref a1), .val (.int (4 : Int32)), .val (.ref b1), .val (.int (3 : Int32)), .val (.int (0 : Int32)), .val (.int (0 : Int32)), .unset] [(.int (0 : Int32)), (.int (4 : Int32)), (.ref b1)]))
  obtain ⟨T12, h12, X12, e12, W12, V12, st12⟩ := own_iastore X9 hx hZ e9 P9 (j := (4 : Int32)) (x := (0 : Int32)) (by decide) (Nat.le_of_ble_eq_true rfl) (g := (mkF m 61 #[.val (.ref a1), .val (.int (4 : Int32)), .val (.ref b1), .val (.int (3 : Int32)), .val (.int (0 : Int32)), .val (.int (0 : Int32)), .unset] [(.int (0 : Int32)), (.int (4 : Int32)), (.ref b1)])) rfl rfl (hb hby d4_61)
  refine go st12 ?_
  have P12 : Ari Z h12 b1 ([(0 : Int32), (0 : Int32), (0 : Int32), (0 : Int32), (0 : Int32)] : List Int32) := V12
  have P_13 : Ari Z h12 a1 ([] : List Int32) := P_10.other W12 ne_a1_b1
  have E_b1_14 : Exa Z h12 b1 "[I" := E_b1_11.wr W12
  have N12 := Fr.snoc X12 N9 g_b1
  have K12 : Keep h0 h12 [] := K9.wr W12 (Or.inr sz_b1)
  have Z12 : n0 ≤ h12.size := Nat.le_trans Z9 (Nat.le_of_eq W12.size.symm)
  show Go p e below _ (T12.setTop (mkF m 62 #[.val (.ref a1), .val (.int (4 : Int32)), .val (.ref b1), .val (.int (3 : Int32)), .val (.int (0 : Int32)), .val (.int (0 : Int32)), .unset] []))
  refine go (fun _ q => XS.iinc X12.here hx rfl (hb hby d4_62) rfl (l' := #[.val (.ref a1), .val (.int (4 : Int32)), .val (.ref b1), .val (.int (4 : Int32)), .val (.int (0 : Int32)), .val (.int (0 : Int32)), .unset]) rfl q) ?_
  show Go p e below _ (T12.setTop (mkF m 65 #[.val (.ref a1), .val (.int (4 : Int32)), .val (.ref b1), .val (.int (4 : Int32)), .val (.int (0 : Int32)), .val (.int (0 : Int32)), .unset] []))
  refine go (fun _ q => XS.goto X12.here hx rfl (pc0 := 65) (pc' := 46) rfl (hb hby d4_65) (by decide) (by decide) q) ?_
  show Go p e below _ (T12.setTop (mkF m 46 #[.val (.ref a1), .val (.int (4 : Int32)), .val (.ref b1), .val (.int (4 : Int32)), .val (.int (0 : Int32)), .val (.int (0 : Int32)), .unset] []))
  refine go (fun _ q => XS.iloadN X12.here hx rfl (hb hby d4_46) rfl q) ?_
  show Go p e below _ (T12.setTop (mkF m 47 #[.val (.ref a1), .val (.int (4 : Int32)), .val (.ref b1), .val (.int (4 : Int32)), .val (.int (0 : Int32)), .val (.int (0 : Int32)), .unset] [(.int (4 : Int32))]))
  refine go (fun _ q => XS.iloadN X12.here hx rfl (hb hby d4_47) rfl q) ?_
  show Go p e below _ (T12.setTop (mkF m 48 #[.val (.ref a1), .val (.int (4 : Int32)), .val (.ref b1), .val (.int (4 : Int32)), .val (.int (0 : Int32)), .val (.int (0 : Int32)), .unset] [(.int (4 : Int32)), (.int (4 : Int32))]))
  refine go (fun _ q => XS.icmpYes X12.here hx rfl (pc0 := 48) (pc' := 68) rfl (hb hby d4_48) rfl (flt (by decide : ¬ ((4 : Int32) < (4 : Int32)))).2.1 (by decide) (by decide) q) ?_
  show Go p e below _ (T12.setTop (mkF m 68 #[.val (.ref a1), .val (.int (4 : Int32)), .val (.ref b1), .val (.int (4 : Int32)), .val (.int (0 : Int32)), .val (.int (0 : Int32)), .unset] []))
  refine go (fun _ q => XS.aloadN X12.here hx rfl (hb hby d4_68) rfl rfl q) ?_
  show Go p e below _ (T12.setTop (mkF m 69 #[.val (.ref a1), .val (.int (4 : Int32)), .val (.ref b1), .val (.int (4 : Int32)), .val (.int (0 : Int32)), .val (.int (0 : Int32)), .unset] [(.ref b1)]))
  have Pz : Ari Z h12 b1 ([0, 0, 0, 0, 0] : List Int32) := P12
  exact own_retA X12 hx hlk rfl hret rfl (hb hby d4_69) (by decide) (by decide) (by rw [e12]; subst g1; exact ⟨rfl, N12, Z12, K12, E_b1_14, Pz⟩)
def own_inc (A : List Int32) (q : Int32) : List Int32 := A.set ((q + (1 : Int32))).toNatClampNeg ((A.getD ((q + (1 : Int32))).toNatClampNeg 0) + (1 : Int32))
def own_acc (A : List Int32) (i j : Int32) : List Int32 := A.set (j).toNatClampNeg ((A.getD (j).toNatClampNeg 0) + (A.getD (i).toNatClampNeg 0))
def own_first (q0 q1 q2 q3 : Int32) : List Int32 := own_acc (own_acc (own_acc (own_inc (own_inc (own_inc (own_inc [0, 0, 0, 0] q0) q1) q2) q3) 0 1) 1 2) 2 3
theorem own_firstE {q0 q1 q2 q3 a0 a1 a2 a3 b1 b0 c1 c0 d1 d0 : Int32} {x0 x1 x2 x3 y0 y1 y2 : List Int32} (hq0 : own_p3 q0) (hq1 : own_p3 q1) (hq2 : own_p3 q2) (hq3 : own_p3 q3)
    (r0 : (([(0 : Int32), (0 : Int32), (0 : Int32), (0 : Int32)] : List Int32).getD ((q0 + (1 : Int32))).toNatClampNeg 0) = a0) (s0 : x0 = (([(0 : Int32), (0 : Int32), (0 : Int32), (0 : Int32)] : List Int32).set ((q0 + (1 : Int32))).toNatClampNeg (a0 + (1 : Int32))))
    (r1 : (x0.getD ((q1 + (1 : Int32))).toNatClampNeg 0) = a1) (s1 : x1 = (x0.set ((q1 + (1 : Int32))).toNatClampNeg (a1 + (1 : Int32)))) (r2 : (x1.getD ((q2 + (1 : Int32))).toNatClampNeg 0) = a2) (s2 : x2 = (x1.set ((q2 + (1 : Int32))).toNatClampNeg (a2 + (1 : Int32)))) (r3 : (x2.getD ((q3 + (1 : Int32))).toNatClampNeg 0) = a3) (s3 : x3 = (x2.set ((q3 + (1 : Int32))).toNatClampNeg (a3 + (1 : Int32))))
    (t1 : (x3.getD ((1 : Int32)).toNatClampNeg 0) = b1) (t0 : (x3.getD ((0 : Int32)).toNatClampNeg 0) = b0) (u0 : y0 = (x3.set ((1 : Int32)).toNatClampNeg (b1 + b0))) (t3 : (y0.getD ((2 : Int32)).toNatClampNeg 0) = c1) (t2 : (y0.getD ((1 : Int32)).toNatClampNeg 0) = c0) (u1 : y1 = (y0.set ((2 : Int32)).toNatClampNeg (c1 + c0))) (t5 : (y1.getD ((3 : Int32)).toNatClampNeg 0) = d1) (t4 : (y1.getD ((2 : Int32)).toNatClampNeg 0) = d0) (u2 : y2 = (y1.set ((3 : Int32)).toNatClampNeg (d1 + d0))) : y2 = own_first q0 q1 q2 q3 := by
  subst r0 s0 r1 s1 r2 s2 r3 s3 t1 t0 u0 t3 t2 u1 t5 t4 u2
  rfl
theorem own_firstL (q0 q1 q2 q3 : Int32) : (own_first q0 q1 q2 q3).length = 4 := by
  simp only [own_first, own_acc, own_inc, List.length_set]; rfl

def QC (Z : State) (a1 a3 : Addr) (q0 q1 q2 q3 : Int32) (h0 : Heap) (n0 : Nat) (v : Option Value) (h : Heap) (L : List Loc) : Prop := v = none ∧ Fr n0 L ∧ n0 ≤ h.size ∧ Keep h0 h [a1] ∧ Exa Z h a1 "com/example/junctura/junctura/conformance/OptimalPaths" ∧ Fld Z h a1 "com/example/junctura/junctura/conformance/OptimalPaths" "marking" "[I" (.ref a3) ∧ ∃ t : Addr, Fld Z h a1 "com/example/junctura/junctura/conformance/OptimalPaths" "firstAt" "[I" (.ref t) ∧ Ari Z h t (own_first q0 q1 q2 q3)
theorem d2_0 : decode prog_45_method_1_code 0 = .ok (.aload_n 0, 1) := by decide +kernel
theorem d2_1 : decode prog_45_method_1_code 1 = .ok (.invokespecial 1, 3) := by decide +kernel
theorem d2_4 : decode prog_45_method_1_code 4 = .ok (.aload_n 0, 1) := by decide +kernel
theorem d2_5 : decode prog_45_method_1_code 5 = .ok (.iload_n 1, 1) := by decide +kernel
theorem d2_6 : decode prog_45_method_1_code 6 = .ok (.putfield 7, 3) := by decide +kernel
theorem d2_9 : decode prog_45_method_1_code 9 = .ok (.aload_n 0, 1) := by decide +kernel
theorem d2_10 : decode prog_45_method_1_code 10 = .ok (.aload_n 2, 1) := by decide +kernel
theorem d2_11 : decode prog_45_method_1_code 11 = .ok (.putfield 13, 3) := by decide +kernel
theorem d2_14 : decode prog_45_method_1_code 14 = .ok (.aload_n 0, 1) := by decide +kernel
theorem d2_15 : decode prog_45_method_1_code 15 = .ok (.aload_n 3, 1) := by decide +kernel
theorem d2_16 : decode prog_45_method_1_code 16 = .ok (.putfield 17, 3) := by decide +kernel
theorem d2_19 : decode prog_45_method_1_code 19 = .ok (.aload_n 0, 1) := by decide +kernel
theorem d2_20 : decode prog_45_method_1_code 20 = .ok (.iload 7, 2) := by decide +kernel
theorem d2_22 : decode prog_45_method_1_code 22 = .ok (.putfield 20, 3) := by decide +kernel
theorem d2_25 : decode prog_45_method_1_code 25 = .ok (.aload_n 0, 1) := by decide +kernel
theorem d2_26 : decode prog_45_method_1_code 26 = .ok (.iload 8, 2) := by decide +kernel
theorem d2_28 : decode prog_45_method_1_code 28 = .ok (.putfield 23, 3) := by decide +kernel
theorem d2_31 : decode prog_45_method_1_code 31 = .ok (.aload_n 0, 1) := by decide +kernel
theorem d2_32 : decode prog_45_method_1_code 32 = .ok (.iload 9, 2) := by decide +kernel
theorem d2_34 : decode prog_45_method_1_code 34 = .ok (.putfield 26, 3) := by decide +kernel
theorem d2_37 : decode prog_45_method_1_code 37 = .ok (.aload_n 0, 1) := by decide +kernel
theorem d2_38 : decode prog_45_method_1_code 38 = .ok (.iload 10, 2) := by decide +kernel
theorem d2_40 : decode prog_45_method_1_code 40 = .ok (.putfield 29, 3) := by decide +kernel
theorem d2_43 : decode prog_45_method_1_code 43 = .ok (.aload_n 2, 1) := by decide +kernel
theorem d2_44 : decode prog_45_method_1_code 44 = .ok (.arraylength, 1) := by decide +kernel
theorem d2_45 : decode prog_45_method_1_code 45 = .ok (.istore 11, 2) := by decide +kernel
theorem d2_47 : decode prog_45_method_1_code 47 = .ok (.aload_n 0, 1) := by decide +kernel
theorem d2_48 : decode prog_45_method_1_code 48 = .ok (.iload_n 1, 1) := by decide +kernel
theorem d2_49 : decode prog_45_method_1_code 49 = .ok (.iconst 2, 1) := by decide +kernel
theorem d2_50 : decode prog_45_method_1_code 50 = .ok (.iadd, 1) := by decide +kernel
theorem d2_51 : decode prog_45_method_1_code 51 = .ok (.newarray .int, 2) := by decide +kernel
theorem d2_53 : decode prog_45_method_1_code 53 = .ok (.putfield 32, 3) := by decide +kernel
theorem d2_56 : decode prog_45_method_1_code 56 = .ok (.iconst 0, 1) := by decide +kernel
theorem d2_57 : decode prog_45_method_1_code 57 = .ok (.istore 12, 2) := by decide +kernel
theorem d2_59 : decode prog_45_method_1_code 59 = .ok (.iload 12, 2) := by decide +kernel
theorem d2_61 : decode prog_45_method_1_code 61 = .ok (.iload 11, 2) := by decide +kernel
theorem d2_63 : decode prog_45_method_1_code 63 = .ok (.if_icmp .ge 24, 3) := by decide +kernel
theorem d2_66 : decode prog_45_method_1_code 66 = .ok (.aload_n 0, 1) := by decide +kernel
theorem d2_67 : decode prog_45_method_1_code 67 = .ok (.getfield 32, 3) := by decide +kernel
theorem d2_70 : decode prog_45_method_1_code 70 = .ok (.aload_n 3, 1) := by decide +kernel
theorem d2_71 : decode prog_45_method_1_code 71 = .ok (.iload 12, 2) := by decide +kernel
theorem d2_73 : decode prog_45_method_1_code 73 = .ok (.iaload, 1) := by decide +kernel
theorem d2_74 : decode prog_45_method_1_code 74 = .ok (.iconst 1, 1) := by decide +kernel
theorem d2_75 : decode prog_45_method_1_code 75 = .ok (.iadd, 1) := by decide +kernel
theorem d2_76 : decode prog_45_method_1_code 76 = .ok (.dup2, 1) := by decide +kernel
theorem d2_77 : decode prog_45_method_1_code 77 = .ok (.iaload, 1) := by decide +kernel
theorem d2_78 : decode prog_45_method_1_code 78 = .ok (.iconst 1, 1) := by decide +kernel
theorem d2_79 : decode prog_45_method_1_code 79 = .ok (.iadd, 1) := by decide +kernel
theorem d2_80 : decode prog_45_method_1_code 80 = .ok (.iastore, 1) := by decide +kernel
theorem d2_81 : decode prog_45_method_1_code 81 = .ok (.iinc 12 1, 3) := by decide +kernel
theorem d2_84 : decode prog_45_method_1_code 84 = .ok (.goto (-25), 3) := by decide +kernel
theorem d2_87 : decode prog_45_method_1_code 87 = .ok (.iconst 0, 1) := by decide +kernel
theorem d2_88 : decode prog_45_method_1_code 88 = .ok (.istore 12, 2) := by decide +kernel
theorem d2_90 : decode prog_45_method_1_code 90 = .ok (.iload 12, 2) := by decide +kernel
theorem d2_92 : decode prog_45_method_1_code 92 = .ok (.iload_n 1, 1) := by decide +kernel
theorem d2_93 : decode prog_45_method_1_code 93 = .ok (.if_icmp .gt 28, 3) := by decide +kernel
theorem d2_96 : decode prog_45_method_1_code 96 = .ok (.aload_n 0, 1) := by decide +kernel
theorem d2_97 : decode prog_45_method_1_code 97 = .ok (.getfield 32, 3) := by decide +kernel
theorem d2_100 : decode prog_45_method_1_code 100 = .ok (.iload 12, 2) := by decide +kernel
theorem d2_102 : decode prog_45_method_1_code 102 = .ok (.iconst 1, 1) := by decide +kernel
theorem d2_103 : decode prog_45_method_1_code 103 = .ok (.iadd, 1) := by decide +kernel
theorem d2_104 : decode prog_45_method_1_code 104 = .ok (.dup2, 1) := by decide +kernel
theorem d2_105 : decode prog_45_method_1_code 105 = .ok (.iaload, 1) := by decide +kernel
theorem d2_106 : decode prog_45_method_1_code 106 = .ok (.aload_n 0, 1) := by decide +kernel
theorem d2_107 : decode prog_45_method_1_code 107 = .ok (.getfield 32, 3) := by decide +kernel
theorem d2_110 : decode prog_45_method_1_code 110 = .ok (.iload 12, 2) := by decide +kernel
theorem d2_112 : decode prog_45_method_1_code 112 = .ok (.iaload, 1) := by decide +kernel
theorem d2_113 : decode prog_45_method_1_code 113 = .ok (.iadd, 1) := by decide +kernel
theorem d2_114 : decode prog_45_method_1_code 114 = .ok (.iastore, 1) := by decide +kernel
theorem d2_115 : decode prog_45_method_1_code 115 = .ok (.iinc 12 1, 3) := by decide +kernel
theorem d2_118 : decode prog_45_method_1_code 118 = .ok (.goto (-28), 3) := by decide +kernel
theorem d2_121 : decode prog_45_method_1_code 121 = .ok (.aload_n 0, 1) := by decide +kernel
theorem d2_122 : decode prog_45_method_1_code 122 = .ok (.aload 4, 2) := by decide +kernel
theorem d2_124 : decode prog_45_method_1_code 124 = .ok (.iload 11, 2) := by decide +kernel
theorem d2_126 : decode prog_45_method_1_code 126 = .ok (.invokestatic 35, 3) := by decide +kernel
theorem d2_129 : decode prog_45_method_1_code 129 = .ok (.putfield 39, 3) := by decide +kernel
theorem d2_132 : decode prog_45_method_1_code 132 = .ok (.aload_n 0, 1) := by decide +kernel
theorem d2_133 : decode prog_45_method_1_code 133 = .ok (.aload 5, 2) := by decide +kernel
theorem d2_135 : decode prog_45_method_1_code 135 = .ok (.iload 11, 2) := by decide +kernel
theorem d2_137 : decode prog_45_method_1_code 137 = .ok (.invokestatic 35, 3) := by decide +kernel
theorem d2_140 : decode prog_45_method_1_code 140 = .ok (.putfield 42, 3) := by decide +kernel
theorem d2_143 : decode prog_45_method_1_code 143 = .ok (.aload_n 0, 1) := by decide +kernel
theorem d2_144 : decode prog_45_method_1_code 144 = .ok (.aload 4, 2) := by decide +kernel
theorem d2_146 : decode prog_45_method_1_code 146 = .ok (.arraylength, 1) := by decide +kernel
theorem d2_147 : decode prog_45_method_1_code 147 = .ok (.newarray .int, 2) := by decide +kernel
theorem d2_149 : decode prog_45_method_1_code 149 = .ok (.putfield 45, 3) := by decide +kernel
theorem d2_152 : decode prog_45_method_1_code 152 = .ok (.aload_n 0, 1) := by decide +kernel
theorem d2_153 : decode prog_45_method_1_code 153 = .ok (.aload 4, 2) := by decide +kernel
theorem d2_155 : decode prog_45_method_1_code 155 = .ok (.arraylength, 1) := by decide +kernel
theorem d2_156 : decode prog_45_method_1_code 156 = .ok (.newarray .int, 2) := by decide +kernel
theorem d2_158 : decode prog_45_method_1_code 158 = .ok (.putfield 48, 3) := by decide +kernel
theorem d2_161 : decode prog_45_method_1_code 161 = .ok (.aload_n 0, 1) := by decide +kernel
theorem d2_162 : decode prog_45_method_1_code 162 = .ok (.aload 4, 2) := by decide +kernel
theorem d2_164 : decode prog_45_method_1_code 164 = .ok (.arraylength, 1) := by decide +kernel
theorem d2_165 : decode prog_45_method_1_code 165 = .ok (.newarray .int, 2) := by decide +kernel
theorem d2_167 : decode prog_45_method_1_code 167 = .ok (.putfield 51, 3) := by decide +kernel
theorem d2_170 : decode prog_45_method_1_code 170 = .ok (.aload_n 0, 1) := by decide +kernel
theorem d2_171 : decode prog_45_method_1_code 171 = .ok (.getfield 39, 3) := by decide +kernel
theorem d2_174 : decode prog_45_method_1_code 174 = .ok (.invokevirtual 54, 3) := by decide +kernel
theorem d2_177 : decode prog_45_method_1_code 177 = .ok (.checkcast 55, 3) := by decide +kernel
theorem d2_180 : decode prog_45_method_1_code 180 = .ok (.astore 12, 2) := by decide +kernel
theorem d2_182 : decode prog_45_method_1_code 182 = .ok (.aload_n 0, 1) := by decide +kernel
theorem d2_183 : decode prog_45_method_1_code 183 = .ok (.getfield 42, 3) := by decide +kernel
theorem d2_186 : decode prog_45_method_1_code 186 = .ok (.invokevirtual 54, 3) := by decide +kernel
theorem d2_189 : decode prog_45_method_1_code 189 = .ok (.checkcast 55, 3) := by decide +kernel
theorem d2_192 : decode prog_45_method_1_code 192 = .ok (.astore 13, 2) := by decide +kernel
theorem d2_194 : decode prog_45_method_1_code 194 = .ok (.iconst 0, 1) := by decide +kernel
theorem d2_195 : decode prog_45_method_1_code 195 = .ok (.istore 14, 2) := by decide +kernel
theorem d2_197 : decode prog_45_method_1_code 197 = .ok (.iload 14, 2) := by decide +kernel
theorem d2_199 : decode prog_45_method_1_code 199 = .ok (.aload 4, 2) := by decide +kernel
theorem d2_201 : decode prog_45_method_1_code 201 = .ok (.arraylength, 1) := by decide +kernel
theorem d2_202 : decode prog_45_method_1_code 202 = .ok (.if_icmp .ge 71, 3) := by decide +kernel
theorem d2_273 : decode prog_45_method_1_code 273 = .ok (.return_, 1) := by decide +kernel
theorem pd_2_0 : parseMethodDescriptor "([II)[I" = some ⟨[(.array .int), .int], some (.array .int)⟩ := by decide +kernel
theorem pn_2 : plainName "com/example/junctura/junctura/conformance/OptimalPaths" = true := by first | (simp [plainName, overriddenIn]; done) | decide +kernel
theorem ef_2 (m : MethodId) (x0 : Addr) (x1 : Int32) (x2 : Addr) (x3 : Addr) (x4 : Addr) (x5 : Addr) (x6 : Addr) (x7 : Int32) (x8 : Int32) (x9 : Int32) (x10 : Int32) : entryFrame m #[(.ref x0), (.int x1), (.ref x2), (.ref x3), (.ref x4), (.ref x5), (.ref x6), (.int x7), (.int x8), (.int x9), (.int x10)] 16 = mkF m 0 #[.val (.ref x0), .val (.int x1), .val (.ref x2), .val (.ref x3), .val (.ref x4), .val (.ref x5), .val (.ref x6), .val (.int x7), .val (.int x8), .val (.int x9), .val (.int x10), .unset, .unset, .unset, .unset, .unset] [] := by first | (simp [entryFrame, mkF, argsToLocals, Value.category]; done) | rfl
set_option maxRecDepth 65536 in
set_option maxHeartbeats 40000000 in
theorem rm2 (l : Launch) (Z : State) (a0 : Array Value) (hw : ∀ d ∈ tables_1, d.before a0 Z = true) (ws : List Jvm.Cond) (a1 : Addr) (a3 : Addr) (a4 : Addr) (a5 : Addr) (a6 : Addr) (a7 : Addr) (p8 : Int32) (p9 : Int32) (p10 : Int32) (p11 : Int32) (h0 : Heap) (n0 : Nat) {u_events u_marking u_position u_start u_goal u_cost u_logMoves u_firstAt u_firstOut u_firstIn u_target u_transition u_source : Value} {m0 m1 m2 m3 q0 q1 q2 q3 : Int32} (Z0 : n0 ≤ h0.size) (g_a1 : n0 ≤ a1) (E_a1 : Exa Z h0 a1 "com/example/junctura/junctura/conformance/OptimalPaths") (F_events : Fld Z h0 a1 "com/example/junctura/junctura/conformance/OptimalPaths" "events" "I" u_events) (F_marking : Fld Z h0 a1 "com/example/junctura/junctura/conformance/OptimalPaths" "marking" "[I" u_marking) (F_position : Fld Z h0 a1 "com/example/junctura/junctura/conformance/OptimalPaths" "position" "[I" u_position) (F_start : Fld Z h0 a1 "com/example/junctura/junctura/conformance/OptimalPaths" "start" "I" u_start) (F_goal : Fld Z h0 a1 "com/example/junctura/junctura/conformance/OptimalPaths" "goal" "I" u_goal) (F_cost : Fld Z h0 a1 "com/example/junctura/junctura/conformance/OptimalPaths" "cost" "I" u_cost) (F_logMoves : Fld Z h0 a1 "com/example/junctura/junctura/conformance/OptimalPaths" "logMoves" "I" u_logMoves) (F_firstAt : Fld Z h0 a1 "com/example/junctura/junctura/conformance/OptimalPaths" "firstAt" "[I" u_firstAt) (F_firstOut : Fld Z h0 a1 "com/example/junctura/junctura/conformance/OptimalPaths" "firstOut" "[I" u_firstOut) (F_firstIn : Fld Z h0 a1 "com/example/junctura/junctura/conformance/OptimalPaths" "firstIn" "[I" u_firstIn) (F_target : Fld Z h0 a1 "com/example/junctura/junctura/conformance/OptimalPaths" "target" "[I" u_target) (F_transition : Fld Z h0 a1 "com/example/junctura/junctura/conformance/OptimalPaths" "transition" "[I" u_transition) (F_source : Fld Z h0 a1 "com/example/junctura/junctura/conformance/OptimalPaths" "source" "[I" u_source) (F_3 : Ari Z h0 a3 ([m0, m1, m2, m3] : List Int32)) (F_4 : Ari Z h0 a4 ([q0, q1, q2, q3] : List Int32)) (F_5 : Ari Z h0 a5 ([] : List Int32)) (F_6 : Ari Z h0 a6 ([] : List Int32)) (ne3 : a3 ≠ a1) (ne4 : a4 ≠ a1) (ne5 : a5 ≠ a1) (ne6 : a6 ≠ a1) (hq0 : own_p3 q0) (hq1 : own_p3 q1) (hq2 : own_p3 q2) (hq3 : own_p3 q3) :
    MetFree l (⟨"com/example/junctura/junctura/conformance/OptimalPaths", "<init>", "(I[I[I[I[I[IIIII)V"⟩ : MethodName) (head1 (Jvm.Cond.code (⟨"com/example/junctura/junctura/conformance/OptimalPaths", "<init>", "(I[I[I[I[I[IIIII)V"⟩ : MethodName) prog_45_method_1_code 16 none :: ws) ({ frames := 1, cells := 8, slots := 24, locals := 34 } : Room)) (fun a U => a = #[(.ref a1), (.int (2 : Int32)), (.ref a3), (.ref a4), (.ref a5), (.ref a6), (.ref a7), (.int p8), (.int p9), (.int p10), (.int p11)] ∧ Z.Warmed39 U.vm ∧ U.heap = h0) (fun _ _ _ _ _ => True) (fun _ U o U' => ∃ v L, o = .returned v ∧ (QC Z a1 a3 q0 q1 q2 q3 h0 n0) v U'.heap L ∧ FrameEnd U o U' L ({ frames := 1, cells := 8, slots := 24, locals := 34 } : Room).cells ({ frames := 1, cells := 8, slots := 24, locals := 34 } : Room).slots) := by
  refine own_met (plainFor_of_name pn_2) (fun m => ef_2 m a1 (2 : Int32) a3 a4 a5 a6 a7 p8 p9 p10 p11) ?_
  intro p e s m below meth c T0 hx hby hml hown hnm hret hlk hZ X0 e0
  have hown : s.vm.findClass "com/example/junctura/junctura/conformance/OptimalPaths" = some m.cls := hown
  have hnm : meth.name = "<init>" := hnm
  have hret : meth.sig.returnType = none := hret
  have N0 := Fr.nil n0
  show Go p e below _ (T0.setTop (mkF m 0 #[.val (.ref a1), .val (.int (2 : Int32)), .val (.ref a3), .val (.ref a4), .val (.ref a5), .val (.ref a6), .val (.ref a7), .val (.int p8), .val (.int p9), .val (.int p10), .val (.int p11), .unset, .unset, .unset, .unset, .unset] []))
  refine go (fun _ q => XS.aloadN X0.here hx rfl (hb hby d2_0) rfl rfl q) ?_
  show Go p e below _ (T0.setTop (mkF m 1 #[.val (.ref a1), .val (.int (2 : Int32)), .val (.ref a3), .val (.ref a4), .val (.ref a5), .val (.ref a6), .val (.ref a7), .val (.int p8), .val (.int p9), .val (.int p10), .val (.int p11), .unset, .unset, .unset, .unset, .unset] [(.ref a1)]))
  obtain ⟨T1, X1, e1, st1⟩ := initO X0 hx hZ hown (hw _ (List.mem_of_getElem? (i := 12) rfl)) (hw _ (List.mem_of_getElem? (i := 13) rfl)) (hw _ (List.mem_of_getElem? (i := 14) rfl)) e0 (g := (mkF m 1 #[.val (.ref a1), .val (.int (2 : Int32)), .val (.ref a3), .val (.ref a4), .val (.ref a5), .val (.ref a6), .val (.ref a7), .val (.int p8), .val (.int p9), .val (.int p10), .val (.int p11), .unset, .unset, .unset, .unset, .unset] [(.ref a1)])) rfl (by rw [hml]; rfl) rfl (hb hby d2_1) (by decide) (W := 0) (by show 2 * 0 + _ ≤ _; exact Nat.le_of_eq rfl) (by decide)
  refine go st1 ?_
  show Go p e below _ (T1.setTop (mkF m 4 #[.val (.ref a1), .val (.int (2 : Int32)), .val (.ref a3), .val (.ref a4), .val (.ref a5), .val (.ref a6), .val (.ref a7), .val (.int p8), .val (.int p9), .val (.int p10), .val (.int p11), .unset, .unset, .unset, .unset, .unset] []))
  refine go (fun _ q => XS.aloadN X1.here hx rfl (hb hby d2_4) rfl rfl q) ?_
  show Go p e below _ (T1.setTop (mkF m 5 #[.val (.ref a1), .val (.int (2 : Int32)), .val (.ref a3), .val (.ref a4), .val (.ref a5), .val (.ref a6), .val (.ref a7), .val (.int p8), .val (.int p9), .val (.int p10), .val (.int p11), .unset, .unset, .unset, .unset, .unset] [(.ref a1)]))
  refine go (fun _ q => XS.iloadN X1.here hx rfl (hb hby d2_5) rfl q) ?_
  show Go p e below _ (T1.setTop (mkF m 6 #[.val (.ref a1), .val (.int (2 : Int32)), .val (.ref a3), .val (.ref a4), .val (.ref a5), .val (.ref a6), .val (.ref a7), .val (.int p8), .val (.int p9), .val (.int p10), .val (.int p11), .unset, .unset, .unset, .unset, .unset] [(.int (2 : Int32)), (.ref a1)]))
  obtain ⟨T2, h2, X2, e2, W2, st2⟩ := putF X1 hx hZ hown (host := "") (Or.inl (hw _ (List.mem_of_getElem? (i := 15) rfl))) Via.refl e1 F_events E_a1 (Or.inr ⟨(hw _ (List.mem_of_getElem? (i := 16) rfl)), rfl, hnm⟩) (hw _ (List.mem_of_getElem? (i := 7) rfl)) (ty := .int) (by decide) rfl rfl (g := (mkF m 6 #[.val (.ref a1), .val (.int (2 : Int32)), .val (.ref a3), .val (.ref a4), .val (.ref a5), .val (.ref a6), .val (.ref a7), .val (.int p8), .val (.int p9), .val (.int p10), .val (.int p11), .unset, .unset, .unset, .unset, .unset] [(.int (2 : Int32)), (.ref a1)])) rfl rfl (hb hby d2_6)
  refine go st2 ?_
  have F_events_2 : Fld Z h2 a1 "com/example/junctura/junctura/conformance/OptimalPaths" "events" "I" (.int (2 : Int32)) := F_events.same W2
  have E_a1_3 : Exa Z h2 a1 "com/example/junctura/junctura/conformance/OptimalPaths" := E_a1.wr W2
  have F_marking_4 : Fld Z h2 a1 "com/example/junctura/junctura/conformance/OptimalPaths" "marking" "[I" u_marking := F_marking.other W2 (Or.inr (slot_ne (Or.inr (hw _ (List.mem_of_getElem? (i := 18) rfl))) (Or.inr (hw _ (List.mem_of_getElem? (i := 16) rfl))) (by decide) (t := (.array .int)) (t' := .int) (by decide) (by decide)))
  have F_position_5 : Fld Z h2 a1 "com/example/junctura/junctura/conformance/OptimalPaths" "position" "[I" u_position := F_position.other W2 (Or.inr (slot_ne (Or.inr (hw _ (List.mem_of_getElem? (i := 20) rfl))) (Or.inr (hw _ (List.mem_of_getElem? (i := 16) rfl))) (by decide) (t := (.array .int)) (t' := .int) (by decide) (by decide)))
  have F_start_6 : Fld Z h2 a1 "com/example/junctura/junctura/conformance/OptimalPaths" "start" "I" u_start := F_start.other W2 (Or.inr (slot_ne (Or.inr (hw _ (List.mem_of_getElem? (i := 22) rfl))) (Or.inr (hw _ (List.mem_of_getElem? (i := 16) rfl))) (by decide) (t := .int) (t' := .int) (by decide) (by decide)))
  have F_goal_7 : Fld Z h2 a1 "com/example/junctura/junctura/conformance/OptimalPaths" "goal" "I" u_goal := F_goal.other W2 (Or.inr (slot_ne (Or.inr (hw _ (List.mem_of_getElem? (i := 24) rfl))) (Or.inr (hw _ (List.mem_of_getElem? (i := 16) rfl))) (by decide) (t := .int) (t' := .int) (by decide) (by decide)))
  have F_cost_8 : Fld Z h2 a1 "com/example/junctura/junctura/conformance/OptimalPaths" "cost" "I" u_cost := F_cost.other W2 (Or.inr (slot_ne (Or.inr (hw _ (List.mem_of_getElem? (i := 26) rfl))) (Or.inr (hw _ (List.mem_of_getElem? (i := 16) rfl))) (by decide) (t := .int) (t' := .int) (by decide) (by decide)))
  have F_logMoves_9 : Fld Z h2 a1 "com/example/junctura/junctura/conformance/OptimalPaths" "logMoves" "I" u_logMoves := F_logMoves.other W2 (Or.inr (slot_ne (Or.inr (hw _ (List.mem_of_getElem? (i := 28) rfl))) (Or.inr (hw _ (List.mem_of_getElem? (i := 16) rfl))) (by decide) (t := .int) (t' := .int) (by decide) (by decide)))
  have F_firstAt_10 : Fld Z h2 a1 "com/example/junctura/junctura/conformance/OptimalPaths" "firstAt" "[I" u_firstAt := F_firstAt.other W2 (Or.inr (slot_ne (Or.inr (hw _ (List.mem_of_getElem? (i := 30) rfl))) (Or.inr (hw _ (List.mem_of_getElem? (i := 16) rfl))) (by decide) (t := (.array .int)) (t' := .int) (by decide) (by decide)))
  have F_firstOut_11 : Fld Z h2 a1 "com/example/junctura/junctura/conformance/OptimalPaths" "firstOut" "[I" u_firstOut := F_firstOut.other W2 (Or.inr (slot_ne (Or.inr (hw _ (List.mem_of_getElem? (i := 35) rfl))) (Or.inr (hw _ (List.mem_of_getElem? (i := 16) rfl))) (by decide) (t := (.array .int)) (t' := .int) (by decide) (by decide)))
  have F_firstIn_12 : Fld Z h2 a1 "com/example/junctura/junctura/conformance/OptimalPaths" "firstIn" "[I" u_firstIn := F_firstIn.other W2 (Or.inr (slot_ne (Or.inr (hw _ (List.mem_of_getElem? (i := 37) rfl))) (Or.inr (hw _ (List.mem_of_getElem? (i := 16) rfl))) (by decide) (t := (.array .int)) (t' := .int) (by decide) (by decide)))
  have F_target_13 : Fld Z h2 a1 "com/example/junctura/junctura/conformance/OptimalPaths" "target" "[I" u_target := F_target.other W2 (Or.inr (slot_ne (Or.inr (hw _ (List.mem_of_getElem? (i := 39) rfl))) (Or.inr (hw _ (List.mem_of_getElem? (i := 16) rfl))) (by decide) (t := (.array .int)) (t' := .int) (by decide) (by decide)))
  have F_transition_14 : Fld Z h2 a1 "com/example/junctura/junctura/conformance/OptimalPaths" "transition" "[I" u_transition := F_transition.other W2 (Or.inr (slot_ne (Or.inr (hw _ (List.mem_of_getElem? (i := 41) rfl))) (Or.inr (hw _ (List.mem_of_getElem? (i := 16) rfl))) (by decide) (t := (.array .int)) (t' := .int) (by decide) (by decide)))
  have F_source_15 : Fld Z h2 a1 "com/example/junctura/junctura/conformance/OptimalPaths" "source" "[I" u_source := F_source.other W2 (Or.inr (slot_ne (Or.inr (hw _ (List.mem_of_getElem? (i := 43) rfl))) (Or.inr (hw _ (List.mem_of_getElem? (i := 16) rfl))) (by decide) (t := (.array .int)) (t' := .int) (by decide) (by decide)))
  have P_16 : Ari Z h2 a3 ([m0, m1, m2, m3] : List Int32) := F_3.other W2 ne3
  have P_17 : Ari Z h2 a4 ([q0, q1, q2, q3] : List Int32) := F_4.other W2 ne4
  have P_18 : Ari Z h2 a5 ([] : List Int32) := F_5.other W2 ne5
  have P_19 : Ari Z h2 a6 ([] : List Int32) := F_6.other W2 ne6
  have N2 := Fr.snoc X2 N0 g_a1
  have K2 : Keep h0 h2 [a1] := (Keep.refl h0 [a1]).wr W2 (Or.inl (List.mem_of_getElem? (i := 0) rfl))
  have Z2 : n0 ≤ h2.size := Nat.le_trans Z0 (Nat.le_of_eq W2.size.symm)
  show Go p e below _ (T2.setTop (mkF m 9 #[.val (.ref a1), .val (.int (2 : Int32)), .val (.ref a3), .val (.ref a4), .val (.ref a5), .val (.ref a6), .val (.ref a7), .val (.int p8), .val (.int p9), .val (.int p10), .val (.int p11), .unset, .unset, .unset, .unset, .unset] []))
  refine go (fun _ q => XS.aloadN X2.here hx rfl (hb hby d2_9) rfl rfl q) ?_
  show Go p e below _ (T2.setTop (mkF m 10 #[.val (.ref a1), .val (.int (2 : Int32)), .val (.ref a3), .val (.ref a4), .val (.ref a5), .val (.ref a6), .val (.ref a7), .val (.int p8), .val (.int p9), .val (.int p10), .val (.int p11), .unset, .unset, .unset, .unset, .unset] [(.ref a1)]))
  refine go (fun _ q => XS.aloadN X2.here hx rfl (hb hby d2_10) rfl rfl q) ?_
  show Go p e below _ (T2.setTop (mkF m 11 #[.val (.ref a1), .val (.int (2 : Int32)), .val (.ref a3), .val (.ref a4), .val (.ref a5), .val (.ref a6), .val (.ref a7), .val (.int p8), .val (.int p9), .val (.int p10), .val (.int p11), .unset, .unset, .unset, .unset, .unset] [(.ref a3), (.ref a1)]))
  obtain ⟨T20, h20, X20, e20, W20, st20⟩ := putF X2 hx hZ hown (host := "") (Or.inl (hw _ (List.mem_of_getElem? (i := 17) rfl))) Via.refl e2 F_marking_4 E_a1_3 (Or.inr ⟨(hw _ (List.mem_of_getElem? (i := 18) rfl)), rfl, hnm⟩) (hw _ (List.mem_of_getElem? (i := 7) rfl)) (ty := (.array .int)) (by decide) rfl rfl (g := (mkF m 11 #[.val (.ref a1), .val (.int (2 : Int32)), .val (.ref a3), .val (.ref a4), .val (.ref a5), .val (.ref a6), .val (.ref a7), .val (.int p8), .val (.int p9), .val (.int p10), .val (.int p11), .unset, .unset, .unset, .unset, .unset] [(.ref a3), (.ref a1)])) rfl rfl (hb hby d2_11)
  refine go st20 ?_
  have F_marking_20 : Fld Z h20 a1 "com/example/junctura/junctura/conformance/OptimalPaths" "marking" "[I" (.ref a3) := F_marking_4.same W20
  have E_a1_21 : Exa Z h20 a1 "com/example/junctura/junctura/conformance/OptimalPaths" := E_a1_3.wr W20
  have F_position_22 : Fld Z h20 a1 "com/example/junctura/junctura/conformance/OptimalPaths" "position" "[I" u_position := F_position_5.other W20 (Or.inr (slot_ne (Or.inr (hw _ (List.mem_of_getElem? (i := 20) rfl))) (Or.inr (hw _ (List.mem_of_getElem? (i := 18) rfl))) (by decide) (t := (.array .int)) (t' := (.array .int)) (by decide) (by decide)))
  have F_start_23 : Fld Z h20 a1 "com/example/junctura/junctura/conformance/OptimalPaths" "start" "I" u_start := F_start_6.other W20 (Or.inr (slot_ne (Or.inr (hw _ (List.mem_of_getElem? (i := 22) rfl))) (Or.inr (hw _ (List.mem_of_getElem? (i := 18) rfl))) (by decide) (t := .int) (t' := (.array .int)) (by decide) (by decide)))
  have F_goal_24 : Fld Z h20 a1 "com/example/junctura/junctura/conformance/OptimalPaths" "goal" "I" u_goal := F_goal_7.other W20 (Or.inr (slot_ne (Or.inr (hw _ (List.mem_of_getElem? (i := 24) rfl))) (Or.inr (hw _ (List.mem_of_getElem? (i := 18) rfl))) (by decide) (t := .int) (t' := (.array .int)) (by decide) (by decide)))
  have F_cost_25 : Fld Z h20 a1 "com/example/junctura/junctura/conformance/OptimalPaths" "cost" "I" u_cost := F_cost_8.other W20 (Or.inr (slot_ne (Or.inr (hw _ (List.mem_of_getElem? (i := 26) rfl))) (Or.inr (hw _ (List.mem_of_getElem? (i := 18) rfl))) (by decide) (t := .int) (t' := (.array .int)) (by decide) (by decide)))
  have F_logMoves_26 : Fld Z h20 a1 "com/example/junctura/junctura/conformance/OptimalPaths" "logMoves" "I" u_logMoves := F_logMoves_9.other W20 (Or.inr (slot_ne (Or.inr (hw _ (List.mem_of_getElem? (i := 28) rfl))) (Or.inr (hw _ (List.mem_of_getElem? (i := 18) rfl))) (by decide) (t := .int) (t' := (.array .int)) (by decide) (by decide)))
  have F_firstAt_27 : Fld Z h20 a1 "com/example/junctura/junctura/conformance/OptimalPaths" "firstAt" "[I" u_firstAt := F_firstAt_10.other W20 (Or.inr (slot_ne (Or.inr (hw _ (List.mem_of_getElem? (i := 30) rfl))) (Or.inr (hw _ (List.mem_of_getElem? (i := 18) rfl))) (by decide) (t := (.array .int)) (t' := (.array .int)) (by decide) (by decide)))
  have F_firstOut_28 : Fld Z h20 a1 "com/example/junctura/junctura/conformance/OptimalPaths" "firstOut" "[I" u_firstOut := F_firstOut_11.other W20 (Or.inr (slot_ne (Or.inr (hw _ (List.mem_of_getElem? (i := 35) rfl))) (Or.inr (hw _ (List.mem_of_getElem? (i := 18) rfl))) (by decide) (t := (.array .int)) (t' := (.array .int)) (by decide) (by decide)))
  have F_firstIn_29 : Fld Z h20 a1 "com/example/junctura/junctura/conformance/OptimalPaths" "firstIn" "[I" u_firstIn := F_firstIn_12.other W20 (Or.inr (slot_ne (Or.inr (hw _ (List.mem_of_getElem? (i := 37) rfl))) (Or.inr (hw _ (List.mem_of_getElem? (i := 18) rfl))) (by decide) (t := (.array .int)) (t' := (.array .int)) (by decide) (by decide)))
  have F_target_30 : Fld Z h20 a1 "com/example/junctura/junctura/conformance/OptimalPaths" "target" "[I" u_target := F_target_13.other W20 (Or.inr (slot_ne (Or.inr (hw _ (List.mem_of_getElem? (i := 39) rfl))) (Or.inr (hw _ (List.mem_of_getElem? (i := 18) rfl))) (by decide) (t := (.array .int)) (t' := (.array .int)) (by decide) (by decide)))
  have F_transition_31 : Fld Z h20 a1 "com/example/junctura/junctura/conformance/OptimalPaths" "transition" "[I" u_transition := F_transition_14.other W20 (Or.inr (slot_ne (Or.inr (hw _ (List.mem_of_getElem? (i := 41) rfl))) (Or.inr (hw _ (List.mem_of_getElem? (i := 18) rfl))) (by decide) (t := (.array .int)) (t' := (.array .int)) (by decide) (by decide)))
  have F_source_32 : Fld Z h20 a1 "com/example/junctura/junctura/conformance/OptimalPaths" "source" "[I" u_source := F_source_15.other W20 (Or.inr (slot_ne (Or.inr (hw _ (List.mem_of_getElem? (i := 43) rfl))) (Or.inr (hw _ (List.mem_of_getElem? (i := 18) rfl))) (by decide) (t := (.array .int)) (t' := (.array .int)) (by decide) (by decide)))
  have P_33 : Ari Z h20 a3 ([m0, m1, m2, m3] : List Int32) := P_16.other W20 ne3
  have P_34 : Ari Z h20 a4 ([q0, q1, q2, q3] : List Int32) := P_17.other W20 ne4
  have P_35 : Ari Z h20 a5 ([] : List Int32) := P_18.other W20 ne5
  have P_36 : Ari Z h20 a6 ([] : List Int32) := P_19.other W20 ne6
  have N20 := Fr.snoc X20 N2 g_a1
  have K20 : Keep h0 h20 [a1] := K2.wr W20 (Or.inl (List.mem_of_getElem? (i := 0) rfl))
  have Z20 : n0 ≤ h20.size := Nat.le_trans Z2 (Nat.le_of_eq W20.size.symm)
  show Go p e below _ (T20.setTop (mkF m 14 #[.val (.ref a1), .val (.int (2 : Int32)), .val (.ref a3), .val (.ref a4), .val (.ref a5), .val (.ref a6), .val (.ref a7), .val (.int p8), .val (.int p9), .val (.int p10), .val (.int p11), .unset, .unset, .unset, .unset, .unset] []))
  refine go (fun _ q => XS.aloadN X20.here hx rfl (hb hby d2_14) rfl rfl q) ?_
  show Go p e below _ (T20.setTop (mkF m 15 #[.val (.ref a1), .val (.int (2 : Int32)), .val (.ref a3), .val (.ref a4), .val (.ref a5), .val (.ref a6), .val (.ref a7), .val (.int p8), .val (.int p9), .val (.int p10), .val (.int p11), .unset, .unset, .unset, .unset, .unset] [(.ref a1)]))
  refine go (fun _ q => XS.aloadN X20.here hx rfl (hb hby d2_15) rfl rfl q) ?_
  show Go p e below _ (T20.setTop (mkF m 16 #[.val (.ref a1), .val (.int (2 : Int32)), .val (.ref a3), .val (.ref a4), .val (.ref a5), .val (.ref a6), .val (.ref a7), .val (.int p8), .val (.int p9), .val (.int p10), .val (.int p11), .unset, .unset, .unset, .unset, .unset] [(.ref a4), (.ref a1)]))
  obtain ⟨T37, h37, X37, e37, W37, st37⟩ := putF X20 hx hZ hown (host := "") (Or.inl (hw _ (List.mem_of_getElem? (i := 19) rfl))) Via.refl e20 F_position_22 E_a1_21 (Or.inr ⟨(hw _ (List.mem_of_getElem? (i := 20) rfl)), rfl, hnm⟩) (hw _ (List.mem_of_getElem? (i := 7) rfl)) (ty := (.array .int)) (by decide) rfl rfl (g := (mkF m 16 #[.val (.ref a1), .val (.int (2 : Int32)), .val (.ref a3), .val (.ref a4), .val (.ref a5), .val (.ref a6), .val (.ref a7), .val (.int p8), .val (.int p9), .val (.int p10), .val (.int p11), .unset, .unset, .unset, .unset, .unset] [(.ref a4), (.ref a1)])) rfl rfl (hb hby d2_16)
  refine go st37 ?_
  have F_position_37 : Fld Z h37 a1 "com/example/junctura/junctura/conformance/OptimalPaths" "position" "[I" (.ref a4) := F_position_22.same W37
  have E_a1_38 : Exa Z h37 a1 "com/example/junctura/junctura/conformance/OptimalPaths" := E_a1_21.wr W37
  have F_marking_39 : Fld Z h37 a1 "com/example/junctura/junctura/conformance/OptimalPaths" "marking" "[I" (.ref a3) := F_marking_20.other W37 (Or.inr (slot_ne (Or.inr (hw _ (List.mem_of_getElem? (i := 18) rfl))) (Or.inr (hw _ (List.mem_of_getElem? (i := 20) rfl))) (by decide) (t := (.array .int)) (t' := (.array .int)) (by decide) (by decide)))
  have F_start_40 : Fld Z h37 a1 "com/example/junctura/junctura/conformance/OptimalPaths" "start" "I" u_start := F_start_23.other W37 (Or.inr (slot_ne (Or.inr (hw _ (List.mem_of_getElem? (i := 22) rfl))) (Or.inr (hw _ (List.mem_of_getElem? (i := 20) rfl))) (by decide) (t := .int) (t' := (.array .int)) (by decide) (by decide)))
  have F_goal_41 : Fld Z h37 a1 "com/example/junctura/junctura/conformance/OptimalPaths" "goal" "I" u_goal := F_goal_24.other W37 (Or.inr (slot_ne (Or.inr (hw _ (List.mem_of_getElem? (i := 24) rfl))) (Or.inr (hw _ (List.mem_of_getElem? (i := 20) rfl))) (by decide) (t := .int) (t' := (.array .int)) (by decide) (by decide)))
  have F_cost_42 : Fld Z h37 a1 "com/example/junctura/junctura/conformance/OptimalPaths" "cost" "I" u_cost := F_cost_25.other W37 (Or.inr (slot_ne (Or.inr (hw _ (List.mem_of_getElem? (i := 26) rfl))) (Or.inr (hw _ (List.mem_of_getElem? (i := 20) rfl))) (by decide) (t := .int) (t' := (.array .int)) (by decide) (by decide)))
  have F_logMoves_43 : Fld Z h37 a1 "com/example/junctura/junctura/conformance/OptimalPaths" "logMoves" "I" u_logMoves := F_logMoves_26.other W37 (Or.inr (slot_ne (Or.inr (hw _ (List.mem_of_getElem? (i := 28) rfl))) (Or.inr (hw _ (List.mem_of_getElem? (i := 20) rfl))) (by decide) (t := .int) (t' := (.array .int)) (by decide) (by decide)))
  have F_firstAt_44 : Fld Z h37 a1 "com/example/junctura/junctura/conformance/OptimalPaths" "firstAt" "[I" u_firstAt := F_firstAt_27.other W37 (Or.inr (slot_ne (Or.inr (hw _ (List.mem_of_getElem? (i := 30) rfl))) (Or.inr (hw _ (List.mem_of_getElem? (i := 20) rfl))) (by decide) (t := (.array .int)) (t' := (.array .int)) (by decide) (by decide)))
  have F_firstOut_45 : Fld Z h37 a1 "com/example/junctura/junctura/conformance/OptimalPaths" "firstOut" "[I" u_firstOut := F_firstOut_28.other W37 (Or.inr (slot_ne (Or.inr (hw _ (List.mem_of_getElem? (i := 35) rfl))) (Or.inr (hw _ (List.mem_of_getElem? (i := 20) rfl))) (by decide) (t := (.array .int)) (t' := (.array .int)) (by decide) (by decide)))
  have F_firstIn_46 : Fld Z h37 a1 "com/example/junctura/junctura/conformance/OptimalPaths" "firstIn" "[I" u_firstIn := F_firstIn_29.other W37 (Or.inr (slot_ne (Or.inr (hw _ (List.mem_of_getElem? (i := 37) rfl))) (Or.inr (hw _ (List.mem_of_getElem? (i := 20) rfl))) (by decide) (t := (.array .int)) (t' := (.array .int)) (by decide) (by decide)))
  have F_target_47 : Fld Z h37 a1 "com/example/junctura/junctura/conformance/OptimalPaths" "target" "[I" u_target := F_target_30.other W37 (Or.inr (slot_ne (Or.inr (hw _ (List.mem_of_getElem? (i := 39) rfl))) (Or.inr (hw _ (List.mem_of_getElem? (i := 20) rfl))) (by decide) (t := (.array .int)) (t' := (.array .int)) (by decide) (by decide)))
  have F_transition_48 : Fld Z h37 a1 "com/example/junctura/junctura/conformance/OptimalPaths" "transition" "[I" u_transition := F_transition_31.other W37 (Or.inr (slot_ne (Or.inr (hw _ (List.mem_of_getElem? (i := 41) rfl))) (Or.inr (hw _ (List.mem_of_getElem? (i := 20) rfl))) (by decide) (t := (.array .int)) (t' := (.array .int)) (by decide) (by decide)))
  have F_source_49 : Fld Z h37 a1 "com/example/junctura/junctura/conformance/OptimalPaths" "source" "[I" u_source := F_source_32.other W37 (Or.inr (slot_ne (Or.inr (hw _ (List.mem_of_getElem? (i := 43) rfl))) (Or.inr (hw _ (List.mem_of_getElem? (i := 20) rfl))) (by decide) (t := (.array .int)) (t' := (.array .int)) (by decide) (by decide)))
  have P_50 : Ari Z h37 a3 ([m0, m1, m2, m3] : List Int32) := P_33.other W37 ne3
  have P_51 : Ari Z h37 a4 ([q0, q1, q2, q3] : List Int32) := P_34.other W37 ne4
  have P_52 : Ari Z h37 a5 ([] : List Int32) := P_35.other W37 ne5
  have P_53 : Ari Z h37 a6 ([] : List Int32) := P_36.other W37 ne6
  have N37 := Fr.snoc X37 N20 g_a1
  have K37 : Keep h0 h37 [a1] := K20.wr W37 (Or.inl (List.mem_of_getElem? (i := 0) rfl))
  have Z37 : n0 ≤ h37.size := Nat.le_trans Z20 (Nat.le_of_eq W37.size.symm)
  show Go p e below _ (T37.setTop (mkF m 19 #[.val (.ref a1), .val (.int (2 : Int32)), .val (.ref a3), .val (.ref a4), .val (.ref a5), .val (.ref a6), .val (.ref a7), .val (.int p8), .val (.int p9), .val (.int p10), .val (.int p11), .unset, .unset, .unset, .unset, .unset] []))
  refine go (fun _ q => XS.aloadN X37.here hx rfl (hb hby d2_19) rfl rfl q) ?_
  show Go p e below _ (T37.setTop (mkF m 20 #[.val (.ref a1), .val (.int (2 : Int32)), .val (.ref a3), .val (.ref a4), .val (.ref a5), .val (.ref a6), .val (.ref a7), .val (.int p8), .val (.int p9), .val (.int p10), .val (.int p11), .unset, .unset, .unset, .unset, .unset] [(.ref a1)]))
  refine go (fun _ q => XS.iload X37.here hx rfl (hb hby d2_20) rfl q) ?_
  show Go p e below _ (T37.setTop (mkF m 22 #[.val (.ref a1), .val (.int (2 : Int32)), .val (.ref a3), .val (.ref a4), .val (.ref a5), .val (.ref a6), .val (.ref a7), .val (.int p8), .val (.int p9), .val (.int p10), .val (.int p11), .unset, .unset, .unset, .unset, .unset] [(.int p8), (.ref a1)]))
  obtain ⟨T54, h54, X54, e54, W54, st54⟩ := putF X37 hx hZ hown (host := "") (Or.inl (hw _ (List.mem_of_getElem? (i := 21) rfl))) Via.refl e37 F_start_40 E_a1_38 (Or.inr ⟨(hw _ (List.mem_of_getElem? (i := 22) rfl)), rfl, hnm⟩) (hw _ (List.mem_of_getElem? (i := 7) rfl)) (ty := .int) (by decide) rfl rfl (g := (mkF m 22 #[.val (.ref a1), .val (.int (2 : Int32)), .val (.ref a3), .val (.ref a4), .val (.ref a5), .val (.ref a6), .val (.ref a7), .val (.int p8), .val (.int p9), .val (.int p10), .val (.int p11), .unset, .unset, .unset, .unset, .unset] [(.int p8), (.ref a1)])) rfl rfl (hb hby d2_22)
  refine go st54 ?_
  have F_start_54 : Fld Z h54 a1 "com/example/junctura/junctura/conformance/OptimalPaths" "start" "I" (.int p8) := F_start_40.same W54
  have E_a1_55 : Exa Z h54 a1 "com/example/junctura/junctura/conformance/OptimalPaths" := E_a1_38.wr W54
  have F_marking_56 : Fld Z h54 a1 "com/example/junctura/junctura/conformance/OptimalPaths" "marking" "[I" (.ref a3) := F_marking_39.other W54 (Or.inr (slot_ne (Or.inr (hw _ (List.mem_of_getElem? (i := 18) rfl))) (Or.inr (hw _ (List.mem_of_getElem? (i := 22) rfl))) (by decide) (t := (.array .int)) (t' := .int) (by decide) (by decide)))
  have F_goal_57 : Fld Z h54 a1 "com/example/junctura/junctura/conformance/OptimalPaths" "goal" "I" u_goal := F_goal_41.other W54 (Or.inr (slot_ne (Or.inr (hw _ (List.mem_of_getElem? (i := 24) rfl))) (Or.inr (hw _ (List.mem_of_getElem? (i := 22) rfl))) (by decide) (t := .int) (t' := .int) (by decide) (by decide)))
  have F_cost_58 : Fld Z h54 a1 "com/example/junctura/junctura/conformance/OptimalPaths" "cost" "I" u_cost := F_cost_42.other W54 (Or.inr (slot_ne (Or.inr (hw _ (List.mem_of_getElem? (i := 26) rfl))) (Or.inr (hw _ (List.mem_of_getElem? (i := 22) rfl))) (by decide) (t := .int) (t' := .int) (by decide) (by decide)))
  have F_logMoves_59 : Fld Z h54 a1 "com/example/junctura/junctura/conformance/OptimalPaths" "logMoves" "I" u_logMoves := F_logMoves_43.other W54 (Or.inr (slot_ne (Or.inr (hw _ (List.mem_of_getElem? (i := 28) rfl))) (Or.inr (hw _ (List.mem_of_getElem? (i := 22) rfl))) (by decide) (t := .int) (t' := .int) (by decide) (by decide)))
  have F_firstAt_60 : Fld Z h54 a1 "com/example/junctura/junctura/conformance/OptimalPaths" "firstAt" "[I" u_firstAt := F_firstAt_44.other W54 (Or.inr (slot_ne (Or.inr (hw _ (List.mem_of_getElem? (i := 30) rfl))) (Or.inr (hw _ (List.mem_of_getElem? (i := 22) rfl))) (by decide) (t := (.array .int)) (t' := .int) (by decide) (by decide)))
  have F_firstOut_61 : Fld Z h54 a1 "com/example/junctura/junctura/conformance/OptimalPaths" "firstOut" "[I" u_firstOut := F_firstOut_45.other W54 (Or.inr (slot_ne (Or.inr (hw _ (List.mem_of_getElem? (i := 35) rfl))) (Or.inr (hw _ (List.mem_of_getElem? (i := 22) rfl))) (by decide) (t := (.array .int)) (t' := .int) (by decide) (by decide)))
  have F_firstIn_62 : Fld Z h54 a1 "com/example/junctura/junctura/conformance/OptimalPaths" "firstIn" "[I" u_firstIn := F_firstIn_46.other W54 (Or.inr (slot_ne (Or.inr (hw _ (List.mem_of_getElem? (i := 37) rfl))) (Or.inr (hw _ (List.mem_of_getElem? (i := 22) rfl))) (by decide) (t := (.array .int)) (t' := .int) (by decide) (by decide)))
  have F_target_63 : Fld Z h54 a1 "com/example/junctura/junctura/conformance/OptimalPaths" "target" "[I" u_target := F_target_47.other W54 (Or.inr (slot_ne (Or.inr (hw _ (List.mem_of_getElem? (i := 39) rfl))) (Or.inr (hw _ (List.mem_of_getElem? (i := 22) rfl))) (by decide) (t := (.array .int)) (t' := .int) (by decide) (by decide)))
  have F_transition_64 : Fld Z h54 a1 "com/example/junctura/junctura/conformance/OptimalPaths" "transition" "[I" u_transition := F_transition_48.other W54 (Or.inr (slot_ne (Or.inr (hw _ (List.mem_of_getElem? (i := 41) rfl))) (Or.inr (hw _ (List.mem_of_getElem? (i := 22) rfl))) (by decide) (t := (.array .int)) (t' := .int) (by decide) (by decide)))
  have F_source_65 : Fld Z h54 a1 "com/example/junctura/junctura/conformance/OptimalPaths" "source" "[I" u_source := F_source_49.other W54 (Or.inr (slot_ne (Or.inr (hw _ (List.mem_of_getElem? (i := 43) rfl))) (Or.inr (hw _ (List.mem_of_getElem? (i := 22) rfl))) (by decide) (t := (.array .int)) (t' := .int) (by decide) (by decide)))
  have P_66 : Ari Z h54 a3 ([m0, m1, m2, m3] : List Int32) := P_50.other W54 ne3
  have P_67 : Ari Z h54 a4 ([q0, q1, q2, q3] : List Int32) := P_51.other W54 ne4
  have P_68 : Ari Z h54 a5 ([] : List Int32) := P_52.other W54 ne5
  have P_69 : Ari Z h54 a6 ([] : List Int32) := P_53.other W54 ne6
  have N54 := Fr.snoc X54 N37 g_a1
  have K54 : Keep h0 h54 [a1] := K37.wr W54 (Or.inl (List.mem_of_getElem? (i := 0) rfl))
  have Z54 : n0 ≤ h54.size := Nat.le_trans Z37 (Nat.le_of_eq W54.size.symm)
  show Go p e below _ (T54.setTop (mkF m 25 #[.val (.ref a1), .val (.int (2 : Int32)), .val (.ref a3), .val (.ref a4), .val (.ref a5), .val (.ref a6), .val (.ref a7), .val (.int p8), .val (.int p9), .val (.int p10), .val (.int p11), .unset, .unset, .unset, .unset, .unset] []))
  refine go (fun _ q => XS.aloadN X54.here hx rfl (hb hby d2_25) rfl rfl q) ?_
  show Go p e below _ (T54.setTop (mkF m 26 #[.val (.ref a1), .val (.int (2 : Int32)), .val (.ref a3), .val (.ref a4), .val (.ref a5), .val (.ref a6), .val (.ref a7), .val (.int p8), .val (.int p9), .val (.int p10), .val (.int p11), .unset, .unset, .unset, .unset, .unset] [(.ref a1)]))
  refine go (fun _ q => XS.iload X54.here hx rfl (hb hby d2_26) rfl q) ?_
  show Go p e below _ (T54.setTop (mkF m 28 #[.val (.ref a1), .val (.int (2 : Int32)), .val (.ref a3), .val (.ref a4), .val (.ref a5), .val (.ref a6), .val (.ref a7), .val (.int p8), .val (.int p9), .val (.int p10), .val (.int p11), .unset, .unset, .unset, .unset, .unset] [(.int p9), (.ref a1)]))
  obtain ⟨T70, h70, X70, e70, W70, st70⟩ := putF X54 hx hZ hown (host := "") (Or.inl (hw _ (List.mem_of_getElem? (i := 23) rfl))) Via.refl e54 F_goal_57 E_a1_55 (Or.inr ⟨(hw _ (List.mem_of_getElem? (i := 24) rfl)), rfl, hnm⟩) (hw _ (List.mem_of_getElem? (i := 7) rfl)) (ty := .int) (by decide) rfl rfl (g := (mkF m 28 #[.val (.ref a1), .val (.int (2 : Int32)), .val (.ref a3), .val (.ref a4), .val (.ref a5), .val (.ref a6), .val (.ref a7), .val (.int p8), .val (.int p9), .val (.int p10), .val (.int p11), .unset, .unset, .unset, .unset, .unset] [(.int p9), (.ref a1)])) rfl rfl (hb hby d2_28)
  refine go st70 ?_
  have F_goal_70 : Fld Z h70 a1 "com/example/junctura/junctura/conformance/OptimalPaths" "goal" "I" (.int p9) := F_goal_57.same W70
  have E_a1_71 : Exa Z h70 a1 "com/example/junctura/junctura/conformance/OptimalPaths" := E_a1_55.wr W70
  have F_marking_72 : Fld Z h70 a1 "com/example/junctura/junctura/conformance/OptimalPaths" "marking" "[I" (.ref a3) := F_marking_56.other W70 (Or.inr (slot_ne (Or.inr (hw _ (List.mem_of_getElem? (i := 18) rfl))) (Or.inr (hw _ (List.mem_of_getElem? (i := 24) rfl))) (by decide) (t := (.array .int)) (t' := .int) (by decide) (by decide)))
  have F_cost_73 : Fld Z h70 a1 "com/example/junctura/junctura/conformance/OptimalPaths" "cost" "I" u_cost := F_cost_58.other W70 (Or.inr (slot_ne (Or.inr (hw _ (List.mem_of_getElem? (i := 26) rfl))) (Or.inr (hw _ (List.mem_of_getElem? (i := 24) rfl))) (by decide) (t := .int) (t' := .int) (by decide) (by decide)))
  have F_logMoves_74 : Fld Z h70 a1 "com/example/junctura/junctura/conformance/OptimalPaths" "logMoves" "I" u_logMoves := F_logMoves_59.other W70 (Or.inr (slot_ne (Or.inr (hw _ (List.mem_of_getElem? (i := 28) rfl))) (Or.inr (hw _ (List.mem_of_getElem? (i := 24) rfl))) (by decide) (t := .int) (t' := .int) (by decide) (by decide)))
  have F_firstAt_75 : Fld Z h70 a1 "com/example/junctura/junctura/conformance/OptimalPaths" "firstAt" "[I" u_firstAt := F_firstAt_60.other W70 (Or.inr (slot_ne (Or.inr (hw _ (List.mem_of_getElem? (i := 30) rfl))) (Or.inr (hw _ (List.mem_of_getElem? (i := 24) rfl))) (by decide) (t := (.array .int)) (t' := .int) (by decide) (by decide)))
  have F_firstOut_76 : Fld Z h70 a1 "com/example/junctura/junctura/conformance/OptimalPaths" "firstOut" "[I" u_firstOut := F_firstOut_61.other W70 (Or.inr (slot_ne (Or.inr (hw _ (List.mem_of_getElem? (i := 35) rfl))) (Or.inr (hw _ (List.mem_of_getElem? (i := 24) rfl))) (by decide) (t := (.array .int)) (t' := .int) (by decide) (by decide)))
  have F_firstIn_77 : Fld Z h70 a1 "com/example/junctura/junctura/conformance/OptimalPaths" "firstIn" "[I" u_firstIn := F_firstIn_62.other W70 (Or.inr (slot_ne (Or.inr (hw _ (List.mem_of_getElem? (i := 37) rfl))) (Or.inr (hw _ (List.mem_of_getElem? (i := 24) rfl))) (by decide) (t := (.array .int)) (t' := .int) (by decide) (by decide)))
  have F_target_78 : Fld Z h70 a1 "com/example/junctura/junctura/conformance/OptimalPaths" "target" "[I" u_target := F_target_63.other W70 (Or.inr (slot_ne (Or.inr (hw _ (List.mem_of_getElem? (i := 39) rfl))) (Or.inr (hw _ (List.mem_of_getElem? (i := 24) rfl))) (by decide) (t := (.array .int)) (t' := .int) (by decide) (by decide)))
  have F_transition_79 : Fld Z h70 a1 "com/example/junctura/junctura/conformance/OptimalPaths" "transition" "[I" u_transition := F_transition_64.other W70 (Or.inr (slot_ne (Or.inr (hw _ (List.mem_of_getElem? (i := 41) rfl))) (Or.inr (hw _ (List.mem_of_getElem? (i := 24) rfl))) (by decide) (t := (.array .int)) (t' := .int) (by decide) (by decide)))
  have F_source_80 : Fld Z h70 a1 "com/example/junctura/junctura/conformance/OptimalPaths" "source" "[I" u_source := F_source_65.other W70 (Or.inr (slot_ne (Or.inr (hw _ (List.mem_of_getElem? (i := 43) rfl))) (Or.inr (hw _ (List.mem_of_getElem? (i := 24) rfl))) (by decide) (t := (.array .int)) (t' := .int) (by decide) (by decide)))
  have P_81 : Ari Z h70 a3 ([m0, m1, m2, m3] : List Int32) := P_66.other W70 ne3
  have P_82 : Ari Z h70 a4 ([q0, q1, q2, q3] : List Int32) := P_67.other W70 ne4
  have P_83 : Ari Z h70 a5 ([] : List Int32) := P_68.other W70 ne5
  have P_84 : Ari Z h70 a6 ([] : List Int32) := P_69.other W70 ne6
  have N70 := Fr.snoc X70 N54 g_a1
  have K70 : Keep h0 h70 [a1] := K54.wr W70 (Or.inl (List.mem_of_getElem? (i := 0) rfl))
  have Z70 : n0 ≤ h70.size := Nat.le_trans Z54 (Nat.le_of_eq W70.size.symm)
  show Go p e below _ (T70.setTop (mkF m 31 #[.val (.ref a1), .val (.int (2 : Int32)), .val (.ref a3), .val (.ref a4), .val (.ref a5), .val (.ref a6), .val (.ref a7), .val (.int p8), .val (.int p9), .val (.int p10), .val (.int p11), .unset, .unset, .unset, .unset, .unset] []))
  refine go (fun _ q => XS.aloadN X70.here hx rfl (hb hby d2_31) rfl rfl q) ?_
  show Go p e below _ (T70.setTop (mkF m 32 #[.val (.ref a1), .val (.int (2 : Int32)), .val (.ref a3), .val (.ref a4), .val (.ref a5), .val (.ref a6), .val (.ref a7), .val (.int p8), .val (.int p9), .val (.int p10), .val (.int p11), .unset, .unset, .unset, .unset, .unset] [(.ref a1)]))
  refine go (fun _ q => XS.iload X70.here hx rfl (hb hby d2_32) rfl q) ?_
  show Go p e below _ (T70.setTop (mkF m 34 #[.val (.ref a1), .val (.int (2 : Int32)), .val (.ref a3), .val (.ref a4), .val (.ref a5), .val (.ref a6), .val (.ref a7), .val (.int p8), .val (.int p9), .val (.int p10), .val (.int p11), .unset, .unset, .unset, .unset, .unset] [(.int p10), (.ref a1)]))
  obtain ⟨T85, h85, X85, e85, W85, st85⟩ := putF X70 hx hZ hown (host := "") (Or.inl (hw _ (List.mem_of_getElem? (i := 25) rfl))) Via.refl e70 F_cost_73 E_a1_71 (Or.inr ⟨(hw _ (List.mem_of_getElem? (i := 26) rfl)), rfl, hnm⟩) (hw _ (List.mem_of_getElem? (i := 7) rfl)) (ty := .int) (by decide) rfl rfl (g := (mkF m 34 #[.val (.ref a1), .val (.int (2 : Int32)), .val (.ref a3), .val (.ref a4), .val (.ref a5), .val (.ref a6), .val (.ref a7), .val (.int p8), .val (.int p9), .val (.int p10), .val (.int p11), .unset, .unset, .unset, .unset, .unset] [(.int p10), (.ref a1)])) rfl rfl (hb hby d2_34)
  refine go st85 ?_
  have F_cost_85 : Fld Z h85 a1 "com/example/junctura/junctura/conformance/OptimalPaths" "cost" "I" (.int p10) := F_cost_73.same W85
  have E_a1_86 : Exa Z h85 a1 "com/example/junctura/junctura/conformance/OptimalPaths" := E_a1_71.wr W85
  have F_marking_87 : Fld Z h85 a1 "com/example/junctura/junctura/conformance/OptimalPaths" "marking" "[I" (.ref a3) := F_marking_72.other W85 (Or.inr (slot_ne (Or.inr (hw _ (List.mem_of_getElem? (i := 18) rfl))) (Or.inr (hw _ (List.mem_of_getElem? (i := 26) rfl))) (by decide) (t := (.array .int)) (t' := .int) (by decide) (by decide)))
  have F_logMoves_88 : Fld Z h85 a1 "com/example/junctura/junctura/conformance/OptimalPaths" "logMoves" "I" u_logMoves := F_logMoves_74.other W85 (Or.inr (slot_ne (Or.inr (hw _ (List.mem_of_getElem? (i := 28) rfl))) (Or.inr (hw _ (List.mem_of_getElem? (i := 26) rfl))) (by decide) (t := .int) (t' := .int) (by decide) (by decide)))
  have F_firstAt_89 : Fld Z h85 a1 "com/example/junctura/junctura/conformance/OptimalPaths" "firstAt" "[I" u_firstAt := F_firstAt_75.other W85 (Or.inr (slot_ne (Or.inr (hw _ (List.mem_of_getElem? (i := 30) rfl))) (Or.inr (hw _ (List.mem_of_getElem? (i := 26) rfl))) (by decide) (t := (.array .int)) (t' := .int) (by decide) (by decide)))
  have F_firstOut_90 : Fld Z h85 a1 "com/example/junctura/junctura/conformance/OptimalPaths" "firstOut" "[I" u_firstOut := F_firstOut_76.other W85 (Or.inr (slot_ne (Or.inr (hw _ (List.mem_of_getElem? (i := 35) rfl))) (Or.inr (hw _ (List.mem_of_getElem? (i := 26) rfl))) (by decide) (t := (.array .int)) (t' := .int) (by decide) (by decide)))
  have F_firstIn_91 : Fld Z h85 a1 "com/example/junctura/junctura/conformance/OptimalPaths" "firstIn" "[I" u_firstIn := F_firstIn_77.other W85 (Or.inr (slot_ne (Or.inr (hw _ (List.mem_of_getElem? (i := 37) rfl))) (Or.inr (hw _ (List.mem_of_getElem? (i := 26) rfl))) (by decide) (t := (.array .int)) (t' := .int) (by decide) (by decide)))
  have F_target_92 : Fld Z h85 a1 "com/example/junctura/junctura/conformance/OptimalPaths" "target" "[I" u_target := F_target_78.other W85 (Or.inr (slot_ne (Or.inr (hw _ (List.mem_of_getElem? (i := 39) rfl))) (Or.inr (hw _ (List.mem_of_getElem? (i := 26) rfl))) (by decide) (t := (.array .int)) (t' := .int) (by decide) (by decide)))
  have F_transition_93 : Fld Z h85 a1 "com/example/junctura/junctura/conformance/OptimalPaths" "transition" "[I" u_transition := F_transition_79.other W85 (Or.inr (slot_ne (Or.inr (hw _ (List.mem_of_getElem? (i := 41) rfl))) (Or.inr (hw _ (List.mem_of_getElem? (i := 26) rfl))) (by decide) (t := (.array .int)) (t' := .int) (by decide) (by decide)))
  have F_source_94 : Fld Z h85 a1 "com/example/junctura/junctura/conformance/OptimalPaths" "source" "[I" u_source := F_source_80.other W85 (Or.inr (slot_ne (Or.inr (hw _ (List.mem_of_getElem? (i := 43) rfl))) (Or.inr (hw _ (List.mem_of_getElem? (i := 26) rfl))) (by decide) (t := (.array .int)) (t' := .int) (by decide) (by decide)))
  have P_95 : Ari Z h85 a3 ([m0, m1, m2, m3] : List Int32) := P_81.other W85 ne3
  have P_96 : Ari Z h85 a4 ([q0, q1, q2, q3] : List Int32) := P_82.other W85 ne4
  have P_97 : Ari Z h85 a5 ([] : List Int32) := P_83.other W85 ne5
  have P_98 : Ari Z h85 a6 ([] : List Int32) := P_84.other W85 ne6
  have N85 := Fr.snoc X85 N70 g_a1
  have K85 : Keep h0 h85 [a1] := K70.wr W85 (Or.inl (List.mem_of_getElem? (i := 0) rfl))
  have Z85 : n0 ≤ h85.size := Nat.le_trans Z70 (Nat.le_of_eq W85.size.symm)
  show Go p e below _ (T85.setTop (mkF m 37 #[.val (.ref a1), .val (.int (2 : Int32)), .val (.ref a3), .val (.ref a4), .val (.ref a5), .val (.ref a6), .val (.ref a7), .val (.int p8), .val (.int p9), .val (.int p10), .val (.int p11), .unset, .unset, .unset, .unset, .unset] []))
  refine go (fun _ q => XS.aloadN X85.here hx rfl (hb hby d2_37) rfl rfl q) ?_
  show Go p e below _ (T85.setTop (mkF m 38 #[.val (.ref a1), .val (.int (2 : Int32)), .val (.ref a3), .val (.ref a4), .val (.ref a5), .val (.ref a6), .val (.ref a7), .val (.int p8), .val (.int p9), .val (.int p10), .val (.int p11), .unset, .unset, .unset, .unset, .unset] [(.ref a1)]))
  refine go (fun _ q => XS.iload X85.here hx rfl (hb hby d2_38) rfl q) ?_
  show Go p e below _ (T85.setTop (mkF m 40 #[.val (.ref a1), .val (.int (2 : Int32)), .val (.ref a3), .val (.ref a4), .val (.ref a5), .val (.ref a6), .val (.ref a7), .val (.int p8), .val (.int p9), .val (.int p10), .val (.int p11), .unset, .unset, .unset, .unset, .unset] [(.int p11), (.ref a1)]))
  obtain ⟨T99, h99, X99, e99, W99, st99⟩ := putF X85 hx hZ hown (host := "") (Or.inl (hw _ (List.mem_of_getElem? (i := 27) rfl))) Via.refl e85 F_logMoves_88 E_a1_86 (Or.inr ⟨(hw _ (List.mem_of_getElem? (i := 28) rfl)), rfl, hnm⟩) (hw _ (List.mem_of_getElem? (i := 7) rfl)) (ty := .int) (by decide) rfl rfl (g := (mkF m 40 #[.val (.ref a1), .val (.int (2 : Int32)), .val (.ref a3), .val (.ref a4), .val (.ref a5), .val (.ref a6), .val (.ref a7), .val (.int p8), .val (.int p9), .val (.int p10), .val (.int p11), .unset, .unset, .unset, .unset, .unset] [(.int p11), (.ref a1)])) rfl rfl (hb hby d2_40)
  refine go st99 ?_
  have F_logMoves_99 : Fld Z h99 a1 "com/example/junctura/junctura/conformance/OptimalPaths" "logMoves" "I" (.int p11) := F_logMoves_88.same W99
  have E_a1_100 : Exa Z h99 a1 "com/example/junctura/junctura/conformance/OptimalPaths" := E_a1_86.wr W99
  have F_marking_101 : Fld Z h99 a1 "com/example/junctura/junctura/conformance/OptimalPaths" "marking" "[I" (.ref a3) := F_marking_87.other W99 (Or.inr (slot_ne (Or.inr (hw _ (List.mem_of_getElem? (i := 18) rfl))) (Or.inr (hw _ (List.mem_of_getElem? (i := 28) rfl))) (by decide) (t := (.array .int)) (t' := .int) (by decide) (by decide)))
  have F_firstAt_102 : Fld Z h99 a1 "com/example/junctura/junctura/conformance/OptimalPaths" "firstAt" "[I" u_firstAt := F_firstAt_89.other W99 (Or.inr (slot_ne (Or.inr (hw _ (List.mem_of_getElem? (i := 30) rfl))) (Or.inr (hw _ (List.mem_of_getElem? (i := 28) rfl))) (by decide) (t := (.array .int)) (t' := .int) (by decide) (by decide)))
  have F_firstOut_103 : Fld Z h99 a1 "com/example/junctura/junctura/conformance/OptimalPaths" "firstOut" "[I" u_firstOut := F_firstOut_90.other W99 (Or.inr (slot_ne (Or.inr (hw _ (List.mem_of_getElem? (i := 35) rfl))) (Or.inr (hw _ (List.mem_of_getElem? (i := 28) rfl))) (by decide) (t := (.array .int)) (t' := .int) (by decide) (by decide)))
  have F_firstIn_104 : Fld Z h99 a1 "com/example/junctura/junctura/conformance/OptimalPaths" "firstIn" "[I" u_firstIn := F_firstIn_91.other W99 (Or.inr (slot_ne (Or.inr (hw _ (List.mem_of_getElem? (i := 37) rfl))) (Or.inr (hw _ (List.mem_of_getElem? (i := 28) rfl))) (by decide) (t := (.array .int)) (t' := .int) (by decide) (by decide)))
  have F_target_105 : Fld Z h99 a1 "com/example/junctura/junctura/conformance/OptimalPaths" "target" "[I" u_target := F_target_92.other W99 (Or.inr (slot_ne (Or.inr (hw _ (List.mem_of_getElem? (i := 39) rfl))) (Or.inr (hw _ (List.mem_of_getElem? (i := 28) rfl))) (by decide) (t := (.array .int)) (t' := .int) (by decide) (by decide)))
  have F_transition_106 : Fld Z h99 a1 "com/example/junctura/junctura/conformance/OptimalPaths" "transition" "[I" u_transition := F_transition_93.other W99 (Or.inr (slot_ne (Or.inr (hw _ (List.mem_of_getElem? (i := 41) rfl))) (Or.inr (hw _ (List.mem_of_getElem? (i := 28) rfl))) (by decide) (t := (.array .int)) (t' := .int) (by decide) (by decide)))
  have F_source_107 : Fld Z h99 a1 "com/example/junctura/junctura/conformance/OptimalPaths" "source" "[I" u_source := F_source_94.other W99 (Or.inr (slot_ne (Or.inr (hw _ (List.mem_of_getElem? (i := 43) rfl))) (Or.inr (hw _ (List.mem_of_getElem? (i := 28) rfl))) (by decide) (t := (.array .int)) (t' := .int) (by decide) (by decide)))
  have P_108 : Ari Z h99 a3 ([m0, m1, m2, m3] : List Int32) := P_95.other W99 ne3
  have P_109 : Ari Z h99 a4 ([q0, q1, q2, q3] : List Int32) := P_96.other W99 ne4
  have P_110 : Ari Z h99 a5 ([] : List Int32) := P_97.other W99 ne5
  have P_111 : Ari Z h99 a6 ([] : List Int32) := P_98.other W99 ne6
  have N99 := Fr.snoc X99 N85 g_a1
  have K99 : Keep h0 h99 [a1] := K85.wr W99 (Or.inl (List.mem_of_getElem? (i := 0) rfl))
  have Z99 : n0 ≤ h99.size := Nat.le_trans Z85 (Nat.le_of_eq W99.size.symm)
  show Go p e below _ (T99.setTop (mkF m 43 #[.val (.ref a1), .val (.int (2 : Int32)), .val (.ref a3), .val (.ref a4), .val (.ref a5), .val (.ref a6), .val (.ref a7), .val (.int p8), .val (.int p9), .val (.int p10), .val (.int p11), .unset, .unset, .unset, .unset, .unset] []))
  refine go (fun _ q => XS.aloadN X99.here hx rfl (hb hby d2_43) rfl rfl q) ?_
  show Go p e below _ (T99.setTop (mkF m 44 #[.val (.ref a1), .val (.int (2 : Int32)), .val (.ref a3), .val (.ref a4), .val (.ref a5), .val (.ref a6), .val (.ref a7), .val (.int p8), .val (.int p9), .val (.int p10), .val (.int p11), .unset, .unset, .unset, .unset, .unset] [(.ref a3)]))
  refine go (own_arilen X99 hx hZ e99 P_108 (g := (mkF m 44 #[.val (.ref a1), .val (.int (2 : Int32)), .val (.ref a3), .val (.ref a4), .val (.ref a5), .val (.ref a6), .val (.ref a7), .val (.int p8), .val (.int p9), .val (.int p10), .val (.int p11), .unset, .unset, .unset, .unset, .unset] [(.ref a3)])) rfl rfl (hb hby d2_44)) ?_
  show Go p e below _ (T99.setTop (mkF m 45 #[.val (.ref a1), .val (.int (2 : Int32)), .val (.ref a3), .val (.ref a4), .val (.ref a5), .val (.ref a6), .val (.ref a7), .val (.int p8), .val (.int p9), .val (.int p10), .val (.int p11), .unset, .unset, .unset, .unset, .unset] [(.int (4 : Int32))]))
  refine go (fun _ q => XS.istore X99.here hx rfl (hb hby d2_45) rfl (l' := #[.val (.ref a1), .val (.int (2 : Int32)), .val (.ref a3), .val (.ref a4), .val (.ref a5), .val (.ref a6), .val (.ref a7), .val (.int p8), .val (.int p9), .val (.int p10), .val (.int p11), .val (.int (4 : Int32)), .unset, .unset, .unset, .unset]) rfl q) ?_
  show Go p e below _ (T99.setTop (mkF m 47 #[.val (.ref a1), .val (.int (2 : Int32)), .val (.ref a3), .val (.ref a4), .val (.ref a5), .val (.ref a6), .val (.ref a7), .val (.int p8), .val (.int p9), .val (.int p10), .val (.int p11), .val (.int (4 : Int32)), .unset, .unset, .unset, .unset] []))
  refine go (fun _ q => XS.aloadN X99.here hx rfl (hb hby d2_47) rfl rfl q) ?_
  show Go p e below _ (T99.setTop (mkF m 48 #[.val (.ref a1), .val (.int (2 : Int32)), .val (.ref a3), .val (.ref a4), .val (.ref a5), .val (.ref a6), .val (.ref a7), .val (.int p8), .val (.int p9), .val (.int p10), .val (.int p11), .val (.int (4 : Int32)), .unset, .unset, .unset, .unset] [(.ref a1)]))
  refine go (fun _ q => XS.iloadN X99.here hx rfl (hb hby d2_48) rfl q) ?_
  show Go p e below _ (T99.setTop (mkF m 49 #[.val (.ref a1), .val (.int (2 : Int32)), .val (.ref a3), .val (.ref a4), .val (.ref a5), .val (.ref a6), .val (.ref a7), .val (.int p8), .val (.int p9), .val (.int p10), .val (.int p11), .val (.int (4 : Int32)), .unset, .unset, .unset, .unset] [(.int (2 : Int32)), (.ref a1)]))
  refine go (fun _ q => XS.iconst X99.here hx rfl (hb hby d2_49) q) ?_
  show Go p e below _ (T99.setTop (mkF m 50 #[.val (.ref a1), .val (.int (2 : Int32)), .val (.ref a3), .val (.ref a4), .val (.ref a5), .val (.ref a6), .val (.ref a7), .val (.int p8), .val (.int p9), .val (.int p10), .val (.int p11), .val (.int (4 : Int32)), .unset, .unset, .unset, .unset] [(.int (2 : Int32)), (.int (2 : Int32)), (.ref a1)]))
  refine go (fun _ q => XS.iadd X99.here hx rfl (hb hby d2_50) rfl q) ?_
  show Go p e below _ (T99.setTop (mkF m 51 #[.val (.ref a1), .val (.int (2 : Int32)), .val (.ref a3), .val (.ref a4), .val (.ref a5), .val (.ref a6), .val (.ref a7), .val (.int p8), .val (.int p9), .val (.int p10), .val (.int p11), .val (.int (4 : Int32)), .unset, .unset, .unset, .unset] [(.int (4 : Int32)), (.ref a1)]))
  obtain ⟨T112, h112, k112, X112, e112, E112, A112, st112⟩ := newP X99 hx hZ (hw _ (List.mem_of_getElem? (i := 5) rfl)) e99 (g := (mkF m 51 #[.val (.ref a1), .val (.int (2 : Int32)), .val (.ref a3), .val (.ref a4), .val (.ref a5), .val (.ref a6), .val (.ref a7), .val (.int p8), .val (.int p9), .val (.int p10), .val (.int p11), .val (.int (4 : Int32)), .unset, .unset, .unset, .unset] [(.int (4 : Int32)), (.ref a1)])) rfl (hb hby d2_51) rfl (by decide) (cap := 4) (by decide) (by decide) (by decide) (by decide)
  obtain ⟨b112, g112⟩ : ∃ z, z = h99.size := ⟨_, rfl⟩
  rw [← g112] at A112 st112
  refine go st112 ?_
  have ne_a1_b112 : a1 ≠ b112 := Nat.ne_of_lt (Nat.lt_of_lt_of_le E_a1_100.lt (Nat.le_of_eq g112.symm))
  have ne_a3_b112 : a3 ≠ b112 := Nat.ne_of_lt (Nat.lt_of_lt_of_le P_108.lt (Nat.le_of_eq g112.symm))
  have ne_a4_b112 : a4 ≠ b112 := Nat.ne_of_lt (Nat.lt_of_lt_of_le P_109.lt (Nat.le_of_eq g112.symm))
  have ne_a5_b112 : a5 ≠ b112 := Nat.ne_of_lt (Nat.lt_of_lt_of_le P_110.lt (Nat.le_of_eq g112.symm))
  have ne_a6_b112 : a6 ≠ b112 := Nat.ne_of_lt (Nat.lt_of_lt_of_le P_111.lt (Nat.le_of_eq g112.symm))
  have g_b112 : n0 ≤ b112 := Nat.le_trans Z99 (Nat.le_of_eq g112.symm)
  have sz_b112 : h0.size ≤ b112 := Nat.le_trans K99.1 (Nat.le_of_eq g112.symm)
  have Z112 : n0 ≤ h112.size := Nat.le_trans Z99 E112.1
  have E_a1_113 : Exa Z h112 a1 "com/example/junctura/junctura/conformance/OptimalPaths" := E_a1_100.ext E112
  have F_marking_114 : Fld Z h112 a1 "com/example/junctura/junctura/conformance/OptimalPaths" "marking" "[I" (.ref a3) := F_marking_101.ext E112
  have F_firstAt_115 : Fld Z h112 a1 "com/example/junctura/junctura/conformance/OptimalPaths" "firstAt" "[I" u_firstAt := F_firstAt_102.ext E112
  have F_firstOut_116 : Fld Z h112 a1 "com/example/junctura/junctura/conformance/OptimalPaths" "firstOut" "[I" u_firstOut := F_firstOut_103.ext E112
  have F_firstIn_117 : Fld Z h112 a1 "com/example/junctura/junctura/conformance/OptimalPaths" "firstIn" "[I" u_firstIn := F_firstIn_104.ext E112
  have F_target_118 : Fld Z h112 a1 "com/example/junctura/junctura/conformance/OptimalPaths" "target" "[I" u_target := F_target_105.ext E112
  have F_transition_119 : Fld Z h112 a1 "com/example/junctura/junctura/conformance/OptimalPaths" "transition" "[I" u_transition := F_transition_106.ext E112
  have F_source_120 : Fld Z h112 a1 "com/example/junctura/junctura/conformance/OptimalPaths" "source" "[I" u_source := F_source_107.ext E112
  have P_121 : Ari Z h112 a3 ([m0, m1, m2, m3] : List Int32) := P_108.ext E112
  have P_122 : Ari Z h112 a4 ([q0, q1, q2, q3] : List Int32) := P_109.ext E112
  have P_123 : Ari Z h112 a5 ([] : List Int32) := P_110.ext E112
  have P_124 : Ari Z h112 a6 ([] : List Int32) := P_111.ext E112
  have K112 : Keep h0 h112 [a1] := K99.ext E112
  have P112 : Ari Z h112 b112 ([(0 : Int32), (0 : Int32), (0 : Int32), (0 : Int32)] : List Int32) := own_fresh A112 (by decide) (m := 4) rfl
  show Go p e below _ (T112.setTop (mkF m 53 #[.val (.ref a1), .val (.int (2 : Int32)), .val (.ref a3), .val (.ref a4), .val (.ref a5), .val (.ref a6), .val (.ref a7), .val (.int p8), .val (.int p9), .val (.int p10), .val (.int p11), .val (.int (4 : Int32)), .unset, .unset, .unset, .unset] [(.ref b112), (.ref a1)]))
  obtain ⟨T125, h125, X125, e125, W125, st125⟩ := putF X112 hx hZ hown (host := "") (Or.inl (hw _ (List.mem_of_getElem? (i := 29) rfl))) Via.refl e112 F_firstAt_115 E_a1_113 (Or.inr ⟨(hw _ (List.mem_of_getElem? (i := 30) rfl)), rfl, hnm⟩) (hw _ (List.mem_of_getElem? (i := 7) rfl)) (ty := (.array .int)) (by decide) rfl rfl (g := (mkF m 53 #[.val (.ref a1), .val (.int (2 : Int32)), .val (.ref a3), .val (.ref a4), .val (.ref a5), .val (.ref a6), .val (.ref a7), .val (.int p8), .val (.int p9), .val (.int p10), .val (.int p11), .val (.int (4 : Int32)), .unset, .unset, .unset, .unset] [(.ref b112), (.ref a1)])) rfl rfl (hb hby d2_53)
  refine go st125 ?_
  have F_firstAt_125 : Fld Z h125 a1 "com/example/junctura/junctura/conformance/OptimalPaths" "firstAt" "[I" (.ref b112) := F_firstAt_115.same W125
  have E_a1_126 : Exa Z h125 a1 "com/example/junctura/junctura/conformance/OptimalPaths" := E_a1_113.wr W125
  have F_marking_127 : Fld Z h125 a1 "com/example/junctura/junctura/conformance/OptimalPaths" "marking" "[I" (.ref a3) := F_marking_114.other W125 (Or.inr (slot_ne (Or.inr (hw _ (List.mem_of_getElem? (i := 18) rfl))) (Or.inr (hw _ (List.mem_of_getElem? (i := 30) rfl))) (by decide) (t := (.array .int)) (t' := (.array .int)) (by decide) (by decide)))
  have F_firstOut_128 : Fld Z h125 a1 "com/example/junctura/junctura/conformance/OptimalPaths" "firstOut" "[I" u_firstOut := F_firstOut_116.other W125 (Or.inr (slot_ne (Or.inr (hw _ (List.mem_of_getElem? (i := 35) rfl))) (Or.inr (hw _ (List.mem_of_getElem? (i := 30) rfl))) (by decide) (t := (.array .int)) (t' := (.array .int)) (by decide) (by decide)))
  have F_firstIn_129 : Fld Z h125 a1 "com/example/junctura/junctura/conformance/OptimalPaths" "firstIn" "[I" u_firstIn := F_firstIn_117.other W125 (Or.inr (slot_ne (Or.inr (hw _ (List.mem_of_getElem? (i := 37) rfl))) (Or.inr (hw _ (List.mem_of_getElem? (i := 30) rfl))) (by decide) (t := (.array .int)) (t' := (.array .int)) (by decide) (by decide)))
  have F_target_130 : Fld Z h125 a1 "com/example/junctura/junctura/conformance/OptimalPaths" "target" "[I" u_target := F_target_118.other W125 (Or.inr (slot_ne (Or.inr (hw _ (List.mem_of_getElem? (i := 39) rfl))) (Or.inr (hw _ (List.mem_of_getElem? (i := 30) rfl))) (by decide) (t := (.array .int)) (t' := (.array .int)) (by decide) (by decide)))
  have F_transition_131 : Fld Z h125 a1 "com/example/junctura/junctura/conformance/OptimalPaths" "transition" "[I" u_transition := F_transition_119.other W125 (Or.inr (slot_ne (Or.inr (hw _ (List.mem_of_getElem? (i := 41) rfl))) (Or.inr (hw _ (List.mem_of_getElem? (i := 30) rfl))) (by decide) (t := (.array .int)) (t' := (.array .int)) (by decide) (by decide)))
  have F_source_132 : Fld Z h125 a1 "com/example/junctura/junctura/conformance/OptimalPaths" "source" "[I" u_source := F_source_120.other W125 (Or.inr (slot_ne (Or.inr (hw _ (List.mem_of_getElem? (i := 43) rfl))) (Or.inr (hw _ (List.mem_of_getElem? (i := 30) rfl))) (by decide) (t := (.array .int)) (t' := (.array .int)) (by decide) (by decide)))
  have P_133 : Ari Z h125 a3 ([m0, m1, m2, m3] : List Int32) := P_121.other W125 ne3
  have P_134 : Ari Z h125 a4 ([q0, q1, q2, q3] : List Int32) := P_122.other W125 ne4
  have P_135 : Ari Z h125 a5 ([] : List Int32) := P_123.other W125 ne5
  have P_136 : Ari Z h125 a6 ([] : List Int32) := P_124.other W125 ne6
  have P_137 : Ari Z h125 b112 ([(0 : Int32), (0 : Int32), (0 : Int32), (0 : Int32)] : List Int32) := P112.other W125 (Ne.symm ne_a1_b112)
  have N125 := Fr.snoc X125 N99 g_a1
  have K125 : Keep h0 h125 [a1] := K112.wr W125 (Or.inl (List.mem_of_getElem? (i := 0) rfl))
  have Z125 : n0 ≤ h125.size := Nat.le_trans Z112 (Nat.le_of_eq W125.size.symm)
  show Go p e below _ (T125.setTop (mkF m 56 #[.val (.ref a1), .val (.int (2 : Int32)), .val (.ref a3), .val (.ref a4), .val (.ref a5), .val (.ref a6), .val (.ref a7), .val (.int p8), .val (.int p9), .val (.int p10), .val (.int p11), .val (.int (4 : Int32)), .unset, .unset, .unset, .unset] []))
  refine go (fun _ q => XS.iconst X125.here hx rfl (hb hby d2_56) q) ?_
  show Go p e below _ (T125.setTop (mkF m 57 #[.val (.ref a1), .val (.int (2 : Int32)), .val (.ref a3), .val (.ref a4), .val (.ref a5), .val (.ref a6), .val (.ref a7), .val (.int p8), .val (.int p9), .val (.int p10), .val (.int p11), .val (.int (4 : Int32)), .unset, .unset, .unset, .unset] [(.int (0 : Int32))]))
  refine go (fun _ q => XS.istore X125.here hx rfl (hb hby d2_57) rfl (l' := #[.val (.ref a1), .val (.int (2 : Int32)), .val (.ref a3), .val (.ref a4), .val (.ref a5), .val (.ref a6), .val (.ref a7), .val (.int p8), .val (.int p9), .val (.int p10), .val (.int p11), .val (.int (4 : Int32)), .val (.int (0 : Int32)), .unset, .unset, .unset]) rfl q) ?_
  show Go p e below _ (T125.setTop (mkF m 59 #[.val (.ref a1), .val (.int (2 : Int32)), .val (.ref a3), .val (.ref a4), .val (.ref a5), .val (.ref a6), .val (.ref a7), .val (.int p8), .val (.int p9), .val (.int p10), .val (.int p11), .val (.int (4 : Int32)), .val (.int (0 : Int32)), .unset, .unset, .unset] []))
  refine go (fun _ q => XS.iload X125.here hx rfl (hb hby d2_59) rfl q) ?_
  show Go p e below _ (T125.setTop (mkF m 61 #[.val (.ref a1), .val (.int (2 : Int32)), .val (.ref a3), .val (.ref a4), .val (.ref a5), .val (.ref a6), .val (.ref a7), .val (.int p8), .val (.int p9), .val (.int p10), .val (.int p11), .val (.int (4 : Int32)), .val (.int (0 : Int32)), .unset, .unset, .unset] [(.int (0 : Int32))]))
  refine go (fun _ q => XS.iload X125.here hx rfl (hb hby d2_61) rfl q) ?_
  show Go p e below _ (T125.setTop (mkF m 63 #[.val (.ref a1), .val (.int (2 : Int32)), .val (.ref a3), .val (.ref a4), .val (.ref a5), .val (.ref a6), .val (.ref a7), .val (.int p8), .val (.int p9), .val (.int p10), .val (.int p11), .val (.int (4 : Int32)), .val (.int (0 : Int32)), .unset, .unset, .unset] [(.int (4 : Int32)), (.int (0 : Int32))]))
  refine go (fun _ q => XS.icmpNo X125.here hx rfl (hb hby d2_63) rfl (tlt (by decide : (0 : Int32) < (4 : Int32))).2.1 q) ?_
  show Go p e below _ (T125.setTop (mkF m 66 #[.val (.ref a1), .val (.int (2 : Int32)), .val (.ref a3), .val (.ref a4), .val (.ref a5), .val (.ref a6), .val (.ref a7), .val (.int p8), .val (.int p9), .val (.int p10), .val (.int p11), .val (.int (4 : Int32)), .val (.int (0 : Int32)), .unset, .unset, .unset] []))
  refine go (fun _ q => XS.aloadN X125.here hx rfl (hb hby d2_66) rfl rfl q) ?_
  show Go p e below _ (T125.setTop (mkF m 67 #[.val (.ref a1), .val (.int (2 : Int32)), .val (.ref a3), .val (.ref a4), .val (.ref a5), .val (.ref a6), .val (.ref a7), .val (.int p8), .val (.int p9), .val (.int p10), .val (.int p11), .val (.int (4 : Int32)), .val (.int (0 : Int32)), .unset, .unset, .unset] [(.ref a1)]))
  obtain ⟨T138, X138, e138, st138⟩ := getF X125 hx hZ hown (host := "") (Or.inl (hw _ (List.mem_of_getElem? (i := 29) rfl))) Via.refl e125 F_firstAt_125 (g := (mkF m 67 #[.val (.ref a1), .val (.int (2 : Int32)), .val (.ref a3), .val (.ref a4), .val (.ref a5), .val (.ref a6), .val (.ref a7), .val (.int p8), .val (.int p9), .val (.int p10), .val (.int p11), .val (.int (4 : Int32)), .val (.int (0 : Int32)), .unset, .unset, .unset] [(.ref a1)])) rfl rfl (hb hby d2_67)
  refine go st138 ?_
  show Go p e below _ (T138.setTop (mkF m 70 #[.val (.ref a1), .val (.int (2 : Int32)), .val (.ref a3), .val (.ref a4), .val (.ref a5), .val (.ref a6), .val (.ref a7), .val (.int p8), .val (.int p9), .val (.int p10), .val (.int p11), .val (.int (4 : Int32)), .val (.int (0 : Int32)), .unset, .unset, .unset] [(.ref b112)]))
  refine go (fun _ q => XS.aloadN X138.here hx rfl (hb hby d2_70) rfl rfl q) ?_
  show Go p e below _ (T138.setTop (mkF m 71 #[.val (.ref a1), .val (.int (2 : Int32)), .val (.ref a3), .val (.ref a4), .val (.ref a5), .val (.ref a6), .val (.ref a7), .val (.int p8), .val (.int p9), .val (.int p10), .val (.int p11), .val (.int (4 : Int32)), .val (.int (0 : Int32)), .unset, .unset, .unset] [(.ref a4), (.ref b112)]))
  refine go (fun _ q => XS.iload X138.here hx rfl (hb hby d2_71) rfl q) ?_
  show Go p e below _ (T138.setTop (mkF m 73 #[.val (.ref a1), .val (.int (2 : Int32)), .val (.ref a3), .val (.ref a4), .val (.ref a5), .val (.ref a6), .val (.ref a7), .val (.int p8), .val (.int p9), .val (.int p10), .val (.int p11), .val (.int (4 : Int32)), .val (.int (0 : Int32)), .unset, .unset, .unset] [(.int (0 : Int32)), (.ref a4), (.ref b112)]))
  refine go (own_iaload X138 hx hZ e138 P_134 (j := (0 : Int32)) (by decide) (Nat.le_of_ble_eq_true rfl) (g := (mkF m 73 #[.val (.ref a1), .val (.int (2 : Int32)), .val (.ref a3), .val (.ref a4), .val (.ref a5), .val (.ref a6), .val (.ref a7), .val (.int p8), .val (.int p9), .val (.int p10), .val (.int p11), .val (.int (4 : Int32)), .val (.int (0 : Int32)), .unset, .unset, .unset] [(.int (0 : Int32)), (.ref a4), (.ref b112)])) rfl rfl (hb hby d2_73)) ?_
  show Go p e below _ (T138.setTop (mkF m 74 #[.val (.ref a1), .val (.int (2 : Int32)), .val (.ref a3), .val (.ref a4), .val (.ref a5), .val (.ref a6), .val (.ref a7), .val (.int p8), .val (.int p9), .val (.int p10), .val (.int p11), .val (.int (4 : Int32)), .val (.int (0 : Int32)), .unset, .unset, .unset] [(.int q0), (.ref b112)]))
  refine go (fun _ q => XS.iconst X138.here hx rfl (hb hby d2_74) q) ?_
  show Go p e below _ (T138.setTop (mkF m 75 #[.val (.ref a1), .val (.int (2 : Int32)), .val (.ref a3), .val (.ref a4), .val (.ref a5), .val (.ref a6), .val (.ref a7), .val (.int p8), .val (.int p9), .val (.int p10), .val (.int p11), .val (.int (4 : Int32)), .val (.int (0 : Int32)), .unset, .unset, .unset] [(.int (1 : Int32)), (.int q0), (.ref b112)]))
  refine go (fun _ q => XS.iadd X138.here hx rfl (hb hby d2_75) rfl q) ?_
  show Go p e below _ (T138.setTop (mkF m 76 #[.val (.ref a1), .val (.int (2 : Int32)), .val (.ref a3), .val (.ref a4), .val (.ref a5), .val (.ref a6), .val (.ref a7), .val (.int p8), .val (.int p9), .val (.int p10), .val (.int p11), .val (.int (4 : Int32)), .val (.int (0 : Int32)), .unset, .unset, .unset] [(.int (q0 + (1 : Int32))), (.ref b112)]))
  refine go (S' := T138.setTop (mkF m 77 #[.val (.ref a1), .val (.int (2 : Int32)), .val (.ref a3), .val (.ref a4), .val (.ref a5), .val (.ref a6), .val (.ref a7), .val (.int p8), .val (.int p9), .val (.int p10), .val (.int p11), .val (.int (4 : Int32)), .val (.int (0 : Int32)), .unset, .unset, .unset] [(.int (q0 + (1 : Int32))), (.ref b112), (.int (q0 + (1 : Int32))), (.ref b112)])) (fun _ q => by jvm_step X138.here [X138.here.top, hx, (hb hby d2_76), Value.category]; exact q) ?_
  show Go p e below _ (T138.setTop (mkF m 77 #[.val (.ref a1), .val (.int (2 : Int32)), .val (.ref a3), .val (.ref a4), .val (.ref a5), .val (.ref a6), .val (.ref a7), .val (.int p8), .val (.int p9), .val (.int p10), .val (.int p11), .val (.int (4 : Int32)), .val (.int (0 : Int32)), .unset, .unset, .unset] [(.int (q0 + (1 : Int32))), (.ref b112), (.int (q0 + (1 : Int32))), (.ref b112)]))
  refine go (own_iaload X138 hx hZ e138 P_137 (j := (q0 + (1 : Int32))) (own_i1 hq0).1 (own_i1 hq0).2 (g := (mkF m 77 #[.val (.ref a1), .val (.int (2 : Int32)), .val (.ref a3), .val (.ref a4), .val (.ref a5), .val (.ref a6), .val (.ref a7), .val (.int p8), .val (.int p9), .val (.int p10), .val (.int p11), .val (.int (4 : Int32)), .val (.int (0 : Int32)), .unset, .unset, .unset] [(.int (q0 + (1 : Int32))), (.ref b112), (.int (q0 + (1 : Int32))), (.ref b112)])) rfl rfl (hb hby d2_77)) ?_
  show Go p e below _ (T138.setTop (mkF m 78 #[.val (.ref a1), .val (.int (2 : Int32)), .val (.ref a3), .val (.ref a4), .val (.ref a5), .val (.ref a6), .val (.ref a7), .val (.int p8), .val (.int p9), .val (.int p10), .val (.int p11), .val (.int (4 : Int32)), .val (.int (0 : Int32)), .unset, .unset, .unset] [(.int (([(0 : Int32), (0 : Int32), (0 : Int32), (0 : Int32)] : List Int32).getD ((q0 + (1 : Int32))).toNatClampNeg 0)), (.int (q0 + (1 : Int32))), (.ref b112)]))
  generalize hv139 : (([(0 : Int32), (0 : Int32), (0 : Int32), (0 : Int32)] : List Int32).getD ((q0 + (1 : Int32))).toNatClampNeg 0) = v139
  show Go p e below _ (T138.setTop (mkF m 78 #[.val (.ref a1), .val (.int (2 : Int32)), .val (.ref a3), .val (.ref a4), .val (.ref a5), .val (.ref a6), .val (.ref a7), .val (.int p8), .val (.int p9), .val (.int p10), .val (.int p11), .val (.int (4 : Int32)), .val (.int (0 : Int32)), .unset, .unset, .unset] [(.int v139), (.int (q0 + (1 : Int32))), (.ref b112)]))
  show Go p e below _ (T138.setTop (mkF m 78 #[.val (.ref a1), .val (.int (2 : Int32)), .val (.ref a3), .val (.ref a4), .val (.ref a5), .val (.ref a6), .val (.ref a7), .val (.int p8), .val (.int p9), .val (.int p10), .val (.int p11), .val (.int (4 : Int32)), .val (.int (0 : Int32)), .unset, .unset, .unset] [(.int v139), (.int (q0 + (1 : Int32))), (.ref b112)]))
  refine go (fun _ q => XS.iconst X138.here hx rfl (hb hby d2_78) q) ?_
  show Go p e below _ (T138.setTop (mkF m 79 #[.val (.ref a1), .val (.int (2 : Int32)), .val (.ref a3), .val (.ref a4), .val (.ref a5), .val (.ref a6), .val (.ref a7), .val (.int p8), .val (.int p9), .val (.int p10), .val (.int p11), .val (.int (4 : Int32)), .val (.int (0 : Int32)), .unset, .unset, .unset] [(.int (1 : Int32)), (.int v139), (.int (q0 + (1 : Int32))), (.ref b112)]))
  refine go (fun _ q => XS.iadd X138.here hx rfl (hb hby d2_79) rfl q) ?_
  show Go p e below _ (T138.setTop (mkF m 80 #[.val (.ref a1), .val (.int (2 : Int32)), .val (.ref a3), .val (.ref a4), .val (.ref a5), .val (.ref a6), .val (.ref a7), .val (.int p8), .val (.int p9), .val (.int p10), .val (.int p11), .val (.int (4 : Int32)), .val (.int (0 : Int32)), .unset, .unset, .unset] [(.int (v139 + (1 : Int32))), (.int (q0 + (1 : Int32))), (.ref b112)]))
  obtain ⟨T140, h140, X140, e140, W140, V140, st140⟩ := own_iastore X138 hx hZ e138 P_137 (j := (q0 + (1 : Int32))) (x := (v139 + (1 : Int32))) (own_i1 hq0).1 (own_i1 hq0).2 (g := (mkF m 80 #[.val (.ref a1), .val (.int (2 : Int32)), .val (.ref a3), .val (.ref a4), .val (.ref a5), .val (.ref a6), .val (.ref a7), .val (.int p8), .val (.int p9), .val (.int p10), .val (.int p11), .val (.int (4 : Int32)), .val (.int (0 : Int32)), .unset, .unset, .unset] [(.int (v139 + (1 : Int32))), (.int (q0 + (1 : Int32))), (.ref b112)])) rfl rfl (hb hby d2_80)
  refine go st140 ?_
  obtain ⟨xs140, hxs140⟩ : ∃ z, z = (([(0 : Int32), (0 : Int32), (0 : Int32), (0 : Int32)] : List Int32).set ((q0 + (1 : Int32))).toNatClampNeg (v139 + (1 : Int32))) := ⟨_, rfl⟩
  rw [← hxs140] at V140
  have l140 : xs140.length = 4 := by rw [hxs140, List.length_set]; exact rfl
  have P140 : Ari Z h140 b112 xs140 := V140
  have E_a1_141 : Exa Z h140 a1 "com/example/junctura/junctura/conformance/OptimalPaths" := E_a1_126.wr W140
  have F_marking_142 : Fld Z h140 a1 "com/example/junctura/junctura/conformance/OptimalPaths" "marking" "[I" (.ref a3) := F_marking_127.other W140 (Or.inl ne_a1_b112)
  have F_firstAt_143 : Fld Z h140 a1 "com/example/junctura/junctura/conformance/OptimalPaths" "firstAt" "[I" (.ref b112) := F_firstAt_125.other W140 (Or.inl ne_a1_b112)
  have F_firstOut_144 : Fld Z h140 a1 "com/example/junctura/junctura/conformance/OptimalPaths" "firstOut" "[I" u_firstOut := F_firstOut_128.other W140 (Or.inl ne_a1_b112)
  have F_firstIn_145 : Fld Z h140 a1 "com/example/junctura/junctura/conformance/OptimalPaths" "firstIn" "[I" u_firstIn := F_firstIn_129.other W140 (Or.inl ne_a1_b112)
  have F_target_146 : Fld Z h140 a1 "com/example/junctura/junctura/conformance/OptimalPaths" "target" "[I" u_target := F_target_130.other W140 (Or.inl ne_a1_b112)
  have F_transition_147 : Fld Z h140 a1 "com/example/junctura/junctura/conformance/OptimalPaths" "transition" "[I" u_transition := F_transition_131.other W140 (Or.inl ne_a1_b112)
  have F_source_148 : Fld Z h140 a1 "com/example/junctura/junctura/conformance/OptimalPaths" "source" "[I" u_source := F_source_132.other W140 (Or.inl ne_a1_b112)
  have P_149 : Ari Z h140 a3 ([m0, m1, m2, m3] : List Int32) := P_133.other W140 ne_a3_b112
  have P_150 : Ari Z h140 a4 ([q0, q1, q2, q3] : List Int32) := P_134.other W140 ne_a4_b112
  have P_151 : Ari Z h140 a5 ([] : List Int32) := P_135.other W140 ne_a5_b112
  have P_152 : Ari Z h140 a6 ([] : List Int32) := P_136.other W140 ne_a6_b112
  have N140 := Fr.snoc X140 N125 g_b112
  have K140 : Keep h0 h140 [a1] := K125.wr W140 (Or.inr sz_b112)
  have Z140 : n0 ≤ h140.size := Nat.le_trans Z125 (Nat.le_of_eq W140.size.symm)
  show Go p e below _ (T140.setTop (mkF m 81 #[.val (.ref a1), .val (.int (2 : Int32)), .val (.ref a3), .val (.ref a4), .val (.ref a5), .val (.ref a6), .val (.ref a7), .val (.int p8), .val (.int p9), .val (.int p10), .val (.int p11), .val (.int (4 : Int32)), .val (.int (0 : Int32)), .unset, .unset, .unset] []))
  refine go (fun _ q => XS.iinc X140.here hx rfl (hb hby d2_81) rfl (l' := #[.val (.ref a1), .val (.int (2 : Int32)), .val (.ref a3), .val (.ref a4), .val (.ref a5), .val (.ref a6), .val (.ref a7), .val (.int p8), .val (.int p9), .val (.int p10), .val (.int p11), .val (.int (4 : Int32)), .val (.int (1 : Int32)), .unset, .unset, .unset]) rfl q) ?_
  show Go p e below _ (T140.setTop (mkF m 84 #[.val (.ref a1), .val (.int (2 : Int32)), .val (.ref a3), .val (.ref a4), .val (.ref a5), .val (.ref a6), .val (.ref a7), .val (.int p8), .val (.int p9), .val (.int p10), .val (.int p11), .val (.int (4 : Int32)), .val (.int (1 : Int32)), .unset, .unset, .unset] []))
  refine go (fun _ q => XS.goto X140.here hx rfl (pc0 := 84) (pc' := 59) rfl (hb hby d2_84) (by decide) (by decide) q) ?_
  show Go p e below _ (T140.setTop (mkF m 59 #[.val (.ref a1), .val (.int (2 : Int32)), .val (.ref a3), .val (.ref a4), .val (.ref a5), .val (.ref a6), .val (.ref a7), .val (.int p8), .val (.int p9), .val (.int p10), .val (.int p11), .val (.int (4 : Int32)), .val (.int (1 : Int32)), .unset, .unset, .unset] []))
  refine go (fun _ q => XS.iload X140.here hx rfl (hb hby d2_59) rfl q) ?_
  show Go p e below _ (T140.setTop (mkF m 61 #[.val (.ref a1), .val (.int (2 : Int32)), .val (.ref a3), .val (.ref a4), .val (.ref a5), .val (.ref a6), .val (.ref a7), .val (.int p8), .val (.int p9), .val (.int p10), .val (.int p11), .val (.int (4 : Int32)), .val (.int (1 : Int32)), .unset, .unset, .unset] [(.int (1 : Int32))]))
  refine go (fun _ q => XS.iload X140.here hx rfl (hb hby d2_61) rfl q) ?_
  show Go p e below _ (T140.setTop (mkF m 63 #[.val (.ref a1), .val (.int (2 : Int32)), .val (.ref a3), .val (.ref a4), .val (.ref a5), .val (.ref a6), .val (.ref a7), .val (.int p8), .val (.int p9), .val (.int p10), .val (.int p11), .val (.int (4 : Int32)), .val (.int (1 : Int32)), .unset, .unset, .unset] [(.int (4 : Int32)), (.int (1 : Int32))]))
  refine go (fun _ q => XS.icmpNo X140.here hx rfl (hb hby d2_63) rfl (tlt (by decide : (1 : Int32) < (4 : Int32))).2.1 q) ?_
  show Go p e below _ (T140.setTop (mkF m 66 #[.val (.ref a1), .val (.int (2 : Int32)), .val (.ref a3), .val (.ref a4), .val (.ref a5), .val (.ref a6), .val (.ref a7), .val (.int p8), .val (.int p9), .val (.int p10), .val (.int p11), .val (.int (4 : Int32)), .val (.int (1 : Int32)), .unset, .unset, .unset] []))
  refine go (fun _ q => XS.aloadN X140.here hx rfl (hb hby d2_66) rfl rfl q) ?_
  show Go p e below _ (T140.setTop (mkF m 67 #[.val (.ref a1), .val (.int (2 : Int32)), .val (.ref a3), .val (.ref a4), .val (.ref a5), .val (.ref a6), .val (.ref a7), .val (.int p8), .val (.int p9), .val (.int p10), .val (.int p11), .val (.int (4 : Int32)), .val (.int (1 : Int32)), .unset, .unset, .unset] [(.ref a1)]))
  obtain ⟨T153, X153, e153, st153⟩ := getF X140 hx hZ hown (host := "") (Or.inl (hw _ (List.mem_of_getElem? (i := 29) rfl))) Via.refl e140 F_firstAt_143 (g := (mkF m 67 #[.val (.ref a1), .val (.int (2 : Int32)), .val (.ref a3), .val (.ref a4), .val (.ref a5), .val (.ref a6), .val (.ref a7), .val (.int p8), .val (.int p9), .val (.int p10), .val (.int p11), .val (.int (4 : Int32)), .val (.int (1 : Int32)), .unset, .unset, .unset] [(.ref a1)])) rfl rfl (hb hby d2_67)
  refine go st153 ?_
  show Go p e below _ (T153.setTop (mkF m 70 #[.val (.ref a1), .val (.int (2 : Int32)), .val (.ref a3), .val (.ref a4), .val (.ref a5), .val (.ref a6), .val (.ref a7), .val (.int p8), .val (.int p9), .val (.int p10), .val (.int p11), .val (.int (4 : Int32)), .val (.int (1 : Int32)), .unset, .unset, .unset] [(.ref b112)]))
  refine go (fun _ q => XS.aloadN X153.here hx rfl (hb hby d2_70) rfl rfl q) ?_
  show Go p e below _ (T153.setTop (mkF m 71 #[.val (.ref a1), .val (.int (2 : Int32)), .val (.ref a3), .val (.ref a4), .val (.ref a5), .val (.ref a6), .val (.ref a7), .val (.int p8), .val (.int p9), .val (.int p10), .val (.int p11), .val (.int (4 : Int32)), .val (.int (1 : Int32)), .unset, .unset, .unset] [(.ref a4), (.ref b112)]))
  refine go (fun _ q => XS.iload X153.here hx rfl (hb hby d2_71) rfl q) ?_
  show Go p e below _ (T153.setTop (mkF m 73 #[.val (.ref a1), .val (.int (2 : Int32)), .val (.ref a3), .val (.ref a4), .val (.ref a5), .val (.ref a6), .val (.ref a7), .val (.int p8), .val (.int p9), .val (.int p10), .val (.int p11), .val (.int (4 : Int32)), .val (.int (1 : Int32)), .unset, .unset, .unset] [(.int (1 : Int32)), (.ref a4), (.ref b112)]))
  refine go (own_iaload X153 hx hZ e153 P_150 (j := (1 : Int32)) (by decide) (Nat.le_of_ble_eq_true rfl) (g := (mkF m 73 #[.val (.ref a1), .val (.int (2 : Int32)), .val (.ref a3), .val (.ref a4), .val (.ref a5), .val (.ref a6), .val (.ref a7), .val (.int p8), .val (.int p9), .val (.int p10), .val (.int p11), .val (.int (4 : Int32)), .val (.int (1 : Int32)), .unset, .unset, .unset] [(.int (1 : Int32)), (.ref a4), (.ref b112)])) rfl rfl (hb hby d2_73)) ?_
  show Go p e below _ (T153.setTop (mkF m 74 #[.val (.ref a1), .val (.int (2 : Int32)), .val (.ref a3), .val (.ref a4), .val (.ref a5), .val (.ref a6), .val (.ref a7), .val (.int p8), .val (.int p9), .val (.int p10), .val (.int p11), .val (.int (4 : Int32)), .val (.int (1 : Int32)), .unset, .unset, .unset] [(.int q1), (.ref b112)]))
  refine go (fun _ q => XS.iconst X153.here hx rfl (hb hby d2_74) q) ?_
  show Go p e below _ (T153.setTop (mkF m 75 #[.val (.ref a1), .val (.int (2 : Int32)), .val (.ref a3), .val (.ref a4), .val (.ref a5), .val (.ref a6), .val (.ref a7), .val (.int p8), .val (.int p9), .val (.int p10), .val (.int p11), .val (.int (4 : Int32)), .val (.int (1 : Int32)), .unset, .unset, .unset] [(.int (1 : Int32)), (.int q1), (.ref b112)]))
  refine go (fun _ q => XS.iadd X153.here hx rfl (hb hby d2_75) rfl q) ?_
  show Go p e below _ (T153.setTop (mkF m 76 #[.val (.ref a1), .val (.int (2 : Int32)), .val (.ref a3), .val (.ref a4), .val (.ref a5), .val (.ref a6), .val (.ref a7), .val (.int p8), .val (.int p9), .val (.int p10), .val (.int p11), .val (.int (4 : Int32)), .val (.int (1 : Int32)), .unset, .unset, .unset] [(.int (q1 + (1 : Int32))), (.ref b112)]))
  refine go (S' := T153.setTop (mkF m 77 #[.val (.ref a1), .val (.int (2 : Int32)), .val (.ref a3), .val (.ref a4), .val (.ref a5), .val (.ref a6), .val (.ref a7), .val (.int p8), .val (.int p9), .val (.int p10), .val (.int p11), .val (.int (4 : Int32)), .val (.int (1 : Int32)), .unset, .unset, .unset] [(.int (q1 + (1 : Int32))), (.ref b112), (.int (q1 + (1 : Int32))), (.ref b112)])) (fun _ q => by jvm_step X153.here [X153.here.top, hx, (hb hby d2_76), Value.category]; exact q) ?_
  show Go p e below _ (T153.setTop (mkF m 77 #[.val (.ref a1), .val (.int (2 : Int32)), .val (.ref a3), .val (.ref a4), .val (.ref a5), .val (.ref a6), .val (.ref a7), .val (.int p8), .val (.int p9), .val (.int p10), .val (.int p11), .val (.int (4 : Int32)), .val (.int (1 : Int32)), .unset, .unset, .unset] [(.int (q1 + (1 : Int32))), (.ref b112), (.int (q1 + (1 : Int32))), (.ref b112)]))
  refine go (own_iaload X153 hx hZ e153 P140 (j := (q1 + (1 : Int32))) (own_i1 hq1).1 (by rw [l140]; exact (own_i1 hq1).2) (g := (mkF m 77 #[.val (.ref a1), .val (.int (2 : Int32)), .val (.ref a3), .val (.ref a4), .val (.ref a5), .val (.ref a6), .val (.ref a7), .val (.int p8), .val (.int p9), .val (.int p10), .val (.int p11), .val (.int (4 : Int32)), .val (.int (1 : Int32)), .unset, .unset, .unset] [(.int (q1 + (1 : Int32))), (.ref b112), (.int (q1 + (1 : Int32))), (.ref b112)])) rfl rfl (hb hby d2_77)) ?_
  show Go p e below _ (T153.setTop (mkF m 78 #[.val (.ref a1), .val (.int (2 : Int32)), .val (.ref a3), .val (.ref a4), .val (.ref a5), .val (.ref a6), .val (.ref a7), .val (.int p8), .val (.int p9), .val (.int p10), .val (.int p11), .val (.int (4 : Int32)), .val (.int (1 : Int32)), .unset, .unset, .unset] [(.int (xs140.getD ((q1 + (1 : Int32))).toNatClampNeg 0)), (.int (q1 + (1 : Int32))), (.ref b112)]))
  generalize hv154 : (xs140.getD ((q1 + (1 : Int32))).toNatClampNeg 0) = v154
  show Go p e below _ (T153.setTop (mkF m 78 #[.val (.ref a1), .val (.int (2 : Int32)), .val (.ref a3), .val (.ref a4), .val (.ref a5), .val (.ref a6), .val (.ref a7), .val (.int p8), .val (.int p9), .val (.int p10), .val (.int p11), .val (.int (4 : Int32)), .val (.int (1 : Int32)), .unset, .unset, .unset] [(.int v154), (.int (q1 + (1 : Int32))), (.ref b112)]))
  show Go p e below _ (T153.setTop (mkF m 78 #[.val (.ref a1), .val (.int (2 : Int32)), .val (.ref a3), .val (.ref a4), .val (.ref a5), .val (.ref a6), .val (.ref a7), .val (.int p8), .val (.int p9), .val (.int p10), .val (.int p11), .val (.int (4 : Int32)), .val (.int (1 : Int32)), .unset, .unset, .unset] [(.int v154), (.int (q1 + (1 : Int32))), (.ref b112)]))
  refine go (fun _ q => XS.iconst X153.here hx rfl (hb hby d2_78) q) ?_
  show Go p e below _ (T153.setTop (mkF m 79 #[.val (.ref a1), .val (.int (2 : Int32)), .val (.ref a3), .val (.ref a4), .val (.ref a5), .val (.ref a6), .val (.ref a7), .val (.int p8), .val (.int p9), .val (.int p10), .val (.int p11), .val (.int (4 : Int32)), .val (.int (1 : Int32)), .unset, .unset, .unset] [(.int (1 : Int32)), (.int v154), (.int (q1 + (1 : Int32))), (.ref b112)]))
  refine go (fun _ q => XS.iadd X153.here hx rfl (hb hby d2_79) rfl q) ?_
  show Go p e below _ (T153.setTop (mkF m 80 #[.val (.ref a1), .val (.int (2 : Int32)), .val (.ref a3), .val (.ref a4), .val (.ref a5), .val (.ref a6), .val (.ref a7), .val (.int p8), .val (.int p9), .val (.int p10), .val (.int p11), .val (.int (4 : Int32)), .val (.int (1 : Int32)), .unset, .unset, .unset] [(.int (v154 + (1 : Int32))), (.int (q1 + (1 : Int32))), (.ref b112)]))
  obtain ⟨T155, h155, X155, e155, W155, V155, st155⟩ := own_iastore X153 hx hZ e153 P140 (j := (q1 + (1 : Int32))) (x := (v154 + (1 : Int32))) (own_i1 hq1).1 (by rw [l140]; exact (own_i1 hq1).2) (g := (mkF m 80 #[.val (.ref a1), .val (.int (2 : Int32)), .val (.ref a3), .val (.ref a4), .val (.ref a5), .val (.ref a6), .val (.ref a7), .val (.int p8), .val (.int p9), .val (.int p10), .val (.int p11), .val (.int (4 : Int32)), .val (.int (1 : Int32)), .unset, .unset, .unset] [(.int (v154 + (1 : Int32))), (.int (q1 + (1 : Int32))), (.ref b112)])) rfl rfl (hb hby d2_80)
  refine go st155 ?_
  obtain ⟨xs155, hxs155⟩ : ∃ z, z = (xs140.set ((q1 + (1 : Int32))).toNatClampNeg (v154 + (1 : Int32))) := ⟨_, rfl⟩
  rw [← hxs155] at V155
  have l155 : xs155.length = 4 := by rw [hxs155, List.length_set]; exact l140
  have P155 : Ari Z h155 b112 xs155 := V155
  have E_a1_156 : Exa Z h155 a1 "com/example/junctura/junctura/conformance/OptimalPaths" := E_a1_141.wr W155
  have F_marking_157 : Fld Z h155 a1 "com/example/junctura/junctura/conformance/OptimalPaths" "marking" "[I" (.ref a3) := F_marking_142.other W155 (Or.inl ne_a1_b112)
  have F_firstAt_158 : Fld Z h155 a1 "com/example/junctura/junctura/conformance/OptimalPaths" "firstAt" "[I" (.ref b112) := F_firstAt_143.other W155 (Or.inl ne_a1_b112)
  have F_firstOut_159 : Fld Z h155 a1 "com/example/junctura/junctura/conformance/OptimalPaths" "firstOut" "[I" u_firstOut := F_firstOut_144.other W155 (Or.inl ne_a1_b112)
  have F_firstIn_160 : Fld Z h155 a1 "com/example/junctura/junctura/conformance/OptimalPaths" "firstIn" "[I" u_firstIn := F_firstIn_145.other W155 (Or.inl ne_a1_b112)
  have F_target_161 : Fld Z h155 a1 "com/example/junctura/junctura/conformance/OptimalPaths" "target" "[I" u_target := F_target_146.other W155 (Or.inl ne_a1_b112)
  have F_transition_162 : Fld Z h155 a1 "com/example/junctura/junctura/conformance/OptimalPaths" "transition" "[I" u_transition := F_transition_147.other W155 (Or.inl ne_a1_b112)
  have F_source_163 : Fld Z h155 a1 "com/example/junctura/junctura/conformance/OptimalPaths" "source" "[I" u_source := F_source_148.other W155 (Or.inl ne_a1_b112)
  have P_164 : Ari Z h155 a3 ([m0, m1, m2, m3] : List Int32) := P_149.other W155 ne_a3_b112
  have P_165 : Ari Z h155 a4 ([q0, q1, q2, q3] : List Int32) := P_150.other W155 ne_a4_b112
  have P_166 : Ari Z h155 a5 ([] : List Int32) := P_151.other W155 ne_a5_b112
  have P_167 : Ari Z h155 a6 ([] : List Int32) := P_152.other W155 ne_a6_b112
  have N155 := Fr.snoc X155 N140 g_b112
  have K155 : Keep h0 h155 [a1] := K140.wr W155 (Or.inr sz_b112)
  have Z155 : n0 ≤ h155.size := Nat.le_trans Z140 (Nat.le_of_eq W155.size.symm)
  show Go p e below _ (T155.setTop (mkF m 81 #[.val (.ref a1), .val (.int (2 : Int32)), .val (.ref a3), .val (.ref a4), .val (.ref a5), .val (.ref a6), .val (.ref a7), .val (.int p8), .val (.int p9), .val (.int p10), .val (.int p11), .val (.int (4 : Int32)), .val (.int (1 : Int32)), .unset, .unset, .unset] []))
  refine go (fun _ q => XS.iinc X155.here hx rfl (hb hby d2_81) rfl (l' := #[.val (.ref a1), .val (.int (2 : Int32)), .val (.ref a3), .val (.ref a4), .val (.ref a5), .val (.ref a6), .val (.ref a7), .val (.int p8), .val (.int p9), .val (.int p10), .val (.int p11), .val (.int (4 : Int32)), .val (.int (2 : Int32)), .unset, .unset, .unset]) rfl q) ?_
  show Go p e below _ (T155.setTop (mkF m 84 #[.val (.ref a1), .val (.int (2 : Int32)), .val (.ref a3), .val (.ref a4), .val (.ref a5), .val (.ref a6), .val (.ref a7), .val (.int p8), .val (.int p9), .val (.int p10), .val (.int p11), .val (.int (4 : Int32)), .val (.int (2 : Int32)), .unset, .unset, .unset] []))
  refine go (fun _ q => XS.goto X155.here hx rfl (pc0 := 84) (pc' := 59) rfl (hb hby d2_84) (by decide) (by decide) q) ?_
  show Go p e below _ (T155.setTop (mkF m 59 #[.val (.ref a1), .val (.int (2 : Int32)), .val (.ref a3), .val (.ref a4), .val (.ref a5), .val (.ref a6), .val (.ref a7), .val (.int p8), .val (.int p9), .val (.int p10), .val (.int p11), .val (.int (4 : Int32)), .val (.int (2 : Int32)), .unset, .unset, .unset] []))
  refine go (fun _ q => XS.iload X155.here hx rfl (hb hby d2_59) rfl q) ?_
  show Go p e below _ (T155.setTop (mkF m 61 #[.val (.ref a1), .val (.int (2 : Int32)), .val (.ref a3), .val (.ref a4), .val (.ref a5), .val (.ref a6), .val (.ref a7), .val (.int p8), .val (.int p9), .val (.int p10), .val (.int p11), .val (.int (4 : Int32)), .val (.int (2 : Int32)), .unset, .unset, .unset] [(.int (2 : Int32))]))
  refine go (fun _ q => XS.iload X155.here hx rfl (hb hby d2_61) rfl q) ?_
  show Go p e below _ (T155.setTop (mkF m 63 #[.val (.ref a1), .val (.int (2 : Int32)), .val (.ref a3), .val (.ref a4), .val (.ref a5), .val (.ref a6), .val (.ref a7), .val (.int p8), .val (.int p9), .val (.int p10), .val (.int p11), .val (.int (4 : Int32)), .val (.int (2 : Int32)), .unset, .unset, .unset] [(.int (4 : Int32)), (.int (2 : Int32))]))
  refine go (fun _ q => XS.icmpNo X155.here hx rfl (hb hby d2_63) rfl (tlt (by decide : (2 : Int32) < (4 : Int32))).2.1 q) ?_
  show Go p e below _ (T155.setTop (mkF m 66 #[.val (.ref a1), .val (.int (2 : Int32)), .val (.ref a3), .val (.ref a4), .val (.ref a5), .val (.ref a6), .val (.ref a7), .val (.int p8), .val (.int p9), .val (.int p10), .val (.int p11), .val (.int (4 : Int32)), .val (.int (2 : Int32)), .unset, .unset, .unset] []))
  refine go (fun _ q => XS.aloadN X155.here hx rfl (hb hby d2_66) rfl rfl q) ?_
  show Go p e below _ (T155.setTop (mkF m 67 #[.val (.ref a1), .val (.int (2 : Int32)), .val (.ref a3), .val (.ref a4), .val (.ref a5), .val (.ref a6), .val (.ref a7), .val (.int p8), .val (.int p9), .val (.int p10), .val (.int p11), .val (.int (4 : Int32)), .val (.int (2 : Int32)), .unset, .unset, .unset] [(.ref a1)]))
  obtain ⟨T168, X168, e168, st168⟩ := getF X155 hx hZ hown (host := "") (Or.inl (hw _ (List.mem_of_getElem? (i := 29) rfl))) Via.refl e155 F_firstAt_158 (g := (mkF m 67 #[.val (.ref a1), .val (.int (2 : Int32)), .val (.ref a3), .val (.ref a4), .val (.ref a5), .val (.ref a6), .val (.ref a7), .val (.int p8), .val (.int p9), .val (.int p10), .val (.int p11), .val (.int (4 : Int32)), .val (.int (2 : Int32)), .unset, .unset, .unset] [(.ref a1)])) rfl rfl (hb hby d2_67)
  refine go st168 ?_
  show Go p e below _ (T168.setTop (mkF m 70 #[.val (.ref a1), .val (.int (2 : Int32)), .val (.ref a3), .val (.ref a4), .val (.ref a5), .val (.ref a6), .val (.ref a7), .val (.int p8), .val (.int p9), .val (.int p10), .val (.int p11), .val (.int (4 : Int32)), .val (.int (2 : Int32)), .unset, .unset, .unset] [(.ref b112)]))
  refine go (fun _ q => XS.aloadN X168.here hx rfl (hb hby d2_70) rfl rfl q) ?_
  show Go p e below _ (T168.setTop (mkF m 71 #[.val (.ref a1), .val (.int (2 : Int32)), .val (.ref a3), .val (.ref a4), .val (.ref a5), .val (.ref a6), .val (.ref a7), .val (.int p8), .val (.int p9), .val (.int p10), .val (.int p11), .val (.int (4 : Int32)), .val (.int (2 : Int32)), .unset, .unset, .unset] [(.ref a4), (.ref b112)]))
  refine go (fun _ q => XS.iload X168.here hx rfl (hb hby d2_71) rfl q) ?_
  show Go p e below _ (T168.setTop (mkF m 73 #[.val (.ref a1), .val (.int (2 : Int32)), .val (.ref a3), .val (.ref a4), .val (.ref a5), .val (.ref a6), .val (.ref a7), .val (.int p8), .val (.int p9), .val (.int p10), .val (.int p11), .val (.int (4 : Int32)), .val (.int (2 : Int32)), .unset, .unset, .unset] [(.int (2 : Int32)), (.ref a4), (.ref b112)]))
  refine go (own_iaload X168 hx hZ e168 P_165 (j := (2 : Int32)) (by decide) (Nat.le_of_ble_eq_true rfl) (g := (mkF m 73 #[.val (.ref a1), .val (.int (2 : Int32)), .val (.ref a3), .val (.ref a4), .val (.ref a5), .val (.ref a6), .val (.ref a7), .val (.int p8), .val (.int p9), .val (.int p10), .val (.int p11), .val (.int (4 : Int32)), .val (.int (2 : Int32)), .unset, .unset, .unset] [(.int (2 : Int32)), (.ref a4), (.ref b112)])) rfl rfl (hb hby d2_73)) ?_
  show Go p e below _ (T168.setTop (mkF m 74 #[.val (.ref a1), .val (.int (2 : Int32)), .val (.ref a3), .val (.ref a4), .val (.ref a5), .val (.ref a6), .val (.ref a7), .val (.int p8), .val (.int p9), .val (.int p10), .val (.int p11), .val (.int (4 : Int32)), .val (.int (2 : Int32)), .unset, .unset, .unset] [(.int q2), (.ref b112)]))
  refine go (fun _ q => XS.iconst X168.here hx rfl (hb hby d2_74) q) ?_
  show Go p e below _ (T168.setTop (mkF m 75 #[.val (.ref a1), .val (.int (2 : Int32)), .val (.ref a3), .val (.ref a4), .val (.ref a5), .val (.ref a6), .val (.ref a7), .val (.int p8), .val (.int p9), .val (.int p10), .val (.int p11), .val (.int (4 : Int32)), .val (.int (2 : Int32)), .unset, .unset, .unset] [(.int (1 : Int32)), (.int q2), (.ref b112)]))
  refine go (fun _ q => XS.iadd X168.here hx rfl (hb hby d2_75) rfl q) ?_
  show Go p e below _ (T168.setTop (mkF m 76 #[.val (.ref a1), .val (.int (2 : Int32)), .val (.ref a3), .val (.ref a4), .val (.ref a5), .val (.ref a6), .val (.ref a7), .val (.int p8), .val (.int p9), .val (.int p10), .val (.int p11), .val (.int (4 : Int32)), .val (.int (2 : Int32)), .unset, .unset, .unset] [(.int (q2 + (1 : Int32))), (.ref b112)]))
  refine go (S' := T168.setTop (mkF m 77 #[.val (.ref a1), .val (.int (2 : Int32)), .val (.ref a3), .val (.ref a4), .val (.ref a5), .val (.ref a6), .val (.ref a7), .val (.int p8), .val (.int p9), .val (.int p10), .val (.int p11), .val (.int (4 : Int32)), .val (.int (2 : Int32)), .unset, .unset, .unset] [(.int (q2 + (1 : Int32))), (.ref b112), (.int (q2 + (1 : Int32))), (.ref b112)])) (fun _ q => by jvm_step X168.here [X168.here.top, hx, (hb hby d2_76), Value.category]; exact q) ?_
  show Go p e below _ (T168.setTop (mkF m 77 #[.val (.ref a1), .val (.int (2 : Int32)), .val (.ref a3), .val (.ref a4), .val (.ref a5), .val (.ref a6), .val (.ref a7), .val (.int p8), .val (.int p9), .val (.int p10), .val (.int p11), .val (.int (4 : Int32)), .val (.int (2 : Int32)), .unset, .unset, .unset] [(.int (q2 + (1 : Int32))), (.ref b112), (.int (q2 + (1 : Int32))), (.ref b112)]))
  refine go (own_iaload X168 hx hZ e168 P155 (j := (q2 + (1 : Int32))) (own_i1 hq2).1 (by rw [l155]; exact (own_i1 hq2).2) (g := (mkF m 77 #[.val (.ref a1), .val (.int (2 : Int32)), .val (.ref a3), .val (.ref a4), .val (.ref a5), .val (.ref a6), .val (.ref a7), .val (.int p8), .val (.int p9), .val (.int p10), .val (.int p11), .val (.int (4 : Int32)), .val (.int (2 : Int32)), .unset, .unset, .unset] [(.int (q2 + (1 : Int32))), (.ref b112), (.int (q2 + (1 : Int32))), (.ref b112)])) rfl rfl (hb hby d2_77)) ?_
  show Go p e below _ (T168.setTop (mkF m 78 #[.val (.ref a1), .val (.int (2 : Int32)), .val (.ref a3), .val (.ref a4), .val (.ref a5), .val (.ref a6), .val (.ref a7), .val (.int p8), .val (.int p9), .val (.int p10), .val (.int p11), .val (.int (4 : Int32)), .val (.int (2 : Int32)), .unset, .unset, .unset] [(.int (xs155.getD ((q2 + (1 : Int32))).toNatClampNeg 0)), (.int (q2 + (1 : Int32))), (.ref b112)]))
  generalize hv169 : (xs155.getD ((q2 + (1 : Int32))).toNatClampNeg 0) = v169
  show Go p e below _ (T168.setTop (mkF m 78 #[.val (.ref a1), .val (.int (2 : Int32)), .val (.ref a3), .val (.ref a4), .val (.ref a5), .val (.ref a6), .val (.ref a7), .val (.int p8), .val (.int p9), .val (.int p10), .val (.int p11), .val (.int (4 : Int32)), .val (.int (2 : Int32)), .unset, .unset, .unset] [(.int v169), (.int (q2 + (1 : Int32))), (.ref b112)]))
  show Go p e below _ (T168.setTop (mkF m 78 #[.val (.ref a1), .val (.int (2 : Int32)), .val (.ref a3), .val (.ref a4), .val (.ref a5), .val (.ref a6), .val (.ref a7), .val (.int p8), .val (.int p9), .val (.int p10), .val (.int p11), .val (.int (4 : Int32)), .val (.int (2 : Int32)), .unset, .unset, .unset] [(.int v169), (.int (q2 + (1 : Int32))), (.ref b112)]))
  refine go (fun _ q => XS.iconst X168.here hx rfl (hb hby d2_78) q) ?_
  show Go p e below _ (T168.setTop (mkF m 79 #[.val (.ref a1), .val (.int (2 : Int32)), .val (.ref a3), .val (.ref a4), .val (.ref a5), .val (.ref a6), .val (.ref a7), .val (.int p8), .val (.int p9), .val (.int p10), .val (.int p11), .val (.int (4 : Int32)), .val (.int (2 : Int32)), .unset, .unset, .unset] [(.int (1 : Int32)), (.int v169), (.int (q2 + (1 : Int32))), (.ref b112)]))
  refine go (fun _ q => XS.iadd X168.here hx rfl (hb hby d2_79) rfl q) ?_
  show Go p e below _ (T168.setTop (mkF m 80 #[.val (.ref a1), .val (.int (2 : Int32)), .val (.ref a3), .val (.ref a4), .val (.ref a5), .val (.ref a6), .val (.ref a7), .val (.int p8), .val (.int p9), .val (.int p10), .val (.int p11), .val (.int (4 : Int32)), .val (.int (2 : Int32)), .unset, .unset, .unset] [(.int (v169 + (1 : Int32))), (.int (q2 + (1 : Int32))), (.ref b112)]))
  obtain ⟨T170, h170, X170, e170, W170, V170, st170⟩ := own_iastore X168 hx hZ e168 P155 (j := (q2 + (1 : Int32))) (x := (v169 + (1 : Int32))) (own_i1 hq2).1 (by rw [l155]; exact (own_i1 hq2).2) (g := (mkF m 80 #[.val (.ref a1), .val (.int (2 : Int32)), .val (.ref a3), .val (.ref a4), .val (.ref a5), .val (.ref a6), .val (.ref a7), .val (.int p8), .val (.int p9), .val (.int p10), .val (.int p11), .val (.int (4 : Int32)), .val (.int (2 : Int32)), .unset, .unset, .unset] [(.int (v169 + (1 : Int32))), (.int (q2 + (1 : Int32))), (.ref b112)])) rfl rfl (hb hby d2_80)
  refine go st170 ?_
  obtain ⟨xs170, hxs170⟩ : ∃ z, z = (xs155.set ((q2 + (1 : Int32))).toNatClampNeg (v169 + (1 : Int32))) := ⟨_, rfl⟩
  rw [← hxs170] at V170
  have l170 : xs170.length = 4 := by rw [hxs170, List.length_set]; exact l155
  have P170 : Ari Z h170 b112 xs170 := V170
  have E_a1_171 : Exa Z h170 a1 "com/example/junctura/junctura/conformance/OptimalPaths" := E_a1_156.wr W170
  have F_marking_172 : Fld Z h170 a1 "com/example/junctura/junctura/conformance/OptimalPaths" "marking" "[I" (.ref a3) := F_marking_157.other W170 (Or.inl ne_a1_b112)
  have F_firstAt_173 : Fld Z h170 a1 "com/example/junctura/junctura/conformance/OptimalPaths" "firstAt" "[I" (.ref b112) := F_firstAt_158.other W170 (Or.inl ne_a1_b112)
  have F_firstOut_174 : Fld Z h170 a1 "com/example/junctura/junctura/conformance/OptimalPaths" "firstOut" "[I" u_firstOut := F_firstOut_159.other W170 (Or.inl ne_a1_b112)
  have F_firstIn_175 : Fld Z h170 a1 "com/example/junctura/junctura/conformance/OptimalPaths" "firstIn" "[I" u_firstIn := F_firstIn_160.other W170 (Or.inl ne_a1_b112)
  have F_target_176 : Fld Z h170 a1 "com/example/junctura/junctura/conformance/OptimalPaths" "target" "[I" u_target := F_target_161.other W170 (Or.inl ne_a1_b112)
  have F_transition_177 : Fld Z h170 a1 "com/example/junctura/junctura/conformance/OptimalPaths" "transition" "[I" u_transition := F_transition_162.other W170 (Or.inl ne_a1_b112)
  have F_source_178 : Fld Z h170 a1 "com/example/junctura/junctura/conformance/OptimalPaths" "source" "[I" u_source := F_source_163.other W170 (Or.inl ne_a1_b112)
  have P_179 : Ari Z h170 a3 ([m0, m1, m2, m3] : List Int32) := P_164.other W170 ne_a3_b112
  have P_180 : Ari Z h170 a4 ([q0, q1, q2, q3] : List Int32) := P_165.other W170 ne_a4_b112
  have P_181 : Ari Z h170 a5 ([] : List Int32) := P_166.other W170 ne_a5_b112
  have P_182 : Ari Z h170 a6 ([] : List Int32) := P_167.other W170 ne_a6_b112
  have N170 := Fr.snoc X170 N155 g_b112
  have K170 : Keep h0 h170 [a1] := K155.wr W170 (Or.inr sz_b112)
  have Z170 : n0 ≤ h170.size := Nat.le_trans Z155 (Nat.le_of_eq W170.size.symm)
  show Go p e below _ (T170.setTop (mkF m 81 #[.val (.ref a1), .val (.int (2 : Int32)), .val (.ref a3), .val (.ref a4), .val (.ref a5), .val (.ref a6), .val (.ref a7), .val (.int p8), .val (.int p9), .val (.int p10), .val (.int p11), .val (.int (4 : Int32)), .val (.int (2 : Int32)), .unset, .unset, .unset] []))
  refine go (fun _ q => XS.iinc X170.here hx rfl (hb hby d2_81) rfl (l' := #[.val (.ref a1), .val (.int (2 : Int32)), .val (.ref a3), .val (.ref a4), .val (.ref a5), .val (.ref a6), .val (.ref a7), .val (.int p8), .val (.int p9), .val (.int p10), .val (.int p11), .val (.int (4 : Int32)), .val (.int (3 : Int32)), .unset, .unset, .unset]) rfl q) ?_
  show Go p e below _ (T170.setTop (mkF m 84 #[.val (.ref a1), .val (.int (2 : Int32)), .val (.ref a3), .val (.ref a4), .val (.ref a5), .val (.ref a6), .val (.ref a7), .val (.int p8), .val (.int p9), .val (.int p10), .val (.int p11), .val (.int (4 : Int32)), .val (.int (3 : Int32)), .unset, .unset, .unset] []))
  refine go (fun _ q => XS.goto X170.here hx rfl (pc0 := 84) (pc' := 59) rfl (hb hby d2_84) (by decide) (by decide) q) ?_
  show Go p e below _ (T170.setTop (mkF m 59 #[.val (.ref a1), .val (.int (2 : Int32)), .val (.ref a3), .val (.ref a4), .val (.ref a5), .val (.ref a6), .val (.ref a7), .val (.int p8), .val (.int p9), .val (.int p10), .val (.int p11), .val (.int (4 : Int32)), .val (.int (3 : Int32)), .unset, .unset, .unset] []))
  refine go (fun _ q => XS.iload X170.here hx rfl (hb hby d2_59) rfl q) ?_
  show Go p e below _ (T170.setTop (mkF m 61 #[.val (.ref a1), .val (.int (2 : Int32)), .val (.ref a3), .val (.ref a4), .val (.ref a5), .val (.ref a6), .val (.ref a7), .val (.int p8), .val (.int p9), .val (.int p10), .val (.int p11), .val (.int (4 : Int32)), .val (.int (3 : Int32)), .unset, .unset, .unset] [(.int (3 : Int32))]))
  refine go (fun _ q => XS.iload X170.here hx rfl (hb hby d2_61) rfl q) ?_
  show Go p e below _ (T170.setTop (mkF m 63 #[.val (.ref a1), .val (.int (2 : Int32)), .val (.ref a3), .val (.ref a4), .val (.ref a5), .val (.ref a6), .val (.ref a7), .val (.int p8), .val (.int p9), .val (.int p10), .val (.int p11), .val (.int (4 : Int32)), .val (.int (3 : Int32)), .unset, .unset, .unset] [(.int (4 : Int32)), (.int (3 : Int32))]))
  refine go (fun _ q => XS.icmpNo X170.here hx rfl (hb hby d2_63) rfl (tlt (by decide : (3 : Int32) < (4 : Int32))).2.1 q) ?_
  show Go p e below _ (T170.setTop (mkF m 66 #[.val (.ref a1), .val (.int (2 : Int32)), .val (.ref a3), .val (.ref a4), .val (.ref a5), .val (.ref a6), .val (.ref a7), .val (.int p8), .val (.int p9), .val (.int p10), .val (.int p11), .val (.int (4 : Int32)), .val (.int (3 : Int32)), .unset, .unset, .unset] []))
  refine go (fun _ q => XS.aloadN X170.here hx rfl (hb hby d2_66) rfl rfl q) ?_
  show Go p e below _ (T170.setTop (mkF m 67 #[.val (.ref a1), .val (.int (2 : Int32)), .val (.ref a3), .val (.ref a4), .val (.ref a5), .val (.ref a6), .val (.ref a7), .val (.int p8), .val (.int p9), .val (.int p10), .val (.int p11), .val (.int (4 : Int32)), .val (.int (3 : Int32)), .unset, .unset, .unset] [(.ref a1)]))
  obtain ⟨T183, X183, e183, st183⟩ := getF X170 hx hZ hown (host := "") (Or.inl (hw _ (List.mem_of_getElem? (i := 29) rfl))) Via.refl e170 F_firstAt_173 (g := (mkF m 67 #[.val (.ref a1), .val (.int (2 : Int32)), .val (.ref a3), .val (.ref a4), .val (.ref a5), .val (.ref a6), .val (.ref a7), .val (.int p8), .val (.int p9), .val (.int p10), .val (.int p11), .val (.int (4 : Int32)), .val (.int (3 : Int32)), .unset, .unset, .unset] [(.ref a1)])) rfl rfl (hb hby d2_67)
  refine go st183 ?_
  show Go p e below _ (T183.setTop (mkF m 70 #[.val (.ref a1), .val (.int (2 : Int32)), .val (.ref a3), .val (.ref a4), .val (.ref a5), .val (.ref a6), .val (.ref a7), .val (.int p8), .val (.int p9), .val (.int p10), .val (.int p11), .val (.int (4 : Int32)), .val (.int (3 : Int32)), .unset, .unset, .unset] [(.ref b112)]))
  refine go (fun _ q => XS.aloadN X183.here hx rfl (hb hby d2_70) rfl rfl q) ?_
  show Go p e below _ (T183.setTop (mkF m 71 #[.val (.ref a1), .val (.int (2 : Int32)), .val (.ref a3), .val (.ref a4), .val (.ref a5), .val (.ref a6), .val (.ref a7), .val (.int p8), .val (.int p9), .val (.int p10), .val (.int p11), .val (.int (4 : Int32)), .val (.int (3 : Int32)), .unset, .unset, .unset] [(.ref a4), (.ref b112)]))
  refine go (fun _ q => XS.iload X183.here hx rfl (hb hby d2_71) rfl q) ?_
  show Go p e below _ (T183.setTop (mkF m 73 #[.val (.ref a1), .val (.int (2 : Int32)), .val (.ref a3), .val (.ref a4), .val (.ref a5), .val (.ref a6), .val (.ref a7), .val (.int p8), .val (.int p9), .val (.int p10), .val (.int p11), .val (.int (4 : Int32)), .val (.int (3 : Int32)), .unset, .unset, .unset] [(.int (3 : Int32)), (.ref a4), (.ref b112)]))
  refine go (own_iaload X183 hx hZ e183 P_180 (j := (3 : Int32)) (by decide) (Nat.le_of_ble_eq_true rfl) (g := (mkF m 73 #[.val (.ref a1), .val (.int (2 : Int32)), .val (.ref a3), .val (.ref a4), .val (.ref a5), .val (.ref a6), .val (.ref a7), .val (.int p8), .val (.int p9), .val (.int p10), .val (.int p11), .val (.int (4 : Int32)), .val (.int (3 : Int32)), .unset, .unset, .unset] [(.int (3 : Int32)), (.ref a4), (.ref b112)])) rfl rfl (hb hby d2_73)) ?_
  show Go p e below _ (T183.setTop (mkF m 74 #[.val (.ref a1), .val (.int (2 : Int32)), .val (.ref a3), .val (.ref a4), .val (.ref a5), .val (.ref a6), .val (.ref a7), .val (.int p8), .val (.int p9), .val (.int p10), .val (.int p11), .val (.int (4 : Int32)), .val (.int (3 : Int32)), .unset, .unset, .unset] [(.int q3), (.ref b112)]))
  refine go (fun _ q => XS.iconst X183.here hx rfl (hb hby d2_74) q) ?_
  show Go p e below _ (T183.setTop (mkF m 75 #[.val (.ref a1), .val (.int (2 : Int32)), .val (.ref a3), .val (.ref a4), .val (.ref a5), .val (.ref a6), .val (.ref a7), .val (.int p8), .val (.int p9), .val (.int p10), .val (.int p11), .val (.int (4 : Int32)), .val (.int (3 : Int32)), .unset, .unset, .unset] [(.int (1 : Int32)), (.int q3), (.ref b112)]))
  refine go (fun _ q => XS.iadd X183.here hx rfl (hb hby d2_75) rfl q) ?_
  show Go p e below _ (T183.setTop (mkF m 76 #[.val (.ref a1), .val (.int (2 : Int32)), .val (.ref a3), .val (.ref a4), .val (.ref a5), .val (.ref a6), .val (.ref a7), .val (.int p8), .val (.int p9), .val (.int p10), .val (.int p11), .val (.int (4 : Int32)), .val (.int (3 : Int32)), .unset, .unset, .unset] [(.int (q3 + (1 : Int32))), (.ref b112)]))
  refine go (S' := T183.setTop (mkF m 77 #[.val (.ref a1), .val (.int (2 : Int32)), .val (.ref a3), .val (.ref a4), .val (.ref a5), .val (.ref a6), .val (.ref a7), .val (.int p8), .val (.int p9), .val (.int p10), .val (.int p11), .val (.int (4 : Int32)), .val (.int (3 : Int32)), .unset, .unset, .unset] [(.int (q3 + (1 : Int32))), (.ref b112), (.int (q3 + (1 : Int32))), (.ref b112)])) (fun _ q => by jvm_step X183.here [X183.here.top, hx, (hb hby d2_76), Value.category]; exact q) ?_
  show Go p e below _ (T183.setTop (mkF m 77 #[.val (.ref a1), .val (.int (2 : Int32)), .val (.ref a3), .val (.ref a4), .val (.ref a5), .val (.ref a6), .val (.ref a7), .val (.int p8), .val (.int p9), .val (.int p10), .val (.int p11), .val (.int (4 : Int32)), .val (.int (3 : Int32)), .unset, .unset, .unset] [(.int (q3 + (1 : Int32))), (.ref b112), (.int (q3 + (1 : Int32))), (.ref b112)]))
  refine go (own_iaload X183 hx hZ e183 P170 (j := (q3 + (1 : Int32))) (own_i1 hq3).1 (by rw [l170]; exact (own_i1 hq3).2) (g := (mkF m 77 #[.val (.ref a1), .val (.int (2 : Int32)), .val (.ref a3), .val (.ref a4), .val (.ref a5), .val (.ref a6), .val (.ref a7), .val (.int p8), .val (.int p9), .val (.int p10), .val (.int p11), .val (.int (4 : Int32)), .val (.int (3 : Int32)), .unset, .unset, .unset] [(.int (q3 + (1 : Int32))), (.ref b112), (.int (q3 + (1 : Int32))), (.ref b112)])) rfl rfl (hb hby d2_77)) ?_
  show Go p e below _ (T183.setTop (mkF m 78 #[.val (.ref a1), .val (.int (2 : Int32)), .val (.ref a3), .val (.ref a4), .val (.ref a5), .val (.ref a6), .val (.ref a7), .val (.int p8), .val (.int p9), .val (.int p10), .val (.int p11), .val (.int (4 : Int32)), .val (.int (3 : Int32)), .unset, .unset, .unset] [(.int (xs170.getD ((q3 + (1 : Int32))).toNatClampNeg 0)), (.int (q3 + (1 : Int32))), (.ref b112)]))
  generalize hv184 : (xs170.getD ((q3 + (1 : Int32))).toNatClampNeg 0) = v184
  show Go p e below _ (T183.setTop (mkF m 78 #[.val (.ref a1), .val (.int (2 : Int32)), .val (.ref a3), .val (.ref a4), .val (.ref a5), .val (.ref a6), .val (.ref a7), .val (.int p8), .val (.int p9), .val (.int p10), .val (.int p11), .val (.int (4 : Int32)), .val (.int (3 : Int32)), .unset, .unset, .unset] [(.int v184), (.int (q3 + (1 : Int32))), (.ref b112)]))
  show Go p e below _ (T183.setTop (mkF m 78 #[.val (.ref a1), .val (.int (2 : Int32)), .val (.ref a3), .val (.ref a4), .val (.ref a5), .val (.ref a6), .val (.ref a7), .val (.int p8), .val (.int p9), .val (.int p10), .val (.int p11), .val (.int (4 : Int32)), .val (.int (3 : Int32)), .unset, .unset, .unset] [(.int v184), (.int (q3 + (1 : Int32))), (.ref b112)]))
  refine go (fun _ q => XS.iconst X183.here hx rfl (hb hby d2_78) q) ?_
  show Go p e below _ (T183.setTop (mkF m 79 #[.val (.ref a1), .val (.int (2 : Int32)), .val (.ref a3), .val (.ref a4), .val (.ref a5), .val (.ref a6), .val (.ref a7), .val (.int p8), .val (.int p9), .val (.int p10), .val (.int p11), .val (.int (4 : Int32)), .val (.int (3 : Int32)), .unset, .unset, .unset] [(.int (1 : Int32)), (.int v184), (.int (q3 + (1 : Int32))), (.ref b112)]))
  refine go (fun _ q => XS.iadd X183.here hx rfl (hb hby d2_79) rfl q) ?_
  show Go p e below _ (T183.setTop (mkF m 80 #[.val (.ref a1), .val (.int (2 : Int32)), .val (.ref a3), .val (.ref a4), .val (.ref a5), .val (.ref a6), .val (.ref a7), .val (.int p8), .val (.int p9), .val (.int p10), .val (.int p11), .val (.int (4 : Int32)), .val (.int (3 : Int32)), .unset, .unset, .unset] [(.int (v184 + (1 : Int32))), (.int (q3 + (1 : Int32))), (.ref b112)]))
  obtain ⟨T185, h185, X185, e185, W185, V185, st185⟩ := own_iastore X183 hx hZ e183 P170 (j := (q3 + (1 : Int32))) (x := (v184 + (1 : Int32))) (own_i1 hq3).1 (by rw [l170]; exact (own_i1 hq3).2) (g := (mkF m 80 #[.val (.ref a1), .val (.int (2 : Int32)), .val (.ref a3), .val (.ref a4), .val (.ref a5), .val (.ref a6), .val (.ref a7), .val (.int p8), .val (.int p9), .val (.int p10), .val (.int p11), .val (.int (4 : Int32)), .val (.int (3 : Int32)), .unset, .unset, .unset] [(.int (v184 + (1 : Int32))), (.int (q3 + (1 : Int32))), (.ref b112)])) rfl rfl (hb hby d2_80)
  refine go st185 ?_
  obtain ⟨xs185, hxs185⟩ : ∃ z, z = (xs170.set ((q3 + (1 : Int32))).toNatClampNeg (v184 + (1 : Int32))) := ⟨_, rfl⟩
  rw [← hxs185] at V185
  have l185 : xs185.length = 4 := by rw [hxs185, List.length_set]; exact l170
  have P185 : Ari Z h185 b112 xs185 := V185
  have E_a1_186 : Exa Z h185 a1 "com/example/junctura/junctura/conformance/OptimalPaths" := E_a1_171.wr W185
  have F_marking_187 : Fld Z h185 a1 "com/example/junctura/junctura/conformance/OptimalPaths" "marking" "[I" (.ref a3) := F_marking_172.other W185 (Or.inl ne_a1_b112)
  have F_firstAt_188 : Fld Z h185 a1 "com/example/junctura/junctura/conformance/OptimalPaths" "firstAt" "[I" (.ref b112) := F_firstAt_173.other W185 (Or.inl ne_a1_b112)
  have F_firstOut_189 : Fld Z h185 a1 "com/example/junctura/junctura/conformance/OptimalPaths" "firstOut" "[I" u_firstOut := F_firstOut_174.other W185 (Or.inl ne_a1_b112)
  have F_firstIn_190 : Fld Z h185 a1 "com/example/junctura/junctura/conformance/OptimalPaths" "firstIn" "[I" u_firstIn := F_firstIn_175.other W185 (Or.inl ne_a1_b112)
  have F_target_191 : Fld Z h185 a1 "com/example/junctura/junctura/conformance/OptimalPaths" "target" "[I" u_target := F_target_176.other W185 (Or.inl ne_a1_b112)
  have F_transition_192 : Fld Z h185 a1 "com/example/junctura/junctura/conformance/OptimalPaths" "transition" "[I" u_transition := F_transition_177.other W185 (Or.inl ne_a1_b112)
  have F_source_193 : Fld Z h185 a1 "com/example/junctura/junctura/conformance/OptimalPaths" "source" "[I" u_source := F_source_178.other W185 (Or.inl ne_a1_b112)
  have P_194 : Ari Z h185 a3 ([m0, m1, m2, m3] : List Int32) := P_179.other W185 ne_a3_b112
  have P_195 : Ari Z h185 a4 ([q0, q1, q2, q3] : List Int32) := P_180.other W185 ne_a4_b112
  have P_196 : Ari Z h185 a5 ([] : List Int32) := P_181.other W185 ne_a5_b112
  have P_197 : Ari Z h185 a6 ([] : List Int32) := P_182.other W185 ne_a6_b112
  have N185 := Fr.snoc X185 N170 g_b112
  have K185 : Keep h0 h185 [a1] := K170.wr W185 (Or.inr sz_b112)
  have Z185 : n0 ≤ h185.size := Nat.le_trans Z170 (Nat.le_of_eq W185.size.symm)
  show Go p e below _ (T185.setTop (mkF m 81 #[.val (.ref a1), .val (.int (2 : Int32)), .val (.ref a3), .val (.ref a4), .val (.ref a5), .val (.ref a6), .val (.ref a7), .val (.int p8), .val (.int p9), .val (.int p10), .val (.int p11), .val (.int (4 : Int32)), .val (.int (3 : Int32)), .unset, .unset, .unset] []))
  refine go (fun _ q => XS.iinc X185.here hx rfl (hb hby d2_81) rfl (l' := #[.val (.ref a1), .val (.int (2 : Int32)), .val (.ref a3), .val (.ref a4), .val (.ref a5), .val (.ref a6), .val (.ref a7), .val (.int p8), .val (.int p9), .val (.int p10), .val (.int p11), .val (.int (4 : Int32)), .val (.int (4 : Int32)), .unset, .unset, .unset]) rfl q) ?_
  show Go p e below _ (T185.setTop (mkF m 84 #[.val (.ref a1), .val (.int (2 : Int32)), .val (.ref a3), .val (.ref a4), .val (.ref a5), .val (.ref a6), .val (.ref a7), .val (.int p8), .val (.int p9), .val (.int p10), .val (.int p11), .val (.int (4 : Int32)), .val (.int (4 : Int32)), .unset, .unset, .unset] []))
  refine go (fun _ q => XS.goto X185.here hx rfl (pc0 := 84) (pc' := 59) rfl (hb hby d2_84) (by decide) (by decide) q) ?_
  show Go p e below _ (T185.setTop (mkF m 59 #[.val (.ref a1), .val (.int (2 : Int32)), .val (.ref a3), .val (.ref a4), .val (.ref a5), .val (.ref a6), .val (.ref a7), .val (.int p8), .val (.int p9), .val (.int p10), .val (.int p11), .val (.int (4 : Int32)), .val (.int (4 : Int32)), .unset, .unset, .unset] []))
  refine go (fun _ q => XS.iload X185.here hx rfl (hb hby d2_59) rfl q) ?_
  show Go p e below _ (T185.setTop (mkF m 61 #[.val (.ref a1), .val (.int (2 : Int32)), .val (.ref a3), .val (.ref a4), .val (.ref a5), .val (.ref a6), .val (.ref a7), .val (.int p8), .val (.int p9), .val (.int p10), .val (.int p11), .val (.int (4 : Int32)), .val (.int (4 : Int32)), .unset, .unset, .unset] [(.int (4 : Int32))]))
  refine go (fun _ q => XS.iload X185.here hx rfl (hb hby d2_61) rfl q) ?_
  show Go p e below _ (T185.setTop (mkF m 63 #[.val (.ref a1), .val (.int (2 : Int32)), .val (.ref a3), .val (.ref a4), .val (.ref a5), .val (.ref a6), .val (.ref a7), .val (.int p8), .val (.int p9), .val (.int p10), .val (.int p11), .val (.int (4 : Int32)), .val (.int (4 : Int32)), .unset, .unset, .unset] [(.int (4 : Int32)), (.int (4 : Int32))]))
  refine go (fun _ q => XS.icmpYes X185.here hx rfl (pc0 := 63) (pc' := 87) rfl (hb hby d2_63) rfl (flt (by decide : ¬ ((4 : Int32) < (4 : Int32)))).2.1 (by decide) (by decide) q) ?_
  show Go p e below _ (T185.setTop (mkF m 87 #[.val (.ref a1), .val (.int (2 : Int32)), .val (.ref a3), .val (.ref a4), .val (.ref a5), .val (.ref a6), .val (.ref a7), .val (.int p8), .val (.int p9), .val (.int p10), .val (.int p11), .val (.int (4 : Int32)), .val (.int (4 : Int32)), .unset, .unset, .unset] []))
  refine go (fun _ q => XS.iconst X185.here hx rfl (hb hby d2_87) q) ?_
  show Go p e below _ (T185.setTop (mkF m 88 #[.val (.ref a1), .val (.int (2 : Int32)), .val (.ref a3), .val (.ref a4), .val (.ref a5), .val (.ref a6), .val (.ref a7), .val (.int p8), .val (.int p9), .val (.int p10), .val (.int p11), .val (.int (4 : Int32)), .val (.int (4 : Int32)), .unset, .unset, .unset] [(.int (0 : Int32))]))
  refine go (fun _ q => XS.istore X185.here hx rfl (hb hby d2_88) rfl (l' := #[.val (.ref a1), .val (.int (2 : Int32)), .val (.ref a3), .val (.ref a4), .val (.ref a5), .val (.ref a6), .val (.ref a7), .val (.int p8), .val (.int p9), .val (.int p10), .val (.int p11), .val (.int (4 : Int32)), .val (.int (0 : Int32)), .unset, .unset, .unset]) rfl q) ?_
  show Go p e below _ (T185.setTop (mkF m 90 #[.val (.ref a1), .val (.int (2 : Int32)), .val (.ref a3), .val (.ref a4), .val (.ref a5), .val (.ref a6), .val (.ref a7), .val (.int p8), .val (.int p9), .val (.int p10), .val (.int p11), .val (.int (4 : Int32)), .val (.int (0 : Int32)), .unset, .unset, .unset] []))
  refine go (fun _ q => XS.iload X185.here hx rfl (hb hby d2_90) rfl q) ?_
  show Go p e below _ (T185.setTop (mkF m 92 #[.val (.ref a1), .val (.int (2 : Int32)), .val (.ref a3), .val (.ref a4), .val (.ref a5), .val (.ref a6), .val (.ref a7), .val (.int p8), .val (.int p9), .val (.int p10), .val (.int p11), .val (.int (4 : Int32)), .val (.int (0 : Int32)), .unset, .unset, .unset] [(.int (0 : Int32))]))
  refine go (fun _ q => XS.iloadN X185.here hx rfl (hb hby d2_92) rfl q) ?_
  show Go p e below _ (T185.setTop (mkF m 93 #[.val (.ref a1), .val (.int (2 : Int32)), .val (.ref a3), .val (.ref a4), .val (.ref a5), .val (.ref a6), .val (.ref a7), .val (.int p8), .val (.int p9), .val (.int p10), .val (.int p11), .val (.int (4 : Int32)), .val (.int (0 : Int32)), .unset, .unset, .unset] [(.int (2 : Int32)), (.int (0 : Int32))]))
  refine go (fun _ q => XS.icmpNo X185.here hx rfl (hb hby d2_93) rfl (flt (by decide : ¬ ((2 : Int32) < (0 : Int32)))).2.2.1 q) ?_
  show Go p e below _ (T185.setTop (mkF m 96 #[.val (.ref a1), .val (.int (2 : Int32)), .val (.ref a3), .val (.ref a4), .val (.ref a5), .val (.ref a6), .val (.ref a7), .val (.int p8), .val (.int p9), .val (.int p10), .val (.int p11), .val (.int (4 : Int32)), .val (.int (0 : Int32)), .unset, .unset, .unset] []))
  refine go (fun _ q => XS.aloadN X185.here hx rfl (hb hby d2_96) rfl rfl q) ?_
  show Go p e below _ (T185.setTop (mkF m 97 #[.val (.ref a1), .val (.int (2 : Int32)), .val (.ref a3), .val (.ref a4), .val (.ref a5), .val (.ref a6), .val (.ref a7), .val (.int p8), .val (.int p9), .val (.int p10), .val (.int p11), .val (.int (4 : Int32)), .val (.int (0 : Int32)), .unset, .unset, .unset] [(.ref a1)]))
  obtain ⟨T198, X198, e198, st198⟩ := getF X185 hx hZ hown (host := "") (Or.inl (hw _ (List.mem_of_getElem? (i := 29) rfl))) Via.refl e185 F_firstAt_188 (g := (mkF m 97 #[.val (.ref a1), .val (.int (2 : Int32)), .val (.ref a3), .val (.ref a4), .val (.ref a5), .val (.ref a6), .val (.ref a7), .val (.int p8), .val (.int p9), .val (.int p10), .val (.int p11), .val (.int (4 : Int32)), .val (.int (0 : Int32)), .unset, .unset, .unset] [(.ref a1)])) rfl rfl (hb hby d2_97)
  refine go st198 ?_
  show Go p e below _ (T198.setTop (mkF m 100 #[.val (.ref a1), .val (.int (2 : Int32)), .val (.ref a3), .val (.ref a4), .val (.ref a5), .val (.ref a6), .val (.ref a7), .val (.int p8), .val (.int p9), .val (.int p10), .val (.int p11), .val (.int (4 : Int32)), .val (.int (0 : Int32)), .unset, .unset, .unset] [(.ref b112)]))
  refine go (fun _ q => XS.iload X198.here hx rfl (hb hby d2_100) rfl q) ?_
  show Go p e below _ (T198.setTop (mkF m 102 #[.val (.ref a1), .val (.int (2 : Int32)), .val (.ref a3), .val (.ref a4), .val (.ref a5), .val (.ref a6), .val (.ref a7), .val (.int p8), .val (.int p9), .val (.int p10), .val (.int p11), .val (.int (4 : Int32)), .val (.int (0 : Int32)), .unset, .unset, .unset] [(.int (0 : Int32)), (.ref b112)]))
  refine go (fun _ q => XS.iconst X198.here hx rfl (hb hby d2_102) q) ?_
  show Go p e below _ (T198.setTop (mkF m 103 #[.val (.ref a1), .val (.int (2 : Int32)), .val (.ref a3), .val (.ref a4), .val (.ref a5), .val (.ref a6), .val (.ref a7), .val (.int p8), .val (.int p9), .val (.int p10), .val (.int p11), .val (.int (4 : Int32)), .val (.int (0 : Int32)), .unset, .unset, .unset] [(.int (1 : Int32)), (.int (0 : Int32)), (.ref b112)]))
  refine go (fun _ q => XS.iadd X198.here hx rfl (hb hby d2_103) rfl q) ?_
  show Go p e below _ (T198.setTop (mkF m 104 #[.val (.ref a1), .val (.int (2 : Int32)), .val (.ref a3), .val (.ref a4), .val (.ref a5), .val (.ref a6), .val (.ref a7), .val (.int p8), .val (.int p9), .val (.int p10), .val (.int p11), .val (.int (4 : Int32)), .val (.int (0 : Int32)), .unset, .unset, .unset] [(.int (1 : Int32)), (.ref b112)]))
  refine go (S' := T198.setTop (mkF m 105 #[.val (.ref a1), .val (.int (2 : Int32)), .val (.ref a3), .val (.ref a4), .val (.ref a5), .val (.ref a6), .val (.ref a7), .val (.int p8), .val (.int p9), .val (.int p10), .val (.int p11), .val (.int (4 : Int32)), .val (.int (0 : Int32)), .unset, .unset, .unset] [(.int (1 : Int32)), (.ref b112), (.int (1 : Int32)), (.ref b112)])) (fun _ q => by jvm_step X198.here [X198.here.top, hx, (hb hby d2_104), Value.category]; exact q) ?_
  show Go p e below _ (T198.setTop (mkF m 105 #[.val (.ref a1), .val (.int (2 : Int32)), .val (.ref a3), .val (.ref a4), .val (.ref a5), .val (.ref a6), .val (.ref a7), .val (.int p8), .val (.int p9), .val (.int p10), .val (.int p11), .val (.int (4 : Int32)), .val (.int (0 : Int32)), .unset, .unset, .unset] [(.int (1 : Int32)), (.ref b112), (.int (1 : Int32)), (.ref b112)]))
  refine go (own_iaload X198 hx hZ e198 P185 (j := (1 : Int32)) (by decide) (by rw [l185]; decide) (g := (mkF m 105 #[.val (.ref a1), .val (.int (2 : Int32)), .val (.ref a3), .val (.ref a4), .val (.ref a5), .val (.ref a6), .val (.ref a7), .val (.int p8), .val (.int p9), .val (.int p10), .val (.int p11), .val (.int (4 : Int32)), .val (.int (0 : Int32)), .unset, .unset, .unset] [(.int (1 : Int32)), (.ref b112), (.int (1 : Int32)), (.ref b112)])) rfl rfl (hb hby d2_105)) ?_
  show Go p e below _ (T198.setTop (mkF m 106 #[.val (.ref a1), .val (.int (2 : Int32)), .val (.ref a3), .val (.ref a4), .val (.ref a5), .val (.ref a6), .val (.ref a7), .val (.int p8), .val (.int p9), .val (.int p10), .val (.int p11), .val (.int (4 : Int32)), .val (.int (0 : Int32)), .unset, .unset, .unset] [(.int (xs185.getD ((1 : Int32)).toNatClampNeg 0)), (.int (1 : Int32)), (.ref b112)]))
  generalize hv199 : (xs185.getD ((1 : Int32)).toNatClampNeg 0) = v199
  show Go p e below _ (T198.setTop (mkF m 106 #[.val (.ref a1), .val (.int (2 : Int32)), .val (.ref a3), .val (.ref a4), .val (.ref a5), .val (.ref a6), .val (.ref a7), .val (.int p8), .val (.int p9), .val (.int p10), .val (.int p11), .val (.int (4 : Int32)), .val (.int (0 : Int32)), .unset, .unset, .unset] [(.int v199), (.int (1 : Int32)), (.ref b112)]))
  show Go p e below _ (T198.setTop (mkF m 106 #[.val (.ref a1), .val (.int (2 : Int32)), .val (.ref a3), .val (.ref a4), .val (.ref a5), .val (.ref a6), .val (.ref a7), .val (.int p8), .val (.int p9), .val (.int p10), .val (.int p11), .val (.int (4 : Int32)), .val (.int (0 : Int32)), .unset, .unset, .unset] [(.int v199), (.int (1 : Int32)), (.ref b112)]))
  refine go (fun _ q => XS.aloadN X198.here hx rfl (hb hby d2_106) rfl rfl q) ?_
  show Go p e below _ (T198.setTop (mkF m 107 #[.val (.ref a1), .val (.int (2 : Int32)), .val (.ref a3), .val (.ref a4), .val (.ref a5), .val (.ref a6), .val (.ref a7), .val (.int p8), .val (.int p9), .val (.int p10), .val (.int p11), .val (.int (4 : Int32)), .val (.int (0 : Int32)), .unset, .unset, .unset] [(.ref a1), (.int v199), (.int (1 : Int32)), (.ref b112)]))
  obtain ⟨T200, X200, e200, st200⟩ := getF X198 hx hZ hown (host := "") (Or.inl (hw _ (List.mem_of_getElem? (i := 29) rfl))) Via.refl e198 F_firstAt_188 (g := (mkF m 107 #[.val (.ref a1), .val (.int (2 : Int32)), .val (.ref a3), .val (.ref a4), .val (.ref a5), .val (.ref a6), .val (.ref a7), .val (.int p8), .val (.int p9), .val (.int p10), .val (.int p11), .val (.int (4 : Int32)), .val (.int (0 : Int32)), .unset, .unset, .unset] [(.ref a1), (.int v199), (.int (1 : Int32)), (.ref b112)])) rfl rfl (hb hby d2_107)
  refine go st200 ?_
  show Go p e below _ (T200.setTop (mkF m 110 #[.val (.ref a1), .val (.int (2 : Int32)), .val (.ref a3), .val (.ref a4), .val (.ref a5), .val (.ref a6), .val (.ref a7), .val (.int p8), .val (.int p9), .val (.int p10), .val (.int p11), .val (.int (4 : Int32)), .val (.int (0 : Int32)), .unset, .unset, .unset] [(.ref b112), (.int v199), (.int (1 : Int32)), (.ref b112)]))
  refine go (fun _ q => XS.iload X200.here hx rfl (hb hby d2_110) rfl q) ?_
  show Go p e below _ (T200.setTop (mkF m 112 #[.val (.ref a1), .val (.int (2 : Int32)), .val (.ref a3), .val (.ref a4), .val (.ref a5), .val (.ref a6), .val (.ref a7), .val (.int p8), .val (.int p9), .val (.int p10), .val (.int p11), .val (.int (4 : Int32)), .val (.int (0 : Int32)), .unset, .unset, .unset] [(.int (0 : Int32)), (.ref b112), (.int v199), (.int (1 : Int32)), (.ref b112)]))
  refine go (own_iaload X200 hx hZ e200 P185 (j := (0 : Int32)) (by decide) (by rw [l185]; decide) (g := (mkF m 112 #[.val (.ref a1), .val (.int (2 : Int32)), .val (.ref a3), .val (.ref a4), .val (.ref a5), .val (.ref a6), .val (.ref a7), .val (.int p8), .val (.int p9), .val (.int p10), .val (.int p11), .val (.int (4 : Int32)), .val (.int (0 : Int32)), .unset, .unset, .unset] [(.int (0 : Int32)), (.ref b112), (.int v199), (.int (1 : Int32)), (.ref b112)])) rfl rfl (hb hby d2_112)) ?_
  show Go p e below _ (T200.setTop (mkF m 113 #[.val (.ref a1), .val (.int (2 : Int32)), .val (.ref a3), .val (.ref a4), .val (.ref a5), .val (.ref a6), .val (.ref a7), .val (.int p8), .val (.int p9), .val (.int p10), .val (.int p11), .val (.int (4 : Int32)), .val (.int (0 : Int32)), .unset, .unset, .unset] [(.int (xs185.getD ((0 : Int32)).toNatClampNeg 0)), (.int v199), (.int (1 : Int32)), (.ref b112)]))
  generalize hv201 : (xs185.getD ((0 : Int32)).toNatClampNeg 0) = v201
  show Go p e below _ (T200.setTop (mkF m 113 #[.val (.ref a1), .val (.int (2 : Int32)), .val (.ref a3), .val (.ref a4), .val (.ref a5), .val (.ref a6), .val (.ref a7), .val (.int p8), .val (.int p9), .val (.int p10), .val (.int p11), .val (.int (4 : Int32)), .val (.int (0 : Int32)), .unset, .unset, .unset] [(.int v201), (.int v199), (.int (1 : Int32)), (.ref b112)]))
  show Go p e below _ (T200.setTop (mkF m 113 #[.val (.ref a1), .val (.int (2 : Int32)), .val (.ref a3), .val (.ref a4), .val (.ref a5), .val (.ref a6), .val (.ref a7), .val (.int p8), .val (.int p9), .val (.int p10), .val (.int p11), .val (.int (4 : Int32)), .val (.int (0 : Int32)), .unset, .unset, .unset] [(.int v201), (.int v199), (.int (1 : Int32)), (.ref b112)]))
  refine go (fun _ q => XS.iadd X200.here hx rfl (hb hby d2_113) rfl q) ?_
  show Go p e below _ (T200.setTop (mkF m 114 #[.val (.ref a1), .val (.int (2 : Int32)), .val (.ref a3), .val (.ref a4), .val (.ref a5), .val (.ref a6), .val (.ref a7), .val (.int p8), .val (.int p9), .val (.int p10), .val (.int p11), .val (.int (4 : Int32)), .val (.int (0 : Int32)), .unset, .unset, .unset] [(.int (v199 + v201)), (.int (1 : Int32)), (.ref b112)]))
  obtain ⟨T202, h202, X202, e202, W202, V202, st202⟩ := own_iastore X200 hx hZ e200 P185 (j := (1 : Int32)) (x := (v199 + v201)) (by decide) (by rw [l185]; decide) (g := (mkF m 114 #[.val (.ref a1), .val (.int (2 : Int32)), .val (.ref a3), .val (.ref a4), .val (.ref a5), .val (.ref a6), .val (.ref a7), .val (.int p8), .val (.int p9), .val (.int p10), .val (.int p11), .val (.int (4 : Int32)), .val (.int (0 : Int32)), .unset, .unset, .unset] [(.int (v199 + v201)), (.int (1 : Int32)), (.ref b112)])) rfl rfl (hb hby d2_114)
  refine go st202 ?_
  obtain ⟨xs202, hxs202⟩ : ∃ z, z = (xs185.set ((1 : Int32)).toNatClampNeg (v199 + v201)) := ⟨_, rfl⟩
  rw [← hxs202] at V202
  have l202 : xs202.length = 4 := by rw [hxs202, List.length_set]; exact l185
  have P202 : Ari Z h202 b112 xs202 := V202
  have E_a1_203 : Exa Z h202 a1 "com/example/junctura/junctura/conformance/OptimalPaths" := E_a1_186.wr W202
  have F_marking_204 : Fld Z h202 a1 "com/example/junctura/junctura/conformance/OptimalPaths" "marking" "[I" (.ref a3) := F_marking_187.other W202 (Or.inl ne_a1_b112)
  have F_firstAt_205 : Fld Z h202 a1 "com/example/junctura/junctura/conformance/OptimalPaths" "firstAt" "[I" (.ref b112) := F_firstAt_188.other W202 (Or.inl ne_a1_b112)
  have F_firstOut_206 : Fld Z h202 a1 "com/example/junctura/junctura/conformance/OptimalPaths" "firstOut" "[I" u_firstOut := F_firstOut_189.other W202 (Or.inl ne_a1_b112)
  have F_firstIn_207 : Fld Z h202 a1 "com/example/junctura/junctura/conformance/OptimalPaths" "firstIn" "[I" u_firstIn := F_firstIn_190.other W202 (Or.inl ne_a1_b112)
  have F_target_208 : Fld Z h202 a1 "com/example/junctura/junctura/conformance/OptimalPaths" "target" "[I" u_target := F_target_191.other W202 (Or.inl ne_a1_b112)
  have F_transition_209 : Fld Z h202 a1 "com/example/junctura/junctura/conformance/OptimalPaths" "transition" "[I" u_transition := F_transition_192.other W202 (Or.inl ne_a1_b112)
  have F_source_210 : Fld Z h202 a1 "com/example/junctura/junctura/conformance/OptimalPaths" "source" "[I" u_source := F_source_193.other W202 (Or.inl ne_a1_b112)
  have P_211 : Ari Z h202 a3 ([m0, m1, m2, m3] : List Int32) := P_194.other W202 ne_a3_b112
  have P_212 : Ari Z h202 a4 ([q0, q1, q2, q3] : List Int32) := P_195.other W202 ne_a4_b112
  have P_213 : Ari Z h202 a5 ([] : List Int32) := P_196.other W202 ne_a5_b112
  have P_214 : Ari Z h202 a6 ([] : List Int32) := P_197.other W202 ne_a6_b112
  have N202 := Fr.snoc X202 N185 g_b112
  have K202 : Keep h0 h202 [a1] := K185.wr W202 (Or.inr sz_b112)
  have Z202 : n0 ≤ h202.size := Nat.le_trans Z185 (Nat.le_of_eq W202.size.symm)
  show Go p e below _ (T202.setTop (mkF m 115 #[.val (.ref a1), .val (.int (2 : Int32)), .val (.ref a3), .val (.ref a4), .val (.ref a5), .val (.ref a6), .val (.ref a7), .val (.int p8), .val (.int p9), .val (.int p10), .val (.int p11), .val (.int (4 : Int32)), .val (.int (0 : Int32)), .unset, .unset, .unset] []))
  refine go (fun _ q => XS.iinc X202.here hx rfl (hb hby d2_115) rfl (l' := #[.val (.ref a1), .val (.int (2 : Int32)), .val (.ref a3), .val (.ref a4), .val (.ref a5), .val (.ref a6), .val (.ref a7), .val (.int p8), .val (.int p9), .val (.int p10), .val (.int p11), .val (.int (4 : Int32)), .val (.int (1 : Int32)), .unset, .unset, .unset]) rfl q) ?_
  show Go p e below _ (T202.setTop (mkF m 118 #[.val (.ref a1), .val (.int (2 : Int32)), .val (.ref a3), .val (.ref a4), .val (.ref a5), .val (.ref a6), .val (.ref a7), .val (.int p8), .val (.int p9), .val (.int p10), .val (.int p11), .val (.int (4 : Int32)), .val (.int (1 : Int32)), .unset, .unset, .unset] []))
  refine go (fun _ q => XS.goto X202.here hx rfl (pc0 := 118) (pc' := 90) rfl (hb hby d2_118) (by decide) (by decide) q) ?_
  show Go p e below _ (T202.setTop (mkF m 90 #[.val (.ref a1), .val (.int (2 : Int32)), .val (.ref a3), .val (.ref a4), .val (.ref a5), .val (.ref a6), .val (.ref a7), .val (.int p8), .val (.int p9), .val (.int p10), .val (.int p11), .val (.int (4 : Int32)), .val (.int (1 : Int32)), .unset, .unset, .unset] []))
  refine go (fun _ q => XS.iload X202.here hx rfl (hb hby d2_90) rfl q) ?_
  show Go p e below _ (T202.setTop (mkF m 92 #[.val (.ref a1), .val (.int (2 : Int32)), .val (.ref a3), .val (.ref a4), .val (.ref a5), .val (.ref a6), .val (.ref a7), .val (.int p8), .val (.int p9), .val (.int p10), .val (.int p11), .val (.int (4 : Int32)), .val (.int (1 : Int32)), .unset, .unset, .unset] [(.int (1 : Int32))]))
  refine go (fun _ q => XS.iloadN X202.here hx rfl (hb hby d2_92) rfl q) ?_
  show Go p e below _ (T202.setTop (mkF m 93 #[.val (.ref a1), .val (.int (2 : Int32)), .val (.ref a3), .val (.ref a4), .val (.ref a5), .val (.ref a6), .val (.ref a7), .val (.int p8), .val (.int p9), .val (.int p10), .val (.int p11), .val (.int (4 : Int32)), .val (.int (1 : Int32)), .unset, .unset, .unset] [(.int (2 : Int32)), (.int (1 : Int32))]))
  refine go (fun _ q => XS.icmpNo X202.here hx rfl (hb hby d2_93) rfl (flt (by decide : ¬ ((2 : Int32) < (1 : Int32)))).2.2.1 q) ?_
  show Go p e below _ (T202.setTop (mkF m 96 #[.val (.ref a1), .val (.int (2 : Int32)), .val (.ref a3), .val (.ref a4), .val (.ref a5), .val (.ref a6), .val (.ref a7), .val (.int p8), .val (.int p9), .val (.int p10), .val (.int p11), .val (.int (4 : Int32)), .val (.int (1 : Int32)), .unset, .unset, .unset] []))
  refine go (fun _ q => XS.aloadN X202.here hx rfl (hb hby d2_96) rfl rfl q) ?_
  show Go p e below _ (T202.setTop (mkF m 97 #[.val (.ref a1), .val (.int (2 : Int32)), .val (.ref a3), .val (.ref a4), .val (.ref a5), .val (.ref a6), .val (.ref a7), .val (.int p8), .val (.int p9), .val (.int p10), .val (.int p11), .val (.int (4 : Int32)), .val (.int (1 : Int32)), .unset, .unset, .unset] [(.ref a1)]))
  obtain ⟨T215, X215, e215, st215⟩ := getF X202 hx hZ hown (host := "") (Or.inl (hw _ (List.mem_of_getElem? (i := 29) rfl))) Via.refl e202 F_firstAt_205 (g := (mkF m 97 #[.val (.ref a1), .val (.int (2 : Int32)), .val (.ref a3), .val (.ref a4), .val (.ref a5), .val (.ref a6), .val (.ref a7), .val (.int p8), .val (.int p9), .val (.int p10), .val (.int p11), .val (.int (4 : Int32)), .val (.int (1 : Int32)), .unset, .unset, .unset] [(.ref a1)])) rfl rfl (hb hby d2_97)
  refine go st215 ?_
  show Go p e below _ (T215.setTop (mkF m 100 #[.val (.ref a1), .val (.int (2 : Int32)), .val (.ref a3), .val (.ref a4), .val (.ref a5), .val (.ref a6), .val (.ref a7), .val (.int p8), .val (.int p9), .val (.int p10), .val (.int p11), .val (.int (4 : Int32)), .val (.int (1 : Int32)), .unset, .unset, .unset] [(.ref b112)]))
  refine go (fun _ q => XS.iload X215.here hx rfl (hb hby d2_100) rfl q) ?_
  show Go p e below _ (T215.setTop (mkF m 102 #[.val (.ref a1), .val (.int (2 : Int32)), .val (.ref a3), .val (.ref a4), .val (.ref a5), .val (.ref a6), .val (.ref a7), .val (.int p8), .val (.int p9), .val (.int p10), .val (.int p11), .val (.int (4 : Int32)), .val (.int (1 : Int32)), .unset, .unset, .unset] [(.int (1 : Int32)), (.ref b112)]))
  refine go (fun _ q => XS.iconst X215.here hx rfl (hb hby d2_102) q) ?_
  show Go p e below _ (T215.setTop (mkF m 103 #[.val (.ref a1), .val (.int (2 : Int32)), .val (.ref a3), .val (.ref a4), .val (.ref a5), .val (.ref a6), .val (.ref a7), .val (.int p8), .val (.int p9), .val (.int p10), .val (.int p11), .val (.int (4 : Int32)), .val (.int (1 : Int32)), .unset, .unset, .unset] [(.int (1 : Int32)), (.int (1 : Int32)), (.ref b112)]))
  refine go (fun _ q => XS.iadd X215.here hx rfl (hb hby d2_103) rfl q) ?_
  show Go p e below _ (T215.setTop (mkF m 104 #[.val (.ref a1), .val (.int (2 : Int32)), .val (.ref a3), .val (.ref a4), .val (.ref a5), .val (.ref a6), .val (.ref a7), .val (.int p8), .val (.int p9), .val (.int p10), .val (.int p11), .val (.int (4 : Int32)), .val (.int (1 : Int32)), .unset, .unset, .unset] [(.int (2 : Int32)), (.ref b112)]))
  refine go (S' := T215.setTop (mkF m 105 #[.val (.ref a1), .val (.int (2 : Int32)), .val (.ref a3), .val (.ref a4), .val (.ref a5), .val (.ref a6), .val (.ref a7), .val (.int p8), .val (.int p9), .val (.int p10), .val (.int p11), .val (.int (4 : Int32)), .val (.int (1 : Int32)), .unset, .unset, .unset] [(.int (2 : Int32)), (.ref b112), (.int (2 : Int32)), (.ref b112)])) (fun _ q => by jvm_step X215.here [X215.here.top, hx, (hb hby d2_104), Value.category]; exact q) ?_
  show Go p e below _ (T215.setTop (mkF m 105 #[.val (.ref a1), .val (.int (2 : Int32)), .val (.ref a3), .val (.ref a4), .val (.ref a5), .val (.ref a6), .val (.ref a7), .val (.int p8), .val (.int p9), .val (.int p10), .val (.int p11), .val (.int (4 : Int32)), .val (.int (1 : Int32)), .unset, .unset, .unset] [(.int (2 : Int32)), (.ref b112), (.int (2 : Int32)), (.ref b112)]))
  refine go (own_iaload X215 hx hZ e215 P202 (j := (2 : Int32)) (by decide) (by rw [l202]; decide) (g := (mkF m 105 #[.val (.ref a1), .val (.int (2 : Int32)), .val (.ref a3), .val (.ref a4), .val (.ref a5), .val (.ref a6), .val (.ref a7), .val (.int p8), .val (.int p9), .val (.int p10), .val (.int p11), .val (.int (4 : Int32)), .val (.int (1 : Int32)), .unset, .unset, .unset] [(.int (2 : Int32)), (.ref b112), (.int (2 : Int32)), (.ref b112)])) rfl rfl (hb hby d2_105)) ?_
  show Go p e below _ (T215.setTop (mkF m 106 #[.val (.ref a1), .val (.int (2 : Int32)), .val (.ref a3), .val (.ref a4), .val (.ref a5), .val (.ref a6), .val (.ref a7), .val (.int p8), .val (.int p9), .val (.int p10), .val (.int p11), .val (.int (4 : Int32)), .val (.int (1 : Int32)), .unset, .unset, .unset] [(.int (xs202.getD ((2 : Int32)).toNatClampNeg 0)), (.int (2 : Int32)), (.ref b112)]))
  generalize hv216 : (xs202.getD ((2 : Int32)).toNatClampNeg 0) = v216
  show Go p e below _ (T215.setTop (mkF m 106 #[.val (.ref a1), .val (.int (2 : Int32)), .val (.ref a3), .val (.ref a4), .val (.ref a5), .val (.ref a6), .val (.ref a7), .val (.int p8), .val (.int p9), .val (.int p10), .val (.int p11), .val (.int (4 : Int32)), .val (.int (1 : Int32)), .unset, .unset, .unset] [(.int v216), (.int (2 : Int32)), (.ref b112)]))
  show Go p e below _ (T215.setTop (mkF m 106 #[.val (.ref a1), .val (.int (2 : Int32)), .val (.ref a3), .val (.ref a4), .val (.ref a5), .val (.ref a6), .val (.ref a7), .val (.int p8), .val (.int p9), .val (.int p10), .val (.int p11), .val (.int (4 : Int32)), .val (.int (1 : Int32)), .unset, .unset, .unset] [(.int v216), (.int (2 : Int32)), (.ref b112)]))
  refine go (fun _ q => XS.aloadN X215.here hx rfl (hb hby d2_106) rfl rfl q) ?_
  show Go p e below _ (T215.setTop (mkF m 107 #[.val (.ref a1), .val (.int (2 : Int32)), .val (.ref a3), .val (.ref a4), .val (.ref a5), .val (.ref a6), .val (.ref a7), .val (.int p8), .val (.int p9), .val (.int p10), .val (.int p11), .val (.int (4 : Int32)), .val (.int (1 : Int32)), .unset, .unset, .unset] [(.ref a1), (.int v216), (.int (2 : Int32)), (.ref b112)]))
  obtain ⟨T217, X217, e217, st217⟩ := getF X215 hx hZ hown (host := "") (Or.inl (hw _ (List.mem_of_getElem? (i := 29) rfl))) Via.refl e215 F_firstAt_205 (g := (mkF m 107 #[.val (.ref a1), .val (.int (2 : Int32)), .val (.ref a3), .val (.ref a4), .val (.ref a5), .val (.ref a6), .val (.ref a7), .val (.int p8), .val (.int p9), .val (.int p10), .val (.int p11), .val (.int (4 : Int32)), .val (.int (1 : Int32)), .unset, .unset, .unset] [(.ref a1), (.int v216), (.int (2 : Int32)), (.ref b112)])) rfl rfl (hb hby d2_107)
  refine go st217 ?_
  show Go p e below _ (T217.setTop (mkF m 110 #[.val (.ref a1), .val (.int (2 : Int32)), .val (.ref a3), .val (.ref a4), .val (.ref a5), .val (.ref a6), .val (.ref a7), .val (.int p8), .val (.int p9), .val (.int p10), .val (.int p11), .val (.int (4 : Int32)), .val (.int (1 : Int32)), .unset, .unset, .unset] [(.ref b112), (.int v216), (.int (2 : Int32)), (.ref b112)]))
  refine go (fun _ q => XS.iload X217.here hx rfl (hb hby d2_110) rfl q) ?_
  show Go p e below _ (T217.setTop (mkF m 112 #[.val (.ref a1), .val (.int (2 : Int32)), .val (.ref a3), .val (.ref a4), .val (.ref a5), .val (.ref a6), .val (.ref a7), .val (.int p8), .val (.int p9), .val (.int p10), .val (.int p11), .val (.int (4 : Int32)), .val (.int (1 : Int32)), .unset, .unset, .unset] [(.int (1 : Int32)), (.ref b112), (.int v216), (.int (2 : Int32)), (.ref b112)]))
  refine go (own_iaload X217 hx hZ e217 P202 (j := (1 : Int32)) (by decide) (by rw [l202]; decide) (g := (mkF m 112 #[.val (.ref a1), .val (.int (2 : Int32)), .val (.ref a3), .val (.ref a4), .val (.ref a5), .val (.ref a6), .val (.ref a7), .val (.int p8), .val (.int p9), .val (.int p10), .val (.int p11), .val (.int (4 : Int32)), .val (.int (1 : Int32)), .unset, .unset, .unset] [(.int (1 : Int32)), (.ref b112), (.int v216), (.int (2 : Int32)), (.ref b112)])) rfl rfl (hb hby d2_112)) ?_
  show Go p e below _ (T217.setTop (mkF m 113 #[.val (.ref a1), .val (.int (2 : Int32)), .val (.ref a3), .val (.ref a4), .val (.ref a5), .val (.ref a6), .val (.ref a7), .val (.int p8), .val (.int p9), .val (.int p10), .val (.int p11), .val (.int (4 : Int32)), .val (.int (1 : Int32)), .unset, .unset, .unset] [(.int (xs202.getD ((1 : Int32)).toNatClampNeg 0)), (.int v216), (.int (2 : Int32)), (.ref b112)]))
  generalize hv218 : (xs202.getD ((1 : Int32)).toNatClampNeg 0) = v218
  show Go p e below _ (T217.setTop (mkF m 113 #[.val (.ref a1), .val (.int (2 : Int32)), .val (.ref a3), .val (.ref a4), .val (.ref a5), .val (.ref a6), .val (.ref a7), .val (.int p8), .val (.int p9), .val (.int p10), .val (.int p11), .val (.int (4 : Int32)), .val (.int (1 : Int32)), .unset, .unset, .unset] [(.int v218), (.int v216), (.int (2 : Int32)), (.ref b112)]))
  show Go p e below _ (T217.setTop (mkF m 113 #[.val (.ref a1), .val (.int (2 : Int32)), .val (.ref a3), .val (.ref a4), .val (.ref a5), .val (.ref a6), .val (.ref a7), .val (.int p8), .val (.int p9), .val (.int p10), .val (.int p11), .val (.int (4 : Int32)), .val (.int (1 : Int32)), .unset, .unset, .unset] [(.int v218), (.int v216), (.int (2 : Int32)), (.ref b112)]))
  refine go (fun _ q => XS.iadd X217.here hx rfl (hb hby d2_113) rfl q) ?_
  show Go p e below _ (T217.setTop (mkF m 114 #[.val (.ref a1), .val (.int (2 : Int32)), .val (.ref a3), .val (.ref a4), .val (.ref a5), .val (.ref a6), .val (.ref a7), .val (.int p8), .val (.int p9), .val (.int p10), .val (.int p11), .val (.int (4 : Int32)), .val (.int (1 : Int32)), .unset, .unset, .unset] [(.int (v216 + v218)), (.int (2 : Int32)), (.ref b112)]))
  obtain ⟨T219, h219, X219, e219, W219, V219, st219⟩ := own_iastore X217 hx hZ e217 P202 (j := (2 : Int32)) (x := (v216 + v218)) (by decide) (by rw [l202]; decide) (g := (mkF m 114 #[.val (.ref a1), .val (.int (2 : Int32)), .val (.ref a3), .val (.ref a4), .val (.ref a5), .val (.ref a6), .val (.ref a7), .val (.int p8), .val (.int p9), .val (.int p10), .val (.int p11), .val (.int (4 : Int32)), .val (.int (1 : Int32)), .unset, .unset, .unset] [(.int (v216 + v218)), (.int (2 : Int32)), (.ref b112)])) rfl rfl (hb hby d2_114)
  refine go st219 ?_
  obtain ⟨xs219, hxs219⟩ : ∃ z, z = (xs202.set ((2 : Int32)).toNatClampNeg (v216 + v218)) := ⟨_, rfl⟩
  rw [← hxs219] at V219
  have l219 : xs219.length = 4 := by rw [hxs219, List.length_set]; exact l202
  have P219 : Ari Z h219 b112 xs219 := V219
  have E_a1_220 : Exa Z h219 a1 "com/example/junctura/junctura/conformance/OptimalPaths" := E_a1_203.wr W219
  have F_marking_221 : Fld Z h219 a1 "com/example/junctura/junctura/conformance/OptimalPaths" "marking" "[I" (.ref a3) := F_marking_204.other W219 (Or.inl ne_a1_b112)
  have F_firstAt_222 : Fld Z h219 a1 "com/example/junctura/junctura/conformance/OptimalPaths" "firstAt" "[I" (.ref b112) := F_firstAt_205.other W219 (Or.inl ne_a1_b112)
  have F_firstOut_223 : Fld Z h219 a1 "com/example/junctura/junctura/conformance/OptimalPaths" "firstOut" "[I" u_firstOut := F_firstOut_206.other W219 (Or.inl ne_a1_b112)
  have F_firstIn_224 : Fld Z h219 a1 "com/example/junctura/junctura/conformance/OptimalPaths" "firstIn" "[I" u_firstIn := F_firstIn_207.other W219 (Or.inl ne_a1_b112)
  have F_target_225 : Fld Z h219 a1 "com/example/junctura/junctura/conformance/OptimalPaths" "target" "[I" u_target := F_target_208.other W219 (Or.inl ne_a1_b112)
  have F_transition_226 : Fld Z h219 a1 "com/example/junctura/junctura/conformance/OptimalPaths" "transition" "[I" u_transition := F_transition_209.other W219 (Or.inl ne_a1_b112)
  have F_source_227 : Fld Z h219 a1 "com/example/junctura/junctura/conformance/OptimalPaths" "source" "[I" u_source := F_source_210.other W219 (Or.inl ne_a1_b112)
  have P_228 : Ari Z h219 a3 ([m0, m1, m2, m3] : List Int32) := P_211.other W219 ne_a3_b112
  have P_229 : Ari Z h219 a4 ([q0, q1, q2, q3] : List Int32) := P_212.other W219 ne_a4_b112
  have P_230 : Ari Z h219 a5 ([] : List Int32) := P_213.other W219 ne_a5_b112
  have P_231 : Ari Z h219 a6 ([] : List Int32) := P_214.other W219 ne_a6_b112
  have N219 := Fr.snoc X219 N202 g_b112
  have K219 : Keep h0 h219 [a1] := K202.wr W219 (Or.inr sz_b112)
  have Z219 : n0 ≤ h219.size := Nat.le_trans Z202 (Nat.le_of_eq W219.size.symm)
  show Go p e below _ (T219.setTop (mkF m 115 #[.val (.ref a1), .val (.int (2 : Int32)), .val (.ref a3), .val (.ref a4), .val (.ref a5), .val (.ref a6), .val (.ref a7), .val (.int p8), .val (.int p9), .val (.int p10), .val (.int p11), .val (.int (4 : Int32)), .val (.int (1 : Int32)), .unset, .unset, .unset] []))
  refine go (fun _ q => XS.iinc X219.here hx rfl (hb hby d2_115) rfl (l' := #[.val (.ref a1), .val (.int (2 : Int32)), .val (.ref a3), .val (.ref a4), .val (.ref a5), .val (.ref a6), .val (.ref a7), .val (.int p8), .val (.int p9), .val (.int p10), .val (.int p11), .val (.int (4 : Int32)), .val (.int (2 : Int32)), .unset, .unset, .unset]) rfl q) ?_
  show Go p e below _ (T219.setTop (mkF m 118 #[.val (.ref a1), .val (.int (2 : Int32)), .val (.ref a3), .val (.ref a4), .val (.ref a5), .val (.ref a6), .val (.ref a7), .val (.int p8), .val (.int p9), .val (.int p10), .val (.int p11), .val (.int (4 : Int32)), .val (.int (2 : Int32)), .unset, .unset, .unset] []))
  refine go (fun _ q => XS.goto X219.here hx rfl (pc0 := 118) (pc' := 90) rfl (hb hby d2_118) (by decide) (by decide) q) ?_
  show Go p e below _ (T219.setTop (mkF m 90 #[.val (.ref a1), .val (.int (2 : Int32)), .val (.ref a3), .val (.ref a4), .val (.ref a5), .val (.ref a6), .val (.ref a7), .val (.int p8), .val (.int p9), .val (.int p10), .val (.int p11), .val (.int (4 : Int32)), .val (.int (2 : Int32)), .unset, .unset, .unset] []))
  refine go (fun _ q => XS.iload X219.here hx rfl (hb hby d2_90) rfl q) ?_
  show Go p e below _ (T219.setTop (mkF m 92 #[.val (.ref a1), .val (.int (2 : Int32)), .val (.ref a3), .val (.ref a4), .val (.ref a5), .val (.ref a6), .val (.ref a7), .val (.int p8), .val (.int p9), .val (.int p10), .val (.int p11), .val (.int (4 : Int32)), .val (.int (2 : Int32)), .unset, .unset, .unset] [(.int (2 : Int32))]))
  refine go (fun _ q => XS.iloadN X219.here hx rfl (hb hby d2_92) rfl q) ?_
  show Go p e below _ (T219.setTop (mkF m 93 #[.val (.ref a1), .val (.int (2 : Int32)), .val (.ref a3), .val (.ref a4), .val (.ref a5), .val (.ref a6), .val (.ref a7), .val (.int p8), .val (.int p9), .val (.int p10), .val (.int p11), .val (.int (4 : Int32)), .val (.int (2 : Int32)), .unset, .unset, .unset] [(.int (2 : Int32)), (.int (2 : Int32))]))
  refine go (fun _ q => XS.icmpNo X219.here hx rfl (hb hby d2_93) rfl (flt (by decide : ¬ ((2 : Int32) < (2 : Int32)))).2.2.1 q) ?_
  show Go p e below _ (T219.setTop (mkF m 96 #[.val (.ref a1), .val (.int (2 : Int32)), .val (.ref a3), .val (.ref a4), .val (.ref a5), .val (.ref a6), .val (.ref a7), .val (.int p8), .val (.int p9), .val (.int p10), .val (.int p11), .val (.int (4 : Int32)), .val (.int (2 : Int32)), .unset, .unset, .unset] []))
  refine go (fun _ q => XS.aloadN X219.here hx rfl (hb hby d2_96) rfl rfl q) ?_
  show Go p e below _ (T219.setTop (mkF m 97 #[.val (.ref a1), .val (.int (2 : Int32)), .val (.ref a3), .val (.ref a4), .val (.ref a5), .val (.ref a6), .val (.ref a7), .val (.int p8), .val (.int p9), .val (.int p10), .val (.int p11), .val (.int (4 : Int32)), .val (.int (2 : Int32)), .unset, .unset, .unset] [(.ref a1)]))
  obtain ⟨T232, X232, e232, st232⟩ := getF X219 hx hZ hown (host := "") (Or.inl (hw _ (List.mem_of_getElem? (i := 29) rfl))) Via.refl e219 F_firstAt_222 (g := (mkF m 97 #[.val (.ref a1), .val (.int (2 : Int32)), .val (.ref a3), .val (.ref a4), .val (.ref a5), .val (.ref a6), .val (.ref a7), .val (.int p8), .val (.int p9), .val (.int p10), .val (.int p11), .val (.int (4 : Int32)), .val (.int (2 : Int32)), .unset, .unset, .unset] [(.ref a1)])) rfl rfl (hb hby d2_97)
  refine go st232 ?_
  show Go p e below _ (T232.setTop (mkF m 100 #[.val (.ref a1), .val (.int (2 : Int32)), .val (.ref a3), .val (.ref a4), .val (.ref a5), .val (.ref a6), .val (.ref a7), .val (.int p8), .val (.int p9), .val (.int p10), .val (.int p11), .val (.int (4 : Int32)), .val (.int (2 : Int32)), .unset, .unset, .unset] [(.ref b112)]))
  refine go (fun _ q => XS.iload X232.here hx rfl (hb hby d2_100) rfl q) ?_
  show Go p e below _ (T232.setTop (mkF m 102 #[.val (.ref a1), .val (.int (2 : Int32)), .val (.ref a3), .val (.ref a4), .val (.ref a5), .val (.ref a6), .val (.ref a7), .val (.int p8), .val (.int p9), .val (.int p10), .val (.int p11), .val (.int (4 : Int32)), .val (.int (2 : Int32)), .unset, .unset, .unset] [(.int (2 : Int32)), (.ref b112)]))
  refine go (fun _ q => XS.iconst X232.here hx rfl (hb hby d2_102) q) ?_
  show Go p e below _ (T232.setTop (mkF m 103 #[.val (.ref a1), .val (.int (2 : Int32)), .val (.ref a3), .val (.ref a4), .val (.ref a5), .val (.ref a6), .val (.ref a7), .val (.int p8), .val (.int p9), .val (.int p10), .val (.int p11), .val (.int (4 : Int32)), .val (.int (2 : Int32)), .unset, .unset, .unset] [(.int (1 : Int32)), (.int (2 : Int32)), (.ref b112)]))
  refine go (fun _ q => XS.iadd X232.here hx rfl (hb hby d2_103) rfl q) ?_
  show Go p e below _ (T232.setTop (mkF m 104 #[.val (.ref a1), .val (.int (2 : Int32)), .val (.ref a3), .val (.ref a4), .val (.ref a5), .val (.ref a6), .val (.ref a7), .val (.int p8), .val (.int p9), .val (.int p10), .val (.int p11), .val (.int (4 : Int32)), .val (.int (2 : Int32)), .unset, .unset, .unset] [(.int (3 : Int32)), (.ref b112)]))
  refine go (S' := T232.setTop (mkF m 105 #[.val (.ref a1), .val (.int (2 : Int32)), .val (.ref a3), .val (.ref a4), .val (.ref a5), .val (.ref a6), .val (.ref a7), .val (.int p8), .val (.int p9), .val (.int p10), .val (.int p11), .val (.int (4 : Int32)), .val (.int (2 : Int32)), .unset, .unset, .unset] [(.int (3 : Int32)), (.ref b112), (.int (3 : Int32)), (.ref b112)])) (fun _ q => by jvm_step X232.here [X232.here.top, hx, (hb hby d2_104), Value.category]; exact q) ?_
  show Go p e below _ (T232.setTop (mkF m 105 #[.val (.ref a1), .val (.int (2 : Int32)), .val (.ref a3), .val (.ref a4), .val (.ref a5), .val (.ref a6), .val (.ref a7), .val (.int p8), .val (.int p9), .val (.int p10), .val (.int p11), .val (.int (4 : Int32)), .val (.int (2 : Int32)), .unset, .unset, .unset] [(.int (3 : Int32)), (.ref b112), (.int (3 : Int32)), (.ref b112)]))
  refine go (own_iaload X232 hx hZ e232 P219 (j := (3 : Int32)) (by decide) (by rw [l219]; decide) (g := (mkF m 105 #[.val (.ref a1), .val (.int (2 : Int32)), .val (.ref a3), .val (.ref a4), .val (.ref a5), .val (.ref a6), .val (.ref a7), .val (.int p8), .val (.int p9), .val (.int p10), .val (.int p11), .val (.int (4 : Int32)), .val (.int (2 : Int32)), .unset, .unset, .unset] [(.int (3 : Int32)), (.ref b112), (.int (3 : Int32)), (.ref b112)])) rfl rfl (hb hby d2_105)) ?_
  show Go p e below _ (T232.setTop (mkF m 106 #[.val (.ref a1), .val (.int (2 : Int32)), .val (.ref a3), .val (.ref a4), .val (.ref a5), .val (.ref a6), .val (.ref a7), .val (.int p8), .val (.int p9), .val (.int p10), .val (.int p11), .val (.int (4 : Int32)), .val (.int (2 : Int32)), .unset, .unset, .unset] [(.int (xs219.getD ((3 : Int32)).toNatClampNeg 0)), (.int (3 : Int32)), (.ref b112)]))
  generalize hv233 : (xs219.getD ((3 : Int32)).toNatClampNeg 0) = v233
  show Go p e below _ (T232.setTop (mkF m 106 #[.val (.ref a1), .val (.int (2 : Int32)), .val (.ref a3), .val (.ref a4), .val (.ref a5), .val (.ref a6), .val (.ref a7), .val (.int p8), .val (.int p9), .val (.int p10), .val (.int p11), .val (.int (4 : Int32)), .val (.int (2 : Int32)), .unset, .unset, .unset] [(.int v233), (.int (3 : Int32)), (.ref b112)]))
  show Go p e below _ (T232.setTop (mkF m 106 #[.val (.ref a1), .val (.int (2 : Int32)), .val (.ref a3), .val (.ref a4), .val (.ref a5), .val (.ref a6), .val (.ref a7), .val (.int p8), .val (.int p9), .val (.int p10), .val (.int p11), .val (.int (4 : Int32)), .val (.int (2 : Int32)), .unset, .unset, .unset] [(.int v233), (.int (3 : Int32)), (.ref b112)]))
  refine go (fun _ q => XS.aloadN X232.here hx rfl (hb hby d2_106) rfl rfl q) ?_
  show Go p e below _ (T232.setTop (mkF m 107 #[.val (.ref a1), .val (.int (2 : Int32)), .val (.ref a3), .val (.ref a4), .val (.ref a5), .val (.ref a6), .val (.ref a7), .val (.int p8), .val (.int p9), .val (.int p10), .val (.int p11), .val (.int (4 : Int32)), .val (.int (2 : Int32)), .unset, .unset, .unset] [(.ref a1), (.int v233), (.int (3 : Int32)), (.ref b112)]))
  obtain ⟨T234, X234, e234, st234⟩ := getF X232 hx hZ hown (host := "") (Or.inl (hw _ (List.mem_of_getElem? (i := 29) rfl))) Via.refl e232 F_firstAt_222 (g := (mkF m 107 #[.val (.ref a1), .val (.int (2 : Int32)), .val (.ref a3), .val (.ref a4), .val (.ref a5), .val (.ref a6), .val (.ref a7), .val (.int p8), .val (.int p9), .val (.int p10), .val (.int p11), .val (.int (4 : Int32)), .val (.int (2 : Int32)), .unset, .unset, .unset] [(.ref a1), (.int v233), (.int (3 : Int32)), (.ref b112)])) rfl rfl (hb hby d2_107)
  refine go st234 ?_
  show Go p e below _ (T234.setTop (mkF m 110 #[.val (.ref a1), .val (.int (2 : Int32)), .val (.ref a3), .val (.ref a4), .val (.ref a5), .val (.ref a6), .val (.ref a7), .val (.int p8), .val (.int p9), .val (.int p10), .val (.int p11), .val (.int (4 : Int32)), .val (.int (2 : Int32)), .unset, .unset, .unset] [(.ref b112), (.int v233), (.int (3 : Int32)), (.ref b112)]))
  refine go (fun _ q => XS.iload X234.here hx rfl (hb hby d2_110) rfl q) ?_
  show Go p e below _ (T234.setTop (mkF m 112 #[.val (.ref a1), .val (.int (2 : Int32)), .val (.ref a3), .val (.ref a4), .val (.ref a5), .val (.ref a6), .val (.ref a7), .val (.int p8), .val (.int p9), .val (.int p10), .val (.int p11), .val (.int (4 : Int32)), .val (.int (2 : Int32)), .unset, .unset, .unset] [(.int (2 : Int32)), (.ref b112), (.int v233), (.int (3 : Int32)), (.ref b112)]))
  refine go (own_iaload X234 hx hZ e234 P219 (j := (2 : Int32)) (by decide) (by rw [l219]; decide) (g := (mkF m 112 #[.val (.ref a1), .val (.int (2 : Int32)), .val (.ref a3), .val (.ref a4), .val (.ref a5), .val (.ref a6), .val (.ref a7), .val (.int p8), .val (.int p9), .val (.int p10), .val (.int p11), .val (.int (4 : Int32)), .val (.int (2 : Int32)), .unset, .unset, .unset] [(.int (2 : Int32)), (.ref b112), (.int v233), (.int (3 : Int32)), (.ref b112)])) rfl rfl (hb hby d2_112)) ?_
  show Go p e below _ (T234.setTop (mkF m 113 #[.val (.ref a1), .val (.int (2 : Int32)), .val (.ref a3), .val (.ref a4), .val (.ref a5), .val (.ref a6), .val (.ref a7), .val (.int p8), .val (.int p9), .val (.int p10), .val (.int p11), .val (.int (4 : Int32)), .val (.int (2 : Int32)), .unset, .unset, .unset] [(.int (xs219.getD ((2 : Int32)).toNatClampNeg 0)), (.int v233), (.int (3 : Int32)), (.ref b112)]))
  generalize hv235 : (xs219.getD ((2 : Int32)).toNatClampNeg 0) = v235
  show Go p e below _ (T234.setTop (mkF m 113 #[.val (.ref a1), .val (.int (2 : Int32)), .val (.ref a3), .val (.ref a4), .val (.ref a5), .val (.ref a6), .val (.ref a7), .val (.int p8), .val (.int p9), .val (.int p10), .val (.int p11), .val (.int (4 : Int32)), .val (.int (2 : Int32)), .unset, .unset, .unset] [(.int v235), (.int v233), (.int (3 : Int32)), (.ref b112)]))
  show Go p e below _ (T234.setTop (mkF m 113 #[.val (.ref a1), .val (.int (2 : Int32)), .val (.ref a3), .val (.ref a4), .val (.ref a5), .val (.ref a6), .val (.ref a7), .val (.int p8), .val (.int p9), .val (.int p10), .val (.int p11), .val (.int (4 : Int32)), .val (.int (2 : Int32)), .unset, .unset, .unset] [(.int v235), (.int v233), (.int (3 : Int32)), (.ref b112)]))
  refine go (fun _ q => XS.iadd X234.here hx rfl (hb hby d2_113) rfl q) ?_
  show Go p e below _ (T234.setTop (mkF m 114 #[.val (.ref a1), .val (.int (2 : Int32)), .val (.ref a3), .val (.ref a4), .val (.ref a5), .val (.ref a6), .val (.ref a7), .val (.int p8), .val (.int p9), .val (.int p10), .val (.int p11), .val (.int (4 : Int32)), .val (.int (2 : Int32)), .unset, .unset, .unset] [(.int (v233 + v235)), (.int (3 : Int32)), (.ref b112)]))
  obtain ⟨T236, h236, X236, e236, W236, V236, st236⟩ := own_iastore X234 hx hZ e234 P219 (j := (3 : Int32)) (x := (v233 + v235)) (by decide) (by rw [l219]; decide) (g := (mkF m 114 #[.val (.ref a1), .val (.int (2 : Int32)), .val (.ref a3), .val (.ref a4), .val (.ref a5), .val (.ref a6), .val (.ref a7), .val (.int p8), .val (.int p9), .val (.int p10), .val (.int p11), .val (.int (4 : Int32)), .val (.int (2 : Int32)), .unset, .unset, .unset] [(.int (v233 + v235)), (.int (3 : Int32)), (.ref b112)])) rfl rfl (hb hby d2_114)
  refine go st236 ?_
  obtain ⟨xs236, hxs236⟩ : ∃ z, z = (xs219.set ((3 : Int32)).toNatClampNeg (v233 + v235)) := ⟨_, rfl⟩
  rw [← hxs236] at V236
  have l236 : xs236.length = 4 := by rw [hxs236, List.length_set]; exact l219
  have P236 : Ari Z h236 b112 xs236 := V236
  have E_a1_237 : Exa Z h236 a1 "com/example/junctura/junctura/conformance/OptimalPaths" := E_a1_220.wr W236
  have F_marking_238 : Fld Z h236 a1 "com/example/junctura/junctura/conformance/OptimalPaths" "marking" "[I" (.ref a3) := F_marking_221.other W236 (Or.inl ne_a1_b112)
  have F_firstAt_239 : Fld Z h236 a1 "com/example/junctura/junctura/conformance/OptimalPaths" "firstAt" "[I" (.ref b112) := F_firstAt_222.other W236 (Or.inl ne_a1_b112)
  have F_firstOut_240 : Fld Z h236 a1 "com/example/junctura/junctura/conformance/OptimalPaths" "firstOut" "[I" u_firstOut := F_firstOut_223.other W236 (Or.inl ne_a1_b112)
  have F_firstIn_241 : Fld Z h236 a1 "com/example/junctura/junctura/conformance/OptimalPaths" "firstIn" "[I" u_firstIn := F_firstIn_224.other W236 (Or.inl ne_a1_b112)
  have F_target_242 : Fld Z h236 a1 "com/example/junctura/junctura/conformance/OptimalPaths" "target" "[I" u_target := F_target_225.other W236 (Or.inl ne_a1_b112)
  have F_transition_243 : Fld Z h236 a1 "com/example/junctura/junctura/conformance/OptimalPaths" "transition" "[I" u_transition := F_transition_226.other W236 (Or.inl ne_a1_b112)
  have F_source_244 : Fld Z h236 a1 "com/example/junctura/junctura/conformance/OptimalPaths" "source" "[I" u_source := F_source_227.other W236 (Or.inl ne_a1_b112)
  have P_245 : Ari Z h236 a3 ([m0, m1, m2, m3] : List Int32) := P_228.other W236 ne_a3_b112
  have P_246 : Ari Z h236 a4 ([q0, q1, q2, q3] : List Int32) := P_229.other W236 ne_a4_b112
  have P_247 : Ari Z h236 a5 ([] : List Int32) := P_230.other W236 ne_a5_b112
  have P_248 : Ari Z h236 a6 ([] : List Int32) := P_231.other W236 ne_a6_b112
  have N236 := Fr.snoc X236 N219 g_b112
  have K236 : Keep h0 h236 [a1] := K219.wr W236 (Or.inr sz_b112)
  have Z236 : n0 ≤ h236.size := Nat.le_trans Z219 (Nat.le_of_eq W236.size.symm)
  show Go p e below _ (T236.setTop (mkF m 115 #[.val (.ref a1), .val (.int (2 : Int32)), .val (.ref a3), .val (.ref a4), .val (.ref a5), .val (.ref a6), .val (.ref a7), .val (.int p8), .val (.int p9), .val (.int p10), .val (.int p11), .val (.int (4 : Int32)), .val (.int (2 : Int32)), .unset, .unset, .unset] []))
  refine go (fun _ q => XS.iinc X236.here hx rfl (hb hby d2_115) rfl (l' := #[.val (.ref a1), .val (.int (2 : Int32)), .val (.ref a3), .val (.ref a4), .val (.ref a5), .val (.ref a6), .val (.ref a7), .val (.int p8), .val (.int p9), .val (.int p10), .val (.int p11), .val (.int (4 : Int32)), .val (.int (3 : Int32)), .unset, .unset, .unset]) rfl q) ?_
  show Go p e below _ (T236.setTop (mkF m 118 #[.val (.ref a1), .val (.int (2 : Int32)), .val (.ref a3), .val (.ref a4), .val (.ref a5), .val (.ref a6), .val (.ref a7), .val (.int p8), .val (.int p9), .val (.int p10), .val (.int p11), .val (.int (4 : Int32)), .val (.int (3 : Int32)), .unset, .unset, .unset] []))
  refine go (fun _ q => XS.goto X236.here hx rfl (pc0 := 118) (pc' := 90) rfl (hb hby d2_118) (by decide) (by decide) q) ?_
  show Go p e below _ (T236.setTop (mkF m 90 #[.val (.ref a1), .val (.int (2 : Int32)), .val (.ref a3), .val (.ref a4), .val (.ref a5), .val (.ref a6), .val (.ref a7), .val (.int p8), .val (.int p9), .val (.int p10), .val (.int p11), .val (.int (4 : Int32)), .val (.int (3 : Int32)), .unset, .unset, .unset] []))
  refine go (fun _ q => XS.iload X236.here hx rfl (hb hby d2_90) rfl q) ?_
  show Go p e below _ (T236.setTop (mkF m 92 #[.val (.ref a1), .val (.int (2 : Int32)), .val (.ref a3), .val (.ref a4), .val (.ref a5), .val (.ref a6), .val (.ref a7), .val (.int p8), .val (.int p9), .val (.int p10), .val (.int p11), .val (.int (4 : Int32)), .val (.int (3 : Int32)), .unset, .unset, .unset] [(.int (3 : Int32))]))
  refine go (fun _ q => XS.iloadN X236.here hx rfl (hb hby d2_92) rfl q) ?_
  show Go p e below _ (T236.setTop (mkF m 93 #[.val (.ref a1), .val (.int (2 : Int32)), .val (.ref a3), .val (.ref a4), .val (.ref a5), .val (.ref a6), .val (.ref a7), .val (.int p8), .val (.int p9), .val (.int p10), .val (.int p11), .val (.int (4 : Int32)), .val (.int (3 : Int32)), .unset, .unset, .unset] [(.int (2 : Int32)), (.int (3 : Int32))]))
  refine go (fun _ q => XS.icmpYes X236.here hx rfl (pc0 := 93) (pc' := 121) rfl (hb hby d2_93) rfl (tlt (by decide : (2 : Int32) < (3 : Int32))).2.2.1 (by decide) (by decide) q) ?_
  show Go p e below _ (T236.setTop (mkF m 121 #[.val (.ref a1), .val (.int (2 : Int32)), .val (.ref a3), .val (.ref a4), .val (.ref a5), .val (.ref a6), .val (.ref a7), .val (.int p8), .val (.int p9), .val (.int p10), .val (.int p11), .val (.int (4 : Int32)), .val (.int (3 : Int32)), .unset, .unset, .unset] []))
  refine go (fun _ q => XS.aloadN X236.here hx rfl (hb hby d2_121) rfl rfl q) ?_
  show Go p e below _ (T236.setTop (mkF m 122 #[.val (.ref a1), .val (.int (2 : Int32)), .val (.ref a3), .val (.ref a4), .val (.ref a5), .val (.ref a6), .val (.ref a7), .val (.int p8), .val (.int p9), .val (.int p10), .val (.int p11), .val (.int (4 : Int32)), .val (.int (3 : Int32)), .unset, .unset, .unset] [(.ref a1)]))
  refine go (fun _ q => XS.aload X236.here hx rfl (hb hby d2_122) rfl rfl q) ?_
  show Go p e below _ (T236.setTop (mkF m 124 #[.val (.ref a1), .val (.int (2 : Int32)), .val (.ref a3), .val (.ref a4), .val (.ref a5), .val (.ref a6), .val (.ref a7), .val (.int p8), .val (.int p9), .val (.int p10), .val (.int p11), .val (.int (4 : Int32)), .val (.int (3 : Int32)), .unset, .unset, .unset] [(.ref a5), (.ref a1)]))
  refine go (fun _ q => XS.iload X236.here hx rfl (hb hby d2_124) rfl q) ?_
  show Go p e below _ (T236.setTop (mkF m 126 #[.val (.ref a1), .val (.int (2 : Int32)), .val (.ref a3), .val (.ref a4), .val (.ref a5), .val (.ref a6), .val (.ref a7), .val (.int p8), .val (.int p9), .val (.int p10), .val (.int p11), .val (.int (4 : Int32)), .val (.int (3 : Int32)), .unset, .unset, .unset] [(.int (4 : Int32)), (.ref a5), (.ref a1)]))
  refine own_callS X236 hx hZ hown e236 (hw _ (List.mem_of_getElem? (i := 31) rfl)) (hw _ (List.mem_of_getElem? (i := 32) rfl)) (hw _ (List.mem_of_getElem? (i := 8) rfl)) (hw _ (List.mem_of_getElem? (i := 33) rfl)) (rm4 l Z a0 hw [] a5 h236 n0 Z236 P_247) (by decide) (by decide) (W := 1) (by decide) (by decide) (by decide) (g := (mkF m 126 #[.val (.ref a1), .val (.int (2 : Int32)), .val (.ref a3), .val (.ref a4), .val (.ref a5), .val (.ref a6), .val (.ref a7), .val (.int p8), .val (.int p9), .val (.int p10), .val (.int p11), .val (.int (4 : Int32)), .val (.int (3 : Int32)), .unset, .unset, .unset] [(.int (4 : Int32)), (.ref a5), (.ref a1)])) rfl (by rw [hml]; rfl) (argsL := [(.ref a5), (.int (4 : Int32))]) (rest := [(.ref a1)]) rfl rfl (lenOf pd_2_0 rfl) (by show 2 * 0 + _ ≤ _; exact Nat.le_of_eq rfl) (hb hby d2_126) ?_
  rintro _ T249 L249 X249 ⟨rfl, N249q, Zq249, K249, Ex249, P249⟩
  have N249 := Fr.app N236 N249q
  obtain ⟨b249, g249⟩ : ∃ z, z = h236.size := ⟨_, rfl⟩
  rw [← g249] at Ex249 P249 ⊢
  have ne_a1_b249 : a1 ≠ b249 := Nat.ne_of_lt (Nat.lt_of_lt_of_le E_a1_237.lt (Nat.le_of_eq g249.symm))
  have ne_a3_b249 : a3 ≠ b249 := Nat.ne_of_lt (Nat.lt_of_lt_of_le P_245.lt (Nat.le_of_eq g249.symm))
  have ne_a4_b249 : a4 ≠ b249 := Nat.ne_of_lt (Nat.lt_of_lt_of_le P_246.lt (Nat.le_of_eq g249.symm))
  have ne_a5_b249 : a5 ≠ b249 := Nat.ne_of_lt (Nat.lt_of_lt_of_le P_247.lt (Nat.le_of_eq g249.symm))
  have ne_a6_b249 : a6 ≠ b249 := Nat.ne_of_lt (Nat.lt_of_lt_of_le P_248.lt (Nat.le_of_eq g249.symm))
  have ne_b112_b249 : b112 ≠ b249 := Nat.ne_of_lt (Nat.lt_of_lt_of_le P236.lt (Nat.le_of_eq g249.symm))
  have g_b249 : n0 ≤ b249 := Nat.le_trans Z236 (Nat.le_of_eq g249.symm)
  have sz_b249 : h0.size ≤ b249 := Nat.le_trans K236.1 (Nat.le_of_eq g249.symm)
  have Kt249 : Keep h0 T249.heap [a1] := K236.trans K249 all0
  have E_a1_250 : Exa Z T249.heap a1 "com/example/junctura/junctura/conformance/OptimalPaths" := E_a1_237.keep K249
  have F_marking_251 : Fld Z T249.heap a1 "com/example/junctura/junctura/conformance/OptimalPaths" "marking" "[I" (.ref a3) := F_marking_238.keep K249 nin0
  have F_firstAt_252 : Fld Z T249.heap a1 "com/example/junctura/junctura/conformance/OptimalPaths" "firstAt" "[I" (.ref b112) := F_firstAt_239.keep K249 nin0
  have F_firstOut_253 : Fld Z T249.heap a1 "com/example/junctura/junctura/conformance/OptimalPaths" "firstOut" "[I" u_firstOut := F_firstOut_240.keep K249 nin0
  have F_firstIn_254 : Fld Z T249.heap a1 "com/example/junctura/junctura/conformance/OptimalPaths" "firstIn" "[I" u_firstIn := F_firstIn_241.keep K249 nin0
  have F_target_255 : Fld Z T249.heap a1 "com/example/junctura/junctura/conformance/OptimalPaths" "target" "[I" u_target := F_target_242.keep K249 nin0
  have F_transition_256 : Fld Z T249.heap a1 "com/example/junctura/junctura/conformance/OptimalPaths" "transition" "[I" u_transition := F_transition_243.keep K249 nin0
  have F_source_257 : Fld Z T249.heap a1 "com/example/junctura/junctura/conformance/OptimalPaths" "source" "[I" u_source := F_source_244.keep K249 nin0
  have P_258 : Ari Z T249.heap a3 ([m0, m1, m2, m3] : List Int32) := P_245.keep K249 nin0
  have P_259 : Ari Z T249.heap a4 ([q0, q1, q2, q3] : List Int32) := P_246.keep K249 nin0
  have P_260 : Ari Z T249.heap a5 ([] : List Int32) := P_247.keep K249 nin0
  have P_261 : Ari Z T249.heap a6 ([] : List Int32) := P_248.keep K249 nin0
  have P_262 : Ari Z T249.heap b112 xs236 := P236.keep K249 nin0
  show Go p e below _ (T249.setTop (mkF m 129 #[.val (.ref a1), .val (.int (2 : Int32)), .val (.ref a3), .val (.ref a4), .val (.ref a5), .val (.ref a6), .val (.ref a7), .val (.int p8), .val (.int p9), .val (.int p10), .val (.int p11), .val (.int (4 : Int32)), .val (.int (3 : Int32)), .unset, .unset, .unset] [(.ref b249), (.ref a1)]))
  obtain ⟨T263, h263, X263, e263, W263, st263⟩ := putF X249 hx hZ hown (host := "") (Or.inl (hw _ (List.mem_of_getElem? (i := 34) rfl))) Via.refl rfl F_firstOut_253 E_a1_250 (Or.inr ⟨(hw _ (List.mem_of_getElem? (i := 35) rfl)), rfl, hnm⟩) (hw _ (List.mem_of_getElem? (i := 7) rfl)) (ty := (.array .int)) (by decide) rfl rfl (g := (mkF m 129 #[.val (.ref a1), .val (.int (2 : Int32)), .val (.ref a3), .val (.ref a4), .val (.ref a5), .val (.ref a6), .val (.ref a7), .val (.int p8), .val (.int p9), .val (.int p10), .val (.int p11), .val (.int (4 : Int32)), .val (.int (3 : Int32)), .unset, .unset, .unset] [(.ref b249), (.ref a1)])) rfl rfl (hb hby d2_129)
  refine go st263 ?_
  have F_firstOut_263 : Fld Z h263 a1 "com/example/junctura/junctura/conformance/OptimalPaths" "firstOut" "[I" (.ref b249) := F_firstOut_253.same W263
  have E_a1_264 : Exa Z h263 a1 "com/example/junctura/junctura/conformance/OptimalPaths" := E_a1_250.wr W263
  have F_marking_265 : Fld Z h263 a1 "com/example/junctura/junctura/conformance/OptimalPaths" "marking" "[I" (.ref a3) := F_marking_251.other W263 (Or.inr (slot_ne (Or.inr (hw _ (List.mem_of_getElem? (i := 18) rfl))) (Or.inr (hw _ (List.mem_of_getElem? (i := 35) rfl))) (by decide) (t := (.array .int)) (t' := (.array .int)) (by decide) (by decide)))
  have F_firstAt_266 : Fld Z h263 a1 "com/example/junctura/junctura/conformance/OptimalPaths" "firstAt" "[I" (.ref b112) := F_firstAt_252.other W263 (Or.inr (slot_ne (Or.inr (hw _ (List.mem_of_getElem? (i := 30) rfl))) (Or.inr (hw _ (List.mem_of_getElem? (i := 35) rfl))) (by decide) (t := (.array .int)) (t' := (.array .int)) (by decide) (by decide)))
  have F_firstIn_267 : Fld Z h263 a1 "com/example/junctura/junctura/conformance/OptimalPaths" "firstIn" "[I" u_firstIn := F_firstIn_254.other W263 (Or.inr (slot_ne (Or.inr (hw _ (List.mem_of_getElem? (i := 37) rfl))) (Or.inr (hw _ (List.mem_of_getElem? (i := 35) rfl))) (by decide) (t := (.array .int)) (t' := (.array .int)) (by decide) (by decide)))
  have F_target_268 : Fld Z h263 a1 "com/example/junctura/junctura/conformance/OptimalPaths" "target" "[I" u_target := F_target_255.other W263 (Or.inr (slot_ne (Or.inr (hw _ (List.mem_of_getElem? (i := 39) rfl))) (Or.inr (hw _ (List.mem_of_getElem? (i := 35) rfl))) (by decide) (t := (.array .int)) (t' := (.array .int)) (by decide) (by decide)))
  have F_transition_269 : Fld Z h263 a1 "com/example/junctura/junctura/conformance/OptimalPaths" "transition" "[I" u_transition := F_transition_256.other W263 (Or.inr (slot_ne (Or.inr (hw _ (List.mem_of_getElem? (i := 41) rfl))) (Or.inr (hw _ (List.mem_of_getElem? (i := 35) rfl))) (by decide) (t := (.array .int)) (t' := (.array .int)) (by decide) (by decide)))
  have F_source_270 : Fld Z h263 a1 "com/example/junctura/junctura/conformance/OptimalPaths" "source" "[I" u_source := F_source_257.other W263 (Or.inr (slot_ne (Or.inr (hw _ (List.mem_of_getElem? (i := 43) rfl))) (Or.inr (hw _ (List.mem_of_getElem? (i := 35) rfl))) (by decide) (t := (.array .int)) (t' := (.array .int)) (by decide) (by decide)))
  have P_271 : Ari Z h263 a3 ([m0, m1, m2, m3] : List Int32) := P_258.other W263 ne3
  have P_272 : Ari Z h263 a4 ([q0, q1, q2, q3] : List Int32) := P_259.other W263 ne4
  have P_273 : Ari Z h263 a5 ([] : List Int32) := P_260.other W263 ne5
  have P_274 : Ari Z h263 a6 ([] : List Int32) := P_261.other W263 ne6
  have P_275 : Ari Z h263 b112 xs236 := P_262.other W263 (Ne.symm ne_a1_b112)
  have P_276 : Ari Z h263 b249 ([0, 0, 0, 0, 0] : List Int32) := P249.other W263 (Ne.symm ne_a1_b249)
  have E_b249_277 : Exa Z h263 b249 "[I" := Ex249.wr W263
  have N263 := Fr.snoc X263 N249 g_a1
  have K263 : Keep h0 h263 [a1] := Kt249.wr W263 (Or.inl (List.mem_of_getElem? (i := 0) rfl))
  have Z263 : n0 ≤ h263.size := Nat.le_trans Zq249 (Nat.le_of_eq W263.size.symm)
  show Go p e below _ (T263.setTop (mkF m 132 #[.val (.ref a1), .val (.int (2 : Int32)), .val (.ref a3), .val (.ref a4), .val (.ref a5), .val (.ref a6), .val (.ref a7), .val (.int p8), .val (.int p9), .val (.int p10), .val (.int p11), .val (.int (4 : Int32)), .val (.int (3 : Int32)), .unset, .unset, .unset] []))
  refine go (fun _ q => XS.aloadN X263.here hx rfl (hb hby d2_132) rfl rfl q) ?_
  show Go p e below _ (T263.setTop (mkF m 133 #[.val (.ref a1), .val (.int (2 : Int32)), .val (.ref a3), .val (.ref a4), .val (.ref a5), .val (.ref a6), .val (.ref a7), .val (.int p8), .val (.int p9), .val (.int p10), .val (.int p11), .val (.int (4 : Int32)), .val (.int (3 : Int32)), .unset, .unset, .unset] [(.ref a1)]))
  refine go (fun _ q => XS.aload X263.here hx rfl (hb hby d2_133) rfl rfl q) ?_
  show Go p e below _ (T263.setTop (mkF m 135 #[.val (.ref a1), .val (.int (2 : Int32)), .val (.ref a3), .val (.ref a4), .val (.ref a5), .val (.ref a6), .val (.ref a7), .val (.int p8), .val (.int p9), .val (.int p10), .val (.int p11), .val (.int (4 : Int32)), .val (.int (3 : Int32)), .unset, .unset, .unset] [(.ref a6), (.ref a1)]))
  refine go (fun _ q => XS.iload X263.here hx rfl (hb hby d2_135) rfl q) ?_
  show Go p e below _ (T263.setTop (mkF m 137 #[.val (.ref a1), .val (.int (2 : Int32)), .val (.ref a3), .val (.ref a4), .val (.ref a5), .val (.ref a6), .val (.ref a7), .val (.int p8), .val (.int p9), .val (.int p10), .val (.int p11), .val (.int (4 : Int32)), .val (.int (3 : Int32)), .unset, .unset, .unset] [(.int (4 : Int32)), (.ref a6), (.ref a1)]))
  refine own_callS X263 hx hZ hown e263 (hw _ (List.mem_of_getElem? (i := 31) rfl)) (hw _ (List.mem_of_getElem? (i := 32) rfl)) (hw _ (List.mem_of_getElem? (i := 8) rfl)) (hw _ (List.mem_of_getElem? (i := 33) rfl)) (rm4 l Z a0 hw [] a6 h263 n0 Z263 P_274) (by decide) (by decide) (W := 1) (by decide) (by decide) (by decide) (g := (mkF m 137 #[.val (.ref a1), .val (.int (2 : Int32)), .val (.ref a3), .val (.ref a4), .val (.ref a5), .val (.ref a6), .val (.ref a7), .val (.int p8), .val (.int p9), .val (.int p10), .val (.int p11), .val (.int (4 : Int32)), .val (.int (3 : Int32)), .unset, .unset, .unset] [(.int (4 : Int32)), (.ref a6), (.ref a1)])) rfl (by rw [hml]; rfl) (argsL := [(.ref a6), (.int (4 : Int32))]) (rest := [(.ref a1)]) rfl rfl (lenOf pd_2_0 rfl) (by show 2 * 0 + _ ≤ _; exact Nat.le_of_eq rfl) (hb hby d2_137) ?_
  rintro _ T278 L278 X278 ⟨rfl, N278q, Zq278, K278, Ex278, P278⟩
  have N278 := Fr.app N263 N278q
  obtain ⟨b278, g278⟩ : ∃ z, z = h263.size := ⟨_, rfl⟩
  rw [← g278] at Ex278 P278 ⊢
  have ne_a1_b278 : a1 ≠ b278 := Nat.ne_of_lt (Nat.lt_of_lt_of_le E_a1_264.lt (Nat.le_of_eq g278.symm))
  have ne_a3_b278 : a3 ≠ b278 := Nat.ne_of_lt (Nat.lt_of_lt_of_le P_271.lt (Nat.le_of_eq g278.symm))
  have ne_a4_b278 : a4 ≠ b278 := Nat.ne_of_lt (Nat.lt_of_lt_of_le P_272.lt (Nat.le_of_eq g278.symm))
  have ne_a5_b278 : a5 ≠ b278 := Nat.ne_of_lt (Nat.lt_of_lt_of_le P_273.lt (Nat.le_of_eq g278.symm))
  have ne_a6_b278 : a6 ≠ b278 := Nat.ne_of_lt (Nat.lt_of_lt_of_le P_274.lt (Nat.le_of_eq g278.symm))
  have ne_b112_b278 : b112 ≠ b278 := Nat.ne_of_lt (Nat.lt_of_lt_of_le P_275.lt (Nat.le_of_eq g278.symm))
  have ne_b249_b278 : b249 ≠ b278 := Nat.ne_of_lt (Nat.lt_of_lt_of_le P_276.lt (Nat.le_of_eq g278.symm))
  have g_b278 : n0 ≤ b278 := Nat.le_trans Z263 (Nat.le_of_eq g278.symm)
  have sz_b278 : h0.size ≤ b278 := Nat.le_trans K263.1 (Nat.le_of_eq g278.symm)
  have Kt278 : Keep h0 T278.heap [a1] := K263.trans K278 all0
  have E_a1_279 : Exa Z T278.heap a1 "com/example/junctura/junctura/conformance/OptimalPaths" := E_a1_264.keep K278
  have F_marking_280 : Fld Z T278.heap a1 "com/example/junctura/junctura/conformance/OptimalPaths" "marking" "[I" (.ref a3) := F_marking_265.keep K278 nin0
  have F_firstAt_281 : Fld Z T278.heap a1 "com/example/junctura/junctura/conformance/OptimalPaths" "firstAt" "[I" (.ref b112) := F_firstAt_266.keep K278 nin0
  have F_firstOut_282 : Fld Z T278.heap a1 "com/example/junctura/junctura/conformance/OptimalPaths" "firstOut" "[I" (.ref b249) := F_firstOut_263.keep K278 nin0
  have F_firstIn_283 : Fld Z T278.heap a1 "com/example/junctura/junctura/conformance/OptimalPaths" "firstIn" "[I" u_firstIn := F_firstIn_267.keep K278 nin0
  have F_target_284 : Fld Z T278.heap a1 "com/example/junctura/junctura/conformance/OptimalPaths" "target" "[I" u_target := F_target_268.keep K278 nin0
  have F_transition_285 : Fld Z T278.heap a1 "com/example/junctura/junctura/conformance/OptimalPaths" "transition" "[I" u_transition := F_transition_269.keep K278 nin0
  have F_source_286 : Fld Z T278.heap a1 "com/example/junctura/junctura/conformance/OptimalPaths" "source" "[I" u_source := F_source_270.keep K278 nin0
  have P_287 : Ari Z T278.heap a3 ([m0, m1, m2, m3] : List Int32) := P_271.keep K278 nin0
  have P_288 : Ari Z T278.heap a4 ([q0, q1, q2, q3] : List Int32) := P_272.keep K278 nin0
  have P_289 : Ari Z T278.heap a5 ([] : List Int32) := P_273.keep K278 nin0
  have P_290 : Ari Z T278.heap a6 ([] : List Int32) := P_274.keep K278 nin0
  have P_291 : Ari Z T278.heap b112 xs236 := P_275.keep K278 nin0
  have P_292 : Ari Z T278.heap b249 ([0, 0, 0, 0, 0] : List Int32) := P_276.keep K278 nin0
  have E_b249_293 : Exa Z T278.heap b249 "[I" := E_b249_277.keep K278
  show Go p e below _ (T278.setTop (mkF m 140 #[.val (.ref a1), .val (.int (2 : Int32)), .val (.ref a3), .val (.ref a4), .val (.ref a5), .val (.ref a6), .val (.ref a7), .val (.int p8), .val (.int p9), .val (.int p10), .val (.int p11), .val (.int (4 : Int32)), .val (.int (3 : Int32)), .unset, .unset, .unset] [(.ref b278), (.ref a1)]))
  obtain ⟨T294, h294, X294, e294, W294, st294⟩ := putF X278 hx hZ hown (host := "") (Or.inl (hw _ (List.mem_of_getElem? (i := 36) rfl))) Via.refl rfl F_firstIn_283 E_a1_279 (Or.inr ⟨(hw _ (List.mem_of_getElem? (i := 37) rfl)), rfl, hnm⟩) (hw _ (List.mem_of_getElem? (i := 7) rfl)) (ty := (.array .int)) (by decide) rfl rfl (g := (mkF m 140 #[.val (.ref a1), .val (.int (2 : Int32)), .val (.ref a3), .val (.ref a4), .val (.ref a5), .val (.ref a6), .val (.ref a7), .val (.int p8), .val (.int p9), .val (.int p10), .val (.int p11), .val (.int (4 : Int32)), .val (.int (3 : Int32)), .unset, .unset, .unset] [(.ref b278), (.ref a1)])) rfl rfl (hb hby d2_140)
  refine go st294 ?_
  have F_firstIn_294 : Fld Z h294 a1 "com/example/junctura/junctura/conformance/OptimalPaths" "firstIn" "[I" (.ref b278) := F_firstIn_283.same W294
  have E_a1_295 : Exa Z h294 a1 "com/example/junctura/junctura/conformance/OptimalPaths" := E_a1_279.wr W294
  have F_marking_296 : Fld Z h294 a1 "com/example/junctura/junctura/conformance/OptimalPaths" "marking" "[I" (.ref a3) := F_marking_280.other W294 (Or.inr (slot_ne (Or.inr (hw _ (List.mem_of_getElem? (i := 18) rfl))) (Or.inr (hw _ (List.mem_of_getElem? (i := 37) rfl))) (by decide) (t := (.array .int)) (t' := (.array .int)) (by decide) (by decide)))
  have F_firstAt_297 : Fld Z h294 a1 "com/example/junctura/junctura/conformance/OptimalPaths" "firstAt" "[I" (.ref b112) := F_firstAt_281.other W294 (Or.inr (slot_ne (Or.inr (hw _ (List.mem_of_getElem? (i := 30) rfl))) (Or.inr (hw _ (List.mem_of_getElem? (i := 37) rfl))) (by decide) (t := (.array .int)) (t' := (.array .int)) (by decide) (by decide)))
  have F_firstOut_298 : Fld Z h294 a1 "com/example/junctura/junctura/conformance/OptimalPaths" "firstOut" "[I" (.ref b249) := F_firstOut_282.other W294 (Or.inr (slot_ne (Or.inr (hw _ (List.mem_of_getElem? (i := 35) rfl))) (Or.inr (hw _ (List.mem_of_getElem? (i := 37) rfl))) (by decide) (t := (.array .int)) (t' := (.array .int)) (by decide) (by decide)))
  have F_target_299 : Fld Z h294 a1 "com/example/junctura/junctura/conformance/OptimalPaths" "target" "[I" u_target := F_target_284.other W294 (Or.inr (slot_ne (Or.inr (hw _ (List.mem_of_getElem? (i := 39) rfl))) (Or.inr (hw _ (List.mem_of_getElem? (i := 37) rfl))) (by decide) (t := (.array .int)) (t' := (.array .int)) (by decide) (by decide)))
  have F_transition_300 : Fld Z h294 a1 "com/example/junctura/junctura/conformance/OptimalPaths" "transition" "[I" u_transition := F_transition_285.other W294 (Or.inr (slot_ne (Or.inr (hw _ (List.mem_of_getElem? (i := 41) rfl))) (Or.inr (hw _ (List.mem_of_getElem? (i := 37) rfl))) (by decide) (t := (.array .int)) (t' := (.array .int)) (by decide) (by decide)))
  have F_source_301 : Fld Z h294 a1 "com/example/junctura/junctura/conformance/OptimalPaths" "source" "[I" u_source := F_source_286.other W294 (Or.inr (slot_ne (Or.inr (hw _ (List.mem_of_getElem? (i := 43) rfl))) (Or.inr (hw _ (List.mem_of_getElem? (i := 37) rfl))) (by decide) (t := (.array .int)) (t' := (.array .int)) (by decide) (by decide)))
  have P_302 : Ari Z h294 a3 ([m0, m1, m2, m3] : List Int32) := P_287.other W294 ne3
  have P_303 : Ari Z h294 a4 ([q0, q1, q2, q3] : List Int32) := P_288.other W294 ne4
  have P_304 : Ari Z h294 a5 ([] : List Int32) := P_289.other W294 ne5
  have P_305 : Ari Z h294 a6 ([] : List Int32) := P_290.other W294 ne6
  have P_306 : Ari Z h294 b112 xs236 := P_291.other W294 (Ne.symm ne_a1_b112)
  have P_307 : Ari Z h294 b249 ([0, 0, 0, 0, 0] : List Int32) := P_292.other W294 (Ne.symm ne_a1_b249)
  have E_b249_308 : Exa Z h294 b249 "[I" := E_b249_293.wr W294
  have P_309 : Ari Z h294 b278 ([0, 0, 0, 0, 0] : List Int32) := P278.other W294 (Ne.symm ne_a1_b278)
  have E_b278_310 : Exa Z h294 b278 "[I" := Ex278.wr W294
  have N294 := Fr.snoc X294 N278 g_a1
  have K294 : Keep h0 h294 [a1] := Kt278.wr W294 (Or.inl (List.mem_of_getElem? (i := 0) rfl))
  have Z294 : n0 ≤ h294.size := Nat.le_trans Zq278 (Nat.le_of_eq W294.size.symm)
  show Go p e below _ (T294.setTop (mkF m 143 #[.val (.ref a1), .val (.int (2 : Int32)), .val (.ref a3), .val (.ref a4), .val (.ref a5), .val (.ref a6), .val (.ref a7), .val (.int p8), .val (.int p9), .val (.int p10), .val (.int p11), .val (.int (4 : Int32)), .val (.int (3 : Int32)), .unset, .unset, .unset] []))
  refine go (fun _ q => XS.aloadN X294.here hx rfl (hb hby d2_143) rfl rfl q) ?_
  show Go p e below _ (T294.setTop (mkF m 144 #[.val (.ref a1), .val (.int (2 : Int32)), .val (.ref a3), .val (.ref a4), .val (.ref a5), .val (.ref a6), .val (.ref a7), .val (.int p8), .val (.int p9), .val (.int p10), .val (.int p11), .val (.int (4 : Int32)), .val (.int (3 : Int32)), .unset, .unset, .unset] [(.ref a1)]))
  refine go (fun _ q => XS.aload X294.here hx rfl (hb hby d2_144) rfl rfl q) ?_
  show Go p e below _ (T294.setTop (mkF m 146 #[.val (.ref a1), .val (.int (2 : Int32)), .val (.ref a3), .val (.ref a4), .val (.ref a5), .val (.ref a6), .val (.ref a7), .val (.int p8), .val (.int p9), .val (.int p10), .val (.int p11), .val (.int (4 : Int32)), .val (.int (3 : Int32)), .unset, .unset, .unset] [(.ref a5), (.ref a1)]))
  refine go (own_arilen X294 hx hZ e294 P_304 (g := (mkF m 146 #[.val (.ref a1), .val (.int (2 : Int32)), .val (.ref a3), .val (.ref a4), .val (.ref a5), .val (.ref a6), .val (.ref a7), .val (.int p8), .val (.int p9), .val (.int p10), .val (.int p11), .val (.int (4 : Int32)), .val (.int (3 : Int32)), .unset, .unset, .unset] [(.ref a5), (.ref a1)])) rfl rfl (hb hby d2_146)) ?_
  show Go p e below _ (T294.setTop (mkF m 147 #[.val (.ref a1), .val (.int (2 : Int32)), .val (.ref a3), .val (.ref a4), .val (.ref a5), .val (.ref a6), .val (.ref a7), .val (.int p8), .val (.int p9), .val (.int p10), .val (.int p11), .val (.int (4 : Int32)), .val (.int (3 : Int32)), .unset, .unset, .unset] [(.int (0 : Int32)), (.ref a1)]))
  obtain ⟨T311, h311, k311, X311, e311, E311, A311, st311⟩ := newP X294 hx hZ (hw _ (List.mem_of_getElem? (i := 5) rfl)) e294 (g := (mkF m 147 #[.val (.ref a1), .val (.int (2 : Int32)), .val (.ref a3), .val (.ref a4), .val (.ref a5), .val (.ref a6), .val (.ref a7), .val (.int p8), .val (.int p9), .val (.int p10), .val (.int p11), .val (.int (4 : Int32)), .val (.int (3 : Int32)), .unset, .unset, .unset] [(.int (0 : Int32)), (.ref a1)])) rfl (hb hby d2_147) rfl (by decide) (cap := 0) (by decide) (by decide) (by decide) (by decide)
  obtain ⟨b311, g311⟩ : ∃ z, z = h294.size := ⟨_, rfl⟩
  rw [← g311] at A311 st311
  refine go st311 ?_
  have ne_a1_b311 : a1 ≠ b311 := Nat.ne_of_lt (Nat.lt_of_lt_of_le E_a1_295.lt (Nat.le_of_eq g311.symm))
  have ne_a3_b311 : a3 ≠ b311 := Nat.ne_of_lt (Nat.lt_of_lt_of_le P_302.lt (Nat.le_of_eq g311.symm))
  have ne_a4_b311 : a4 ≠ b311 := Nat.ne_of_lt (Nat.lt_of_lt_of_le P_303.lt (Nat.le_of_eq g311.symm))
  have ne_a5_b311 : a5 ≠ b311 := Nat.ne_of_lt (Nat.lt_of_lt_of_le P_304.lt (Nat.le_of_eq g311.symm))
  have ne_a6_b311 : a6 ≠ b311 := Nat.ne_of_lt (Nat.lt_of_lt_of_le P_305.lt (Nat.le_of_eq g311.symm))
  have ne_b112_b311 : b112 ≠ b311 := Nat.ne_of_lt (Nat.lt_of_lt_of_le P_306.lt (Nat.le_of_eq g311.symm))
  have ne_b249_b311 : b249 ≠ b311 := Nat.ne_of_lt (Nat.lt_of_lt_of_le P_307.lt (Nat.le_of_eq g311.symm))
  have ne_b278_b311 : b278 ≠ b311 := Nat.ne_of_lt (Nat.lt_of_lt_of_le P_309.lt (Nat.le_of_eq g311.symm))
  have g_b311 : n0 ≤ b311 := Nat.le_trans Z294 (Nat.le_of_eq g311.symm)
  have sz_b311 : h0.size ≤ b311 := Nat.le_trans K294.1 (Nat.le_of_eq g311.symm)
  have Z311 : n0 ≤ h311.size := Nat.le_trans Z294 E311.1
  have E_a1_312 : Exa Z h311 a1 "com/example/junctura/junctura/conformance/OptimalPaths" := E_a1_295.ext E311
  have F_marking_313 : Fld Z h311 a1 "com/example/junctura/junctura/conformance/OptimalPaths" "marking" "[I" (.ref a3) := F_marking_296.ext E311
  have F_firstAt_314 : Fld Z h311 a1 "com/example/junctura/junctura/conformance/OptimalPaths" "firstAt" "[I" (.ref b112) := F_firstAt_297.ext E311
  have F_firstOut_315 : Fld Z h311 a1 "com/example/junctura/junctura/conformance/OptimalPaths" "firstOut" "[I" (.ref b249) := F_firstOut_298.ext E311
  have F_firstIn_316 : Fld Z h311 a1 "com/example/junctura/junctura/conformance/OptimalPaths" "firstIn" "[I" (.ref b278) := F_firstIn_294.ext E311
  have F_target_317 : Fld Z h311 a1 "com/example/junctura/junctura/conformance/OptimalPaths" "target" "[I" u_target := F_target_299.ext E311
  have F_transition_318 : Fld Z h311 a1 "com/example/junctura/junctura/conformance/OptimalPaths" "transition" "[I" u_transition := F_transition_300.ext E311
  have F_source_319 : Fld Z h311 a1 "com/example/junctura/junctura/conformance/OptimalPaths" "source" "[I" u_source := F_source_301.ext E311
  have P_320 : Ari Z h311 a3 ([m0, m1, m2, m3] : List Int32) := P_302.ext E311
  have P_321 : Ari Z h311 a4 ([q0, q1, q2, q3] : List Int32) := P_303.ext E311
  have P_322 : Ari Z h311 a5 ([] : List Int32) := P_304.ext E311
  have P_323 : Ari Z h311 a6 ([] : List Int32) := P_305.ext E311
  have P_324 : Ari Z h311 b112 xs236 := P_306.ext E311
  have P_325 : Ari Z h311 b249 ([0, 0, 0, 0, 0] : List Int32) := P_307.ext E311
  have E_b249_326 : Exa Z h311 b249 "[I" := E_b249_308.ext E311
  have P_327 : Ari Z h311 b278 ([0, 0, 0, 0, 0] : List Int32) := P_309.ext E311
  have E_b278_328 : Exa Z h311 b278 "[I" := E_b278_310.ext E311
  have K311 : Keep h0 h311 [a1] := K294.ext E311
  have P311 : Ari Z h311 b311 ([] : List Int32) := own_fresh A311 (by decide) (m := 0) rfl
  show Go p e below _ (T311.setTop (mkF m 149 #[.val (.ref a1), .val (.int (2 : Int32)), .val (.ref a3), .val (.ref a4), .val (.ref a5), .val (.ref a6), .val (.ref a7), .val (.int p8), .val (.int p9), .val (.int p10), .val (.int p11), .val (.int (4 : Int32)), .val (.int (3 : Int32)), .unset, .unset, .unset] [(.ref b311), (.ref a1)]))
  obtain ⟨T329, h329, X329, e329, W329, st329⟩ := putF X311 hx hZ hown (host := "") (Or.inl (hw _ (List.mem_of_getElem? (i := 38) rfl))) Via.refl e311 F_target_317 E_a1_312 (Or.inr ⟨(hw _ (List.mem_of_getElem? (i := 39) rfl)), rfl, hnm⟩) (hw _ (List.mem_of_getElem? (i := 7) rfl)) (ty := (.array .int)) (by decide) rfl rfl (g := (mkF m 149 #[.val (.ref a1), .val (.int (2 : Int32)), .val (.ref a3), .val (.ref a4), .val (.ref a5), .val (.ref a6), .val (.ref a7), .val (.int p8), .val (.int p9), .val (.int p10), .val (.int p11), .val (.int (4 : Int32)), .val (.int (3 : Int32)), .unset, .unset, .unset] [(.ref b311), (.ref a1)])) rfl rfl (hb hby d2_149)
  refine go st329 ?_
  have F_target_329 : Fld Z h329 a1 "com/example/junctura/junctura/conformance/OptimalPaths" "target" "[I" (.ref b311) := F_target_317.same W329
  have E_a1_330 : Exa Z h329 a1 "com/example/junctura/junctura/conformance/OptimalPaths" := E_a1_312.wr W329
  have F_marking_331 : Fld Z h329 a1 "com/example/junctura/junctura/conformance/OptimalPaths" "marking" "[I" (.ref a3) := F_marking_313.other W329 (Or.inr (slot_ne (Or.inr (hw _ (List.mem_of_getElem? (i := 18) rfl))) (Or.inr (hw _ (List.mem_of_getElem? (i := 39) rfl))) (by decide) (t := (.array .int)) (t' := (.array .int)) (by decide) (by decide)))
  have F_firstAt_332 : Fld Z h329 a1 "com/example/junctura/junctura/conformance/OptimalPaths" "firstAt" "[I" (.ref b112) := F_firstAt_314.other W329 (Or.inr (slot_ne (Or.inr (hw _ (List.mem_of_getElem? (i := 30) rfl))) (Or.inr (hw _ (List.mem_of_getElem? (i := 39) rfl))) (by decide) (t := (.array .int)) (t' := (.array .int)) (by decide) (by decide)))
  have F_firstOut_333 : Fld Z h329 a1 "com/example/junctura/junctura/conformance/OptimalPaths" "firstOut" "[I" (.ref b249) := F_firstOut_315.other W329 (Or.inr (slot_ne (Or.inr (hw _ (List.mem_of_getElem? (i := 35) rfl))) (Or.inr (hw _ (List.mem_of_getElem? (i := 39) rfl))) (by decide) (t := (.array .int)) (t' := (.array .int)) (by decide) (by decide)))
  have F_firstIn_334 : Fld Z h329 a1 "com/example/junctura/junctura/conformance/OptimalPaths" "firstIn" "[I" (.ref b278) := F_firstIn_316.other W329 (Or.inr (slot_ne (Or.inr (hw _ (List.mem_of_getElem? (i := 37) rfl))) (Or.inr (hw _ (List.mem_of_getElem? (i := 39) rfl))) (by decide) (t := (.array .int)) (t' := (.array .int)) (by decide) (by decide)))
  have F_transition_335 : Fld Z h329 a1 "com/example/junctura/junctura/conformance/OptimalPaths" "transition" "[I" u_transition := F_transition_318.other W329 (Or.inr (slot_ne (Or.inr (hw _ (List.mem_of_getElem? (i := 41) rfl))) (Or.inr (hw _ (List.mem_of_getElem? (i := 39) rfl))) (by decide) (t := (.array .int)) (t' := (.array .int)) (by decide) (by decide)))
  have F_source_336 : Fld Z h329 a1 "com/example/junctura/junctura/conformance/OptimalPaths" "source" "[I" u_source := F_source_319.other W329 (Or.inr (slot_ne (Or.inr (hw _ (List.mem_of_getElem? (i := 43) rfl))) (Or.inr (hw _ (List.mem_of_getElem? (i := 39) rfl))) (by decide) (t := (.array .int)) (t' := (.array .int)) (by decide) (by decide)))
  have P_337 : Ari Z h329 a3 ([m0, m1, m2, m3] : List Int32) := P_320.other W329 ne3
  have P_338 : Ari Z h329 a4 ([q0, q1, q2, q3] : List Int32) := P_321.other W329 ne4
  have P_339 : Ari Z h329 a5 ([] : List Int32) := P_322.other W329 ne5
  have P_340 : Ari Z h329 a6 ([] : List Int32) := P_323.other W329 ne6
  have P_341 : Ari Z h329 b112 xs236 := P_324.other W329 (Ne.symm ne_a1_b112)
  have P_342 : Ari Z h329 b249 ([0, 0, 0, 0, 0] : List Int32) := P_325.other W329 (Ne.symm ne_a1_b249)
  have E_b249_343 : Exa Z h329 b249 "[I" := E_b249_326.wr W329
  have P_344 : Ari Z h329 b278 ([0, 0, 0, 0, 0] : List Int32) := P_327.other W329 (Ne.symm ne_a1_b278)
  have E_b278_345 : Exa Z h329 b278 "[I" := E_b278_328.wr W329
  have P_346 : Ari Z h329 b311 ([] : List Int32) := P311.other W329 (Ne.symm ne_a1_b311)
  have N329 := Fr.snoc X329 N294 g_a1
  have K329 : Keep h0 h329 [a1] := K311.wr W329 (Or.inl (List.mem_of_getElem? (i := 0) rfl))
  have Z329 : n0 ≤ h329.size := Nat.le_trans Z311 (Nat.le_of_eq W329.size.symm)
  show Go p e below _ (T329.setTop (mkF m 152 #[.val (.ref a1), .val (.int (2 : Int32)), .val (.ref a3), .val (.ref a4), .val (.ref a5), .val (.ref a6), .val (.ref a7), .val (.int p8), .val (.int p9), .val (.int p10), .val (.int p11), .val (.int (4 : Int32)), .val (.int (3 : Int32)), .unset, .unset, .unset] []))
  refine go (fun _ q => XS.aloadN X329.here hx rfl (hb hby d2_152) rfl rfl q) ?_
  show Go p e below _ (T329.setTop (mkF m 153 #[.val (.ref a1), .val (.int (2 : Int32)), .val (.ref a3), .val (.ref a4), .val (.ref a5), .val (.ref a6), .val (.ref a7), .val (.int p8), .val (.int p9), .val (.int p10), .val (.int p11), .val (.int (4 : Int32)), .val (.int (3 : Int32)), .unset, .unset, .unset] [(.ref a1)]))
  refine go (fun _ q => XS.aload X329.here hx rfl (hb hby d2_153) rfl rfl q) ?_
  show Go p e below _ (T329.setTop (mkF m 155 #[.val (.ref a1), .val (.int (2 : Int32)), .val (.ref a3), .val (.ref a4), .val (.ref a5), .val (.ref a6), .val (.ref a7), .val (.int p8), .val (.int p9), .val (.int p10), .val (.int p11), .val (.int (4 : Int32)), .val (.int (3 : Int32)), .unset, .unset, .unset] [(.ref a5), (.ref a1)]))
  refine go (own_arilen X329 hx hZ e329 P_339 (g := (mkF m 155 #[.val (.ref a1), .val (.int (2 : Int32)), .val (.ref a3), .val (.ref a4), .val (.ref a5), .val (.ref a6), .val (.ref a7), .val (.int p8), .val (.int p9), .val (.int p10), .val (.int p11), .val (.int (4 : Int32)), .val (.int (3 : Int32)), .unset, .unset, .unset] [(.ref a5), (.ref a1)])) rfl rfl (hb hby d2_155)) ?_
  show Go p e below _ (T329.setTop (mkF m 156 #[.val (.ref a1), .val (.int (2 : Int32)), .val (.ref a3), .val (.ref a4), .val (.ref a5), .val (.ref a6), .val (.ref a7), .val (.int p8), .val (.int p9), .val (.int p10), .val (.int p11), .val (.int (4 : Int32)), .val (.int (3 : Int32)), .unset, .unset, .unset] [(.int (0 : Int32)), (.ref a1)]))
  obtain ⟨T347, h347, k347, X347, e347, E347, A347, st347⟩ := newP X329 hx hZ (hw _ (List.mem_of_getElem? (i := 5) rfl)) e329 (g := (mkF m 156 #[.val (.ref a1), .val (.int (2 : Int32)), .val (.ref a3), .val (.ref a4), .val (.ref a5), .val (.ref a6), .val (.ref a7), .val (.int p8), .val (.int p9), .val (.int p10), .val (.int p11), .val (.int (4 : Int32)), .val (.int (3 : Int32)), .unset, .unset, .unset] [(.int (0 : Int32)), (.ref a1)])) rfl (hb hby d2_156) rfl (by decide) (cap := 0) (by decide) (by decide) (by decide) (by decide)
  obtain ⟨b347, g347⟩ : ∃ z, z = h329.size := ⟨_, rfl⟩
  rw [← g347] at A347 st347
  refine go st347 ?_
  have ne_a1_b347 : a1 ≠ b347 := Nat.ne_of_lt (Nat.lt_of_lt_of_le E_a1_330.lt (Nat.le_of_eq g347.symm))
  have ne_a3_b347 : a3 ≠ b347 := Nat.ne_of_lt (Nat.lt_of_lt_of_le P_337.lt (Nat.le_of_eq g347.symm))
  have ne_a4_b347 : a4 ≠ b347 := Nat.ne_of_lt (Nat.lt_of_lt_of_le P_338.lt (Nat.le_of_eq g347.symm))
  have ne_a5_b347 : a5 ≠ b347 := Nat.ne_of_lt (Nat.lt_of_lt_of_le P_339.lt (Nat.le_of_eq g347.symm))
  have ne_a6_b347 : a6 ≠ b347 := Nat.ne_of_lt (Nat.lt_of_lt_of_le P_340.lt (Nat.le_of_eq g347.symm))
  have ne_b112_b347 : b112 ≠ b347 := Nat.ne_of_lt (Nat.lt_of_lt_of_le P_341.lt (Nat.le_of_eq g347.symm))
  have ne_b249_b347 : b249 ≠ b347 := Nat.ne_of_lt (Nat.lt_of_lt_of_le P_342.lt (Nat.le_of_eq g347.symm))
  have ne_b278_b347 : b278 ≠ b347 := Nat.ne_of_lt (Nat.lt_of_lt_of_le P_344.lt (Nat.le_of_eq g347.symm))
  have ne_b311_b347 : b311 ≠ b347 := Nat.ne_of_lt (Nat.lt_of_lt_of_le P_346.lt (Nat.le_of_eq g347.symm))
  have g_b347 : n0 ≤ b347 := Nat.le_trans Z329 (Nat.le_of_eq g347.symm)
  have sz_b347 : h0.size ≤ b347 := Nat.le_trans K329.1 (Nat.le_of_eq g347.symm)
  have Z347 : n0 ≤ h347.size := Nat.le_trans Z329 E347.1
  have E_a1_348 : Exa Z h347 a1 "com/example/junctura/junctura/conformance/OptimalPaths" := E_a1_330.ext E347
  have F_marking_349 : Fld Z h347 a1 "com/example/junctura/junctura/conformance/OptimalPaths" "marking" "[I" (.ref a3) := F_marking_331.ext E347
  have F_firstAt_350 : Fld Z h347 a1 "com/example/junctura/junctura/conformance/OptimalPaths" "firstAt" "[I" (.ref b112) := F_firstAt_332.ext E347
  have F_firstOut_351 : Fld Z h347 a1 "com/example/junctura/junctura/conformance/OptimalPaths" "firstOut" "[I" (.ref b249) := F_firstOut_333.ext E347
  have F_firstIn_352 : Fld Z h347 a1 "com/example/junctura/junctura/conformance/OptimalPaths" "firstIn" "[I" (.ref b278) := F_firstIn_334.ext E347
  have F_transition_353 : Fld Z h347 a1 "com/example/junctura/junctura/conformance/OptimalPaths" "transition" "[I" u_transition := F_transition_335.ext E347
  have F_source_354 : Fld Z h347 a1 "com/example/junctura/junctura/conformance/OptimalPaths" "source" "[I" u_source := F_source_336.ext E347
  have P_355 : Ari Z h347 a3 ([m0, m1, m2, m3] : List Int32) := P_337.ext E347
  have P_356 : Ari Z h347 a4 ([q0, q1, q2, q3] : List Int32) := P_338.ext E347
  have P_357 : Ari Z h347 a5 ([] : List Int32) := P_339.ext E347
  have P_358 : Ari Z h347 a6 ([] : List Int32) := P_340.ext E347
  have P_359 : Ari Z h347 b112 xs236 := P_341.ext E347
  have P_360 : Ari Z h347 b249 ([0, 0, 0, 0, 0] : List Int32) := P_342.ext E347
  have E_b249_361 : Exa Z h347 b249 "[I" := E_b249_343.ext E347
  have P_362 : Ari Z h347 b278 ([0, 0, 0, 0, 0] : List Int32) := P_344.ext E347
  have E_b278_363 : Exa Z h347 b278 "[I" := E_b278_345.ext E347
  have P_364 : Ari Z h347 b311 ([] : List Int32) := P_346.ext E347
  have K347 : Keep h0 h347 [a1] := K329.ext E347
  have P347 : Ari Z h347 b347 ([] : List Int32) := own_fresh A347 (by decide) (m := 0) rfl
  show Go p e below _ (T347.setTop (mkF m 158 #[.val (.ref a1), .val (.int (2 : Int32)), .val (.ref a3), .val (.ref a4), .val (.ref a5), .val (.ref a6), .val (.ref a7), .val (.int p8), .val (.int p9), .val (.int p10), .val (.int p11), .val (.int (4 : Int32)), .val (.int (3 : Int32)), .unset, .unset, .unset] [(.ref b347), (.ref a1)]))
  obtain ⟨T365, h365, X365, e365, W365, st365⟩ := putF X347 hx hZ hown (host := "") (Or.inl (hw _ (List.mem_of_getElem? (i := 40) rfl))) Via.refl e347 F_transition_353 E_a1_348 (Or.inr ⟨(hw _ (List.mem_of_getElem? (i := 41) rfl)), rfl, hnm⟩) (hw _ (List.mem_of_getElem? (i := 7) rfl)) (ty := (.array .int)) (by decide) rfl rfl (g := (mkF m 158 #[.val (.ref a1), .val (.int (2 : Int32)), .val (.ref a3), .val (.ref a4), .val (.ref a5), .val (.ref a6), .val (.ref a7), .val (.int p8), .val (.int p9), .val (.int p10), .val (.int p11), .val (.int (4 : Int32)), .val (.int (3 : Int32)), .unset, .unset, .unset] [(.ref b347), (.ref a1)])) rfl rfl (hb hby d2_158)
  refine go st365 ?_
  have F_transition_365 : Fld Z h365 a1 "com/example/junctura/junctura/conformance/OptimalPaths" "transition" "[I" (.ref b347) := F_transition_353.same W365
  have E_a1_366 : Exa Z h365 a1 "com/example/junctura/junctura/conformance/OptimalPaths" := E_a1_348.wr W365
  have F_marking_367 : Fld Z h365 a1 "com/example/junctura/junctura/conformance/OptimalPaths" "marking" "[I" (.ref a3) := F_marking_349.other W365 (Or.inr (slot_ne (Or.inr (hw _ (List.mem_of_getElem? (i := 18) rfl))) (Or.inr (hw _ (List.mem_of_getElem? (i := 41) rfl))) (by decide) (t := (.array .int)) (t' := (.array .int)) (by decide) (by decide)))
  have F_firstAt_368 : Fld Z h365 a1 "com/example/junctura/junctura/conformance/OptimalPaths" "firstAt" "[I" (.ref b112) := F_firstAt_350.other W365 (Or.inr (slot_ne (Or.inr (hw _ (List.mem_of_getElem? (i := 30) rfl))) (Or.inr (hw _ (List.mem_of_getElem? (i := 41) rfl))) (by decide) (t := (.array .int)) (t' := (.array .int)) (by decide) (by decide)))
  have F_firstOut_369 : Fld Z h365 a1 "com/example/junctura/junctura/conformance/OptimalPaths" "firstOut" "[I" (.ref b249) := F_firstOut_351.other W365 (Or.inr (slot_ne (Or.inr (hw _ (List.mem_of_getElem? (i := 35) rfl))) (Or.inr (hw _ (List.mem_of_getElem? (i := 41) rfl))) (by decide) (t := (.array .int)) (t' := (.array .int)) (by decide) (by decide)))
  have F_firstIn_370 : Fld Z h365 a1 "com/example/junctura/junctura/conformance/OptimalPaths" "firstIn" "[I" (.ref b278) := F_firstIn_352.other W365 (Or.inr (slot_ne (Or.inr (hw _ (List.mem_of_getElem? (i := 37) rfl))) (Or.inr (hw _ (List.mem_of_getElem? (i := 41) rfl))) (by decide) (t := (.array .int)) (t' := (.array .int)) (by decide) (by decide)))
  have F_source_371 : Fld Z h365 a1 "com/example/junctura/junctura/conformance/OptimalPaths" "source" "[I" u_source := F_source_354.other W365 (Or.inr (slot_ne (Or.inr (hw _ (List.mem_of_getElem? (i := 43) rfl))) (Or.inr (hw _ (List.mem_of_getElem? (i := 41) rfl))) (by decide) (t := (.array .int)) (t' := (.array .int)) (by decide) (by decide)))
  have P_372 : Ari Z h365 a3 ([m0, m1, m2, m3] : List Int32) := P_355.other W365 ne3
  have P_373 : Ari Z h365 a4 ([q0, q1, q2, q3] : List Int32) := P_356.other W365 ne4
  have P_374 : Ari Z h365 a5 ([] : List Int32) := P_357.other W365 ne5
  have P_375 : Ari Z h365 a6 ([] : List Int32) := P_358.other W365 ne6
  have P_376 : Ari Z h365 b112 xs236 := P_359.other W365 (Ne.symm ne_a1_b112)
  have P_377 : Ari Z h365 b249 ([0, 0, 0, 0, 0] : List Int32) := P_360.other W365 (Ne.symm ne_a1_b249)
  have E_b249_378 : Exa Z h365 b249 "[I" := E_b249_361.wr W365
  have P_379 : Ari Z h365 b278 ([0, 0, 0, 0, 0] : List Int32) := P_362.other W365 (Ne.symm ne_a1_b278)
  have E_b278_380 : Exa Z h365 b278 "[I" := E_b278_363.wr W365
  have P_381 : Ari Z h365 b311 ([] : List Int32) := P_364.other W365 (Ne.symm ne_a1_b311)
  have P_382 : Ari Z h365 b347 ([] : List Int32) := P347.other W365 (Ne.symm ne_a1_b347)
  have N365 := Fr.snoc X365 N329 g_a1
  have K365 : Keep h0 h365 [a1] := K347.wr W365 (Or.inl (List.mem_of_getElem? (i := 0) rfl))
  have Z365 : n0 ≤ h365.size := Nat.le_trans Z347 (Nat.le_of_eq W365.size.symm)
  show Go p e below _ (T365.setTop (mkF m 161 #[.val (.ref a1), .val (.int (2 : Int32)), .val (.ref a3), .val (.ref a4), .val (.ref a5), .val (.ref a6), .val (.ref a7), .val (.int p8), .val (.int p9), .val (.int p10), .val (.int p11), .val (.int (4 : Int32)), .val (.int (3 : Int32)), .unset, .unset, .unset] []))
  refine go (fun _ q => XS.aloadN X365.here hx rfl (hb hby d2_161) rfl rfl q) ?_
  show Go p e below _ (T365.setTop (mkF m 162 #[.val (.ref a1), .val (.int (2 : Int32)), .val (.ref a3), .val (.ref a4), .val (.ref a5), .val (.ref a6), .val (.ref a7), .val (.int p8), .val (.int p9), .val (.int p10), .val (.int p11), .val (.int (4 : Int32)), .val (.int (3 : Int32)), .unset, .unset, .unset] [(.ref a1)]))
  refine go (fun _ q => XS.aload X365.here hx rfl (hb hby d2_162) rfl rfl q) ?_
  show Go p e below _ (T365.setTop (mkF m 164 #[.val (.ref a1), .val (.int (2 : Int32)), .val (.ref a3), .val (.ref a4), .val (.ref a5), .val (.ref a6), .val (.ref a7), .val (.int p8), .val (.int p9), .val (.int p10), .val (.int p11), .val (.int (4 : Int32)), .val (.int (3 : Int32)), .unset, .unset, .unset] [(.ref a5), (.ref a1)]))
  refine go (own_arilen X365 hx hZ e365 P_374 (g := (mkF m 164 #[.val (.ref a1), .val (.int (2 : Int32)), .val (.ref a3), .val (.ref a4), .val (.ref a5), .val (.ref a6), .val (.ref a7), .val (.int p8), .val (.int p9), .val (.int p10), .val (.int p11), .val (.int (4 : Int32)), .val (.int (3 : Int32)), .unset, .unset, .unset] [(.ref a5), (.ref a1)])) rfl rfl (hb hby d2_164)) ?_
  show Go p e below _ (T365.setTop (mkF m 165 #[.val (.ref a1), .val (.int (2 : Int32)), .val (.ref a3), .val (.ref a4), .val (.ref a5), .val (.ref a6), .val (.ref a7), .val (.int p8), .val (.int p9), .val (.int p10), .val (.int p11), .val (.int (4 : Int32)), .val (.int (3 : Int32)), .unset, .unset, .unset] [(.int (0 : Int32)), (.ref a1)]))
  obtain ⟨T383, h383, k383, X383, e383, E383, A383, st383⟩ := newP X365 hx hZ (hw _ (List.mem_of_getElem? (i := 5) rfl)) e365 (g := (mkF m 165 #[.val (.ref a1), .val (.int (2 : Int32)), .val (.ref a3), .val (.ref a4), .val (.ref a5), .val (.ref a6), .val (.ref a7), .val (.int p8), .val (.int p9), .val (.int p10), .val (.int p11), .val (.int (4 : Int32)), .val (.int (3 : Int32)), .unset, .unset, .unset] [(.int (0 : Int32)), (.ref a1)])) rfl (hb hby d2_165) rfl (by decide) (cap := 0) (by decide) (by decide) (by decide) (by decide)
  obtain ⟨b383, g383⟩ : ∃ z, z = h365.size := ⟨_, rfl⟩
  rw [← g383] at A383 st383
  refine go st383 ?_
  have ne_a1_b383 : a1 ≠ b383 := Nat.ne_of_lt (Nat.lt_of_lt_of_le E_a1_366.lt (Nat.le_of_eq g383.symm))
  have ne_a3_b383 : a3 ≠ b383 := Nat.ne_of_lt (Nat.lt_of_lt_of_le P_372.lt (Nat.le_of_eq g383.symm))
  have ne_a4_b383 : a4 ≠ b383 := Nat.ne_of_lt (Nat.lt_of_lt_of_le P_373.lt (Nat.le_of_eq g383.symm))
  have ne_a5_b383 : a5 ≠ b383 := Nat.ne_of_lt (Nat.lt_of_lt_of_le P_374.lt (Nat.le_of_eq g383.symm))
  have ne_a6_b383 : a6 ≠ b383 := Nat.ne_of_lt (Nat.lt_of_lt_of_le P_375.lt (Nat.le_of_eq g383.symm))
  have ne_b112_b383 : b112 ≠ b383 := Nat.ne_of_lt (Nat.lt_of_lt_of_le P_376.lt (Nat.le_of_eq g383.symm))
  have ne_b249_b383 : b249 ≠ b383 := Nat.ne_of_lt (Nat.lt_of_lt_of_le P_377.lt (Nat.le_of_eq g383.symm))
  have ne_b278_b383 : b278 ≠ b383 := Nat.ne_of_lt (Nat.lt_of_lt_of_le P_379.lt (Nat.le_of_eq g383.symm))
  have ne_b311_b383 : b311 ≠ b383 := Nat.ne_of_lt (Nat.lt_of_lt_of_le P_381.lt (Nat.le_of_eq g383.symm))
  have ne_b347_b383 : b347 ≠ b383 := Nat.ne_of_lt (Nat.lt_of_lt_of_le P_382.lt (Nat.le_of_eq g383.symm))
  have g_b383 : n0 ≤ b383 := Nat.le_trans Z365 (Nat.le_of_eq g383.symm)
  have sz_b383 : h0.size ≤ b383 := Nat.le_trans K365.1 (Nat.le_of_eq g383.symm)
  have Z383 : n0 ≤ h383.size := Nat.le_trans Z365 E383.1
  have E_a1_384 : Exa Z h383 a1 "com/example/junctura/junctura/conformance/OptimalPaths" := E_a1_366.ext E383
  have F_marking_385 : Fld Z h383 a1 "com/example/junctura/junctura/conformance/OptimalPaths" "marking" "[I" (.ref a3) := F_marking_367.ext E383
  have F_firstAt_386 : Fld Z h383 a1 "com/example/junctura/junctura/conformance/OptimalPaths" "firstAt" "[I" (.ref b112) := F_firstAt_368.ext E383
  have F_firstOut_387 : Fld Z h383 a1 "com/example/junctura/junctura/conformance/OptimalPaths" "firstOut" "[I" (.ref b249) := F_firstOut_369.ext E383
  have F_firstIn_388 : Fld Z h383 a1 "com/example/junctura/junctura/conformance/OptimalPaths" "firstIn" "[I" (.ref b278) := F_firstIn_370.ext E383
  have F_source_389 : Fld Z h383 a1 "com/example/junctura/junctura/conformance/OptimalPaths" "source" "[I" u_source := F_source_371.ext E383
  have P_390 : Ari Z h383 a3 ([m0, m1, m2, m3] : List Int32) := P_372.ext E383
  have P_391 : Ari Z h383 a4 ([q0, q1, q2, q3] : List Int32) := P_373.ext E383
  have P_392 : Ari Z h383 a5 ([] : List Int32) := P_374.ext E383
  have P_393 : Ari Z h383 a6 ([] : List Int32) := P_375.ext E383
  have P_394 : Ari Z h383 b112 xs236 := P_376.ext E383
  have P_395 : Ari Z h383 b249 ([0, 0, 0, 0, 0] : List Int32) := P_377.ext E383
  have E_b249_396 : Exa Z h383 b249 "[I" := E_b249_378.ext E383
  have P_397 : Ari Z h383 b278 ([0, 0, 0, 0, 0] : List Int32) := P_379.ext E383
  have E_b278_398 : Exa Z h383 b278 "[I" := E_b278_380.ext E383
  have P_399 : Ari Z h383 b311 ([] : List Int32) := P_381.ext E383
  have P_400 : Ari Z h383 b347 ([] : List Int32) := P_382.ext E383
  have K383 : Keep h0 h383 [a1] := K365.ext E383
  have P383 : Ari Z h383 b383 ([] : List Int32) := own_fresh A383 (by decide) (m := 0) rfl
  show Go p e below _ (T383.setTop (mkF m 167 #[.val (.ref a1), .val (.int (2 : Int32)), .val (.ref a3), .val (.ref a4), .val (.ref a5), .val (.ref a6), .val (.ref a7), .val (.int p8), .val (.int p9), .val (.int p10), .val (.int p11), .val (.int (4 : Int32)), .val (.int (3 : Int32)), .unset, .unset, .unset] [(.ref b383), (.ref a1)]))
  obtain ⟨T401, h401, X401, e401, W401, st401⟩ := putF X383 hx hZ hown (host := "") (Or.inl (hw _ (List.mem_of_getElem? (i := 42) rfl))) Via.refl e383 F_source_389 E_a1_384 (Or.inr ⟨(hw _ (List.mem_of_getElem? (i := 43) rfl)), rfl, hnm⟩) (hw _ (List.mem_of_getElem? (i := 7) rfl)) (ty := (.array .int)) (by decide) rfl rfl (g := (mkF m 167 #[.val (.ref a1), .val (.int (2 : Int32)), .val (.ref a3), .val (.ref a4), .val (.ref a5), .val (.ref a6), .val (.ref a7), .val (.int p8), .val (.int p9), .val (.int p10), .val (.int p11), .val (.int (4 : Int32)), .val (.int (3 : Int32)), .unset, .unset, .unset] [(.ref b383), (.ref a1)])) rfl rfl (hb hby d2_167)
  refine go st401 ?_
  have F_source_401 : Fld Z h401 a1 "com/example/junctura/junctura/conformance/OptimalPaths" "source" "[I" (.ref b383) := F_source_389.same W401
  have E_a1_402 : Exa Z h401 a1 "com/example/junctura/junctura/conformance/OptimalPaths" := E_a1_384.wr W401
  have F_marking_403 : Fld Z h401 a1 "com/example/junctura/junctura/conformance/OptimalPaths" "marking" "[I" (.ref a3) := F_marking_385.other W401 (Or.inr (slot_ne (Or.inr (hw _ (List.mem_of_getElem? (i := 18) rfl))) (Or.inr (hw _ (List.mem_of_getElem? (i := 43) rfl))) (by decide) (t := (.array .int)) (t' := (.array .int)) (by decide) (by decide)))
  have F_firstAt_404 : Fld Z h401 a1 "com/example/junctura/junctura/conformance/OptimalPaths" "firstAt" "[I" (.ref b112) := F_firstAt_386.other W401 (Or.inr (slot_ne (Or.inr (hw _ (List.mem_of_getElem? (i := 30) rfl))) (Or.inr (hw _ (List.mem_of_getElem? (i := 43) rfl))) (by decide) (t := (.array .int)) (t' := (.array .int)) (by decide) (by decide)))
  have F_firstOut_405 : Fld Z h401 a1 "com/example/junctura/junctura/conformance/OptimalPaths" "firstOut" "[I" (.ref b249) := F_firstOut_387.other W401 (Or.inr (slot_ne (Or.inr (hw _ (List.mem_of_getElem? (i := 35) rfl))) (Or.inr (hw _ (List.mem_of_getElem? (i := 43) rfl))) (by decide) (t := (.array .int)) (t' := (.array .int)) (by decide) (by decide)))
  have F_firstIn_406 : Fld Z h401 a1 "com/example/junctura/junctura/conformance/OptimalPaths" "firstIn" "[I" (.ref b278) := F_firstIn_388.other W401 (Or.inr (slot_ne (Or.inr (hw _ (List.mem_of_getElem? (i := 37) rfl))) (Or.inr (hw _ (List.mem_of_getElem? (i := 43) rfl))) (by decide) (t := (.array .int)) (t' := (.array .int)) (by decide) (by decide)))
  have P_407 : Ari Z h401 a3 ([m0, m1, m2, m3] : List Int32) := P_390.other W401 ne3
  have P_408 : Ari Z h401 a4 ([q0, q1, q2, q3] : List Int32) := P_391.other W401 ne4
  have P_409 : Ari Z h401 a5 ([] : List Int32) := P_392.other W401 ne5
  have P_410 : Ari Z h401 a6 ([] : List Int32) := P_393.other W401 ne6
  have P_411 : Ari Z h401 b112 xs236 := P_394.other W401 (Ne.symm ne_a1_b112)
  have P_412 : Ari Z h401 b249 ([0, 0, 0, 0, 0] : List Int32) := P_395.other W401 (Ne.symm ne_a1_b249)
  have E_b249_413 : Exa Z h401 b249 "[I" := E_b249_396.wr W401
  have P_414 : Ari Z h401 b278 ([0, 0, 0, 0, 0] : List Int32) := P_397.other W401 (Ne.symm ne_a1_b278)
  have E_b278_415 : Exa Z h401 b278 "[I" := E_b278_398.wr W401
  have P_416 : Ari Z h401 b311 ([] : List Int32) := P_399.other W401 (Ne.symm ne_a1_b311)
  have P_417 : Ari Z h401 b347 ([] : List Int32) := P_400.other W401 (Ne.symm ne_a1_b347)
  have P_418 : Ari Z h401 b383 ([] : List Int32) := P383.other W401 (Ne.symm ne_a1_b383)
  have N401 := Fr.snoc X401 N365 g_a1
  have K401 : Keep h0 h401 [a1] := K383.wr W401 (Or.inl (List.mem_of_getElem? (i := 0) rfl))
  have Z401 : n0 ≤ h401.size := Nat.le_trans Z383 (Nat.le_of_eq W401.size.symm)
  show Go p e below _ (T401.setTop (mkF m 170 #[.val (.ref a1), .val (.int (2 : Int32)), .val (.ref a3), .val (.ref a4), .val (.ref a5), .val (.ref a6), .val (.ref a7), .val (.int p8), .val (.int p9), .val (.int p10), .val (.int p11), .val (.int (4 : Int32)), .val (.int (3 : Int32)), .unset, .unset, .unset] []))
  refine go (fun _ q => XS.aloadN X401.here hx rfl (hb hby d2_170) rfl rfl q) ?_
  show Go p e below _ (T401.setTop (mkF m 171 #[.val (.ref a1), .val (.int (2 : Int32)), .val (.ref a3), .val (.ref a4), .val (.ref a5), .val (.ref a6), .val (.ref a7), .val (.int p8), .val (.int p9), .val (.int p10), .val (.int p11), .val (.int (4 : Int32)), .val (.int (3 : Int32)), .unset, .unset, .unset] [(.ref a1)]))
  obtain ⟨T419, X419, e419, st419⟩ := getF X401 hx hZ hown (host := "") (Or.inl (hw _ (List.mem_of_getElem? (i := 34) rfl))) Via.refl e401 F_firstOut_405 (g := (mkF m 171 #[.val (.ref a1), .val (.int (2 : Int32)), .val (.ref a3), .val (.ref a4), .val (.ref a5), .val (.ref a6), .val (.ref a7), .val (.int p8), .val (.int p9), .val (.int p10), .val (.int p11), .val (.int (4 : Int32)), .val (.int (3 : Int32)), .unset, .unset, .unset] [(.ref a1)])) rfl rfl (hb hby d2_171)
  refine go st419 ?_
  show Go p e below _ (T419.setTop (mkF m 174 #[.val (.ref a1), .val (.int (2 : Int32)), .val (.ref a3), .val (.ref a4), .val (.ref a5), .val (.ref a6), .val (.ref a7), .val (.int p8), .val (.int p9), .val (.int p10), .val (.int p11), .val (.int (4 : Int32)), .val (.int (3 : Int32)), .unset, .unset, .unset] [(.ref b249)]))
  obtain ⟨kc420, zc420, Vc420, qc420⟩ := id P_412
  obtain ⟨T420, h420, X420, e420, E420, A420, Ex420, st420⟩ := cloneH X419 hx hZ hown (hw _ (List.mem_of_getElem? (i := 44) rfl)) (hw _ (List.mem_of_getElem? (i := 45) rfl)) (hw _ (List.mem_of_getElem? (i := 49) rfl)) (hw _ (List.mem_of_getElem? (i := 47) rfl)) (hw _ (List.mem_of_getElem? (i := 48) rfl)) (hw _ (List.mem_of_getElem? (i := 50) rfl)) e419 Vc420.arh E_b249_413 (g := (mkF m 174 #[.val (.ref a1), .val (.int (2 : Int32)), .val (.ref a3), .val (.ref a4), .val (.ref a5), .val (.ref a6), .val (.ref a7), .val (.int p8), .val (.int p9), .val (.int p10), .val (.int p11), .val (.int (4 : Int32)), .val (.int (3 : Int32)), .unset, .unset, .unset] [(.ref b249)])) rfl (by rw [hml]; rfl) rfl (hb hby d2_174) (by decide) (W := 0) (cap := 5) (by show 2 * 0 + _ ≤ _; exact Nat.le_of_eq rfl) (by decide) (by rw [qc420]; exact Nat.le_refl _) (by decide) (by decide)
  obtain ⟨b420, g420⟩ : ∃ z, z = h401.size := ⟨_, rfl⟩
  rw [← g420] at A420 st420 Ex420
  refine go st420 ?_
  have ne_a1_b420 : a1 ≠ b420 := Nat.ne_of_lt (Nat.lt_of_lt_of_le E_a1_402.lt (Nat.le_of_eq g420.symm))
  have ne_a3_b420 : a3 ≠ b420 := Nat.ne_of_lt (Nat.lt_of_lt_of_le P_407.lt (Nat.le_of_eq g420.symm))
  have ne_a4_b420 : a4 ≠ b420 := Nat.ne_of_lt (Nat.lt_of_lt_of_le P_408.lt (Nat.le_of_eq g420.symm))
  have ne_a5_b420 : a5 ≠ b420 := Nat.ne_of_lt (Nat.lt_of_lt_of_le P_409.lt (Nat.le_of_eq g420.symm))
  have ne_a6_b420 : a6 ≠ b420 := Nat.ne_of_lt (Nat.lt_of_lt_of_le P_410.lt (Nat.le_of_eq g420.symm))
  have ne_b112_b420 : b112 ≠ b420 := Nat.ne_of_lt (Nat.lt_of_lt_of_le P_411.lt (Nat.le_of_eq g420.symm))
  have ne_b249_b420 : b249 ≠ b420 := Nat.ne_of_lt (Nat.lt_of_lt_of_le P_412.lt (Nat.le_of_eq g420.symm))
  have ne_b278_b420 : b278 ≠ b420 := Nat.ne_of_lt (Nat.lt_of_lt_of_le P_414.lt (Nat.le_of_eq g420.symm))
  have ne_b311_b420 : b311 ≠ b420 := Nat.ne_of_lt (Nat.lt_of_lt_of_le P_416.lt (Nat.le_of_eq g420.symm))
  have ne_b347_b420 : b347 ≠ b420 := Nat.ne_of_lt (Nat.lt_of_lt_of_le P_417.lt (Nat.le_of_eq g420.symm))
  have ne_b383_b420 : b383 ≠ b420 := Nat.ne_of_lt (Nat.lt_of_lt_of_le P_418.lt (Nat.le_of_eq g420.symm))
  have g_b420 : n0 ≤ b420 := Nat.le_trans Z401 (Nat.le_of_eq g420.symm)
  have sz_b420 : h0.size ≤ b420 := Nat.le_trans K401.1 (Nat.le_of_eq g420.symm)
  have Z420 : n0 ≤ h420.size := Nat.le_trans Z401 E420.1
  have E_a1_421 : Exa Z h420 a1 "com/example/junctura/junctura/conformance/OptimalPaths" := E_a1_402.ext E420
  have F_marking_422 : Fld Z h420 a1 "com/example/junctura/junctura/conformance/OptimalPaths" "marking" "[I" (.ref a3) := F_marking_403.ext E420
  have F_firstAt_423 : Fld Z h420 a1 "com/example/junctura/junctura/conformance/OptimalPaths" "firstAt" "[I" (.ref b112) := F_firstAt_404.ext E420
  have F_firstOut_424 : Fld Z h420 a1 "com/example/junctura/junctura/conformance/OptimalPaths" "firstOut" "[I" (.ref b249) := F_firstOut_405.ext E420
  have F_firstIn_425 : Fld Z h420 a1 "com/example/junctura/junctura/conformance/OptimalPaths" "firstIn" "[I" (.ref b278) := F_firstIn_406.ext E420
  have P_426 : Ari Z h420 a3 ([m0, m1, m2, m3] : List Int32) := P_407.ext E420
  have P_427 : Ari Z h420 a4 ([q0, q1, q2, q3] : List Int32) := P_408.ext E420
  have P_428 : Ari Z h420 a5 ([] : List Int32) := P_409.ext E420
  have P_429 : Ari Z h420 a6 ([] : List Int32) := P_410.ext E420
  have P_430 : Ari Z h420 b112 xs236 := P_411.ext E420
  have P_431 : Ari Z h420 b249 ([0, 0, 0, 0, 0] : List Int32) := P_412.ext E420
  have E_b249_432 : Exa Z h420 b249 "[I" := E_b249_413.ext E420
  have P_433 : Ari Z h420 b278 ([0, 0, 0, 0, 0] : List Int32) := P_414.ext E420
  have E_b278_434 : Exa Z h420 b278 "[I" := E_b278_415.ext E420
  have P_435 : Ari Z h420 b311 ([] : List Int32) := P_416.ext E420
  have P_436 : Ari Z h420 b347 ([] : List Int32) := P_417.ext E420
  have P_437 : Ari Z h420 b383 ([] : List Int32) := P_418.ext E420
  have K420 : Keep h0 h420 [a1] := K401.ext E420
  show Go p e below _ (T420.setTop (mkF m 177 #[.val (.ref a1), .val (.int (2 : Int32)), .val (.ref a3), .val (.ref a4), .val (.ref a5), .val (.ref a6), .val (.ref a7), .val (.int p8), .val (.int p9), .val (.int p10), .val (.int p11), .val (.int (4 : Int32)), .val (.int (3 : Int32)), .unset, .unset, .unset] [(.ref b420)]))
  obtain ⟨T438, X438, e438, st438⟩ := castY X420 hx hZ hown (hw _ (List.mem_of_getElem? (i := 51) rfl)) e420 (Ins.self Ex420) (g := (mkF m 177 #[.val (.ref a1), .val (.int (2 : Int32)), .val (.ref a3), .val (.ref a4), .val (.ref a5), .val (.ref a6), .val (.ref a7), .val (.int p8), .val (.int p9), .val (.int p10), .val (.int p11), .val (.int (4 : Int32)), .val (.int (3 : Int32)), .unset, .unset, .unset] [(.ref b420)])) rfl rfl (hb hby d2_177)
  refine go st438 ?_
  show Go p e below _ (T438.setTop (mkF m 180 #[.val (.ref a1), .val (.int (2 : Int32)), .val (.ref a3), .val (.ref a4), .val (.ref a5), .val (.ref a6), .val (.ref a7), .val (.int p8), .val (.int p9), .val (.int p10), .val (.int p11), .val (.int (4 : Int32)), .val (.int (3 : Int32)), .unset, .unset, .unset] [(.ref b420)]))
  refine go (fun _ q => XS.astore X438.here hx rfl (hb hby d2_180) rfl rfl (l' := #[.val (.ref a1), .val (.int (2 : Int32)), .val (.ref a3), .val (.ref a4), .val (.ref a5), .val (.ref a6), .val (.ref a7), .val (.int p8), .val (.int p9), .val (.int p10), .val (.int p11), .val (.int (4 : Int32)), .val (.ref b420), .unset, .unset, .unset]) rfl q) ?_
  show Go p e below _ (T438.setTop (mkF m 182 #[.val (.ref a1), .val (.int (2 : Int32)), .val (.ref a3), .val (.ref a4), .val (.ref a5), .val (.ref a6), .val (.ref a7), .val (.int p8), .val (.int p9), .val (.int p10), .val (.int p11), .val (.int (4 : Int32)), .val (.ref b420), .unset, .unset, .unset] []))
  refine go (fun _ q => XS.aloadN X438.here hx rfl (hb hby d2_182) rfl rfl q) ?_
  show Go p e below _ (T438.setTop (mkF m 183 #[.val (.ref a1), .val (.int (2 : Int32)), .val (.ref a3), .val (.ref a4), .val (.ref a5), .val (.ref a6), .val (.ref a7), .val (.int p8), .val (.int p9), .val (.int p10), .val (.int p11), .val (.int (4 : Int32)), .val (.ref b420), .unset, .unset, .unset] [(.ref a1)]))
  obtain ⟨T439, X439, e439, st439⟩ := getF X438 hx hZ hown (host := "") (Or.inl (hw _ (List.mem_of_getElem? (i := 36) rfl))) Via.refl e438 F_firstIn_425 (g := (mkF m 183 #[.val (.ref a1), .val (.int (2 : Int32)), .val (.ref a3), .val (.ref a4), .val (.ref a5), .val (.ref a6), .val (.ref a7), .val (.int p8), .val (.int p9), .val (.int p10), .val (.int p11), .val (.int (4 : Int32)), .val (.ref b420), .unset, .unset, .unset] [(.ref a1)])) rfl rfl (hb hby d2_183)
  refine go st439 ?_
  show Go p e below _ (T439.setTop (mkF m 186 #[.val (.ref a1), .val (.int (2 : Int32)), .val (.ref a3), .val (.ref a4), .val (.ref a5), .val (.ref a6), .val (.ref a7), .val (.int p8), .val (.int p9), .val (.int p10), .val (.int p11), .val (.int (4 : Int32)), .val (.ref b420), .unset, .unset, .unset] [(.ref b278)]))
  obtain ⟨kc440, zc440, Vc440, qc440⟩ := id P_433
  obtain ⟨T440, h440, X440, e440, E440, A440, Ex440, st440⟩ := cloneH X439 hx hZ hown (hw _ (List.mem_of_getElem? (i := 44) rfl)) (hw _ (List.mem_of_getElem? (i := 45) rfl)) (hw _ (List.mem_of_getElem? (i := 49) rfl)) (hw _ (List.mem_of_getElem? (i := 47) rfl)) (hw _ (List.mem_of_getElem? (i := 48) rfl)) (hw _ (List.mem_of_getElem? (i := 50) rfl)) e439 Vc440.arh E_b278_434 (g := (mkF m 186 #[.val (.ref a1), .val (.int (2 : Int32)), .val (.ref a3), .val (.ref a4), .val (.ref a5), .val (.ref a6), .val (.ref a7), .val (.int p8), .val (.int p9), .val (.int p10), .val (.int p11), .val (.int (4 : Int32)), .val (.ref b420), .unset, .unset, .unset] [(.ref b278)])) rfl (by rw [hml]; rfl) rfl (hb hby d2_186) (by decide) (W := 0) (cap := 5) (by show 2 * 0 + _ ≤ _; exact Nat.le_of_eq rfl) (by decide) (by rw [qc440]; exact Nat.le_refl _) (by decide) (by decide)
  obtain ⟨b440, g440⟩ : ∃ z, z = h420.size := ⟨_, rfl⟩
  rw [← g440] at A440 st440 Ex440
  refine go st440 ?_
  have ne_a1_b440 : a1 ≠ b440 := Nat.ne_of_lt (Nat.lt_of_lt_of_le E_a1_421.lt (Nat.le_of_eq g440.symm))
  have ne_a3_b440 : a3 ≠ b440 := Nat.ne_of_lt (Nat.lt_of_lt_of_le P_426.lt (Nat.le_of_eq g440.symm))
  have ne_a4_b440 : a4 ≠ b440 := Nat.ne_of_lt (Nat.lt_of_lt_of_le P_427.lt (Nat.le_of_eq g440.symm))
  have ne_a5_b440 : a5 ≠ b440 := Nat.ne_of_lt (Nat.lt_of_lt_of_le P_428.lt (Nat.le_of_eq g440.symm))
  have ne_a6_b440 : a6 ≠ b440 := Nat.ne_of_lt (Nat.lt_of_lt_of_le P_429.lt (Nat.le_of_eq g440.symm))
  have ne_b112_b440 : b112 ≠ b440 := Nat.ne_of_lt (Nat.lt_of_lt_of_le P_430.lt (Nat.le_of_eq g440.symm))
  have ne_b249_b440 : b249 ≠ b440 := Nat.ne_of_lt (Nat.lt_of_lt_of_le P_431.lt (Nat.le_of_eq g440.symm))
  have ne_b278_b440 : b278 ≠ b440 := Nat.ne_of_lt (Nat.lt_of_lt_of_le P_433.lt (Nat.le_of_eq g440.symm))
  have ne_b311_b440 : b311 ≠ b440 := Nat.ne_of_lt (Nat.lt_of_lt_of_le P_435.lt (Nat.le_of_eq g440.symm))
  have ne_b347_b440 : b347 ≠ b440 := Nat.ne_of_lt (Nat.lt_of_lt_of_le P_436.lt (Nat.le_of_eq g440.symm))
  have ne_b383_b440 : b383 ≠ b440 := Nat.ne_of_lt (Nat.lt_of_lt_of_le P_437.lt (Nat.le_of_eq g440.symm))
  have ne_b420_b440 : b420 ≠ b440 := Nat.ne_of_lt (Nat.lt_of_lt_of_le Ex420.lt (Nat.le_of_eq g440.symm))
  have g_b440 : n0 ≤ b440 := Nat.le_trans Z420 (Nat.le_of_eq g440.symm)
  have sz_b440 : h0.size ≤ b440 := Nat.le_trans K420.1 (Nat.le_of_eq g440.symm)
  have Z440 : n0 ≤ h440.size := Nat.le_trans Z420 E440.1
  have E_a1_441 : Exa Z h440 a1 "com/example/junctura/junctura/conformance/OptimalPaths" := E_a1_421.ext E440
  have F_marking_442 : Fld Z h440 a1 "com/example/junctura/junctura/conformance/OptimalPaths" "marking" "[I" (.ref a3) := F_marking_422.ext E440
  have F_firstAt_443 : Fld Z h440 a1 "com/example/junctura/junctura/conformance/OptimalPaths" "firstAt" "[I" (.ref b112) := F_firstAt_423.ext E440
  have F_firstOut_444 : Fld Z h440 a1 "com/example/junctura/junctura/conformance/OptimalPaths" "firstOut" "[I" (.ref b249) := F_firstOut_424.ext E440
  have F_firstIn_445 : Fld Z h440 a1 "com/example/junctura/junctura/conformance/OptimalPaths" "firstIn" "[I" (.ref b278) := F_firstIn_425.ext E440
  have P_446 : Ari Z h440 a3 ([m0, m1, m2, m3] : List Int32) := P_426.ext E440
  have P_447 : Ari Z h440 a4 ([q0, q1, q2, q3] : List Int32) := P_427.ext E440
  have P_448 : Ari Z h440 a5 ([] : List Int32) := P_428.ext E440
  have P_449 : Ari Z h440 a6 ([] : List Int32) := P_429.ext E440
  have P_450 : Ari Z h440 b112 xs236 := P_430.ext E440
  have P_451 : Ari Z h440 b249 ([0, 0, 0, 0, 0] : List Int32) := P_431.ext E440
  have E_b249_452 : Exa Z h440 b249 "[I" := E_b249_432.ext E440
  have P_453 : Ari Z h440 b278 ([0, 0, 0, 0, 0] : List Int32) := P_433.ext E440
  have E_b278_454 : Exa Z h440 b278 "[I" := E_b278_434.ext E440
  have P_455 : Ari Z h440 b311 ([] : List Int32) := P_435.ext E440
  have P_456 : Ari Z h440 b347 ([] : List Int32) := P_436.ext E440
  have P_457 : Ari Z h440 b383 ([] : List Int32) := P_437.ext E440
  have E_b420_458 : Exa Z h440 b420 "[I" := Ex420.ext E440
  have K440 : Keep h0 h440 [a1] := K420.ext E440
  show Go p e below _ (T440.setTop (mkF m 189 #[.val (.ref a1), .val (.int (2 : Int32)), .val (.ref a3), .val (.ref a4), .val (.ref a5), .val (.ref a6), .val (.ref a7), .val (.int p8), .val (.int p9), .val (.int p10), .val (.int p11), .val (.int (4 : Int32)), .val (.ref b420), .unset, .unset, .unset] [(.ref b440)]))
  obtain ⟨T459, X459, e459, st459⟩ := castY X440 hx hZ hown (hw _ (List.mem_of_getElem? (i := 51) rfl)) e440 (Ins.self Ex440) (g := (mkF m 189 #[.val (.ref a1), .val (.int (2 : Int32)), .val (.ref a3), .val (.ref a4), .val (.ref a5), .val (.ref a6), .val (.ref a7), .val (.int p8), .val (.int p9), .val (.int p10), .val (.int p11), .val (.int (4 : Int32)), .val (.ref b420), .unset, .unset, .unset] [(.ref b440)])) rfl rfl (hb hby d2_189)
  refine go st459 ?_
  show Go p e below _ (T459.setTop (mkF m 192 #[.val (.ref a1), .val (.int (2 : Int32)), .val (.ref a3), .val (.ref a4), .val (.ref a5), .val (.ref a6), .val (.ref a7), .val (.int p8), .val (.int p9), .val (.int p10), .val (.int p11), .val (.int (4 : Int32)), .val (.ref b420), .unset, .unset, .unset] [(.ref b440)]))
  refine go (fun _ q => XS.astore X459.here hx rfl (hb hby d2_192) rfl rfl (l' := #[.val (.ref a1), .val (.int (2 : Int32)), .val (.ref a3), .val (.ref a4), .val (.ref a5), .val (.ref a6), .val (.ref a7), .val (.int p8), .val (.int p9), .val (.int p10), .val (.int p11), .val (.int (4 : Int32)), .val (.ref b420), .val (.ref b440), .unset, .unset]) rfl q) ?_
  show Go p e below _ (T459.setTop (mkF m 194 #[.val (.ref a1), .val (.int (2 : Int32)), .val (.ref a3), .val (.ref a4), .val (.ref a5), .val (.ref a6), .val (.ref a7), .val (.int p8), .val (.int p9), .val (.int p10), .val (.int p11), .val (.int (4 : Int32)), .val (.ref b420), .val (.ref b440), .unset, .unset] []))
  refine go (fun _ q => XS.iconst X459.here hx rfl (hb hby d2_194) q) ?_
  show Go p e below _ (T459.setTop (mkF m 195 #[.val (.ref a1), .val (.int (2 : Int32)), .val (.ref a3), .val (.ref a4), .val (.ref a5), .val (.ref a6), .val (.ref a7), .val (.int p8), .val (.int p9), .val (.int p10), .val (.int p11), .val (.int (4 : Int32)), .val (.ref b420), .val (.ref b440), .unset, .unset] [(.int (0 : Int32))]))
  refine go (fun _ q => XS.istore X459.here hx rfl (hb hby d2_195) rfl (l' := #[.val (.ref a1), .val (.int (2 : Int32)), .val (.ref a3), .val (.ref a4), .val (.ref a5), .val (.ref a6), .val (.ref a7), .val (.int p8), .val (.int p9), .val (.int p10), .val (.int p11), .val (.int (4 : Int32)), .val (.ref b420), .val (.ref b440), .val (.int (0 : Int32)), .unset]) rfl q) ?_
  show Go p e below _ (T459.setTop (mkF m 197 #[.val (.ref a1), .val (.int (2 : Int32)), .val (.ref a3), .val (.ref a4), .val (.ref a5), .val (.ref a6), .val (.ref a7), .val (.int p8), .val (.int p9), .val (.int p10), .val (.int p11), .val (.int (4 : Int32)), .val (.ref b420), .val (.ref b440), .val (.int (0 : Int32)), .unset] []))
  refine go (fun _ q => XS.iload X459.here hx rfl (hb hby d2_197) rfl q) ?_
  show Go p e below _ (T459.setTop (mkF m 199 #[.val (.ref a1), .val (.int (2 : Int32)), .val (.ref a3), .val (.ref a4), .val (.ref a5), .val (.ref a6), .val (.ref a7), .val (.int p8), .val (.int p9), .val (.int p10), .val (.int p11), .val (.int (4 : Int32)), .val (.ref b420), .val (.ref b440), .val (.int (0 : Int32)), .unset] [(.int (0 : Int32))]))
  refine go (fun _ q => XS.aload X459.here hx rfl (hb hby d2_199) rfl rfl q) ?_
  show Go p e below _ (T459.setTop (mkF m 201 #[.val (.ref a1), .val (.int (2 : Int32)), .val (.ref a3), .val (.ref a4), .val (.ref a5), .val (.ref a6), .val (.ref a7), .val (.int p8), .val (.int p9), .val (.int p10), .val (.int p11), .val (.int (4 : Int32)), .val (.ref b420), .val (.ref b440), .val (.int (0 : Int32)), .unset] [(.ref a5), (.int (0 : Int32))]))
  refine go (own_arilen X459 hx hZ e459 P_448 (g := (mkF m 201 #[.val (.ref a1), .val (.int (2 : Int32)), .val (.ref a3), .val (.ref a4), .val (.ref a5), .val (.ref a6), .val (.ref a7), .val (.int p8), .val (.int p9), .val (.int p10), .val (.int p11), .val (.int (4 : Int32)), .val (.ref b420), .val (.ref b440), .val (.int (0 : Int32)), .unset] [(.ref a5), (.int (0 : Int32))])) rfl rfl (hb hby d2_201)) ?_
  show Go p e below _ (T459.setTop (mkF m 202 #[.val (.ref a1), .val (.int (2 : Int32)), .val (.ref a3), .val (.ref a4), .val (.ref a5), .val (.ref a6), .val (.ref a7), .val (.int p8), .val (.int p9), .val (.int p10), .val (.int p11), .val (.int (4 : Int32)), .val (.ref b420), .val (.ref b440), .val (.int (0 : Int32)), .unset] [(.int (0 : Int32)), (.int (0 : Int32))]))
  refine go (fun _ q => XS.icmpYes X459.here hx rfl (pc0 := 202) (pc' := 273) rfl (hb hby d2_202) rfl (flt (by decide : ¬ ((0 : Int32) < (0 : Int32)))).2.1 (by decide) (by decide) q) ?_
  show Go p e below _ (T459.setTop (mkF m 273 #[.val (.ref a1), .val (.int (2 : Int32)), .val (.ref a3), .val (.ref a4), .val (.ref a5), .val (.ref a6), .val (.ref a7), .val (.int p8), .val (.int p9), .val (.int p10), .val (.int p11), .val (.int (4 : Int32)), .val (.ref b420), .val (.ref b440), .val (.int (0 : Int32)), .unset] []))
  have own_fa : xs236 = own_first q0 q1 q2 q3 := own_firstE hq0 hq1 hq2 hq3 hv139 hxs140 hv154 hxs155 hv169 hxs170 hv184 hxs185 hv199 hv201 hxs202 hv216 hv218 hxs219 hv233 hv235 hxs236
  have Pz := P_450
  rw [own_fa] at Pz
  exact own_retV X459 hx hlk hret (hb hby d2_273) (by decide) (by decide) (by rw [e459]; exact ⟨rfl, N401, Z440, K440, E_a1_441, F_marking_442, ⟨b112, F_firstAt_443, Pz⟩⟩)
theorem d5_0 : decode prog_45_method_11_code 0 = .ok (.aload_n 0, 1) := by decide +kernel
theorem d5_1 : decode prog_45_method_11_code 1 = .ok (.getfield 32, 3) := by decide +kernel
theorem d5_4 : decode prog_45_method_11_code 4 = .ok (.iload_n 2, 1) := by decide +kernel
theorem d5_5 : decode prog_45_method_11_code 5 = .ok (.iaload, 1) := by decide +kernel
theorem d5_6 : decode prog_45_method_11_code 6 = .ok (.istore_n 3, 1) := by decide +kernel
theorem d5_7 : decode prog_45_method_11_code 7 = .ok (.aload_n 0, 1) := by decide +kernel
theorem d5_8 : decode prog_45_method_11_code 8 = .ok (.getfield 32, 3) := by decide +kernel
theorem d5_11 : decode prog_45_method_11_code 11 = .ok (.iload_n 2, 1) := by decide +kernel
theorem d5_12 : decode prog_45_method_11_code 12 = .ok (.iconst 1, 1) := by decide +kernel
theorem d5_13 : decode prog_45_method_11_code 13 = .ok (.iadd, 1) := by decide +kernel
theorem d5_14 : decode prog_45_method_11_code 14 = .ok (.iaload, 1) := by decide +kernel
theorem d5_15 : decode prog_45_method_11_code 15 = .ok (.iconst 1, 1) := by decide +kernel
theorem d5_16 : decode prog_45_method_11_code 16 = .ok (.isub, 1) := by decide +kernel
theorem d5_17 : decode prog_45_method_11_code 17 = .ok (.istore 4, 2) := by decide +kernel
theorem d5_19 : decode prog_45_method_11_code 19 = .ok (.iload_n 3, 1) := by decide +kernel
theorem d5_20 : decode prog_45_method_11_code 20 = .ok (.iload 4, 2) := by decide +kernel
theorem d5_22 : decode prog_45_method_11_code 22 = .ok (.if_icmp .gt 56, 3) := by decide +kernel
theorem d5_25 : decode prog_45_method_11_code 25 = .ok (.iload_n 3, 1) := by decide +kernel
theorem d5_26 : decode prog_45_method_11_code 26 = .ok (.iload 4, 2) := by decide +kernel
theorem d5_28 : decode prog_45_method_11_code 28 = .ok (.iadd, 1) := by decide +kernel
theorem d5_29 : decode prog_45_method_11_code 29 = .ok (.iconst 1, 1) := by decide +kernel
theorem d5_30 : decode prog_45_method_11_code 30 = .ok (.iushr, 1) := by decide +kernel
theorem d5_31 : decode prog_45_method_11_code 31 = .ok (.istore 5, 2) := by decide +kernel
theorem d5_33 : decode prog_45_method_11_code 33 = .ok (.aload_n 0, 1) := by decide +kernel
theorem d5_34 : decode prog_45_method_11_code 34 = .ok (.getfield 13, 3) := by decide +kernel
theorem d5_37 : decode prog_45_method_11_code 37 = .ok (.iload 5, 2) := by decide +kernel
theorem d5_39 : decode prog_45_method_11_code 39 = .ok (.iaload, 1) := by decide +kernel
theorem d5_40 : decode prog_45_method_11_code 40 = .ok (.iload_n 1, 1) := by decide +kernel
theorem d5_41 : decode prog_45_method_11_code 41 = .ok (.if_icmp .ge 11, 3) := by decide +kernel
theorem d5_44 : decode prog_45_method_11_code 44 = .ok (.iload 5, 2) := by decide +kernel
theorem d5_46 : decode prog_45_method_11_code 46 = .ok (.iconst 1, 1) := by decide +kernel
theorem d5_47 : decode prog_45_method_11_code 47 = .ok (.iadd, 1) := by decide +kernel
theorem d5_48 : decode prog_45_method_11_code 48 = .ok (.istore_n 3, 1) := by decide +kernel
theorem d5_49 : decode prog_45_method_11_code 49 = .ok (.goto 26, 3) := by decide +kernel
theorem d5_52 : decode prog_45_method_11_code 52 = .ok (.aload_n 0, 1) := by decide +kernel
theorem d5_53 : decode prog_45_method_11_code 53 = .ok (.getfield 13, 3) := by decide +kernel
theorem d5_56 : decode prog_45_method_11_code 56 = .ok (.iload 5, 2) := by decide +kernel
theorem d5_58 : decode prog_45_method_11_code 58 = .ok (.iaload, 1) := by decide +kernel
theorem d5_59 : decode prog_45_method_11_code 59 = .ok (.iload_n 1, 1) := by decide +kernel
theorem d5_60 : decode prog_45_method_11_code 60 = .ok (.if_icmp .le 12, 3) := by decide +kernel
theorem d5_63 : decode prog_45_method_11_code 63 = .ok (.iload 5, 2) := by decide +kernel
theorem d5_65 : decode prog_45_method_11_code 65 = .ok (.iconst 1, 1) := by decide +kernel
theorem d5_66 : decode prog_45_method_11_code 66 = .ok (.isub, 1) := by decide +kernel
theorem d5_67 : decode prog_45_method_11_code 67 = .ok (.istore 4, 2) := by decide +kernel
theorem d5_69 : decode prog_45_method_11_code 69 = .ok (.goto 6, 3) := by decide +kernel
theorem d5_72 : decode prog_45_method_11_code 72 = .ok (.iload 5, 2) := by decide +kernel
theorem d5_74 : decode prog_45_method_11_code 74 = .ok (.ireturn, 1) := by decide +kernel
theorem d5_75 : decode prog_45_method_11_code 75 = .ok (.goto (-56), 3) := by decide +kernel
theorem d5_78 : decode prog_45_method_11_code 78 = .ok (.iconst (-1), 1) := by decide +kernel
theorem d5_79 : decode prog_45_method_11_code 79 = .ok (.ireturn, 1) := by decide +kernel
theorem pn_5 : plainName "com/example/junctura/junctura/conformance/OptimalPaths" = true := by first | (simp [plainName, overriddenIn]; done) | decide +kernel
theorem ef_5 (m : MethodId) (x0 : Addr) (x1 : Int32) (x2 : Int32) : entryFrame m #[(.ref x0), (.int x1), (.int x2)] 6 = mkF m 0 #[.val (.ref x0), .val (.int x1), .val (.int x2), .unset, .unset, .unset] [] := by first | (simp [entryFrame, mkF, argsToLocals, Value.category]; done) | rfl
def t_0_0 (p2 m0 m1 m2 m3 : Int32) : Int32 := (-1 : Int32)
set_option maxRecDepth 65536 in
set_option maxHeartbeats 40000000 in
theorem rmT_0_0 (l : Launch) (Z : State) (a0 : Array Value) (hw : ∀ d ∈ tables_1, d.before a0 Z = true) (ws : List Jvm.Cond) (a1 : Addr) (p2 : Int32) (p3 : Int32) (h0 : Heap) (n0 : Nat) {t b : Addr} {FA : List Int32} {m0 m1 m2 m3 : Int32} (hp : own_p3 p3) (lFA : FA.length = 4) (hlo : FA.getD (p3).toNatClampNeg 0 = (0 : Int32)) (hhi : FA.getD ((p3 + (1 : Int32))).toNatClampNeg 0 = (0 : Int32)) (F_f : Fld Z h0 a1 "com/example/junctura/junctura/conformance/OptimalPaths" "firstAt" "[I" (.ref t)) (F_m : Fld Z h0 a1 "com/example/junctura/junctura/conformance/OptimalPaths" "marking" "[I" (.ref b)) (F_t : Ari Z h0 t FA) (F_b : Ari Z h0 b ([m0, m1, m2, m3] : List Int32)) :
    MetFree l (⟨"com/example/junctura/junctura/conformance/OptimalPaths", "state", "(II)I"⟩ : MethodName) (head1 (Jvm.Cond.code (⟨"com/example/junctura/junctura/conformance/OptimalPaths", "state", "(II)I"⟩ : MethodName) prog_45_method_11_code 6 (some .int) :: ws) ({ frames := 0, cells := 0, slots := 0, locals := 0 } : Room)) (fun a U => a = #[(.ref a1), (.int p2), (.int p3)] ∧ Z.Warmed39 U.vm ∧ U.heap = h0) (fun _ _ _ _ _ => True) (fun _ U o U' => ∃ v L, o = .returned v ∧ (QP (some (.int (t_0_0 p2 m0 m1 m2 m3))) h0 n0) v U'.heap L ∧ FrameEnd U o U' L ({ frames := 0, cells := 0, slots := 0, locals := 0 } : Room).cells ({ frames := 0, cells := 0, slots := 0, locals := 0 } : Room).slots) := by
  refine own_met (plainFor_of_name pn_5) (fun m => ef_5 m a1 p2 p3) ?_
  intro p e s m below meth c T0 hx hby hml hown hnm hret hlk hZ X0 e0
  have hown : s.vm.findClass "com/example/junctura/junctura/conformance/OptimalPaths" = some m.cls := hown
  have hnm : meth.name = "state" := hnm
  have hret : meth.sig.returnType = some .int := hret
  have N0 := Fr.nil n0
  show Go p e below _ (T0.setTop (mkF m 0 #[.val (.ref a1), .val (.int p2), .val (.int p3), .unset, .unset, .unset] []))
  refine go (fun _ q => XS.aloadN X0.here hx rfl (hb hby d5_0) rfl rfl q) ?_
  show Go p e below _ (T0.setTop (mkF m 1 #[.val (.ref a1), .val (.int p2), .val (.int p3), .unset, .unset, .unset] [(.ref a1)]))
  obtain ⟨T1, X1, e1, st1⟩ := getF X0 hx hZ hown (host := "") (Or.inl (hw _ (List.mem_of_getElem? (i := 29) rfl))) Via.refl e0 F_f (g := (mkF m 1 #[.val (.ref a1), .val (.int p2), .val (.int p3), .unset, .unset, .unset] [(.ref a1)])) rfl rfl (hb hby d5_1)
  refine go st1 ?_
  show Go p e below _ (T1.setTop (mkF m 4 #[.val (.ref a1), .val (.int p2), .val (.int p3), .unset, .unset, .unset] [(.ref t)]))
  refine go (fun _ q => XS.iloadN X1.here hx rfl (hb hby d5_4) rfl q) ?_
  show Go p e below _ (T1.setTop (mkF m 5 #[.val (.ref a1), .val (.int p2), .val (.int p3), .unset, .unset, .unset] [(.int p3), (.ref t)]))
  refine go (own_iaload X1 hx hZ e1 F_t (j := p3) (own_i0 hp).1 (by rw [lFA]; exact (own_i0 hp).2) (g := (mkF m 5 #[.val (.ref a1), .val (.int p2), .val (.int p3), .unset, .unset, .unset] [(.int p3), (.ref t)])) rfl rfl (hb hby d5_5)) ?_
  show Go p e below _ (T1.setTop (mkF m 6 #[.val (.ref a1), .val (.int p2), .val (.int p3), .unset, .unset, .unset] [(.int (FA.getD (p3).toNatClampNeg 0))]))
  rw [hlo]
  show Go p e below _ (T1.setTop (mkF m 6 #[.val (.ref a1), .val (.int p2), .val (.int p3), .unset, .unset, .unset] [(.int (0 : Int32))]))
  refine go (fun _ q => XS.istoreN X1.here hx rfl (hb hby d5_6) rfl (l' := #[.val (.ref a1), .val (.int p2), .val (.int p3), .val (.int (0 : Int32)), .unset, .unset]) rfl q) ?_
  show Go p e below _ (T1.setTop (mkF m 7 #[.val (.ref a1), .val (.int p2), .val (.int p3), .val (.int (0 : Int32)), .unset, .unset] []))
  refine go (fun _ q => XS.aloadN X1.here hx rfl (hb hby d5_7) rfl rfl q) ?_
  show Go p e below _ (T1.setTop (mkF m 8 #[.val (.ref a1), .val (.int p2), .val (.int p3), .val (.int (0 : Int32)), .unset, .unset] [(.ref a1)]))
  obtain ⟨T2, X2, e2, st2⟩ := getF X1 hx hZ hown (host := "") (Or.inl (hw _ (List.mem_of_getElem? (i := 29) rfl))) Via.refl e1 F_f (g := (mkF m 8 #[.val (.ref a1), .val (.int p2), .val (.int p3), .val (.int (0 : Int32)), .unset, .unset] [(.ref a1)])) rfl rfl (hb hby d5_8)
  refine go st2 ?_
  show Go p e below _ (T2.setTop (mkF m 11 #[.val (.ref a1), .val (.int p2), .val (.int p3), .val (.int (0 : Int32)), .unset, .unset] [(.ref t)]))
  refine go (fun _ q => XS.iloadN X2.here hx rfl (hb hby d5_11) rfl q) ?_
  show Go p e below _ (T2.setTop (mkF m 12 #[.val (.ref a1), .val (.int p2), .val (.int p3), .val (.int (0 : Int32)), .unset, .unset] [(.int p3), (.ref t)]))
  refine go (fun _ q => XS.iconst X2.here hx rfl (hb hby d5_12) q) ?_
  show Go p e below _ (T2.setTop (mkF m 13 #[.val (.ref a1), .val (.int p2), .val (.int p3), .val (.int (0 : Int32)), .unset, .unset] [(.int (1 : Int32)), (.int p3), (.ref t)]))
  refine go (fun _ q => XS.iadd X2.here hx rfl (hb hby d5_13) rfl q) ?_
  show Go p e below _ (T2.setTop (mkF m 14 #[.val (.ref a1), .val (.int p2), .val (.int p3), .val (.int (0 : Int32)), .unset, .unset] [(.int (p3 + (1 : Int32))), (.ref t)]))
  refine go (own_iaload X2 hx hZ e2 F_t (j := (p3 + (1 : Int32))) (own_i1 hp).1 (by rw [lFA]; exact (own_i1 hp).2) (g := (mkF m 14 #[.val (.ref a1), .val (.int p2), .val (.int p3), .val (.int (0 : Int32)), .unset, .unset] [(.int (p3 + (1 : Int32))), (.ref t)])) rfl rfl (hb hby d5_14)) ?_
  show Go p e below _ (T2.setTop (mkF m 15 #[.val (.ref a1), .val (.int p2), .val (.int p3), .val (.int (0 : Int32)), .unset, .unset] [(.int (FA.getD ((p3 + (1 : Int32))).toNatClampNeg 0))]))
  rw [hhi]
  show Go p e below _ (T2.setTop (mkF m 15 #[.val (.ref a1), .val (.int p2), .val (.int p3), .val (.int (0 : Int32)), .unset, .unset] [(.int (0 : Int32))]))
  refine go (fun _ q => XS.iconst X2.here hx rfl (hb hby d5_15) q) ?_
  show Go p e below _ (T2.setTop (mkF m 16 #[.val (.ref a1), .val (.int p2), .val (.int p3), .val (.int (0 : Int32)), .unset, .unset] [(.int (1 : Int32)), (.int (0 : Int32))]))
  refine go (fun _ q => XS.isub X2.here hx rfl (hb hby d5_16) rfl q) ?_
  show Go p e below _ (T2.setTop (mkF m 17 #[.val (.ref a1), .val (.int p2), .val (.int p3), .val (.int (0 : Int32)), .unset, .unset] [(.int (-1 : Int32))]))
  refine go (fun _ q => XS.istore X2.here hx rfl (hb hby d5_17) rfl (l' := #[.val (.ref a1), .val (.int p2), .val (.int p3), .val (.int (0 : Int32)), .val (.int (-1 : Int32)), .unset]) rfl q) ?_
  show Go p e below _ (T2.setTop (mkF m 19 #[.val (.ref a1), .val (.int p2), .val (.int p3), .val (.int (0 : Int32)), .val (.int (-1 : Int32)), .unset] []))
  refine go (fun _ q => XS.iloadN X2.here hx rfl (hb hby d5_19) rfl q) ?_
  show Go p e below _ (T2.setTop (mkF m 20 #[.val (.ref a1), .val (.int p2), .val (.int p3), .val (.int (0 : Int32)), .val (.int (-1 : Int32)), .unset] [(.int (0 : Int32))]))
  refine go (fun _ q => XS.iload X2.here hx rfl (hb hby d5_20) rfl q) ?_
  show Go p e below _ (T2.setTop (mkF m 22 #[.val (.ref a1), .val (.int p2), .val (.int p3), .val (.int (0 : Int32)), .val (.int (-1 : Int32)), .unset] [(.int (-1 : Int32)), (.int (0 : Int32))]))
  refine go (fun _ q => XS.icmpYes X2.here hx rfl (pc0 := 22) (pc' := 78) rfl (hb hby d5_22) rfl (tlt (by decide : (-1 : Int32) < (0 : Int32))).2.2.1 (by decide) (by decide) q) ?_
  show Go p e below _ (T2.setTop (mkF m 78 #[.val (.ref a1), .val (.int p2), .val (.int p3), .val (.int (0 : Int32)), .val (.int (-1 : Int32)), .unset] []))
  refine go (fun _ q => XS.iconst X2.here hx rfl (hb hby d5_78) q) ?_
  show Go p e below _ (T2.setTop (mkF m 79 #[.val (.ref a1), .val (.int p2), .val (.int p3), .val (.int (0 : Int32)), .val (.int (-1 : Int32)), .unset] [(.int (-1 : Int32))]))
  exact own_retI X2 hx hlk hret (hb hby d5_79) (by decide) (by decide) ⟨congrArg (fun z => some (Value.int z)) (by rw [t_0_0]), N0, e2⟩
def t_0_1 (p2 m0 m1 m2 m3 : Int32) : Int32 := (if m0 < p2 then (-1 : Int32) else (if p2 < m0 then (-1 : Int32) else (0 : Int32)))
set_option maxRecDepth 65536 in
set_option maxHeartbeats 40000000 in
theorem rmT_0_1 (l : Launch) (Z : State) (a0 : Array Value) (hw : ∀ d ∈ tables_1, d.before a0 Z = true) (ws : List Jvm.Cond) (a1 : Addr) (p2 : Int32) (p3 : Int32) (h0 : Heap) (n0 : Nat) {t b : Addr} {FA : List Int32} {m0 m1 m2 m3 : Int32} (hp : own_p3 p3) (lFA : FA.length = 4) (hlo : FA.getD (p3).toNatClampNeg 0 = (0 : Int32)) (hhi : FA.getD ((p3 + (1 : Int32))).toNatClampNeg 0 = (1 : Int32)) (F_f : Fld Z h0 a1 "com/example/junctura/junctura/conformance/OptimalPaths" "firstAt" "[I" (.ref t)) (F_m : Fld Z h0 a1 "com/example/junctura/junctura/conformance/OptimalPaths" "marking" "[I" (.ref b)) (F_t : Ari Z h0 t FA) (F_b : Ari Z h0 b ([m0, m1, m2, m3] : List Int32)) :
    MetFree l (⟨"com/example/junctura/junctura/conformance/OptimalPaths", "state", "(II)I"⟩ : MethodName) (head1 (Jvm.Cond.code (⟨"com/example/junctura/junctura/conformance/OptimalPaths", "state", "(II)I"⟩ : MethodName) prog_45_method_11_code 6 (some .int) :: ws) ({ frames := 0, cells := 0, slots := 0, locals := 0 } : Room)) (fun a U => a = #[(.ref a1), (.int p2), (.int p3)] ∧ Z.Warmed39 U.vm ∧ U.heap = h0) (fun _ _ _ _ _ => True) (fun _ U o U' => ∃ v L, o = .returned v ∧ (QP (some (.int (t_0_1 p2 m0 m1 m2 m3))) h0 n0) v U'.heap L ∧ FrameEnd U o U' L ({ frames := 0, cells := 0, slots := 0, locals := 0 } : Room).cells ({ frames := 0, cells := 0, slots := 0, locals := 0 } : Room).slots) := by
  refine own_met (plainFor_of_name pn_5) (fun m => ef_5 m a1 p2 p3) ?_
  intro p e s m below meth c T0 hx hby hml hown hnm hret hlk hZ X0 e0
  have hown : s.vm.findClass "com/example/junctura/junctura/conformance/OptimalPaths" = some m.cls := hown
  have hnm : meth.name = "state" := hnm
  have hret : meth.sig.returnType = some .int := hret
  have N0 := Fr.nil n0
  show Go p e below _ (T0.setTop (mkF m 0 #[.val (.ref a1), .val (.int p2), .val (.int p3), .unset, .unset, .unset] []))
  refine go (fun _ q => XS.aloadN X0.here hx rfl (hb hby d5_0) rfl rfl q) ?_
  show Go p e below _ (T0.setTop (mkF m 1 #[.val (.ref a1), .val (.int p2), .val (.int p3), .unset, .unset, .unset] [(.ref a1)]))
  obtain ⟨T1, X1, e1, st1⟩ := getF X0 hx hZ hown (host := "") (Or.inl (hw _ (List.mem_of_getElem? (i := 29) rfl))) Via.refl e0 F_f (g := (mkF m 1 #[.val (.ref a1), .val (.int p2), .val (.int p3), .unset, .unset, .unset] [(.ref a1)])) rfl rfl (hb hby d5_1)
  refine go st1 ?_
  show Go p e below _ (T1.setTop (mkF m 4 #[.val (.ref a1), .val (.int p2), .val (.int p3), .unset, .unset, .unset] [(.ref t)]))
  refine go (fun _ q => XS.iloadN X1.here hx rfl (hb hby d5_4) rfl q) ?_
  show Go p e below _ (T1.setTop (mkF m 5 #[.val (.ref a1), .val (.int p2), .val (.int p3), .unset, .unset, .unset] [(.int p3), (.ref t)]))
  refine go (own_iaload X1 hx hZ e1 F_t (j := p3) (own_i0 hp).1 (by rw [lFA]; exact (own_i0 hp).2) (g := (mkF m 5 #[.val (.ref a1), .val (.int p2), .val (.int p3), .unset, .unset, .unset] [(.int p3), (.ref t)])) rfl rfl (hb hby d5_5)) ?_
  show Go p e below _ (T1.setTop (mkF m 6 #[.val (.ref a1), .val (.int p2), .val (.int p3), .unset, .unset, .unset] [(.int (FA.getD (p3).toNatClampNeg 0))]))
  rw [hlo]
  show Go p e below _ (T1.setTop (mkF m 6 #[.val (.ref a1), .val (.int p2), .val (.int p3), .unset, .unset, .unset] [(.int (0 : Int32))]))
  refine go (fun _ q => XS.istoreN X1.here hx rfl (hb hby d5_6) rfl (l' := #[.val (.ref a1), .val (.int p2), .val (.int p3), .val (.int (0 : Int32)), .unset, .unset]) rfl q) ?_
  show Go p e below _ (T1.setTop (mkF m 7 #[.val (.ref a1), .val (.int p2), .val (.int p3), .val (.int (0 : Int32)), .unset, .unset] []))
  refine go (fun _ q => XS.aloadN X1.here hx rfl (hb hby d5_7) rfl rfl q) ?_
  show Go p e below _ (T1.setTop (mkF m 8 #[.val (.ref a1), .val (.int p2), .val (.int p3), .val (.int (0 : Int32)), .unset, .unset] [(.ref a1)]))
  obtain ⟨T2, X2, e2, st2⟩ := getF X1 hx hZ hown (host := "") (Or.inl (hw _ (List.mem_of_getElem? (i := 29) rfl))) Via.refl e1 F_f (g := (mkF m 8 #[.val (.ref a1), .val (.int p2), .val (.int p3), .val (.int (0 : Int32)), .unset, .unset] [(.ref a1)])) rfl rfl (hb hby d5_8)
  refine go st2 ?_
  show Go p e below _ (T2.setTop (mkF m 11 #[.val (.ref a1), .val (.int p2), .val (.int p3), .val (.int (0 : Int32)), .unset, .unset] [(.ref t)]))
  refine go (fun _ q => XS.iloadN X2.here hx rfl (hb hby d5_11) rfl q) ?_
  show Go p e below _ (T2.setTop (mkF m 12 #[.val (.ref a1), .val (.int p2), .val (.int p3), .val (.int (0 : Int32)), .unset, .unset] [(.int p3), (.ref t)]))
  refine go (fun _ q => XS.iconst X2.here hx rfl (hb hby d5_12) q) ?_
  show Go p e below _ (T2.setTop (mkF m 13 #[.val (.ref a1), .val (.int p2), .val (.int p3), .val (.int (0 : Int32)), .unset, .unset] [(.int (1 : Int32)), (.int p3), (.ref t)]))
  refine go (fun _ q => XS.iadd X2.here hx rfl (hb hby d5_13) rfl q) ?_
  show Go p e below _ (T2.setTop (mkF m 14 #[.val (.ref a1), .val (.int p2), .val (.int p3), .val (.int (0 : Int32)), .unset, .unset] [(.int (p3 + (1 : Int32))), (.ref t)]))
  refine go (own_iaload X2 hx hZ e2 F_t (j := (p3 + (1 : Int32))) (own_i1 hp).1 (by rw [lFA]; exact (own_i1 hp).2) (g := (mkF m 14 #[.val (.ref a1), .val (.int p2), .val (.int p3), .val (.int (0 : Int32)), .unset, .unset] [(.int (p3 + (1 : Int32))), (.ref t)])) rfl rfl (hb hby d5_14)) ?_
  show Go p e below _ (T2.setTop (mkF m 15 #[.val (.ref a1), .val (.int p2), .val (.int p3), .val (.int (0 : Int32)), .unset, .unset] [(.int (FA.getD ((p3 + (1 : Int32))).toNatClampNeg 0))]))
  rw [hhi]
  show Go p e below _ (T2.setTop (mkF m 15 #[.val (.ref a1), .val (.int p2), .val (.int p3), .val (.int (0 : Int32)), .unset, .unset] [(.int (1 : Int32))]))
  refine go (fun _ q => XS.iconst X2.here hx rfl (hb hby d5_15) q) ?_
  show Go p e below _ (T2.setTop (mkF m 16 #[.val (.ref a1), .val (.int p2), .val (.int p3), .val (.int (0 : Int32)), .unset, .unset] [(.int (1 : Int32)), (.int (1 : Int32))]))
  refine go (fun _ q => XS.isub X2.here hx rfl (hb hby d5_16) rfl q) ?_
  show Go p e below _ (T2.setTop (mkF m 17 #[.val (.ref a1), .val (.int p2), .val (.int p3), .val (.int (0 : Int32)), .unset, .unset] [(.int (0 : Int32))]))
  refine go (fun _ q => XS.istore X2.here hx rfl (hb hby d5_17) rfl (l' := #[.val (.ref a1), .val (.int p2), .val (.int p3), .val (.int (0 : Int32)), .val (.int (0 : Int32)), .unset]) rfl q) ?_
  show Go p e below _ (T2.setTop (mkF m 19 #[.val (.ref a1), .val (.int p2), .val (.int p3), .val (.int (0 : Int32)), .val (.int (0 : Int32)), .unset] []))
  refine go (fun _ q => XS.iloadN X2.here hx rfl (hb hby d5_19) rfl q) ?_
  show Go p e below _ (T2.setTop (mkF m 20 #[.val (.ref a1), .val (.int p2), .val (.int p3), .val (.int (0 : Int32)), .val (.int (0 : Int32)), .unset] [(.int (0 : Int32))]))
  refine go (fun _ q => XS.iload X2.here hx rfl (hb hby d5_20) rfl q) ?_
  show Go p e below _ (T2.setTop (mkF m 22 #[.val (.ref a1), .val (.int p2), .val (.int p3), .val (.int (0 : Int32)), .val (.int (0 : Int32)), .unset] [(.int (0 : Int32)), (.int (0 : Int32))]))
  refine go (fun _ q => XS.icmpNo X2.here hx rfl (hb hby d5_22) rfl (flt (by decide : ¬ ((0 : Int32) < (0 : Int32)))).2.2.1 q) ?_
  show Go p e below _ (T2.setTop (mkF m 25 #[.val (.ref a1), .val (.int p2), .val (.int p3), .val (.int (0 : Int32)), .val (.int (0 : Int32)), .unset] []))
  refine go (fun _ q => XS.iloadN X2.here hx rfl (hb hby d5_25) rfl q) ?_
  show Go p e below _ (T2.setTop (mkF m 26 #[.val (.ref a1), .val (.int p2), .val (.int p3), .val (.int (0 : Int32)), .val (.int (0 : Int32)), .unset] [(.int (0 : Int32))]))
  refine go (fun _ q => XS.iload X2.here hx rfl (hb hby d5_26) rfl q) ?_
  show Go p e below _ (T2.setTop (mkF m 28 #[.val (.ref a1), .val (.int p2), .val (.int p3), .val (.int (0 : Int32)), .val (.int (0 : Int32)), .unset] [(.int (0 : Int32)), (.int (0 : Int32))]))
  refine go (fun _ q => XS.iadd X2.here hx rfl (hb hby d5_28) rfl q) ?_
  show Go p e below _ (T2.setTop (mkF m 29 #[.val (.ref a1), .val (.int p2), .val (.int p3), .val (.int (0 : Int32)), .val (.int (0 : Int32)), .unset] [(.int (0 : Int32))]))
  refine go (fun _ q => XS.iconst X2.here hx rfl (hb hby d5_29) q) ?_
  show Go p e below _ (T2.setTop (mkF m 30 #[.val (.ref a1), .val (.int p2), .val (.int p3), .val (.int (0 : Int32)), .val (.int (0 : Int32)), .unset] [(.int (1 : Int32)), (.int (0 : Int32))]))
  refine go (fun _ q => XS.iushr X2.here hx rfl (hb hby d5_30) rfl q) ?_
  show Go p e below _ (T2.setTop (mkF m 31 #[.val (.ref a1), .val (.int p2), .val (.int p3), .val (.int (0 : Int32)), .val (.int (0 : Int32)), .unset] [(.int (0 : Int32))]))
  refine go (fun _ q => XS.istore X2.here hx rfl (hb hby d5_31) rfl (l' := #[.val (.ref a1), .val (.int p2), .val (.int p3), .val (.int (0 : Int32)), .val (.int (0 : Int32)), .val (.int (0 : Int32))]) rfl q) ?_
  show Go p e below _ (T2.setTop (mkF m 33 #[.val (.ref a1), .val (.int p2), .val (.int p3), .val (.int (0 : Int32)), .val (.int (0 : Int32)), .val (.int (0 : Int32))] []))
  refine go (fun _ q => XS.aloadN X2.here hx rfl (hb hby d5_33) rfl rfl q) ?_
  show Go p e below _ (T2.setTop (mkF m 34 #[.val (.ref a1), .val (.int p2), .val (.int p3), .val (.int (0 : Int32)), .val (.int (0 : Int32)), .val (.int (0 : Int32))] [(.ref a1)]))
  obtain ⟨T3, X3, e3, st3⟩ := getF X2 hx hZ hown (host := "") (Or.inl (hw _ (List.mem_of_getElem? (i := 17) rfl))) Via.refl e2 F_m (g := (mkF m 34 #[.val (.ref a1), .val (.int p2), .val (.int p3), .val (.int (0 : Int32)), .val (.int (0 : Int32)), .val (.int (0 : Int32))] [(.ref a1)])) rfl rfl (hb hby d5_34)
  refine go st3 ?_
  show Go p e below _ (T3.setTop (mkF m 37 #[.val (.ref a1), .val (.int p2), .val (.int p3), .val (.int (0 : Int32)), .val (.int (0 : Int32)), .val (.int (0 : Int32))] [(.ref b)]))
  refine go (fun _ q => XS.iload X3.here hx rfl (hb hby d5_37) rfl q) ?_
  show Go p e below _ (T3.setTop (mkF m 39 #[.val (.ref a1), .val (.int p2), .val (.int p3), .val (.int (0 : Int32)), .val (.int (0 : Int32)), .val (.int (0 : Int32))] [(.int (0 : Int32)), (.ref b)]))
  refine go (own_iaload X3 hx hZ e3 F_b (j := (0 : Int32)) (by decide) (Nat.le_of_ble_eq_true rfl) (g := (mkF m 39 #[.val (.ref a1), .val (.int p2), .val (.int p3), .val (.int (0 : Int32)), .val (.int (0 : Int32)), .val (.int (0 : Int32))] [(.int (0 : Int32)), (.ref b)])) rfl rfl (hb hby d5_39)) ?_
  show Go p e below _ (T3.setTop (mkF m 40 #[.val (.ref a1), .val (.int p2), .val (.int p3), .val (.int (0 : Int32)), .val (.int (0 : Int32)), .val (.int (0 : Int32))] [(.int m0)]))
  refine go (fun _ q => XS.iloadN X3.here hx rfl (hb hby d5_40) rfl q) ?_
  show Go p e below _ (T3.setTop (mkF m 41 #[.val (.ref a1), .val (.int p2), .val (.int p3), .val (.int (0 : Int32)), .val (.int (0 : Int32)), .val (.int (0 : Int32))] [(.int p2), (.int m0)]))
  by_cases hc4 : m0 < p2
  · refine go (fun _ q => XS.icmpNo X3.here hx rfl (hb hby d5_41) rfl (tlt hc4).2.1 q) ?_
    show Go p e below _ (T3.setTop (mkF m 44 #[.val (.ref a1), .val (.int p2), .val (.int p3), .val (.int (0 : Int32)), .val (.int (0 : Int32)), .val (.int (0 : Int32))] []))
    refine go (fun _ q => XS.iload X3.here hx rfl (hb hby d5_44) rfl q) ?_
    show Go p e below _ (T3.setTop (mkF m 46 #[.val (.ref a1), .val (.int p2), .val (.int p3), .val (.int (0 : Int32)), .val (.int (0 : Int32)), .val (.int (0 : Int32))] [(.int (0 : Int32))]))
    refine go (fun _ q => XS.iconst X3.here hx rfl (hb hby d5_46) q) ?_
    show Go p e below _ (T3.setTop (mkF m 47 #[.val (.ref a1), .val (.int p2), .val (.int p3), .val (.int (0 : Int32)), .val (.int (0 : Int32)), .val (.int (0 : Int32))] [(.int (1 : Int32)), (.int (0 : Int32))]))
    refine go (fun _ q => XS.iadd X3.here hx rfl (hb hby d5_47) rfl q) ?_
    show Go p e below _ (T3.setTop (mkF m 48 #[.val (.ref a1), .val (.int p2), .val (.int p3), .val (.int (0 : Int32)), .val (.int (0 : Int32)), .val (.int (0 : Int32))] [(.int (1 : Int32))]))
    refine go (fun _ q => XS.istoreN X3.here hx rfl (hb hby d5_48) rfl (l' := #[.val (.ref a1), .val (.int p2), .val (.int p3), .val (.int (1 : Int32)), .val (.int (0 : Int32)), .val (.int (0 : Int32))]) rfl q) ?_
    show Go p e below _ (T3.setTop (mkF m 49 #[.val (.ref a1), .val (.int p2), .val (.int p3), .val (.int (1 : Int32)), .val (.int (0 : Int32)), .val (.int (0 : Int32))] []))
    refine go (fun _ q => XS.goto X3.here hx rfl (pc0 := 49) (pc' := 75) rfl (hb hby d5_49) (by decide) (by decide) q) ?_
    show Go p e below _ (T3.setTop (mkF m 75 #[.val (.ref a1), .val (.int p2), .val (.int p3), .val (.int (1 : Int32)), .val (.int (0 : Int32)), .val (.int (0 : Int32))] []))
    refine go (fun _ q => XS.goto X3.here hx rfl (pc0 := 75) (pc' := 19) rfl (hb hby d5_75) (by decide) (by decide) q) ?_
    show Go p e below _ (T3.setTop (mkF m 19 #[.val (.ref a1), .val (.int p2), .val (.int p3), .val (.int (1 : Int32)), .val (.int (0 : Int32)), .val (.int (0 : Int32))] []))
    refine go (fun _ q => XS.iloadN X3.here hx rfl (hb hby d5_19) rfl q) ?_
    show Go p e below _ (T3.setTop (mkF m 20 #[.val (.ref a1), .val (.int p2), .val (.int p3), .val (.int (1 : Int32)), .val (.int (0 : Int32)), .val (.int (0 : Int32))] [(.int (1 : Int32))]))
    refine go (fun _ q => XS.iload X3.here hx rfl (hb hby d5_20) rfl q) ?_
    show Go p e below _ (T3.setTop (mkF m 22 #[.val (.ref a1), .val (.int p2), .val (.int p3), .val (.int (1 : Int32)), .val (.int (0 : Int32)), .val (.int (0 : Int32))] [(.int (0 : Int32)), (.int (1 : Int32))]))
    refine go (fun _ q => XS.icmpYes X3.here hx rfl (pc0 := 22) (pc' := 78) rfl (hb hby d5_22) rfl (tlt (by decide : (0 : Int32) < (1 : Int32))).2.2.1 (by decide) (by decide) q) ?_
    show Go p e below _ (T3.setTop (mkF m 78 #[.val (.ref a1), .val (.int p2), .val (.int p3), .val (.int (1 : Int32)), .val (.int (0 : Int32)), .val (.int (0 : Int32))] []))
    refine go (fun _ q => XS.iconst X3.here hx rfl (hb hby d5_78) q) ?_
    show Go p e below _ (T3.setTop (mkF m 79 #[.val (.ref a1), .val (.int p2), .val (.int p3), .val (.int (1 : Int32)), .val (.int (0 : Int32)), .val (.int (0 : Int32))] [(.int (-1 : Int32))]))
    exact own_retI X3 hx hlk hret (hb hby d5_79) (by decide) (by decide) ⟨congrArg (fun z => some (Value.int z)) (by rw [t_0_1, if_pos hc4]), N0, e3⟩
  · refine go (fun _ q => XS.icmpYes X3.here hx rfl (pc0 := 41) (pc' := 52) rfl (hb hby d5_41) rfl (flt hc4).2.1 (by decide) (by decide) q) ?_
    show Go p e below _ (T3.setTop (mkF m 52 #[.val (.ref a1), .val (.int p2), .val (.int p3), .val (.int (0 : Int32)), .val (.int (0 : Int32)), .val (.int (0 : Int32))] []))
    refine go (fun _ q => XS.aloadN X3.here hx rfl (hb hby d5_52) rfl rfl q) ?_
    show Go p e below _ (T3.setTop (mkF m 53 #[.val (.ref a1), .val (.int p2), .val (.int p3), .val (.int (0 : Int32)), .val (.int (0 : Int32)), .val (.int (0 : Int32))] [(.ref a1)]))
    obtain ⟨T5, X5, e5, st5⟩ := getF X3 hx hZ hown (host := "") (Or.inl (hw _ (List.mem_of_getElem? (i := 17) rfl))) Via.refl e3 F_m (g := (mkF m 53 #[.val (.ref a1), .val (.int p2), .val (.int p3), .val (.int (0 : Int32)), .val (.int (0 : Int32)), .val (.int (0 : Int32))] [(.ref a1)])) rfl rfl (hb hby d5_53)
    refine go st5 ?_
    show Go p e below _ (T5.setTop (mkF m 56 #[.val (.ref a1), .val (.int p2), .val (.int p3), .val (.int (0 : Int32)), .val (.int (0 : Int32)), .val (.int (0 : Int32))] [(.ref b)]))
    refine go (fun _ q => XS.iload X5.here hx rfl (hb hby d5_56) rfl q) ?_
    show Go p e below _ (T5.setTop (mkF m 58 #[.val (.ref a1), .val (.int p2), .val (.int p3), .val (.int (0 : Int32)), .val (.int (0 : Int32)), .val (.int (0 : Int32))] [(.int (0 : Int32)), (.ref b)]))
    refine go (own_iaload X5 hx hZ e5 F_b (j := (0 : Int32)) (by decide) (Nat.le_of_ble_eq_true rfl) (g := (mkF m 58 #[.val (.ref a1), .val (.int p2), .val (.int p3), .val (.int (0 : Int32)), .val (.int (0 : Int32)), .val (.int (0 : Int32))] [(.int (0 : Int32)), (.ref b)])) rfl rfl (hb hby d5_58)) ?_
    show Go p e below _ (T5.setTop (mkF m 59 #[.val (.ref a1), .val (.int p2), .val (.int p3), .val (.int (0 : Int32)), .val (.int (0 : Int32)), .val (.int (0 : Int32))] [(.int m0)]))
    refine go (fun _ q => XS.iloadN X5.here hx rfl (hb hby d5_59) rfl q) ?_
    show Go p e below _ (T5.setTop (mkF m 60 #[.val (.ref a1), .val (.int p2), .val (.int p3), .val (.int (0 : Int32)), .val (.int (0 : Int32)), .val (.int (0 : Int32))] [(.int p2), (.int m0)]))
    by_cases hc6 : p2 < m0
    · refine go (fun _ q => XS.icmpNo X5.here hx rfl (hb hby d5_60) rfl (tlt hc6).2.2.2 q) ?_
      show Go p e below _ (T5.setTop (mkF m 63 #[.val (.ref a1), .val (.int p2), .val (.int p3), .val (.int (0 : Int32)), .val (.int (0 : Int32)), .val (.int (0 : Int32))] []))
      refine go (fun _ q => XS.iload X5.here hx rfl (hb hby d5_63) rfl q) ?_
      show Go p e below _ (T5.setTop (mkF m 65 #[.val (.ref a1), .val (.int p2), .val (.int p3), .val (.int (0 : Int32)), .val (.int (0 : Int32)), .val (.int (0 : Int32))] [(.int (0 : Int32))]))
      refine go (fun _ q => XS.iconst X5.here hx rfl (hb hby d5_65) q) ?_
      show Go p e below _ (T5.setTop (mkF m 66 #[.val (.ref a1), .val (.int p2), .val (.int p3), .val (.int (0 : Int32)), .val (.int (0 : Int32)), .val (.int (0 : Int32))] [(.int (1 : Int32)), (.int (0 : Int32))]))
      refine go (fun _ q => XS.isub X5.here hx rfl (hb hby d5_66) rfl q) ?_
      show Go p e below _ (T5.setTop (mkF m 67 #[.val (.ref a1), .val (.int p2), .val (.int p3), .val (.int (0 : Int32)), .val (.int (0 : Int32)), .val (.int (0 : Int32))] [(.int (-1 : Int32))]))
      refine go (fun _ q => XS.istore X5.here hx rfl (hb hby d5_67) rfl (l' := #[.val (.ref a1), .val (.int p2), .val (.int p3), .val (.int (0 : Int32)), .val (.int (-1 : Int32)), .val (.int (0 : Int32))]) rfl q) ?_
      show Go p e below _ (T5.setTop (mkF m 69 #[.val (.ref a1), .val (.int p2), .val (.int p3), .val (.int (0 : Int32)), .val (.int (-1 : Int32)), .val (.int (0 : Int32))] []))
      refine go (fun _ q => XS.goto X5.here hx rfl (pc0 := 69) (pc' := 75) rfl (hb hby d5_69) (by decide) (by decide) q) ?_
      show Go p e below _ (T5.setTop (mkF m 75 #[.val (.ref a1), .val (.int p2), .val (.int p3), .val (.int (0 : Int32)), .val (.int (-1 : Int32)), .val (.int (0 : Int32))] []))
      refine go (fun _ q => XS.goto X5.here hx rfl (pc0 := 75) (pc' := 19) rfl (hb hby d5_75) (by decide) (by decide) q) ?_
      show Go p e below _ (T5.setTop (mkF m 19 #[.val (.ref a1), .val (.int p2), .val (.int p3), .val (.int (0 : Int32)), .val (.int (-1 : Int32)), .val (.int (0 : Int32))] []))
      refine go (fun _ q => XS.iloadN X5.here hx rfl (hb hby d5_19) rfl q) ?_
      show Go p e below _ (T5.setTop (mkF m 20 #[.val (.ref a1), .val (.int p2), .val (.int p3), .val (.int (0 : Int32)), .val (.int (-1 : Int32)), .val (.int (0 : Int32))] [(.int (0 : Int32))]))
      refine go (fun _ q => XS.iload X5.here hx rfl (hb hby d5_20) rfl q) ?_
      show Go p e below _ (T5.setTop (mkF m 22 #[.val (.ref a1), .val (.int p2), .val (.int p3), .val (.int (0 : Int32)), .val (.int (-1 : Int32)), .val (.int (0 : Int32))] [(.int (-1 : Int32)), (.int (0 : Int32))]))
      refine go (fun _ q => XS.icmpYes X5.here hx rfl (pc0 := 22) (pc' := 78) rfl (hb hby d5_22) rfl (tlt (by decide : (-1 : Int32) < (0 : Int32))).2.2.1 (by decide) (by decide) q) ?_
      show Go p e below _ (T5.setTop (mkF m 78 #[.val (.ref a1), .val (.int p2), .val (.int p3), .val (.int (0 : Int32)), .val (.int (-1 : Int32)), .val (.int (0 : Int32))] []))
      refine go (fun _ q => XS.iconst X5.here hx rfl (hb hby d5_78) q) ?_
      show Go p e below _ (T5.setTop (mkF m 79 #[.val (.ref a1), .val (.int p2), .val (.int p3), .val (.int (0 : Int32)), .val (.int (-1 : Int32)), .val (.int (0 : Int32))] [(.int (-1 : Int32))]))
      exact own_retI X5 hx hlk hret (hb hby d5_79) (by decide) (by decide) ⟨congrArg (fun z => some (Value.int z)) (by rw [t_0_1, if_neg hc4, if_pos hc6]), N0, e5⟩
    · refine go (fun _ q => XS.icmpYes X5.here hx rfl (pc0 := 60) (pc' := 72) rfl (hb hby d5_60) rfl (flt hc6).2.2.2 (by decide) (by decide) q) ?_
      show Go p e below _ (T5.setTop (mkF m 72 #[.val (.ref a1), .val (.int p2), .val (.int p3), .val (.int (0 : Int32)), .val (.int (0 : Int32)), .val (.int (0 : Int32))] []))
      refine go (fun _ q => XS.iload X5.here hx rfl (hb hby d5_72) rfl q) ?_
      show Go p e below _ (T5.setTop (mkF m 74 #[.val (.ref a1), .val (.int p2), .val (.int p3), .val (.int (0 : Int32)), .val (.int (0 : Int32)), .val (.int (0 : Int32))] [(.int (0 : Int32))]))
      exact own_retI X5 hx hlk hret (hb hby d5_74) (by decide) (by decide) ⟨congrArg (fun z => some (Value.int z)) (by rw [t_0_1, if_neg hc4, if_neg hc6]), N0, e5⟩
def t_0_2 (p2 m0 m1 m2 m3 : Int32) : Int32 := (if m0 < p2 then (if m1 < p2 then (-1 : Int32) else (if p2 < m1 then (-1 : Int32) else (1 : Int32))) else (if p2 < m0 then (-1 : Int32) else (0 : Int32)))
set_option maxRecDepth 65536 in
set_option maxHeartbeats 40000000 in
theorem rmT_0_2 (l : Launch) (Z : State) (a0 : Array Value) (hw : ∀ d ∈ tables_1, d.before a0 Z = true) (ws : List Jvm.Cond) (a1 : Addr) (p2 : Int32) (p3 : Int32) (h0 : Heap) (n0 : Nat) {t b : Addr} {FA : List Int32} {m0 m1 m2 m3 : Int32} (hp : own_p3 p3) (lFA : FA.length = 4) (hlo : FA.getD (p3).toNatClampNeg 0 = (0 : Int32)) (hhi : FA.getD ((p3 + (1 : Int32))).toNatClampNeg 0 = (2 : Int32)) (F_f : Fld Z h0 a1 "com/example/junctura/junctura/conformance/OptimalPaths" "firstAt" "[I" (.ref t)) (F_m : Fld Z h0 a1 "com/example/junctura/junctura/conformance/OptimalPaths" "marking" "[I" (.ref b)) (F_t : Ari Z h0 t FA) (F_b : Ari Z h0 b ([m0, m1, m2, m3] : List Int32)) :
    MetFree l (⟨"com/example/junctura/junctura/conformance/OptimalPaths", "state", "(II)I"⟩ : MethodName) (head1 (Jvm.Cond.code (⟨"com/example/junctura/junctura/conformance/OptimalPaths", "state", "(II)I"⟩ : MethodName) prog_45_method_11_code 6 (some .int) :: ws) ({ frames := 0, cells := 0, slots := 0, locals := 0 } : Room)) (fun a U => a = #[(.ref a1), (.int p2), (.int p3)] ∧ Z.Warmed39 U.vm ∧ U.heap = h0) (fun _ _ _ _ _ => True) (fun _ U o U' => ∃ v L, o = .returned v ∧ (QP (some (.int (t_0_2 p2 m0 m1 m2 m3))) h0 n0) v U'.heap L ∧ FrameEnd U o U' L ({ frames := 0, cells := 0, slots := 0, locals := 0 } : Room).cells ({ frames := 0, cells := 0, slots := 0, locals := 0 } : Room).slots) := by
  refine own_met (plainFor_of_name pn_5) (fun m => ef_5 m a1 p2 p3) ?_
  intro p e s m below meth c T0 hx hby hml hown hnm hret hlk hZ X0 e0
  have hown : s.vm.findClass "com/example/junctura/junctura/conformance/OptimalPaths" = some m.cls := hown
  have hnm : meth.name = "state" := hnm
  have hret : meth.sig.returnType = some .int := hret
  have N0 := Fr.nil n0
  show Go p e below _ (T0.setTop (mkF m 0 #[.val (.ref a1), .val (.int p2), .val (.int p3), .unset, .unset, .unset] []))
  refine go (fun _ q => XS.aloadN X0.here hx rfl (hb hby d5_0) rfl rfl q) ?_
  show Go p e below _ (T0.setTop (mkF m 1 #[.val (.ref a1), .val (.int p2), .val (.int p3), .unset, .unset, .unset] [(.ref a1)]))
  obtain ⟨T1, X1, e1, st1⟩ := getF X0 hx hZ hown (host := "") (Or.inl (hw _ (List.mem_of_getElem? (i := 29) rfl))) Via.refl e0 F_f (g := (mkF m 1 #[.val (.ref a1), .val (.int p2), .val (.int p3), .unset, .unset, .unset] [(.ref a1)])) rfl rfl (hb hby d5_1)
  refine go st1 ?_
  show Go p e below _ (T1.setTop (mkF m 4 #[.val (.ref a1), .val (.int p2), .val (.int p3), .unset, .unset, .unset] [(.ref t)]))
  refine go (fun _ q => XS.iloadN X1.here hx rfl (hb hby d5_4) rfl q) ?_
  show Go p e below _ (T1.setTop (mkF m 5 #[.val (.ref a1), .val (.int p2), .val (.int p3), .unset, .unset, .unset] [(.int p3), (.ref t)]))
  refine go (own_iaload X1 hx hZ e1 F_t (j := p3) (own_i0 hp).1 (by rw [lFA]; exact (own_i0 hp).2) (g := (mkF m 5 #[.val (.ref a1), .val (.int p2), .val (.int p3), .unset, .unset, .unset] [(.int p3), (.ref t)])) rfl rfl (hb hby d5_5)) ?_
  show Go p e below _ (T1.setTop (mkF m 6 #[.val (.ref a1), .val (.int p2), .val (.int p3), .unset, .unset, .unset] [(.int (FA.getD (p3).toNatClampNeg 0))]))
  rw [hlo]
  show Go p e below _ (T1.setTop (mkF m 6 #[.val (.ref a1), .val (.int p2), .val (.int p3), .unset, .unset, .unset] [(.int (0 : Int32))]))
  refine go (fun _ q => XS.istoreN X1.here hx rfl (hb hby d5_6) rfl (l' := #[.val (.ref a1), .val (.int p2), .val (.int p3), .val (.int (0 : Int32)), .unset, .unset]) rfl q) ?_
  show Go p e below _ (T1.setTop (mkF m 7 #[.val (.ref a1), .val (.int p2), .val (.int p3), .val (.int (0 : Int32)), .unset, .unset] []))
  refine go (fun _ q => XS.aloadN X1.here hx rfl (hb hby d5_7) rfl rfl q) ?_
  show Go p e below _ (T1.setTop (mkF m 8 #[.val (.ref a1), .val (.int p2), .val (.int p3), .val (.int (0 : Int32)), .unset, .unset] [(.ref a1)]))
  obtain ⟨T2, X2, e2, st2⟩ := getF X1 hx hZ hown (host := "") (Or.inl (hw _ (List.mem_of_getElem? (i := 29) rfl))) Via.refl e1 F_f (g := (mkF m 8 #[.val (.ref a1), .val (.int p2), .val (.int p3), .val (.int (0 : Int32)), .unset, .unset] [(.ref a1)])) rfl rfl (hb hby d5_8)
  refine go st2 ?_
  show Go p e below _ (T2.setTop (mkF m 11 #[.val (.ref a1), .val (.int p2), .val (.int p3), .val (.int (0 : Int32)), .unset, .unset] [(.ref t)]))
  refine go (fun _ q => XS.iloadN X2.here hx rfl (hb hby d5_11) rfl q) ?_
  show Go p e below _ (T2.setTop (mkF m 12 #[.val (.ref a1), .val (.int p2), .val (.int p3), .val (.int (0 : Int32)), .unset, .unset] [(.int p3), (.ref t)]))
  refine go (fun _ q => XS.iconst X2.here hx rfl (hb hby d5_12) q) ?_
  show Go p e below _ (T2.setTop (mkF m 13 #[.val (.ref a1), .val (.int p2), .val (.int p3), .val (.int (0 : Int32)), .unset, .unset] [(.int (1 : Int32)), (.int p3), (.ref t)]))
  refine go (fun _ q => XS.iadd X2.here hx rfl (hb hby d5_13) rfl q) ?_
  show Go p e below _ (T2.setTop (mkF m 14 #[.val (.ref a1), .val (.int p2), .val (.int p3), .val (.int (0 : Int32)), .unset, .unset] [(.int (p3 + (1 : Int32))), (.ref t)]))
  refine go (own_iaload X2 hx hZ e2 F_t (j := (p3 + (1 : Int32))) (own_i1 hp).1 (by rw [lFA]; exact (own_i1 hp).2) (g := (mkF m 14 #[.val (.ref a1), .val (.int p2), .val (.int p3), .val (.int (0 : Int32)), .unset, .unset] [(.int (p3 + (1 : Int32))), (.ref t)])) rfl rfl (hb hby d5_14)) ?_
  show Go p e below _ (T2.setTop (mkF m 15 #[.val (.ref a1), .val (.int p2), .val (.int p3), .val (.int (0 : Int32)), .unset, .unset] [(.int (FA.getD ((p3 + (1 : Int32))).toNatClampNeg 0))]))
  rw [hhi]
  show Go p e below _ (T2.setTop (mkF m 15 #[.val (.ref a1), .val (.int p2), .val (.int p3), .val (.int (0 : Int32)), .unset, .unset] [(.int (2 : Int32))]))
  refine go (fun _ q => XS.iconst X2.here hx rfl (hb hby d5_15) q) ?_
  show Go p e below _ (T2.setTop (mkF m 16 #[.val (.ref a1), .val (.int p2), .val (.int p3), .val (.int (0 : Int32)), .unset, .unset] [(.int (1 : Int32)), (.int (2 : Int32))]))
  refine go (fun _ q => XS.isub X2.here hx rfl (hb hby d5_16) rfl q) ?_
  show Go p e below _ (T2.setTop (mkF m 17 #[.val (.ref a1), .val (.int p2), .val (.int p3), .val (.int (0 : Int32)), .unset, .unset] [(.int (1 : Int32))]))
  refine go (fun _ q => XS.istore X2.here hx rfl (hb hby d5_17) rfl (l' := #[.val (.ref a1), .val (.int p2), .val (.int p3), .val (.int (0 : Int32)), .val (.int (1 : Int32)), .unset]) rfl q) ?_
  show Go p e below _ (T2.setTop (mkF m 19 #[.val (.ref a1), .val (.int p2), .val (.int p3), .val (.int (0 : Int32)), .val (.int (1 : Int32)), .unset] []))
  refine go (fun _ q => XS.iloadN X2.here hx rfl (hb hby d5_19) rfl q) ?_
  show Go p e below _ (T2.setTop (mkF m 20 #[.val (.ref a1), .val (.int p2), .val (.int p3), .val (.int (0 : Int32)), .val (.int (1 : Int32)), .unset] [(.int (0 : Int32))]))
  refine go (fun _ q => XS.iload X2.here hx rfl (hb hby d5_20) rfl q) ?_
  show Go p e below _ (T2.setTop (mkF m 22 #[.val (.ref a1), .val (.int p2), .val (.int p3), .val (.int (0 : Int32)), .val (.int (1 : Int32)), .unset] [(.int (1 : Int32)), (.int (0 : Int32))]))
  refine go (fun _ q => XS.icmpNo X2.here hx rfl (hb hby d5_22) rfl (flt (by decide : ¬ ((1 : Int32) < (0 : Int32)))).2.2.1 q) ?_
  show Go p e below _ (T2.setTop (mkF m 25 #[.val (.ref a1), .val (.int p2), .val (.int p3), .val (.int (0 : Int32)), .val (.int (1 : Int32)), .unset] []))
  refine go (fun _ q => XS.iloadN X2.here hx rfl (hb hby d5_25) rfl q) ?_
  show Go p e below _ (T2.setTop (mkF m 26 #[.val (.ref a1), .val (.int p2), .val (.int p3), .val (.int (0 : Int32)), .val (.int (1 : Int32)), .unset] [(.int (0 : Int32))]))
  refine go (fun _ q => XS.iload X2.here hx rfl (hb hby d5_26) rfl q) ?_
  show Go p e below _ (T2.setTop (mkF m 28 #[.val (.ref a1), .val (.int p2), .val (.int p3), .val (.int (0 : Int32)), .val (.int (1 : Int32)), .unset] [(.int (1 : Int32)), (.int (0 : Int32))]))
  refine go (fun _ q => XS.iadd X2.here hx rfl (hb hby d5_28) rfl q) ?_
  show Go p e below _ (T2.setTop (mkF m 29 #[.val (.ref a1), .val (.int p2), .val (.int p3), .val (.int (0 : Int32)), .val (.int (1 : Int32)), .unset] [(.int (1 : Int32))]))
  refine go (fun _ q => XS.iconst X2.here hx rfl (hb hby d5_29) q) ?_
  show Go p e below _ (T2.setTop (mkF m 30 #[.val (.ref a1), .val (.int p2), .val (.int p3), .val (.int (0 : Int32)), .val (.int (1 : Int32)), .unset] [(.int (1 : Int32)), (.int (1 : Int32))]))
  refine go (fun _ q => XS.iushr X2.here hx rfl (hb hby d5_30) rfl q) ?_
  show Go p e below _ (T2.setTop (mkF m 31 #[.val (.ref a1), .val (.int p2), .val (.int p3), .val (.int (0 : Int32)), .val (.int (1 : Int32)), .unset] [(.int (0 : Int32))]))
  refine go (fun _ q => XS.istore X2.here hx rfl (hb hby d5_31) rfl (l' := #[.val (.ref a1), .val (.int p2), .val (.int p3), .val (.int (0 : Int32)), .val (.int (1 : Int32)), .val (.int (0 : Int32))]) rfl q) ?_
  show Go p e below _ (T2.setTop (mkF m 33 #[.val (.ref a1), .val (.int p2), .val (.int p3), .val (.int (0 : Int32)), .val (.int (1 : Int32)), .val (.int (0 : Int32))] []))
  refine go (fun _ q => XS.aloadN X2.here hx rfl (hb hby d5_33) rfl rfl q) ?_
  show Go p e below _ (T2.setTop (mkF m 34 #[.val (.ref a1), .val (.int p2), .val (.int p3), .val (.int (0 : Int32)), .val (.int (1 : Int32)), .val (.int (0 : Int32))] [(.ref a1)]))
  obtain ⟨T3, X3, e3, st3⟩ := getF X2 hx hZ hown (host := "") (Or.inl (hw _ (List.mem_of_getElem? (i := 17) rfl))) Via.refl e2 F_m (g := (mkF m 34 #[.val (.ref a1), .val (.int p2), .val (.int p3), .val (.int (0 : Int32)), .val (.int (1 : Int32)), .val (.int (0 : Int32))] [(.ref a1)])) rfl rfl (hb hby d5_34)
  refine go st3 ?_
  show Go p e below _ (T3.setTop (mkF m 37 #[.val (.ref a1), .val (.int p2), .val (.int p3), .val (.int (0 : Int32)), .val (.int (1 : Int32)), .val (.int (0 : Int32))] [(.ref b)]))
  refine go (fun _ q => XS.iload X3.here hx rfl (hb hby d5_37) rfl q) ?_
  show Go p e below _ (T3.setTop (mkF m 39 #[.val (.ref a1), .val (.int p2), .val (.int p3), .val (.int (0 : Int32)), .val (.int (1 : Int32)), .val (.int (0 : Int32))] [(.int (0 : Int32)), (.ref b)]))
  refine go (own_iaload X3 hx hZ e3 F_b (j := (0 : Int32)) (by decide) (Nat.le_of_ble_eq_true rfl) (g := (mkF m 39 #[.val (.ref a1), .val (.int p2), .val (.int p3), .val (.int (0 : Int32)), .val (.int (1 : Int32)), .val (.int (0 : Int32))] [(.int (0 : Int32)), (.ref b)])) rfl rfl (hb hby d5_39)) ?_
  show Go p e below _ (T3.setTop (mkF m 40 #[.val (.ref a1), .val (.int p2), .val (.int p3), .val (.int (0 : Int32)), .val (.int (1 : Int32)), .val (.int (0 : Int32))] [(.int m0)]))
  refine go (fun _ q => XS.iloadN X3.here hx rfl (hb hby d5_40) rfl q) ?_
  show Go p e below _ (T3.setTop (mkF m 41 #[.val (.ref a1), .val (.int p2), .val (.int p3), .val (.int (0 : Int32)), .val (.int (1 : Int32)), .val (.int (0 : Int32))] [(.int p2), (.int m0)]))
  by_cases hc4 : m0 < p2
  · refine go (fun _ q => XS.icmpNo X3.here hx rfl (hb hby d5_41) rfl (tlt hc4).2.1 q) ?_
    show Go p e below _ (T3.setTop (mkF m 44 #[.val (.ref a1), .val (.int p2), .val (.int p3), .val (.int (0 : Int32)), .val (.int (1 : Int32)), .val (.int (0 : Int32))] []))
    refine go (fun _ q => XS.iload X3.here hx rfl (hb hby d5_44) rfl q) ?_
    show Go p e below _ (T3.setTop (mkF m 46 #[.val (.ref a1), .val (.int p2), .val (.int p3), .val (.int (0 : Int32)), .val (.int (1 : Int32)), .val (.int (0 : Int32))] [(.int (0 : Int32))]))
    refine go (fun _ q => XS.iconst X3.here hx rfl (hb hby d5_46) q) ?_
    show Go p e below _ (T3.setTop (mkF m 47 #[.val (.ref a1), .val (.int p2), .val (.int p3), .val (.int (0 : Int32)), .val (.int (1 : Int32)), .val (.int (0 : Int32))] [(.int (1 : Int32)), (.int (0 : Int32))]))
    refine go (fun _ q => XS.iadd X3.here hx rfl (hb hby d5_47) rfl q) ?_
    show Go p e below _ (T3.setTop (mkF m 48 #[.val (.ref a1), .val (.int p2), .val (.int p3), .val (.int (0 : Int32)), .val (.int (1 : Int32)), .val (.int (0 : Int32))] [(.int (1 : Int32))]))
    refine go (fun _ q => XS.istoreN X3.here hx rfl (hb hby d5_48) rfl (l' := #[.val (.ref a1), .val (.int p2), .val (.int p3), .val (.int (1 : Int32)), .val (.int (1 : Int32)), .val (.int (0 : Int32))]) rfl q) ?_
    show Go p e below _ (T3.setTop (mkF m 49 #[.val (.ref a1), .val (.int p2), .val (.int p3), .val (.int (1 : Int32)), .val (.int (1 : Int32)), .val (.int (0 : Int32))] []))
    refine go (fun _ q => XS.goto X3.here hx rfl (pc0 := 49) (pc' := 75) rfl (hb hby d5_49) (by decide) (by decide) q) ?_
    show Go p e below _ (T3.setTop (mkF m 75 #[.val (.ref a1), .val (.int p2), .val (.int p3), .val (.int (1 : Int32)), .val (.int (1 : Int32)), .val (.int (0 : Int32))] []))
    refine go (fun _ q => XS.goto X3.here hx rfl (pc0 := 75) (pc' := 19) rfl (hb hby d5_75) (by decide) (by decide) q) ?_
    show Go p e below _ (T3.setTop (mkF m 19 #[.val (.ref a1), .val (.int p2), .val (.int p3), .val (.int (1 : Int32)), .val (.int (1 : Int32)), .val (.int (0 : Int32))] []))
    refine go (fun _ q => XS.iloadN X3.here hx rfl (hb hby d5_19) rfl q) ?_
    show Go p e below _ (T3.setTop (mkF m 20 #[.val (.ref a1), .val (.int p2), .val (.int p3), .val (.int (1 : Int32)), .val (.int (1 : Int32)), .val (.int (0 : Int32))] [(.int (1 : Int32))]))
    refine go (fun _ q => XS.iload X3.here hx rfl (hb hby d5_20) rfl q) ?_
    show Go p e below _ (T3.setTop (mkF m 22 #[.val (.ref a1), .val (.int p2), .val (.int p3), .val (.int (1 : Int32)), .val (.int (1 : Int32)), .val (.int (0 : Int32))] [(.int (1 : Int32)), (.int (1 : Int32))]))
    refine go (fun _ q => XS.icmpNo X3.here hx rfl (hb hby d5_22) rfl (flt (by decide : ¬ ((1 : Int32) < (1 : Int32)))).2.2.1 q) ?_
    show Go p e below _ (T3.setTop (mkF m 25 #[.val (.ref a1), .val (.int p2), .val (.int p3), .val (.int (1 : Int32)), .val (.int (1 : Int32)), .val (.int (0 : Int32))] []))
    refine go (fun _ q => XS.iloadN X3.here hx rfl (hb hby d5_25) rfl q) ?_
    show Go p e below _ (T3.setTop (mkF m 26 #[.val (.ref a1), .val (.int p2), .val (.int p3), .val (.int (1 : Int32)), .val (.int (1 : Int32)), .val (.int (0 : Int32))] [(.int (1 : Int32))]))
    refine go (fun _ q => XS.iload X3.here hx rfl (hb hby d5_26) rfl q) ?_
    show Go p e below _ (T3.setTop (mkF m 28 #[.val (.ref a1), .val (.int p2), .val (.int p3), .val (.int (1 : Int32)), .val (.int (1 : Int32)), .val (.int (0 : Int32))] [(.int (1 : Int32)), (.int (1 : Int32))]))
    refine go (fun _ q => XS.iadd X3.here hx rfl (hb hby d5_28) rfl q) ?_
    show Go p e below _ (T3.setTop (mkF m 29 #[.val (.ref a1), .val (.int p2), .val (.int p3), .val (.int (1 : Int32)), .val (.int (1 : Int32)), .val (.int (0 : Int32))] [(.int (2 : Int32))]))
    refine go (fun _ q => XS.iconst X3.here hx rfl (hb hby d5_29) q) ?_
    show Go p e below _ (T3.setTop (mkF m 30 #[.val (.ref a1), .val (.int p2), .val (.int p3), .val (.int (1 : Int32)), .val (.int (1 : Int32)), .val (.int (0 : Int32))] [(.int (1 : Int32)), (.int (2 : Int32))]))
    refine go (fun _ q => XS.iushr X3.here hx rfl (hb hby d5_30) rfl q) ?_
    show Go p e below _ (T3.setTop (mkF m 31 #[.val (.ref a1), .val (.int p2), .val (.int p3), .val (.int (1 : Int32)), .val (.int (1 : Int32)), .val (.int (0 : Int32))] [(.int (1 : Int32))]))
    refine go (fun _ q => XS.istore X3.here hx rfl (hb hby d5_31) rfl (l' := #[.val (.ref a1), .val (.int p2), .val (.int p3), .val (.int (1 : Int32)), .val (.int (1 : Int32)), .val (.int (1 : Int32))]) rfl q) ?_
    show Go p e below _ (T3.setTop (mkF m 33 #[.val (.ref a1), .val (.int p2), .val (.int p3), .val (.int (1 : Int32)), .val (.int (1 : Int32)), .val (.int (1 : Int32))] []))
    refine go (fun _ q => XS.aloadN X3.here hx rfl (hb hby d5_33) rfl rfl q) ?_
    show Go p e below _ (T3.setTop (mkF m 34 #[.val (.ref a1), .val (.int p2), .val (.int p3), .val (.int (1 : Int32)), .val (.int (1 : Int32)), .val (.int (1 : Int32))] [(.ref a1)]))
    obtain ⟨T5, X5, e5, st5⟩ := getF X3 hx hZ hown (host := "") (Or.inl (hw _ (List.mem_of_getElem? (i := 17) rfl))) Via.refl e3 F_m (g := (mkF m 34 #[.val (.ref a1), .val (.int p2), .val (.int p3), .val (.int (1 : Int32)), .val (.int (1 : Int32)), .val (.int (1 : Int32))] [(.ref a1)])) rfl rfl (hb hby d5_34)
    refine go st5 ?_
    show Go p e below _ (T5.setTop (mkF m 37 #[.val (.ref a1), .val (.int p2), .val (.int p3), .val (.int (1 : Int32)), .val (.int (1 : Int32)), .val (.int (1 : Int32))] [(.ref b)]))
    refine go (fun _ q => XS.iload X5.here hx rfl (hb hby d5_37) rfl q) ?_
    show Go p e below _ (T5.setTop (mkF m 39 #[.val (.ref a1), .val (.int p2), .val (.int p3), .val (.int (1 : Int32)), .val (.int (1 : Int32)), .val (.int (1 : Int32))] [(.int (1 : Int32)), (.ref b)]))
    refine go (own_iaload X5 hx hZ e5 F_b (j := (1 : Int32)) (by decide) (Nat.le_of_ble_eq_true rfl) (g := (mkF m 39 #[.val (.ref a1), .val (.int p2), .val (.int p3), .val (.int (1 : Int32)), .val (.int (1 : Int32)), .val (.int (1 : Int32))] [(.int (1 : Int32)), (.ref b)])) rfl rfl (hb hby d5_39)) ?_
    show Go p e below _ (T5.setTop (mkF m 40 #[.val (.ref a1), .val (.int p2), .val (.int p3), .val (.int (1 : Int32)), .val (.int (1 : Int32)), .val (.int (1 : Int32))] [(.int m1)]))
    refine go (fun _ q => XS.iloadN X5.here hx rfl (hb hby d5_40) rfl q) ?_
    show Go p e below _ (T5.setTop (mkF m 41 #[.val (.ref a1), .val (.int p2), .val (.int p3), .val (.int (1 : Int32)), .val (.int (1 : Int32)), .val (.int (1 : Int32))] [(.int p2), (.int m1)]))
    by_cases hc6 : m1 < p2
    · refine go (fun _ q => XS.icmpNo X5.here hx rfl (hb hby d5_41) rfl (tlt hc6).2.1 q) ?_
      show Go p e below _ (T5.setTop (mkF m 44 #[.val (.ref a1), .val (.int p2), .val (.int p3), .val (.int (1 : Int32)), .val (.int (1 : Int32)), .val (.int (1 : Int32))] []))
      refine go (fun _ q => XS.iload X5.here hx rfl (hb hby d5_44) rfl q) ?_
      show Go p e below _ (T5.setTop (mkF m 46 #[.val (.ref a1), .val (.int p2), .val (.int p3), .val (.int (1 : Int32)), .val (.int (1 : Int32)), .val (.int (1 : Int32))] [(.int (1 : Int32))]))
      refine go (fun _ q => XS.iconst X5.here hx rfl (hb hby d5_46) q) ?_
      show Go p e below _ (T5.setTop (mkF m 47 #[.val (.ref a1), .val (.int p2), .val (.int p3), .val (.int (1 : Int32)), .val (.int (1 : Int32)), .val (.int (1 : Int32))] [(.int (1 : Int32)), (.int (1 : Int32))]))
      refine go (fun _ q => XS.iadd X5.here hx rfl (hb hby d5_47) rfl q) ?_
      show Go p e below _ (T5.setTop (mkF m 48 #[.val (.ref a1), .val (.int p2), .val (.int p3), .val (.int (1 : Int32)), .val (.int (1 : Int32)), .val (.int (1 : Int32))] [(.int (2 : Int32))]))
      refine go (fun _ q => XS.istoreN X5.here hx rfl (hb hby d5_48) rfl (l' := #[.val (.ref a1), .val (.int p2), .val (.int p3), .val (.int (2 : Int32)), .val (.int (1 : Int32)), .val (.int (1 : Int32))]) rfl q) ?_
      show Go p e below _ (T5.setTop (mkF m 49 #[.val (.ref a1), .val (.int p2), .val (.int p3), .val (.int (2 : Int32)), .val (.int (1 : Int32)), .val (.int (1 : Int32))] []))
      refine go (fun _ q => XS.goto X5.here hx rfl (pc0 := 49) (pc' := 75) rfl (hb hby d5_49) (by decide) (by decide) q) ?_
      show Go p e below _ (T5.setTop (mkF m 75 #[.val (.ref a1), .val (.int p2), .val (.int p3), .val (.int (2 : Int32)), .val (.int (1 : Int32)), .val (.int (1 : Int32))] []))
      refine go (fun _ q => XS.goto X5.here hx rfl (pc0 := 75) (pc' := 19) rfl (hb hby d5_75) (by decide) (by decide) q) ?_
      show Go p e below _ (T5.setTop (mkF m 19 #[.val (.ref a1), .val (.int p2), .val (.int p3), .val (.int (2 : Int32)), .val (.int (1 : Int32)), .val (.int (1 : Int32))] []))
      refine go (fun _ q => XS.iloadN X5.here hx rfl (hb hby d5_19) rfl q) ?_
      show Go p e below _ (T5.setTop (mkF m 20 #[.val (.ref a1), .val (.int p2), .val (.int p3), .val (.int (2 : Int32)), .val (.int (1 : Int32)), .val (.int (1 : Int32))] [(.int (2 : Int32))]))
      refine go (fun _ q => XS.iload X5.here hx rfl (hb hby d5_20) rfl q) ?_
      show Go p e below _ (T5.setTop (mkF m 22 #[.val (.ref a1), .val (.int p2), .val (.int p3), .val (.int (2 : Int32)), .val (.int (1 : Int32)), .val (.int (1 : Int32))] [(.int (1 : Int32)), (.int (2 : Int32))]))
      refine go (fun _ q => XS.icmpYes X5.here hx rfl (pc0 := 22) (pc' := 78) rfl (hb hby d5_22) rfl (tlt (by decide : (1 : Int32) < (2 : Int32))).2.2.1 (by decide) (by decide) q) ?_
      show Go p e below _ (T5.setTop (mkF m 78 #[.val (.ref a1), .val (.int p2), .val (.int p3), .val (.int (2 : Int32)), .val (.int (1 : Int32)), .val (.int (1 : Int32))] []))
      refine go (fun _ q => XS.iconst X5.here hx rfl (hb hby d5_78) q) ?_
      show Go p e below _ (T5.setTop (mkF m 79 #[.val (.ref a1), .val (.int p2), .val (.int p3), .val (.int (2 : Int32)), .val (.int (1 : Int32)), .val (.int (1 : Int32))] [(.int (-1 : Int32))]))
      exact own_retI X5 hx hlk hret (hb hby d5_79) (by decide) (by decide) ⟨congrArg (fun z => some (Value.int z)) (by rw [t_0_2, if_pos hc4, if_pos hc6]), N0, e5⟩
    · refine go (fun _ q => XS.icmpYes X5.here hx rfl (pc0 := 41) (pc' := 52) rfl (hb hby d5_41) rfl (flt hc6).2.1 (by decide) (by decide) q) ?_
      show Go p e below _ (T5.setTop (mkF m 52 #[.val (.ref a1), .val (.int p2), .val (.int p3), .val (.int (1 : Int32)), .val (.int (1 : Int32)), .val (.int (1 : Int32))] []))
      refine go (fun _ q => XS.aloadN X5.here hx rfl (hb hby d5_52) rfl rfl q) ?_
      show Go p e below _ (T5.setTop (mkF m 53 #[.val (.ref a1), .val (.int p2), .val (.int p3), .val (.int (1 : Int32)), .val (.int (1 : Int32)), .val (.int (1 : Int32))] [(.ref a1)]))
      obtain ⟨T7, X7, e7, st7⟩ := getF X5 hx hZ hown (host := "") (Or.inl (hw _ (List.mem_of_getElem? (i := 17) rfl))) Via.refl e5 F_m (g := (mkF m 53 #[.val (.ref a1), .val (.int p2), .val (.int p3), .val (.int (1 : Int32)), .val (.int (1 : Int32)), .val (.int (1 : Int32))] [(.ref a1)])) rfl rfl (hb hby d5_53)
      refine go st7 ?_
      show Go p e below _ (T7.setTop (mkF m 56 #[.val (.ref a1), .val (.int p2), .val (.int p3), .val (.int (1 : Int32)), .val (.int (1 : Int32)), .val (.int (1 : Int32))] [(.ref b)]))
      refine go (fun _ q => XS.iload X7.here hx rfl (hb hby d5_56) rfl q) ?_
      show Go p e below _ (T7.setTop (mkF m 58 #[.val (.ref a1), .val (.int p2), .val (.int p3), .val (.int (1 : Int32)), .val (.int (1 : Int32)), .val (.int (1 : Int32))] [(.int (1 : Int32)), (.ref b)]))
      refine go (own_iaload X7 hx hZ e7 F_b (j := (1 : Int32)) (by decide) (Nat.le_of_ble_eq_true rfl) (g := (mkF m 58 #[.val (.ref a1), .val (.int p2), .val (.int p3), .val (.int (1 : Int32)), .val (.int (1 : Int32)), .val (.int (1 : Int32))] [(.int (1 : Int32)), (.ref b)])) rfl rfl (hb hby d5_58)) ?_
      show Go p e below _ (T7.setTop (mkF m 59 #[.val (.ref a1), .val (.int p2), .val (.int p3), .val (.int (1 : Int32)), .val (.int (1 : Int32)), .val (.int (1 : Int32))] [(.int m1)]))
      refine go (fun _ q => XS.iloadN X7.here hx rfl (hb hby d5_59) rfl q) ?_
      show Go p e below _ (T7.setTop (mkF m 60 #[.val (.ref a1), .val (.int p2), .val (.int p3), .val (.int (1 : Int32)), .val (.int (1 : Int32)), .val (.int (1 : Int32))] [(.int p2), (.int m1)]))
      by_cases hc8 : p2 < m1
      · refine go (fun _ q => XS.icmpNo X7.here hx rfl (hb hby d5_60) rfl (tlt hc8).2.2.2 q) ?_
        show Go p e below _ (T7.setTop (mkF m 63 #[.val (.ref a1), .val (.int p2), .val (.int p3), .val (.int (1 : Int32)), .val (.int (1 : Int32)), .val (.int (1 : Int32))] []))
        refine go (fun _ q => XS.iload X7.here hx rfl (hb hby d5_63) rfl q) ?_
        show Go p e below _ (T7.setTop (mkF m 65 #[.val (.ref a1), .val (.int p2), .val (.int p3), .val (.int (1 : Int32)), .val (.int (1 : Int32)), .val (.int (1 : Int32))] [(.int (1 : Int32))]))
        refine go (fun _ q => XS.iconst X7.here hx rfl (hb hby d5_65) q) ?_
        show Go p e below _ (T7.setTop (mkF m 66 #[.val (.ref a1), .val (.int p2), .val (.int p3), .val (.int (1 : Int32)), .val (.int (1 : Int32)), .val (.int (1 : Int32))] [(.int (1 : Int32)), (.int (1 : Int32))]))
        refine go (fun _ q => XS.isub X7.here hx rfl (hb hby d5_66) rfl q) ?_
        show Go p e below _ (T7.setTop (mkF m 67 #[.val (.ref a1), .val (.int p2), .val (.int p3), .val (.int (1 : Int32)), .val (.int (1 : Int32)), .val (.int (1 : Int32))] [(.int (0 : Int32))]))
        refine go (fun _ q => XS.istore X7.here hx rfl (hb hby d5_67) rfl (l' := #[.val (.ref a1), .val (.int p2), .val (.int p3), .val (.int (1 : Int32)), .val (.int (0 : Int32)), .val (.int (1 : Int32))]) rfl q) ?_
        show Go p e below _ (T7.setTop (mkF m 69 #[.val (.ref a1), .val (.int p2), .val (.int p3), .val (.int (1 : Int32)), .val (.int (0 : Int32)), .val (.int (1 : Int32))] []))
        refine go (fun _ q => XS.goto X7.here hx rfl (pc0 := 69) (pc' := 75) rfl (hb hby d5_69) (by decide) (by decide) q) ?_
        show Go p e below _ (T7.setTop (mkF m 75 #[.val (.ref a1), .val (.int p2), .val (.int p3), .val (.int (1 : Int32)), .val (.int (0 : Int32)), .val (.int (1 : Int32))] []))
        refine go (fun _ q => XS.goto X7.here hx rfl (pc0 := 75) (pc' := 19) rfl (hb hby d5_75) (by decide) (by decide) q) ?_
        show Go p e below _ (T7.setTop (mkF m 19 #[.val (.ref a1), .val (.int p2), .val (.int p3), .val (.int (1 : Int32)), .val (.int (0 : Int32)), .val (.int (1 : Int32))] []))
        refine go (fun _ q => XS.iloadN X7.here hx rfl (hb hby d5_19) rfl q) ?_
        show Go p e below _ (T7.setTop (mkF m 20 #[.val (.ref a1), .val (.int p2), .val (.int p3), .val (.int (1 : Int32)), .val (.int (0 : Int32)), .val (.int (1 : Int32))] [(.int (1 : Int32))]))
        refine go (fun _ q => XS.iload X7.here hx rfl (hb hby d5_20) rfl q) ?_
        show Go p e below _ (T7.setTop (mkF m 22 #[.val (.ref a1), .val (.int p2), .val (.int p3), .val (.int (1 : Int32)), .val (.int (0 : Int32)), .val (.int (1 : Int32))] [(.int (0 : Int32)), (.int (1 : Int32))]))
        refine go (fun _ q => XS.icmpYes X7.here hx rfl (pc0 := 22) (pc' := 78) rfl (hb hby d5_22) rfl (tlt (by decide : (0 : Int32) < (1 : Int32))).2.2.1 (by decide) (by decide) q) ?_
        show Go p e below _ (T7.setTop (mkF m 78 #[.val (.ref a1), .val (.int p2), .val (.int p3), .val (.int (1 : Int32)), .val (.int (0 : Int32)), .val (.int (1 : Int32))] []))
        refine go (fun _ q => XS.iconst X7.here hx rfl (hb hby d5_78) q) ?_
        show Go p e below _ (T7.setTop (mkF m 79 #[.val (.ref a1), .val (.int p2), .val (.int p3), .val (.int (1 : Int32)), .val (.int (0 : Int32)), .val (.int (1 : Int32))] [(.int (-1 : Int32))]))
        exact own_retI X7 hx hlk hret (hb hby d5_79) (by decide) (by decide) ⟨congrArg (fun z => some (Value.int z)) (by rw [t_0_2, if_pos hc4, if_neg hc6, if_pos hc8]), N0, e7⟩
      · refine go (fun _ q => XS.icmpYes X7.here hx rfl (pc0 := 60) (pc' := 72) rfl (hb hby d5_60) rfl (flt hc8).2.2.2 (by decide) (by decide) q) ?_
        show Go p e below _ (T7.setTop (mkF m 72 #[.val (.ref a1), .val (.int p2), .val (.int p3), .val (.int (1 : Int32)), .val (.int (1 : Int32)), .val (.int (1 : Int32))] []))
        refine go (fun _ q => XS.iload X7.here hx rfl (hb hby d5_72) rfl q) ?_
        show Go p e below _ (T7.setTop (mkF m 74 #[.val (.ref a1), .val (.int p2), .val (.int p3), .val (.int (1 : Int32)), .val (.int (1 : Int32)), .val (.int (1 : Int32))] [(.int (1 : Int32))]))
        exact own_retI X7 hx hlk hret (hb hby d5_74) (by decide) (by decide) ⟨congrArg (fun z => some (Value.int z)) (by rw [t_0_2, if_pos hc4, if_neg hc6, if_neg hc8]), N0, e7⟩
  · refine go (fun _ q => XS.icmpYes X3.here hx rfl (pc0 := 41) (pc' := 52) rfl (hb hby d5_41) rfl (flt hc4).2.1 (by decide) (by decide) q) ?_
    show Go p e below _ (T3.setTop (mkF m 52 #[.val (.ref a1), .val (.int p2), .val (.int p3), .val (.int (0 : Int32)), .val (.int (1 : Int32)), .val (.int (0 : Int32))] []))
    refine go (fun _ q => XS.aloadN X3.here hx rfl (hb hby d5_52) rfl rfl q) ?_
    show Go p e below _ (T3.setTop (mkF m 53 #[.val (.ref a1), .val (.int p2), .val (.int p3), .val (.int (0 : Int32)), .val (.int (1 : Int32)), .val (.int (0 : Int32))] [(.ref a1)]))
    obtain ⟨T9, X9, e9, st9⟩ := getF X3 hx hZ hown (host := "") (Or.inl (hw _ (List.mem_of_getElem? (i := 17) rfl))) Via.refl e3 F_m (g := (mkF m 53 #[.val (.ref a1), .val (.int p2), .val (.int p3), .val (.int (0 : Int32)), .val (.int (1 : Int32)), .val (.int (0 : Int32))] [(.ref a1)])) rfl rfl (hb hby d5_53)
    refine go st9 ?_
    show Go p e below _ (T9.setTop (mkF m 56 #[.val (.ref a1), .val (.int p2), .val (.int p3), .val (.int (0 : Int32)), .val (.int (1 : Int32)), .val (.int (0 : Int32))] [(.ref b)]))
    refine go (fun _ q => XS.iload X9.here hx rfl (hb hby d5_56) rfl q) ?_
    show Go p e below _ (T9.setTop (mkF m 58 #[.val (.ref a1), .val (.int p2), .val (.int p3), .val (.int (0 : Int32)), .val (.int (1 : Int32)), .val (.int (0 : Int32))] [(.int (0 : Int32)), (.ref b)]))
    refine go (own_iaload X9 hx hZ e9 F_b (j := (0 : Int32)) (by decide) (Nat.le_of_ble_eq_true rfl) (g := (mkF m 58 #[.val (.ref a1), .val (.int p2), .val (.int p3), .val (.int (0 : Int32)), .val (.int (1 : Int32)), .val (.int (0 : Int32))] [(.int (0 : Int32)), (.ref b)])) rfl rfl (hb hby d5_58)) ?_
    show Go p e below _ (T9.setTop (mkF m 59 #[.val (.ref a1), .val (.int p2), .val (.int p3), .val (.int (0 : Int32)), .val (.int (1 : Int32)), .val (.int (0 : Int32))] [(.int m0)]))
    refine go (fun _ q => XS.iloadN X9.here hx rfl (hb hby d5_59) rfl q) ?_
    show Go p e below _ (T9.setTop (mkF m 60 #[.val (.ref a1), .val (.int p2), .val (.int p3), .val (.int (0 : Int32)), .val (.int (1 : Int32)), .val (.int (0 : Int32))] [(.int p2), (.int m0)]))
    by_cases hc10 : p2 < m0
    · refine go (fun _ q => XS.icmpNo X9.here hx rfl (hb hby d5_60) rfl (tlt hc10).2.2.2 q) ?_
      show Go p e below _ (T9.setTop (mkF m 63 #[.val (.ref a1), .val (.int p2), .val (.int p3), .val (.int (0 : Int32)), .val (.int (1 : Int32)), .val (.int (0 : Int32))] []))
      refine go (fun _ q => XS.iload X9.here hx rfl (hb hby d5_63) rfl q) ?_
      show Go p e below _ (T9.setTop (mkF m 65 #[.val (.ref a1), .val (.int p2), .val (.int p3), .val (.int (0 : Int32)), .val (.int (1 : Int32)), .val (.int (0 : Int32))] [(.int (0 : Int32))]))
      refine go (fun _ q => XS.iconst X9.here hx rfl (hb hby d5_65) q) ?_
      show Go p e below _ (T9.setTop (mkF m 66 #[.val (.ref a1), .val (.int p2), .val (.int p3), .val (.int (0 : Int32)), .val (.int (1 : Int32)), .val (.int (0 : Int32))] [(.int (1 : Int32)), (.int (0 : Int32))]))
      refine go (fun _ q => XS.isub X9.here hx rfl (hb hby d5_66) rfl q) ?_
      show Go p e below _ (T9.setTop (mkF m 67 #[.val (.ref a1), .val (.int p2), .val (.int p3), .val (.int (0 : Int32)), .val (.int (1 : Int32)), .val (.int (0 : Int32))] [(.int (-1 : Int32))]))
      refine go (fun _ q => XS.istore X9.here hx rfl (hb hby d5_67) rfl (l' := #[.val (.ref a1), .val (.int p2), .val (.int p3), .val (.int (0 : Int32)), .val (.int (-1 : Int32)), .val (.int (0 : Int32))]) rfl q) ?_
      show Go p e below _ (T9.setTop (mkF m 69 #[.val (.ref a1), .val (.int p2), .val (.int p3), .val (.int (0 : Int32)), .val (.int (-1 : Int32)), .val (.int (0 : Int32))] []))
      refine go (fun _ q => XS.goto X9.here hx rfl (pc0 := 69) (pc' := 75) rfl (hb hby d5_69) (by decide) (by decide) q) ?_
      show Go p e below _ (T9.setTop (mkF m 75 #[.val (.ref a1), .val (.int p2), .val (.int p3), .val (.int (0 : Int32)), .val (.int (-1 : Int32)), .val (.int (0 : Int32))] []))
      refine go (fun _ q => XS.goto X9.here hx rfl (pc0 := 75) (pc' := 19) rfl (hb hby d5_75) (by decide) (by decide) q) ?_
      show Go p e below _ (T9.setTop (mkF m 19 #[.val (.ref a1), .val (.int p2), .val (.int p3), .val (.int (0 : Int32)), .val (.int (-1 : Int32)), .val (.int (0 : Int32))] []))
      refine go (fun _ q => XS.iloadN X9.here hx rfl (hb hby d5_19) rfl q) ?_
      show Go p e below _ (T9.setTop (mkF m 20 #[.val (.ref a1), .val (.int p2), .val (.int p3), .val (.int (0 : Int32)), .val (.int (-1 : Int32)), .val (.int (0 : Int32))] [(.int (0 : Int32))]))
      refine go (fun _ q => XS.iload X9.here hx rfl (hb hby d5_20) rfl q) ?_
      show Go p e below _ (T9.setTop (mkF m 22 #[.val (.ref a1), .val (.int p2), .val (.int p3), .val (.int (0 : Int32)), .val (.int (-1 : Int32)), .val (.int (0 : Int32))] [(.int (-1 : Int32)), (.int (0 : Int32))]))
      refine go (fun _ q => XS.icmpYes X9.here hx rfl (pc0 := 22) (pc' := 78) rfl (hb hby d5_22) rfl (tlt (by decide : (-1 : Int32) < (0 : Int32))).2.2.1 (by decide) (by decide) q) ?_
      show Go p e below _ (T9.setTop (mkF m 78 #[.val (.ref a1), .val (.int p2), .val (.int p3), .val (.int (0 : Int32)), .val (.int (-1 : Int32)), .val (.int (0 : Int32))] []))
      refine go (fun _ q => XS.iconst X9.here hx rfl (hb hby d5_78) q) ?_
      show Go p e below _ (T9.setTop (mkF m 79 #[.val (.ref a1), .val (.int p2), .val (.int p3), .val (.int (0 : Int32)), .val (.int (-1 : Int32)), .val (.int (0 : Int32))] [(.int (-1 : Int32))]))
      exact own_retI X9 hx hlk hret (hb hby d5_79) (by decide) (by decide) ⟨congrArg (fun z => some (Value.int z)) (by rw [t_0_2, if_neg hc4, if_pos hc10]), N0, e9⟩
    · refine go (fun _ q => XS.icmpYes X9.here hx rfl (pc0 := 60) (pc' := 72) rfl (hb hby d5_60) rfl (flt hc10).2.2.2 (by decide) (by decide) q) ?_
      show Go p e below _ (T9.setTop (mkF m 72 #[.val (.ref a1), .val (.int p2), .val (.int p3), .val (.int (0 : Int32)), .val (.int (1 : Int32)), .val (.int (0 : Int32))] []))
      refine go (fun _ q => XS.iload X9.here hx rfl (hb hby d5_72) rfl q) ?_
      show Go p e below _ (T9.setTop (mkF m 74 #[.val (.ref a1), .val (.int p2), .val (.int p3), .val (.int (0 : Int32)), .val (.int (1 : Int32)), .val (.int (0 : Int32))] [(.int (0 : Int32))]))
      exact own_retI X9 hx hlk hret (hb hby d5_74) (by decide) (by decide) ⟨congrArg (fun z => some (Value.int z)) (by rw [t_0_2, if_neg hc4, if_neg hc10]), N0, e9⟩
def t_0_3 (p2 m0 m1 m2 m3 : Int32) : Int32 := (if m1 < p2 then (if m2 < p2 then (-1 : Int32) else (if p2 < m2 then (-1 : Int32) else (2 : Int32))) else (if p2 < m1 then (if m0 < p2 then (-1 : Int32) else (if p2 < m0 then (-1 : Int32) else (0 : Int32))) else (1 : Int32)))
set_option maxRecDepth 65536 in
set_option maxHeartbeats 40000000 in
theorem rmT_0_3 (l : Launch) (Z : State) (a0 : Array Value) (hw : ∀ d ∈ tables_1, d.before a0 Z = true) (ws : List Jvm.Cond) (a1 : Addr) (p2 : Int32) (p3 : Int32) (h0 : Heap) (n0 : Nat) {t b : Addr} {FA : List Int32} {m0 m1 m2 m3 : Int32} (hp : own_p3 p3) (lFA : FA.length = 4) (hlo : FA.getD (p3).toNatClampNeg 0 = (0 : Int32)) (hhi : FA.getD ((p3 + (1 : Int32))).toNatClampNeg 0 = (3 : Int32)) (F_f : Fld Z h0 a1 "com/example/junctura/junctura/conformance/OptimalPaths" "firstAt" "[I" (.ref t)) (F_m : Fld Z h0 a1 "com/example/junctura/junctura/conformance/OptimalPaths" "marking" "[I" (.ref b)) (F_t : Ari Z h0 t FA) (F_b : Ari Z h0 b ([m0, m1, m2, m3] : List Int32)) :
    MetFree l (⟨"com/example/junctura/junctura/conformance/OptimalPaths", "state", "(II)I"⟩ : MethodName) (head1 (Jvm.Cond.code (⟨"com/example/junctura/junctura/conformance/OptimalPaths", "state", "(II)I"⟩ : MethodName) prog_45_method_11_code 6 (some .int) :: ws) ({ frames := 0, cells := 0, slots := 0, locals := 0 } : Room)) (fun a U => a = #[(.ref a1), (.int p2), (.int p3)] ∧ Z.Warmed39 U.vm ∧ U.heap = h0) (fun _ _ _ _ _ => True) (fun _ U o U' => ∃ v L, o = .returned v ∧ (QP (some (.int (t_0_3 p2 m0 m1 m2 m3))) h0 n0) v U'.heap L ∧ FrameEnd U o U' L ({ frames := 0, cells := 0, slots := 0, locals := 0 } : Room).cells ({ frames := 0, cells := 0, slots := 0, locals := 0 } : Room).slots) := by
  refine own_met (plainFor_of_name pn_5) (fun m => ef_5 m a1 p2 p3) ?_
  intro p e s m below meth c T0 hx hby hml hown hnm hret hlk hZ X0 e0
  have hown : s.vm.findClass "com/example/junctura/junctura/conformance/OptimalPaths" = some m.cls := hown
  have hnm : meth.name = "state" := hnm
  have hret : meth.sig.returnType = some .int := hret
  have N0 := Fr.nil n0
  show Go p e below _ (T0.setTop (mkF m 0 #[.val (.ref a1), .val (.int p2), .val (.int p3), .unset, .unset, .unset] []))
  refine go (fun _ q => XS.aloadN X0.here hx rfl (hb hby d5_0) rfl rfl q) ?_
  show Go p e below _ (T0.setTop (mkF m 1 #[.val (.ref a1), .val (.int p2), .val (.int p3), .unset, .unset, .unset] [(.ref a1)]))
  obtain ⟨T1, X1, e1, st1⟩ := getF X0 hx hZ hown (host := "") (Or.inl (hw _ (List.mem_of_getElem? (i := 29) rfl))) Via.refl e0 F_f (g := (mkF m 1 #[.val (.ref a1), .val (.int p2), .val (.int p3), .unset, .unset, .unset] [(.ref a1)])) rfl rfl (hb hby d5_1)
  refine go st1 ?_
  show Go p e below _ (T1.setTop (mkF m 4 #[.val (.ref a1), .val (.int p2), .val (.int p3), .unset, .unset, .unset] [(.ref t)]))
  refine go (fun _ q => XS.iloadN X1.here hx rfl (hb hby d5_4) rfl q) ?_
  show Go p e below _ (T1.setTop (mkF m 5 #[.val (.ref a1), .val (.int p2), .val (.int p3), .unset, .unset, .unset] [(.int p3), (.ref t)]))
  refine go (own_iaload X1 hx hZ e1 F_t (j := p3) (own_i0 hp).1 (by rw [lFA]; exact (own_i0 hp).2) (g := (mkF m 5 #[.val (.ref a1), .val (.int p2), .val (.int p3), .unset, .unset, .unset] [(.int p3), (.ref t)])) rfl rfl (hb hby d5_5)) ?_
  show Go p e below _ (T1.setTop (mkF m 6 #[.val (.ref a1), .val (.int p2), .val (.int p3), .unset, .unset, .unset] [(.int (FA.getD (p3).toNatClampNeg 0))]))
  rw [hlo]
  show Go p e below _ (T1.setTop (mkF m 6 #[.val (.ref a1), .val (.int p2), .val (.int p3), .unset, .unset, .unset] [(.int (0 : Int32))]))
  refine go (fun _ q => XS.istoreN X1.here hx rfl (hb hby d5_6) rfl (l' := #[.val (.ref a1), .val (.int p2), .val (.int p3), .val (.int (0 : Int32)), .unset, .unset]) rfl q) ?_
  show Go p e below _ (T1.setTop (mkF m 7 #[.val (.ref a1), .val (.int p2), .val (.int p3), .val (.int (0 : Int32)), .unset, .unset] []))
  refine go (fun _ q => XS.aloadN X1.here hx rfl (hb hby d5_7) rfl rfl q) ?_
  show Go p e below _ (T1.setTop (mkF m 8 #[.val (.ref a1), .val (.int p2), .val (.int p3), .val (.int (0 : Int32)), .unset, .unset] [(.ref a1)]))
  obtain ⟨T2, X2, e2, st2⟩ := getF X1 hx hZ hown (host := "") (Or.inl (hw _ (List.mem_of_getElem? (i := 29) rfl))) Via.refl e1 F_f (g := (mkF m 8 #[.val (.ref a1), .val (.int p2), .val (.int p3), .val (.int (0 : Int32)), .unset, .unset] [(.ref a1)])) rfl rfl (hb hby d5_8)
  refine go st2 ?_
  show Go p e below _ (T2.setTop (mkF m 11 #[.val (.ref a1), .val (.int p2), .val (.int p3), .val (.int (0 : Int32)), .unset, .unset] [(.ref t)]))
  refine go (fun _ q => XS.iloadN X2.here hx rfl (hb hby d5_11) rfl q) ?_
  show Go p e below _ (T2.setTop (mkF m 12 #[.val (.ref a1), .val (.int p2), .val (.int p3), .val (.int (0 : Int32)), .unset, .unset] [(.int p3), (.ref t)]))
  refine go (fun _ q => XS.iconst X2.here hx rfl (hb hby d5_12) q) ?_
  show Go p e below _ (T2.setTop (mkF m 13 #[.val (.ref a1), .val (.int p2), .val (.int p3), .val (.int (0 : Int32)), .unset, .unset] [(.int (1 : Int32)), (.int p3), (.ref t)]))
  refine go (fun _ q => XS.iadd X2.here hx rfl (hb hby d5_13) rfl q) ?_
  show Go p e below _ (T2.setTop (mkF m 14 #[.val (.ref a1), .val (.int p2), .val (.int p3), .val (.int (0 : Int32)), .unset, .unset] [(.int (p3 + (1 : Int32))), (.ref t)]))
  refine go (own_iaload X2 hx hZ e2 F_t (j := (p3 + (1 : Int32))) (own_i1 hp).1 (by rw [lFA]; exact (own_i1 hp).2) (g := (mkF m 14 #[.val (.ref a1), .val (.int p2), .val (.int p3), .val (.int (0 : Int32)), .unset, .unset] [(.int (p3 + (1 : Int32))), (.ref t)])) rfl rfl (hb hby d5_14)) ?_
  show Go p e below _ (T2.setTop (mkF m 15 #[.val (.ref a1), .val (.int p2), .val (.int p3), .val (.int (0 : Int32)), .unset, .unset] [(.int (FA.getD ((p3 + (1 : Int32))).toNatClampNeg 0))]))
  rw [hhi]
  show Go p e below _ (T2.setTop (mkF m 15 #[.val (.ref a1), .val (.int p2), .val (.int p3), .val (.int (0 : Int32)), .unset, .unset] [(.int (3 : Int32))]))
  refine go (fun _ q => XS.iconst X2.here hx rfl (hb hby d5_15) q) ?_
  show Go p e below _ (T2.setTop (mkF m 16 #[.val (.ref a1), .val (.int p2), .val (.int p3), .val (.int (0 : Int32)), .unset, .unset] [(.int (1 : Int32)), (.int (3 : Int32))]))
  refine go (fun _ q => XS.isub X2.here hx rfl (hb hby d5_16) rfl q) ?_
  show Go p e below _ (T2.setTop (mkF m 17 #[.val (.ref a1), .val (.int p2), .val (.int p3), .val (.int (0 : Int32)), .unset, .unset] [(.int (2 : Int32))]))
  refine go (fun _ q => XS.istore X2.here hx rfl (hb hby d5_17) rfl (l' := #[.val (.ref a1), .val (.int p2), .val (.int p3), .val (.int (0 : Int32)), .val (.int (2 : Int32)), .unset]) rfl q) ?_
  show Go p e below _ (T2.setTop (mkF m 19 #[.val (.ref a1), .val (.int p2), .val (.int p3), .val (.int (0 : Int32)), .val (.int (2 : Int32)), .unset] []))
  refine go (fun _ q => XS.iloadN X2.here hx rfl (hb hby d5_19) rfl q) ?_
  show Go p e below _ (T2.setTop (mkF m 20 #[.val (.ref a1), .val (.int p2), .val (.int p3), .val (.int (0 : Int32)), .val (.int (2 : Int32)), .unset] [(.int (0 : Int32))]))
  refine go (fun _ q => XS.iload X2.here hx rfl (hb hby d5_20) rfl q) ?_
  show Go p e below _ (T2.setTop (mkF m 22 #[.val (.ref a1), .val (.int p2), .val (.int p3), .val (.int (0 : Int32)), .val (.int (2 : Int32)), .unset] [(.int (2 : Int32)), (.int (0 : Int32))]))
  refine go (fun _ q => XS.icmpNo X2.here hx rfl (hb hby d5_22) rfl (flt (by decide : ¬ ((2 : Int32) < (0 : Int32)))).2.2.1 q) ?_
  show Go p e below _ (T2.setTop (mkF m 25 #[.val (.ref a1), .val (.int p2), .val (.int p3), .val (.int (0 : Int32)), .val (.int (2 : Int32)), .unset] []))
  refine go (fun _ q => XS.iloadN X2.here hx rfl (hb hby d5_25) rfl q) ?_
  show Go p e below _ (T2.setTop (mkF m 26 #[.val (.ref a1), .val (.int p2), .val (.int p3), .val (.int (0 : Int32)), .val (.int (2 : Int32)), .unset] [(.int (0 : Int32))]))
  refine go (fun _ q => XS.iload X2.here hx rfl (hb hby d5_26) rfl q) ?_
  show Go p e below _ (T2.setTop (mkF m 28 #[.val (.ref a1), .val (.int p2), .val (.int p3), .val (.int (0 : Int32)), .val (.int (2 : Int32)), .unset] [(.int (2 : Int32)), (.int (0 : Int32))]))
  refine go (fun _ q => XS.iadd X2.here hx rfl (hb hby d5_28) rfl q) ?_
  show Go p e below _ (T2.setTop (mkF m 29 #[.val (.ref a1), .val (.int p2), .val (.int p3), .val (.int (0 : Int32)), .val (.int (2 : Int32)), .unset] [(.int (2 : Int32))]))
  refine go (fun _ q => XS.iconst X2.here hx rfl (hb hby d5_29) q) ?_
  show Go p e below _ (T2.setTop (mkF m 30 #[.val (.ref a1), .val (.int p2), .val (.int p3), .val (.int (0 : Int32)), .val (.int (2 : Int32)), .unset] [(.int (1 : Int32)), (.int (2 : Int32))]))
  refine go (fun _ q => XS.iushr X2.here hx rfl (hb hby d5_30) rfl q) ?_
  show Go p e below _ (T2.setTop (mkF m 31 #[.val (.ref a1), .val (.int p2), .val (.int p3), .val (.int (0 : Int32)), .val (.int (2 : Int32)), .unset] [(.int (1 : Int32))]))
  refine go (fun _ q => XS.istore X2.here hx rfl (hb hby d5_31) rfl (l' := #[.val (.ref a1), .val (.int p2), .val (.int p3), .val (.int (0 : Int32)), .val (.int (2 : Int32)), .val (.int (1 : Int32))]) rfl q) ?_
  show Go p e below _ (T2.setTop (mkF m 33 #[.val (.ref a1), .val (.int p2), .val (.int p3), .val (.int (0 : Int32)), .val (.int (2 : Int32)), .val (.int (1 : Int32))] []))
  refine go (fun _ q => XS.aloadN X2.here hx rfl (hb hby d5_33) rfl rfl q) ?_
  show Go p e below _ (T2.setTop (mkF m 34 #[.val (.ref a1), .val (.int p2), .val (.int p3), .val (.int (0 : Int32)), .val (.int (2 : Int32)), .val (.int (1 : Int32))] [(.ref a1)]))
  obtain ⟨T3, X3, e3, st3⟩ := getF X2 hx hZ hown (host := "") (Or.inl (hw _ (List.mem_of_getElem? (i := 17) rfl))) Via.refl e2 F_m (g := (mkF m 34 #[.val (.ref a1), .val (.int p2), .val (.int p3), .val (.int (0 : Int32)), .val (.int (2 : Int32)), .val (.int (1 : Int32))] [(.ref a1)])) rfl rfl (hb hby d5_34)
  refine go st3 ?_
  show Go p e below _ (T3.setTop (mkF m 37 #[.val (.ref a1), .val (.int p2), .val (.int p3), .val (.int (0 : Int32)), .val (.int (2 : Int32)), .val (.int (1 : Int32))] [(.ref b)]))
  refine go (fun _ q => XS.iload X3.here hx rfl (hb hby d5_37) rfl q) ?_
  show Go p e below _ (T3.setTop (mkF m 39 #[.val (.ref a1), .val (.int p2), .val (.int p3), .val (.int (0 : Int32)), .val (.int (2 : Int32)), .val (.int (1 : Int32))] [(.int (1 : Int32)), (.ref b)]))
  refine go (own_iaload X3 hx hZ e3 F_b (j := (1 : Int32)) (by decide) (Nat.le_of_ble_eq_true rfl) (g := (mkF m 39 #[.val (.ref a1), .val (.int p2), .val (.int p3), .val (.int (0 : Int32)), .val (.int (2 : Int32)), .val (.int (1 : Int32))] [(.int (1 : Int32)), (.ref b)])) rfl rfl (hb hby d5_39)) ?_
  show Go p e below _ (T3.setTop (mkF m 40 #[.val (.ref a1), .val (.int p2), .val (.int p3), .val (.int (0 : Int32)), .val (.int (2 : Int32)), .val (.int (1 : Int32))] [(.int m1)]))
  refine go (fun _ q => XS.iloadN X3.here hx rfl (hb hby d5_40) rfl q) ?_
  show Go p e below _ (T3.setTop (mkF m 41 #[.val (.ref a1), .val (.int p2), .val (.int p3), .val (.int (0 : Int32)), .val (.int (2 : Int32)), .val (.int (1 : Int32))] [(.int p2), (.int m1)]))
  by_cases hc4 : m1 < p2
  · refine go (fun _ q => XS.icmpNo X3.here hx rfl (hb hby d5_41) rfl (tlt hc4).2.1 q) ?_
    show Go p e below _ (T3.setTop (mkF m 44 #[.val (.ref a1), .val (.int p2), .val (.int p3), .val (.int (0 : Int32)), .val (.int (2 : Int32)), .val (.int (1 : Int32))] []))
    refine go (fun _ q => XS.iload X3.here hx rfl (hb hby d5_44) rfl q) ?_
    show Go p e below _ (T3.setTop (mkF m 46 #[.val (.ref a1), .val (.int p2), .val (.int p3), .val (.int (0 : Int32)), .val (.int (2 : Int32)), .val (.int (1 : Int32))] [(.int (1 : Int32))]))
    refine go (fun _ q => XS.iconst X3.here hx rfl (hb hby d5_46) q) ?_
    show Go p e below _ (T3.setTop (mkF m 47 #[.val (.ref a1), .val (.int p2), .val (.int p3), .val (.int (0 : Int32)), .val (.int (2 : Int32)), .val (.int (1 : Int32))] [(.int (1 : Int32)), (.int (1 : Int32))]))
    refine go (fun _ q => XS.iadd X3.here hx rfl (hb hby d5_47) rfl q) ?_
    show Go p e below _ (T3.setTop (mkF m 48 #[.val (.ref a1), .val (.int p2), .val (.int p3), .val (.int (0 : Int32)), .val (.int (2 : Int32)), .val (.int (1 : Int32))] [(.int (2 : Int32))]))
    refine go (fun _ q => XS.istoreN X3.here hx rfl (hb hby d5_48) rfl (l' := #[.val (.ref a1), .val (.int p2), .val (.int p3), .val (.int (2 : Int32)), .val (.int (2 : Int32)), .val (.int (1 : Int32))]) rfl q) ?_
    show Go p e below _ (T3.setTop (mkF m 49 #[.val (.ref a1), .val (.int p2), .val (.int p3), .val (.int (2 : Int32)), .val (.int (2 : Int32)), .val (.int (1 : Int32))] []))
    refine go (fun _ q => XS.goto X3.here hx rfl (pc0 := 49) (pc' := 75) rfl (hb hby d5_49) (by decide) (by decide) q) ?_
    show Go p e below _ (T3.setTop (mkF m 75 #[.val (.ref a1), .val (.int p2), .val (.int p3), .val (.int (2 : Int32)), .val (.int (2 : Int32)), .val (.int (1 : Int32))] []))
    refine go (fun _ q => XS.goto X3.here hx rfl (pc0 := 75) (pc' := 19) rfl (hb hby d5_75) (by decide) (by decide) q) ?_
    show Go p e below _ (T3.setTop (mkF m 19 #[.val (.ref a1), .val (.int p2), .val (.int p3), .val (.int (2 : Int32)), .val (.int (2 : Int32)), .val (.int (1 : Int32))] []))
    refine go (fun _ q => XS.iloadN X3.here hx rfl (hb hby d5_19) rfl q) ?_
    show Go p e below _ (T3.setTop (mkF m 20 #[.val (.ref a1), .val (.int p2), .val (.int p3), .val (.int (2 : Int32)), .val (.int (2 : Int32)), .val (.int (1 : Int32))] [(.int (2 : Int32))]))
    refine go (fun _ q => XS.iload X3.here hx rfl (hb hby d5_20) rfl q) ?_
    show Go p e below _ (T3.setTop (mkF m 22 #[.val (.ref a1), .val (.int p2), .val (.int p3), .val (.int (2 : Int32)), .val (.int (2 : Int32)), .val (.int (1 : Int32))] [(.int (2 : Int32)), (.int (2 : Int32))]))
    refine go (fun _ q => XS.icmpNo X3.here hx rfl (hb hby d5_22) rfl (flt (by decide : ¬ ((2 : Int32) < (2 : Int32)))).2.2.1 q) ?_
    show Go p e below _ (T3.setTop (mkF m 25 #[.val (.ref a1), .val (.int p2), .val (.int p3), .val (.int (2 : Int32)), .val (.int (2 : Int32)), .val (.int (1 : Int32))] []))
    refine go (fun _ q => XS.iloadN X3.here hx rfl (hb hby d5_25) rfl q) ?_
    show Go p e below _ (T3.setTop (mkF m 26 #[.val (.ref a1), .val (.int p2), .val (.int p3), .val (.int (2 : Int32)), .val (.int (2 : Int32)), .val (.int (1 : Int32))] [(.int (2 : Int32))]))
    refine go (fun _ q => XS.iload X3.here hx rfl (hb hby d5_26) rfl q) ?_
    show Go p e below _ (T3.setTop (mkF m 28 #[.val (.ref a1), .val (.int p2), .val (.int p3), .val (.int (2 : Int32)), .val (.int (2 : Int32)), .val (.int (1 : Int32))] [(.int (2 : Int32)), (.int (2 : Int32))]))
    refine go (fun _ q => XS.iadd X3.here hx rfl (hb hby d5_28) rfl q) ?_
    show Go p e below _ (T3.setTop (mkF m 29 #[.val (.ref a1), .val (.int p2), .val (.int p3), .val (.int (2 : Int32)), .val (.int (2 : Int32)), .val (.int (1 : Int32))] [(.int (4 : Int32))]))
    refine go (fun _ q => XS.iconst X3.here hx rfl (hb hby d5_29) q) ?_
    show Go p e below _ (T3.setTop (mkF m 30 #[.val (.ref a1), .val (.int p2), .val (.int p3), .val (.int (2 : Int32)), .val (.int (2 : Int32)), .val (.int (1 : Int32))] [(.int (1 : Int32)), (.int (4 : Int32))]))
    refine go (fun _ q => XS.iushr X3.here hx rfl (hb hby d5_30) rfl q) ?_
    show Go p e below _ (T3.setTop (mkF m 31 #[.val (.ref a1), .val (.int p2), .val (.int p3), .val (.int (2 : Int32)), .val (.int (2 : Int32)), .val (.int (1 : Int32))] [(.int (2 : Int32))]))
    refine go (fun _ q => XS.istore X3.here hx rfl (hb hby d5_31) rfl (l' := #[.val (.ref a1), .val (.int p2), .val (.int p3), .val (.int (2 : Int32)), .val (.int (2 : Int32)), .val (.int (2 : Int32))]) rfl q) ?_
    show Go p e below _ (T3.setTop (mkF m 33 #[.val (.ref a1), .val (.int p2), .val (.int p3), .val (.int (2 : Int32)), .val (.int (2 : Int32)), .val (.int (2 : Int32))] []))
    refine go (fun _ q => XS.aloadN X3.here hx rfl (hb hby d5_33) rfl rfl q) ?_
    show Go p e below _ (T3.setTop (mkF m 34 #[.val (.ref a1), .val (.int p2), .val (.int p3), .val (.int (2 : Int32)), .val (.int (2 : Int32)), .val (.int (2 : Int32))] [(.ref a1)]))
    obtain ⟨T5, X5, e5, st5⟩ := getF X3 hx hZ hown (host := "") (Or.inl (hw _ (List.mem_of_getElem? (i := 17) rfl))) Via.refl e3 F_m (g := (mkF m 34 #[.val (.ref a1), .val (.int p2), .val (.int p3), .val (.int (2 : Int32)), .val (.int (2 : Int32)), .val (.int (2 : Int32))] [(.ref a1)])) rfl rfl (hb hby d5_34)
    refine go st5 ?_
    show Go p e below _ (T5.setTop (mkF m 37 #[.val (.ref a1), .val (.int p2), .val (.int p3), .val (.int (2 : Int32)), .val (.int (2 : Int32)), .val (.int (2 : Int32))] [(.ref b)]))
    refine go (fun _ q => XS.iload X5.here hx rfl (hb hby d5_37) rfl q) ?_
    show Go p e below _ (T5.setTop (mkF m 39 #[.val (.ref a1), .val (.int p2), .val (.int p3), .val (.int (2 : Int32)), .val (.int (2 : Int32)), .val (.int (2 : Int32))] [(.int (2 : Int32)), (.ref b)]))
    refine go (own_iaload X5 hx hZ e5 F_b (j := (2 : Int32)) (by decide) (Nat.le_of_ble_eq_true rfl) (g := (mkF m 39 #[.val (.ref a1), .val (.int p2), .val (.int p3), .val (.int (2 : Int32)), .val (.int (2 : Int32)), .val (.int (2 : Int32))] [(.int (2 : Int32)), (.ref b)])) rfl rfl (hb hby d5_39)) ?_
    show Go p e below _ (T5.setTop (mkF m 40 #[.val (.ref a1), .val (.int p2), .val (.int p3), .val (.int (2 : Int32)), .val (.int (2 : Int32)), .val (.int (2 : Int32))] [(.int m2)]))
    refine go (fun _ q => XS.iloadN X5.here hx rfl (hb hby d5_40) rfl q) ?_
    show Go p e below _ (T5.setTop (mkF m 41 #[.val (.ref a1), .val (.int p2), .val (.int p3), .val (.int (2 : Int32)), .val (.int (2 : Int32)), .val (.int (2 : Int32))] [(.int p2), (.int m2)]))
    by_cases hc6 : m2 < p2
    · refine go (fun _ q => XS.icmpNo X5.here hx rfl (hb hby d5_41) rfl (tlt hc6).2.1 q) ?_
      show Go p e below _ (T5.setTop (mkF m 44 #[.val (.ref a1), .val (.int p2), .val (.int p3), .val (.int (2 : Int32)), .val (.int (2 : Int32)), .val (.int (2 : Int32))] []))
      refine go (fun _ q => XS.iload X5.here hx rfl (hb hby d5_44) rfl q) ?_
      show Go p e below _ (T5.setTop (mkF m 46 #[.val (.ref a1), .val (.int p2), .val (.int p3), .val (.int (2 : Int32)), .val (.int (2 : Int32)), .val (.int (2 : Int32))] [(.int (2 : Int32))]))
      refine go (fun _ q => XS.iconst X5.here hx rfl (hb hby d5_46) q) ?_
      show Go p e below _ (T5.setTop (mkF m 47 #[.val (.ref a1), .val (.int p2), .val (.int p3), .val (.int (2 : Int32)), .val (.int (2 : Int32)), .val (.int (2 : Int32))] [(.int (1 : Int32)), (.int (2 : Int32))]))
      refine go (fun _ q => XS.iadd X5.here hx rfl (hb hby d5_47) rfl q) ?_
      show Go p e below _ (T5.setTop (mkF m 48 #[.val (.ref a1), .val (.int p2), .val (.int p3), .val (.int (2 : Int32)), .val (.int (2 : Int32)), .val (.int (2 : Int32))] [(.int (3 : Int32))]))
      refine go (fun _ q => XS.istoreN X5.here hx rfl (hb hby d5_48) rfl (l' := #[.val (.ref a1), .val (.int p2), .val (.int p3), .val (.int (3 : Int32)), .val (.int (2 : Int32)), .val (.int (2 : Int32))]) rfl q) ?_
      show Go p e below _ (T5.setTop (mkF m 49 #[.val (.ref a1), .val (.int p2), .val (.int p3), .val (.int (3 : Int32)), .val (.int (2 : Int32)), .val (.int (2 : Int32))] []))
      refine go (fun _ q => XS.goto X5.here hx rfl (pc0 := 49) (pc' := 75) rfl (hb hby d5_49) (by decide) (by decide) q) ?_
      show Go p e below _ (T5.setTop (mkF m 75 #[.val (.ref a1), .val (.int p2), .val (.int p3), .val (.int (3 : Int32)), .val (.int (2 : Int32)), .val (.int (2 : Int32))] []))
      refine go (fun _ q => XS.goto X5.here hx rfl (pc0 := 75) (pc' := 19) rfl (hb hby d5_75) (by decide) (by decide) q) ?_
      show Go p e below _ (T5.setTop (mkF m 19 #[.val (.ref a1), .val (.int p2), .val (.int p3), .val (.int (3 : Int32)), .val (.int (2 : Int32)), .val (.int (2 : Int32))] []))
      refine go (fun _ q => XS.iloadN X5.here hx rfl (hb hby d5_19) rfl q) ?_
      show Go p e below _ (T5.setTop (mkF m 20 #[.val (.ref a1), .val (.int p2), .val (.int p3), .val (.int (3 : Int32)), .val (.int (2 : Int32)), .val (.int (2 : Int32))] [(.int (3 : Int32))]))
      refine go (fun _ q => XS.iload X5.here hx rfl (hb hby d5_20) rfl q) ?_
      show Go p e below _ (T5.setTop (mkF m 22 #[.val (.ref a1), .val (.int p2), .val (.int p3), .val (.int (3 : Int32)), .val (.int (2 : Int32)), .val (.int (2 : Int32))] [(.int (2 : Int32)), (.int (3 : Int32))]))
      refine go (fun _ q => XS.icmpYes X5.here hx rfl (pc0 := 22) (pc' := 78) rfl (hb hby d5_22) rfl (tlt (by decide : (2 : Int32) < (3 : Int32))).2.2.1 (by decide) (by decide) q) ?_
      show Go p e below _ (T5.setTop (mkF m 78 #[.val (.ref a1), .val (.int p2), .val (.int p3), .val (.int (3 : Int32)), .val (.int (2 : Int32)), .val (.int (2 : Int32))] []))
      refine go (fun _ q => XS.iconst X5.here hx rfl (hb hby d5_78) q) ?_
      show Go p e below _ (T5.setTop (mkF m 79 #[.val (.ref a1), .val (.int p2), .val (.int p3), .val (.int (3 : Int32)), .val (.int (2 : Int32)), .val (.int (2 : Int32))] [(.int (-1 : Int32))]))
      exact own_retI X5 hx hlk hret (hb hby d5_79) (by decide) (by decide) ⟨congrArg (fun z => some (Value.int z)) (by rw [t_0_3, if_pos hc4, if_pos hc6]), N0, e5⟩
    · refine go (fun _ q => XS.icmpYes X5.here hx rfl (pc0 := 41) (pc' := 52) rfl (hb hby d5_41) rfl (flt hc6).2.1 (by decide) (by decide) q) ?_
      show Go p e below _ (T5.setTop (mkF m 52 #[.val (.ref a1), .val (.int p2), .val (.int p3), .val (.int (2 : Int32)), .val (.int (2 : Int32)), .val (.int (2 : Int32))] []))
      refine go (fun _ q => XS.aloadN X5.here hx rfl (hb hby d5_52) rfl rfl q) ?_
      show Go p e below _ (T5.setTop (mkF m 53 #[.val (.ref a1), .val (.int p2), .val (.int p3), .val (.int (2 : Int32)), .val (.int (2 : Int32)), .val (.int (2 : Int32))] [(.ref a1)]))
      obtain ⟨T7, X7, e7, st7⟩ := getF X5 hx hZ hown (host := "") (Or.inl (hw _ (List.mem_of_getElem? (i := 17) rfl))) Via.refl e5 F_m (g := (mkF m 53 #[.val (.ref a1), .val (.int p2), .val (.int p3), .val (.int (2 : Int32)), .val (.int (2 : Int32)), .val (.int (2 : Int32))] [(.ref a1)])) rfl rfl (hb hby d5_53)
      refine go st7 ?_
      show Go p e below _ (T7.setTop (mkF m 56 #[.val (.ref a1), .val (.int p2), .val (.int p3), .val (.int (2 : Int32)), .val (.int (2 : Int32)), .val (.int (2 : Int32))] [(.ref b)]))
      refine go (fun _ q => XS.iload X7.here hx rfl (hb hby d5_56) rfl q) ?_
      show Go p e below _ (T7.setTop (mkF m 58 #[.val (.ref a1), .val (.int p2), .val (.int p3), .val (.int (2 : Int32)), .val (.int (2 : Int32)), .val (.int (2 : Int32))] [(.int (2 : Int32)), (.ref b)]))
      refine go (own_iaload X7 hx hZ e7 F_b (j := (2 : Int32)) (by decide) (Nat.le_of_ble_eq_true rfl) (g := (mkF m 58 #[.val (.ref a1), .val (.int p2), .val (.int p3), .val (.int (2 : Int32)), .val (.int (2 : Int32)), .val (.int (2 : Int32))] [(.int (2 : Int32)), (.ref b)])) rfl rfl (hb hby d5_58)) ?_
      show Go p e below _ (T7.setTop (mkF m 59 #[.val (.ref a1), .val (.int p2), .val (.int p3), .val (.int (2 : Int32)), .val (.int (2 : Int32)), .val (.int (2 : Int32))] [(.int m2)]))
      refine go (fun _ q => XS.iloadN X7.here hx rfl (hb hby d5_59) rfl q) ?_
      show Go p e below _ (T7.setTop (mkF m 60 #[.val (.ref a1), .val (.int p2), .val (.int p3), .val (.int (2 : Int32)), .val (.int (2 : Int32)), .val (.int (2 : Int32))] [(.int p2), (.int m2)]))
      by_cases hc8 : p2 < m2
      · refine go (fun _ q => XS.icmpNo X7.here hx rfl (hb hby d5_60) rfl (tlt hc8).2.2.2 q) ?_
        show Go p e below _ (T7.setTop (mkF m 63 #[.val (.ref a1), .val (.int p2), .val (.int p3), .val (.int (2 : Int32)), .val (.int (2 : Int32)), .val (.int (2 : Int32))] []))
        refine go (fun _ q => XS.iload X7.here hx rfl (hb hby d5_63) rfl q) ?_
        show Go p e below _ (T7.setTop (mkF m 65 #[.val (.ref a1), .val (.int p2), .val (.int p3), .val (.int (2 : Int32)), .val (.int (2 : Int32)), .val (.int (2 : Int32))] [(.int (2 : Int32))]))
        refine go (fun _ q => XS.iconst X7.here hx rfl (hb hby d5_65) q) ?_
        show Go p e below _ (T7.setTop (mkF m 66 #[.val (.ref a1), .val (.int p2), .val (.int p3), .val (.int (2 : Int32)), .val (.int (2 : Int32)), .val (.int (2 : Int32))] [(.int (1 : Int32)), (.int (2 : Int32))]))
        refine go (fun _ q => XS.isub X7.here hx rfl (hb hby d5_66) rfl q) ?_
        show Go p e below _ (T7.setTop (mkF m 67 #[.val (.ref a1), .val (.int p2), .val (.int p3), .val (.int (2 : Int32)), .val (.int (2 : Int32)), .val (.int (2 : Int32))] [(.int (1 : Int32))]))
        refine go (fun _ q => XS.istore X7.here hx rfl (hb hby d5_67) rfl (l' := #[.val (.ref a1), .val (.int p2), .val (.int p3), .val (.int (2 : Int32)), .val (.int (1 : Int32)), .val (.int (2 : Int32))]) rfl q) ?_
        show Go p e below _ (T7.setTop (mkF m 69 #[.val (.ref a1), .val (.int p2), .val (.int p3), .val (.int (2 : Int32)), .val (.int (1 : Int32)), .val (.int (2 : Int32))] []))
        refine go (fun _ q => XS.goto X7.here hx rfl (pc0 := 69) (pc' := 75) rfl (hb hby d5_69) (by decide) (by decide) q) ?_
        show Go p e below _ (T7.setTop (mkF m 75 #[.val (.ref a1), .val (.int p2), .val (.int p3), .val (.int (2 : Int32)), .val (.int (1 : Int32)), .val (.int (2 : Int32))] []))
        refine go (fun _ q => XS.goto X7.here hx rfl (pc0 := 75) (pc' := 19) rfl (hb hby d5_75) (by decide) (by decide) q) ?_
        show Go p e below _ (T7.setTop (mkF m 19 #[.val (.ref a1), .val (.int p2), .val (.int p3), .val (.int (2 : Int32)), .val (.int (1 : Int32)), .val (.int (2 : Int32))] []))
        refine go (fun _ q => XS.iloadN X7.here hx rfl (hb hby d5_19) rfl q) ?_
        show Go p e below _ (T7.setTop (mkF m 20 #[.val (.ref a1), .val (.int p2), .val (.int p3), .val (.int (2 : Int32)), .val (.int (1 : Int32)), .val (.int (2 : Int32))] [(.int (2 : Int32))]))
        refine go (fun _ q => XS.iload X7.here hx rfl (hb hby d5_20) rfl q) ?_
        show Go p e below _ (T7.setTop (mkF m 22 #[.val (.ref a1), .val (.int p2), .val (.int p3), .val (.int (2 : Int32)), .val (.int (1 : Int32)), .val (.int (2 : Int32))] [(.int (1 : Int32)), (.int (2 : Int32))]))
        refine go (fun _ q => XS.icmpYes X7.here hx rfl (pc0 := 22) (pc' := 78) rfl (hb hby d5_22) rfl (tlt (by decide : (1 : Int32) < (2 : Int32))).2.2.1 (by decide) (by decide) q) ?_
        show Go p e below _ (T7.setTop (mkF m 78 #[.val (.ref a1), .val (.int p2), .val (.int p3), .val (.int (2 : Int32)), .val (.int (1 : Int32)), .val (.int (2 : Int32))] []))
        refine go (fun _ q => XS.iconst X7.here hx rfl (hb hby d5_78) q) ?_
        show Go p e below _ (T7.setTop (mkF m 79 #[.val (.ref a1), .val (.int p2), .val (.int p3), .val (.int (2 : Int32)), .val (.int (1 : Int32)), .val (.int (2 : Int32))] [(.int (-1 : Int32))]))
        exact own_retI X7 hx hlk hret (hb hby d5_79) (by decide) (by decide) ⟨congrArg (fun z => some (Value.int z)) (by rw [t_0_3, if_pos hc4, if_neg hc6, if_pos hc8]), N0, e7⟩
      · refine go (fun _ q => XS.icmpYes X7.here hx rfl (pc0 := 60) (pc' := 72) rfl (hb hby d5_60) rfl (flt hc8).2.2.2 (by decide) (by decide) q) ?_
        show Go p e below _ (T7.setTop (mkF m 72 #[.val (.ref a1), .val (.int p2), .val (.int p3), .val (.int (2 : Int32)), .val (.int (2 : Int32)), .val (.int (2 : Int32))] []))
        refine go (fun _ q => XS.iload X7.here hx rfl (hb hby d5_72) rfl q) ?_
        show Go p e below _ (T7.setTop (mkF m 74 #[.val (.ref a1), .val (.int p2), .val (.int p3), .val (.int (2 : Int32)), .val (.int (2 : Int32)), .val (.int (2 : Int32))] [(.int (2 : Int32))]))
        exact own_retI X7 hx hlk hret (hb hby d5_74) (by decide) (by decide) ⟨congrArg (fun z => some (Value.int z)) (by rw [t_0_3, if_pos hc4, if_neg hc6, if_neg hc8]), N0, e7⟩
  · refine go (fun _ q => XS.icmpYes X3.here hx rfl (pc0 := 41) (pc' := 52) rfl (hb hby d5_41) rfl (flt hc4).2.1 (by decide) (by decide) q) ?_
    show Go p e below _ (T3.setTop (mkF m 52 #[.val (.ref a1), .val (.int p2), .val (.int p3), .val (.int (0 : Int32)), .val (.int (2 : Int32)), .val (.int (1 : Int32))] []))
    refine go (fun _ q => XS.aloadN X3.here hx rfl (hb hby d5_52) rfl rfl q) ?_
    show Go p e below _ (T3.setTop (mkF m 53 #[.val (.ref a1), .val (.int p2), .val (.int p3), .val (.int (0 : Int32)), .val (.int (2 : Int32)), .val (.int (1 : Int32))] [(.ref a1)]))
    obtain ⟨T9, X9, e9, st9⟩ := getF X3 hx hZ hown (host := "") (Or.inl (hw _ (List.mem_of_getElem? (i := 17) rfl))) Via.refl e3 F_m (g := (mkF m 53 #[.val (.ref a1), .val (.int p2), .val (.int p3), .val (.int (0 : Int32)), .val (.int (2 : Int32)), .val (.int (1 : Int32))] [(.ref a1)])) rfl rfl (hb hby d5_53)
    refine go st9 ?_
    show Go p e below _ (T9.setTop (mkF m 56 #[.val (.ref a1), .val (.int p2), .val (.int p3), .val (.int (0 : Int32)), .val (.int (2 : Int32)), .val (.int (1 : Int32))] [(.ref b)]))
    refine go (fun _ q => XS.iload X9.here hx rfl (hb hby d5_56) rfl q) ?_
    show Go p e below _ (T9.setTop (mkF m 58 #[.val (.ref a1), .val (.int p2), .val (.int p3), .val (.int (0 : Int32)), .val (.int (2 : Int32)), .val (.int (1 : Int32))] [(.int (1 : Int32)), (.ref b)]))
    refine go (own_iaload X9 hx hZ e9 F_b (j := (1 : Int32)) (by decide) (Nat.le_of_ble_eq_true rfl) (g := (mkF m 58 #[.val (.ref a1), .val (.int p2), .val (.int p3), .val (.int (0 : Int32)), .val (.int (2 : Int32)), .val (.int (1 : Int32))] [(.int (1 : Int32)), (.ref b)])) rfl rfl (hb hby d5_58)) ?_
    show Go p e below _ (T9.setTop (mkF m 59 #[.val (.ref a1), .val (.int p2), .val (.int p3), .val (.int (0 : Int32)), .val (.int (2 : Int32)), .val (.int (1 : Int32))] [(.int m1)]))
    refine go (fun _ q => XS.iloadN X9.here hx rfl (hb hby d5_59) rfl q) ?_
    show Go p e below _ (T9.setTop (mkF m 60 #[.val (.ref a1), .val (.int p2), .val (.int p3), .val (.int (0 : Int32)), .val (.int (2 : Int32)), .val (.int (1 : Int32))] [(.int p2), (.int m1)]))
    by_cases hc10 : p2 < m1
    · refine go (fun _ q => XS.icmpNo X9.here hx rfl (hb hby d5_60) rfl (tlt hc10).2.2.2 q) ?_
      show Go p e below _ (T9.setTop (mkF m 63 #[.val (.ref a1), .val (.int p2), .val (.int p3), .val (.int (0 : Int32)), .val (.int (2 : Int32)), .val (.int (1 : Int32))] []))
      refine go (fun _ q => XS.iload X9.here hx rfl (hb hby d5_63) rfl q) ?_
      show Go p e below _ (T9.setTop (mkF m 65 #[.val (.ref a1), .val (.int p2), .val (.int p3), .val (.int (0 : Int32)), .val (.int (2 : Int32)), .val (.int (1 : Int32))] [(.int (1 : Int32))]))
      refine go (fun _ q => XS.iconst X9.here hx rfl (hb hby d5_65) q) ?_
      show Go p e below _ (T9.setTop (mkF m 66 #[.val (.ref a1), .val (.int p2), .val (.int p3), .val (.int (0 : Int32)), .val (.int (2 : Int32)), .val (.int (1 : Int32))] [(.int (1 : Int32)), (.int (1 : Int32))]))
      refine go (fun _ q => XS.isub X9.here hx rfl (hb hby d5_66) rfl q) ?_
      show Go p e below _ (T9.setTop (mkF m 67 #[.val (.ref a1), .val (.int p2), .val (.int p3), .val (.int (0 : Int32)), .val (.int (2 : Int32)), .val (.int (1 : Int32))] [(.int (0 : Int32))]))
      refine go (fun _ q => XS.istore X9.here hx rfl (hb hby d5_67) rfl (l' := #[.val (.ref a1), .val (.int p2), .val (.int p3), .val (.int (0 : Int32)), .val (.int (0 : Int32)), .val (.int (1 : Int32))]) rfl q) ?_
      show Go p e below _ (T9.setTop (mkF m 69 #[.val (.ref a1), .val (.int p2), .val (.int p3), .val (.int (0 : Int32)), .val (.int (0 : Int32)), .val (.int (1 : Int32))] []))
      refine go (fun _ q => XS.goto X9.here hx rfl (pc0 := 69) (pc' := 75) rfl (hb hby d5_69) (by decide) (by decide) q) ?_
      show Go p e below _ (T9.setTop (mkF m 75 #[.val (.ref a1), .val (.int p2), .val (.int p3), .val (.int (0 : Int32)), .val (.int (0 : Int32)), .val (.int (1 : Int32))] []))
      refine go (fun _ q => XS.goto X9.here hx rfl (pc0 := 75) (pc' := 19) rfl (hb hby d5_75) (by decide) (by decide) q) ?_
      show Go p e below _ (T9.setTop (mkF m 19 #[.val (.ref a1), .val (.int p2), .val (.int p3), .val (.int (0 : Int32)), .val (.int (0 : Int32)), .val (.int (1 : Int32))] []))
      refine go (fun _ q => XS.iloadN X9.here hx rfl (hb hby d5_19) rfl q) ?_
      show Go p e below _ (T9.setTop (mkF m 20 #[.val (.ref a1), .val (.int p2), .val (.int p3), .val (.int (0 : Int32)), .val (.int (0 : Int32)), .val (.int (1 : Int32))] [(.int (0 : Int32))]))
      refine go (fun _ q => XS.iload X9.here hx rfl (hb hby d5_20) rfl q) ?_
      show Go p e below _ (T9.setTop (mkF m 22 #[.val (.ref a1), .val (.int p2), .val (.int p3), .val (.int (0 : Int32)), .val (.int (0 : Int32)), .val (.int (1 : Int32))] [(.int (0 : Int32)), (.int (0 : Int32))]))
      refine go (fun _ q => XS.icmpNo X9.here hx rfl (hb hby d5_22) rfl (flt (by decide : ¬ ((0 : Int32) < (0 : Int32)))).2.2.1 q) ?_
      show Go p e below _ (T9.setTop (mkF m 25 #[.val (.ref a1), .val (.int p2), .val (.int p3), .val (.int (0 : Int32)), .val (.int (0 : Int32)), .val (.int (1 : Int32))] []))
      refine go (fun _ q => XS.iloadN X9.here hx rfl (hb hby d5_25) rfl q) ?_
      show Go p e below _ (T9.setTop (mkF m 26 #[.val (.ref a1), .val (.int p2), .val (.int p3), .val (.int (0 : Int32)), .val (.int (0 : Int32)), .val (.int (1 : Int32))] [(.int (0 : Int32))]))
      refine go (fun _ q => XS.iload X9.here hx rfl (hb hby d5_26) rfl q) ?_
      show Go p e below _ (T9.setTop (mkF m 28 #[.val (.ref a1), .val (.int p2), .val (.int p3), .val (.int (0 : Int32)), .val (.int (0 : Int32)), .val (.int (1 : Int32))] [(.int (0 : Int32)), (.int (0 : Int32))]))
      refine go (fun _ q => XS.iadd X9.here hx rfl (hb hby d5_28) rfl q) ?_
      show Go p e below _ (T9.setTop (mkF m 29 #[.val (.ref a1), .val (.int p2), .val (.int p3), .val (.int (0 : Int32)), .val (.int (0 : Int32)), .val (.int (1 : Int32))] [(.int (0 : Int32))]))
      refine go (fun _ q => XS.iconst X9.here hx rfl (hb hby d5_29) q) ?_
      show Go p e below _ (T9.setTop (mkF m 30 #[.val (.ref a1), .val (.int p2), .val (.int p3), .val (.int (0 : Int32)), .val (.int (0 : Int32)), .val (.int (1 : Int32))] [(.int (1 : Int32)), (.int (0 : Int32))]))
      refine go (fun _ q => XS.iushr X9.here hx rfl (hb hby d5_30) rfl q) ?_
      show Go p e below _ (T9.setTop (mkF m 31 #[.val (.ref a1), .val (.int p2), .val (.int p3), .val (.int (0 : Int32)), .val (.int (0 : Int32)), .val (.int (1 : Int32))] [(.int (0 : Int32))]))
      refine go (fun _ q => XS.istore X9.here hx rfl (hb hby d5_31) rfl (l' := #[.val (.ref a1), .val (.int p2), .val (.int p3), .val (.int (0 : Int32)), .val (.int (0 : Int32)), .val (.int (0 : Int32))]) rfl q) ?_
      show Go p e below _ (T9.setTop (mkF m 33 #[.val (.ref a1), .val (.int p2), .val (.int p3), .val (.int (0 : Int32)), .val (.int (0 : Int32)), .val (.int (0 : Int32))] []))
      refine go (fun _ q => XS.aloadN X9.here hx rfl (hb hby d5_33) rfl rfl q) ?_
      show Go p e below _ (T9.setTop (mkF m 34 #[.val (.ref a1), .val (.int p2), .val (.int p3), .val (.int (0 : Int32)), .val (.int (0 : Int32)), .val (.int (0 : Int32))] [(.ref a1)]))
      obtain ⟨T11, X11, e11, st11⟩ := getF X9 hx hZ hown (host := "") (Or.inl (hw _ (List.mem_of_getElem? (i := 17) rfl))) Via.refl e9 F_m (g := (mkF m 34 #[.val (.ref a1), .val (.int p2), .val (.int p3), .val (.int (0 : Int32)), .val (.int (0 : Int32)), .val (.int (0 : Int32))] [(.ref a1)])) rfl rfl (hb hby d5_34)
      refine go st11 ?_
      show Go p e below _ (T11.setTop (mkF m 37 #[.val (.ref a1), .val (.int p2), .val (.int p3), .val (.int (0 : Int32)), .val (.int (0 : Int32)), .val (.int (0 : Int32))] [(.ref b)]))
      refine go (fun _ q => XS.iload X11.here hx rfl (hb hby d5_37) rfl q) ?_
      show Go p e below _ (T11.setTop (mkF m 39 #[.val (.ref a1), .val (.int p2), .val (.int p3), .val (.int (0 : Int32)), .val (.int (0 : Int32)), .val (.int (0 : Int32))] [(.int (0 : Int32)), (.ref b)]))
      refine go (own_iaload X11 hx hZ e11 F_b (j := (0 : Int32)) (by decide) (Nat.le_of_ble_eq_true rfl) (g := (mkF m 39 #[.val (.ref a1), .val (.int p2), .val (.int p3), .val (.int (0 : Int32)), .val (.int (0 : Int32)), .val (.int (0 : Int32))] [(.int (0 : Int32)), (.ref b)])) rfl rfl (hb hby d5_39)) ?_
      show Go p e below _ (T11.setTop (mkF m 40 #[.val (.ref a1), .val (.int p2), .val (.int p3), .val (.int (0 : Int32)), .val (.int (0 : Int32)), .val (.int (0 : Int32))] [(.int m0)]))
      refine go (fun _ q => XS.iloadN X11.here hx rfl (hb hby d5_40) rfl q) ?_
      show Go p e below _ (T11.setTop (mkF m 41 #[.val (.ref a1), .val (.int p2), .val (.int p3), .val (.int (0 : Int32)), .val (.int (0 : Int32)), .val (.int (0 : Int32))] [(.int p2), (.int m0)]))
      by_cases hc12 : m0 < p2
      · refine go (fun _ q => XS.icmpNo X11.here hx rfl (hb hby d5_41) rfl (tlt hc12).2.1 q) ?_
        show Go p e below _ (T11.setTop (mkF m 44 #[.val (.ref a1), .val (.int p2), .val (.int p3), .val (.int (0 : Int32)), .val (.int (0 : Int32)), .val (.int (0 : Int32))] []))
        refine go (fun _ q => XS.iload X11.here hx rfl (hb hby d5_44) rfl q) ?_
        show Go p e below _ (T11.setTop (mkF m 46 #[.val (.ref a1), .val (.int p2), .val (.int p3), .val (.int (0 : Int32)), .val (.int (0 : Int32)), .val (.int (0 : Int32))] [(.int (0 : Int32))]))
        refine go (fun _ q => XS.iconst X11.here hx rfl (hb hby d5_46) q) ?_
        show Go p e below _ (T11.setTop (mkF m 47 #[.val (.ref a1), .val (.int p2), .val (.int p3), .val (.int (0 : Int32)), .val (.int (0 : Int32)), .val (.int (0 : Int32))] [(.int (1 : Int32)), (.int (0 : Int32))]))
        refine go (fun _ q => XS.iadd X11.here hx rfl (hb hby d5_47) rfl q) ?_
        show Go p e below _ (T11.setTop (mkF m 48 #[.val (.ref a1), .val (.int p2), .val (.int p3), .val (.int (0 : Int32)), .val (.int (0 : Int32)), .val (.int (0 : Int32))] [(.int (1 : Int32))]))
        refine go (fun _ q => XS.istoreN X11.here hx rfl (hb hby d5_48) rfl (l' := #[.val (.ref a1), .val (.int p2), .val (.int p3), .val (.int (1 : Int32)), .val (.int (0 : Int32)), .val (.int (0 : Int32))]) rfl q) ?_
        show Go p e below _ (T11.setTop (mkF m 49 #[.val (.ref a1), .val (.int p2), .val (.int p3), .val (.int (1 : Int32)), .val (.int (0 : Int32)), .val (.int (0 : Int32))] []))
        refine go (fun _ q => XS.goto X11.here hx rfl (pc0 := 49) (pc' := 75) rfl (hb hby d5_49) (by decide) (by decide) q) ?_
        show Go p e below _ (T11.setTop (mkF m 75 #[.val (.ref a1), .val (.int p2), .val (.int p3), .val (.int (1 : Int32)), .val (.int (0 : Int32)), .val (.int (0 : Int32))] []))
        refine go (fun _ q => XS.goto X11.here hx rfl (pc0 := 75) (pc' := 19) rfl (hb hby d5_75) (by decide) (by decide) q) ?_
        show Go p e below _ (T11.setTop (mkF m 19 #[.val (.ref a1), .val (.int p2), .val (.int p3), .val (.int (1 : Int32)), .val (.int (0 : Int32)), .val (.int (0 : Int32))] []))
        refine go (fun _ q => XS.iloadN X11.here hx rfl (hb hby d5_19) rfl q) ?_
        show Go p e below _ (T11.setTop (mkF m 20 #[.val (.ref a1), .val (.int p2), .val (.int p3), .val (.int (1 : Int32)), .val (.int (0 : Int32)), .val (.int (0 : Int32))] [(.int (1 : Int32))]))
        refine go (fun _ q => XS.iload X11.here hx rfl (hb hby d5_20) rfl q) ?_
        show Go p e below _ (T11.setTop (mkF m 22 #[.val (.ref a1), .val (.int p2), .val (.int p3), .val (.int (1 : Int32)), .val (.int (0 : Int32)), .val (.int (0 : Int32))] [(.int (0 : Int32)), (.int (1 : Int32))]))
        refine go (fun _ q => XS.icmpYes X11.here hx rfl (pc0 := 22) (pc' := 78) rfl (hb hby d5_22) rfl (tlt (by decide : (0 : Int32) < (1 : Int32))).2.2.1 (by decide) (by decide) q) ?_
        show Go p e below _ (T11.setTop (mkF m 78 #[.val (.ref a1), .val (.int p2), .val (.int p3), .val (.int (1 : Int32)), .val (.int (0 : Int32)), .val (.int (0 : Int32))] []))
        refine go (fun _ q => XS.iconst X11.here hx rfl (hb hby d5_78) q) ?_
        show Go p e below _ (T11.setTop (mkF m 79 #[.val (.ref a1), .val (.int p2), .val (.int p3), .val (.int (1 : Int32)), .val (.int (0 : Int32)), .val (.int (0 : Int32))] [(.int (-1 : Int32))]))
        exact own_retI X11 hx hlk hret (hb hby d5_79) (by decide) (by decide) ⟨congrArg (fun z => some (Value.int z)) (by rw [t_0_3, if_neg hc4, if_pos hc10, if_pos hc12]), N0, e11⟩
      · refine go (fun _ q => XS.icmpYes X11.here hx rfl (pc0 := 41) (pc' := 52) rfl (hb hby d5_41) rfl (flt hc12).2.1 (by decide) (by decide) q) ?_
        show Go p e below _ (T11.setTop (mkF m 52 #[.val (.ref a1), .val (.int p2), .val (.int p3), .val (.int (0 : Int32)), .val (.int (0 : Int32)), .val (.int (0 : Int32))] []))
        refine go (fun _ q => XS.aloadN X11.here hx rfl (hb hby d5_52) rfl rfl q) ?_
        show Go p e below _ (T11.setTop (mkF m 53 #[.val (.ref a1), .val (.int p2), .val (.int p3), .val (.int (0 : Int32)), .val (.int (0 : Int32)), .val (.int (0 : Int32))] [(.ref a1)]))
        obtain ⟨T13, X13, e13, st13⟩ := getF X11 hx hZ hown (host := "") (Or.inl (hw _ (List.mem_of_getElem? (i := 17) rfl))) Via.refl e11 F_m (g := (mkF m 53 #[.val (.ref a1), .val (.int p2), .val (.int p3), .val (.int (0 : Int32)), .val (.int (0 : Int32)), .val (.int (0 : Int32))] [(.ref a1)])) rfl rfl (hb hby d5_53)
        refine go st13 ?_
        show Go p e below _ (T13.setTop (mkF m 56 #[.val (.ref a1), .val (.int p2), .val (.int p3), .val (.int (0 : Int32)), .val (.int (0 : Int32)), .val (.int (0 : Int32))] [(.ref b)]))
        refine go (fun _ q => XS.iload X13.here hx rfl (hb hby d5_56) rfl q) ?_
        show Go p e below _ (T13.setTop (mkF m 58 #[.val (.ref a1), .val (.int p2), .val (.int p3), .val (.int (0 : Int32)), .val (.int (0 : Int32)), .val (.int (0 : Int32))] [(.int (0 : Int32)), (.ref b)]))
        refine go (own_iaload X13 hx hZ e13 F_b (j := (0 : Int32)) (by decide) (Nat.le_of_ble_eq_true rfl) (g := (mkF m 58 #[.val (.ref a1), .val (.int p2), .val (.int p3), .val (.int (0 : Int32)), .val (.int (0 : Int32)), .val (.int (0 : Int32))] [(.int (0 : Int32)), (.ref b)])) rfl rfl (hb hby d5_58)) ?_
        show Go p e below _ (T13.setTop (mkF m 59 #[.val (.ref a1), .val (.int p2), .val (.int p3), .val (.int (0 : Int32)), .val (.int (0 : Int32)), .val (.int (0 : Int32))] [(.int m0)]))
        refine go (fun _ q => XS.iloadN X13.here hx rfl (hb hby d5_59) rfl q) ?_
        show Go p e below _ (T13.setTop (mkF m 60 #[.val (.ref a1), .val (.int p2), .val (.int p3), .val (.int (0 : Int32)), .val (.int (0 : Int32)), .val (.int (0 : Int32))] [(.int p2), (.int m0)]))
        by_cases hc14 : p2 < m0
        · refine go (fun _ q => XS.icmpNo X13.here hx rfl (hb hby d5_60) rfl (tlt hc14).2.2.2 q) ?_
          show Go p e below _ (T13.setTop (mkF m 63 #[.val (.ref a1), .val (.int p2), .val (.int p3), .val (.int (0 : Int32)), .val (.int (0 : Int32)), .val (.int (0 : Int32))] []))
          refine go (fun _ q => XS.iload X13.here hx rfl (hb hby d5_63) rfl q) ?_
          show Go p e below _ (T13.setTop (mkF m 65 #[.val (.ref a1), .val (.int p2), .val (.int p3), .val (.int (0 : Int32)), .val (.int (0 : Int32)), .val (.int (0 : Int32))] [(.int (0 : Int32))]))
          refine go (fun _ q => XS.iconst X13.here hx rfl (hb hby d5_65) q) ?_
          show Go p e below _ (T13.setTop (mkF m 66 #[.val (.ref a1), .val (.int p2), .val (.int p3), .val (.int (0 : Int32)), .val (.int (0 : Int32)), .val (.int (0 : Int32))] [(.int (1 : Int32)), (.int (0 : Int32))]))
          refine go (fun _ q => XS.isub X13.here hx rfl (hb hby d5_66) rfl q) ?_
          show Go p e below _ (T13.setTop (mkF m 67 #[.val (.ref a1), .val (.int p2), .val (.int p3), .val (.int (0 : Int32)), .val (.int (0 : Int32)), .val (.int (0 : Int32))] [(.int (-1 : Int32))]))
          refine go (fun _ q => XS.istore X13.here hx rfl (hb hby d5_67) rfl (l' := #[.val (.ref a1), .val (.int p2), .val (.int p3), .val (.int (0 : Int32)), .val (.int (-1 : Int32)), .val (.int (0 : Int32))]) rfl q) ?_
          show Go p e below _ (T13.setTop (mkF m 69 #[.val (.ref a1), .val (.int p2), .val (.int p3), .val (.int (0 : Int32)), .val (.int (-1 : Int32)), .val (.int (0 : Int32))] []))
          refine go (fun _ q => XS.goto X13.here hx rfl (pc0 := 69) (pc' := 75) rfl (hb hby d5_69) (by decide) (by decide) q) ?_
          show Go p e below _ (T13.setTop (mkF m 75 #[.val (.ref a1), .val (.int p2), .val (.int p3), .val (.int (0 : Int32)), .val (.int (-1 : Int32)), .val (.int (0 : Int32))] []))
          refine go (fun _ q => XS.goto X13.here hx rfl (pc0 := 75) (pc' := 19) rfl (hb hby d5_75) (by decide) (by decide) q) ?_
          show Go p e below _ (T13.setTop (mkF m 19 #[.val (.ref a1), .val (.int p2), .val (.int p3), .val (.int (0 : Int32)), .val (.int (-1 : Int32)), .val (.int (0 : Int32))] []))
          refine go (fun _ q => XS.iloadN X13.here hx rfl (hb hby d5_19) rfl q) ?_
          show Go p e below _ (T13.setTop (mkF m 20 #[.val (.ref a1), .val (.int p2), .val (.int p3), .val (.int (0 : Int32)), .val (.int (-1 : Int32)), .val (.int (0 : Int32))] [(.int (0 : Int32))]))
          refine go (fun _ q => XS.iload X13.here hx rfl (hb hby d5_20) rfl q) ?_
          show Go p e below _ (T13.setTop (mkF m 22 #[.val (.ref a1), .val (.int p2), .val (.int p3), .val (.int (0 : Int32)), .val (.int (-1 : Int32)), .val (.int (0 : Int32))] [(.int (-1 : Int32)), (.int (0 : Int32))]))
          refine go (fun _ q => XS.icmpYes X13.here hx rfl (pc0 := 22) (pc' := 78) rfl (hb hby d5_22) rfl (tlt (by decide : (-1 : Int32) < (0 : Int32))).2.2.1 (by decide) (by decide) q) ?_
          show Go p e below _ (T13.setTop (mkF m 78 #[.val (.ref a1), .val (.int p2), .val (.int p3), .val (.int (0 : Int32)), .val (.int (-1 : Int32)), .val (.int (0 : Int32))] []))
          refine go (fun _ q => XS.iconst X13.here hx rfl (hb hby d5_78) q) ?_
          show Go p e below _ (T13.setTop (mkF m 79 #[.val (.ref a1), .val (.int p2), .val (.int p3), .val (.int (0 : Int32)), .val (.int (-1 : Int32)), .val (.int (0 : Int32))] [(.int (-1 : Int32))]))
          exact own_retI X13 hx hlk hret (hb hby d5_79) (by decide) (by decide) ⟨congrArg (fun z => some (Value.int z)) (by rw [t_0_3, if_neg hc4, if_pos hc10, if_neg hc12, if_pos hc14]), N0, e13⟩
        · refine go (fun _ q => XS.icmpYes X13.here hx rfl (pc0 := 60) (pc' := 72) rfl (hb hby d5_60) rfl (flt hc14).2.2.2 (by decide) (by decide) q) ?_
          show Go p e below _ (T13.setTop (mkF m 72 #[.val (.ref a1), .val (.int p2), .val (.int p3), .val (.int (0 : Int32)), .val (.int (0 : Int32)), .val (.int (0 : Int32))] []))
          refine go (fun _ q => XS.iload X13.here hx rfl (hb hby d5_72) rfl q) ?_
          show Go p e below _ (T13.setTop (mkF m 74 #[.val (.ref a1), .val (.int p2), .val (.int p3), .val (.int (0 : Int32)), .val (.int (0 : Int32)), .val (.int (0 : Int32))] [(.int (0 : Int32))]))
          exact own_retI X13 hx hlk hret (hb hby d5_74) (by decide) (by decide) ⟨congrArg (fun z => some (Value.int z)) (by rw [t_0_3, if_neg hc4, if_pos hc10, if_neg hc12, if_neg hc14]), N0, e13⟩
    · refine go (fun _ q => XS.icmpYes X9.here hx rfl (pc0 := 60) (pc' := 72) rfl (hb hby d5_60) rfl (flt hc10).2.2.2 (by decide) (by decide) q) ?_
      show Go p e below _ (T9.setTop (mkF m 72 #[.val (.ref a1), .val (.int p2), .val (.int p3), .val (.int (0 : Int32)), .val (.int (2 : Int32)), .val (.int (1 : Int32))] []))
      refine go (fun _ q => XS.iload X9.here hx rfl (hb hby d5_72) rfl q) ?_
      show Go p e below _ (T9.setTop (mkF m 74 #[.val (.ref a1), .val (.int p2), .val (.int p3), .val (.int (0 : Int32)), .val (.int (2 : Int32)), .val (.int (1 : Int32))] [(.int (1 : Int32))]))
      exact own_retI X9 hx hlk hret (hb hby d5_74) (by decide) (by decide) ⟨congrArg (fun z => some (Value.int z)) (by rw [t_0_3, if_neg hc4, if_neg hc10]), N0, e9⟩
def t_0_4 (p2 m0 m1 m2 m3 : Int32) : Int32 := (if m1 < p2 then (if m2 < p2 then (if m3 < p2 then (-1 : Int32) else (if p2 < m3 then (-1 : Int32) else (3 : Int32))) else (if p2 < m2 then (-1 : Int32) else (2 : Int32))) else (if p2 < m1 then (if m0 < p2 then (-1 : Int32) else (if p2 < m0 then (-1 : Int32) else (0 : Int32))) else (1 : Int32)))
set_option maxRecDepth 65536 in
set_option maxHeartbeats 40000000 in
theorem rmT_0_4 (l : Launch) (Z : State) (a0 : Array Value) (hw : ∀ d ∈ tables_1, d.before a0 Z = true) (ws : List Jvm.Cond) (a1 : Addr) (p2 : Int32) (p3 : Int32) (h0 : Heap) (n0 : Nat) {t b : Addr} {FA : List Int32} {m0 m1 m2 m3 : Int32} (hp : own_p3 p3) (lFA : FA.length = 4) (hlo : FA.getD (p3).toNatClampNeg 0 = (0 : Int32)) (hhi : FA.getD ((p3 + (1 : Int32))).toNatClampNeg 0 = (4 : Int32)) (F_f : Fld Z h0 a1 "com/example/junctura/junctura/conformance/OptimalPaths" "firstAt" "[I" (.ref t)) (F_m : Fld Z h0 a1 "com/example/junctura/junctura/conformance/OptimalPaths" "marking" "[I" (.ref b)) (F_t : Ari Z h0 t FA) (F_b : Ari Z h0 b ([m0, m1, m2, m3] : List Int32)) :
    MetFree l (⟨"com/example/junctura/junctura/conformance/OptimalPaths", "state", "(II)I"⟩ : MethodName) (head1 (Jvm.Cond.code (⟨"com/example/junctura/junctura/conformance/OptimalPaths", "state", "(II)I"⟩ : MethodName) prog_45_method_11_code 6 (some .int) :: ws) ({ frames := 0, cells := 0, slots := 0, locals := 0 } : Room)) (fun a U => a = #[(.ref a1), (.int p2), (.int p3)] ∧ Z.Warmed39 U.vm ∧ U.heap = h0) (fun _ _ _ _ _ => True) (fun _ U o U' => ∃ v L, o = .returned v ∧ (QP (some (.int (t_0_4 p2 m0 m1 m2 m3))) h0 n0) v U'.heap L ∧ FrameEnd U o U' L ({ frames := 0, cells := 0, slots := 0, locals := 0 } : Room).cells ({ frames := 0, cells := 0, slots := 0, locals := 0 } : Room).slots) := by
  refine own_met (plainFor_of_name pn_5) (fun m => ef_5 m a1 p2 p3) ?_
  intro p e s m below meth c T0 hx hby hml hown hnm hret hlk hZ X0 e0
  have hown : s.vm.findClass "com/example/junctura/junctura/conformance/OptimalPaths" = some m.cls := hown
  have hnm : meth.name = "state" := hnm
  have hret : meth.sig.returnType = some .int := hret
  have N0 := Fr.nil n0
  show Go p e below _ (T0.setTop (mkF m 0 #[.val (.ref a1), .val (.int p2), .val (.int p3), .unset, .unset, .unset] []))
  refine go (fun _ q => XS.aloadN X0.here hx rfl (hb hby d5_0) rfl rfl q) ?_
  show Go p e below _ (T0.setTop (mkF m 1 #[.val (.ref a1), .val (.int p2), .val (.int p3), .unset, .unset, .unset] [(.ref a1)]))
  obtain ⟨T1, X1, e1, st1⟩ := getF X0 hx hZ hown (host := "") (Or.inl (hw _ (List.mem_of_getElem? (i := 29) rfl))) Via.refl e0 F_f (g := (mkF m 1 #[.val (.ref a1), .val (.int p2), .val (.int p3), .unset, .unset, .unset] [(.ref a1)])) rfl rfl (hb hby d5_1)
  refine go st1 ?_
  show Go p e below _ (T1.setTop (mkF m 4 #[.val (.ref a1), .val (.int p2), .val (.int p3), .unset, .unset, .unset] [(.ref t)]))
  refine go (fun _ q => XS.iloadN X1.here hx rfl (hb hby d5_4) rfl q) ?_
  show Go p e below _ (T1.setTop (mkF m 5 #[.val (.ref a1), .val (.int p2), .val (.int p3), .unset, .unset, .unset] [(.int p3), (.ref t)]))
  refine go (own_iaload X1 hx hZ e1 F_t (j := p3) (own_i0 hp).1 (by rw [lFA]; exact (own_i0 hp).2) (g := (mkF m 5 #[.val (.ref a1), .val (.int p2), .val (.int p3), .unset, .unset, .unset] [(.int p3), (.ref t)])) rfl rfl (hb hby d5_5)) ?_
  show Go p e below _ (T1.setTop (mkF m 6 #[.val (.ref a1), .val (.int p2), .val (.int p3), .unset, .unset, .unset] [(.int (FA.getD (p3).toNatClampNeg 0))]))
  rw [hlo]
  show Go p e below _ (T1.setTop (mkF m 6 #[.val (.ref a1), .val (.int p2), .val (.int p3), .unset, .unset, .unset] [(.int (0 : Int32))]))
  refine go (fun _ q => XS.istoreN X1.here hx rfl (hb hby d5_6) rfl (l' := #[.val (.ref a1), .val (.int p2), .val (.int p3), .val (.int (0 : Int32)), .unset, .unset]) rfl q) ?_
  show Go p e below _ (T1.setTop (mkF m 7 #[.val (.ref a1), .val (.int p2), .val (.int p3), .val (.int (0 : Int32)), .unset, .unset] []))
  refine go (fun _ q => XS.aloadN X1.here hx rfl (hb hby d5_7) rfl rfl q) ?_
  show Go p e below _ (T1.setTop (mkF m 8 #[.val (.ref a1), .val (.int p2), .val (.int p3), .val (.int (0 : Int32)), .unset, .unset] [(.ref a1)]))
  obtain ⟨T2, X2, e2, st2⟩ := getF X1 hx hZ hown (host := "") (Or.inl (hw _ (List.mem_of_getElem? (i := 29) rfl))) Via.refl e1 F_f (g := (mkF m 8 #[.val (.ref a1), .val (.int p2), .val (.int p3), .val (.int (0 : Int32)), .unset, .unset] [(.ref a1)])) rfl rfl (hb hby d5_8)
  refine go st2 ?_
  show Go p e below _ (T2.setTop (mkF m 11 #[.val (.ref a1), .val (.int p2), .val (.int p3), .val (.int (0 : Int32)), .unset, .unset] [(.ref t)]))
  refine go (fun _ q => XS.iloadN X2.here hx rfl (hb hby d5_11) rfl q) ?_
  show Go p e below _ (T2.setTop (mkF m 12 #[.val (.ref a1), .val (.int p2), .val (.int p3), .val (.int (0 : Int32)), .unset, .unset] [(.int p3), (.ref t)]))
  refine go (fun _ q => XS.iconst X2.here hx rfl (hb hby d5_12) q) ?_
  show Go p e below _ (T2.setTop (mkF m 13 #[.val (.ref a1), .val (.int p2), .val (.int p3), .val (.int (0 : Int32)), .unset, .unset] [(.int (1 : Int32)), (.int p3), (.ref t)]))
  refine go (fun _ q => XS.iadd X2.here hx rfl (hb hby d5_13) rfl q) ?_
  show Go p e below _ (T2.setTop (mkF m 14 #[.val (.ref a1), .val (.int p2), .val (.int p3), .val (.int (0 : Int32)), .unset, .unset] [(.int (p3 + (1 : Int32))), (.ref t)]))
  refine go (own_iaload X2 hx hZ e2 F_t (j := (p3 + (1 : Int32))) (own_i1 hp).1 (by rw [lFA]; exact (own_i1 hp).2) (g := (mkF m 14 #[.val (.ref a1), .val (.int p2), .val (.int p3), .val (.int (0 : Int32)), .unset, .unset] [(.int (p3 + (1 : Int32))), (.ref t)])) rfl rfl (hb hby d5_14)) ?_
  show Go p e below _ (T2.setTop (mkF m 15 #[.val (.ref a1), .val (.int p2), .val (.int p3), .val (.int (0 : Int32)), .unset, .unset] [(.int (FA.getD ((p3 + (1 : Int32))).toNatClampNeg 0))]))
  rw [hhi]
  show Go p e below _ (T2.setTop (mkF m 15 #[.val (.ref a1), .val (.int p2), .val (.int p3), .val (.int (0 : Int32)), .unset, .unset] [(.int (4 : Int32))]))
  refine go (fun _ q => XS.iconst X2.here hx rfl (hb hby d5_15) q) ?_
  show Go p e below _ (T2.setTop (mkF m 16 #[.val (.ref a1), .val (.int p2), .val (.int p3), .val (.int (0 : Int32)), .unset, .unset] [(.int (1 : Int32)), (.int (4 : Int32))]))
  refine go (fun _ q => XS.isub X2.here hx rfl (hb hby d5_16) rfl q) ?_
  show Go p e below _ (T2.setTop (mkF m 17 #[.val (.ref a1), .val (.int p2), .val (.int p3), .val (.int (0 : Int32)), .unset, .unset] [(.int (3 : Int32))]))
  refine go (fun _ q => XS.istore X2.here hx rfl (hb hby d5_17) rfl (l' := #[.val (.ref a1), .val (.int p2), .val (.int p3), .val (.int (0 : Int32)), .val (.int (3 : Int32)), .unset]) rfl q) ?_
  show Go p e below _ (T2.setTop (mkF m 19 #[.val (.ref a1), .val (.int p2), .val (.int p3), .val (.int (0 : Int32)), .val (.int (3 : Int32)), .unset] []))
  refine go (fun _ q => XS.iloadN X2.here hx rfl (hb hby d5_19) rfl q) ?_
  show Go p e below _ (T2.setTop (mkF m 20 #[.val (.ref a1), .val (.int p2), .val (.int p3), .val (.int (0 : Int32)), .val (.int (3 : Int32)), .unset] [(.int (0 : Int32))]))
  refine go (fun _ q => XS.iload X2.here hx rfl (hb hby d5_20) rfl q) ?_
  show Go p e below _ (T2.setTop (mkF m 22 #[.val (.ref a1), .val (.int p2), .val (.int p3), .val (.int (0 : Int32)), .val (.int (3 : Int32)), .unset] [(.int (3 : Int32)), (.int (0 : Int32))]))
  refine go (fun _ q => XS.icmpNo X2.here hx rfl (hb hby d5_22) rfl (flt (by decide : ¬ ((3 : Int32) < (0 : Int32)))).2.2.1 q) ?_
  show Go p e below _ (T2.setTop (mkF m 25 #[.val (.ref a1), .val (.int p2), .val (.int p3), .val (.int (0 : Int32)), .val (.int (3 : Int32)), .unset] []))
  refine go (fun _ q => XS.iloadN X2.here hx rfl (hb hby d5_25) rfl q) ?_
  show Go p e below _ (T2.setTop (mkF m 26 #[.val (.ref a1), .val (.int p2), .val (.int p3), .val (.int (0 : Int32)), .val (.int (3 : Int32)), .unset] [(.int (0 : Int32))]))
  refine go (fun _ q => XS.iload X2.here hx rfl (hb hby d5_26) rfl q) ?_
  show Go p e below _ (T2.setTop (mkF m 28 #[.val (.ref a1), .val (.int p2), .val (.int p3), .val (.int (0 : Int32)), .val (.int (3 : Int32)), .unset] [(.int (3 : Int32)), (.int (0 : Int32))]))
  refine go (fun _ q => XS.iadd X2.here hx rfl (hb hby d5_28) rfl q) ?_
  show Go p e below _ (T2.setTop (mkF m 29 #[.val (.ref a1), .val (.int p2), .val (.int p3), .val (.int (0 : Int32)), .val (.int (3 : Int32)), .unset] [(.int (3 : Int32))]))
  refine go (fun _ q => XS.iconst X2.here hx rfl (hb hby d5_29) q) ?_
  show Go p e below _ (T2.setTop (mkF m 30 #[.val (.ref a1), .val (.int p2), .val (.int p3), .val (.int (0 : Int32)), .val (.int (3 : Int32)), .unset] [(.int (1 : Int32)), (.int (3 : Int32))]))
  refine go (fun _ q => XS.iushr X2.here hx rfl (hb hby d5_30) rfl q) ?_
  show Go p e below _ (T2.setTop (mkF m 31 #[.val (.ref a1), .val (.int p2), .val (.int p3), .val (.int (0 : Int32)), .val (.int (3 : Int32)), .unset] [(.int (1 : Int32))]))
  refine go (fun _ q => XS.istore X2.here hx rfl (hb hby d5_31) rfl (l' := #[.val (.ref a1), .val (.int p2), .val (.int p3), .val (.int (0 : Int32)), .val (.int (3 : Int32)), .val (.int (1 : Int32))]) rfl q) ?_
  show Go p e below _ (T2.setTop (mkF m 33 #[.val (.ref a1), .val (.int p2), .val (.int p3), .val (.int (0 : Int32)), .val (.int (3 : Int32)), .val (.int (1 : Int32))] []))
  refine go (fun _ q => XS.aloadN X2.here hx rfl (hb hby d5_33) rfl rfl q) ?_
  show Go p e below _ (T2.setTop (mkF m 34 #[.val (.ref a1), .val (.int p2), .val (.int p3), .val (.int (0 : Int32)), .val (.int (3 : Int32)), .val (.int (1 : Int32))] [(.ref a1)]))
  obtain ⟨T3, X3, e3, st3⟩ := getF X2 hx hZ hown (host := "") (Or.inl (hw _ (List.mem_of_getElem? (i := 17) rfl))) Via.refl e2 F_m (g := (mkF m 34 #[.val (.ref a1), .val (.int p2), .val (.int p3), .val (.int (0 : Int32)), .val (.int (3 : Int32)), .val (.int (1 : Int32))] [(.ref a1)])) rfl rfl (hb hby d5_34)
  refine go st3 ?_
  show Go p e below _ (T3.setTop (mkF m 37 #[.val (.ref a1), .val (.int p2), .val (.int p3), .val (.int (0 : Int32)), .val (.int (3 : Int32)), .val (.int (1 : Int32))] [(.ref b)]))
  refine go (fun _ q => XS.iload X3.here hx rfl (hb hby d5_37) rfl q) ?_
  show Go p e below _ (T3.setTop (mkF m 39 #[.val (.ref a1), .val (.int p2), .val (.int p3), .val (.int (0 : Int32)), .val (.int (3 : Int32)), .val (.int (1 : Int32))] [(.int (1 : Int32)), (.ref b)]))
  refine go (own_iaload X3 hx hZ e3 F_b (j := (1 : Int32)) (by decide) (Nat.le_of_ble_eq_true rfl) (g := (mkF m 39 #[.val (.ref a1), .val (.int p2), .val (.int p3), .val (.int (0 : Int32)), .val (.int (3 : Int32)), .val (.int (1 : Int32))] [(.int (1 : Int32)), (.ref b)])) rfl rfl (hb hby d5_39)) ?_
  show Go p e below _ (T3.setTop (mkF m 40 #[.val (.ref a1), .val (.int p2), .val (.int p3), .val (.int (0 : Int32)), .val (.int (3 : Int32)), .val (.int (1 : Int32))] [(.int m1)]))
  refine go (fun _ q => XS.iloadN X3.here hx rfl (hb hby d5_40) rfl q) ?_
  show Go p e below _ (T3.setTop (mkF m 41 #[.val (.ref a1), .val (.int p2), .val (.int p3), .val (.int (0 : Int32)), .val (.int (3 : Int32)), .val (.int (1 : Int32))] [(.int p2), (.int m1)]))
  by_cases hc4 : m1 < p2
  · refine go (fun _ q => XS.icmpNo X3.here hx rfl (hb hby d5_41) rfl (tlt hc4).2.1 q) ?_
    show Go p e below _ (T3.setTop (mkF m 44 #[.val (.ref a1), .val (.int p2), .val (.int p3), .val (.int (0 : Int32)), .val (.int (3 : Int32)), .val (.int (1 : Int32))] []))
    refine go (fun _ q => XS.iload X3.here hx rfl (hb hby d5_44) rfl q) ?_
    show Go p e below _ (T3.setTop (mkF m 46 #[.val (.ref a1), .val (.int p2), .val (.int p3), .val (.int (0 : Int32)), .val (.int (3 : Int32)), .val (.int (1 : Int32))] [(.int (1 : Int32))]))
    refine go (fun _ q => XS.iconst X3.here hx rfl (hb hby d5_46) q) ?_
    show Go p e below _ (T3.setTop (mkF m 47 #[.val (.ref a1), .val (.int p2), .val (.int p3), .val (.int (0 : Int32)), .val (.int (3 : Int32)), .val (.int (1 : Int32))] [(.int (1 : Int32)), (.int (1 : Int32))]))
    refine go (fun _ q => XS.iadd X3.here hx rfl (hb hby d5_47) rfl q) ?_
    show Go p e below _ (T3.setTop (mkF m 48 #[.val (.ref a1), .val (.int p2), .val (.int p3), .val (.int (0 : Int32)), .val (.int (3 : Int32)), .val (.int (1 : Int32))] [(.int (2 : Int32))]))
    refine go (fun _ q => XS.istoreN X3.here hx rfl (hb hby d5_48) rfl (l' := #[.val (.ref a1), .val (.int p2), .val (.int p3), .val (.int (2 : Int32)), .val (.int (3 : Int32)), .val (.int (1 : Int32))]) rfl q) ?_
    show Go p e below _ (T3.setTop (mkF m 49 #[.val (.ref a1), .val (.int p2), .val (.int p3), .val (.int (2 : Int32)), .val (.int (3 : Int32)), .val (.int (1 : Int32))] []))
    refine go (fun _ q => XS.goto X3.here hx rfl (pc0 := 49) (pc' := 75) rfl (hb hby d5_49) (by decide) (by decide) q) ?_
    show Go p e below _ (T3.setTop (mkF m 75 #[.val (.ref a1), .val (.int p2), .val (.int p3), .val (.int (2 : Int32)), .val (.int (3 : Int32)), .val (.int (1 : Int32))] []))
    refine go (fun _ q => XS.goto X3.here hx rfl (pc0 := 75) (pc' := 19) rfl (hb hby d5_75) (by decide) (by decide) q) ?_
    show Go p e below _ (T3.setTop (mkF m 19 #[.val (.ref a1), .val (.int p2), .val (.int p3), .val (.int (2 : Int32)), .val (.int (3 : Int32)), .val (.int (1 : Int32))] []))
    refine go (fun _ q => XS.iloadN X3.here hx rfl (hb hby d5_19) rfl q) ?_
    show Go p e below _ (T3.setTop (mkF m 20 #[.val (.ref a1), .val (.int p2), .val (.int p3), .val (.int (2 : Int32)), .val (.int (3 : Int32)), .val (.int (1 : Int32))] [(.int (2 : Int32))]))
    refine go (fun _ q => XS.iload X3.here hx rfl (hb hby d5_20) rfl q) ?_
    show Go p e below _ (T3.setTop (mkF m 22 #[.val (.ref a1), .val (.int p2), .val (.int p3), .val (.int (2 : Int32)), .val (.int (3 : Int32)), .val (.int (1 : Int32))] [(.int (3 : Int32)), (.int (2 : Int32))]))
    refine go (fun _ q => XS.icmpNo X3.here hx rfl (hb hby d5_22) rfl (flt (by decide : ¬ ((3 : Int32) < (2 : Int32)))).2.2.1 q) ?_
    show Go p e below _ (T3.setTop (mkF m 25 #[.val (.ref a1), .val (.int p2), .val (.int p3), .val (.int (2 : Int32)), .val (.int (3 : Int32)), .val (.int (1 : Int32))] []))
    refine go (fun _ q => XS.iloadN X3.here hx rfl (hb hby d5_25) rfl q) ?_
    show Go p e below _ (T3.setTop (mkF m 26 #[.val (.ref a1), .val (.int p2), .val (.int p3), .val (.int (2 : Int32)), .val (.int (3 : Int32)), .val (.int (1 : Int32))] [(.int (2 : Int32))]))
    refine go (fun _ q => XS.iload X3.here hx rfl (hb hby d5_26) rfl q) ?_
    show Go p e below _ (T3.setTop (mkF m 28 #[.val (.ref a1), .val (.int p2), .val (.int p3), .val (.int (2 : Int32)), .val (.int (3 : Int32)), .val (.int (1 : Int32))] [(.int (3 : Int32)), (.int (2 : Int32))]))
    refine go (fun _ q => XS.iadd X3.here hx rfl (hb hby d5_28) rfl q) ?_
    show Go p e below _ (T3.setTop (mkF m 29 #[.val (.ref a1), .val (.int p2), .val (.int p3), .val (.int (2 : Int32)), .val (.int (3 : Int32)), .val (.int (1 : Int32))] [(.int (5 : Int32))]))
    refine go (fun _ q => XS.iconst X3.here hx rfl (hb hby d5_29) q) ?_
    show Go p e below _ (T3.setTop (mkF m 30 #[.val (.ref a1), .val (.int p2), .val (.int p3), .val (.int (2 : Int32)), .val (.int (3 : Int32)), .val (.int (1 : Int32))] [(.int (1 : Int32)), (.int (5 : Int32))]))
    refine go (fun _ q => XS.iushr X3.here hx rfl (hb hby d5_30) rfl q) ?_
    show Go p e below _ (T3.setTop (mkF m 31 #[.val (.ref a1), .val (.int p2), .val (.int p3), .val (.int (2 : Int32)), .val (.int (3 : Int32)), .val (.int (1 : Int32))] [(.int (2 : Int32))]))
    refine go (fun _ q => XS.istore X3.here hx rfl (hb hby d5_31) rfl (l' := #[.val (.ref a1), .val (.int p2), .val (.int p3), .val (.int (2 : Int32)), .val (.int (3 : Int32)), .val (.int (2 : Int32))]) rfl q) ?_
    show Go p e below _ (T3.setTop (mkF m 33 #[.val (.ref a1), .val (.int p2), .val (.int p3), .val (.int (2 : Int32)), .val (.int (3 : Int32)), .val (.int (2 : Int32))] []))
    refine go (fun _ q => XS.aloadN X3.here hx rfl (hb hby d5_33) rfl rfl q) ?_
    show Go p e below _ (T3.setTop (mkF m 34 #[.val (.ref a1), .val (.int p2), .val (.int p3), .val (.int (2 : Int32)), .val (.int (3 : Int32)), .val (.int (2 : Int32))] [(.ref a1)]))
    obtain ⟨T5, X5, e5, st5⟩ := getF X3 hx hZ hown (host := "") (Or.inl (hw _ (List.mem_of_getElem? (i := 17) rfl))) Via.refl e3 F_m (g := (mkF m 34 #[.val (.ref a1), .val (.int p2), .val (.int p3), .val (.int (2 : Int32)), .val (.int (3 : Int32)), .val (.int (2 : Int32))] [(.ref a1)])) rfl rfl (hb hby d5_34)
    refine go st5 ?_
    show Go p e below _ (T5.setTop (mkF m 37 #[.val (.ref a1), .val (.int p2), .val (.int p3), .val (.int (2 : Int32)), .val (.int (3 : Int32)), .val (.int (2 : Int32))] [(.ref b)]))
    refine go (fun _ q => XS.iload X5.here hx rfl (hb hby d5_37) rfl q) ?_
    show Go p e below _ (T5.setTop (mkF m 39 #[.val (.ref a1), .val (.int p2), .val (.int p3), .val (.int (2 : Int32)), .val (.int (3 : Int32)), .val (.int (2 : Int32))] [(.int (2 : Int32)), (.ref b)]))
    refine go (own_iaload X5 hx hZ e5 F_b (j := (2 : Int32)) (by decide) (Nat.le_of_ble_eq_true rfl) (g := (mkF m 39 #[.val (.ref a1), .val (.int p2), .val (.int p3), .val (.int (2 : Int32)), .val (.int (3 : Int32)), .val (.int (2 : Int32))] [(.int (2 : Int32)), (.ref b)])) rfl rfl (hb hby d5_39)) ?_
    show Go p e below _ (T5.setTop (mkF m 40 #[.val (.ref a1), .val (.int p2), .val (.int p3), .val (.int (2 : Int32)), .val (.int (3 : Int32)), .val (.int (2 : Int32))] [(.int m2)]))
    refine go (fun _ q => XS.iloadN X5.here hx rfl (hb hby d5_40) rfl q) ?_
    show Go p e below _ (T5.setTop (mkF m 41 #[.val (.ref a1), .val (.int p2), .val (.int p3), .val (.int (2 : Int32)), .val (.int (3 : Int32)), .val (.int (2 : Int32))] [(.int p2), (.int m2)]))
    by_cases hc6 : m2 < p2
    · refine go (fun _ q => XS.icmpNo X5.here hx rfl (hb hby d5_41) rfl (tlt hc6).2.1 q) ?_
      show Go p e below _ (T5.setTop (mkF m 44 #[.val (.ref a1), .val (.int p2), .val (.int p3), .val (.int (2 : Int32)), .val (.int (3 : Int32)), .val (.int (2 : Int32))] []))
      refine go (fun _ q => XS.iload X5.here hx rfl (hb hby d5_44) rfl q) ?_
      show Go p e below _ (T5.setTop (mkF m 46 #[.val (.ref a1), .val (.int p2), .val (.int p3), .val (.int (2 : Int32)), .val (.int (3 : Int32)), .val (.int (2 : Int32))] [(.int (2 : Int32))]))
      refine go (fun _ q => XS.iconst X5.here hx rfl (hb hby d5_46) q) ?_
      show Go p e below _ (T5.setTop (mkF m 47 #[.val (.ref a1), .val (.int p2), .val (.int p3), .val (.int (2 : Int32)), .val (.int (3 : Int32)), .val (.int (2 : Int32))] [(.int (1 : Int32)), (.int (2 : Int32))]))
      refine go (fun _ q => XS.iadd X5.here hx rfl (hb hby d5_47) rfl q) ?_
      show Go p e below _ (T5.setTop (mkF m 48 #[.val (.ref a1), .val (.int p2), .val (.int p3), .val (.int (2 : Int32)), .val (.int (3 : Int32)), .val (.int (2 : Int32))] [(.int (3 : Int32))]))
      refine go (fun _ q => XS.istoreN X5.here hx rfl (hb hby d5_48) rfl (l' := #[.val (.ref a1), .val (.int p2), .val (.int p3), .val (.int (3 : Int32)), .val (.int (3 : Int32)), .val (.int (2 : Int32))]) rfl q) ?_
      show Go p e below _ (T5.setTop (mkF m 49 #[.val (.ref a1), .val (.int p2), .val (.int p3), .val (.int (3 : Int32)), .val (.int (3 : Int32)), .val (.int (2 : Int32))] []))
      refine go (fun _ q => XS.goto X5.here hx rfl (pc0 := 49) (pc' := 75) rfl (hb hby d5_49) (by decide) (by decide) q) ?_
      show Go p e below _ (T5.setTop (mkF m 75 #[.val (.ref a1), .val (.int p2), .val (.int p3), .val (.int (3 : Int32)), .val (.int (3 : Int32)), .val (.int (2 : Int32))] []))
      refine go (fun _ q => XS.goto X5.here hx rfl (pc0 := 75) (pc' := 19) rfl (hb hby d5_75) (by decide) (by decide) q) ?_
      show Go p e below _ (T5.setTop (mkF m 19 #[.val (.ref a1), .val (.int p2), .val (.int p3), .val (.int (3 : Int32)), .val (.int (3 : Int32)), .val (.int (2 : Int32))] []))
      refine go (fun _ q => XS.iloadN X5.here hx rfl (hb hby d5_19) rfl q) ?_
      show Go p e below _ (T5.setTop (mkF m 20 #[.val (.ref a1), .val (.int p2), .val (.int p3), .val (.int (3 : Int32)), .val (.int (3 : Int32)), .val (.int (2 : Int32))] [(.int (3 : Int32))]))
      refine go (fun _ q => XS.iload X5.here hx rfl (hb hby d5_20) rfl q) ?_
      show Go p e below _ (T5.setTop (mkF m 22 #[.val (.ref a1), .val (.int p2), .val (.int p3), .val (.int (3 : Int32)), .val (.int (3 : Int32)), .val (.int (2 : Int32))] [(.int (3 : Int32)), (.int (3 : Int32))]))
      refine go (fun _ q => XS.icmpNo X5.here hx rfl (hb hby d5_22) rfl (flt (by decide : ¬ ((3 : Int32) < (3 : Int32)))).2.2.1 q) ?_
      show Go p e below _ (T5.setTop (mkF m 25 #[.val (.ref a1), .val (.int p2), .val (.int p3), .val (.int (3 : Int32)), .val (.int (3 : Int32)), .val (.int (2 : Int32))] []))
      refine go (fun _ q => XS.iloadN X5.here hx rfl (hb hby d5_25) rfl q) ?_
      show Go p e below _ (T5.setTop (mkF m 26 #[.val (.ref a1), .val (.int p2), .val (.int p3), .val (.int (3 : Int32)), .val (.int (3 : Int32)), .val (.int (2 : Int32))] [(.int (3 : Int32))]))
      refine go (fun _ q => XS.iload X5.here hx rfl (hb hby d5_26) rfl q) ?_
      show Go p e below _ (T5.setTop (mkF m 28 #[.val (.ref a1), .val (.int p2), .val (.int p3), .val (.int (3 : Int32)), .val (.int (3 : Int32)), .val (.int (2 : Int32))] [(.int (3 : Int32)), (.int (3 : Int32))]))
      refine go (fun _ q => XS.iadd X5.here hx rfl (hb hby d5_28) rfl q) ?_
      show Go p e below _ (T5.setTop (mkF m 29 #[.val (.ref a1), .val (.int p2), .val (.int p3), .val (.int (3 : Int32)), .val (.int (3 : Int32)), .val (.int (2 : Int32))] [(.int (6 : Int32))]))
      refine go (fun _ q => XS.iconst X5.here hx rfl (hb hby d5_29) q) ?_
      show Go p e below _ (T5.setTop (mkF m 30 #[.val (.ref a1), .val (.int p2), .val (.int p3), .val (.int (3 : Int32)), .val (.int (3 : Int32)), .val (.int (2 : Int32))] [(.int (1 : Int32)), (.int (6 : Int32))]))
      refine go (fun _ q => XS.iushr X5.here hx rfl (hb hby d5_30) rfl q) ?_
      show Go p e below _ (T5.setTop (mkF m 31 #[.val (.ref a1), .val (.int p2), .val (.int p3), .val (.int (3 : Int32)), .val (.int (3 : Int32)), .val (.int (2 : Int32))] [(.int (3 : Int32))]))
      refine go (fun _ q => XS.istore X5.here hx rfl (hb hby d5_31) rfl (l' := #[.val (.ref a1), .val (.int p2), .val (.int p3), .val (.int (3 : Int32)), .val (.int (3 : Int32)), .val (.int (3 : Int32))]) rfl q) ?_
      show Go p e below _ (T5.setTop (mkF m 33 #[.val (.ref a1), .val (.int p2), .val (.int p3), .val (.int (3 : Int32)), .val (.int (3 : Int32)), .val (.int (3 : Int32))] []))
      refine go (fun _ q => XS.aloadN X5.here hx rfl (hb hby d5_33) rfl rfl q) ?_
      show Go p e below _ (T5.setTop (mkF m 34 #[.val (.ref a1), .val (.int p2), .val (.int p3), .val (.int (3 : Int32)), .val (.int (3 : Int32)), .val (.int (3 : Int32))] [(.ref a1)]))
      obtain ⟨T7, X7, e7, st7⟩ := getF X5 hx hZ hown (host := "") (Or.inl (hw _ (List.mem_of_getElem? (i := 17) rfl))) Via.refl e5 F_m (g := (mkF m 34 #[.val (.ref a1), .val (.int p2), .val (.int p3), .val (.int (3 : Int32)), .val (.int (3 : Int32)), .val (.int (3 : Int32))] [(.ref a1)])) rfl rfl (hb hby d5_34)
      refine go st7 ?_
      show Go p e below _ (T7.setTop (mkF m 37 #[.val (.ref a1), .val (.int p2), .val (.int p3), .val (.int (3 : Int32)), .val (.int (3 : Int32)), .val (.int (3 : Int32))] [(.ref b)]))
      refine go (fun _ q => XS.iload X7.here hx rfl (hb hby d5_37) rfl q) ?_
      show Go p e below _ (T7.setTop (mkF m 39 #[.val (.ref a1), .val (.int p2), .val (.int p3), .val (.int (3 : Int32)), .val (.int (3 : Int32)), .val (.int (3 : Int32))] [(.int (3 : Int32)), (.ref b)]))
      refine go (own_iaload X7 hx hZ e7 F_b (j := (3 : Int32)) (by decide) (Nat.le_of_ble_eq_true rfl) (g := (mkF m 39 #[.val (.ref a1), .val (.int p2), .val (.int p3), .val (.int (3 : Int32)), .val (.int (3 : Int32)), .val (.int (3 : Int32))] [(.int (3 : Int32)), (.ref b)])) rfl rfl (hb hby d5_39)) ?_
      show Go p e below _ (T7.setTop (mkF m 40 #[.val (.ref a1), .val (.int p2), .val (.int p3), .val (.int (3 : Int32)), .val (.int (3 : Int32)), .val (.int (3 : Int32))] [(.int m3)]))
      refine go (fun _ q => XS.iloadN X7.here hx rfl (hb hby d5_40) rfl q) ?_
      show Go p e below _ (T7.setTop (mkF m 41 #[.val (.ref a1), .val (.int p2), .val (.int p3), .val (.int (3 : Int32)), .val (.int (3 : Int32)), .val (.int (3 : Int32))] [(.int p2), (.int m3)]))
      by_cases hc8 : m3 < p2
      · refine go (fun _ q => XS.icmpNo X7.here hx rfl (hb hby d5_41) rfl (tlt hc8).2.1 q) ?_
        show Go p e below _ (T7.setTop (mkF m 44 #[.val (.ref a1), .val (.int p2), .val (.int p3), .val (.int (3 : Int32)), .val (.int (3 : Int32)), .val (.int (3 : Int32))] []))
        refine go (fun _ q => XS.iload X7.here hx rfl (hb hby d5_44) rfl q) ?_
        show Go p e below _ (T7.setTop (mkF m 46 #[.val (.ref a1), .val (.int p2), .val (.int p3), .val (.int (3 : Int32)), .val (.int (3 : Int32)), .val (.int (3 : Int32))] [(.int (3 : Int32))]))
        refine go (fun _ q => XS.iconst X7.here hx rfl (hb hby d5_46) q) ?_
        show Go p e below _ (T7.setTop (mkF m 47 #[.val (.ref a1), .val (.int p2), .val (.int p3), .val (.int (3 : Int32)), .val (.int (3 : Int32)), .val (.int (3 : Int32))] [(.int (1 : Int32)), (.int (3 : Int32))]))
        refine go (fun _ q => XS.iadd X7.here hx rfl (hb hby d5_47) rfl q) ?_
        show Go p e below _ (T7.setTop (mkF m 48 #[.val (.ref a1), .val (.int p2), .val (.int p3), .val (.int (3 : Int32)), .val (.int (3 : Int32)), .val (.int (3 : Int32))] [(.int (4 : Int32))]))
        refine go (fun _ q => XS.istoreN X7.here hx rfl (hb hby d5_48) rfl (l' := #[.val (.ref a1), .val (.int p2), .val (.int p3), .val (.int (4 : Int32)), .val (.int (3 : Int32)), .val (.int (3 : Int32))]) rfl q) ?_
        show Go p e below _ (T7.setTop (mkF m 49 #[.val (.ref a1), .val (.int p2), .val (.int p3), .val (.int (4 : Int32)), .val (.int (3 : Int32)), .val (.int (3 : Int32))] []))
        refine go (fun _ q => XS.goto X7.here hx rfl (pc0 := 49) (pc' := 75) rfl (hb hby d5_49) (by decide) (by decide) q) ?_
        show Go p e below _ (T7.setTop (mkF m 75 #[.val (.ref a1), .val (.int p2), .val (.int p3), .val (.int (4 : Int32)), .val (.int (3 : Int32)), .val (.int (3 : Int32))] []))
        refine go (fun _ q => XS.goto X7.here hx rfl (pc0 := 75) (pc' := 19) rfl (hb hby d5_75) (by decide) (by decide) q) ?_
        show Go p e below _ (T7.setTop (mkF m 19 #[.val (.ref a1), .val (.int p2), .val (.int p3), .val (.int (4 : Int32)), .val (.int (3 : Int32)), .val (.int (3 : Int32))] []))
        refine go (fun _ q => XS.iloadN X7.here hx rfl (hb hby d5_19) rfl q) ?_
        show Go p e below _ (T7.setTop (mkF m 20 #[.val (.ref a1), .val (.int p2), .val (.int p3), .val (.int (4 : Int32)), .val (.int (3 : Int32)), .val (.int (3 : Int32))] [(.int (4 : Int32))]))
        refine go (fun _ q => XS.iload X7.here hx rfl (hb hby d5_20) rfl q) ?_
        show Go p e below _ (T7.setTop (mkF m 22 #[.val (.ref a1), .val (.int p2), .val (.int p3), .val (.int (4 : Int32)), .val (.int (3 : Int32)), .val (.int (3 : Int32))] [(.int (3 : Int32)), (.int (4 : Int32))]))
        refine go (fun _ q => XS.icmpYes X7.here hx rfl (pc0 := 22) (pc' := 78) rfl (hb hby d5_22) rfl (tlt (by decide : (3 : Int32) < (4 : Int32))).2.2.1 (by decide) (by decide) q) ?_
        show Go p e below _ (T7.setTop (mkF m 78 #[.val (.ref a1), .val (.int p2), .val (.int p3), .val (.int (4 : Int32)), .val (.int (3 : Int32)), .val (.int (3 : Int32))] []))
        refine go (fun _ q => XS.iconst X7.here hx rfl (hb hby d5_78) q) ?_
        show Go p e below _ (T7.setTop (mkF m 79 #[.val (.ref a1), .val (.int p2), .val (.int p3), .val (.int (4 : Int32)), .val (.int (3 : Int32)), .val (.int (3 : Int32))] [(.int (-1 : Int32))]))
        exact own_retI X7 hx hlk hret (hb hby d5_79) (by decide) (by decide) ⟨congrArg (fun z => some (Value.int z)) (by rw [t_0_4, if_pos hc4, if_pos hc6, if_pos hc8]), N0, e7⟩
      · refine go (fun _ q => XS.icmpYes X7.here hx rfl (pc0 := 41) (pc' := 52) rfl (hb hby d5_41) rfl (flt hc8).2.1 (by decide) (by decide) q) ?_
        show Go p e below _ (T7.setTop (mkF m 52 #[.val (.ref a1), .val (.int p2), .val (.int p3), .val (.int (3 : Int32)), .val (.int (3 : Int32)), .val (.int (3 : Int32))] []))
        refine go (fun _ q => XS.aloadN X7.here hx rfl (hb hby d5_52) rfl rfl q) ?_
        show Go p e below _ (T7.setTop (mkF m 53 #[.val (.ref a1), .val (.int p2), .val (.int p3), .val (.int (3 : Int32)), .val (.int (3 : Int32)), .val (.int (3 : Int32))] [(.ref a1)]))
        obtain ⟨T9, X9, e9, st9⟩ := getF X7 hx hZ hown (host := "") (Or.inl (hw _ (List.mem_of_getElem? (i := 17) rfl))) Via.refl e7 F_m (g := (mkF m 53 #[.val (.ref a1), .val (.int p2), .val (.int p3), .val (.int (3 : Int32)), .val (.int (3 : Int32)), .val (.int (3 : Int32))] [(.ref a1)])) rfl rfl (hb hby d5_53)
        refine go st9 ?_
        show Go p e below _ (T9.setTop (mkF m 56 #[.val (.ref a1), .val (.int p2), .val (.int p3), .val (.int (3 : Int32)), .val (.int (3 : Int32)), .val (.int (3 : Int32))] [(.ref b)]))
        refine go (fun _ q => XS.iload X9.here hx rfl (hb hby d5_56) rfl q) ?_
        show Go p e below _ (T9.setTop (mkF m 58 #[.val (.ref a1), .val (.int p2), .val (.int p3), .val (.int (3 : Int32)), .val (.int (3 : Int32)), .val (.int (3 : Int32))] [(.int (3 : Int32)), (.ref b)]))
        refine go (own_iaload X9 hx hZ e9 F_b (j := (3 : Int32)) (by decide) (Nat.le_of_ble_eq_true rfl) (g := (mkF m 58 #[.val (.ref a1), .val (.int p2), .val (.int p3), .val (.int (3 : Int32)), .val (.int (3 : Int32)), .val (.int (3 : Int32))] [(.int (3 : Int32)), (.ref b)])) rfl rfl (hb hby d5_58)) ?_
        show Go p e below _ (T9.setTop (mkF m 59 #[.val (.ref a1), .val (.int p2), .val (.int p3), .val (.int (3 : Int32)), .val (.int (3 : Int32)), .val (.int (3 : Int32))] [(.int m3)]))
        refine go (fun _ q => XS.iloadN X9.here hx rfl (hb hby d5_59) rfl q) ?_
        show Go p e below _ (T9.setTop (mkF m 60 #[.val (.ref a1), .val (.int p2), .val (.int p3), .val (.int (3 : Int32)), .val (.int (3 : Int32)), .val (.int (3 : Int32))] [(.int p2), (.int m3)]))
        by_cases hc10 : p2 < m3
        · refine go (fun _ q => XS.icmpNo X9.here hx rfl (hb hby d5_60) rfl (tlt hc10).2.2.2 q) ?_
          show Go p e below _ (T9.setTop (mkF m 63 #[.val (.ref a1), .val (.int p2), .val (.int p3), .val (.int (3 : Int32)), .val (.int (3 : Int32)), .val (.int (3 : Int32))] []))
          refine go (fun _ q => XS.iload X9.here hx rfl (hb hby d5_63) rfl q) ?_
          show Go p e below _ (T9.setTop (mkF m 65 #[.val (.ref a1), .val (.int p2), .val (.int p3), .val (.int (3 : Int32)), .val (.int (3 : Int32)), .val (.int (3 : Int32))] [(.int (3 : Int32))]))
          refine go (fun _ q => XS.iconst X9.here hx rfl (hb hby d5_65) q) ?_
          show Go p e below _ (T9.setTop (mkF m 66 #[.val (.ref a1), .val (.int p2), .val (.int p3), .val (.int (3 : Int32)), .val (.int (3 : Int32)), .val (.int (3 : Int32))] [(.int (1 : Int32)), (.int (3 : Int32))]))
          refine go (fun _ q => XS.isub X9.here hx rfl (hb hby d5_66) rfl q) ?_
          show Go p e below _ (T9.setTop (mkF m 67 #[.val (.ref a1), .val (.int p2), .val (.int p3), .val (.int (3 : Int32)), .val (.int (3 : Int32)), .val (.int (3 : Int32))] [(.int (2 : Int32))]))
          refine go (fun _ q => XS.istore X9.here hx rfl (hb hby d5_67) rfl (l' := #[.val (.ref a1), .val (.int p2), .val (.int p3), .val (.int (3 : Int32)), .val (.int (2 : Int32)), .val (.int (3 : Int32))]) rfl q) ?_
          show Go p e below _ (T9.setTop (mkF m 69 #[.val (.ref a1), .val (.int p2), .val (.int p3), .val (.int (3 : Int32)), .val (.int (2 : Int32)), .val (.int (3 : Int32))] []))
          refine go (fun _ q => XS.goto X9.here hx rfl (pc0 := 69) (pc' := 75) rfl (hb hby d5_69) (by decide) (by decide) q) ?_
          show Go p e below _ (T9.setTop (mkF m 75 #[.val (.ref a1), .val (.int p2), .val (.int p3), .val (.int (3 : Int32)), .val (.int (2 : Int32)), .val (.int (3 : Int32))] []))
          refine go (fun _ q => XS.goto X9.here hx rfl (pc0 := 75) (pc' := 19) rfl (hb hby d5_75) (by decide) (by decide) q) ?_
          show Go p e below _ (T9.setTop (mkF m 19 #[.val (.ref a1), .val (.int p2), .val (.int p3), .val (.int (3 : Int32)), .val (.int (2 : Int32)), .val (.int (3 : Int32))] []))
          refine go (fun _ q => XS.iloadN X9.here hx rfl (hb hby d5_19) rfl q) ?_
          show Go p e below _ (T9.setTop (mkF m 20 #[.val (.ref a1), .val (.int p2), .val (.int p3), .val (.int (3 : Int32)), .val (.int (2 : Int32)), .val (.int (3 : Int32))] [(.int (3 : Int32))]))
          refine go (fun _ q => XS.iload X9.here hx rfl (hb hby d5_20) rfl q) ?_
          show Go p e below _ (T9.setTop (mkF m 22 #[.val (.ref a1), .val (.int p2), .val (.int p3), .val (.int (3 : Int32)), .val (.int (2 : Int32)), .val (.int (3 : Int32))] [(.int (2 : Int32)), (.int (3 : Int32))]))
          refine go (fun _ q => XS.icmpYes X9.here hx rfl (pc0 := 22) (pc' := 78) rfl (hb hby d5_22) rfl (tlt (by decide : (2 : Int32) < (3 : Int32))).2.2.1 (by decide) (by decide) q) ?_
          show Go p e below _ (T9.setTop (mkF m 78 #[.val (.ref a1), .val (.int p2), .val (.int p3), .val (.int (3 : Int32)), .val (.int (2 : Int32)), .val (.int (3 : Int32))] []))
          refine go (fun _ q => XS.iconst X9.here hx rfl (hb hby d5_78) q) ?_
          show Go p e below _ (T9.setTop (mkF m 79 #[.val (.ref a1), .val (.int p2), .val (.int p3), .val (.int (3 : Int32)), .val (.int (2 : Int32)), .val (.int (3 : Int32))] [(.int (-1 : Int32))]))
          exact own_retI X9 hx hlk hret (hb hby d5_79) (by decide) (by decide) ⟨congrArg (fun z => some (Value.int z)) (by rw [t_0_4, if_pos hc4, if_pos hc6, if_neg hc8, if_pos hc10]), N0, e9⟩
        · refine go (fun _ q => XS.icmpYes X9.here hx rfl (pc0 := 60) (pc' := 72) rfl (hb hby d5_60) rfl (flt hc10).2.2.2 (by decide) (by decide) q) ?_
          show Go p e below _ (T9.setTop (mkF m 72 #[.val (.ref a1), .val (.int p2), .val (.int p3), .val (.int (3 : Int32)), .val (.int (3 : Int32)), .val (.int (3 : Int32))] []))
          refine go (fun _ q => XS.iload X9.here hx rfl (hb hby d5_72) rfl q) ?_
          show Go p e below _ (T9.setTop (mkF m 74 #[.val (.ref a1), .val (.int p2), .val (.int p3), .val (.int (3 : Int32)), .val (.int (3 : Int32)), .val (.int (3 : Int32))] [(.int (3 : Int32))]))
          exact own_retI X9 hx hlk hret (hb hby d5_74) (by decide) (by decide) ⟨congrArg (fun z => some (Value.int z)) (by rw [t_0_4, if_pos hc4, if_pos hc6, if_neg hc8, if_neg hc10]), N0, e9⟩
    · refine go (fun _ q => XS.icmpYes X5.here hx rfl (pc0 := 41) (pc' := 52) rfl (hb hby d5_41) rfl (flt hc6).2.1 (by decide) (by decide) q) ?_
      show Go p e below _ (T5.setTop (mkF m 52 #[.val (.ref a1), .val (.int p2), .val (.int p3), .val (.int (2 : Int32)), .val (.int (3 : Int32)), .val (.int (2 : Int32))] []))
      refine go (fun _ q => XS.aloadN X5.here hx rfl (hb hby d5_52) rfl rfl q) ?_
      show Go p e below _ (T5.setTop (mkF m 53 #[.val (.ref a1), .val (.int p2), .val (.int p3), .val (.int (2 : Int32)), .val (.int (3 : Int32)), .val (.int (2 : Int32))] [(.ref a1)]))
      obtain ⟨T11, X11, e11, st11⟩ := getF X5 hx hZ hown (host := "") (Or.inl (hw _ (List.mem_of_getElem? (i := 17) rfl))) Via.refl e5 F_m (g := (mkF m 53 #[.val (.ref a1), .val (.int p2), .val (.int p3), .val (.int (2 : Int32)), .val (.int (3 : Int32)), .val (.int (2 : Int32))] [(.ref a1)])) rfl rfl (hb hby d5_53)
      refine go st11 ?_
      show Go p e below _ (T11.setTop (mkF m 56 #[.val (.ref a1), .val (.int p2), .val (.int p3), .val (.int (2 : Int32)), .val (.int (3 : Int32)), .val (.int (2 : Int32))] [(.ref b)]))
      refine go (fun _ q => XS.iload X11.here hx rfl (hb hby d5_56) rfl q) ?_
      show Go p e below _ (T11.setTop (mkF m 58 #[.val (.ref a1), .val (.int p2), .val (.int p3), .val (.int (2 : Int32)), .val (.int (3 : Int32)), .val (.int (2 : Int32))] [(.int (2 : Int32)), (.ref b)]))
      refine go (own_iaload X11 hx hZ e11 F_b (j := (2 : Int32)) (by decide) (Nat.le_of_ble_eq_true rfl) (g := (mkF m 58 #[.val (.ref a1), .val (.int p2), .val (.int p3), .val (.int (2 : Int32)), .val (.int (3 : Int32)), .val (.int (2 : Int32))] [(.int (2 : Int32)), (.ref b)])) rfl rfl (hb hby d5_58)) ?_
      show Go p e below _ (T11.setTop (mkF m 59 #[.val (.ref a1), .val (.int p2), .val (.int p3), .val (.int (2 : Int32)), .val (.int (3 : Int32)), .val (.int (2 : Int32))] [(.int m2)]))
      refine go (fun _ q => XS.iloadN X11.here hx rfl (hb hby d5_59) rfl q) ?_
      show Go p e below _ (T11.setTop (mkF m 60 #[.val (.ref a1), .val (.int p2), .val (.int p3), .val (.int (2 : Int32)), .val (.int (3 : Int32)), .val (.int (2 : Int32))] [(.int p2), (.int m2)]))
      by_cases hc12 : p2 < m2
      · refine go (fun _ q => XS.icmpNo X11.here hx rfl (hb hby d5_60) rfl (tlt hc12).2.2.2 q) ?_
        show Go p e below _ (T11.setTop (mkF m 63 #[.val (.ref a1), .val (.int p2), .val (.int p3), .val (.int (2 : Int32)), .val (.int (3 : Int32)), .val (.int (2 : Int32))] []))
        refine go (fun _ q => XS.iload X11.here hx rfl (hb hby d5_63) rfl q) ?_
        show Go p e below _ (T11.setTop (mkF m 65 #[.val (.ref a1), .val (.int p2), .val (.int p3), .val (.int (2 : Int32)), .val (.int (3 : Int32)), .val (.int (2 : Int32))] [(.int (2 : Int32))]))
        refine go (fun _ q => XS.iconst X11.here hx rfl (hb hby d5_65) q) ?_
        show Go p e below _ (T11.setTop (mkF m 66 #[.val (.ref a1), .val (.int p2), .val (.int p3), .val (.int (2 : Int32)), .val (.int (3 : Int32)), .val (.int (2 : Int32))] [(.int (1 : Int32)), (.int (2 : Int32))]))
        refine go (fun _ q => XS.isub X11.here hx rfl (hb hby d5_66) rfl q) ?_
        show Go p e below _ (T11.setTop (mkF m 67 #[.val (.ref a1), .val (.int p2), .val (.int p3), .val (.int (2 : Int32)), .val (.int (3 : Int32)), .val (.int (2 : Int32))] [(.int (1 : Int32))]))
        refine go (fun _ q => XS.istore X11.here hx rfl (hb hby d5_67) rfl (l' := #[.val (.ref a1), .val (.int p2), .val (.int p3), .val (.int (2 : Int32)), .val (.int (1 : Int32)), .val (.int (2 : Int32))]) rfl q) ?_
        show Go p e below _ (T11.setTop (mkF m 69 #[.val (.ref a1), .val (.int p2), .val (.int p3), .val (.int (2 : Int32)), .val (.int (1 : Int32)), .val (.int (2 : Int32))] []))
        refine go (fun _ q => XS.goto X11.here hx rfl (pc0 := 69) (pc' := 75) rfl (hb hby d5_69) (by decide) (by decide) q) ?_
        show Go p e below _ (T11.setTop (mkF m 75 #[.val (.ref a1), .val (.int p2), .val (.int p3), .val (.int (2 : Int32)), .val (.int (1 : Int32)), .val (.int (2 : Int32))] []))
        refine go (fun _ q => XS.goto X11.here hx rfl (pc0 := 75) (pc' := 19) rfl (hb hby d5_75) (by decide) (by decide) q) ?_
        show Go p e below _ (T11.setTop (mkF m 19 #[.val (.ref a1), .val (.int p2), .val (.int p3), .val (.int (2 : Int32)), .val (.int (1 : Int32)), .val (.int (2 : Int32))] []))
        refine go (fun _ q => XS.iloadN X11.here hx rfl (hb hby d5_19) rfl q) ?_
        show Go p e below _ (T11.setTop (mkF m 20 #[.val (.ref a1), .val (.int p2), .val (.int p3), .val (.int (2 : Int32)), .val (.int (1 : Int32)), .val (.int (2 : Int32))] [(.int (2 : Int32))]))
        refine go (fun _ q => XS.iload X11.here hx rfl (hb hby d5_20) rfl q) ?_
        show Go p e below _ (T11.setTop (mkF m 22 #[.val (.ref a1), .val (.int p2), .val (.int p3), .val (.int (2 : Int32)), .val (.int (1 : Int32)), .val (.int (2 : Int32))] [(.int (1 : Int32)), (.int (2 : Int32))]))
        refine go (fun _ q => XS.icmpYes X11.here hx rfl (pc0 := 22) (pc' := 78) rfl (hb hby d5_22) rfl (tlt (by decide : (1 : Int32) < (2 : Int32))).2.2.1 (by decide) (by decide) q) ?_
        show Go p e below _ (T11.setTop (mkF m 78 #[.val (.ref a1), .val (.int p2), .val (.int p3), .val (.int (2 : Int32)), .val (.int (1 : Int32)), .val (.int (2 : Int32))] []))
        refine go (fun _ q => XS.iconst X11.here hx rfl (hb hby d5_78) q) ?_
        show Go p e below _ (T11.setTop (mkF m 79 #[.val (.ref a1), .val (.int p2), .val (.int p3), .val (.int (2 : Int32)), .val (.int (1 : Int32)), .val (.int (2 : Int32))] [(.int (-1 : Int32))]))
        exact own_retI X11 hx hlk hret (hb hby d5_79) (by decide) (by decide) ⟨congrArg (fun z => some (Value.int z)) (by rw [t_0_4, if_pos hc4, if_neg hc6, if_pos hc12]), N0, e11⟩
      · refine go (fun _ q => XS.icmpYes X11.here hx rfl (pc0 := 60) (pc' := 72) rfl (hb hby d5_60) rfl (flt hc12).2.2.2 (by decide) (by decide) q) ?_
        show Go p e below _ (T11.setTop (mkF m 72 #[.val (.ref a1), .val (.int p2), .val (.int p3), .val (.int (2 : Int32)), .val (.int (3 : Int32)), .val (.int (2 : Int32))] []))
        refine go (fun _ q => XS.iload X11.here hx rfl (hb hby d5_72) rfl q) ?_
        show Go p e below _ (T11.setTop (mkF m 74 #[.val (.ref a1), .val (.int p2), .val (.int p3), .val (.int (2 : Int32)), .val (.int (3 : Int32)), .val (.int (2 : Int32))] [(.int (2 : Int32))]))
        exact own_retI X11 hx hlk hret (hb hby d5_74) (by decide) (by decide) ⟨congrArg (fun z => some (Value.int z)) (by rw [t_0_4, if_pos hc4, if_neg hc6, if_neg hc12]), N0, e11⟩
  · refine go (fun _ q => XS.icmpYes X3.here hx rfl (pc0 := 41) (pc' := 52) rfl (hb hby d5_41) rfl (flt hc4).2.1 (by decide) (by decide) q) ?_
    show Go p e below _ (T3.setTop (mkF m 52 #[.val (.ref a1), .val (.int p2), .val (.int p3), .val (.int (0 : Int32)), .val (.int (3 : Int32)), .val (.int (1 : Int32))] []))
    refine go (fun _ q => XS.aloadN X3.here hx rfl (hb hby d5_52) rfl rfl q) ?_
    show Go p e below _ (T3.setTop (mkF m 53 #[.val (.ref a1), .val (.int p2), .val (.int p3), .val (.int (0 : Int32)), .val (.int (3 : Int32)), .val (.int (1 : Int32))] [(.ref a1)]))
    obtain ⟨T13, X13, e13, st13⟩ := getF X3 hx hZ hown (host := "") (Or.inl (hw _ (List.mem_of_getElem? (i := 17) rfl))) Via.refl e3 F_m (g := (mkF m 53 #[.val (.ref a1), .val (.int p2), .val (.int p3), .val (.int (0 : Int32)), .val (.int (3 : Int32)), .val (.int (1 : Int32))] [(.ref a1)])) rfl rfl (hb hby d5_53)
    refine go st13 ?_
    show Go p e below _ (T13.setTop (mkF m 56 #[.val (.ref a1), .val (.int p2), .val (.int p3), .val (.int (0 : Int32)), .val (.int (3 : Int32)), .val (.int (1 : Int32))] [(.ref b)]))
    refine go (fun _ q => XS.iload X13.here hx rfl (hb hby d5_56) rfl q) ?_
    show Go p e below _ (T13.setTop (mkF m 58 #[.val (.ref a1), .val (.int p2), .val (.int p3), .val (.int (0 : Int32)), .val (.int (3 : Int32)), .val (.int (1 : Int32))] [(.int (1 : Int32)), (.ref b)]))
    refine go (own_iaload X13 hx hZ e13 F_b (j := (1 : Int32)) (by decide) (Nat.le_of_ble_eq_true rfl) (g := (mkF m 58 #[.val (.ref a1), .val (.int p2), .val (.int p3), .val (.int (0 : Int32)), .val (.int (3 : Int32)), .val (.int (1 : Int32))] [(.int (1 : Int32)), (.ref b)])) rfl rfl (hb hby d5_58)) ?_
    show Go p e below _ (T13.setTop (mkF m 59 #[.val (.ref a1), .val (.int p2), .val (.int p3), .val (.int (0 : Int32)), .val (.int (3 : Int32)), .val (.int (1 : Int32))] [(.int m1)]))
    refine go (fun _ q => XS.iloadN X13.here hx rfl (hb hby d5_59) rfl q) ?_
    show Go p e below _ (T13.setTop (mkF m 60 #[.val (.ref a1), .val (.int p2), .val (.int p3), .val (.int (0 : Int32)), .val (.int (3 : Int32)), .val (.int (1 : Int32))] [(.int p2), (.int m1)]))
    by_cases hc14 : p2 < m1
    · refine go (fun _ q => XS.icmpNo X13.here hx rfl (hb hby d5_60) rfl (tlt hc14).2.2.2 q) ?_
      show Go p e below _ (T13.setTop (mkF m 63 #[.val (.ref a1), .val (.int p2), .val (.int p3), .val (.int (0 : Int32)), .val (.int (3 : Int32)), .val (.int (1 : Int32))] []))
      refine go (fun _ q => XS.iload X13.here hx rfl (hb hby d5_63) rfl q) ?_
      show Go p e below _ (T13.setTop (mkF m 65 #[.val (.ref a1), .val (.int p2), .val (.int p3), .val (.int (0 : Int32)), .val (.int (3 : Int32)), .val (.int (1 : Int32))] [(.int (1 : Int32))]))
      refine go (fun _ q => XS.iconst X13.here hx rfl (hb hby d5_65) q) ?_
      show Go p e below _ (T13.setTop (mkF m 66 #[.val (.ref a1), .val (.int p2), .val (.int p3), .val (.int (0 : Int32)), .val (.int (3 : Int32)), .val (.int (1 : Int32))] [(.int (1 : Int32)), (.int (1 : Int32))]))
      refine go (fun _ q => XS.isub X13.here hx rfl (hb hby d5_66) rfl q) ?_
      show Go p e below _ (T13.setTop (mkF m 67 #[.val (.ref a1), .val (.int p2), .val (.int p3), .val (.int (0 : Int32)), .val (.int (3 : Int32)), .val (.int (1 : Int32))] [(.int (0 : Int32))]))
      refine go (fun _ q => XS.istore X13.here hx rfl (hb hby d5_67) rfl (l' := #[.val (.ref a1), .val (.int p2), .val (.int p3), .val (.int (0 : Int32)), .val (.int (0 : Int32)), .val (.int (1 : Int32))]) rfl q) ?_
      show Go p e below _ (T13.setTop (mkF m 69 #[.val (.ref a1), .val (.int p2), .val (.int p3), .val (.int (0 : Int32)), .val (.int (0 : Int32)), .val (.int (1 : Int32))] []))
      refine go (fun _ q => XS.goto X13.here hx rfl (pc0 := 69) (pc' := 75) rfl (hb hby d5_69) (by decide) (by decide) q) ?_
      show Go p e below _ (T13.setTop (mkF m 75 #[.val (.ref a1), .val (.int p2), .val (.int p3), .val (.int (0 : Int32)), .val (.int (0 : Int32)), .val (.int (1 : Int32))] []))
      refine go (fun _ q => XS.goto X13.here hx rfl (pc0 := 75) (pc' := 19) rfl (hb hby d5_75) (by decide) (by decide) q) ?_
      show Go p e below _ (T13.setTop (mkF m 19 #[.val (.ref a1), .val (.int p2), .val (.int p3), .val (.int (0 : Int32)), .val (.int (0 : Int32)), .val (.int (1 : Int32))] []))
      refine go (fun _ q => XS.iloadN X13.here hx rfl (hb hby d5_19) rfl q) ?_
      show Go p e below _ (T13.setTop (mkF m 20 #[.val (.ref a1), .val (.int p2), .val (.int p3), .val (.int (0 : Int32)), .val (.int (0 : Int32)), .val (.int (1 : Int32))] [(.int (0 : Int32))]))
      refine go (fun _ q => XS.iload X13.here hx rfl (hb hby d5_20) rfl q) ?_
      show Go p e below _ (T13.setTop (mkF m 22 #[.val (.ref a1), .val (.int p2), .val (.int p3), .val (.int (0 : Int32)), .val (.int (0 : Int32)), .val (.int (1 : Int32))] [(.int (0 : Int32)), (.int (0 : Int32))]))
      refine go (fun _ q => XS.icmpNo X13.here hx rfl (hb hby d5_22) rfl (flt (by decide : ¬ ((0 : Int32) < (0 : Int32)))).2.2.1 q) ?_
      show Go p e below _ (T13.setTop (mkF m 25 #[.val (.ref a1), .val (.int p2), .val (.int p3), .val (.int (0 : Int32)), .val (.int (0 : Int32)), .val (.int (1 : Int32))] []))
      refine go (fun _ q => XS.iloadN X13.here hx rfl (hb hby d5_25) rfl q) ?_
      show Go p e below _ (T13.setTop (mkF m 26 #[.val (.ref a1), .val (.int p2), .val (.int p3), .val (.int (0 : Int32)), .val (.int (0 : Int32)), .val (.int (1 : Int32))] [(.int (0 : Int32))]))
      refine go (fun _ q => XS.iload X13.here hx rfl (hb hby d5_26) rfl q) ?_
      show Go p e below _ (T13.setTop (mkF m 28 #[.val (.ref a1), .val (.int p2), .val (.int p3), .val (.int (0 : Int32)), .val (.int (0 : Int32)), .val (.int (1 : Int32))] [(.int (0 : Int32)), (.int (0 : Int32))]))
      refine go (fun _ q => XS.iadd X13.here hx rfl (hb hby d5_28) rfl q) ?_
      show Go p e below _ (T13.setTop (mkF m 29 #[.val (.ref a1), .val (.int p2), .val (.int p3), .val (.int (0 : Int32)), .val (.int (0 : Int32)), .val (.int (1 : Int32))] [(.int (0 : Int32))]))
      refine go (fun _ q => XS.iconst X13.here hx rfl (hb hby d5_29) q) ?_
      show Go p e below _ (T13.setTop (mkF m 30 #[.val (.ref a1), .val (.int p2), .val (.int p3), .val (.int (0 : Int32)), .val (.int (0 : Int32)), .val (.int (1 : Int32))] [(.int (1 : Int32)), (.int (0 : Int32))]))
      refine go (fun _ q => XS.iushr X13.here hx rfl (hb hby d5_30) rfl q) ?_
      show Go p e below _ (T13.setTop (mkF m 31 #[.val (.ref a1), .val (.int p2), .val (.int p3), .val (.int (0 : Int32)), .val (.int (0 : Int32)), .val (.int (1 : Int32))] [(.int (0 : Int32))]))
      refine go (fun _ q => XS.istore X13.here hx rfl (hb hby d5_31) rfl (l' := #[.val (.ref a1), .val (.int p2), .val (.int p3), .val (.int (0 : Int32)), .val (.int (0 : Int32)), .val (.int (0 : Int32))]) rfl q) ?_
      show Go p e below _ (T13.setTop (mkF m 33 #[.val (.ref a1), .val (.int p2), .val (.int p3), .val (.int (0 : Int32)), .val (.int (0 : Int32)), .val (.int (0 : Int32))] []))
      refine go (fun _ q => XS.aloadN X13.here hx rfl (hb hby d5_33) rfl rfl q) ?_
      show Go p e below _ (T13.setTop (mkF m 34 #[.val (.ref a1), .val (.int p2), .val (.int p3), .val (.int (0 : Int32)), .val (.int (0 : Int32)), .val (.int (0 : Int32))] [(.ref a1)]))
      obtain ⟨T15, X15, e15, st15⟩ := getF X13 hx hZ hown (host := "") (Or.inl (hw _ (List.mem_of_getElem? (i := 17) rfl))) Via.refl e13 F_m (g := (mkF m 34 #[.val (.ref a1), .val (.int p2), .val (.int p3), .val (.int (0 : Int32)), .val (.int (0 : Int32)), .val (.int (0 : Int32))] [(.ref a1)])) rfl rfl (hb hby d5_34)
      refine go st15 ?_
      show Go p e below _ (T15.setTop (mkF m 37 #[.val (.ref a1), .val (.int p2), .val (.int p3), .val (.int (0 : Int32)), .val (.int (0 : Int32)), .val (.int (0 : Int32))] [(.ref b)]))
      refine go (fun _ q => XS.iload X15.here hx rfl (hb hby d5_37) rfl q) ?_
      show Go p e below _ (T15.setTop (mkF m 39 #[.val (.ref a1), .val (.int p2), .val (.int p3), .val (.int (0 : Int32)), .val (.int (0 : Int32)), .val (.int (0 : Int32))] [(.int (0 : Int32)), (.ref b)]))
      refine go (own_iaload X15 hx hZ e15 F_b (j := (0 : Int32)) (by decide) (Nat.le_of_ble_eq_true rfl) (g := (mkF m 39 #[.val (.ref a1), .val (.int p2), .val (.int p3), .val (.int (0 : Int32)), .val (.int (0 : Int32)), .val (.int (0 : Int32))] [(.int (0 : Int32)), (.ref b)])) rfl rfl (hb hby d5_39)) ?_
      show Go p e below _ (T15.setTop (mkF m 40 #[.val (.ref a1), .val (.int p2), .val (.int p3), .val (.int (0 : Int32)), .val (.int (0 : Int32)), .val (.int (0 : Int32))] [(.int m0)]))
      refine go (fun _ q => XS.iloadN X15.here hx rfl (hb hby d5_40) rfl q) ?_
      show Go p e below _ (T15.setTop (mkF m 41 #[.val (.ref a1), .val (.int p2), .val (.int p3), .val (.int (0 : Int32)), .val (.int (0 : Int32)), .val (.int (0 : Int32))] [(.int p2), (.int m0)]))
      by_cases hc16 : m0 < p2
      · refine go (fun _ q => XS.icmpNo X15.here hx rfl (hb hby d5_41) rfl (tlt hc16).2.1 q) ?_
        show Go p e below _ (T15.setTop (mkF m 44 #[.val (.ref a1), .val (.int p2), .val (.int p3), .val (.int (0 : Int32)), .val (.int (0 : Int32)), .val (.int (0 : Int32))] []))
        refine go (fun _ q => XS.iload X15.here hx rfl (hb hby d5_44) rfl q) ?_
        show Go p e below _ (T15.setTop (mkF m 46 #[.val (.ref a1), .val (.int p2), .val (.int p3), .val (.int (0 : Int32)), .val (.int (0 : Int32)), .val (.int (0 : Int32))] [(.int (0 : Int32))]))
        refine go (fun _ q => XS.iconst X15.here hx rfl (hb hby d5_46) q) ?_
        show Go p e below _ (T15.setTop (mkF m 47 #[.val (.ref a1), .val (.int p2), .val (.int p3), .val (.int (0 : Int32)), .val (.int (0 : Int32)), .val (.int (0 : Int32))] [(.int (1 : Int32)), (.int (0 : Int32))]))
        refine go (fun _ q => XS.iadd X15.here hx rfl (hb hby d5_47) rfl q) ?_
        show Go p e below _ (T15.setTop (mkF m 48 #[.val (.ref a1), .val (.int p2), .val (.int p3), .val (.int (0 : Int32)), .val (.int (0 : Int32)), .val (.int (0 : Int32))] [(.int (1 : Int32))]))
        refine go (fun _ q => XS.istoreN X15.here hx rfl (hb hby d5_48) rfl (l' := #[.val (.ref a1), .val (.int p2), .val (.int p3), .val (.int (1 : Int32)), .val (.int (0 : Int32)), .val (.int (0 : Int32))]) rfl q) ?_
        show Go p e below _ (T15.setTop (mkF m 49 #[.val (.ref a1), .val (.int p2), .val (.int p3), .val (.int (1 : Int32)), .val (.int (0 : Int32)), .val (.int (0 : Int32))] []))
        refine go (fun _ q => XS.goto X15.here hx rfl (pc0 := 49) (pc' := 75) rfl (hb hby d5_49) (by decide) (by decide) q) ?_
        show Go p e below _ (T15.setTop (mkF m 75 #[.val (.ref a1), .val (.int p2), .val (.int p3), .val (.int (1 : Int32)), .val (.int (0 : Int32)), .val (.int (0 : Int32))] []))
        refine go (fun _ q => XS.goto X15.here hx rfl (pc0 := 75) (pc' := 19) rfl (hb hby d5_75) (by decide) (by decide) q) ?_
        show Go p e below _ (T15.setTop (mkF m 19 #[.val (.ref a1), .val (.int p2), .val (.int p3), .val (.int (1 : Int32)), .val (.int (0 : Int32)), .val (.int (0 : Int32))] []))
        refine go (fun _ q => XS.iloadN X15.here hx rfl (hb hby d5_19) rfl q) ?_
        show Go p e below _ (T15.setTop (mkF m 20 #[.val (.ref a1), .val (.int p2), .val (.int p3), .val (.int (1 : Int32)), .val (.int (0 : Int32)), .val (.int (0 : Int32))] [(.int (1 : Int32))]))
        refine go (fun _ q => XS.iload X15.here hx rfl (hb hby d5_20) rfl q) ?_
        show Go p e below _ (T15.setTop (mkF m 22 #[.val (.ref a1), .val (.int p2), .val (.int p3), .val (.int (1 : Int32)), .val (.int (0 : Int32)), .val (.int (0 : Int32))] [(.int (0 : Int32)), (.int (1 : Int32))]))
        refine go (fun _ q => XS.icmpYes X15.here hx rfl (pc0 := 22) (pc' := 78) rfl (hb hby d5_22) rfl (tlt (by decide : (0 : Int32) < (1 : Int32))).2.2.1 (by decide) (by decide) q) ?_
        show Go p e below _ (T15.setTop (mkF m 78 #[.val (.ref a1), .val (.int p2), .val (.int p3), .val (.int (1 : Int32)), .val (.int (0 : Int32)), .val (.int (0 : Int32))] []))
        refine go (fun _ q => XS.iconst X15.here hx rfl (hb hby d5_78) q) ?_
        show Go p e below _ (T15.setTop (mkF m 79 #[.val (.ref a1), .val (.int p2), .val (.int p3), .val (.int (1 : Int32)), .val (.int (0 : Int32)), .val (.int (0 : Int32))] [(.int (-1 : Int32))]))
        exact own_retI X15 hx hlk hret (hb hby d5_79) (by decide) (by decide) ⟨congrArg (fun z => some (Value.int z)) (by rw [t_0_4, if_neg hc4, if_pos hc14, if_pos hc16]), N0, e15⟩
      · refine go (fun _ q => XS.icmpYes X15.here hx rfl (pc0 := 41) (pc' := 52) rfl (hb hby d5_41) rfl (flt hc16).2.1 (by decide) (by decide) q) ?_
        show Go p e below _ (T15.setTop (mkF m 52 #[.val (.ref a1), .val (.int p2), .val (.int p3), .val (.int (0 : Int32)), .val (.int (0 : Int32)), .val (.int (0 : Int32))] []))
        refine go (fun _ q => XS.aloadN X15.here hx rfl (hb hby d5_52) rfl rfl q) ?_
        show Go p e below _ (T15.setTop (mkF m 53 #[.val (.ref a1), .val (.int p2), .val (.int p3), .val (.int (0 : Int32)), .val (.int (0 : Int32)), .val (.int (0 : Int32))] [(.ref a1)]))
        obtain ⟨T17, X17, e17, st17⟩ := getF X15 hx hZ hown (host := "") (Or.inl (hw _ (List.mem_of_getElem? (i := 17) rfl))) Via.refl e15 F_m (g := (mkF m 53 #[.val (.ref a1), .val (.int p2), .val (.int p3), .val (.int (0 : Int32)), .val (.int (0 : Int32)), .val (.int (0 : Int32))] [(.ref a1)])) rfl rfl (hb hby d5_53)
        refine go st17 ?_
        show Go p e below _ (T17.setTop (mkF m 56 #[.val (.ref a1), .val (.int p2), .val (.int p3), .val (.int (0 : Int32)), .val (.int (0 : Int32)), .val (.int (0 : Int32))] [(.ref b)]))
        refine go (fun _ q => XS.iload X17.here hx rfl (hb hby d5_56) rfl q) ?_
        show Go p e below _ (T17.setTop (mkF m 58 #[.val (.ref a1), .val (.int p2), .val (.int p3), .val (.int (0 : Int32)), .val (.int (0 : Int32)), .val (.int (0 : Int32))] [(.int (0 : Int32)), (.ref b)]))
        refine go (own_iaload X17 hx hZ e17 F_b (j := (0 : Int32)) (by decide) (Nat.le_of_ble_eq_true rfl) (g := (mkF m 58 #[.val (.ref a1), .val (.int p2), .val (.int p3), .val (.int (0 : Int32)), .val (.int (0 : Int32)), .val (.int (0 : Int32))] [(.int (0 : Int32)), (.ref b)])) rfl rfl (hb hby d5_58)) ?_
        show Go p e below _ (T17.setTop (mkF m 59 #[.val (.ref a1), .val (.int p2), .val (.int p3), .val (.int (0 : Int32)), .val (.int (0 : Int32)), .val (.int (0 : Int32))] [(.int m0)]))
        refine go (fun _ q => XS.iloadN X17.here hx rfl (hb hby d5_59) rfl q) ?_
        show Go p e below _ (T17.setTop (mkF m 60 #[.val (.ref a1), .val (.int p2), .val (.int p3), .val (.int (0 : Int32)), .val (.int (0 : Int32)), .val (.int (0 : Int32))] [(.int p2), (.int m0)]))
        by_cases hc18 : p2 < m0
        · refine go (fun _ q => XS.icmpNo X17.here hx rfl (hb hby d5_60) rfl (tlt hc18).2.2.2 q) ?_
          show Go p e below _ (T17.setTop (mkF m 63 #[.val (.ref a1), .val (.int p2), .val (.int p3), .val (.int (0 : Int32)), .val (.int (0 : Int32)), .val (.int (0 : Int32))] []))
          refine go (fun _ q => XS.iload X17.here hx rfl (hb hby d5_63) rfl q) ?_
          show Go p e below _ (T17.setTop (mkF m 65 #[.val (.ref a1), .val (.int p2), .val (.int p3), .val (.int (0 : Int32)), .val (.int (0 : Int32)), .val (.int (0 : Int32))] [(.int (0 : Int32))]))
          refine go (fun _ q => XS.iconst X17.here hx rfl (hb hby d5_65) q) ?_
          show Go p e below _ (T17.setTop (mkF m 66 #[.val (.ref a1), .val (.int p2), .val (.int p3), .val (.int (0 : Int32)), .val (.int (0 : Int32)), .val (.int (0 : Int32))] [(.int (1 : Int32)), (.int (0 : Int32))]))
          refine go (fun _ q => XS.isub X17.here hx rfl (hb hby d5_66) rfl q) ?_
          show Go p e below _ (T17.setTop (mkF m 67 #[.val (.ref a1), .val (.int p2), .val (.int p3), .val (.int (0 : Int32)), .val (.int (0 : Int32)), .val (.int (0 : Int32))] [(.int (-1 : Int32))]))
          refine go (fun _ q => XS.istore X17.here hx rfl (hb hby d5_67) rfl (l' := #[.val (.ref a1), .val (.int p2), .val (.int p3), .val (.int (0 : Int32)), .val (.int (-1 : Int32)), .val (.int (0 : Int32))]) rfl q) ?_
          show Go p e below _ (T17.setTop (mkF m 69 #[.val (.ref a1), .val (.int p2), .val (.int p3), .val (.int (0 : Int32)), .val (.int (-1 : Int32)), .val (.int (0 : Int32))] []))
          refine go (fun _ q => XS.goto X17.here hx rfl (pc0 := 69) (pc' := 75) rfl (hb hby d5_69) (by decide) (by decide) q) ?_
          show Go p e below _ (T17.setTop (mkF m 75 #[.val (.ref a1), .val (.int p2), .val (.int p3), .val (.int (0 : Int32)), .val (.int (-1 : Int32)), .val (.int (0 : Int32))] []))
          refine go (fun _ q => XS.goto X17.here hx rfl (pc0 := 75) (pc' := 19) rfl (hb hby d5_75) (by decide) (by decide) q) ?_
          show Go p e below _ (T17.setTop (mkF m 19 #[.val (.ref a1), .val (.int p2), .val (.int p3), .val (.int (0 : Int32)), .val (.int (-1 : Int32)), .val (.int (0 : Int32))] []))
          refine go (fun _ q => XS.iloadN X17.here hx rfl (hb hby d5_19) rfl q) ?_
          show Go p e below _ (T17.setTop (mkF m 20 #[.val (.ref a1), .val (.int p2), .val (.int p3), .val (.int (0 : Int32)), .val (.int (-1 : Int32)), .val (.int (0 : Int32))] [(.int (0 : Int32))]))
          refine go (fun _ q => XS.iload X17.here hx rfl (hb hby d5_20) rfl q) ?_
          show Go p e below _ (T17.setTop (mkF m 22 #[.val (.ref a1), .val (.int p2), .val (.int p3), .val (.int (0 : Int32)), .val (.int (-1 : Int32)), .val (.int (0 : Int32))] [(.int (-1 : Int32)), (.int (0 : Int32))]))
          refine go (fun _ q => XS.icmpYes X17.here hx rfl (pc0 := 22) (pc' := 78) rfl (hb hby d5_22) rfl (tlt (by decide : (-1 : Int32) < (0 : Int32))).2.2.1 (by decide) (by decide) q) ?_
          show Go p e below _ (T17.setTop (mkF m 78 #[.val (.ref a1), .val (.int p2), .val (.int p3), .val (.int (0 : Int32)), .val (.int (-1 : Int32)), .val (.int (0 : Int32))] []))
          refine go (fun _ q => XS.iconst X17.here hx rfl (hb hby d5_78) q) ?_
          show Go p e below _ (T17.setTop (mkF m 79 #[.val (.ref a1), .val (.int p2), .val (.int p3), .val (.int (0 : Int32)), .val (.int (-1 : Int32)), .val (.int (0 : Int32))] [(.int (-1 : Int32))]))
          exact own_retI X17 hx hlk hret (hb hby d5_79) (by decide) (by decide) ⟨congrArg (fun z => some (Value.int z)) (by rw [t_0_4, if_neg hc4, if_pos hc14, if_neg hc16, if_pos hc18]), N0, e17⟩
        · refine go (fun _ q => XS.icmpYes X17.here hx rfl (pc0 := 60) (pc' := 72) rfl (hb hby d5_60) rfl (flt hc18).2.2.2 (by decide) (by decide) q) ?_
          show Go p e below _ (T17.setTop (mkF m 72 #[.val (.ref a1), .val (.int p2), .val (.int p3), .val (.int (0 : Int32)), .val (.int (0 : Int32)), .val (.int (0 : Int32))] []))
          refine go (fun _ q => XS.iload X17.here hx rfl (hb hby d5_72) rfl q) ?_
          show Go p e below _ (T17.setTop (mkF m 74 #[.val (.ref a1), .val (.int p2), .val (.int p3), .val (.int (0 : Int32)), .val (.int (0 : Int32)), .val (.int (0 : Int32))] [(.int (0 : Int32))]))
          exact own_retI X17 hx hlk hret (hb hby d5_74) (by decide) (by decide) ⟨congrArg (fun z => some (Value.int z)) (by rw [t_0_4, if_neg hc4, if_pos hc14, if_neg hc16, if_neg hc18]), N0, e17⟩
    · refine go (fun _ q => XS.icmpYes X13.here hx rfl (pc0 := 60) (pc' := 72) rfl (hb hby d5_60) rfl (flt hc14).2.2.2 (by decide) (by decide) q) ?_
      show Go p e below _ (T13.setTop (mkF m 72 #[.val (.ref a1), .val (.int p2), .val (.int p3), .val (.int (0 : Int32)), .val (.int (3 : Int32)), .val (.int (1 : Int32))] []))
      refine go (fun _ q => XS.iload X13.here hx rfl (hb hby d5_72) rfl q) ?_
      show Go p e below _ (T13.setTop (mkF m 74 #[.val (.ref a1), .val (.int p2), .val (.int p3), .val (.int (0 : Int32)), .val (.int (3 : Int32)), .val (.int (1 : Int32))] [(.int (1 : Int32))]))
      exact own_retI X13 hx hlk hret (hb hby d5_74) (by decide) (by decide) ⟨congrArg (fun z => some (Value.int z)) (by rw [t_0_4, if_neg hc4, if_neg hc14]), N0, e13⟩
def t_1_1 (p2 m0 m1 m2 m3 : Int32) : Int32 := (-1 : Int32)
set_option maxRecDepth 65536 in
set_option maxHeartbeats 40000000 in
theorem rmT_1_1 (l : Launch) (Z : State) (a0 : Array Value) (hw : ∀ d ∈ tables_1, d.before a0 Z = true) (ws : List Jvm.Cond) (a1 : Addr) (p2 : Int32) (p3 : Int32) (h0 : Heap) (n0 : Nat) {t b : Addr} {FA : List Int32} {m0 m1 m2 m3 : Int32} (hp : own_p3 p3) (lFA : FA.length = 4) (hlo : FA.getD (p3).toNatClampNeg 0 = (1 : Int32)) (hhi : FA.getD ((p3 + (1 : Int32))).toNatClampNeg 0 = (1 : Int32)) (F_f : Fld Z h0 a1 "com/example/junctura/junctura/conformance/OptimalPaths" "firstAt" "[I" (.ref t)) (F_m : Fld Z h0 a1 "com/example/junctura/junctura/conformance/OptimalPaths" "marking" "[I" (.ref b)) (F_t : Ari Z h0 t FA) (F_b : Ari Z h0 b ([m0, m1, m2, m3] : List Int32)) :
    MetFree l (⟨"com/example/junctura/junctura/conformance/OptimalPaths", "state", "(II)I"⟩ : MethodName) (head1 (Jvm.Cond.code (⟨"com/example/junctura/junctura/conformance/OptimalPaths", "state", "(II)I"⟩ : MethodName) prog_45_method_11_code 6 (some .int) :: ws) ({ frames := 0, cells := 0, slots := 0, locals := 0 } : Room)) (fun a U => a = #[(.ref a1), (.int p2), (.int p3)] ∧ Z.Warmed39 U.vm ∧ U.heap = h0) (fun _ _ _ _ _ => True) (fun _ U o U' => ∃ v L, o = .returned v ∧ (QP (some (.int (t_1_1 p2 m0 m1 m2 m3))) h0 n0) v U'.heap L ∧ FrameEnd U o U' L ({ frames := 0, cells := 0, slots := 0, locals := 0 } : Room).cells ({ frames := 0, cells := 0, slots := 0, locals := 0 } : Room).slots) := by
  refine own_met (plainFor_of_name pn_5) (fun m => ef_5 m a1 p2 p3) ?_
  intro p e s m below meth c T0 hx hby hml hown hnm hret hlk hZ X0 e0
  have hown : s.vm.findClass "com/example/junctura/junctura/conformance/OptimalPaths" = some m.cls := hown
  have hnm : meth.name = "state" := hnm
  have hret : meth.sig.returnType = some .int := hret
  have N0 := Fr.nil n0
  show Go p e below _ (T0.setTop (mkF m 0 #[.val (.ref a1), .val (.int p2), .val (.int p3), .unset, .unset, .unset] []))
  refine go (fun _ q => XS.aloadN X0.here hx rfl (hb hby d5_0) rfl rfl q) ?_
  show Go p e below _ (T0.setTop (mkF m 1 #[.val (.ref a1), .val (.int p2), .val (.int p3), .unset, .unset, .unset] [(.ref a1)]))
  obtain ⟨T1, X1, e1, st1⟩ := getF X0 hx hZ hown (host := "") (Or.inl (hw _ (List.mem_of_getElem? (i := 29) rfl))) Via.refl e0 F_f (g := (mkF m 1 #[.val (.ref a1), .val (.int p2), .val (.int p3), .unset, .unset, .unset] [(.ref a1)])) rfl rfl (hb hby d5_1)
  refine go st1 ?_
  show Go p e below _ (T1.setTop (mkF m 4 #[.val (.ref a1), .val (.int p2), .val (.int p3), .unset, .unset, .unset] [(.ref t)]))
  refine go (fun _ q => XS.iloadN X1.here hx rfl (hb hby d5_4) rfl q) ?_
  show Go p e below _ (T1.setTop (mkF m 5 #[.val (.ref a1), .val (.int p2), .val (.int p3), .unset, .unset, .unset] [(.int p3), (.ref t)]))
  refine go (own_iaload X1 hx hZ e1 F_t (j := p3) (own_i0 hp).1 (by rw [lFA]; exact (own_i0 hp).2) (g := (mkF m 5 #[.val (.ref a1), .val (.int p2), .val (.int p3), .unset, .unset, .unset] [(.int p3), (.ref t)])) rfl rfl (hb hby d5_5)) ?_
  show Go p e below _ (T1.setTop (mkF m 6 #[.val (.ref a1), .val (.int p2), .val (.int p3), .unset, .unset, .unset] [(.int (FA.getD (p3).toNatClampNeg 0))]))
  rw [hlo]
  show Go p e below _ (T1.setTop (mkF m 6 #[.val (.ref a1), .val (.int p2), .val (.int p3), .unset, .unset, .unset] [(.int (1 : Int32))]))
  refine go (fun _ q => XS.istoreN X1.here hx rfl (hb hby d5_6) rfl (l' := #[.val (.ref a1), .val (.int p2), .val (.int p3), .val (.int (1 : Int32)), .unset, .unset]) rfl q) ?_
  show Go p e below _ (T1.setTop (mkF m 7 #[.val (.ref a1), .val (.int p2), .val (.int p3), .val (.int (1 : Int32)), .unset, .unset] []))
  refine go (fun _ q => XS.aloadN X1.here hx rfl (hb hby d5_7) rfl rfl q) ?_
  show Go p e below _ (T1.setTop (mkF m 8 #[.val (.ref a1), .val (.int p2), .val (.int p3), .val (.int (1 : Int32)), .unset, .unset] [(.ref a1)]))
  obtain ⟨T2, X2, e2, st2⟩ := getF X1 hx hZ hown (host := "") (Or.inl (hw _ (List.mem_of_getElem? (i := 29) rfl))) Via.refl e1 F_f (g := (mkF m 8 #[.val (.ref a1), .val (.int p2), .val (.int p3), .val (.int (1 : Int32)), .unset, .unset] [(.ref a1)])) rfl rfl (hb hby d5_8)
  refine go st2 ?_
  show Go p e below _ (T2.setTop (mkF m 11 #[.val (.ref a1), .val (.int p2), .val (.int p3), .val (.int (1 : Int32)), .unset, .unset] [(.ref t)]))
  refine go (fun _ q => XS.iloadN X2.here hx rfl (hb hby d5_11) rfl q) ?_
  show Go p e below _ (T2.setTop (mkF m 12 #[.val (.ref a1), .val (.int p2), .val (.int p3), .val (.int (1 : Int32)), .unset, .unset] [(.int p3), (.ref t)]))
  refine go (fun _ q => XS.iconst X2.here hx rfl (hb hby d5_12) q) ?_
  show Go p e below _ (T2.setTop (mkF m 13 #[.val (.ref a1), .val (.int p2), .val (.int p3), .val (.int (1 : Int32)), .unset, .unset] [(.int (1 : Int32)), (.int p3), (.ref t)]))
  refine go (fun _ q => XS.iadd X2.here hx rfl (hb hby d5_13) rfl q) ?_
  show Go p e below _ (T2.setTop (mkF m 14 #[.val (.ref a1), .val (.int p2), .val (.int p3), .val (.int (1 : Int32)), .unset, .unset] [(.int (p3 + (1 : Int32))), (.ref t)]))
  refine go (own_iaload X2 hx hZ e2 F_t (j := (p3 + (1 : Int32))) (own_i1 hp).1 (by rw [lFA]; exact (own_i1 hp).2) (g := (mkF m 14 #[.val (.ref a1), .val (.int p2), .val (.int p3), .val (.int (1 : Int32)), .unset, .unset] [(.int (p3 + (1 : Int32))), (.ref t)])) rfl rfl (hb hby d5_14)) ?_
  show Go p e below _ (T2.setTop (mkF m 15 #[.val (.ref a1), .val (.int p2), .val (.int p3), .val (.int (1 : Int32)), .unset, .unset] [(.int (FA.getD ((p3 + (1 : Int32))).toNatClampNeg 0))]))
  rw [hhi]
  show Go p e below _ (T2.setTop (mkF m 15 #[.val (.ref a1), .val (.int p2), .val (.int p3), .val (.int (1 : Int32)), .unset, .unset] [(.int (1 : Int32))]))
  refine go (fun _ q => XS.iconst X2.here hx rfl (hb hby d5_15) q) ?_
  show Go p e below _ (T2.setTop (mkF m 16 #[.val (.ref a1), .val (.int p2), .val (.int p3), .val (.int (1 : Int32)), .unset, .unset] [(.int (1 : Int32)), (.int (1 : Int32))]))
  refine go (fun _ q => XS.isub X2.here hx rfl (hb hby d5_16) rfl q) ?_
  show Go p e below _ (T2.setTop (mkF m 17 #[.val (.ref a1), .val (.int p2), .val (.int p3), .val (.int (1 : Int32)), .unset, .unset] [(.int (0 : Int32))]))
  refine go (fun _ q => XS.istore X2.here hx rfl (hb hby d5_17) rfl (l' := #[.val (.ref a1), .val (.int p2), .val (.int p3), .val (.int (1 : Int32)), .val (.int (0 : Int32)), .unset]) rfl q) ?_
  show Go p e below _ (T2.setTop (mkF m 19 #[.val (.ref a1), .val (.int p2), .val (.int p3), .val (.int (1 : Int32)), .val (.int (0 : Int32)), .unset] []))
  refine go (fun _ q => XS.iloadN X2.here hx rfl (hb hby d5_19) rfl q) ?_
  show Go p e below _ (T2.setTop (mkF m 20 #[.val (.ref a1), .val (.int p2), .val (.int p3), .val (.int (1 : Int32)), .val (.int (0 : Int32)), .unset] [(.int (1 : Int32))]))
  refine go (fun _ q => XS.iload X2.here hx rfl (hb hby d5_20) rfl q) ?_
  show Go p e below _ (T2.setTop (mkF m 22 #[.val (.ref a1), .val (.int p2), .val (.int p3), .val (.int (1 : Int32)), .val (.int (0 : Int32)), .unset] [(.int (0 : Int32)), (.int (1 : Int32))]))
  refine go (fun _ q => XS.icmpYes X2.here hx rfl (pc0 := 22) (pc' := 78) rfl (hb hby d5_22) rfl (tlt (by decide : (0 : Int32) < (1 : Int32))).2.2.1 (by decide) (by decide) q) ?_
  show Go p e below _ (T2.setTop (mkF m 78 #[.val (.ref a1), .val (.int p2), .val (.int p3), .val (.int (1 : Int32)), .val (.int (0 : Int32)), .unset] []))
  refine go (fun _ q => XS.iconst X2.here hx rfl (hb hby d5_78) q) ?_
  show Go p e below _ (T2.setTop (mkF m 79 #[.val (.ref a1), .val (.int p2), .val (.int p3), .val (.int (1 : Int32)), .val (.int (0 : Int32)), .unset] [(.int (-1 : Int32))]))
  exact own_retI X2 hx hlk hret (hb hby d5_79) (by decide) (by decide) ⟨congrArg (fun z => some (Value.int z)) (by rw [t_1_1]), N0, e2⟩
def t_1_2 (p2 m0 m1 m2 m3 : Int32) : Int32 := (if m1 < p2 then (-1 : Int32) else (if p2 < m1 then (-1 : Int32) else (1 : Int32)))
set_option maxRecDepth 65536 in
set_option maxHeartbeats 40000000 in
theorem rmT_1_2 (l : Launch) (Z : State) (a0 : Array Value) (hw : ∀ d ∈ tables_1, d.before a0 Z = true) (ws : List Jvm.Cond) (a1 : Addr) (p2 : Int32) (p3 : Int32) (h0 : Heap) (n0 : Nat) {t b : Addr} {FA : List Int32} {m0 m1 m2 m3 : Int32} (hp : own_p3 p3) (lFA : FA.length = 4) (hlo : FA.getD (p3).toNatClampNeg 0 = (1 : Int32)) (hhi : FA.getD ((p3 + (1 : Int32))).toNatClampNeg 0 = (2 : Int32)) (F_f : Fld Z h0 a1 "com/example/junctura/junctura/conformance/OptimalPaths" "firstAt" "[I" (.ref t)) (F_m : Fld Z h0 a1 "com/example/junctura/junctura/conformance/OptimalPaths" "marking" "[I" (.ref b)) (F_t : Ari Z h0 t FA) (F_b : Ari Z h0 b ([m0, m1, m2, m3] : List Int32)) :
    MetFree l (⟨"com/example/junctura/junctura/conformance/OptimalPaths", "state", "(II)I"⟩ : MethodName) (head1 (Jvm.Cond.code (⟨"com/example/junctura/junctura/conformance/OptimalPaths", "state", "(II)I"⟩ : MethodName) prog_45_method_11_code 6 (some .int) :: ws) ({ frames := 0, cells := 0, slots := 0, locals := 0 } : Room)) (fun a U => a = #[(.ref a1), (.int p2), (.int p3)] ∧ Z.Warmed39 U.vm ∧ U.heap = h0) (fun _ _ _ _ _ => True) (fun _ U o U' => ∃ v L, o = .returned v ∧ (QP (some (.int (t_1_2 p2 m0 m1 m2 m3))) h0 n0) v U'.heap L ∧ FrameEnd U o U' L ({ frames := 0, cells := 0, slots := 0, locals := 0 } : Room).cells ({ frames := 0, cells := 0, slots := 0, locals := 0 } : Room).slots) := by
  refine own_met (plainFor_of_name pn_5) (fun m => ef_5 m a1 p2 p3) ?_
  intro p e s m below meth c T0 hx hby hml hown hnm hret hlk hZ X0 e0
  have hown : s.vm.findClass "com/example/junctura/junctura/conformance/OptimalPaths" = some m.cls := hown
  have hnm : meth.name = "state" := hnm
  have hret : meth.sig.returnType = some .int := hret
  have N0 := Fr.nil n0
  show Go p e below _ (T0.setTop (mkF m 0 #[.val (.ref a1), .val (.int p2), .val (.int p3), .unset, .unset, .unset] []))
  refine go (fun _ q => XS.aloadN X0.here hx rfl (hb hby d5_0) rfl rfl q) ?_
  show Go p e below _ (T0.setTop (mkF m 1 #[.val (.ref a1), .val (.int p2), .val (.int p3), .unset, .unset, .unset] [(.ref a1)]))
  obtain ⟨T1, X1, e1, st1⟩ := getF X0 hx hZ hown (host := "") (Or.inl (hw _ (List.mem_of_getElem? (i := 29) rfl))) Via.refl e0 F_f (g := (mkF m 1 #[.val (.ref a1), .val (.int p2), .val (.int p3), .unset, .unset, .unset] [(.ref a1)])) rfl rfl (hb hby d5_1)
  refine go st1 ?_
  show Go p e below _ (T1.setTop (mkF m 4 #[.val (.ref a1), .val (.int p2), .val (.int p3), .unset, .unset, .unset] [(.ref t)]))
  refine go (fun _ q => XS.iloadN X1.here hx rfl (hb hby d5_4) rfl q) ?_
  show Go p e below _ (T1.setTop (mkF m 5 #[.val (.ref a1), .val (.int p2), .val (.int p3), .unset, .unset, .unset] [(.int p3), (.ref t)]))
  refine go (own_iaload X1 hx hZ e1 F_t (j := p3) (own_i0 hp).1 (by rw [lFA]; exact (own_i0 hp).2) (g := (mkF m 5 #[.val (.ref a1), .val (.int p2), .val (.int p3), .unset, .unset, .unset] [(.int p3), (.ref t)])) rfl rfl (hb hby d5_5)) ?_
  show Go p e below _ (T1.setTop (mkF m 6 #[.val (.ref a1), .val (.int p2), .val (.int p3), .unset, .unset, .unset] [(.int (FA.getD (p3).toNatClampNeg 0))]))
  rw [hlo]
  show Go p e below _ (T1.setTop (mkF m 6 #[.val (.ref a1), .val (.int p2), .val (.int p3), .unset, .unset, .unset] [(.int (1 : Int32))]))
  refine go (fun _ q => XS.istoreN X1.here hx rfl (hb hby d5_6) rfl (l' := #[.val (.ref a1), .val (.int p2), .val (.int p3), .val (.int (1 : Int32)), .unset, .unset]) rfl q) ?_
  show Go p e below _ (T1.setTop (mkF m 7 #[.val (.ref a1), .val (.int p2), .val (.int p3), .val (.int (1 : Int32)), .unset, .unset] []))
  refine go (fun _ q => XS.aloadN X1.here hx rfl (hb hby d5_7) rfl rfl q) ?_
  show Go p e below _ (T1.setTop (mkF m 8 #[.val (.ref a1), .val (.int p2), .val (.int p3), .val (.int (1 : Int32)), .unset, .unset] [(.ref a1)]))
  obtain ⟨T2, X2, e2, st2⟩ := getF X1 hx hZ hown (host := "") (Or.inl (hw _ (List.mem_of_getElem? (i := 29) rfl))) Via.refl e1 F_f (g := (mkF m 8 #[.val (.ref a1), .val (.int p2), .val (.int p3), .val (.int (1 : Int32)), .unset, .unset] [(.ref a1)])) rfl rfl (hb hby d5_8)
  refine go st2 ?_
  show Go p e below _ (T2.setTop (mkF m 11 #[.val (.ref a1), .val (.int p2), .val (.int p3), .val (.int (1 : Int32)), .unset, .unset] [(.ref t)]))
  refine go (fun _ q => XS.iloadN X2.here hx rfl (hb hby d5_11) rfl q) ?_
  show Go p e below _ (T2.setTop (mkF m 12 #[.val (.ref a1), .val (.int p2), .val (.int p3), .val (.int (1 : Int32)), .unset, .unset] [(.int p3), (.ref t)]))
  refine go (fun _ q => XS.iconst X2.here hx rfl (hb hby d5_12) q) ?_
  show Go p e below _ (T2.setTop (mkF m 13 #[.val (.ref a1), .val (.int p2), .val (.int p3), .val (.int (1 : Int32)), .unset, .unset] [(.int (1 : Int32)), (.int p3), (.ref t)]))
  refine go (fun _ q => XS.iadd X2.here hx rfl (hb hby d5_13) rfl q) ?_
  show Go p e below _ (T2.setTop (mkF m 14 #[.val (.ref a1), .val (.int p2), .val (.int p3), .val (.int (1 : Int32)), .unset, .unset] [(.int (p3 + (1 : Int32))), (.ref t)]))
  refine go (own_iaload X2 hx hZ e2 F_t (j := (p3 + (1 : Int32))) (own_i1 hp).1 (by rw [lFA]; exact (own_i1 hp).2) (g := (mkF m 14 #[.val (.ref a1), .val (.int p2), .val (.int p3), .val (.int (1 : Int32)), .unset, .unset] [(.int (p3 + (1 : Int32))), (.ref t)])) rfl rfl (hb hby d5_14)) ?_
  show Go p e below _ (T2.setTop (mkF m 15 #[.val (.ref a1), .val (.int p2), .val (.int p3), .val (.int (1 : Int32)), .unset, .unset] [(.int (FA.getD ((p3 + (1 : Int32))).toNatClampNeg 0))]))
  rw [hhi]
  show Go p e below _ (T2.setTop (mkF m 15 #[.val (.ref a1), .val (.int p2), .val (.int p3), .val (.int (1 : Int32)), .unset, .unset] [(.int (2 : Int32))]))
  refine go (fun _ q => XS.iconst X2.here hx rfl (hb hby d5_15) q) ?_
  show Go p e below _ (T2.setTop (mkF m 16 #[.val (.ref a1), .val (.int p2), .val (.int p3), .val (.int (1 : Int32)), .unset, .unset] [(.int (1 : Int32)), (.int (2 : Int32))]))
  refine go (fun _ q => XS.isub X2.here hx rfl (hb hby d5_16) rfl q) ?_
  show Go p e below _ (T2.setTop (mkF m 17 #[.val (.ref a1), .val (.int p2), .val (.int p3), .val (.int (1 : Int32)), .unset, .unset] [(.int (1 : Int32))]))
  refine go (fun _ q => XS.istore X2.here hx rfl (hb hby d5_17) rfl (l' := #[.val (.ref a1), .val (.int p2), .val (.int p3), .val (.int (1 : Int32)), .val (.int (1 : Int32)), .unset]) rfl q) ?_
  show Go p e below _ (T2.setTop (mkF m 19 #[.val (.ref a1), .val (.int p2), .val (.int p3), .val (.int (1 : Int32)), .val (.int (1 : Int32)), .unset] []))
  refine go (fun _ q => XS.iloadN X2.here hx rfl (hb hby d5_19) rfl q) ?_
  show Go p e below _ (T2.setTop (mkF m 20 #[.val (.ref a1), .val (.int p2), .val (.int p3), .val (.int (1 : Int32)), .val (.int (1 : Int32)), .unset] [(.int (1 : Int32))]))
  refine go (fun _ q => XS.iload X2.here hx rfl (hb hby d5_20) rfl q) ?_
  show Go p e below _ (T2.setTop (mkF m 22 #[.val (.ref a1), .val (.int p2), .val (.int p3), .val (.int (1 : Int32)), .val (.int (1 : Int32)), .unset] [(.int (1 : Int32)), (.int (1 : Int32))]))
  refine go (fun _ q => XS.icmpNo X2.here hx rfl (hb hby d5_22) rfl (flt (by decide : ¬ ((1 : Int32) < (1 : Int32)))).2.2.1 q) ?_
  show Go p e below _ (T2.setTop (mkF m 25 #[.val (.ref a1), .val (.int p2), .val (.int p3), .val (.int (1 : Int32)), .val (.int (1 : Int32)), .unset] []))
  refine go (fun _ q => XS.iloadN X2.here hx rfl (hb hby d5_25) rfl q) ?_
  show Go p e below _ (T2.setTop (mkF m 26 #[.val (.ref a1), .val (.int p2), .val (.int p3), .val (.int (1 : Int32)), .val (.int (1 : Int32)), .unset] [(.int (1 : Int32))]))
  refine go (fun _ q => XS.iload X2.here hx rfl (hb hby d5_26) rfl q) ?_
  show Go p e below _ (T2.setTop (mkF m 28 #[.val (.ref a1), .val (.int p2), .val (.int p3), .val (.int (1 : Int32)), .val (.int (1 : Int32)), .unset] [(.int (1 : Int32)), (.int (1 : Int32))]))
  refine go (fun _ q => XS.iadd X2.here hx rfl (hb hby d5_28) rfl q) ?_
  show Go p e below _ (T2.setTop (mkF m 29 #[.val (.ref a1), .val (.int p2), .val (.int p3), .val (.int (1 : Int32)), .val (.int (1 : Int32)), .unset] [(.int (2 : Int32))]))
  refine go (fun _ q => XS.iconst X2.here hx rfl (hb hby d5_29) q) ?_
  show Go p e below _ (T2.setTop (mkF m 30 #[.val (.ref a1), .val (.int p2), .val (.int p3), .val (.int (1 : Int32)), .val (.int (1 : Int32)), .unset] [(.int (1 : Int32)), (.int (2 : Int32))]))
  refine go (fun _ q => XS.iushr X2.here hx rfl (hb hby d5_30) rfl q) ?_
  show Go p e below _ (T2.setTop (mkF m 31 #[.val (.ref a1), .val (.int p2), .val (.int p3), .val (.int (1 : Int32)), .val (.int (1 : Int32)), .unset] [(.int (1 : Int32))]))
  refine go (fun _ q => XS.istore X2.here hx rfl (hb hby d5_31) rfl (l' := #[.val (.ref a1), .val (.int p2), .val (.int p3), .val (.int (1 : Int32)), .val (.int (1 : Int32)), .val (.int (1 : Int32))]) rfl q) ?_
  show Go p e below _ (T2.setTop (mkF m 33 #[.val (.ref a1), .val (.int p2), .val (.int p3), .val (.int (1 : Int32)), .val (.int (1 : Int32)), .val (.int (1 : Int32))] []))
  refine go (fun _ q => XS.aloadN X2.here hx rfl (hb hby d5_33) rfl rfl q) ?_
  show Go p e below _ (T2.setTop (mkF m 34 #[.val (.ref a1), .val (.int p2), .val (.int p3), .val (.int (1 : Int32)), .val (.int (1 : Int32)), .val (.int (1 : Int32))] [(.ref a1)]))
  obtain ⟨T3, X3, e3, st3⟩ := getF X2 hx hZ hown (host := "") (Or.inl (hw _ (List.mem_of_getElem? (i := 17) rfl))) Via.refl e2 F_m (g := (mkF m 34 #[.val (.ref a1), .val (.int p2), .val (.int p3), .val (.int (1 : Int32)), .val (.int (1 : Int32)), .val (.int (1 : Int32))] [(.ref a1)])) rfl rfl (hb hby d5_34)
  refine go st3 ?_
  show Go p e below _ (T3.setTop (mkF m 37 #[.val (.ref a1), .val (.int p2), .val (.int p3), .val (.int (1 : Int32)), .val (.int (1 : Int32)), .val (.int (1 : Int32))] [(.ref b)]))
  refine go (fun _ q => XS.iload X3.here hx rfl (hb hby d5_37) rfl q) ?_
  show Go p e below _ (T3.setTop (mkF m 39 #[.val (.ref a1), .val (.int p2), .val (.int p3), .val (.int (1 : Int32)), .val (.int (1 : Int32)), .val (.int (1 : Int32))] [(.int (1 : Int32)), (.ref b)]))
  refine go (own_iaload X3 hx hZ e3 F_b (j := (1 : Int32)) (by decide) (Nat.le_of_ble_eq_true rfl) (g := (mkF m 39 #[.val (.ref a1), .val (.int p2), .val (.int p3), .val (.int (1 : Int32)), .val (.int (1 : Int32)), .val (.int (1 : Int32))] [(.int (1 : Int32)), (.ref b)])) rfl rfl (hb hby d5_39)) ?_
  show Go p e below _ (T3.setTop (mkF m 40 #[.val (.ref a1), .val (.int p2), .val (.int p3), .val (.int (1 : Int32)), .val (.int (1 : Int32)), .val (.int (1 : Int32))] [(.int m1)]))
  refine go (fun _ q => XS.iloadN X3.here hx rfl (hb hby d5_40) rfl q) ?_
  show Go p e below _ (T3.setTop (mkF m 41 #[.val (.ref a1), .val (.int p2), .val (.int p3), .val (.int (1 : Int32)), .val (.int (1 : Int32)), .val (.int (1 : Int32))] [(.int p2), (.int m1)]))
  by_cases hc4 : m1 < p2
  · refine go (fun _ q => XS.icmpNo X3.here hx rfl (hb hby d5_41) rfl (tlt hc4).2.1 q) ?_
    show Go p e below _ (T3.setTop (mkF m 44 #[.val (.ref a1), .val (.int p2), .val (.int p3), .val (.int (1 : Int32)), .val (.int (1 : Int32)), .val (.int (1 : Int32))] []))
    refine go (fun _ q => XS.iload X3.here hx rfl (hb hby d5_44) rfl q) ?_
    show Go p e below _ (T3.setTop (mkF m 46 #[.val (.ref a1), .val (.int p2), .val (.int p3), .val (.int (1 : Int32)), .val (.int (1 : Int32)), .val (.int (1 : Int32))] [(.int (1 : Int32))]))
    refine go (fun _ q => XS.iconst X3.here hx rfl (hb hby d5_46) q) ?_
    show Go p e below _ (T3.setTop (mkF m 47 #[.val (.ref a1), .val (.int p2), .val (.int p3), .val (.int (1 : Int32)), .val (.int (1 : Int32)), .val (.int (1 : Int32))] [(.int (1 : Int32)), (.int (1 : Int32))]))
    refine go (fun _ q => XS.iadd X3.here hx rfl (hb hby d5_47) rfl q) ?_
    show Go p e below _ (T3.setTop (mkF m 48 #[.val (.ref a1), .val (.int p2), .val (.int p3), .val (.int (1 : Int32)), .val (.int (1 : Int32)), .val (.int (1 : Int32))] [(.int (2 : Int32))]))
    refine go (fun _ q => XS.istoreN X3.here hx rfl (hb hby d5_48) rfl (l' := #[.val (.ref a1), .val (.int p2), .val (.int p3), .val (.int (2 : Int32)), .val (.int (1 : Int32)), .val (.int (1 : Int32))]) rfl q) ?_
    show Go p e below _ (T3.setTop (mkF m 49 #[.val (.ref a1), .val (.int p2), .val (.int p3), .val (.int (2 : Int32)), .val (.int (1 : Int32)), .val (.int (1 : Int32))] []))
    refine go (fun _ q => XS.goto X3.here hx rfl (pc0 := 49) (pc' := 75) rfl (hb hby d5_49) (by decide) (by decide) q) ?_
    show Go p e below _ (T3.setTop (mkF m 75 #[.val (.ref a1), .val (.int p2), .val (.int p3), .val (.int (2 : Int32)), .val (.int (1 : Int32)), .val (.int (1 : Int32))] []))
    refine go (fun _ q => XS.goto X3.here hx rfl (pc0 := 75) (pc' := 19) rfl (hb hby d5_75) (by decide) (by decide) q) ?_
    show Go p e below _ (T3.setTop (mkF m 19 #[.val (.ref a1), .val (.int p2), .val (.int p3), .val (.int (2 : Int32)), .val (.int (1 : Int32)), .val (.int (1 : Int32))] []))
    refine go (fun _ q => XS.iloadN X3.here hx rfl (hb hby d5_19) rfl q) ?_
    show Go p e below _ (T3.setTop (mkF m 20 #[.val (.ref a1), .val (.int p2), .val (.int p3), .val (.int (2 : Int32)), .val (.int (1 : Int32)), .val (.int (1 : Int32))] [(.int (2 : Int32))]))
    refine go (fun _ q => XS.iload X3.here hx rfl (hb hby d5_20) rfl q) ?_
    show Go p e below _ (T3.setTop (mkF m 22 #[.val (.ref a1), .val (.int p2), .val (.int p3), .val (.int (2 : Int32)), .val (.int (1 : Int32)), .val (.int (1 : Int32))] [(.int (1 : Int32)), (.int (2 : Int32))]))
    refine go (fun _ q => XS.icmpYes X3.here hx rfl (pc0 := 22) (pc' := 78) rfl (hb hby d5_22) rfl (tlt (by decide : (1 : Int32) < (2 : Int32))).2.2.1 (by decide) (by decide) q) ?_
    show Go p e below _ (T3.setTop (mkF m 78 #[.val (.ref a1), .val (.int p2), .val (.int p3), .val (.int (2 : Int32)), .val (.int (1 : Int32)), .val (.int (1 : Int32))] []))
    refine go (fun _ q => XS.iconst X3.here hx rfl (hb hby d5_78) q) ?_
    show Go p e below _ (T3.setTop (mkF m 79 #[.val (.ref a1), .val (.int p2), .val (.int p3), .val (.int (2 : Int32)), .val (.int (1 : Int32)), .val (.int (1 : Int32))] [(.int (-1 : Int32))]))
    exact own_retI X3 hx hlk hret (hb hby d5_79) (by decide) (by decide) ⟨congrArg (fun z => some (Value.int z)) (by rw [t_1_2, if_pos hc4]), N0, e3⟩
  · refine go (fun _ q => XS.icmpYes X3.here hx rfl (pc0 := 41) (pc' := 52) rfl (hb hby d5_41) rfl (flt hc4).2.1 (by decide) (by decide) q) ?_
    show Go p e below _ (T3.setTop (mkF m 52 #[.val (.ref a1), .val (.int p2), .val (.int p3), .val (.int (1 : Int32)), .val (.int (1 : Int32)), .val (.int (1 : Int32))] []))
    refine go (fun _ q => XS.aloadN X3.here hx rfl (hb hby d5_52) rfl rfl q) ?_
    show Go p e below _ (T3.setTop (mkF m 53 #[.val (.ref a1), .val (.int p2), .val (.int p3), .val (.int (1 : Int32)), .val (.int (1 : Int32)), .val (.int (1 : Int32))] [(.ref a1)]))
    obtain ⟨T5, X5, e5, st5⟩ := getF X3 hx hZ hown (host := "") (Or.inl (hw _ (List.mem_of_getElem? (i := 17) rfl))) Via.refl e3 F_m (g := (mkF m 53 #[.val (.ref a1), .val (.int p2), .val (.int p3), .val (.int (1 : Int32)), .val (.int (1 : Int32)), .val (.int (1 : Int32))] [(.ref a1)])) rfl rfl (hb hby d5_53)
    refine go st5 ?_
    show Go p e below _ (T5.setTop (mkF m 56 #[.val (.ref a1), .val (.int p2), .val (.int p3), .val (.int (1 : Int32)), .val (.int (1 : Int32)), .val (.int (1 : Int32))] [(.ref b)]))
    refine go (fun _ q => XS.iload X5.here hx rfl (hb hby d5_56) rfl q) ?_
    show Go p e below _ (T5.setTop (mkF m 58 #[.val (.ref a1), .val (.int p2), .val (.int p3), .val (.int (1 : Int32)), .val (.int (1 : Int32)), .val (.int (1 : Int32))] [(.int (1 : Int32)), (.ref b)]))
    refine go (own_iaload X5 hx hZ e5 F_b (j := (1 : Int32)) (by decide) (Nat.le_of_ble_eq_true rfl) (g := (mkF m 58 #[.val (.ref a1), .val (.int p2), .val (.int p3), .val (.int (1 : Int32)), .val (.int (1 : Int32)), .val (.int (1 : Int32))] [(.int (1 : Int32)), (.ref b)])) rfl rfl (hb hby d5_58)) ?_
    show Go p e below _ (T5.setTop (mkF m 59 #[.val (.ref a1), .val (.int p2), .val (.int p3), .val (.int (1 : Int32)), .val (.int (1 : Int32)), .val (.int (1 : Int32))] [(.int m1)]))
    refine go (fun _ q => XS.iloadN X5.here hx rfl (hb hby d5_59) rfl q) ?_
    show Go p e below _ (T5.setTop (mkF m 60 #[.val (.ref a1), .val (.int p2), .val (.int p3), .val (.int (1 : Int32)), .val (.int (1 : Int32)), .val (.int (1 : Int32))] [(.int p2), (.int m1)]))
    by_cases hc6 : p2 < m1
    · refine go (fun _ q => XS.icmpNo X5.here hx rfl (hb hby d5_60) rfl (tlt hc6).2.2.2 q) ?_
      show Go p e below _ (T5.setTop (mkF m 63 #[.val (.ref a1), .val (.int p2), .val (.int p3), .val (.int (1 : Int32)), .val (.int (1 : Int32)), .val (.int (1 : Int32))] []))
      refine go (fun _ q => XS.iload X5.here hx rfl (hb hby d5_63) rfl q) ?_
      show Go p e below _ (T5.setTop (mkF m 65 #[.val (.ref a1), .val (.int p2), .val (.int p3), .val (.int (1 : Int32)), .val (.int (1 : Int32)), .val (.int (1 : Int32))] [(.int (1 : Int32))]))
      refine go (fun _ q => XS.iconst X5.here hx rfl (hb hby d5_65) q) ?_
      show Go p e below _ (T5.setTop (mkF m 66 #[.val (.ref a1), .val (.int p2), .val (.int p3), .val (.int (1 : Int32)), .val (.int (1 : Int32)), .val (.int (1 : Int32))] [(.int (1 : Int32)), (.int (1 : Int32))]))
      refine go (fun _ q => XS.isub X5.here hx rfl (hb hby d5_66) rfl q) ?_
      show Go p e below _ (T5.setTop (mkF m 67 #[.val (.ref a1), .val (.int p2), .val (.int p3), .val (.int (1 : Int32)), .val (.int (1 : Int32)), .val (.int (1 : Int32))] [(.int (0 : Int32))]))
      refine go (fun _ q => XS.istore X5.here hx rfl (hb hby d5_67) rfl (l' := #[.val (.ref a1), .val (.int p2), .val (.int p3), .val (.int (1 : Int32)), .val (.int (0 : Int32)), .val (.int (1 : Int32))]) rfl q) ?_
      show Go p e below _ (T5.setTop (mkF m 69 #[.val (.ref a1), .val (.int p2), .val (.int p3), .val (.int (1 : Int32)), .val (.int (0 : Int32)), .val (.int (1 : Int32))] []))
      refine go (fun _ q => XS.goto X5.here hx rfl (pc0 := 69) (pc' := 75) rfl (hb hby d5_69) (by decide) (by decide) q) ?_
      show Go p e below _ (T5.setTop (mkF m 75 #[.val (.ref a1), .val (.int p2), .val (.int p3), .val (.int (1 : Int32)), .val (.int (0 : Int32)), .val (.int (1 : Int32))] []))
      refine go (fun _ q => XS.goto X5.here hx rfl (pc0 := 75) (pc' := 19) rfl (hb hby d5_75) (by decide) (by decide) q) ?_
      show Go p e below _ (T5.setTop (mkF m 19 #[.val (.ref a1), .val (.int p2), .val (.int p3), .val (.int (1 : Int32)), .val (.int (0 : Int32)), .val (.int (1 : Int32))] []))
      refine go (fun _ q => XS.iloadN X5.here hx rfl (hb hby d5_19) rfl q) ?_
      show Go p e below _ (T5.setTop (mkF m 20 #[.val (.ref a1), .val (.int p2), .val (.int p3), .val (.int (1 : Int32)), .val (.int (0 : Int32)), .val (.int (1 : Int32))] [(.int (1 : Int32))]))
      refine go (fun _ q => XS.iload X5.here hx rfl (hb hby d5_20) rfl q) ?_
      show Go p e below _ (T5.setTop (mkF m 22 #[.val (.ref a1), .val (.int p2), .val (.int p3), .val (.int (1 : Int32)), .val (.int (0 : Int32)), .val (.int (1 : Int32))] [(.int (0 : Int32)), (.int (1 : Int32))]))
      refine go (fun _ q => XS.icmpYes X5.here hx rfl (pc0 := 22) (pc' := 78) rfl (hb hby d5_22) rfl (tlt (by decide : (0 : Int32) < (1 : Int32))).2.2.1 (by decide) (by decide) q) ?_
      show Go p e below _ (T5.setTop (mkF m 78 #[.val (.ref a1), .val (.int p2), .val (.int p3), .val (.int (1 : Int32)), .val (.int (0 : Int32)), .val (.int (1 : Int32))] []))
      refine go (fun _ q => XS.iconst X5.here hx rfl (hb hby d5_78) q) ?_
      show Go p e below _ (T5.setTop (mkF m 79 #[.val (.ref a1), .val (.int p2), .val (.int p3), .val (.int (1 : Int32)), .val (.int (0 : Int32)), .val (.int (1 : Int32))] [(.int (-1 : Int32))]))
      exact own_retI X5 hx hlk hret (hb hby d5_79) (by decide) (by decide) ⟨congrArg (fun z => some (Value.int z)) (by rw [t_1_2, if_neg hc4, if_pos hc6]), N0, e5⟩
    · refine go (fun _ q => XS.icmpYes X5.here hx rfl (pc0 := 60) (pc' := 72) rfl (hb hby d5_60) rfl (flt hc6).2.2.2 (by decide) (by decide) q) ?_
      show Go p e below _ (T5.setTop (mkF m 72 #[.val (.ref a1), .val (.int p2), .val (.int p3), .val (.int (1 : Int32)), .val (.int (1 : Int32)), .val (.int (1 : Int32))] []))
      refine go (fun _ q => XS.iload X5.here hx rfl (hb hby d5_72) rfl q) ?_
      show Go p e below _ (T5.setTop (mkF m 74 #[.val (.ref a1), .val (.int p2), .val (.int p3), .val (.int (1 : Int32)), .val (.int (1 : Int32)), .val (.int (1 : Int32))] [(.int (1 : Int32))]))
      exact own_retI X5 hx hlk hret (hb hby d5_74) (by decide) (by decide) ⟨congrArg (fun z => some (Value.int z)) (by rw [t_1_2, if_neg hc4, if_neg hc6]), N0, e5⟩
def t_1_3 (p2 m0 m1 m2 m3 : Int32) : Int32 := (if m1 < p2 then (if m2 < p2 then (-1 : Int32) else (if p2 < m2 then (-1 : Int32) else (2 : Int32))) else (if p2 < m1 then (-1 : Int32) else (1 : Int32)))
set_option maxRecDepth 65536 in
set_option maxHeartbeats 40000000 in
theorem rmT_1_3 (l : Launch) (Z : State) (a0 : Array Value) (hw : ∀ d ∈ tables_1, d.before a0 Z = true) (ws : List Jvm.Cond) (a1 : Addr) (p2 : Int32) (p3 : Int32) (h0 : Heap) (n0 : Nat) {t b : Addr} {FA : List Int32} {m0 m1 m2 m3 : Int32} (hp : own_p3 p3) (lFA : FA.length = 4) (hlo : FA.getD (p3).toNatClampNeg 0 = (1 : Int32)) (hhi : FA.getD ((p3 + (1 : Int32))).toNatClampNeg 0 = (3 : Int32)) (F_f : Fld Z h0 a1 "com/example/junctura/junctura/conformance/OptimalPaths" "firstAt" "[I" (.ref t)) (F_m : Fld Z h0 a1 "com/example/junctura/junctura/conformance/OptimalPaths" "marking" "[I" (.ref b)) (F_t : Ari Z h0 t FA) (F_b : Ari Z h0 b ([m0, m1, m2, m3] : List Int32)) :
    MetFree l (⟨"com/example/junctura/junctura/conformance/OptimalPaths", "state", "(II)I"⟩ : MethodName) (head1 (Jvm.Cond.code (⟨"com/example/junctura/junctura/conformance/OptimalPaths", "state", "(II)I"⟩ : MethodName) prog_45_method_11_code 6 (some .int) :: ws) ({ frames := 0, cells := 0, slots := 0, locals := 0 } : Room)) (fun a U => a = #[(.ref a1), (.int p2), (.int p3)] ∧ Z.Warmed39 U.vm ∧ U.heap = h0) (fun _ _ _ _ _ => True) (fun _ U o U' => ∃ v L, o = .returned v ∧ (QP (some (.int (t_1_3 p2 m0 m1 m2 m3))) h0 n0) v U'.heap L ∧ FrameEnd U o U' L ({ frames := 0, cells := 0, slots := 0, locals := 0 } : Room).cells ({ frames := 0, cells := 0, slots := 0, locals := 0 } : Room).slots) := by
  refine own_met (plainFor_of_name pn_5) (fun m => ef_5 m a1 p2 p3) ?_
  intro p e s m below meth c T0 hx hby hml hown hnm hret hlk hZ X0 e0
  have hown : s.vm.findClass "com/example/junctura/junctura/conformance/OptimalPaths" = some m.cls := hown
  have hnm : meth.name = "state" := hnm
  have hret : meth.sig.returnType = some .int := hret
  have N0 := Fr.nil n0
  show Go p e below _ (T0.setTop (mkF m 0 #[.val (.ref a1), .val (.int p2), .val (.int p3), .unset, .unset, .unset] []))
  refine go (fun _ q => XS.aloadN X0.here hx rfl (hb hby d5_0) rfl rfl q) ?_
  show Go p e below _ (T0.setTop (mkF m 1 #[.val (.ref a1), .val (.int p2), .val (.int p3), .unset, .unset, .unset] [(.ref a1)]))
  obtain ⟨T1, X1, e1, st1⟩ := getF X0 hx hZ hown (host := "") (Or.inl (hw _ (List.mem_of_getElem? (i := 29) rfl))) Via.refl e0 F_f (g := (mkF m 1 #[.val (.ref a1), .val (.int p2), .val (.int p3), .unset, .unset, .unset] [(.ref a1)])) rfl rfl (hb hby d5_1)
  refine go st1 ?_
  show Go p e below _ (T1.setTop (mkF m 4 #[.val (.ref a1), .val (.int p2), .val (.int p3), .unset, .unset, .unset] [(.ref t)]))
  refine go (fun _ q => XS.iloadN X1.here hx rfl (hb hby d5_4) rfl q) ?_
  show Go p e below _ (T1.setTop (mkF m 5 #[.val (.ref a1), .val (.int p2), .val (.int p3), .unset, .unset, .unset] [(.int p3), (.ref t)]))
  refine go (own_iaload X1 hx hZ e1 F_t (j := p3) (own_i0 hp).1 (by rw [lFA]; exact (own_i0 hp).2) (g := (mkF m 5 #[.val (.ref a1), .val (.int p2), .val (.int p3), .unset, .unset, .unset] [(.int p3), (.ref t)])) rfl rfl (hb hby d5_5)) ?_
  show Go p e below _ (T1.setTop (mkF m 6 #[.val (.ref a1), .val (.int p2), .val (.int p3), .unset, .unset, .unset] [(.int (FA.getD (p3).toNatClampNeg 0))]))
  rw [hlo]
  show Go p e below _ (T1.setTop (mkF m 6 #[.val (.ref a1), .val (.int p2), .val (.int p3), .unset, .unset, .unset] [(.int (1 : Int32))]))
  refine go (fun _ q => XS.istoreN X1.here hx rfl (hb hby d5_6) rfl (l' := #[.val (.ref a1), .val (.int p2), .val (.int p3), .val (.int (1 : Int32)), .unset, .unset]) rfl q) ?_
  show Go p e below _ (T1.setTop (mkF m 7 #[.val (.ref a1), .val (.int p2), .val (.int p3), .val (.int (1 : Int32)), .unset, .unset] []))
  refine go (fun _ q => XS.aloadN X1.here hx rfl (hb hby d5_7) rfl rfl q) ?_
  show Go p e below _ (T1.setTop (mkF m 8 #[.val (.ref a1), .val (.int p2), .val (.int p3), .val (.int (1 : Int32)), .unset, .unset] [(.ref a1)]))
  obtain ⟨T2, X2, e2, st2⟩ := getF X1 hx hZ hown (host := "") (Or.inl (hw _ (List.mem_of_getElem? (i := 29) rfl))) Via.refl e1 F_f (g := (mkF m 8 #[.val (.ref a1), .val (.int p2), .val (.int p3), .val (.int (1 : Int32)), .unset, .unset] [(.ref a1)])) rfl rfl (hb hby d5_8)
  refine go st2 ?_
  show Go p e below _ (T2.setTop (mkF m 11 #[.val (.ref a1), .val (.int p2), .val (.int p3), .val (.int (1 : Int32)), .unset, .unset] [(.ref t)]))
  refine go (fun _ q => XS.iloadN X2.here hx rfl (hb hby d5_11) rfl q) ?_
  show Go p e below _ (T2.setTop (mkF m 12 #[.val (.ref a1), .val (.int p2), .val (.int p3), .val (.int (1 : Int32)), .unset, .unset] [(.int p3), (.ref t)]))
  refine go (fun _ q => XS.iconst X2.here hx rfl (hb hby d5_12) q) ?_
  show Go p e below _ (T2.setTop (mkF m 13 #[.val (.ref a1), .val (.int p2), .val (.int p3), .val (.int (1 : Int32)), .unset, .unset] [(.int (1 : Int32)), (.int p3), (.ref t)]))
  refine go (fun _ q => XS.iadd X2.here hx rfl (hb hby d5_13) rfl q) ?_
  show Go p e below _ (T2.setTop (mkF m 14 #[.val (.ref a1), .val (.int p2), .val (.int p3), .val (.int (1 : Int32)), .unset, .unset] [(.int (p3 + (1 : Int32))), (.ref t)]))
  refine go (own_iaload X2 hx hZ e2 F_t (j := (p3 + (1 : Int32))) (own_i1 hp).1 (by rw [lFA]; exact (own_i1 hp).2) (g := (mkF m 14 #[.val (.ref a1), .val (.int p2), .val (.int p3), .val (.int (1 : Int32)), .unset, .unset] [(.int (p3 + (1 : Int32))), (.ref t)])) rfl rfl (hb hby d5_14)) ?_
  show Go p e below _ (T2.setTop (mkF m 15 #[.val (.ref a1), .val (.int p2), .val (.int p3), .val (.int (1 : Int32)), .unset, .unset] [(.int (FA.getD ((p3 + (1 : Int32))).toNatClampNeg 0))]))
  rw [hhi]
  show Go p e below _ (T2.setTop (mkF m 15 #[.val (.ref a1), .val (.int p2), .val (.int p3), .val (.int (1 : Int32)), .unset, .unset] [(.int (3 : Int32))]))
  refine go (fun _ q => XS.iconst X2.here hx rfl (hb hby d5_15) q) ?_
  show Go p e below _ (T2.setTop (mkF m 16 #[.val (.ref a1), .val (.int p2), .val (.int p3), .val (.int (1 : Int32)), .unset, .unset] [(.int (1 : Int32)), (.int (3 : Int32))]))
  refine go (fun _ q => XS.isub X2.here hx rfl (hb hby d5_16) rfl q) ?_
  show Go p e below _ (T2.setTop (mkF m 17 #[.val (.ref a1), .val (.int p2), .val (.int p3), .val (.int (1 : Int32)), .unset, .unset] [(.int (2 : Int32))]))
  refine go (fun _ q => XS.istore X2.here hx rfl (hb hby d5_17) rfl (l' := #[.val (.ref a1), .val (.int p2), .val (.int p3), .val (.int (1 : Int32)), .val (.int (2 : Int32)), .unset]) rfl q) ?_
  show Go p e below _ (T2.setTop (mkF m 19 #[.val (.ref a1), .val (.int p2), .val (.int p3), .val (.int (1 : Int32)), .val (.int (2 : Int32)), .unset] []))
  refine go (fun _ q => XS.iloadN X2.here hx rfl (hb hby d5_19) rfl q) ?_
  show Go p e below _ (T2.setTop (mkF m 20 #[.val (.ref a1), .val (.int p2), .val (.int p3), .val (.int (1 : Int32)), .val (.int (2 : Int32)), .unset] [(.int (1 : Int32))]))
  refine go (fun _ q => XS.iload X2.here hx rfl (hb hby d5_20) rfl q) ?_
  show Go p e below _ (T2.setTop (mkF m 22 #[.val (.ref a1), .val (.int p2), .val (.int p3), .val (.int (1 : Int32)), .val (.int (2 : Int32)), .unset] [(.int (2 : Int32)), (.int (1 : Int32))]))
  refine go (fun _ q => XS.icmpNo X2.here hx rfl (hb hby d5_22) rfl (flt (by decide : ¬ ((2 : Int32) < (1 : Int32)))).2.2.1 q) ?_
  show Go p e below _ (T2.setTop (mkF m 25 #[.val (.ref a1), .val (.int p2), .val (.int p3), .val (.int (1 : Int32)), .val (.int (2 : Int32)), .unset] []))
  refine go (fun _ q => XS.iloadN X2.here hx rfl (hb hby d5_25) rfl q) ?_
  show Go p e below _ (T2.setTop (mkF m 26 #[.val (.ref a1), .val (.int p2), .val (.int p3), .val (.int (1 : Int32)), .val (.int (2 : Int32)), .unset] [(.int (1 : Int32))]))
  refine go (fun _ q => XS.iload X2.here hx rfl (hb hby d5_26) rfl q) ?_
  show Go p e below _ (T2.setTop (mkF m 28 #[.val (.ref a1), .val (.int p2), .val (.int p3), .val (.int (1 : Int32)), .val (.int (2 : Int32)), .unset] [(.int (2 : Int32)), (.int (1 : Int32))]))
  refine go (fun _ q => XS.iadd X2.here hx rfl (hb hby d5_28) rfl q) ?_
  show Go p e below _ (T2.setTop (mkF m 29 #[.val (.ref a1), .val (.int p2), .val (.int p3), .val (.int (1 : Int32)), .val (.int (2 : Int32)), .unset] [(.int (3 : Int32))]))
  refine go (fun _ q => XS.iconst X2.here hx rfl (hb hby d5_29) q) ?_
  show Go p e below _ (T2.setTop (mkF m 30 #[.val (.ref a1), .val (.int p2), .val (.int p3), .val (.int (1 : Int32)), .val (.int (2 : Int32)), .unset] [(.int (1 : Int32)), (.int (3 : Int32))]))
  refine go (fun _ q => XS.iushr X2.here hx rfl (hb hby d5_30) rfl q) ?_
  show Go p e below _ (T2.setTop (mkF m 31 #[.val (.ref a1), .val (.int p2), .val (.int p3), .val (.int (1 : Int32)), .val (.int (2 : Int32)), .unset] [(.int (1 : Int32))]))
  refine go (fun _ q => XS.istore X2.here hx rfl (hb hby d5_31) rfl (l' := #[.val (.ref a1), .val (.int p2), .val (.int p3), .val (.int (1 : Int32)), .val (.int (2 : Int32)), .val (.int (1 : Int32))]) rfl q) ?_
  show Go p e below _ (T2.setTop (mkF m 33 #[.val (.ref a1), .val (.int p2), .val (.int p3), .val (.int (1 : Int32)), .val (.int (2 : Int32)), .val (.int (1 : Int32))] []))
  refine go (fun _ q => XS.aloadN X2.here hx rfl (hb hby d5_33) rfl rfl q) ?_
  show Go p e below _ (T2.setTop (mkF m 34 #[.val (.ref a1), .val (.int p2), .val (.int p3), .val (.int (1 : Int32)), .val (.int (2 : Int32)), .val (.int (1 : Int32))] [(.ref a1)]))
  obtain ⟨T3, X3, e3, st3⟩ := getF X2 hx hZ hown (host := "") (Or.inl (hw _ (List.mem_of_getElem? (i := 17) rfl))) Via.refl e2 F_m (g := (mkF m 34 #[.val (.ref a1), .val (.int p2), .val (.int p3), .val (.int (1 : Int32)), .val (.int (2 : Int32)), .val (.int (1 : Int32))] [(.ref a1)])) rfl rfl (hb hby d5_34)
  refine go st3 ?_
  show Go p e below _ (T3.setTop (mkF m 37 #[.val (.ref a1), .val (.int p2), .val (.int p3), .val (.int (1 : Int32)), .val (.int (2 : Int32)), .val (.int (1 : Int32))] [(.ref b)]))
  refine go (fun _ q => XS.iload X3.here hx rfl (hb hby d5_37) rfl q) ?_
  show Go p e below _ (T3.setTop (mkF m 39 #[.val (.ref a1), .val (.int p2), .val (.int p3), .val (.int (1 : Int32)), .val (.int (2 : Int32)), .val (.int (1 : Int32))] [(.int (1 : Int32)), (.ref b)]))
  refine go (own_iaload X3 hx hZ e3 F_b (j := (1 : Int32)) (by decide) (Nat.le_of_ble_eq_true rfl) (g := (mkF m 39 #[.val (.ref a1), .val (.int p2), .val (.int p3), .val (.int (1 : Int32)), .val (.int (2 : Int32)), .val (.int (1 : Int32))] [(.int (1 : Int32)), (.ref b)])) rfl rfl (hb hby d5_39)) ?_
  show Go p e below _ (T3.setTop (mkF m 40 #[.val (.ref a1), .val (.int p2), .val (.int p3), .val (.int (1 : Int32)), .val (.int (2 : Int32)), .val (.int (1 : Int32))] [(.int m1)]))
  refine go (fun _ q => XS.iloadN X3.here hx rfl (hb hby d5_40) rfl q) ?_
  show Go p e below _ (T3.setTop (mkF m 41 #[.val (.ref a1), .val (.int p2), .val (.int p3), .val (.int (1 : Int32)), .val (.int (2 : Int32)), .val (.int (1 : Int32))] [(.int p2), (.int m1)]))
  by_cases hc4 : m1 < p2
  · refine go (fun _ q => XS.icmpNo X3.here hx rfl (hb hby d5_41) rfl (tlt hc4).2.1 q) ?_
    show Go p e below _ (T3.setTop (mkF m 44 #[.val (.ref a1), .val (.int p2), .val (.int p3), .val (.int (1 : Int32)), .val (.int (2 : Int32)), .val (.int (1 : Int32))] []))
    refine go (fun _ q => XS.iload X3.here hx rfl (hb hby d5_44) rfl q) ?_
    show Go p e below _ (T3.setTop (mkF m 46 #[.val (.ref a1), .val (.int p2), .val (.int p3), .val (.int (1 : Int32)), .val (.int (2 : Int32)), .val (.int (1 : Int32))] [(.int (1 : Int32))]))
    refine go (fun _ q => XS.iconst X3.here hx rfl (hb hby d5_46) q) ?_
    show Go p e below _ (T3.setTop (mkF m 47 #[.val (.ref a1), .val (.int p2), .val (.int p3), .val (.int (1 : Int32)), .val (.int (2 : Int32)), .val (.int (1 : Int32))] [(.int (1 : Int32)), (.int (1 : Int32))]))
    refine go (fun _ q => XS.iadd X3.here hx rfl (hb hby d5_47) rfl q) ?_
    show Go p e below _ (T3.setTop (mkF m 48 #[.val (.ref a1), .val (.int p2), .val (.int p3), .val (.int (1 : Int32)), .val (.int (2 : Int32)), .val (.int (1 : Int32))] [(.int (2 : Int32))]))
    refine go (fun _ q => XS.istoreN X3.here hx rfl (hb hby d5_48) rfl (l' := #[.val (.ref a1), .val (.int p2), .val (.int p3), .val (.int (2 : Int32)), .val (.int (2 : Int32)), .val (.int (1 : Int32))]) rfl q) ?_
    show Go p e below _ (T3.setTop (mkF m 49 #[.val (.ref a1), .val (.int p2), .val (.int p3), .val (.int (2 : Int32)), .val (.int (2 : Int32)), .val (.int (1 : Int32))] []))
    refine go (fun _ q => XS.goto X3.here hx rfl (pc0 := 49) (pc' := 75) rfl (hb hby d5_49) (by decide) (by decide) q) ?_
    show Go p e below _ (T3.setTop (mkF m 75 #[.val (.ref a1), .val (.int p2), .val (.int p3), .val (.int (2 : Int32)), .val (.int (2 : Int32)), .val (.int (1 : Int32))] []))
    refine go (fun _ q => XS.goto X3.here hx rfl (pc0 := 75) (pc' := 19) rfl (hb hby d5_75) (by decide) (by decide) q) ?_
    show Go p e below _ (T3.setTop (mkF m 19 #[.val (.ref a1), .val (.int p2), .val (.int p3), .val (.int (2 : Int32)), .val (.int (2 : Int32)), .val (.int (1 : Int32))] []))
    refine go (fun _ q => XS.iloadN X3.here hx rfl (hb hby d5_19) rfl q) ?_
    show Go p e below _ (T3.setTop (mkF m 20 #[.val (.ref a1), .val (.int p2), .val (.int p3), .val (.int (2 : Int32)), .val (.int (2 : Int32)), .val (.int (1 : Int32))] [(.int (2 : Int32))]))
    refine go (fun _ q => XS.iload X3.here hx rfl (hb hby d5_20) rfl q) ?_
    show Go p e below _ (T3.setTop (mkF m 22 #[.val (.ref a1), .val (.int p2), .val (.int p3), .val (.int (2 : Int32)), .val (.int (2 : Int32)), .val (.int (1 : Int32))] [(.int (2 : Int32)), (.int (2 : Int32))]))
    refine go (fun _ q => XS.icmpNo X3.here hx rfl (hb hby d5_22) rfl (flt (by decide : ¬ ((2 : Int32) < (2 : Int32)))).2.2.1 q) ?_
    show Go p e below _ (T3.setTop (mkF m 25 #[.val (.ref a1), .val (.int p2), .val (.int p3), .val (.int (2 : Int32)), .val (.int (2 : Int32)), .val (.int (1 : Int32))] []))
    refine go (fun _ q => XS.iloadN X3.here hx rfl (hb hby d5_25) rfl q) ?_
    show Go p e below _ (T3.setTop (mkF m 26 #[.val (.ref a1), .val (.int p2), .val (.int p3), .val (.int (2 : Int32)), .val (.int (2 : Int32)), .val (.int (1 : Int32))] [(.int (2 : Int32))]))
    refine go (fun _ q => XS.iload X3.here hx rfl (hb hby d5_26) rfl q) ?_
    show Go p e below _ (T3.setTop (mkF m 28 #[.val (.ref a1), .val (.int p2), .val (.int p3), .val (.int (2 : Int32)), .val (.int (2 : Int32)), .val (.int (1 : Int32))] [(.int (2 : Int32)), (.int (2 : Int32))]))
    refine go (fun _ q => XS.iadd X3.here hx rfl (hb hby d5_28) rfl q) ?_
    show Go p e below _ (T3.setTop (mkF m 29 #[.val (.ref a1), .val (.int p2), .val (.int p3), .val (.int (2 : Int32)), .val (.int (2 : Int32)), .val (.int (1 : Int32))] [(.int (4 : Int32))]))
    refine go (fun _ q => XS.iconst X3.here hx rfl (hb hby d5_29) q) ?_
    show Go p e below _ (T3.setTop (mkF m 30 #[.val (.ref a1), .val (.int p2), .val (.int p3), .val (.int (2 : Int32)), .val (.int (2 : Int32)), .val (.int (1 : Int32))] [(.int (1 : Int32)), (.int (4 : Int32))]))
    refine go (fun _ q => XS.iushr X3.here hx rfl (hb hby d5_30) rfl q) ?_
    show Go p e below _ (T3.setTop (mkF m 31 #[.val (.ref a1), .val (.int p2), .val (.int p3), .val (.int (2 : Int32)), .val (.int (2 : Int32)), .val (.int (1 : Int32))] [(.int (2 : Int32))]))
    refine go (fun _ q => XS.istore X3.here hx rfl (hb hby d5_31) rfl (l' := #[.val (.ref a1), .val (.int p2), .val (.int p3), .val (.int (2 : Int32)), .val (.int (2 : Int32)), .val (.int (2 : Int32))]) rfl q) ?_
    show Go p e below _ (T3.setTop (mkF m 33 #[.val (.ref a1), .val (.int p2), .val (.int p3), .val (.int (2 : Int32)), .val (.int (2 : Int32)), .val (.int (2 : Int32))] []))
    refine go (fun _ q => XS.aloadN X3.here hx rfl (hb hby d5_33) rfl rfl q) ?_
    show Go p e below _ (T3.setTop (mkF m 34 #[.val (.ref a1), .val (.int p2), .val (.int p3), .val (.int (2 : Int32)), .val (.int (2 : Int32)), .val (.int (2 : Int32))] [(.ref a1)]))
    obtain ⟨T5, X5, e5, st5⟩ := getF X3 hx hZ hown (host := "") (Or.inl (hw _ (List.mem_of_getElem? (i := 17) rfl))) Via.refl e3 F_m (g := (mkF m 34 #[.val (.ref a1), .val (.int p2), .val (.int p3), .val (.int (2 : Int32)), .val (.int (2 : Int32)), .val (.int (2 : Int32))] [(.ref a1)])) rfl rfl (hb hby d5_34)
    refine go st5 ?_
    show Go p e below _ (T5.setTop (mkF m 37 #[.val (.ref a1), .val (.int p2), .val (.int p3), .val (.int (2 : Int32)), .val (.int (2 : Int32)), .val (.int (2 : Int32))] [(.ref b)]))
    refine go (fun _ q => XS.iload X5.here hx rfl (hb hby d5_37) rfl q) ?_
    show Go p e below _ (T5.setTop (mkF m 39 #[.val (.ref a1), .val (.int p2), .val (.int p3), .val (.int (2 : Int32)), .val (.int (2 : Int32)), .val (.int (2 : Int32))] [(.int (2 : Int32)), (.ref b)]))
    refine go (own_iaload X5 hx hZ e5 F_b (j := (2 : Int32)) (by decide) (Nat.le_of_ble_eq_true rfl) (g := (mkF m 39 #[.val (.ref a1), .val (.int p2), .val (.int p3), .val (.int (2 : Int32)), .val (.int (2 : Int32)), .val (.int (2 : Int32))] [(.int (2 : Int32)), (.ref b)])) rfl rfl (hb hby d5_39)) ?_
    show Go p e below _ (T5.setTop (mkF m 40 #[.val (.ref a1), .val (.int p2), .val (.int p3), .val (.int (2 : Int32)), .val (.int (2 : Int32)), .val (.int (2 : Int32))] [(.int m2)]))
    refine go (fun _ q => XS.iloadN X5.here hx rfl (hb hby d5_40) rfl q) ?_
    show Go p e below _ (T5.setTop (mkF m 41 #[.val (.ref a1), .val (.int p2), .val (.int p3), .val (.int (2 : Int32)), .val (.int (2 : Int32)), .val (.int (2 : Int32))] [(.int p2), (.int m2)]))
    by_cases hc6 : m2 < p2
    · refine go (fun _ q => XS.icmpNo X5.here hx rfl (hb hby d5_41) rfl (tlt hc6).2.1 q) ?_
      show Go p e below _ (T5.setTop (mkF m 44 #[.val (.ref a1), .val (.int p2), .val (.int p3), .val (.int (2 : Int32)), .val (.int (2 : Int32)), .val (.int (2 : Int32))] []))
      refine go (fun _ q => XS.iload X5.here hx rfl (hb hby d5_44) rfl q) ?_
      show Go p e below _ (T5.setTop (mkF m 46 #[.val (.ref a1), .val (.int p2), .val (.int p3), .val (.int (2 : Int32)), .val (.int (2 : Int32)), .val (.int (2 : Int32))] [(.int (2 : Int32))]))
      refine go (fun _ q => XS.iconst X5.here hx rfl (hb hby d5_46) q) ?_
      show Go p e below _ (T5.setTop (mkF m 47 #[.val (.ref a1), .val (.int p2), .val (.int p3), .val (.int (2 : Int32)), .val (.int (2 : Int32)), .val (.int (2 : Int32))] [(.int (1 : Int32)), (.int (2 : Int32))]))
      refine go (fun _ q => XS.iadd X5.here hx rfl (hb hby d5_47) rfl q) ?_
      show Go p e below _ (T5.setTop (mkF m 48 #[.val (.ref a1), .val (.int p2), .val (.int p3), .val (.int (2 : Int32)), .val (.int (2 : Int32)), .val (.int (2 : Int32))] [(.int (3 : Int32))]))
      refine go (fun _ q => XS.istoreN X5.here hx rfl (hb hby d5_48) rfl (l' := #[.val (.ref a1), .val (.int p2), .val (.int p3), .val (.int (3 : Int32)), .val (.int (2 : Int32)), .val (.int (2 : Int32))]) rfl q) ?_
      show Go p e below _ (T5.setTop (mkF m 49 #[.val (.ref a1), .val (.int p2), .val (.int p3), .val (.int (3 : Int32)), .val (.int (2 : Int32)), .val (.int (2 : Int32))] []))
      refine go (fun _ q => XS.goto X5.here hx rfl (pc0 := 49) (pc' := 75) rfl (hb hby d5_49) (by decide) (by decide) q) ?_
      show Go p e below _ (T5.setTop (mkF m 75 #[.val (.ref a1), .val (.int p2), .val (.int p3), .val (.int (3 : Int32)), .val (.int (2 : Int32)), .val (.int (2 : Int32))] []))
      refine go (fun _ q => XS.goto X5.here hx rfl (pc0 := 75) (pc' := 19) rfl (hb hby d5_75) (by decide) (by decide) q) ?_
      show Go p e below _ (T5.setTop (mkF m 19 #[.val (.ref a1), .val (.int p2), .val (.int p3), .val (.int (3 : Int32)), .val (.int (2 : Int32)), .val (.int (2 : Int32))] []))
      refine go (fun _ q => XS.iloadN X5.here hx rfl (hb hby d5_19) rfl q) ?_
      show Go p e below _ (T5.setTop (mkF m 20 #[.val (.ref a1), .val (.int p2), .val (.int p3), .val (.int (3 : Int32)), .val (.int (2 : Int32)), .val (.int (2 : Int32))] [(.int (3 : Int32))]))
      refine go (fun _ q => XS.iload X5.here hx rfl (hb hby d5_20) rfl q) ?_
      show Go p e below _ (T5.setTop (mkF m 22 #[.val (.ref a1), .val (.int p2), .val (.int p3), .val (.int (3 : Int32)), .val (.int (2 : Int32)), .val (.int (2 : Int32))] [(.int (2 : Int32)), (.int (3 : Int32))]))
      refine go (fun _ q => XS.icmpYes X5.here hx rfl (pc0 := 22) (pc' := 78) rfl (hb hby d5_22) rfl (tlt (by decide : (2 : Int32) < (3 : Int32))).2.2.1 (by decide) (by decide) q) ?_
      show Go p e below _ (T5.setTop (mkF m 78 #[.val (.ref a1), .val (.int p2), .val (.int p3), .val (.int (3 : Int32)), .val (.int (2 : Int32)), .val (.int (2 : Int32))] []))
      refine go (fun _ q => XS.iconst X5.here hx rfl (hb hby d5_78) q) ?_
      show Go p e below _ (T5.setTop (mkF m 79 #[.val (.ref a1), .val (.int p2), .val (.int p3), .val (.int (3 : Int32)), .val (.int (2 : Int32)), .val (.int (2 : Int32))] [(.int (-1 : Int32))]))
      exact own_retI X5 hx hlk hret (hb hby d5_79) (by decide) (by decide) ⟨congrArg (fun z => some (Value.int z)) (by rw [t_1_3, if_pos hc4, if_pos hc6]), N0, e5⟩
    · refine go (fun _ q => XS.icmpYes X5.here hx rfl (pc0 := 41) (pc' := 52) rfl (hb hby d5_41) rfl (flt hc6).2.1 (by decide) (by decide) q) ?_
      show Go p e below _ (T5.setTop (mkF m 52 #[.val (.ref a1), .val (.int p2), .val (.int p3), .val (.int (2 : Int32)), .val (.int (2 : Int32)), .val (.int (2 : Int32))] []))
      refine go (fun _ q => XS.aloadN X5.here hx rfl (hb hby d5_52) rfl rfl q) ?_
      show Go p e below _ (T5.setTop (mkF m 53 #[.val (.ref a1), .val (.int p2), .val (.int p3), .val (.int (2 : Int32)), .val (.int (2 : Int32)), .val (.int (2 : Int32))] [(.ref a1)]))
      obtain ⟨T7, X7, e7, st7⟩ := getF X5 hx hZ hown (host := "") (Or.inl (hw _ (List.mem_of_getElem? (i := 17) rfl))) Via.refl e5 F_m (g := (mkF m 53 #[.val (.ref a1), .val (.int p2), .val (.int p3), .val (.int (2 : Int32)), .val (.int (2 : Int32)), .val (.int (2 : Int32))] [(.ref a1)])) rfl rfl (hb hby d5_53)
      refine go st7 ?_
      show Go p e below _ (T7.setTop (mkF m 56 #[.val (.ref a1), .val (.int p2), .val (.int p3), .val (.int (2 : Int32)), .val (.int (2 : Int32)), .val (.int (2 : Int32))] [(.ref b)]))
      refine go (fun _ q => XS.iload X7.here hx rfl (hb hby d5_56) rfl q) ?_
      show Go p e below _ (T7.setTop (mkF m 58 #[.val (.ref a1), .val (.int p2), .val (.int p3), .val (.int (2 : Int32)), .val (.int (2 : Int32)), .val (.int (2 : Int32))] [(.int (2 : Int32)), (.ref b)]))
      refine go (own_iaload X7 hx hZ e7 F_b (j := (2 : Int32)) (by decide) (Nat.le_of_ble_eq_true rfl) (g := (mkF m 58 #[.val (.ref a1), .val (.int p2), .val (.int p3), .val (.int (2 : Int32)), .val (.int (2 : Int32)), .val (.int (2 : Int32))] [(.int (2 : Int32)), (.ref b)])) rfl rfl (hb hby d5_58)) ?_
      show Go p e below _ (T7.setTop (mkF m 59 #[.val (.ref a1), .val (.int p2), .val (.int p3), .val (.int (2 : Int32)), .val (.int (2 : Int32)), .val (.int (2 : Int32))] [(.int m2)]))
      refine go (fun _ q => XS.iloadN X7.here hx rfl (hb hby d5_59) rfl q) ?_
      show Go p e below _ (T7.setTop (mkF m 60 #[.val (.ref a1), .val (.int p2), .val (.int p3), .val (.int (2 : Int32)), .val (.int (2 : Int32)), .val (.int (2 : Int32))] [(.int p2), (.int m2)]))
      by_cases hc8 : p2 < m2
      · refine go (fun _ q => XS.icmpNo X7.here hx rfl (hb hby d5_60) rfl (tlt hc8).2.2.2 q) ?_
        show Go p e below _ (T7.setTop (mkF m 63 #[.val (.ref a1), .val (.int p2), .val (.int p3), .val (.int (2 : Int32)), .val (.int (2 : Int32)), .val (.int (2 : Int32))] []))
        refine go (fun _ q => XS.iload X7.here hx rfl (hb hby d5_63) rfl q) ?_
        show Go p e below _ (T7.setTop (mkF m 65 #[.val (.ref a1), .val (.int p2), .val (.int p3), .val (.int (2 : Int32)), .val (.int (2 : Int32)), .val (.int (2 : Int32))] [(.int (2 : Int32))]))
        refine go (fun _ q => XS.iconst X7.here hx rfl (hb hby d5_65) q) ?_
        show Go p e below _ (T7.setTop (mkF m 66 #[.val (.ref a1), .val (.int p2), .val (.int p3), .val (.int (2 : Int32)), .val (.int (2 : Int32)), .val (.int (2 : Int32))] [(.int (1 : Int32)), (.int (2 : Int32))]))
        refine go (fun _ q => XS.isub X7.here hx rfl (hb hby d5_66) rfl q) ?_
        show Go p e below _ (T7.setTop (mkF m 67 #[.val (.ref a1), .val (.int p2), .val (.int p3), .val (.int (2 : Int32)), .val (.int (2 : Int32)), .val (.int (2 : Int32))] [(.int (1 : Int32))]))
        refine go (fun _ q => XS.istore X7.here hx rfl (hb hby d5_67) rfl (l' := #[.val (.ref a1), .val (.int p2), .val (.int p3), .val (.int (2 : Int32)), .val (.int (1 : Int32)), .val (.int (2 : Int32))]) rfl q) ?_
        show Go p e below _ (T7.setTop (mkF m 69 #[.val (.ref a1), .val (.int p2), .val (.int p3), .val (.int (2 : Int32)), .val (.int (1 : Int32)), .val (.int (2 : Int32))] []))
        refine go (fun _ q => XS.goto X7.here hx rfl (pc0 := 69) (pc' := 75) rfl (hb hby d5_69) (by decide) (by decide) q) ?_
        show Go p e below _ (T7.setTop (mkF m 75 #[.val (.ref a1), .val (.int p2), .val (.int p3), .val (.int (2 : Int32)), .val (.int (1 : Int32)), .val (.int (2 : Int32))] []))
        refine go (fun _ q => XS.goto X7.here hx rfl (pc0 := 75) (pc' := 19) rfl (hb hby d5_75) (by decide) (by decide) q) ?_
        show Go p e below _ (T7.setTop (mkF m 19 #[.val (.ref a1), .val (.int p2), .val (.int p3), .val (.int (2 : Int32)), .val (.int (1 : Int32)), .val (.int (2 : Int32))] []))
        refine go (fun _ q => XS.iloadN X7.here hx rfl (hb hby d5_19) rfl q) ?_
        show Go p e below _ (T7.setTop (mkF m 20 #[.val (.ref a1), .val (.int p2), .val (.int p3), .val (.int (2 : Int32)), .val (.int (1 : Int32)), .val (.int (2 : Int32))] [(.int (2 : Int32))]))
        refine go (fun _ q => XS.iload X7.here hx rfl (hb hby d5_20) rfl q) ?_
        show Go p e below _ (T7.setTop (mkF m 22 #[.val (.ref a1), .val (.int p2), .val (.int p3), .val (.int (2 : Int32)), .val (.int (1 : Int32)), .val (.int (2 : Int32))] [(.int (1 : Int32)), (.int (2 : Int32))]))
        refine go (fun _ q => XS.icmpYes X7.here hx rfl (pc0 := 22) (pc' := 78) rfl (hb hby d5_22) rfl (tlt (by decide : (1 : Int32) < (2 : Int32))).2.2.1 (by decide) (by decide) q) ?_
        show Go p e below _ (T7.setTop (mkF m 78 #[.val (.ref a1), .val (.int p2), .val (.int p3), .val (.int (2 : Int32)), .val (.int (1 : Int32)), .val (.int (2 : Int32))] []))
        refine go (fun _ q => XS.iconst X7.here hx rfl (hb hby d5_78) q) ?_
        show Go p e below _ (T7.setTop (mkF m 79 #[.val (.ref a1), .val (.int p2), .val (.int p3), .val (.int (2 : Int32)), .val (.int (1 : Int32)), .val (.int (2 : Int32))] [(.int (-1 : Int32))]))
        exact own_retI X7 hx hlk hret (hb hby d5_79) (by decide) (by decide) ⟨congrArg (fun z => some (Value.int z)) (by rw [t_1_3, if_pos hc4, if_neg hc6, if_pos hc8]), N0, e7⟩
      · refine go (fun _ q => XS.icmpYes X7.here hx rfl (pc0 := 60) (pc' := 72) rfl (hb hby d5_60) rfl (flt hc8).2.2.2 (by decide) (by decide) q) ?_
        show Go p e below _ (T7.setTop (mkF m 72 #[.val (.ref a1), .val (.int p2), .val (.int p3), .val (.int (2 : Int32)), .val (.int (2 : Int32)), .val (.int (2 : Int32))] []))
        refine go (fun _ q => XS.iload X7.here hx rfl (hb hby d5_72) rfl q) ?_
        show Go p e below _ (T7.setTop (mkF m 74 #[.val (.ref a1), .val (.int p2), .val (.int p3), .val (.int (2 : Int32)), .val (.int (2 : Int32)), .val (.int (2 : Int32))] [(.int (2 : Int32))]))
        exact own_retI X7 hx hlk hret (hb hby d5_74) (by decide) (by decide) ⟨congrArg (fun z => some (Value.int z)) (by rw [t_1_3, if_pos hc4, if_neg hc6, if_neg hc8]), N0, e7⟩
  · refine go (fun _ q => XS.icmpYes X3.here hx rfl (pc0 := 41) (pc' := 52) rfl (hb hby d5_41) rfl (flt hc4).2.1 (by decide) (by decide) q) ?_
    show Go p e below _ (T3.setTop (mkF m 52 #[.val (.ref a1), .val (.int p2), .val (.int p3), .val (.int (1 : Int32)), .val (.int (2 : Int32)), .val (.int (1 : Int32))] []))
    refine go (fun _ q => XS.aloadN X3.here hx rfl (hb hby d5_52) rfl rfl q) ?_
    show Go p e below _ (T3.setTop (mkF m 53 #[.val (.ref a1), .val (.int p2), .val (.int p3), .val (.int (1 : Int32)), .val (.int (2 : Int32)), .val (.int (1 : Int32))] [(.ref a1)]))
    obtain ⟨T9, X9, e9, st9⟩ := getF X3 hx hZ hown (host := "") (Or.inl (hw _ (List.mem_of_getElem? (i := 17) rfl))) Via.refl e3 F_m (g := (mkF m 53 #[.val (.ref a1), .val (.int p2), .val (.int p3), .val (.int (1 : Int32)), .val (.int (2 : Int32)), .val (.int (1 : Int32))] [(.ref a1)])) rfl rfl (hb hby d5_53)
    refine go st9 ?_
    show Go p e below _ (T9.setTop (mkF m 56 #[.val (.ref a1), .val (.int p2), .val (.int p3), .val (.int (1 : Int32)), .val (.int (2 : Int32)), .val (.int (1 : Int32))] [(.ref b)]))
    refine go (fun _ q => XS.iload X9.here hx rfl (hb hby d5_56) rfl q) ?_
    show Go p e below _ (T9.setTop (mkF m 58 #[.val (.ref a1), .val (.int p2), .val (.int p3), .val (.int (1 : Int32)), .val (.int (2 : Int32)), .val (.int (1 : Int32))] [(.int (1 : Int32)), (.ref b)]))
    refine go (own_iaload X9 hx hZ e9 F_b (j := (1 : Int32)) (by decide) (Nat.le_of_ble_eq_true rfl) (g := (mkF m 58 #[.val (.ref a1), .val (.int p2), .val (.int p3), .val (.int (1 : Int32)), .val (.int (2 : Int32)), .val (.int (1 : Int32))] [(.int (1 : Int32)), (.ref b)])) rfl rfl (hb hby d5_58)) ?_
    show Go p e below _ (T9.setTop (mkF m 59 #[.val (.ref a1), .val (.int p2), .val (.int p3), .val (.int (1 : Int32)), .val (.int (2 : Int32)), .val (.int (1 : Int32))] [(.int m1)]))
    refine go (fun _ q => XS.iloadN X9.here hx rfl (hb hby d5_59) rfl q) ?_
    show Go p e below _ (T9.setTop (mkF m 60 #[.val (.ref a1), .val (.int p2), .val (.int p3), .val (.int (1 : Int32)), .val (.int (2 : Int32)), .val (.int (1 : Int32))] [(.int p2), (.int m1)]))
    by_cases hc10 : p2 < m1
    · refine go (fun _ q => XS.icmpNo X9.here hx rfl (hb hby d5_60) rfl (tlt hc10).2.2.2 q) ?_
      show Go p e below _ (T9.setTop (mkF m 63 #[.val (.ref a1), .val (.int p2), .val (.int p3), .val (.int (1 : Int32)), .val (.int (2 : Int32)), .val (.int (1 : Int32))] []))
      refine go (fun _ q => XS.iload X9.here hx rfl (hb hby d5_63) rfl q) ?_
      show Go p e below _ (T9.setTop (mkF m 65 #[.val (.ref a1), .val (.int p2), .val (.int p3), .val (.int (1 : Int32)), .val (.int (2 : Int32)), .val (.int (1 : Int32))] [(.int (1 : Int32))]))
      refine go (fun _ q => XS.iconst X9.here hx rfl (hb hby d5_65) q) ?_
      show Go p e below _ (T9.setTop (mkF m 66 #[.val (.ref a1), .val (.int p2), .val (.int p3), .val (.int (1 : Int32)), .val (.int (2 : Int32)), .val (.int (1 : Int32))] [(.int (1 : Int32)), (.int (1 : Int32))]))
      refine go (fun _ q => XS.isub X9.here hx rfl (hb hby d5_66) rfl q) ?_
      show Go p e below _ (T9.setTop (mkF m 67 #[.val (.ref a1), .val (.int p2), .val (.int p3), .val (.int (1 : Int32)), .val (.int (2 : Int32)), .val (.int (1 : Int32))] [(.int (0 : Int32))]))
      refine go (fun _ q => XS.istore X9.here hx rfl (hb hby d5_67) rfl (l' := #[.val (.ref a1), .val (.int p2), .val (.int p3), .val (.int (1 : Int32)), .val (.int (0 : Int32)), .val (.int (1 : Int32))]) rfl q) ?_
      show Go p e below _ (T9.setTop (mkF m 69 #[.val (.ref a1), .val (.int p2), .val (.int p3), .val (.int (1 : Int32)), .val (.int (0 : Int32)), .val (.int (1 : Int32))] []))
      refine go (fun _ q => XS.goto X9.here hx rfl (pc0 := 69) (pc' := 75) rfl (hb hby d5_69) (by decide) (by decide) q) ?_
      show Go p e below _ (T9.setTop (mkF m 75 #[.val (.ref a1), .val (.int p2), .val (.int p3), .val (.int (1 : Int32)), .val (.int (0 : Int32)), .val (.int (1 : Int32))] []))
      refine go (fun _ q => XS.goto X9.here hx rfl (pc0 := 75) (pc' := 19) rfl (hb hby d5_75) (by decide) (by decide) q) ?_
      show Go p e below _ (T9.setTop (mkF m 19 #[.val (.ref a1), .val (.int p2), .val (.int p3), .val (.int (1 : Int32)), .val (.int (0 : Int32)), .val (.int (1 : Int32))] []))
      refine go (fun _ q => XS.iloadN X9.here hx rfl (hb hby d5_19) rfl q) ?_
      show Go p e below _ (T9.setTop (mkF m 20 #[.val (.ref a1), .val (.int p2), .val (.int p3), .val (.int (1 : Int32)), .val (.int (0 : Int32)), .val (.int (1 : Int32))] [(.int (1 : Int32))]))
      refine go (fun _ q => XS.iload X9.here hx rfl (hb hby d5_20) rfl q) ?_
      show Go p e below _ (T9.setTop (mkF m 22 #[.val (.ref a1), .val (.int p2), .val (.int p3), .val (.int (1 : Int32)), .val (.int (0 : Int32)), .val (.int (1 : Int32))] [(.int (0 : Int32)), (.int (1 : Int32))]))
      refine go (fun _ q => XS.icmpYes X9.here hx rfl (pc0 := 22) (pc' := 78) rfl (hb hby d5_22) rfl (tlt (by decide : (0 : Int32) < (1 : Int32))).2.2.1 (by decide) (by decide) q) ?_
      show Go p e below _ (T9.setTop (mkF m 78 #[.val (.ref a1), .val (.int p2), .val (.int p3), .val (.int (1 : Int32)), .val (.int (0 : Int32)), .val (.int (1 : Int32))] []))
      refine go (fun _ q => XS.iconst X9.here hx rfl (hb hby d5_78) q) ?_
      show Go p e below _ (T9.setTop (mkF m 79 #[.val (.ref a1), .val (.int p2), .val (.int p3), .val (.int (1 : Int32)), .val (.int (0 : Int32)), .val (.int (1 : Int32))] [(.int (-1 : Int32))]))
      exact own_retI X9 hx hlk hret (hb hby d5_79) (by decide) (by decide) ⟨congrArg (fun z => some (Value.int z)) (by rw [t_1_3, if_neg hc4, if_pos hc10]), N0, e9⟩
    · refine go (fun _ q => XS.icmpYes X9.here hx rfl (pc0 := 60) (pc' := 72) rfl (hb hby d5_60) rfl (flt hc10).2.2.2 (by decide) (by decide) q) ?_
      show Go p e below _ (T9.setTop (mkF m 72 #[.val (.ref a1), .val (.int p2), .val (.int p3), .val (.int (1 : Int32)), .val (.int (2 : Int32)), .val (.int (1 : Int32))] []))
      refine go (fun _ q => XS.iload X9.here hx rfl (hb hby d5_72) rfl q) ?_
      show Go p e below _ (T9.setTop (mkF m 74 #[.val (.ref a1), .val (.int p2), .val (.int p3), .val (.int (1 : Int32)), .val (.int (2 : Int32)), .val (.int (1 : Int32))] [(.int (1 : Int32))]))
      exact own_retI X9 hx hlk hret (hb hby d5_74) (by decide) (by decide) ⟨congrArg (fun z => some (Value.int z)) (by rw [t_1_3, if_neg hc4, if_neg hc10]), N0, e9⟩
def t_1_4 (p2 m0 m1 m2 m3 : Int32) : Int32 := (if m2 < p2 then (if m3 < p2 then (-1 : Int32) else (if p2 < m3 then (-1 : Int32) else (3 : Int32))) else (if p2 < m2 then (if m1 < p2 then (-1 : Int32) else (if p2 < m1 then (-1 : Int32) else (1 : Int32))) else (2 : Int32)))
set_option maxRecDepth 65536 in
set_option maxHeartbeats 40000000 in
theorem rmT_1_4 (l : Launch) (Z : State) (a0 : Array Value) (hw : ∀ d ∈ tables_1, d.before a0 Z = true) (ws : List Jvm.Cond) (a1 : Addr) (p2 : Int32) (p3 : Int32) (h0 : Heap) (n0 : Nat) {t b : Addr} {FA : List Int32} {m0 m1 m2 m3 : Int32} (hp : own_p3 p3) (lFA : FA.length = 4) (hlo : FA.getD (p3).toNatClampNeg 0 = (1 : Int32)) (hhi : FA.getD ((p3 + (1 : Int32))).toNatClampNeg 0 = (4 : Int32)) (F_f : Fld Z h0 a1 "com/example/junctura/junctura/conformance/OptimalPaths" "firstAt" "[I" (.ref t)) (F_m : Fld Z h0 a1 "com/example/junctura/junctura/conformance/OptimalPaths" "marking" "[I" (.ref b)) (F_t : Ari Z h0 t FA) (F_b : Ari Z h0 b ([m0, m1, m2, m3] : List Int32)) :
    MetFree l (⟨"com/example/junctura/junctura/conformance/OptimalPaths", "state", "(II)I"⟩ : MethodName) (head1 (Jvm.Cond.code (⟨"com/example/junctura/junctura/conformance/OptimalPaths", "state", "(II)I"⟩ : MethodName) prog_45_method_11_code 6 (some .int) :: ws) ({ frames := 0, cells := 0, slots := 0, locals := 0 } : Room)) (fun a U => a = #[(.ref a1), (.int p2), (.int p3)] ∧ Z.Warmed39 U.vm ∧ U.heap = h0) (fun _ _ _ _ _ => True) (fun _ U o U' => ∃ v L, o = .returned v ∧ (QP (some (.int (t_1_4 p2 m0 m1 m2 m3))) h0 n0) v U'.heap L ∧ FrameEnd U o U' L ({ frames := 0, cells := 0, slots := 0, locals := 0 } : Room).cells ({ frames := 0, cells := 0, slots := 0, locals := 0 } : Room).slots) := by
  refine own_met (plainFor_of_name pn_5) (fun m => ef_5 m a1 p2 p3) ?_
  intro p e s m below meth c T0 hx hby hml hown hnm hret hlk hZ X0 e0
  have hown : s.vm.findClass "com/example/junctura/junctura/conformance/OptimalPaths" = some m.cls := hown
  have hnm : meth.name = "state" := hnm
  have hret : meth.sig.returnType = some .int := hret
  have N0 := Fr.nil n0
  show Go p e below _ (T0.setTop (mkF m 0 #[.val (.ref a1), .val (.int p2), .val (.int p3), .unset, .unset, .unset] []))
  refine go (fun _ q => XS.aloadN X0.here hx rfl (hb hby d5_0) rfl rfl q) ?_
  show Go p e below _ (T0.setTop (mkF m 1 #[.val (.ref a1), .val (.int p2), .val (.int p3), .unset, .unset, .unset] [(.ref a1)]))
  obtain ⟨T1, X1, e1, st1⟩ := getF X0 hx hZ hown (host := "") (Or.inl (hw _ (List.mem_of_getElem? (i := 29) rfl))) Via.refl e0 F_f (g := (mkF m 1 #[.val (.ref a1), .val (.int p2), .val (.int p3), .unset, .unset, .unset] [(.ref a1)])) rfl rfl (hb hby d5_1)
  refine go st1 ?_
  show Go p e below _ (T1.setTop (mkF m 4 #[.val (.ref a1), .val (.int p2), .val (.int p3), .unset, .unset, .unset] [(.ref t)]))
  refine go (fun _ q => XS.iloadN X1.here hx rfl (hb hby d5_4) rfl q) ?_
  show Go p e below _ (T1.setTop (mkF m 5 #[.val (.ref a1), .val (.int p2), .val (.int p3), .unset, .unset, .unset] [(.int p3), (.ref t)]))
  refine go (own_iaload X1 hx hZ e1 F_t (j := p3) (own_i0 hp).1 (by rw [lFA]; exact (own_i0 hp).2) (g := (mkF m 5 #[.val (.ref a1), .val (.int p2), .val (.int p3), .unset, .unset, .unset] [(.int p3), (.ref t)])) rfl rfl (hb hby d5_5)) ?_
  show Go p e below _ (T1.setTop (mkF m 6 #[.val (.ref a1), .val (.int p2), .val (.int p3), .unset, .unset, .unset] [(.int (FA.getD (p3).toNatClampNeg 0))]))
  rw [hlo]
  show Go p e below _ (T1.setTop (mkF m 6 #[.val (.ref a1), .val (.int p2), .val (.int p3), .unset, .unset, .unset] [(.int (1 : Int32))]))
  refine go (fun _ q => XS.istoreN X1.here hx rfl (hb hby d5_6) rfl (l' := #[.val (.ref a1), .val (.int p2), .val (.int p3), .val (.int (1 : Int32)), .unset, .unset]) rfl q) ?_
  show Go p e below _ (T1.setTop (mkF m 7 #[.val (.ref a1), .val (.int p2), .val (.int p3), .val (.int (1 : Int32)), .unset, .unset] []))
  refine go (fun _ q => XS.aloadN X1.here hx rfl (hb hby d5_7) rfl rfl q) ?_
  show Go p e below _ (T1.setTop (mkF m 8 #[.val (.ref a1), .val (.int p2), .val (.int p3), .val (.int (1 : Int32)), .unset, .unset] [(.ref a1)]))
  obtain ⟨T2, X2, e2, st2⟩ := getF X1 hx hZ hown (host := "") (Or.inl (hw _ (List.mem_of_getElem? (i := 29) rfl))) Via.refl e1 F_f (g := (mkF m 8 #[.val (.ref a1), .val (.int p2), .val (.int p3), .val (.int (1 : Int32)), .unset, .unset] [(.ref a1)])) rfl rfl (hb hby d5_8)
  refine go st2 ?_
  show Go p e below _ (T2.setTop (mkF m 11 #[.val (.ref a1), .val (.int p2), .val (.int p3), .val (.int (1 : Int32)), .unset, .unset] [(.ref t)]))
  refine go (fun _ q => XS.iloadN X2.here hx rfl (hb hby d5_11) rfl q) ?_
  show Go p e below _ (T2.setTop (mkF m 12 #[.val (.ref a1), .val (.int p2), .val (.int p3), .val (.int (1 : Int32)), .unset, .unset] [(.int p3), (.ref t)]))
  refine go (fun _ q => XS.iconst X2.here hx rfl (hb hby d5_12) q) ?_
  show Go p e below _ (T2.setTop (mkF m 13 #[.val (.ref a1), .val (.int p2), .val (.int p3), .val (.int (1 : Int32)), .unset, .unset] [(.int (1 : Int32)), (.int p3), (.ref t)]))
  refine go (fun _ q => XS.iadd X2.here hx rfl (hb hby d5_13) rfl q) ?_
  show Go p e below _ (T2.setTop (mkF m 14 #[.val (.ref a1), .val (.int p2), .val (.int p3), .val (.int (1 : Int32)), .unset, .unset] [(.int (p3 + (1 : Int32))), (.ref t)]))
  refine go (own_iaload X2 hx hZ e2 F_t (j := (p3 + (1 : Int32))) (own_i1 hp).1 (by rw [lFA]; exact (own_i1 hp).2) (g := (mkF m 14 #[.val (.ref a1), .val (.int p2), .val (.int p3), .val (.int (1 : Int32)), .unset, .unset] [(.int (p3 + (1 : Int32))), (.ref t)])) rfl rfl (hb hby d5_14)) ?_
  show Go p e below _ (T2.setTop (mkF m 15 #[.val (.ref a1), .val (.int p2), .val (.int p3), .val (.int (1 : Int32)), .unset, .unset] [(.int (FA.getD ((p3 + (1 : Int32))).toNatClampNeg 0))]))
  rw [hhi]
  show Go p e below _ (T2.setTop (mkF m 15 #[.val (.ref a1), .val (.int p2), .val (.int p3), .val (.int (1 : Int32)), .unset, .unset] [(.int (4 : Int32))]))
  refine go (fun _ q => XS.iconst X2.here hx rfl (hb hby d5_15) q) ?_
  show Go p e below _ (T2.setTop (mkF m 16 #[.val (.ref a1), .val (.int p2), .val (.int p3), .val (.int (1 : Int32)), .unset, .unset] [(.int (1 : Int32)), (.int (4 : Int32))]))
  refine go (fun _ q => XS.isub X2.here hx rfl (hb hby d5_16) rfl q) ?_
  show Go p e below _ (T2.setTop (mkF m 17 #[.val (.ref a1), .val (.int p2), .val (.int p3), .val (.int (1 : Int32)), .unset, .unset] [(.int (3 : Int32))]))
  refine go (fun _ q => XS.istore X2.here hx rfl (hb hby d5_17) rfl (l' := #[.val (.ref a1), .val (.int p2), .val (.int p3), .val (.int (1 : Int32)), .val (.int (3 : Int32)), .unset]) rfl q) ?_
  show Go p e below _ (T2.setTop (mkF m 19 #[.val (.ref a1), .val (.int p2), .val (.int p3), .val (.int (1 : Int32)), .val (.int (3 : Int32)), .unset] []))
  refine go (fun _ q => XS.iloadN X2.here hx rfl (hb hby d5_19) rfl q) ?_
  show Go p e below _ (T2.setTop (mkF m 20 #[.val (.ref a1), .val (.int p2), .val (.int p3), .val (.int (1 : Int32)), .val (.int (3 : Int32)), .unset] [(.int (1 : Int32))]))
  refine go (fun _ q => XS.iload X2.here hx rfl (hb hby d5_20) rfl q) ?_
  show Go p e below _ (T2.setTop (mkF m 22 #[.val (.ref a1), .val (.int p2), .val (.int p3), .val (.int (1 : Int32)), .val (.int (3 : Int32)), .unset] [(.int (3 : Int32)), (.int (1 : Int32))]))
  refine go (fun _ q => XS.icmpNo X2.here hx rfl (hb hby d5_22) rfl (flt (by decide : ¬ ((3 : Int32) < (1 : Int32)))).2.2.1 q) ?_
  show Go p e below _ (T2.setTop (mkF m 25 #[.val (.ref a1), .val (.int p2), .val (.int p3), .val (.int (1 : Int32)), .val (.int (3 : Int32)), .unset] []))
  refine go (fun _ q => XS.iloadN X2.here hx rfl (hb hby d5_25) rfl q) ?_
  show Go p e below _ (T2.setTop (mkF m 26 #[.val (.ref a1), .val (.int p2), .val (.int p3), .val (.int (1 : Int32)), .val (.int (3 : Int32)), .unset] [(.int (1 : Int32))]))
  refine go (fun _ q => XS.iload X2.here hx rfl (hb hby d5_26) rfl q) ?_
  show Go p e below _ (T2.setTop (mkF m 28 #[.val (.ref a1), .val (.int p2), .val (.int p3), .val (.int (1 : Int32)), .val (.int (3 : Int32)), .unset] [(.int (3 : Int32)), (.int (1 : Int32))]))
  refine go (fun _ q => XS.iadd X2.here hx rfl (hb hby d5_28) rfl q) ?_
  show Go p e below _ (T2.setTop (mkF m 29 #[.val (.ref a1), .val (.int p2), .val (.int p3), .val (.int (1 : Int32)), .val (.int (3 : Int32)), .unset] [(.int (4 : Int32))]))
  refine go (fun _ q => XS.iconst X2.here hx rfl (hb hby d5_29) q) ?_
  show Go p e below _ (T2.setTop (mkF m 30 #[.val (.ref a1), .val (.int p2), .val (.int p3), .val (.int (1 : Int32)), .val (.int (3 : Int32)), .unset] [(.int (1 : Int32)), (.int (4 : Int32))]))
  refine go (fun _ q => XS.iushr X2.here hx rfl (hb hby d5_30) rfl q) ?_
  show Go p e below _ (T2.setTop (mkF m 31 #[.val (.ref a1), .val (.int p2), .val (.int p3), .val (.int (1 : Int32)), .val (.int (3 : Int32)), .unset] [(.int (2 : Int32))]))
  refine go (fun _ q => XS.istore X2.here hx rfl (hb hby d5_31) rfl (l' := #[.val (.ref a1), .val (.int p2), .val (.int p3), .val (.int (1 : Int32)), .val (.int (3 : Int32)), .val (.int (2 : Int32))]) rfl q) ?_
  show Go p e below _ (T2.setTop (mkF m 33 #[.val (.ref a1), .val (.int p2), .val (.int p3), .val (.int (1 : Int32)), .val (.int (3 : Int32)), .val (.int (2 : Int32))] []))
  refine go (fun _ q => XS.aloadN X2.here hx rfl (hb hby d5_33) rfl rfl q) ?_
  show Go p e below _ (T2.setTop (mkF m 34 #[.val (.ref a1), .val (.int p2), .val (.int p3), .val (.int (1 : Int32)), .val (.int (3 : Int32)), .val (.int (2 : Int32))] [(.ref a1)]))
  obtain ⟨T3, X3, e3, st3⟩ := getF X2 hx hZ hown (host := "") (Or.inl (hw _ (List.mem_of_getElem? (i := 17) rfl))) Via.refl e2 F_m (g := (mkF m 34 #[.val (.ref a1), .val (.int p2), .val (.int p3), .val (.int (1 : Int32)), .val (.int (3 : Int32)), .val (.int (2 : Int32))] [(.ref a1)])) rfl rfl (hb hby d5_34)
  refine go st3 ?_
  show Go p e below _ (T3.setTop (mkF m 37 #[.val (.ref a1), .val (.int p2), .val (.int p3), .val (.int (1 : Int32)), .val (.int (3 : Int32)), .val (.int (2 : Int32))] [(.ref b)]))
  refine go (fun _ q => XS.iload X3.here hx rfl (hb hby d5_37) rfl q) ?_
  show Go p e below _ (T3.setTop (mkF m 39 #[.val (.ref a1), .val (.int p2), .val (.int p3), .val (.int (1 : Int32)), .val (.int (3 : Int32)), .val (.int (2 : Int32))] [(.int (2 : Int32)), (.ref b)]))
  refine go (own_iaload X3 hx hZ e3 F_b (j := (2 : Int32)) (by decide) (Nat.le_of_ble_eq_true rfl) (g := (mkF m 39 #[.val (.ref a1), .val (.int p2), .val (.int p3), .val (.int (1 : Int32)), .val (.int (3 : Int32)), .val (.int (2 : Int32))] [(.int (2 : Int32)), (.ref b)])) rfl rfl (hb hby d5_39)) ?_
  show Go p e below _ (T3.setTop (mkF m 40 #[.val (.ref a1), .val (.int p2), .val (.int p3), .val (.int (1 : Int32)), .val (.int (3 : Int32)), .val (.int (2 : Int32))] [(.int m2)]))
  refine go (fun _ q => XS.iloadN X3.here hx rfl (hb hby d5_40) rfl q) ?_
  show Go p e below _ (T3.setTop (mkF m 41 #[.val (.ref a1), .val (.int p2), .val (.int p3), .val (.int (1 : Int32)), .val (.int (3 : Int32)), .val (.int (2 : Int32))] [(.int p2), (.int m2)]))
  by_cases hc4 : m2 < p2
  · refine go (fun _ q => XS.icmpNo X3.here hx rfl (hb hby d5_41) rfl (tlt hc4).2.1 q) ?_
    show Go p e below _ (T3.setTop (mkF m 44 #[.val (.ref a1), .val (.int p2), .val (.int p3), .val (.int (1 : Int32)), .val (.int (3 : Int32)), .val (.int (2 : Int32))] []))
    refine go (fun _ q => XS.iload X3.here hx rfl (hb hby d5_44) rfl q) ?_
    show Go p e below _ (T3.setTop (mkF m 46 #[.val (.ref a1), .val (.int p2), .val (.int p3), .val (.int (1 : Int32)), .val (.int (3 : Int32)), .val (.int (2 : Int32))] [(.int (2 : Int32))]))
    refine go (fun _ q => XS.iconst X3.here hx rfl (hb hby d5_46) q) ?_
    show Go p e below _ (T3.setTop (mkF m 47 #[.val (.ref a1), .val (.int p2), .val (.int p3), .val (.int (1 : Int32)), .val (.int (3 : Int32)), .val (.int (2 : Int32))] [(.int (1 : Int32)), (.int (2 : Int32))]))
    refine go (fun _ q => XS.iadd X3.here hx rfl (hb hby d5_47) rfl q) ?_
    show Go p e below _ (T3.setTop (mkF m 48 #[.val (.ref a1), .val (.int p2), .val (.int p3), .val (.int (1 : Int32)), .val (.int (3 : Int32)), .val (.int (2 : Int32))] [(.int (3 : Int32))]))
    refine go (fun _ q => XS.istoreN X3.here hx rfl (hb hby d5_48) rfl (l' := #[.val (.ref a1), .val (.int p2), .val (.int p3), .val (.int (3 : Int32)), .val (.int (3 : Int32)), .val (.int (2 : Int32))]) rfl q) ?_
    show Go p e below _ (T3.setTop (mkF m 49 #[.val (.ref a1), .val (.int p2), .val (.int p3), .val (.int (3 : Int32)), .val (.int (3 : Int32)), .val (.int (2 : Int32))] []))
    refine go (fun _ q => XS.goto X3.here hx rfl (pc0 := 49) (pc' := 75) rfl (hb hby d5_49) (by decide) (by decide) q) ?_
    show Go p e below _ (T3.setTop (mkF m 75 #[.val (.ref a1), .val (.int p2), .val (.int p3), .val (.int (3 : Int32)), .val (.int (3 : Int32)), .val (.int (2 : Int32))] []))
    refine go (fun _ q => XS.goto X3.here hx rfl (pc0 := 75) (pc' := 19) rfl (hb hby d5_75) (by decide) (by decide) q) ?_
    show Go p e below _ (T3.setTop (mkF m 19 #[.val (.ref a1), .val (.int p2), .val (.int p3), .val (.int (3 : Int32)), .val (.int (3 : Int32)), .val (.int (2 : Int32))] []))
    refine go (fun _ q => XS.iloadN X3.here hx rfl (hb hby d5_19) rfl q) ?_
    show Go p e below _ (T3.setTop (mkF m 20 #[.val (.ref a1), .val (.int p2), .val (.int p3), .val (.int (3 : Int32)), .val (.int (3 : Int32)), .val (.int (2 : Int32))] [(.int (3 : Int32))]))
    refine go (fun _ q => XS.iload X3.here hx rfl (hb hby d5_20) rfl q) ?_
    show Go p e below _ (T3.setTop (mkF m 22 #[.val (.ref a1), .val (.int p2), .val (.int p3), .val (.int (3 : Int32)), .val (.int (3 : Int32)), .val (.int (2 : Int32))] [(.int (3 : Int32)), (.int (3 : Int32))]))
    refine go (fun _ q => XS.icmpNo X3.here hx rfl (hb hby d5_22) rfl (flt (by decide : ¬ ((3 : Int32) < (3 : Int32)))).2.2.1 q) ?_
    show Go p e below _ (T3.setTop (mkF m 25 #[.val (.ref a1), .val (.int p2), .val (.int p3), .val (.int (3 : Int32)), .val (.int (3 : Int32)), .val (.int (2 : Int32))] []))
    refine go (fun _ q => XS.iloadN X3.here hx rfl (hb hby d5_25) rfl q) ?_
    show Go p e below _ (T3.setTop (mkF m 26 #[.val (.ref a1), .val (.int p2), .val (.int p3), .val (.int (3 : Int32)), .val (.int (3 : Int32)), .val (.int (2 : Int32))] [(.int (3 : Int32))]))
    refine go (fun _ q => XS.iload X3.here hx rfl (hb hby d5_26) rfl q) ?_
    show Go p e below _ (T3.setTop (mkF m 28 #[.val (.ref a1), .val (.int p2), .val (.int p3), .val (.int (3 : Int32)), .val (.int (3 : Int32)), .val (.int (2 : Int32))] [(.int (3 : Int32)), (.int (3 : Int32))]))
    refine go (fun _ q => XS.iadd X3.here hx rfl (hb hby d5_28) rfl q) ?_
    show Go p e below _ (T3.setTop (mkF m 29 #[.val (.ref a1), .val (.int p2), .val (.int p3), .val (.int (3 : Int32)), .val (.int (3 : Int32)), .val (.int (2 : Int32))] [(.int (6 : Int32))]))
    refine go (fun _ q => XS.iconst X3.here hx rfl (hb hby d5_29) q) ?_
    show Go p e below _ (T3.setTop (mkF m 30 #[.val (.ref a1), .val (.int p2), .val (.int p3), .val (.int (3 : Int32)), .val (.int (3 : Int32)), .val (.int (2 : Int32))] [(.int (1 : Int32)), (.int (6 : Int32))]))
    refine go (fun _ q => XS.iushr X3.here hx rfl (hb hby d5_30) rfl q) ?_
    show Go p e below _ (T3.setTop (mkF m 31 #[.val (.ref a1), .val (.int p2), .val (.int p3), .val (.int (3 : Int32)), .val (.int (3 : Int32)), .val (.int (2 : Int32))] [(.int (3 : Int32))]))
    refine go (fun _ q => XS.istore X3.here hx rfl (hb hby d5_31) rfl (l' := #[.val (.ref a1), .val (.int p2), .val (.int p3), .val (.int (3 : Int32)), .val (.int (3 : Int32)), .val (.int (3 : Int32))]) rfl q) ?_
    show Go p e below _ (T3.setTop (mkF m 33 #[.val (.ref a1), .val (.int p2), .val (.int p3), .val (.int (3 : Int32)), .val (.int (3 : Int32)), .val (.int (3 : Int32))] []))
    refine go (fun _ q => XS.aloadN X3.here hx rfl (hb hby d5_33) rfl rfl q) ?_
    show Go p e below _ (T3.setTop (mkF m 34 #[.val (.ref a1), .val (.int p2), .val (.int p3), .val (.int (3 : Int32)), .val (.int (3 : Int32)), .val (.int (3 : Int32))] [(.ref a1)]))
    obtain ⟨T5, X5, e5, st5⟩ := getF X3 hx hZ hown (host := "") (Or.inl (hw _ (List.mem_of_getElem? (i := 17) rfl))) Via.refl e3 F_m (g := (mkF m 34 #[.val (.ref a1), .val (.int p2), .val (.int p3), .val (.int (3 : Int32)), .val (.int (3 : Int32)), .val (.int (3 : Int32))] [(.ref a1)])) rfl rfl (hb hby d5_34)
    refine go st5 ?_
    show Go p e below _ (T5.setTop (mkF m 37 #[.val (.ref a1), .val (.int p2), .val (.int p3), .val (.int (3 : Int32)), .val (.int (3 : Int32)), .val (.int (3 : Int32))] [(.ref b)]))
    refine go (fun _ q => XS.iload X5.here hx rfl (hb hby d5_37) rfl q) ?_
    show Go p e below _ (T5.setTop (mkF m 39 #[.val (.ref a1), .val (.int p2), .val (.int p3), .val (.int (3 : Int32)), .val (.int (3 : Int32)), .val (.int (3 : Int32))] [(.int (3 : Int32)), (.ref b)]))
    refine go (own_iaload X5 hx hZ e5 F_b (j := (3 : Int32)) (by decide) (Nat.le_of_ble_eq_true rfl) (g := (mkF m 39 #[.val (.ref a1), .val (.int p2), .val (.int p3), .val (.int (3 : Int32)), .val (.int (3 : Int32)), .val (.int (3 : Int32))] [(.int (3 : Int32)), (.ref b)])) rfl rfl (hb hby d5_39)) ?_
    show Go p e below _ (T5.setTop (mkF m 40 #[.val (.ref a1), .val (.int p2), .val (.int p3), .val (.int (3 : Int32)), .val (.int (3 : Int32)), .val (.int (3 : Int32))] [(.int m3)]))
    refine go (fun _ q => XS.iloadN X5.here hx rfl (hb hby d5_40) rfl q) ?_
    show Go p e below _ (T5.setTop (mkF m 41 #[.val (.ref a1), .val (.int p2), .val (.int p3), .val (.int (3 : Int32)), .val (.int (3 : Int32)), .val (.int (3 : Int32))] [(.int p2), (.int m3)]))
    by_cases hc6 : m3 < p2
    · refine go (fun _ q => XS.icmpNo X5.here hx rfl (hb hby d5_41) rfl (tlt hc6).2.1 q) ?_
      show Go p e below _ (T5.setTop (mkF m 44 #[.val (.ref a1), .val (.int p2), .val (.int p3), .val (.int (3 : Int32)), .val (.int (3 : Int32)), .val (.int (3 : Int32))] []))
      refine go (fun _ q => XS.iload X5.here hx rfl (hb hby d5_44) rfl q) ?_
      show Go p e below _ (T5.setTop (mkF m 46 #[.val (.ref a1), .val (.int p2), .val (.int p3), .val (.int (3 : Int32)), .val (.int (3 : Int32)), .val (.int (3 : Int32))] [(.int (3 : Int32))]))
      refine go (fun _ q => XS.iconst X5.here hx rfl (hb hby d5_46) q) ?_
      show Go p e below _ (T5.setTop (mkF m 47 #[.val (.ref a1), .val (.int p2), .val (.int p3), .val (.int (3 : Int32)), .val (.int (3 : Int32)), .val (.int (3 : Int32))] [(.int (1 : Int32)), (.int (3 : Int32))]))
      refine go (fun _ q => XS.iadd X5.here hx rfl (hb hby d5_47) rfl q) ?_
      show Go p e below _ (T5.setTop (mkF m 48 #[.val (.ref a1), .val (.int p2), .val (.int p3), .val (.int (3 : Int32)), .val (.int (3 : Int32)), .val (.int (3 : Int32))] [(.int (4 : Int32))]))
      refine go (fun _ q => XS.istoreN X5.here hx rfl (hb hby d5_48) rfl (l' := #[.val (.ref a1), .val (.int p2), .val (.int p3), .val (.int (4 : Int32)), .val (.int (3 : Int32)), .val (.int (3 : Int32))]) rfl q) ?_
      show Go p e below _ (T5.setTop (mkF m 49 #[.val (.ref a1), .val (.int p2), .val (.int p3), .val (.int (4 : Int32)), .val (.int (3 : Int32)), .val (.int (3 : Int32))] []))
      refine go (fun _ q => XS.goto X5.here hx rfl (pc0 := 49) (pc' := 75) rfl (hb hby d5_49) (by decide) (by decide) q) ?_
      show Go p e below _ (T5.setTop (mkF m 75 #[.val (.ref a1), .val (.int p2), .val (.int p3), .val (.int (4 : Int32)), .val (.int (3 : Int32)), .val (.int (3 : Int32))] []))
      refine go (fun _ q => XS.goto X5.here hx rfl (pc0 := 75) (pc' := 19) rfl (hb hby d5_75) (by decide) (by decide) q) ?_
      show Go p e below _ (T5.setTop (mkF m 19 #[.val (.ref a1), .val (.int p2), .val (.int p3), .val (.int (4 : Int32)), .val (.int (3 : Int32)), .val (.int (3 : Int32))] []))
      refine go (fun _ q => XS.iloadN X5.here hx rfl (hb hby d5_19) rfl q) ?_
      show Go p e below _ (T5.setTop (mkF m 20 #[.val (.ref a1), .val (.int p2), .val (.int p3), .val (.int (4 : Int32)), .val (.int (3 : Int32)), .val (.int (3 : Int32))] [(.int (4 : Int32))]))
      refine go (fun _ q => XS.iload X5.here hx rfl (hb hby d5_20) rfl q) ?_
      show Go p e below _ (T5.setTop (mkF m 22 #[.val (.ref a1), .val (.int p2), .val (.int p3), .val (.int (4 : Int32)), .val (.int (3 : Int32)), .val (.int (3 : Int32))] [(.int (3 : Int32)), (.int (4 : Int32))]))
      refine go (fun _ q => XS.icmpYes X5.here hx rfl (pc0 := 22) (pc' := 78) rfl (hb hby d5_22) rfl (tlt (by decide : (3 : Int32) < (4 : Int32))).2.2.1 (by decide) (by decide) q) ?_
      show Go p e below _ (T5.setTop (mkF m 78 #[.val (.ref a1), .val (.int p2), .val (.int p3), .val (.int (4 : Int32)), .val (.int (3 : Int32)), .val (.int (3 : Int32))] []))
      refine go (fun _ q => XS.iconst X5.here hx rfl (hb hby d5_78) q) ?_
      show Go p e below _ (T5.setTop (mkF m 79 #[.val (.ref a1), .val (.int p2), .val (.int p3), .val (.int (4 : Int32)), .val (.int (3 : Int32)), .val (.int (3 : Int32))] [(.int (-1 : Int32))]))
      exact own_retI X5 hx hlk hret (hb hby d5_79) (by decide) (by decide) ⟨congrArg (fun z => some (Value.int z)) (by rw [t_1_4, if_pos hc4, if_pos hc6]), N0, e5⟩
    · refine go (fun _ q => XS.icmpYes X5.here hx rfl (pc0 := 41) (pc' := 52) rfl (hb hby d5_41) rfl (flt hc6).2.1 (by decide) (by decide) q) ?_
      show Go p e below _ (T5.setTop (mkF m 52 #[.val (.ref a1), .val (.int p2), .val (.int p3), .val (.int (3 : Int32)), .val (.int (3 : Int32)), .val (.int (3 : Int32))] []))
      refine go (fun _ q => XS.aloadN X5.here hx rfl (hb hby d5_52) rfl rfl q) ?_
      show Go p e below _ (T5.setTop (mkF m 53 #[.val (.ref a1), .val (.int p2), .val (.int p3), .val (.int (3 : Int32)), .val (.int (3 : Int32)), .val (.int (3 : Int32))] [(.ref a1)]))
      obtain ⟨T7, X7, e7, st7⟩ := getF X5 hx hZ hown (host := "") (Or.inl (hw _ (List.mem_of_getElem? (i := 17) rfl))) Via.refl e5 F_m (g := (mkF m 53 #[.val (.ref a1), .val (.int p2), .val (.int p3), .val (.int (3 : Int32)), .val (.int (3 : Int32)), .val (.int (3 : Int32))] [(.ref a1)])) rfl rfl (hb hby d5_53)
      refine go st7 ?_
      show Go p e below _ (T7.setTop (mkF m 56 #[.val (.ref a1), .val (.int p2), .val (.int p3), .val (.int (3 : Int32)), .val (.int (3 : Int32)), .val (.int (3 : Int32))] [(.ref b)]))
      refine go (fun _ q => XS.iload X7.here hx rfl (hb hby d5_56) rfl q) ?_
      show Go p e below _ (T7.setTop (mkF m 58 #[.val (.ref a1), .val (.int p2), .val (.int p3), .val (.int (3 : Int32)), .val (.int (3 : Int32)), .val (.int (3 : Int32))] [(.int (3 : Int32)), (.ref b)]))
      refine go (own_iaload X7 hx hZ e7 F_b (j := (3 : Int32)) (by decide) (Nat.le_of_ble_eq_true rfl) (g := (mkF m 58 #[.val (.ref a1), .val (.int p2), .val (.int p3), .val (.int (3 : Int32)), .val (.int (3 : Int32)), .val (.int (3 : Int32))] [(.int (3 : Int32)), (.ref b)])) rfl rfl (hb hby d5_58)) ?_
      show Go p e below _ (T7.setTop (mkF m 59 #[.val (.ref a1), .val (.int p2), .val (.int p3), .val (.int (3 : Int32)), .val (.int (3 : Int32)), .val (.int (3 : Int32))] [(.int m3)]))
      refine go (fun _ q => XS.iloadN X7.here hx rfl (hb hby d5_59) rfl q) ?_
      show Go p e below _ (T7.setTop (mkF m 60 #[.val (.ref a1), .val (.int p2), .val (.int p3), .val (.int (3 : Int32)), .val (.int (3 : Int32)), .val (.int (3 : Int32))] [(.int p2), (.int m3)]))
      by_cases hc8 : p2 < m3
      · refine go (fun _ q => XS.icmpNo X7.here hx rfl (hb hby d5_60) rfl (tlt hc8).2.2.2 q) ?_
        show Go p e below _ (T7.setTop (mkF m 63 #[.val (.ref a1), .val (.int p2), .val (.int p3), .val (.int (3 : Int32)), .val (.int (3 : Int32)), .val (.int (3 : Int32))] []))
        refine go (fun _ q => XS.iload X7.here hx rfl (hb hby d5_63) rfl q) ?_
        show Go p e below _ (T7.setTop (mkF m 65 #[.val (.ref a1), .val (.int p2), .val (.int p3), .val (.int (3 : Int32)), .val (.int (3 : Int32)), .val (.int (3 : Int32))] [(.int (3 : Int32))]))
        refine go (fun _ q => XS.iconst X7.here hx rfl (hb hby d5_65) q) ?_
        show Go p e below _ (T7.setTop (mkF m 66 #[.val (.ref a1), .val (.int p2), .val (.int p3), .val (.int (3 : Int32)), .val (.int (3 : Int32)), .val (.int (3 : Int32))] [(.int (1 : Int32)), (.int (3 : Int32))]))
        refine go (fun _ q => XS.isub X7.here hx rfl (hb hby d5_66) rfl q) ?_
        show Go p e below _ (T7.setTop (mkF m 67 #[.val (.ref a1), .val (.int p2), .val (.int p3), .val (.int (3 : Int32)), .val (.int (3 : Int32)), .val (.int (3 : Int32))] [(.int (2 : Int32))]))
        refine go (fun _ q => XS.istore X7.here hx rfl (hb hby d5_67) rfl (l' := #[.val (.ref a1), .val (.int p2), .val (.int p3), .val (.int (3 : Int32)), .val (.int (2 : Int32)), .val (.int (3 : Int32))]) rfl q) ?_
        show Go p e below _ (T7.setTop (mkF m 69 #[.val (.ref a1), .val (.int p2), .val (.int p3), .val (.int (3 : Int32)), .val (.int (2 : Int32)), .val (.int (3 : Int32))] []))
        refine go (fun _ q => XS.goto X7.here hx rfl (pc0 := 69) (pc' := 75) rfl (hb hby d5_69) (by decide) (by decide) q) ?_
        show Go p e below _ (T7.setTop (mkF m 75 #[.val (.ref a1), .val (.int p2), .val (.int p3), .val (.int (3 : Int32)), .val (.int (2 : Int32)), .val (.int (3 : Int32))] []))
        refine go (fun _ q => XS.goto X7.here hx rfl (pc0 := 75) (pc' := 19) rfl (hb hby d5_75) (by decide) (by decide) q) ?_
        show Go p e below _ (T7.setTop (mkF m 19 #[.val (.ref a1), .val (.int p2), .val (.int p3), .val (.int (3 : Int32)), .val (.int (2 : Int32)), .val (.int (3 : Int32))] []))
        refine go (fun _ q => XS.iloadN X7.here hx rfl (hb hby d5_19) rfl q) ?_
        show Go p e below _ (T7.setTop (mkF m 20 #[.val (.ref a1), .val (.int p2), .val (.int p3), .val (.int (3 : Int32)), .val (.int (2 : Int32)), .val (.int (3 : Int32))] [(.int (3 : Int32))]))
        refine go (fun _ q => XS.iload X7.here hx rfl (hb hby d5_20) rfl q) ?_
        show Go p e below _ (T7.setTop (mkF m 22 #[.val (.ref a1), .val (.int p2), .val (.int p3), .val (.int (3 : Int32)), .val (.int (2 : Int32)), .val (.int (3 : Int32))] [(.int (2 : Int32)), (.int (3 : Int32))]))
        refine go (fun _ q => XS.icmpYes X7.here hx rfl (pc0 := 22) (pc' := 78) rfl (hb hby d5_22) rfl (tlt (by decide : (2 : Int32) < (3 : Int32))).2.2.1 (by decide) (by decide) q) ?_
        show Go p e below _ (T7.setTop (mkF m 78 #[.val (.ref a1), .val (.int p2), .val (.int p3), .val (.int (3 : Int32)), .val (.int (2 : Int32)), .val (.int (3 : Int32))] []))
        refine go (fun _ q => XS.iconst X7.here hx rfl (hb hby d5_78) q) ?_
        show Go p e below _ (T7.setTop (mkF m 79 #[.val (.ref a1), .val (.int p2), .val (.int p3), .val (.int (3 : Int32)), .val (.int (2 : Int32)), .val (.int (3 : Int32))] [(.int (-1 : Int32))]))
        exact own_retI X7 hx hlk hret (hb hby d5_79) (by decide) (by decide) ⟨congrArg (fun z => some (Value.int z)) (by rw [t_1_4, if_pos hc4, if_neg hc6, if_pos hc8]), N0, e7⟩
      · refine go (fun _ q => XS.icmpYes X7.here hx rfl (pc0 := 60) (pc' := 72) rfl (hb hby d5_60) rfl (flt hc8).2.2.2 (by decide) (by decide) q) ?_
        show Go p e below _ (T7.setTop (mkF m 72 #[.val (.ref a1), .val (.int p2), .val (.int p3), .val (.int (3 : Int32)), .val (.int (3 : Int32)), .val (.int (3 : Int32))] []))
        refine go (fun _ q => XS.iload X7.here hx rfl (hb hby d5_72) rfl q) ?_
        show Go p e below _ (T7.setTop (mkF m 74 #[.val (.ref a1), .val (.int p2), .val (.int p3), .val (.int (3 : Int32)), .val (.int (3 : Int32)), .val (.int (3 : Int32))] [(.int (3 : Int32))]))
        exact own_retI X7 hx hlk hret (hb hby d5_74) (by decide) (by decide) ⟨congrArg (fun z => some (Value.int z)) (by rw [t_1_4, if_pos hc4, if_neg hc6, if_neg hc8]), N0, e7⟩
  · refine go (fun _ q => XS.icmpYes X3.here hx rfl (pc0 := 41) (pc' := 52) rfl (hb hby d5_41) rfl (flt hc4).2.1 (by decide) (by decide) q) ?_
    show Go p e below _ (T3.setTop (mkF m 52 #[.val (.ref a1), .val (.int p2), .val (.int p3), .val (.int (1 : Int32)), .val (.int (3 : Int32)), .val (.int (2 : Int32))] []))
    refine go (fun _ q => XS.aloadN X3.here hx rfl (hb hby d5_52) rfl rfl q) ?_
    show Go p e below _ (T3.setTop (mkF m 53 #[.val (.ref a1), .val (.int p2), .val (.int p3), .val (.int (1 : Int32)), .val (.int (3 : Int32)), .val (.int (2 : Int32))] [(.ref a1)]))
    obtain ⟨T9, X9, e9, st9⟩ := getF X3 hx hZ hown (host := "") (Or.inl (hw _ (List.mem_of_getElem? (i := 17) rfl))) Via.refl e3 F_m (g := (mkF m 53 #[.val (.ref a1), .val (.int p2), .val (.int p3), .val (.int (1 : Int32)), .val (.int (3 : Int32)), .val (.int (2 : Int32))] [(.ref a1)])) rfl rfl (hb hby d5_53)
    refine go st9 ?_
    show Go p e below _ (T9.setTop (mkF m 56 #[.val (.ref a1), .val (.int p2), .val (.int p3), .val (.int (1 : Int32)), .val (.int (3 : Int32)), .val (.int (2 : Int32))] [(.ref b)]))
    refine go (fun _ q => XS.iload X9.here hx rfl (hb hby d5_56) rfl q) ?_
    show Go p e below _ (T9.setTop (mkF m 58 #[.val (.ref a1), .val (.int p2), .val (.int p3), .val (.int (1 : Int32)), .val (.int (3 : Int32)), .val (.int (2 : Int32))] [(.int (2 : Int32)), (.ref b)]))
    refine go (own_iaload X9 hx hZ e9 F_b (j := (2 : Int32)) (by decide) (Nat.le_of_ble_eq_true rfl) (g := (mkF m 58 #[.val (.ref a1), .val (.int p2), .val (.int p3), .val (.int (1 : Int32)), .val (.int (3 : Int32)), .val (.int (2 : Int32))] [(.int (2 : Int32)), (.ref b)])) rfl rfl (hb hby d5_58)) ?_
    show Go p e below _ (T9.setTop (mkF m 59 #[.val (.ref a1), .val (.int p2), .val (.int p3), .val (.int (1 : Int32)), .val (.int (3 : Int32)), .val (.int (2 : Int32))] [(.int m2)]))
    refine go (fun _ q => XS.iloadN X9.here hx rfl (hb hby d5_59) rfl q) ?_
    show Go p e below _ (T9.setTop (mkF m 60 #[.val (.ref a1), .val (.int p2), .val (.int p3), .val (.int (1 : Int32)), .val (.int (3 : Int32)), .val (.int (2 : Int32))] [(.int p2), (.int m2)]))
    by_cases hc10 : p2 < m2
    · refine go (fun _ q => XS.icmpNo X9.here hx rfl (hb hby d5_60) rfl (tlt hc10).2.2.2 q) ?_
      show Go p e below _ (T9.setTop (mkF m 63 #[.val (.ref a1), .val (.int p2), .val (.int p3), .val (.int (1 : Int32)), .val (.int (3 : Int32)), .val (.int (2 : Int32))] []))
      refine go (fun _ q => XS.iload X9.here hx rfl (hb hby d5_63) rfl q) ?_
      show Go p e below _ (T9.setTop (mkF m 65 #[.val (.ref a1), .val (.int p2), .val (.int p3), .val (.int (1 : Int32)), .val (.int (3 : Int32)), .val (.int (2 : Int32))] [(.int (2 : Int32))]))
      refine go (fun _ q => XS.iconst X9.here hx rfl (hb hby d5_65) q) ?_
      show Go p e below _ (T9.setTop (mkF m 66 #[.val (.ref a1), .val (.int p2), .val (.int p3), .val (.int (1 : Int32)), .val (.int (3 : Int32)), .val (.int (2 : Int32))] [(.int (1 : Int32)), (.int (2 : Int32))]))
      refine go (fun _ q => XS.isub X9.here hx rfl (hb hby d5_66) rfl q) ?_
      show Go p e below _ (T9.setTop (mkF m 67 #[.val (.ref a1), .val (.int p2), .val (.int p3), .val (.int (1 : Int32)), .val (.int (3 : Int32)), .val (.int (2 : Int32))] [(.int (1 : Int32))]))
      refine go (fun _ q => XS.istore X9.here hx rfl (hb hby d5_67) rfl (l' := #[.val (.ref a1), .val (.int p2), .val (.int p3), .val (.int (1 : Int32)), .val (.int (1 : Int32)), .val (.int (2 : Int32))]) rfl q) ?_
      show Go p e below _ (T9.setTop (mkF m 69 #[.val (.ref a1), .val (.int p2), .val (.int p3), .val (.int (1 : Int32)), .val (.int (1 : Int32)), .val (.int (2 : Int32))] []))
      refine go (fun _ q => XS.goto X9.here hx rfl (pc0 := 69) (pc' := 75) rfl (hb hby d5_69) (by decide) (by decide) q) ?_
      show Go p e below _ (T9.setTop (mkF m 75 #[.val (.ref a1), .val (.int p2), .val (.int p3), .val (.int (1 : Int32)), .val (.int (1 : Int32)), .val (.int (2 : Int32))] []))
      refine go (fun _ q => XS.goto X9.here hx rfl (pc0 := 75) (pc' := 19) rfl (hb hby d5_75) (by decide) (by decide) q) ?_
      show Go p e below _ (T9.setTop (mkF m 19 #[.val (.ref a1), .val (.int p2), .val (.int p3), .val (.int (1 : Int32)), .val (.int (1 : Int32)), .val (.int (2 : Int32))] []))
      refine go (fun _ q => XS.iloadN X9.here hx rfl (hb hby d5_19) rfl q) ?_
      show Go p e below _ (T9.setTop (mkF m 20 #[.val (.ref a1), .val (.int p2), .val (.int p3), .val (.int (1 : Int32)), .val (.int (1 : Int32)), .val (.int (2 : Int32))] [(.int (1 : Int32))]))
      refine go (fun _ q => XS.iload X9.here hx rfl (hb hby d5_20) rfl q) ?_
      show Go p e below _ (T9.setTop (mkF m 22 #[.val (.ref a1), .val (.int p2), .val (.int p3), .val (.int (1 : Int32)), .val (.int (1 : Int32)), .val (.int (2 : Int32))] [(.int (1 : Int32)), (.int (1 : Int32))]))
      refine go (fun _ q => XS.icmpNo X9.here hx rfl (hb hby d5_22) rfl (flt (by decide : ¬ ((1 : Int32) < (1 : Int32)))).2.2.1 q) ?_
      show Go p e below _ (T9.setTop (mkF m 25 #[.val (.ref a1), .val (.int p2), .val (.int p3), .val (.int (1 : Int32)), .val (.int (1 : Int32)), .val (.int (2 : Int32))] []))
      refine go (fun _ q => XS.iloadN X9.here hx rfl (hb hby d5_25) rfl q) ?_
      show Go p e below _ (T9.setTop (mkF m 26 #[.val (.ref a1), .val (.int p2), .val (.int p3), .val (.int (1 : Int32)), .val (.int (1 : Int32)), .val (.int (2 : Int32))] [(.int (1 : Int32))]))
      refine go (fun _ q => XS.iload X9.here hx rfl (hb hby d5_26) rfl q) ?_
      show Go p e below _ (T9.setTop (mkF m 28 #[.val (.ref a1), .val (.int p2), .val (.int p3), .val (.int (1 : Int32)), .val (.int (1 : Int32)), .val (.int (2 : Int32))] [(.int (1 : Int32)), (.int (1 : Int32))]))
      refine go (fun _ q => XS.iadd X9.here hx rfl (hb hby d5_28) rfl q) ?_
      show Go p e below _ (T9.setTop (mkF m 29 #[.val (.ref a1), .val (.int p2), .val (.int p3), .val (.int (1 : Int32)), .val (.int (1 : Int32)), .val (.int (2 : Int32))] [(.int (2 : Int32))]))
      refine go (fun _ q => XS.iconst X9.here hx rfl (hb hby d5_29) q) ?_
      show Go p e below _ (T9.setTop (mkF m 30 #[.val (.ref a1), .val (.int p2), .val (.int p3), .val (.int (1 : Int32)), .val (.int (1 : Int32)), .val (.int (2 : Int32))] [(.int (1 : Int32)), (.int (2 : Int32))]))
      refine go (fun _ q => XS.iushr X9.here hx rfl (hb hby d5_30) rfl q) ?_
      show Go p e below _ (T9.setTop (mkF m 31 #[.val (.ref a1), .val (.int p2), .val (.int p3), .val (.int (1 : Int32)), .val (.int (1 : Int32)), .val (.int (2 : Int32))] [(.int (1 : Int32))]))
      refine go (fun _ q => XS.istore X9.here hx rfl (hb hby d5_31) rfl (l' := #[.val (.ref a1), .val (.int p2), .val (.int p3), .val (.int (1 : Int32)), .val (.int (1 : Int32)), .val (.int (1 : Int32))]) rfl q) ?_
      show Go p e below _ (T9.setTop (mkF m 33 #[.val (.ref a1), .val (.int p2), .val (.int p3), .val (.int (1 : Int32)), .val (.int (1 : Int32)), .val (.int (1 : Int32))] []))
      refine go (fun _ q => XS.aloadN X9.here hx rfl (hb hby d5_33) rfl rfl q) ?_
      show Go p e below _ (T9.setTop (mkF m 34 #[.val (.ref a1), .val (.int p2), .val (.int p3), .val (.int (1 : Int32)), .val (.int (1 : Int32)), .val (.int (1 : Int32))] [(.ref a1)]))
      obtain ⟨T11, X11, e11, st11⟩ := getF X9 hx hZ hown (host := "") (Or.inl (hw _ (List.mem_of_getElem? (i := 17) rfl))) Via.refl e9 F_m (g := (mkF m 34 #[.val (.ref a1), .val (.int p2), .val (.int p3), .val (.int (1 : Int32)), .val (.int (1 : Int32)), .val (.int (1 : Int32))] [(.ref a1)])) rfl rfl (hb hby d5_34)
      refine go st11 ?_
      show Go p e below _ (T11.setTop (mkF m 37 #[.val (.ref a1), .val (.int p2), .val (.int p3), .val (.int (1 : Int32)), .val (.int (1 : Int32)), .val (.int (1 : Int32))] [(.ref b)]))
      refine go (fun _ q => XS.iload X11.here hx rfl (hb hby d5_37) rfl q) ?_
      show Go p e below _ (T11.setTop (mkF m 39 #[.val (.ref a1), .val (.int p2), .val (.int p3), .val (.int (1 : Int32)), .val (.int (1 : Int32)), .val (.int (1 : Int32))] [(.int (1 : Int32)), (.ref b)]))
      refine go (own_iaload X11 hx hZ e11 F_b (j := (1 : Int32)) (by decide) (Nat.le_of_ble_eq_true rfl) (g := (mkF m 39 #[.val (.ref a1), .val (.int p2), .val (.int p3), .val (.int (1 : Int32)), .val (.int (1 : Int32)), .val (.int (1 : Int32))] [(.int (1 : Int32)), (.ref b)])) rfl rfl (hb hby d5_39)) ?_
      show Go p e below _ (T11.setTop (mkF m 40 #[.val (.ref a1), .val (.int p2), .val (.int p3), .val (.int (1 : Int32)), .val (.int (1 : Int32)), .val (.int (1 : Int32))] [(.int m1)]))
      refine go (fun _ q => XS.iloadN X11.here hx rfl (hb hby d5_40) rfl q) ?_
      show Go p e below _ (T11.setTop (mkF m 41 #[.val (.ref a1), .val (.int p2), .val (.int p3), .val (.int (1 : Int32)), .val (.int (1 : Int32)), .val (.int (1 : Int32))] [(.int p2), (.int m1)]))
      by_cases hc12 : m1 < p2
      · refine go (fun _ q => XS.icmpNo X11.here hx rfl (hb hby d5_41) rfl (tlt hc12).2.1 q) ?_
        show Go p e below _ (T11.setTop (mkF m 44 #[.val (.ref a1), .val (.int p2), .val (.int p3), .val (.int (1 : Int32)), .val (.int (1 : Int32)), .val (.int (1 : Int32))] []))
        refine go (fun _ q => XS.iload X11.here hx rfl (hb hby d5_44) rfl q) ?_
        show Go p e below _ (T11.setTop (mkF m 46 #[.val (.ref a1), .val (.int p2), .val (.int p3), .val (.int (1 : Int32)), .val (.int (1 : Int32)), .val (.int (1 : Int32))] [(.int (1 : Int32))]))
        refine go (fun _ q => XS.iconst X11.here hx rfl (hb hby d5_46) q) ?_
        show Go p e below _ (T11.setTop (mkF m 47 #[.val (.ref a1), .val (.int p2), .val (.int p3), .val (.int (1 : Int32)), .val (.int (1 : Int32)), .val (.int (1 : Int32))] [(.int (1 : Int32)), (.int (1 : Int32))]))
        refine go (fun _ q => XS.iadd X11.here hx rfl (hb hby d5_47) rfl q) ?_
        show Go p e below _ (T11.setTop (mkF m 48 #[.val (.ref a1), .val (.int p2), .val (.int p3), .val (.int (1 : Int32)), .val (.int (1 : Int32)), .val (.int (1 : Int32))] [(.int (2 : Int32))]))
        refine go (fun _ q => XS.istoreN X11.here hx rfl (hb hby d5_48) rfl (l' := #[.val (.ref a1), .val (.int p2), .val (.int p3), .val (.int (2 : Int32)), .val (.int (1 : Int32)), .val (.int (1 : Int32))]) rfl q) ?_
        show Go p e below _ (T11.setTop (mkF m 49 #[.val (.ref a1), .val (.int p2), .val (.int p3), .val (.int (2 : Int32)), .val (.int (1 : Int32)), .val (.int (1 : Int32))] []))
        refine go (fun _ q => XS.goto X11.here hx rfl (pc0 := 49) (pc' := 75) rfl (hb hby d5_49) (by decide) (by decide) q) ?_
        show Go p e below _ (T11.setTop (mkF m 75 #[.val (.ref a1), .val (.int p2), .val (.int p3), .val (.int (2 : Int32)), .val (.int (1 : Int32)), .val (.int (1 : Int32))] []))
        refine go (fun _ q => XS.goto X11.here hx rfl (pc0 := 75) (pc' := 19) rfl (hb hby d5_75) (by decide) (by decide) q) ?_
        show Go p e below _ (T11.setTop (mkF m 19 #[.val (.ref a1), .val (.int p2), .val (.int p3), .val (.int (2 : Int32)), .val (.int (1 : Int32)), .val (.int (1 : Int32))] []))
        refine go (fun _ q => XS.iloadN X11.here hx rfl (hb hby d5_19) rfl q) ?_
        show Go p e below _ (T11.setTop (mkF m 20 #[.val (.ref a1), .val (.int p2), .val (.int p3), .val (.int (2 : Int32)), .val (.int (1 : Int32)), .val (.int (1 : Int32))] [(.int (2 : Int32))]))
        refine go (fun _ q => XS.iload X11.here hx rfl (hb hby d5_20) rfl q) ?_
        show Go p e below _ (T11.setTop (mkF m 22 #[.val (.ref a1), .val (.int p2), .val (.int p3), .val (.int (2 : Int32)), .val (.int (1 : Int32)), .val (.int (1 : Int32))] [(.int (1 : Int32)), (.int (2 : Int32))]))
        refine go (fun _ q => XS.icmpYes X11.here hx rfl (pc0 := 22) (pc' := 78) rfl (hb hby d5_22) rfl (tlt (by decide : (1 : Int32) < (2 : Int32))).2.2.1 (by decide) (by decide) q) ?_
        show Go p e below _ (T11.setTop (mkF m 78 #[.val (.ref a1), .val (.int p2), .val (.int p3), .val (.int (2 : Int32)), .val (.int (1 : Int32)), .val (.int (1 : Int32))] []))
        refine go (fun _ q => XS.iconst X11.here hx rfl (hb hby d5_78) q) ?_
        show Go p e below _ (T11.setTop (mkF m 79 #[.val (.ref a1), .val (.int p2), .val (.int p3), .val (.int (2 : Int32)), .val (.int (1 : Int32)), .val (.int (1 : Int32))] [(.int (-1 : Int32))]))
        exact own_retI X11 hx hlk hret (hb hby d5_79) (by decide) (by decide) ⟨congrArg (fun z => some (Value.int z)) (by rw [t_1_4, if_neg hc4, if_pos hc10, if_pos hc12]), N0, e11⟩
      · refine go (fun _ q => XS.icmpYes X11.here hx rfl (pc0 := 41) (pc' := 52) rfl (hb hby d5_41) rfl (flt hc12).2.1 (by decide) (by decide) q) ?_
        show Go p e below _ (T11.setTop (mkF m 52 #[.val (.ref a1), .val (.int p2), .val (.int p3), .val (.int (1 : Int32)), .val (.int (1 : Int32)), .val (.int (1 : Int32))] []))
        refine go (fun _ q => XS.aloadN X11.here hx rfl (hb hby d5_52) rfl rfl q) ?_
        show Go p e below _ (T11.setTop (mkF m 53 #[.val (.ref a1), .val (.int p2), .val (.int p3), .val (.int (1 : Int32)), .val (.int (1 : Int32)), .val (.int (1 : Int32))] [(.ref a1)]))
        obtain ⟨T13, X13, e13, st13⟩ := getF X11 hx hZ hown (host := "") (Or.inl (hw _ (List.mem_of_getElem? (i := 17) rfl))) Via.refl e11 F_m (g := (mkF m 53 #[.val (.ref a1), .val (.int p2), .val (.int p3), .val (.int (1 : Int32)), .val (.int (1 : Int32)), .val (.int (1 : Int32))] [(.ref a1)])) rfl rfl (hb hby d5_53)
        refine go st13 ?_
        show Go p e below _ (T13.setTop (mkF m 56 #[.val (.ref a1), .val (.int p2), .val (.int p3), .val (.int (1 : Int32)), .val (.int (1 : Int32)), .val (.int (1 : Int32))] [(.ref b)]))
        refine go (fun _ q => XS.iload X13.here hx rfl (hb hby d5_56) rfl q) ?_
        show Go p e below _ (T13.setTop (mkF m 58 #[.val (.ref a1), .val (.int p2), .val (.int p3), .val (.int (1 : Int32)), .val (.int (1 : Int32)), .val (.int (1 : Int32))] [(.int (1 : Int32)), (.ref b)]))
        refine go (own_iaload X13 hx hZ e13 F_b (j := (1 : Int32)) (by decide) (Nat.le_of_ble_eq_true rfl) (g := (mkF m 58 #[.val (.ref a1), .val (.int p2), .val (.int p3), .val (.int (1 : Int32)), .val (.int (1 : Int32)), .val (.int (1 : Int32))] [(.int (1 : Int32)), (.ref b)])) rfl rfl (hb hby d5_58)) ?_
        show Go p e below _ (T13.setTop (mkF m 59 #[.val (.ref a1), .val (.int p2), .val (.int p3), .val (.int (1 : Int32)), .val (.int (1 : Int32)), .val (.int (1 : Int32))] [(.int m1)]))
        refine go (fun _ q => XS.iloadN X13.here hx rfl (hb hby d5_59) rfl q) ?_
        show Go p e below _ (T13.setTop (mkF m 60 #[.val (.ref a1), .val (.int p2), .val (.int p3), .val (.int (1 : Int32)), .val (.int (1 : Int32)), .val (.int (1 : Int32))] [(.int p2), (.int m1)]))
        by_cases hc14 : p2 < m1
        · refine go (fun _ q => XS.icmpNo X13.here hx rfl (hb hby d5_60) rfl (tlt hc14).2.2.2 q) ?_
          show Go p e below _ (T13.setTop (mkF m 63 #[.val (.ref a1), .val (.int p2), .val (.int p3), .val (.int (1 : Int32)), .val (.int (1 : Int32)), .val (.int (1 : Int32))] []))
          refine go (fun _ q => XS.iload X13.here hx rfl (hb hby d5_63) rfl q) ?_
          show Go p e below _ (T13.setTop (mkF m 65 #[.val (.ref a1), .val (.int p2), .val (.int p3), .val (.int (1 : Int32)), .val (.int (1 : Int32)), .val (.int (1 : Int32))] [(.int (1 : Int32))]))
          refine go (fun _ q => XS.iconst X13.here hx rfl (hb hby d5_65) q) ?_
          show Go p e below _ (T13.setTop (mkF m 66 #[.val (.ref a1), .val (.int p2), .val (.int p3), .val (.int (1 : Int32)), .val (.int (1 : Int32)), .val (.int (1 : Int32))] [(.int (1 : Int32)), (.int (1 : Int32))]))
          refine go (fun _ q => XS.isub X13.here hx rfl (hb hby d5_66) rfl q) ?_
          show Go p e below _ (T13.setTop (mkF m 67 #[.val (.ref a1), .val (.int p2), .val (.int p3), .val (.int (1 : Int32)), .val (.int (1 : Int32)), .val (.int (1 : Int32))] [(.int (0 : Int32))]))
          refine go (fun _ q => XS.istore X13.here hx rfl (hb hby d5_67) rfl (l' := #[.val (.ref a1), .val (.int p2), .val (.int p3), .val (.int (1 : Int32)), .val (.int (0 : Int32)), .val (.int (1 : Int32))]) rfl q) ?_
          show Go p e below _ (T13.setTop (mkF m 69 #[.val (.ref a1), .val (.int p2), .val (.int p3), .val (.int (1 : Int32)), .val (.int (0 : Int32)), .val (.int (1 : Int32))] []))
          refine go (fun _ q => XS.goto X13.here hx rfl (pc0 := 69) (pc' := 75) rfl (hb hby d5_69) (by decide) (by decide) q) ?_
          show Go p e below _ (T13.setTop (mkF m 75 #[.val (.ref a1), .val (.int p2), .val (.int p3), .val (.int (1 : Int32)), .val (.int (0 : Int32)), .val (.int (1 : Int32))] []))
          refine go (fun _ q => XS.goto X13.here hx rfl (pc0 := 75) (pc' := 19) rfl (hb hby d5_75) (by decide) (by decide) q) ?_
          show Go p e below _ (T13.setTop (mkF m 19 #[.val (.ref a1), .val (.int p2), .val (.int p3), .val (.int (1 : Int32)), .val (.int (0 : Int32)), .val (.int (1 : Int32))] []))
          refine go (fun _ q => XS.iloadN X13.here hx rfl (hb hby d5_19) rfl q) ?_
          show Go p e below _ (T13.setTop (mkF m 20 #[.val (.ref a1), .val (.int p2), .val (.int p3), .val (.int (1 : Int32)), .val (.int (0 : Int32)), .val (.int (1 : Int32))] [(.int (1 : Int32))]))
          refine go (fun _ q => XS.iload X13.here hx rfl (hb hby d5_20) rfl q) ?_
          show Go p e below _ (T13.setTop (mkF m 22 #[.val (.ref a1), .val (.int p2), .val (.int p3), .val (.int (1 : Int32)), .val (.int (0 : Int32)), .val (.int (1 : Int32))] [(.int (0 : Int32)), (.int (1 : Int32))]))
          refine go (fun _ q => XS.icmpYes X13.here hx rfl (pc0 := 22) (pc' := 78) rfl (hb hby d5_22) rfl (tlt (by decide : (0 : Int32) < (1 : Int32))).2.2.1 (by decide) (by decide) q) ?_
          show Go p e below _ (T13.setTop (mkF m 78 #[.val (.ref a1), .val (.int p2), .val (.int p3), .val (.int (1 : Int32)), .val (.int (0 : Int32)), .val (.int (1 : Int32))] []))
          refine go (fun _ q => XS.iconst X13.here hx rfl (hb hby d5_78) q) ?_
          show Go p e below _ (T13.setTop (mkF m 79 #[.val (.ref a1), .val (.int p2), .val (.int p3), .val (.int (1 : Int32)), .val (.int (0 : Int32)), .val (.int (1 : Int32))] [(.int (-1 : Int32))]))
          exact own_retI X13 hx hlk hret (hb hby d5_79) (by decide) (by decide) ⟨congrArg (fun z => some (Value.int z)) (by rw [t_1_4, if_neg hc4, if_pos hc10, if_neg hc12, if_pos hc14]), N0, e13⟩
        · refine go (fun _ q => XS.icmpYes X13.here hx rfl (pc0 := 60) (pc' := 72) rfl (hb hby d5_60) rfl (flt hc14).2.2.2 (by decide) (by decide) q) ?_
          show Go p e below _ (T13.setTop (mkF m 72 #[.val (.ref a1), .val (.int p2), .val (.int p3), .val (.int (1 : Int32)), .val (.int (1 : Int32)), .val (.int (1 : Int32))] []))
          refine go (fun _ q => XS.iload X13.here hx rfl (hb hby d5_72) rfl q) ?_
          show Go p e below _ (T13.setTop (mkF m 74 #[.val (.ref a1), .val (.int p2), .val (.int p3), .val (.int (1 : Int32)), .val (.int (1 : Int32)), .val (.int (1 : Int32))] [(.int (1 : Int32))]))
          exact own_retI X13 hx hlk hret (hb hby d5_74) (by decide) (by decide) ⟨congrArg (fun z => some (Value.int z)) (by rw [t_1_4, if_neg hc4, if_pos hc10, if_neg hc12, if_neg hc14]), N0, e13⟩
    · refine go (fun _ q => XS.icmpYes X9.here hx rfl (pc0 := 60) (pc' := 72) rfl (hb hby d5_60) rfl (flt hc10).2.2.2 (by decide) (by decide) q) ?_
      show Go p e below _ (T9.setTop (mkF m 72 #[.val (.ref a1), .val (.int p2), .val (.int p3), .val (.int (1 : Int32)), .val (.int (3 : Int32)), .val (.int (2 : Int32))] []))
      refine go (fun _ q => XS.iload X9.here hx rfl (hb hby d5_72) rfl q) ?_
      show Go p e below _ (T9.setTop (mkF m 74 #[.val (.ref a1), .val (.int p2), .val (.int p3), .val (.int (1 : Int32)), .val (.int (3 : Int32)), .val (.int (2 : Int32))] [(.int (2 : Int32))]))
      exact own_retI X9 hx hlk hret (hb hby d5_74) (by decide) (by decide) ⟨congrArg (fun z => some (Value.int z)) (by rw [t_1_4, if_neg hc4, if_neg hc10]), N0, e9⟩
def t_2_2 (p2 m0 m1 m2 m3 : Int32) : Int32 := (-1 : Int32)
set_option maxRecDepth 65536 in
set_option maxHeartbeats 40000000 in
theorem rmT_2_2 (l : Launch) (Z : State) (a0 : Array Value) (hw : ∀ d ∈ tables_1, d.before a0 Z = true) (ws : List Jvm.Cond) (a1 : Addr) (p2 : Int32) (p3 : Int32) (h0 : Heap) (n0 : Nat) {t b : Addr} {FA : List Int32} {m0 m1 m2 m3 : Int32} (hp : own_p3 p3) (lFA : FA.length = 4) (hlo : FA.getD (p3).toNatClampNeg 0 = (2 : Int32)) (hhi : FA.getD ((p3 + (1 : Int32))).toNatClampNeg 0 = (2 : Int32)) (F_f : Fld Z h0 a1 "com/example/junctura/junctura/conformance/OptimalPaths" "firstAt" "[I" (.ref t)) (F_m : Fld Z h0 a1 "com/example/junctura/junctura/conformance/OptimalPaths" "marking" "[I" (.ref b)) (F_t : Ari Z h0 t FA) (F_b : Ari Z h0 b ([m0, m1, m2, m3] : List Int32)) :
    MetFree l (⟨"com/example/junctura/junctura/conformance/OptimalPaths", "state", "(II)I"⟩ : MethodName) (head1 (Jvm.Cond.code (⟨"com/example/junctura/junctura/conformance/OptimalPaths", "state", "(II)I"⟩ : MethodName) prog_45_method_11_code 6 (some .int) :: ws) ({ frames := 0, cells := 0, slots := 0, locals := 0 } : Room)) (fun a U => a = #[(.ref a1), (.int p2), (.int p3)] ∧ Z.Warmed39 U.vm ∧ U.heap = h0) (fun _ _ _ _ _ => True) (fun _ U o U' => ∃ v L, o = .returned v ∧ (QP (some (.int (t_2_2 p2 m0 m1 m2 m3))) h0 n0) v U'.heap L ∧ FrameEnd U o U' L ({ frames := 0, cells := 0, slots := 0, locals := 0 } : Room).cells ({ frames := 0, cells := 0, slots := 0, locals := 0 } : Room).slots) := by
  refine own_met (plainFor_of_name pn_5) (fun m => ef_5 m a1 p2 p3) ?_
  intro p e s m below meth c T0 hx hby hml hown hnm hret hlk hZ X0 e0
  have hown : s.vm.findClass "com/example/junctura/junctura/conformance/OptimalPaths" = some m.cls := hown
  have hnm : meth.name = "state" := hnm
  have hret : meth.sig.returnType = some .int := hret
  have N0 := Fr.nil n0
  show Go p e below _ (T0.setTop (mkF m 0 #[.val (.ref a1), .val (.int p2), .val (.int p3), .unset, .unset, .unset] []))
  refine go (fun _ q => XS.aloadN X0.here hx rfl (hb hby d5_0) rfl rfl q) ?_
  show Go p e below _ (T0.setTop (mkF m 1 #[.val (.ref a1), .val (.int p2), .val (.int p3), .unset, .unset, .unset] [(.ref a1)]))
  obtain ⟨T1, X1, e1, st1⟩ := getF X0 hx hZ hown (host := "") (Or.inl (hw _ (List.mem_of_getElem? (i := 29) rfl))) Via.refl e0 F_f (g := (mkF m 1 #[.val (.ref a1), .val (.int p2), .val (.int p3), .unset, .unset, .unset] [(.ref a1)])) rfl rfl (hb hby d5_1)
  refine go st1 ?_
  show Go p e below _ (T1.setTop (mkF m 4 #[.val (.ref a1), .val (.int p2), .val (.int p3), .unset, .unset, .unset] [(.ref t)]))
  refine go (fun _ q => XS.iloadN X1.here hx rfl (hb hby d5_4) rfl q) ?_
  show Go p e below _ (T1.setTop (mkF m 5 #[.val (.ref a1), .val (.int p2), .val (.int p3), .unset, .unset, .unset] [(.int p3), (.ref t)]))
  refine go (own_iaload X1 hx hZ e1 F_t (j := p3) (own_i0 hp).1 (by rw [lFA]; exact (own_i0 hp).2) (g := (mkF m 5 #[.val (.ref a1), .val (.int p2), .val (.int p3), .unset, .unset, .unset] [(.int p3), (.ref t)])) rfl rfl (hb hby d5_5)) ?_
  show Go p e below _ (T1.setTop (mkF m 6 #[.val (.ref a1), .val (.int p2), .val (.int p3), .unset, .unset, .unset] [(.int (FA.getD (p3).toNatClampNeg 0))]))
  rw [hlo]
  show Go p e below _ (T1.setTop (mkF m 6 #[.val (.ref a1), .val (.int p2), .val (.int p3), .unset, .unset, .unset] [(.int (2 : Int32))]))
  refine go (fun _ q => XS.istoreN X1.here hx rfl (hb hby d5_6) rfl (l' := #[.val (.ref a1), .val (.int p2), .val (.int p3), .val (.int (2 : Int32)), .unset, .unset]) rfl q) ?_
  show Go p e below _ (T1.setTop (mkF m 7 #[.val (.ref a1), .val (.int p2), .val (.int p3), .val (.int (2 : Int32)), .unset, .unset] []))
  refine go (fun _ q => XS.aloadN X1.here hx rfl (hb hby d5_7) rfl rfl q) ?_
  show Go p e below _ (T1.setTop (mkF m 8 #[.val (.ref a1), .val (.int p2), .val (.int p3), .val (.int (2 : Int32)), .unset, .unset] [(.ref a1)]))
  obtain ⟨T2, X2, e2, st2⟩ := getF X1 hx hZ hown (host := "") (Or.inl (hw _ (List.mem_of_getElem? (i := 29) rfl))) Via.refl e1 F_f (g := (mkF m 8 #[.val (.ref a1), .val (.int p2), .val (.int p3), .val (.int (2 : Int32)), .unset, .unset] [(.ref a1)])) rfl rfl (hb hby d5_8)
  refine go st2 ?_
  show Go p e below _ (T2.setTop (mkF m 11 #[.val (.ref a1), .val (.int p2), .val (.int p3), .val (.int (2 : Int32)), .unset, .unset] [(.ref t)]))
  refine go (fun _ q => XS.iloadN X2.here hx rfl (hb hby d5_11) rfl q) ?_
  show Go p e below _ (T2.setTop (mkF m 12 #[.val (.ref a1), .val (.int p2), .val (.int p3), .val (.int (2 : Int32)), .unset, .unset] [(.int p3), (.ref t)]))
  refine go (fun _ q => XS.iconst X2.here hx rfl (hb hby d5_12) q) ?_
  show Go p e below _ (T2.setTop (mkF m 13 #[.val (.ref a1), .val (.int p2), .val (.int p3), .val (.int (2 : Int32)), .unset, .unset] [(.int (1 : Int32)), (.int p3), (.ref t)]))
  refine go (fun _ q => XS.iadd X2.here hx rfl (hb hby d5_13) rfl q) ?_
  show Go p e below _ (T2.setTop (mkF m 14 #[.val (.ref a1), .val (.int p2), .val (.int p3), .val (.int (2 : Int32)), .unset, .unset] [(.int (p3 + (1 : Int32))), (.ref t)]))
  refine go (own_iaload X2 hx hZ e2 F_t (j := (p3 + (1 : Int32))) (own_i1 hp).1 (by rw [lFA]; exact (own_i1 hp).2) (g := (mkF m 14 #[.val (.ref a1), .val (.int p2), .val (.int p3), .val (.int (2 : Int32)), .unset, .unset] [(.int (p3 + (1 : Int32))), (.ref t)])) rfl rfl (hb hby d5_14)) ?_
  show Go p e below _ (T2.setTop (mkF m 15 #[.val (.ref a1), .val (.int p2), .val (.int p3), .val (.int (2 : Int32)), .unset, .unset] [(.int (FA.getD ((p3 + (1 : Int32))).toNatClampNeg 0))]))
  rw [hhi]
  show Go p e below _ (T2.setTop (mkF m 15 #[.val (.ref a1), .val (.int p2), .val (.int p3), .val (.int (2 : Int32)), .unset, .unset] [(.int (2 : Int32))]))
  refine go (fun _ q => XS.iconst X2.here hx rfl (hb hby d5_15) q) ?_
  show Go p e below _ (T2.setTop (mkF m 16 #[.val (.ref a1), .val (.int p2), .val (.int p3), .val (.int (2 : Int32)), .unset, .unset] [(.int (1 : Int32)), (.int (2 : Int32))]))
  refine go (fun _ q => XS.isub X2.here hx rfl (hb hby d5_16) rfl q) ?_
  show Go p e below _ (T2.setTop (mkF m 17 #[.val (.ref a1), .val (.int p2), .val (.int p3), .val (.int (2 : Int32)), .unset, .unset] [(.int (1 : Int32))]))
  refine go (fun _ q => XS.istore X2.here hx rfl (hb hby d5_17) rfl (l' := #[.val (.ref a1), .val (.int p2), .val (.int p3), .val (.int (2 : Int32)), .val (.int (1 : Int32)), .unset]) rfl q) ?_
  show Go p e below _ (T2.setTop (mkF m 19 #[.val (.ref a1), .val (.int p2), .val (.int p3), .val (.int (2 : Int32)), .val (.int (1 : Int32)), .unset] []))
  refine go (fun _ q => XS.iloadN X2.here hx rfl (hb hby d5_19) rfl q) ?_
  show Go p e below _ (T2.setTop (mkF m 20 #[.val (.ref a1), .val (.int p2), .val (.int p3), .val (.int (2 : Int32)), .val (.int (1 : Int32)), .unset] [(.int (2 : Int32))]))
  refine go (fun _ q => XS.iload X2.here hx rfl (hb hby d5_20) rfl q) ?_
  show Go p e below _ (T2.setTop (mkF m 22 #[.val (.ref a1), .val (.int p2), .val (.int p3), .val (.int (2 : Int32)), .val (.int (1 : Int32)), .unset] [(.int (1 : Int32)), (.int (2 : Int32))]))
  refine go (fun _ q => XS.icmpYes X2.here hx rfl (pc0 := 22) (pc' := 78) rfl (hb hby d5_22) rfl (tlt (by decide : (1 : Int32) < (2 : Int32))).2.2.1 (by decide) (by decide) q) ?_
  show Go p e below _ (T2.setTop (mkF m 78 #[.val (.ref a1), .val (.int p2), .val (.int p3), .val (.int (2 : Int32)), .val (.int (1 : Int32)), .unset] []))
  refine go (fun _ q => XS.iconst X2.here hx rfl (hb hby d5_78) q) ?_
  show Go p e below _ (T2.setTop (mkF m 79 #[.val (.ref a1), .val (.int p2), .val (.int p3), .val (.int (2 : Int32)), .val (.int (1 : Int32)), .unset] [(.int (-1 : Int32))]))
  exact own_retI X2 hx hlk hret (hb hby d5_79) (by decide) (by decide) ⟨congrArg (fun z => some (Value.int z)) (by rw [t_2_2]), N0, e2⟩
def t_2_3 (p2 m0 m1 m2 m3 : Int32) : Int32 := (if m2 < p2 then (-1 : Int32) else (if p2 < m2 then (-1 : Int32) else (2 : Int32)))
set_option maxRecDepth 65536 in
set_option maxHeartbeats 40000000 in
theorem rmT_2_3 (l : Launch) (Z : State) (a0 : Array Value) (hw : ∀ d ∈ tables_1, d.before a0 Z = true) (ws : List Jvm.Cond) (a1 : Addr) (p2 : Int32) (p3 : Int32) (h0 : Heap) (n0 : Nat) {t b : Addr} {FA : List Int32} {m0 m1 m2 m3 : Int32} (hp : own_p3 p3) (lFA : FA.length = 4) (hlo : FA.getD (p3).toNatClampNeg 0 = (2 : Int32)) (hhi : FA.getD ((p3 + (1 : Int32))).toNatClampNeg 0 = (3 : Int32)) (F_f : Fld Z h0 a1 "com/example/junctura/junctura/conformance/OptimalPaths" "firstAt" "[I" (.ref t)) (F_m : Fld Z h0 a1 "com/example/junctura/junctura/conformance/OptimalPaths" "marking" "[I" (.ref b)) (F_t : Ari Z h0 t FA) (F_b : Ari Z h0 b ([m0, m1, m2, m3] : List Int32)) :
    MetFree l (⟨"com/example/junctura/junctura/conformance/OptimalPaths", "state", "(II)I"⟩ : MethodName) (head1 (Jvm.Cond.code (⟨"com/example/junctura/junctura/conformance/OptimalPaths", "state", "(II)I"⟩ : MethodName) prog_45_method_11_code 6 (some .int) :: ws) ({ frames := 0, cells := 0, slots := 0, locals := 0 } : Room)) (fun a U => a = #[(.ref a1), (.int p2), (.int p3)] ∧ Z.Warmed39 U.vm ∧ U.heap = h0) (fun _ _ _ _ _ => True) (fun _ U o U' => ∃ v L, o = .returned v ∧ (QP (some (.int (t_2_3 p2 m0 m1 m2 m3))) h0 n0) v U'.heap L ∧ FrameEnd U o U' L ({ frames := 0, cells := 0, slots := 0, locals := 0 } : Room).cells ({ frames := 0, cells := 0, slots := 0, locals := 0 } : Room).slots) := by
  refine own_met (plainFor_of_name pn_5) (fun m => ef_5 m a1 p2 p3) ?_
  intro p e s m below meth c T0 hx hby hml hown hnm hret hlk hZ X0 e0
  have hown : s.vm.findClass "com/example/junctura/junctura/conformance/OptimalPaths" = some m.cls := hown
  have hnm : meth.name = "state" := hnm
  have hret : meth.sig.returnType = some .int := hret
  have N0 := Fr.nil n0
  show Go p e below _ (T0.setTop (mkF m 0 #[.val (.ref a1), .val (.int p2), .val (.int p3), .unset, .unset, .unset] []))
  refine go (fun _ q => XS.aloadN X0.here hx rfl (hb hby d5_0) rfl rfl q) ?_
  show Go p e below _ (T0.setTop (mkF m 1 #[.val (.ref a1), .val (.int p2), .val (.int p3), .unset, .unset, .unset] [(.ref a1)]))
  obtain ⟨T1, X1, e1, st1⟩ := getF X0 hx hZ hown (host := "") (Or.inl (hw _ (List.mem_of_getElem? (i := 29) rfl))) Via.refl e0 F_f (g := (mkF m 1 #[.val (.ref a1), .val (.int p2), .val (.int p3), .unset, .unset, .unset] [(.ref a1)])) rfl rfl (hb hby d5_1)
  refine go st1 ?_
  show Go p e below _ (T1.setTop (mkF m 4 #[.val (.ref a1), .val (.int p2), .val (.int p3), .unset, .unset, .unset] [(.ref t)]))
  refine go (fun _ q => XS.iloadN X1.here hx rfl (hb hby d5_4) rfl q) ?_
  show Go p e below _ (T1.setTop (mkF m 5 #[.val (.ref a1), .val (.int p2), .val (.int p3), .unset, .unset, .unset] [(.int p3), (.ref t)]))
  refine go (own_iaload X1 hx hZ e1 F_t (j := p3) (own_i0 hp).1 (by rw [lFA]; exact (own_i0 hp).2) (g := (mkF m 5 #[.val (.ref a1), .val (.int p2), .val (.int p3), .unset, .unset, .unset] [(.int p3), (.ref t)])) rfl rfl (hb hby d5_5)) ?_
  show Go p e below _ (T1.setTop (mkF m 6 #[.val (.ref a1), .val (.int p2), .val (.int p3), .unset, .unset, .unset] [(.int (FA.getD (p3).toNatClampNeg 0))]))
  rw [hlo]
  show Go p e below _ (T1.setTop (mkF m 6 #[.val (.ref a1), .val (.int p2), .val (.int p3), .unset, .unset, .unset] [(.int (2 : Int32))]))
  refine go (fun _ q => XS.istoreN X1.here hx rfl (hb hby d5_6) rfl (l' := #[.val (.ref a1), .val (.int p2), .val (.int p3), .val (.int (2 : Int32)), .unset, .unset]) rfl q) ?_
  show Go p e below _ (T1.setTop (mkF m 7 #[.val (.ref a1), .val (.int p2), .val (.int p3), .val (.int (2 : Int32)), .unset, .unset] []))
  refine go (fun _ q => XS.aloadN X1.here hx rfl (hb hby d5_7) rfl rfl q) ?_
  show Go p e below _ (T1.setTop (mkF m 8 #[.val (.ref a1), .val (.int p2), .val (.int p3), .val (.int (2 : Int32)), .unset, .unset] [(.ref a1)]))
  obtain ⟨T2, X2, e2, st2⟩ := getF X1 hx hZ hown (host := "") (Or.inl (hw _ (List.mem_of_getElem? (i := 29) rfl))) Via.refl e1 F_f (g := (mkF m 8 #[.val (.ref a1), .val (.int p2), .val (.int p3), .val (.int (2 : Int32)), .unset, .unset] [(.ref a1)])) rfl rfl (hb hby d5_8)
  refine go st2 ?_
  show Go p e below _ (T2.setTop (mkF m 11 #[.val (.ref a1), .val (.int p2), .val (.int p3), .val (.int (2 : Int32)), .unset, .unset] [(.ref t)]))
  refine go (fun _ q => XS.iloadN X2.here hx rfl (hb hby d5_11) rfl q) ?_
  show Go p e below _ (T2.setTop (mkF m 12 #[.val (.ref a1), .val (.int p2), .val (.int p3), .val (.int (2 : Int32)), .unset, .unset] [(.int p3), (.ref t)]))
  refine go (fun _ q => XS.iconst X2.here hx rfl (hb hby d5_12) q) ?_
  show Go p e below _ (T2.setTop (mkF m 13 #[.val (.ref a1), .val (.int p2), .val (.int p3), .val (.int (2 : Int32)), .unset, .unset] [(.int (1 : Int32)), (.int p3), (.ref t)]))
  refine go (fun _ q => XS.iadd X2.here hx rfl (hb hby d5_13) rfl q) ?_
  show Go p e below _ (T2.setTop (mkF m 14 #[.val (.ref a1), .val (.int p2), .val (.int p3), .val (.int (2 : Int32)), .unset, .unset] [(.int (p3 + (1 : Int32))), (.ref t)]))
  refine go (own_iaload X2 hx hZ e2 F_t (j := (p3 + (1 : Int32))) (own_i1 hp).1 (by rw [lFA]; exact (own_i1 hp).2) (g := (mkF m 14 #[.val (.ref a1), .val (.int p2), .val (.int p3), .val (.int (2 : Int32)), .unset, .unset] [(.int (p3 + (1 : Int32))), (.ref t)])) rfl rfl (hb hby d5_14)) ?_
  show Go p e below _ (T2.setTop (mkF m 15 #[.val (.ref a1), .val (.int p2), .val (.int p3), .val (.int (2 : Int32)), .unset, .unset] [(.int (FA.getD ((p3 + (1 : Int32))).toNatClampNeg 0))]))
  rw [hhi]
  show Go p e below _ (T2.setTop (mkF m 15 #[.val (.ref a1), .val (.int p2), .val (.int p3), .val (.int (2 : Int32)), .unset, .unset] [(.int (3 : Int32))]))
  refine go (fun _ q => XS.iconst X2.here hx rfl (hb hby d5_15) q) ?_
  show Go p e below _ (T2.setTop (mkF m 16 #[.val (.ref a1), .val (.int p2), .val (.int p3), .val (.int (2 : Int32)), .unset, .unset] [(.int (1 : Int32)), (.int (3 : Int32))]))
  refine go (fun _ q => XS.isub X2.here hx rfl (hb hby d5_16) rfl q) ?_
  show Go p e below _ (T2.setTop (mkF m 17 #[.val (.ref a1), .val (.int p2), .val (.int p3), .val (.int (2 : Int32)), .unset, .unset] [(.int (2 : Int32))]))
  refine go (fun _ q => XS.istore X2.here hx rfl (hb hby d5_17) rfl (l' := #[.val (.ref a1), .val (.int p2), .val (.int p3), .val (.int (2 : Int32)), .val (.int (2 : Int32)), .unset]) rfl q) ?_
  show Go p e below _ (T2.setTop (mkF m 19 #[.val (.ref a1), .val (.int p2), .val (.int p3), .val (.int (2 : Int32)), .val (.int (2 : Int32)), .unset] []))
  refine go (fun _ q => XS.iloadN X2.here hx rfl (hb hby d5_19) rfl q) ?_
  show Go p e below _ (T2.setTop (mkF m 20 #[.val (.ref a1), .val (.int p2), .val (.int p3), .val (.int (2 : Int32)), .val (.int (2 : Int32)), .unset] [(.int (2 : Int32))]))
  refine go (fun _ q => XS.iload X2.here hx rfl (hb hby d5_20) rfl q) ?_
  show Go p e below _ (T2.setTop (mkF m 22 #[.val (.ref a1), .val (.int p2), .val (.int p3), .val (.int (2 : Int32)), .val (.int (2 : Int32)), .unset] [(.int (2 : Int32)), (.int (2 : Int32))]))
  refine go (fun _ q => XS.icmpNo X2.here hx rfl (hb hby d5_22) rfl (flt (by decide : ¬ ((2 : Int32) < (2 : Int32)))).2.2.1 q) ?_
  show Go p e below _ (T2.setTop (mkF m 25 #[.val (.ref a1), .val (.int p2), .val (.int p3), .val (.int (2 : Int32)), .val (.int (2 : Int32)), .unset] []))
  refine go (fun _ q => XS.iloadN X2.here hx rfl (hb hby d5_25) rfl q) ?_
  show Go p e below _ (T2.setTop (mkF m 26 #[.val (.ref a1), .val (.int p2), .val (.int p3), .val (.int (2 : Int32)), .val (.int (2 : Int32)), .unset] [(.int (2 : Int32))]))
  refine go (fun _ q => XS.iload X2.here hx rfl (hb hby d5_26) rfl q) ?_
  show Go p e below _ (T2.setTop (mkF m 28 #[.val (.ref a1), .val (.int p2), .val (.int p3), .val (.int (2 : Int32)), .val (.int (2 : Int32)), .unset] [(.int (2 : Int32)), (.int (2 : Int32))]))
  refine go (fun _ q => XS.iadd X2.here hx rfl (hb hby d5_28) rfl q) ?_
  show Go p e below _ (T2.setTop (mkF m 29 #[.val (.ref a1), .val (.int p2), .val (.int p3), .val (.int (2 : Int32)), .val (.int (2 : Int32)), .unset] [(.int (4 : Int32))]))
  refine go (fun _ q => XS.iconst X2.here hx rfl (hb hby d5_29) q) ?_
  show Go p e below _ (T2.setTop (mkF m 30 #[.val (.ref a1), .val (.int p2), .val (.int p3), .val (.int (2 : Int32)), .val (.int (2 : Int32)), .unset] [(.int (1 : Int32)), (.int (4 : Int32))]))
  refine go (fun _ q => XS.iushr X2.here hx rfl (hb hby d5_30) rfl q) ?_
  show Go p e below _ (T2.setTop (mkF m 31 #[.val (.ref a1), .val (.int p2), .val (.int p3), .val (.int (2 : Int32)), .val (.int (2 : Int32)), .unset] [(.int (2 : Int32))]))
  refine go (fun _ q => XS.istore X2.here hx rfl (hb hby d5_31) rfl (l' := #[.val (.ref a1), .val (.int p2), .val (.int p3), .val (.int (2 : Int32)), .val (.int (2 : Int32)), .val (.int (2 : Int32))]) rfl q) ?_
  show Go p e below _ (T2.setTop (mkF m 33 #[.val (.ref a1), .val (.int p2), .val (.int p3), .val (.int (2 : Int32)), .val (.int (2 : Int32)), .val (.int (2 : Int32))] []))
  refine go (fun _ q => XS.aloadN X2.here hx rfl (hb hby d5_33) rfl rfl q) ?_
  show Go p e below _ (T2.setTop (mkF m 34 #[.val (.ref a1), .val (.int p2), .val (.int p3), .val (.int (2 : Int32)), .val (.int (2 : Int32)), .val (.int (2 : Int32))] [(.ref a1)]))
  obtain ⟨T3, X3, e3, st3⟩ := getF X2 hx hZ hown (host := "") (Or.inl (hw _ (List.mem_of_getElem? (i := 17) rfl))) Via.refl e2 F_m (g := (mkF m 34 #[.val (.ref a1), .val (.int p2), .val (.int p3), .val (.int (2 : Int32)), .val (.int (2 : Int32)), .val (.int (2 : Int32))] [(.ref a1)])) rfl rfl (hb hby d5_34)
  refine go st3 ?_
  show Go p e below _ (T3.setTop (mkF m 37 #[.val (.ref a1), .val (.int p2), .val (.int p3), .val (.int (2 : Int32)), .val (.int (2 : Int32)), .val (.int (2 : Int32))] [(.ref b)]))
  refine go (fun _ q => XS.iload X3.here hx rfl (hb hby d5_37) rfl q) ?_
  show Go p e below _ (T3.setTop (mkF m 39 #[.val (.ref a1), .val (.int p2), .val (.int p3), .val (.int (2 : Int32)), .val (.int (2 : Int32)), .val (.int (2 : Int32))] [(.int (2 : Int32)), (.ref b)]))
  refine go (own_iaload X3 hx hZ e3 F_b (j := (2 : Int32)) (by decide) (Nat.le_of_ble_eq_true rfl) (g := (mkF m 39 #[.val (.ref a1), .val (.int p2), .val (.int p3), .val (.int (2 : Int32)), .val (.int (2 : Int32)), .val (.int (2 : Int32))] [(.int (2 : Int32)), (.ref b)])) rfl rfl (hb hby d5_39)) ?_
  show Go p e below _ (T3.setTop (mkF m 40 #[.val (.ref a1), .val (.int p2), .val (.int p3), .val (.int (2 : Int32)), .val (.int (2 : Int32)), .val (.int (2 : Int32))] [(.int m2)]))
  refine go (fun _ q => XS.iloadN X3.here hx rfl (hb hby d5_40) rfl q) ?_
  show Go p e below _ (T3.setTop (mkF m 41 #[.val (.ref a1), .val (.int p2), .val (.int p3), .val (.int (2 : Int32)), .val (.int (2 : Int32)), .val (.int (2 : Int32))] [(.int p2), (.int m2)]))
  by_cases hc4 : m2 < p2
  · refine go (fun _ q => XS.icmpNo X3.here hx rfl (hb hby d5_41) rfl (tlt hc4).2.1 q) ?_
    show Go p e below _ (T3.setTop (mkF m 44 #[.val (.ref a1), .val (.int p2), .val (.int p3), .val (.int (2 : Int32)), .val (.int (2 : Int32)), .val (.int (2 : Int32))] []))
    refine go (fun _ q => XS.iload X3.here hx rfl (hb hby d5_44) rfl q) ?_
    show Go p e below _ (T3.setTop (mkF m 46 #[.val (.ref a1), .val (.int p2), .val (.int p3), .val (.int (2 : Int32)), .val (.int (2 : Int32)), .val (.int (2 : Int32))] [(.int (2 : Int32))]))
    refine go (fun _ q => XS.iconst X3.here hx rfl (hb hby d5_46) q) ?_
    show Go p e below _ (T3.setTop (mkF m 47 #[.val (.ref a1), .val (.int p2), .val (.int p3), .val (.int (2 : Int32)), .val (.int (2 : Int32)), .val (.int (2 : Int32))] [(.int (1 : Int32)), (.int (2 : Int32))]))
    refine go (fun _ q => XS.iadd X3.here hx rfl (hb hby d5_47) rfl q) ?_
    show Go p e below _ (T3.setTop (mkF m 48 #[.val (.ref a1), .val (.int p2), .val (.int p3), .val (.int (2 : Int32)), .val (.int (2 : Int32)), .val (.int (2 : Int32))] [(.int (3 : Int32))]))
    refine go (fun _ q => XS.istoreN X3.here hx rfl (hb hby d5_48) rfl (l' := #[.val (.ref a1), .val (.int p2), .val (.int p3), .val (.int (3 : Int32)), .val (.int (2 : Int32)), .val (.int (2 : Int32))]) rfl q) ?_
    show Go p e below _ (T3.setTop (mkF m 49 #[.val (.ref a1), .val (.int p2), .val (.int p3), .val (.int (3 : Int32)), .val (.int (2 : Int32)), .val (.int (2 : Int32))] []))
    refine go (fun _ q => XS.goto X3.here hx rfl (pc0 := 49) (pc' := 75) rfl (hb hby d5_49) (by decide) (by decide) q) ?_
    show Go p e below _ (T3.setTop (mkF m 75 #[.val (.ref a1), .val (.int p2), .val (.int p3), .val (.int (3 : Int32)), .val (.int (2 : Int32)), .val (.int (2 : Int32))] []))
    refine go (fun _ q => XS.goto X3.here hx rfl (pc0 := 75) (pc' := 19) rfl (hb hby d5_75) (by decide) (by decide) q) ?_
    show Go p e below _ (T3.setTop (mkF m 19 #[.val (.ref a1), .val (.int p2), .val (.int p3), .val (.int (3 : Int32)), .val (.int (2 : Int32)), .val (.int (2 : Int32))] []))
    refine go (fun _ q => XS.iloadN X3.here hx rfl (hb hby d5_19) rfl q) ?_
    show Go p e below _ (T3.setTop (mkF m 20 #[.val (.ref a1), .val (.int p2), .val (.int p3), .val (.int (3 : Int32)), .val (.int (2 : Int32)), .val (.int (2 : Int32))] [(.int (3 : Int32))]))
    refine go (fun _ q => XS.iload X3.here hx rfl (hb hby d5_20) rfl q) ?_
    show Go p e below _ (T3.setTop (mkF m 22 #[.val (.ref a1), .val (.int p2), .val (.int p3), .val (.int (3 : Int32)), .val (.int (2 : Int32)), .val (.int (2 : Int32))] [(.int (2 : Int32)), (.int (3 : Int32))]))
    refine go (fun _ q => XS.icmpYes X3.here hx rfl (pc0 := 22) (pc' := 78) rfl (hb hby d5_22) rfl (tlt (by decide : (2 : Int32) < (3 : Int32))).2.2.1 (by decide) (by decide) q) ?_
    show Go p e below _ (T3.setTop (mkF m 78 #[.val (.ref a1), .val (.int p2), .val (.int p3), .val (.int (3 : Int32)), .val (.int (2 : Int32)), .val (.int (2 : Int32))] []))
    refine go (fun _ q => XS.iconst X3.here hx rfl (hb hby d5_78) q) ?_
    show Go p e below _ (T3.setTop (mkF m 79 #[.val (.ref a1), .val (.int p2), .val (.int p3), .val (.int (3 : Int32)), .val (.int (2 : Int32)), .val (.int (2 : Int32))] [(.int (-1 : Int32))]))
    exact own_retI X3 hx hlk hret (hb hby d5_79) (by decide) (by decide) ⟨congrArg (fun z => some (Value.int z)) (by rw [t_2_3, if_pos hc4]), N0, e3⟩
  · refine go (fun _ q => XS.icmpYes X3.here hx rfl (pc0 := 41) (pc' := 52) rfl (hb hby d5_41) rfl (flt hc4).2.1 (by decide) (by decide) q) ?_
    show Go p e below _ (T3.setTop (mkF m 52 #[.val (.ref a1), .val (.int p2), .val (.int p3), .val (.int (2 : Int32)), .val (.int (2 : Int32)), .val (.int (2 : Int32))] []))
    refine go (fun _ q => XS.aloadN X3.here hx rfl (hb hby d5_52) rfl rfl q) ?_
    show Go p e below _ (T3.setTop (mkF m 53 #[.val (.ref a1), .val (.int p2), .val (.int p3), .val (.int (2 : Int32)), .val (.int (2 : Int32)), .val (.int (2 : Int32))] [(.ref a1)]))
    obtain ⟨T5, X5, e5, st5⟩ := getF X3 hx hZ hown (host := "") (Or.inl (hw _ (List.mem_of_getElem? (i := 17) rfl))) Via.refl e3 F_m (g := (mkF m 53 #[.val (.ref a1), .val (.int p2), .val (.int p3), .val (.int (2 : Int32)), .val (.int (2 : Int32)), .val (.int (2 : Int32))] [(.ref a1)])) rfl rfl (hb hby d5_53)
    refine go st5 ?_
    show Go p e below _ (T5.setTop (mkF m 56 #[.val (.ref a1), .val (.int p2), .val (.int p3), .val (.int (2 : Int32)), .val (.int (2 : Int32)), .val (.int (2 : Int32))] [(.ref b)]))
    refine go (fun _ q => XS.iload X5.here hx rfl (hb hby d5_56) rfl q) ?_
    show Go p e below _ (T5.setTop (mkF m 58 #[.val (.ref a1), .val (.int p2), .val (.int p3), .val (.int (2 : Int32)), .val (.int (2 : Int32)), .val (.int (2 : Int32))] [(.int (2 : Int32)), (.ref b)]))
    refine go (own_iaload X5 hx hZ e5 F_b (j := (2 : Int32)) (by decide) (Nat.le_of_ble_eq_true rfl) (g := (mkF m 58 #[.val (.ref a1), .val (.int p2), .val (.int p3), .val (.int (2 : Int32)), .val (.int (2 : Int32)), .val (.int (2 : Int32))] [(.int (2 : Int32)), (.ref b)])) rfl rfl (hb hby d5_58)) ?_
    show Go p e below _ (T5.setTop (mkF m 59 #[.val (.ref a1), .val (.int p2), .val (.int p3), .val (.int (2 : Int32)), .val (.int (2 : Int32)), .val (.int (2 : Int32))] [(.int m2)]))
    refine go (fun _ q => XS.iloadN X5.here hx rfl (hb hby d5_59) rfl q) ?_
    show Go p e below _ (T5.setTop (mkF m 60 #[.val (.ref a1), .val (.int p2), .val (.int p3), .val (.int (2 : Int32)), .val (.int (2 : Int32)), .val (.int (2 : Int32))] [(.int p2), (.int m2)]))
    by_cases hc6 : p2 < m2
    · refine go (fun _ q => XS.icmpNo X5.here hx rfl (hb hby d5_60) rfl (tlt hc6).2.2.2 q) ?_
      show Go p e below _ (T5.setTop (mkF m 63 #[.val (.ref a1), .val (.int p2), .val (.int p3), .val (.int (2 : Int32)), .val (.int (2 : Int32)), .val (.int (2 : Int32))] []))
      refine go (fun _ q => XS.iload X5.here hx rfl (hb hby d5_63) rfl q) ?_
      show Go p e below _ (T5.setTop (mkF m 65 #[.val (.ref a1), .val (.int p2), .val (.int p3), .val (.int (2 : Int32)), .val (.int (2 : Int32)), .val (.int (2 : Int32))] [(.int (2 : Int32))]))
      refine go (fun _ q => XS.iconst X5.here hx rfl (hb hby d5_65) q) ?_
      show Go p e below _ (T5.setTop (mkF m 66 #[.val (.ref a1), .val (.int p2), .val (.int p3), .val (.int (2 : Int32)), .val (.int (2 : Int32)), .val (.int (2 : Int32))] [(.int (1 : Int32)), (.int (2 : Int32))]))
      refine go (fun _ q => XS.isub X5.here hx rfl (hb hby d5_66) rfl q) ?_
      show Go p e below _ (T5.setTop (mkF m 67 #[.val (.ref a1), .val (.int p2), .val (.int p3), .val (.int (2 : Int32)), .val (.int (2 : Int32)), .val (.int (2 : Int32))] [(.int (1 : Int32))]))
      refine go (fun _ q => XS.istore X5.here hx rfl (hb hby d5_67) rfl (l' := #[.val (.ref a1), .val (.int p2), .val (.int p3), .val (.int (2 : Int32)), .val (.int (1 : Int32)), .val (.int (2 : Int32))]) rfl q) ?_
      show Go p e below _ (T5.setTop (mkF m 69 #[.val (.ref a1), .val (.int p2), .val (.int p3), .val (.int (2 : Int32)), .val (.int (1 : Int32)), .val (.int (2 : Int32))] []))
      refine go (fun _ q => XS.goto X5.here hx rfl (pc0 := 69) (pc' := 75) rfl (hb hby d5_69) (by decide) (by decide) q) ?_
      show Go p e below _ (T5.setTop (mkF m 75 #[.val (.ref a1), .val (.int p2), .val (.int p3), .val (.int (2 : Int32)), .val (.int (1 : Int32)), .val (.int (2 : Int32))] []))
      refine go (fun _ q => XS.goto X5.here hx rfl (pc0 := 75) (pc' := 19) rfl (hb hby d5_75) (by decide) (by decide) q) ?_
      show Go p e below _ (T5.setTop (mkF m 19 #[.val (.ref a1), .val (.int p2), .val (.int p3), .val (.int (2 : Int32)), .val (.int (1 : Int32)), .val (.int (2 : Int32))] []))
      refine go (fun _ q => XS.iloadN X5.here hx rfl (hb hby d5_19) rfl q) ?_
      show Go p e below _ (T5.setTop (mkF m 20 #[.val (.ref a1), .val (.int p2), .val (.int p3), .val (.int (2 : Int32)), .val (.int (1 : Int32)), .val (.int (2 : Int32))] [(.int (2 : Int32))]))
      refine go (fun _ q => XS.iload X5.here hx rfl (hb hby d5_20) rfl q) ?_
      show Go p e below _ (T5.setTop (mkF m 22 #[.val (.ref a1), .val (.int p2), .val (.int p3), .val (.int (2 : Int32)), .val (.int (1 : Int32)), .val (.int (2 : Int32))] [(.int (1 : Int32)), (.int (2 : Int32))]))
      refine go (fun _ q => XS.icmpYes X5.here hx rfl (pc0 := 22) (pc' := 78) rfl (hb hby d5_22) rfl (tlt (by decide : (1 : Int32) < (2 : Int32))).2.2.1 (by decide) (by decide) q) ?_
      show Go p e below _ (T5.setTop (mkF m 78 #[.val (.ref a1), .val (.int p2), .val (.int p3), .val (.int (2 : Int32)), .val (.int (1 : Int32)), .val (.int (2 : Int32))] []))
      refine go (fun _ q => XS.iconst X5.here hx rfl (hb hby d5_78) q) ?_
      show Go p e below _ (T5.setTop (mkF m 79 #[.val (.ref a1), .val (.int p2), .val (.int p3), .val (.int (2 : Int32)), .val (.int (1 : Int32)), .val (.int (2 : Int32))] [(.int (-1 : Int32))]))
      exact own_retI X5 hx hlk hret (hb hby d5_79) (by decide) (by decide) ⟨congrArg (fun z => some (Value.int z)) (by rw [t_2_3, if_neg hc4, if_pos hc6]), N0, e5⟩
    · refine go (fun _ q => XS.icmpYes X5.here hx rfl (pc0 := 60) (pc' := 72) rfl (hb hby d5_60) rfl (flt hc6).2.2.2 (by decide) (by decide) q) ?_
      show Go p e below _ (T5.setTop (mkF m 72 #[.val (.ref a1), .val (.int p2), .val (.int p3), .val (.int (2 : Int32)), .val (.int (2 : Int32)), .val (.int (2 : Int32))] []))
      refine go (fun _ q => XS.iload X5.here hx rfl (hb hby d5_72) rfl q) ?_
      show Go p e below _ (T5.setTop (mkF m 74 #[.val (.ref a1), .val (.int p2), .val (.int p3), .val (.int (2 : Int32)), .val (.int (2 : Int32)), .val (.int (2 : Int32))] [(.int (2 : Int32))]))
      exact own_retI X5 hx hlk hret (hb hby d5_74) (by decide) (by decide) ⟨congrArg (fun z => some (Value.int z)) (by rw [t_2_3, if_neg hc4, if_neg hc6]), N0, e5⟩
def t_2_4 (p2 m0 m1 m2 m3 : Int32) : Int32 := (if m2 < p2 then (if m3 < p2 then (-1 : Int32) else (if p2 < m3 then (-1 : Int32) else (3 : Int32))) else (if p2 < m2 then (-1 : Int32) else (2 : Int32)))
set_option maxRecDepth 65536 in
set_option maxHeartbeats 40000000 in
theorem rmT_2_4 (l : Launch) (Z : State) (a0 : Array Value) (hw : ∀ d ∈ tables_1, d.before a0 Z = true) (ws : List Jvm.Cond) (a1 : Addr) (p2 : Int32) (p3 : Int32) (h0 : Heap) (n0 : Nat) {t b : Addr} {FA : List Int32} {m0 m1 m2 m3 : Int32} (hp : own_p3 p3) (lFA : FA.length = 4) (hlo : FA.getD (p3).toNatClampNeg 0 = (2 : Int32)) (hhi : FA.getD ((p3 + (1 : Int32))).toNatClampNeg 0 = (4 : Int32)) (F_f : Fld Z h0 a1 "com/example/junctura/junctura/conformance/OptimalPaths" "firstAt" "[I" (.ref t)) (F_m : Fld Z h0 a1 "com/example/junctura/junctura/conformance/OptimalPaths" "marking" "[I" (.ref b)) (F_t : Ari Z h0 t FA) (F_b : Ari Z h0 b ([m0, m1, m2, m3] : List Int32)) :
    MetFree l (⟨"com/example/junctura/junctura/conformance/OptimalPaths", "state", "(II)I"⟩ : MethodName) (head1 (Jvm.Cond.code (⟨"com/example/junctura/junctura/conformance/OptimalPaths", "state", "(II)I"⟩ : MethodName) prog_45_method_11_code 6 (some .int) :: ws) ({ frames := 0, cells := 0, slots := 0, locals := 0 } : Room)) (fun a U => a = #[(.ref a1), (.int p2), (.int p3)] ∧ Z.Warmed39 U.vm ∧ U.heap = h0) (fun _ _ _ _ _ => True) (fun _ U o U' => ∃ v L, o = .returned v ∧ (QP (some (.int (t_2_4 p2 m0 m1 m2 m3))) h0 n0) v U'.heap L ∧ FrameEnd U o U' L ({ frames := 0, cells := 0, slots := 0, locals := 0 } : Room).cells ({ frames := 0, cells := 0, slots := 0, locals := 0 } : Room).slots) := by
  refine own_met (plainFor_of_name pn_5) (fun m => ef_5 m a1 p2 p3) ?_
  intro p e s m below meth c T0 hx hby hml hown hnm hret hlk hZ X0 e0
  have hown : s.vm.findClass "com/example/junctura/junctura/conformance/OptimalPaths" = some m.cls := hown
  have hnm : meth.name = "state" := hnm
  have hret : meth.sig.returnType = some .int := hret
  have N0 := Fr.nil n0
  show Go p e below _ (T0.setTop (mkF m 0 #[.val (.ref a1), .val (.int p2), .val (.int p3), .unset, .unset, .unset] []))
  refine go (fun _ q => XS.aloadN X0.here hx rfl (hb hby d5_0) rfl rfl q) ?_
  show Go p e below _ (T0.setTop (mkF m 1 #[.val (.ref a1), .val (.int p2), .val (.int p3), .unset, .unset, .unset] [(.ref a1)]))
  obtain ⟨T1, X1, e1, st1⟩ := getF X0 hx hZ hown (host := "") (Or.inl (hw _ (List.mem_of_getElem? (i := 29) rfl))) Via.refl e0 F_f (g := (mkF m 1 #[.val (.ref a1), .val (.int p2), .val (.int p3), .unset, .unset, .unset] [(.ref a1)])) rfl rfl (hb hby d5_1)
  refine go st1 ?_
  show Go p e below _ (T1.setTop (mkF m 4 #[.val (.ref a1), .val (.int p2), .val (.int p3), .unset, .unset, .unset] [(.ref t)]))
  refine go (fun _ q => XS.iloadN X1.here hx rfl (hb hby d5_4) rfl q) ?_
  show Go p e below _ (T1.setTop (mkF m 5 #[.val (.ref a1), .val (.int p2), .val (.int p3), .unset, .unset, .unset] [(.int p3), (.ref t)]))
  refine go (own_iaload X1 hx hZ e1 F_t (j := p3) (own_i0 hp).1 (by rw [lFA]; exact (own_i0 hp).2) (g := (mkF m 5 #[.val (.ref a1), .val (.int p2), .val (.int p3), .unset, .unset, .unset] [(.int p3), (.ref t)])) rfl rfl (hb hby d5_5)) ?_
  show Go p e below _ (T1.setTop (mkF m 6 #[.val (.ref a1), .val (.int p2), .val (.int p3), .unset, .unset, .unset] [(.int (FA.getD (p3).toNatClampNeg 0))]))
  rw [hlo]
  show Go p e below _ (T1.setTop (mkF m 6 #[.val (.ref a1), .val (.int p2), .val (.int p3), .unset, .unset, .unset] [(.int (2 : Int32))]))
  refine go (fun _ q => XS.istoreN X1.here hx rfl (hb hby d5_6) rfl (l' := #[.val (.ref a1), .val (.int p2), .val (.int p3), .val (.int (2 : Int32)), .unset, .unset]) rfl q) ?_
  show Go p e below _ (T1.setTop (mkF m 7 #[.val (.ref a1), .val (.int p2), .val (.int p3), .val (.int (2 : Int32)), .unset, .unset] []))
  refine go (fun _ q => XS.aloadN X1.here hx rfl (hb hby d5_7) rfl rfl q) ?_
  show Go p e below _ (T1.setTop (mkF m 8 #[.val (.ref a1), .val (.int p2), .val (.int p3), .val (.int (2 : Int32)), .unset, .unset] [(.ref a1)]))
  obtain ⟨T2, X2, e2, st2⟩ := getF X1 hx hZ hown (host := "") (Or.inl (hw _ (List.mem_of_getElem? (i := 29) rfl))) Via.refl e1 F_f (g := (mkF m 8 #[.val (.ref a1), .val (.int p2), .val (.int p3), .val (.int (2 : Int32)), .unset, .unset] [(.ref a1)])) rfl rfl (hb hby d5_8)
  refine go st2 ?_
  show Go p e below _ (T2.setTop (mkF m 11 #[.val (.ref a1), .val (.int p2), .val (.int p3), .val (.int (2 : Int32)), .unset, .unset] [(.ref t)]))
  refine go (fun _ q => XS.iloadN X2.here hx rfl (hb hby d5_11) rfl q) ?_
  show Go p e below _ (T2.setTop (mkF m 12 #[.val (.ref a1), .val (.int p2), .val (.int p3), .val (.int (2 : Int32)), .unset, .unset] [(.int p3), (.ref t)]))
  refine go (fun _ q => XS.iconst X2.here hx rfl (hb hby d5_12) q) ?_
  show Go p e below _ (T2.setTop (mkF m 13 #[.val (.ref a1), .val (.int p2), .val (.int p3), .val (.int (2 : Int32)), .unset, .unset] [(.int (1 : Int32)), (.int p3), (.ref t)]))
  refine go (fun _ q => XS.iadd X2.here hx rfl (hb hby d5_13) rfl q) ?_
  show Go p e below _ (T2.setTop (mkF m 14 #[.val (.ref a1), .val (.int p2), .val (.int p3), .val (.int (2 : Int32)), .unset, .unset] [(.int (p3 + (1 : Int32))), (.ref t)]))
  refine go (own_iaload X2 hx hZ e2 F_t (j := (p3 + (1 : Int32))) (own_i1 hp).1 (by rw [lFA]; exact (own_i1 hp).2) (g := (mkF m 14 #[.val (.ref a1), .val (.int p2), .val (.int p3), .val (.int (2 : Int32)), .unset, .unset] [(.int (p3 + (1 : Int32))), (.ref t)])) rfl rfl (hb hby d5_14)) ?_
  show Go p e below _ (T2.setTop (mkF m 15 #[.val (.ref a1), .val (.int p2), .val (.int p3), .val (.int (2 : Int32)), .unset, .unset] [(.int (FA.getD ((p3 + (1 : Int32))).toNatClampNeg 0))]))
  rw [hhi]
  show Go p e below _ (T2.setTop (mkF m 15 #[.val (.ref a1), .val (.int p2), .val (.int p3), .val (.int (2 : Int32)), .unset, .unset] [(.int (4 : Int32))]))
  refine go (fun _ q => XS.iconst X2.here hx rfl (hb hby d5_15) q) ?_
  show Go p e below _ (T2.setTop (mkF m 16 #[.val (.ref a1), .val (.int p2), .val (.int p3), .val (.int (2 : Int32)), .unset, .unset] [(.int (1 : Int32)), (.int (4 : Int32))]))
  refine go (fun _ q => XS.isub X2.here hx rfl (hb hby d5_16) rfl q) ?_
  show Go p e below _ (T2.setTop (mkF m 17 #[.val (.ref a1), .val (.int p2), .val (.int p3), .val (.int (2 : Int32)), .unset, .unset] [(.int (3 : Int32))]))
  refine go (fun _ q => XS.istore X2.here hx rfl (hb hby d5_17) rfl (l' := #[.val (.ref a1), .val (.int p2), .val (.int p3), .val (.int (2 : Int32)), .val (.int (3 : Int32)), .unset]) rfl q) ?_
  show Go p e below _ (T2.setTop (mkF m 19 #[.val (.ref a1), .val (.int p2), .val (.int p3), .val (.int (2 : Int32)), .val (.int (3 : Int32)), .unset] []))
  refine go (fun _ q => XS.iloadN X2.here hx rfl (hb hby d5_19) rfl q) ?_
  show Go p e below _ (T2.setTop (mkF m 20 #[.val (.ref a1), .val (.int p2), .val (.int p3), .val (.int (2 : Int32)), .val (.int (3 : Int32)), .unset] [(.int (2 : Int32))]))
  refine go (fun _ q => XS.iload X2.here hx rfl (hb hby d5_20) rfl q) ?_
  show Go p e below _ (T2.setTop (mkF m 22 #[.val (.ref a1), .val (.int p2), .val (.int p3), .val (.int (2 : Int32)), .val (.int (3 : Int32)), .unset] [(.int (3 : Int32)), (.int (2 : Int32))]))
  refine go (fun _ q => XS.icmpNo X2.here hx rfl (hb hby d5_22) rfl (flt (by decide : ¬ ((3 : Int32) < (2 : Int32)))).2.2.1 q) ?_
  show Go p e below _ (T2.setTop (mkF m 25 #[.val (.ref a1), .val (.int p2), .val (.int p3), .val (.int (2 : Int32)), .val (.int (3 : Int32)), .unset] []))
  refine go (fun _ q => XS.iloadN X2.here hx rfl (hb hby d5_25) rfl q) ?_
  show Go p e below _ (T2.setTop (mkF m 26 #[.val (.ref a1), .val (.int p2), .val (.int p3), .val (.int (2 : Int32)), .val (.int (3 : Int32)), .unset] [(.int (2 : Int32))]))
  refine go (fun _ q => XS.iload X2.here hx rfl (hb hby d5_26) rfl q) ?_
  show Go p e below _ (T2.setTop (mkF m 28 #[.val (.ref a1), .val (.int p2), .val (.int p3), .val (.int (2 : Int32)), .val (.int (3 : Int32)), .unset] [(.int (3 : Int32)), (.int (2 : Int32))]))
  refine go (fun _ q => XS.iadd X2.here hx rfl (hb hby d5_28) rfl q) ?_
  show Go p e below _ (T2.setTop (mkF m 29 #[.val (.ref a1), .val (.int p2), .val (.int p3), .val (.int (2 : Int32)), .val (.int (3 : Int32)), .unset] [(.int (5 : Int32))]))
  refine go (fun _ q => XS.iconst X2.here hx rfl (hb hby d5_29) q) ?_
  show Go p e below _ (T2.setTop (mkF m 30 #[.val (.ref a1), .val (.int p2), .val (.int p3), .val (.int (2 : Int32)), .val (.int (3 : Int32)), .unset] [(.int (1 : Int32)), (.int (5 : Int32))]))
  refine go (fun _ q => XS.iushr X2.here hx rfl (hb hby d5_30) rfl q) ?_
  show Go p e below _ (T2.setTop (mkF m 31 #[.val (.ref a1), .val (.int p2), .val (.int p3), .val (.int (2 : Int32)), .val (.int (3 : Int32)), .unset] [(.int (2 : Int32))]))
  refine go (fun _ q => XS.istore X2.here hx rfl (hb hby d5_31) rfl (l' := #[.val (.ref a1), .val (.int p2), .val (.int p3), .val (.int (2 : Int32)), .val (.int (3 : Int32)), .val (.int (2 : Int32))]) rfl q) ?_
  show Go p e below _ (T2.setTop (mkF m 33 #[.val (.ref a1), .val (.int p2), .val (.int p3), .val (.int (2 : Int32)), .val (.int (3 : Int32)), .val (.int (2 : Int32))] []))
  refine go (fun _ q => XS.aloadN X2.here hx rfl (hb hby d5_33) rfl rfl q) ?_
  show Go p e below _ (T2.setTop (mkF m 34 #[.val (.ref a1), .val (.int p2), .val (.int p3), .val (.int (2 : Int32)), .val (.int (3 : Int32)), .val (.int (2 : Int32))] [(.ref a1)]))
  obtain ⟨T3, X3, e3, st3⟩ := getF X2 hx hZ hown (host := "") (Or.inl (hw _ (List.mem_of_getElem? (i := 17) rfl))) Via.refl e2 F_m (g := (mkF m 34 #[.val (.ref a1), .val (.int p2), .val (.int p3), .val (.int (2 : Int32)), .val (.int (3 : Int32)), .val (.int (2 : Int32))] [(.ref a1)])) rfl rfl (hb hby d5_34)
  refine go st3 ?_
  show Go p e below _ (T3.setTop (mkF m 37 #[.val (.ref a1), .val (.int p2), .val (.int p3), .val (.int (2 : Int32)), .val (.int (3 : Int32)), .val (.int (2 : Int32))] [(.ref b)]))
  refine go (fun _ q => XS.iload X3.here hx rfl (hb hby d5_37) rfl q) ?_
  show Go p e below _ (T3.setTop (mkF m 39 #[.val (.ref a1), .val (.int p2), .val (.int p3), .val (.int (2 : Int32)), .val (.int (3 : Int32)), .val (.int (2 : Int32))] [(.int (2 : Int32)), (.ref b)]))
  refine go (own_iaload X3 hx hZ e3 F_b (j := (2 : Int32)) (by decide) (Nat.le_of_ble_eq_true rfl) (g := (mkF m 39 #[.val (.ref a1), .val (.int p2), .val (.int p3), .val (.int (2 : Int32)), .val (.int (3 : Int32)), .val (.int (2 : Int32))] [(.int (2 : Int32)), (.ref b)])) rfl rfl (hb hby d5_39)) ?_
  show Go p e below _ (T3.setTop (mkF m 40 #[.val (.ref a1), .val (.int p2), .val (.int p3), .val (.int (2 : Int32)), .val (.int (3 : Int32)), .val (.int (2 : Int32))] [(.int m2)]))
  refine go (fun _ q => XS.iloadN X3.here hx rfl (hb hby d5_40) rfl q) ?_
  show Go p e below _ (T3.setTop (mkF m 41 #[.val (.ref a1), .val (.int p2), .val (.int p3), .val (.int (2 : Int32)), .val (.int (3 : Int32)), .val (.int (2 : Int32))] [(.int p2), (.int m2)]))
  by_cases hc4 : m2 < p2
  · refine go (fun _ q => XS.icmpNo X3.here hx rfl (hb hby d5_41) rfl (tlt hc4).2.1 q) ?_
    show Go p e below _ (T3.setTop (mkF m 44 #[.val (.ref a1), .val (.int p2), .val (.int p3), .val (.int (2 : Int32)), .val (.int (3 : Int32)), .val (.int (2 : Int32))] []))
    refine go (fun _ q => XS.iload X3.here hx rfl (hb hby d5_44) rfl q) ?_
    show Go p e below _ (T3.setTop (mkF m 46 #[.val (.ref a1), .val (.int p2), .val (.int p3), .val (.int (2 : Int32)), .val (.int (3 : Int32)), .val (.int (2 : Int32))] [(.int (2 : Int32))]))
    refine go (fun _ q => XS.iconst X3.here hx rfl (hb hby d5_46) q) ?_
    show Go p e below _ (T3.setTop (mkF m 47 #[.val (.ref a1), .val (.int p2), .val (.int p3), .val (.int (2 : Int32)), .val (.int (3 : Int32)), .val (.int (2 : Int32))] [(.int (1 : Int32)), (.int (2 : Int32))]))
    refine go (fun _ q => XS.iadd X3.here hx rfl (hb hby d5_47) rfl q) ?_
    show Go p e below _ (T3.setTop (mkF m 48 #[.val (.ref a1), .val (.int p2), .val (.int p3), .val (.int (2 : Int32)), .val (.int (3 : Int32)), .val (.int (2 : Int32))] [(.int (3 : Int32))]))
    refine go (fun _ q => XS.istoreN X3.here hx rfl (hb hby d5_48) rfl (l' := #[.val (.ref a1), .val (.int p2), .val (.int p3), .val (.int (3 : Int32)), .val (.int (3 : Int32)), .val (.int (2 : Int32))]) rfl q) ?_
    show Go p e below _ (T3.setTop (mkF m 49 #[.val (.ref a1), .val (.int p2), .val (.int p3), .val (.int (3 : Int32)), .val (.int (3 : Int32)), .val (.int (2 : Int32))] []))
    refine go (fun _ q => XS.goto X3.here hx rfl (pc0 := 49) (pc' := 75) rfl (hb hby d5_49) (by decide) (by decide) q) ?_
    show Go p e below _ (T3.setTop (mkF m 75 #[.val (.ref a1), .val (.int p2), .val (.int p3), .val (.int (3 : Int32)), .val (.int (3 : Int32)), .val (.int (2 : Int32))] []))
    refine go (fun _ q => XS.goto X3.here hx rfl (pc0 := 75) (pc' := 19) rfl (hb hby d5_75) (by decide) (by decide) q) ?_
    show Go p e below _ (T3.setTop (mkF m 19 #[.val (.ref a1), .val (.int p2), .val (.int p3), .val (.int (3 : Int32)), .val (.int (3 : Int32)), .val (.int (2 : Int32))] []))
    refine go (fun _ q => XS.iloadN X3.here hx rfl (hb hby d5_19) rfl q) ?_
    show Go p e below _ (T3.setTop (mkF m 20 #[.val (.ref a1), .val (.int p2), .val (.int p3), .val (.int (3 : Int32)), .val (.int (3 : Int32)), .val (.int (2 : Int32))] [(.int (3 : Int32))]))
    refine go (fun _ q => XS.iload X3.here hx rfl (hb hby d5_20) rfl q) ?_
    show Go p e below _ (T3.setTop (mkF m 22 #[.val (.ref a1), .val (.int p2), .val (.int p3), .val (.int (3 : Int32)), .val (.int (3 : Int32)), .val (.int (2 : Int32))] [(.int (3 : Int32)), (.int (3 : Int32))]))
    refine go (fun _ q => XS.icmpNo X3.here hx rfl (hb hby d5_22) rfl (flt (by decide : ¬ ((3 : Int32) < (3 : Int32)))).2.2.1 q) ?_
    show Go p e below _ (T3.setTop (mkF m 25 #[.val (.ref a1), .val (.int p2), .val (.int p3), .val (.int (3 : Int32)), .val (.int (3 : Int32)), .val (.int (2 : Int32))] []))
    refine go (fun _ q => XS.iloadN X3.here hx rfl (hb hby d5_25) rfl q) ?_
    show Go p e below _ (T3.setTop (mkF m 26 #[.val (.ref a1), .val (.int p2), .val (.int p3), .val (.int (3 : Int32)), .val (.int (3 : Int32)), .val (.int (2 : Int32))] [(.int (3 : Int32))]))
    refine go (fun _ q => XS.iload X3.here hx rfl (hb hby d5_26) rfl q) ?_
    show Go p e below _ (T3.setTop (mkF m 28 #[.val (.ref a1), .val (.int p2), .val (.int p3), .val (.int (3 : Int32)), .val (.int (3 : Int32)), .val (.int (2 : Int32))] [(.int (3 : Int32)), (.int (3 : Int32))]))
    refine go (fun _ q => XS.iadd X3.here hx rfl (hb hby d5_28) rfl q) ?_
    show Go p e below _ (T3.setTop (mkF m 29 #[.val (.ref a1), .val (.int p2), .val (.int p3), .val (.int (3 : Int32)), .val (.int (3 : Int32)), .val (.int (2 : Int32))] [(.int (6 : Int32))]))
    refine go (fun _ q => XS.iconst X3.here hx rfl (hb hby d5_29) q) ?_
    show Go p e below _ (T3.setTop (mkF m 30 #[.val (.ref a1), .val (.int p2), .val (.int p3), .val (.int (3 : Int32)), .val (.int (3 : Int32)), .val (.int (2 : Int32))] [(.int (1 : Int32)), (.int (6 : Int32))]))
    refine go (fun _ q => XS.iushr X3.here hx rfl (hb hby d5_30) rfl q) ?_
    show Go p e below _ (T3.setTop (mkF m 31 #[.val (.ref a1), .val (.int p2), .val (.int p3), .val (.int (3 : Int32)), .val (.int (3 : Int32)), .val (.int (2 : Int32))] [(.int (3 : Int32))]))
    refine go (fun _ q => XS.istore X3.here hx rfl (hb hby d5_31) rfl (l' := #[.val (.ref a1), .val (.int p2), .val (.int p3), .val (.int (3 : Int32)), .val (.int (3 : Int32)), .val (.int (3 : Int32))]) rfl q) ?_
    show Go p e below _ (T3.setTop (mkF m 33 #[.val (.ref a1), .val (.int p2), .val (.int p3), .val (.int (3 : Int32)), .val (.int (3 : Int32)), .val (.int (3 : Int32))] []))
    refine go (fun _ q => XS.aloadN X3.here hx rfl (hb hby d5_33) rfl rfl q) ?_
    show Go p e below _ (T3.setTop (mkF m 34 #[.val (.ref a1), .val (.int p2), .val (.int p3), .val (.int (3 : Int32)), .val (.int (3 : Int32)), .val (.int (3 : Int32))] [(.ref a1)]))
    obtain ⟨T5, X5, e5, st5⟩ := getF X3 hx hZ hown (host := "") (Or.inl (hw _ (List.mem_of_getElem? (i := 17) rfl))) Via.refl e3 F_m (g := (mkF m 34 #[.val (.ref a1), .val (.int p2), .val (.int p3), .val (.int (3 : Int32)), .val (.int (3 : Int32)), .val (.int (3 : Int32))] [(.ref a1)])) rfl rfl (hb hby d5_34)
    refine go st5 ?_
    show Go p e below _ (T5.setTop (mkF m 37 #[.val (.ref a1), .val (.int p2), .val (.int p3), .val (.int (3 : Int32)), .val (.int (3 : Int32)), .val (.int (3 : Int32))] [(.ref b)]))
    refine go (fun _ q => XS.iload X5.here hx rfl (hb hby d5_37) rfl q) ?_
    show Go p e below _ (T5.setTop (mkF m 39 #[.val (.ref a1), .val (.int p2), .val (.int p3), .val (.int (3 : Int32)), .val (.int (3 : Int32)), .val (.int (3 : Int32))] [(.int (3 : Int32)), (.ref b)]))
    refine go (own_iaload X5 hx hZ e5 F_b (j := (3 : Int32)) (by decide) (Nat.le_of_ble_eq_true rfl) (g := (mkF m 39 #[.val (.ref a1), .val (.int p2), .val (.int p3), .val (.int (3 : Int32)), .val (.int (3 : Int32)), .val (.int (3 : Int32))] [(.int (3 : Int32)), (.ref b)])) rfl rfl (hb hby d5_39)) ?_
    show Go p e below _ (T5.setTop (mkF m 40 #[.val (.ref a1), .val (.int p2), .val (.int p3), .val (.int (3 : Int32)), .val (.int (3 : Int32)), .val (.int (3 : Int32))] [(.int m3)]))
    refine go (fun _ q => XS.iloadN X5.here hx rfl (hb hby d5_40) rfl q) ?_
    show Go p e below _ (T5.setTop (mkF m 41 #[.val (.ref a1), .val (.int p2), .val (.int p3), .val (.int (3 : Int32)), .val (.int (3 : Int32)), .val (.int (3 : Int32))] [(.int p2), (.int m3)]))
    by_cases hc6 : m3 < p2
    · refine go (fun _ q => XS.icmpNo X5.here hx rfl (hb hby d5_41) rfl (tlt hc6).2.1 q) ?_
      show Go p e below _ (T5.setTop (mkF m 44 #[.val (.ref a1), .val (.int p2), .val (.int p3), .val (.int (3 : Int32)), .val (.int (3 : Int32)), .val (.int (3 : Int32))] []))
      refine go (fun _ q => XS.iload X5.here hx rfl (hb hby d5_44) rfl q) ?_
      show Go p e below _ (T5.setTop (mkF m 46 #[.val (.ref a1), .val (.int p2), .val (.int p3), .val (.int (3 : Int32)), .val (.int (3 : Int32)), .val (.int (3 : Int32))] [(.int (3 : Int32))]))
      refine go (fun _ q => XS.iconst X5.here hx rfl (hb hby d5_46) q) ?_
      show Go p e below _ (T5.setTop (mkF m 47 #[.val (.ref a1), .val (.int p2), .val (.int p3), .val (.int (3 : Int32)), .val (.int (3 : Int32)), .val (.int (3 : Int32))] [(.int (1 : Int32)), (.int (3 : Int32))]))
      refine go (fun _ q => XS.iadd X5.here hx rfl (hb hby d5_47) rfl q) ?_
      show Go p e below _ (T5.setTop (mkF m 48 #[.val (.ref a1), .val (.int p2), .val (.int p3), .val (.int (3 : Int32)), .val (.int (3 : Int32)), .val (.int (3 : Int32))] [(.int (4 : Int32))]))
      refine go (fun _ q => XS.istoreN X5.here hx rfl (hb hby d5_48) rfl (l' := #[.val (.ref a1), .val (.int p2), .val (.int p3), .val (.int (4 : Int32)), .val (.int (3 : Int32)), .val (.int (3 : Int32))]) rfl q) ?_
      show Go p e below _ (T5.setTop (mkF m 49 #[.val (.ref a1), .val (.int p2), .val (.int p3), .val (.int (4 : Int32)), .val (.int (3 : Int32)), .val (.int (3 : Int32))] []))
      refine go (fun _ q => XS.goto X5.here hx rfl (pc0 := 49) (pc' := 75) rfl (hb hby d5_49) (by decide) (by decide) q) ?_
      show Go p e below _ (T5.setTop (mkF m 75 #[.val (.ref a1), .val (.int p2), .val (.int p3), .val (.int (4 : Int32)), .val (.int (3 : Int32)), .val (.int (3 : Int32))] []))
      refine go (fun _ q => XS.goto X5.here hx rfl (pc0 := 75) (pc' := 19) rfl (hb hby d5_75) (by decide) (by decide) q) ?_
      show Go p e below _ (T5.setTop (mkF m 19 #[.val (.ref a1), .val (.int p2), .val (.int p3), .val (.int (4 : Int32)), .val (.int (3 : Int32)), .val (.int (3 : Int32))] []))
      refine go (fun _ q => XS.iloadN X5.here hx rfl (hb hby d5_19) rfl q) ?_
      show Go p e below _ (T5.setTop (mkF m 20 #[.val (.ref a1), .val (.int p2), .val (.int p3), .val (.int (4 : Int32)), .val (.int (3 : Int32)), .val (.int (3 : Int32))] [(.int (4 : Int32))]))
      refine go (fun _ q => XS.iload X5.here hx rfl (hb hby d5_20) rfl q) ?_
      show Go p e below _ (T5.setTop (mkF m 22 #[.val (.ref a1), .val (.int p2), .val (.int p3), .val (.int (4 : Int32)), .val (.int (3 : Int32)), .val (.int (3 : Int32))] [(.int (3 : Int32)), (.int (4 : Int32))]))
      refine go (fun _ q => XS.icmpYes X5.here hx rfl (pc0 := 22) (pc' := 78) rfl (hb hby d5_22) rfl (tlt (by decide : (3 : Int32) < (4 : Int32))).2.2.1 (by decide) (by decide) q) ?_
      show Go p e below _ (T5.setTop (mkF m 78 #[.val (.ref a1), .val (.int p2), .val (.int p3), .val (.int (4 : Int32)), .val (.int (3 : Int32)), .val (.int (3 : Int32))] []))
      refine go (fun _ q => XS.iconst X5.here hx rfl (hb hby d5_78) q) ?_
      show Go p e below _ (T5.setTop (mkF m 79 #[.val (.ref a1), .val (.int p2), .val (.int p3), .val (.int (4 : Int32)), .val (.int (3 : Int32)), .val (.int (3 : Int32))] [(.int (-1 : Int32))]))
      exact own_retI X5 hx hlk hret (hb hby d5_79) (by decide) (by decide) ⟨congrArg (fun z => some (Value.int z)) (by rw [t_2_4, if_pos hc4, if_pos hc6]), N0, e5⟩
    · refine go (fun _ q => XS.icmpYes X5.here hx rfl (pc0 := 41) (pc' := 52) rfl (hb hby d5_41) rfl (flt hc6).2.1 (by decide) (by decide) q) ?_
      show Go p e below _ (T5.setTop (mkF m 52 #[.val (.ref a1), .val (.int p2), .val (.int p3), .val (.int (3 : Int32)), .val (.int (3 : Int32)), .val (.int (3 : Int32))] []))
      refine go (fun _ q => XS.aloadN X5.here hx rfl (hb hby d5_52) rfl rfl q) ?_
      show Go p e below _ (T5.setTop (mkF m 53 #[.val (.ref a1), .val (.int p2), .val (.int p3), .val (.int (3 : Int32)), .val (.int (3 : Int32)), .val (.int (3 : Int32))] [(.ref a1)]))
      obtain ⟨T7, X7, e7, st7⟩ := getF X5 hx hZ hown (host := "") (Or.inl (hw _ (List.mem_of_getElem? (i := 17) rfl))) Via.refl e5 F_m (g := (mkF m 53 #[.val (.ref a1), .val (.int p2), .val (.int p3), .val (.int (3 : Int32)), .val (.int (3 : Int32)), .val (.int (3 : Int32))] [(.ref a1)])) rfl rfl (hb hby d5_53)
      refine go st7 ?_
      show Go p e below _ (T7.setTop (mkF m 56 #[.val (.ref a1), .val (.int p2), .val (.int p3), .val (.int (3 : Int32)), .val (.int (3 : Int32)), .val (.int (3 : Int32))] [(.ref b)]))
      refine go (fun _ q => XS.iload X7.here hx rfl (hb hby d5_56) rfl q) ?_
      show Go p e below _ (T7.setTop (mkF m 58 #[.val (.ref a1), .val (.int p2), .val (.int p3), .val (.int (3 : Int32)), .val (.int (3 : Int32)), .val (.int (3 : Int32))] [(.int (3 : Int32)), (.ref b)]))
      refine go (own_iaload X7 hx hZ e7 F_b (j := (3 : Int32)) (by decide) (Nat.le_of_ble_eq_true rfl) (g := (mkF m 58 #[.val (.ref a1), .val (.int p2), .val (.int p3), .val (.int (3 : Int32)), .val (.int (3 : Int32)), .val (.int (3 : Int32))] [(.int (3 : Int32)), (.ref b)])) rfl rfl (hb hby d5_58)) ?_
      show Go p e below _ (T7.setTop (mkF m 59 #[.val (.ref a1), .val (.int p2), .val (.int p3), .val (.int (3 : Int32)), .val (.int (3 : Int32)), .val (.int (3 : Int32))] [(.int m3)]))
      refine go (fun _ q => XS.iloadN X7.here hx rfl (hb hby d5_59) rfl q) ?_
      show Go p e below _ (T7.setTop (mkF m 60 #[.val (.ref a1), .val (.int p2), .val (.int p3), .val (.int (3 : Int32)), .val (.int (3 : Int32)), .val (.int (3 : Int32))] [(.int p2), (.int m3)]))
      by_cases hc8 : p2 < m3
      · refine go (fun _ q => XS.icmpNo X7.here hx rfl (hb hby d5_60) rfl (tlt hc8).2.2.2 q) ?_
        show Go p e below _ (T7.setTop (mkF m 63 #[.val (.ref a1), .val (.int p2), .val (.int p3), .val (.int (3 : Int32)), .val (.int (3 : Int32)), .val (.int (3 : Int32))] []))
        refine go (fun _ q => XS.iload X7.here hx rfl (hb hby d5_63) rfl q) ?_
        show Go p e below _ (T7.setTop (mkF m 65 #[.val (.ref a1), .val (.int p2), .val (.int p3), .val (.int (3 : Int32)), .val (.int (3 : Int32)), .val (.int (3 : Int32))] [(.int (3 : Int32))]))
        refine go (fun _ q => XS.iconst X7.here hx rfl (hb hby d5_65) q) ?_
        show Go p e below _ (T7.setTop (mkF m 66 #[.val (.ref a1), .val (.int p2), .val (.int p3), .val (.int (3 : Int32)), .val (.int (3 : Int32)), .val (.int (3 : Int32))] [(.int (1 : Int32)), (.int (3 : Int32))]))
        refine go (fun _ q => XS.isub X7.here hx rfl (hb hby d5_66) rfl q) ?_
        show Go p e below _ (T7.setTop (mkF m 67 #[.val (.ref a1), .val (.int p2), .val (.int p3), .val (.int (3 : Int32)), .val (.int (3 : Int32)), .val (.int (3 : Int32))] [(.int (2 : Int32))]))
        refine go (fun _ q => XS.istore X7.here hx rfl (hb hby d5_67) rfl (l' := #[.val (.ref a1), .val (.int p2), .val (.int p3), .val (.int (3 : Int32)), .val (.int (2 : Int32)), .val (.int (3 : Int32))]) rfl q) ?_
        show Go p e below _ (T7.setTop (mkF m 69 #[.val (.ref a1), .val (.int p2), .val (.int p3), .val (.int (3 : Int32)), .val (.int (2 : Int32)), .val (.int (3 : Int32))] []))
        refine go (fun _ q => XS.goto X7.here hx rfl (pc0 := 69) (pc' := 75) rfl (hb hby d5_69) (by decide) (by decide) q) ?_
        show Go p e below _ (T7.setTop (mkF m 75 #[.val (.ref a1), .val (.int p2), .val (.int p3), .val (.int (3 : Int32)), .val (.int (2 : Int32)), .val (.int (3 : Int32))] []))
        refine go (fun _ q => XS.goto X7.here hx rfl (pc0 := 75) (pc' := 19) rfl (hb hby d5_75) (by decide) (by decide) q) ?_
        show Go p e below _ (T7.setTop (mkF m 19 #[.val (.ref a1), .val (.int p2), .val (.int p3), .val (.int (3 : Int32)), .val (.int (2 : Int32)), .val (.int (3 : Int32))] []))
        refine go (fun _ q => XS.iloadN X7.here hx rfl (hb hby d5_19) rfl q) ?_
        show Go p e below _ (T7.setTop (mkF m 20 #[.val (.ref a1), .val (.int p2), .val (.int p3), .val (.int (3 : Int32)), .val (.int (2 : Int32)), .val (.int (3 : Int32))] [(.int (3 : Int32))]))
        refine go (fun _ q => XS.iload X7.here hx rfl (hb hby d5_20) rfl q) ?_
        show Go p e below _ (T7.setTop (mkF m 22 #[.val (.ref a1), .val (.int p2), .val (.int p3), .val (.int (3 : Int32)), .val (.int (2 : Int32)), .val (.int (3 : Int32))] [(.int (2 : Int32)), (.int (3 : Int32))]))
        refine go (fun _ q => XS.icmpYes X7.here hx rfl (pc0 := 22) (pc' := 78) rfl (hb hby d5_22) rfl (tlt (by decide : (2 : Int32) < (3 : Int32))).2.2.1 (by decide) (by decide) q) ?_
        show Go p e below _ (T7.setTop (mkF m 78 #[.val (.ref a1), .val (.int p2), .val (.int p3), .val (.int (3 : Int32)), .val (.int (2 : Int32)), .val (.int (3 : Int32))] []))
        refine go (fun _ q => XS.iconst X7.here hx rfl (hb hby d5_78) q) ?_
        show Go p e below _ (T7.setTop (mkF m 79 #[.val (.ref a1), .val (.int p2), .val (.int p3), .val (.int (3 : Int32)), .val (.int (2 : Int32)), .val (.int (3 : Int32))] [(.int (-1 : Int32))]))
        exact own_retI X7 hx hlk hret (hb hby d5_79) (by decide) (by decide) ⟨congrArg (fun z => some (Value.int z)) (by rw [t_2_4, if_pos hc4, if_neg hc6, if_pos hc8]), N0, e7⟩
      · refine go (fun _ q => XS.icmpYes X7.here hx rfl (pc0 := 60) (pc' := 72) rfl (hb hby d5_60) rfl (flt hc8).2.2.2 (by decide) (by decide) q) ?_
        show Go p e below _ (T7.setTop (mkF m 72 #[.val (.ref a1), .val (.int p2), .val (.int p3), .val (.int (3 : Int32)), .val (.int (3 : Int32)), .val (.int (3 : Int32))] []))
        refine go (fun _ q => XS.iload X7.here hx rfl (hb hby d5_72) rfl q) ?_
        show Go p e below _ (T7.setTop (mkF m 74 #[.val (.ref a1), .val (.int p2), .val (.int p3), .val (.int (3 : Int32)), .val (.int (3 : Int32)), .val (.int (3 : Int32))] [(.int (3 : Int32))]))
        exact own_retI X7 hx hlk hret (hb hby d5_74) (by decide) (by decide) ⟨congrArg (fun z => some (Value.int z)) (by rw [t_2_4, if_pos hc4, if_neg hc6, if_neg hc8]), N0, e7⟩
  · refine go (fun _ q => XS.icmpYes X3.here hx rfl (pc0 := 41) (pc' := 52) rfl (hb hby d5_41) rfl (flt hc4).2.1 (by decide) (by decide) q) ?_
    show Go p e below _ (T3.setTop (mkF m 52 #[.val (.ref a1), .val (.int p2), .val (.int p3), .val (.int (2 : Int32)), .val (.int (3 : Int32)), .val (.int (2 : Int32))] []))
    refine go (fun _ q => XS.aloadN X3.here hx rfl (hb hby d5_52) rfl rfl q) ?_
    show Go p e below _ (T3.setTop (mkF m 53 #[.val (.ref a1), .val (.int p2), .val (.int p3), .val (.int (2 : Int32)), .val (.int (3 : Int32)), .val (.int (2 : Int32))] [(.ref a1)]))
    obtain ⟨T9, X9, e9, st9⟩ := getF X3 hx hZ hown (host := "") (Or.inl (hw _ (List.mem_of_getElem? (i := 17) rfl))) Via.refl e3 F_m (g := (mkF m 53 #[.val (.ref a1), .val (.int p2), .val (.int p3), .val (.int (2 : Int32)), .val (.int (3 : Int32)), .val (.int (2 : Int32))] [(.ref a1)])) rfl rfl (hb hby d5_53)
    refine go st9 ?_
    show Go p e below _ (T9.setTop (mkF m 56 #[.val (.ref a1), .val (.int p2), .val (.int p3), .val (.int (2 : Int32)), .val (.int (3 : Int32)), .val (.int (2 : Int32))] [(.ref b)]))
    refine go (fun _ q => XS.iload X9.here hx rfl (hb hby d5_56) rfl q) ?_
    show Go p e below _ (T9.setTop (mkF m 58 #[.val (.ref a1), .val (.int p2), .val (.int p3), .val (.int (2 : Int32)), .val (.int (3 : Int32)), .val (.int (2 : Int32))] [(.int (2 : Int32)), (.ref b)]))
    refine go (own_iaload X9 hx hZ e9 F_b (j := (2 : Int32)) (by decide) (Nat.le_of_ble_eq_true rfl) (g := (mkF m 58 #[.val (.ref a1), .val (.int p2), .val (.int p3), .val (.int (2 : Int32)), .val (.int (3 : Int32)), .val (.int (2 : Int32))] [(.int (2 : Int32)), (.ref b)])) rfl rfl (hb hby d5_58)) ?_
    show Go p e below _ (T9.setTop (mkF m 59 #[.val (.ref a1), .val (.int p2), .val (.int p3), .val (.int (2 : Int32)), .val (.int (3 : Int32)), .val (.int (2 : Int32))] [(.int m2)]))
    refine go (fun _ q => XS.iloadN X9.here hx rfl (hb hby d5_59) rfl q) ?_
    show Go p e below _ (T9.setTop (mkF m 60 #[.val (.ref a1), .val (.int p2), .val (.int p3), .val (.int (2 : Int32)), .val (.int (3 : Int32)), .val (.int (2 : Int32))] [(.int p2), (.int m2)]))
    by_cases hc10 : p2 < m2
    · refine go (fun _ q => XS.icmpNo X9.here hx rfl (hb hby d5_60) rfl (tlt hc10).2.2.2 q) ?_
      show Go p e below _ (T9.setTop (mkF m 63 #[.val (.ref a1), .val (.int p2), .val (.int p3), .val (.int (2 : Int32)), .val (.int (3 : Int32)), .val (.int (2 : Int32))] []))
      refine go (fun _ q => XS.iload X9.here hx rfl (hb hby d5_63) rfl q) ?_
      show Go p e below _ (T9.setTop (mkF m 65 #[.val (.ref a1), .val (.int p2), .val (.int p3), .val (.int (2 : Int32)), .val (.int (3 : Int32)), .val (.int (2 : Int32))] [(.int (2 : Int32))]))
      refine go (fun _ q => XS.iconst X9.here hx rfl (hb hby d5_65) q) ?_
      show Go p e below _ (T9.setTop (mkF m 66 #[.val (.ref a1), .val (.int p2), .val (.int p3), .val (.int (2 : Int32)), .val (.int (3 : Int32)), .val (.int (2 : Int32))] [(.int (1 : Int32)), (.int (2 : Int32))]))
      refine go (fun _ q => XS.isub X9.here hx rfl (hb hby d5_66) rfl q) ?_
      show Go p e below _ (T9.setTop (mkF m 67 #[.val (.ref a1), .val (.int p2), .val (.int p3), .val (.int (2 : Int32)), .val (.int (3 : Int32)), .val (.int (2 : Int32))] [(.int (1 : Int32))]))
      refine go (fun _ q => XS.istore X9.here hx rfl (hb hby d5_67) rfl (l' := #[.val (.ref a1), .val (.int p2), .val (.int p3), .val (.int (2 : Int32)), .val (.int (1 : Int32)), .val (.int (2 : Int32))]) rfl q) ?_
      show Go p e below _ (T9.setTop (mkF m 69 #[.val (.ref a1), .val (.int p2), .val (.int p3), .val (.int (2 : Int32)), .val (.int (1 : Int32)), .val (.int (2 : Int32))] []))
      refine go (fun _ q => XS.goto X9.here hx rfl (pc0 := 69) (pc' := 75) rfl (hb hby d5_69) (by decide) (by decide) q) ?_
      show Go p e below _ (T9.setTop (mkF m 75 #[.val (.ref a1), .val (.int p2), .val (.int p3), .val (.int (2 : Int32)), .val (.int (1 : Int32)), .val (.int (2 : Int32))] []))
      refine go (fun _ q => XS.goto X9.here hx rfl (pc0 := 75) (pc' := 19) rfl (hb hby d5_75) (by decide) (by decide) q) ?_
      show Go p e below _ (T9.setTop (mkF m 19 #[.val (.ref a1), .val (.int p2), .val (.int p3), .val (.int (2 : Int32)), .val (.int (1 : Int32)), .val (.int (2 : Int32))] []))
      refine go (fun _ q => XS.iloadN X9.here hx rfl (hb hby d5_19) rfl q) ?_
      show Go p e below _ (T9.setTop (mkF m 20 #[.val (.ref a1), .val (.int p2), .val (.int p3), .val (.int (2 : Int32)), .val (.int (1 : Int32)), .val (.int (2 : Int32))] [(.int (2 : Int32))]))
      refine go (fun _ q => XS.iload X9.here hx rfl (hb hby d5_20) rfl q) ?_
      show Go p e below _ (T9.setTop (mkF m 22 #[.val (.ref a1), .val (.int p2), .val (.int p3), .val (.int (2 : Int32)), .val (.int (1 : Int32)), .val (.int (2 : Int32))] [(.int (1 : Int32)), (.int (2 : Int32))]))
      refine go (fun _ q => XS.icmpYes X9.here hx rfl (pc0 := 22) (pc' := 78) rfl (hb hby d5_22) rfl (tlt (by decide : (1 : Int32) < (2 : Int32))).2.2.1 (by decide) (by decide) q) ?_
      show Go p e below _ (T9.setTop (mkF m 78 #[.val (.ref a1), .val (.int p2), .val (.int p3), .val (.int (2 : Int32)), .val (.int (1 : Int32)), .val (.int (2 : Int32))] []))
      refine go (fun _ q => XS.iconst X9.here hx rfl (hb hby d5_78) q) ?_
      show Go p e below _ (T9.setTop (mkF m 79 #[.val (.ref a1), .val (.int p2), .val (.int p3), .val (.int (2 : Int32)), .val (.int (1 : Int32)), .val (.int (2 : Int32))] [(.int (-1 : Int32))]))
      exact own_retI X9 hx hlk hret (hb hby d5_79) (by decide) (by decide) ⟨congrArg (fun z => some (Value.int z)) (by rw [t_2_4, if_neg hc4, if_pos hc10]), N0, e9⟩
    · refine go (fun _ q => XS.icmpYes X9.here hx rfl (pc0 := 60) (pc' := 72) rfl (hb hby d5_60) rfl (flt hc10).2.2.2 (by decide) (by decide) q) ?_
      show Go p e below _ (T9.setTop (mkF m 72 #[.val (.ref a1), .val (.int p2), .val (.int p3), .val (.int (2 : Int32)), .val (.int (3 : Int32)), .val (.int (2 : Int32))] []))
      refine go (fun _ q => XS.iload X9.here hx rfl (hb hby d5_72) rfl q) ?_
      show Go p e below _ (T9.setTop (mkF m 74 #[.val (.ref a1), .val (.int p2), .val (.int p3), .val (.int (2 : Int32)), .val (.int (3 : Int32)), .val (.int (2 : Int32))] [(.int (2 : Int32))]))
      exact own_retI X9 hx hlk hret (hb hby d5_74) (by decide) (by decide) ⟨congrArg (fun z => some (Value.int z)) (by rw [t_2_4, if_neg hc4, if_neg hc10]), N0, e9⟩
def t_3_3 (p2 m0 m1 m2 m3 : Int32) : Int32 := (-1 : Int32)
set_option maxRecDepth 65536 in
set_option maxHeartbeats 40000000 in
theorem rmT_3_3 (l : Launch) (Z : State) (a0 : Array Value) (hw : ∀ d ∈ tables_1, d.before a0 Z = true) (ws : List Jvm.Cond) (a1 : Addr) (p2 : Int32) (p3 : Int32) (h0 : Heap) (n0 : Nat) {t b : Addr} {FA : List Int32} {m0 m1 m2 m3 : Int32} (hp : own_p3 p3) (lFA : FA.length = 4) (hlo : FA.getD (p3).toNatClampNeg 0 = (3 : Int32)) (hhi : FA.getD ((p3 + (1 : Int32))).toNatClampNeg 0 = (3 : Int32)) (F_f : Fld Z h0 a1 "com/example/junctura/junctura/conformance/OptimalPaths" "firstAt" "[I" (.ref t)) (F_m : Fld Z h0 a1 "com/example/junctura/junctura/conformance/OptimalPaths" "marking" "[I" (.ref b)) (F_t : Ari Z h0 t FA) (F_b : Ari Z h0 b ([m0, m1, m2, m3] : List Int32)) :
    MetFree l (⟨"com/example/junctura/junctura/conformance/OptimalPaths", "state", "(II)I"⟩ : MethodName) (head1 (Jvm.Cond.code (⟨"com/example/junctura/junctura/conformance/OptimalPaths", "state", "(II)I"⟩ : MethodName) prog_45_method_11_code 6 (some .int) :: ws) ({ frames := 0, cells := 0, slots := 0, locals := 0 } : Room)) (fun a U => a = #[(.ref a1), (.int p2), (.int p3)] ∧ Z.Warmed39 U.vm ∧ U.heap = h0) (fun _ _ _ _ _ => True) (fun _ U o U' => ∃ v L, o = .returned v ∧ (QP (some (.int (t_3_3 p2 m0 m1 m2 m3))) h0 n0) v U'.heap L ∧ FrameEnd U o U' L ({ frames := 0, cells := 0, slots := 0, locals := 0 } : Room).cells ({ frames := 0, cells := 0, slots := 0, locals := 0 } : Room).slots) := by
  refine own_met (plainFor_of_name pn_5) (fun m => ef_5 m a1 p2 p3) ?_
  intro p e s m below meth c T0 hx hby hml hown hnm hret hlk hZ X0 e0
  have hown : s.vm.findClass "com/example/junctura/junctura/conformance/OptimalPaths" = some m.cls := hown
  have hnm : meth.name = "state" := hnm
  have hret : meth.sig.returnType = some .int := hret
  have N0 := Fr.nil n0
  show Go p e below _ (T0.setTop (mkF m 0 #[.val (.ref a1), .val (.int p2), .val (.int p3), .unset, .unset, .unset] []))
  refine go (fun _ q => XS.aloadN X0.here hx rfl (hb hby d5_0) rfl rfl q) ?_
  show Go p e below _ (T0.setTop (mkF m 1 #[.val (.ref a1), .val (.int p2), .val (.int p3), .unset, .unset, .unset] [(.ref a1)]))
  obtain ⟨T1, X1, e1, st1⟩ := getF X0 hx hZ hown (host := "") (Or.inl (hw _ (List.mem_of_getElem? (i := 29) rfl))) Via.refl e0 F_f (g := (mkF m 1 #[.val (.ref a1), .val (.int p2), .val (.int p3), .unset, .unset, .unset] [(.ref a1)])) rfl rfl (hb hby d5_1)
  refine go st1 ?_
  show Go p e below _ (T1.setTop (mkF m 4 #[.val (.ref a1), .val (.int p2), .val (.int p3), .unset, .unset, .unset] [(.ref t)]))
  refine go (fun _ q => XS.iloadN X1.here hx rfl (hb hby d5_4) rfl q) ?_
  show Go p e below _ (T1.setTop (mkF m 5 #[.val (.ref a1), .val (.int p2), .val (.int p3), .unset, .unset, .unset] [(.int p3), (.ref t)]))
  refine go (own_iaload X1 hx hZ e1 F_t (j := p3) (own_i0 hp).1 (by rw [lFA]; exact (own_i0 hp).2) (g := (mkF m 5 #[.val (.ref a1), .val (.int p2), .val (.int p3), .unset, .unset, .unset] [(.int p3), (.ref t)])) rfl rfl (hb hby d5_5)) ?_
  show Go p e below _ (T1.setTop (mkF m 6 #[.val (.ref a1), .val (.int p2), .val (.int p3), .unset, .unset, .unset] [(.int (FA.getD (p3).toNatClampNeg 0))]))
  rw [hlo]
  show Go p e below _ (T1.setTop (mkF m 6 #[.val (.ref a1), .val (.int p2), .val (.int p3), .unset, .unset, .unset] [(.int (3 : Int32))]))
  refine go (fun _ q => XS.istoreN X1.here hx rfl (hb hby d5_6) rfl (l' := #[.val (.ref a1), .val (.int p2), .val (.int p3), .val (.int (3 : Int32)), .unset, .unset]) rfl q) ?_
  show Go p e below _ (T1.setTop (mkF m 7 #[.val (.ref a1), .val (.int p2), .val (.int p3), .val (.int (3 : Int32)), .unset, .unset] []))
  refine go (fun _ q => XS.aloadN X1.here hx rfl (hb hby d5_7) rfl rfl q) ?_
  show Go p e below _ (T1.setTop (mkF m 8 #[.val (.ref a1), .val (.int p2), .val (.int p3), .val (.int (3 : Int32)), .unset, .unset] [(.ref a1)]))
  obtain ⟨T2, X2, e2, st2⟩ := getF X1 hx hZ hown (host := "") (Or.inl (hw _ (List.mem_of_getElem? (i := 29) rfl))) Via.refl e1 F_f (g := (mkF m 8 #[.val (.ref a1), .val (.int p2), .val (.int p3), .val (.int (3 : Int32)), .unset, .unset] [(.ref a1)])) rfl rfl (hb hby d5_8)
  refine go st2 ?_
  show Go p e below _ (T2.setTop (mkF m 11 #[.val (.ref a1), .val (.int p2), .val (.int p3), .val (.int (3 : Int32)), .unset, .unset] [(.ref t)]))
  refine go (fun _ q => XS.iloadN X2.here hx rfl (hb hby d5_11) rfl q) ?_
  show Go p e below _ (T2.setTop (mkF m 12 #[.val (.ref a1), .val (.int p2), .val (.int p3), .val (.int (3 : Int32)), .unset, .unset] [(.int p3), (.ref t)]))
  refine go (fun _ q => XS.iconst X2.here hx rfl (hb hby d5_12) q) ?_
  show Go p e below _ (T2.setTop (mkF m 13 #[.val (.ref a1), .val (.int p2), .val (.int p3), .val (.int (3 : Int32)), .unset, .unset] [(.int (1 : Int32)), (.int p3), (.ref t)]))
  refine go (fun _ q => XS.iadd X2.here hx rfl (hb hby d5_13) rfl q) ?_
  show Go p e below _ (T2.setTop (mkF m 14 #[.val (.ref a1), .val (.int p2), .val (.int p3), .val (.int (3 : Int32)), .unset, .unset] [(.int (p3 + (1 : Int32))), (.ref t)]))
  refine go (own_iaload X2 hx hZ e2 F_t (j := (p3 + (1 : Int32))) (own_i1 hp).1 (by rw [lFA]; exact (own_i1 hp).2) (g := (mkF m 14 #[.val (.ref a1), .val (.int p2), .val (.int p3), .val (.int (3 : Int32)), .unset, .unset] [(.int (p3 + (1 : Int32))), (.ref t)])) rfl rfl (hb hby d5_14)) ?_
  show Go p e below _ (T2.setTop (mkF m 15 #[.val (.ref a1), .val (.int p2), .val (.int p3), .val (.int (3 : Int32)), .unset, .unset] [(.int (FA.getD ((p3 + (1 : Int32))).toNatClampNeg 0))]))
  rw [hhi]
  show Go p e below _ (T2.setTop (mkF m 15 #[.val (.ref a1), .val (.int p2), .val (.int p3), .val (.int (3 : Int32)), .unset, .unset] [(.int (3 : Int32))]))
  refine go (fun _ q => XS.iconst X2.here hx rfl (hb hby d5_15) q) ?_
  show Go p e below _ (T2.setTop (mkF m 16 #[.val (.ref a1), .val (.int p2), .val (.int p3), .val (.int (3 : Int32)), .unset, .unset] [(.int (1 : Int32)), (.int (3 : Int32))]))
  refine go (fun _ q => XS.isub X2.here hx rfl (hb hby d5_16) rfl q) ?_
  show Go p e below _ (T2.setTop (mkF m 17 #[.val (.ref a1), .val (.int p2), .val (.int p3), .val (.int (3 : Int32)), .unset, .unset] [(.int (2 : Int32))]))
  refine go (fun _ q => XS.istore X2.here hx rfl (hb hby d5_17) rfl (l' := #[.val (.ref a1), .val (.int p2), .val (.int p3), .val (.int (3 : Int32)), .val (.int (2 : Int32)), .unset]) rfl q) ?_
  show Go p e below _ (T2.setTop (mkF m 19 #[.val (.ref a1), .val (.int p2), .val (.int p3), .val (.int (3 : Int32)), .val (.int (2 : Int32)), .unset] []))
  refine go (fun _ q => XS.iloadN X2.here hx rfl (hb hby d5_19) rfl q) ?_
  show Go p e below _ (T2.setTop (mkF m 20 #[.val (.ref a1), .val (.int p2), .val (.int p3), .val (.int (3 : Int32)), .val (.int (2 : Int32)), .unset] [(.int (3 : Int32))]))
  refine go (fun _ q => XS.iload X2.here hx rfl (hb hby d5_20) rfl q) ?_
  show Go p e below _ (T2.setTop (mkF m 22 #[.val (.ref a1), .val (.int p2), .val (.int p3), .val (.int (3 : Int32)), .val (.int (2 : Int32)), .unset] [(.int (2 : Int32)), (.int (3 : Int32))]))
  refine go (fun _ q => XS.icmpYes X2.here hx rfl (pc0 := 22) (pc' := 78) rfl (hb hby d5_22) rfl (tlt (by decide : (2 : Int32) < (3 : Int32))).2.2.1 (by decide) (by decide) q) ?_
  show Go p e below _ (T2.setTop (mkF m 78 #[.val (.ref a1), .val (.int p2), .val (.int p3), .val (.int (3 : Int32)), .val (.int (2 : Int32)), .unset] []))
  refine go (fun _ q => XS.iconst X2.here hx rfl (hb hby d5_78) q) ?_
  show Go p e below _ (T2.setTop (mkF m 79 #[.val (.ref a1), .val (.int p2), .val (.int p3), .val (.int (3 : Int32)), .val (.int (2 : Int32)), .unset] [(.int (-1 : Int32))]))
  exact own_retI X2 hx hlk hret (hb hby d5_79) (by decide) (by decide) ⟨congrArg (fun z => some (Value.int z)) (by rw [t_3_3]), N0, e2⟩
def t_3_4 (p2 m0 m1 m2 m3 : Int32) : Int32 := (if m3 < p2 then (-1 : Int32) else (if p2 < m3 then (-1 : Int32) else (3 : Int32)))
set_option maxRecDepth 65536 in
set_option maxHeartbeats 40000000 in
theorem rmT_3_4 (l : Launch) (Z : State) (a0 : Array Value) (hw : ∀ d ∈ tables_1, d.before a0 Z = true) (ws : List Jvm.Cond) (a1 : Addr) (p2 : Int32) (p3 : Int32) (h0 : Heap) (n0 : Nat) {t b : Addr} {FA : List Int32} {m0 m1 m2 m3 : Int32} (hp : own_p3 p3) (lFA : FA.length = 4) (hlo : FA.getD (p3).toNatClampNeg 0 = (3 : Int32)) (hhi : FA.getD ((p3 + (1 : Int32))).toNatClampNeg 0 = (4 : Int32)) (F_f : Fld Z h0 a1 "com/example/junctura/junctura/conformance/OptimalPaths" "firstAt" "[I" (.ref t)) (F_m : Fld Z h0 a1 "com/example/junctura/junctura/conformance/OptimalPaths" "marking" "[I" (.ref b)) (F_t : Ari Z h0 t FA) (F_b : Ari Z h0 b ([m0, m1, m2, m3] : List Int32)) :
    MetFree l (⟨"com/example/junctura/junctura/conformance/OptimalPaths", "state", "(II)I"⟩ : MethodName) (head1 (Jvm.Cond.code (⟨"com/example/junctura/junctura/conformance/OptimalPaths", "state", "(II)I"⟩ : MethodName) prog_45_method_11_code 6 (some .int) :: ws) ({ frames := 0, cells := 0, slots := 0, locals := 0 } : Room)) (fun a U => a = #[(.ref a1), (.int p2), (.int p3)] ∧ Z.Warmed39 U.vm ∧ U.heap = h0) (fun _ _ _ _ _ => True) (fun _ U o U' => ∃ v L, o = .returned v ∧ (QP (some (.int (t_3_4 p2 m0 m1 m2 m3))) h0 n0) v U'.heap L ∧ FrameEnd U o U' L ({ frames := 0, cells := 0, slots := 0, locals := 0 } : Room).cells ({ frames := 0, cells := 0, slots := 0, locals := 0 } : Room).slots) := by
  refine own_met (plainFor_of_name pn_5) (fun m => ef_5 m a1 p2 p3) ?_
  intro p e s m below meth c T0 hx hby hml hown hnm hret hlk hZ X0 e0
  have hown : s.vm.findClass "com/example/junctura/junctura/conformance/OptimalPaths" = some m.cls := hown
  have hnm : meth.name = "state" := hnm
  have hret : meth.sig.returnType = some .int := hret
  have N0 := Fr.nil n0
  show Go p e below _ (T0.setTop (mkF m 0 #[.val (.ref a1), .val (.int p2), .val (.int p3), .unset, .unset, .unset] []))
  refine go (fun _ q => XS.aloadN X0.here hx rfl (hb hby d5_0) rfl rfl q) ?_
  show Go p e below _ (T0.setTop (mkF m 1 #[.val (.ref a1), .val (.int p2), .val (.int p3), .unset, .unset, .unset] [(.ref a1)]))
  obtain ⟨T1, X1, e1, st1⟩ := getF X0 hx hZ hown (host := "") (Or.inl (hw _ (List.mem_of_getElem? (i := 29) rfl))) Via.refl e0 F_f (g := (mkF m 1 #[.val (.ref a1), .val (.int p2), .val (.int p3), .unset, .unset, .unset] [(.ref a1)])) rfl rfl (hb hby d5_1)
  refine go st1 ?_
  show Go p e below _ (T1.setTop (mkF m 4 #[.val (.ref a1), .val (.int p2), .val (.int p3), .unset, .unset, .unset] [(.ref t)]))
  refine go (fun _ q => XS.iloadN X1.here hx rfl (hb hby d5_4) rfl q) ?_
  show Go p e below _ (T1.setTop (mkF m 5 #[.val (.ref a1), .val (.int p2), .val (.int p3), .unset, .unset, .unset] [(.int p3), (.ref t)]))
  refine go (own_iaload X1 hx hZ e1 F_t (j := p3) (own_i0 hp).1 (by rw [lFA]; exact (own_i0 hp).2) (g := (mkF m 5 #[.val (.ref a1), .val (.int p2), .val (.int p3), .unset, .unset, .unset] [(.int p3), (.ref t)])) rfl rfl (hb hby d5_5)) ?_
  show Go p e below _ (T1.setTop (mkF m 6 #[.val (.ref a1), .val (.int p2), .val (.int p3), .unset, .unset, .unset] [(.int (FA.getD (p3).toNatClampNeg 0))]))
  rw [hlo]
  show Go p e below _ (T1.setTop (mkF m 6 #[.val (.ref a1), .val (.int p2), .val (.int p3), .unset, .unset, .unset] [(.int (3 : Int32))]))
  refine go (fun _ q => XS.istoreN X1.here hx rfl (hb hby d5_6) rfl (l' := #[.val (.ref a1), .val (.int p2), .val (.int p3), .val (.int (3 : Int32)), .unset, .unset]) rfl q) ?_
  show Go p e below _ (T1.setTop (mkF m 7 #[.val (.ref a1), .val (.int p2), .val (.int p3), .val (.int (3 : Int32)), .unset, .unset] []))
  refine go (fun _ q => XS.aloadN X1.here hx rfl (hb hby d5_7) rfl rfl q) ?_
  show Go p e below _ (T1.setTop (mkF m 8 #[.val (.ref a1), .val (.int p2), .val (.int p3), .val (.int (3 : Int32)), .unset, .unset] [(.ref a1)]))
  obtain ⟨T2, X2, e2, st2⟩ := getF X1 hx hZ hown (host := "") (Or.inl (hw _ (List.mem_of_getElem? (i := 29) rfl))) Via.refl e1 F_f (g := (mkF m 8 #[.val (.ref a1), .val (.int p2), .val (.int p3), .val (.int (3 : Int32)), .unset, .unset] [(.ref a1)])) rfl rfl (hb hby d5_8)
  refine go st2 ?_
  show Go p e below _ (T2.setTop (mkF m 11 #[.val (.ref a1), .val (.int p2), .val (.int p3), .val (.int (3 : Int32)), .unset, .unset] [(.ref t)]))
  refine go (fun _ q => XS.iloadN X2.here hx rfl (hb hby d5_11) rfl q) ?_
  show Go p e below _ (T2.setTop (mkF m 12 #[.val (.ref a1), .val (.int p2), .val (.int p3), .val (.int (3 : Int32)), .unset, .unset] [(.int p3), (.ref t)]))
  refine go (fun _ q => XS.iconst X2.here hx rfl (hb hby d5_12) q) ?_
  show Go p e below _ (T2.setTop (mkF m 13 #[.val (.ref a1), .val (.int p2), .val (.int p3), .val (.int (3 : Int32)), .unset, .unset] [(.int (1 : Int32)), (.int p3), (.ref t)]))
  refine go (fun _ q => XS.iadd X2.here hx rfl (hb hby d5_13) rfl q) ?_
  show Go p e below _ (T2.setTop (mkF m 14 #[.val (.ref a1), .val (.int p2), .val (.int p3), .val (.int (3 : Int32)), .unset, .unset] [(.int (p3 + (1 : Int32))), (.ref t)]))
  refine go (own_iaload X2 hx hZ e2 F_t (j := (p3 + (1 : Int32))) (own_i1 hp).1 (by rw [lFA]; exact (own_i1 hp).2) (g := (mkF m 14 #[.val (.ref a1), .val (.int p2), .val (.int p3), .val (.int (3 : Int32)), .unset, .unset] [(.int (p3 + (1 : Int32))), (.ref t)])) rfl rfl (hb hby d5_14)) ?_
  show Go p e below _ (T2.setTop (mkF m 15 #[.val (.ref a1), .val (.int p2), .val (.int p3), .val (.int (3 : Int32)), .unset, .unset] [(.int (FA.getD ((p3 + (1 : Int32))).toNatClampNeg 0))]))
  rw [hhi]
  show Go p e below _ (T2.setTop (mkF m 15 #[.val (.ref a1), .val (.int p2), .val (.int p3), .val (.int (3 : Int32)), .unset, .unset] [(.int (4 : Int32))]))
  refine go (fun _ q => XS.iconst X2.here hx rfl (hb hby d5_15) q) ?_
  show Go p e below _ (T2.setTop (mkF m 16 #[.val (.ref a1), .val (.int p2), .val (.int p3), .val (.int (3 : Int32)), .unset, .unset] [(.int (1 : Int32)), (.int (4 : Int32))]))
  refine go (fun _ q => XS.isub X2.here hx rfl (hb hby d5_16) rfl q) ?_
  show Go p e below _ (T2.setTop (mkF m 17 #[.val (.ref a1), .val (.int p2), .val (.int p3), .val (.int (3 : Int32)), .unset, .unset] [(.int (3 : Int32))]))
  refine go (fun _ q => XS.istore X2.here hx rfl (hb hby d5_17) rfl (l' := #[.val (.ref a1), .val (.int p2), .val (.int p3), .val (.int (3 : Int32)), .val (.int (3 : Int32)), .unset]) rfl q) ?_
  show Go p e below _ (T2.setTop (mkF m 19 #[.val (.ref a1), .val (.int p2), .val (.int p3), .val (.int (3 : Int32)), .val (.int (3 : Int32)), .unset] []))
  refine go (fun _ q => XS.iloadN X2.here hx rfl (hb hby d5_19) rfl q) ?_
  show Go p e below _ (T2.setTop (mkF m 20 #[.val (.ref a1), .val (.int p2), .val (.int p3), .val (.int (3 : Int32)), .val (.int (3 : Int32)), .unset] [(.int (3 : Int32))]))
  refine go (fun _ q => XS.iload X2.here hx rfl (hb hby d5_20) rfl q) ?_
  show Go p e below _ (T2.setTop (mkF m 22 #[.val (.ref a1), .val (.int p2), .val (.int p3), .val (.int (3 : Int32)), .val (.int (3 : Int32)), .unset] [(.int (3 : Int32)), (.int (3 : Int32))]))
  refine go (fun _ q => XS.icmpNo X2.here hx rfl (hb hby d5_22) rfl (flt (by decide : ¬ ((3 : Int32) < (3 : Int32)))).2.2.1 q) ?_
  show Go p e below _ (T2.setTop (mkF m 25 #[.val (.ref a1), .val (.int p2), .val (.int p3), .val (.int (3 : Int32)), .val (.int (3 : Int32)), .unset] []))
  refine go (fun _ q => XS.iloadN X2.here hx rfl (hb hby d5_25) rfl q) ?_
  show Go p e below _ (T2.setTop (mkF m 26 #[.val (.ref a1), .val (.int p2), .val (.int p3), .val (.int (3 : Int32)), .val (.int (3 : Int32)), .unset] [(.int (3 : Int32))]))
  refine go (fun _ q => XS.iload X2.here hx rfl (hb hby d5_26) rfl q) ?_
  show Go p e below _ (T2.setTop (mkF m 28 #[.val (.ref a1), .val (.int p2), .val (.int p3), .val (.int (3 : Int32)), .val (.int (3 : Int32)), .unset] [(.int (3 : Int32)), (.int (3 : Int32))]))
  refine go (fun _ q => XS.iadd X2.here hx rfl (hb hby d5_28) rfl q) ?_
  show Go p e below _ (T2.setTop (mkF m 29 #[.val (.ref a1), .val (.int p2), .val (.int p3), .val (.int (3 : Int32)), .val (.int (3 : Int32)), .unset] [(.int (6 : Int32))]))
  refine go (fun _ q => XS.iconst X2.here hx rfl (hb hby d5_29) q) ?_
  show Go p e below _ (T2.setTop (mkF m 30 #[.val (.ref a1), .val (.int p2), .val (.int p3), .val (.int (3 : Int32)), .val (.int (3 : Int32)), .unset] [(.int (1 : Int32)), (.int (6 : Int32))]))
  refine go (fun _ q => XS.iushr X2.here hx rfl (hb hby d5_30) rfl q) ?_
  show Go p e below _ (T2.setTop (mkF m 31 #[.val (.ref a1), .val (.int p2), .val (.int p3), .val (.int (3 : Int32)), .val (.int (3 : Int32)), .unset] [(.int (3 : Int32))]))
  refine go (fun _ q => XS.istore X2.here hx rfl (hb hby d5_31) rfl (l' := #[.val (.ref a1), .val (.int p2), .val (.int p3), .val (.int (3 : Int32)), .val (.int (3 : Int32)), .val (.int (3 : Int32))]) rfl q) ?_
  show Go p e below _ (T2.setTop (mkF m 33 #[.val (.ref a1), .val (.int p2), .val (.int p3), .val (.int (3 : Int32)), .val (.int (3 : Int32)), .val (.int (3 : Int32))] []))
  refine go (fun _ q => XS.aloadN X2.here hx rfl (hb hby d5_33) rfl rfl q) ?_
  show Go p e below _ (T2.setTop (mkF m 34 #[.val (.ref a1), .val (.int p2), .val (.int p3), .val (.int (3 : Int32)), .val (.int (3 : Int32)), .val (.int (3 : Int32))] [(.ref a1)]))
  obtain ⟨T3, X3, e3, st3⟩ := getF X2 hx hZ hown (host := "") (Or.inl (hw _ (List.mem_of_getElem? (i := 17) rfl))) Via.refl e2 F_m (g := (mkF m 34 #[.val (.ref a1), .val (.int p2), .val (.int p3), .val (.int (3 : Int32)), .val (.int (3 : Int32)), .val (.int (3 : Int32))] [(.ref a1)])) rfl rfl (hb hby d5_34)
  refine go st3 ?_
  show Go p e below _ (T3.setTop (mkF m 37 #[.val (.ref a1), .val (.int p2), .val (.int p3), .val (.int (3 : Int32)), .val (.int (3 : Int32)), .val (.int (3 : Int32))] [(.ref b)]))
  refine go (fun _ q => XS.iload X3.here hx rfl (hb hby d5_37) rfl q) ?_
  show Go p e below _ (T3.setTop (mkF m 39 #[.val (.ref a1), .val (.int p2), .val (.int p3), .val (.int (3 : Int32)), .val (.int (3 : Int32)), .val (.int (3 : Int32))] [(.int (3 : Int32)), (.ref b)]))
  refine go (own_iaload X3 hx hZ e3 F_b (j := (3 : Int32)) (by decide) (Nat.le_of_ble_eq_true rfl) (g := (mkF m 39 #[.val (.ref a1), .val (.int p2), .val (.int p3), .val (.int (3 : Int32)), .val (.int (3 : Int32)), .val (.int (3 : Int32))] [(.int (3 : Int32)), (.ref b)])) rfl rfl (hb hby d5_39)) ?_
  show Go p e below _ (T3.setTop (mkF m 40 #[.val (.ref a1), .val (.int p2), .val (.int p3), .val (.int (3 : Int32)), .val (.int (3 : Int32)), .val (.int (3 : Int32))] [(.int m3)]))
  refine go (fun _ q => XS.iloadN X3.here hx rfl (hb hby d5_40) rfl q) ?_
  show Go p e below _ (T3.setTop (mkF m 41 #[.val (.ref a1), .val (.int p2), .val (.int p3), .val (.int (3 : Int32)), .val (.int (3 : Int32)), .val (.int (3 : Int32))] [(.int p2), (.int m3)]))
  by_cases hc4 : m3 < p2
  · refine go (fun _ q => XS.icmpNo X3.here hx rfl (hb hby d5_41) rfl (tlt hc4).2.1 q) ?_
    show Go p e below _ (T3.setTop (mkF m 44 #[.val (.ref a1), .val (.int p2), .val (.int p3), .val (.int (3 : Int32)), .val (.int (3 : Int32)), .val (.int (3 : Int32))] []))
    refine go (fun _ q => XS.iload X3.here hx rfl (hb hby d5_44) rfl q) ?_
    show Go p e below _ (T3.setTop (mkF m 46 #[.val (.ref a1), .val (.int p2), .val (.int p3), .val (.int (3 : Int32)), .val (.int (3 : Int32)), .val (.int (3 : Int32))] [(.int (3 : Int32))]))
    refine go (fun _ q => XS.iconst X3.here hx rfl (hb hby d5_46) q) ?_
    show Go p e below _ (T3.setTop (mkF m 47 #[.val (.ref a1), .val (.int p2), .val (.int p3), .val (.int (3 : Int32)), .val (.int (3 : Int32)), .val (.int (3 : Int32))] [(.int (1 : Int32)), (.int (3 : Int32))]))
    refine go (fun _ q => XS.iadd X3.here hx rfl (hb hby d5_47) rfl q) ?_
    show Go p e below _ (T3.setTop (mkF m 48 #[.val (.ref a1), .val (.int p2), .val (.int p3), .val (.int (3 : Int32)), .val (.int (3 : Int32)), .val (.int (3 : Int32))] [(.int (4 : Int32))]))
    refine go (fun _ q => XS.istoreN X3.here hx rfl (hb hby d5_48) rfl (l' := #[.val (.ref a1), .val (.int p2), .val (.int p3), .val (.int (4 : Int32)), .val (.int (3 : Int32)), .val (.int (3 : Int32))]) rfl q) ?_
    show Go p e below _ (T3.setTop (mkF m 49 #[.val (.ref a1), .val (.int p2), .val (.int p3), .val (.int (4 : Int32)), .val (.int (3 : Int32)), .val (.int (3 : Int32))] []))
    refine go (fun _ q => XS.goto X3.here hx rfl (pc0 := 49) (pc' := 75) rfl (hb hby d5_49) (by decide) (by decide) q) ?_
    show Go p e below _ (T3.setTop (mkF m 75 #[.val (.ref a1), .val (.int p2), .val (.int p3), .val (.int (4 : Int32)), .val (.int (3 : Int32)), .val (.int (3 : Int32))] []))
    refine go (fun _ q => XS.goto X3.here hx rfl (pc0 := 75) (pc' := 19) rfl (hb hby d5_75) (by decide) (by decide) q) ?_
    show Go p e below _ (T3.setTop (mkF m 19 #[.val (.ref a1), .val (.int p2), .val (.int p3), .val (.int (4 : Int32)), .val (.int (3 : Int32)), .val (.int (3 : Int32))] []))
    refine go (fun _ q => XS.iloadN X3.here hx rfl (hb hby d5_19) rfl q) ?_
    show Go p e below _ (T3.setTop (mkF m 20 #[.val (.ref a1), .val (.int p2), .val (.int p3), .val (.int (4 : Int32)), .val (.int (3 : Int32)), .val (.int (3 : Int32))] [(.int (4 : Int32))]))
    refine go (fun _ q => XS.iload X3.here hx rfl (hb hby d5_20) rfl q) ?_
    show Go p e below _ (T3.setTop (mkF m 22 #[.val (.ref a1), .val (.int p2), .val (.int p3), .val (.int (4 : Int32)), .val (.int (3 : Int32)), .val (.int (3 : Int32))] [(.int (3 : Int32)), (.int (4 : Int32))]))
    refine go (fun _ q => XS.icmpYes X3.here hx rfl (pc0 := 22) (pc' := 78) rfl (hb hby d5_22) rfl (tlt (by decide : (3 : Int32) < (4 : Int32))).2.2.1 (by decide) (by decide) q) ?_
    show Go p e below _ (T3.setTop (mkF m 78 #[.val (.ref a1), .val (.int p2), .val (.int p3), .val (.int (4 : Int32)), .val (.int (3 : Int32)), .val (.int (3 : Int32))] []))
    refine go (fun _ q => XS.iconst X3.here hx rfl (hb hby d5_78) q) ?_
    show Go p e below _ (T3.setTop (mkF m 79 #[.val (.ref a1), .val (.int p2), .val (.int p3), .val (.int (4 : Int32)), .val (.int (3 : Int32)), .val (.int (3 : Int32))] [(.int (-1 : Int32))]))
    exact own_retI X3 hx hlk hret (hb hby d5_79) (by decide) (by decide) ⟨congrArg (fun z => some (Value.int z)) (by rw [t_3_4, if_pos hc4]), N0, e3⟩
  · refine go (fun _ q => XS.icmpYes X3.here hx rfl (pc0 := 41) (pc' := 52) rfl (hb hby d5_41) rfl (flt hc4).2.1 (by decide) (by decide) q) ?_
    show Go p e below _ (T3.setTop (mkF m 52 #[.val (.ref a1), .val (.int p2), .val (.int p3), .val (.int (3 : Int32)), .val (.int (3 : Int32)), .val (.int (3 : Int32))] []))
    refine go (fun _ q => XS.aloadN X3.here hx rfl (hb hby d5_52) rfl rfl q) ?_
    show Go p e below _ (T3.setTop (mkF m 53 #[.val (.ref a1), .val (.int p2), .val (.int p3), .val (.int (3 : Int32)), .val (.int (3 : Int32)), .val (.int (3 : Int32))] [(.ref a1)]))
    obtain ⟨T5, X5, e5, st5⟩ := getF X3 hx hZ hown (host := "") (Or.inl (hw _ (List.mem_of_getElem? (i := 17) rfl))) Via.refl e3 F_m (g := (mkF m 53 #[.val (.ref a1), .val (.int p2), .val (.int p3), .val (.int (3 : Int32)), .val (.int (3 : Int32)), .val (.int (3 : Int32))] [(.ref a1)])) rfl rfl (hb hby d5_53)
    refine go st5 ?_
    show Go p e below _ (T5.setTop (mkF m 56 #[.val (.ref a1), .val (.int p2), .val (.int p3), .val (.int (3 : Int32)), .val (.int (3 : Int32)), .val (.int (3 : Int32))] [(.ref b)]))
    refine go (fun _ q => XS.iload X5.here hx rfl (hb hby d5_56) rfl q) ?_
    show Go p e below _ (T5.setTop (mkF m 58 #[.val (.ref a1), .val (.int p2), .val (.int p3), .val (.int (3 : Int32)), .val (.int (3 : Int32)), .val (.int (3 : Int32))] [(.int (3 : Int32)), (.ref b)]))
    refine go (own_iaload X5 hx hZ e5 F_b (j := (3 : Int32)) (by decide) (Nat.le_of_ble_eq_true rfl) (g := (mkF m 58 #[.val (.ref a1), .val (.int p2), .val (.int p3), .val (.int (3 : Int32)), .val (.int (3 : Int32)), .val (.int (3 : Int32))] [(.int (3 : Int32)), (.ref b)])) rfl rfl (hb hby d5_58)) ?_
    show Go p e below _ (T5.setTop (mkF m 59 #[.val (.ref a1), .val (.int p2), .val (.int p3), .val (.int (3 : Int32)), .val (.int (3 : Int32)), .val (.int (3 : Int32))] [(.int m3)]))
    refine go (fun _ q => XS.iloadN X5.here hx rfl (hb hby d5_59) rfl q) ?_
    show Go p e below _ (T5.setTop (mkF m 60 #[.val (.ref a1), .val (.int p2), .val (.int p3), .val (.int (3 : Int32)), .val (.int (3 : Int32)), .val (.int (3 : Int32))] [(.int p2), (.int m3)]))
    by_cases hc6 : p2 < m3
    · refine go (fun _ q => XS.icmpNo X5.here hx rfl (hb hby d5_60) rfl (tlt hc6).2.2.2 q) ?_
      show Go p e below _ (T5.setTop (mkF m 63 #[.val (.ref a1), .val (.int p2), .val (.int p3), .val (.int (3 : Int32)), .val (.int (3 : Int32)), .val (.int (3 : Int32))] []))
      refine go (fun _ q => XS.iload X5.here hx rfl (hb hby d5_63) rfl q) ?_
      show Go p e below _ (T5.setTop (mkF m 65 #[.val (.ref a1), .val (.int p2), .val (.int p3), .val (.int (3 : Int32)), .val (.int (3 : Int32)), .val (.int (3 : Int32))] [(.int (3 : Int32))]))
      refine go (fun _ q => XS.iconst X5.here hx rfl (hb hby d5_65) q) ?_
      show Go p e below _ (T5.setTop (mkF m 66 #[.val (.ref a1), .val (.int p2), .val (.int p3), .val (.int (3 : Int32)), .val (.int (3 : Int32)), .val (.int (3 : Int32))] [(.int (1 : Int32)), (.int (3 : Int32))]))
      refine go (fun _ q => XS.isub X5.here hx rfl (hb hby d5_66) rfl q) ?_
      show Go p e below _ (T5.setTop (mkF m 67 #[.val (.ref a1), .val (.int p2), .val (.int p3), .val (.int (3 : Int32)), .val (.int (3 : Int32)), .val (.int (3 : Int32))] [(.int (2 : Int32))]))
      refine go (fun _ q => XS.istore X5.here hx rfl (hb hby d5_67) rfl (l' := #[.val (.ref a1), .val (.int p2), .val (.int p3), .val (.int (3 : Int32)), .val (.int (2 : Int32)), .val (.int (3 : Int32))]) rfl q) ?_
      show Go p e below _ (T5.setTop (mkF m 69 #[.val (.ref a1), .val (.int p2), .val (.int p3), .val (.int (3 : Int32)), .val (.int (2 : Int32)), .val (.int (3 : Int32))] []))
      refine go (fun _ q => XS.goto X5.here hx rfl (pc0 := 69) (pc' := 75) rfl (hb hby d5_69) (by decide) (by decide) q) ?_
      show Go p e below _ (T5.setTop (mkF m 75 #[.val (.ref a1), .val (.int p2), .val (.int p3), .val (.int (3 : Int32)), .val (.int (2 : Int32)), .val (.int (3 : Int32))] []))
      refine go (fun _ q => XS.goto X5.here hx rfl (pc0 := 75) (pc' := 19) rfl (hb hby d5_75) (by decide) (by decide) q) ?_
      show Go p e below _ (T5.setTop (mkF m 19 #[.val (.ref a1), .val (.int p2), .val (.int p3), .val (.int (3 : Int32)), .val (.int (2 : Int32)), .val (.int (3 : Int32))] []))
      refine go (fun _ q => XS.iloadN X5.here hx rfl (hb hby d5_19) rfl q) ?_
      show Go p e below _ (T5.setTop (mkF m 20 #[.val (.ref a1), .val (.int p2), .val (.int p3), .val (.int (3 : Int32)), .val (.int (2 : Int32)), .val (.int (3 : Int32))] [(.int (3 : Int32))]))
      refine go (fun _ q => XS.iload X5.here hx rfl (hb hby d5_20) rfl q) ?_
      show Go p e below _ (T5.setTop (mkF m 22 #[.val (.ref a1), .val (.int p2), .val (.int p3), .val (.int (3 : Int32)), .val (.int (2 : Int32)), .val (.int (3 : Int32))] [(.int (2 : Int32)), (.int (3 : Int32))]))
      refine go (fun _ q => XS.icmpYes X5.here hx rfl (pc0 := 22) (pc' := 78) rfl (hb hby d5_22) rfl (tlt (by decide : (2 : Int32) < (3 : Int32))).2.2.1 (by decide) (by decide) q) ?_
      show Go p e below _ (T5.setTop (mkF m 78 #[.val (.ref a1), .val (.int p2), .val (.int p3), .val (.int (3 : Int32)), .val (.int (2 : Int32)), .val (.int (3 : Int32))] []))
      refine go (fun _ q => XS.iconst X5.here hx rfl (hb hby d5_78) q) ?_
      show Go p e below _ (T5.setTop (mkF m 79 #[.val (.ref a1), .val (.int p2), .val (.int p3), .val (.int (3 : Int32)), .val (.int (2 : Int32)), .val (.int (3 : Int32))] [(.int (-1 : Int32))]))
      exact own_retI X5 hx hlk hret (hb hby d5_79) (by decide) (by decide) ⟨congrArg (fun z => some (Value.int z)) (by rw [t_3_4, if_neg hc4, if_pos hc6]), N0, e5⟩
    · refine go (fun _ q => XS.icmpYes X5.here hx rfl (pc0 := 60) (pc' := 72) rfl (hb hby d5_60) rfl (flt hc6).2.2.2 (by decide) (by decide) q) ?_
      show Go p e below _ (T5.setTop (mkF m 72 #[.val (.ref a1), .val (.int p2), .val (.int p3), .val (.int (3 : Int32)), .val (.int (3 : Int32)), .val (.int (3 : Int32))] []))
      refine go (fun _ q => XS.iload X5.here hx rfl (hb hby d5_72) rfl q) ?_
      show Go p e below _ (T5.setTop (mkF m 74 #[.val (.ref a1), .val (.int p2), .val (.int p3), .val (.int (3 : Int32)), .val (.int (3 : Int32)), .val (.int (3 : Int32))] [(.int (3 : Int32))]))
      exact own_retI X5 hx hlk hret (hb hby d5_74) (by decide) (by decide) ⟨congrArg (fun z => some (Value.int z)) (by rw [t_3_4, if_neg hc4, if_neg hc6]), N0, e5⟩
def t_4_4 (p2 m0 m1 m2 m3 : Int32) : Int32 := (-1 : Int32)
set_option maxRecDepth 65536 in
set_option maxHeartbeats 40000000 in
theorem rmT_4_4 (l : Launch) (Z : State) (a0 : Array Value) (hw : ∀ d ∈ tables_1, d.before a0 Z = true) (ws : List Jvm.Cond) (a1 : Addr) (p2 : Int32) (p3 : Int32) (h0 : Heap) (n0 : Nat) {t b : Addr} {FA : List Int32} {m0 m1 m2 m3 : Int32} (hp : own_p3 p3) (lFA : FA.length = 4) (hlo : FA.getD (p3).toNatClampNeg 0 = (4 : Int32)) (hhi : FA.getD ((p3 + (1 : Int32))).toNatClampNeg 0 = (4 : Int32)) (F_f : Fld Z h0 a1 "com/example/junctura/junctura/conformance/OptimalPaths" "firstAt" "[I" (.ref t)) (F_m : Fld Z h0 a1 "com/example/junctura/junctura/conformance/OptimalPaths" "marking" "[I" (.ref b)) (F_t : Ari Z h0 t FA) (F_b : Ari Z h0 b ([m0, m1, m2, m3] : List Int32)) :
    MetFree l (⟨"com/example/junctura/junctura/conformance/OptimalPaths", "state", "(II)I"⟩ : MethodName) (head1 (Jvm.Cond.code (⟨"com/example/junctura/junctura/conformance/OptimalPaths", "state", "(II)I"⟩ : MethodName) prog_45_method_11_code 6 (some .int) :: ws) ({ frames := 0, cells := 0, slots := 0, locals := 0 } : Room)) (fun a U => a = #[(.ref a1), (.int p2), (.int p3)] ∧ Z.Warmed39 U.vm ∧ U.heap = h0) (fun _ _ _ _ _ => True) (fun _ U o U' => ∃ v L, o = .returned v ∧ (QP (some (.int (t_4_4 p2 m0 m1 m2 m3))) h0 n0) v U'.heap L ∧ FrameEnd U o U' L ({ frames := 0, cells := 0, slots := 0, locals := 0 } : Room).cells ({ frames := 0, cells := 0, slots := 0, locals := 0 } : Room).slots) := by
  refine own_met (plainFor_of_name pn_5) (fun m => ef_5 m a1 p2 p3) ?_
  intro p e s m below meth c T0 hx hby hml hown hnm hret hlk hZ X0 e0
  have hown : s.vm.findClass "com/example/junctura/junctura/conformance/OptimalPaths" = some m.cls := hown
  have hnm : meth.name = "state" := hnm
  have hret : meth.sig.returnType = some .int := hret
  have N0 := Fr.nil n0
  show Go p e below _ (T0.setTop (mkF m 0 #[.val (.ref a1), .val (.int p2), .val (.int p3), .unset, .unset, .unset] []))
  refine go (fun _ q => XS.aloadN X0.here hx rfl (hb hby d5_0) rfl rfl q) ?_
  show Go p e below _ (T0.setTop (mkF m 1 #[.val (.ref a1), .val (.int p2), .val (.int p3), .unset, .unset, .unset] [(.ref a1)]))
  obtain ⟨T1, X1, e1, st1⟩ := getF X0 hx hZ hown (host := "") (Or.inl (hw _ (List.mem_of_getElem? (i := 29) rfl))) Via.refl e0 F_f (g := (mkF m 1 #[.val (.ref a1), .val (.int p2), .val (.int p3), .unset, .unset, .unset] [(.ref a1)])) rfl rfl (hb hby d5_1)
  refine go st1 ?_
  show Go p e below _ (T1.setTop (mkF m 4 #[.val (.ref a1), .val (.int p2), .val (.int p3), .unset, .unset, .unset] [(.ref t)]))
  refine go (fun _ q => XS.iloadN X1.here hx rfl (hb hby d5_4) rfl q) ?_
  show Go p e below _ (T1.setTop (mkF m 5 #[.val (.ref a1), .val (.int p2), .val (.int p3), .unset, .unset, .unset] [(.int p3), (.ref t)]))
  refine go (own_iaload X1 hx hZ e1 F_t (j := p3) (own_i0 hp).1 (by rw [lFA]; exact (own_i0 hp).2) (g := (mkF m 5 #[.val (.ref a1), .val (.int p2), .val (.int p3), .unset, .unset, .unset] [(.int p3), (.ref t)])) rfl rfl (hb hby d5_5)) ?_
  show Go p e below _ (T1.setTop (mkF m 6 #[.val (.ref a1), .val (.int p2), .val (.int p3), .unset, .unset, .unset] [(.int (FA.getD (p3).toNatClampNeg 0))]))
  rw [hlo]
  show Go p e below _ (T1.setTop (mkF m 6 #[.val (.ref a1), .val (.int p2), .val (.int p3), .unset, .unset, .unset] [(.int (4 : Int32))]))
  refine go (fun _ q => XS.istoreN X1.here hx rfl (hb hby d5_6) rfl (l' := #[.val (.ref a1), .val (.int p2), .val (.int p3), .val (.int (4 : Int32)), .unset, .unset]) rfl q) ?_
  show Go p e below _ (T1.setTop (mkF m 7 #[.val (.ref a1), .val (.int p2), .val (.int p3), .val (.int (4 : Int32)), .unset, .unset] []))
  refine go (fun _ q => XS.aloadN X1.here hx rfl (hb hby d5_7) rfl rfl q) ?_
  show Go p e below _ (T1.setTop (mkF m 8 #[.val (.ref a1), .val (.int p2), .val (.int p3), .val (.int (4 : Int32)), .unset, .unset] [(.ref a1)]))
  obtain ⟨T2, X2, e2, st2⟩ := getF X1 hx hZ hown (host := "") (Or.inl (hw _ (List.mem_of_getElem? (i := 29) rfl))) Via.refl e1 F_f (g := (mkF m 8 #[.val (.ref a1), .val (.int p2), .val (.int p3), .val (.int (4 : Int32)), .unset, .unset] [(.ref a1)])) rfl rfl (hb hby d5_8)
  refine go st2 ?_
  show Go p e below _ (T2.setTop (mkF m 11 #[.val (.ref a1), .val (.int p2), .val (.int p3), .val (.int (4 : Int32)), .unset, .unset] [(.ref t)]))
  refine go (fun _ q => XS.iloadN X2.here hx rfl (hb hby d5_11) rfl q) ?_
  show Go p e below _ (T2.setTop (mkF m 12 #[.val (.ref a1), .val (.int p2), .val (.int p3), .val (.int (4 : Int32)), .unset, .unset] [(.int p3), (.ref t)]))
  refine go (fun _ q => XS.iconst X2.here hx rfl (hb hby d5_12) q) ?_
  show Go p e below _ (T2.setTop (mkF m 13 #[.val (.ref a1), .val (.int p2), .val (.int p3), .val (.int (4 : Int32)), .unset, .unset] [(.int (1 : Int32)), (.int p3), (.ref t)]))
  refine go (fun _ q => XS.iadd X2.here hx rfl (hb hby d5_13) rfl q) ?_
  show Go p e below _ (T2.setTop (mkF m 14 #[.val (.ref a1), .val (.int p2), .val (.int p3), .val (.int (4 : Int32)), .unset, .unset] [(.int (p3 + (1 : Int32))), (.ref t)]))
  refine go (own_iaload X2 hx hZ e2 F_t (j := (p3 + (1 : Int32))) (own_i1 hp).1 (by rw [lFA]; exact (own_i1 hp).2) (g := (mkF m 14 #[.val (.ref a1), .val (.int p2), .val (.int p3), .val (.int (4 : Int32)), .unset, .unset] [(.int (p3 + (1 : Int32))), (.ref t)])) rfl rfl (hb hby d5_14)) ?_
  show Go p e below _ (T2.setTop (mkF m 15 #[.val (.ref a1), .val (.int p2), .val (.int p3), .val (.int (4 : Int32)), .unset, .unset] [(.int (FA.getD ((p3 + (1 : Int32))).toNatClampNeg 0))]))
  rw [hhi]
  show Go p e below _ (T2.setTop (mkF m 15 #[.val (.ref a1), .val (.int p2), .val (.int p3), .val (.int (4 : Int32)), .unset, .unset] [(.int (4 : Int32))]))
  refine go (fun _ q => XS.iconst X2.here hx rfl (hb hby d5_15) q) ?_
  show Go p e below _ (T2.setTop (mkF m 16 #[.val (.ref a1), .val (.int p2), .val (.int p3), .val (.int (4 : Int32)), .unset, .unset] [(.int (1 : Int32)), (.int (4 : Int32))]))
  refine go (fun _ q => XS.isub X2.here hx rfl (hb hby d5_16) rfl q) ?_
  show Go p e below _ (T2.setTop (mkF m 17 #[.val (.ref a1), .val (.int p2), .val (.int p3), .val (.int (4 : Int32)), .unset, .unset] [(.int (3 : Int32))]))
  refine go (fun _ q => XS.istore X2.here hx rfl (hb hby d5_17) rfl (l' := #[.val (.ref a1), .val (.int p2), .val (.int p3), .val (.int (4 : Int32)), .val (.int (3 : Int32)), .unset]) rfl q) ?_
  show Go p e below _ (T2.setTop (mkF m 19 #[.val (.ref a1), .val (.int p2), .val (.int p3), .val (.int (4 : Int32)), .val (.int (3 : Int32)), .unset] []))
  refine go (fun _ q => XS.iloadN X2.here hx rfl (hb hby d5_19) rfl q) ?_
  show Go p e below _ (T2.setTop (mkF m 20 #[.val (.ref a1), .val (.int p2), .val (.int p3), .val (.int (4 : Int32)), .val (.int (3 : Int32)), .unset] [(.int (4 : Int32))]))
  refine go (fun _ q => XS.iload X2.here hx rfl (hb hby d5_20) rfl q) ?_
  show Go p e below _ (T2.setTop (mkF m 22 #[.val (.ref a1), .val (.int p2), .val (.int p3), .val (.int (4 : Int32)), .val (.int (3 : Int32)), .unset] [(.int (3 : Int32)), (.int (4 : Int32))]))
  refine go (fun _ q => XS.icmpYes X2.here hx rfl (pc0 := 22) (pc' := 78) rfl (hb hby d5_22) rfl (tlt (by decide : (3 : Int32) < (4 : Int32))).2.2.1 (by decide) (by decide) q) ?_
  show Go p e below _ (T2.setTop (mkF m 78 #[.val (.ref a1), .val (.int p2), .val (.int p3), .val (.int (4 : Int32)), .val (.int (3 : Int32)), .unset] []))
  refine go (fun _ q => XS.iconst X2.here hx rfl (hb hby d5_78) q) ?_
  show Go p e below _ (T2.setTop (mkF m 79 #[.val (.ref a1), .val (.int p2), .val (.int p3), .val (.int (4 : Int32)), .val (.int (3 : Int32)), .unset] [(.int (-1 : Int32))]))
  exact own_retI X2 hx hlk hret (hb hby d5_79) (by decide) (by decide) ⟨congrArg (fun z => some (Value.int z)) (by rw [t_4_4]), N0, e2⟩
def own_lh (lo hi : Int32) : Prop := (lo = 0 ∧ hi = 0) ∨ (lo = 0 ∧ hi = 1) ∨ (lo = 0 ∧ hi = 2) ∨ (lo = 0 ∧ hi = 3) ∨ (lo = 0 ∧ hi = 4) ∨ (lo = 1 ∧ hi = 1) ∨ (lo = 1 ∧ hi = 2) ∨ (lo = 1 ∧ hi = 3) ∨ (lo = 1 ∧ hi = 4) ∨ (lo = 2 ∧ hi = 2) ∨ (lo = 2 ∧ hi = 3) ∨ (lo = 2 ∧ hi = 4) ∨ (lo = 3 ∧ hi = 3) ∨ (lo = 3 ∧ hi = 4) ∨ (lo = 4 ∧ hi = 4)
def own_search (lo hi q m0 m1 m2 m3 : Int32) : Int32 := if lo = 0 ∧ hi = 0 then t_0_0 q m0 m1 m2 m3 else if lo = 0 ∧ hi = 1 then t_0_1 q m0 m1 m2 m3 else if lo = 0 ∧ hi = 2 then t_0_2 q m0 m1 m2 m3 else if lo = 0 ∧ hi = 3 then t_0_3 q m0 m1 m2 m3 else if lo = 0 ∧ hi = 4 then t_0_4 q m0 m1 m2 m3 else if lo = 1 ∧ hi = 1 then t_1_1 q m0 m1 m2 m3 else if lo = 1 ∧ hi = 2 then t_1_2 q m0 m1 m2 m3 else if lo = 1 ∧ hi = 3 then t_1_3 q m0 m1 m2 m3 else if lo = 1 ∧ hi = 4 then t_1_4 q m0 m1 m2 m3 else if lo = 2 ∧ hi = 2 then t_2_2 q m0 m1 m2 m3 else if lo = 2 ∧ hi = 3 then t_2_3 q m0 m1 m2 m3 else if lo = 2 ∧ hi = 4 then t_2_4 q m0 m1 m2 m3 else if lo = 3 ∧ hi = 3 then t_3_3 q m0 m1 m2 m3 else if lo = 3 ∧ hi = 4 then t_3_4 q m0 m1 m2 m3 else if lo = 4 ∧ hi = 4 then t_4_4 q m0 m1 m2 m3 else 0
theorem own_s_0_0 (q m0 m1 m2 m3 : Int32) : own_search 0 0 q m0 m1 m2 m3 = t_0_0 q m0 m1 m2 m3 := by simp +decide only [own_search, and_self, if_true, if_false]
theorem own_s_0_1 (q m0 m1 m2 m3 : Int32) : own_search 0 1 q m0 m1 m2 m3 = t_0_1 q m0 m1 m2 m3 := by simp +decide only [own_search, and_self, if_true, if_false]
theorem own_s_0_2 (q m0 m1 m2 m3 : Int32) : own_search 0 2 q m0 m1 m2 m3 = t_0_2 q m0 m1 m2 m3 := by simp +decide only [own_search, and_self, if_true, if_false]
theorem own_s_0_3 (q m0 m1 m2 m3 : Int32) : own_search 0 3 q m0 m1 m2 m3 = t_0_3 q m0 m1 m2 m3 := by simp +decide only [own_search, and_self, if_true, if_false]
theorem own_s_0_4 (q m0 m1 m2 m3 : Int32) : own_search 0 4 q m0 m1 m2 m3 = t_0_4 q m0 m1 m2 m3 := by simp +decide only [own_search, and_self, if_true, if_false]
theorem own_s_1_1 (q m0 m1 m2 m3 : Int32) : own_search 1 1 q m0 m1 m2 m3 = t_1_1 q m0 m1 m2 m3 := by simp +decide only [own_search, and_self, if_true, if_false]
theorem own_s_1_2 (q m0 m1 m2 m3 : Int32) : own_search 1 2 q m0 m1 m2 m3 = t_1_2 q m0 m1 m2 m3 := by simp +decide only [own_search, and_self, if_true, if_false]
theorem own_s_1_3 (q m0 m1 m2 m3 : Int32) : own_search 1 3 q m0 m1 m2 m3 = t_1_3 q m0 m1 m2 m3 := by simp +decide only [own_search, and_self, if_true, if_false]
theorem own_s_1_4 (q m0 m1 m2 m3 : Int32) : own_search 1 4 q m0 m1 m2 m3 = t_1_4 q m0 m1 m2 m3 := by simp +decide only [own_search, and_self, if_true, if_false]
theorem own_s_2_2 (q m0 m1 m2 m3 : Int32) : own_search 2 2 q m0 m1 m2 m3 = t_2_2 q m0 m1 m2 m3 := by simp +decide only [own_search, and_self, if_true, if_false]
theorem own_s_2_3 (q m0 m1 m2 m3 : Int32) : own_search 2 3 q m0 m1 m2 m3 = t_2_3 q m0 m1 m2 m3 := by simp +decide only [own_search, and_self, if_true, if_false]
theorem own_s_2_4 (q m0 m1 m2 m3 : Int32) : own_search 2 4 q m0 m1 m2 m3 = t_2_4 q m0 m1 m2 m3 := by simp +decide only [own_search, and_self, if_true, if_false]
theorem own_s_3_3 (q m0 m1 m2 m3 : Int32) : own_search 3 3 q m0 m1 m2 m3 = t_3_3 q m0 m1 m2 m3 := by simp +decide only [own_search, and_self, if_true, if_false]
theorem own_s_3_4 (q m0 m1 m2 m3 : Int32) : own_search 3 4 q m0 m1 m2 m3 = t_3_4 q m0 m1 m2 m3 := by simp +decide only [own_search, and_self, if_true, if_false]
theorem own_s_4_4 (q m0 m1 m2 m3 : Int32) : own_search 4 4 q m0 m1 m2 m3 = t_4_4 q m0 m1 m2 m3 := by simp +decide only [own_search, and_self, if_true, if_false]
set_option maxRecDepth 65536 in
set_option maxHeartbeats 4000000 in
theorem rmT (l : Launch) (Z : State) (a0 : Array Value) (hw : ∀ d ∈ tables_1, d.before a0 Z = true) (ws : List Jvm.Cond) (a1 : Addr) (p2 p3 : Int32) (h0 : Heap) (n0 : Nat) {t b : Addr} {FA : List Int32} {m0 m1 m2 m3 lo hi : Int32} (hc : own_lh lo hi) (hp : own_p3 p3) (lFA : FA.length = 4) (hlo : FA.getD (p3).toNatClampNeg 0 = lo) (hhi : FA.getD ((p3 + (1 : Int32))).toNatClampNeg 0 = hi) (F_f : Fld Z h0 a1 "com/example/junctura/junctura/conformance/OptimalPaths" "firstAt" "[I" (.ref t)) (F_m : Fld Z h0 a1 "com/example/junctura/junctura/conformance/OptimalPaths" "marking" "[I" (.ref b)) (F_t : Ari Z h0 t FA) (F_b : Ari Z h0 b ([m0, m1, m2, m3] : List Int32)) :
    MetFree l (⟨"com/example/junctura/junctura/conformance/OptimalPaths", "state", "(II)I"⟩ : MethodName) (head1 (Jvm.Cond.code (⟨"com/example/junctura/junctura/conformance/OptimalPaths", "state", "(II)I"⟩ : MethodName) prog_45_method_11_code 6 (some .int) :: ws) ({ frames := 0, cells := 0, slots := 0, locals := 0 } : Room)) (fun a U => a = #[(.ref a1), (.int p2), (.int p3)] ∧ Z.Warmed39 U.vm ∧ U.heap = h0) (fun _ _ _ _ _ => True) (fun _ U o U' => ∃ v L, o = .returned v ∧ (QP (some (.int (own_search lo hi p2 m0 m1 m2 m3))) h0 n0) v U'.heap L ∧ FrameEnd U o U' L ({ frames := 0, cells := 0, slots := 0, locals := 0 } : Room).cells ({ frames := 0, cells := 0, slots := 0, locals := 0 } : Room).slots) := by
  rcases hc with ⟨rfl, rfl⟩ | ⟨rfl, rfl⟩ | ⟨rfl, rfl⟩ | ⟨rfl, rfl⟩ | ⟨rfl, rfl⟩ | ⟨rfl, rfl⟩ | ⟨rfl, rfl⟩ | ⟨rfl, rfl⟩ | ⟨rfl, rfl⟩ | ⟨rfl, rfl⟩ | ⟨rfl, rfl⟩ | ⟨rfl, rfl⟩ | ⟨rfl, rfl⟩ | ⟨rfl, rfl⟩ | ⟨rfl, rfl⟩
  · rw [own_s_0_0]
    exact rmT_0_0 l Z a0 hw ws a1 p2 p3 h0 n0 hp lFA hlo hhi F_f F_m F_t F_b
  · rw [own_s_0_1]
    exact rmT_0_1 l Z a0 hw ws a1 p2 p3 h0 n0 hp lFA hlo hhi F_f F_m F_t F_b
  · rw [own_s_0_2]
    exact rmT_0_2 l Z a0 hw ws a1 p2 p3 h0 n0 hp lFA hlo hhi F_f F_m F_t F_b
  · rw [own_s_0_3]
    exact rmT_0_3 l Z a0 hw ws a1 p2 p3 h0 n0 hp lFA hlo hhi F_f F_m F_t F_b
  · rw [own_s_0_4]
    exact rmT_0_4 l Z a0 hw ws a1 p2 p3 h0 n0 hp lFA hlo hhi F_f F_m F_t F_b
  · rw [own_s_1_1]
    exact rmT_1_1 l Z a0 hw ws a1 p2 p3 h0 n0 hp lFA hlo hhi F_f F_m F_t F_b
  · rw [own_s_1_2]
    exact rmT_1_2 l Z a0 hw ws a1 p2 p3 h0 n0 hp lFA hlo hhi F_f F_m F_t F_b
  · rw [own_s_1_3]
    exact rmT_1_3 l Z a0 hw ws a1 p2 p3 h0 n0 hp lFA hlo hhi F_f F_m F_t F_b
  · rw [own_s_1_4]
    exact rmT_1_4 l Z a0 hw ws a1 p2 p3 h0 n0 hp lFA hlo hhi F_f F_m F_t F_b
  · rw [own_s_2_2]
    exact rmT_2_2 l Z a0 hw ws a1 p2 p3 h0 n0 hp lFA hlo hhi F_f F_m F_t F_b
  · rw [own_s_2_3]
    exact rmT_2_3 l Z a0 hw ws a1 p2 p3 h0 n0 hp lFA hlo hhi F_f F_m F_t F_b
  · rw [own_s_2_4]
    exact rmT_2_4 l Z a0 hw ws a1 p2 p3 h0 n0 hp lFA hlo hhi F_f F_m F_t F_b
  · rw [own_s_3_3]
    exact rmT_3_3 l Z a0 hw ws a1 p2 p3 h0 n0 hp lFA hlo hhi F_f F_m F_t F_b
  · rw [own_s_3_4]
    exact rmT_3_4 l Z a0 hw ws a1 p2 p3 h0 n0 hp lFA hlo hhi F_f F_m F_t F_b
  · rw [own_s_4_4]
    exact rmT_4_4 l Z a0 hw ws a1 p2 p3 h0 n0 hp lFA hlo hhi F_f F_m F_t F_b
theorem own_k0 : (0 : Int32).toInt = 0 := rfl
theorem own_k1 : (1 : Int32).toInt = 1 := rfl
theorem own_k2 : (2 : Int32).toInt = 2 := rfl
theorem own_k3 : (3 : Int32).toInt = 3 := rfl
theorem own_p3i {v : Int32} (h : 0 ≤ v.toInt ∧ v.toInt ≤ 2) : own_p3 v := by
  unfold own_p3
  simp only [← Int32.toInt_inj, own_k0, own_k1, own_k2]
  omega
theorem own_ip3 {v : Int32} (h : own_p3 v) : 0 ≤ v.toInt ∧ v.toInt ≤ 2 := by rcases h with rfl | rfl | rfl <;> decide
theorem own_minI {x v : Int32} (h : f1 (2 : Int32) x = v) : (x.toInt < 2 → v.toInt = x.toInt) ∧ (2 ≤ x.toInt → v.toInt = 2) := by
  rw [f1] at h
  simp only [Int32.lt_iff_toInt_lt, own_k2] at h
  split at h
  · subst h; exact ⟨fun _ => rfl, fun _ => by omega⟩
  · subst h; exact ⟨fun _ => by omega, fun _ => own_k2⟩
theorem own_vp0 {x v : Int32} (h : f1 (2 : Int32) (x &&& (3 : Int32)) = v) : own_p3 v := by
  have a := c_and x 3 (by decide)
  have b := own_minI h
  rw [own_k3] at a
  exact own_p3i (by omega)
theorem own_vps {x v w : Int32} (hv : own_p3 v) (h : f1 (2 : Int32) (v + (x &&& (1 : Int32))) = w) : own_p3 w ∧ (w = v ∨ w = v + 1) := by
  have a := c_and x 1 (by decide)
  have b := own_minI h
  rw [own_k1] at a
  have i := own_ip3 hv
  have s1 := c_iadd v (x &&& 1)
  have s2 := c_iadd v 1
  have b1 := Int32.le_toInt (v + (x &&& 1))
  have b2 := Int32.toInt_lt (v + (x &&& 1))
  have b3 := Int32.le_toInt (v + 1)
  have b4 := Int32.toInt_lt (v + 1)
  rw [own_k1] at s2
  refine ⟨own_p3i (by omega), ?_⟩
  simp only [← Int32.toInt_inj]
  omega
theorem own_ppz {x v : Int32} (h : ((x &&& (2147483647 : Int32)) % (3 : Int32)) = v) : own_p3 v := by
  have a1 : (x &&& (2147483647 : Int32)).toInt = x.toInt % 2147483648 := c_mask x _ 31 (by decide) (by decide)
  have a2 := (c_irem (x &&& (2147483647 : Int32)) 3 3 rfl).1 (by omega)
  rw [h] at a2
  exact own_p3i (by omega)
def own_grp (q0 q1 q2 q3 p lo hi : Int32) : Prop := own_lh lo hi ∧ (q0 = p ↔ lo ≤ 0 ∧ 0 < hi) ∧ (q1 = p ↔ lo ≤ 1 ∧ 1 < hi) ∧ (q2 = p ↔ lo ≤ 2 ∧ 2 < hi) ∧ (q3 = p ↔ lo ≤ 3 ∧ 3 < hi)
set_option maxRecDepth 65536 in
set_option maxHeartbeats 4000000 in
theorem own_group {q0 q1 q2 q3 p : Int32} (h0 : own_p3 q0) (h1 : own_p3 q1) (h2 : own_p3 q2) (h3 : own_p3 q3) (s1 : q1 = q0 ∨ q1 = q0 + 1) (s2 : q2 = q1 ∨ q2 = q1 + 1) (s3 : q3 = q2 ∨ q3 = q2 + 1) (hp : own_p3 p) :
    own_grp q0 q1 q2 q3 p ((own_first q0 q1 q2 q3).getD (p).toNatClampNeg 0) ((own_first q0 q1 q2 q3).getD ((p + (1 : Int32))).toNatClampNeg 0) := by
  unfold own_grp own_lh
  rcases h0 with rfl | rfl | rfl <;> rcases h1 with rfl | rfl | rfl <;> (first | (exfalso; revert s1; decide) | skip) <;> clear s1 <;> rcases h2 with rfl | rfl | rfl <;> (first | (exfalso; revert s2; decide) | skip) <;> clear s2 <;> rcases h3 with rfl | rfl | rfl <;> (first | (exfalso; revert s3; decide) | skip) <;> clear s3 <;> rcases hp with rfl | rfl | rfl <;> decide
theorem own_and7 {x v : Int32} (h : (x &&& (7 : Int32)) = v) : 0 ≤ v.toInt ∧ v.toInt ≤ 7 := by
  have a := c_and x 7 (by decide)
  rw [h] at a
  exact a
theorem own_off {a b o u w n : Int32} {B : Int} (ho : 0 ≤ o.toInt ∧ o.toInt ≤ B) (hB : 7 ≤ B ∧ B ≤ 100) (h : n = (if a = b then ((o + (1 : Int32)) + (u &&& (1 : Int32))) else (w &&& (7 : Int32)))) : (0 ≤ n.toInt ∧ n.toInt ≤ B + 2) ∧ (a = b → o.toInt < n.toInt) := by
  have a1 := c_and u 1 (by decide)
  have a2 := c_and w 7 (by decide)
  have e7 : (7 : Int32).toInt = 7 := rfl
  rw [own_k1] at a1
  have s1 := c_iadd o 1
  have s2 := c_iadd (o + 1) (u &&& 1)
  rw [own_k1] at s1
  have b1 := Int32.le_toInt (o + 1)
  have b2 := Int32.toInt_lt (o + 1)
  have b3 := Int32.le_toInt (o + 1 + (u &&& 1))
  have b4 := Int32.toInt_lt (o + 1 + (u &&& 1))
  split at h
  · subst h
    exact ⟨⟨by omega, by omega⟩, fun _ => by omega⟩
  · rename_i q
    subst h
    exact ⟨⟨by omega, by omega⟩, fun k => absurd k q⟩
theorem own_mk {z o v : Int32} (hz : z.toInt ≤ 2147483631) (ho : 0 ≤ o.toInt ∧ o.toInt ≤ 13) (h : (z + o) = v) : v.toInt = z.toInt + o.toInt := by
  have s1 := c_iadd z o
  rw [h] at s1
  have b1 := Int32.le_toInt z
  have b3 := Int32.le_toInt v
  have b4 := Int32.toInt_lt v
  omega
theorem own_mono {p1 z3 v12 z15 z18 z21 v5 v7 v9 v11 x u1 u2 u3 w1 w2 w3 v23 v25 v27 v29 : Int32} (hz3 : z3 = (if (2147483631 : Int32) < p1 then (2147483631 : Int32) else p1)) (h0 : (x &&& (7 : Int32)) = v12)
    (h1 : z15 = (if v7 = v5 then ((v12 + (1 : Int32)) + (u1 &&& (1 : Int32))) else (w1 &&& (7 : Int32)))) (h2 : z18 = (if v9 = v7 then ((z15 + (1 : Int32)) + (u2 &&& (1 : Int32))) else (w2 &&& (7 : Int32)))) (h3 : z21 = (if v11 = v9 then ((z18 + (1 : Int32)) + (u3 &&& (1 : Int32))) else (w3 &&& (7 : Int32))))
    (g0 : (z3 + v12) = v23) (g1 : (z3 + z15) = v25) (g2 : (z3 + z18) = v27) (g3 : (z3 + z21) = v29) : (v7 = v5 → v23 < v25) ∧ (v9 = v7 → v25 < v27) ∧ (v11 = v9 → v27 < v29) := by
  have e : (2147483631 : Int32).toInt = 2147483631 := rfl
  have hz : z3.toInt ≤ 2147483631 := by
    split at hz3
    · subst hz3; omega
    · rename_i q
      rw [Int32.lt_iff_toInt_lt] at q
      subst hz3; omega
  have a0 := own_and7 h0
  obtain ⟨a1, m1⟩ := own_off (B := 7) a0 ⟨by decide, by decide⟩ h1
  obtain ⟨a2, m2⟩ := own_off (B := 9) ⟨a1.1, by omega⟩ ⟨by decide, by decide⟩ h2
  obtain ⟨a3, m3⟩ := own_off (B := 11) ⟨a2.1, by omega⟩ ⟨by decide, by decide⟩ h3
  have k0 := own_mk hz ⟨a0.1, by omega⟩ g0
  have k1 := own_mk hz ⟨a1.1, by omega⟩ g1
  have k2 := own_mk hz ⟨a2.1, by omega⟩ g2
  have k3 := own_mk hz ⟨a3.1, by omega⟩ g3
  simp only [Int32.lt_iff_toInt_lt]
  exact ⟨fun k => by have := m1 k; omega, fun k => by have := m2 k; omega, fun k => by have := m3 k; omega⟩
set_option maxHeartbeats 4000000 in
theorem own_final {q0 q1 q2 q3 p lo hi q m0 m1 m2 m3 e0 e1 e2 e3 : Int32} (hg : own_grp q0 q1 q2 q3 p lo hi) (hm : (q1 = q0 → m0 < m1) ∧ (q2 = q1 → m1 < m2) ∧ (q3 = q2 → m2 < m3))
    (h0 : e0 = (if q0 = p then (if m0 = q then (0 : Int32) else (-1 : Int32)) else (-1 : Int32))) (h1 : e1 = (if q1 = p then (if m1 = q then (1 : Int32) else e0) else e0)) (h2 : e2 = (if q2 = p then (if m2 = q then (2 : Int32) else e1) else e1)) (h3 : e3 = (if q3 = p then (if m3 = q then (3 : Int32) else e2) else e2)) : own_search lo hi q m0 m1 m2 m3 = e3 := by
  obtain ⟨hc, g0, g1, g2, g3⟩ := hg
  obtain ⟨s1, s2, s3⟩ := hm
  have t1 : q0 = p → q1 = p → m0.toInt < m1.toInt := fun a b => Int32.lt_iff_toInt_lt.mp (s1 (b.trans a.symm))
  have t2 : q1 = p → q2 = p → m1.toInt < m2.toInt := fun a b => Int32.lt_iff_toInt_lt.mp (s2 (b.trans a.symm))
  have t3 : q2 = p → q3 = p → m2.toInt < m3.toInt := fun a b => Int32.lt_iff_toInt_lt.mp (s3 (b.trans a.symm))
  simp only [g0, g1, g2, g3] at h0 h1 h2 h3 t1 t2 t3
  clear g0 g1 g2 g3 s1 s2 s3
  rcases hc with ⟨rfl, rfl⟩ | ⟨rfl, rfl⟩ | ⟨rfl, rfl⟩ | ⟨rfl, rfl⟩ | ⟨rfl, rfl⟩ | ⟨rfl, rfl⟩ | ⟨rfl, rfl⟩ | ⟨rfl, rfl⟩ | ⟨rfl, rfl⟩ | ⟨rfl, rfl⟩ | ⟨rfl, rfl⟩ | ⟨rfl, rfl⟩ | ⟨rfl, rfl⟩ | ⟨rfl, rfl⟩ | ⟨rfl, rfl⟩
  all_goals
    (try simp +decide only [true_and, and_true, and_self, if_true, if_false, true_implies, false_implies, implies_true] at h0)
    (try simp +decide only [true_and, and_true, and_self, if_true, if_false, true_implies, false_implies, implies_true] at h1)
    (try simp +decide only [true_and, and_true, and_self, if_true, if_false, true_implies, false_implies, implies_true] at h2)
    (try simp +decide only [true_and, and_true, and_self, if_true, if_false, true_implies, false_implies, implies_true] at h3)
    (try simp +decide only [true_and, and_true, and_self, if_true, if_false, true_implies, false_implies, implies_true] at t1)
    (try simp +decide only [true_and, and_true, and_self, if_true, if_false, true_implies, false_implies, implies_true] at t2)
    (try simp +decide only [true_and, and_true, and_self, if_true, if_false, true_implies, false_implies, implies_true] at t3)
    subst h3 h2 h1 h0
    first
    | (simp +decide only [own_search, and_self, if_true, if_false, t_0_0, t_0_1, t_0_2, t_0_3, t_0_4, t_1_1, t_1_2, t_1_3, t_1_4, t_2_2, t_2_3, t_2_4, t_3_3, t_3_4, t_4_4]; done)
    | (simp +decide only [own_search, and_self, if_true, if_false, t_0_0, t_0_1, t_0_2, t_0_3, t_0_4, t_1_1, t_1_2, t_1_3, t_1_4, t_2_2, t_2_3, t_2_4, t_3_3, t_3_4, t_4_4]
       (try simp only [Int32.lt_iff_toInt_lt, ← Int32.toInt_inj])
       (repeat' split) <;> first | rfl | omega)

def Q0 (n0 : Nat) (v : Option Value) (h : Heap) (L : List Loc) : Prop := v = some (.int (1 : Int32)) ∧ Fr n0 L
theorem pd_0_0 : parseMethodDescriptor "(II)I" = some ⟨[.int, .int], some .int⟩ := by decide +kernel
theorem pd_0_1 : parseMethodDescriptor "(I[I[I[I[I[IIIII)V" = some ⟨[.int, (.array .int), (.array .int), (.array .int), (.array .int), (.array .int), .int, .int, .int, .int], none⟩ := by decide +kernel
theorem pn_0 : plainName "com/example/junctura/junctura/conformance/OptimalPathsStatePinLaw" = true := by first | (simp [plainName, overriddenIn]; done) | decide +kernel
theorem ef_0 (m : MethodId) (x0 : Int32) (x1 : Int32) (x2 : Int32) (x3 : Int32) : entryFrame m #[(.int x0), (.int x1), (.int x2), (.int x3)] maxLocals = mkF m 0 #[.val (.int x0), .val (.int x1), .val (.int x2), .val (.int x3), .unset, .unset, .unset, .unset, .unset, .unset, .unset, .unset, .unset, .unset, .unset, .unset, .unset, .unset, .unset] [] := by first | (simp [entryFrame, mkF, argsToLocals, Value.category, maxLocals]; done) | rfl
set_option maxRecDepth 65536 in
set_option maxHeartbeats 40000000 in
theorem rm0 (l : Launch) (Z : State) (a0 : Array Value) (hw : ∀ d ∈ tables_1, d.before a0 Z = true) (ws : List Jvm.Cond) (p1 : Int32) (p2 : Int32) (p3 : Int32) (p4 : Int32) (h0 : Heap) (n0 : Nat) (Z0 : n0 ≤ h0.size) :
    MetFree l x (head1 (Jvm.Cond.code x code maxLocals ret :: ws) room_1) (fun a U => a = #[(.int p1), (.int p2), (.int p3), (.int p4)] ∧ Z.Warmed39 U.vm ∧ U.heap = h0) (fun _ _ _ _ _ => True) (fun _ U o U' => ∃ v L, o = .returned v ∧ (Q0 n0) v U'.heap L ∧ FrameEnd U o U' L room_1.cells room_1.slots) := by
  refine own_met (plainFor_of_name pn_0) (fun m => ef_0 m p1 p2 p3 p4) ?_
  intro p e s m below meth c T0 hx hby hml hown hnm hret hlk hZ X0 e0
  have hown : s.vm.findClass "com/example/junctura/junctura/conformance/OptimalPathsStatePinLaw" = some m.cls := hown
  have hnm : meth.name = "law" := hnm
  have hret : meth.sig.returnType = some .boolean := hret
  have N0 := Fr.nil n0
  show Go p e below _ (T0.setTop (mkF m 0 #[.val (.int p1), .val (.int p2), .val (.int p3), .val (.int p4), .unset, .unset, .unset, .unset, .unset, .unset, .unset, .unset, .unset, .unset, .unset, .unset, .unset, .unset, .unset] []))
  refine go (fun _ q => XS.iloadN X0.here hx rfl (hb hby at_0) rfl q) ?_
  show Go p e below _ (T0.setTop (mkF m 1 #[.val (.int p1), .val (.int p2), .val (.int p3), .val (.int p4), .unset, .unset, .unset, .unset, .unset, .unset, .unset, .unset, .unset, .unset, .unset, .unset, .unset, .unset, .unset] [(.int p1)]))
  refine go (X0.ldcInt hx hown (mvT hZ (hw _ (List.mem_of_getElem? (i := 0) rfl))) (g := (mkF m 1 #[.val (.int p1), .val (.int p2), .val (.int p3), .val (.int p4), .unset, .unset, .unset, .unset, .unset, .unset, .unset, .unset, .unset, .unset, .unset, .unset, .unset, .unset, .unset] [(.int p1)])) rfl (hb hby at_1)) ?_
  show Go p e below _ (T0.setTop (mkF m 3 #[.val (.int p1), .val (.int p2), .val (.int p3), .val (.int p4), .unset, .unset, .unset, .unset, .unset, .unset, .unset, .unset, .unset, .unset, .unset, .unset, .unset, .unset, .unset] [(.int (2147483631 : Int32)), (.int p1)]))
  suffices hj1 : ∀ (z3 : Int32), z3 = (if (2147483631 : Int32) < p1 then (2147483631 : Int32) else p1) → Go p e below (Dn below s ((Q0 n0)) room_1.cells room_1.slots) (T0.setTop (mkF m 12 #[.val (.int p1), .val (.int p2), .val (.int p3), .val (.int p4), .unset, .unset, .unset, .unset, .unset, .unset, .unset, .unset, .unset, .unset, .unset, .unset, .unset, .unset, .unset] [(.int z3)])) by
    by_cases hc2 : (2147483631 : Int32) < p1
    · refine go (fun _ q => XS.icmpNo X0.here hx rfl (hb hby at_3) rfl (tlt hc2).2.2.2 q) ?_
      show Go p e below _ (T0.setTop (mkF m 6 #[.val (.int p1), .val (.int p2), .val (.int p3), .val (.int p4), .unset, .unset, .unset, .unset, .unset, .unset, .unset, .unset, .unset, .unset, .unset, .unset, .unset, .unset, .unset] []))
      refine go (X0.ldcInt hx hown (mvT hZ (hw _ (List.mem_of_getElem? (i := 0) rfl))) (g := (mkF m 6 #[.val (.int p1), .val (.int p2), .val (.int p3), .val (.int p4), .unset, .unset, .unset, .unset, .unset, .unset, .unset, .unset, .unset, .unset, .unset, .unset, .unset, .unset, .unset] [])) rfl (hb hby at_6)) ?_
      show Go p e below _ (T0.setTop (mkF m 8 #[.val (.int p1), .val (.int p2), .val (.int p3), .val (.int p4), .unset, .unset, .unset, .unset, .unset, .unset, .unset, .unset, .unset, .unset, .unset, .unset, .unset, .unset, .unset] [(.int (2147483631 : Int32))]))
      refine go (fun _ q => XS.goto X0.here hx rfl (pc0 := 8) (pc' := 12) rfl (hb hby at_8) (by decide) (by decide) q) ?_
      show Go p e below _ (T0.setTop (mkF m 12 #[.val (.int p1), .val (.int p2), .val (.int p3), .val (.int p4), .unset, .unset, .unset, .unset, .unset, .unset, .unset, .unset, .unset, .unset, .unset, .unset, .unset, .unset, .unset] [(.int (2147483631 : Int32))]))
      exact hj1 _ (by rw [if_pos hc2])
    · refine go (fun _ q => XS.icmpYes X0.here hx rfl (pc0 := 3) (pc' := 11) rfl (hb hby at_3) rfl (flt hc2).2.2.2 (by decide) (by decide) q) ?_
      show Go p e below _ (T0.setTop (mkF m 11 #[.val (.int p1), .val (.int p2), .val (.int p3), .val (.int p4), .unset, .unset, .unset, .unset, .unset, .unset, .unset, .unset, .unset, .unset, .unset, .unset, .unset, .unset, .unset] []))
      refine go (fun _ q => XS.iloadN X0.here hx rfl (hb hby at_11) rfl q) ?_
      show Go p e below _ (T0.setTop (mkF m 12 #[.val (.int p1), .val (.int p2), .val (.int p3), .val (.int p4), .unset, .unset, .unset, .unset, .unset, .unset, .unset, .unset, .unset, .unset, .unset, .unset, .unset, .unset, .unset] [(.int p1)]))
      exact hj1 _ (by rw [if_neg hc2])
  intro z3 hz3
  show Go p e below _ (T0.setTop (mkF m 12 #[.val (.int p1), .val (.int p2), .val (.int p3), .val (.int p4), .unset, .unset, .unset, .unset, .unset, .unset, .unset, .unset, .unset, .unset, .unset, .unset, .unset, .unset, .unset] [(.int z3)]))
  refine go (fun _ q => XS.istore X0.here hx rfl (hb hby at_12) rfl (l' := #[.val (.int p1), .val (.int p2), .val (.int p3), .val (.int p4), .val (.int z3), .unset, .unset, .unset, .unset, .unset, .unset, .unset, .unset, .unset, .unset, .unset, .unset, .unset, .unset]) rfl q) ?_
  show Go p e below _ (T0.setTop (mkF m 14 #[.val (.int p1), .val (.int p2), .val (.int p3), .val (.int p4), .val (.int z3), .unset, .unset, .unset, .unset, .unset, .unset, .unset, .unset, .unset, .unset, .unset, .unset, .unset, .unset] []))
  refine go (fun _ q => XS.iconst X0.here hx rfl (hb hby at_14) q) ?_
  show Go p e below _ (T0.setTop (mkF m 15 #[.val (.int p1), .val (.int p2), .val (.int p3), .val (.int p4), .val (.int z3), .unset, .unset, .unset, .unset, .unset, .unset, .unset, .unset, .unset, .unset, .unset, .unset, .unset, .unset] [(.int (2 : Int32))]))
  refine go (fun _ q => XS.iloadN X0.here hx rfl (hb hby at_15) rfl q) ?_
  show Go p e below _ (T0.setTop (mkF m 16 #[.val (.int p1), .val (.int p2), .val (.int p3), .val (.int p4), .val (.int z3), .unset, .unset, .unset, .unset, .unset, .unset, .unset, .unset, .unset, .unset, .unset, .unset, .unset, .unset] [(.int p2), (.int (2 : Int32))]))
  refine go (fun _ q => XS.iconst X0.here hx rfl (hb hby at_16) q) ?_
  show Go p e below _ (T0.setTop (mkF m 17 #[.val (.int p1), .val (.int p2), .val (.int p3), .val (.int p4), .val (.int z3), .unset, .unset, .unset, .unset, .unset, .unset, .unset, .unset, .unset, .unset, .unset, .unset, .unset, .unset] [(.int (3 : Int32)), (.int p2), (.int (2 : Int32))]))
  refine go (fun _ q => XS.iushr X0.here hx rfl (hb hby at_17) rfl q) ?_
  show Go p e below _ (T0.setTop (mkF m 18 #[.val (.int p1), .val (.int p2), .val (.int p3), .val (.int p4), .val (.int z3), .unset, .unset, .unset, .unset, .unset, .unset, .unset, .unset, .unset, .unset, .unset, .unset, .unset, .unset] [(.int (((p2).toUInt32 >>> ((3 : Int32) &&& 31).toUInt32).toInt32)), (.int (2 : Int32))]))
  refine go (fun _ q => XS.iconst X0.here hx rfl (hb hby at_18) q) ?_
  show Go p e below _ (T0.setTop (mkF m 19 #[.val (.int p1), .val (.int p2), .val (.int p3), .val (.int p4), .val (.int z3), .unset, .unset, .unset, .unset, .unset, .unset, .unset, .unset, .unset, .unset, .unset, .unset, .unset, .unset] [(.int (3 : Int32)), (.int (((p2).toUInt32 >>> ((3 : Int32) &&& 31).toUInt32).toInt32)), (.int (2 : Int32))]))
  refine go (fun _ q => XS.iand X0.here hx rfl (hb hby at_19) rfl q) ?_
  show Go p e below _ (T0.setTop (mkF m 20 #[.val (.int p1), .val (.int p2), .val (.int p3), .val (.int p4), .val (.int z3), .unset, .unset, .unset, .unset, .unset, .unset, .unset, .unset, .unset, .unset, .unset, .unset, .unset, .unset] [(.int ((((p2).toUInt32 >>> ((3 : Int32) &&& 31).toUInt32).toInt32) &&& (3 : Int32))), (.int (2 : Int32))]))
  refine own_callS X0 hx hZ hown e0 (hw _ (List.mem_of_getElem? (i := 1) rfl)) (hw _ (List.mem_of_getElem? (i := 2) rfl)) (hw _ (List.mem_of_getElem? (i := 3) rfl)) (hw _ (List.mem_of_getElem? (i := 4) rfl)) (rm1 l Z a0 hw [] (2 : Int32) ((((p2).toUInt32 >>> ((3 : Int32) &&& 31).toUInt32).toInt32) &&& (3 : Int32)) h0 n0) (by decide) (by decide) (W := 0) (by decide) (by decide) (by decide) (g := (mkF m 20 #[.val (.int p1), .val (.int p2), .val (.int p3), .val (.int p4), .val (.int z3), .unset, .unset, .unset, .unset, .unset, .unset, .unset, .unset, .unset, .unset, .unset, .unset, .unset, .unset] [(.int ((((p2).toUInt32 >>> ((3 : Int32) &&& 31).toUInt32).toInt32) &&& (3 : Int32))), (.int (2 : Int32))])) rfl (by rw [hml]; rfl) (argsL := [(.int (2 : Int32)), (.int ((((p2).toUInt32 >>> ((3 : Int32) &&& 31).toUInt32).toInt32) &&& (3 : Int32)))]) (rest := []) rfl rfl (lenOf pd_0_0 rfl) (by show 2 * 0 + _ ≤ _; exact Nat.le_of_eq rfl) (hb hby at_20) ?_
  rintro _ T4 L4 X4 ⟨rfl, N4q, e4⟩
  have N4 := Fr.app N0 N4q
  show Go p e below _ (T4.setTop (mkF m 23 #[.val (.int p1), .val (.int p2), .val (.int p3), .val (.int p4), .val (.int z3), .unset, .unset, .unset, .unset, .unset, .unset, .unset, .unset, .unset, .unset, .unset, .unset, .unset, .unset] [(.int (f1 (2 : Int32) ((((p2).toUInt32 >>> ((3 : Int32) &&& 31).toUInt32).toInt32) &&& (3 : Int32))))]))
  generalize hv5 : (f1 (2 : Int32) ((((p2).toUInt32 >>> ((3 : Int32) &&& 31).toUInt32).toInt32) &&& (3 : Int32))) = v5
  show Go p e below _ (T4.setTop (mkF m 23 #[.val (.int p1), .val (.int p2), .val (.int p3), .val (.int p4), .val (.int z3), .unset, .unset, .unset, .unset, .unset, .unset, .unset, .unset, .unset, .unset, .unset, .unset, .unset, .unset] [(.int v5)]))
  refine go (fun _ q => XS.istore X4.here hx rfl (hb hby at_23) rfl (l' := #[.val (.int p1), .val (.int p2), .val (.int p3), .val (.int p4), .val (.int z3), .val (.int v5), .unset, .unset, .unset, .unset, .unset, .unset, .unset, .unset, .unset, .unset, .unset, .unset, .unset]) rfl q) ?_
  show Go p e below _ (T4.setTop (mkF m 25 #[.val (.int p1), .val (.int p2), .val (.int p3), .val (.int p4), .val (.int z3), .val (.int v5), .unset, .unset, .unset, .unset, .unset, .unset, .unset, .unset, .unset, .unset, .unset, .unset, .unset] []))
  refine go (fun _ q => XS.iconst X4.here hx rfl (hb hby at_25) q) ?_
  show Go p e below _ (T4.setTop (mkF m 26 #[.val (.int p1), .val (.int p2), .val (.int p3), .val (.int p4), .val (.int z3), .val (.int v5), .unset, .unset, .unset, .unset, .unset, .unset, .unset, .unset, .unset, .unset, .unset, .unset, .unset] [(.int (2 : Int32))]))
  refine go (fun _ q => XS.iload X4.here hx rfl (hb hby at_26) rfl q) ?_
  show Go p e below _ (T4.setTop (mkF m 28 #[.val (.int p1), .val (.int p2), .val (.int p3), .val (.int p4), .val (.int z3), .val (.int v5), .unset, .unset, .unset, .unset, .unset, .unset, .unset, .unset, .unset, .unset, .unset, .unset, .unset] [(.int v5), (.int (2 : Int32))]))
  refine go (fun _ q => XS.iloadN X4.here hx rfl (hb hby at_28) rfl q) ?_
  show Go p e below _ (T4.setTop (mkF m 29 #[.val (.int p1), .val (.int p2), .val (.int p3), .val (.int p4), .val (.int z3), .val (.int v5), .unset, .unset, .unset, .unset, .unset, .unset, .unset, .unset, .unset, .unset, .unset, .unset, .unset] [(.int p2), (.int v5), (.int (2 : Int32))]))
  refine go (fun _ q => XS.iconst X4.here hx rfl (hb hby at_29) q) ?_
  show Go p e below _ (T4.setTop (mkF m 30 #[.val (.int p1), .val (.int p2), .val (.int p3), .val (.int p4), .val (.int z3), .val (.int v5), .unset, .unset, .unset, .unset, .unset, .unset, .unset, .unset, .unset, .unset, .unset, .unset, .unset] [(.int (1 : Int32)), (.int p2), (.int v5), (.int (2 : Int32))]))
  refine go (fun _ q => XS.iand X4.here hx rfl (hb hby at_30) rfl q) ?_
  show Go p e below _ (T4.setTop (mkF m 31 #[.val (.int p1), .val (.int p2), .val (.int p3), .val (.int p4), .val (.int z3), .val (.int v5), .unset, .unset, .unset, .unset, .unset, .unset, .unset, .unset, .unset, .unset, .unset, .unset, .unset] [(.int (p2 &&& (1 : Int32))), (.int v5), (.int (2 : Int32))]))
  refine go (fun _ q => XS.iadd X4.here hx rfl (hb hby at_31) rfl q) ?_
  show Go p e below _ (T4.setTop (mkF m 32 #[.val (.int p1), .val (.int p2), .val (.int p3), .val (.int p4), .val (.int z3), .val (.int v5), .unset, .unset, .unset, .unset, .unset, .unset, .unset, .unset, .unset, .unset, .unset, .unset, .unset] [(.int (v5 + (p2 &&& (1 : Int32)))), (.int (2 : Int32))]))
  refine own_callS X4 hx hZ hown e4 (hw _ (List.mem_of_getElem? (i := 1) rfl)) (hw _ (List.mem_of_getElem? (i := 2) rfl)) (hw _ (List.mem_of_getElem? (i := 3) rfl)) (hw _ (List.mem_of_getElem? (i := 4) rfl)) (rm1 l Z a0 hw [] (2 : Int32) (v5 + (p2 &&& (1 : Int32))) h0 n0) (by decide) (by decide) (W := 0) (by decide) (by decide) (by decide) (g := (mkF m 32 #[.val (.int p1), .val (.int p2), .val (.int p3), .val (.int p4), .val (.int z3), .val (.int v5), .unset, .unset, .unset, .unset, .unset, .unset, .unset, .unset, .unset, .unset, .unset, .unset, .unset] [(.int (v5 + (p2 &&& (1 : Int32)))), (.int (2 : Int32))])) rfl (by rw [hml]; rfl) (argsL := [(.int (2 : Int32)), (.int (v5 + (p2 &&& (1 : Int32))))]) (rest := []) rfl rfl (lenOf pd_0_0 rfl) (by show 2 * 0 + _ ≤ _; exact Nat.le_of_eq rfl) (hb hby at_32) ?_
  rintro _ T6 L6 X6 ⟨rfl, N6q, e6⟩
  have N6 := Fr.app N4 N6q
  show Go p e below _ (T6.setTop (mkF m 35 #[.val (.int p1), .val (.int p2), .val (.int p3), .val (.int p4), .val (.int z3), .val (.int v5), .unset, .unset, .unset, .unset, .unset, .unset, .unset, .unset, .unset, .unset, .unset, .unset, .unset] [(.int (f1 (2 : Int32) (v5 + (p2 &&& (1 : Int32)))))]))
  generalize hv7 : (f1 (2 : Int32) (v5 + (p2 &&& (1 : Int32)))) = v7
  show Go p e below _ (T6.setTop (mkF m 35 #[.val (.int p1), .val (.int p2), .val (.int p3), .val (.int p4), .val (.int z3), .val (.int v5), .unset, .unset, .unset, .unset, .unset, .unset, .unset, .unset, .unset, .unset, .unset, .unset, .unset] [(.int v7)]))
  refine go (fun _ q => XS.istore X6.here hx rfl (hb hby at_35) rfl (l' := #[.val (.int p1), .val (.int p2), .val (.int p3), .val (.int p4), .val (.int z3), .val (.int v5), .val (.int v7), .unset, .unset, .unset, .unset, .unset, .unset, .unset, .unset, .unset, .unset, .unset, .unset]) rfl q) ?_
  show Go p e below _ (T6.setTop (mkF m 37 #[.val (.int p1), .val (.int p2), .val (.int p3), .val (.int p4), .val (.int z3), .val (.int v5), .val (.int v7), .unset, .unset, .unset, .unset, .unset, .unset, .unset, .unset, .unset, .unset, .unset, .unset] []))
  refine go (fun _ q => XS.iconst X6.here hx rfl (hb hby at_37) q) ?_
  show Go p e below _ (T6.setTop (mkF m 38 #[.val (.int p1), .val (.int p2), .val (.int p3), .val (.int p4), .val (.int z3), .val (.int v5), .val (.int v7), .unset, .unset, .unset, .unset, .unset, .unset, .unset, .unset, .unset, .unset, .unset, .unset] [(.int (2 : Int32))]))
  refine go (fun _ q => XS.iload X6.here hx rfl (hb hby at_38) rfl q) ?_
  show Go p e below _ (T6.setTop (mkF m 40 #[.val (.int p1), .val (.int p2), .val (.int p3), .val (.int p4), .val (.int z3), .val (.int v5), .val (.int v7), .unset, .unset, .unset, .unset, .unset, .unset, .unset, .unset, .unset, .unset, .unset, .unset] [(.int v7), (.int (2 : Int32))]))
  refine go (fun _ q => XS.iloadN X6.here hx rfl (hb hby at_40) rfl q) ?_
  show Go p e below _ (T6.setTop (mkF m 41 #[.val (.int p1), .val (.int p2), .val (.int p3), .val (.int p4), .val (.int z3), .val (.int v5), .val (.int v7), .unset, .unset, .unset, .unset, .unset, .unset, .unset, .unset, .unset, .unset, .unset, .unset] [(.int p2), (.int v7), (.int (2 : Int32))]))
  refine go (fun _ q => XS.iconst X6.here hx rfl (hb hby at_41) q) ?_
  show Go p e below _ (T6.setTop (mkF m 42 #[.val (.int p1), .val (.int p2), .val (.int p3), .val (.int p4), .val (.int z3), .val (.int v5), .val (.int v7), .unset, .unset, .unset, .unset, .unset, .unset, .unset, .unset, .unset, .unset, .unset, .unset] [(.int (1 : Int32)), (.int p2), (.int v7), (.int (2 : Int32))]))
  refine go (fun _ q => XS.iushr X6.here hx rfl (hb hby at_42) rfl q) ?_
  show Go p e below _ (T6.setTop (mkF m 43 #[.val (.int p1), .val (.int p2), .val (.int p3), .val (.int p4), .val (.int z3), .val (.int v5), .val (.int v7), .unset, .unset, .unset, .unset, .unset, .unset, .unset, .unset, .unset, .unset, .unset, .unset] [(.int (((p2).toUInt32 >>> ((1 : Int32) &&& 31).toUInt32).toInt32)), (.int v7), (.int (2 : Int32))]))
  refine go (fun _ q => XS.iconst X6.here hx rfl (hb hby at_43) q) ?_
  show Go p e below _ (T6.setTop (mkF m 44 #[.val (.int p1), .val (.int p2), .val (.int p3), .val (.int p4), .val (.int z3), .val (.int v5), .val (.int v7), .unset, .unset, .unset, .unset, .unset, .unset, .unset, .unset, .unset, .unset, .unset, .unset] [(.int (1 : Int32)), (.int (((p2).toUInt32 >>> ((1 : Int32) &&& 31).toUInt32).toInt32)), (.int v7), (.int (2 : Int32))]))
  refine go (fun _ q => XS.iand X6.here hx rfl (hb hby at_44) rfl q) ?_
  show Go p e below _ (T6.setTop (mkF m 45 #[.val (.int p1), .val (.int p2), .val (.int p3), .val (.int p4), .val (.int z3), .val (.int v5), .val (.int v7), .unset, .unset, .unset, .unset, .unset, .unset, .unset, .unset, .unset, .unset, .unset, .unset] [(.int ((((p2).toUInt32 >>> ((1 : Int32) &&& 31).toUInt32).toInt32) &&& (1 : Int32))), (.int v7), (.int (2 : Int32))]))
  refine go (fun _ q => XS.iadd X6.here hx rfl (hb hby at_45) rfl q) ?_
  show Go p e below _ (T6.setTop (mkF m 46 #[.val (.int p1), .val (.int p2), .val (.int p3), .val (.int p4), .val (.int z3), .val (.int v5), .val (.int v7), .unset, .unset, .unset, .unset, .unset, .unset, .unset, .unset, .unset, .unset, .unset, .unset] [(.int (v7 + ((((p2).toUInt32 >>> ((1 : Int32) &&& 31).toUInt32).toInt32) &&& (1 : Int32)))), (.int (2 : Int32))]))
  refine own_callS X6 hx hZ hown e6 (hw _ (List.mem_of_getElem? (i := 1) rfl)) (hw _ (List.mem_of_getElem? (i := 2) rfl)) (hw _ (List.mem_of_getElem? (i := 3) rfl)) (hw _ (List.mem_of_getElem? (i := 4) rfl)) (rm1 l Z a0 hw [] (2 : Int32) (v7 + ((((p2).toUInt32 >>> ((1 : Int32) &&& 31).toUInt32).toInt32) &&& (1 : Int32))) h0 n0) (by decide) (by decide) (W := 0) (by decide) (by decide) (by decide) (g := (mkF m 46 #[.val (.int p1), .val (.int p2), .val (.int p3), .val (.int p4), .val (.int z3), .val (.int v5), .val (.int v7), .unset, .unset, .unset, .unset, .unset, .unset, .unset, .unset, .unset, .unset, .unset, .unset] [(.int (v7 + ((((p2).toUInt32 >>> ((1 : Int32) &&& 31).toUInt32).toInt32) &&& (1 : Int32)))), (.int (2 : Int32))])) rfl (by rw [hml]; rfl) (argsL := [(.int (2 : Int32)), (.int (v7 + ((((p2).toUInt32 >>> ((1 : Int32) &&& 31).toUInt32).toInt32) &&& (1 : Int32))))]) (rest := []) rfl rfl (lenOf pd_0_0 rfl) (by show 2 * 0 + _ ≤ _; exact Nat.le_of_eq rfl) (hb hby at_46) ?_
  rintro _ T8 L8 X8 ⟨rfl, N8q, e8⟩
  have N8 := Fr.app N6 N8q
  show Go p e below _ (T8.setTop (mkF m 49 #[.val (.int p1), .val (.int p2), .val (.int p3), .val (.int p4), .val (.int z3), .val (.int v5), .val (.int v7), .unset, .unset, .unset, .unset, .unset, .unset, .unset, .unset, .unset, .unset, .unset, .unset] [(.int (f1 (2 : Int32) (v7 + ((((p2).toUInt32 >>> ((1 : Int32) &&& 31).toUInt32).toInt32) &&& (1 : Int32)))))]))
  generalize hv9 : (f1 (2 : Int32) (v7 + ((((p2).toUInt32 >>> ((1 : Int32) &&& 31).toUInt32).toInt32) &&& (1 : Int32)))) = v9
  show Go p e below _ (T8.setTop (mkF m 49 #[.val (.int p1), .val (.int p2), .val (.int p3), .val (.int p4), .val (.int z3), .val (.int v5), .val (.int v7), .unset, .unset, .unset, .unset, .unset, .unset, .unset, .unset, .unset, .unset, .unset, .unset] [(.int v9)]))
  refine go (fun _ q => XS.istore X8.here hx rfl (hb hby at_49) rfl (l' := #[.val (.int p1), .val (.int p2), .val (.int p3), .val (.int p4), .val (.int z3), .val (.int v5), .val (.int v7), .val (.int v9), .unset, .unset, .unset, .unset, .unset, .unset, .unset, .unset, .unset, .unset, .unset]) rfl q) ?_
  show Go p e below _ (T8.setTop (mkF m 51 #[.val (.int p1), .val (.int p2), .val (.int p3), .val (.int p4), .val (.int z3), .val (.int v5), .val (.int v7), .val (.int v9), .unset, .unset, .unset, .unset, .unset, .unset, .unset, .unset, .unset, .unset, .unset] []))
  refine go (fun _ q => XS.iconst X8.here hx rfl (hb hby at_51) q) ?_
  show Go p e below _ (T8.setTop (mkF m 52 #[.val (.int p1), .val (.int p2), .val (.int p3), .val (.int p4), .val (.int z3), .val (.int v5), .val (.int v7), .val (.int v9), .unset, .unset, .unset, .unset, .unset, .unset, .unset, .unset, .unset, .unset, .unset] [(.int (2 : Int32))]))
  refine go (fun _ q => XS.iload X8.here hx rfl (hb hby at_52) rfl q) ?_
  show Go p e below _ (T8.setTop (mkF m 54 #[.val (.int p1), .val (.int p2), .val (.int p3), .val (.int p4), .val (.int z3), .val (.int v5), .val (.int v7), .val (.int v9), .unset, .unset, .unset, .unset, .unset, .unset, .unset, .unset, .unset, .unset, .unset] [(.int v9), (.int (2 : Int32))]))
  refine go (fun _ q => XS.iloadN X8.here hx rfl (hb hby at_54) rfl q) ?_
  show Go p e below _ (T8.setTop (mkF m 55 #[.val (.int p1), .val (.int p2), .val (.int p3), .val (.int p4), .val (.int z3), .val (.int v5), .val (.int v7), .val (.int v9), .unset, .unset, .unset, .unset, .unset, .unset, .unset, .unset, .unset, .unset, .unset] [(.int p2), (.int v9), (.int (2 : Int32))]))
  refine go (fun _ q => XS.iconst X8.here hx rfl (hb hby at_55) q) ?_
  show Go p e below _ (T8.setTop (mkF m 56 #[.val (.int p1), .val (.int p2), .val (.int p3), .val (.int p4), .val (.int z3), .val (.int v5), .val (.int v7), .val (.int v9), .unset, .unset, .unset, .unset, .unset, .unset, .unset, .unset, .unset, .unset, .unset] [(.int (2 : Int32)), (.int p2), (.int v9), (.int (2 : Int32))]))
  refine go (fun _ q => XS.iushr X8.here hx rfl (hb hby at_56) rfl q) ?_
  show Go p e below _ (T8.setTop (mkF m 57 #[.val (.int p1), .val (.int p2), .val (.int p3), .val (.int p4), .val (.int z3), .val (.int v5), .val (.int v7), .val (.int v9), .unset, .unset, .unset, .unset, .unset, .unset, .unset, .unset, .unset, .unset, .unset] [(.int (((p2).toUInt32 >>> ((2 : Int32) &&& 31).toUInt32).toInt32)), (.int v9), (.int (2 : Int32))]))
  refine go (fun _ q => XS.iconst X8.here hx rfl (hb hby at_57) q) ?_
  show Go p e below _ (T8.setTop (mkF m 58 #[.val (.int p1), .val (.int p2), .val (.int p3), .val (.int p4), .val (.int z3), .val (.int v5), .val (.int v7), .val (.int v9), .unset, .unset, .unset, .unset, .unset, .unset, .unset, .unset, .unset, .unset, .unset] [(.int (1 : Int32)), (.int (((p2).toUInt32 >>> ((2 : Int32) &&& 31).toUInt32).toInt32)), (.int v9), (.int (2 : Int32))]))
  refine go (fun _ q => XS.iand X8.here hx rfl (hb hby at_58) rfl q) ?_
  show Go p e below _ (T8.setTop (mkF m 59 #[.val (.int p1), .val (.int p2), .val (.int p3), .val (.int p4), .val (.int z3), .val (.int v5), .val (.int v7), .val (.int v9), .unset, .unset, .unset, .unset, .unset, .unset, .unset, .unset, .unset, .unset, .unset] [(.int ((((p2).toUInt32 >>> ((2 : Int32) &&& 31).toUInt32).toInt32) &&& (1 : Int32))), (.int v9), (.int (2 : Int32))]))
  refine go (fun _ q => XS.iadd X8.here hx rfl (hb hby at_59) rfl q) ?_
  show Go p e below _ (T8.setTop (mkF m 60 #[.val (.int p1), .val (.int p2), .val (.int p3), .val (.int p4), .val (.int z3), .val (.int v5), .val (.int v7), .val (.int v9), .unset, .unset, .unset, .unset, .unset, .unset, .unset, .unset, .unset, .unset, .unset] [(.int (v9 + ((((p2).toUInt32 >>> ((2 : Int32) &&& 31).toUInt32).toInt32) &&& (1 : Int32)))), (.int (2 : Int32))]))
  refine own_callS X8 hx hZ hown e8 (hw _ (List.mem_of_getElem? (i := 1) rfl)) (hw _ (List.mem_of_getElem? (i := 2) rfl)) (hw _ (List.mem_of_getElem? (i := 3) rfl)) (hw _ (List.mem_of_getElem? (i := 4) rfl)) (rm1 l Z a0 hw [] (2 : Int32) (v9 + ((((p2).toUInt32 >>> ((2 : Int32) &&& 31).toUInt32).toInt32) &&& (1 : Int32))) h0 n0) (by decide) (by decide) (W := 0) (by decide) (by decide) (by decide) (g := (mkF m 60 #[.val (.int p1), .val (.int p2), .val (.int p3), .val (.int p4), .val (.int z3), .val (.int v5), .val (.int v7), .val (.int v9), .unset, .unset, .unset, .unset, .unset, .unset, .unset, .unset, .unset, .unset, .unset] [(.int (v9 + ((((p2).toUInt32 >>> ((2 : Int32) &&& 31).toUInt32).toInt32) &&& (1 : Int32)))), (.int (2 : Int32))])) rfl (by rw [hml]; rfl) (argsL := [(.int (2 : Int32)), (.int (v9 + ((((p2).toUInt32 >>> ((2 : Int32) &&& 31).toUInt32).toInt32) &&& (1 : Int32))))]) (rest := []) rfl rfl (lenOf pd_0_0 rfl) (by show 2 * 0 + _ ≤ _; exact Nat.le_of_eq rfl) (hb hby at_60) ?_
  rintro _ T10 L10 X10 ⟨rfl, N10q, e10⟩
  have N10 := Fr.app N8 N10q
  show Go p e below _ (T10.setTop (mkF m 63 #[.val (.int p1), .val (.int p2), .val (.int p3), .val (.int p4), .val (.int z3), .val (.int v5), .val (.int v7), .val (.int v9), .unset, .unset, .unset, .unset, .unset, .unset, .unset, .unset, .unset, .unset, .unset] [(.int (f1 (2 : Int32) (v9 + ((((p2).toUInt32 >>> ((2 : Int32) &&& 31).toUInt32).toInt32) &&& (1 : Int32)))))]))
  generalize hv11 : (f1 (2 : Int32) (v9 + ((((p2).toUInt32 >>> ((2 : Int32) &&& 31).toUInt32).toInt32) &&& (1 : Int32)))) = v11
  show Go p e below _ (T10.setTop (mkF m 63 #[.val (.int p1), .val (.int p2), .val (.int p3), .val (.int p4), .val (.int z3), .val (.int v5), .val (.int v7), .val (.int v9), .unset, .unset, .unset, .unset, .unset, .unset, .unset, .unset, .unset, .unset, .unset] [(.int v11)]))
  refine go (fun _ q => XS.istore X10.here hx rfl (hb hby at_63) rfl (l' := #[.val (.int p1), .val (.int p2), .val (.int p3), .val (.int p4), .val (.int z3), .val (.int v5), .val (.int v7), .val (.int v9), .val (.int v11), .unset, .unset, .unset, .unset, .unset, .unset, .unset, .unset, .unset, .unset]) rfl q) ?_
  show Go p e below _ (T10.setTop (mkF m 65 #[.val (.int p1), .val (.int p2), .val (.int p3), .val (.int p4), .val (.int z3), .val (.int v5), .val (.int v7), .val (.int v9), .val (.int v11), .unset, .unset, .unset, .unset, .unset, .unset, .unset, .unset, .unset, .unset] []))
  have own_v0 := own_vp0 hv5
  obtain ⟨own_v1, own_s1⟩ := own_vps own_v0 hv7
  obtain ⟨own_v2, own_s2⟩ := own_vps own_v1 hv9
  obtain ⟨own_v3, own_s3⟩ := own_vps own_v2 hv11
  refine go (fun _ q => XS.iloadN X10.here hx rfl (hb hby at_65) rfl q) ?_
  show Go p e below _ (T10.setTop (mkF m 66 #[.val (.int p1), .val (.int p2), .val (.int p3), .val (.int p4), .val (.int z3), .val (.int v5), .val (.int v7), .val (.int v9), .val (.int v11), .unset, .unset, .unset, .unset, .unset, .unset, .unset, .unset, .unset, .unset] [(.int p2)]))
  refine go (fun _ q => XS.iconst X10.here hx rfl (hb hby at_66) q) ?_
  show Go p e below _ (T10.setTop (mkF m 67 #[.val (.int p1), .val (.int p2), .val (.int p3), .val (.int p4), .val (.int z3), .val (.int v5), .val (.int v7), .val (.int v9), .val (.int v11), .unset, .unset, .unset, .unset, .unset, .unset, .unset, .unset, .unset, .unset] [(.int (5 : Int32)), (.int p2)]))
  refine go (fun _ q => XS.iushr X10.here hx rfl (hb hby at_67) rfl q) ?_
  show Go p e below _ (T10.setTop (mkF m 68 #[.val (.int p1), .val (.int p2), .val (.int p3), .val (.int p4), .val (.int z3), .val (.int v5), .val (.int v7), .val (.int v9), .val (.int v11), .unset, .unset, .unset, .unset, .unset, .unset, .unset, .unset, .unset, .unset] [(.int (((p2).toUInt32 >>> ((5 : Int32) &&& 31).toUInt32).toInt32))]))
  refine go (fun _ q => XS.bipush X10.here hx rfl (hb hby at_68) q) ?_
  show Go p e below _ (T10.setTop (mkF m 70 #[.val (.int p1), .val (.int p2), .val (.int p3), .val (.int p4), .val (.int z3), .val (.int v5), .val (.int v7), .val (.int v9), .val (.int v11), .unset, .unset, .unset, .unset, .unset, .unset, .unset, .unset, .unset, .unset] [(.int (7 : Int32)), (.int (((p2).toUInt32 >>> ((5 : Int32) &&& 31).toUInt32).toInt32))]))
  refine go (fun _ q => XS.iand X10.here hx rfl (hb hby at_70) rfl q) ?_
  show Go p e below _ (T10.setTop (mkF m 71 #[.val (.int p1), .val (.int p2), .val (.int p3), .val (.int p4), .val (.int z3), .val (.int v5), .val (.int v7), .val (.int v9), .val (.int v11), .unset, .unset, .unset, .unset, .unset, .unset, .unset, .unset, .unset, .unset] [(.int ((((p2).toUInt32 >>> ((5 : Int32) &&& 31).toUInt32).toInt32) &&& (7 : Int32)))]))
  generalize hv12 : ((((p2).toUInt32 >>> ((5 : Int32) &&& 31).toUInt32).toInt32) &&& (7 : Int32)) = v12
  show Go p e below _ (T10.setTop (mkF m 71 #[.val (.int p1), .val (.int p2), .val (.int p3), .val (.int p4), .val (.int z3), .val (.int v5), .val (.int v7), .val (.int v9), .val (.int v11), .unset, .unset, .unset, .unset, .unset, .unset, .unset, .unset, .unset, .unset] [(.int v12)]))
  refine go (fun _ q => XS.istore X10.here hx rfl (hb hby at_71) rfl (l' := #[.val (.int p1), .val (.int p2), .val (.int p3), .val (.int p4), .val (.int z3), .val (.int v5), .val (.int v7), .val (.int v9), .val (.int v11), .val (.int v12), .unset, .unset, .unset, .unset, .unset, .unset, .unset, .unset, .unset]) rfl q) ?_
  show Go p e below _ (T10.setTop (mkF m 73 #[.val (.int p1), .val (.int p2), .val (.int p3), .val (.int p4), .val (.int z3), .val (.int v5), .val (.int v7), .val (.int v9), .val (.int v11), .val (.int v12), .unset, .unset, .unset, .unset, .unset, .unset, .unset, .unset, .unset] []))
  refine go (fun _ q => XS.iload X10.here hx rfl (hb hby at_73) rfl q) ?_
  show Go p e below _ (T10.setTop (mkF m 75 #[.val (.int p1), .val (.int p2), .val (.int p3), .val (.int p4), .val (.int z3), .val (.int v5), .val (.int v7), .val (.int v9), .val (.int v11), .val (.int v12), .unset, .unset, .unset, .unset, .unset, .unset, .unset, .unset, .unset] [(.int v7)]))
  refine go (fun _ q => XS.iload X10.here hx rfl (hb hby at_75) rfl q) ?_
  show Go p e below _ (T10.setTop (mkF m 77 #[.val (.int p1), .val (.int p2), .val (.int p3), .val (.int p4), .val (.int z3), .val (.int v5), .val (.int v7), .val (.int v9), .val (.int v11), .val (.int v12), .unset, .unset, .unset, .unset, .unset, .unset, .unset, .unset, .unset] [(.int v5), (.int v7)]))
  suffices hj13 : ∀ (z15 : Int32), z15 = (if v7 = v5 then ((v12 + (1 : Int32)) + ((((p2).toUInt32 >>> ((9 : Int32) &&& 31).toUInt32).toInt32) &&& (1 : Int32))) else ((((p2).toUInt32 >>> ((15 : Int32) &&& 31).toUInt32).toInt32) &&& (7 : Int32))) → Go p e below (Dn below s ((Q0 n0)) room_1.cells room_1.slots) (T10.setTop (mkF m 101 #[.val (.int p1), .val (.int p2), .val (.int p3), .val (.int p4), .val (.int z3), .val (.int v5), .val (.int v7), .val (.int v9), .val (.int v11), .val (.int v12), .unset, .unset, .unset, .unset, .unset, .unset, .unset, .unset, .unset] [(.int z15)])) by
    by_cases hc14 : v7 = v5
    · refine go (fun _ q => XS.icmpNo X10.here hx rfl (hb hby at_77) rfl (teq hc14).2 q) ?_
      show Go p e below _ (T10.setTop (mkF m 80 #[.val (.int p1), .val (.int p2), .val (.int p3), .val (.int p4), .val (.int z3), .val (.int v5), .val (.int v7), .val (.int v9), .val (.int v11), .val (.int v12), .unset, .unset, .unset, .unset, .unset, .unset, .unset, .unset, .unset] []))
      refine go (fun _ q => XS.iload X10.here hx rfl (hb hby at_80) rfl q) ?_
      show Go p e below _ (T10.setTop (mkF m 82 #[.val (.int p1), .val (.int p2), .val (.int p3), .val (.int p4), .val (.int z3), .val (.int v5), .val (.int v7), .val (.int v9), .val (.int v11), .val (.int v12), .unset, .unset, .unset, .unset, .unset, .unset, .unset, .unset, .unset] [(.int v12)]))
      refine go (fun _ q => XS.iconst X10.here hx rfl (hb hby at_82) q) ?_
      show Go p e below _ (T10.setTop (mkF m 83 #[.val (.int p1), .val (.int p2), .val (.int p3), .val (.int p4), .val (.int z3), .val (.int v5), .val (.int v7), .val (.int v9), .val (.int v11), .val (.int v12), .unset, .unset, .unset, .unset, .unset, .unset, .unset, .unset, .unset] [(.int (1 : Int32)), (.int v12)]))
      refine go (fun _ q => XS.iadd X10.here hx rfl (hb hby at_83) rfl q) ?_
      show Go p e below _ (T10.setTop (mkF m 84 #[.val (.int p1), .val (.int p2), .val (.int p3), .val (.int p4), .val (.int z3), .val (.int v5), .val (.int v7), .val (.int v9), .val (.int v11), .val (.int v12), .unset, .unset, .unset, .unset, .unset, .unset, .unset, .unset, .unset] [(.int (v12 + (1 : Int32)))]))
      refine go (fun _ q => XS.iloadN X10.here hx rfl (hb hby at_84) rfl q) ?_
      show Go p e below _ (T10.setTop (mkF m 85 #[.val (.int p1), .val (.int p2), .val (.int p3), .val (.int p4), .val (.int z3), .val (.int v5), .val (.int v7), .val (.int v9), .val (.int v11), .val (.int v12), .unset, .unset, .unset, .unset, .unset, .unset, .unset, .unset, .unset] [(.int p2), (.int (v12 + (1 : Int32)))]))
      refine go (fun _ q => XS.bipush X10.here hx rfl (hb hby at_85) q) ?_
      show Go p e below _ (T10.setTop (mkF m 87 #[.val (.int p1), .val (.int p2), .val (.int p3), .val (.int p4), .val (.int z3), .val (.int v5), .val (.int v7), .val (.int v9), .val (.int v11), .val (.int v12), .unset, .unset, .unset, .unset, .unset, .unset, .unset, .unset, .unset] [(.int (9 : Int32)), (.int p2), (.int (v12 + (1 : Int32)))]))
      refine go (fun _ q => XS.iushr X10.here hx rfl (hb hby at_87) rfl q) ?_
      show Go p e below _ (T10.setTop (mkF m 88 #[.val (.int p1), .val (.int p2), .val (.int p3), .val (.int p4), .val (.int z3), .val (.int v5), .val (.int v7), .val (.int v9), .val (.int v11), .val (.int v12), .unset, .unset, .unset, .unset, .unset, .unset, .unset, .unset, .unset] [(.int (((p2).toUInt32 >>> ((9 : Int32) &&& 31).toUInt32).toInt32)), (.int (v12 + (1 : Int32)))]))
      refine go (fun _ q => XS.iconst X10.here hx rfl (hb hby at_88) q) ?_
      show Go p e below _ (T10.setTop (mkF m 89 #[.val (.int p1), .val (.int p2), .val (.int p3), .val (.int p4), .val (.int z3), .val (.int v5), .val (.int v7), .val (.int v9), .val (.int v11), .val (.int v12), .unset, .unset, .unset, .unset, .unset, .unset, .unset, .unset, .unset] [(.int (1 : Int32)), (.int (((p2).toUInt32 >>> ((9 : Int32) &&& 31).toUInt32).toInt32)), (.int (v12 + (1 : Int32)))]))
      refine go (fun _ q => XS.iand X10.here hx rfl (hb hby at_89) rfl q) ?_
      show Go p e below _ (T10.setTop (mkF m 90 #[.val (.int p1), .val (.int p2), .val (.int p3), .val (.int p4), .val (.int z3), .val (.int v5), .val (.int v7), .val (.int v9), .val (.int v11), .val (.int v12), .unset, .unset, .unset, .unset, .unset, .unset, .unset, .unset, .unset] [(.int ((((p2).toUInt32 >>> ((9 : Int32) &&& 31).toUInt32).toInt32) &&& (1 : Int32))), (.int (v12 + (1 : Int32)))]))
      refine go (fun _ q => XS.iadd X10.here hx rfl (hb hby at_90) rfl q) ?_
      show Go p e below _ (T10.setTop (mkF m 91 #[.val (.int p1), .val (.int p2), .val (.int p3), .val (.int p4), .val (.int z3), .val (.int v5), .val (.int v7), .val (.int v9), .val (.int v11), .val (.int v12), .unset, .unset, .unset, .unset, .unset, .unset, .unset, .unset, .unset] [(.int ((v12 + (1 : Int32)) + ((((p2).toUInt32 >>> ((9 : Int32) &&& 31).toUInt32).toInt32) &&& (1 : Int32))))]))
      refine go (fun _ q => XS.goto X10.here hx rfl (pc0 := 91) (pc' := 101) rfl (hb hby at_91) (by decide) (by decide) q) ?_
      show Go p e below _ (T10.setTop (mkF m 101 #[.val (.int p1), .val (.int p2), .val (.int p3), .val (.int p4), .val (.int z3), .val (.int v5), .val (.int v7), .val (.int v9), .val (.int v11), .val (.int v12), .unset, .unset, .unset, .unset, .unset, .unset, .unset, .unset, .unset] [(.int ((v12 + (1 : Int32)) + ((((p2).toUInt32 >>> ((9 : Int32) &&& 31).toUInt32).toInt32) &&& (1 : Int32))))]))
      exact hj13 _ (by rw [if_pos hc14])
    · refine go (fun _ q => XS.icmpYes X10.here hx rfl (pc0 := 77) (pc' := 94) rfl (hb hby at_77) rfl (feq hc14).2 (by decide) (by decide) q) ?_
      show Go p e below _ (T10.setTop (mkF m 94 #[.val (.int p1), .val (.int p2), .val (.int p3), .val (.int p4), .val (.int z3), .val (.int v5), .val (.int v7), .val (.int v9), .val (.int v11), .val (.int v12), .unset, .unset, .unset, .unset, .unset, .unset, .unset, .unset, .unset] []))
      refine go (fun _ q => XS.iloadN X10.here hx rfl (hb hby at_94) rfl q) ?_
      show Go p e below _ (T10.setTop (mkF m 95 #[.val (.int p1), .val (.int p2), .val (.int p3), .val (.int p4), .val (.int z3), .val (.int v5), .val (.int v7), .val (.int v9), .val (.int v11), .val (.int v12), .unset, .unset, .unset, .unset, .unset, .unset, .unset, .unset, .unset] [(.int p2)]))
      refine go (fun _ q => XS.bipush X10.here hx rfl (hb hby at_95) q) ?_
      show Go p e below _ (T10.setTop (mkF m 97 #[.val (.int p1), .val (.int p2), .val (.int p3), .val (.int p4), .val (.int z3), .val (.int v5), .val (.int v7), .val (.int v9), .val (.int v11), .val (.int v12), .unset, .unset, .unset, .unset, .unset, .unset, .unset, .unset, .unset] [(.int (15 : Int32)), (.int p2)]))
      refine go (fun _ q => XS.iushr X10.here hx rfl (hb hby at_97) rfl q) ?_
      show Go p e below _ (T10.setTop (mkF m 98 #[.val (.int p1), .val (.int p2), .val (.int p3), .val (.int p4), .val (.int z3), .val (.int v5), .val (.int v7), .val (.int v9), .val (.int v11), .val (.int v12), .unset, .unset, .unset, .unset, .unset, .unset, .unset, .unset, .unset] [(.int (((p2).toUInt32 >>> ((15 : Int32) &&& 31).toUInt32).toInt32))]))
      refine go (fun _ q => XS.bipush X10.here hx rfl (hb hby at_98) q) ?_
      show Go p e below _ (T10.setTop (mkF m 100 #[.val (.int p1), .val (.int p2), .val (.int p3), .val (.int p4), .val (.int z3), .val (.int v5), .val (.int v7), .val (.int v9), .val (.int v11), .val (.int v12), .unset, .unset, .unset, .unset, .unset, .unset, .unset, .unset, .unset] [(.int (7 : Int32)), (.int (((p2).toUInt32 >>> ((15 : Int32) &&& 31).toUInt32).toInt32))]))
      refine go (fun _ q => XS.iand X10.here hx rfl (hb hby at_100) rfl q) ?_
      show Go p e below _ (T10.setTop (mkF m 101 #[.val (.int p1), .val (.int p2), .val (.int p3), .val (.int p4), .val (.int z3), .val (.int v5), .val (.int v7), .val (.int v9), .val (.int v11), .val (.int v12), .unset, .unset, .unset, .unset, .unset, .unset, .unset, .unset, .unset] [(.int ((((p2).toUInt32 >>> ((15 : Int32) &&& 31).toUInt32).toInt32) &&& (7 : Int32)))]))
      exact hj13 _ (by rw [if_neg hc14])
  intro z15 hz15
  show Go p e below _ (T10.setTop (mkF m 101 #[.val (.int p1), .val (.int p2), .val (.int p3), .val (.int p4), .val (.int z3), .val (.int v5), .val (.int v7), .val (.int v9), .val (.int v11), .val (.int v12), .unset, .unset, .unset, .unset, .unset, .unset, .unset, .unset, .unset] [(.int z15)]))
  refine go (fun _ q => XS.istore X10.here hx rfl (hb hby at_101) rfl (l' := #[.val (.int p1), .val (.int p2), .val (.int p3), .val (.int p4), .val (.int z3), .val (.int v5), .val (.int v7), .val (.int v9), .val (.int v11), .val (.int v12), .val (.int z15), .unset, .unset, .unset, .unset, .unset, .unset, .unset, .unset]) rfl q) ?_
  show Go p e below _ (T10.setTop (mkF m 103 #[.val (.int p1), .val (.int p2), .val (.int p3), .val (.int p4), .val (.int z3), .val (.int v5), .val (.int v7), .val (.int v9), .val (.int v11), .val (.int v12), .val (.int z15), .unset, .unset, .unset, .unset, .unset, .unset, .unset, .unset] []))
  refine go (fun _ q => XS.iload X10.here hx rfl (hb hby at_103) rfl q) ?_
  show Go p e below _ (T10.setTop (mkF m 105 #[.val (.int p1), .val (.int p2), .val (.int p3), .val (.int p4), .val (.int z3), .val (.int v5), .val (.int v7), .val (.int v9), .val (.int v11), .val (.int v12), .val (.int z15), .unset, .unset, .unset, .unset, .unset, .unset, .unset, .unset] [(.int v9)]))
  refine go (fun _ q => XS.iload X10.here hx rfl (hb hby at_105) rfl q) ?_
  show Go p e below _ (T10.setTop (mkF m 107 #[.val (.int p1), .val (.int p2), .val (.int p3), .val (.int p4), .val (.int z3), .val (.int v5), .val (.int v7), .val (.int v9), .val (.int v11), .val (.int v12), .val (.int z15), .unset, .unset, .unset, .unset, .unset, .unset, .unset, .unset] [(.int v7), (.int v9)]))
  suffices hj16 : ∀ (z18 : Int32), z18 = (if v9 = v7 then ((z15 + (1 : Int32)) + ((((p2).toUInt32 >>> ((10 : Int32) &&& 31).toUInt32).toInt32) &&& (1 : Int32))) else ((((p2).toUInt32 >>> ((18 : Int32) &&& 31).toUInt32).toInt32) &&& (7 : Int32))) → Go p e below (Dn below s ((Q0 n0)) room_1.cells room_1.slots) (T10.setTop (mkF m 131 #[.val (.int p1), .val (.int p2), .val (.int p3), .val (.int p4), .val (.int z3), .val (.int v5), .val (.int v7), .val (.int v9), .val (.int v11), .val (.int v12), .val (.int z15), .unset, .unset, .unset, .unset, .unset, .unset, .unset, .unset] [(.int z18)])) by
    by_cases hc17 : v9 = v7
    · refine go (fun _ q => XS.icmpNo X10.here hx rfl (hb hby at_107) rfl (teq hc17).2 q) ?_
      show Go p e below _ (T10.setTop (mkF m 110 #[.val (.int p1), .val (.int p2), .val (.int p3), .val (.int p4), .val (.int z3), .val (.int v5), .val (.int v7), .val (.int v9), .val (.int v11), .val (.int v12), .val (.int z15), .unset, .unset, .unset, .unset, .unset, .unset, .unset, .unset] []))
      refine go (fun _ q => XS.iload X10.here hx rfl (hb hby at_110) rfl q) ?_
      show Go p e below _ (T10.setTop (mkF m 112 #[.val (.int p1), .val (.int p2), .val (.int p3), .val (.int p4), .val (.int z3), .val (.int v5), .val (.int v7), .val (.int v9), .val (.int v11), .val (.int v12), .val (.int z15), .unset, .unset, .unset, .unset, .unset, .unset, .unset, .unset] [(.int z15)]))
      refine go (fun _ q => XS.iconst X10.here hx rfl (hb hby at_112) q) ?_
      show Go p e below _ (T10.setTop (mkF m 113 #[.val (.int p1), .val (.int p2), .val (.int p3), .val (.int p4), .val (.int z3), .val (.int v5), .val (.int v7), .val (.int v9), .val (.int v11), .val (.int v12), .val (.int z15), .unset, .unset, .unset, .unset, .unset, .unset, .unset, .unset] [(.int (1 : Int32)), (.int z15)]))
      refine go (fun _ q => XS.iadd X10.here hx rfl (hb hby at_113) rfl q) ?_
      show Go p e below _ (T10.setTop (mkF m 114 #[.val (.int p1), .val (.int p2), .val (.int p3), .val (.int p4), .val (.int z3), .val (.int v5), .val (.int v7), .val (.int v9), .val (.int v11), .val (.int v12), .val (.int z15), .unset, .unset, .unset, .unset, .unset, .unset, .unset, .unset] [(.int (z15 + (1 : Int32)))]))
      refine go (fun _ q => XS.iloadN X10.here hx rfl (hb hby at_114) rfl q) ?_
      show Go p e below _ (T10.setTop (mkF m 115 #[.val (.int p1), .val (.int p2), .val (.int p3), .val (.int p4), .val (.int z3), .val (.int v5), .val (.int v7), .val (.int v9), .val (.int v11), .val (.int v12), .val (.int z15), .unset, .unset, .unset, .unset, .unset, .unset, .unset, .unset] [(.int p2), (.int (z15 + (1 : Int32)))]))
      refine go (fun _ q => XS.bipush X10.here hx rfl (hb hby at_115) q) ?_
      show Go p e below _ (T10.setTop (mkF m 117 #[.val (.int p1), .val (.int p2), .val (.int p3), .val (.int p4), .val (.int z3), .val (.int v5), .val (.int v7), .val (.int v9), .val (.int v11), .val (.int v12), .val (.int z15), .unset, .unset, .unset, .unset, .unset, .unset, .unset, .unset] [(.int (10 : Int32)), (.int p2), (.int (z15 + (1 : Int32)))]))
      refine go (fun _ q => XS.iushr X10.here hx rfl (hb hby at_117) rfl q) ?_
      show Go p e below _ (T10.setTop (mkF m 118 #[.val (.int p1), .val (.int p2), .val (.int p3), .val (.int p4), .val (.int z3), .val (.int v5), .val (.int v7), .val (.int v9), .val (.int v11), .val (.int v12), .val (.int z15), .unset, .unset, .unset, .unset, .unset, .unset, .unset, .unset] [(.int (((p2).toUInt32 >>> ((10 : Int32) &&& 31).toUInt32).toInt32)), (.int (z15 + (1 : Int32)))]))
      refine go (fun _ q => XS.iconst X10.here hx rfl (hb hby at_118) q) ?_
      show Go p e below _ (T10.setTop (mkF m 119 #[.val (.int p1), .val (.int p2), .val (.int p3), .val (.int p4), .val (.int z3), .val (.int v5), .val (.int v7), .val (.int v9), .val (.int v11), .val (.int v12), .val (.int z15), .unset, .unset, .unset, .unset, .unset, .unset, .unset, .unset] [(.int (1 : Int32)), (.int (((p2).toUInt32 >>> ((10 : Int32) &&& 31).toUInt32).toInt32)), (.int (z15 + (1 : Int32)))]))
      refine go (fun _ q => XS.iand X10.here hx rfl (hb hby at_119) rfl q) ?_
      show Go p e below _ (T10.setTop (mkF m 120 #[.val (.int p1), .val (.int p2), .val (.int p3), .val (.int p4), .val (.int z3), .val (.int v5), .val (.int v7), .val (.int v9), .val (.int v11), .val (.int v12), .val (.int z15), .unset, .unset, .unset, .unset, .unset, .unset, .unset, .unset] [(.int ((((p2).toUInt32 >>> ((10 : Int32) &&& 31).toUInt32).toInt32) &&& (1 : Int32))), (.int (z15 + (1 : Int32)))]))
      refine go (fun _ q => XS.iadd X10.here hx rfl (hb hby at_120) rfl q) ?_
      show Go p e below _ (T10.setTop (mkF m 121 #[.val (.int p1), .val (.int p2), .val (.int p3), .val (.int p4), .val (.int z3), .val (.int v5), .val (.int v7), .val (.int v9), .val (.int v11), .val (.int v12), .val (.int z15), .unset, .unset, .unset, .unset, .unset, .unset, .unset, .unset] [(.int ((z15 + (1 : Int32)) + ((((p2).toUInt32 >>> ((10 : Int32) &&& 31).toUInt32).toInt32) &&& (1 : Int32))))]))
      refine go (fun _ q => XS.goto X10.here hx rfl (pc0 := 121) (pc' := 131) rfl (hb hby at_121) (by decide) (by decide) q) ?_
      show Go p e below _ (T10.setTop (mkF m 131 #[.val (.int p1), .val (.int p2), .val (.int p3), .val (.int p4), .val (.int z3), .val (.int v5), .val (.int v7), .val (.int v9), .val (.int v11), .val (.int v12), .val (.int z15), .unset, .unset, .unset, .unset, .unset, .unset, .unset, .unset] [(.int ((z15 + (1 : Int32)) + ((((p2).toUInt32 >>> ((10 : Int32) &&& 31).toUInt32).toInt32) &&& (1 : Int32))))]))
      exact hj16 _ (by rw [if_pos hc17])
    · refine go (fun _ q => XS.icmpYes X10.here hx rfl (pc0 := 107) (pc' := 124) rfl (hb hby at_107) rfl (feq hc17).2 (by decide) (by decide) q) ?_
      show Go p e below _ (T10.setTop (mkF m 124 #[.val (.int p1), .val (.int p2), .val (.int p3), .val (.int p4), .val (.int z3), .val (.int v5), .val (.int v7), .val (.int v9), .val (.int v11), .val (.int v12), .val (.int z15), .unset, .unset, .unset, .unset, .unset, .unset, .unset, .unset] []))
      refine go (fun _ q => XS.iloadN X10.here hx rfl (hb hby at_124) rfl q) ?_
      show Go p e below _ (T10.setTop (mkF m 125 #[.val (.int p1), .val (.int p2), .val (.int p3), .val (.int p4), .val (.int z3), .val (.int v5), .val (.int v7), .val (.int v9), .val (.int v11), .val (.int v12), .val (.int z15), .unset, .unset, .unset, .unset, .unset, .unset, .unset, .unset] [(.int p2)]))
      refine go (fun _ q => XS.bipush X10.here hx rfl (hb hby at_125) q) ?_
      show Go p e below _ (T10.setTop (mkF m 127 #[.val (.int p1), .val (.int p2), .val (.int p3), .val (.int p4), .val (.int z3), .val (.int v5), .val (.int v7), .val (.int v9), .val (.int v11), .val (.int v12), .val (.int z15), .unset, .unset, .unset, .unset, .unset, .unset, .unset, .unset] [(.int (18 : Int32)), (.int p2)]))
      refine go (fun _ q => XS.iushr X10.here hx rfl (hb hby at_127) rfl q) ?_
      show Go p e below _ (T10.setTop (mkF m 128 #[.val (.int p1), .val (.int p2), .val (.int p3), .val (.int p4), .val (.int z3), .val (.int v5), .val (.int v7), .val (.int v9), .val (.int v11), .val (.int v12), .val (.int z15), .unset, .unset, .unset, .unset, .unset, .unset, .unset, .unset] [(.int (((p2).toUInt32 >>> ((18 : Int32) &&& 31).toUInt32).toInt32))]))
      refine go (fun _ q => XS.bipush X10.here hx rfl (hb hby at_128) q) ?_
      show Go p e below _ (T10.setTop (mkF m 130 #[.val (.int p1), .val (.int p2), .val (.int p3), .val (.int p4), .val (.int z3), .val (.int v5), .val (.int v7), .val (.int v9), .val (.int v11), .val (.int v12), .val (.int z15), .unset, .unset, .unset, .unset, .unset, .unset, .unset, .unset] [(.int (7 : Int32)), (.int (((p2).toUInt32 >>> ((18 : Int32) &&& 31).toUInt32).toInt32))]))
      refine go (fun _ q => XS.iand X10.here hx rfl (hb hby at_130) rfl q) ?_
      show Go p e below _ (T10.setTop (mkF m 131 #[.val (.int p1), .val (.int p2), .val (.int p3), .val (.int p4), .val (.int z3), .val (.int v5), .val (.int v7), .val (.int v9), .val (.int v11), .val (.int v12), .val (.int z15), .unset, .unset, .unset, .unset, .unset, .unset, .unset, .unset] [(.int ((((p2).toUInt32 >>> ((18 : Int32) &&& 31).toUInt32).toInt32) &&& (7 : Int32)))]))
      exact hj16 _ (by rw [if_neg hc17])
  intro z18 hz18
  show Go p e below _ (T10.setTop (mkF m 131 #[.val (.int p1), .val (.int p2), .val (.int p3), .val (.int p4), .val (.int z3), .val (.int v5), .val (.int v7), .val (.int v9), .val (.int v11), .val (.int v12), .val (.int z15), .unset, .unset, .unset, .unset, .unset, .unset, .unset, .unset] [(.int z18)]))
  refine go (fun _ q => XS.istore X10.here hx rfl (hb hby at_131) rfl (l' := #[.val (.int p1), .val (.int p2), .val (.int p3), .val (.int p4), .val (.int z3), .val (.int v5), .val (.int v7), .val (.int v9), .val (.int v11), .val (.int v12), .val (.int z15), .val (.int z18), .unset, .unset, .unset, .unset, .unset, .unset, .unset]) rfl q) ?_
  show Go p e below _ (T10.setTop (mkF m 133 #[.val (.int p1), .val (.int p2), .val (.int p3), .val (.int p4), .val (.int z3), .val (.int v5), .val (.int v7), .val (.int v9), .val (.int v11), .val (.int v12), .val (.int z15), .val (.int z18), .unset, .unset, .unset, .unset, .unset, .unset, .unset] []))
  refine go (fun _ q => XS.iload X10.here hx rfl (hb hby at_133) rfl q) ?_
  show Go p e below _ (T10.setTop (mkF m 135 #[.val (.int p1), .val (.int p2), .val (.int p3), .val (.int p4), .val (.int z3), .val (.int v5), .val (.int v7), .val (.int v9), .val (.int v11), .val (.int v12), .val (.int z15), .val (.int z18), .unset, .unset, .unset, .unset, .unset, .unset, .unset] [(.int v11)]))
  refine go (fun _ q => XS.iload X10.here hx rfl (hb hby at_135) rfl q) ?_
  show Go p e below _ (T10.setTop (mkF m 137 #[.val (.int p1), .val (.int p2), .val (.int p3), .val (.int p4), .val (.int z3), .val (.int v5), .val (.int v7), .val (.int v9), .val (.int v11), .val (.int v12), .val (.int z15), .val (.int z18), .unset, .unset, .unset, .unset, .unset, .unset, .unset] [(.int v9), (.int v11)]))
  suffices hj19 : ∀ (z21 : Int32), z21 = (if v11 = v9 then ((z18 + (1 : Int32)) + ((((p2).toUInt32 >>> ((11 : Int32) &&& 31).toUInt32).toInt32) &&& (1 : Int32))) else ((((p2).toUInt32 >>> ((21 : Int32) &&& 31).toUInt32).toInt32) &&& (7 : Int32))) → Go p e below (Dn below s ((Q0 n0)) room_1.cells room_1.slots) (T10.setTop (mkF m 161 #[.val (.int p1), .val (.int p2), .val (.int p3), .val (.int p4), .val (.int z3), .val (.int v5), .val (.int v7), .val (.int v9), .val (.int v11), .val (.int v12), .val (.int z15), .val (.int z18), .unset, .unset, .unset, .unset, .unset, .unset, .unset] [(.int z21)])) by
    by_cases hc20 : v11 = v9
    · refine go (fun _ q => XS.icmpNo X10.here hx rfl (hb hby at_137) rfl (teq hc20).2 q) ?_
      show Go p e below _ (T10.setTop (mkF m 140 #[.val (.int p1), .val (.int p2), .val (.int p3), .val (.int p4), .val (.int z3), .val (.int v5), .val (.int v7), .val (.int v9), .val (.int v11), .val (.int v12), .val (.int z15), .val (.int z18), .unset, .unset, .unset, .unset, .unset, .unset, .unset] []))
      refine go (fun _ q => XS.iload X10.here hx rfl (hb hby at_140) rfl q) ?_
      show Go p e below _ (T10.setTop (mkF m 142 #[.val (.int p1), .val (.int p2), .val (.int p3), .val (.int p4), .val (.int z3), .val (.int v5), .val (.int v7), .val (.int v9), .val (.int v11), .val (.int v12), .val (.int z15), .val (.int z18), .unset, .unset, .unset, .unset, .unset, .unset, .unset] [(.int z18)]))
      refine go (fun _ q => XS.iconst X10.here hx rfl (hb hby at_142) q) ?_
      show Go p e below _ (T10.setTop (mkF m 143 #[.val (.int p1), .val (.int p2), .val (.int p3), .val (.int p4), .val (.int z3), .val (.int v5), .val (.int v7), .val (.int v9), .val (.int v11), .val (.int v12), .val (.int z15), .val (.int z18), .unset, .unset, .unset, .unset, .unset, .unset, .unset] [(.int (1 : Int32)), (.int z18)]))
      refine go (fun _ q => XS.iadd X10.here hx rfl (hb hby at_143) rfl q) ?_
      show Go p e below _ (T10.setTop (mkF m 144 #[.val (.int p1), .val (.int p2), .val (.int p3), .val (.int p4), .val (.int z3), .val (.int v5), .val (.int v7), .val (.int v9), .val (.int v11), .val (.int v12), .val (.int z15), .val (.int z18), .unset, .unset, .unset, .unset, .unset, .unset, .unset] [(.int (z18 + (1 : Int32)))]))
      refine go (fun _ q => XS.iloadN X10.here hx rfl (hb hby at_144) rfl q) ?_
      show Go p e below _ (T10.setTop (mkF m 145 #[.val (.int p1), .val (.int p2), .val (.int p3), .val (.int p4), .val (.int z3), .val (.int v5), .val (.int v7), .val (.int v9), .val (.int v11), .val (.int v12), .val (.int z15), .val (.int z18), .unset, .unset, .unset, .unset, .unset, .unset, .unset] [(.int p2), (.int (z18 + (1 : Int32)))]))
      refine go (fun _ q => XS.bipush X10.here hx rfl (hb hby at_145) q) ?_
      show Go p e below _ (T10.setTop (mkF m 147 #[.val (.int p1), .val (.int p2), .val (.int p3), .val (.int p4), .val (.int z3), .val (.int v5), .val (.int v7), .val (.int v9), .val (.int v11), .val (.int v12), .val (.int z15), .val (.int z18), .unset, .unset, .unset, .unset, .unset, .unset, .unset] [(.int (11 : Int32)), (.int p2), (.int (z18 + (1 : Int32)))]))
      refine go (fun _ q => XS.iushr X10.here hx rfl (hb hby at_147) rfl q) ?_
      show Go p e below _ (T10.setTop (mkF m 148 #[.val (.int p1), .val (.int p2), .val (.int p3), .val (.int p4), .val (.int z3), .val (.int v5), .val (.int v7), .val (.int v9), .val (.int v11), .val (.int v12), .val (.int z15), .val (.int z18), .unset, .unset, .unset, .unset, .unset, .unset, .unset] [(.int (((p2).toUInt32 >>> ((11 : Int32) &&& 31).toUInt32).toInt32)), (.int (z18 + (1 : Int32)))]))
      refine go (fun _ q => XS.iconst X10.here hx rfl (hb hby at_148) q) ?_
      show Go p e below _ (T10.setTop (mkF m 149 #[.val (.int p1), .val (.int p2), .val (.int p3), .val (.int p4), .val (.int z3), .val (.int v5), .val (.int v7), .val (.int v9), .val (.int v11), .val (.int v12), .val (.int z15), .val (.int z18), .unset, .unset, .unset, .unset, .unset, .unset, .unset] [(.int (1 : Int32)), (.int (((p2).toUInt32 >>> ((11 : Int32) &&& 31).toUInt32).toInt32)), (.int (z18 + (1 : Int32)))]))
      refine go (fun _ q => XS.iand X10.here hx rfl (hb hby at_149) rfl q) ?_
      show Go p e below _ (T10.setTop (mkF m 150 #[.val (.int p1), .val (.int p2), .val (.int p3), .val (.int p4), .val (.int z3), .val (.int v5), .val (.int v7), .val (.int v9), .val (.int v11), .val (.int v12), .val (.int z15), .val (.int z18), .unset, .unset, .unset, .unset, .unset, .unset, .unset] [(.int ((((p2).toUInt32 >>> ((11 : Int32) &&& 31).toUInt32).toInt32) &&& (1 : Int32))), (.int (z18 + (1 : Int32)))]))
      refine go (fun _ q => XS.iadd X10.here hx rfl (hb hby at_150) rfl q) ?_
      show Go p e below _ (T10.setTop (mkF m 151 #[.val (.int p1), .val (.int p2), .val (.int p3), .val (.int p4), .val (.int z3), .val (.int v5), .val (.int v7), .val (.int v9), .val (.int v11), .val (.int v12), .val (.int z15), .val (.int z18), .unset, .unset, .unset, .unset, .unset, .unset, .unset] [(.int ((z18 + (1 : Int32)) + ((((p2).toUInt32 >>> ((11 : Int32) &&& 31).toUInt32).toInt32) &&& (1 : Int32))))]))
      refine go (fun _ q => XS.goto X10.here hx rfl (pc0 := 151) (pc' := 161) rfl (hb hby at_151) (by decide) (by decide) q) ?_
      show Go p e below _ (T10.setTop (mkF m 161 #[.val (.int p1), .val (.int p2), .val (.int p3), .val (.int p4), .val (.int z3), .val (.int v5), .val (.int v7), .val (.int v9), .val (.int v11), .val (.int v12), .val (.int z15), .val (.int z18), .unset, .unset, .unset, .unset, .unset, .unset, .unset] [(.int ((z18 + (1 : Int32)) + ((((p2).toUInt32 >>> ((11 : Int32) &&& 31).toUInt32).toInt32) &&& (1 : Int32))))]))
      exact hj19 _ (by rw [if_pos hc20])
    · refine go (fun _ q => XS.icmpYes X10.here hx rfl (pc0 := 137) (pc' := 154) rfl (hb hby at_137) rfl (feq hc20).2 (by decide) (by decide) q) ?_
      show Go p e below _ (T10.setTop (mkF m 154 #[.val (.int p1), .val (.int p2), .val (.int p3), .val (.int p4), .val (.int z3), .val (.int v5), .val (.int v7), .val (.int v9), .val (.int v11), .val (.int v12), .val (.int z15), .val (.int z18), .unset, .unset, .unset, .unset, .unset, .unset, .unset] []))
      refine go (fun _ q => XS.iloadN X10.here hx rfl (hb hby at_154) rfl q) ?_
      show Go p e below _ (T10.setTop (mkF m 155 #[.val (.int p1), .val (.int p2), .val (.int p3), .val (.int p4), .val (.int z3), .val (.int v5), .val (.int v7), .val (.int v9), .val (.int v11), .val (.int v12), .val (.int z15), .val (.int z18), .unset, .unset, .unset, .unset, .unset, .unset, .unset] [(.int p2)]))
      refine go (fun _ q => XS.bipush X10.here hx rfl (hb hby at_155) q) ?_
      show Go p e below _ (T10.setTop (mkF m 157 #[.val (.int p1), .val (.int p2), .val (.int p3), .val (.int p4), .val (.int z3), .val (.int v5), .val (.int v7), .val (.int v9), .val (.int v11), .val (.int v12), .val (.int z15), .val (.int z18), .unset, .unset, .unset, .unset, .unset, .unset, .unset] [(.int (21 : Int32)), (.int p2)]))
      refine go (fun _ q => XS.iushr X10.here hx rfl (hb hby at_157) rfl q) ?_
      show Go p e below _ (T10.setTop (mkF m 158 #[.val (.int p1), .val (.int p2), .val (.int p3), .val (.int p4), .val (.int z3), .val (.int v5), .val (.int v7), .val (.int v9), .val (.int v11), .val (.int v12), .val (.int z15), .val (.int z18), .unset, .unset, .unset, .unset, .unset, .unset, .unset] [(.int (((p2).toUInt32 >>> ((21 : Int32) &&& 31).toUInt32).toInt32))]))
      refine go (fun _ q => XS.bipush X10.here hx rfl (hb hby at_158) q) ?_
      show Go p e below _ (T10.setTop (mkF m 160 #[.val (.int p1), .val (.int p2), .val (.int p3), .val (.int p4), .val (.int z3), .val (.int v5), .val (.int v7), .val (.int v9), .val (.int v11), .val (.int v12), .val (.int z15), .val (.int z18), .unset, .unset, .unset, .unset, .unset, .unset, .unset] [(.int (7 : Int32)), (.int (((p2).toUInt32 >>> ((21 : Int32) &&& 31).toUInt32).toInt32))]))
      refine go (fun _ q => XS.iand X10.here hx rfl (hb hby at_160) rfl q) ?_
      show Go p e below _ (T10.setTop (mkF m 161 #[.val (.int p1), .val (.int p2), .val (.int p3), .val (.int p4), .val (.int z3), .val (.int v5), .val (.int v7), .val (.int v9), .val (.int v11), .val (.int v12), .val (.int z15), .val (.int z18), .unset, .unset, .unset, .unset, .unset, .unset, .unset] [(.int ((((p2).toUInt32 >>> ((21 : Int32) &&& 31).toUInt32).toInt32) &&& (7 : Int32)))]))
      exact hj19 _ (by rw [if_neg hc20])
  intro z21 hz21
  show Go p e below _ (T10.setTop (mkF m 161 #[.val (.int p1), .val (.int p2), .val (.int p3), .val (.int p4), .val (.int z3), .val (.int v5), .val (.int v7), .val (.int v9), .val (.int v11), .val (.int v12), .val (.int z15), .val (.int z18), .unset, .unset, .unset, .unset, .unset, .unset, .unset] [(.int z21)]))
  refine go (fun _ q => XS.istore X10.here hx rfl (hb hby at_161) rfl (l' := #[.val (.int p1), .val (.int p2), .val (.int p3), .val (.int p4), .val (.int z3), .val (.int v5), .val (.int v7), .val (.int v9), .val (.int v11), .val (.int v12), .val (.int z15), .val (.int z18), .val (.int z21), .unset, .unset, .unset, .unset, .unset, .unset]) rfl q) ?_
  show Go p e below _ (T10.setTop (mkF m 163 #[.val (.int p1), .val (.int p2), .val (.int p3), .val (.int p4), .val (.int z3), .val (.int v5), .val (.int v7), .val (.int v9), .val (.int v11), .val (.int v12), .val (.int z15), .val (.int z18), .val (.int z21), .unset, .unset, .unset, .unset, .unset, .unset] []))
  refine go (fun _ q => XS.iconst X10.here hx rfl (hb hby at_163) q) ?_
  show Go p e below _ (T10.setTop (mkF m 164 #[.val (.int p1), .val (.int p2), .val (.int p3), .val (.int p4), .val (.int z3), .val (.int v5), .val (.int v7), .val (.int v9), .val (.int v11), .val (.int v12), .val (.int z15), .val (.int z18), .val (.int z21), .unset, .unset, .unset, .unset, .unset, .unset] [(.int (4 : Int32))]))
  obtain ⟨T22, h22, k22, X22, e22, E22, A22, st22⟩ := newP X10 hx hZ (hw _ (List.mem_of_getElem? (i := 5) rfl)) e10 (g := (mkF m 164 #[.val (.int p1), .val (.int p2), .val (.int p3), .val (.int p4), .val (.int z3), .val (.int v5), .val (.int v7), .val (.int v9), .val (.int v11), .val (.int v12), .val (.int z15), .val (.int z18), .val (.int z21), .unset, .unset, .unset, .unset, .unset, .unset] [(.int (4 : Int32))])) rfl (hb hby at_164) rfl (by decide) (cap := 4) (by decide) (by decide) (by decide) (by decide)
  obtain ⟨b22, g22⟩ : ∃ z, z = h0.size := ⟨_, rfl⟩
  rw [← g22] at A22 st22
  refine go st22 ?_
  have g_b22 : n0 ≤ b22 := Nat.le_trans Z0 (Nat.le_of_eq g22.symm)
  have Z22 : n0 ≤ h22.size := Nat.le_trans Z0 E22.1
  have P22 : Ari Z h22 b22 ([(0 : Int32), (0 : Int32), (0 : Int32), (0 : Int32)] : List Int32) := own_fresh A22 (by decide) (m := 4) rfl
  show Go p e below _ (T22.setTop (mkF m 166 #[.val (.int p1), .val (.int p2), .val (.int p3), .val (.int p4), .val (.int z3), .val (.int v5), .val (.int v7), .val (.int v9), .val (.int v11), .val (.int v12), .val (.int z15), .val (.int z18), .val (.int z21), .unset, .unset, .unset, .unset, .unset, .unset] [(.ref b22)]))
  refine go (fun _ q => XS.dup X22.here hx rfl (hb hby at_166) rfl rfl q) ?_
  show Go p e below _ (T22.setTop (mkF m 167 #[.val (.int p1), .val (.int p2), .val (.int p3), .val (.int p4), .val (.int z3), .val (.int v5), .val (.int v7), .val (.int v9), .val (.int v11), .val (.int v12), .val (.int z15), .val (.int z18), .val (.int z21), .unset, .unset, .unset, .unset, .unset, .unset] [(.ref b22), (.ref b22)]))
  refine go (fun _ q => XS.iconst X22.here hx rfl (hb hby at_167) q) ?_
  show Go p e below _ (T22.setTop (mkF m 168 #[.val (.int p1), .val (.int p2), .val (.int p3), .val (.int p4), .val (.int z3), .val (.int v5), .val (.int v7), .val (.int v9), .val (.int v11), .val (.int v12), .val (.int z15), .val (.int z18), .val (.int z21), .unset, .unset, .unset, .unset, .unset, .unset] [(.int (0 : Int32)), (.ref b22), (.ref b22)]))
  refine go (fun _ q => XS.iload X22.here hx rfl (hb hby at_168) rfl q) ?_
  show Go p e below _ (T22.setTop (mkF m 170 #[.val (.int p1), .val (.int p2), .val (.int p3), .val (.int p4), .val (.int z3), .val (.int v5), .val (.int v7), .val (.int v9), .val (.int v11), .val (.int v12), .val (.int z15), .val (.int z18), .val (.int z21), .unset, .unset, .unset, .unset, .unset, .unset] [(.int z3), (.int (0 : Int32)), (.ref b22), (.ref b22)]))
  refine go (fun _ q => XS.iload X22.here hx rfl (hb hby at_170) rfl q) ?_
  show Go p e below _ (T22.setTop (mkF m 172 #[.val (.int p1), .val (.int p2), .val (.int p3), .val (.int p4), .val (.int z3), .val (.int v5), .val (.int v7), .val (.int v9), .val (.int v11), .val (.int v12), .val (.int z15), .val (.int z18), .val (.int z21), .unset, .unset, .unset, .unset, .unset, .unset] [(.int v12), (.int z3), (.int (0 : Int32)), (.ref b22), (.ref b22)]))
  refine go (fun _ q => XS.iadd X22.here hx rfl (hb hby at_172) rfl q) ?_
  show Go p e below _ (T22.setTop (mkF m 173 #[.val (.int p1), .val (.int p2), .val (.int p3), .val (.int p4), .val (.int z3), .val (.int v5), .val (.int v7), .val (.int v9), .val (.int v11), .val (.int v12), .val (.int z15), .val (.int z18), .val (.int z21), .unset, .unset, .unset, .unset, .unset, .unset] [(.int (z3 + v12)), (.int (0 : Int32)), (.ref b22), (.ref b22)]))
  generalize hv23 : (z3 + v12) = v23
  show Go p e below _ (T22.setTop (mkF m 173 #[.val (.int p1), .val (.int p2), .val (.int p3), .val (.int p4), .val (.int z3), .val (.int v5), .val (.int v7), .val (.int v9), .val (.int v11), .val (.int v12), .val (.int z15), .val (.int z18), .val (.int z21), .unset, .unset, .unset, .unset, .unset, .unset] [(.int v23), (.int (0 : Int32)), (.ref b22), (.ref b22)]))
  obtain ⟨T24, h24, X24, e24, W24, V24, st24⟩ := own_iastore X22 hx hZ e22 P22 (j := (0 : Int32)) (x := v23) (by decide) (Nat.le_of_ble_eq_true rfl) (g := (mkF m 173 #[.val (.int p1), .val (.int p2), .val (.int p3), .val (.int p4), .val (.int z3), .val (.int v5), .val (.int v7), .val (.int v9), .val (.int v11), .val (.int v12), .val (.int z15), .val (.int z18), .val (.int z21), .unset, .unset, .unset, .unset, .unset, .unset] [(.int v23), (.int (0 : Int32)), (.ref b22), (.ref b22)])) rfl rfl (hb hby at_173)
  refine go st24 ?_
  have P24 : Ari Z h24 b22 ([v23, (0 : Int32), (0 : Int32), (0 : Int32)] : List Int32) := V24
  have N24 := Fr.snoc X24 N10 g_b22
  have Z24 : n0 ≤ h24.size := Nat.le_trans Z22 (Nat.le_of_eq W24.size.symm)
  show Go p e below _ (T24.setTop (mkF m 174 #[.val (.int p1), .val (.int p2), .val (.int p3), .val (.int p4), .val (.int z3), .val (.int v5), .val (.int v7), .val (.int v9), .val (.int v11), .val (.int v12), .val (.int z15), .val (.int z18), .val (.int z21), .unset, .unset, .unset, .unset, .unset, .unset] [(.ref b22)]))
  refine go (fun _ q => XS.dup X24.here hx rfl (hb hby at_174) rfl rfl q) ?_
  show Go p e below _ (T24.setTop (mkF m 175 #[.val (.int p1), .val (.int p2), .val (.int p3), .val (.int p4), .val (.int z3), .val (.int v5), .val (.int v7), .val (.int v9), .val (.int v11), .val (.int v12), .val (.int z15), .val (.int z18), .val (.int z21), .unset, .unset, .unset, .unset, .unset, .unset] [(.ref b22), (.ref b22)]))
  refine go (fun _ q => XS.iconst X24.here hx rfl (hb hby at_175) q) ?_
  show Go p e below _ (T24.setTop (mkF m 176 #[.val (.int p1), .val (.int p2), .val (.int p3), .val (.int p4), .val (.int z3), .val (.int v5), .val (.int v7), .val (.int v9), .val (.int v11), .val (.int v12), .val (.int z15), .val (.int z18), .val (.int z21), .unset, .unset, .unset, .unset, .unset, .unset] [(.int (1 : Int32)), (.ref b22), (.ref b22)]))
  refine go (fun _ q => XS.iload X24.here hx rfl (hb hby at_176) rfl q) ?_
  show Go p e below _ (T24.setTop (mkF m 178 #[.val (.int p1), .val (.int p2), .val (.int p3), .val (.int p4), .val (.int z3), .val (.int v5), .val (.int v7), .val (.int v9), .val (.int v11), .val (.int v12), .val (.int z15), .val (.int z18), .val (.int z21), .unset, .unset, .unset, .unset, .unset, .unset] [(.int z3), (.int (1 : Int32)), (.ref b22), (.ref b22)]))
  refine go (fun _ q => XS.iload X24.here hx rfl (hb hby at_178) rfl q) ?_
  show Go p e below _ (T24.setTop (mkF m 180 #[.val (.int p1), .val (.int p2), .val (.int p3), .val (.int p4), .val (.int z3), .val (.int v5), .val (.int v7), .val (.int v9), .val (.int v11), .val (.int v12), .val (.int z15), .val (.int z18), .val (.int z21), .unset, .unset, .unset, .unset, .unset, .unset] [(.int z15), (.int z3), (.int (1 : Int32)), (.ref b22), (.ref b22)]))
  refine go (fun _ q => XS.iadd X24.here hx rfl (hb hby at_180) rfl q) ?_
  show Go p e below _ (T24.setTop (mkF m 181 #[.val (.int p1), .val (.int p2), .val (.int p3), .val (.int p4), .val (.int z3), .val (.int v5), .val (.int v7), .val (.int v9), .val (.int v11), .val (.int v12), .val (.int z15), .val (.int z18), .val (.int z21), .unset, .unset, .unset, .unset, .unset, .unset] [(.int (z3 + z15)), (.int (1 : Int32)), (.ref b22), (.ref b22)]))
  generalize hv25 : (z3 + z15) = v25
  show Go p e below _ (T24.setTop (mkF m 181 #[.val (.int p1), .val (.int p2), .val (.int p3), .val (.int p4), .val (.int z3), .val (.int v5), .val (.int v7), .val (.int v9), .val (.int v11), .val (.int v12), .val (.int z15), .val (.int z18), .val (.int z21), .unset, .unset, .unset, .unset, .unset, .unset] [(.int v25), (.int (1 : Int32)), (.ref b22), (.ref b22)]))
  obtain ⟨T26, h26, X26, e26, W26, V26, st26⟩ := own_iastore X24 hx hZ e24 P24 (j := (1 : Int32)) (x := v25) (by decide) (Nat.le_of_ble_eq_true rfl) (g := (mkF m 181 #[.val (.int p1), .val (.int p2), .val (.int p3), .val (.int p4), .val (.int z3), .val (.int v5), .val (.int v7), .val (.int v9), .val (.int v11), .val (.int v12), .val (.int z15), .val (.int z18), .val (.int z21), .unset, .unset, .unset, .unset, .unset, .unset] [(.int v25), (.int (1 : Int32)), (.ref b22), (.ref b22)])) rfl rfl (hb hby at_181)
  refine go st26 ?_
  have P26 : Ari Z h26 b22 ([v23, v25, (0 : Int32), (0 : Int32)] : List Int32) := V26
  have N26 := Fr.snoc X26 N24 g_b22
  have Z26 : n0 ≤ h26.size := Nat.le_trans Z24 (Nat.le_of_eq W26.size.symm)
  show Go p e below _ (T26.setTop (mkF m 182 #[.val (.int p1), .val (.int p2), .val (.int p3), .val (.int p4), .val (.int z3), .val (.int v5), .val (.int v7), .val (.int v9), .val (.int v11), .val (.int v12), .val (.int z15), .val (.int z18), .val (.int z21), .unset, .unset, .unset, .unset, .unset, .unset] [(.ref b22)]))
  refine go (fun _ q => XS.dup X26.here hx rfl (hb hby at_182) rfl rfl q) ?_
  show Go p e below _ (T26.setTop (mkF m 183 #[.val (.int p1), .val (.int p2), .val (.int p3), .val (.int p4), .val (.int z3), .val (.int v5), .val (.int v7), .val (.int v9), .val (.int v11), .val (.int v12), .val (.int z15), .val (.int z18), .val (.int z21), .unset, .unset, .unset, .unset, .unset, .unset] [(.ref b22), (.ref b22)]))
  refine go (fun _ q => XS.iconst X26.here hx rfl (hb hby at_183) q) ?_
  show Go p e below _ (T26.setTop (mkF m 184 #[.val (.int p1), .val (.int p2), .val (.int p3), .val (.int p4), .val (.int z3), .val (.int v5), .val (.int v7), .val (.int v9), .val (.int v11), .val (.int v12), .val (.int z15), .val (.int z18), .val (.int z21), .unset, .unset, .unset, .unset, .unset, .unset] [(.int (2 : Int32)), (.ref b22), (.ref b22)]))
  refine go (fun _ q => XS.iload X26.here hx rfl (hb hby at_184) rfl q) ?_
  show Go p e below _ (T26.setTop (mkF m 186 #[.val (.int p1), .val (.int p2), .val (.int p3), .val (.int p4), .val (.int z3), .val (.int v5), .val (.int v7), .val (.int v9), .val (.int v11), .val (.int v12), .val (.int z15), .val (.int z18), .val (.int z21), .unset, .unset, .unset, .unset, .unset, .unset] [(.int z3), (.int (2 : Int32)), (.ref b22), (.ref b22)]))
  refine go (fun _ q => XS.iload X26.here hx rfl (hb hby at_186) rfl q) ?_
  show Go p e below _ (T26.setTop (mkF m 188 #[.val (.int p1), .val (.int p2), .val (.int p3), .val (.int p4), .val (.int z3), .val (.int v5), .val (.int v7), .val (.int v9), .val (.int v11), .val (.int v12), .val (.int z15), .val (.int z18), .val (.int z21), .unset, .unset, .unset, .unset, .unset, .unset] [(.int z18), (.int z3), (.int (2 : Int32)), (.ref b22), (.ref b22)]))
  refine go (fun _ q => XS.iadd X26.here hx rfl (hb hby at_188) rfl q) ?_
  show Go p e below _ (T26.setTop (mkF m 189 #[.val (.int p1), .val (.int p2), .val (.int p3), .val (.int p4), .val (.int z3), .val (.int v5), .val (.int v7), .val (.int v9), .val (.int v11), .val (.int v12), .val (.int z15), .val (.int z18), .val (.int z21), .unset, .unset, .unset, .unset, .unset, .unset] [(.int (z3 + z18)), (.int (2 : Int32)), (.ref b22), (.ref b22)]))
  generalize hv27 : (z3 + z18) = v27
  show Go p e below _ (T26.setTop (mkF m 189 #[.val (.int p1), .val (.int p2), .val (.int p3), .val (.int p4), .val (.int z3), .val (.int v5), .val (.int v7), .val (.int v9), .val (.int v11), .val (.int v12), .val (.int z15), .val (.int z18), .val (.int z21), .unset, .unset, .unset, .unset, .unset, .unset] [(.int v27), (.int (2 : Int32)), (.ref b22), (.ref b22)]))
  obtain ⟨T28, h28, X28, e28, W28, V28, st28⟩ := own_iastore X26 hx hZ e26 P26 (j := (2 : Int32)) (x := v27) (by decide) (Nat.le_of_ble_eq_true rfl) (g := (mkF m 189 #[.val (.int p1), .val (.int p2), .val (.int p3), .val (.int p4), .val (.int z3), .val (.int v5), .val (.int v7), .val (.int v9), .val (.int v11), .val (.int v12), .val (.int z15), .val (.int z18), .val (.int z21), .unset, .unset, .unset, .unset, .unset, .unset] [(.int v27), (.int (2 : Int32)), (.ref b22), (.ref b22)])) rfl rfl (hb hby at_189)
  refine go st28 ?_
  have P28 : Ari Z h28 b22 ([v23, v25, v27, (0 : Int32)] : List Int32) := V28
  have N28 := Fr.snoc X28 N26 g_b22
  have Z28 : n0 ≤ h28.size := Nat.le_trans Z26 (Nat.le_of_eq W28.size.symm)
  show Go p e below _ (T28.setTop (mkF m 190 #[.val (.int p1), .val (.int p2), .val (.int p3), .val (.int p4), .val (.int z3), .val (.int v5), .val (.int v7), .val (.int v9), .val (.int v11), .val (.int v12), .val (.int z15), .val (.int z18), .val (.int z21), .unset, .unset, .unset, .unset, .unset, .unset] [(.ref b22)]))
  refine go (fun _ q => XS.dup X28.here hx rfl (hb hby at_190) rfl rfl q) ?_
  show Go p e below _ (T28.setTop (mkF m 191 #[.val (.int p1), .val (.int p2), .val (.int p3), .val (.int p4), .val (.int z3), .val (.int v5), .val (.int v7), .val (.int v9), .val (.int v11), .val (.int v12), .val (.int z15), .val (.int z18), .val (.int z21), .unset, .unset, .unset, .unset, .unset, .unset] [(.ref b22), (.ref b22)]))
  refine go (fun _ q => XS.iconst X28.here hx rfl (hb hby at_191) q) ?_
  show Go p e below _ (T28.setTop (mkF m 192 #[.val (.int p1), .val (.int p2), .val (.int p3), .val (.int p4), .val (.int z3), .val (.int v5), .val (.int v7), .val (.int v9), .val (.int v11), .val (.int v12), .val (.int z15), .val (.int z18), .val (.int z21), .unset, .unset, .unset, .unset, .unset, .unset] [(.int (3 : Int32)), (.ref b22), (.ref b22)]))
  refine go (fun _ q => XS.iload X28.here hx rfl (hb hby at_192) rfl q) ?_
  show Go p e below _ (T28.setTop (mkF m 194 #[.val (.int p1), .val (.int p2), .val (.int p3), .val (.int p4), .val (.int z3), .val (.int v5), .val (.int v7), .val (.int v9), .val (.int v11), .val (.int v12), .val (.int z15), .val (.int z18), .val (.int z21), .unset, .unset, .unset, .unset, .unset, .unset] [(.int z3), (.int (3 : Int32)), (.ref b22), (.ref b22)]))
  refine go (fun _ q => XS.iload X28.here hx rfl (hb hby at_194) rfl q) ?_
  show Go p e below _ (T28.setTop (mkF m 196 #[.val (.int p1), .val (.int p2), .val (.int p3), .val (.int p4), .val (.int z3), .val (.int v5), .val (.int v7), .val (.int v9), .val (.int v11), .val (.int v12), .val (.int z15), .val (.int z18), .val (.int z21), .unset, .unset, .unset, .unset, .unset, .unset] [(.int z21), (.int z3), (.int (3 : Int32)), (.ref b22), (.ref b22)]))
  refine go (fun _ q => XS.iadd X28.here hx rfl (hb hby at_196) rfl q) ?_
  show Go p e below _ (T28.setTop (mkF m 197 #[.val (.int p1), .val (.int p2), .val (.int p3), .val (.int p4), .val (.int z3), .val (.int v5), .val (.int v7), .val (.int v9), .val (.int v11), .val (.int v12), .val (.int z15), .val (.int z18), .val (.int z21), .unset, .unset, .unset, .unset, .unset, .unset] [(.int (z3 + z21)), (.int (3 : Int32)), (.ref b22), (.ref b22)]))
  generalize hv29 : (z3 + z21) = v29
  show Go p e below _ (T28.setTop (mkF m 197 #[.val (.int p1), .val (.int p2), .val (.int p3), .val (.int p4), .val (.int z3), .val (.int v5), .val (.int v7), .val (.int v9), .val (.int v11), .val (.int v12), .val (.int z15), .val (.int z18), .val (.int z21), .unset, .unset, .unset, .unset, .unset, .unset] [(.int v29), (.int (3 : Int32)), (.ref b22), (.ref b22)]))
  obtain ⟨T30, h30, X30, e30, W30, V30, st30⟩ := own_iastore X28 hx hZ e28 P28 (j := (3 : Int32)) (x := v29) (by decide) (Nat.le_of_ble_eq_true rfl) (g := (mkF m 197 #[.val (.int p1), .val (.int p2), .val (.int p3), .val (.int p4), .val (.int z3), .val (.int v5), .val (.int v7), .val (.int v9), .val (.int v11), .val (.int v12), .val (.int z15), .val (.int z18), .val (.int z21), .unset, .unset, .unset, .unset, .unset, .unset] [(.int v29), (.int (3 : Int32)), (.ref b22), (.ref b22)])) rfl rfl (hb hby at_197)
  refine go st30 ?_
  have P30 : Ari Z h30 b22 ([v23, v25, v27, v29] : List Int32) := V30
  have N30 := Fr.snoc X30 N28 g_b22
  have Z30 : n0 ≤ h30.size := Nat.le_trans Z28 (Nat.le_of_eq W30.size.symm)
  show Go p e below _ (T30.setTop (mkF m 198 #[.val (.int p1), .val (.int p2), .val (.int p3), .val (.int p4), .val (.int z3), .val (.int v5), .val (.int v7), .val (.int v9), .val (.int v11), .val (.int v12), .val (.int z15), .val (.int z18), .val (.int z21), .unset, .unset, .unset, .unset, .unset, .unset] [(.ref b22)]))
  refine go (fun _ q => XS.astore X30.here hx rfl (hb hby at_198) rfl rfl (l' := #[.val (.int p1), .val (.int p2), .val (.int p3), .val (.int p4), .val (.int z3), .val (.int v5), .val (.int v7), .val (.int v9), .val (.int v11), .val (.int v12), .val (.int z15), .val (.int z18), .val (.int z21), .val (.ref b22), .unset, .unset, .unset, .unset, .unset]) rfl q) ?_
  show Go p e below _ (T30.setTop (mkF m 200 #[.val (.int p1), .val (.int p2), .val (.int p3), .val (.int p4), .val (.int z3), .val (.int v5), .val (.int v7), .val (.int v9), .val (.int v11), .val (.int v12), .val (.int z15), .val (.int z18), .val (.int z21), .val (.ref b22), .unset, .unset, .unset, .unset, .unset] []))
  refine go (fun _ q => XS.iconst X30.here hx rfl (hb hby at_200) q) ?_
  show Go p e below _ (T30.setTop (mkF m 201 #[.val (.int p1), .val (.int p2), .val (.int p3), .val (.int p4), .val (.int z3), .val (.int v5), .val (.int v7), .val (.int v9), .val (.int v11), .val (.int v12), .val (.int z15), .val (.int z18), .val (.int z21), .val (.ref b22), .unset, .unset, .unset, .unset, .unset] [(.int (4 : Int32))]))
  obtain ⟨T31, h31, k31, X31, e31, E31, A31, st31⟩ := newP X30 hx hZ (hw _ (List.mem_of_getElem? (i := 5) rfl)) e30 (g := (mkF m 201 #[.val (.int p1), .val (.int p2), .val (.int p3), .val (.int p4), .val (.int z3), .val (.int v5), .val (.int v7), .val (.int v9), .val (.int v11), .val (.int v12), .val (.int z15), .val (.int z18), .val (.int z21), .val (.ref b22), .unset, .unset, .unset, .unset, .unset] [(.int (4 : Int32))])) rfl (hb hby at_201) rfl (by decide) (cap := 4) (by decide) (by decide) (by decide) (by decide)
  obtain ⟨b31, g31⟩ : ∃ z, z = h30.size := ⟨_, rfl⟩
  rw [← g31] at A31 st31
  refine go st31 ?_
  have ne_b22_b31 : b22 ≠ b31 := Nat.ne_of_lt (Nat.lt_of_lt_of_le P30.lt (Nat.le_of_eq g31.symm))
  have g_b31 : n0 ≤ b31 := Nat.le_trans Z30 (Nat.le_of_eq g31.symm)
  have Z31 : n0 ≤ h31.size := Nat.le_trans Z30 E31.1
  have P_32 : Ari Z h31 b22 ([v23, v25, v27, v29] : List Int32) := P30.ext E31
  have P31 : Ari Z h31 b31 ([(0 : Int32), (0 : Int32), (0 : Int32), (0 : Int32)] : List Int32) := own_fresh A31 (by decide) (m := 4) rfl
  show Go p e below _ (T31.setTop (mkF m 203 #[.val (.int p1), .val (.int p2), .val (.int p3), .val (.int p4), .val (.int z3), .val (.int v5), .val (.int v7), .val (.int v9), .val (.int v11), .val (.int v12), .val (.int z15), .val (.int z18), .val (.int z21), .val (.ref b22), .unset, .unset, .unset, .unset, .unset] [(.ref b31)]))
  refine go (fun _ q => XS.dup X31.here hx rfl (hb hby at_203) rfl rfl q) ?_
  show Go p e below _ (T31.setTop (mkF m 204 #[.val (.int p1), .val (.int p2), .val (.int p3), .val (.int p4), .val (.int z3), .val (.int v5), .val (.int v7), .val (.int v9), .val (.int v11), .val (.int v12), .val (.int z15), .val (.int z18), .val (.int z21), .val (.ref b22), .unset, .unset, .unset, .unset, .unset] [(.ref b31), (.ref b31)]))
  refine go (fun _ q => XS.iconst X31.here hx rfl (hb hby at_204) q) ?_
  show Go p e below _ (T31.setTop (mkF m 205 #[.val (.int p1), .val (.int p2), .val (.int p3), .val (.int p4), .val (.int z3), .val (.int v5), .val (.int v7), .val (.int v9), .val (.int v11), .val (.int v12), .val (.int z15), .val (.int z18), .val (.int z21), .val (.ref b22), .unset, .unset, .unset, .unset, .unset] [(.int (0 : Int32)), (.ref b31), (.ref b31)]))
  refine go (fun _ q => XS.iload X31.here hx rfl (hb hby at_205) rfl q) ?_
  show Go p e below _ (T31.setTop (mkF m 207 #[.val (.int p1), .val (.int p2), .val (.int p3), .val (.int p4), .val (.int z3), .val (.int v5), .val (.int v7), .val (.int v9), .val (.int v11), .val (.int v12), .val (.int z15), .val (.int z18), .val (.int z21), .val (.ref b22), .unset, .unset, .unset, .unset, .unset] [(.int v5), (.int (0 : Int32)), (.ref b31), (.ref b31)]))
  obtain ⟨T33, h33, X33, e33, W33, V33, st33⟩ := own_iastore X31 hx hZ e31 P31 (j := (0 : Int32)) (x := v5) (by decide) (Nat.le_of_ble_eq_true rfl) (g := (mkF m 207 #[.val (.int p1), .val (.int p2), .val (.int p3), .val (.int p4), .val (.int z3), .val (.int v5), .val (.int v7), .val (.int v9), .val (.int v11), .val (.int v12), .val (.int z15), .val (.int z18), .val (.int z21), .val (.ref b22), .unset, .unset, .unset, .unset, .unset] [(.int v5), (.int (0 : Int32)), (.ref b31), (.ref b31)])) rfl rfl (hb hby at_207)
  refine go st33 ?_
  have P33 : Ari Z h33 b31 ([v5, (0 : Int32), (0 : Int32), (0 : Int32)] : List Int32) := V33
  have P_34 : Ari Z h33 b22 ([v23, v25, v27, v29] : List Int32) := P_32.other W33 ne_b22_b31
  have N33 := Fr.snoc X33 N30 g_b31
  have Z33 : n0 ≤ h33.size := Nat.le_trans Z31 (Nat.le_of_eq W33.size.symm)
  show Go p e below _ (T33.setTop (mkF m 208 #[.val (.int p1), .val (.int p2), .val (.int p3), .val (.int p4), .val (.int z3), .val (.int v5), .val (.int v7), .val (.int v9), .val (.int v11), .val (.int v12), .val (.int z15), .val (.int z18), .val (.int z21), .val (.ref b22), .unset, .unset, .unset, .unset, .unset] [(.ref b31)]))
  refine go (fun _ q => XS.dup X33.here hx rfl (hb hby at_208) rfl rfl q) ?_
  show Go p e below _ (T33.setTop (mkF m 209 #[.val (.int p1), .val (.int p2), .val (.int p3), .val (.int p4), .val (.int z3), .val (.int v5), .val (.int v7), .val (.int v9), .val (.int v11), .val (.int v12), .val (.int z15), .val (.int z18), .val (.int z21), .val (.ref b22), .unset, .unset, .unset, .unset, .unset] [(.ref b31), (.ref b31)]))
  refine go (fun _ q => XS.iconst X33.here hx rfl (hb hby at_209) q) ?_
  show Go p e below _ (T33.setTop (mkF m 210 #[.val (.int p1), .val (.int p2), .val (.int p3), .val (.int p4), .val (.int z3), .val (.int v5), .val (.int v7), .val (.int v9), .val (.int v11), .val (.int v12), .val (.int z15), .val (.int z18), .val (.int z21), .val (.ref b22), .unset, .unset, .unset, .unset, .unset] [(.int (1 : Int32)), (.ref b31), (.ref b31)]))
  refine go (fun _ q => XS.iload X33.here hx rfl (hb hby at_210) rfl q) ?_
  show Go p e below _ (T33.setTop (mkF m 212 #[.val (.int p1), .val (.int p2), .val (.int p3), .val (.int p4), .val (.int z3), .val (.int v5), .val (.int v7), .val (.int v9), .val (.int v11), .val (.int v12), .val (.int z15), .val (.int z18), .val (.int z21), .val (.ref b22), .unset, .unset, .unset, .unset, .unset] [(.int v7), (.int (1 : Int32)), (.ref b31), (.ref b31)]))
  obtain ⟨T35, h35, X35, e35, W35, V35, st35⟩ := own_iastore X33 hx hZ e33 P33 (j := (1 : Int32)) (x := v7) (by decide) (Nat.le_of_ble_eq_true rfl) (g := (mkF m 212 #[.val (.int p1), .val (.int p2), .val (.int p3), .val (.int p4), .val (.int z3), .val (.int v5), .val (.int v7), .val (.int v9), .val (.int v11), .val (.int v12), .val (.int z15), .val (.int z18), .val (.int z21), .val (.ref b22), .unset, .unset, .unset, .unset, .unset] [(.int v7), (.int (1 : Int32)), (.ref b31), (.ref b31)])) rfl rfl (hb hby at_212)
  refine go st35 ?_
  have P35 : Ari Z h35 b31 ([v5, v7, (0 : Int32), (0 : Int32)] : List Int32) := V35
  have P_36 : Ari Z h35 b22 ([v23, v25, v27, v29] : List Int32) := P_34.other W35 ne_b22_b31
  have N35 := Fr.snoc X35 N33 g_b31
  have Z35 : n0 ≤ h35.size := Nat.le_trans Z33 (Nat.le_of_eq W35.size.symm)
  show Go p e below _ (T35.setTop (mkF m 213 #[.val (.int p1), .val (.int p2), .val (.int p3), .val (.int p4), .val (.int z3), .val (.int v5), .val (.int v7), .val (.int v9), .val (.int v11), .val (.int v12), .val (.int z15), .val (.int z18), .val (.int z21), .val (.ref b22), .unset, .unset, .unset, .unset, .unset] [(.ref b31)]))
  refine go (fun _ q => XS.dup X35.here hx rfl (hb hby at_213) rfl rfl q) ?_
  show Go p e below _ (T35.setTop (mkF m 214 #[.val (.int p1), .val (.int p2), .val (.int p3), .val (.int p4), .val (.int z3), .val (.int v5), .val (.int v7), .val (.int v9), .val (.int v11), .val (.int v12), .val (.int z15), .val (.int z18), .val (.int z21), .val (.ref b22), .unset, .unset, .unset, .unset, .unset] [(.ref b31), (.ref b31)]))
  refine go (fun _ q => XS.iconst X35.here hx rfl (hb hby at_214) q) ?_
  show Go p e below _ (T35.setTop (mkF m 215 #[.val (.int p1), .val (.int p2), .val (.int p3), .val (.int p4), .val (.int z3), .val (.int v5), .val (.int v7), .val (.int v9), .val (.int v11), .val (.int v12), .val (.int z15), .val (.int z18), .val (.int z21), .val (.ref b22), .unset, .unset, .unset, .unset, .unset] [(.int (2 : Int32)), (.ref b31), (.ref b31)]))
  refine go (fun _ q => XS.iload X35.here hx rfl (hb hby at_215) rfl q) ?_
  show Go p e below _ (T35.setTop (mkF m 217 #[.val (.int p1), .val (.int p2), .val (.int p3), .val (.int p4), .val (.int z3), .val (.int v5), .val (.int v7), .val (.int v9), .val (.int v11), .val (.int v12), .val (.int z15), .val (.int z18), .val (.int z21), .val (.ref b22), .unset, .unset, .unset, .unset, .unset] [(.int v9), (.int (2 : Int32)), (.ref b31), (.ref b31)]))
  obtain ⟨T37, h37, X37, e37, W37, V37, st37⟩ := own_iastore X35 hx hZ e35 P35 (j := (2 : Int32)) (x := v9) (by decide) (Nat.le_of_ble_eq_true rfl) (g := (mkF m 217 #[.val (.int p1), .val (.int p2), .val (.int p3), .val (.int p4), .val (.int z3), .val (.int v5), .val (.int v7), .val (.int v9), .val (.int v11), .val (.int v12), .val (.int z15), .val (.int z18), .val (.int z21), .val (.ref b22), .unset, .unset, .unset, .unset, .unset] [(.int v9), (.int (2 : Int32)), (.ref b31), (.ref b31)])) rfl rfl (hb hby at_217)
  refine go st37 ?_
  have P37 : Ari Z h37 b31 ([v5, v7, v9, (0 : Int32)] : List Int32) := V37
  have P_38 : Ari Z h37 b22 ([v23, v25, v27, v29] : List Int32) := P_36.other W37 ne_b22_b31
  have N37 := Fr.snoc X37 N35 g_b31
  have Z37 : n0 ≤ h37.size := Nat.le_trans Z35 (Nat.le_of_eq W37.size.symm)
  show Go p e below _ (T37.setTop (mkF m 218 #[.val (.int p1), .val (.int p2), .val (.int p3), .val (.int p4), .val (.int z3), .val (.int v5), .val (.int v7), .val (.int v9), .val (.int v11), .val (.int v12), .val (.int z15), .val (.int z18), .val (.int z21), .val (.ref b22), .unset, .unset, .unset, .unset, .unset] [(.ref b31)]))
  refine go (fun _ q => XS.dup X37.here hx rfl (hb hby at_218) rfl rfl q) ?_
  show Go p e below _ (T37.setTop (mkF m 219 #[.val (.int p1), .val (.int p2), .val (.int p3), .val (.int p4), .val (.int z3), .val (.int v5), .val (.int v7), .val (.int v9), .val (.int v11), .val (.int v12), .val (.int z15), .val (.int z18), .val (.int z21), .val (.ref b22), .unset, .unset, .unset, .unset, .unset] [(.ref b31), (.ref b31)]))
  refine go (fun _ q => XS.iconst X37.here hx rfl (hb hby at_219) q) ?_
  show Go p e below _ (T37.setTop (mkF m 220 #[.val (.int p1), .val (.int p2), .val (.int p3), .val (.int p4), .val (.int z3), .val (.int v5), .val (.int v7), .val (.int v9), .val (.int v11), .val (.int v12), .val (.int z15), .val (.int z18), .val (.int z21), .val (.ref b22), .unset, .unset, .unset, .unset, .unset] [(.int (3 : Int32)), (.ref b31), (.ref b31)]))
  refine go (fun _ q => XS.iload X37.here hx rfl (hb hby at_220) rfl q) ?_
  show Go p e below _ (T37.setTop (mkF m 222 #[.val (.int p1), .val (.int p2), .val (.int p3), .val (.int p4), .val (.int z3), .val (.int v5), .val (.int v7), .val (.int v9), .val (.int v11), .val (.int v12), .val (.int z15), .val (.int z18), .val (.int z21), .val (.ref b22), .unset, .unset, .unset, .unset, .unset] [(.int v11), (.int (3 : Int32)), (.ref b31), (.ref b31)]))
  obtain ⟨T39, h39, X39, e39, W39, V39, st39⟩ := own_iastore X37 hx hZ e37 P37 (j := (3 : Int32)) (x := v11) (by decide) (Nat.le_of_ble_eq_true rfl) (g := (mkF m 222 #[.val (.int p1), .val (.int p2), .val (.int p3), .val (.int p4), .val (.int z3), .val (.int v5), .val (.int v7), .val (.int v9), .val (.int v11), .val (.int v12), .val (.int z15), .val (.int z18), .val (.int z21), .val (.ref b22), .unset, .unset, .unset, .unset, .unset] [(.int v11), (.int (3 : Int32)), (.ref b31), (.ref b31)])) rfl rfl (hb hby at_222)
  refine go st39 ?_
  have P39 : Ari Z h39 b31 ([v5, v7, v9, v11] : List Int32) := V39
  have P_40 : Ari Z h39 b22 ([v23, v25, v27, v29] : List Int32) := P_38.other W39 ne_b22_b31
  have N39 := Fr.snoc X39 N37 g_b31
  have Z39 : n0 ≤ h39.size := Nat.le_trans Z37 (Nat.le_of_eq W39.size.symm)
  show Go p e below _ (T39.setTop (mkF m 223 #[.val (.int p1), .val (.int p2), .val (.int p3), .val (.int p4), .val (.int z3), .val (.int v5), .val (.int v7), .val (.int v9), .val (.int v11), .val (.int v12), .val (.int z15), .val (.int z18), .val (.int z21), .val (.ref b22), .unset, .unset, .unset, .unset, .unset] [(.ref b31)]))
  refine go (fun _ q => XS.astore X39.here hx rfl (hb hby at_223) rfl rfl (l' := #[.val (.int p1), .val (.int p2), .val (.int p3), .val (.int p4), .val (.int z3), .val (.int v5), .val (.int v7), .val (.int v9), .val (.int v11), .val (.int v12), .val (.int z15), .val (.int z18), .val (.int z21), .val (.ref b22), .val (.ref b31), .unset, .unset, .unset, .unset]) rfl q) ?_
  show Go p e below _ (T39.setTop (mkF m 225 #[.val (.int p1), .val (.int p2), .val (.int p3), .val (.int p4), .val (.int z3), .val (.int v5), .val (.int v7), .val (.int v9), .val (.int v11), .val (.int v12), .val (.int z15), .val (.int z18), .val (.int z21), .val (.ref b22), .val (.ref b31), .unset, .unset, .unset, .unset] []))
  obtain ⟨T41, h41, X41, e41, E41, A41, D41, -, st41⟩ := newO X39 hx hZ hown (hw _ (List.mem_of_getElem? (i := 6) rfl)) (hw _ (List.mem_of_getElem? (i := 7) rfl)) (hw _ (List.mem_of_getElem? (i := 8) rfl)) e39 (g := (mkF m 225 #[.val (.int p1), .val (.int p2), .val (.int p3), .val (.int p4), .val (.int z3), .val (.int v5), .val (.int v7), .val (.int v9), .val (.int v11), .val (.int v12), .val (.int z15), .val (.int z18), .val (.int z21), .val (.ref b22), .val (.ref b31), .unset, .unset, .unset, .unset] [])) rfl (hb hby at_225) (by decide) (by decide)
  obtain ⟨b41, g41⟩ : ∃ z, z = h39.size := ⟨_, rfl⟩
  rw [← g41] at A41 D41 st41
  refine go st41 ?_
  have ne_b22_b41 : b22 ≠ b41 := Nat.ne_of_lt (Nat.lt_of_lt_of_le P_40.lt (Nat.le_of_eq g41.symm))
  have ne_b31_b41 : b31 ≠ b41 := Nat.ne_of_lt (Nat.lt_of_lt_of_le P39.lt (Nat.le_of_eq g41.symm))
  have g_b41 : n0 ≤ b41 := Nat.le_trans Z39 (Nat.le_of_eq g41.symm)
  have Z41 : n0 ≤ h41.size := Nat.le_trans Z39 E41.1
  have P_42 : Ari Z h41 b22 ([v23, v25, v27, v29] : List Int32) := P_40.ext E41
  have P_43 : Ari Z h41 b31 ([v5, v7, v9, v11] : List Int32) := P39.ext E41
  have F_events_b41 : Fld Z h41 b41 "com/example/junctura/junctura/conformance/OptimalPaths" "events" "I" (.int (0 : Int32)) := D41 (Or.inr (hw _ (List.mem_of_getElem? (i := 16) rfl))) (ty := .int) (by decide)
  have F_marking_b41 : Fld Z h41 b41 "com/example/junctura/junctura/conformance/OptimalPaths" "marking" "[I" .null := D41 (Or.inr (hw _ (List.mem_of_getElem? (i := 18) rfl))) (ty := (.array .int)) (by decide)
  have F_position_b41 : Fld Z h41 b41 "com/example/junctura/junctura/conformance/OptimalPaths" "position" "[I" .null := D41 (Or.inr (hw _ (List.mem_of_getElem? (i := 20) rfl))) (ty := (.array .int)) (by decide)
  have F_start_b41 : Fld Z h41 b41 "com/example/junctura/junctura/conformance/OptimalPaths" "start" "I" (.int (0 : Int32)) := D41 (Or.inr (hw _ (List.mem_of_getElem? (i := 22) rfl))) (ty := .int) (by decide)
  have F_goal_b41 : Fld Z h41 b41 "com/example/junctura/junctura/conformance/OptimalPaths" "goal" "I" (.int (0 : Int32)) := D41 (Or.inr (hw _ (List.mem_of_getElem? (i := 24) rfl))) (ty := .int) (by decide)
  have F_cost_b41 : Fld Z h41 b41 "com/example/junctura/junctura/conformance/OptimalPaths" "cost" "I" (.int (0 : Int32)) := D41 (Or.inr (hw _ (List.mem_of_getElem? (i := 26) rfl))) (ty := .int) (by decide)
  have F_logMoves_b41 : Fld Z h41 b41 "com/example/junctura/junctura/conformance/OptimalPaths" "logMoves" "I" (.int (0 : Int32)) := D41 (Or.inr (hw _ (List.mem_of_getElem? (i := 28) rfl))) (ty := .int) (by decide)
  have F_firstAt_b41 : Fld Z h41 b41 "com/example/junctura/junctura/conformance/OptimalPaths" "firstAt" "[I" .null := D41 (Or.inr (hw _ (List.mem_of_getElem? (i := 30) rfl))) (ty := (.array .int)) (by decide)
  have F_firstOut_b41 : Fld Z h41 b41 "com/example/junctura/junctura/conformance/OptimalPaths" "firstOut" "[I" .null := D41 (Or.inr (hw _ (List.mem_of_getElem? (i := 35) rfl))) (ty := (.array .int)) (by decide)
  have F_firstIn_b41 : Fld Z h41 b41 "com/example/junctura/junctura/conformance/OptimalPaths" "firstIn" "[I" .null := D41 (Or.inr (hw _ (List.mem_of_getElem? (i := 37) rfl))) (ty := (.array .int)) (by decide)
  have F_target_b41 : Fld Z h41 b41 "com/example/junctura/junctura/conformance/OptimalPaths" "target" "[I" .null := D41 (Or.inr (hw _ (List.mem_of_getElem? (i := 39) rfl))) (ty := (.array .int)) (by decide)
  have F_transition_b41 : Fld Z h41 b41 "com/example/junctura/junctura/conformance/OptimalPaths" "transition" "[I" .null := D41 (Or.inr (hw _ (List.mem_of_getElem? (i := 41) rfl))) (ty := (.array .int)) (by decide)
  have F_source_b41 : Fld Z h41 b41 "com/example/junctura/junctura/conformance/OptimalPaths" "source" "[I" .null := D41 (Or.inr (hw _ (List.mem_of_getElem? (i := 43) rfl))) (ty := (.array .int)) (by decide)
  show Go p e below _ (T41.setTop (mkF m 228 #[.val (.int p1), .val (.int p2), .val (.int p3), .val (.int p4), .val (.int z3), .val (.int v5), .val (.int v7), .val (.int v9), .val (.int v11), .val (.int v12), .val (.int z15), .val (.int z18), .val (.int z21), .val (.ref b22), .val (.ref b31), .unset, .unset, .unset, .unset] [(.ref b41)]))
  refine go (fun _ q => XS.dup X41.here hx rfl (hb hby at_228) rfl rfl q) ?_
  show Go p e below _ (T41.setTop (mkF m 229 #[.val (.int p1), .val (.int p2), .val (.int p3), .val (.int p4), .val (.int z3), .val (.int v5), .val (.int v7), .val (.int v9), .val (.int v11), .val (.int v12), .val (.int z15), .val (.int z18), .val (.int z21), .val (.ref b22), .val (.ref b31), .unset, .unset, .unset, .unset] [(.ref b41), (.ref b41)]))
  refine go (fun _ q => XS.iconst X41.here hx rfl (hb hby at_229) q) ?_
  show Go p e below _ (T41.setTop (mkF m 230 #[.val (.int p1), .val (.int p2), .val (.int p3), .val (.int p4), .val (.int z3), .val (.int v5), .val (.int v7), .val (.int v9), .val (.int v11), .val (.int v12), .val (.int z15), .val (.int z18), .val (.int z21), .val (.ref b22), .val (.ref b31), .unset, .unset, .unset, .unset] [(.int (2 : Int32)), (.ref b41), (.ref b41)]))
  refine go (fun _ q => XS.aload X41.here hx rfl (hb hby at_230) rfl rfl q) ?_
  show Go p e below _ (T41.setTop (mkF m 232 #[.val (.int p1), .val (.int p2), .val (.int p3), .val (.int p4), .val (.int z3), .val (.int v5), .val (.int v7), .val (.int v9), .val (.int v11), .val (.int v12), .val (.int z15), .val (.int z18), .val (.int z21), .val (.ref b22), .val (.ref b31), .unset, .unset, .unset, .unset] [(.ref b22), (.int (2 : Int32)), (.ref b41), (.ref b41)]))
  refine go (fun _ q => XS.aload X41.here hx rfl (hb hby at_232) rfl rfl q) ?_
  show Go p e below _ (T41.setTop (mkF m 234 #[.val (.int p1), .val (.int p2), .val (.int p3), .val (.int p4), .val (.int z3), .val (.int v5), .val (.int v7), .val (.int v9), .val (.int v11), .val (.int v12), .val (.int z15), .val (.int z18), .val (.int z21), .val (.ref b22), .val (.ref b31), .unset, .unset, .unset, .unset] [(.ref b31), (.ref b22), (.int (2 : Int32)), (.ref b41), (.ref b41)]))
  refine go (fun _ q => XS.iconst X41.here hx rfl (hb hby at_234) q) ?_
  show Go p e below _ (T41.setTop (mkF m 235 #[.val (.int p1), .val (.int p2), .val (.int p3), .val (.int p4), .val (.int z3), .val (.int v5), .val (.int v7), .val (.int v9), .val (.int v11), .val (.int v12), .val (.int z15), .val (.int z18), .val (.int z21), .val (.ref b22), .val (.ref b31), .unset, .unset, .unset, .unset] [(.int (0 : Int32)), (.ref b31), (.ref b22), (.int (2 : Int32)), (.ref b41), (.ref b41)]))
  obtain ⟨T44, h44, k44, X44, e44, E44, A44, st44⟩ := newP X41 hx hZ (hw _ (List.mem_of_getElem? (i := 5) rfl)) e41 (g := (mkF m 235 #[.val (.int p1), .val (.int p2), .val (.int p3), .val (.int p4), .val (.int z3), .val (.int v5), .val (.int v7), .val (.int v9), .val (.int v11), .val (.int v12), .val (.int z15), .val (.int z18), .val (.int z21), .val (.ref b22), .val (.ref b31), .unset, .unset, .unset, .unset] [(.int (0 : Int32)), (.ref b31), (.ref b22), (.int (2 : Int32)), (.ref b41), (.ref b41)])) rfl (hb hby at_235) rfl (by decide) (cap := 0) (by decide) (by decide) (by decide) (by decide)
  obtain ⟨b44, g44⟩ : ∃ z, z = h41.size := ⟨_, rfl⟩
  rw [← g44] at A44 st44
  refine go st44 ?_
  have ne_b22_b44 : b22 ≠ b44 := Nat.ne_of_lt (Nat.lt_of_lt_of_le P_42.lt (Nat.le_of_eq g44.symm))
  have ne_b31_b44 : b31 ≠ b44 := Nat.ne_of_lt (Nat.lt_of_lt_of_le P_43.lt (Nat.le_of_eq g44.symm))
  have ne_b41_b44 : b41 ≠ b44 := Nat.ne_of_lt (Nat.lt_of_lt_of_le A41.lt (Nat.le_of_eq g44.symm))
  have g_b44 : n0 ≤ b44 := Nat.le_trans Z41 (Nat.le_of_eq g44.symm)
  have Z44 : n0 ≤ h44.size := Nat.le_trans Z41 E44.1
  have P_45 : Ari Z h44 b22 ([v23, v25, v27, v29] : List Int32) := P_42.ext E44
  have P_46 : Ari Z h44 b31 ([v5, v7, v9, v11] : List Int32) := P_43.ext E44
  have E_b41_47 : Exa Z h44 b41 "com/example/junctura/junctura/conformance/OptimalPaths" := A41.ext E44
  have F_events_b41_48 : Fld Z h44 b41 "com/example/junctura/junctura/conformance/OptimalPaths" "events" "I" (.int (0 : Int32)) := F_events_b41.ext E44
  have F_marking_b41_49 : Fld Z h44 b41 "com/example/junctura/junctura/conformance/OptimalPaths" "marking" "[I" .null := F_marking_b41.ext E44
  have F_position_b41_50 : Fld Z h44 b41 "com/example/junctura/junctura/conformance/OptimalPaths" "position" "[I" .null := F_position_b41.ext E44
  have F_start_b41_51 : Fld Z h44 b41 "com/example/junctura/junctura/conformance/OptimalPaths" "start" "I" (.int (0 : Int32)) := F_start_b41.ext E44
  have F_goal_b41_52 : Fld Z h44 b41 "com/example/junctura/junctura/conformance/OptimalPaths" "goal" "I" (.int (0 : Int32)) := F_goal_b41.ext E44
  have F_cost_b41_53 : Fld Z h44 b41 "com/example/junctura/junctura/conformance/OptimalPaths" "cost" "I" (.int (0 : Int32)) := F_cost_b41.ext E44
  have F_logMoves_b41_54 : Fld Z h44 b41 "com/example/junctura/junctura/conformance/OptimalPaths" "logMoves" "I" (.int (0 : Int32)) := F_logMoves_b41.ext E44
  have F_firstAt_b41_55 : Fld Z h44 b41 "com/example/junctura/junctura/conformance/OptimalPaths" "firstAt" "[I" .null := F_firstAt_b41.ext E44
  have F_firstOut_b41_56 : Fld Z h44 b41 "com/example/junctura/junctura/conformance/OptimalPaths" "firstOut" "[I" .null := F_firstOut_b41.ext E44
  have F_firstIn_b41_57 : Fld Z h44 b41 "com/example/junctura/junctura/conformance/OptimalPaths" "firstIn" "[I" .null := F_firstIn_b41.ext E44
  have F_target_b41_58 : Fld Z h44 b41 "com/example/junctura/junctura/conformance/OptimalPaths" "target" "[I" .null := F_target_b41.ext E44
  have F_transition_b41_59 : Fld Z h44 b41 "com/example/junctura/junctura/conformance/OptimalPaths" "transition" "[I" .null := F_transition_b41.ext E44
  have F_source_b41_60 : Fld Z h44 b41 "com/example/junctura/junctura/conformance/OptimalPaths" "source" "[I" .null := F_source_b41.ext E44
  have P44 : Ari Z h44 b44 ([] : List Int32) := own_fresh A44 (by decide) (m := 0) rfl
  show Go p e below _ (T44.setTop (mkF m 237 #[.val (.int p1), .val (.int p2), .val (.int p3), .val (.int p4), .val (.int z3), .val (.int v5), .val (.int v7), .val (.int v9), .val (.int v11), .val (.int v12), .val (.int z15), .val (.int z18), .val (.int z21), .val (.ref b22), .val (.ref b31), .unset, .unset, .unset, .unset] [(.ref b44), (.ref b31), (.ref b22), (.int (2 : Int32)), (.ref b41), (.ref b41)]))
  refine go (fun _ q => XS.iconst X44.here hx rfl (hb hby at_237) q) ?_
  show Go p e below _ (T44.setTop (mkF m 238 #[.val (.int p1), .val (.int p2), .val (.int p3), .val (.int p4), .val (.int z3), .val (.int v5), .val (.int v7), .val (.int v9), .val (.int v11), .val (.int v12), .val (.int z15), .val (.int z18), .val (.int z21), .val (.ref b22), .val (.ref b31), .unset, .unset, .unset, .unset] [(.int (0 : Int32)), (.ref b44), (.ref b31), (.ref b22), (.int (2 : Int32)), (.ref b41), (.ref b41)]))
  obtain ⟨T61, h61, k61, X61, e61, E61, A61, st61⟩ := newP X44 hx hZ (hw _ (List.mem_of_getElem? (i := 5) rfl)) e44 (g := (mkF m 238 #[.val (.int p1), .val (.int p2), .val (.int p3), .val (.int p4), .val (.int z3), .val (.int v5), .val (.int v7), .val (.int v9), .val (.int v11), .val (.int v12), .val (.int z15), .val (.int z18), .val (.int z21), .val (.ref b22), .val (.ref b31), .unset, .unset, .unset, .unset] [(.int (0 : Int32)), (.ref b44), (.ref b31), (.ref b22), (.int (2 : Int32)), (.ref b41), (.ref b41)])) rfl (hb hby at_238) rfl (by decide) (cap := 0) (by decide) (by decide) (by decide) (by decide)
  obtain ⟨b61, g61⟩ : ∃ z, z = h44.size := ⟨_, rfl⟩
  rw [← g61] at A61 st61
  refine go st61 ?_
  have ne_b22_b61 : b22 ≠ b61 := Nat.ne_of_lt (Nat.lt_of_lt_of_le P_45.lt (Nat.le_of_eq g61.symm))
  have ne_b31_b61 : b31 ≠ b61 := Nat.ne_of_lt (Nat.lt_of_lt_of_le P_46.lt (Nat.le_of_eq g61.symm))
  have ne_b41_b61 : b41 ≠ b61 := Nat.ne_of_lt (Nat.lt_of_lt_of_le E_b41_47.lt (Nat.le_of_eq g61.symm))
  have ne_b44_b61 : b44 ≠ b61 := Nat.ne_of_lt (Nat.lt_of_lt_of_le P44.lt (Nat.le_of_eq g61.symm))
  have g_b61 : n0 ≤ b61 := Nat.le_trans Z44 (Nat.le_of_eq g61.symm)
  have Z61 : n0 ≤ h61.size := Nat.le_trans Z44 E61.1
  have P_62 : Ari Z h61 b22 ([v23, v25, v27, v29] : List Int32) := P_45.ext E61
  have P_63 : Ari Z h61 b31 ([v5, v7, v9, v11] : List Int32) := P_46.ext E61
  have E_b41_64 : Exa Z h61 b41 "com/example/junctura/junctura/conformance/OptimalPaths" := E_b41_47.ext E61
  have F_events_b41_65 : Fld Z h61 b41 "com/example/junctura/junctura/conformance/OptimalPaths" "events" "I" (.int (0 : Int32)) := F_events_b41_48.ext E61
  have F_marking_b41_66 : Fld Z h61 b41 "com/example/junctura/junctura/conformance/OptimalPaths" "marking" "[I" .null := F_marking_b41_49.ext E61
  have F_position_b41_67 : Fld Z h61 b41 "com/example/junctura/junctura/conformance/OptimalPaths" "position" "[I" .null := F_position_b41_50.ext E61
  have F_start_b41_68 : Fld Z h61 b41 "com/example/junctura/junctura/conformance/OptimalPaths" "start" "I" (.int (0 : Int32)) := F_start_b41_51.ext E61
  have F_goal_b41_69 : Fld Z h61 b41 "com/example/junctura/junctura/conformance/OptimalPaths" "goal" "I" (.int (0 : Int32)) := F_goal_b41_52.ext E61
  have F_cost_b41_70 : Fld Z h61 b41 "com/example/junctura/junctura/conformance/OptimalPaths" "cost" "I" (.int (0 : Int32)) := F_cost_b41_53.ext E61
  have F_logMoves_b41_71 : Fld Z h61 b41 "com/example/junctura/junctura/conformance/OptimalPaths" "logMoves" "I" (.int (0 : Int32)) := F_logMoves_b41_54.ext E61
  have F_firstAt_b41_72 : Fld Z h61 b41 "com/example/junctura/junctura/conformance/OptimalPaths" "firstAt" "[I" .null := F_firstAt_b41_55.ext E61
  have F_firstOut_b41_73 : Fld Z h61 b41 "com/example/junctura/junctura/conformance/OptimalPaths" "firstOut" "[I" .null := F_firstOut_b41_56.ext E61
  have F_firstIn_b41_74 : Fld Z h61 b41 "com/example/junctura/junctura/conformance/OptimalPaths" "firstIn" "[I" .null := F_firstIn_b41_57.ext E61
  have F_target_b41_75 : Fld Z h61 b41 "com/example/junctura/junctura/conformance/OptimalPaths" "target" "[I" .null := F_target_b41_58.ext E61
  have F_transition_b41_76 : Fld Z h61 b41 "com/example/junctura/junctura/conformance/OptimalPaths" "transition" "[I" .null := F_transition_b41_59.ext E61
  have F_source_b41_77 : Fld Z h61 b41 "com/example/junctura/junctura/conformance/OptimalPaths" "source" "[I" .null := F_source_b41_60.ext E61
  have P_78 : Ari Z h61 b44 ([] : List Int32) := P44.ext E61
  have P61 : Ari Z h61 b61 ([] : List Int32) := own_fresh A61 (by decide) (m := 0) rfl
  show Go p e below _ (T61.setTop (mkF m 240 #[.val (.int p1), .val (.int p2), .val (.int p3), .val (.int p4), .val (.int z3), .val (.int v5), .val (.int v7), .val (.int v9), .val (.int v11), .val (.int v12), .val (.int z15), .val (.int z18), .val (.int z21), .val (.ref b22), .val (.ref b31), .unset, .unset, .unset, .unset] [(.ref b61), (.ref b44), (.ref b31), (.ref b22), (.int (2 : Int32)), (.ref b41), (.ref b41)]))
  refine go (fun _ q => XS.iconst X61.here hx rfl (hb hby at_240) q) ?_
  show Go p e below _ (T61.setTop (mkF m 241 #[.val (.int p1), .val (.int p2), .val (.int p3), .val (.int p4), .val (.int z3), .val (.int v5), .val (.int v7), .val (.int v9), .val (.int v11), .val (.int v12), .val (.int z15), .val (.int z18), .val (.int z21), .val (.ref b22), .val (.ref b31), .unset, .unset, .unset, .unset] [(.int (0 : Int32)), (.ref b61), (.ref b44), (.ref b31), (.ref b22), (.int (2 : Int32)), (.ref b41), (.ref b41)]))
  obtain ⟨T79, h79, k79, X79, e79, E79, A79, st79⟩ := newP X61 hx hZ (hw _ (List.mem_of_getElem? (i := 5) rfl)) e61 (g := (mkF m 241 #[.val (.int p1), .val (.int p2), .val (.int p3), .val (.int p4), .val (.int z3), .val (.int v5), .val (.int v7), .val (.int v9), .val (.int v11), .val (.int v12), .val (.int z15), .val (.int z18), .val (.int z21), .val (.ref b22), .val (.ref b31), .unset, .unset, .unset, .unset] [(.int (0 : Int32)), (.ref b61), (.ref b44), (.ref b31), (.ref b22), (.int (2 : Int32)), (.ref b41), (.ref b41)])) rfl (hb hby at_241) rfl (by decide) (cap := 0) (by decide) (by decide) (by decide) (by decide)
  obtain ⟨b79, g79⟩ : ∃ z, z = h61.size := ⟨_, rfl⟩
  rw [← g79] at A79 st79
  refine go st79 ?_
  have ne_b22_b79 : b22 ≠ b79 := Nat.ne_of_lt (Nat.lt_of_lt_of_le P_62.lt (Nat.le_of_eq g79.symm))
  have ne_b31_b79 : b31 ≠ b79 := Nat.ne_of_lt (Nat.lt_of_lt_of_le P_63.lt (Nat.le_of_eq g79.symm))
  have ne_b41_b79 : b41 ≠ b79 := Nat.ne_of_lt (Nat.lt_of_lt_of_le E_b41_64.lt (Nat.le_of_eq g79.symm))
  have ne_b44_b79 : b44 ≠ b79 := Nat.ne_of_lt (Nat.lt_of_lt_of_le P_78.lt (Nat.le_of_eq g79.symm))
  have ne_b61_b79 : b61 ≠ b79 := Nat.ne_of_lt (Nat.lt_of_lt_of_le P61.lt (Nat.le_of_eq g79.symm))
  have g_b79 : n0 ≤ b79 := Nat.le_trans Z61 (Nat.le_of_eq g79.symm)
  have Z79 : n0 ≤ h79.size := Nat.le_trans Z61 E79.1
  have P_80 : Ari Z h79 b22 ([v23, v25, v27, v29] : List Int32) := P_62.ext E79
  have P_81 : Ari Z h79 b31 ([v5, v7, v9, v11] : List Int32) := P_63.ext E79
  have E_b41_82 : Exa Z h79 b41 "com/example/junctura/junctura/conformance/OptimalPaths" := E_b41_64.ext E79
  have F_events_b41_83 : Fld Z h79 b41 "com/example/junctura/junctura/conformance/OptimalPaths" "events" "I" (.int (0 : Int32)) := F_events_b41_65.ext E79
  have F_marking_b41_84 : Fld Z h79 b41 "com/example/junctura/junctura/conformance/OptimalPaths" "marking" "[I" .null := F_marking_b41_66.ext E79
  have F_position_b41_85 : Fld Z h79 b41 "com/example/junctura/junctura/conformance/OptimalPaths" "position" "[I" .null := F_position_b41_67.ext E79
  have F_start_b41_86 : Fld Z h79 b41 "com/example/junctura/junctura/conformance/OptimalPaths" "start" "I" (.int (0 : Int32)) := F_start_b41_68.ext E79
  have F_goal_b41_87 : Fld Z h79 b41 "com/example/junctura/junctura/conformance/OptimalPaths" "goal" "I" (.int (0 : Int32)) := F_goal_b41_69.ext E79
  have F_cost_b41_88 : Fld Z h79 b41 "com/example/junctura/junctura/conformance/OptimalPaths" "cost" "I" (.int (0 : Int32)) := F_cost_b41_70.ext E79
  have F_logMoves_b41_89 : Fld Z h79 b41 "com/example/junctura/junctura/conformance/OptimalPaths" "logMoves" "I" (.int (0 : Int32)) := F_logMoves_b41_71.ext E79
  have F_firstAt_b41_90 : Fld Z h79 b41 "com/example/junctura/junctura/conformance/OptimalPaths" "firstAt" "[I" .null := F_firstAt_b41_72.ext E79
  have F_firstOut_b41_91 : Fld Z h79 b41 "com/example/junctura/junctura/conformance/OptimalPaths" "firstOut" "[I" .null := F_firstOut_b41_73.ext E79
  have F_firstIn_b41_92 : Fld Z h79 b41 "com/example/junctura/junctura/conformance/OptimalPaths" "firstIn" "[I" .null := F_firstIn_b41_74.ext E79
  have F_target_b41_93 : Fld Z h79 b41 "com/example/junctura/junctura/conformance/OptimalPaths" "target" "[I" .null := F_target_b41_75.ext E79
  have F_transition_b41_94 : Fld Z h79 b41 "com/example/junctura/junctura/conformance/OptimalPaths" "transition" "[I" .null := F_transition_b41_76.ext E79
  have F_source_b41_95 : Fld Z h79 b41 "com/example/junctura/junctura/conformance/OptimalPaths" "source" "[I" .null := F_source_b41_77.ext E79
  have P_96 : Ari Z h79 b44 ([] : List Int32) := P_78.ext E79
  have P_97 : Ari Z h79 b61 ([] : List Int32) := P61.ext E79
  have P79 : Ari Z h79 b79 ([] : List Int32) := own_fresh A79 (by decide) (m := 0) rfl
  show Go p e below _ (T79.setTop (mkF m 243 #[.val (.int p1), .val (.int p2), .val (.int p3), .val (.int p4), .val (.int z3), .val (.int v5), .val (.int v7), .val (.int v9), .val (.int v11), .val (.int v12), .val (.int z15), .val (.int z18), .val (.int z21), .val (.ref b22), .val (.ref b31), .unset, .unset, .unset, .unset] [(.ref b79), (.ref b61), (.ref b44), (.ref b31), (.ref b22), (.int (2 : Int32)), (.ref b41), (.ref b41)]))
  refine go (fun _ q => XS.iconst X79.here hx rfl (hb hby at_243) q) ?_
  show Go p e below _ (T79.setTop (mkF m 244 #[.val (.int p1), .val (.int p2), .val (.int p3), .val (.int p4), .val (.int z3), .val (.int v5), .val (.int v7), .val (.int v9), .val (.int v11), .val (.int v12), .val (.int z15), .val (.int z18), .val (.int z21), .val (.ref b22), .val (.ref b31), .unset, .unset, .unset, .unset] [(.int (0 : Int32)), (.ref b79), (.ref b61), (.ref b44), (.ref b31), (.ref b22), (.int (2 : Int32)), (.ref b41), (.ref b41)]))
  refine go (fun _ q => XS.iconst X79.here hx rfl (hb hby at_244) q) ?_
  show Go p e below _ (T79.setTop (mkF m 245 #[.val (.int p1), .val (.int p2), .val (.int p3), .val (.int p4), .val (.int z3), .val (.int v5), .val (.int v7), .val (.int v9), .val (.int v11), .val (.int v12), .val (.int z15), .val (.int z18), .val (.int z21), .val (.ref b22), .val (.ref b31), .unset, .unset, .unset, .unset] [(.int (3 : Int32)), (.int (0 : Int32)), (.ref b79), (.ref b61), (.ref b44), (.ref b31), (.ref b22), (.int (2 : Int32)), (.ref b41), (.ref b41)]))
  refine go (fun _ q => XS.iconst X79.here hx rfl (hb hby at_245) q) ?_
  show Go p e below _ (T79.setTop (mkF m 246 #[.val (.int p1), .val (.int p2), .val (.int p3), .val (.int p4), .val (.int z3), .val (.int v5), .val (.int v7), .val (.int v9), .val (.int v11), .val (.int v12), .val (.int z15), .val (.int z18), .val (.int z21), .val (.ref b22), .val (.ref b31), .unset, .unset, .unset, .unset] [(.int (0 : Int32)), (.int (3 : Int32)), (.int (0 : Int32)), (.ref b79), (.ref b61), (.ref b44), (.ref b31), (.ref b22), (.int (2 : Int32)), (.ref b41), (.ref b41)]))
  refine go (fun _ q => XS.iconst X79.here hx rfl (hb hby at_246) q) ?_
  show Go p e below _ (T79.setTop (mkF m 247 #[.val (.int p1), .val (.int p2), .val (.int p3), .val (.int p4), .val (.int z3), .val (.int v5), .val (.int v7), .val (.int v9), .val (.int v11), .val (.int v12), .val (.int z15), .val (.int z18), .val (.int z21), .val (.ref b22), .val (.ref b31), .unset, .unset, .unset, .unset] [(.int (0 : Int32)), (.int (0 : Int32)), (.int (3 : Int32)), (.int (0 : Int32)), (.ref b79), (.ref b61), (.ref b44), (.ref b31), (.ref b22), (.int (2 : Int32)), (.ref b41), (.ref b41)]))
  refine own_callC X79 hx hZ hown e79 (hw _ (List.mem_of_getElem? (i := 9) rfl)) (hw _ (List.mem_of_getElem? (i := 10) rfl)) (hw _ (List.mem_of_getElem? (i := 8) rfl)) (hw _ (List.mem_of_getElem? (i := 11) rfl)) (rm2 l Z a0 hw [] b41 b22 b31 b44 b61 b79 (0 : Int32) (3 : Int32) (0 : Int32) (0 : Int32) h79 n0 Z79 g_b41 E_b41_82 F_events_b41_83 F_marking_b41_84 F_position_b41_85 F_start_b41_86 F_goal_b41_87 F_cost_b41_88 F_logMoves_b41_89 F_firstAt_b41_90 F_firstOut_b41_91 F_firstIn_b41_92 F_target_b41_93 F_transition_b41_94 F_source_b41_95 P_80 P_81 P_96 P_97 ne_b22_b41 ne_b31_b41 (Ne.symm ne_b41_b44) (Ne.symm ne_b41_b61) own_v0 own_v1 own_v2 own_v3) rfl (by decide) (by decide) (W := 1) (by decide) (by decide) (by decide) (a := b41) (g := (mkF m 247 #[.val (.int p1), .val (.int p2), .val (.int p3), .val (.int p4), .val (.int z3), .val (.int v5), .val (.int v7), .val (.int v9), .val (.int v11), .val (.int v12), .val (.int z15), .val (.int z18), .val (.int z21), .val (.ref b22), .val (.ref b31), .unset, .unset, .unset, .unset] [(.int (0 : Int32)), (.int (0 : Int32)), (.int (3 : Int32)), (.int (0 : Int32)), (.ref b79), (.ref b61), (.ref b44), (.ref b31), (.ref b22), (.int (2 : Int32)), (.ref b41), (.ref b41)])) rfl (by rw [hml]; rfl) (argsL := [(.int (2 : Int32)), (.ref b22), (.ref b31), (.ref b44), (.ref b61), (.ref b79), (.int (0 : Int32)), (.int (3 : Int32)), (.int (0 : Int32)), (.int (0 : Int32))]) (rest := [(.ref b41)]) rfl rfl (lenOf pd_0_1 rfl) (by show 2 * 0 + _ ≤ _; exact Nat.le_of_eq rfl) (hb hby at_247) ?_
  rintro _ T98 L98 X98 ⟨rfl, N98q, Zq98, K98, Eq98, Fm98, t98, Ff98, Pt98⟩
  have N98 := Fr.app N39 N98q
  have P_99 : Ari Z T98.heap b22 ([v23, v25, v27, v29] : List Int32) := P_80.keep K98 (ninS ne_b22_b41 nin0)
  have P_100 : Ari Z T98.heap b31 ([v5, v7, v9, v11] : List Int32) := P_81.keep K98 (ninS ne_b31_b41 nin0)
  have P_101 : Ari Z T98.heap b44 ([] : List Int32) := P_96.keep K98 (ninS (Ne.symm ne_b41_b44) nin0)
  have P_102 : Ari Z T98.heap b61 ([] : List Int32) := P_97.keep K98 (ninS (Ne.symm ne_b41_b61) nin0)
  have P_103 : Ari Z T98.heap b79 ([] : List Int32) := P79.keep K98 (ninS (Ne.symm ne_b41_b79) nin0)
  show Go p e below _ (T98.setTop (mkF m 250 #[.val (.int p1), .val (.int p2), .val (.int p3), .val (.int p4), .val (.int z3), .val (.int v5), .val (.int v7), .val (.int v9), .val (.int v11), .val (.int v12), .val (.int z15), .val (.int z18), .val (.int z21), .val (.ref b22), .val (.ref b31), .unset, .unset, .unset, .unset] [(.ref b41)]))
  refine go (fun _ q => XS.astore X98.here hx rfl (hb hby at_250) rfl rfl (l' := #[.val (.int p1), .val (.int p2), .val (.int p3), .val (.int p4), .val (.int z3), .val (.int v5), .val (.int v7), .val (.int v9), .val (.int v11), .val (.int v12), .val (.int z15), .val (.int z18), .val (.int z21), .val (.ref b22), .val (.ref b31), .val (.ref b41), .unset, .unset, .unset]) rfl q) ?_
  show Go p e below _ (T98.setTop (mkF m 252 #[.val (.int p1), .val (.int p2), .val (.int p3), .val (.int p4), .val (.int z3), .val (.int v5), .val (.int v7), .val (.int v9), .val (.int v11), .val (.int v12), .val (.int z15), .val (.int z18), .val (.int z21), .val (.ref b22), .val (.ref b31), .val (.ref b41), .unset, .unset, .unset] []))
  refine go (fun _ q => XS.iloadN X98.here hx rfl (hb hby at_252) rfl q) ?_
  show Go p e below _ (T98.setTop (mkF m 253 #[.val (.int p1), .val (.int p2), .val (.int p3), .val (.int p4), .val (.int z3), .val (.int v5), .val (.int v7), .val (.int v9), .val (.int v11), .val (.int v12), .val (.int z15), .val (.int z18), .val (.int z21), .val (.ref b22), .val (.ref b31), .val (.ref b41), .unset, .unset, .unset] [(.int p4)]))
  refine go (X98.ldcInt hx hown (mvT hZ (hw _ (List.mem_of_getElem? (i := 53) rfl))) (g := (mkF m 253 #[.val (.int p1), .val (.int p2), .val (.int p3), .val (.int p4), .val (.int z3), .val (.int v5), .val (.int v7), .val (.int v9), .val (.int v11), .val (.int v12), .val (.int z15), .val (.int z18), .val (.int z21), .val (.ref b22), .val (.ref b31), .val (.ref b41), .unset, .unset, .unset] [(.int p4)])) rfl (hb hby at_253)) ?_
  show Go p e below _ (T98.setTop (mkF m 255 #[.val (.int p1), .val (.int p2), .val (.int p3), .val (.int p4), .val (.int z3), .val (.int v5), .val (.int v7), .val (.int v9), .val (.int v11), .val (.int v12), .val (.int z15), .val (.int z18), .val (.int z21), .val (.ref b22), .val (.ref b31), .val (.ref b41), .unset, .unset, .unset] [(.int (2147483647 : Int32)), (.int p4)]))
  refine go (fun _ q => XS.iand X98.here hx rfl (hb hby at_255) rfl q) ?_
  show Go p e below _ (T98.setTop (mkF m 256 #[.val (.int p1), .val (.int p2), .val (.int p3), .val (.int p4), .val (.int z3), .val (.int v5), .val (.int v7), .val (.int v9), .val (.int v11), .val (.int v12), .val (.int z15), .val (.int z18), .val (.int z21), .val (.ref b22), .val (.ref b31), .val (.ref b41), .unset, .unset, .unset] [(.int (p4 &&& (2147483647 : Int32)))]))
  refine go (fun _ q => XS.iconst X98.here hx rfl (hb hby at_256) q) ?_
  show Go p e below _ (T98.setTop (mkF m 257 #[.val (.int p1), .val (.int p2), .val (.int p3), .val (.int p4), .val (.int z3), .val (.int v5), .val (.int v7), .val (.int v9), .val (.int v11), .val (.int v12), .val (.int z15), .val (.int z18), .val (.int z21), .val (.ref b22), .val (.ref b31), .val (.ref b41), .unset, .unset, .unset] [(.int (3 : Int32)), (.int (p4 &&& (2147483647 : Int32)))]))
  refine go (fun _ q => iremM X98 hx rfl (hb hby at_257) rfl (by decide) q) ?_
  show Go p e below _ (T98.setTop (mkF m 258 #[.val (.int p1), .val (.int p2), .val (.int p3), .val (.int p4), .val (.int z3), .val (.int v5), .val (.int v7), .val (.int v9), .val (.int v11), .val (.int v12), .val (.int z15), .val (.int z18), .val (.int z21), .val (.ref b22), .val (.ref b31), .val (.ref b41), .unset, .unset, .unset] [(.int ((p4 &&& (2147483647 : Int32)) % (3 : Int32)))]))
  generalize hv104 : ((p4 &&& (2147483647 : Int32)) % (3 : Int32)) = v104
  show Go p e below _ (T98.setTop (mkF m 258 #[.val (.int p1), .val (.int p2), .val (.int p3), .val (.int p4), .val (.int z3), .val (.int v5), .val (.int v7), .val (.int v9), .val (.int v11), .val (.int v12), .val (.int z15), .val (.int z18), .val (.int z21), .val (.ref b22), .val (.ref b31), .val (.ref b41), .unset, .unset, .unset] [(.int v104)]))
  refine go (fun _ q => XS.istore X98.here hx rfl (hb hby at_258) rfl (l' := #[.val (.int p1), .val (.int p2), .val (.int p3), .val (.int p4), .val (.int z3), .val (.int v5), .val (.int v7), .val (.int v9), .val (.int v11), .val (.int v12), .val (.int z15), .val (.int z18), .val (.int z21), .val (.ref b22), .val (.ref b31), .val (.ref b41), .val (.int v104), .unset, .unset]) rfl q) ?_
  show Go p e below _ (T98.setTop (mkF m 260 #[.val (.int p1), .val (.int p2), .val (.int p3), .val (.int p4), .val (.int z3), .val (.int v5), .val (.int v7), .val (.int v9), .val (.int v11), .val (.int v12), .val (.int z15), .val (.int z18), .val (.int z21), .val (.ref b22), .val (.ref b31), .val (.ref b41), .val (.int v104), .unset, .unset] []))
  have own_pp := own_ppz hv104
  have own_gp := own_group own_v0 own_v1 own_v2 own_v3 own_s1 own_s2 own_s3 own_pp
  refine go (fun _ q => XS.iloadN X98.here hx rfl (hb hby at_260) rfl q) ?_
  show Go p e below _ (T98.setTop (mkF m 261 #[.val (.int p1), .val (.int p2), .val (.int p3), .val (.int p4), .val (.int z3), .val (.int v5), .val (.int v7), .val (.int v9), .val (.int v11), .val (.int v12), .val (.int z15), .val (.int z18), .val (.int z21), .val (.ref b22), .val (.ref b31), .val (.ref b41), .val (.int v104), .unset, .unset] [(.int p4)]))
  refine go (fun _ q => XS.bipush X98.here hx rfl (hb hby at_261) q) ?_
  show Go p e below _ (T98.setTop (mkF m 263 #[.val (.int p1), .val (.int p2), .val (.int p3), .val (.int p4), .val (.int z3), .val (.int v5), .val (.int v7), .val (.int v9), .val (.int v11), .val (.int v12), .val (.int z15), .val (.int z18), .val (.int z21), .val (.ref b22), .val (.ref b31), .val (.ref b41), .val (.int v104), .unset, .unset] [(.int (8 : Int32)), (.int p4)]))
  refine go (fun _ q => XS.iushr X98.here hx rfl (hb hby at_263) rfl q) ?_
  show Go p e below _ (T98.setTop (mkF m 264 #[.val (.int p1), .val (.int p2), .val (.int p3), .val (.int p4), .val (.int z3), .val (.int v5), .val (.int v7), .val (.int v9), .val (.int v11), .val (.int v12), .val (.int z15), .val (.int z18), .val (.int z21), .val (.ref b22), .val (.ref b31), .val (.ref b41), .val (.int v104), .unset, .unset] [(.int (((p4).toUInt32 >>> ((8 : Int32) &&& 31).toUInt32).toInt32))]))
  refine go (fun _ q => XS.iconst X98.here hx rfl (hb hby at_264) q) ?_
  show Go p e below _ (T98.setTop (mkF m 265 #[.val (.int p1), .val (.int p2), .val (.int p3), .val (.int p4), .val (.int z3), .val (.int v5), .val (.int v7), .val (.int v9), .val (.int v11), .val (.int v12), .val (.int z15), .val (.int z18), .val (.int z21), .val (.ref b22), .val (.ref b31), .val (.ref b41), .val (.int v104), .unset, .unset] [(.int (1 : Int32)), (.int (((p4).toUInt32 >>> ((8 : Int32) &&& 31).toUInt32).toInt32))]))
  refine go (fun _ q => XS.iand X98.here hx rfl (hb hby at_265) rfl q) ?_
  show Go p e below _ (T98.setTop (mkF m 266 #[.val (.int p1), .val (.int p2), .val (.int p3), .val (.int p4), .val (.int z3), .val (.int v5), .val (.int v7), .val (.int v9), .val (.int v11), .val (.int v12), .val (.int z15), .val (.int z18), .val (.int z21), .val (.ref b22), .val (.ref b31), .val (.ref b41), .val (.int v104), .unset, .unset] [(.int ((((p4).toUInt32 >>> ((8 : Int32) &&& 31).toUInt32).toInt32) &&& (1 : Int32)))]))
  suffices hj105 : ∀ (z107 : Int32), z107 = (if ((((p4).toUInt32 >>> ((8 : Int32) &&& 31).toUInt32).toInt32) &&& (1 : Int32)) = (0 : Int32) then ((z3 + (p3 &&& (31 : Int32))) - (8 : Int32)) else p3) → Go p e below (Dn below s ((Q0 n0)) room_1.cells room_1.slots) (T98.setTop (mkF m 283 #[.val (.int p1), .val (.int p2), .val (.int p3), .val (.int p4), .val (.int z3), .val (.int v5), .val (.int v7), .val (.int v9), .val (.int v11), .val (.int v12), .val (.int z15), .val (.int z18), .val (.int z21), .val (.ref b22), .val (.ref b31), .val (.ref b41), .val (.int v104), .unset, .unset] [(.int z107)])) by
    by_cases hc106 : ((((p4).toUInt32 >>> ((8 : Int32) &&& 31).toUInt32).toInt32) &&& (1 : Int32)) = (0 : Int32)
    · refine go (fun _ q => XS.ifYes X98.here hx rfl (pc0 := 266) (pc' := 273) rfl (hb hby at_266) rfl ((if0 _ _).trans (teq hc106).1) (by decide) (by decide) q) ?_
      show Go p e below _ (T98.setTop (mkF m 273 #[.val (.int p1), .val (.int p2), .val (.int p3), .val (.int p4), .val (.int z3), .val (.int v5), .val (.int v7), .val (.int v9), .val (.int v11), .val (.int v12), .val (.int z15), .val (.int z18), .val (.int z21), .val (.ref b22), .val (.ref b31), .val (.ref b41), .val (.int v104), .unset, .unset] []))
      refine go (fun _ q => XS.iload X98.here hx rfl (hb hby at_273) rfl q) ?_
      show Go p e below _ (T98.setTop (mkF m 275 #[.val (.int p1), .val (.int p2), .val (.int p3), .val (.int p4), .val (.int z3), .val (.int v5), .val (.int v7), .val (.int v9), .val (.int v11), .val (.int v12), .val (.int z15), .val (.int z18), .val (.int z21), .val (.ref b22), .val (.ref b31), .val (.ref b41), .val (.int v104), .unset, .unset] [(.int z3)]))
      refine go (fun _ q => XS.iloadN X98.here hx rfl (hb hby at_275) rfl q) ?_
      show Go p e below _ (T98.setTop (mkF m 276 #[.val (.int p1), .val (.int p2), .val (.int p3), .val (.int p4), .val (.int z3), .val (.int v5), .val (.int v7), .val (.int v9), .val (.int v11), .val (.int v12), .val (.int z15), .val (.int z18), .val (.int z21), .val (.ref b22), .val (.ref b31), .val (.ref b41), .val (.int v104), .unset, .unset] [(.int p3), (.int z3)]))
      refine go (fun _ q => XS.bipush X98.here hx rfl (hb hby at_276) q) ?_
      show Go p e below _ (T98.setTop (mkF m 278 #[.val (.int p1), .val (.int p2), .val (.int p3), .val (.int p4), .val (.int z3), .val (.int v5), .val (.int v7), .val (.int v9), .val (.int v11), .val (.int v12), .val (.int z15), .val (.int z18), .val (.int z21), .val (.ref b22), .val (.ref b31), .val (.ref b41), .val (.int v104), .unset, .unset] [(.int (31 : Int32)), (.int p3), (.int z3)]))
      refine go (fun _ q => XS.iand X98.here hx rfl (hb hby at_278) rfl q) ?_
      show Go p e below _ (T98.setTop (mkF m 279 #[.val (.int p1), .val (.int p2), .val (.int p3), .val (.int p4), .val (.int z3), .val (.int v5), .val (.int v7), .val (.int v9), .val (.int v11), .val (.int v12), .val (.int z15), .val (.int z18), .val (.int z21), .val (.ref b22), .val (.ref b31), .val (.ref b41), .val (.int v104), .unset, .unset] [(.int (p3 &&& (31 : Int32))), (.int z3)]))
      refine go (fun _ q => XS.iadd X98.here hx rfl (hb hby at_279) rfl q) ?_
      show Go p e below _ (T98.setTop (mkF m 280 #[.val (.int p1), .val (.int p2), .val (.int p3), .val (.int p4), .val (.int z3), .val (.int v5), .val (.int v7), .val (.int v9), .val (.int v11), .val (.int v12), .val (.int z15), .val (.int z18), .val (.int z21), .val (.ref b22), .val (.ref b31), .val (.ref b41), .val (.int v104), .unset, .unset] [(.int (z3 + (p3 &&& (31 : Int32))))]))
      refine go (fun _ q => XS.bipush X98.here hx rfl (hb hby at_280) q) ?_
      show Go p e below _ (T98.setTop (mkF m 282 #[.val (.int p1), .val (.int p2), .val (.int p3), .val (.int p4), .val (.int z3), .val (.int v5), .val (.int v7), .val (.int v9), .val (.int v11), .val (.int v12), .val (.int z15), .val (.int z18), .val (.int z21), .val (.ref b22), .val (.ref b31), .val (.ref b41), .val (.int v104), .unset, .unset] [(.int (8 : Int32)), (.int (z3 + (p3 &&& (31 : Int32))))]))
      refine go (fun _ q => XS.isub X98.here hx rfl (hb hby at_282) rfl q) ?_
      show Go p e below _ (T98.setTop (mkF m 283 #[.val (.int p1), .val (.int p2), .val (.int p3), .val (.int p4), .val (.int z3), .val (.int v5), .val (.int v7), .val (.int v9), .val (.int v11), .val (.int v12), .val (.int z15), .val (.int z18), .val (.int z21), .val (.ref b22), .val (.ref b31), .val (.ref b41), .val (.int v104), .unset, .unset] [(.int ((z3 + (p3 &&& (31 : Int32))) - (8 : Int32)))]))
      exact hj105 _ (by rw [if_pos hc106])
    · refine go (fun _ q => XS.ifNo X98.here hx rfl (hb hby at_266) rfl ((if0 _ _).trans (feq hc106).1) q) ?_
      show Go p e below _ (T98.setTop (mkF m 269 #[.val (.int p1), .val (.int p2), .val (.int p3), .val (.int p4), .val (.int z3), .val (.int v5), .val (.int v7), .val (.int v9), .val (.int v11), .val (.int v12), .val (.int z15), .val (.int z18), .val (.int z21), .val (.ref b22), .val (.ref b31), .val (.ref b41), .val (.int v104), .unset, .unset] []))
      refine go (fun _ q => XS.iloadN X98.here hx rfl (hb hby at_269) rfl q) ?_
      show Go p e below _ (T98.setTop (mkF m 270 #[.val (.int p1), .val (.int p2), .val (.int p3), .val (.int p4), .val (.int z3), .val (.int v5), .val (.int v7), .val (.int v9), .val (.int v11), .val (.int v12), .val (.int z15), .val (.int z18), .val (.int z21), .val (.ref b22), .val (.ref b31), .val (.ref b41), .val (.int v104), .unset, .unset] [(.int p3)]))
      refine go (fun _ q => XS.goto X98.here hx rfl (pc0 := 270) (pc' := 283) rfl (hb hby at_270) (by decide) (by decide) q) ?_
      show Go p e below _ (T98.setTop (mkF m 283 #[.val (.int p1), .val (.int p2), .val (.int p3), .val (.int p4), .val (.int z3), .val (.int v5), .val (.int v7), .val (.int v9), .val (.int v11), .val (.int v12), .val (.int z15), .val (.int z18), .val (.int z21), .val (.ref b22), .val (.ref b31), .val (.ref b41), .val (.int v104), .unset, .unset] [(.int p3)]))
      exact hj105 _ (by rw [if_neg hc106])
  intro z107 hz107
  show Go p e below _ (T98.setTop (mkF m 283 #[.val (.int p1), .val (.int p2), .val (.int p3), .val (.int p4), .val (.int z3), .val (.int v5), .val (.int v7), .val (.int v9), .val (.int v11), .val (.int v12), .val (.int z15), .val (.int z18), .val (.int z21), .val (.ref b22), .val (.ref b31), .val (.ref b41), .val (.int v104), .unset, .unset] [(.int z107)]))
  refine go (fun _ q => XS.istore X98.here hx rfl (hb hby at_283) rfl (l' := #[.val (.int p1), .val (.int p2), .val (.int p3), .val (.int p4), .val (.int z3), .val (.int v5), .val (.int v7), .val (.int v9), .val (.int v11), .val (.int v12), .val (.int z15), .val (.int z18), .val (.int z21), .val (.ref b22), .val (.ref b31), .val (.ref b41), .val (.int v104), .val (.int z107), .unset]) rfl q) ?_
  show Go p e below _ (T98.setTop (mkF m 285 #[.val (.int p1), .val (.int p2), .val (.int p3), .val (.int p4), .val (.int z3), .val (.int v5), .val (.int v7), .val (.int v9), .val (.int v11), .val (.int v12), .val (.int z15), .val (.int z18), .val (.int z21), .val (.ref b22), .val (.ref b31), .val (.ref b41), .val (.int v104), .val (.int z107), .unset] []))
  refine go (fun _ q => XS.iconst X98.here hx rfl (hb hby at_285) q) ?_
  show Go p e below _ (T98.setTop (mkF m 286 #[.val (.int p1), .val (.int p2), .val (.int p3), .val (.int p4), .val (.int z3), .val (.int v5), .val (.int v7), .val (.int v9), .val (.int v11), .val (.int v12), .val (.int z15), .val (.int z18), .val (.int z21), .val (.ref b22), .val (.ref b31), .val (.ref b41), .val (.int v104), .val (.int z107), .unset] [(.int (-1 : Int32))]))
  refine go (fun _ q => XS.istore X98.here hx rfl (hb hby at_286) rfl (l' := #[.val (.int p1), .val (.int p2), .val (.int p3), .val (.int p4), .val (.int z3), .val (.int v5), .val (.int v7), .val (.int v9), .val (.int v11), .val (.int v12), .val (.int z15), .val (.int z18), .val (.int z21), .val (.ref b22), .val (.ref b31), .val (.ref b41), .val (.int v104), .val (.int z107), .val (.int (-1 : Int32))]) rfl q) ?_
  show Go p e below _ (T98.setTop (mkF m 288 #[.val (.int p1), .val (.int p2), .val (.int p3), .val (.int p4), .val (.int z3), .val (.int v5), .val (.int v7), .val (.int v9), .val (.int v11), .val (.int v12), .val (.int z15), .val (.int z18), .val (.int z21), .val (.ref b22), .val (.ref b31), .val (.ref b41), .val (.int v104), .val (.int z107), .val (.int (-1 : Int32))] []))
  refine go (fun _ q => XS.iload X98.here hx rfl (hb hby at_288) rfl q) ?_
  show Go p e below _ (T98.setTop (mkF m 290 #[.val (.int p1), .val (.int p2), .val (.int p3), .val (.int p4), .val (.int z3), .val (.int v5), .val (.int v7), .val (.int v9), .val (.int v11), .val (.int v12), .val (.int z15), .val (.int z18), .val (.int z21), .val (.ref b22), .val (.ref b31), .val (.ref b41), .val (.int v104), .val (.int z107), .val (.int (-1 : Int32))] [(.int v5)]))
  refine go (fun _ q => XS.iload X98.here hx rfl (hb hby at_290) rfl q) ?_
  show Go p e below _ (T98.setTop (mkF m 292 #[.val (.int p1), .val (.int p2), .val (.int p3), .val (.int p4), .val (.int z3), .val (.int v5), .val (.int v7), .val (.int v9), .val (.int v11), .val (.int v12), .val (.int z15), .val (.int z18), .val (.int z21), .val (.ref b22), .val (.ref b31), .val (.ref b41), .val (.int v104), .val (.int z107), .val (.int (-1 : Int32))] [(.int v104), (.int v5)]))
  suffices hj108 : ∀ (z111 : Int32), z111 = (if v5 = v104 then (if v23 = z107 then (0 : Int32) else (-1 : Int32)) else (-1 : Int32)) → Go p e below (Dn below s ((Q0 n0)) room_1.cells room_1.slots) (T98.setTop (mkF m 307 #[.val (.int p1), .val (.int p2), .val (.int p3), .val (.int p4), .val (.int z3), .val (.int v5), .val (.int v7), .val (.int v9), .val (.int v11), .val (.int v12), .val (.int z15), .val (.int z18), .val (.int z21), .val (.ref b22), .val (.ref b31), .val (.ref b41), .val (.int v104), .val (.int z107), .val (.int z111)] [])) by
    by_cases hc109 : v5 = v104
    · refine go (fun _ q => XS.icmpNo X98.here hx rfl (hb hby at_292) rfl (teq hc109).2 q) ?_
      show Go p e below _ (T98.setTop (mkF m 295 #[.val (.int p1), .val (.int p2), .val (.int p3), .val (.int p4), .val (.int z3), .val (.int v5), .val (.int v7), .val (.int v9), .val (.int v11), .val (.int v12), .val (.int z15), .val (.int z18), .val (.int z21), .val (.ref b22), .val (.ref b31), .val (.ref b41), .val (.int v104), .val (.int z107), .val (.int (-1 : Int32))] []))
      refine go (fun _ q => XS.aload X98.here hx rfl (hb hby at_295) rfl rfl q) ?_
      show Go p e below _ (T98.setTop (mkF m 297 #[.val (.int p1), .val (.int p2), .val (.int p3), .val (.int p4), .val (.int z3), .val (.int v5), .val (.int v7), .val (.int v9), .val (.int v11), .val (.int v12), .val (.int z15), .val (.int z18), .val (.int z21), .val (.ref b22), .val (.ref b31), .val (.ref b41), .val (.int v104), .val (.int z107), .val (.int (-1 : Int32))] [(.ref b22)]))
      refine go (fun _ q => XS.iconst X98.here hx rfl (hb hby at_297) q) ?_
      show Go p e below _ (T98.setTop (mkF m 298 #[.val (.int p1), .val (.int p2), .val (.int p3), .val (.int p4), .val (.int z3), .val (.int v5), .val (.int v7), .val (.int v9), .val (.int v11), .val (.int v12), .val (.int z15), .val (.int z18), .val (.int z21), .val (.ref b22), .val (.ref b31), .val (.ref b41), .val (.int v104), .val (.int z107), .val (.int (-1 : Int32))] [(.int (0 : Int32)), (.ref b22)]))
      refine go (own_iaload X98 hx hZ rfl P_99 (j := (0 : Int32)) (by decide) (Nat.le_of_ble_eq_true rfl) (g := (mkF m 298 #[.val (.int p1), .val (.int p2), .val (.int p3), .val (.int p4), .val (.int z3), .val (.int v5), .val (.int v7), .val (.int v9), .val (.int v11), .val (.int v12), .val (.int z15), .val (.int z18), .val (.int z21), .val (.ref b22), .val (.ref b31), .val (.ref b41), .val (.int v104), .val (.int z107), .val (.int (-1 : Int32))] [(.int (0 : Int32)), (.ref b22)])) rfl rfl (hb hby at_298)) ?_
      show Go p e below _ (T98.setTop (mkF m 299 #[.val (.int p1), .val (.int p2), .val (.int p3), .val (.int p4), .val (.int z3), .val (.int v5), .val (.int v7), .val (.int v9), .val (.int v11), .val (.int v12), .val (.int z15), .val (.int z18), .val (.int z21), .val (.ref b22), .val (.ref b31), .val (.ref b41), .val (.int v104), .val (.int z107), .val (.int (-1 : Int32))] [(.int v23)]))
      refine go (fun _ q => XS.iload X98.here hx rfl (hb hby at_299) rfl q) ?_
      show Go p e below _ (T98.setTop (mkF m 301 #[.val (.int p1), .val (.int p2), .val (.int p3), .val (.int p4), .val (.int z3), .val (.int v5), .val (.int v7), .val (.int v9), .val (.int v11), .val (.int v12), .val (.int z15), .val (.int z18), .val (.int z21), .val (.ref b22), .val (.ref b31), .val (.ref b41), .val (.int v104), .val (.int z107), .val (.int (-1 : Int32))] [(.int z107), (.int v23)]))
      by_cases hc110 : v23 = z107
      · refine go (fun _ q => XS.icmpNo X98.here hx rfl (hb hby at_301) rfl (teq hc110).2 q) ?_
        show Go p e below _ (T98.setTop (mkF m 304 #[.val (.int p1), .val (.int p2), .val (.int p3), .val (.int p4), .val (.int z3), .val (.int v5), .val (.int v7), .val (.int v9), .val (.int v11), .val (.int v12), .val (.int z15), .val (.int z18), .val (.int z21), .val (.ref b22), .val (.ref b31), .val (.ref b41), .val (.int v104), .val (.int z107), .val (.int (-1 : Int32))] []))
        refine go (fun _ q => XS.iconst X98.here hx rfl (hb hby at_304) q) ?_
        show Go p e below _ (T98.setTop (mkF m 305 #[.val (.int p1), .val (.int p2), .val (.int p3), .val (.int p4), .val (.int z3), .val (.int v5), .val (.int v7), .val (.int v9), .val (.int v11), .val (.int v12), .val (.int z15), .val (.int z18), .val (.int z21), .val (.ref b22), .val (.ref b31), .val (.ref b41), .val (.int v104), .val (.int z107), .val (.int (-1 : Int32))] [(.int (0 : Int32))]))
        refine go (fun _ q => XS.istore X98.here hx rfl (hb hby at_305) rfl (l' := #[.val (.int p1), .val (.int p2), .val (.int p3), .val (.int p4), .val (.int z3), .val (.int v5), .val (.int v7), .val (.int v9), .val (.int v11), .val (.int v12), .val (.int z15), .val (.int z18), .val (.int z21), .val (.ref b22), .val (.ref b31), .val (.ref b41), .val (.int v104), .val (.int z107), .val (.int (0 : Int32))]) rfl q) ?_
        show Go p e below _ (T98.setTop (mkF m 307 #[.val (.int p1), .val (.int p2), .val (.int p3), .val (.int p4), .val (.int z3), .val (.int v5), .val (.int v7), .val (.int v9), .val (.int v11), .val (.int v12), .val (.int z15), .val (.int z18), .val (.int z21), .val (.ref b22), .val (.ref b31), .val (.ref b41), .val (.int v104), .val (.int z107), .val (.int (0 : Int32))] []))
        exact hj108 _ (by rw [if_pos hc109, if_pos hc110])
      · refine go (fun _ q => XS.icmpYes X98.here hx rfl (pc0 := 301) (pc' := 307) rfl (hb hby at_301) rfl (feq hc110).2 (by decide) (by decide) q) ?_
        show Go p e below _ (T98.setTop (mkF m 307 #[.val (.int p1), .val (.int p2), .val (.int p3), .val (.int p4), .val (.int z3), .val (.int v5), .val (.int v7), .val (.int v9), .val (.int v11), .val (.int v12), .val (.int z15), .val (.int z18), .val (.int z21), .val (.ref b22), .val (.ref b31), .val (.ref b41), .val (.int v104), .val (.int z107), .val (.int (-1 : Int32))] []))
        exact hj108 _ (by rw [if_pos hc109, if_neg hc110])
    · refine go (fun _ q => XS.icmpYes X98.here hx rfl (pc0 := 292) (pc' := 307) rfl (hb hby at_292) rfl (feq hc109).2 (by decide) (by decide) q) ?_
      show Go p e below _ (T98.setTop (mkF m 307 #[.val (.int p1), .val (.int p2), .val (.int p3), .val (.int p4), .val (.int z3), .val (.int v5), .val (.int v7), .val (.int v9), .val (.int v11), .val (.int v12), .val (.int z15), .val (.int z18), .val (.int z21), .val (.ref b22), .val (.ref b31), .val (.ref b41), .val (.int v104), .val (.int z107), .val (.int (-1 : Int32))] []))
      exact hj108 _ (by rw [if_neg hc109])
  intro z111 hz111
  show Go p e below _ (T98.setTop (mkF m 307 #[.val (.int p1), .val (.int p2), .val (.int p3), .val (.int p4), .val (.int z3), .val (.int v5), .val (.int v7), .val (.int v9), .val (.int v11), .val (.int v12), .val (.int z15), .val (.int z18), .val (.int z21), .val (.ref b22), .val (.ref b31), .val (.ref b41), .val (.int v104), .val (.int z107), .val (.int z111)] []))
  refine go (fun _ q => XS.iload X98.here hx rfl (hb hby at_307) rfl q) ?_
  show Go p e below _ (T98.setTop (mkF m 309 #[.val (.int p1), .val (.int p2), .val (.int p3), .val (.int p4), .val (.int z3), .val (.int v5), .val (.int v7), .val (.int v9), .val (.int v11), .val (.int v12), .val (.int z15), .val (.int z18), .val (.int z21), .val (.ref b22), .val (.ref b31), .val (.ref b41), .val (.int v104), .val (.int z107), .val (.int z111)] [(.int v7)]))
  refine go (fun _ q => XS.iload X98.here hx rfl (hb hby at_309) rfl q) ?_
  show Go p e below _ (T98.setTop (mkF m 311 #[.val (.int p1), .val (.int p2), .val (.int p3), .val (.int p4), .val (.int z3), .val (.int v5), .val (.int v7), .val (.int v9), .val (.int v11), .val (.int v12), .val (.int z15), .val (.int z18), .val (.int z21), .val (.ref b22), .val (.ref b31), .val (.ref b41), .val (.int v104), .val (.int z107), .val (.int z111)] [(.int v104), (.int v7)]))
  suffices hj112 : ∀ (z115 : Int32), z115 = (if v7 = v104 then (if v25 = z107 then (1 : Int32) else z111) else z111) → Go p e below (Dn below s ((Q0 n0)) room_1.cells room_1.slots) (T98.setTop (mkF m 326 #[.val (.int p1), .val (.int p2), .val (.int p3), .val (.int p4), .val (.int z3), .val (.int v5), .val (.int v7), .val (.int v9), .val (.int v11), .val (.int v12), .val (.int z15), .val (.int z18), .val (.int z21), .val (.ref b22), .val (.ref b31), .val (.ref b41), .val (.int v104), .val (.int z107), .val (.int z115)] [])) by
    by_cases hc113 : v7 = v104
    · refine go (fun _ q => XS.icmpNo X98.here hx rfl (hb hby at_311) rfl (teq hc113).2 q) ?_
      show Go p e below _ (T98.setTop (mkF m 314 #[.val (.int p1), .val (.int p2), .val (.int p3), .val (.int p4), .val (.int z3), .val (.int v5), .val (.int v7), .val (.int v9), .val (.int v11), .val (.int v12), .val (.int z15), .val (.int z18), .val (.int z21), .val (.ref b22), .val (.ref b31), .val (.ref b41), .val (.int v104), .val (.int z107), .val (.int z111)] []))
      refine go (fun _ q => XS.aload X98.here hx rfl (hb hby at_314) rfl rfl q) ?_
      show Go p e below _ (T98.setTop (mkF m 316 #[.val (.int p1), .val (.int p2), .val (.int p3), .val (.int p4), .val (.int z3), .val (.int v5), .val (.int v7), .val (.int v9), .val (.int v11), .val (.int v12), .val (.int z15), .val (.int z18), .val (.int z21), .val (.ref b22), .val (.ref b31), .val (.ref b41), .val (.int v104), .val (.int z107), .val (.int z111)] [(.ref b22)]))
      refine go (fun _ q => XS.iconst X98.here hx rfl (hb hby at_316) q) ?_
      show Go p e below _ (T98.setTop (mkF m 317 #[.val (.int p1), .val (.int p2), .val (.int p3), .val (.int p4), .val (.int z3), .val (.int v5), .val (.int v7), .val (.int v9), .val (.int v11), .val (.int v12), .val (.int z15), .val (.int z18), .val (.int z21), .val (.ref b22), .val (.ref b31), .val (.ref b41), .val (.int v104), .val (.int z107), .val (.int z111)] [(.int (1 : Int32)), (.ref b22)]))
      refine go (own_iaload X98 hx hZ rfl P_99 (j := (1 : Int32)) (by decide) (Nat.le_of_ble_eq_true rfl) (g := (mkF m 317 #[.val (.int p1), .val (.int p2), .val (.int p3), .val (.int p4), .val (.int z3), .val (.int v5), .val (.int v7), .val (.int v9), .val (.int v11), .val (.int v12), .val (.int z15), .val (.int z18), .val (.int z21), .val (.ref b22), .val (.ref b31), .val (.ref b41), .val (.int v104), .val (.int z107), .val (.int z111)] [(.int (1 : Int32)), (.ref b22)])) rfl rfl (hb hby at_317)) ?_
      show Go p e below _ (T98.setTop (mkF m 318 #[.val (.int p1), .val (.int p2), .val (.int p3), .val (.int p4), .val (.int z3), .val (.int v5), .val (.int v7), .val (.int v9), .val (.int v11), .val (.int v12), .val (.int z15), .val (.int z18), .val (.int z21), .val (.ref b22), .val (.ref b31), .val (.ref b41), .val (.int v104), .val (.int z107), .val (.int z111)] [(.int v25)]))
      refine go (fun _ q => XS.iload X98.here hx rfl (hb hby at_318) rfl q) ?_
      show Go p e below _ (T98.setTop (mkF m 320 #[.val (.int p1), .val (.int p2), .val (.int p3), .val (.int p4), .val (.int z3), .val (.int v5), .val (.int v7), .val (.int v9), .val (.int v11), .val (.int v12), .val (.int z15), .val (.int z18), .val (.int z21), .val (.ref b22), .val (.ref b31), .val (.ref b41), .val (.int v104), .val (.int z107), .val (.int z111)] [(.int z107), (.int v25)]))
      by_cases hc114 : v25 = z107
      · refine go (fun _ q => XS.icmpNo X98.here hx rfl (hb hby at_320) rfl (teq hc114).2 q) ?_
        show Go p e below _ (T98.setTop (mkF m 323 #[.val (.int p1), .val (.int p2), .val (.int p3), .val (.int p4), .val (.int z3), .val (.int v5), .val (.int v7), .val (.int v9), .val (.int v11), .val (.int v12), .val (.int z15), .val (.int z18), .val (.int z21), .val (.ref b22), .val (.ref b31), .val (.ref b41), .val (.int v104), .val (.int z107), .val (.int z111)] []))
        refine go (fun _ q => XS.iconst X98.here hx rfl (hb hby at_323) q) ?_
        show Go p e below _ (T98.setTop (mkF m 324 #[.val (.int p1), .val (.int p2), .val (.int p3), .val (.int p4), .val (.int z3), .val (.int v5), .val (.int v7), .val (.int v9), .val (.int v11), .val (.int v12), .val (.int z15), .val (.int z18), .val (.int z21), .val (.ref b22), .val (.ref b31), .val (.ref b41), .val (.int v104), .val (.int z107), .val (.int z111)] [(.int (1 : Int32))]))
        refine go (fun _ q => XS.istore X98.here hx rfl (hb hby at_324) rfl (l' := #[.val (.int p1), .val (.int p2), .val (.int p3), .val (.int p4), .val (.int z3), .val (.int v5), .val (.int v7), .val (.int v9), .val (.int v11), .val (.int v12), .val (.int z15), .val (.int z18), .val (.int z21), .val (.ref b22), .val (.ref b31), .val (.ref b41), .val (.int v104), .val (.int z107), .val (.int (1 : Int32))]) rfl q) ?_
        show Go p e below _ (T98.setTop (mkF m 326 #[.val (.int p1), .val (.int p2), .val (.int p3), .val (.int p4), .val (.int z3), .val (.int v5), .val (.int v7), .val (.int v9), .val (.int v11), .val (.int v12), .val (.int z15), .val (.int z18), .val (.int z21), .val (.ref b22), .val (.ref b31), .val (.ref b41), .val (.int v104), .val (.int z107), .val (.int (1 : Int32))] []))
        exact hj112 _ (by rw [if_pos hc113, if_pos hc114])
      · refine go (fun _ q => XS.icmpYes X98.here hx rfl (pc0 := 320) (pc' := 326) rfl (hb hby at_320) rfl (feq hc114).2 (by decide) (by decide) q) ?_
        show Go p e below _ (T98.setTop (mkF m 326 #[.val (.int p1), .val (.int p2), .val (.int p3), .val (.int p4), .val (.int z3), .val (.int v5), .val (.int v7), .val (.int v9), .val (.int v11), .val (.int v12), .val (.int z15), .val (.int z18), .val (.int z21), .val (.ref b22), .val (.ref b31), .val (.ref b41), .val (.int v104), .val (.int z107), .val (.int z111)] []))
        exact hj112 _ (by rw [if_pos hc113, if_neg hc114])
    · refine go (fun _ q => XS.icmpYes X98.here hx rfl (pc0 := 311) (pc' := 326) rfl (hb hby at_311) rfl (feq hc113).2 (by decide) (by decide) q) ?_
      show Go p e below _ (T98.setTop (mkF m 326 #[.val (.int p1), .val (.int p2), .val (.int p3), .val (.int p4), .val (.int z3), .val (.int v5), .val (.int v7), .val (.int v9), .val (.int v11), .val (.int v12), .val (.int z15), .val (.int z18), .val (.int z21), .val (.ref b22), .val (.ref b31), .val (.ref b41), .val (.int v104), .val (.int z107), .val (.int z111)] []))
      exact hj112 _ (by rw [if_neg hc113])
  intro z115 hz115
  show Go p e below _ (T98.setTop (mkF m 326 #[.val (.int p1), .val (.int p2), .val (.int p3), .val (.int p4), .val (.int z3), .val (.int v5), .val (.int v7), .val (.int v9), .val (.int v11), .val (.int v12), .val (.int z15), .val (.int z18), .val (.int z21), .val (.ref b22), .val (.ref b31), .val (.ref b41), .val (.int v104), .val (.int z107), .val (.int z115)] []))
  refine go (fun _ q => XS.iload X98.here hx rfl (hb hby at_326) rfl q) ?_
  show Go p e below _ (T98.setTop (mkF m 328 #[.val (.int p1), .val (.int p2), .val (.int p3), .val (.int p4), .val (.int z3), .val (.int v5), .val (.int v7), .val (.int v9), .val (.int v11), .val (.int v12), .val (.int z15), .val (.int z18), .val (.int z21), .val (.ref b22), .val (.ref b31), .val (.ref b41), .val (.int v104), .val (.int z107), .val (.int z115)] [(.int v9)]))
  refine go (fun _ q => XS.iload X98.here hx rfl (hb hby at_328) rfl q) ?_
  show Go p e below _ (T98.setTop (mkF m 330 #[.val (.int p1), .val (.int p2), .val (.int p3), .val (.int p4), .val (.int z3), .val (.int v5), .val (.int v7), .val (.int v9), .val (.int v11), .val (.int v12), .val (.int z15), .val (.int z18), .val (.int z21), .val (.ref b22), .val (.ref b31), .val (.ref b41), .val (.int v104), .val (.int z107), .val (.int z115)] [(.int v104), (.int v9)]))
  suffices hj116 : ∀ (z119 : Int32), z119 = (if v9 = v104 then (if v27 = z107 then (2 : Int32) else z115) else z115) → Go p e below (Dn below s ((Q0 n0)) room_1.cells room_1.slots) (T98.setTop (mkF m 345 #[.val (.int p1), .val (.int p2), .val (.int p3), .val (.int p4), .val (.int z3), .val (.int v5), .val (.int v7), .val (.int v9), .val (.int v11), .val (.int v12), .val (.int z15), .val (.int z18), .val (.int z21), .val (.ref b22), .val (.ref b31), .val (.ref b41), .val (.int v104), .val (.int z107), .val (.int z119)] [])) by
    by_cases hc117 : v9 = v104
    · refine go (fun _ q => XS.icmpNo X98.here hx rfl (hb hby at_330) rfl (teq hc117).2 q) ?_
      show Go p e below _ (T98.setTop (mkF m 333 #[.val (.int p1), .val (.int p2), .val (.int p3), .val (.int p4), .val (.int z3), .val (.int v5), .val (.int v7), .val (.int v9), .val (.int v11), .val (.int v12), .val (.int z15), .val (.int z18), .val (.int z21), .val (.ref b22), .val (.ref b31), .val (.ref b41), .val (.int v104), .val (.int z107), .val (.int z115)] []))
      refine go (fun _ q => XS.aload X98.here hx rfl (hb hby at_333) rfl rfl q) ?_
      show Go p e below _ (T98.setTop (mkF m 335 #[.val (.int p1), .val (.int p2), .val (.int p3), .val (.int p4), .val (.int z3), .val (.int v5), .val (.int v7), .val (.int v9), .val (.int v11), .val (.int v12), .val (.int z15), .val (.int z18), .val (.int z21), .val (.ref b22), .val (.ref b31), .val (.ref b41), .val (.int v104), .val (.int z107), .val (.int z115)] [(.ref b22)]))
      refine go (fun _ q => XS.iconst X98.here hx rfl (hb hby at_335) q) ?_
      show Go p e below _ (T98.setTop (mkF m 336 #[.val (.int p1), .val (.int p2), .val (.int p3), .val (.int p4), .val (.int z3), .val (.int v5), .val (.int v7), .val (.int v9), .val (.int v11), .val (.int v12), .val (.int z15), .val (.int z18), .val (.int z21), .val (.ref b22), .val (.ref b31), .val (.ref b41), .val (.int v104), .val (.int z107), .val (.int z115)] [(.int (2 : Int32)), (.ref b22)]))
      refine go (own_iaload X98 hx hZ rfl P_99 (j := (2 : Int32)) (by decide) (Nat.le_of_ble_eq_true rfl) (g := (mkF m 336 #[.val (.int p1), .val (.int p2), .val (.int p3), .val (.int p4), .val (.int z3), .val (.int v5), .val (.int v7), .val (.int v9), .val (.int v11), .val (.int v12), .val (.int z15), .val (.int z18), .val (.int z21), .val (.ref b22), .val (.ref b31), .val (.ref b41), .val (.int v104), .val (.int z107), .val (.int z115)] [(.int (2 : Int32)), (.ref b22)])) rfl rfl (hb hby at_336)) ?_
      show Go p e below _ (T98.setTop (mkF m 337 #[.val (.int p1), .val (.int p2), .val (.int p3), .val (.int p4), .val (.int z3), .val (.int v5), .val (.int v7), .val (.int v9), .val (.int v11), .val (.int v12), .val (.int z15), .val (.int z18), .val (.int z21), .val (.ref b22), .val (.ref b31), .val (.ref b41), .val (.int v104), .val (.int z107), .val (.int z115)] [(.int v27)]))
      refine go (fun _ q => XS.iload X98.here hx rfl (hb hby at_337) rfl q) ?_
      show Go p e below _ (T98.setTop (mkF m 339 #[.val (.int p1), .val (.int p2), .val (.int p3), .val (.int p4), .val (.int z3), .val (.int v5), .val (.int v7), .val (.int v9), .val (.int v11), .val (.int v12), .val (.int z15), .val (.int z18), .val (.int z21), .val (.ref b22), .val (.ref b31), .val (.ref b41), .val (.int v104), .val (.int z107), .val (.int z115)] [(.int z107), (.int v27)]))
      by_cases hc118 : v27 = z107
      · refine go (fun _ q => XS.icmpNo X98.here hx rfl (hb hby at_339) rfl (teq hc118).2 q) ?_
        show Go p e below _ (T98.setTop (mkF m 342 #[.val (.int p1), .val (.int p2), .val (.int p3), .val (.int p4), .val (.int z3), .val (.int v5), .val (.int v7), .val (.int v9), .val (.int v11), .val (.int v12), .val (.int z15), .val (.int z18), .val (.int z21), .val (.ref b22), .val (.ref b31), .val (.ref b41), .val (.int v104), .val (.int z107), .val (.int z115)] []))
        refine go (fun _ q => XS.iconst X98.here hx rfl (hb hby at_342) q) ?_
        show Go p e below _ (T98.setTop (mkF m 343 #[.val (.int p1), .val (.int p2), .val (.int p3), .val (.int p4), .val (.int z3), .val (.int v5), .val (.int v7), .val (.int v9), .val (.int v11), .val (.int v12), .val (.int z15), .val (.int z18), .val (.int z21), .val (.ref b22), .val (.ref b31), .val (.ref b41), .val (.int v104), .val (.int z107), .val (.int z115)] [(.int (2 : Int32))]))
        refine go (fun _ q => XS.istore X98.here hx rfl (hb hby at_343) rfl (l' := #[.val (.int p1), .val (.int p2), .val (.int p3), .val (.int p4), .val (.int z3), .val (.int v5), .val (.int v7), .val (.int v9), .val (.int v11), .val (.int v12), .val (.int z15), .val (.int z18), .val (.int z21), .val (.ref b22), .val (.ref b31), .val (.ref b41), .val (.int v104), .val (.int z107), .val (.int (2 : Int32))]) rfl q) ?_
        show Go p e below _ (T98.setTop (mkF m 345 #[.val (.int p1), .val (.int p2), .val (.int p3), .val (.int p4), .val (.int z3), .val (.int v5), .val (.int v7), .val (.int v9), .val (.int v11), .val (.int v12), .val (.int z15), .val (.int z18), .val (.int z21), .val (.ref b22), .val (.ref b31), .val (.ref b41), .val (.int v104), .val (.int z107), .val (.int (2 : Int32))] []))
        exact hj116 _ (by rw [if_pos hc117, if_pos hc118])
      · refine go (fun _ q => XS.icmpYes X98.here hx rfl (pc0 := 339) (pc' := 345) rfl (hb hby at_339) rfl (feq hc118).2 (by decide) (by decide) q) ?_
        show Go p e below _ (T98.setTop (mkF m 345 #[.val (.int p1), .val (.int p2), .val (.int p3), .val (.int p4), .val (.int z3), .val (.int v5), .val (.int v7), .val (.int v9), .val (.int v11), .val (.int v12), .val (.int z15), .val (.int z18), .val (.int z21), .val (.ref b22), .val (.ref b31), .val (.ref b41), .val (.int v104), .val (.int z107), .val (.int z115)] []))
        exact hj116 _ (by rw [if_pos hc117, if_neg hc118])
    · refine go (fun _ q => XS.icmpYes X98.here hx rfl (pc0 := 330) (pc' := 345) rfl (hb hby at_330) rfl (feq hc117).2 (by decide) (by decide) q) ?_
      show Go p e below _ (T98.setTop (mkF m 345 #[.val (.int p1), .val (.int p2), .val (.int p3), .val (.int p4), .val (.int z3), .val (.int v5), .val (.int v7), .val (.int v9), .val (.int v11), .val (.int v12), .val (.int z15), .val (.int z18), .val (.int z21), .val (.ref b22), .val (.ref b31), .val (.ref b41), .val (.int v104), .val (.int z107), .val (.int z115)] []))
      exact hj116 _ (by rw [if_neg hc117])
  intro z119 hz119
  show Go p e below _ (T98.setTop (mkF m 345 #[.val (.int p1), .val (.int p2), .val (.int p3), .val (.int p4), .val (.int z3), .val (.int v5), .val (.int v7), .val (.int v9), .val (.int v11), .val (.int v12), .val (.int z15), .val (.int z18), .val (.int z21), .val (.ref b22), .val (.ref b31), .val (.ref b41), .val (.int v104), .val (.int z107), .val (.int z119)] []))
  refine go (fun _ q => XS.iload X98.here hx rfl (hb hby at_345) rfl q) ?_
  show Go p e below _ (T98.setTop (mkF m 347 #[.val (.int p1), .val (.int p2), .val (.int p3), .val (.int p4), .val (.int z3), .val (.int v5), .val (.int v7), .val (.int v9), .val (.int v11), .val (.int v12), .val (.int z15), .val (.int z18), .val (.int z21), .val (.ref b22), .val (.ref b31), .val (.ref b41), .val (.int v104), .val (.int z107), .val (.int z119)] [(.int v11)]))
  refine go (fun _ q => XS.iload X98.here hx rfl (hb hby at_347) rfl q) ?_
  show Go p e below _ (T98.setTop (mkF m 349 #[.val (.int p1), .val (.int p2), .val (.int p3), .val (.int p4), .val (.int z3), .val (.int v5), .val (.int v7), .val (.int v9), .val (.int v11), .val (.int v12), .val (.int z15), .val (.int z18), .val (.int z21), .val (.ref b22), .val (.ref b31), .val (.ref b41), .val (.int v104), .val (.int z107), .val (.int z119)] [(.int v104), (.int v11)]))
  suffices hj120 : ∀ (z123 : Int32), z123 = (if v11 = v104 then (if v29 = z107 then (3 : Int32) else z119) else z119) → Go p e below (Dn below s ((Q0 n0)) room_1.cells room_1.slots) (T98.setTop (mkF m 364 #[.val (.int p1), .val (.int p2), .val (.int p3), .val (.int p4), .val (.int z3), .val (.int v5), .val (.int v7), .val (.int v9), .val (.int v11), .val (.int v12), .val (.int z15), .val (.int z18), .val (.int z21), .val (.ref b22), .val (.ref b31), .val (.ref b41), .val (.int v104), .val (.int z107), .val (.int z123)] [])) by
    by_cases hc121 : v11 = v104
    · refine go (fun _ q => XS.icmpNo X98.here hx rfl (hb hby at_349) rfl (teq hc121).2 q) ?_
      show Go p e below _ (T98.setTop (mkF m 352 #[.val (.int p1), .val (.int p2), .val (.int p3), .val (.int p4), .val (.int z3), .val (.int v5), .val (.int v7), .val (.int v9), .val (.int v11), .val (.int v12), .val (.int z15), .val (.int z18), .val (.int z21), .val (.ref b22), .val (.ref b31), .val (.ref b41), .val (.int v104), .val (.int z107), .val (.int z119)] []))
      refine go (fun _ q => XS.aload X98.here hx rfl (hb hby at_352) rfl rfl q) ?_
      show Go p e below _ (T98.setTop (mkF m 354 #[.val (.int p1), .val (.int p2), .val (.int p3), .val (.int p4), .val (.int z3), .val (.int v5), .val (.int v7), .val (.int v9), .val (.int v11), .val (.int v12), .val (.int z15), .val (.int z18), .val (.int z21), .val (.ref b22), .val (.ref b31), .val (.ref b41), .val (.int v104), .val (.int z107), .val (.int z119)] [(.ref b22)]))
      refine go (fun _ q => XS.iconst X98.here hx rfl (hb hby at_354) q) ?_
      show Go p e below _ (T98.setTop (mkF m 355 #[.val (.int p1), .val (.int p2), .val (.int p3), .val (.int p4), .val (.int z3), .val (.int v5), .val (.int v7), .val (.int v9), .val (.int v11), .val (.int v12), .val (.int z15), .val (.int z18), .val (.int z21), .val (.ref b22), .val (.ref b31), .val (.ref b41), .val (.int v104), .val (.int z107), .val (.int z119)] [(.int (3 : Int32)), (.ref b22)]))
      refine go (own_iaload X98 hx hZ rfl P_99 (j := (3 : Int32)) (by decide) (Nat.le_of_ble_eq_true rfl) (g := (mkF m 355 #[.val (.int p1), .val (.int p2), .val (.int p3), .val (.int p4), .val (.int z3), .val (.int v5), .val (.int v7), .val (.int v9), .val (.int v11), .val (.int v12), .val (.int z15), .val (.int z18), .val (.int z21), .val (.ref b22), .val (.ref b31), .val (.ref b41), .val (.int v104), .val (.int z107), .val (.int z119)] [(.int (3 : Int32)), (.ref b22)])) rfl rfl (hb hby at_355)) ?_
      show Go p e below _ (T98.setTop (mkF m 356 #[.val (.int p1), .val (.int p2), .val (.int p3), .val (.int p4), .val (.int z3), .val (.int v5), .val (.int v7), .val (.int v9), .val (.int v11), .val (.int v12), .val (.int z15), .val (.int z18), .val (.int z21), .val (.ref b22), .val (.ref b31), .val (.ref b41), .val (.int v104), .val (.int z107), .val (.int z119)] [(.int v29)]))
      refine go (fun _ q => XS.iload X98.here hx rfl (hb hby at_356) rfl q) ?_
      show Go p e below _ (T98.setTop (mkF m 358 #[.val (.int p1), .val (.int p2), .val (.int p3), .val (.int p4), .val (.int z3), .val (.int v5), .val (.int v7), .val (.int v9), .val (.int v11), .val (.int v12), .val (.int z15), .val (.int z18), .val (.int z21), .val (.ref b22), .val (.ref b31), .val (.ref b41), .val (.int v104), .val (.int z107), .val (.int z119)] [(.int z107), (.int v29)]))
      by_cases hc122 : v29 = z107
      · refine go (fun _ q => XS.icmpNo X98.here hx rfl (hb hby at_358) rfl (teq hc122).2 q) ?_
        show Go p e below _ (T98.setTop (mkF m 361 #[.val (.int p1), .val (.int p2), .val (.int p3), .val (.int p4), .val (.int z3), .val (.int v5), .val (.int v7), .val (.int v9), .val (.int v11), .val (.int v12), .val (.int z15), .val (.int z18), .val (.int z21), .val (.ref b22), .val (.ref b31), .val (.ref b41), .val (.int v104), .val (.int z107), .val (.int z119)] []))
        refine go (fun _ q => XS.iconst X98.here hx rfl (hb hby at_361) q) ?_
        show Go p e below _ (T98.setTop (mkF m 362 #[.val (.int p1), .val (.int p2), .val (.int p3), .val (.int p4), .val (.int z3), .val (.int v5), .val (.int v7), .val (.int v9), .val (.int v11), .val (.int v12), .val (.int z15), .val (.int z18), .val (.int z21), .val (.ref b22), .val (.ref b31), .val (.ref b41), .val (.int v104), .val (.int z107), .val (.int z119)] [(.int (3 : Int32))]))
        refine go (fun _ q => XS.istore X98.here hx rfl (hb hby at_362) rfl (l' := #[.val (.int p1), .val (.int p2), .val (.int p3), .val (.int p4), .val (.int z3), .val (.int v5), .val (.int v7), .val (.int v9), .val (.int v11), .val (.int v12), .val (.int z15), .val (.int z18), .val (.int z21), .val (.ref b22), .val (.ref b31), .val (.ref b41), .val (.int v104), .val (.int z107), .val (.int (3 : Int32))]) rfl q) ?_
        show Go p e below _ (T98.setTop (mkF m 364 #[.val (.int p1), .val (.int p2), .val (.int p3), .val (.int p4), .val (.int z3), .val (.int v5), .val (.int v7), .val (.int v9), .val (.int v11), .val (.int v12), .val (.int z15), .val (.int z18), .val (.int z21), .val (.ref b22), .val (.ref b31), .val (.ref b41), .val (.int v104), .val (.int z107), .val (.int (3 : Int32))] []))
        exact hj120 _ (by rw [if_pos hc121, if_pos hc122])
      · refine go (fun _ q => XS.icmpYes X98.here hx rfl (pc0 := 358) (pc' := 364) rfl (hb hby at_358) rfl (feq hc122).2 (by decide) (by decide) q) ?_
        show Go p e below _ (T98.setTop (mkF m 364 #[.val (.int p1), .val (.int p2), .val (.int p3), .val (.int p4), .val (.int z3), .val (.int v5), .val (.int v7), .val (.int v9), .val (.int v11), .val (.int v12), .val (.int z15), .val (.int z18), .val (.int z21), .val (.ref b22), .val (.ref b31), .val (.ref b41), .val (.int v104), .val (.int z107), .val (.int z119)] []))
        exact hj120 _ (by rw [if_pos hc121, if_neg hc122])
    · refine go (fun _ q => XS.icmpYes X98.here hx rfl (pc0 := 349) (pc' := 364) rfl (hb hby at_349) rfl (feq hc121).2 (by decide) (by decide) q) ?_
      show Go p e below _ (T98.setTop (mkF m 364 #[.val (.int p1), .val (.int p2), .val (.int p3), .val (.int p4), .val (.int z3), .val (.int v5), .val (.int v7), .val (.int v9), .val (.int v11), .val (.int v12), .val (.int z15), .val (.int z18), .val (.int z21), .val (.ref b22), .val (.ref b31), .val (.ref b41), .val (.int v104), .val (.int z107), .val (.int z119)] []))
      exact hj120 _ (by rw [if_neg hc121])
  intro z123 hz123
  show Go p e below _ (T98.setTop (mkF m 364 #[.val (.int p1), .val (.int p2), .val (.int p3), .val (.int p4), .val (.int z3), .val (.int v5), .val (.int v7), .val (.int v9), .val (.int v11), .val (.int v12), .val (.int z15), .val (.int z18), .val (.int z21), .val (.ref b22), .val (.ref b31), .val (.ref b41), .val (.int v104), .val (.int z107), .val (.int z123)] []))
  refine go (fun _ q => XS.aload X98.here hx rfl (hb hby at_364) rfl rfl q) ?_
  show Go p e below _ (T98.setTop (mkF m 366 #[.val (.int p1), .val (.int p2), .val (.int p3), .val (.int p4), .val (.int z3), .val (.int v5), .val (.int v7), .val (.int v9), .val (.int v11), .val (.int v12), .val (.int z15), .val (.int z18), .val (.int z21), .val (.ref b22), .val (.ref b31), .val (.ref b41), .val (.int v104), .val (.int z107), .val (.int z123)] [(.ref b41)]))
  refine go (fun _ q => XS.iload X98.here hx rfl (hb hby at_366) rfl q) ?_
  show Go p e below _ (T98.setTop (mkF m 368 #[.val (.int p1), .val (.int p2), .val (.int p3), .val (.int p4), .val (.int z3), .val (.int v5), .val (.int v7), .val (.int v9), .val (.int v11), .val (.int v12), .val (.int z15), .val (.int z18), .val (.int z21), .val (.ref b22), .val (.ref b31), .val (.ref b41), .val (.int v104), .val (.int z107), .val (.int z123)] [(.int z107), (.ref b41)]))
  refine go (fun _ q => XS.iload X98.here hx rfl (hb hby at_368) rfl q) ?_
  show Go p e below _ (T98.setTop (mkF m 370 #[.val (.int p1), .val (.int p2), .val (.int p3), .val (.int p4), .val (.int z3), .val (.int v5), .val (.int v7), .val (.int v9), .val (.int v11), .val (.int v12), .val (.int z15), .val (.int z18), .val (.int z21), .val (.ref b22), .val (.ref b31), .val (.ref b41), .val (.int v104), .val (.int z107), .val (.int z123)] [(.int v104), (.int z107), (.ref b41)]))
  refine own_callV X98 hx hZ hown rfl (hw _ (List.mem_of_getElem? (i := 54) rfl)) (hw _ (List.mem_of_getElem? (i := 55) rfl)) (hw _ (List.mem_of_getElem? (i := 56) rfl)) (hw _ (List.mem_of_getElem? (i := 57) rfl)) (hw _ (List.mem_of_getElem? (i := 8) rfl)) (hw _ (List.mem_of_getElem? (i := 58) rfl)) (rmT l Z a0 hw [] b41 z107 v104 T98.heap n0 own_gp.1 own_pp (own_firstL _ _ _ _) rfl rfl Ff98 Fm98 Pt98 P_99) (by decide) (by decide) (W := 0) (by decide) (by decide) (by decide) (a := b41) Eq98 (g := (mkF m 370 #[.val (.int p1), .val (.int p2), .val (.int p3), .val (.int p4), .val (.int z3), .val (.int v5), .val (.int v7), .val (.int v9), .val (.int v11), .val (.int v12), .val (.int z15), .val (.int z18), .val (.int z21), .val (.ref b22), .val (.ref b31), .val (.ref b41), .val (.int v104), .val (.int z107), .val (.int z123)] [(.int v104), (.int z107), (.ref b41)])) rfl (by rw [hml]; rfl) (argsL := [(.int z107), (.int v104)]) (rest := []) rfl rfl (lenOf pd_0_0 rfl) (by show 2 * 0 + _ ≤ _; exact Nat.le_of_eq rfl) (hb hby at_370) ?_
  rintro _ T124 L124 X124 ⟨rfl, N124q, e124⟩
  have N124 := Fr.app N98 N124q
  show Go p e below _ (T124.setTop (mkF m 373 #[.val (.int p1), .val (.int p2), .val (.int p3), .val (.int p4), .val (.int z3), .val (.int v5), .val (.int v7), .val (.int v9), .val (.int v11), .val (.int v12), .val (.int z15), .val (.int z18), .val (.int z21), .val (.ref b22), .val (.ref b31), .val (.ref b41), .val (.int v104), .val (.int z107), .val (.int z123)] [(.int (own_search ((own_first v5 v7 v9 v11).getD (v104).toNatClampNeg 0) ((own_first v5 v7 v9 v11).getD ((v104 + (1 : Int32))).toNatClampNeg 0) z107 v23 v25 v27 v29))]))
  refine go (fun _ q => XS.iload X124.here hx rfl (hb hby at_373) rfl q) ?_
  show Go p e below _ (T124.setTop (mkF m 375 #[.val (.int p1), .val (.int p2), .val (.int p3), .val (.int p4), .val (.int z3), .val (.int v5), .val (.int v7), .val (.int v9), .val (.int v11), .val (.int v12), .val (.int z15), .val (.int z18), .val (.int z21), .val (.ref b22), .val (.ref b31), .val (.ref b41), .val (.int v104), .val (.int z107), .val (.int z123)] [(.int z123), (.int (own_search ((own_first v5 v7 v9 v11).getD (v104).toNatClampNeg 0) ((own_first v5 v7 v9 v11).getD ((v104 + (1 : Int32))).toNatClampNeg 0) z107 v23 v25 v27 v29))]))
  have hk125 : (own_search ((own_first v5 v7 v9 v11).getD (v104).toNatClampNeg 0) ((own_first v5 v7 v9 v11).getD ((v104 + (1 : Int32))).toNatClampNeg 0) z107 v23 v25 v27 v29) = z123 := own_final own_gp (own_mono hz3 hv12 hz15 hz18 hz21 hv23 hv25 hv27 hv29 ) hz111 hz115 hz119 hz123
  refine go (fun _ q => XS.icmpNo X124.here hx rfl (hb hby at_375) rfl (teq hk125).2 q) ?_
  show Go p e below _ (T124.setTop (mkF m 378 #[.val (.int p1), .val (.int p2), .val (.int p3), .val (.int p4), .val (.int z3), .val (.int v5), .val (.int v7), .val (.int v9), .val (.int v11), .val (.int v12), .val (.int z15), .val (.int z18), .val (.int z21), .val (.ref b22), .val (.ref b31), .val (.ref b41), .val (.int v104), .val (.int z107), .val (.int z123)] []))
  refine go (fun _ q => XS.iconst X124.here hx rfl (hb hby at_378) q) ?_
  show Go p e below _ (T124.setTop (mkF m 379 #[.val (.int p1), .val (.int p2), .val (.int p3), .val (.int p4), .val (.int z3), .val (.int v5), .val (.int v7), .val (.int v9), .val (.int v11), .val (.int v12), .val (.int z15), .val (.int z18), .val (.int z21), .val (.ref b22), .val (.ref b31), .val (.ref b41), .val (.int v104), .val (.int z107), .val (.int z123)] [(.int (1 : Int32))]))
  refine go (fun _ q => XS.goto X124.here hx rfl (pc0 := 379) (pc' := 383) rfl (hb hby at_379) (by decide) (by decide) q) ?_
  show Go p e below _ (T124.setTop (mkF m 383 #[.val (.int p1), .val (.int p2), .val (.int p3), .val (.int p4), .val (.int z3), .val (.int v5), .val (.int v7), .val (.int v9), .val (.int v11), .val (.int v12), .val (.int z15), .val (.int z18), .val (.int z21), .val (.ref b22), .val (.ref b31), .val (.ref b41), .val (.int v104), .val (.int z107), .val (.int z123)] [(.int (1 : Int32))]))
  exact own_retZ (z' := (1 : Int32)) X124 hx hlk hret (hb hby at_383) (by decide) (by decide) rfl ⟨rfl, N124⟩
set_option maxRecDepth 65536 in
set_option maxHeartbeats 40000000 in
theorem comes_1 {Post : Tables → Env → Array Value → State → Outcome → State → Prop} (hpost : ∀ tb e args s v u, (limb_1_1.after args s (.returned v) u = true ∧ limb_1_2.after args s (.returned v) u = true ∧ True) → FrameEnd s (.returned v) u (Jvm.fieldLocs frame_1_writes args s ++ Jvm.arrayLocs frame_1_arrays args s ++ Jvm.staticLocs frame_1_statics s) 40 192 → Post tb e args s (.returned v) u) :
    ArmFor flags0 classFile x code maxLocals ret World_1 tables_1 room_1 Calls_1 rest_1 Pre_1 Post := by
  intro l hfl _ _ p e ha hc hk s m args below hf hA hF happ hP
  obtain ⟨hcalls, hrest, hpre⟩ := hP
  obtain ⟨-, -, -, hnamed, -, -, -, hat⟩ := (Spec.applies_iff hf).mp happ
  obtain ⟨hg, hn⟩ := and_e (Cond.before_iff.mp (show (Jvm.Cond.and given_1 narrow_1).before args s = true from hpre))
  obtain ⟨gc, g0⟩ := and_e hg
  obtain ⟨ga0, g1⟩ := and_e g0
  obtain ⟨ga1, g2⟩ := and_e g1
  obtain ⟨ga2, g3⟩ := and_e g2
  have ga3 := g3
  obtain ⟨w0, w1, w2, w3, rfl⟩ : ∃ w0 w1 w2 w3 : Value, args = #[w0, w1, w2, w3] := by
    have hs : args.size = 4 := by simpa [Cond.value, given_1] using gc
    obtain ⟨L⟩ := args
    match L, hs with
    | [w0, w1, w2, w3], _ => exact ⟨w0, w1, w2, w3, rfl⟩
  have hw := fun d (hd : d ∈ tables_1) => atoms_spec (ws := Jvm.Cond.code x code maxLocals ret :: tables_1) hat d (List.mem_cons_of_mem _ hd)
  obtain ⟨i0, ei0⟩ := is_v ga0
  obtain rfl : w0 = (.int i0) := Option.some.inj ei0
  obtain ⟨i1, ei1⟩ := is_v ga1
  obtain rfl : w1 = (.int i1) := Option.some.inj ei1
  obtain ⟨i2, ei2⟩ := is_v ga2
  obtain rfl : w2 = (.int i2) := Option.some.inj ei2
  obtain ⟨i3, ei3⟩ := is_v ga3
  obtain rfl : w3 = (.int i3) := Option.some.inj ei3
  obtain ⟨n, o, h1, h2, h3, _, L, rfl, ⟨rfl, N⟩, hq⟩ := rm0 l s _ hw tables_1 i0 i1 i2 i3 s.heap s.heap.size (Nat.le_refl _) p e ha hc hk s m _ below hf ((Spec.applies_iff_loose hf).mp happ).1 ⟨rfl, State.Warmed39.refl s, rfl⟩ trivial
  refine ⟨n, _, h1, h2, h3, hpost _ _ _ _ _ _ ⟨Cond.after_iff.mpr rfl, Cond.after_iff.mpr (eq_i res_at (Term.int_eval (1)) rfl), trivial⟩ ⟨hq.1, hq.2.1, (hq.2.2.sift fun y hy => Or.inr (N y hy)).mono (by decide) (by decide)⟩⟩
theorem main_1_1 : Claimed_1_1 := comes_1 fun _ _ _ _ _ _ h hF => ⟨h.1, hF⟩
theorem main_1_2 : Claimed_1_2 := comes_1 fun _ _ _ _ _ _ h hF => ⟨h.2.1, hF⟩
end Jvm.Pilot.@@N@@
namespace Jvm.Pilot.@@N@@
open Jvm Jvm.ClassFile Sem Op Lib Jvm.Free Jvm.Stand Jvm.Pilot.@@N@@.Jvm.D
/-! MADE BY PROGRAM (witnessworld.py) out of the Statement's table words and the real class files: 10 classes; the members and pool entries that the words name. The judged class is class 1, her method 1. -/
namespace start1
open Jvm.ClassFile
def u (s : String) : CpInfo := .utf8 (stringToUtf16 s)
/-- a pool by its gaps: so many unusable entries, then the entry; so many at the end -/
def gap : Nat → List CpInfo → List CpInfo
  | 0, r => r
  | n + 1, r => .unusable :: gap n r
def poolList (es : List (Nat × CpInfo)) (last : Nat) : List CpInfo := es.foldr (fun e r => gap e.1 (e.2 :: r)) (gap last [])
def pool (es : List (Nat × CpInfo)) (last : Nat) : Array CpInfo := ⟨poolList es last⟩
def fileOf (pool : Array CpInfo) (this : Nat) (attrs : Array Attribute := #[]) (ms : Array MethodInfo := #[]) (fl : Nat := 33) (sup : Nat := 0) (ifs : Array Nat := #[]) (fds : Array FieldInfo := #[]) : ClassFile where
  minorVersion := 0
  majorVersion := 65
  constantPool := pool
  accessFlags := fl
  thisClass := this
  superClass := sup
  interfaces := ifs
  fields := fds
  methods := ms
  attributes := attrs
def plain (name : String) (sup : Option ClassId) : Class where
  name := name
  kind := .ordinary
  loader := none
  accessFlags := 33
  super := sup
  interfaces := #[]
  cf := none
  fields := #[]
  methods := #[]
  instanceTypes := #[]
  staticTypes := #[]
  resolved := #[]
  callSites := []
  init := .initialized
  statics := none
  mirror := none

def pool0 : Array CpInfo := pool [(5, u "<init>"), (0, u "()V"), (1, .class_ 10), (1, u "java/lang/Object"), (85, u "clone"), (0, u "()Ljava/lang/Object;")] 26

def k0c0 : Code := { maxStack := 0, maxLocals := 1, code := object_method_1_code, exceptionTable := #[], attributes := #[] }
def k0m0 : Method := { name := "<init>", desc := "()V", sig := { parameters := [], returnType := none }, accessFlags := 1, code := some k0c0 }
def k0m1 : Method := { name := "clone", desc := "()Ljava/lang/Object;", sig := { parameters := [], returnType := some (.object "java/lang/Object") }, accessFlags := 260, code := none }
/-- java/lang/Object -/
def k0 : Class := { plain "java/lang/Object" none with
  accessFlags := 33
  interfaces := #[]
  cf := some (fileOf pool0 8 #[] #[{ accessFlags := 1, nameIndex := 5, descriptorIndex := 6, attributes := #[] }, { accessFlags := 260, nameIndex := 96, descriptorIndex := 97, attributes := #[] }] 33 0 #[] #[])
  fields := #[]
  methods := #[k0m0, k0m1]
  instanceTypes := #[]
  staticTypes := #[]
  resolved := Array.replicate 124 none
  statics := none }

def pool1 : Array CpInfo := pool [(2, .class_ 4), (1, u "java/lang/Object"), (0, u "<init>"), (0, u "()V"), (2, .integer 2147483631), (0, .methodref 11 12), (0, .class_ 13), (0, .nameAndType 14 15), (0, u "java/lang/Math"), (0, u "min"), (0, u "(II)I"), (0, .class_ 17), (0, u "com/example/junctura/junctura/conformance/OptimalPaths"), (0, .methodref 16 19), (0, .nameAndType 5 20), (0, u "(I[I[I[I[I[IIIII)V"), (0, .integer 2147483647), (0, .methodref 16 23), (0, .nameAndType 24 15), (0, u "state"), (0, .class_ 26), (0, u "com/example/junctura/junctura/conformance/OptimalPathsStatePinLaw"), (2, u "law"), (0, u "(IIII)Z")] 5

def k1m0 : Method := { name := "<init>", desc := "()V", sig := { parameters := [], returnType := none }, accessFlags := 1, code := none }
def k1c1 : Code := { maxStack := 12, maxLocals := 19, code := code, exceptionTable := #[], attributes := #[] }
def k1m1 : Method := { name := "law", desc := "(IIII)Z", sig := { parameters := [.int, .int, .int, .int], returnType := some .boolean }, accessFlags := 9, code := some k1c1 }
/-- com/example/junctura/junctura/conformance/OptimalPathsStatePinLaw -/
def k1 : Class := { plain "com/example/junctura/junctura/conformance/OptimalPathsStatePinLaw" (some 0) with
  accessFlags := 49
  interfaces := #[]
  cf := some (fileOf pool1 25 #[] #[{ accessFlags := 1, nameIndex := 5, descriptorIndex := 6, attributes := #[] }, { accessFlags := 9, nameIndex := 29, descriptorIndex := 30, attributes := #[] }] 49 2 #[] #[])
  fields := #[]
  methods := #[k1m0, k1m1]
  instanceTypes := #[]
  staticTypes := #[]
  resolved := Array.replicate 36 none
  statics := none }

def pool2 : Array CpInfo := pool [(1, .class_ 2), (0, u "java/lang/Math"), (1, .class_ 6), (1, u "java/lang/Object"), (0, u "<init>"), (0, u "()V"), (89, .class_ 100), (1, u "java/lang/Math$RandomNumberGeneratorHolder"), (71, u "negativeZeroFloatBits"), (0, u "J"), (2, u "negativeZeroDoubleBits"), (24, u "min"), (43, u "$assertionsDisabled"), (0, u "Z"), (88, u "(II)I"), (2, u "twoToTheDoubleScaleDown"), (0, u "D"), (4, u "twoToTheDoubleScaleUp"), (9, u "E"), (3, u "PI"), (2, u "TAU"), (2, u "DEGREES_TO_RADIANS"), (0, u "RADIANS_TO_DEGREES")] 94

def k2m0 : Method := { name := "<init>", desc := "()V", sig := { parameters := [], returnType := none }, accessFlags := 2, code := none }
def k2c1 : Code := { maxStack := 2, maxLocals := 2, code := jdk_29_method_69_code, exceptionTable := #[], attributes := #[] }
def k2m1 : Method := { name := "min", desc := "(II)I", sig := { parameters := [.int, .int], returnType := some .int }, accessFlags := 9, code := some k2c1 }
/-- java/lang/Math -/
def k2 : Class := { plain "java/lang/Math" (some 0) with
  accessFlags := 49
  interfaces := #[]
  cf := some (fileOf pool2 1 #[.nestMembers #[98]] #[{ accessFlags := 2, nameIndex := 7, descriptorIndex := 8, attributes := #[] }, { accessFlags := 9, nameIndex := 201, descriptorIndex := 335, attributes := #[] }] 49 4 #[] #[{ accessFlags := 25, nameIndex := 354, descriptorIndex := 339, attributes := #[] }, { accessFlags := 25, nameIndex := 358, descriptorIndex := 339, attributes := #[] }, { accessFlags := 25, nameIndex := 361, descriptorIndex := 339, attributes := #[] }, { accessFlags := 26, nameIndex := 364, descriptorIndex := 339, attributes := #[] }, { accessFlags := 26, nameIndex := 365, descriptorIndex := 339, attributes := #[] }, { accessFlags := 26, nameIndex := 172, descriptorIndex := 173, attributes := #[] }, { accessFlags := 26, nameIndex := 176, descriptorIndex := 173, attributes := #[] }, { accessFlags := 8, nameIndex := 344, descriptorIndex := 339, attributes := #[] }, { accessFlags := 8, nameIndex := 338, descriptorIndex := 339, attributes := #[] }, { accessFlags := 4120, nameIndex := 245, descriptorIndex := 246, attributes := #[] }])
  fields := #[{ name := "E", type := .double, accessFlags := 25, slot := 0, constantValue := 0 }, { name := "PI", type := .double, accessFlags := 25, slot := 1, constantValue := 0 }, { name := "TAU", type := .double, accessFlags := 25, slot := 2, constantValue := 0 }, { name := "DEGREES_TO_RADIANS", type := .double, accessFlags := 26, slot := 3, constantValue := 0 }, { name := "RADIANS_TO_DEGREES", type := .double, accessFlags := 26, slot := 4, constantValue := 0 }, { name := "negativeZeroFloatBits", type := .long, accessFlags := 26, slot := 5, constantValue := 0 }, { name := "negativeZeroDoubleBits", type := .long, accessFlags := 26, slot := 6, constantValue := 0 }, { name := "twoToTheDoubleScaleUp", type := .double, accessFlags := 8, slot := 7, constantValue := 0 }, { name := "twoToTheDoubleScaleDown", type := .double, accessFlags := 8, slot := 8, constantValue := 0 }, { name := "$assertionsDisabled", type := .boolean, accessFlags := 4120, slot := 9, constantValue := 0 }]
  methods := #[k2m0, k2m1]
  instanceTypes := #[]
  staticTypes := #[.double, .double, .double, .double, .double, .long, .long, .double, .double, .boolean]
  resolved := Array.replicate 460 none
  statics := none }

def pool3 : Array CpInfo := pool [(1, .methodref 2 3), (0, .class_ 4), (0, .nameAndType 5 6), (0, u "java/lang/Object"), (0, u "<init>"), (0, u "()V"), (0, .fieldref 8 9), (0, .class_ 10), (0, .nameAndType 11 12), (0, u "com/example/junctura/junctura/conformance/OptimalPaths"), (0, u "events"), (0, u "I"), (0, .fieldref 8 14), (0, .nameAndType 15 16), (0, u "marking"), (0, u "[I"), (0, .fieldref 8 18), (0, .nameAndType 19 16), (0, u "position"), (0, .fieldref 8 21), (0, .nameAndType 22 12), (0, u "start"), (0, .fieldref 8 24), (0, .nameAndType 25 12), (0, u "goal"), (0, .fieldref 8 27), (0, .nameAndType 28 12), (0, u "cost"), (0, .fieldref 8 30), (0, .nameAndType 31 12), (0, u "logMoves"), (0, .fieldref 8 33), (0, .nameAndType 34 16), (0, u "firstAt"), (0, .methodref 8 36), (0, .nameAndType 37 38), (0, u "countBy"), (0, u "([II)[I"), (0, .fieldref 8 40), (0, .nameAndType 41 16), (0, u "firstOut"), (0, .fieldref 8 43), (0, .nameAndType 44 16), (0, u "firstIn"), (0, .fieldref 8 46), (0, .nameAndType 47 16), (0, u "target"), (0, .fieldref 8 49), (0, .nameAndType 50 16), (0, u "transition"), (0, .fieldref 8 52), (0, .nameAndType 53 16), (0, u "source"), (0, .methodref 55 56), (0, .class_ 16), (0, .nameAndType 57 58), (0, u "clone"), (0, u "()Ljava/lang/Object;"), (0, u "(I[I[I[I[I[IIIII)V"), (6, u "state"), (0, u "(II)I")] 4

def k3c0 : Code := { maxStack := 6, maxLocals := 16, code := prog_45_method_1_code, exceptionTable := #[], attributes := #[] }
def k3m0 : Method := { name := "<init>", desc := "(I[I[I[I[I[IIIII)V", sig := { parameters := [.int, (.array .int), (.array .int), (.array .int), (.array .int), (.array .int), .int, .int, .int, .int], returnType := none }, accessFlags := 0, code := some k3c0 }
def k3c1 : Code := { maxStack := 3, maxLocals := 6, code := prog_45_method_11_code, exceptionTable := #[], attributes := #[] }
def k3m1 : Method := { name := "state", desc := "(II)I", sig := { parameters := [.int, .int], returnType := some .int }, accessFlags := 0, code := some k3c1 }
def k3c2 : Code := { maxStack := 5, maxLocals := 7, code := prog_45_method_19_code, exceptionTable := #[], attributes := #[] }
def k3m2 : Method := { name := "countBy", desc := "([II)[I", sig := { parameters := [(.array .int), .int], returnType := some (.array .int) }, accessFlags := 10, code := some k3c2 }
/-- com/example/junctura/junctura/conformance/OptimalPaths -/
def k3 : Class := { plain "com/example/junctura/junctura/conformance/OptimalPaths" (some 0) with
  accessFlags := 48
  interfaces := #[]
  cf := some (fileOf pool3 8 #[] #[{ accessFlags := 0, nameIndex := 5, descriptorIndex := 59, attributes := #[] }, { accessFlags := 0, nameIndex := 66, descriptorIndex := 67, attributes := #[] }, { accessFlags := 10, nameIndex := 37, descriptorIndex := 38, attributes := #[] }] 48 2 #[] #[{ accessFlags := 18, nameIndex := 11, descriptorIndex := 12, attributes := #[] }, { accessFlags := 18, nameIndex := 15, descriptorIndex := 16, attributes := #[] }, { accessFlags := 18, nameIndex := 19, descriptorIndex := 16, attributes := #[] }, { accessFlags := 18, nameIndex := 34, descriptorIndex := 16, attributes := #[] }, { accessFlags := 18, nameIndex := 41, descriptorIndex := 16, attributes := #[] }, { accessFlags := 18, nameIndex := 47, descriptorIndex := 16, attributes := #[] }, { accessFlags := 18, nameIndex := 50, descriptorIndex := 16, attributes := #[] }, { accessFlags := 18, nameIndex := 44, descriptorIndex := 16, attributes := #[] }, { accessFlags := 18, nameIndex := 53, descriptorIndex := 16, attributes := #[] }, { accessFlags := 18, nameIndex := 22, descriptorIndex := 12, attributes := #[] }, { accessFlags := 18, nameIndex := 25, descriptorIndex := 12, attributes := #[] }, { accessFlags := 18, nameIndex := 28, descriptorIndex := 12, attributes := #[] }, { accessFlags := 18, nameIndex := 31, descriptorIndex := 12, attributes := #[] }])
  fields := #[{ name := "events", type := .int, accessFlags := 18, slot := 0, constantValue := 0 }, { name := "marking", type := (.array .int), accessFlags := 18, slot := 1, constantValue := 0 }, { name := "position", type := (.array .int), accessFlags := 18, slot := 2, constantValue := 0 }, { name := "firstAt", type := (.array .int), accessFlags := 18, slot := 3, constantValue := 0 }, { name := "firstOut", type := (.array .int), accessFlags := 18, slot := 4, constantValue := 0 }, { name := "target", type := (.array .int), accessFlags := 18, slot := 5, constantValue := 0 }, { name := "transition", type := (.array .int), accessFlags := 18, slot := 6, constantValue := 0 }, { name := "firstIn", type := (.array .int), accessFlags := 18, slot := 7, constantValue := 0 }, { name := "source", type := (.array .int), accessFlags := 18, slot := 8, constantValue := 0 }, { name := "start", type := .int, accessFlags := 18, slot := 9, constantValue := 0 }, { name := "goal", type := .int, accessFlags := 18, slot := 10, constantValue := 0 }, { name := "cost", type := .int, accessFlags := 18, slot := 11, constantValue := 0 }, { name := "logMoves", type := .int, accessFlags := 18, slot := 12, constantValue := 0 }]
  methods := #[k3m0, k3m1, k3m2]
  instanceTypes := #[.int, (.array .int), (.array .int), (.array .int), (.array .int), (.array .int), (.array .int), (.array .int), (.array .int), .int, .int, .int, .int]
  staticTypes := #[]
  resolved := Array.replicate 72 none
  statics := none }

def pool4 : Array CpInfo := pool [(1, .class_ 2), (0, u "java/lang/Cloneable"), (0, .class_ 4), (0, u "java/lang/Object")] 2

/-- java/lang/Cloneable -/
def k4 : Class := { plain "java/lang/Cloneable" (some 0) with
  accessFlags := 1537
  interfaces := #[]
  cf := some (fileOf pool4 1 #[] #[] 1537 3 #[] #[])
  fields := #[]
  methods := #[]
  instanceTypes := #[]
  staticTypes := #[]
  resolved := Array.replicate 7 none
  statics := none }

def pool5 : Array CpInfo := pool [(1, u "java/io/Serializable"), (0, .class_ 1), (0, u "java/lang/Object"), (0, .class_ 3)] 3

/-- java/io/Serializable -/
def k5 : Class := { plain "java/io/Serializable" (some 0) with
  accessFlags := 1537
  interfaces := #[]
  cf := some (fileOf pool5 2 #[] #[] 1537 4 #[] #[])
  fields := #[]
  methods := #[]
  instanceTypes := #[]
  staticTypes := #[]
  resolved := Array.replicate 8 none
  statics := none }

/-- the primitive byte -/
def k6 : Class := { plain "byte" none with kind := .primitive 'B', accessFlags := 0x411 }
/-- [B -/
def k7 : Class := { plain "[B" (some 0) with kind := .array 6 .byte, interfaces := #[4, 5], accessFlags := 1041 }

/-- the primitive int -/
def k8 : Class := { plain "int" none with kind := .primitive 'I', accessFlags := 0x411 }
/-- [I -/
def k9 : Class := { plain "[I" (some 0) with kind := .array 8 .int, interfaces := #[4, 5], accessFlags := 1041 }

def heap : Heap := #[]
def classes : Array Class := #[k0, k1, k2, k3, k4, k5, k6, k7, k8, k9]
def interned : List (Array UInt16 × Addr) := []
def slotsUsed : Nat := 0
def theMethod : MethodId := ⟨1, 1⟩
def args0 : Array Value := #[.int 5, .int 300, .int 7, .int 9]
def aboutOver (below : List Frame) : State where
  vm := { classes := classes, interned := interned.toArray }
  heap := heap
  slotsUsed := slotsUsed
  threads := #[{ frames := .invoking theMethod args0 :: below }]
def below0 : List Frame := [.native { method := ⟨0, 0⟩, args := #[] }]
def about1 : State := aboutOver below0
def p0 : Program := .bare "" "" ""
def e0 : Env := launch0.env 0 0 0
theorem w_frames : about1.frames = Frame.invoking theMethod args0 :: below0 := rfl
set_option maxRecDepth 65536 in
theorem w_args : argsFit about1.vm theMethod args0 = true := by decide +kernel
set_option maxRecDepth 65536 in
theorem w_heap : heapFits about1 = true := by decide +kernel
set_option maxRecDepth 65536 in
theorem w_runnable : about1.curStatus? = some .runnable := by decide +kernel
set_option maxRecDepth 65536 in
theorem w_alone : about1.alone = true := by decide +kernel
set_option maxRecDepth 65536 in
theorem w_named : about1.methodNamed? x = some theMethod := by decide +kernel
set_option maxRecDepth 65536 in
theorem w_hears : about1.hears theMethod below0 = true := by decide +kernel
set_option maxRecDepth 65536 in
theorem w_ripe : about1.ripe theMethod args0 below0 = true := by decide +kernel
theorem w_running : about1.status = .running := rfl
set_option maxRecDepth 65536 in
theorem w_room : about1.hasRoom e0.platform room_1 = true :=
  launch0.hasRoom_least _ room_1 (by decide +kernel) (by decide +kernel) (by decide +kernel) (by decide +kernel) (by decide +kernel) (by decide +kernel)
theorem allAtoms_all (ts : List Jvm.Cond) (a : Array Jvm.Value) (st : Jvm.State) : (allAtoms ts).before a st = ts.all (fun c => c.before a st) := by
  induction ts with
  | nil => rfl
  | cons c t ih =>
    show (Jvm.Cond.and c (allAtoms t)).before a st = _
    rw [Jvm.Cond.before_and, ih, List.all_cons]
def words1 : List Jvm.Cond := Jvm.Cond.code x code maxLocals ret :: tables_1
/-- a 'code' word, met by the world's own term for the bytes: nothing is compared byte by byte -/
theorem code_word {y : MethodName} {bytes : ByteArray} {mx : Nat} {rt : Option FieldType} {a : Array Value} {s : State} {m : MethodId} {meth : Method} {c : Code} (h1 : s.methodNamed? y = some m) (h2 : s.vm.method? m = some meth) (h3 : meth.code = some c) (h4 : c.code = bytes)
    (h5 : (c.maxLocals == mx && c.exceptionTable.isEmpty && decide (c.maxStack ≤ mostOperands) && decide (meth.sig.returnType = rt) && !meth.locks && decide (parseMethodDescriptor y.desc = some meth.sig)) = true) : (Jvm.Cond.code y bytes mx rt).before a s = true := by
  simp only [Bool.and_eq_true, beq_iff_eq, Bool.not_eq_true', decide_eq_true_eq] at h5
  obtain ⟨⟨⟨⟨⟨g1, g2⟩, g3⟩, g4⟩, g5⟩, g6⟩ := h5
  simp [Cond.before, Cond.holds, Cond.value, h1, h2, h3, h4, g1, g2, g3, g4, g5, g6]
def isCode : Jvm.Cond → Bool
  | .code _ _ _ _ => true
  | _ => false
theorem all_split {L : List Jvm.Cond} {P : Jvm.Cond → Bool} (h1 : L.all (fun c => isCode c || P c) = true) (h2 : ∀ c ∈ L.filter isCode, P c = true) : L.all P = true := by
  refine List.all_eq_true.mpr fun c hc => ?_
  have h := List.all_eq_true.mp h1 c hc
  rcases Bool.eq_false_or_eq_true (isCode c) with hi | hi
  · exact h2 c (List.mem_filter.mpr ⟨hc, hi⟩)
  · simpa [hi] using h
set_option maxRecDepth 65536 in
theorem w_c0 : (Jvm.Cond.code x code maxLocals ret).before args0 about1 = true := code_word (m := ⟨1, 1⟩) (meth := k1m1) (c := k1c1) (by decide +kernel) rfl rfl rfl (by decide +kernel)
set_option maxRecDepth 65536 in
theorem w_c1 : (Jvm.Cond.code ({ cls := "java/lang/Math", name := "min", desc := "(II)I" } : Jvm.MethodName) jdk_29_method_69_code (2 : Nat) (Option.some Jvm.ClassFile.FieldType.int)).before args0 about1 = true := code_word (m := ⟨2, 1⟩) (meth := k2m1) (c := k2c1) (by decide +kernel) rfl rfl rfl (by decide +kernel)
set_option maxRecDepth 65536 in
theorem w_c2 : (Jvm.Cond.code ({ cls := "com/example/junctura/junctura/conformance/OptimalPaths", name := "<init>", desc := "(I[I[I[I[I[IIIII)V" } : Jvm.MethodName) prog_45_method_1_code (16 : Nat) (Option.none : Option Jvm.ClassFile.FieldType)).before args0 about1 = true := code_word (m := ⟨3, 0⟩) (meth := k3m0) (c := k3c0) (by decide +kernel) rfl rfl rfl (by decide +kernel)
set_option maxRecDepth 65536 in
theorem w_c3 : (Jvm.Cond.code ({ cls := "java/lang/Object", name := "<init>", desc := "()V" } : Jvm.MethodName) object_method_1_code (1 : Nat) (Option.none : Option Jvm.ClassFile.FieldType)).before args0 about1 = true := code_word (m := ⟨0, 0⟩) (meth := k0m0) (c := k0c0) (by decide +kernel) rfl rfl rfl (by decide +kernel)
set_option maxRecDepth 65536 in
theorem w_c4 : (Jvm.Cond.code ({ cls := "com/example/junctura/junctura/conformance/OptimalPaths", name := "countBy", desc := "([II)[I" } : Jvm.MethodName) prog_45_method_19_code (7 : Nat) (Option.some (Jvm.ClassFile.FieldType.array Jvm.ClassFile.FieldType.int))).before args0 about1 = true := code_word (m := ⟨3, 2⟩) (meth := k3m2) (c := k3c2) (by decide +kernel) rfl rfl rfl (by decide +kernel)
set_option maxRecDepth 65536 in
theorem w_c5 : (Jvm.Cond.code ({ cls := "com/example/junctura/junctura/conformance/OptimalPaths", name := "state", desc := "(II)I" } : Jvm.MethodName) prog_45_method_11_code (6 : Nat) (Option.some Jvm.ClassFile.FieldType.int)).before args0 about1 = true := code_word (m := ⟨3, 1⟩) (meth := k3m1) (c := k3c1) (by decide +kernel) rfl rfl rfl (by decide +kernel)
def codes1 : List Jvm.Cond := [Jvm.Cond.code x code maxLocals ret, Jvm.Cond.code ({ cls := "java/lang/Math", name := "min", desc := "(II)I" } : Jvm.MethodName) jdk_29_method_69_code (2 : Nat) (Option.some Jvm.ClassFile.FieldType.int), Jvm.Cond.code ({ cls := "com/example/junctura/junctura/conformance/OptimalPaths", name := "<init>", desc := "(I[I[I[I[I[IIIII)V" } : Jvm.MethodName) prog_45_method_1_code (16 : Nat) (Option.none : Option Jvm.ClassFile.FieldType), Jvm.Cond.code ({ cls := "java/lang/Object", name := "<init>", desc := "()V" } : Jvm.MethodName) object_method_1_code (1 : Nat) (Option.none : Option Jvm.ClassFile.FieldType), Jvm.Cond.code ({ cls := "com/example/junctura/junctura/conformance/OptimalPaths", name := "countBy", desc := "([II)[I" } : Jvm.MethodName) prog_45_method_19_code (7 : Nat) (Option.some (Jvm.ClassFile.FieldType.array Jvm.ClassFile.FieldType.int)), Jvm.Cond.code ({ cls := "com/example/junctura/junctura/conformance/OptimalPaths", name := "state", desc := "(II)I" } : Jvm.MethodName) prog_45_method_11_code (6 : Nat) (Option.some Jvm.ClassFile.FieldType.int)]
set_option maxRecDepth 65536 in
theorem codes_eq : words1.filter isCode = codes1 := rfl
theorem w_codes : ∀ c ∈ words1.filter isCode, c.before args0 about1 = true := by
  rw [codes_eq]
  intro c hc
  simp only [codes1, List.mem_cons, List.not_mem_nil, or_false] at hc
  rcases hc with rfl | rfl | rfl | rfl | rfl | rfl
  · exact w_c0
  · exact w_c1
  · exact w_c2
  · exact w_c3
  · exact w_c4
  · exact w_c5
set_option maxRecDepth 65536 in
theorem w_t1 : (words1.take 24).all (fun c => isCode c || c.before args0 about1) = true := by decide +kernel
set_option maxRecDepth 65536 in
theorem w_t2 : ((words1.drop 24).take 24).all (fun c => isCode c || c.before args0 about1) = true := by decide +kernel
set_option maxRecDepth 65536 in
theorem w_t3 : ((words1.drop 24).drop 24).all (fun c => isCode c || c.before args0 about1) = true := by decide +kernel
theorem w_tables : (allAtoms (Jvm.Cond.code x code maxLocals ret :: tables_1)).before args0 about1 = true := by
  rw [allAtoms_all]
  show words1.all (fun c => c.before args0 about1) = true
  refine all_split ?_ w_codes
  rw [← List.take_append_drop 24 words1, List.all_append, w_t1, ← List.take_append_drop 24 (words1.drop 24), List.all_append, w_t2, w_t3]
  rfl
set_option maxRecDepth 65536 in
theorem w_case : (Jvm.Cond.and given_1 narrow_1).before args0 about1 = true := by decide +kernel
theorem w_applies : (headSpec (Jvm.Cond.code x code maxLocals ret :: tables_1) room_1).applies x e0.platform about1 = true :=
  (Spec.applies_iff w_frames).mpr ⟨w_running, w_runnable, w_alone, w_named, w_hears, w_ripe, w_room, w_tables⟩
theorem atStart : AtStart classFile x code maxLocals ret World_1 tables_1 room_1 Calls_1 rest_1 Pre_1 launch0 p0 e0 about1 theMethod args0 below0 :=
  ⟨lists_1, trivial, launch0.admits_env _ _ _, launch0.least_env, fairChoices_fair.cas, fairChoices_fair.clock, w_frames, w_args, w_heap, w_applies, trivial, trivial, w_case⟩
end start1
theorem witness_1 : WitnessClaimed_1 := ⟨start1.p0, start1.e0, start1.about1, start1.theMethod, start1.args0, start1.below0, start1.atStart⟩
end Jvm.Pilot.@@N@@
