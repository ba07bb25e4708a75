import JvmDerived
import JvmDerived.Pilot.@@N@@Statement
import JvmDerived.Pilot.@@N@@Code
set_option linter.unusedVariables false
set_option linter.unusedSimpArgs false
namespace Jvm.Pilot.@@N@@
open Jvm Jvm.ClassFile Sem Op Lib Jvm.Free Jvm.Stand Jvm.LawKit Jvm.RoadKit Bundle Jvm.Pilot.@@N@@.Jvm.D
section OwnKit
variable {p : Program} {l : Launch} {e : Env} {R : Room} {s : State} {m : MethodId} {args : Array Value} {below : List Frame} {meth : Method} {c : Code} {T : State} {locs : List Loc} {cells slots : Nat} {bc : ByteArray} {Q : Option Value → Heap → List Loc → Prop} {EF : Outcome → State → List Loc → Prop} {mc ms kk : Nat} {Z : State} {a0 : Array Value} {h : Heap} {pc pc' pt pf : Nat} {Ls : Array Slot} {st rest : List Value}
/-- from this frame over T the invocation comes to its end by returning, and Q holds there -/
def Go (p : Program) (e : Env) (below : List Frame) (EF : Outcome → State → List Loc → Prop) (Q : Option Value → Heap → List Loc → Prop) (m : MethodId) (T : State) (pc : Nat) (Ls : Array Slot) (st : List Value) : Prop :=
  ∃ s₂ o, Steps p.tables e below (T.setTop (mkF m pc Ls st)) s₂ ∧ s₂.status = .running ∧ Ended s₂ below o ∧ ∃ v L, o = .returned v ∧ Q v s₂.heap L ∧ EF o s₂ L
def EndOk (s : State) (EF : Outcome → State → List Loc → Prop) (mc ms kk : Nat) : Prop := ∀ v U L, FrameEnd s (.returned v) U L mc ms → kk ≤ U.heap.size → EF (.returned v) U L
theorem Go.of {T' : State} {Ls' : Array Slot} {st' : List Value} (k : ∀ t, Steps p.tables e below (T'.setTop (mkF m pc' Ls' st')) t → Steps p.tables e below (T.setTop (mkF m pc Ls st)) t) (g : Go p e below EF Q m T' pc' Ls' st') : Go p e below EF Q m T pc Ls st := by
  obtain ⟨s₂, o, h1, h2⟩ := g
  exact ⟨s₂, o, k _ h1, h2⟩
/-- a method's contract, as a caller takes it -/
def Ct (l : Launch) (Z : State) (y : MethodName) (bytes : ByteArray) (maxL : Nat) (ret : Option FieldType) (rm : Room) (as' : Array Value) (h : Heap) (Q : Option Value → Heap → List Loc → Prop) : Prop :=
  MetFree l y (head1 [Jvm.Cond.code y bytes maxL ret] rm) (fun a U => a = as' ∧ Z.Warmed39 U.vm ∧ U.heap = h) (fun _ _ _ _ _ => True) (fun _ U o U' => ∃ v L, o = .returned v ∧ Q v U'.heap L ∧ FrameEnd U o U' L rm.cells rm.slots)
theorem own_met {y : MethodName} {bytes : ByteArray} {maxL : Nat} {ret : Option FieldType} {ws : List Jvm.Cond} {rm : Room} {as' : Array Value}
    (hpl : plainFor y = true) (hef : ∀ m, entryFrame m as' maxL = mkF m 0 Ls [])
    (body : ∀ (p : Program) (e : Env) (s : State) (m : MethodId) (below : List Frame) (meth : Method) (c : Code) (T : State) (EF : Outcome → State → List Loc → Prop), Stand p l e rm s m as' below meth c T [] 0 0 → p.tables.exec = Jvm.exec → c.code = bytes → c.maxLocals = maxL →
      s.vm.findClass y.cls = some m.cls → meth.name = y.name → meth.sig.returnType = ret → meth.locks = false → Z.Warmed39 s.vm → EndOk s EF mc ms 0 → T.heap = h → Go p e below EF Q m T 0 Ls []) :
    MetFree l y (head1 (Jvm.Cond.code y bytes maxL ret :: ws) rm) (fun a U => a = as' ∧ Z.Warmed39 U.vm ∧ U.heap = h) (fun _ _ _ _ _ => True) (fun _ U o U' => ∃ v L, o = .returned v ∧ Q v U'.heap L ∧ FrameEnd U o U' L mc ms) := by
  refine MetFree.of_bodySF hpl hisR ?_
  intro p e s m args below meth c s₁ Bd hml0 hP hK
  obtain ⟨rfl, hZ, hh⟩ := hP
  obtain ⟨s₂, o, h1, h2, h3, v, L, h4, h5, h6⟩ := body p e s m below meth c s₁ (fun o U L => FrameEnd s o U L mc ms) (Stand.of_body Bd) Bd.exec Bd.bytes hml0 (findClass_of_methodNamed Bd.named) (name_of_methodNamed Bd.named Bd.method).1 Bd.returns Bd.notSynchronized hZ (fun _ _ _ f _ => f) (by rw [← hh, Bd.state]; rfl)
  exact ⟨s₂, o, castTop (hef m) h1, h2, h3, v, L, h4, h5, h6⟩
def WOk (s : State) (EF : Outcome → State → List Loc → Prop) (mc ms kk : Nat) : Prop := ∀ vm' n, s.Since vm' n → kk ≤ n → ∀ v U L, FrameEnd (s.setVm vm') (.returned v) U L mc ms → n ≤ U.heap.size → EF (.returned v) U L
theorem WOk.fin (W : WOk s EF mc ms kk) : EndOk s EF mc ms kk := fun v U L f k => W s.vm kk (State.WarmedH.since (State.WarmedH.refl s) kk) (Nat.le_refl _) v U L f k
theorem WOk.step (W : WOk s EF mc ms kk) {vm1 : Vm} {n1 : Nat} (h : s.Since vm1 n1) (hk : kk ≤ n1) : WOk (s.setVm vm1) EF mc ms n1 := fun vm' n h2 hn v U L f k => W vm' n (h.trans h2 hn) (Nat.le_trans hk hn) v U L f k
theorem WOk.start : WOk s (fun o U L => ReturnedEndW s o U L mc ms) mc ms 0 := fun vm' n h _ v U L f k => by
  obtain ⟨a, b, d⟩ := f
  obtain ⟨x, y, z⟩ := h.ended b k d
  exact ⟨⟨v, rfl⟩, x, y, z⟩
/-- .. of a method that may intern -/
def CtW (l : Launch) (Z : State) (y : MethodName) (bytes : ByteArray) (maxL : Nat) (ret : Option FieldType) (rm : Room) (as' : Array Value) (h : Heap) (Q : Option Value → Heap → List Loc → Prop) : Prop :=
  MetFree l y (head1 [Jvm.Cond.code y bytes maxL ret] rm) (fun a U => a = as' ∧ Z.Warmed39 U.vm ∧ U.heap = h) (fun _ _ _ _ _ => True) (fun _ U o U' => ∃ v L, o = .returned v ∧ Q v U'.heap L ∧ ReturnedEndW U o U' L rm.cells rm.slots)
theorem own_metW {y : MethodName} {bytes : ByteArray} {maxL : Nat} {ret : Option FieldType} {ws : List Jvm.Cond} {rm : Room} {as' : Array Value}
    (hpl : plainFor y = true) (hef : ∀ m, entryFrame m as' maxL = mkF m 0 Ls [])
    (body : ∀ (p : Program) (e : Env) (s : State) (m : MethodId) (below : List Frame) (meth : Method) (c : Code) (T : State) (EF : Outcome → State → List Loc → Prop), Stand p l e rm s m as' below meth c T [] 0 0 → p.tables.exec = Jvm.exec → c.code = bytes → c.maxLocals = maxL →
      s.vm.findClass y.cls = some m.cls → meth.name = y.name → meth.sig.returnType = ret → meth.locks = false → Z.Warmed39 s.vm → WOk s EF mc ms 0 → T.heap = h → Go p e below EF Q m T 0 Ls []) :
    MetFree l y (head1 (Jvm.Cond.code y bytes maxL ret :: ws) rm) (fun a U => a = as' ∧ Z.Warmed39 U.vm ∧ U.heap = h) (fun _ _ _ _ _ => True) (fun _ U o U' => ∃ v L, o = .returned v ∧ Q v U'.heap L ∧ ReturnedEndW U o U' L mc ms) := by
  refine MetFree.of_bodySF hpl hisR ?_
  intro p e s m args below meth c s₁ Bd hml0 hP hK
  obtain ⟨rfl, hZ, hh⟩ := hP
  obtain ⟨s₂, o, h1, h2, h3, v, L, h4, h5, h6⟩ := body p e s m below meth c s₁ (fun o U L => ReturnedEndW s o U L mc ms) (Stand.of_body Bd) Bd.exec Bd.bytes hml0 (findClass_of_methodNamed Bd.named) (name_of_methodNamed Bd.named Bd.method).1 Bd.returns Bd.notSynchronized hZ WOk.start (by rw [← hh, Bd.state]; rfl)
  exact ⟨s₂, o, castTop (hef m) h1, h2, h3, v, L, h4, h5, h6⟩
theorem g_nameI {x : Int32} (k : ∀ z : Int32, z = x → Go p e below EF Q m T pc Ls (.int z :: rest)) : Go p e below EF Q m T pc Ls (.int x :: rest) := k x rfl
theorem g_nameL {x : Int64} (k : ∀ z : Int64, z = x → Go p e below EF Q m T pc Ls (.long z :: rest)) : Go p e below EF Q m T pc Ls (.long x :: rest) := k x rfl
theorem g_iloadN (X : Stand p l e R s m args below meth c T locs cells slots) (hx : p.tables.exec = Jvm.exec) (hby : c.code = bc) {n : Fin 4} {v : Int32} (hd : decode bc pc = .ok (.iload_n n, 1)) (hp : pc + 1 = pc') (hl : Ls[n.val]? = some (.val (.int v))) (k : Go p e below EF Q m T pc' Ls (.int v :: st)) : Go p e below EF Q m T pc Ls st := by
  subst hp; exact Go.of (fun _ q => XS.iloadN X.here hx rfl (hb hby hd) hl q) k
theorem g_iload (X : Stand p l e R s m args below meth c T locs cells slots) (hx : p.tables.exec = Jvm.exec) (hby : c.code = bc) {n : Nat} {v : Int32} (hd : decode bc pc = .ok (.iload n, 2)) (hp : pc + 2 = pc') (hl : Ls[n]? = some (.val (.int v))) (k : Go p e below EF Q m T pc' Ls (.int v :: st)) : Go p e below EF Q m T pc Ls st := by
  subst hp; exact Go.of (fun _ q => XS.iload X.here hx rfl (hb hby hd) hl q) k
theorem g_istore (X : Stand p l e R s m args below meth c T locs cells slots) (hx : p.tables.exec = Jvm.exec) (hby : c.code = bc) {n : Nat} {v : Int32} {Ls' : Array Slot} (hd : decode bc pc = .ok (.istore n, 2)) (hp : pc + 2 = pc') (hl : storeLocals Ls n (.int v) = some Ls') (k : Go p e below EF Q m T pc' Ls' rest) : Go p e below EF Q m T pc Ls (.int v :: rest) := by
  subst hp; exact Go.of (fun _ q => XS.istore X.here hx rfl (hb hby hd) rfl hl q) k
theorem g_lloadN (X : Stand p l e R s m args below meth c T locs cells slots) (hx : p.tables.exec = Jvm.exec) (hby : c.code = bc) {n : Fin 4} {v : Int64} (hd : decode bc pc = .ok (.lload_n n, 1)) (hp : pc + 1 = pc') (hl : Ls[n.val]? = some (.val (.long v))) (k : Go p e below EF Q m T pc' Ls (.long v :: st)) : Go p e below EF Q m T pc Ls st := by
  subst hp; exact Go.of (fun _ q => XS.lloadN X.here hx rfl (hb hby hd) hl q) k
theorem g_lload (X : Stand p l e R s m args below meth c T locs cells slots) (hx : p.tables.exec = Jvm.exec) (hby : c.code = bc) {n : Nat} {v : Int64} (hd : decode bc pc = .ok (.lload n, 2)) (hp : pc + 2 = pc') (hl : Ls[n]? = some (.val (.long v))) (k : Go p e below EF Q m T pc' Ls (.long v :: st)) : Go p e below EF Q m T pc Ls st := by
  subst hp; exact Go.of (fun _ q => XS.lload X.here hx rfl (hb hby hd) hl q) k
theorem g_lstoreN (X : Stand p l e R s m args below meth c T locs cells slots) (hx : p.tables.exec = Jvm.exec) (hby : c.code = bc) {n : Fin 4} {v : Int64} {Ls' : Array Slot} (hd : decode bc pc = .ok (.lstore_n n, 1)) (hp : pc + 1 = pc') (hl : storeLocals Ls n.val (.long v) = some Ls') (k : Go p e below EF Q m T pc' Ls' rest) : Go p e below EF Q m T pc Ls (.long v :: rest) := by
  subst hp; exact Go.of (fun _ q => XS.lstoreN X.here hx rfl (hb hby hd) rfl hl q) k
theorem g_lstore (X : Stand p l e R s m args below meth c T locs cells slots) (hx : p.tables.exec = Jvm.exec) (hby : c.code = bc) {n : Nat} {v : Int64} {Ls' : Array Slot} (hd : decode bc pc = .ok (.lstore n, 2)) (hp : pc + 2 = pc') (hl : storeLocals Ls n (.long v) = some Ls') (k : Go p e below EF Q m T pc' Ls' rest) : Go p e below EF Q m T pc Ls (.long v :: rest) := by
  subst hp; exact Go.of (fun _ q => XS.lstore X.here hx rfl (hb hby hd) rfl hl q) k
theorem g_aloadN (X : Stand p l e R s m args below meth c T locs cells slots) (hx : p.tables.exec = Jvm.exec) (hby : c.code = bc) {n : Fin 4} {v : Value} (hd : decode bc pc = .ok (.aload_n n, 1)) (hp : pc + 1 = pc') (hl : Ls[n.val]? = some (.val v)) (hv : v.isRef = true) (k : Go p e below EF Q m T pc' Ls (v :: st)) : Go p e below EF Q m T pc Ls st := by
  subst hp; exact Go.of (fun _ q => XS.aloadN X.here hx rfl (hb hby hd) hl hv q) k
theorem g_aload (X : Stand p l e R s m args below meth c T locs cells slots) (hx : p.tables.exec = Jvm.exec) (hby : c.code = bc) {n : Nat} {v : Value} (hd : decode bc pc = .ok (.aload n, 2)) (hp : pc + 2 = pc') (hl : Ls[n]? = some (.val v)) (hv : v.isRef = true) (k : Go p e below EF Q m T pc' Ls (v :: st)) : Go p e below EF Q m T pc Ls st := by
  subst hp; exact Go.of (fun _ q => XS.aload X.here hx rfl (hb hby hd) hl hv q) k
theorem g_astore (X : Stand p l e R s m args below meth c T locs cells slots) (hx : p.tables.exec = Jvm.exec) (hby : c.code = bc) {n : Nat} {v : Value} {Ls' : Array Slot} (hd : decode bc pc = .ok (.astore n, 2)) (hp : pc + 2 = pc') (hv : v.isRef = true) (hl : storeLocals Ls n v = some Ls') (k : Go p e below EF Q m T pc' Ls' rest) : Go p e below EF Q m T pc Ls (v :: rest) := by
  subst hp; exact Go.of (fun _ q => XS.astore X.here hx rfl (hb hby hd) rfl hv hl q) k
theorem g_iconst (X : Stand p l e R s m args below meth c T locs cells slots) (hx : p.tables.exec = Jvm.exec) (hby : c.code = bc) {i : Int} {n : Int32} (hd : decode bc pc = .ok (.iconst i, 1)) (hp : pc + 1 = pc') (hn : Int32.ofInt i = n) (k : Go p e below EF Q m T pc' Ls (.int n :: st)) : Go p e below EF Q m T pc Ls st := by
  subst hp; exact Go.of (fun _ q => XS.iconst X.here hx rfl (hb hby hd) (by rw [hn]; exact q)) k
theorem g_bipush (X : Stand p l e R s m args below meth c T locs cells slots) (hx : p.tables.exec = Jvm.exec) (hby : c.code = bc) {i : Int} {n : Int32} (hd : decode bc pc = .ok (.bipush i, 2)) (hp : pc + 2 = pc') (hn : (Int8.ofInt i).toInt32 = n) (k : Go p e below EF Q m T pc' Ls (.int n :: st)) : Go p e below EF Q m T pc Ls st := by
  subst hp; exact Go.of (fun _ q => XS.bipush X.here hx rfl (hb hby hd) (by rw [hn]; exact q)) k
theorem g_sipush (X : Stand p l e R s m args below meth c T locs cells slots) (hx : p.tables.exec = Jvm.exec) (hby : c.code = bc) {i : Int} {n : Int32} (hd : decode bc pc = .ok (.sipush i, 3)) (hp : pc + 3 = pc') (hn : (Int16.ofInt i).toInt32 = n) (k : Go p e below EF Q m T pc' Ls (.int n :: st)) : Go p e below EF Q m T pc Ls st := by
  subst hp; exact Go.of (fun _ q => XS.sipush X.here hx rfl (hb hby hd) (by rw [hn]; exact q)) k
theorem g_lconst (X : Stand p l e R s m args below meth c T locs cells slots) (hx : p.tables.exec = Jvm.exec) (hby : c.code = bc) {i : Fin 2} {n : Int64} (hd : decode bc pc = .ok (.lconst i, 1)) (hp : pc + 1 = pc') (hn : Int64.ofNat i = n) (k : Go p e below EF Q m T pc' Ls (.long n :: st)) : Go p e below EF Q m T pc Ls st := by
  subst hp; exact Go.of (fun _ q => XS.lconst X.here hx rfl (hb hby hd) (by rw [hn]; exact q)) k
theorem g_iadd (X : Stand p l e R s m args below meth c T locs cells slots) (hx : p.tables.exec = Jvm.exec) (hby : c.code = bc) {x y : Int32} (hd : decode bc pc = .ok (.iadd, 1)) (hp : pc + 1 = pc')  (k : Go p e below EF Q m T pc' Ls (.int (x + y) :: rest)) : Go p e below EF Q m T pc Ls (.int y :: .int x :: rest) := by
  subst hp; exact Go.of (fun _ q => XS.iadd X.here hx rfl (hb hby hd) rfl q) k
theorem g_ladd (X : Stand p l e R s m args below meth c T locs cells slots) (hx : p.tables.exec = Jvm.exec) (hby : c.code = bc) {x y : Int64} (hd : decode bc pc = .ok (.ladd, 1)) (hp : pc + 1 = pc')  (k : Go p e below EF Q m T pc' Ls (.long (x + y) :: rest)) : Go p e below EF Q m T pc Ls (.long y :: .long x :: rest) := by
  subst hp; exact Go.of (fun _ q => XS.ladd X.here hx rfl (hb hby hd) rfl q) k
theorem g_lsub (X : Stand p l e R s m args below meth c T locs cells slots) (hx : p.tables.exec = Jvm.exec) (hby : c.code = bc) {x y : Int64} (hd : decode bc pc = .ok (.lsub, 1)) (hp : pc + 1 = pc')  (k : Go p e below EF Q m T pc' Ls (.long (x - y) :: rest)) : Go p e below EF Q m T pc Ls (.long y :: .long x :: rest) := by
  subst hp; exact Go.of (fun _ q => XS.lsub X.here hx rfl (hb hby hd) rfl q) k
theorem g_lmul (X : Stand p l e R s m args below meth c T locs cells slots) (hx : p.tables.exec = Jvm.exec) (hby : c.code = bc) {x y : Int64} (hd : decode bc pc = .ok (.lmul, 1)) (hp : pc + 1 = pc')  (k : Go p e below EF Q m T pc' Ls (.long (x * y) :: rest)) : Go p e below EF Q m T pc Ls (.long y :: .long x :: rest) := by
  subst hp; exact Go.of (fun _ q => XS.lmul X.here hx rfl (hb hby hd) rfl q) k
theorem g_iand (X : Stand p l e R s m args below meth c T locs cells slots) (hx : p.tables.exec = Jvm.exec) (hby : c.code = bc) {x y : Int32} (hd : decode bc pc = .ok (.iand, 1)) (hp : pc + 1 = pc')  (k : Go p e below EF Q m T pc' Ls (.int (x &&& y) :: rest)) : Go p e below EF Q m T pc Ls (.int y :: .int x :: rest) := by
  subst hp; exact Go.of (fun _ q => XS.iand X.here hx rfl (hb hby hd) rfl q) k
theorem g_land (X : Stand p l e R s m args below meth c T locs cells slots) (hx : p.tables.exec = Jvm.exec) (hby : c.code = bc) {x y : Int64} (hd : decode bc pc = .ok (.land, 1)) (hp : pc + 1 = pc')  (k : Go p e below EF Q m T pc' Ls (.long (x &&& y) :: rest)) : Go p e below EF Q m T pc Ls (.long y :: .long x :: rest) := by
  subst hp; exact Go.of (fun _ q => XS.land X.here hx rfl (hb hby hd) rfl q) k
theorem g_lor (X : Stand p l e R s m args below meth c T locs cells slots) (hx : p.tables.exec = Jvm.exec) (hby : c.code = bc) {x y : Int64} (hd : decode bc pc = .ok (.lor, 1)) (hp : pc + 1 = pc')  (k : Go p e below EF Q m T pc' Ls (.long (x ||| y) :: rest)) : Go p e below EF Q m T pc Ls (.long y :: .long x :: rest) := by
  subst hp; exact Go.of (fun _ q => XS.lor X.here hx rfl (hb hby hd) rfl q) k
theorem g_irem (X : Stand p l e R s m args below meth c T locs cells slots) (hx : p.tables.exec = Jvm.exec) (hby : c.code = bc) {x y : Int32} (hd : decode bc pc = .ok (.irem, 1)) (hp : pc + 1 = pc') (hy : y ≠ 0) (k : Go p e below EF Q m T pc' Ls (.int (x % y) :: rest)) : Go p e below EF Q m T pc Ls (.int y :: .int x :: rest) := by
  subst hp; exact Go.of (fun _ q => iremM X hx rfl (hb hby hd) rfl hy q) k
theorem g_lrem (X : Stand p l e R s m args below meth c T locs cells slots) (hx : p.tables.exec = Jvm.exec) (hby : c.code = bc) {x y : Int64} (hd : decode bc pc = .ok (.lrem, 1)) (hp : pc + 1 = pc') (hy : y ≠ 0) (k : Go p e below EF Q m T pc' Ls (.long (x % y) :: rest)) : Go p e below EF Q m T pc Ls (.long y :: .long x :: rest) := by
  subst hp; exact Go.of (fun _ q => XS.lrem X.here hx rfl (hb hby hd) rfl hy (by rw [lrem_mod]; exact q)) k
theorem g_lshr (X : Stand p l e R s m args below meth c T locs cells slots) (hx : p.tables.exec = Jvm.exec) (hby : c.code = bc) {x : Int64} {y : Int32} (hd : decode bc pc = .ok (.lshr, 1)) (hp : pc + 1 = pc')  (k : Go p e below EF Q m T pc' Ls (.long (x >>> (y.toInt64 &&& 63)) :: rest)) : Go p e below EF Q m T pc Ls (.int y :: .long x :: rest) := by
  subst hp; exact Go.of (fun _ q => XT.lshr X.here hx rfl (hb hby hd) rfl q) k
theorem g_i2l (X : Stand p l e R s m args below meth c T locs cells slots) (hx : p.tables.exec = Jvm.exec) (hby : c.code = bc) {x : Int32} (hd : decode bc pc = .ok (.i2l, 1)) (hp : pc + 1 = pc')  (k : Go p e below EF Q m T pc' Ls (.long (x.toInt64) :: rest)) : Go p e below EF Q m T pc Ls (.int x :: rest) := by
  subst hp; exact Go.of (fun _ q => XS.i2l X.here hx rfl (hb hby hd) rfl q) k
theorem g_l2i (X : Stand p l e R s m args below meth c T locs cells slots) (hx : p.tables.exec = Jvm.exec) (hby : c.code = bc) {x : Int64} (hd : decode bc pc = .ok (.l2i, 1)) (hp : pc + 1 = pc')  (k : Go p e below EF Q m T pc' Ls (.int (x.toInt32) :: rest)) : Go p e below EF Q m T pc Ls (.long x :: rest) := by
  subst hp; exact Go.of (fun _ q => XS.l2i X.here hx rfl (hb hby hd) rfl q) k
theorem x_i2d {tb : Tables} [Ours tb] {e : Env} {below : List Frame} {T target : State} {m : MethodId} {c : Code} {g : JFrame} (h : At T m c below) (hx : tb.exec = Jvm.exec) (hg : g.method = m) {v : Int32} {rest : List Value} (hd : decode c.code g.pc = .ok (.i2d, 1)) (hs : g.stack = .int v :: rest) 
    (hr : Steps tb e below (T.setTop { g with pc := g.pc + 1, stack := .double (FP.i2d v) :: rest }) target) : Steps tb e below (T.setTop g) target := by
  subst hg
  jvm_step h [h.top, hx, hd, hs]
  exact hr
theorem x_dloadN {tb : Tables} [Ours tb] {e : Env} {below : List Frame} {T target : State} {m : MethodId} {c : Code} {g : JFrame} (h : At T m c below) (hx : tb.exec = Jvm.exec) (hg : g.method = m) {n : Fin 4} {v : UInt64} (hd : decode c.code g.pc = .ok (.dload_n n, 1)) (hl : g.locals[n.val]? = some (.val (.double v)))
    (hr : Steps tb e below (T.setTop { g with pc := g.pc + 1, stack := .double v :: g.stack }) target) : Steps tb e below (T.setTop g) target := by
  subst hg
  jvm_step h [h.top, hx, hd, hl]
  exact hr
theorem x_ddiv {tb : Tables} [Ours tb] {e : Env} {below : List Frame} {T target : State} {m : MethodId} {c : Code} {g : JFrame} (h : At T m c below) (hx : tb.exec = Jvm.exec) (hg : g.method = m) {v w : UInt64} {rest : List Value} (hd : decode c.code g.pc = .ok (.ddiv, 1)) (hs : g.stack = .double w :: .double v :: rest) (hn : FP.ddiv v w &&& 0x7fffffffffffffff ≤ 0x7ff0000000000000)
    (hr : Steps tb e below (T.setTop { g with pc := g.pc + 1, stack := .double (FP.ddiv v w) :: rest }) target) : Steps tb e below (T.setTop g) target := by
  subst hg
  jvm_step h [h.top, hx, hd, hs, Op.ddiv.wp_number h.top hs hn]
  exact hr
theorem g_ddiv (X : Stand p l e R s m args below meth c T locs cells slots) (hx : p.tables.exec = Jvm.exec) (hby : c.code = bc) {v w : UInt64} (hd : decode bc pc = .ok (.ddiv, 1)) (hp : pc + 1 = pc') (hn : FP.ddiv v w &&& 0x7fffffffffffffff ≤ 0x7ff0000000000000) (k : Go p e below EF Q m T pc' Ls (.double (FP.ddiv v w) :: rest)) : Go p e below EF Q m T pc Ls (.double w :: .double v :: rest) := by
  subst hp; exact Go.of (fun _ q => x_ddiv X.here hx rfl (hb hby hd) rfl hn q) k
theorem x_dmul {tb : Tables} [Ours tb] {e : Env} {below : List Frame} {T target : State} {m : MethodId} {c : Code} {g : JFrame} (h : At T m c below) (hx : tb.exec = Jvm.exec) (hg : g.method = m) {v w : UInt64} {rest : List Value} (hd : decode c.code g.pc = .ok (.dmul, 1)) (hs : g.stack = .double w :: .double v :: rest) (hn : FP.dmul v w &&& 0x7fffffffffffffff ≤ 0x7ff0000000000000)
    (hr : Steps tb e below (T.setTop { g with pc := g.pc + 1, stack := .double (FP.dmul v w) :: rest }) target) : Steps tb e below (T.setTop g) target := by
  subst hg
  jvm_step h [h.top, hx, hd, hs, Op.dmul.wp_number h.top hs hn]
  exact hr
theorem g_dmul (X : Stand p l e R s m args below meth c T locs cells slots) (hx : p.tables.exec = Jvm.exec) (hby : c.code = bc) {v w : UInt64} (hd : decode bc pc = .ok (.dmul, 1)) (hp : pc + 1 = pc') (hn : FP.dmul v w &&& 0x7fffffffffffffff ≤ 0x7ff0000000000000) (k : Go p e below EF Q m T pc' Ls (.double (FP.dmul v w) :: rest)) : Go p e below EF Q m T pc Ls (.double w :: .double v :: rest) := by
  subst hp; exact Go.of (fun _ q => x_dmul X.here hx rfl (hb hby hd) rfl hn q) k
theorem x_dcmp {tb : Tables} [Ours tb] {e : Env} {below : List Frame} {T target : State} {m : MethodId} {c : Code} {g : JFrame} (h : At T m c below) (hx : tb.exec = Jvm.exec) (hg : g.method = m) {cd : CmpOp} {v w : UInt64} {rest : List Value} (hd : decode c.code g.pc = .ok (.dcmp cd, 1)) (hs : g.stack = .double w :: .double v :: rest) 
    (hr : Steps tb e below (T.setTop { g with pc := g.pc + 1, stack := .int (Op.cmpValue (FP.dcmp v w) cd) :: rest }) target) : Steps tb e below (T.setTop g) target := by
  subst hg
  jvm_step h [h.top, hx, hd, hs]
  exact hr
theorem g_dcmp (X : Stand p l e R s m args below meth c T locs cells slots) (hx : p.tables.exec = Jvm.exec) (hby : c.code = bc) {cd : CmpOp} {v w : UInt64} (hd : decode bc pc = .ok (.dcmp cd, 1)) (hp : pc + 1 = pc')  (k : Go p e below EF Q m T pc' Ls (.int (Op.cmpValue (FP.dcmp v w) cd) :: rest)) : Go p e below EF Q m T pc Ls (.double w :: .double v :: rest) := by
  subst hp; exact Go.of (fun _ q => x_dcmp X.here hx rfl (hb hby hd) rfl q) k
theorem x_d2l {tb : Tables} [Ours tb] {e : Env} {below : List Frame} {T target : State} {m : MethodId} {c : Code} {g : JFrame} (h : At T m c below) (hx : tb.exec = Jvm.exec) (hg : g.method = m) {v : UInt64} {rest : List Value} (hd : decode c.code g.pc = .ok (.d2l, 1)) (hs : g.stack = .double v :: rest) 
    (hr : Steps tb e below (T.setTop { g with pc := g.pc + 1, stack := .long (FP.d2l v) :: rest }) target) : Steps tb e below (T.setTop g) target := by
  subst hg
  jvm_step h [h.top, hx, hd, hs]
  exact hr
theorem g_d2l (X : Stand p l e R s m args below meth c T locs cells slots) (hx : p.tables.exec = Jvm.exec) (hby : c.code = bc) {v : UInt64} (hd : decode bc pc = .ok (.d2l, 1)) (hp : pc + 1 = pc')  (k : Go p e below EF Q m T pc' Ls (.long (FP.d2l v) :: rest)) : Go p e below EF Q m T pc Ls (.double v :: rest) := by
  subst hp; exact Go.of (fun _ q => x_d2l X.here hx rfl (hb hby hd) rfl q) k
theorem x_dload {tb : Tables} [Ours tb] {e : Env} {below : List Frame} {T target : State} {m : MethodId} {c : Code} {g : JFrame} (h : At T m c below) (hx : tb.exec = Jvm.exec) (hg : g.method = m) {n : Nat} {v : UInt64} (hd : decode c.code g.pc = .ok (.dload n, 2)) (hl : g.locals[n]? = some (.val (.double v)))
    (hr : Steps tb e below (T.setTop { g with pc := g.pc + 2, stack := .double v :: g.stack }) target) : Steps tb e below (T.setTop g) target := by
  subst hg
  jvm_step h [h.top, hx, hd, hl]
  exact hr
theorem g_dload (X : Stand p l e R s m args below meth c T locs cells slots) (hx : p.tables.exec = Jvm.exec) (hby : c.code = bc) {n : Nat} {v : UInt64} (hd : decode bc pc = .ok (.dload n, 2)) (hp : pc + 2 = pc') (hl : Ls[n]? = some (.val (.double v))) (k : Go p e below EF Q m T pc' Ls (.double v :: st)) : Go p e below EF Q m T pc Ls st := by
  subst hp; exact Go.of (fun _ q => x_dload X.here hx rfl (hb hby hd) hl q) k
theorem x_dstore {tb : Tables} [Ours tb] {e : Env} {below : List Frame} {T target : State} {m : MethodId} {c : Code} {g : JFrame} (h : At T m c below) (hx : tb.exec = Jvm.exec) (hg : g.method = m) {n : Nat} {v : UInt64} {rest : List Value} {Ls' : Array Slot} (hd : decode c.code g.pc = .ok (.dstore n, 2)) (hs : g.stack = .double v :: rest) (hl : storeLocals g.locals n (.double v) = some Ls')
    (hr : Steps tb e below (T.setTop { g with pc := g.pc + 2, locals := Ls', stack := rest }) target) : Steps tb e below (T.setTop g) target := by
  subst hg
  jvm_step h [h.top, hx, hd, hs]
  exact ⟨_, hl, hr⟩
theorem g_dstore (X : Stand p l e R s m args below meth c T locs cells slots) (hx : p.tables.exec = Jvm.exec) (hby : c.code = bc) {n : Nat} {v : UInt64} {Ls' : Array Slot} (hd : decode bc pc = .ok (.dstore n, 2)) (hp : pc + 2 = pc') (hl : storeLocals Ls n (.double v) = some Ls') (k : Go p e below EF Q m T pc' Ls' rest) : Go p e below EF Q m T pc Ls (.double v :: rest) := by
  subst hp; exact Go.of (fun _ q => x_dstore X.here hx rfl (hb hby hd) rfl hl q) k
theorem g_ldc2D (X : Stand p l e R s m args below meth c T locs cells slots) (hx : p.tables.exec = Jvm.exec) (hby : c.code = bc) (hZ : Z.Warmed39 s.vm) {own : String} (hown : s.vm.findClass own = some m.cls) {i : Nat} {b : UInt64} (w : (Jvm.Cond.constantDouble own i b).before a0 Z = true) (hd : decode bc pc = .ok (.ldc2_w i, 3)) (hp : pc + 3 = pc') (k : Go p e below EF Q m T pc' Ls (.double b :: st)) : Go p e below EF Q m T pc Ls st := by
  subst hp
  exact Go.of (fun _ q => X.ldc2DoubleC hx hown (mvT hZ w) (g := mkF m pc Ls st) rfl (hb hby hd) _ q) k
theorem g_dconst0 (X : Stand p l e R s m args below meth c T locs cells slots) (hx : p.tables.exec = Jvm.exec) (hby : c.code = bc)  (hd : decode bc pc = .ok (.dconst 0, 1)) (hp : pc + 1 = pc')  (k : Go p e below EF Q m T pc' Ls (.double 0 :: st)) : Go p e below EF Q m T pc Ls st := by
  subst hp; exact Go.of (fun _ q => XS.dconst0 X.here hx rfl (hb hby hd) rfl q) k
theorem g_dconst1 (X : Stand p l e R s m args below meth c T locs cells slots) (hx : p.tables.exec = Jvm.exec) (hby : c.code = bc)  (hd : decode bc pc = .ok (.dconst 1, 1)) (hp : pc + 1 = pc')  (k : Go p e below EF Q m T pc' Ls (.double 0x3ff0000000000000 :: st)) : Go p e below EF Q m T pc Ls st := by
  subst hp; exact Go.of (fun _ q => XS.dconst1 X.here hx rfl (hb hby hd) rfl q) k
theorem g_i2d (X : Stand p l e R s m args below meth c T locs cells slots) (hx : p.tables.exec = Jvm.exec) (hby : c.code = bc) {v : Int32} (hd : decode bc pc = .ok (.i2d, 1)) (hp : pc + 1 = pc')  (k : Go p e below EF Q m T pc' Ls (.double (FP.i2d v) :: rest)) : Go p e below EF Q m T pc Ls (.int v :: rest) := by
  subst hp; exact Go.of (fun _ q => x_i2d X.here hx rfl (hb hby hd) rfl q) k
theorem g_dloadN (X : Stand p l e R s m args below meth c T locs cells slots) (hx : p.tables.exec = Jvm.exec) (hby : c.code = bc) {n : Fin 4} {v : UInt64} (hd : decode bc pc = .ok (.dload_n n, 1)) (hp : pc + 1 = pc') (hl : Ls[n.val]? = some (.val (.double v))) (k : Go p e below EF Q m T pc' Ls (.double v :: st)) : Go p e below EF Q m T pc Ls st := by
  subst hp; exact Go.of (fun _ q => x_dloadN X.here hx rfl (hb hby hd) hl q) k
theorem g_dup (X : Stand p l e R s m args below meth c T locs cells slots) (hx : p.tables.exec = Jvm.exec) (hby : c.code = bc) {x : Value} (hd : decode bc pc = .ok (.dup, 1)) (hp : pc + 1 = pc') (hc : x.category = 1) (k : Go p e below EF Q m T pc' Ls (x :: x :: rest)) : Go p e below EF Q m T pc Ls (x :: rest) := by
  subst hp; exact Go.of (fun _ q => XS.dup X.here hx rfl (hb hby hd) rfl hc q) k
theorem g_goto (X : Stand p l e R s m args below meth c T locs cells slots) (hx : p.tables.exec = Jvm.exec) (hby : c.code = bc) {i : Int} (hd : decode bc pc = .ok (.goto i, 3)) (ho : 0 ≤ (pc : Int) + i) (hp : ((pc : Int) + i).toNat = pc') (k : Go p e below EF Q m T pc' Ls st) : Go p e below EF Q m T pc Ls st := Go.of (fun _ q => XS.goto X.here hx rfl rfl (hb hby hd) ho hp q) k
theorem own_hlt (x y : Int32) : if_icmp.holds .lt x y = decide (x.toInt < y.toInt) := by simp [if_icmp.holds, Int32.lt_iff_toInt_lt]
theorem own_hge (x y : Int32) : if_icmp.holds .ge x y = decide (y.toInt ≤ x.toInt) := by simp [if_icmp.holds, Int32.le_iff_toInt_le]
theorem own_hle (x y : Int32) : if_icmp.holds .le x y = decide (x.toInt ≤ y.toInt) := by simp [if_icmp.holds, Int32.le_iff_toInt_le]
theorem own_hne (x y : Int32) : if_icmp.holds .ne x y = decide (¬ x = y) := by by_cases q : x = y <;> simp [if_icmp.holds, q]
theorem g_icmp (X : Stand p l e R s m args below meth c T locs cells slots) (hx : p.tables.exec = Jvm.exec) (hby : c.code = bc) {cd : ClassFile.Cond} {i : Int} {x y : Int32} {P : Prop} [Decidable P] (hP : if_icmp.holds cd x y = decide P) (hd : decode bc pc = .ok (.if_icmp cd i, 3)) (ho : 0 ≤ (pc : Int) + i) (hp : ((pc : Int) + i).toNat = pt) (hf : pc + 3 = pf) (ky : P → Go p e below EF Q m T pt Ls rest) (kn : ¬ P → Go p e below EF Q m T pf Ls rest) : Go p e below EF Q m T pc Ls (.int y :: .int x :: rest) := by
  subst hf
  by_cases q : P
  · exact Go.of (fun _ z => XS.icmpYes X.here hx rfl rfl (hb hby hd) rfl (by rw [hP]; exact decide_eq_true q) ho hp z) (ky q)
  · exact Go.of (fun _ z => XS.icmpNo X.here hx rfl (hb hby hd) rfl (by rw [hP]; exact decide_eq_false q) z) (kn q)
theorem g_ifc (X : Stand p l e R s m args below meth c T locs cells slots) (hx : p.tables.exec = Jvm.exec) (hby : c.code = bc) {cd : ClassFile.Cond} {i : Int} {x : Int32} {P : Prop} [Decidable P] (hP : if_icmp.holds cd x 0 = decide P) (hd : decode bc pc = .ok (.ifCond cd i, 3)) (ho : 0 ≤ (pc : Int) + i) (hp : ((pc : Int) + i).toNat = pt) (hf : pc + 3 = pf) (ky : P → Go p e below EF Q m T pt Ls rest) (kn : ¬ P → Go p e below EF Q m T pf Ls rest) : Go p e below EF Q m T pc Ls (.int x :: rest) := by
  subst hf
  by_cases q : P
  · exact Go.of (fun _ z => XS.ifYes X.here hx rfl rfl (hb hby hd) rfl (by rw [if0, hP]; exact decide_eq_true q) ho hp z) (ky q)
  · exact Go.of (fun _ z => XS.ifNo X.here hx rfl (hb hby hd) rfl (by rw [if0, hP]; exact decide_eq_false q) z) (kn q)
theorem g_icmplt (X : Stand p l e R s m args below meth c T locs cells slots) (hx : p.tables.exec = Jvm.exec) (hby : c.code = bc) {i : Int} {x y : Int32} (hd : decode bc pc = .ok (.if_icmp .lt i, 3)) (ho : 0 ≤ (pc : Int) + i) (hp : ((pc : Int) + i).toNat = pt) (hf : pc + 3 = pf) (ky : x.toInt < y.toInt → Go p e below EF Q m T pt Ls rest) (kn : y.toInt ≤ x.toInt → Go p e below EF Q m T pf Ls rest) : Go p e below EF Q m T pc Ls (.int y :: .int x :: rest) :=
  g_icmp X hx hby (own_hlt x y) hd ho hp hf ky (fun q => kn (Int.not_lt.mp q))
theorem g_iflt (X : Stand p l e R s m args below meth c T locs cells slots) (hx : p.tables.exec = Jvm.exec) (hby : c.code = bc) {i : Int} {x : Int32} (hd : decode bc pc = .ok (.ifCond .lt i, 3)) (ho : 0 ≤ (pc : Int) + i) (hp : ((pc : Int) + i).toNat = pt) (hf : pc + 3 = pf) (ky : x.toInt < 0 → Go p e below EF Q m T pt Ls rest) (kn : 0 ≤ x.toInt → Go p e below EF Q m T pf Ls rest) : Go p e below EF Q m T pc Ls (.int x :: rest) :=
  g_ifc X hx hby (own_hlt x 0) hd ho hp hf ky (fun q => kn (Int.not_lt.mp q))
theorem g_icmpge (X : Stand p l e R s m args below meth c T locs cells slots) (hx : p.tables.exec = Jvm.exec) (hby : c.code = bc) {i : Int} {x y : Int32} (hd : decode bc pc = .ok (.if_icmp .ge i, 3)) (ho : 0 ≤ (pc : Int) + i) (hp : ((pc : Int) + i).toNat = pt) (hf : pc + 3 = pf) (ky : y.toInt ≤ x.toInt → Go p e below EF Q m T pt Ls rest) (kn : x.toInt < y.toInt → Go p e below EF Q m T pf Ls rest) : Go p e below EF Q m T pc Ls (.int y :: .int x :: rest) :=
  g_icmp X hx hby (own_hge x y) hd ho hp hf ky (fun q => kn (Int.not_le.mp q))
theorem g_ifge (X : Stand p l e R s m args below meth c T locs cells slots) (hx : p.tables.exec = Jvm.exec) (hby : c.code = bc) {i : Int} {x : Int32} (hd : decode bc pc = .ok (.ifCond .ge i, 3)) (ho : 0 ≤ (pc : Int) + i) (hp : ((pc : Int) + i).toNat = pt) (hf : pc + 3 = pf) (ky : 0 ≤ x.toInt → Go p e below EF Q m T pt Ls rest) (kn : x.toInt < 0 → Go p e below EF Q m T pf Ls rest) : Go p e below EF Q m T pc Ls (.int x :: rest) :=
  g_ifc X hx hby (own_hge x 0) hd ho hp hf ky (fun q => kn (Int.not_le.mp q))
theorem g_icmple (X : Stand p l e R s m args below meth c T locs cells slots) (hx : p.tables.exec = Jvm.exec) (hby : c.code = bc) {i : Int} {x y : Int32} (hd : decode bc pc = .ok (.if_icmp .le i, 3)) (ho : 0 ≤ (pc : Int) + i) (hp : ((pc : Int) + i).toNat = pt) (hf : pc + 3 = pf) (ky : x.toInt ≤ y.toInt → Go p e below EF Q m T pt Ls rest) (kn : y.toInt < x.toInt → Go p e below EF Q m T pf Ls rest) : Go p e below EF Q m T pc Ls (.int y :: .int x :: rest) :=
  g_icmp X hx hby (own_hle x y) hd ho hp hf ky (fun q => kn (Int.not_le.mp q))
theorem g_ifle (X : Stand p l e R s m args below meth c T locs cells slots) (hx : p.tables.exec = Jvm.exec) (hby : c.code = bc) {i : Int} {x : Int32} (hd : decode bc pc = .ok (.ifCond .le i, 3)) (ho : 0 ≤ (pc : Int) + i) (hp : ((pc : Int) + i).toNat = pt) (hf : pc + 3 = pf) (ky : x.toInt ≤ 0 → Go p e below EF Q m T pt Ls rest) (kn : 0 < x.toInt → Go p e below EF Q m T pf Ls rest) : Go p e below EF Q m T pc Ls (.int x :: rest) :=
  g_ifc X hx hby (own_hle x 0) hd ho hp hf ky (fun q => kn (Int.not_le.mp q))
theorem g_icmpne (X : Stand p l e R s m args below meth c T locs cells slots) (hx : p.tables.exec = Jvm.exec) (hby : c.code = bc) {i : Int} {x y : Int32} (hd : decode bc pc = .ok (.if_icmp .ne i, 3)) (ho : 0 ≤ (pc : Int) + i) (hp : ((pc : Int) + i).toNat = pt) (hf : pc + 3 = pf) (ky : ¬ x = y → Go p e below EF Q m T pt Ls rest) (kn : x = y → Go p e below EF Q m T pf Ls rest) : Go p e below EF Q m T pc Ls (.int y :: .int x :: rest) :=
  g_icmp X hx hby (own_hne x y) hd ho hp hf ky (fun q => kn (Decidable.not_not.mp q))
theorem g_ifne (X : Stand p l e R s m args below meth c T locs cells slots) (hx : p.tables.exec = Jvm.exec) (hby : c.code = bc) {i : Int} {x : Int32} (hd : decode bc pc = .ok (.ifCond .ne i, 3)) (ho : 0 ≤ (pc : Int) + i) (hp : ((pc : Int) + i).toNat = pt) (hf : pc + 3 = pf) (ky : ¬ x = 0 → Go p e below EF Q m T pt Ls rest) (kn : x = 0 → Go p e below EF Q m T pf Ls rest) : Go p e below EF Q m T pc Ls (.int x :: rest) :=
  g_ifc X hx hby (own_hne x 0) hd ho hp hf ky (fun q => kn (Decidable.not_not.mp q))
theorem own_cmp (x y : Int64) : XT.cmpL x y = lcmpW x y := by simp only [XT.cmpL, lcmpW, gt_iff_lt]
theorem own_lc (x y : Int64) : ((lcmpW x y).toInt < 0 ↔ x.toInt < y.toInt) ∧ (0 < (lcmpW x y).toInt ↔ y.toInt < x.toInt) ∧ (lcmpW x y = 0 ↔ x = y) := by
  refine ⟨?_, ?_, lw_eq x y⟩
  · rw [← Int64.lt_iff_toInt_lt, ← lw_lt, Int32.lt_iff_toInt_lt]; rfl
  · rw [← Int64.lt_iff_toInt_lt, ← lw_gt, Int32.lt_iff_toInt_lt]; rfl
theorem g_lcmpge (X : Stand p l e R s m args below meth c T locs cells slots) (hx : p.tables.exec = Jvm.exec) (hby : c.code = bc) {i : Int} {x y : Int64} (hd : decode bc pc = .ok (.lcmp, 1)) (hp1 : pc + 1 = pc') (hd' : decode bc pc' = .ok (.ifCond .ge i, 3)) (ho : 0 ≤ (pc' : Int) + i) (hp : ((pc' : Int) + i).toNat = pt) (hf : pc' + 3 = pf) (ky : y.toInt ≤ x.toInt → Go p e below EF Q m T pt Ls rest) (kn : x.toInt < y.toInt → Go p e below EF Q m T pf Ls rest) : Go p e below EF Q m T pc Ls (.long y :: .long x :: rest) := by
  subst hp1
  refine Go.of (fun _ q => XT.lcmp X.here hx rfl (hb hby hd) rfl (by rw [own_cmp]; exact q)) (g_ifge X hx hby hd' ho hp hf (fun q => ky (Int.not_lt.mp fun z => Int.not_lt.mpr q ((own_lc x y).1.mpr z))) (fun q => kn ((own_lc x y).1.mp q)))
theorem g_lcmpne (X : Stand p l e R s m args below meth c T locs cells slots) (hx : p.tables.exec = Jvm.exec) (hby : c.code = bc) {i : Int} {x y : Int64} (hd : decode bc pc = .ok (.lcmp, 1)) (hp1 : pc + 1 = pc') (hd' : decode bc pc' = .ok (.ifCond .ne i, 3)) (ho : 0 ≤ (pc' : Int) + i) (hp : ((pc' : Int) + i).toNat = pt) (hf : pc' + 3 = pf) (ky : ¬ x = y → Go p e below EF Q m T pt Ls rest) (kn : x = y → Go p e below EF Q m T pf Ls rest) : Go p e below EF Q m T pc Ls (.long y :: .long x :: rest) := by
  subst hp1
  refine Go.of (fun _ q => XT.lcmp X.here hx rfl (hb hby hd) rfl (by rw [own_cmp]; exact q)) (g_ifne X hx hby hd' ho hp hf (fun q => ky (fun z => q ((own_lc x y).2.2.mpr z))) (fun q => kn ((own_lc x y).2.2.mp q)))
theorem g_ret (X : Stand p l e R s m args below meth c T locs cells slots) (hx : p.tables.exec = Jvm.exec) (hby : c.code = bc) (hF : EndOk s EF mc ms kk) (hk : kk ≤ T.heap.size) (hlk : meth.locks = false) {t : FieldType} {w : Value} {i : Instr} (hret : meth.sig.returnType = some t) (hn : narrow t w = w) (hi : (i = .ireturn ∧ (t = .int ∨ t = .boolean ∨ t = .byte ∨ t = .char ∨ t = .short) ∧ ∃ z, w = .int z) ∨ (i = .lreturn ∧ t = .long ∧ ∃ z, w = .long z) ∨ (i = .dreturn ∧ t = .double ∧ ∃ z, w = .double z) ∨ (i = .freturn ∧ t = .float ∧ ∃ z, w = .float z) ∨ (i = .areturn ∧ t.isReference = true ∧ w.isRef = true)) (hd : decode bc pc = .ok (i, 1)) (hc : cells ≤ mc) (hs : slots ≤ ms) (hq : Q (some w) T.heap locs) : Go p e below EF Q m T pc Ls (w :: rest) := by
  obtain ⟨fs, hr, hrun, hended, hW, hsame⟩ := X.leave (v := some w) (fun h => by rw [hret] at h; cases h) hlk
  exact ⟨_, _, retOut X hx hret hn hi (hb hby hd) hr, hrun, hended, _, _, rfl, hq, hF _ _ _ ⟨⟨_, rfl⟩, hW, hsame.mono hc hs⟩ hk⟩
theorem g_retI (X : Stand p l e R s m args below meth c T locs cells slots) (hx : p.tables.exec = Jvm.exec) (hby : c.code = bc) (hF : EndOk s EF mc ms kk) (hk : kk ≤ T.heap.size) (hlk : meth.locks = false) {z : Int32} (hret : meth.sig.returnType = some .int) (hd : decode bc pc = .ok (.ireturn, 1)) (hc : cells ≤ mc) (hs : slots ≤ ms) (hq : Q (some (.int z)) T.heap locs) : Go p e below EF Q m T pc Ls (.int z :: rest) := g_ret X hx hby hF hk hlk hret rfl (Or.inl ⟨rfl, Or.inl rfl, _, rfl⟩) hd hc hs hq
theorem g_retL (X : Stand p l e R s m args below meth c T locs cells slots) (hx : p.tables.exec = Jvm.exec) (hby : c.code = bc) (hF : EndOk s EF mc ms kk) (hk : kk ≤ T.heap.size) (hlk : meth.locks = false) {z : Int64} (hret : meth.sig.returnType = some .long) (hd : decode bc pc = .ok (.lreturn, 1)) (hc : cells ≤ mc) (hs : slots ≤ ms) (hq : Q (some (.long z)) T.heap locs) : Go p e below EF Q m T pc Ls (.long z :: rest) := g_ret X hx hby hF hk hlk hret rfl (Or.inr (Or.inl ⟨rfl, rfl, _, rfl⟩)) hd hc hs hq
theorem g_retZ (X : Stand p l e R s m args below meth c T locs cells slots) (hx : p.tables.exec = Jvm.exec) (hby : c.code = bc) (hF : EndOk s EF mc ms kk) (hk : kk ≤ T.heap.size) (hlk : meth.locks = false) {z : Int32} (hz : z = 0 ∨ z = 1) (hret : meth.sig.returnType = some .boolean) (hd : decode bc pc = .ok (.ireturn, 1)) (hc : cells ≤ mc) (hs : slots ≤ ms) (hq : Q (some (.int z)) T.heap locs) : Go p e below EF Q m T pc Ls (.int z :: rest) := g_ret X hx hby hF hk hlk hret (by rcases hz with rfl | rfl <;> rfl) (Or.inl ⟨rfl, Or.inr (Or.inl rfl), _, rfl⟩) hd hc hs hq
theorem g_retD (X : Stand p l e R s m args below meth c T locs cells slots) (hx : p.tables.exec = Jvm.exec) (hby : c.code = bc) (hF : EndOk s EF mc ms kk) (hk : kk ≤ T.heap.size) (hlk : meth.locks = false) {z : UInt64} (hret : meth.sig.returnType = some .double) (hd : decode bc pc = .ok (.dreturn, 1)) (hc : cells ≤ mc) (hs : slots ≤ ms) (hq : Q (some (.double z)) T.heap locs) : Go p e below EF Q m T pc Ls (.double z :: rest) := g_ret X hx hby hF hk hlk hret rfl (Or.inr (Or.inr (Or.inl ⟨rfl, rfl, _, rfl⟩))) hd hc hs hq
theorem g_retV (X : Stand p l e R s m args below meth c T locs cells slots) (hx : p.tables.exec = Jvm.exec) (hby : c.code = bc) (hF : EndOk s EF mc ms kk) (hk : kk ≤ T.heap.size) (hlk : meth.locks = false) (hret : meth.sig.returnType = none) (hd : decode bc pc = .ok (.return_, 1)) (hc : cells ≤ mc) (hs : slots ≤ ms) (hq : Q none T.heap locs) : Go p e below EF Q m T pc Ls [] := by
  obtain ⟨fs, hr, hrun, hended, hW, hsame⟩ := X.leave (v := none) (fun _ => rfl) hlk
  exact ⟨_, _, X.returnOut hx hret (hb hby hd) hr, hrun, hended, _, _, rfl, hq, hF _ _ _ ⟨⟨_, rfl⟩, hW, hsame.mono hc hs⟩ hk⟩
theorem g_ldcI (X : Stand p l e R s m args below meth c T locs cells slots) (hx : p.tables.exec = Jvm.exec) (hby : c.code = bc) (hZ : Z.Warmed39 s.vm) {own : String} (hown : s.vm.findClass own = some m.cls) {n : Nat} {v : Int32} (w : (Jvm.Cond.constant own n v).before a0 Z = true) (hd : decode bc pc = .ok (.ldc n, 2)) (hp : pc + 2 = pc') (k : Go p e below EF Q m T pc' Ls (.int v :: st)) : Go p e below EF Q m T pc Ls st := by
  subst hp; exact Go.of (X.ldcInt hx hown (mvT hZ w) (g := mkF m pc Ls st) rfl (hb hby hd)) k
theorem g_ldcL (X : Stand p l e R s m args below meth c T locs cells slots) (hx : p.tables.exec = Jvm.exec) (hby : c.code = bc) (hZ : Z.Warmed39 s.vm) {own : String} (hown : s.vm.findClass own = some m.cls) {n : Nat} {v : Int64} (w : (Jvm.Cond.constantLong own n v).before a0 Z = true) (hd : decode bc pc = .ok (.ldc2_w n, 3)) (hp : pc + 3 = pc') (k : Go p e below EF Q m T pc' Ls (.long v :: st)) : Go p e below EF Q m T pc Ls st := by
  subst hp; exact Go.of (X.ldc2Long hx hown (mvT hZ w) (g := mkF m pc Ls st) rfl (hb hby hd)) k
theorem g_getF (X : Stand p l e R s m args below meth c T locs cells slots) (hx : p.tables.exec = Jvm.exec) (hby : c.code = bc) (hZ : Z.Warmed39 s.vm) {own : String} (hown : s.vm.findClass own = some m.cls) (eT : T.heap = h) {i : Nat} {O n d : String} {a : Addr} {v : Value} (w : (Jvm.Cond.fieldLink own i O n d).before a0 Z = true) (F : Fld Z h a O n d v) (hd : decode bc pc = .ok (.getfield i, 3)) (hp : pc + 3 = pc') (k : ∀ T', Stand p l e R s m args below meth c T' locs cells slots → T'.heap = h → Go p e below EF Q m T' pc' Ls (v :: rest)) : Go p e below EF Q m T pc Ls (.ref a :: rest) := by
  subst hp
  obtain ⟨T', X', e', st'⟩ := getF X hx hZ hown (host := "") (Or.inl w) Via.refl eT F (g := mkF m pc Ls (.ref a :: rest)) rfl rfl (hb hby hd)
  exact Go.of st' (k T' X' e')
theorem g_putF (X : Stand p l e R s m args below meth c T locs cells slots) (hx : p.tables.exec = Jvm.exec) (hby : c.code = bc) (hZ : Z.Warmed39 s.vm) {own : String} (hown : s.vm.findClass own = some m.cls) (eT : T.heap = h) {i kk : Nat} {O n d C : String} {a : Addr} {v old : Value} {ty : FieldType} (w : (Jvm.Cond.fieldLink own i O n d).before a0 Z = true) (F : Fld Z h a O n d old) (E : Exa Z h a C) (L : (Jvm.Cond.lays C O n d).before a0 Z = true ∨ ((Jvm.Cond.laysFinal C O n d).before a0 Z = true ∧ own = O ∧ meth.name = "<init>")) (wi : (Jvm.Cond.instantiable C kk).before a0 Z = true) (hty : parseFieldDescriptor d = some ty) (hn : narrow ty v = v) (hf : fits ty v = true) (hd : decode bc pc = .ok (.putfield i, 3)) (hp : pc + 3 = pc') (k : ∀ T' h', Stand p l e R s m args below meth c T' (locs ++ [⟨a, Jvm.RoadKit.slotOf Z O n d⟩]) cells slots → T'.heap = h' → Wr h h' a (Jvm.RoadKit.slotOf Z O n d) v → Go p e below EF Q m T' pc' Ls rest) : Go p e below EF Q m T pc Ls (v :: .ref a :: rest) := by
  subst hp
  obtain ⟨T', h', X', e', W', st'⟩ := putF X hx hZ hown (host := "") (Or.inl w) Via.refl eT F E L wi hty hn hf (g := mkF m pc Ls (v :: .ref a :: rest)) rfl rfl (hb hby hd)
  exact Go.of st' (k T' h' X' e' W')
theorem g_new (X : Stand p l e R s m args below meth c T locs cells slots) (hx : p.tables.exec = Jvm.exec) (hby : c.code = bc) (hZ : Z.Warmed39 s.vm) {own : String} (hown : s.vm.findClass own = some m.cls) (eT : T.heap = h) {i n : Nat} {C : String} (w : (Jvm.Cond.classLink own i C).before a0 Z = true) (wi : (Jvm.Cond.instantiable C n).before a0 Z = true) (wz : (Jvm.Cond.initialized C).before a0 Z = true) (hd : decode bc pc = .ok (.new i, 3)) (hp : pc + 3 = pc') (hc : cells + 1 ≤ R.cells) (hl : slots + n ≤ R.slots) (k : ∀ T' h' b, b = h.size → Stand p l e R s m args below meth c T' locs (cells + 1) (slots + n) → T'.heap = h' → Ext h h' → Exa Z h' b C → (∀ {O nm d : String} {ty : FieldType}, Laid Z a0 C O nm d → parseFieldDescriptor d = some ty → Fld Z h' b O nm d (defaultValue ty)) → Go p e below EF Q m T' pc' Ls (.ref b :: st)) : Go p e below EF Q m T pc Ls st := by
  subst hp
  obtain ⟨T', h', X', e', E', A', D', -, st'⟩ := newO X hx hZ hown w wi wz eT (g := mkF m pc Ls st) rfl (hb hby hd) hc hl
  exact Go.of st' (k T' h' _ rfl X' e' E' A' D')
theorem g_initO (X : Stand p l e R s m args below meth c T locs cells slots) (hx : p.tables.exec = Jvm.exec) (hby : c.code = bc) (hZ : Z.Warmed39 s.vm) {own : String} (hown : s.vm.findClass own = some m.cls) (eT : T.heap = h) {i ML : Nat} {a : Addr} (w1 : (Jvm.Cond.methodLink own i Lib.objectInit).before a0 Z = true) (w2 : (Jvm.Cond.instanceMethod Lib.objectInit).before a0 Z = true) (w3 : (Jvm.Cond.code Lib.objectInit ⟨#[0xb1]⟩ 1 none).before a0 Z = true) (hml : c.maxLocals = ML) (hls : Ls.size = ML) (hd : decode bc pc = .ok (.invokespecial i, 3)) (hp : pc + 3 = pc') (hf : 1 ≤ R.frames) (hl : (rest.map fun v => v.category).sum + 12 ≤ R.locals) (k : ∀ T', Stand p l e R s m args below meth c T' locs cells slots → T'.heap = h → Go p e below EF Q m T' pc' Ls rest) : Go p e below EF Q m T pc Ls (.ref a :: rest) := by
  subst hp
  obtain ⟨T', X', e', st'⟩ := initO X hx hZ hown w1 w2 w3 eT (g := mkF m pc Ls (.ref a :: rest)) rfl (by rw [hml]; exact hls) rfl (hb hby hd) hf (W := (rest.map fun v => v.category).sum) (by show 2 * 0 + _ ≤ _; omega) hl
  exact Go.of st' (k T' X' e')
/-- in heap h the array at a (of kind ty) has n places; place j holds f j -/
def Ara (Z : State) (h : Heap) (a : Addr) (ty : FieldType) (n : Nat) (f : Nat → Value) : Prop := ∃ cl : Cell, Arr Z h a cl ty ∧ cl.slots.size = n ∧ n < 2147483648 ∧ ∀ j, j < n → cl.slots[j]? = some (f j)
theorem Ara.lt {h : Heap} {a : Addr} {ty : FieldType} {n : Nat} {f : Nat → Value} (V : Ara Z h a ty n f) : a < h.size := by obtain ⟨_, A, _⟩ := V; exact A.lt
theorem Ara.ext {h h' : Heap} {a : Addr} {ty : FieldType} {n : Nat} {f : Nat → Value} (V : Ara Z h a ty n f) (E : Ext h h') : Ara Z h' a ty n f := by obtain ⟨c, A, r⟩ := V; exact ⟨c, A.ext E, r⟩
theorem Ara.other {h h' : Heap} {a b : Addr} {ty : FieldType} {n : Nat} {f : Nat → Value} {sl : Nat} {v : Value} (V : Ara Z h a ty n f) (W : Wr h h' b sl v) (q : a ≠ b) : Ara Z h' a ty n f := by obtain ⟨c, A, r⟩ := V; exact ⟨c, A.other W q, r⟩
theorem Ara.keep {h h' : Heap} {a : Addr} {ty : FieldType} {n : Nat} {f : Nat → Value} {ws : List Addr} (V : Ara Z h a ty n f) (K : Keep h h' ws) (q : a ∉ ws) : Ara Z h' a ty n f := by obtain ⟨c, A, r⟩ := V; exact ⟨c, ⟨K.2.1 a c A.1 q, A.2⟩, r⟩
theorem own_ofNat {n : Nat} (hn : n < 2147483648) : (Int32.ofNat n).toInt = n := by rw [Int32.toInt_ofNat_of_lt (by omega)]
/-- the array at a takes arrays of ints -/
def Ovi (Z : State) (h : Heap) (a : Addr) : Prop := ∃ cl : Cell, h[a]? = some cl ∧ OvrA Z cl.cls .int "[I"
theorem Ovi.ext {h h' : Heap} {a : Addr} (V : Ovi Z h a) (E : Ext h h') : Ovi Z h' a := by obtain ⟨c, q, r⟩ := V; exact ⟨c, E.2 _ _ q, r⟩
theorem Ovi.wr {h h' : Heap} {a b : Addr} {sl : Nat} {v : Value} (V : Ovi Z h a) (W : Wr h h' b sl v) : Ovi Z h' a := by obtain ⟨c, q, r⟩ := V; obtain ⟨c', q', e, -⟩ := wr_at W q; exact ⟨c', q', e ▸ r⟩
theorem Ovi.keep {h h' : Heap} {a : Addr} {ws : List Addr} (V : Ovi Z h a) (K : Keep h h' ws) : Ovi Z h' a := by obtain ⟨c, q, r⟩ := V; obtain ⟨c', q', e, -⟩ := K.2.2 _ _ q; exact ⟨c', q', e ▸ r⟩
theorem g_d2raw (X : Stand p l e R s m args below meth c T locs cells slots) (hx : p.tables.exec = Jvm.exec) (hby : c.code = bc) (hZ : Z.Warmed39 s.vm) {own : String} (hown : s.vm.findClass own = some m.cls) (eT : T.heap = h) {i ML : Nat} (hml : c.maxLocals = ML) (hls : Ls.size = ML) (w1 : (Jvm.Cond.methodLink own i doubleToRawLongBitsName).before a0 Z = true) (w2 : (Jvm.Cond.native doubleToRawLongBitsName).before a0 Z = true) (w3 : (Jvm.Cond.static doubleToRawLongBitsName).before a0 Z = true) (w4 : (Jvm.Cond.initialized "java/lang/Double").before a0 Z = true) {b : UInt64} (hd : decode bc pc = .ok (.invokestatic i, 3)) (hp : pc + 3 = pc') (hf : 1 ≤ R.frames) (hlo : (rest.map fun v => v.category).sum + (nativeFrameWords "java/lang/Double" "doubleToRawLongBits" 2 + 11) ≤ R.locals) (kk : ∀ T', Stand p l e R s m args below meth c T' locs cells slots → T'.heap = h → Go p e below EF Q m T' pc' Ls (.long b.toInt64 :: rest)) : Go p e below EF Q m T pc Ls (.double b :: rest) := by
  subst hp
  obtain ⟨vm', X', st'⟩ := X.doubleToRawLongBits hx hown (mvT hZ w1) (mvT hZ w2) (mvT hZ w3) (mvT hZ w4) (b := b) (g := mkF m pc Ls (.double b :: rest)) rfl (by rw [hml]; exact hls) (rest := rest) rfl (hb hby hd) hf (by show 2 * 0 + _ + _ ≤ _; omega)
  exact Go.of st' (kk _ X' eT)
theorem g_static (X : Stand p l e R s m args below meth c T locs cells slots) (hx : p.tables.exec = Jvm.exec) (hby : c.code = bc) (hZ : Z.Warmed39 s.vm) {own : String} (hown : s.vm.findClass own = some m.cls) {i ML : Nat} {y : MethodName} {bytes : ByteArray} {maxL : Nat} {ret : Option FieldType} {rm : Room} {as' : Array Value} {QC : Option Value → Heap → List Loc → Prop} (hml : c.maxLocals = ML) (hls : Ls.size = ML) (w1 : (Jvm.Cond.methodLink own i y).before a0 Z = true) (w2 : (Jvm.Cond.static y).before a0 Z = true) (w3 : (Jvm.Cond.initialized y.cls).before a0 Z = true) (w4 : (Jvm.Cond.code y bytes maxL ret).before a0 Z = true) (hy : y.cls ≠ "java/lang/invoke/MethodHandle" ∧ y.cls ≠ "java/lang/invoke/VarHandle") (eT : T.heap = h) (M : Ct l Z y bytes maxL ret rm as' h QC) {ps : List FieldType} {r : Option FieldType} (pd : parseMethodDescriptor y.desc = some ⟨ps, r⟩) {argsL : List Value} (hl : argsL.length = ps.length) (has : argsL.toArray = as') (hst : st = argsL.reverse ++ rest) (hd : decode bc pc = .ok (.invokestatic i, 3)) (hp : pc + 3 = pc') (hf : rm.frames + 1 ≤ R.frames) (hlo : (rest.map fun v => v.category).sum + (maxL + 11) + rm.locals ≤ R.locals) (hc : cells + rm.cells ≤ R.cells) (hs : slots + rm.slots ≤ R.slots)
    (k : ∀ (T' : State) (v : Option Value) (L : List Loc), Stand p l e R s m args below meth c T' (locs ++ L) (cells + rm.cells) (slots + rm.slots) → QC v T'.heap L → Go p e below EF Q m T' pc' Ls (v.toList ++ rest)) : Go p e below EF Q m T pc Ls st := by
  subst hp has hst
  obtain ⟨v, vm₁, ⟨U, L', c', s'⟩, -, X', ⟨L, hQ, l1, l2, l3⟩, st⟩ := Jvm.LawKit.callS X hx (y := y) hown (mvT hZ w1) (mvT hZ w2) (mvT hZ w3) (mvT hZ w4) hy (backOf (W := (rest.map fun v => v.category).sum) M hZ w4 w3 hf hlo) (g := mkF m pc Ls (argsL.reverse ++ rest)) rfl (by rw [hml]; exact hls) (argsL := argsL) (rest := rest) (lenOf pd hl) rfl (by show 2 * 0 + _ ≤ _; omega) (hb hby hd) (fun _ _ => ⟨rfl, eT, hc, hs⟩)
  dsimp only at X' l1 l2 l3 st hQ
  subst l1 l2 l3
  exact Go.of st (k _ _ _ X' hQ)
theorem g_virtual (X : Stand p l e R s m args below meth c T locs cells slots) (hx : p.tables.exec = Jvm.exec) (hby : c.code = bc) (hZ : Z.Warmed39 s.vm) {own : String} (hown : s.vm.findClass own = some m.cls) {i ML : Nat} {y : MethodName} {bytes : ByteArray} {maxL : Nat} {ret : Option FieldType} {rm : Room} {as' : Array Value} {QC : Option Value → Heap → List Loc → Prop} (hml : c.maxLocals = ML) (hls : Ls.size = ML) {C : String} (w1 : (Jvm.Cond.methodLink own i y).before a0 Z = true) (w2 : (Jvm.Cond.declares y).before a0 Z = true) (w5 : (Jvm.Cond.selects C y y).before a0 Z = true) (w6 : (Jvm.Cond.instanceMethod y).before a0 Z = true) (w3 : (Jvm.Cond.initialized y.cls).before a0 Z = true) (w4 : (Jvm.Cond.code y bytes maxL ret).before a0 Z = true) (hy : y.cls ≠ "java/lang/invoke/MethodHandle" ∧ y.cls ≠ "java/lang/invoke/VarHandle") (eT : T.heap = h) (M : Ct l Z y bytes maxL ret rm as' h QC) {ps : List FieldType} {r : Option FieldType} (pd : parseMethodDescriptor y.desc = some ⟨ps, r⟩) {a : Addr} (E : Exa Z h a C) {argsL : List Value} (hl : argsL.length = ps.length) (has : (.ref a :: argsL).toArray = as') (hst : st = argsL.reverse ++ .ref a :: rest) (hd : decode bc pc = .ok (.invokevirtual i, 3)) (hp : pc + 3 = pc') (hf : rm.frames + 1 ≤ R.frames) (hlo : (rest.map fun v => v.category).sum + (maxL + 11) + rm.locals ≤ R.locals) (hc : cells + rm.cells ≤ R.cells) (hs : slots + rm.slots ≤ R.slots)
    (k : ∀ (T' : State) (v : Option Value) (L : List Loc), Stand p l e R s m args below meth c T' (locs ++ L) (cells + rm.cells) (slots + rm.slots) → QC v T'.heap L → Go p e below EF Q m T' pc' Ls (v.toList ++ rest)) : Go p e below EF Q m T pc Ls st := by
  subst hp has hst
  obtain ⟨cB, kB, qa, qb, qc⟩ := isOf hZ eT E
  obtain ⟨v, vm₁, ⟨U, L', c', s'⟩, -, X', ⟨L, hQ, l1, l2, l3⟩, st⟩ := X.virtualBack hx (y := y) (z := y) hown (mvT hZ w1) (mvT hZ w2) (notFace_of_selects (args := #[]) (mvT hZ w5)) (mvT hZ w5) (mvT hZ w6) hy (backOf (W := (rest.map fun v => v.category).sum) M hZ w4 w3 hf hlo) qa qc (g := mkF m pc Ls (argsL.reverse ++ .ref a :: rest)) rfl (by rw [hml]; exact hls) (Steps.refl _) (argsL := argsL) (rest := rest) (lenOf pd hl) rfl (by show 2 * 0 + _ ≤ _; omega) (hb hby hd) (fun _ _ => ⟨rfl, eT, hc, hs⟩)
  dsimp only at X' l1 l2 l3 st hQ
  subst l1 l2 l3
  exact Go.of (fun _ q => st.trans q) (k _ _ _ X' hQ)
theorem g_ldcS (X : Stand p l e R s m args below meth c T locs cells slots) (hx : p.tables.exec = Jvm.exec) (hby : c.code = bc) (hZ : Z.Warmed39 s.vm) {own : String} (hown : s.vm.findClass own = some m.cls) (eT : T.heap = h) (hW : WOk s EF mc ms kk) (hk : kk ≤ h.size) {text : String} {i : Nat} (w : (Jvm.Cond.stringLink own i text).before a0 Z = true) (wS : ∀ a ∈ Bundle.stringAtoms, a.before a0 Z = true) (hd : decode bc pc = .ok (.ldc i, 2)) (hp : pc + 2 = pc') {n : Nat} (hn : 4 * text.toList.length ≤ n) (hbig : n ≤ 536870912) (hc : cells + 2 ≤ R.cells) (hl : slots + (n + 4) ≤ R.slots) (k : ∀ (s' T' : State) (h' : Heap) (a : Addr) (k1 : Nat), Stand p l e R s' m args below meth c T' locs (cells + 2) (slots + (n + 4)) → Z.Warmed39 s'.vm → s'.vm.findClass own = some m.cls → WOk s' EF mc ms k1 → k1 ≤ h'.size → T'.heap = h' → Ext h h' → Go p e below EF Q m T' pc' Ls (.ref a :: st)) : Go p e below EF Q m T pc Ls st := by
  subst hp eT
  obtain ⟨a, T', X', hS', -, hb', -, st'⟩ := X.ldcStringCold hx (own := own) hown (mvS (s := s) (vm0 := s.vm) hZ w) (fun d hd => by
    have q := wS d hd
    simp only [Bundle.stringAtoms, List.mem_cons, List.not_mem_nil, or_false] at hd
    rcases hd with rfl | rfl | rfl | rfl | rfl | rfl | rfl
    · exact mv hZ q
    · exact mv hZ q
    · exact mvA hZ q
    · exact mv hZ q
    · exact mv hZ q
    · exact mv hZ q
    · exact mv hZ q) (g := mkF m pc Ls st) rfl (hb hby hd) hn hbig hc hl
  have E := ext_of hb'
  exact Go.of st' (k _ T' _ a _ X' (State.Warmed39.trans (t := s) hZ hS'.1) (by rw [show (s.setVm T'.vm).vm = T'.vm from rfl, hS'.1.alike.findClass]; exact hown) (hW.step hS' (Nat.le_trans hk E.1)) (Nat.le_refl _) rfl E)
theorem g_specialS (X : Stand p l e R s m args below meth c T locs cells slots) (hx : p.tables.exec = Jvm.exec) (hby : c.code = bc) (hZ : Z.Warmed39 s.vm) {own : String} (hown : s.vm.findClass own = some m.cls) {i ML : Nat} {y : MethodName} {bytes : ByteArray} {maxL : Nat} {ret : Option FieldType} {rm : Room} {as' : Array Value} {QC : Option Value → Heap → List Loc → Prop} (hy1 : y.name = "<init>") (hml : c.maxLocals = ML) (hls : Ls.size = ML) (w1 : (Jvm.Cond.methodLink own i y).before a0 Z = true) (w2 : (Jvm.Cond.instanceMethod y).before a0 Z = true) (w3 : (Jvm.Cond.initialized y.cls).before a0 Z = true) (hrt : ret = none) (w4 : (Jvm.Cond.code y bytes maxL ret).before a0 Z = true) (hy : y.cls ≠ "java/lang/invoke/MethodHandle" ∧ y.cls ≠ "java/lang/invoke/VarHandle") (eT : T.heap = h) (hW : WOk s EF mc ms kk) (hk : kk ≤ h.size) (M : CtW l Z y bytes maxL ret rm as' h QC) {ps : List FieldType} {r : Option FieldType} (pd : parseMethodDescriptor y.desc = some ⟨ps, r⟩) {a : Addr} {argsL : List Value} (hl : argsL.length = ps.length) (has : (.ref a :: argsL).toArray = as') (hst : st = argsL.reverse ++ .ref a :: rest) (hd : decode bc pc = .ok (.invokespecial i, 3)) (hp : pc + 3 = pc') (hf : rm.frames + 1 ≤ R.frames) (hlo : (rest.map fun v => v.category).sum + (maxL + 11) + rm.locals ≤ R.locals) (hc : cells + rm.cells ≤ R.cells) (hs : slots + rm.slots ≤ R.slots)
    (k : ∀ (s' T' : State) (v : Option Value) (L : List Loc), Stand p l e R s' m args below meth c T' (locs ++ L) (cells + rm.cells) (slots + rm.slots) → Z.Warmed39 s'.vm → s'.vm.findClass own = some m.cls → WOk s' EF mc ms T'.heap.size → h.size ≤ T'.heap.size → QC v T'.heap L → Go p e below EF Q m T' pc' Ls (v.toList ++ rest)) : Go p e below EF Q m T pc Ls st := by
  subst hp has hst hrt
  obtain ⟨v, vm₁, ⟨U, L', c', s'⟩, -, X', hS', hgr, ⟨L, hQ, l1, l2, l3⟩, st⟩ := X.specialBackS hx (y := y) hy1 hown (mvT hZ w1) (mvT hZ w2) (mvT hZ w4) hy (backOfS (W := (rest.map fun v => v.category).sum) M hZ w4 w3 hf hlo) (g := mkF m pc Ls (argsL.reverse ++ .ref a :: rest)) rfl (by rw [hml]; exact hls) (Steps.refl _) (a := a) (argsL := argsL) (rest := rest) (lenOf pd hl) rfl (by show 2 * 0 + _ ≤ _; omega) (hb hby hd) (fun _ _ => ⟨rfl, eT, hc, hs⟩)
  dsimp only at X' l1 l2 l3 st hQ hgr
  subst l1 l2 l3 eT
  exact Go.of (fun _ q => st.trans q) (k _ _ _ _ X' (State.Warmed39.trans (t := s) hZ hS'.1) (by rw [show (s.setVm U.vm).vm = U.vm from rfl, hS'.1.alike.findClass]; exact hown) (hW.step hS' (Nat.le_trans hk hgr)) hgr hQ)
end OwnKit
section OwnLib
/-- b is 1 where P holds, 0 where it doesn't -/
def own_bool (b : Int32) (P : Prop) : Prop := (b = 1 ∧ P) ∨ (b = 0 ∧ ¬ P)
theorem own_bool_01 {b : Int32} {P : Prop} (h : own_bool b P) : b = 0 ∨ b = 1 := h.elim (fun q => Or.inr q.1) (fun q => Or.inl q.1)
theorem own_bool_iff {b : Int32} {P : Prop} (h : own_bool b P) : b = 1 ↔ P := h.elim (fun q => ⟨fun _ => q.2, fun _ => q.1⟩) (fun q => ⟨fun z => absurd (q.1.symm.trans z) (by decide), fun z => absurd z q.2⟩)
theorem own_bool_zero {b : Int32} {P : Prop} (h : own_bool b P) : b = 0 ↔ ¬ P := h.elim (fun q => ⟨fun z => absurd (q.1.symm.trans z) (by decide), fun z => absurd q.2 z⟩) (fun q => ⟨fun _ => q.2, fun _ => q.1⟩)
theorem own_bool_eq {a b : Int32} {P P' : Prop} (h : own_bool a P) (h' : own_bool b P') (i : P ↔ P') : a = b := by
  rcases h with ⟨rfl, q⟩ | ⟨rfl, q⟩ <;> rcases h' with ⟨rfl, q'⟩ | ⟨rfl, q'⟩ <;> first | rfl | exact absurd (i.mp q) q' | exact absurd (i.mpr q') q
theorem own_inc (i : Int32) (h : i.toInt < 2147483647) : (i + 1).toInt = i.toInt + 1 := by
  have a := c_iadd i 1
  have e : (1 : Int32).toInt = 1 := rfl
  rw [e] at a
  have b := rng32 i
  have b' := rng32 (i + 1)
  omega
theorem own_dec (i : Int32) (h : -2147483648 < i.toInt) : (i - 1).toInt = i.toInt - 1 := by
  have a := c_isub i 1
  have e : (1 : Int32).toInt = 1 := rfl
  rw [e] at a
  have b := rng32 i
  have b' := rng32 (i - 1)
  omega
theorem own_add (x y : Int32) (h1 : -2147483648 ≤ x.toInt + y.toInt) (h2 : x.toInt + y.toInt < 2147483648) : (x + y).toInt = x.toInt + y.toInt := by
  have a := c_iadd x y
  have b := rng32 (x + y)
  omega
theorem own_sub (x y : Int32) (h1 : -2147483648 ≤ x.toInt - y.toInt) (h2 : x.toInt - y.toInt < 2147483648) : (x - y).toInt = x.toInt - y.toInt := by
  have a := c_isub x y
  have b := rng32 (x - y)
  omega
/-- (u & 0x7fffffff) % n lies from 0 up to n - 1 -/
theorem own_modr (u n : Int32) (hn : 0 < n.toInt) : 0 ≤ ((u &&& 2147483647) % n).toInt ∧ ((u &&& 2147483647) % n).toInt < n.toInt := by
  have a1 := c_mask u 2147483647 31 (by decide) (by decide)
  have a2 := (c_iremV (u &&& 2147483647) n).1 (by omega) hn
  omega
def QI (h0 : Heap) (P : Int32 → Prop) : Option Value → Heap → List Loc → Prop := fun v h L => (∃ r, v = some (.int r) ∧ P r) ∧ h = h0 ∧ L = []
def QL (h0 : Heap) (P : Int64 → Prop) : Option Value → Heap → List Loc → Prop := fun v h L => (∃ r, v = some (.long r) ∧ P r) ∧ h = h0 ∧ L = []
def QV (h0 : Heap) : Option Value → Heap → List Loc → Prop := fun v h L => v = none ∧ h = h0 ∧ L = []
/-- what the law leaves -/
def Q0 (n0 : Nat) : Option Value → Heap → List Loc → Prop := fun v h L => v = some (.int 1) ∧ Fr n0 L
end OwnLib
section OwnFp
open Jvm.FP.Core
/-- n / 2^j, n from 1 on, as the format writes it -/
def own_dat (n j : Nat) : FP.Core.Datum := .fin false (n * 2 ^ (52 - n.log2)) ((n.log2 : Int) - 52 - j)
theorem own_log {n : Nat} (h0 : n ≠ 0) (h : n < 2 ^ 53) : 2 ^ n.log2 ≤ n ∧ n < 2 ^ (n.log2 + 1) ∧ n.log2 < 53 := by
  have l1 : 2 ^ n.log2 ≤ n := Nat.log2_self_le h0
  exact ⟨l1, Nat.lt_log2_self, (Nat.pow_lt_pow_iff_right (by decide : 1 < 2)).mp (Nat.lt_of_le_of_lt l1 h)⟩
theorem own_dat_c {n : Nat} (h0 : n ≠ 0) (h : n < 2 ^ 53) : 2 ^ 52 ≤ n * 2 ^ (52 - n.log2) ∧ n * 2 ^ (52 - n.log2) < 2 ^ 53 := by
  obtain ⟨l1, l2, l3⟩ := own_log h0 h
  generalize n.log2 = L at l1 l2 l3 ⊢
  constructor
  · calc 2 ^ 52 = 2 ^ L * 2 ^ (52 - L) := by rw [← Nat.pow_add]; congr 1; omega
      _ ≤ n * 2 ^ (52 - L) := Nat.mul_le_mul_right _ l1
  · calc n * 2 ^ (52 - L) < 2 ^ (L + 1) * 2 ^ (52 - L) := Nat.mul_lt_mul_of_pos_right l2 (Nat.two_pow_pos _)
      _ = 2 ^ 53 := by rw [← Nat.pow_add]; congr 1; omega
theorem own_dat_fits (n j : Nat) (h0 : n ≠ 0) (h : n < 2 ^ 53) (hj : j ≤ 900) : FP.Core.fits b64 (own_dat n j) := by
  obtain ⟨c1, c2⟩ := own_dat_c h0 h
  obtain ⟨-, -, l3⟩ := own_log h0 h
  unfold own_dat
  generalize n * 2 ^ (52 - n.log2) = q at c1 c2 ⊢
  generalize n.log2 = L at l3 ⊢
  have q1 : b64.qmin = -1074 := by decide
  have q2 : b64.qmax = 971 := by decide
  exact ⟨c2, by rw [q1]; omega, by rw [q2]; omega, .inr c1⟩
theorem own_rr (n j A B : Nat) (e : Int) (h0 : n ≠ 0) (h : n < 2 ^ 53) (hj : j ≤ 900) (hB : 0 < B) (q : A * 2 ^ (e - ((n.log2 : Int) - 52 - j)).toNat = n * 2 ^ (52 - n.log2) * B * 2 ^ (((n.log2 : Int) - 52 - j) - e).toNat) : roundRatio b64 false A B e = own_dat n j :=
  roundRatio_exact good_b64 hB (own_dat_fits n j h0 h hj) q
theorem own_v_i2d (a : Int32) (n : Nat) (ha : a.toInt = n) (h0 : n ≠ 0) : val64 (FP.i2d a) = own_dat n 0 := by
  have hb := rng32 a
  have hn : n < 2 ^ 53 := by omega
  obtain ⟨-, -, l3⟩ := own_log h0 hn
  rw [show FP.i2d a = FP.Core.i2d a from rfl, val64_i2d]
  have e : ofInt a.toInt = .fin false n 0 := by
    unfold ofInt; rw [ha]; simp
  rw [e]
  refine own_rr n 0 n 1 0 h0 hn (by decide) (by decide) ?_
  rw [show (0 - ((n.log2 : Int) - 52 - (0 : Nat))).toNat = 52 - n.log2 by omega, show ((n.log2 : Int) - 52 - (0 : Nat) - 0).toNat = 0 by omega]
  simp
theorem own_v_1024 : val64 4652218415073722368 = .fin false (2 ^ 52) (-42) := by decide +kernel
theorem own_v_div (a : UInt64) (n : Nat) (h0 : n ≠ 0) (h : n < 2 ^ 53) (ha : val64 a = own_dat n 0) : val64 (FP.ddiv a 4652218415073722368) = own_dat n 10 := by
  rw [show FP.ddiv a 4652218415073722368 = FP.Core.ddiv a 4652218415073722368 from rfl, val64_ddiv, ha, own_v_1024]
  have hq : ∀ (w d : Nat) (q r : Int), d ≠ 0 → quotient b64 (.fin false w q) (.fin false d r) = roundRatio b64 false w d (q - r) := fun w d q r hd => by
    simp only [quotient, if_neg hd]; rfl
  unfold own_dat
  rw [hq _ _ _ _ (by decide)]
  show _ = own_dat n 10
  refine own_rr n 10 _ _ _ h0 h (by decide) (by decide) ?_
  rw [show ((n.log2 : Int) - 52 - (0 : Nat) - (-42) - ((n.log2 : Int) - 52 - (10 : Nat))).toNat = 52 by omega, show ((n.log2 : Int) - 52 - (10 : Nat) - ((n.log2 : Int) - 52 - (0 : Nat) - (-42))).toNat = 0 by omega]
  simp
theorem own_v_mul (a b : UInt64) (n k : Nat) (h0 : n ≠ 0) (k0 : k ≠ 0) (hn : n < 2 ^ 53) (hk : k < 2 ^ 53) (h : n * k < 2 ^ 53) (ha : val64 a = own_dat n 0) (hb : val64 b = own_dat k 10) : val64 (FP.dmul a b) = own_dat (n * k) 10 := by
  have hnk : n * k ≠ 0 := Nat.mul_ne_zero h0 k0
  obtain ⟨a1, a2, a3⟩ := own_log h0 hn
  obtain ⟨b1, b2, b3⟩ := own_log k0 hk
  obtain ⟨c1, c2, c3⟩ := own_log hnk h
  have hL : n.log2 + k.log2 ≤ (n * k).log2 := by
    have : 2 ^ (n.log2 + k.log2) < 2 ^ ((n * k).log2 + 1) := Nat.lt_of_le_of_lt (by rw [Nat.pow_add]; exact Nat.mul_le_mul a1 b1) c2
    have := (Nat.pow_lt_pow_iff_right (by decide : 1 < 2)).mp this
    omega
  rw [show FP.dmul a b = FP.Core.dmul a b from rfl, val64_dmul, ha, hb]
  show roundRatio b64 (false != false) (n * 2 ^ (52 - n.log2) * (k * 2 ^ (52 - k.log2))) 1 ((n.log2 : Int) - 52 - (0 : Nat) + ((k.log2 : Int) - 52 - (10 : Nat))) = _
  refine own_rr (n * k) 10 _ _ _ hnk h (by decide) (by decide) ?_
  generalize n.log2 = L1 at a3 hL ⊢
  generalize k.log2 = L2 at b3 hL ⊢
  generalize (n * k).log2 = L at c3 hL ⊢
  rw [show ((L1 : Int) - 52 - (0 : Nat) + ((L2 : Int) - 52 - (10 : Nat)) - ((L : Int) - 52 - (10 : Nat))).toNat = 0 by omega, show ((L : Int) - 52 - (10 : Nat) - ((L1 : Int) - 52 - (0 : Nat) + ((L2 : Int) - 52 - (10 : Nat)))).toNat = 52 + L - L1 - L2 by omega]
  rw [Nat.pow_zero, Nat.mul_one, Nat.mul_one, Nat.mul_assoc (n * k), ← Nat.pow_add, show 52 - L + (52 + L - L1 - L2) = (52 - L1) + (52 - L2) by omega, Nat.pow_add]
  simp only [Nat.mul_assoc, Nat.mul_left_comm]
theorem own_v_bits (x : UInt64) (n : Nat) (h0 : n ≠ 0) (h : n < 2 ^ 53) (hx : val64 x = own_dat n 10) : x.toNat = (n.log2 + 1013) * 2 ^ 52 + (n * 2 ^ (52 - n.log2) - 2 ^ 52) := by
  have q : of64 (val64 x) = x := of64_val64 (by rw [hx]; exact fun z => nomatch z)
  obtain ⟨c1, c2⟩ := own_dat_c h0 h
  obtain ⟨-, -, l3⟩ := own_log h0 h
  have ht : b64.tails = 4503599627370496 := by decide
  have q1 : b64.qmin = -1074 := by decide
  have hen : ∀ (w : Nat) (q : Int), ¬ w < 4503599627370496 → encode b64 (.fin false w q) = ((q + 1074).toNat + 1) * 4503599627370496 + (w - 4503599627370496) := fun w q hw => by
    simp only [encode, ht, q1, if_neg hw, assemble, Bool.toNat_false, Nat.zero_mul, Nat.zero_add]
    rw [show q - -1074 = q + 1074 by omega]
  rw [← q, hx]
  unfold of64 own_dat
  rw [UInt64.toNat_ofNat']
  generalize n * 2 ^ (52 - n.log2) = w at c1 c2 ⊢
  generalize n.log2 = L at l3 ⊢
  rw [hen _ _ (by omega), show ((L : Int) - 52 - (10 : Nat) + 1074).toNat + 1 = L + 1013 by omega]
  rw [Nat.mod_eq_of_lt (by omega)]
end OwnFp
theorem own_r1 (x : UInt64) (y : Int64) (h : y = x.toInt64) (hx : x.toNat < 2 ^ 63) : y.toInt = x.toNat := by
  subst h
  show x.toBitVec.toInt = _
  rw [BitVec.toInt_eq_toNat_of_lt (by show 2 * x.toNat < 2 ^ 64; omega)]; rfl
theorem own_n64 (y : Int64) (h : 0 ≤ y.toInt) : y.toBitVec.toNat = y.toInt.toNat := by
  have e : y.toInt = y.toBitVec.toInt := rfl
  rw [e, BitVec.toInt_eq_toNat_cond] at h ⊢
  have := y.toBitVec.isLt
  split at h <;> rename_i q
  · rw [if_pos q]; rfl
  · omega
theorem own_ofn (z : Int64) (n : Nat) (h : z.toBitVec.toNat = n) (hn : n < 2 ^ 63) : z.toInt = n := by
  show z.toBitVec.toInt = _
  rw [BitVec.toInt_eq_toNat_of_lt (by rw [h]; omega), h]
theorem own_andm (y : Int64) (h : 0 ≤ y.toInt) : (y &&& (4503599627370495 : Int64)).toInt = y.toInt % 4503599627370496 := by
  have a := own_n64 y h
  have e := own_ofn (y &&& 4503599627370495) (y.toInt.toNat % 2 ^ 52) (by
    show (y.toBitVec &&& (4503599627370495 : Int64).toBitVec).toNat = _
    rw [BitVec.toNat_and, a, show (4503599627370495 : Int64).toBitVec.toNat = 2 ^ 52 - 1 by decide, Nat.and_two_pow_sub_one_eq_mod]) (by omega)
  rw [e]; omega
theorem own_orm (y z : Int64) (h : 0 ≤ y.toInt) (h2 : y.toInt < 4503599627370496) (hz : z = y ||| (4503599627370496 : Int64)) : z.toInt = 4503599627370496 + y.toInt := by
  have a := own_n64 y h
  subst hz
  have e := own_ofn (y ||| 4503599627370496) (2 ^ 52 * 1 + y.toInt.toNat) (by
    show (y.toBitVec ||| (4503599627370496 : Int64).toBitVec).toNat = _
    rw [BitVec.toNat_or, a, show (4503599627370496 : Int64).toBitVec.toNat = 2 ^ 52 * 1 by decide, Nat.or_comm, ← Nat.two_pow_add_eq_or_of_lt (by omega)]) (by omega)
  rw [e]; omega
theorem own_shr (y z : Int64) (q : Int32) (k : Nat) (hk : q.toInt = k) (k64 : k < 64) (hz : z = y >>> (q.toInt64 &&& 63)) : z.toInt = y.toInt / (2 ^ k : Nat) := by
  have e : q.toInt64 &&& 63 = (q &&& 0x3f).toInt64 := by
    have : q = Int32.ofNat k := Int32.toInt_inj.mp (by rw [hk, own_ofNat (by omega)])
    have all : ∀ k : Fin 64, (Int32.ofNat k.val).toInt64 &&& 63 = (Int32.ofNat k.val &&& 0x3f).toInt64 := by decide +kernel
    rw [this]; exact all ⟨k, k64⟩
  rw [hz, e]
  refine c_lshr y q k ?_
  have : q = Int32.ofNat k := Int32.toInt_inj.mp (by rw [hk, own_ofNat (by omega)])
  have all : ∀ k : Fin 64, (Int32.ofNat k.val).toBitVec.toNat % 64 = k.val := by decide +kernel
  rw [this]; exact all ⟨k, k64⟩
theorem own_be (y z : Int64) (h : 0 ≤ y.toInt) (hz : z = (y &&& (9218868437227405312 : Int64)) >>> ((52 : Int32).toInt64 &&& 63)) : z.toInt = y.toInt / 4503599627370496 := by
  have a := own_n64 y h
  have hb : (y &&& (9218868437227405312 : Int64)).toBitVec.toNat = y.toInt.toNat &&& 9218868437227405312 := by
    show (y.toBitVec &&& (9218868437227405312 : Int64).toBitVec).toNat = _
    rw [BitVec.toNat_and, a]; rfl
  have hr := Int64.toInt_lt y
  have e0 := own_ofn _ _ hb (Nat.lt_of_le_of_lt Nat.and_le_right (by decide))
  have e := own_shr _ z 52 52 rfl (by decide) hz
  rw [e, e0]
  have s : (y.toInt.toNat &&& 9218868437227405312) / 2 ^ 52 = y.toInt.toNat / 2 ^ 52 := by
    rw [← Nat.shiftRight_eq_div_pow, Nat.shiftRight_and_distrib, Nat.shiftRight_eq_div_pow, show 9218868437227405312 >>> 52 = 2 ^ 11 - 1 by decide, Nat.and_two_pow_sub_one_eq_mod, Nat.mod_eq_of_lt]
    omega
  omega
def own_px (x : UInt64) (N : Nat) : Prop := (N = 0 ∧ x = 0) ∨ (N ≠ 0 ∧ N < 2 ^ 42 ∧ FP.Core.val64 x = own_dat N 10)
theorem own_px_bits {x : UInt64} {N : Nat} (h : own_px x N) (h0 : N ≠ 0) : x.toNat = (N.log2 + 1013) * 2 ^ 52 + (N * 2 ^ (52 - N.log2) - 2 ^ 52) ∧ N.log2 < 42 ∧ 2 ^ 52 ≤ N * 2 ^ (52 - N.log2) ∧ N * 2 ^ (52 - N.log2) < 2 ^ 53 := by
  rcases h with ⟨e, -⟩ | ⟨-, h1, h2⟩
  · exact absurd e h0
  · have hN : N < 2 ^ 53 := by omega
    obtain ⟨l1, l2, l3⟩ := own_log h0 hN
    obtain ⟨c1, c2⟩ := own_dat_c h0 hN
    exact ⟨own_v_bits x N h0 hN h2, (Nat.pow_lt_pow_iff_right (by decide : 1 < 2)).mp (Nat.lt_of_le_of_lt l1 h1), c1, c2⟩
/-- what Math.round gives -/
theorem own_half (N L : Nat) (hL : L < 42) : (N * 2 ^ (52 - L) / 2 ^ (61 - L) + 1) / 2 = (N + 512) / 1024 := by
  have e : 2 ^ (61 - L) = 2 ^ (52 - L) * 512 := by rw [show 61 - L = 52 - L + 9 by omega, Nat.pow_add]
  have p := Nat.two_pow_pos (52 - L)
  rw [e, ← Nat.div_div_eq_div_mul, Nat.mul_div_cancel _ p]
  omega
def QD (h0 : Heap) (d : UInt64) : Option Value → Heap → List Loc → Prop := fun v h L => v = some (.double d) ∧ h = h0 ∧ L = []
theorem ef_1 (m : MethodId) (u : Int32) (w : Int32) : entryFrame m #[(.int u), (.int w)] 2 = mkF m 0 #[.val (.int u), .val (.int w)] [] := by first | (simp [entryFrame, mkF, argsToLocals, Value.category]; done) | rfl
theorem d1_0 : decode jdk_29_method_65_code 0 = .ok (.iload_n 0, 1) := by decide +kernel
theorem d1_1 : decode jdk_29_method_65_code 1 = .ok (.iload_n 1, 1) := by decide +kernel
theorem d1_2 : decode jdk_29_method_65_code 2 = .ok (.if_icmp .lt 7, 3) := by decide +kernel
theorem d1_9 : decode jdk_29_method_65_code 9 = .ok (.iload_n 1, 1) := by decide +kernel
theorem d1_10 : decode jdk_29_method_65_code 10 = .ok (.ireturn, 1) := by decide +kernel
theorem d1_5 : decode jdk_29_method_65_code 5 = .ok (.iload_n 0, 1) := by decide +kernel
theorem d1_6 : decode jdk_29_method_65_code 6 = .ok (.goto 4, 3) := by decide +kernel
set_option maxRecDepth 65536 in
set_option maxHeartbeats 40000000 in
theorem rm1 (l : Launch) (Z : State) (a0 : Array Value) (hw : ∀ d ∈ tables_1, d.before a0 Z = true) (u : Int32) (w : Int32) (h0 : Heap)  :
    Ct l Z (⟨"java/lang/Math", "max", "(II)I"⟩ : MethodName) jdk_29_method_65_code 2 (some .int) ({ frames := 0, cells := 0, slots := 0, locals := 0 } : Room) #[(.int u), (.int w)] h0 (QI h0 (fun r => r.toInt = max u.toInt w.toInt)) := by
  refine own_met (Jvm.Free.JP.mathPlain rfl (by decide +kernel)) (fun m => ef_1 m u w) ?_
  intro p e s m below meth c T0 EF X0 hx hby hml hown hnm hret hlk hZ hF e0
  refine g_iloadN X0 hx hby d1_0 (pc' := 1) rfl rfl ?_
  refine g_iloadN X0 hx hby d1_1 (pc' := 2) rfl rfl ?_
  refine g_icmplt X0 hx hby d1_2 (pt := 9) (pf := 5) (by decide) (by decide) rfl (fun (h2 : u.toInt < w.toInt) => ?_) (fun (h2 : w.toInt ≤ u.toInt) => ?_)
  · refine g_iloadN X0 hx hby d1_9 (pc' := 10) rfl rfl ?_
    exact g_retI X0 hx hby hF (Nat.zero_le _) hlk hret d1_10 (by decide) (by decide) (⟨⟨_, rfl, by omega⟩, e0, rfl⟩)
  · refine g_iloadN X0 hx hby d1_5 (pc' := 6) rfl rfl ?_
    refine g_goto X0 hx hby d1_6 (pc' := 10) (by decide) (by decide) ?_
    exact g_retI X0 hx hby hF (Nat.zero_le _) hlk hret d1_10 (by decide) (by decide) (⟨⟨_, rfl, by omega⟩, e0, rfl⟩)
theorem ef_4 (m : MethodId) (sn : Addr) (uv : Int32) (ul : Int32) : entryFrame m #[(.ref sn), (.int uv), (.int ul)] 3 = mkF m 0 #[.val (.ref sn), .val (.int uv), .val (.int ul)] [] := by first | (simp [entryFrame, mkF, argsToLocals, Value.category]; done) | rfl
theorem pn_4 : plainName "com/example/ergorota/ergorota/engine/SearchSettings" = true := by first | (simp [plainName, overriddenIn]; done) | decide +kernel
theorem d4_0 : decode prog_29_method_11_code 0 = .ok (.iload_n 1, 1) := by decide +kernel
theorem d4_1 : decode prog_29_method_11_code 1 = .ok (.iload_n 2, 1) := by decide +kernel
theorem d4_2 : decode prog_29_method_11_code 2 = .ok (.if_icmp .ge 19, 3) := by decide +kernel
theorem d4_21 : decode prog_29_method_11_code 21 = .ok (.iload_n 1, 1) := by decide +kernel
theorem d4_22 : decode prog_29_method_11_code 22 = .ok (.ireturn, 1) := by decide +kernel
set_option maxRecDepth 65536 in
set_option maxHeartbeats 40000000 in
theorem rm4 (l : Launch) (Z : State) (a0 : Array Value) (hw : ∀ d ∈ tables_1, d.before a0 Z = true) (sn : Addr) (uv : Int32) (ul : Int32) (h0 : Heap) (hv : ul.toInt ≤ uv.toInt) :
    Ct l Z (⟨"com/example/ergorota/ergorota/engine/SearchSettings", "atLeast", "(Ljava/lang/String;II)I"⟩ : MethodName) prog_29_method_11_code 3 (some .int) ({ frames := 0, cells := 0, slots := 0, locals := 0 } : Room) #[(.ref sn), (.int uv), (.int ul)] h0 (QI h0 (fun r => r = uv)) := by
  refine own_met (plainFor_of_name pn_4) (fun m => ef_4 m sn uv ul) ?_
  intro p e s m below meth c T0 EF X0 hx hby hml hown hnm hret hlk hZ hF e0
  refine g_iloadN X0 hx hby d4_0 (pc' := 1) rfl rfl ?_
  refine g_iloadN X0 hx hby d4_1 (pc' := 2) rfl rfl ?_
  refine g_icmpge X0 hx hby d4_2 (pt := 21) (pf := 5) (by decide) (by decide) rfl (fun (h2 : ul.toInt ≤ uv.toInt) => ?_) (fun (h2 : uv.toInt < ul.toInt) => (by exfalso; omega))
  refine g_iloadN X0 hx hby d4_21 (pc' := 22) rfl rfl ?_
  exact g_retI X0 hx hby hF (Nat.zero_le _) hlk hret d4_22 (by decide) (by decide) (⟨⟨_, rfl, rfl⟩, e0, rfl⟩)
theorem ef_5 (m : MethodId) (sn : Addr) (dv : UInt64) : entryFrame m #[(.ref sn), (.double dv)] 3 = mkF m 0 #[.val (.ref sn), .val (.double dv), .second] [] := by first | (simp [entryFrame, mkF, argsToLocals, Value.category]; done) | rfl
theorem pn_5 : plainName "com/example/ergorota/ergorota/engine/SearchSettings" = true := by first | (simp [plainName, overriddenIn]; done) | decide +kernel
theorem d5_0 : decode prog_29_method_12_code 0 = .ok (.dload_n 1, 1) := by decide +kernel
theorem d5_1 : decode prog_29_method_12_code 1 = .ok (.dconst 0, 1) := by decide +kernel
theorem d5_2 : decode prog_29_method_12_code 2 = .ok (.dcmp .l, 1) := by decide +kernel
theorem d5_3 : decode prog_29_method_12_code 3 = .ok (.ifCond .lt 9, 3) := by decide +kernel
theorem d5_6 : decode prog_29_method_12_code 6 = .ok (.dload_n 1, 1) := by decide +kernel
theorem d5_7 : decode prog_29_method_12_code 7 = .ok (.dconst 1, 1) := by decide +kernel
theorem d5_8 : decode prog_29_method_12_code 8 = .ok (.dcmp .g, 1) := by decide +kernel
theorem d5_9 : decode prog_29_method_12_code 9 = .ok (.ifCond .le 18, 3) := by decide +kernel
theorem d5_27 : decode prog_29_method_12_code 27 = .ok (.dload_n 1, 1) := by decide +kernel
theorem d5_28 : decode prog_29_method_12_code 28 = .ok (.dreturn, 1) := by decide +kernel
set_option maxRecDepth 65536 in
set_option maxHeartbeats 40000000 in
theorem rm5 (l : Launch) (Z : State) (a0 : Array Value) (hw : ∀ d ∈ tables_1, d.before a0 Z = true) (sn : Addr) (dv : UInt64) (h0 : Heap) (hv : 0 ≤ (Op.cmpValue (FP.dcmp dv 0) .l).toInt ∧ (Op.cmpValue (FP.dcmp dv 0x3ff0000000000000) .g).toInt ≤ 0) :
    Ct l Z (⟨"com/example/ergorota/ergorota/engine/SearchSettings", "share", "(Ljava/lang/String;D)D"⟩ : MethodName) prog_29_method_12_code 3 (some .double) ({ frames := 0, cells := 0, slots := 0, locals := 0 } : Room) #[(.ref sn), (.double dv)] h0 (QD h0 dv) := by
  refine own_met (plainFor_of_name pn_5) (fun m => ef_5 m sn dv) ?_
  intro p e s m below meth c T0 EF X0 hx hby hml hown hnm hret hlk hZ hF e0
  refine g_dloadN X0 hx hby d5_0 (pc' := 1) rfl rfl ?_
  refine g_dconst0 X0 hx hby d5_1 (pc' := 2) rfl ?_
  refine g_dcmp X0 hx hby d5_2 (pc' := 3) rfl ?_
  refine g_iflt X0 hx hby d5_3 (pt := 12) (pf := 6) (by decide) (by decide) rfl (fun (h3 : (Op.cmpValue (FP.dcmp dv 0) .l).toInt < 0) => (by exfalso; omega)) (fun (h3 : 0 ≤ (Op.cmpValue (FP.dcmp dv 0) .l).toInt) => ?_)
  refine g_dloadN X0 hx hby d5_6 (pc' := 7) rfl rfl ?_
  refine g_dconst1 X0 hx hby d5_7 (pc' := 8) rfl ?_
  refine g_dcmp X0 hx hby d5_8 (pc' := 9) rfl ?_
  refine g_ifle X0 hx hby d5_9 (pt := 27) (pf := 12) (by decide) (by decide) rfl (fun (h9 : (Op.cmpValue (FP.dcmp dv 0x3ff0000000000000) .g).toInt ≤ 0) => ?_) (fun (h9 : 0 < (Op.cmpValue (FP.dcmp dv 0x3ff0000000000000) .g).toInt) => (by exfalso; omega))
  refine g_dloadN X0 hx hby d5_27 (pc' := 28) rfl rfl ?_
  exact g_retD X0 hx hby hF (Nat.zero_le _) hlk hret d5_28 (by decide) (by decide) (⟨rfl, e0, rfl⟩)
theorem own_i64 (n : Nat) (h : n < 2 ^ 63) : (Int64.ofNat n).toInt = n := by rw [Int64.toInt_ofNat_of_lt h]
theorem own_i32n (n : Nat) (h : n < 2 ^ 31) : (Int32.ofNat n).toInt = n := by rw [Int32.toInt_ofNat_of_lt h]
theorem own_ladd1 (x : Int64) (h : x.toInt < 9223372036854775807) : (x + 1).toInt = x.toInt + 1 := by
  have a := c_ladd x 1
  have e : (1 : Int64).toInt = 1 := rfl
  have r := Int64.toInt_lt (x + 1)
  have r2 := Int64.le_toInt (x + 1)
  have r3 := Int64.le_toInt x
  rw [e] at a; omega
theorem own_lsub (x y : Int64) (h1 : -9223372036854775808 ≤ x.toInt - y.toInt) (h2 : x.toInt - y.toInt < 9223372036854775808) : (x - y).toInt = x.toInt - y.toInt := by
  have a := c_lsub x y
  have r := Int64.toInt_lt (x - y)
  have r2 := Int64.le_toInt (x - y)
  omega
theorem own_l2i (x : Int64) (h : 0 ≤ x.toInt ∧ x.toInt < 2147483648) : x.toInt32.toInt = x.toInt := by
  have a := c_l2i x
  have r := rng32 x.toInt32
  omega
theorem ef_7 (m : MethodId) (dv : UInt64) : entryFrame m #[(.double dv)] 10 = mkF m 0 #[.val (.double dv), .second, .unset, .unset, .unset, .unset, .unset, .unset, .unset, .unset] [] := by first | (simp [entryFrame, mkF, argsToLocals, Value.category]; done) | rfl
theorem d7_0 : decode jdk_29_method_22_code 0 = .ok (.dload_n 0, 1) := by decide +kernel
theorem d7_1 : decode jdk_29_method_22_code 1 = .ok (.invokestatic 79, 3) := by decide +kernel
theorem d7_4 : decode jdk_29_method_22_code 4 = .ok (.lstore_n 2, 1) := by decide +kernel
theorem d7_5 : decode jdk_29_method_22_code 5 = .ok (.lload_n 2, 1) := by decide +kernel
theorem d7_6 : decode jdk_29_method_22_code 6 = .ok (.ldc2_w 87, 3) := by decide +kernel
theorem d7_9 : decode jdk_29_method_22_code 9 = .ok (.land, 1) := by decide +kernel
theorem d7_10 : decode jdk_29_method_22_code 10 = .ok (.bipush 52, 2) := by decide +kernel
theorem d7_12 : decode jdk_29_method_22_code 12 = .ok (.lshr, 1) := by decide +kernel
theorem d7_13 : decode jdk_29_method_22_code 13 = .ok (.lstore 4, 2) := by decide +kernel
theorem d7_15 : decode jdk_29_method_22_code 15 = .ok (.ldc2_w 89, 3) := by decide +kernel
theorem d7_18 : decode jdk_29_method_22_code 18 = .ok (.lload 4, 2) := by decide +kernel
theorem d7_20 : decode jdk_29_method_22_code 20 = .ok (.lsub, 1) := by decide +kernel
theorem d7_21 : decode jdk_29_method_22_code 21 = .ok (.lstore 6, 2) := by decide +kernel
theorem d7_23 : decode jdk_29_method_22_code 23 = .ok (.lload 6, 2) := by decide +kernel
theorem d7_25 : decode jdk_29_method_22_code 25 = .ok (.ldc2_w 91, 3) := by decide +kernel
theorem d7_28 : decode jdk_29_method_22_code 28 = .ok (.land, 1) := by decide +kernel
theorem d7_29 : decode jdk_29_method_22_code 29 = .ok (.lconst 0, 1) := by decide +kernel
theorem d7_30 : decode jdk_29_method_22_code 30 = .ok (.lcmp, 1) := by decide +kernel
theorem d7_31 : decode jdk_29_method_22_code 31 = .ok (.ifCond .ne 36, 3) := by decide +kernel
theorem d7_67 : decode jdk_29_method_22_code 67 = .ok (.dload_n 0, 1) := by decide +kernel
theorem d7_68 : decode jdk_29_method_22_code 68 = .ok (.d2l, 1) := by decide +kernel
theorem d7_69 : decode jdk_29_method_22_code 69 = .ok (.lreturn, 1) := by decide +kernel
theorem d7_34 : decode jdk_29_method_22_code 34 = .ok (.lload_n 2, 1) := by decide +kernel
theorem d7_35 : decode jdk_29_method_22_code 35 = .ok (.ldc2_w 93, 3) := by decide +kernel
theorem d7_38 : decode jdk_29_method_22_code 38 = .ok (.land, 1) := by decide +kernel
theorem d7_39 : decode jdk_29_method_22_code 39 = .ok (.ldc2_w 95, 3) := by decide +kernel
theorem d7_42 : decode jdk_29_method_22_code 42 = .ok (.lor, 1) := by decide +kernel
theorem d7_43 : decode jdk_29_method_22_code 43 = .ok (.lstore 8, 2) := by decide +kernel
theorem d7_45 : decode jdk_29_method_22_code 45 = .ok (.lload_n 2, 1) := by decide +kernel
theorem d7_46 : decode jdk_29_method_22_code 46 = .ok (.lconst 0, 1) := by decide +kernel
theorem d7_47 : decode jdk_29_method_22_code 47 = .ok (.lcmp, 1) := by decide +kernel
theorem d7_48 : decode jdk_29_method_22_code 48 = .ok (.ifCond .ge 8, 3) := by decide +kernel
theorem d7_56 : decode jdk_29_method_22_code 56 = .ok (.lload 8, 2) := by decide +kernel
theorem d7_58 : decode jdk_29_method_22_code 58 = .ok (.lload 6, 2) := by decide +kernel
theorem d7_60 : decode jdk_29_method_22_code 60 = .ok (.l2i, 1) := by decide +kernel
theorem d7_61 : decode jdk_29_method_22_code 61 = .ok (.lshr, 1) := by decide +kernel
theorem d7_62 : decode jdk_29_method_22_code 62 = .ok (.lconst 1, 1) := by decide +kernel
theorem d7_63 : decode jdk_29_method_22_code 63 = .ok (.ladd, 1) := by decide +kernel
theorem d7_64 : decode jdk_29_method_22_code 64 = .ok (.iconst 1, 1) := by decide +kernel
theorem d7_65 : decode jdk_29_method_22_code 65 = .ok (.lshr, 1) := by decide +kernel
theorem d7_66 : decode jdk_29_method_22_code 66 = .ok (.lreturn, 1) := by decide +kernel
set_option maxRecDepth 65536 in
set_option maxHeartbeats 40000000 in
theorem rm7 (l : Launch) (Z : State) (a0 : Array Value) (hw : ∀ d ∈ tables_1, d.before a0 Z = true) (dv : UInt64) (N : Nat) (h0 : Heap) (hp : own_px dv N) :
    Ct l Z (⟨"java/lang/Math", "round", "(D)J"⟩ : MethodName) jdk_29_method_22_code 10 (some .long) ({ frames := 1, cells := 0, slots := 0, locals := 40 } : Room) #[(.double dv)] h0 (QL h0 (fun r => r.toInt = (N + 512 : Nat) / 1024)) := by
  refine own_met (Jvm.Free.JP.mathPlain rfl (by decide +kernel)) (fun m => ef_7 m dv) ?_
  intro p e s m below meth c T0 EF X0 hx hby hml hown hnm hret hlk hZ hF e0
  refine g_dloadN X0 hx hby d7_0 (pc' := 1) rfl rfl ?_
  refine g_d2raw X0 hx hby hZ hown e0 hml rfl (hw _ (List.mem_of_getElem? (i := 55) rfl)) (hw _ (List.mem_of_getElem? (i := 58) rfl)) (hw _ (List.mem_of_getElem? (i := 56) rfl)) (hw _ (List.mem_of_getElem? (i := 57) rfl)) (rest := []) d7_1 (pc' := 4) rfl (by decide) (Nat.le_of_ble_eq_true rfl) (fun Tp1 Xp1 ep1 => ?_)
  refine g_nameL (fun y h_y => ?_)
  have hy : N ≠ 0 → y.toInt = (N.log2 + 1013) * 4503599627370496 + ((N * 2 ^ (52 - N.log2) : Nat) - 4503599627370496) ∧ N.log2 < 42 ∧ 4503599627370496 ≤ N * 2 ^ (52 - N.log2) ∧ N * 2 ^ (52 - N.log2) < 9007199254740992 := fun h0 => by
    obtain ⟨b1, b2, b3, b4⟩ := own_px_bits hp h0
    rw [own_r1 dv y h_y (by omega)]
    exact ⟨by omega, b2, b3, b4⟩
  have hy0 : N = 0 → y = 0 := fun h0 => by
    rcases hp with ⟨-, e⟩ | ⟨e, -⟩
    · rw [h_y, e]; rfl
    · exact absurd h0 e
  have hyp : 0 ≤ y.toInt := by
    by_cases q : N = 0
    · rw [hy0 q]; decide
    · obtain ⟨b1, b2, b3, b4⟩ := hy q; omega
  refine g_lstoreN Xp1 hx hby d7_4 (pc' := 5) rfl (Ls' := #[.val (.double dv), .second, .val (.long y), .second, .unset, .unset, .unset, .unset, .unset, .unset]) rfl ?_
  refine g_lloadN Xp1 hx hby d7_5 (pc' := 6) rfl rfl ?_
  refine g_ldcL Xp1 hx hby hZ hown (hw _ (List.mem_of_getElem? (i := 59) rfl)) d7_6 (pc' := 9) rfl ?_
  refine g_land Xp1 hx hby d7_9 (pc' := 10) rfl ?_
  refine g_bipush Xp1 hx hby d7_10 (pc' := 12) rfl (n := (52 : Int32)) (by first | rfl | decide) ?_
  refine g_lshr Xp1 hx hby d7_12 (pc' := 13) rfl ?_
  refine g_nameL (fun be h_be => ?_)
  have f_be := own_be y be hyp h_be
  refine g_lstore Xp1 hx hby d7_13 (pc' := 15) rfl (Ls' := #[.val (.double dv), .second, .val (.long y), .second, .val (.long be), .second, .unset, .unset, .unset, .unset]) rfl ?_
  refine g_ldcL Xp1 hx hby hZ hown (hw _ (List.mem_of_getElem? (i := 60) rfl)) d7_15 (pc' := 18) rfl ?_
  refine g_lload Xp1 hx hby d7_18 (pc' := 20) rfl rfl ?_
  refine g_lsub Xp1 hx hby d7_20 (pc' := 21) rfl ?_
  refine g_nameL (fun sh h_sh => ?_)
  have f_sh := own_lsub 1074 be (by have e : (1074 : Int64).toInt = 1074 := rfl; have := Int64.toInt_lt y; omega) (by have e : (1074 : Int64).toInt = 1074 := rfl; have := Int64.toInt_lt y; omega)
  rw [← h_sh] at f_sh
  replace f_sh : sh.toInt = 1074 - be.toInt := f_sh
  refine g_lstore Xp1 hx hby d7_21 (pc' := 23) rfl (Ls' := #[.val (.double dv), .second, .val (.long y), .second, .val (.long be), .second, .val (.long sh), .second, .unset, .unset]) rfl ?_
  refine g_lload Xp1 hx hby d7_23 (pc' := 25) rfl rfl ?_
  refine g_ldcL Xp1 hx hby hZ hown (hw _ (List.mem_of_getElem? (i := 61) rfl)) d7_25 (pc' := 28) rfl ?_
  refine g_land Xp1 hx hby d7_28 (pc' := 29) rfl ?_
  refine g_lconst Xp1 hx hby d7_29 (pc' := 30) rfl (n := (0 : Int64)) (by first | rfl | decide) ?_
  refine g_lcmpne Xp1 hx hby d7_30 (pc' := 31) rfl d7_31 (pt := 67) (pf := 34) (by decide) (by decide) rfl (fun (h31 : ¬ (sh &&& (-64 : Int64)) = (0 : Int64)) => ?_) (fun (h31 : (sh &&& (-64 : Int64)) = (0 : Int64)) => ?_)
  · have h31i : ¬ (sh &&& (-64 : Int64)).toInt = 0 := fun q => h31 (Int64.toInt_inj.mp q)
    refine g_dloadN Xp1 hx hby d7_67 (pc' := 68) rfl rfl ?_
    refine g_d2l Xp1 hx hby d7_68 (pc' := 69) rfl ?_
    exact g_retL Xp1 hx hby hF (Nat.zero_le _) hlk hret d7_69 (by decide) (by decide) (⟨⟨_, rfl, by
          have q : N = 0 := Decidable.byContradiction fun q => by
            obtain ⟨b1, b2, b3, b4⟩ := hy q
            exact h31 (by
              have e1 : sh = Int64.ofNat (61 - N.log2) := Int64.toInt_inj.mp (by rw [own_i64 _ (by omega)]; omega)
              have all : ∀ k : Fin 64, Int64.ofNat k.val &&& (-64) = 0 := by decide +kernel
              rw [e1]; exact all ⟨61 - N.log2, by omega⟩)
          rcases hp with ⟨-, e⟩ | ⟨e, -⟩
          · subst q; rw [e]; decide +kernel
          · exact absurd q e⟩, ep1, rfl⟩)
  · have h31i : (sh &&& (-64 : Int64)).toInt = 0 := congrArg Int64.toInt h31
    refine g_lloadN Xp1 hx hby d7_34 (pc' := 35) rfl rfl ?_
    refine g_ldcL Xp1 hx hby hZ hown (hw _ (List.mem_of_getElem? (i := 62) rfl)) d7_35 (pc' := 38) rfl ?_
    refine g_land Xp1 hx hby d7_38 (pc' := 39) rfl ?_
    refine g_nameL (fun ra h_ra => ?_)
    have f_ra := own_andm y hyp
    rw [← h_ra] at f_ra
    refine g_ldcL Xp1 hx hby hZ hown (hw _ (List.mem_of_getElem? (i := 63) rfl)) d7_39 (pc' := 42) rfl ?_
    refine g_lor Xp1 hx hby d7_42 (pc' := 43) rfl ?_
    refine g_nameL (fun rb h_rb => ?_)
    have f_r := own_orm ra rb (by omega) (by omega) h_rb
    rw [f_ra] at f_r
    refine g_lstore Xp1 hx hby d7_43 (pc' := 45) rfl (Ls' := #[.val (.double dv), .second, .val (.long y), .second, .val (.long be), .second, .val (.long sh), .second, .val (.long rb), .second]) rfl ?_
    refine g_lloadN Xp1 hx hby d7_45 (pc' := 46) rfl rfl ?_
    refine g_lconst Xp1 hx hby d7_46 (pc' := 47) rfl (n := (0 : Int64)) (by first | rfl | decide) ?_
    refine g_lcmpge Xp1 hx hby d7_47 (pc' := 48) rfl d7_48 (pt := 56) (pf := 51) (by decide) (by decide) rfl (fun (h48 : 0 ≤ y.toInt) => ?_) (fun (h48 : y.toInt < 0) => (by exfalso; have e : (0 : Int64).toInt = 0 := rfl; omega))
    refine g_lload Xp1 hx hby d7_56 (pc' := 58) rfl rfl ?_
    refine g_lload Xp1 hx hby d7_58 (pc' := 60) rfl rfl ?_
    refine g_l2i Xp1 hx hby d7_60 (pc' := 61) rfl ?_
    refine g_nameI (fun si h_si => ?_)
    have q : N ≠ 0 := fun q => by
      rw [hy0 q] at f_be
      have e : (0 : Int64).toInt = 0 := rfl
      rw [e] at f_be
      have e1 : sh = 1074 := Int64.toInt_inj.mp (by rw [f_sh, f_be]; rfl)
      rw [e1] at h31; revert h31; decide
    obtain ⟨b1, b2, b3, b4⟩ := hy q
    have f_si := own_l2i sh (by omega)
    rw [← h_si] at f_si
    refine g_lshr Xp1 hx hby d7_61 (pc' := 62) rfl ?_
    refine g_nameL (fun rs h_rs => ?_)
    have f_rs := own_shr rb rs si (61 - N.log2) (by omega) (by omega) h_rs
    have p_rs : 0 ≤ rs.toInt ∧ rs.toInt ≤ rb.toInt := by rw [f_rs]; exact ⟨Int.ediv_nonneg (by omega) (Int.natCast_nonneg _), Int.ediv_le_self _ (by omega)⟩
    refine g_lconst Xp1 hx hby d7_62 (pc' := 63) rfl (n := (1 : Int64)) (by first | rfl | decide) ?_
    refine g_ladd Xp1 hx hby d7_63 (pc' := 64) rfl ?_
    refine g_nameL (fun r1 h_r1 => ?_)
    have f_r1 := own_ladd1 rs (by omega)
    rw [← h_r1] at f_r1
    refine g_iconst Xp1 hx hby d7_64 (pc' := 65) rfl (n := (1 : Int32)) (by first | rfl | decide) ?_
    refine g_lshr Xp1 hx hby d7_65 (pc' := 66) rfl ?_
    refine g_nameL (fun rz h_rz => ?_)
    have f_rz := own_shr r1 rz 1 1 rfl (by decide) h_rz
    exact g_retL Xp1 hx hby hF (Nat.zero_le _) hlk hret d7_66 (by decide) (by decide) (⟨⟨_, rfl, by
          show rz.toInt = _
          rw [f_rz, f_r1, f_rs, f_r]
          rw [show y.toInt % 4503599627370496 = ((N * 2 ^ (52 - N.log2) : Nat) : Int) - 4503599627370496 by omega, show (4503599627370496 : Int) + (((N * 2 ^ (52 - N.log2) : Nat) : Int) - 4503599627370496) = ((N * 2 ^ (52 - N.log2) : Nat) : Int) by omega]
          have hh := own_half N N.log2 b2
          have h2 : (((N * 2 ^ (52 - N.log2)) : Nat) : Int) / ((2 ^ (61 - N.log2) : Nat) : Int) = ((N * 2 ^ (52 - N.log2) / 2 ^ (61 - N.log2) : Nat) : Int) := (Int.natCast_ediv _ _).symm
          rw [h2]
          omega⟩, ep1, rfl⟩)
theorem ef_6 (m : MethodId) (o : Addr) : entryFrame m #[(.ref o)] 1 = mkF m 0 #[.val (.ref o)] [] := by first | (simp [entryFrame, mkF, argsToLocals, Value.category]; done) | rfl
theorem pn_6 : plainName "com/example/ergorota/ergorota/engine/SearchSettings" = true := by first | (simp [plainName, overriddenIn]; done) | decide +kernel
theorem d6_0 : decode prog_29_method_9_code 0 = .ok (.aload_n 0, 1) := by decide +kernel
theorem d6_1 : decode prog_29_method_9_code 1 = .ok (.getfield 15, 3) := by decide +kernel
theorem d6_4 : decode prog_29_method_9_code 4 = .ok (.i2d, 1) := by decide +kernel
theorem d6_5 : decode prog_29_method_9_code 5 = .ok (.aload_n 0, 1) := by decide +kernel
theorem d6_6 : decode prog_29_method_9_code 6 = .ok (.getfield 28, 3) := by decide +kernel
theorem d6_9 : decode prog_29_method_9_code 9 = .ok (.dmul, 1) := by decide +kernel
theorem d6_10 : decode prog_29_method_9_code 10 = .ok (.invokestatic 64, 3) := by decide +kernel
theorem pd__D_J_223 : parseMethodDescriptor "(D)J" = some ⟨[.double], some .long⟩ := by decide +kernel
theorem d6_13 : decode prog_29_method_9_code 13 = .ok (.l2i, 1) := by decide +kernel
theorem d6_14 : decode prog_29_method_9_code 14 = .ok (.ireturn, 1) := by decide +kernel
set_option maxRecDepth 65536 in
set_option maxHeartbeats 40000000 in
theorem rm6 (l : Launch) (Z : State) (a0 : Array Value) (hw : ∀ d ∈ tables_1, d.before a0 Z = true) (o : Addr) (up : Int32) (dv : UInt64) (N : Nat) (h0 : Heap) (F1 : Fld Z h0 o "com/example/ergorota/ergorota/engine/SearchSettings" "population" "I" (.int up)) (F2 : Fld Z h0 o "com/example/ergorota/ergorota/engine/SearchSettings" "crossover" "D" (.double dv)) (hnn : FP.dmul (FP.i2d up) dv &&& 0x7fffffffffffffff ≤ 0x7ff0000000000000) (hp : own_px (FP.dmul (FP.i2d up) dv) N) (hN : N ≤ 2199023254528) :
    Ct l Z (⟨"com/example/ergorota/ergorota/engine/SearchSettings", "children", "()I"⟩ : MethodName) prog_29_method_9_code 1 (some .int) ({ frames := 2, cells := 0, slots := 0, locals := 80 } : Room) #[(.ref o)] h0 (QI h0 (fun r => r.toInt = (N + 512 : Nat) / 1024)) := by
  refine own_met (plainFor_of_name pn_6) (fun m => ef_6 m o) ?_
  intro p e s m below meth c T0 EF X0 hx hby hml hown hnm hret hlk hZ hF e0
  refine g_aloadN X0 hx hby d6_0 (pc' := 1) rfl rfl rfl ?_
  refine g_getF X0 hx hby hZ hown e0 (hw _ (List.mem_of_getElem? (i := 27) rfl)) F1 d6_1 (pc' := 4) rfl (fun T1 X1 e1 => ?_)
  refine g_i2d X1 hx hby d6_4 (pc' := 5) rfl ?_
  refine g_aloadN X1 hx hby d6_5 (pc' := 6) rfl rfl rfl ?_
  refine g_getF X1 hx hby hZ hown e1 (hw _ (List.mem_of_getElem? (i := 36) rfl)) F2 d6_6 (pc' := 9) rfl (fun T2 X2 e2 => ?_)
  refine g_dmul X2 hx hby d6_9 (pc' := 10) rfl hnn ?_
  refine g_static X2 hx hby hZ hown hml rfl (hw _ (List.mem_of_getElem? (i := 52) rfl)) (hw _ (List.mem_of_getElem? (i := 53) rfl)) (hw _ (List.mem_of_getElem? (i := 3) rfl)) (hw _ (List.mem_of_getElem? (i := 54) rfl)) (by decide) e2 (rm7 l Z a0 hw (FP.dmul (FP.i2d up) dv) N h0 hp) pd__D_J_223 (argsL := [(.double (FP.dmul (FP.i2d up) dv))]) (rest := []) rfl rfl rfl d6_10 (pc' := 13) rfl (by decide) (Nat.le_of_ble_eq_true rfl) (by decide) (by decide) ?_
  intro Tp10 vp10 Lp10 Xp10 qp10
  obtain ⟨⟨rp10, rfl, h_rp10⟩, ep10, rfl⟩ := qp10
  rw [List.append_nil] at Xp10
  replace Xp10 : Stand p l e ({ frames := 2, cells := 0, slots := 0, locals := 80 } : Room) s m _ below meth c Tp10 _ 0 0 := Xp10
  show Go p e below EF (QI h0 (fun r => r.toInt = (N + 512 : Nat) / 1024)) m Tp10 13 #[.val (.ref o)] [(.long rp10)]
  refine g_l2i Xp10 hx hby d6_13 (pc' := 14) rfl ?_
  exact g_retI Xp10 hx hby hF (Nat.zero_le _) hlk hret d6_14 (by decide) (by decide) (⟨⟨_, rfl, by show (rp10.toInt32).toInt = _; rw [own_l2i rp10 (by omega)]; exact h_rp10⟩, ep10, rfl⟩)
def QSs (Z : State) (n0 : Nat) (h0 : Heap) (o : Addr) (up : Int32) (dv : UInt64) : Option Value → Heap → List Loc → Prop := fun v h L => v = none ∧ Fr n0 L ∧ Exa Z h o "com/example/ergorota/ergorota/engine/SearchSettings" ∧ Fld Z h o "com/example/ergorota/ergorota/engine/SearchSettings" "population" "I" (.int up) ∧ Fld Z h o "com/example/ergorota/ergorota/engine/SearchSettings" "crossover" "D" (.double dv) ∧ Keep h0 h [o]
theorem ef_2 (m : MethodId) (o : Addr) (up : Int32) (ue : Int32) (dv : UInt64) (dw : UInt64) (ui : Int32) (ug : Int32) : entryFrame m #[(.ref o), (.int up), (.int ue), (.double dv), (.double dw), (.int ui), (.int ug)] 9 = mkF m 0 #[.val (.ref o), .val (.int up), .val (.int ue), .val (.double dv), .second, .val (.double dw), .second, .val (.int ui), .val (.int ug)] [] := by first | (simp [entryFrame, mkF, argsToLocals, Value.category]; done) | rfl
theorem pn_2 : plainName "com/example/ergorota/ergorota/engine/SearchSettings" = true := by first | (simp [plainName, overriddenIn]; done) | decide +kernel
theorem d2_0 : decode prog_29_method_1_code 0 = .ok (.aload_n 0, 1) := by decide +kernel
theorem d2_1 : decode prog_29_method_1_code 1 = .ok (.invokespecial 1, 3) := by decide +kernel
theorem d2_4 : decode prog_29_method_1_code 4 = .ok (.aload_n 0, 1) := by decide +kernel
theorem d2_5 : decode prog_29_method_1_code 5 = .ok (.ldc 7, 2) := by decide +kernel
theorem own_wS {a0 : Array Value} {Z : State} (hw : ∀ d ∈ tables_1, d.before a0 Z = true) : ∀ a ∈ Bundle.stringAtoms, a.before a0 Z = true := fun a ha => by
  simp only [Bundle.stringAtoms, List.mem_cons, List.not_mem_nil, or_false] at ha
  rcases ha with rfl | rfl | rfl | rfl | rfl | rfl | rfl
  · exact (hw _ (List.mem_of_getElem? (i := 17) rfl))
  · exact (hw _ (List.mem_of_getElem? (i := 18) rfl))
  · exact (hw _ (List.mem_of_getElem? (i := 19) rfl))
  · exact (hw _ (List.mem_of_getElem? (i := 20) rfl))
  · exact (hw _ (List.mem_of_getElem? (i := 21) rfl))
  · exact (hw _ (List.mem_of_getElem? (i := 22) rfl))
  · exact (hw _ (List.mem_of_getElem? (i := 23) rfl))
theorem d2_7 : decode prog_29_method_1_code 7 = .ok (.iload_n 1, 1) := by decide +kernel
theorem d2_8 : decode prog_29_method_1_code 8 = .ok (.iconst 1, 1) := by decide +kernel
theorem d2_9 : decode prog_29_method_1_code 9 = .ok (.invokestatic 9, 3) := by decide +kernel
theorem pd__Ljava_lang_String_II_I_996 : parseMethodDescriptor "(Ljava/lang/String;II)I" = some ⟨[(.object "java/lang/String"), .int, .int], some .int⟩ := by decide +kernel
theorem d2_12 : decode prog_29_method_1_code 12 = .ok (.putfield 15, 3) := by decide +kernel
theorem d2_15 : decode prog_29_method_1_code 15 = .ok (.aload_n 0, 1) := by decide +kernel
theorem d2_16 : decode prog_29_method_1_code 16 = .ok (.ldc 18, 2) := by decide +kernel
theorem d2_18 : decode prog_29_method_1_code 18 = .ok (.iload_n 2, 1) := by decide +kernel
theorem d2_19 : decode prog_29_method_1_code 19 = .ok (.iconst 0, 1) := by decide +kernel
theorem d2_20 : decode prog_29_method_1_code 20 = .ok (.invokestatic 9, 3) := by decide +kernel
theorem d2_23 : decode prog_29_method_1_code 23 = .ok (.putfield 20, 3) := by decide +kernel
theorem d2_26 : decode prog_29_method_1_code 26 = .ok (.aload_n 0, 1) := by decide +kernel
theorem d2_27 : decode prog_29_method_1_code 27 = .ok (.ldc 22, 2) := by decide +kernel
theorem d2_29 : decode prog_29_method_1_code 29 = .ok (.dload_n 3, 1) := by decide +kernel
theorem d2_30 : decode prog_29_method_1_code 30 = .ok (.invokestatic 24, 3) := by decide +kernel
theorem pd__Ljava_lang_String_D_D_913 : parseMethodDescriptor "(Ljava/lang/String;D)D" = some ⟨[(.object "java/lang/String"), .double], some .double⟩ := by decide +kernel
theorem d2_33 : decode prog_29_method_1_code 33 = .ok (.putfield 28, 3) := by decide +kernel
theorem d2_36 : decode prog_29_method_1_code 36 = .ok (.aload_n 0, 1) := by decide +kernel
theorem d2_37 : decode prog_29_method_1_code 37 = .ok (.ldc 31, 2) := by decide +kernel
theorem d2_39 : decode prog_29_method_1_code 39 = .ok (.dload 5, 2) := by decide +kernel
theorem d2_41 : decode prog_29_method_1_code 41 = .ok (.invokestatic 24, 3) := by decide +kernel
theorem d2_44 : decode prog_29_method_1_code 44 = .ok (.putfield 33, 3) := by decide +kernel
theorem d2_47 : decode prog_29_method_1_code 47 = .ok (.aload_n 0, 1) := by decide +kernel
theorem d2_48 : decode prog_29_method_1_code 48 = .ok (.ldc 35, 2) := by decide +kernel
theorem d2_50 : decode prog_29_method_1_code 50 = .ok (.iload 7, 2) := by decide +kernel
theorem d2_52 : decode prog_29_method_1_code 52 = .ok (.iconst 0, 1) := by decide +kernel
theorem d2_53 : decode prog_29_method_1_code 53 = .ok (.invokestatic 9, 3) := by decide +kernel
theorem d2_56 : decode prog_29_method_1_code 56 = .ok (.putfield 37, 3) := by decide +kernel
theorem d2_59 : decode prog_29_method_1_code 59 = .ok (.aload_n 0, 1) := by decide +kernel
theorem d2_60 : decode prog_29_method_1_code 60 = .ok (.ldc 40, 2) := by decide +kernel
theorem d2_62 : decode prog_29_method_1_code 62 = .ok (.iload 8, 2) := by decide +kernel
theorem d2_64 : decode prog_29_method_1_code 64 = .ok (.iconst 1, 1) := by decide +kernel
theorem d2_65 : decode prog_29_method_1_code 65 = .ok (.invokestatic 9, 3) := by decide +kernel
theorem d2_68 : decode prog_29_method_1_code 68 = .ok (.putfield 42, 3) := by decide +kernel
theorem d2_71 : decode prog_29_method_1_code 71 = .ok (.iload_n 2, 1) := by decide +kernel
theorem d2_72 : decode prog_29_method_1_code 72 = .ok (.aload_n 0, 1) := by decide +kernel
theorem d2_73 : decode prog_29_method_1_code 73 = .ok (.invokevirtual 44, 3) := by decide +kernel
theorem pd___I_154 : parseMethodDescriptor "()I" = some ⟨[], some .int⟩ := by decide +kernel
theorem d2_76 : decode prog_29_method_1_code 76 = .ok (.iadd, 1) := by decide +kernel
theorem d2_77 : decode prog_29_method_1_code 77 = .ok (.iload_n 1, 1) := by decide +kernel
theorem d2_78 : decode prog_29_method_1_code 78 = .ok (.if_icmp .le 22, 3) := by decide +kernel
theorem d2_100 : decode prog_29_method_1_code 100 = .ok (.return_, 1) := by decide +kernel
set_option maxRecDepth 65536 in
set_option maxHeartbeats 40000000 in
theorem rm2 (l : Launch) (Z : State) (a0 : Array Value) (hw : ∀ d ∈ tables_1, d.before a0 Z = true) (o : Addr) (up : Int32) (ue : Int32) (dv : UInt64) (dw : UInt64) (ui : Int32) (ug : Int32) (n0 : Nat) (N : Nat) (h0 : Heap) (Z0 : n0 ≤ h0.size) (g_o : n0 ≤ o) (E_o : Exa Z h0 o "com/example/ergorota/ergorota/engine/SearchSettings") (F_population : Fld Z h0 o "com/example/ergorota/ergorota/engine/SearchSettings" "population" "I" (.int (0 : Int32))) (F_elite : Fld Z h0 o "com/example/ergorota/ergorota/engine/SearchSettings" "elite" "I" (.int (0 : Int32))) (F_crossover : Fld Z h0 o "com/example/ergorota/ergorota/engine/SearchSettings" "crossover" "D" (.double 0)) (F_mutation : Fld Z h0 o "com/example/ergorota/ergorota/engine/SearchSettings" "mutation" "D" (.double 0)) (F_mutationIntensity : Fld Z h0 o "com/example/ergorota/ergorota/engine/SearchSettings" "mutationIntensity" "I" (.int (0 : Int32))) (F_generations : Fld Z h0 o "com/example/ergorota/ergorota/engine/SearchSettings" "generations" "I" (.int (0 : Int32))) (hup : 1 ≤ up.toInt) (hue : 0 ≤ ue.toInt) (hdv : 0 ≤ (Op.cmpValue (FP.dcmp dv 0) .l).toInt ∧ (Op.cmpValue (FP.dcmp dv 0x3ff0000000000000) .g).toInt ≤ 0) (hdw : 0 ≤ (Op.cmpValue (FP.dcmp dw 0) .l).toInt ∧ (Op.cmpValue (FP.dcmp dw 0x3ff0000000000000) .g).toInt ≤ 0) (hui : 0 ≤ ui.toInt) (hug : 1 ≤ ug.toInt) (hnn : FP.dmul (FP.i2d up) dv &&& 0x7fffffffffffffff ≤ 0x7ff0000000000000) (hp : own_px (FP.dmul (FP.i2d up) dv) N) (hN : N ≤ 2199023254528) (hsum : ue.toInt + ((N + 512 : Nat) / 1024 : Int) ≤ up.toInt) :
    CtW l Z (⟨"com/example/ergorota/ergorota/engine/SearchSettings", "<init>", "(IIDDII)V"⟩ : MethodName) prog_29_method_1_code 9 none ({ frames := 4, cells := 12, slots := 268, locals := 120 } : Room) #[(.ref o), (.int up), (.int ue), (.double dv), (.double dw), (.int ui), (.int ug)] h0 (QSs Z n0 h0 o up dv) := by
  refine own_metW (plainFor_of_name pn_2) (fun m => ef_2 m o up ue dv dw ui ug) ?_
  intro p e s m below meth c T0 EF X0 hx hby hml hown hnm hret hlk hZ hF e0
  have N0 := Fr.nil n0
  refine g_aloadN X0 hx hby d2_0 (pc' := 1) rfl rfl rfl ?_
  refine g_initO X0 hx hby hZ hown e0 (hw _ (List.mem_of_getElem? (i := 13) rfl)) (hw _ (List.mem_of_getElem? (i := 14) rfl)) (hw _ (List.mem_of_getElem? (i := 15) rfl)) hml rfl d2_1 (pc' := 4) rfl (by decide) (Nat.le_of_ble_eq_true rfl) (fun Tp1 Xp1 ep1 => ?_)
  refine g_aloadN Xp1 hx hby d2_4 (pc' := 5) rfl rfl rfl ?_
  refine g_ldcS Xp1 hx hby hZ hown ep1 hF (Nat.zero_le _) (hw _ (List.mem_of_getElem? (i := 16) rfl)) (own_wS hw) d2_5 (pc' := 7) rfl (n := 40) (by decide) (by decide) (by decide) (by decide) (fun s T1 h1 sl1 k1 X1 hZ hown hF kz1 e1 E1 => ?_)
  replace F_population := F_population.ext E1
  replace F_elite := F_elite.ext E1
  replace F_crossover := F_crossover.ext E1
  replace F_mutation := F_mutation.ext E1
  replace F_mutationIntensity := F_mutationIntensity.ext E1
  replace F_generations := F_generations.ext E1
  replace E_o := E_o.ext E1
  have Z2 : n0 ≤ h1.size := Nat.le_trans Z0 E1.1
  have K3 := (Keep.refl h0 [o]).ext E1
  replace X1 : Stand p l e ({ frames := 4, cells := 12, slots := 268, locals := 120 } : Room) s m _ below meth c T1 _ 2 44 := X1
  refine g_iloadN X1 hx hby d2_7 (pc' := 8) rfl rfl ?_
  refine g_iconst X1 hx hby d2_8 (pc' := 9) rfl (n := (1 : Int32)) (by first | rfl | decide) ?_
  refine g_static X1 hx hby hZ hown hml rfl (hw _ (List.mem_of_getElem? (i := 24) rfl)) (hw _ (List.mem_of_getElem? (i := 25) rfl)) (hw _ (List.mem_of_getElem? (i := 9) rfl)) (hw _ (List.mem_of_getElem? (i := 26) rfl)) (by decide) e1 (rm4 l Z a0 hw sl1 up (1 : Int32) h1 (show (1 : Int) ≤ up.toInt from hup)) pd__Ljava_lang_String_II_I_996 (argsL := [(.ref sl1), (.int up), (.int (1 : Int32))]) (rest := [(.ref o)]) rfl rfl rfl d2_9 (pc' := 12) rfl (by decide) (Nat.le_of_ble_eq_true rfl) (by decide) (by decide) ?_
  intro Tp9 vp9 Lp9 Xp9 qp9
  obtain ⟨⟨rp9, rfl, h_rp9⟩, ep9, rfl⟩ := qp9
  replace h_rp9 := h_rp9.symm
  subst h_rp9
  rw [List.append_nil] at Xp9
  replace Xp9 : Stand p l e ({ frames := 4, cells := 12, slots := 268, locals := 120 } : Room) s m _ below meth c Tp9 _ 2 44 := Xp9
  show Go p e below EF (QSs Z n0 h0 o up dv) m Tp9 12 #[.val (.ref o), .val (.int up), .val (.int ue), .val (.double dv), .second, .val (.double dw), .second, .val (.int ui), .val (.int ug)] [(.int up), (.ref o)]
  refine g_putF Xp9 hx hby hZ hown ep9 (hw _ (List.mem_of_getElem? (i := 27) rfl)) F_population E_o (Or.inr ⟨(hw _ (List.mem_of_getElem? (i := 28) rfl)), rfl, hnm⟩) (hw _ (List.mem_of_getElem? (i := 8) rfl)) (ty := .int) (by decide) rfl rfl d2_12 (pc' := 15) rfl (fun T4 h4 X4 e4 W4 => ?_)
  replace F_population := F_population.same W4
  replace F_elite := F_elite.other W4 (Or.inr (slot_ne (Or.inr (hw _ (List.mem_of_getElem? (i := 31) rfl))) (Or.inr (hw _ (List.mem_of_getElem? (i := 28) rfl))) (by decide) (t := .int) (t' := .int) (by decide) (by decide)))
  replace F_crossover := F_crossover.other W4 (Or.inr (slot_ne (Or.inr (hw _ (List.mem_of_getElem? (i := 37) rfl))) (Or.inr (hw _ (List.mem_of_getElem? (i := 28) rfl))) (by decide) (t := .double) (t' := .int) (by decide) (by decide)))
  replace F_mutation := F_mutation.other W4 (Or.inr (slot_ne (Or.inr (hw _ (List.mem_of_getElem? (i := 40) rfl))) (Or.inr (hw _ (List.mem_of_getElem? (i := 28) rfl))) (by decide) (t := .double) (t' := .int) (by decide) (by decide)))
  replace F_mutationIntensity := F_mutationIntensity.other W4 (Or.inr (slot_ne (Or.inr (hw _ (List.mem_of_getElem? (i := 43) rfl))) (Or.inr (hw _ (List.mem_of_getElem? (i := 28) rfl))) (by decide) (t := .int) (t' := .int) (by decide) (by decide)))
  replace F_generations := F_generations.other W4 (Or.inr (slot_ne (Or.inr (hw _ (List.mem_of_getElem? (i := 46) rfl))) (Or.inr (hw _ (List.mem_of_getElem? (i := 28) rfl))) (by decide) (t := .int) (t' := .int) (by decide) (by decide)))
  replace E_o := E_o.wr W4
  have Z5 : n0 ≤ h4.size := by rw [W4.size]; exact Z2
  have kz6 := Nat.le_trans kz1 (Nat.le_of_eq W4.size.symm)
  have K7 := K3.wr W4 (Or.inl (List.mem_of_getElem? (i := 0) rfl))
  have N8 := Fr.snoc X4 N0 g_o
  refine g_aloadN X4 hx hby d2_15 (pc' := 16) rfl rfl rfl ?_
  refine g_ldcS X4 hx hby hZ hown e4 hF kz6 (hw _ (List.mem_of_getElem? (i := 29) rfl)) (own_wS hw) d2_16 (pc' := 18) rfl (n := 20) (by decide) (by decide) (by decide) (by decide) (fun s T9 h9 sl9 k9 X9 hZ hown hF kz9 e9 E9 => ?_)
  replace F_population := F_population.ext E9
  replace F_elite := F_elite.ext E9
  replace F_crossover := F_crossover.ext E9
  replace F_mutation := F_mutation.ext E9
  replace F_mutationIntensity := F_mutationIntensity.ext E9
  replace F_generations := F_generations.ext E9
  replace E_o := E_o.ext E9
  have Z10 : n0 ≤ h9.size := Nat.le_trans Z5 E9.1
  have K11 := K7.ext E9
  replace X9 : Stand p l e ({ frames := 4, cells := 12, slots := 268, locals := 120 } : Room) s m _ below meth c T9 _ 4 68 := X9
  refine g_iloadN X9 hx hby d2_18 (pc' := 19) rfl rfl ?_
  refine g_iconst X9 hx hby d2_19 (pc' := 20) rfl (n := (0 : Int32)) (by first | rfl | decide) ?_
  refine g_static X9 hx hby hZ hown hml rfl (hw _ (List.mem_of_getElem? (i := 24) rfl)) (hw _ (List.mem_of_getElem? (i := 25) rfl)) (hw _ (List.mem_of_getElem? (i := 9) rfl)) (hw _ (List.mem_of_getElem? (i := 26) rfl)) (by decide) e9 (rm4 l Z a0 hw sl9 ue (0 : Int32) h9 (show (0 : Int) ≤ ue.toInt from hue)) pd__Ljava_lang_String_II_I_996 (argsL := [(.ref sl9), (.int ue), (.int (0 : Int32))]) (rest := [(.ref o)]) rfl rfl rfl d2_20 (pc' := 23) rfl (by decide) (Nat.le_of_ble_eq_true rfl) (by decide) (by decide) ?_
  intro Tp20 vp20 Lp20 Xp20 qp20
  obtain ⟨⟨rp20, rfl, h_rp20⟩, ep20, rfl⟩ := qp20
  replace h_rp20 := h_rp20.symm
  subst h_rp20
  rw [List.append_nil] at Xp20
  replace Xp20 : Stand p l e ({ frames := 4, cells := 12, slots := 268, locals := 120 } : Room) s m _ below meth c Tp20 _ 4 68 := Xp20
  show Go p e below EF (QSs Z n0 h0 o up dv) m Tp20 23 #[.val (.ref o), .val (.int up), .val (.int ue), .val (.double dv), .second, .val (.double dw), .second, .val (.int ui), .val (.int ug)] [(.int ue), (.ref o)]
  refine g_putF Xp20 hx hby hZ hown ep20 (hw _ (List.mem_of_getElem? (i := 30) rfl)) F_elite E_o (Or.inr ⟨(hw _ (List.mem_of_getElem? (i := 31) rfl)), rfl, hnm⟩) (hw _ (List.mem_of_getElem? (i := 8) rfl)) (ty := .int) (by decide) rfl rfl d2_23 (pc' := 26) rfl (fun T12 h12 X12 e12 W12 => ?_)
  replace F_population := F_population.other W12 (Or.inr (slot_ne (Or.inr (hw _ (List.mem_of_getElem? (i := 28) rfl))) (Or.inr (hw _ (List.mem_of_getElem? (i := 31) rfl))) (by decide) (t := .int) (t' := .int) (by decide) (by decide)))
  replace F_elite := F_elite.same W12
  replace F_crossover := F_crossover.other W12 (Or.inr (slot_ne (Or.inr (hw _ (List.mem_of_getElem? (i := 37) rfl))) (Or.inr (hw _ (List.mem_of_getElem? (i := 31) rfl))) (by decide) (t := .double) (t' := .int) (by decide) (by decide)))
  replace F_mutation := F_mutation.other W12 (Or.inr (slot_ne (Or.inr (hw _ (List.mem_of_getElem? (i := 40) rfl))) (Or.inr (hw _ (List.mem_of_getElem? (i := 31) rfl))) (by decide) (t := .double) (t' := .int) (by decide) (by decide)))
  replace F_mutationIntensity := F_mutationIntensity.other W12 (Or.inr (slot_ne (Or.inr (hw _ (List.mem_of_getElem? (i := 43) rfl))) (Or.inr (hw _ (List.mem_of_getElem? (i := 31) rfl))) (by decide) (t := .int) (t' := .int) (by decide) (by decide)))
  replace F_generations := F_generations.other W12 (Or.inr (slot_ne (Or.inr (hw _ (List.mem_of_getElem? (i := 46) rfl))) (Or.inr (hw _ (List.mem_of_getElem? (i := 31) rfl))) (by decide) (t := .int) (t' := .int) (by decide) (by decide)))
  replace E_o := E_o.wr W12
  have Z13 : n0 ≤ h12.size := by rw [W12.size]; exact Z10
  have kz14 := Nat.le_trans kz9 (Nat.le_of_eq W12.size.symm)
  have K15 := K11.wr W12 (Or.inl (List.mem_of_getElem? (i := 0) rfl))
  have N16 := Fr.snoc X12 N8 g_o
  refine g_aloadN X12 hx hby d2_26 (pc' := 27) rfl rfl rfl ?_
  refine g_ldcS X12 hx hby hZ hown e12 hF kz14 (hw _ (List.mem_of_getElem? (i := 32) rfl)) (own_wS hw) d2_27 (pc' := 29) rfl (n := 36) (by decide) (by decide) (by decide) (by decide) (fun s T17 h17 sl17 k17 X17 hZ hown hF kz17 e17 E17 => ?_)
  replace F_population := F_population.ext E17
  replace F_elite := F_elite.ext E17
  replace F_crossover := F_crossover.ext E17
  replace F_mutation := F_mutation.ext E17
  replace F_mutationIntensity := F_mutationIntensity.ext E17
  replace F_generations := F_generations.ext E17
  replace E_o := E_o.ext E17
  have Z18 : n0 ≤ h17.size := Nat.le_trans Z13 E17.1
  have K19 := K15.ext E17
  replace X17 : Stand p l e ({ frames := 4, cells := 12, slots := 268, locals := 120 } : Room) s m _ below meth c T17 _ 6 108 := X17
  refine g_dloadN X17 hx hby d2_29 (pc' := 30) rfl rfl ?_
  refine g_static X17 hx hby hZ hown hml rfl (hw _ (List.mem_of_getElem? (i := 33) rfl)) (hw _ (List.mem_of_getElem? (i := 34) rfl)) (hw _ (List.mem_of_getElem? (i := 9) rfl)) (hw _ (List.mem_of_getElem? (i := 35) rfl)) (by decide) e17 (rm5 l Z a0 hw sl17 dv h17 hdv) pd__Ljava_lang_String_D_D_913 (argsL := [(.ref sl17), (.double dv)]) (rest := [(.ref o)]) rfl rfl rfl d2_30 (pc' := 33) rfl (by decide) (Nat.le_of_ble_eq_true rfl) (by decide) (by decide) ?_
  intro Tp30 vp30 Lp30 Xp30 qp30
  obtain ⟨rfl, ep30, rfl⟩ := qp30
  rw [List.append_nil] at Xp30
  replace Xp30 : Stand p l e ({ frames := 4, cells := 12, slots := 268, locals := 120 } : Room) s m _ below meth c Tp30 _ 6 108 := Xp30
  show Go p e below EF (QSs Z n0 h0 o up dv) m Tp30 33 #[.val (.ref o), .val (.int up), .val (.int ue), .val (.double dv), .second, .val (.double dw), .second, .val (.int ui), .val (.int ug)] [(.double dv), (.ref o)]
  refine g_putF Xp30 hx hby hZ hown ep30 (hw _ (List.mem_of_getElem? (i := 36) rfl)) F_crossover E_o (Or.inr ⟨(hw _ (List.mem_of_getElem? (i := 37) rfl)), rfl, hnm⟩) (hw _ (List.mem_of_getElem? (i := 8) rfl)) (ty := .double) (by decide) rfl rfl d2_33 (pc' := 36) rfl (fun T20 h20 X20 e20 W20 => ?_)
  replace F_population := F_population.other W20 (Or.inr (slot_ne (Or.inr (hw _ (List.mem_of_getElem? (i := 28) rfl))) (Or.inr (hw _ (List.mem_of_getElem? (i := 37) rfl))) (by decide) (t := .int) (t' := .double) (by decide) (by decide)))
  replace F_elite := F_elite.other W20 (Or.inr (slot_ne (Or.inr (hw _ (List.mem_of_getElem? (i := 31) rfl))) (Or.inr (hw _ (List.mem_of_getElem? (i := 37) rfl))) (by decide) (t := .int) (t' := .double) (by decide) (by decide)))
  replace F_crossover := F_crossover.same W20
  replace F_mutation := F_mutation.other W20 (Or.inr (slot_ne (Or.inr (hw _ (List.mem_of_getElem? (i := 40) rfl))) (Or.inr (hw _ (List.mem_of_getElem? (i := 37) rfl))) (by decide) (t := .double) (t' := .double) (by decide) (by decide)))
  replace F_mutationIntensity := F_mutationIntensity.other W20 (Or.inr (slot_ne (Or.inr (hw _ (List.mem_of_getElem? (i := 43) rfl))) (Or.inr (hw _ (List.mem_of_getElem? (i := 37) rfl))) (by decide) (t := .int) (t' := .double) (by decide) (by decide)))
  replace F_generations := F_generations.other W20 (Or.inr (slot_ne (Or.inr (hw _ (List.mem_of_getElem? (i := 46) rfl))) (Or.inr (hw _ (List.mem_of_getElem? (i := 37) rfl))) (by decide) (t := .int) (t' := .double) (by decide) (by decide)))
  replace E_o := E_o.wr W20
  have Z21 : n0 ≤ h20.size := by rw [W20.size]; exact Z18
  have kz22 := Nat.le_trans kz17 (Nat.le_of_eq W20.size.symm)
  have K23 := K19.wr W20 (Or.inl (List.mem_of_getElem? (i := 0) rfl))
  have N24 := Fr.snoc X20 N16 g_o
  refine g_aloadN X20 hx hby d2_36 (pc' := 37) rfl rfl rfl ?_
  refine g_ldcS X20 hx hby hZ hown e20 hF kz22 (hw _ (List.mem_of_getElem? (i := 38) rfl)) (own_wS hw) d2_37 (pc' := 39) rfl (n := 32) (by decide) (by decide) (by decide) (by decide) (fun s T25 h25 sl25 k25 X25 hZ hown hF kz25 e25 E25 => ?_)
  replace F_population := F_population.ext E25
  replace F_elite := F_elite.ext E25
  replace F_crossover := F_crossover.ext E25
  replace F_mutation := F_mutation.ext E25
  replace F_mutationIntensity := F_mutationIntensity.ext E25
  replace F_generations := F_generations.ext E25
  replace E_o := E_o.ext E25
  have Z26 : n0 ≤ h25.size := Nat.le_trans Z21 E25.1
  have K27 := K23.ext E25
  replace X25 : Stand p l e ({ frames := 4, cells := 12, slots := 268, locals := 120 } : Room) s m _ below meth c T25 _ 8 144 := X25
  refine g_dload X25 hx hby d2_39 (pc' := 41) rfl rfl ?_
  refine g_static X25 hx hby hZ hown hml rfl (hw _ (List.mem_of_getElem? (i := 33) rfl)) (hw _ (List.mem_of_getElem? (i := 34) rfl)) (hw _ (List.mem_of_getElem? (i := 9) rfl)) (hw _ (List.mem_of_getElem? (i := 35) rfl)) (by decide) e25 (rm5 l Z a0 hw sl25 dw h25 hdw) pd__Ljava_lang_String_D_D_913 (argsL := [(.ref sl25), (.double dw)]) (rest := [(.ref o)]) rfl rfl rfl d2_41 (pc' := 44) rfl (by decide) (Nat.le_of_ble_eq_true rfl) (by decide) (by decide) ?_
  intro Tp41 vp41 Lp41 Xp41 qp41
  obtain ⟨rfl, ep41, rfl⟩ := qp41
  rw [List.append_nil] at Xp41
  replace Xp41 : Stand p l e ({ frames := 4, cells := 12, slots := 268, locals := 120 } : Room) s m _ below meth c Tp41 _ 8 144 := Xp41
  show Go p e below EF (QSs Z n0 h0 o up dv) m Tp41 44 #[.val (.ref o), .val (.int up), .val (.int ue), .val (.double dv), .second, .val (.double dw), .second, .val (.int ui), .val (.int ug)] [(.double dw), (.ref o)]
  refine g_putF Xp41 hx hby hZ hown ep41 (hw _ (List.mem_of_getElem? (i := 39) rfl)) F_mutation E_o (Or.inr ⟨(hw _ (List.mem_of_getElem? (i := 40) rfl)), rfl, hnm⟩) (hw _ (List.mem_of_getElem? (i := 8) rfl)) (ty := .double) (by decide) rfl rfl d2_44 (pc' := 47) rfl (fun T28 h28 X28 e28 W28 => ?_)
  replace F_population := F_population.other W28 (Or.inr (slot_ne (Or.inr (hw _ (List.mem_of_getElem? (i := 28) rfl))) (Or.inr (hw _ (List.mem_of_getElem? (i := 40) rfl))) (by decide) (t := .int) (t' := .double) (by decide) (by decide)))
  replace F_elite := F_elite.other W28 (Or.inr (slot_ne (Or.inr (hw _ (List.mem_of_getElem? (i := 31) rfl))) (Or.inr (hw _ (List.mem_of_getElem? (i := 40) rfl))) (by decide) (t := .int) (t' := .double) (by decide) (by decide)))
  replace F_crossover := F_crossover.other W28 (Or.inr (slot_ne (Or.inr (hw _ (List.mem_of_getElem? (i := 37) rfl))) (Or.inr (hw _ (List.mem_of_getElem? (i := 40) rfl))) (by decide) (t := .double) (t' := .double) (by decide) (by decide)))
  replace F_mutation := F_mutation.same W28
  replace F_mutationIntensity := F_mutationIntensity.other W28 (Or.inr (slot_ne (Or.inr (hw _ (List.mem_of_getElem? (i := 43) rfl))) (Or.inr (hw _ (List.mem_of_getElem? (i := 40) rfl))) (by decide) (t := .int) (t' := .double) (by decide) (by decide)))
  replace F_generations := F_generations.other W28 (Or.inr (slot_ne (Or.inr (hw _ (List.mem_of_getElem? (i := 46) rfl))) (Or.inr (hw _ (List.mem_of_getElem? (i := 40) rfl))) (by decide) (t := .int) (t' := .double) (by decide) (by decide)))
  replace E_o := E_o.wr W28
  have Z29 : n0 ≤ h28.size := by rw [W28.size]; exact Z26
  have kz30 := Nat.le_trans kz25 (Nat.le_of_eq W28.size.symm)
  have K31 := K27.wr W28 (Or.inl (List.mem_of_getElem? (i := 0) rfl))
  have N32 := Fr.snoc X28 N24 g_o
  refine g_aloadN X28 hx hby d2_47 (pc' := 48) rfl rfl rfl ?_
  refine g_ldcS X28 hx hby hZ hown e28 hF kz30 (hw _ (List.mem_of_getElem? (i := 41) rfl)) (own_wS hw) d2_48 (pc' := 50) rfl (n := 72) (by decide) (by decide) (by decide) (by decide) (fun s T33 h33 sl33 k33 X33 hZ hown hF kz33 e33 E33 => ?_)
  replace F_population := F_population.ext E33
  replace F_elite := F_elite.ext E33
  replace F_crossover := F_crossover.ext E33
  replace F_mutation := F_mutation.ext E33
  replace F_mutationIntensity := F_mutationIntensity.ext E33
  replace F_generations := F_generations.ext E33
  replace E_o := E_o.ext E33
  have Z34 : n0 ≤ h33.size := Nat.le_trans Z29 E33.1
  have K35 := K31.ext E33
  replace X33 : Stand p l e ({ frames := 4, cells := 12, slots := 268, locals := 120 } : Room) s m _ below meth c T33 _ 10 220 := X33
  refine g_iload X33 hx hby d2_50 (pc' := 52) rfl rfl ?_
  refine g_iconst X33 hx hby d2_52 (pc' := 53) rfl (n := (0 : Int32)) (by first | rfl | decide) ?_
  refine g_static X33 hx hby hZ hown hml rfl (hw _ (List.mem_of_getElem? (i := 24) rfl)) (hw _ (List.mem_of_getElem? (i := 25) rfl)) (hw _ (List.mem_of_getElem? (i := 9) rfl)) (hw _ (List.mem_of_getElem? (i := 26) rfl)) (by decide) e33 (rm4 l Z a0 hw sl33 ui (0 : Int32) h33 (show (0 : Int) ≤ ui.toInt from hui)) pd__Ljava_lang_String_II_I_996 (argsL := [(.ref sl33), (.int ui), (.int (0 : Int32))]) (rest := [(.ref o)]) rfl rfl rfl d2_53 (pc' := 56) rfl (by decide) (Nat.le_of_ble_eq_true rfl) (by decide) (by decide) ?_
  intro Tp53 vp53 Lp53 Xp53 qp53
  obtain ⟨⟨rp53, rfl, h_rp53⟩, ep53, rfl⟩ := qp53
  replace h_rp53 := h_rp53.symm
  subst h_rp53
  rw [List.append_nil] at Xp53
  replace Xp53 : Stand p l e ({ frames := 4, cells := 12, slots := 268, locals := 120 } : Room) s m _ below meth c Tp53 _ 10 220 := Xp53
  show Go p e below EF (QSs Z n0 h0 o up dv) m Tp53 56 #[.val (.ref o), .val (.int up), .val (.int ue), .val (.double dv), .second, .val (.double dw), .second, .val (.int ui), .val (.int ug)] [(.int ui), (.ref o)]
  refine g_putF Xp53 hx hby hZ hown ep53 (hw _ (List.mem_of_getElem? (i := 42) rfl)) F_mutationIntensity E_o (Or.inr ⟨(hw _ (List.mem_of_getElem? (i := 43) rfl)), rfl, hnm⟩) (hw _ (List.mem_of_getElem? (i := 8) rfl)) (ty := .int) (by decide) rfl rfl d2_56 (pc' := 59) rfl (fun T36 h36 X36 e36 W36 => ?_)
  replace F_population := F_population.other W36 (Or.inr (slot_ne (Or.inr (hw _ (List.mem_of_getElem? (i := 28) rfl))) (Or.inr (hw _ (List.mem_of_getElem? (i := 43) rfl))) (by decide) (t := .int) (t' := .int) (by decide) (by decide)))
  replace F_elite := F_elite.other W36 (Or.inr (slot_ne (Or.inr (hw _ (List.mem_of_getElem? (i := 31) rfl))) (Or.inr (hw _ (List.mem_of_getElem? (i := 43) rfl))) (by decide) (t := .int) (t' := .int) (by decide) (by decide)))
  replace F_crossover := F_crossover.other W36 (Or.inr (slot_ne (Or.inr (hw _ (List.mem_of_getElem? (i := 37) rfl))) (Or.inr (hw _ (List.mem_of_getElem? (i := 43) rfl))) (by decide) (t := .double) (t' := .int) (by decide) (by decide)))
  replace F_mutation := F_mutation.other W36 (Or.inr (slot_ne (Or.inr (hw _ (List.mem_of_getElem? (i := 40) rfl))) (Or.inr (hw _ (List.mem_of_getElem? (i := 43) rfl))) (by decide) (t := .double) (t' := .int) (by decide) (by decide)))
  replace F_mutationIntensity := F_mutationIntensity.same W36
  replace F_generations := F_generations.other W36 (Or.inr (slot_ne (Or.inr (hw _ (List.mem_of_getElem? (i := 46) rfl))) (Or.inr (hw _ (List.mem_of_getElem? (i := 43) rfl))) (by decide) (t := .int) (t' := .int) (by decide) (by decide)))
  replace E_o := E_o.wr W36
  have Z37 : n0 ≤ h36.size := by rw [W36.size]; exact Z34
  have kz38 := Nat.le_trans kz33 (Nat.le_of_eq W36.size.symm)
  have K39 := K35.wr W36 (Or.inl (List.mem_of_getElem? (i := 0) rfl))
  have N40 := Fr.snoc X36 N32 g_o
  refine g_aloadN X36 hx hby d2_59 (pc' := 60) rfl rfl rfl ?_
  refine g_ldcS X36 hx hby hZ hown e36 hF kz38 (hw _ (List.mem_of_getElem? (i := 44) rfl)) (own_wS hw) d2_60 (pc' := 62) rfl (n := 44) (by decide) (by decide) (by decide) (by decide) (fun s T41 h41 sl41 k41 X41 hZ hown hF kz41 e41 E41 => ?_)
  replace F_population := F_population.ext E41
  replace F_elite := F_elite.ext E41
  replace F_crossover := F_crossover.ext E41
  replace F_mutation := F_mutation.ext E41
  replace F_mutationIntensity := F_mutationIntensity.ext E41
  replace F_generations := F_generations.ext E41
  replace E_o := E_o.ext E41
  have Z42 : n0 ≤ h41.size := Nat.le_trans Z37 E41.1
  have K43 := K39.ext E41
  replace X41 : Stand p l e ({ frames := 4, cells := 12, slots := 268, locals := 120 } : Room) s m _ below meth c T41 _ 12 268 := X41
  refine g_iload X41 hx hby d2_62 (pc' := 64) rfl rfl ?_
  refine g_iconst X41 hx hby d2_64 (pc' := 65) rfl (n := (1 : Int32)) (by first | rfl | decide) ?_
  refine g_static X41 hx hby hZ hown hml rfl (hw _ (List.mem_of_getElem? (i := 24) rfl)) (hw _ (List.mem_of_getElem? (i := 25) rfl)) (hw _ (List.mem_of_getElem? (i := 9) rfl)) (hw _ (List.mem_of_getElem? (i := 26) rfl)) (by decide) e41 (rm4 l Z a0 hw sl41 ug (1 : Int32) h41 (show (1 : Int) ≤ ug.toInt from hug)) pd__Ljava_lang_String_II_I_996 (argsL := [(.ref sl41), (.int ug), (.int (1 : Int32))]) (rest := [(.ref o)]) rfl rfl rfl d2_65 (pc' := 68) rfl (by decide) (Nat.le_of_ble_eq_true rfl) (by decide) (by decide) ?_
  intro Tp65 vp65 Lp65 Xp65 qp65
  obtain ⟨⟨rp65, rfl, h_rp65⟩, ep65, rfl⟩ := qp65
  replace h_rp65 := h_rp65.symm
  subst h_rp65
  rw [List.append_nil] at Xp65
  replace Xp65 : Stand p l e ({ frames := 4, cells := 12, slots := 268, locals := 120 } : Room) s m _ below meth c Tp65 _ 12 268 := Xp65
  show Go p e below EF (QSs Z n0 h0 o up dv) m Tp65 68 #[.val (.ref o), .val (.int up), .val (.int ue), .val (.double dv), .second, .val (.double dw), .second, .val (.int ui), .val (.int ug)] [(.int ug), (.ref o)]
  refine g_putF Xp65 hx hby hZ hown ep65 (hw _ (List.mem_of_getElem? (i := 45) rfl)) F_generations E_o (Or.inr ⟨(hw _ (List.mem_of_getElem? (i := 46) rfl)), rfl, hnm⟩) (hw _ (List.mem_of_getElem? (i := 8) rfl)) (ty := .int) (by decide) rfl rfl d2_68 (pc' := 71) rfl (fun T44 h44 X44 e44 W44 => ?_)
  replace F_population := F_population.other W44 (Or.inr (slot_ne (Or.inr (hw _ (List.mem_of_getElem? (i := 28) rfl))) (Or.inr (hw _ (List.mem_of_getElem? (i := 46) rfl))) (by decide) (t := .int) (t' := .int) (by decide) (by decide)))
  replace F_elite := F_elite.other W44 (Or.inr (slot_ne (Or.inr (hw _ (List.mem_of_getElem? (i := 31) rfl))) (Or.inr (hw _ (List.mem_of_getElem? (i := 46) rfl))) (by decide) (t := .int) (t' := .int) (by decide) (by decide)))
  replace F_crossover := F_crossover.other W44 (Or.inr (slot_ne (Or.inr (hw _ (List.mem_of_getElem? (i := 37) rfl))) (Or.inr (hw _ (List.mem_of_getElem? (i := 46) rfl))) (by decide) (t := .double) (t' := .int) (by decide) (by decide)))
  replace F_mutation := F_mutation.other W44 (Or.inr (slot_ne (Or.inr (hw _ (List.mem_of_getElem? (i := 40) rfl))) (Or.inr (hw _ (List.mem_of_getElem? (i := 46) rfl))) (by decide) (t := .double) (t' := .int) (by decide) (by decide)))
  replace F_mutationIntensity := F_mutationIntensity.other W44 (Or.inr (slot_ne (Or.inr (hw _ (List.mem_of_getElem? (i := 43) rfl))) (Or.inr (hw _ (List.mem_of_getElem? (i := 46) rfl))) (by decide) (t := .int) (t' := .int) (by decide) (by decide)))
  replace F_generations := F_generations.same W44
  replace E_o := E_o.wr W44
  have Z45 : n0 ≤ h44.size := by rw [W44.size]; exact Z42
  have kz46 := Nat.le_trans kz41 (Nat.le_of_eq W44.size.symm)
  have K47 := K43.wr W44 (Or.inl (List.mem_of_getElem? (i := 0) rfl))
  have N48 := Fr.snoc X44 N40 g_o
  refine g_iloadN X44 hx hby d2_71 (pc' := 72) rfl rfl ?_
  refine g_aloadN X44 hx hby d2_72 (pc' := 73) rfl rfl rfl ?_
  refine g_virtual X44 hx hby hZ hown hml rfl (hw _ (List.mem_of_getElem? (i := 47) rfl)) (hw _ (List.mem_of_getElem? (i := 48) rfl)) (hw _ (List.mem_of_getElem? (i := 50) rfl)) (hw _ (List.mem_of_getElem? (i := 49) rfl)) (hw _ (List.mem_of_getElem? (i := 9) rfl)) (hw _ (List.mem_of_getElem? (i := 51) rfl)) (by decide) e44 (rm6 l Z a0 hw o up dv N h44 F_population F_crossover hnn hp hN) pd___I_154 E_o (argsL := []) (rest := [(.int ue)]) rfl rfl rfl d2_73 (pc' := 76) rfl (by decide) (Nat.le_of_ble_eq_true rfl) (by decide) (by decide) ?_
  intro Tp73 vp73 Lp73 Xp73 qp73
  obtain ⟨⟨rp73, rfl, h_rp73⟩, ep73, rfl⟩ := qp73
  rw [List.append_nil] at Xp73
  replace Xp73 : Stand p l e ({ frames := 4, cells := 12, slots := 268, locals := 120 } : Room) s m _ below meth c Tp73 _ 12 268 := Xp73
  show Go p e below EF (QSs Z n0 h0 o up dv) m Tp73 76 #[.val (.ref o), .val (.int up), .val (.int ue), .val (.double dv), .second, .val (.double dw), .second, .val (.int ui), .val (.int ug)] [(.int rp73), (.int ue)]
  refine g_iadd Xp73 hx hby d2_76 (pc' := 77) rfl ?_
  refine g_iloadN Xp73 hx hby d2_77 (pc' := 78) rfl rfl ?_
  refine g_icmple Xp73 hx hby d2_78 (pt := 100) (pf := 81) (by decide) (by decide) rfl (fun (h78 : (ue + rp73).toInt ≤ up.toInt) => ?_) (fun (h78 : up.toInt < (ue + rp73).toInt) => (by exfalso; have ea := own_add ue rp73 (by have := rng32 up; omega) (by have := rng32 up; omega); omega))
  exact g_retV Xp73 hx hby hF.fin (by rw [ep73]; exact kz46) hlk hret d2_100 (by decide) (by decide) (by rw [ep73]; exact ⟨rfl, N48, E_o, F_population, F_crossover, K47⟩)
theorem own_share : ∀ k : Fin 1025, (FP.ddiv (FP.i2d (Int32.ofNat k.val)) 4652218415073722368 &&& 0x7fffffffffffffff ≤ 0x7ff0000000000000) ∧ 0 ≤ (Op.cmpValue (FP.dcmp (FP.ddiv (FP.i2d (Int32.ofNat k.val)) 4652218415073722368) 0) .l).toInt ∧ (Op.cmpValue (FP.dcmp (FP.ddiv (FP.i2d (Int32.ofNat k.val)) 4652218415073722368) 0x3ff0000000000000) .g).toInt ≤ 0 := by decide +kernel
theorem own_share_at (uk : Int32) (h : 0 ≤ uk.toInt ∧ uk.toInt < 1025) : (FP.ddiv (FP.i2d uk) 4652218415073722368 &&& 0x7fffffffffffffff ≤ 0x7ff0000000000000) ∧ 0 ≤ (Op.cmpValue (FP.dcmp (FP.ddiv (FP.i2d uk) 4652218415073722368) 0) .l).toInt ∧ (Op.cmpValue (FP.dcmp (FP.ddiv (FP.i2d uk) 4652218415073722368) 0x3ff0000000000000) .g).toInt ≤ 0 := by
  have e : uk = Int32.ofNat uk.toInt.toNat := Int32.toInt_inj.mp (by rw [own_ofNat (by omega)]; omega)
  rw [e]; exact own_share ⟨uk.toInt.toNat, by omega⟩
theorem own_v_zero (a : UInt64) (n : Nat) (ha : FP.Core.val64 a = own_dat n 0) : FP.dmul a 0 = 0 := by
  have hv : FP.Core.val64 (FP.dmul a 0) = FP.Core.val64 0 := by
    rw [show FP.dmul a 0 = FP.Core.dmul a 0 from rfl, FP.Core.val64_dmul, ha, show FP.Core.val64 0 = .fin false 0 FP.Core.b64.qmin by decide +kernel]
    simp [own_dat, FP.Core.exactProduct, FP.Core.round, FP.Core.roundRatio]
  exact (FP.Core.val64_inj (by decide +kernel) hv.symm).symm
theorem own_px_at (up uk : Int32) (h1 : 1 ≤ up.toInt) (h2 : 0 ≤ uk.toInt ∧ uk.toInt < 1025) : own_px (FP.dmul (FP.i2d up) (FP.ddiv (FP.i2d uk) 4652218415073722368)) (up.toInt.toNat * uk.toInt.toNat) ∧ (FP.dmul (FP.i2d up) (FP.ddiv (FP.i2d uk) 4652218415073722368) &&& 0x7fffffffffffffff ≤ 0x7ff0000000000000) := by
  have r := rng32 up
  have va := own_v_i2d up up.toInt.toNat (by omega) (by omega)
  by_cases q : uk.toInt = 0
  · have e : uk = 0 := Int32.toInt_inj.mp q
    subst e
    rw [show FP.ddiv (FP.i2d 0) 4652218415073722368 = 0 by decide +kernel, own_v_zero _ _ va]
    exact ⟨Or.inl ⟨Nat.mul_zero _, rfl⟩, by decide⟩
  · have vb := own_v_div _ uk.toInt.toNat (by omega) (by omega) (own_v_i2d uk uk.toInt.toNat (by omega) (by omega))
    have hm : up.toInt.toNat * uk.toInt.toNat ≤ 2147483647 * 1024 := Nat.mul_le_mul (by omega) (by omega)
    have vm := own_v_mul _ _ _ _ (by omega) (by omega) (by omega) (by omega) (by omega) va vb
    refine ⟨Or.inr ⟨Nat.mul_ne_zero (by omega) (by omega), by omega, vm⟩, ?_⟩
    exact Jvm.Free.Fl.noNaN64_no.mpr ((FP.Core.notNaN_iff _).mpr (by rw [vm]; exact fun z => nomatch z))
theorem own_k1025 (u y : Int32) (h : y = (u &&& (2047 : Int32)) % (1025 : Int32)) : 0 ≤ y.toInt ∧ y.toInt < 1025 := by
  have a1 := c_mask u 2047 11 (by decide) (by decide)
  have a2 := (c_iremV (u &&& 2047) 1025).1 (by omega) (by decide)
  have e : (1025 : Int32).toInt = 1025 := rfl
  rw [← h] at a2; omega
theorem own_pos31 (u y : Int32) (h : y = u &&& (2147483647 : Int32)) : 0 ≤ y.toInt := by
  have a1 := c_mask u 2147483647 31 (by decide) (by decide)
  rw [← h] at a1; omega
theorem own_i2l (x : Int32) : x.toInt64.toInt = x.toInt := Int32.toInt_toInt64 x
theorem own_ex (u k : Int32) (y : Int64) (hu : 0 ≤ u.toInt) (hk : 0 ≤ k.toInt ∧ k.toInt < 1025) (h : y = u.toInt64 * k.toInt64) : y.toInt = ((u.toInt.toNat * k.toInt.toNat : Nat) : Int) ∧ u.toInt.toNat * k.toInt.toNat ≤ u.toInt.toNat * 1024 := by
  have a := c_lmul u.toInt64 k.toInt64
  rw [own_i2l, own_i2l, ← h] at a
  have m : u.toInt * k.toInt = ((u.toInt.toNat * k.toInt.toNat : Nat) : Int) := by rw [Int.natCast_mul, Int.toNat_of_nonneg hu, Int.toNat_of_nonneg hk.1]
  have b : u.toInt.toNat * k.toInt.toNat ≤ u.toInt.toNat * 1024 := Nat.mul_le_mul_left _ (by omega)
  have r := Int64.toInt_lt y
  have r2 := Int64.le_toInt y
  have r3 := rng32 u
  rw [m] at a
  exact ⟨by omega, b⟩
theorem own_laddc (x y : Int64) (h : -9223372036854775808 ≤ x.toInt + y.toInt ∧ x.toInt + y.toInt < 9223372036854775808) : (x + y).toInt = x.toInt + y.toInt := by
  have a := c_ladd x y
  have r := Int64.toInt_lt (x + y)
  have r2 := Int64.le_toInt (x + y)
  omega
theorem own_lremp (x y : Int64) (hx : 0 ≤ x.toInt) (hy : 0 < y.toInt) : 0 ≤ (x % y).toInt ∧ (x % y).toInt < y.toInt := by
  rw [Int64.toInt_mod, Int.tmod_eq_emod_of_nonneg hx]
  exact ⟨Int.emod_nonneg _ (by omega), Int.emod_lt_of_pos _ hy⟩
theorem ef_0 (m : MethodId) (ux : Int32) (ua : Int32) (ub : Int32) (uc : Int32) (ud : Int32) (uf : Int32) : entryFrame m #[(.int ux), (.int ua), (.int ub), (.int uc), (.int ud), (.int uf)] maxLocals = mkF m 0 #[.val (.int ux), .val (.int ua), .val (.int ub), .val (.int uc), .val (.int ud), .val (.int uf), .unset, .unset, .unset, .unset, .unset, .unset, .unset, .unset, .unset, .unset, .unset, .unset, .unset, .unset, .unset, .unset] [] := by first | (simp [entryFrame, mkF, argsToLocals, Value.category, maxLocals]; done) | rfl
theorem pn_0 : plainName "com/example/ergorota/ergorota/engine/SearchSettingsChildrenPinLaw" = true := by first | (simp [plainName, overriddenIn]; done) | decide +kernel
theorem pd__II_I_300 : parseMethodDescriptor "(II)I" = some ⟨[.int, .int], some .int⟩ := by decide +kernel
theorem pd__IIDDII_V_595 : parseMethodDescriptor "(IIDDII)V" = some ⟨[.int, .int, .double, .double, .int, .int], none⟩ := by decide +kernel
set_option maxRecDepth 65536 in
set_option maxHeartbeats 40000000 in
theorem law0 (l : Launch) (Z : State) (a0 : Array Value) (hw : ∀ d ∈ tables_1, d.before a0 Z = true) (ws : List Jvm.Cond) (ux : Int32) (ua : Int32) (ub : Int32) (uc : Int32) (ud : Int32) (uf : Int32) (n0 : Nat) (h0 : Heap) (Z0 : n0 ≤ h0.size) :
    MetFree l x (head1 (Jvm.Cond.code x code maxLocals ret :: ws) room_1) (fun a U => a = #[(.int ux), (.int ua), (.int ub), (.int uc), (.int ud), (.int uf)] ∧ Z.Warmed39 U.vm ∧ U.heap = h0) (fun _ _ _ _ _ => True) (fun _ U o U' => ∃ v L, o = .returned v ∧ (Q0 n0) v U'.heap L ∧ ReturnedEndW U o U' L room_1.cells room_1.slots) := by
  refine own_metW (plainFor_of_name pn_0) (fun m => ef_0 m ux ua ub uc ud uf) ?_
  intro p e s m below meth c T0 EF X0 hx hby hml hown hnm hret hlk hZ hF e0
  have N0 := Fr.nil n0
  refine g_iconst X0 hx hby at_0 (pc' := 1) rfl (n := (1 : Int32)) (by first | rfl | decide) ?_
  refine g_iloadN X0 hx hby at_1 (pc' := 2) rfl rfl ?_
  refine g_ldcI X0 hx hby hZ hown (hw _ (List.mem_of_getElem? (i := 0) rfl)) at_2 (pc' := 4) rfl ?_
  refine g_iand X0 hx hby at_4 (pc' := 5) rfl ?_
  refine g_static X0 hx hby hZ hown hml rfl (hw _ (List.mem_of_getElem? (i := 1) rfl)) (hw _ (List.mem_of_getElem? (i := 2) rfl)) (hw _ (List.mem_of_getElem? (i := 3) rfl)) (hw _ (List.mem_of_getElem? (i := 4) rfl)) (by decide) e0 (rm1 l Z a0 hw (1 : Int32) (ux &&& (2147483647 : Int32)) h0 ) pd__II_I_300 (argsL := [(.int (1 : Int32)), (.int (ux &&& (2147483647 : Int32)))]) (rest := []) rfl rfl rfl at_5 (pc' := 8) rfl (by decide) (Nat.le_of_ble_eq_true rfl) (by decide) (by decide) ?_
  intro Tp5 vp5 Lp5 Xp5 qp5
  obtain ⟨⟨rp5, rfl, h_rp5⟩, ep5, rfl⟩ := qp5
  rw [List.append_nil] at Xp5
  replace Xp5 : Stand p l e room_1 s m _ below meth c Tp5 _ 0 0 := Xp5
  show Go p e below EF (Q0 n0) m Tp5 8 #[.val (.int ux), .val (.int ua), .val (.int ub), .val (.int uc), .val (.int ud), .val (.int uf), .unset, .unset, .unset, .unset, .unset, .unset, .unset, .unset, .unset, .unset, .unset, .unset, .unset, .unset, .unset, .unset] [(.int rp5)]
  have hup : 1 ≤ rp5.toInt := by have e : (1 : Int32).toInt = 1 := rfl; omega
  refine g_istore Xp5 hx hby at_8 (pc' := 10) rfl (Ls' := #[.val (.int ux), .val (.int ua), .val (.int ub), .val (.int uc), .val (.int ud), .val (.int uf), .val (.int rp5), .unset, .unset, .unset, .unset, .unset, .unset, .unset, .unset, .unset, .unset, .unset, .unset, .unset, .unset, .unset]) rfl ?_
  refine g_iloadN Xp5 hx hby at_10 (pc' := 11) rfl rfl ?_
  refine g_sipush Xp5 hx hby at_11 (pc' := 14) rfl (n := (2047 : Int32)) (by first | rfl | decide) ?_
  refine g_iand Xp5 hx hby at_14 (pc' := 15) rfl ?_
  refine g_sipush Xp5 hx hby at_15 (pc' := 18) rfl (n := (1025 : Int32)) (by first | rfl | decide) ?_
  refine g_irem Xp5 hx hby at_18 (pc' := 19) rfl (by decide) ?_
  refine g_nameI (fun uk h_uk => ?_)
  have hk := own_k1025 _ uk h_uk
  refine g_istore Xp5 hx hby at_19 (pc' := 21) rfl (Ls' := #[.val (.int ux), .val (.int ua), .val (.int ub), .val (.int uc), .val (.int ud), .val (.int uf), .val (.int rp5), .val (.int uk), .unset, .unset, .unset, .unset, .unset, .unset, .unset, .unset, .unset, .unset, .unset, .unset, .unset, .unset]) rfl ?_
  refine g_iloadN Xp5 hx hby at_21 (pc' := 22) rfl rfl ?_
  refine g_sipush Xp5 hx hby at_22 (pc' := 25) rfl (n := (2047 : Int32)) (by first | rfl | decide) ?_
  refine g_iand Xp5 hx hby at_25 (pc' := 26) rfl ?_
  refine g_sipush Xp5 hx hby at_26 (pc' := 29) rfl (n := (1025 : Int32)) (by first | rfl | decide) ?_
  refine g_irem Xp5 hx hby at_29 (pc' := 30) rfl (by decide) ?_
  refine g_nameI (fun um h_um => ?_)
  have hm := own_k1025 _ um h_um
  refine g_istore Xp5 hx hby at_30 (pc' := 32) rfl (Ls' := #[.val (.int ux), .val (.int ua), .val (.int ub), .val (.int uc), .val (.int ud), .val (.int uf), .val (.int rp5), .val (.int uk), .val (.int um), .unset, .unset, .unset, .unset, .unset, .unset, .unset, .unset, .unset, .unset, .unset, .unset, .unset]) rfl ?_
  refine g_iload Xp5 hx hby at_32 (pc' := 34) rfl rfl ?_
  refine g_i2d Xp5 hx hby at_34 (pc' := 35) rfl ?_
  refine g_ldc2D Xp5 hx hby hZ hown (hw _ (List.mem_of_getElem? (i := 5) rfl)) at_35 (pc' := 38) rfl ?_
  refine g_ddiv Xp5 hx hby at_38 (pc' := 39) rfl (own_share_at uk hk).1 ?_
  refine g_dstore Xp5 hx hby at_39 (pc' := 41) rfl (Ls' := #[.val (.int ux), .val (.int ua), .val (.int ub), .val (.int uc), .val (.int ud), .val (.int uf), .val (.int rp5), .val (.int uk), .val (.int um), .val (.double (FP.ddiv (FP.i2d uk) 4652218415073722368)), .second, .unset, .unset, .unset, .unset, .unset, .unset, .unset, .unset, .unset, .unset, .unset]) rfl ?_
  refine g_iload Xp5 hx hby at_41 (pc' := 43) rfl rfl ?_
  refine g_i2d Xp5 hx hby at_43 (pc' := 44) rfl ?_
  refine g_ldc2D Xp5 hx hby hZ hown (hw _ (List.mem_of_getElem? (i := 5) rfl)) at_44 (pc' := 47) rfl ?_
  refine g_ddiv Xp5 hx hby at_47 (pc' := 48) rfl (own_share_at um hm).1 ?_
  refine g_dstore Xp5 hx hby at_48 (pc' := 50) rfl (Ls' := #[.val (.int ux), .val (.int ua), .val (.int ub), .val (.int uc), .val (.int ud), .val (.int uf), .val (.int rp5), .val (.int uk), .val (.int um), .val (.double (FP.ddiv (FP.i2d uk) 4652218415073722368)), .second, .val (.double (FP.ddiv (FP.i2d um) 4652218415073722368)), .second, .unset, .unset, .unset, .unset, .unset, .unset, .unset, .unset, .unset]) rfl ?_
  refine g_iloadN Xp5 hx hby at_50 (pc' := 51) rfl rfl ?_
  refine g_ldcI Xp5 hx hby hZ hown (hw _ (List.mem_of_getElem? (i := 0) rfl)) at_51 (pc' := 53) rfl ?_
  refine g_iand Xp5 hx hby at_53 (pc' := 54) rfl ?_
  refine g_nameI (fun ui h_ui => ?_)
  have hui := own_pos31 _ ui h_ui
  refine g_istore Xp5 hx hby at_54 (pc' := 56) rfl (Ls' := #[.val (.int ux), .val (.int ua), .val (.int ub), .val (.int uc), .val (.int ud), .val (.int uf), .val (.int rp5), .val (.int uk), .val (.int um), .val (.double (FP.ddiv (FP.i2d uk) 4652218415073722368)), .second, .val (.double (FP.ddiv (FP.i2d um) 4652218415073722368)), .second, .val (.int ui), .unset, .unset, .unset, .unset, .unset, .unset, .unset, .unset]) rfl ?_
  refine g_iconst Xp5 hx hby at_56 (pc' := 57) rfl (n := (1 : Int32)) (by first | rfl | decide) ?_
  refine g_iload Xp5 hx hby at_57 (pc' := 59) rfl rfl ?_
  refine g_ldcI Xp5 hx hby hZ hown (hw _ (List.mem_of_getElem? (i := 0) rfl)) at_59 (pc' := 61) rfl ?_
  refine g_iand Xp5 hx hby at_61 (pc' := 62) rfl ?_
  refine g_static Xp5 hx hby hZ hown hml rfl (hw _ (List.mem_of_getElem? (i := 1) rfl)) (hw _ (List.mem_of_getElem? (i := 2) rfl)) (hw _ (List.mem_of_getElem? (i := 3) rfl)) (hw _ (List.mem_of_getElem? (i := 4) rfl)) (by decide) ep5 (rm1 l Z a0 hw (1 : Int32) (ud &&& (2147483647 : Int32)) h0 ) pd__II_I_300 (argsL := [(.int (1 : Int32)), (.int (ud &&& (2147483647 : Int32)))]) (rest := []) rfl rfl rfl at_62 (pc' := 65) rfl (by decide) (Nat.le_of_ble_eq_true rfl) (by decide) (by decide) ?_
  intro Tp62 vp62 Lp62 Xp62 qp62
  obtain ⟨⟨rp62, rfl, h_rp62⟩, ep62, rfl⟩ := qp62
  rw [List.append_nil] at Xp62
  replace Xp62 : Stand p l e room_1 s m _ below meth c Tp62 _ 0 0 := Xp62
  show Go p e below EF (Q0 n0) m Tp62 65 #[.val (.int ux), .val (.int ua), .val (.int ub), .val (.int uc), .val (.int ud), .val (.int uf), .val (.int rp5), .val (.int uk), .val (.int um), .val (.double (FP.ddiv (FP.i2d uk) 4652218415073722368)), .second, .val (.double (FP.ddiv (FP.i2d um) 4652218415073722368)), .second, .val (.int ui), .unset, .unset, .unset, .unset, .unset, .unset, .unset, .unset] [(.int rp62)]
  have hug : 1 ≤ rp62.toInt := by have e : (1 : Int32).toInt = 1 := rfl; omega
  refine g_istore Xp62 hx hby at_65 (pc' := 67) rfl (Ls' := #[.val (.int ux), .val (.int ua), .val (.int ub), .val (.int uc), .val (.int ud), .val (.int uf), .val (.int rp5), .val (.int uk), .val (.int um), .val (.double (FP.ddiv (FP.i2d uk) 4652218415073722368)), .second, .val (.double (FP.ddiv (FP.i2d um) 4652218415073722368)), .second, .val (.int ui), .val (.int rp62), .unset, .unset, .unset, .unset, .unset, .unset, .unset]) rfl ?_
  refine g_iload Xp62 hx hby at_67 (pc' := 69) rfl rfl ?_
  refine g_i2l Xp62 hx hby at_69 (pc' := 70) rfl ?_
  refine g_iload Xp62 hx hby at_70 (pc' := 72) rfl rfl ?_
  refine g_i2l Xp62 hx hby at_72 (pc' := 73) rfl ?_
  refine g_lmul Xp62 hx hby at_73 (pc' := 74) rfl ?_
  refine g_nameL (fun ex h_ex => ?_)
  obtain ⟨f_ex, hb_ex⟩ := own_ex rp5 uk ex (by omega) hk h_ex
  obtain ⟨hp, hnn⟩ := own_px_at rp5 uk hup hk
  have r5 := rng32 rp5
  have hN : (rp5.toInt.toNat * uk.toInt.toNat) ≤ 2199023254528 := by omega
  refine g_lstore Xp62 hx hby at_74 (pc' := 76) rfl (Ls' := #[.val (.int ux), .val (.int ua), .val (.int ub), .val (.int uc), .val (.int ud), .val (.int uf), .val (.int rp5), .val (.int uk), .val (.int um), .val (.double (FP.ddiv (FP.i2d uk) 4652218415073722368)), .second, .val (.double (FP.ddiv (FP.i2d um) 4652218415073722368)), .second, .val (.int ui), .val (.int rp62), .val (.long ex), .second, .unset, .unset, .unset, .unset, .unset]) rfl ?_
  refine g_lload Xp62 hx hby at_76 (pc' := 78) rfl rfl ?_
  refine g_ldcL Xp62 hx hby hZ hown (hw _ (List.mem_of_getElem? (i := 6) rfl)) at_78 (pc' := 81) rfl ?_
  refine g_ladd Xp62 hx hby at_81 (pc' := 82) rfl ?_
  refine g_nameL (fun e5 h_e5 => ?_)
  have e512 : (512 : Int64).toInt = 512 := rfl
  have f_e5 := own_laddc ex 512 (by omega)
  rw [← h_e5] at f_e5
  refine g_bipush Xp62 hx hby at_82 (pc' := 84) rfl (n := (10 : Int32)) (by first | rfl | decide) ?_
  refine g_lshr Xp62 hx hby at_84 (pc' := 85) rfl ?_
  refine g_nameL (fun r0 h_r0 => ?_)
  have f_r0 := own_shr e5 r0 10 10 rfl (by decide) h_r0
  replace f_r0 : r0.toInt = e5.toInt / 1024 := f_r0
  refine g_l2i Xp62 hx hby at_85 (pc' := 86) rfl ?_
  refine g_nameI (fun rf h_rf => ?_)
  have f_rf := own_l2i r0 (by omega)
  rw [← h_rf] at f_rf
  refine g_istore Xp62 hx hby at_86 (pc' := 88) rfl (Ls' := #[.val (.int ux), .val (.int ua), .val (.int ub), .val (.int uc), .val (.int ud), .val (.int uf), .val (.int rp5), .val (.int uk), .val (.int um), .val (.double (FP.ddiv (FP.i2d uk) 4652218415073722368)), .second, .val (.double (FP.ddiv (FP.i2d um) 4652218415073722368)), .second, .val (.int ui), .val (.int rp62), .val (.long ex), .second, .val (.int rf), .unset, .unset, .unset, .unset]) rfl ?_
  refine g_iload Xp62 hx hby at_88 (pc' := 90) rfl rfl ?_
  refine g_i2l Xp62 hx hby at_90 (pc' := 91) rfl ?_
  refine g_iload Xp62 hx hby at_91 (pc' := 93) rfl rfl ?_
  refine g_i2l Xp62 hx hby at_93 (pc' := 94) rfl ?_
  refine g_lsub Xp62 hx hby at_94 (pc' := 95) rfl ?_
  refine g_nameL (fun d1 h_d1 => ?_)
  have f_d1 := own_lsub rp5.toInt64 rf.toInt64 (by rw [own_i2l, own_i2l]; omega) (by rw [own_i2l, own_i2l]; omega)
  rw [← h_d1, own_i2l, own_i2l] at f_d1
  refine g_lconst Xp62 hx hby at_95 (pc' := 96) rfl (n := (1 : Int64)) (by first | rfl | decide) ?_
  refine g_ladd Xp62 hx hby at_96 (pc' := 97) rfl ?_
  refine g_nameL (fun rm h_rm => ?_)
  have f_rm := own_ladd1 d1 (by omega)
  rw [← h_rm] at f_rm
  refine g_lstore Xp62 hx hby at_97 (pc' := 99) rfl (Ls' := #[.val (.int ux), .val (.int ua), .val (.int ub), .val (.int uc), .val (.int ud), .val (.int uf), .val (.int rp5), .val (.int uk), .val (.int um), .val (.double (FP.ddiv (FP.i2d uk) 4652218415073722368)), .second, .val (.double (FP.ddiv (FP.i2d um) 4652218415073722368)), .second, .val (.int ui), .val (.int rp62), .val (.long ex), .second, .val (.int rf), .val (.long rm), .second, .unset, .unset]) rfl ?_
  refine g_iload Xp62 hx hby at_99 (pc' := 101) rfl rfl ?_
  refine g_ldcI Xp62 hx hby hZ hown (hw _ (List.mem_of_getElem? (i := 0) rfl)) at_101 (pc' := 103) rfl ?_
  refine g_iand Xp62 hx hby at_103 (pc' := 104) rfl ?_
  refine g_nameI (fun ee h_ee => ?_)
  have hee := own_pos31 _ ee h_ee
  refine g_i2l Xp62 hx hby at_104 (pc' := 105) rfl ?_
  refine g_lload Xp62 hx hby at_105 (pc' := 107) rfl rfl ?_
  refine g_lrem Xp62 hx hby at_107 (pc' := 108) rfl (fun q => by rw [q] at f_rm; have e : (0 : Int64).toInt = 0 := rfl; omega) ?_
  refine g_nameL (fun le h_le => ?_)
  have hle := own_lremp ee.toInt64 rm (by rw [own_i2l]; exact hee) (by omega)
  rw [← h_le] at hle
  refine g_l2i Xp62 hx hby at_108 (pc' := 109) rfl ?_
  refine g_nameI (fun el h_el => ?_)
  have f_el := own_l2i le (by omega)
  rw [← h_el] at f_el
  refine g_istore Xp62 hx hby at_109 (pc' := 111) rfl (Ls' := #[.val (.int ux), .val (.int ua), .val (.int ub), .val (.int uc), .val (.int ud), .val (.int uf), .val (.int rp5), .val (.int uk), .val (.int um), .val (.double (FP.ddiv (FP.i2d uk) 4652218415073722368)), .second, .val (.double (FP.ddiv (FP.i2d um) 4652218415073722368)), .second, .val (.int ui), .val (.int rp62), .val (.long ex), .second, .val (.int rf), .val (.long rm), .second, .val (.int el), .unset]) rfl ?_
  refine g_new Xp62 hx hby hZ hown ep62 (hw _ (List.mem_of_getElem? (i := 7) rfl)) (hw _ (List.mem_of_getElem? (i := 8) rfl)) (hw _ (List.mem_of_getElem? (i := 9) rfl)) at_111 (pc' := 114) rfl (by decide) (by decide) (fun T1 h1 o g1 X1 e1 E1 A1 D1 => ?_)
  have g2 : n0 ≤ o := by rw [g1]; exact Z0
  have Z3 : n0 ≤ h1.size := Nat.le_trans Z0 E1.1
  replace X1 : Stand p l e room_1 s m _ below meth c T1 _ 1 6 := X1
  have E_o : Exa Z h1 o "com/example/ergorota/ergorota/engine/SearchSettings" := A1
  have F_population_o : Fld Z h1 o "com/example/ergorota/ergorota/engine/SearchSettings" "population" "I" (.int (0 : Int32)) := D1 (Or.inr (hw _ (List.mem_of_getElem? (i := 28) rfl))) (ty := .int) (by decide)
  have F_elite_o : Fld Z h1 o "com/example/ergorota/ergorota/engine/SearchSettings" "elite" "I" (.int (0 : Int32)) := D1 (Or.inr (hw _ (List.mem_of_getElem? (i := 31) rfl))) (ty := .int) (by decide)
  have F_crossover_o : Fld Z h1 o "com/example/ergorota/ergorota/engine/SearchSettings" "crossover" "D" (.double 0) := D1 (Or.inr (hw _ (List.mem_of_getElem? (i := 37) rfl))) (ty := .double) (by decide)
  have F_mutation_o : Fld Z h1 o "com/example/ergorota/ergorota/engine/SearchSettings" "mutation" "D" (.double 0) := D1 (Or.inr (hw _ (List.mem_of_getElem? (i := 40) rfl))) (ty := .double) (by decide)
  have F_mutationIntensity_o : Fld Z h1 o "com/example/ergorota/ergorota/engine/SearchSettings" "mutationIntensity" "I" (.int (0 : Int32)) := D1 (Or.inr (hw _ (List.mem_of_getElem? (i := 43) rfl))) (ty := .int) (by decide)
  have F_generations_o : Fld Z h1 o "com/example/ergorota/ergorota/engine/SearchSettings" "generations" "I" (.int (0 : Int32)) := D1 (Or.inr (hw _ (List.mem_of_getElem? (i := 46) rfl))) (ty := .int) (by decide)
  refine g_dup X1 hx hby at_114 (pc' := 115) rfl rfl ?_
  refine g_iload X1 hx hby at_115 (pc' := 117) rfl rfl ?_
  refine g_iload X1 hx hby at_117 (pc' := 119) rfl rfl ?_
  refine g_dload X1 hx hby at_119 (pc' := 121) rfl rfl ?_
  refine g_dload X1 hx hby at_121 (pc' := 123) rfl rfl ?_
  refine g_iload X1 hx hby at_123 (pc' := 125) rfl rfl ?_
  refine g_iload X1 hx hby at_125 (pc' := 127) rfl rfl ?_
  refine g_specialS X1 hx hby hZ hown rfl hml rfl (hw _ (List.mem_of_getElem? (i := 10) rfl)) (hw _ (List.mem_of_getElem? (i := 11) rfl)) (hw _ (List.mem_of_getElem? (i := 9) rfl)) rfl (hw _ (List.mem_of_getElem? (i := 12) rfl)) (by decide) e1 hF (Nat.zero_le _) (rm2 l Z a0 hw o rp5 el (FP.ddiv (FP.i2d uk) 4652218415073722368) (FP.ddiv (FP.i2d um) 4652218415073722368) ui rp62 n0 (rp5.toInt.toNat * uk.toInt.toNat) h1 Z3 g2 E_o F_population_o F_elite_o F_crossover_o F_mutation_o F_mutationIntensity_o F_generations_o hup (by omega) (own_share_at uk hk).2 (own_share_at um hm).2 hui hug hnn hp hN (by omega)) pd__IIDDII_V_595 (a := o) (argsL := [(.int rp5), (.int el), (.double (FP.ddiv (FP.i2d uk) 4652218415073722368)), (.double (FP.ddiv (FP.i2d um) 4652218415073722368)), (.int ui), (.int rp62)]) (rest := [(.ref o)]) rfl rfl rfl at_127 (pc' := 130) rfl (by decide) (Nat.le_of_ble_eq_true rfl) (by decide) (by decide) ?_
  intro s Tp127 vp127 Lp127 Xp127 hZ hown hF kgp127 qp127
  obtain ⟨rfl, Nqp127, E_op127, Fpp127, Fcp127, Kqp127⟩ := qp127
  replace Xp127 : Stand p l e room_1 s m _ below meth c Tp127 _ 13 274 := Xp127
  replace E_o := E_o.keep Kqp127
  have Z4 : n0 ≤ Tp127.heap.size := Nat.le_trans Z3 Kqp127.1
  have Np127 := Fr.app N0 Nqp127
  show Go p e below EF (Q0 n0) m Tp127 130 #[.val (.int ux), .val (.int ua), .val (.int ub), .val (.int uc), .val (.int ud), .val (.int uf), .val (.int rp5), .val (.int uk), .val (.int um), .val (.double (FP.ddiv (FP.i2d uk) 4652218415073722368)), .second, .val (.double (FP.ddiv (FP.i2d um) 4652218415073722368)), .second, .val (.int ui), .val (.int rp62), .val (.long ex), .second, .val (.int rf), .val (.long rm), .second, .val (.int el), .unset] [(.ref o)]
  refine g_astore Xp127 hx hby at_130 (pc' := 132) rfl rfl (Ls' := #[.val (.int ux), .val (.int ua), .val (.int ub), .val (.int uc), .val (.int ud), .val (.int uf), .val (.int rp5), .val (.int uk), .val (.int um), .val (.double (FP.ddiv (FP.i2d uk) 4652218415073722368)), .second, .val (.double (FP.ddiv (FP.i2d um) 4652218415073722368)), .second, .val (.int ui), .val (.int rp62), .val (.long ex), .second, .val (.int rf), .val (.long rm), .second, .val (.int el), .val (.ref o)]) rfl ?_
  refine g_aload Xp127 hx hby at_132 (pc' := 134) rfl rfl rfl ?_
  refine g_virtual Xp127 hx hby hZ hown hml rfl (hw _ (List.mem_of_getElem? (i := 64) rfl)) (hw _ (List.mem_of_getElem? (i := 48) rfl)) (hw _ (List.mem_of_getElem? (i := 50) rfl)) (hw _ (List.mem_of_getElem? (i := 49) rfl)) (hw _ (List.mem_of_getElem? (i := 9) rfl)) (hw _ (List.mem_of_getElem? (i := 51) rfl)) (by decide) rfl (rm6 l Z a0 hw o rp5 (FP.ddiv (FP.i2d uk) 4652218415073722368) (rp5.toInt.toNat * uk.toInt.toNat) Tp127.heap Fpp127 Fcp127 hnn hp hN) pd___I_154 E_op127 (argsL := []) (rest := []) rfl rfl rfl at_134 (pc' := 137) rfl (by decide) (Nat.le_of_ble_eq_true rfl) (by decide) (by decide) ?_
  intro Tp134 vp134 Lp134 Xp134 qp134
  obtain ⟨⟨rp134, rfl, h_rp134⟩, ep134, rfl⟩ := qp134
  rw [List.append_nil] at Xp134
  replace Xp134 : Stand p l e room_1 s m _ below meth c Tp134 _ 13 274 := Xp134
  show Go p e below EF (Q0 n0) m Tp134 137 #[.val (.int ux), .val (.int ua), .val (.int ub), .val (.int uc), .val (.int ud), .val (.int uf), .val (.int rp5), .val (.int uk), .val (.int um), .val (.double (FP.ddiv (FP.i2d uk) 4652218415073722368)), .second, .val (.double (FP.ddiv (FP.i2d um) 4652218415073722368)), .second, .val (.int ui), .val (.int rp62), .val (.long ex), .second, .val (.int rf), .val (.long rm), .second, .val (.int el), .val (.ref o)] [(.int rp134)]
  refine g_iload Xp134 hx hby at_137 (pc' := 139) rfl rfl ?_
  refine g_icmpne Xp134 hx hby at_139 (pt := 146) (pf := 142) (by decide) (by decide) rfl (fun (h139 : ¬ rp134 = rf) => (by exfalso; exact h139 (Int32.toInt_inj.mp (by omega)))) (fun (h139 : rp134 = rf) => ?_)
  have h139i : rp134.toInt = rf.toInt := congrArg Int32.toInt h139
  refine g_iconst Xp134 hx hby at_142 (pc' := 143) rfl (n := (1 : Int32)) (by first | rfl | decide) ?_
  refine g_goto Xp134 hx hby at_143 (pc' := 147) (by decide) (by decide) ?_
  exact g_retZ Xp134 hx hby hF.fin (by rw [ep134]; exact (Nat.le_refl _)) hlk (Or.inr rfl) hret at_147 (by decide) (by decide) (⟨rfl, Np127⟩)
set_option maxRecDepth 65536 in
set_option maxHeartbeats 40000000 in
theorem comes_1 {Post : Tables → Env → Array Value → State → Outcome → State → Prop} (hpost : ∀ tb e args s v u, (limb_1_1.after args s (.returned v) u = true ∧ limb_1_2.after args s (.returned v) u = true ∧ True) → ReturnedEndW s (.returned v) u (Jvm.fieldLocs frame_1_writes args s ++ Jvm.arrayLocs frame_1_arrays args s ++ Jvm.staticLocs frame_1_statics s) 24 6272 → Post tb e args s (.returned v) u) :
    ArmFor flags0 classFile x code maxLocals ret World_1 tables_1 room_1 Calls_1 rest_1 Pre_1 Post := by
  intro l hfl _ _ p e ha hc hk s m args below hf hA hF happ hP
  obtain ⟨hcalls, hrest, hpre⟩ := hP
  obtain ⟨-, -, -, hnamed, -, -, -, hat⟩ := (Spec.applies_iff hf).mp happ
  obtain ⟨hg, hn⟩ := and_e (Cond.before_iff.mp (show (Jvm.Cond.and given_1 narrow_1).before args s = true from hpre))
  obtain ⟨g1, g2⟩ := and_e hg
  obtain ⟨g3, g4⟩ := and_e g2
  obtain ⟨g5, g6⟩ := and_e g4
  obtain ⟨g7, g8⟩ := and_e g6
  obtain ⟨g9, g10⟩ := and_e g8
  obtain ⟨g11, g12⟩ := and_e g10
  obtain ⟨w0, w1, w2, w3, w4, w5, rfl⟩ : ∃ w0 w1 w2 w3 w4 w5 : Value, args = #[w0, w1, w2, w3, w4, w5] := by
    have hs : args.size = 6 := by simpa [Cond.value, given_1] using g1
    obtain ⟨L⟩ := args
    match L, hs with
    | [w0, w1, w2, w3, w4, w5], _ => exact ⟨w0, w1, w2, w3, w4, w5, rfl⟩
  have hw := fun d (hd : d ∈ tables_1) => atoms_spec (ws := Jvm.Cond.code x code maxLocals ret :: tables_1) hat d (List.mem_cons_of_mem _ hd)
  have hfit : Fit s := fun {y c} hc i hi => by
    obtain ⟨ha, rfl⟩ := Array.getElem?_eq_some_iff.mp hc
    have q := List.all_eq_true.mp ((Array.all_eq_true_iff_forall_mem.mp hF) _ (Array.getElem_mem ha)) i (List.mem_range.mpr hi)
    simpa [Array.getElem?_eq_getElem hi] using q
  obtain ⟨i0, ei0⟩ := is_v g3
  obtain rfl : w0 = (.int i0) := Option.some.inj ei0
  obtain ⟨i1, ei1⟩ := is_v g5
  obtain rfl : w1 = (.int i1) := Option.some.inj ei1
  obtain ⟨i2, ei2⟩ := is_v g7
  obtain rfl : w2 = (.int i2) := Option.some.inj ei2
  obtain ⟨i3, ei3⟩ := is_v g9
  obtain rfl : w3 = (.int i3) := Option.some.inj ei3
  obtain ⟨i4, ei4⟩ := is_v g11
  obtain rfl : w4 = (.int i4) := Option.some.inj ei4
  obtain ⟨i5, ei5⟩ := is_v g12
  obtain rfl : w5 = (.int i5) := Option.some.inj ei5
  obtain ⟨n, o, h1, h2, h3, _, L, rfl, ⟨rfl, N⟩, hq⟩ := law0 l s _ hw tables_1 i0 i1 i2 i3 i4 i5 s.heap.size s.heap (Nat.le_refl _) p e ha hc hk s m _ below hf ((Spec.applies_iff_loose hf).mp happ).1 ⟨rfl, State.Warmed39.refl s, rfl⟩ trivial
  refine ⟨n, _, h1, h2, h3, hpost _ _ _ _ _ _ ⟨Cond.after_iff.mpr rfl, Cond.after_iff.mpr (eq_i res_at (Term.int_eval (1)) rfl), trivial⟩ ⟨hq.1, hq.2.1, hq.2.2.1, (hq.2.2.2.sift fun y hy => Or.inr (N y hy)).mono (by decide) (by decide)⟩⟩
theorem main_1_1 : Claimed_1_1 := comes_1 fun _ _ _ _ _ _ h hF => ⟨h.1, hF⟩
theorem main_1_2 : Claimed_1_2 := comes_1 fun _ _ _ _ _ _ h hF => ⟨h.2.1, hF⟩
end Jvm.Pilot.@@N@@
namespace Jvm.Pilot.@@N@@
open Jvm Jvm.ClassFile Sem Op Lib Jvm.Free Jvm.Stand Jvm.Pilot.@@N@@.Jvm.D
/-! MADE BY PROGRAM (witnessworld.py) out of the Statement's table words and the real class files: 17 classes; the members and pool entries that the words name. The judged class is class 1, her method 1. -/
namespace start1
open Jvm.ClassFile
def u (s : String) : CpInfo := .utf8 (stringToUtf16 s)
/-- a pool by its gaps: so many unusable entries, then the entry; so many at the end -/
def gap : Nat → List CpInfo → List CpInfo
  | 0, r => r
  | n + 1, r => .unusable :: gap n r
def poolList (es : List (Nat × CpInfo)) (last : Nat) : List CpInfo := es.foldr (fun e r => gap e.1 (e.2 :: r)) (gap last [])
def pool (es : List (Nat × CpInfo)) (last : Nat) : Array CpInfo := ⟨poolList es last⟩
def fileOf (pool : Array CpInfo) (this : Nat) (attrs : Array Attribute := #[]) (ms : Array MethodInfo := #[]) (fl : Nat := 33) (sup : Nat := 0) (ifs : Array Nat := #[]) (fds : Array FieldInfo := #[]) : ClassFile where
  minorVersion := 0
  majorVersion := 65
  constantPool := pool
  accessFlags := fl
  thisClass := this
  superClass := sup
  interfaces := ifs
  fields := fds
  methods := ms
  attributes := attrs
def plain (name : String) (sup : Option ClassId) : Class where
  name := name
  kind := .ordinary
  loader := none
  accessFlags := 33
  super := sup
  interfaces := #[]
  cf := none
  fields := #[]
  methods := #[]
  instanceTypes := #[]
  staticTypes := #[]
  resolved := #[]
  callSites := []
  init := .initialized
  statics := none
  mirror := none

def pool0 : Array CpInfo := pool [(5, u "<init>"), (0, u "()V"), (1, .class_ 10), (1, u "java/lang/Object")] 113

def k0c0 : Code := { maxStack := 0, maxLocals := 1, code := object_method_1_code, exceptionTable := #[], attributes := #[] }
def k0m0 : Method := { name := "<init>", desc := "()V", sig := { parameters := [], returnType := none }, accessFlags := 1, code := some k0c0 }
/-- java/lang/Object -/
def k0 : Class := { plain "java/lang/Object" none with
  accessFlags := 33
  interfaces := #[]
  cf := some (fileOf pool0 8 #[] #[{ accessFlags := 1, nameIndex := 5, descriptorIndex := 6, attributes := #[] }] 33 0 #[] #[])
  fields := #[]
  methods := #[k0m0]
  instanceTypes := #[]
  staticTypes := #[]
  resolved := Array.replicate 124 none
  statics := none }

def pool1 : Array CpInfo := pool [(2, .class_ 4), (1, u "java/lang/Object"), (0, u "<init>"), (0, u "()V"), (0, .integer 2147483647), (0, .methodref 9 10), (0, .class_ 11), (0, .nameAndType 12 13), (0, u "java/lang/Math"), (0, u "max"), (0, u "(II)I"), (0, .double 4652218415073722368), (1, .long 512), (1, .class_ 19), (0, u "com/example/ergorota/ergorota/engine/SearchSettings"), (0, .methodref 18 21), (0, .nameAndType 5 22), (0, u "(IIDDII)V"), (0, .methodref 18 24), (0, .nameAndType 25 26), (0, u "children"), (0, u "()I"), (0, .class_ 28), (0, u "com/example/ergorota/ergorota/engine/SearchSettingsChildrenPinLaw"), (2, u "law"), (0, u "(IIIIII)Z")] 3

def k1m0 : Method := { name := "<init>", desc := "()V", sig := { parameters := [], returnType := none }, accessFlags := 1, code := none }
def k1c1 : Code := { maxStack := 10, maxLocals := 22, code := code, exceptionTable := #[], attributes := #[] }
def k1m1 : Method := { name := "law", desc := "(IIIIII)Z", sig := { parameters := [.int, .int, .int, .int, .int, .int], returnType := some .boolean }, accessFlags := 9, code := some k1c1 }
/-- com/example/ergorota/ergorota/engine/SearchSettingsChildrenPinLaw -/
def k1 : Class := { plain "com/example/ergorota/ergorota/engine/SearchSettingsChildrenPinLaw" (some 0) with
  accessFlags := 49
  interfaces := #[]
  cf := some (fileOf pool1 27 #[] #[{ accessFlags := 1, nameIndex := 5, descriptorIndex := 6, attributes := #[] }, { accessFlags := 9, nameIndex := 31, descriptorIndex := 32, attributes := #[] }] 49 2 #[] #[])
  fields := #[]
  methods := #[k1m0, k1m1]
  instanceTypes := #[]
  staticTypes := #[]
  resolved := Array.replicate 36 none
  statics := none }

def pool2 : Array CpInfo := pool [(1, .class_ 2), (0, u "java/lang/Math"), (1, .class_ 6), (1, u "java/lang/Object"), (0, u "<init>"), (0, u "()V"), (70, .methodref 80 81), (0, .class_ 82), (0, .nameAndType 83 84), (0, u "java/lang/Double"), (0, u "doubleToRawLongBits"), (0, u "(D)J"), (2, .long 9218868437227405312), (1, .long 1074), (1, .long 18446744073709551552), (1, .long 4503599627370495), (1, .long 4503599627370496), (2, .class_ 100), (1, u "java/lang/Math$RandomNumberGeneratorHolder"), (71, u "negativeZeroFloatBits"), (0, u "J"), (2, u "negativeZeroDoubleBits"), (21, u "max"), (46, u "$assertionsDisabled"), (0, u "Z"), (88, u "(II)I"), (2, u "twoToTheDoubleScaleDown"), (0, u "D"), (4, u "twoToTheDoubleScaleUp"), (9, u "E"), (3, u "PI"), (2, u "TAU"), (2, u "DEGREES_TO_RADIANS"), (0, u "RADIANS_TO_DEGREES"), (17, u "round")] 76

def k2m0 : Method := { name := "<init>", desc := "()V", sig := { parameters := [], returnType := none }, accessFlags := 2, code := none }
def k2c1 : Code := { maxStack := 4, maxLocals := 10, code := jdk_29_method_22_code, exceptionTable := #[], attributes := #[] }
def k2m1 : Method := { name := "round", desc := "(D)J", sig := { parameters := [.double], returnType := some .long }, accessFlags := 9, code := some k2c1 }
def k2c2 : Code := { maxStack := 2, maxLocals := 2, code := jdk_29_method_65_code, exceptionTable := #[], attributes := #[] }
def k2m2 : Method := { name := "max", desc := "(II)I", sig := { parameters := [.int, .int], returnType := some .int }, accessFlags := 9, code := some k2c2 }
/-- java/lang/Math -/
def k2 : Class := { plain "java/lang/Math" (some 0) with
  accessFlags := 49
  interfaces := #[]
  cf := some (fileOf pool2 1 #[.nestMembers #[98]] #[{ accessFlags := 2, nameIndex := 7, descriptorIndex := 8, attributes := #[] }, { accessFlags := 9, nameIndex := 383, descriptorIndex := 84, attributes := #[] }, { accessFlags := 9, nameIndex := 198, descriptorIndex := 335, attributes := #[] }] 49 4 #[] #[{ accessFlags := 25, nameIndex := 354, descriptorIndex := 339, attributes := #[] }, { accessFlags := 25, nameIndex := 358, descriptorIndex := 339, attributes := #[] }, { accessFlags := 25, nameIndex := 361, descriptorIndex := 339, attributes := #[] }, { accessFlags := 26, nameIndex := 364, descriptorIndex := 339, attributes := #[] }, { accessFlags := 26, nameIndex := 365, descriptorIndex := 339, attributes := #[] }, { accessFlags := 26, nameIndex := 172, descriptorIndex := 173, attributes := #[] }, { accessFlags := 26, nameIndex := 176, descriptorIndex := 173, attributes := #[] }, { accessFlags := 8, nameIndex := 344, descriptorIndex := 339, attributes := #[] }, { accessFlags := 8, nameIndex := 338, descriptorIndex := 339, attributes := #[] }, { accessFlags := 4120, nameIndex := 245, descriptorIndex := 246, attributes := #[] }])
  fields := #[{ name := "E", type := .double, accessFlags := 25, slot := 0, constantValue := 0 }, { name := "PI", type := .double, accessFlags := 25, slot := 1, constantValue := 0 }, { name := "TAU", type := .double, accessFlags := 25, slot := 2, constantValue := 0 }, { name := "DEGREES_TO_RADIANS", type := .double, accessFlags := 26, slot := 3, constantValue := 0 }, { name := "RADIANS_TO_DEGREES", type := .double, accessFlags := 26, slot := 4, constantValue := 0 }, { name := "negativeZeroFloatBits", type := .long, accessFlags := 26, slot := 5, constantValue := 0 }, { name := "negativeZeroDoubleBits", type := .long, accessFlags := 26, slot := 6, constantValue := 0 }, { name := "twoToTheDoubleScaleUp", type := .double, accessFlags := 8, slot := 7, constantValue := 0 }, { name := "twoToTheDoubleScaleDown", type := .double, accessFlags := 8, slot := 8, constantValue := 0 }, { name := "$assertionsDisabled", type := .boolean, accessFlags := 4120, slot := 9, constantValue := 0 }]
  methods := #[k2m0, k2m1, k2m2]
  instanceTypes := #[]
  staticTypes := #[.double, .double, .double, .double, .double, .long, .long, .double, .double, .boolean]
  resolved := Array.replicate 460 none
  statics := none }

def pool3 : Array CpInfo := pool [(1, .methodref 2 3), (0, .class_ 4), (0, .nameAndType 5 6), (0, u "java/lang/Object"), (0, u "<init>"), (0, u "()V"), (0, .string 8), (0, u "population"), (0, .methodref 10 11), (0, .class_ 12), (0, .nameAndType 13 14), (0, u "com/example/ergorota/ergorota/engine/SearchSettings"), (0, u "atLeast"), (0, u "(Ljava/lang/String;II)I"), (0, .fieldref 10 16), (0, .nameAndType 8 17), (0, u "I"), (0, .string 19), (0, u "elite"), (0, .fieldref 10 21), (0, .nameAndType 19 17), (0, .string 23), (0, u "crossover"), (0, .methodref 10 25), (0, .nameAndType 26 27), (0, u "share"), (0, u "(Ljava/lang/String;D)D"), (0, .fieldref 10 29), (0, .nameAndType 23 30), (0, u "D"), (0, .string 32), (0, u "mutation"), (0, .fieldref 10 34), (0, .nameAndType 32 30), (0, .string 36), (0, u "mutation intensity"), (0, .fieldref 10 38), (0, .nameAndType 39 17), (0, u "mutationIntensity"), (0, .string 41), (0, u "generations"), (0, .fieldref 10 43), (0, .nameAndType 41 17), (0, .methodref 10 45), (0, .nameAndType 46 47), (0, u "children"), (0, u "()I"), (15, u "(IIDDII)V"), (0, .methodref 65 66), (0, .class_ 67), (0, .nameAndType 68 69), (0, u "java/lang/Math"), (0, u "round"), (0, u "(D)J"), (6, u "DEFAULT_POPULATION"), (2, u "DEFAULT_ELITE"), (1, u "DEFAULT_CROSSOVER"), (0, u "DEFAULT_MUTATION"), (0, u "DEFAULT_MUTATION_INTENSITY"), (1, u "DEFAULT_GENERATIONS")] 29

def k3c0 : Code := { maxStack := 5, maxLocals := 9, code := prog_29_method_1_code, exceptionTable := #[], attributes := #[] }
def k3m0 : Method := { name := "<init>", desc := "(IIDDII)V", sig := { parameters := [.int, .int, .double, .double, .int, .int], returnType := none }, accessFlags := 1, code := some k3c0 }
def k3c1 : Code := { maxStack := 4, maxLocals := 1, code := prog_29_method_9_code, exceptionTable := #[], attributes := #[] }
def k3m1 : Method := { name := "children", desc := "()I", sig := { parameters := [], returnType := some .int }, accessFlags := 0, code := some k3c1 }
def k3c2 : Code := { maxStack := 5, maxLocals := 3, code := prog_29_method_11_code, exceptionTable := #[], attributes := #[] }
def k3m2 : Method := { name := "atLeast", desc := "(Ljava/lang/String;II)I", sig := { parameters := [(.object "java/lang/String"), .int, .int], returnType := some .int }, accessFlags := 10, code := some k3c2 }
def k3c3 : Code := { maxStack := 5, maxLocals := 3, code := prog_29_method_12_code, exceptionTable := #[], attributes := #[] }
def k3m3 : Method := { name := "share", desc := "(Ljava/lang/String;D)D", sig := { parameters := [(.object "java/lang/String"), .double], returnType := some .double }, accessFlags := 10, code := some k3c3 }
/-- com/example/ergorota/ergorota/engine/SearchSettings -/
def k3 : Class := { plain "com/example/ergorota/ergorota/engine/SearchSettings" (some 0) with
  accessFlags := 49
  interfaces := #[]
  cf := some (fileOf pool3 10 #[] #[{ accessFlags := 1, nameIndex := 5, descriptorIndex := 63, attributes := #[] }, { accessFlags := 0, nameIndex := 46, descriptorIndex := 47, attributes := #[] }, { accessFlags := 10, nameIndex := 13, descriptorIndex := 14, attributes := #[] }, { accessFlags := 10, nameIndex := 26, descriptorIndex := 27, attributes := #[] }] 49 2 #[] #[{ accessFlags := 25, nameIndex := 76, descriptorIndex := 17, attributes := #[] }, { accessFlags := 25, nameIndex := 79, descriptorIndex := 17, attributes := #[] }, { accessFlags := 25, nameIndex := 81, descriptorIndex := 30, attributes := #[] }, { accessFlags := 25, nameIndex := 82, descriptorIndex := 30, attributes := #[] }, { accessFlags := 25, nameIndex := 83, descriptorIndex := 17, attributes := #[] }, { accessFlags := 25, nameIndex := 85, descriptorIndex := 17, attributes := #[] }, { accessFlags := 18, nameIndex := 8, descriptorIndex := 17, attributes := #[] }, { accessFlags := 18, nameIndex := 19, descriptorIndex := 17, attributes := #[] }, { accessFlags := 18, nameIndex := 23, descriptorIndex := 30, attributes := #[] }, { accessFlags := 18, nameIndex := 32, descriptorIndex := 30, attributes := #[] }, { accessFlags := 18, nameIndex := 39, descriptorIndex := 17, attributes := #[] }, { accessFlags := 18, nameIndex := 41, descriptorIndex := 17, attributes := #[] }])
  fields := #[{ name := "DEFAULT_POPULATION", type := .int, accessFlags := 25, slot := 0, constantValue := 0 }, { name := "DEFAULT_ELITE", type := .int, accessFlags := 25, slot := 1, constantValue := 0 }, { name := "DEFAULT_CROSSOVER", type := .double, accessFlags := 25, slot := 2, constantValue := 0 }, { name := "DEFAULT_MUTATION", type := .double, accessFlags := 25, slot := 3, constantValue := 0 }, { name := "DEFAULT_MUTATION_INTENSITY", type := .int, accessFlags := 25, slot := 4, constantValue := 0 }, { name := "DEFAULT_GENERATIONS", type := .int, accessFlags := 25, slot := 5, constantValue := 0 }, { name := "population", type := .int, accessFlags := 18, slot := 0, constantValue := 0 }, { name := "elite", type := .int, accessFlags := 18, slot := 1, constantValue := 0 }, { name := "crossover", type := .double, accessFlags := 18, slot := 2, constantValue := 0 }, { name := "mutation", type := .double, accessFlags := 18, slot := 3, constantValue := 0 }, { name := "mutationIntensity", type := .int, accessFlags := 18, slot := 4, constantValue := 0 }, { name := "generations", type := .int, accessFlags := 18, slot := 5, constantValue := 0 }]
  methods := #[k3m0, k3m1, k3m2, k3m3]
  instanceTypes := #[.int, .int, .double, .double, .int, .int]
  staticTypes := #[.int, .int, .double, .double, .int, .int]
  resolved := Array.replicate 115 none
  statics := none }

def pool4 : Array CpInfo := pool [(1, .class_ 2), (0, u "java/io/Serializable"), (0, .class_ 4), (0, u "java/lang/Object")] 2

/-- java/io/Serializable -/
def k4 : Class := { plain "java/io/Serializable" (some 0) with
  accessFlags := 1537
  interfaces := #[]
  cf := some (fileOf pool4 1 #[] #[] 1537 3 #[] #[])
  fields := #[]
  methods := #[]
  instanceTypes := #[]
  staticTypes := #[]
  resolved := Array.replicate 7 none
  statics := none }

def pool5 : Array CpInfo := pool [(1, .class_ 2), (0, u "java/lang/Comparable"), (0, .class_ 4), (0, u "java/lang/Object")] 7

/-- java/lang/Comparable -/
def k5 : Class := { plain "java/lang/Comparable" (some 0) with
  accessFlags := 1537
  interfaces := #[]
  cf := some (fileOf pool5 1 #[] #[] 1537 3 #[] #[])
  fields := #[]
  methods := #[]
  instanceTypes := #[]
  staticTypes := #[]
  resolved := Array.replicate 12 none
  statics := none }

def pool6 : Array CpInfo := pool [(2, .class_ 4), (1, u "java/lang/CharSequence"), (42, .class_ 48), (0, u "java/lang/CharSequence$1CodePointIterator"), (10, .class_ 60), (0, u "java/lang/CharSequence$1CharIterator"), (5, .class_ 67), (0, u "java/lang/Object")] 63

/-- java/lang/CharSequence -/
def k6 : Class := { plain "java/lang/CharSequence" (some 0) with
  accessFlags := 1537
  interfaces := #[]
  cf := some (fileOf pool6 2 #[.nestMembers #[47, 59]] #[] 1537 66 #[] #[])
  fields := #[]
  methods := #[]
  instanceTypes := #[]
  staticTypes := #[]
  resolved := Array.replicate 131 none
  statics := none }

def pool7 : Array CpInfo := pool [(1, .class_ 2), (0, u "java/lang/constant/Constable"), (0, .class_ 4), (0, u "java/lang/Object")] 6

/-- java/lang/constant/Constable -/
def k7 : Class := { plain "java/lang/constant/Constable" (some 0) with
  accessFlags := 1537
  interfaces := #[]
  cf := some (fileOf pool7 1 #[] #[] 1537 3 #[] #[])
  fields := #[]
  methods := #[]
  instanceTypes := #[]
  staticTypes := #[]
  resolved := Array.replicate 11 none
  statics := none }

def pool8 : Array CpInfo := pool [(1, .class_ 2), (0, u "java/lang/constant/ConstantDesc"), (0, .class_ 4), (0, u "java/lang/Object")] 32

/-- java/lang/constant/ConstantDesc -/
def k8 : Class := { plain "java/lang/constant/ConstantDesc" (some 0) with
  accessFlags := 1537
  interfaces := #[]
  cf := some (fileOf pool8 1 #[] #[] 1537 3 #[] #[])
  fields := #[]
  methods := #[]
  instanceTypes := #[]
  staticTypes := #[]
  resolved := Array.replicate 37 none
  statics := none }

def pool9 : Array CpInfo := pool [(2, .class_ 4), (1, u "java/lang/Object"), (0, u "<init>"), (0, u "()V"), (3, .class_ 12), (1, u "java/lang/String"), (0, u "value"), (0, u "[B"), (2, u "coder"), (0, u "B"), (2, u "hash"), (0, u "I"), (2, u "hashIsZero"), (0, u "Z"), (13, u "COMPACT_STRINGS"), (534, .class_ 576), (0, u "java/lang/CharSequence"), (22, u "CASE_INSENSITIVE_ORDER"), (0, u "Ljava/util/Comparator;"), (500, u "serialPersistentFields"), (0, u "[Ljava/io/ObjectStreamField;"), (0, .class_ 1104), (0, u "java/lang/String$CaseInsensitiveComparator"), (1, .class_ 1107), (0, u "java/io/Serializable"), (0, .class_ 1109), (0, u "java/lang/Comparable"), (0, .class_ 1111), (0, u "java/lang/constant/Constable"), (0, .class_ 1113), (0, u "java/lang/constant/ConstantDesc"), (2, u "serialVersionUID"), (0, u "J"), (3, u "REPL"), (0, u "C"), (2, u "LATIN1"), (1, u "UTF16")] 323

def k9m0 : Method := { name := "<init>", desc := "()V", sig := { parameters := [], returnType := none }, accessFlags := 1, code := none }
/-- java/lang/String -/
def k9 : Class := { plain "java/lang/String" (some 0) with
  accessFlags := 49
  interfaces := #[4, 5, 6, 7, 8]
  cf := some (fileOf pool9 10 #[.nestMembers #[1103]] #[{ accessFlags := 1, nameIndex := 5, descriptorIndex := 6, attributes := #[] }] 49 2 #[1106, 1108, 575, 1110, 1112] #[{ accessFlags := 18, nameIndex := 13, descriptorIndex := 14, attributes := #[] }, { accessFlags := 18, nameIndex := 17, descriptorIndex := 18, attributes := #[] }, { accessFlags := 2, nameIndex := 21, descriptorIndex := 22, attributes := #[] }, { accessFlags := 2, nameIndex := 25, descriptorIndex := 26, attributes := #[] }, { accessFlags := 26, nameIndex := 1116, descriptorIndex := 1117, attributes := #[] }, { accessFlags := 24, nameIndex := 40, descriptorIndex := 26, attributes := #[] }, { accessFlags := 26, nameIndex := 1101, descriptorIndex := 1102, attributes := #[] }, { accessFlags := 26, nameIndex := 1121, descriptorIndex := 1122, attributes := #[] }, { accessFlags := 25, nameIndex := 599, descriptorIndex := 600, attributes := #[] }, { accessFlags := 24, nameIndex := 1125, descriptorIndex := 18, attributes := #[] }, { accessFlags := 24, nameIndex := 1127, descriptorIndex := 18, attributes := #[] }])
  fields := #[{ name := "value", type := (.array .byte), accessFlags := 18, slot := 0, constantValue := 0 }, { name := "coder", type := .byte, accessFlags := 18, slot := 1, constantValue := 0 }, { name := "hash", type := .int, accessFlags := 2, slot := 2, constantValue := 0 }, { name := "hashIsZero", type := .boolean, accessFlags := 2, slot := 3, constantValue := 0 }, { name := "serialVersionUID", type := .long, accessFlags := 26, slot := 0, constantValue := 0 }, { name := "COMPACT_STRINGS", type := .boolean, accessFlags := 24, slot := 1, constantValue := 0 }, { name := "serialPersistentFields", type := (.array (.object "java/io/ObjectStreamField")), accessFlags := 26, slot := 2, constantValue := 0 }, { name := "REPL", type := .char, accessFlags := 26, slot := 3, constantValue := 0 }, { name := "CASE_INSENSITIVE_ORDER", type := (.object "java/util/Comparator"), accessFlags := 25, slot := 4, constantValue := 0 }, { name := "LATIN1", type := .byte, accessFlags := 24, slot := 5, constantValue := 0 }, { name := "UTF16", type := .byte, accessFlags := 24, slot := 6, constantValue := 0 }]
  methods := #[k9m0]
  instanceTypes := #[(.array .byte), .byte, .int, .boolean]
  staticTypes := #[.long, .boolean, (.array (.object "java/io/ObjectStreamField")), .char, (.object "java/util/Comparator"), .byte, .byte]
  resolved := Array.replicate 1451 none
  statics := none }

def pool10 : Array CpInfo := pool [(2, .class_ 4), (1, u "java/lang/Object"), (0, u "<init>"), (0, u "()V"), (1, .class_ 10), (1, u "java/lang/Number"), (2, .class_ 14), (0, u "java/io/Serializable"), (0, u "serialVersionUID"), (0, u "J")] 20

def k10m0 : Method := { name := "<init>", desc := "()V", sig := { parameters := [], returnType := none }, accessFlags := 1, code := none }
/-- java/lang/Number -/
def k10 : Class := { plain "java/lang/Number" (some 0) with
  accessFlags := 1057
  interfaces := #[4]
  cf := some (fileOf pool10 8 #[] #[{ accessFlags := 1, nameIndex := 5, descriptorIndex := 6, attributes := #[] }] 1057 2 #[13] #[{ accessFlags := 26, nameIndex := 15, descriptorIndex := 16, attributes := #[] }])
  fields := #[{ name := "serialVersionUID", type := .long, accessFlags := 26, slot := 0, constantValue := 0 }]
  methods := #[k10m0]
  instanceTypes := #[]
  staticTypes := #[.long]
  resolved := Array.replicate 37 none
  statics := none }

def pool11 : Array CpInfo := pool [(1, .class_ 2), (0, u "java/lang/Double"), (46, u "(D)J"), (64, .class_ 116), (1, u "java/lang/Number"), (3, u "value"), (0, u "D"), (14, u "doubleToRawLongBits"), (36, u "TYPE"), (0, u "Ljava/lang/Class;"), (0, .class_ 176), (0, u "java/lang/Comparable"), (0, .class_ 178), (0, u "java/lang/constant/Constable"), (0, .class_ 180), (0, u "java/lang/constant/ConstantDesc"), (0, u "POSITIVE_INFINITY"), (3, u "NEGATIVE_INFINITY"), (2, u "NaN"), (2, u "MAX_VALUE"), (0, u "MIN_NORMAL"), (0, u "MIN_VALUE"), (2, u "SIZE"), (0, u "I"), (1, u "PRECISION"), (1, u "MAX_EXPONENT"), (1, u "MIN_EXPONENT"), (1, u "BYTES"), (3, u "serialVersionUID"), (0, u "J")] 79

def k11m0 : Method := { name := "doubleToRawLongBits", desc := "(D)J", sig := { parameters := [.double], returnType := some .long }, accessFlags := 265, code := none }
/-- java/lang/Double -/
def k11 : Class := { plain "java/lang/Double" (some 10) with
  accessFlags := 49
  interfaces := #[5, 7, 8]
  cf := some (fileOf pool11 1 #[] #[{ accessFlags := 265, nameIndex := 136, descriptorIndex := 49, attributes := #[] }] 49 114 #[175, 177, 179] #[{ accessFlags := 25, nameIndex := 181, descriptorIndex := 121, attributes := #[] }, { accessFlags := 25, nameIndex := 185, descriptorIndex := 121, attributes := #[] }, { accessFlags := 25, nameIndex := 188, descriptorIndex := 121, attributes := #[] }, { accessFlags := 25, nameIndex := 191, descriptorIndex := 121, attributes := #[] }, { accessFlags := 25, nameIndex := 192, descriptorIndex := 121, attributes := #[] }, { accessFlags := 25, nameIndex := 193, descriptorIndex := 121, attributes := #[] }, { accessFlags := 25, nameIndex := 196, descriptorIndex := 197, attributes := #[] }, { accessFlags := 25, nameIndex := 199, descriptorIndex := 197, attributes := #[] }, { accessFlags := 25, nameIndex := 201, descriptorIndex := 197, attributes := #[] }, { accessFlags := 25, nameIndex := 203, descriptorIndex := 197, attributes := #[] }, { accessFlags := 25, nameIndex := 205, descriptorIndex := 197, attributes := #[] }, { accessFlags := 25, nameIndex := 173, descriptorIndex := 174, attributes := #[] }, { accessFlags := 18, nameIndex := 120, descriptorIndex := 121, attributes := #[] }, { accessFlags := 26, nameIndex := 209, descriptorIndex := 210, attributes := #[] }])
  fields := #[{ name := "POSITIVE_INFINITY", type := .double, accessFlags := 25, slot := 0, constantValue := 0 }, { name := "NEGATIVE_INFINITY", type := .double, accessFlags := 25, slot := 1, constantValue := 0 }, { name := "NaN", type := .double, accessFlags := 25, slot := 2, constantValue := 0 }, { name := "MAX_VALUE", type := .double, accessFlags := 25, slot := 3, constantValue := 0 }, { name := "MIN_NORMAL", type := .double, accessFlags := 25, slot := 4, constantValue := 0 }, { name := "MIN_VALUE", type := .double, accessFlags := 25, slot := 5, constantValue := 0 }, { name := "SIZE", type := .int, accessFlags := 25, slot := 6, constantValue := 0 }, { name := "PRECISION", type := .int, accessFlags := 25, slot := 7, constantValue := 0 }, { name := "MAX_EXPONENT", type := .int, accessFlags := 25, slot := 8, constantValue := 0 }, { name := "MIN_EXPONENT", type := .int, accessFlags := 25, slot := 9, constantValue := 0 }, { name := "BYTES", type := .int, accessFlags := 25, slot := 10, constantValue := 0 }, { name := "TYPE", type := (.object "java/lang/Class"), accessFlags := 25, slot := 11, constantValue := 0 }, { name := "value", type := .double, accessFlags := 18, slot := 0, constantValue := 0 }, { name := "serialVersionUID", type := .long, accessFlags := 26, slot := 12, constantValue := 0 }]
  methods := #[k11m0]
  instanceTypes := #[.double]
  staticTypes := #[.double, .double, .double, .double, .double, .double, .int, .int, .int, .int, .int, (.object "java/lang/Class"), .long]
  resolved := Array.replicate 290 none
  statics := none }

def pool12 : Array CpInfo := pool [(1, u "java/lang/Cloneable"), (0, .class_ 1), (0, u "java/lang/Object"), (0, .class_ 3)] 3

/-- java/lang/Cloneable -/
def k12 : Class := { plain "java/lang/Cloneable" (some 0) with
  accessFlags := 1537
  interfaces := #[]
  cf := some (fileOf pool12 2 #[] #[] 1537 4 #[] #[])
  fields := #[]
  methods := #[]
  instanceTypes := #[]
  staticTypes := #[]
  resolved := Array.replicate 8 none
  statics := none }

/-- the primitive byte -/
def k13 : Class := { plain "byte" none with kind := .primitive 'B', accessFlags := 0x411 }
/-- [B -/
def k14 : Class := { plain "[B" (some 0) with kind := .array 13 .byte, interfaces := #[12, 4], accessFlags := 1041 }

/-- the primitive int -/
def k15 : Class := { plain "int" none with kind := .primitive 'I', accessFlags := 0x411 }
/-- [I -/
def k16 : Class := { plain "[I" (some 0) with kind := .array 15 .int, interfaces := #[12, 4], accessFlags := 1041 }

def heap : Heap := #[]
def classes : Array Class := #[k0, k1, k2, k3, k4, k5, k6, k7, k8, k9, k10, k11, k12, k13, k14, k15, k16]
def interned : List (Array UInt16 × Addr) := []
def slotsUsed : Nat := 0
def theMethod : MethodId := ⟨1, 1⟩
def args0 : Array Value := #[.int 5, .int 7, .int 1, .int 9, .int 3, .int 2]
def aboutOver (below : List Frame) : State where
  vm := { classes := classes, interned := interned.toArray }
  heap := heap
  slotsUsed := slotsUsed
  threads := #[{ frames := .invoking theMethod args0 :: below }]
def below0 : List Frame := [.native { method := ⟨0, 0⟩, args := #[] }]
def about1 : State := aboutOver below0
def p0 : Program := .bare "" "" ""
def e0 : Env := launch0.env 0 0 0
theorem w_frames : about1.frames = Frame.invoking theMethod args0 :: below0 := rfl
set_option maxRecDepth 65536 in
theorem w_args : argsFit about1.vm theMethod args0 = true := by decide +kernel
set_option maxRecDepth 65536 in
theorem w_heap : heapFits about1 = true := by decide +kernel
set_option maxRecDepth 65536 in
theorem w_runnable : about1.curStatus? = some .runnable := by decide +kernel
set_option maxRecDepth 65536 in
theorem w_alone : about1.alone = true := by decide +kernel
set_option maxRecDepth 65536 in
theorem w_named : about1.methodNamed? x = some theMethod := by decide +kernel
set_option maxRecDepth 65536 in
theorem w_hears : about1.hears theMethod below0 = true := by decide +kernel
set_option maxRecDepth 65536 in
theorem w_ripe : about1.ripe theMethod args0 below0 = true := by decide +kernel
theorem w_running : about1.status = .running := rfl
set_option maxRecDepth 65536 in
theorem w_room : about1.hasRoom e0.platform room_1 = true :=
  launch0.hasRoom_least _ room_1 (by decide +kernel) (by decide +kernel) (by decide +kernel) (by decide +kernel) (by decide +kernel) (by decide +kernel)
theorem allAtoms_all (ts : List Jvm.Cond) (a : Array Jvm.Value) (st : Jvm.State) : (allAtoms ts).before a st = ts.all (fun c => c.before a st) := by
  induction ts with
  | nil => rfl
  | cons c t ih =>
    show (Jvm.Cond.and c (allAtoms t)).before a st = _
    rw [Jvm.Cond.before_and, ih, List.all_cons]
def words1 : List Jvm.Cond := Jvm.Cond.code x code maxLocals ret :: tables_1
/-- a 'code' word, met by the world's own term for the bytes: nothing is compared byte by byte -/
theorem code_word {y : MethodName} {bytes : ByteArray} {mx : Nat} {rt : Option FieldType} {a : Array Value} {s : State} {m : MethodId} {meth : Method} {c : Code} (h1 : s.methodNamed? y = some m) (h2 : s.vm.method? m = some meth) (h3 : meth.code = some c) (h4 : c.code = bytes)
    (h5 : (c.maxLocals == mx && c.exceptionTable.isEmpty && decide (c.maxStack ≤ mostOperands) && decide (meth.sig.returnType = rt) && !meth.locks && decide (parseMethodDescriptor y.desc = some meth.sig)) = true) : (Jvm.Cond.code y bytes mx rt).before a s = true := by
  simp only [Bool.and_eq_true, beq_iff_eq, Bool.not_eq_true', decide_eq_true_eq] at h5
  obtain ⟨⟨⟨⟨⟨g1, g2⟩, g3⟩, g4⟩, g5⟩, g6⟩ := h5
  simp [Cond.before, Cond.holds, Cond.value, h1, h2, h3, h4, g1, g2, g3, g4, g5, g6]
def isCode : Jvm.Cond → Bool
  | .code _ _ _ _ => true
  | _ => false
theorem all_split {L : List Jvm.Cond} {P : Jvm.Cond → Bool} (h1 : L.all (fun c => isCode c || P c) = true) (h2 : ∀ c ∈ L.filter isCode, P c = true) : L.all P = true := by
  refine List.all_eq_true.mpr fun c hc => ?_
  have h := List.all_eq_true.mp h1 c hc
  rcases Bool.eq_false_or_eq_true (isCode c) with hi | hi
  · exact h2 c (List.mem_filter.mpr ⟨hc, hi⟩)
  · simpa [hi] using h
set_option maxRecDepth 65536 in
theorem w_c0 : (Jvm.Cond.code x code maxLocals ret).before args0 about1 = true := code_word (m := ⟨1, 1⟩) (meth := k1m1) (c := k1c1) (by decide +kernel) rfl rfl rfl (by decide +kernel)
set_option maxRecDepth 65536 in
theorem w_c1 : (Jvm.Cond.code ({ cls := "java/lang/Math", name := "max", desc := "(II)I" } : Jvm.MethodName) jdk_29_method_65_code (2 : Nat) (Option.some Jvm.ClassFile.FieldType.int)).before args0 about1 = true := code_word (m := ⟨2, 2⟩) (meth := k2m2) (c := k2c2) (by decide +kernel) rfl rfl rfl (by decide +kernel)
set_option maxRecDepth 65536 in
theorem w_c2 : (Jvm.Cond.code ({ cls := "com/example/ergorota/ergorota/engine/SearchSettings", name := "<init>", desc := "(IIDDII)V" } : Jvm.MethodName) prog_29_method_1_code (9 : Nat) (Option.none : Option Jvm.ClassFile.FieldType)).before args0 about1 = true := code_word (m := ⟨3, 0⟩) (meth := k3m0) (c := k3c0) (by decide +kernel) rfl rfl rfl (by decide +kernel)
set_option maxRecDepth 65536 in
theorem w_c3 : (Jvm.Cond.code ({ cls := "java/lang/Object", name := "<init>", desc := "()V" } : Jvm.MethodName) object_method_1_code (1 : Nat) (Option.none : Option Jvm.ClassFile.FieldType)).before args0 about1 = true := code_word (m := ⟨0, 0⟩) (meth := k0m0) (c := k0c0) (by decide +kernel) rfl rfl rfl (by decide +kernel)
set_option maxRecDepth 65536 in
theorem w_c4 : (Jvm.Cond.code ({ cls := "com/example/ergorota/ergorota/engine/SearchSettings", name := "atLeast", desc := "(Ljava/lang/String;II)I" } : Jvm.MethodName) prog_29_method_11_code (3 : Nat) (Option.some Jvm.ClassFile.FieldType.int)).before args0 about1 = true := code_word (m := ⟨3, 2⟩) (meth := k3m2) (c := k3c2) (by decide +kernel) rfl rfl rfl (by decide +kernel)
set_option maxRecDepth 65536 in
theorem w_c5 : (Jvm.Cond.code ({ cls := "com/example/ergorota/ergorota/engine/SearchSettings", name := "share", desc := "(Ljava/lang/String;D)D" } : Jvm.MethodName) prog_29_method_12_code (3 : Nat) (Option.some Jvm.ClassFile.FieldType.double)).before args0 about1 = true := code_word (m := ⟨3, 3⟩) (meth := k3m3) (c := k3c3) (by decide +kernel) rfl rfl rfl (by decide +kernel)
set_option maxRecDepth 65536 in
theorem w_c6 : (Jvm.Cond.code ({ cls := "com/example/ergorota/ergorota/engine/SearchSettings", name := "children", desc := "()I" } : Jvm.MethodName) prog_29_method_9_code (1 : Nat) (Option.some Jvm.ClassFile.FieldType.int)).before args0 about1 = true := code_word (m := ⟨3, 1⟩) (meth := k3m1) (c := k3c1) (by decide +kernel) rfl rfl rfl (by decide +kernel)
set_option maxRecDepth 65536 in
theorem w_c7 : (Jvm.Cond.code ({ cls := "java/lang/Math", name := "round", desc := "(D)J" } : Jvm.MethodName) jdk_29_method_22_code (10 : Nat) (Option.some Jvm.ClassFile.FieldType.long)).before args0 about1 = true := code_word (m := ⟨2, 1⟩) (meth := k2m1) (c := k2c1) (by decide +kernel) rfl rfl rfl (by decide +kernel)
def codes1 : List Jvm.Cond := [Jvm.Cond.code x code maxLocals ret, Jvm.Cond.code ({ cls := "java/lang/Math", name := "max", desc := "(II)I" } : Jvm.MethodName) jdk_29_method_65_code (2 : Nat) (Option.some Jvm.ClassFile.FieldType.int), Jvm.Cond.code ({ cls := "com/example/ergorota/ergorota/engine/SearchSettings", name := "<init>", desc := "(IIDDII)V" } : Jvm.MethodName) prog_29_method_1_code (9 : Nat) (Option.none : Option Jvm.ClassFile.FieldType), Jvm.Cond.code ({ cls := "java/lang/Object", name := "<init>", desc := "()V" } : Jvm.MethodName) object_method_1_code (1 : Nat) (Option.none : Option Jvm.ClassFile.FieldType), Jvm.Cond.code ({ cls := "com/example/ergorota/ergorota/engine/SearchSettings", name := "atLeast", desc := "(Ljava/lang/String;II)I" } : Jvm.MethodName) prog_29_method_11_code (3 : Nat) (Option.some Jvm.ClassFile.FieldType.int), Jvm.Cond.code ({ cls := "com/example/ergorota/ergorota/engine/SearchSettings", name := "share", desc := "(Ljava/lang/String;D)D" } : Jvm.MethodName) prog_29_method_12_code (3 : Nat) (Option.some Jvm.ClassFile.FieldType.double), Jvm.Cond.code ({ cls := "com/example/ergorota/ergorota/engine/SearchSettings", name := "children", desc := "()I" } : Jvm.MethodName) prog_29_method_9_code (1 : Nat) (Option.some Jvm.ClassFile.FieldType.int), Jvm.Cond.code ({ cls := "java/lang/Math", name := "round", desc := "(D)J" } : Jvm.MethodName) jdk_29_method_22_code (10 : Nat) (Option.some Jvm.ClassFile.FieldType.long)]
set_option maxRecDepth 65536 in
theorem codes_eq : words1.filter isCode = codes1 := rfl
theorem w_codes : ∀ c ∈ words1.filter isCode, c.before args0 about1 = true := by
  rw [codes_eq]
  intro c hc
  simp only [codes1, List.mem_cons, List.not_mem_nil, or_false] at hc
  rcases hc with rfl | rfl | rfl | rfl | rfl | rfl | rfl | rfl
  · exact w_c0
  · exact w_c1
  · exact w_c2
  · exact w_c3
  · exact w_c4
  · exact w_c5
  · exact w_c6
  · exact w_c7
set_option maxRecDepth 65536 in
theorem w_t1 : (words1.take 24).all (fun c => isCode c || c.before args0 about1) = true := by decide +kernel
set_option maxRecDepth 65536 in
theorem w_t2 : ((words1.drop 24).take 24).all (fun c => isCode c || c.before args0 about1) = true := by decide +kernel
set_option maxRecDepth 65536 in
theorem w_t3 : ((words1.drop 24).drop 24).all (fun c => isCode c || c.before args0 about1) = true := by decide +kernel
theorem w_tables : (allAtoms (Jvm.Cond.code x code maxLocals ret :: tables_1)).before args0 about1 = true := by
  rw [allAtoms_all]
  show words1.all (fun c => c.before args0 about1) = true
  refine all_split ?_ w_codes
  rw [← List.take_append_drop 24 words1, List.all_append, w_t1, ← List.take_append_drop 24 (words1.drop 24), List.all_append, w_t2, w_t3]
  rfl
set_option maxRecDepth 65536 in
theorem w_case : (Jvm.Cond.and given_1 narrow_1).before args0 about1 = true := by decide +kernel
theorem w_applies : (headSpec (Jvm.Cond.code x code maxLocals ret :: tables_1) room_1).applies x e0.platform about1 = true :=
  (Spec.applies_iff w_frames).mpr ⟨w_running, w_runnable, w_alone, w_named, w_hears, w_ripe, w_room, w_tables⟩
theorem atStart : AtStart classFile x code maxLocals ret World_1 tables_1 room_1 Calls_1 rest_1 Pre_1 launch0 p0 e0 about1 theMethod args0 below0 :=
  ⟨lists_1, trivial, launch0.admits_env _ _ _, launch0.least_env, fairChoices_fair.cas, fairChoices_fair.clock, w_frames, w_args, w_heap, w_applies, trivial, trivial, w_case⟩
end start1
theorem witness_1 : WitnessClaimed_1 := ⟨start1.p0, start1.e0, start1.about1, start1.theMethod, start1.args0, start1.below0, start1.atStart⟩
end Jvm.Pilot.@@N@@
